import PyProof.Rows.All
import Wide.All
import OpenK.AllK
import Wide.FinOn
import Lean
import PySem.Challenge.RW_uc0011_02
set_option autoImplicit false
set_option maxRecDepth 100000
set_option Elab.async false
set_option linter.all false
open Option.some renaming inj → Aa, injEq → Lx
open PySem renaming Shared → Ab, wpAny_bind → Ac, model → Af, wpAny_pure → Ak, Around → Al, wpAny → Am, Heap → Ap, builtinLookup_eq_fast → A1, wpAny_execs_cons → Bd, typeLookup_type → Bh, sizeLine_eq → Bm, wpAny_mono → Bq, wpAny_Name → Bt, Pos → Bz, wpAny_of_eq → B3, starEach → B6, compEnvC → B8, codeAny → Ca, wpAny_newObj_type → Cb, sliceBounds → Cj, wpAny_standAt → Ck, World → Cn, typeLookup → Cq, plainObj_wpAny_Assign_Attribute → Cy, NameKind → C8, wpAny_assign_Name → Di, seg_execs_nil → Dk, wpAny_Constant_str → Dp, seg_bind_wrap → Dt, Env → Dv, mem_of_lookup → D0, wpAny_specialOf → D1, Result → D3, attributeBase → D7, wpAny_holding → D9, foldedSetIterable → Ee, wpAny_loadPart_at → Ef, wpAny_execs_nil → Ei, seg_execs_cons → Ew, letOwnedTupleGo → E1, theTreesLotGoes → E2, codeAny_mono → E4, wpAny_newFunctionEnv → E5, bindArgs → E6, wpAny_comprehension_free → E7, relabel → Fb, wpAny_list_append_plain → Fe, wpAny_call_entry → Fg, isSubtype_type → Fh, entryFor_of_tree → Fi, subscripted → Fn, wpAny_Constant_int → Ft, notedBy → Fv, seqIndex? → F2, wpAny_isTrue_Compare1 → F3, wpAny_truthy_bool → F4, wpAny_Return_some → F6, wpAny_call → F8, lookup_relabel_local → Ga, newFunctionEnv → Gb, strIterType → Gd, execs → Ge, cellsFrom → Gl, sliceRange → Gx, pyNext → Gy, wpAny_rule → G1, wpAny_callSpecial?_slot → G5, GenState → G9, codeAny_compStart_list → Hd, wpAny_Assign_Name → Hf, rawInt → Hg, wpAny_allTrue_Or_cons → Hk, typeIs_str → Hp, pyIter → Hq, noteFrame → Hr, Operator → H0, wpAny_typeLookup_exc → H7, wpAny_isTrue_BoolOp → Ii, evalArgs_none → Ik, swapsWith → It, firstArgMember → Iw, getItem → I3, wpAny_field → Jb, behindInMarks → Je, wpAny_attempt → Jf, methodCallPos → Jg, inplaceOp → Jl, entryFor → Jn, Tok → Jr, IsPart → Js, backTo → Jt, operate → Jw, Call_method1 → Jy, assign → J1, getAttr → J2, defaultsOf → J3, Sem → Kf, slicePicked → Kj, wpAny_noted → Kl, compareOp → Ku, standAt → Kv, eval_ListComp → K8, wpAny_onRaise → K9, Builtin → La, isTrue → Lc, call_meets → Le, closureFor → Li, wpAny_load → Lk, frameCount → Ll, numAt → Lp, compTurn → Lq, newList → Lr, Flow → Ls, wpAny_If → Lu, Seg → L4, argsOk → L6, Model → L8
open Nat renaming le_trans → Ad, lt_succ_self → Bj, mod_lt → Bl, ne_of_lt → Bo, le_refl → Br, add_le_add_right → Bw, le_of_not_lt → Cg, le_of_lt → Ci, zero_add → Cp, le_of_eq → Cr, le_of_succ_le → Cv, zero_le → C0, add_assoc → C3, le_add_right → C6, add_le_add_left → Dc, min_eq_left → Dm, lt_of_le_of_lt → Dn, succ_le_succ → Dr, mul_le_mul_left → Dz, lt_of_lt_of_le → D5, mul_le_mul_right → Ed, le_add_left → Eg, add_comm → Ej, not_lt → Es, le_succ → Fq, sub_pos_of_lt → F7, lt_of_not_le → Gm, not_lt_zero → Gr, ble → Gs, add_sub_cancel_left → G4, succ_pos → G8, lt_of_succ_lt_succ → Ha, ne_of_gt → He, lt_succ_of_le → Hi, add_le_add → Hj, sub_le → Hn, not_lt_of_le → Ho, add_min_add_left → Ib, le_antisymm → Ic, min_le_left → Ig, add_right_comm → Iv, lt_succ_of_lt → I6, le_succ_of_le → I9, le_of_lt_succ → Jc, lt_irrefl → Jd, succ_ne_zero → Jm, min_le_right → Jo, le_of_succ_le_succ → Jz, le_of_ble_eq_true → J7, sub_eq_zero_of_le → Kc, add_min_add_right → Ke, not_succ_le_zero → Ks, add_add_add_comm → Kt, sub_self → Ly, min_self → Lz
open List renaming mem_singleton → Ae, length_append → Ah, mem_cons_self → Ai, mem_cons_of_mem → Aj, length_map → An, all_eq_true → Ao, not_mem_nil → Aq, mem_append_right → Ar, range → Au, getElem?_eq_getElem → Aw, mem_cons → Ax, replicate → Ay, mem_append_left → Az, size_toArray → A3, getD_eq_getElem?_getD → A4, drop_eq_getElem_cons → A5, lookup_cons → A7, map_map → A8, mem_append → Bb, getElem?_eq_some_iff → Bc, append_assoc → Bf, getElem?_map → Bi, length_drop → Bu, append_nil → Bv, contains_eq_mem → Bx, getElem?_set_ne → By, mem_singleton_self → B0, length → B2, getElem?_append_left → B4, mem_range → B5, cons_append → B9, length_cons → Cf, length_take → Cs, map_congr_left → Ct, flatten_append → Cu, getElem?_append_right → C1, mem_of_getElem? → C2, length_set → C5, filterMap_cons → Dd, replicate_succ → De, length_reverse → Dg, nodup_cons → Dl, map_cons → Ds, drop_zero → Dx, flatMap_cons → Dy, map_append → D2, getElem?_toArray → D4, map_take → Ea, eq_nil_of_length_eq_zero → Eb, drop_eq_nil_iff → Ec, toArray → Ek, getElem?_set_self → El, map_drop → En, nodup_nil → Er, length_replicate → E0, mem_flatMap → Fj, lookup → Fp, take_of_length_le → Fu, mem_map → Fy, foldl_cons → Fz, length_nil → F0, nil_append → F1, length_range → F5, range' → F9, mem_of_mem_take → Gi, filter_cons → Gk, length_flatten → Gn, eq_of_mem_replicate → Gq, forIn_cons → Gu, sum_append → Gv, zip_cons_cons → Gz, countP_append → G3, countP_cons_of_neg → G7, all_map → Hb, contains_iff_mem → Hm, drop_length → Hs, eq_nil_iff_forall_not_mem → Hv, range_eq_range' → H6, mem_of_mem_drop → Ia, of_mem_zip → Ie, map_eq_nil_iff → Il, drop_drop → Iy, nodup_append → I5, push_toArray → Ja, take_length → Jh, flatMap_def → Jp, countP_cons_of_pos → Jq, length_eq_one_iff → Ju, drop_eq_nil_of_le → J4, mem_filter → J5, length_filter_le → Kd, forall_mem_cons → Km, dropLast_concat → Ko, length_take_le' → Kq, take_zero → Kr, take_succ_cons → Kz, length_flatMap → K5, all_cons → K6, sum_cons → Lb, set_set → L0
open PySem.Heap renaming get?_push_of_some → Ag, get?_push_size → Av, lt_size → Bk, ExtBut → Co, size_push → Eu, get?_update_self → J9, get?_update_ne → Ky
open Option renaming bind_some → As, map_eq_some_iff → Bn, isSome_iff_exists → E8, bind_eq_some_iff → Fd, map → Hx, none → I1, map_some → J6
open Bool renaming and_eq_true → A0, and_eq_true_iff → A9, false_ne_true → Bp, not_eq_true' → Dj, false_eq_true → D6, or_eq_true → Eh, or_eq_false_iff → E3, false_and → Gf, true_and → Hz, and_true → K7
open PySem.Calls renaming Name_function_global → A6, spliced_cons → Ba, spliced_nil → B7, loadGlobal_builtin → Cz, loadGlobal_global → Dh, callWith_builtin → Dq, evalArgs_plain → Ey, docDef → Fx
open PySem.Env renaming kindOf → Be
open Prod.mk renaming inj → Bg
open ForInStep renaming yield → B1
open PySem.NameKind renaming free → Cd, cell → C4, noConfusion → H8
open PySem.Str renaming length → Ce
open PyProof.Rows renaming callWith_type1 → Cm, Call_Name → Eo, assignInOrder_cons → Et, Attribute_name → Gh, join_list → Hc, subscriptTail → Hy, methDefD → H9, IntsAre → Io, assignInOrder_nil → I4, callWith_def → Jx, iadd_int → J8, AllBare → Lm
open PySem.Builtin.Str renaming strSliceIndices → Cw, tooLong → Kw
open PySem.W renaming kms_lo → C7, kms_hi → Fs, tabObj → G2, CodeHd → L7
open Classical renaming byContradiction → C9, choose_spec → Kb
open Int renaming le_trans → Du, natCast_nonneg → Ep, ofNat_le → Gj, lt_of_le_of_lt → Gw, toNat_of_nonneg → Ih, le_of_lt → Ip, sub_nonneg_of_le → Kk, not_lt → Lg
open List.cons renaming inj → D8
open PySem.Sre renaming forSearch → Em, Frame → Iu
open PySem.F renaming slot_list_pop → Ez, plainAttrs_list → Ff, type_list_pop → Hl, plainAttrs_str → Ji, entry_list_pop → J0, mro_object → Lv
open PySem.Builtin.Int renaming intBits → E9
open PySem.Heap.SameBut renaming update → Fc
open Eq renaming symm → Fw
open Array renaming getElem?_eq_some_iff → Gg, length_toList → Ij, append_assoc → Ld
open PySem.Value.ref renaming inj → Gp
open PySem.ScopeKind renaming function → G0
open PySem.Within renaming cons → G6, of_none → I0
open PySem.IsL renaming update → Ht
open PySem.Value renaming ref → Hu, none → Hw
open Nat.succ renaming inj → Im
open PySem.Builtin.Range renaming rangeFitsLong → Iq, rangeSize → Jk, small → Kx
open Ne renaming symm → Ir
open PySem.Builtin.ObjectAttr renaming ownDict → Iz
open And renaming intro → Jj
open PyProof renaming noPylong_small → Jv
open Lean renaming Syntax → Kh, mkAtom → Ki
open Nat.le renaming dest → Kp
open PySem.Heap.IsSliceOf renaming new → Lh
open PySem.Expr.Constant renaming elim → Lj
open PySem.EqBoolInt renaming of_rcne → Ln
open PySem.StrLaws renaming found_one → Lo
open PySem.Stmt.Assign renaming elim → L5
open PySem.Expr.Slice renaming elim → L9
open PySem.SeqAt renaming EqAt → Ma
open PUnit renaming unit → Mb
namespace Internal
open PySem PySem.W PySem.Calls PyProof.Rows
set_option genSizeOf false
inductive PV where
 |none
 |bool (b:Bool)
 |int (i:Int)
 |str (s:List Nat)
 |list (l:List PV)
 |obj (v:Value)
 deriving Inhabited
noncomputable def PV.aZ:PV->Bool
 | .list _=>false
 |_=>true
mutual
inductive VR(h:Ap):PV->Value->List Addr->Prop
 |none:VR h .none .none []
 |bool (b:Bool):VR h (.bool b) (.bool b) []
 |int (i:Int) (t:Jr):VR h (.int i) (.int i t) []
 |str (x:List Nat) (t:Jr):VR h (.str x) (.str ⟨x.toArray⟩ t) []
 |obj (v:Value):VR h (.obj v) v []
 |list {a:Addr} {ps:List PV} {vs:List Value} {ns:List Addr}:h.PlainList a vs.toArray->ak h ps vs ns->VR h (.list ps) (.ref a) (a::ns)
inductive ak(h:Ap):List PV->List Value->List Addr->Prop
 |nil:ak h [] [] []
 |cons {p:PV} {v:Value} {n:List Addr} {ps:List PV} {vs:List Value} {ns:List Addr}:VR h p v n->ak h ps vs ns->ak h (p::ps) (v::vs) (n++ns)
end
noncomputable abbrev Sub(h h':Ap):Prop:=∀b o,h.get? b=some o->h'.get? b=some o
theorem nn{α:Type}{a:α}{G:Prop}(h:none=some a):G:=nomatch h
theorem sn{α:Type}{a:α}{G:Prop}(h:some a=none):G:=nomatch h
theorem ft{G:Prop}(h:false=true):G:=nomatch h
theorem UP{α:Type}{l:List α}(h:l.length=0):l=[]:=List.length_eq_zero_iff.mp h
theorem AD{α:Type}{l:List α}{n:Nat}(h:l.length=n+1):∃a r,l=a::r/\r.length=n:=by
 cases l with
 |nil=>cases h
 |cons a r=>exact⟨a,r,rfl,Im h⟩
theorem ti{α:Type}{l:List α}(h:l.length=1):∃a,l=[a]:=let⟨a,_,e,h⟩:=AD h;⟨a,UP h▸e⟩
theorem FG{α:Type}{l:List α}(h:l.length=2):∃a b,l=[a,b]:=let⟨a,_,e,h⟩:=AD h;(ti h).elim fun b q=>⟨a,b,q▸e⟩
theorem N5{α:Type}{l:List α}(h:l.length=3):∃a b c,l=[a,b,c]:=let⟨a,_,e,h⟩:=AD h;(FG h).elim fun b q=>q.elim fun c q=>⟨a,b,c,q▸e⟩
@[elab_as_elim] theorem uO {M:Nat->Prop} {n j:Nat} (h:j<n+1) (k:M n) (d:j<n->M j):M j:=(Nat.lt_succ_iff_lt_or_eq.mp h).elim d fun e=>e▸k
theorem ltZ{j:Nat}{P:Prop}(h:j<0):P:=(Gr _ h).elim
@[elab_as_elim] theorem UQ {M:Nat->Prop} {j:Nat} (h:j<3) (a:M 0) (b:M 1) (c:M 2):M j:=uO h c fun h=>uO h b fun h=>uO h a ltZ
@[elab_as_elim] theorem UR {M:Nat->Prop} {j:Nat} (h:j<4) (a:M 0) (b:M 1) (c:M 2) (d:M 3):M j:=uO h d fun h=>UQ h a b c
@[reducible] def tq (x:Kh):Kh:= .node .none (`Lean.Parser.Tactic.tacticSeq) #[.node .none (`Lean.Parser.Tactic.tacticSeq1Indented) #[Lean.mkNullNode #[x]]]
@[reducible] def tA:Kh:=tq (.node .none (`Lean.Parser.Tactic.withReducible) #[Ki "with_reducible",tq (.node .none (`Lean.Parser.Tactic.assumption) #[Ki "assumption"])])
@[reducible] def tR:Kh:=tq (.node .none (`Lean.Parser.Tactic.withUnfoldingAll) #[Ki "with_unfolding_all",tq (.node .none (`Lean.Parser.Tactic.tacticRfl) #[Ki "rfl"])])
theorem zB{a b c:Nat}(h:autoParam (a<=b) tA)(k:autoParam (Gs b c=true) tR):a<=c:=Ad h (J7 k)
theorem zC{a b c:Nat}(h:autoParam (a<b) tA)(k:autoParam (Gs b c=true) tR):a<=c:=zB (Ci h) k
theorem zH{a b c:Nat}(h:autoParam (a=b) tA)(k:autoParam (c<b) tA):c<a:=h▸k
theorem zJ{a b c:Nat}(h:autoParam (a=b) tA)(k:autoParam (b<=c) tA):a<=c:=h▸k
theorem zL{a b c k:Nat}(h:autoParam (a<=b) tA)(q:autoParam (Gs b c=true) tR):a-k<=c:=Ad (Hn _ _) (zB h q)
theorem zR{a b c d:Nat}(h:autoParam (a+b<=c) tA)(q:autoParam (Gs c d=true) tR):a<=d:=zB (Ad (C6 _ _) h) q
theorem zW{a b c:Nat}(h:autoParam (a+b<c) tA):a<c:=Dn (C6 _ _) h
theorem zY{a b c d:Nat}(h:autoParam (a+(b+c)<=d) tA):a+c+b<=d:=by rw[C3,Ej c];exact h
theorem yA{n c:Nat}{K:Int}(h:autoParam (n<=c) tA)(k:autoParam (decide ((c:Int)<K)=true) tR):(n:Int)<K:=Gw (Gj.mpr h) (of_decide_eq_true k)
theorem yC{n:Nat}{K:Int}(k:autoParam (decide (K<=0)=true) tR):K<=(n:Int):=Du (of_decide_eq_true k) (Ep n)
theorem yD{n c:Nat}{K:Int}(h:autoParam (n<=c) tA)(k:autoParam (decide ((c:Int)<=K)=true) tR):(n:Int)<=K:=Du (Gj.mpr h) (of_decide_eq_true k)
theorem yE{a b c:Int}(h:autoParam (a<=b) tA)(k:autoParam (decide (b<=c)=true) tR):a<=c:=Du h (of_decide_eq_true k)
theorem yF{a b c:Int}(h:autoParam (a<b) tA)(k:autoParam (decide (b<=c)=true) tR):a<c:=Int.lt_of_lt_of_le h (of_decide_eq_true k)
theorem yG{a b c:Int}(h:autoParam (a<=b) tA)(k:autoParam (decide (b<c)=true) tR):a<c:=Gw h (of_decide_eq_true k)
theorem yH{a b c:Int}(h:autoParam (b<=a) tA)(k:autoParam (decide (c<=b)=true) tR):c<=a:=Du (of_decide_eq_true k) h
theorem yJ{n c:Nat}{K:Int}(h:autoParam (n<=c) tA)(k:autoParam (decide ((c:Int)<K)=true) tR):¬K<=(n:Int):=Int.not_le.mpr (yA h k)
theorem yK{a c L K:Int}(h:autoParam (L<=a/\a<c) tA)(k:autoParam (decide (c<=K)=true) tR):a<K:=yF h.2 k
theorem yR{a b c:Nat}(h:autoParam (a<=b) tA)(k:autoParam (Gs b c=true) tR):¬c<a:=Ho (zB h k)
theorem yS{a b c:Nat}(h:autoParam (a<b) tA)(k:autoParam (b<=c) tA):a<=c:=Ci (D5 h k)
theorem yV{a b c:Nat}(h:autoParam (b=a) tA)(k:autoParam (c<b) tA):c<a:=h▸k
theorem xA{a b c d:Nat}(h:autoParam (a+(b+c)<d) tA):a+c+b<d:=by rw[C3,Ej c];exact h
theorem xB{a b c:Nat}(h:autoParam (a+b<=c) tA):b+a<=c:=Ej a b▸h
theorem xE{a b c k:Nat}(h:autoParam (a=b) tA)(q:autoParam (b<=c) tA)(r:autoParam (Gs c k=true) tR):a<=k:=zB (h▸q) r
theorem xF{m n:Nat}(h:autoParam (¬m=n) tA):¬(m:Int)=n:=fun e=>h (Int.ofNat.inj e)
theorem xG{i a b k:Nat}(h:autoParam (i=a\/b<=i) tA)(q:autoParam ((!Nat.beq a k&&Gs (k+1) b)=true) tR):¬i=k:=by
 rw[A0]at q
 rintro rfl
 rcases h with h|h
 ·rw[h,Nat.beq_refl]at q;exact absurd q.1 (by decide)
 ·exact Ho h (J7 q.2)
theorem xH{i a b c k:Nat}(h:autoParam (i=a\/i=b\/c<=i) tA)(q:(!Nat.beq a k&&(!Nat.beq b k&&Gs (k+1) c))=true):¬i=k:=by
 rw[A0]at q
 rcases h with h|h
 ·rintro rfl;rw[h,Nat.beq_refl]at q;exact absurd q.1 (by decide)
 ·exact xG h q.2
theorem xJ{i a b c k:Nat}(h:autoParam (c<=i\/i=a\/i=b) tA)(q:(!Nat.beq a k&&(!Nat.beq b k&&Gs (k+1) c))=true):¬i=k:=
 xH (h.elim (fun h=> .inr (.inr h)) fun h=>h.elim .inl fun h=> .inr (.inl h)) q
theorem xK{x y:Nat}(h:autoParam (x<=2*y) tA):x+1+1<=2*(y+1):=Bw h 2
theorem xL{x y:Nat}(h:autoParam (x<=2*y) tA):x+1<=2*(y+1):=Cv (xK h)
theorem xM{x y:Nat}(h:autoParam (x<=2*y) tA):x<=2*(y+1):=Cv (xL h)
theorem xN{x y c k m:Nat}(h:autoParam (x<=m*y) tA)(q:autoParam (y<=c) tA)(r:autoParam (Gs (m*c) k=true) tR):x<=k:=zB (Ad h (Dz m q)) r
theorem xO{a b c k:Nat}(h:autoParam (a+(b+k)<=c) tA):a+k<=c:=Ad (Dc (Eg k b) a) h
theorem xP{a b c k:Nat}(h:autoParam (a<b) tA)(q:autoParam (b<=c) tA)(r:autoParam (Gs c k=true) tR):a<=k:=zC (D5 h q) r
theorem xQ{a b c k:Nat}(h:autoParam (a<=b) tA)(q:autoParam (b<=c) tA)(r:autoParam (Gs c k=true) tR):a<=k:=zB (Ad h q) r
theorem xS{s n c:Nat}(h:autoParam (s+(n+1)=c) tA):s<c:=h▸Nat.lt_add_of_pos_right (G8 n)
theorem xX{j m s c k r:Nat}(h:autoParam (j<=m*s+r) tA)(q:autoParam (s<=c) tA)(t:autoParam (Gs (m*c+r) k=true) tR):j<=k:=zB (Ad h (Bw (Dz m q) r)) t
@[elab_as_elim] theorem af {α:Sort _} {P:α->Prop} {a b:α} (h:a=b) (m:P b):P a:=h▸m
@[elab_as_elim] theorem ct {α:Sort _} {P:α->Prop} {a b:α} (h:b=a) (m:P b):P a:=h▸m
theorem au{P0 P1:Prop}{G:Prop}(h:P0/\P1)(k:P0->P1->G):G:=k h.1 h.2
theorem dX{P0 P1 P2:Prop}{G:Prop}(h:P0/\P1/\P2)(k:P0->P1->P2->G):G:=au h.2 (k h.1)
theorem tj{P0 P1 P2 P3:Prop}{G:Prop}(h:P0/\P1/\P2/\P3)(k:P0->P1->P2->P3->G):G:=dX h.2 (k h.1)
theorem AE{P0 P1 P2 P3 P4:Prop}{G:Prop}(h:P0/\P1/\P2/\P3/\P4)(k:P0->P1->P2->P3->P4->G):G:=tj h.2 (k h.1)
theorem N6{P0 P1 P2 P3 P4 P5:Prop}{G:Prop}(h:P0/\P1/\P2/\P3/\P4/\P5)(k:P0->P1->P2->P3->P4->P5->G):G:=AE h.2 (k h.1)
theorem N7{P0 P1 P2 P3 P4 P5 P6:Prop}{G:Prop}(h:P0/\P1/\P2/\P3/\P4/\P5/\P6)(k:P0->P1->P2->P3->P4->P5->P6->G):G:=N6 h.2 (k h.1)
theorem aJ{aQ:Type}{P0:aQ->Prop}{G:Prop}(h:∃a0,P0 a0)(k:∀a0,P0 a0->G):G:=h.elim k
theorem aB{aQ:Type}{P0 P1:aQ->Prop}{G:Prop}(h:∃a0,P0 a0/\P1 a0)(k:∀a0,P0 a0->P1 a0->G):G:=h.elim fun a h=>au h (k a)
theorem kU{aQ:Type}{P0 P1 P2:aQ->Prop}{G:Prop}(h:∃a0,P0 a0/\P1 a0/\P2 a0)(k:∀a0,P0 a0->P1 a0->P2 a0->G):G:=h.elim fun a h=>dX h (k a)
theorem jS{aQ:Type}{P0 P1 P2 P3:aQ->Prop}{G:Prop}(h:∃a0,P0 a0/\P1 a0/\P2 a0/\P3 a0)(k:∀a0,P0 a0->P1 a0->P2 a0->P3 a0->G):G:=h.elim fun a h=>tj h (k a)
theorem pG{aQ:Type}{P0 P1 P2 P3 P4:aQ->Prop}{G:Prop}(h:∃a0,P0 a0/\P1 a0/\P2 a0/\P3 a0/\P4 a0)(k:∀a0,P0 a0->P1 a0->P2 a0->P3 a0->P4 a0->G):G:=h.elim fun a h=>AE h (k a)
theorem qM{aQ:Type}{P0 P1 P2 P3 P4 P5:aQ->Prop}{G:Prop}(h:∃a0,P0 a0/\P1 a0/\P2 a0/\P3 a0/\P4 a0/\P5 a0)(k:∀a0,P0 a0->P1 a0->P2 a0->P3 a0->P4 a0->P5 a0->G):G:=h.elim fun a h=>N6 h (k a)
theorem gc{aQ bw:Type}{P0:aQ->bw->Prop}{G:Prop}(h:∃a0 a1,P0 a0 a1)(k:∀a0 a1,P0 a0 a1->G):G:=h.elim fun a h=>aJ h (k a)
theorem dY{aQ bw:Type}{P0 P1:aQ->bw->Prop}{G:Prop}(h:∃a0 a1,P0 a0 a1/\P1 a0 a1)(k:∀a0 a1,P0 a0 a1->P1 a0 a1->G):G:=h.elim fun a h=>aB h (k a)
theorem cX{aQ bw:Type}{P0 P1 P2:aQ->bw->Prop}{G:Prop}(h:∃a0 a1,P0 a0 a1/\P1 a0 a1/\P2 a0 a1)(k:∀a0 a1,P0 a0 a1->P1 a0 a1->P2 a0 a1->G):G:=h.elim fun a h=>kU h (k a)
theorem uP{aQ bw:Type}{P0 P1 P2 P3:aQ->bw->Prop}{G:Prop}(h:∃a0 a1,P0 a0 a1/\P1 a0 a1/\P2 a0 a1/\P3 a0 a1)(k:∀a0 a1,P0 a0 a1->P1 a0 a1->P2 a0 a1->P3 a0 a1->G):G:=h.elim fun a h=>jS h (k a)
theorem FH{aQ bw:Type}{P0 P1 P2 P3 P4:aQ->bw->Prop}{G:Prop}(h:∃a0 a1,P0 a0 a1/\P1 a0 a1/\P2 a0 a1/\P3 a0 a1/\P4 a0 a1)(k:∀a0 a1,P0 a0 a1->P1 a0 a1->P2 a0 a1->P3 a0 a1->P4 a0 a1->G):G:=h.elim fun a h=>pG h (k a)
theorem uQ{aQ bw:Type}{P0 P1 P2 P3 P4 P5:aQ->bw->Prop}{G:Prop}(h:∃a0 a1,P0 a0 a1/\P1 a0 a1/\P2 a0 a1/\P3 a0 a1/\P4 a0 a1/\P5 a0 a1)(k:∀a0 a1,P0 a0 a1->P1 a0 a1->P2 a0 a1->P3 a0 a1->P4 a0 a1->P5 a0 a1->G):G:=h.elim fun a h=>qM h (k a)
theorem AF{aQ bw cG:Type}{P0:aQ->bw->cG->Prop}{G:Prop}(h:∃a0 a1 a2,P0 a0 a1 a2)(k:∀a0 a1 a2,P0 a0 a1 a2->G):G:=h.elim fun a h=>gc h (k a)
theorem qN{aQ bw cG:Type}{P0 P1:aQ->bw->cG->Prop}{G:Prop}(h:∃a0 a1 a2,P0 a0 a1 a2/\P1 a0 a1 a2)(k:∀a0 a1 a2,P0 a0 a1 a2->P1 a0 a1 a2->G):G:=h.elim fun a h=>dY h (k a)
theorem nO{aQ bw cG:Type}{P0 P1 P2:aQ->bw->cG->Prop}{G:Prop}(h:∃a0 a1 a2,P0 a0 a1 a2/\P1 a0 a1 a2/\P2 a0 a1 a2)(k:∀a0 a1 a2,P0 a0 a1 a2->P1 a0 a1 a2->P2 a0 a1 a2->G):G:=h.elim fun a h=>cX h (k a)
theorem jT{aQ bw cG:Type}{P0 P1 P2 P3:aQ->bw->cG->Prop}{G:Prop}(h:∃a0 a1 a2,P0 a0 a1 a2/\P1 a0 a1 a2/\P2 a0 a1 a2/\P3 a0 a1 a2)(k:∀a0 a1 a2,P0 a0 a1 a2->P1 a0 a1 a2->P2 a0 a1 a2->P3 a0 a1 a2->G):G:=h.elim fun a h=>uP h (k a)
theorem AG{aQ bw cG:Type}{P0 P1 P2 P3 P4:aQ->bw->cG->Prop}{G:Prop}(h:∃a0 a1 a2,P0 a0 a1 a2/\P1 a0 a1 a2/\P2 a0 a1 a2/\P3 a0 a1 a2/\P4 a0 a1 a2)(k:∀a0 a1 a2,P0 a0 a1 a2->P1 a0 a1 a2->P2 a0 a1 a2->P3 a0 a1 a2->P4 a0 a1 a2->G):G:=h.elim fun a h=>FH h (k a)
theorem FI{aQ bw cG:Type}{P0 P1 P2 P3 P4 P5:aQ->bw->cG->Prop}{G:Prop}(h:∃a0 a1 a2,P0 a0 a1 a2/\P1 a0 a1 a2/\P2 a0 a1 a2/\P3 a0 a1 a2/\P4 a0 a1 a2/\P5 a0 a1 a2)(k:∀a0 a1 a2,P0 a0 a1 a2->P1 a0 a1 a2->P2 a0 a1 a2->P3 a0 a1 a2->P4 a0 a1 a2->P5 a0 a1 a2->G):G:=h.elim fun a h=>uQ h (k a)
theorem tm{aQ bw cG gz:Type}{P0 P1:aQ->bw->cG->gz->Prop}{G:Prop}(h:∃a0 a1 a2 a3,P0 a0 a1 a2 a3/\P1 a0 a1 a2 a3)(k:∀a0 a1 a2 a3,P0 a0 a1 a2 a3->P1 a0 a1 a2 a3->G):G:=h.elim fun a h=>qN h (k a)
theorem qO{aQ bw cG gz:Type}{P0 P1 P2:aQ->bw->cG->gz->Prop}{G:Prop}(h:∃a0 a1 a2 a3,P0 a0 a1 a2 a3/\P1 a0 a1 a2 a3/\P2 a0 a1 a2 a3)(k:∀a0 a1 a2 a3,P0 a0 a1 a2 a3->P1 a0 a1 a2 a3->P2 a0 a1 a2 a3->G):G:=h.elim fun a h=>nO h (k a)
theorem tw{aQ bw cG gz:Type}{P0 P1 P2 P3:aQ->bw->cG->gz->Prop}{G:Prop}(h:∃a0 a1 a2 a3,P0 a0 a1 a2 a3/\P1 a0 a1 a2 a3/\P2 a0 a1 a2 a3/\P3 a0 a1 a2 a3)(k:∀a0 a1 a2 a3,P0 a0 a1 a2 a3->P1 a0 a1 a2 a3->P2 a0 a1 a2 a3->P3 a0 a1 a2 a3->G):G:=h.elim fun a h=>jT h (k a)
theorem uR{aQ bw cG gz:Type}{P0 P1 P2 P3 P4:aQ->bw->cG->gz->Prop}{G:Prop}(h:∃a0 a1 a2 a3,P0 a0 a1 a2 a3/\P1 a0 a1 a2 a3/\P2 a0 a1 a2 a3/\P3 a0 a1 a2 a3/\P4 a0 a1 a2 a3)(k:∀a0 a1 a2 a3,P0 a0 a1 a2 a3->P1 a0 a1 a2 a3->P2 a0 a1 a2 a3->P3 a0 a1 a2 a3->P4 a0 a1 a2 a3->G):G:=h.elim fun a h=>AG h (k a)
theorem uS{aQ bw cG gz:Type}{P0 P1 P2 P3 P4 P5:aQ->bw->cG->gz->Prop}{G:Prop}(h:∃a0 a1 a2 a3,P0 a0 a1 a2 a3/\P1 a0 a1 a2 a3/\P2 a0 a1 a2 a3/\P3 a0 a1 a2 a3/\P4 a0 a1 a2 a3/\P5 a0 a1 a2 a3)(k:∀a0 a1 a2 a3,P0 a0 a1 a2 a3->P1 a0 a1 a2 a3->P2 a0 a1 a2 a3->P3 a0 a1 a2 a3->P4 a0 a1 a2 a3->P5 a0 a1 a2 a3->G):G:=h.elim fun a h=>FI h (k a)
theorem AH{aQ bw cG gz FJ:Type}{P0 P1 P2:aQ->bw->cG->gz->FJ->Prop}{G:Prop}(h:∃a0 a1 a2 a3 a4,P0 a0 a1 a2 a3 a4/\P1 a0 a1 a2 a3 a4/\P2 a0 a1 a2 a3 a4)(k:∀a0 a1 a2 a3 a4,P0 a0 a1 a2 a3 a4->P1 a0 a1 a2 a3 a4->P2 a0 a1 a2 a3 a4->G):G:=h.elim fun a h=>qO h (k a)
theorem FK{aQ bw cG gz FJ US:Type}{P0 P1 P2:aQ->bw->cG->gz->FJ->US->Prop}{G:Prop}(h:∃a0 a1 a2 a3 a4 a5,P0 a0 a1 a2 a3 a4 a5/\P1 a0 a1 a2 a3 a4 a5/\P2 a0 a1 a2 a3 a4 a5)(k:∀a0 a1 a2 a3 a4 a5,P0 a0 a1 a2 a3 a4 a5->P1 a0 a1 a2 a3 a4 a5->P2 a0 a1 a2 a3 a4 a5->G):G:=h.elim fun a h=>AH h (k a)
theorem cj{P0 P1:Prop} (h0:P0)(h1:P1):P0/\P1:=⟨h0,h1⟩
theorem nP{P0 P1 P2:Prop} (h0:P0)(h1:P1)(h2:P2):P0/\P1/\P2:=⟨h0,h1,h2⟩
theorem N8{P0 P1 P2 P3:Prop} (h0:P0)(h1:P1)(h2:P2)(h3:P3):P0/\P1/\P2/\P3:=⟨h0,h1,h2,h3⟩
theorem uT{P0 P1 P2 P3 P4:Prop} (h0:P0)(h1:P1)(h2:P2)(h3:P3)(h4:P4):P0/\P1/\P2/\P3/\P4:=⟨h0,h1,h2,h3,h4⟩
theorem cn{aQ:Type}{P0:aQ->Prop}(a0:aQ)(h0:P0 a0):∃a0,P0 a0:=⟨a0,h0⟩
theorem i12{aQ:Type}{P0 P1:aQ->Prop}(a0:aQ)(h0:P0 a0)(h1:P1 a0):∃a0,P0 a0/\P1 a0:=⟨a0,h0,h1⟩
theorem FN{aQ:Type}{P0 P1 P2:aQ->Prop}(a0:aQ)(h0:P0 a0)(h1:P1 a0)(h2:P2 a0):∃a0,P0 a0/\P1 a0/\P2 a0:=⟨a0,h0,h1,h2⟩
theorem FO{aQ:Type}{P0 P1 P2 P3:aQ->Prop}(a0:aQ)(h0:P0 a0)(h1:P1 a0)(h2:P2 a0)(h3:P3 a0):∃a0,P0 a0/\P1 a0/\P2 a0/\P3 a0:=⟨a0,h0,h1,h2,h3⟩
theorem FP{aQ:Type}{P0 P1 P2 P3 P4:aQ->Prop}(a0:aQ)(h0:P0 a0)(h1:P1 a0)(h2:P2 a0)(h3:P3 a0)(h4:P4 a0):∃a0,P0 a0/\P1 a0/\P2 a0/\P3 a0/\P4 a0:=⟨a0,h0,h1,h2,h3,h4⟩
theorem N9{aQ:Type}{P0 P1 P2 P3 P4 P5 P6:aQ->Prop}(a0:aQ)(h0:P0 a0)(h1:P1 a0)(h2:P2 a0)(h3:P3 a0)(h4:P4 a0)(h5:P5 a0)(h6:P6 a0):∃a0,P0 a0/\P1 a0/\P2 a0/\P3 a0/\P4 a0/\P5 a0/\P6 a0:=⟨a0,h0,h1,h2,h3,h4,h5,h6⟩
theorem Oa{aQ bw:Type}{P0:aQ->bw->Prop}(a0:aQ)(a1:bw)(h0:P0 a0 a1):∃a0 a1,P0 a0 a1:=⟨a0,a1,h0⟩
theorem nQ{aQ bw:Type}{P0 P1:aQ->bw->Prop}(a0:aQ)(a1:bw)(h0:P0 a0 a1)(h1:P1 a0 a1):∃a0 a1,P0 a0 a1/\P1 a0 a1:=⟨a0,a1,h0,h1⟩
theorem tD{aQ bw:Type}{P0 P1 P2:aQ->bw->Prop}(a0:aQ)(a1:bw)(h0:P0 a0 a1)(h1:P1 a0 a1)(h2:P2 a0 a1):∃a0 a1,P0 a0 a1/\P1 a0 a1/\P2 a0 a1:=⟨a0,a1,h0,h1,h2⟩
theorem nh{aQ bw:Type}{P0 P1 P2 P3 P4 P5:aQ->bw->Prop}(a0:aQ)(a1:bw)(h0:P0 a0 a1)(h1:P1 a0 a1)(h2:P2 a0 a1)(h3:P3 a0 a1)(h4:P4 a0 a1)(h5:P5 a0 a1):∃a0 a1,P0 a0 a1/\P1 a0 a1/\P2 a0 a1/\P3 a0 a1/\P4 a0 a1/\P5 a0 a1:=⟨a0,a1,h0,h1,h2,h3,h4,h5⟩
theorem Ob{aQ bw cG:Type}{P0 P1:aQ->bw->cG->Prop}(a0:aQ)(a1:bw)(a2:cG)(h0:P0 a0 a1 a2)(h1:P1 a0 a1 a2):∃a0 a1 a2,P0 a0 a1 a2/\P1 a0 a1 a2:=⟨a0,a1,a2,h0,h1⟩
theorem UT{aQ bw cG:Type}{P0 P1 P2:aQ->bw->cG->Prop}(a0:aQ)(a1:bw)(a2:cG)(h0:P0 a0 a1 a2)(h1:P1 a0 a1 a2)(h2:P2 a0 a1 a2):∃a0 a1 a2,P0 a0 a1 a2/\P1 a0 a1 a2/\P2 a0 a1 a2:=⟨a0,a1,a2,h0,h1,h2⟩
theorem Oc{aQ bw cG:Type}{P0 P1 P2 P3:aQ->bw->cG->Prop}(a0:aQ)(a1:bw)(a2:cG)(h0:P0 a0 a1 a2)(h1:P1 a0 a1 a2)(h2:P2 a0 a1 a2)(h3:P3 a0 a1 a2):∃a0 a1 a2,P0 a0 a1 a2/\P1 a0 a1 a2/\P2 a0 a1 a2/\P3 a0 a1 a2:=⟨a0,a1,a2,h0,h1,h2,h3⟩
theorem UU{aQ bw cG:Type}{P0 P1 P2 P3 P4:aQ->bw->cG->Prop}(a0:aQ)(a1:bw)(a2:cG)(h0:P0 a0 a1 a2)(h1:P1 a0 a1 a2)(h2:P2 a0 a1 a2)(h3:P3 a0 a1 a2)(h4:P4 a0 a1 a2):∃a0 a1 a2,P0 a0 a1 a2/\P1 a0 a1 a2/\P2 a0 a1 a2/\P3 a0 a1 a2/\P4 a0 a1 a2:=⟨a0,a1,a2,h0,h1,h2,h3,h4⟩
theorem UW{aQ bw cG gz:Type}{P0 P1 P2 P3:aQ->bw->cG->gz->Prop}(a0:aQ)(a1:bw)(a2:cG)(a3:gz)(h0:P0 a0 a1 a2 a3)(h1:P1 a0 a1 a2 a3)(h2:P2 a0 a1 a2 a3)(h3:P3 a0 a1 a2 a3):∃a0 a1 a2 a3,P0 a0 a1 a2 a3/\P1 a0 a1 a2 a3/\P2 a0 a1 a2 a3/\P3 a0 a1 a2 a3:=⟨a0,a1,a2,a3,h0,h1,h2,h3⟩
theorem UX{aQ bw cG gz:Type}{P0 P1 P2 P3 P4:aQ->bw->cG->gz->Prop}(a0:aQ)(a1:bw)(a2:cG)(a3:gz)(h0:P0 a0 a1 a2 a3)(h1:P1 a0 a1 a2 a3)(h2:P2 a0 a1 a2 a3)(h3:P3 a0 a1 a2 a3)(h4:P4 a0 a1 a2 a3):∃a0 a1 a2 a3,P0 a0 a1 a2 a3/\P1 a0 a1 a2 a3/\P2 a0 a1 a2 a3/\P3 a0 a1 a2 a3/\P4 a0 a1 a2 a3:=⟨a0,a1,a2,a3,h0,h1,h2,h3,h4⟩
theorem tE{M:L8}{A:Al}{α:Type}{Q:α->Ab->Prop}{E:Value->Ab->Prop}{s:Ab}{c:Prop}[Decidable c]{a b:Kf α}(h:c)(k:Am M A a Q E s):Am M A (if c then a else b) Q E s:=(if_pos h).symm▸k
theorem iP{M:L8}{A:Al}{α:Type}{Q:α->Ab->Prop}{E:Value->Ab->Prop}{s:Ab}{c:Prop}[Decidable c]{a b:Kf α}(h:¬c)(k:Am M A b Q E s):Am M A (if c then a else b) Q E s:=(if_neg h).symm▸k
theorem xU{α:Type}{c:Prop}[Decidable c]{a b r:α}(h:c)(k:a=r):(if c then a else b)=r:=(if_pos h).trans k
theorem eM{α:Type}{c:Prop}[Decidable c]{a b r:α}(h:¬c)(k:b=r):(if c then a else b)=r:=(if_neg h).trans k
theorem zK{α β:Type}{x:Option α}{a:α}{f:α->Option β}{r:Option β}(h:x=some a)(k:f a=r):x.bind f=r:=h▸k
theorem ak.ind{h:Ap}{M:List PV->List Value->List Addr->Prop}(h0:M [] [] [])(h1:∀{p:PV}{v:Value}{n:List Addr}{ps:List PV}{vs:List Value}{ns:List Addr},VR h p v n->ak h ps vs ns->M ps vs ns->M (p::ps) (v::vs) (n++ns)){ps:List PV}{vs:List Value}{ns:List Addr}(x:ak h ps vs ns):M ps vs ns:=
 ak.rec (motive_1:=fun _ _ _ _=>True) (motive_2:=fun a b c _=>M a b c) trivial (fun _=>trivial) (fun _ _=>trivial) (fun _ _=>trivial) (fun _=>trivial) (fun _ _ _=>trivial) h0 (fun a b _ d=>h1 a b d) x
noncomputable def FQ(h h':Ap)(ns:List Addr):Prop:=∀a∈ns,∀o,h.get? a=some o->h'.get? a=some o
theorem VR.on{h h':Ap}{p:PV}{v:Value}{ns:List Addr}(x:VR h p v ns):(∀a∈ns,∀o,h.get? a=some o->h'.get? a=some o)->VR h' p v ns:=
 VR.rec (motive_1:=fun p v ns _=>FQ h h' ns->VR h' p v ns) (motive_2:=fun p v ns _=>FQ h h' ns->ak h' p v ns) (fun _=> .none) (fun b _=> .bool b) (fun i t _=> .int i t) (fun x t _=> .str x t) (fun v _=> .obj v)
  (fun hl _ f k=> .list (hl.at fun o e=>k _ (Ai ..) o e) (f fun a ha o e=>k a (Aj _ ha) o e)) (fun _=> .nil) (fun _ _ f g k=> .cons (f fun a ha o e=>k a (Az _ ha) o e) (g fun a ha o e=>k a (Ar _ ha) o e)) x
theorem ak.on{h h':Ap}{p:List PV}{v:List Value}{ns:List Addr}(x:ak h p v ns):(∀a∈ns,∀o,h.get? a=some o->h'.get? a=some o)->ak h' p v ns:=
 ak.ind (M:=fun p v ns=>FQ h h' ns->ak h' p v ns) (fun _=> .nil) (fun hv _ g k=> .cons (hv.on fun a ha o e=>k a (Az _ ha) o e) (g fun a ha o e=>k a (Ar _ ha) o e)) x
theorem VR.sub{h h':Ap}{p:PV}{v:Value}{ns:List Addr}(x:VR h p v ns)(k:Sub h h'):VR h' p v ns:=x.on fun a _ o e=>k a o e
theorem ak.sub{h h':Ap}{p:List PV}{v:List Value}{ns:List Addr}(x:ak h p v ns)(k:Sub h h'):ak h' p v ns:=x.on fun a _ o e=>k a o e
theorem ak.length{h:Ap}{ps:List PV}{vs:List Value}{ns:List Addr}(x:ak h ps vs ns):vs.length=ps.length:=
 x.ind (M:=fun ps vs _=>vs.length=ps.length) rfl fun _ _ ih=>congrArg (· +1) ih
theorem ak.append{h:Ap}{ps qs:List PV}{vs us:List Value}{ns ms:List Addr}(x:ak h ps vs ns)(y:ak h qs us ms):ak h (ps++qs) (vs++us) (ns++ms):=
 x.ind (M:=fun ps vs ns=>ak h (ps++qs) (vs++us) (ns++ms)) y fun hv _ ih=>by
  rw[Bf];exact .cons hv ih
theorem ak.one{h:Ap}{p:PV}{v:Value}{n:List Addr}(x:VR h p v n):ak h [p] [v] n:=by
 have:=ak.cons x (ak.nil (h:=h));rwa[Bv]at this
theorem ak.get{h:Ap}{ps:List PV}{vs:List Value}{ns:List Addr}(x:ak h ps vs ns):∀{i:Nat} {p:PV},ps[i]?=some p->∃v n,vs[i]?=some v/\VR h p v n/\∀a∈n,a∈ns:=
 x.ind (M:=fun ps vs ns=>∀{i:Nat} {p:PV},ps[i]?=some p->∃v n,vs[i]?=some v/\VR h p v n/\∀a∈n,a∈ns) (fun e=>nn e) fun hv hs ih i p e=>by
  cases i with
  |zero=>exact Aa e▸⟨_,_,rfl,hv,fun a ha=>Az _ ha⟩
  |succ i=>
   refine cX (ih (i:=i) e) fun v n e1 e2 e3=>?_
   exact tD v n e1 e2 (fun a ha=>Ar _ (e3 a ha))
theorem ak.pick{h:Ap}{ps:List PV}{vs:List Value}{ns:List Addr}(x:ak h ps vs ns):∀is:List Nat,∃ms,ak h (is.filterMap (ps[·]?)) (is.filterMap (vs[·]?)) ms/\∀a∈ms,a∈ns
 |[]=>⟨[], .nil,fun _ h=>nomatch h⟩
 |i::is=>by
  refine aB (ak.pick x is) fun ms e1 e2=>?_
  cases hp:ps[i]? with
  |none=>
   have hv:vs[i]?=I1:=by
    rw[List.getElem?_eq_none_iff]at hp⊢;refine af x.length ?_;exact hp
   (refine af Dd ?_;refine af Dd ?_;refine af hp ?_;refine af hv ?_);exact⟨ms,e1,e2⟩
  |some p=>
   refine cX (x.get hp) fun v n e3 e4 e5=>?_
   refine af Dd ?_
   refine af Dd ?_
   refine af hp ?_
   refine af e3 ?_
   exact i12 (n++ms) (.cons e4 e1) (fun a ha=>(Bb.mp ha).elim (e5 a) (e2 a))
theorem ak.take{h:Ap}{ps:List PV}{vs:List Value}{ns:List Addr}(x:ak h ps vs ns):∀k:Nat,∃ms,ak h (ps.take k) (vs.take k) ms/\∀a∈ms,a∈ns:=
 x.ind (M:=fun ps vs ns=>∀k:Nat,∃ms,ak h (ps.take k) (vs.take k) ms/\∀a∈ms,a∈ns) (fun k=>⟨[],by rw[List.take_nil,List.take_nil];exact .nil,fun _ h=>h⟩) fun hv _ ih k=>by
  cases k with
  |zero=>exact⟨[], .nil,fun a h=>(Aq h).elim⟩
  |succ k=>
   refine aB (ih k) fun ms e1 e2=>?_
   exact i12 _ (.cons hv e1) (fun a ha=>Bb.mpr ((Bb.mp ha).imp id (e2 a)))
theorem ak.drop{h:Ap}{ps:List PV}{vs:List Value}{ns:List Addr}(x:ak h ps vs ns):∀k:Nat,∃ms,ak h (ps.drop k) (vs.drop k) ms/\∀a∈ms,a∈ns:=
 x.ind (M:=fun ps vs ns=>∀k:Nat,∃ms,ak h (ps.drop k) (vs.drop k) ms/\∀a∈ms,a∈ns) (fun k=>⟨[],by rw[List.drop_nil,List.drop_nil];exact .nil,fun _ h=>h⟩) fun hv hs ih k=>by
  cases k with
  |zero=>exact⟨_, .cons hv hs,fun _ h=>h⟩
  |succ k=>
   refine aB (ih k) fun ms e1 e2=>?_
   exact i12 _ e1 (fun a ha=>Ar _ (e2 a ha))
noncomputable def PV.int?:PV->Option Int
 | .int i=>some i
 |_=>I1
noncomputable def PV.dh:PV->Option (List Nat)
 | .str s=>some s
 |_=>I1
noncomputable def PV.ints:List PV->Option (List Int)
 |[]=>some []
 |p::r=>p.int?.bind fun i=>(PV.ints r).map (i:: ·)
noncomputable def PV.strs:List PV->Option (List (List Nat))
 |[]=>some []
 |p::r=>p.dh.bind fun i=>(PV.strs r).map (i:: ·)
noncomputable def UY(h:Ap)(v:Value)(ns:List Addr):PV->Prop
 | .none=>v= .none/\ns=[]
 | .bool b=>v= .bool b/\ns=[]
 | .int i=>∃t,v= .int i t/\ns=[]
 | .str y=>∃t,v= .str ⟨y.toArray⟩ t/\ns=[]
 | .obj u=>v=u/\ns=[]
 | .list ps=>∃a vs ms,h.PlainList a (Ek vs)/\ak h ps vs ms/\v= .ref a/\ns=a::ms
theorem VR.inv{h:Ap}{p:PV}{v:Value}{ns:List Addr}(x:VR h p v ns):UY h v ns p:=
 x.casesOn ⟨rfl,rfl⟩ (fun _=>⟨rfl,rfl⟩) (fun _ t=>⟨t,rfl,rfl⟩) (fun _ t=>⟨t,rfl,rfl⟩) (fun _=>⟨rfl,rfl⟩) fun hl hs=>⟨_,_,_,hl,hs,rfl,rfl⟩
noncomputable def UZ(h:Ap)(vs:List Value)(ns:List Addr):List PV->Prop
 |[]=>vs=[]/\ns=[]
 |p::ps=>∃v n us ms,VR h p v n/\ak h ps us ms/\vs=v::us/\ns=n++ms
theorem ak.inv{h:Ap}{p:List PV}{v:List Value}{ns:List Addr}(x:ak h p v ns):UZ h v ns p:=
 x.casesOn ⟨rfl,rfl⟩ fun hv hs=>⟨_,_,_,_,hv,hs,rfl,rfl⟩
theorem two{α β:Type}{a a':α}{b b':β}{M:α->β->Prop}(h1:a=a')(h2:b=b')(k:M a' b'):M a b:=h1▸h2▸k
@[elab_as_elim] theorem VR.lN {h:Ap} {v:Value} {ns:List Addr} {M:Value->List Addr->Prop} (x:VR h .none v ns) (k:M .none []):M v ns:=two x.inv.1 x.inv.2 k
@[elab_as_elim] theorem VR.pH {h:Ap} {b:Bool} {v:Value} {ns:List Addr} {M:Value->List Addr->Prop} (x:VR h (.bool b) v ns) (k:M (.bool b) []):M v ns:=two x.inv.1 x.inv.2 k
@[elab_as_elim] theorem VR.ee {h:Ap} {i:Int} {v:Value} {ns:List Addr} {M:Value->List Addr->Prop} (x:VR h (.int i) v ns) (k:∀t,M (.int i t) []):M v ns:=x.inv.elim fun t e=>two e.1 e.2 (k t)
@[elab_as_elim] theorem VR.eZ {h:Ap} {y:List Nat} {v:Value} {ns:List Addr} {M:Value->List Addr->Prop} (x:VR h (.str y) v ns) (k:∀t,M (.str ⟨y.toArray⟩ t) []):M v ns:=x.inv.elim fun t e=>two e.1 e.2 (k t)
@[elab_as_elim] theorem VR.U0 {h:Ap} {u v:Value} {ns:List Addr} {M:Value->List Addr->Prop} (x:VR h (.obj u) v ns) (k:M u []):M v ns:=two x.inv.1 x.inv.2 k
@[elab_as_elim] theorem VR.dB {h:Ap} {ps:List PV} {v:Value} {ns:List Addr} {M:Value->List Addr->Prop} (x:VR h (.list ps) v ns) (k:∀a vs ms,h.PlainList a vs.toArray->ak h ps vs ms->M (.ref a) (a::ms)):M v ns:=
 let⟨a,vs,ms,h1,h2,e1,e2⟩:=x.inv;two e1 e2 (k a vs ms h1 h2)
@[elab_as_elim] theorem ak.lO {h:Ap} {vs:List Value} {ns:List Addr} {M:List Value->List Addr->Prop} (x:ak h [] vs ns) (k:M [] []):M vs ns:=two x.inv.1 x.inv.2 k
@[elab_as_elim] theorem ak.fc {h:Ap} {p:PV} {ps:List PV} {vs:List Value} {ns:List Addr} {M:List Value->List Addr->Prop} (x:ak h (p::ps) vs ns) (k:∀v n us ms,VR h p v n->ak h ps us ms->M (v::us) (n++ms)):M vs ns:=
 let⟨v,n,us,ms,h1,h2,e1,e2⟩:=x.inv;two e1 e2 (k v n us ms h1 h2)
@[elab_as_elim] theorem ak.lP {h:Ap} {p:PV} {vs:List Value} {ns:List Addr} {M:List Value->Prop} (x:ak h [p] vs ns) (k:∀v,VR h p v ns->M [v]):M vs:=
 x.fc (M:=fun vs ms=>(∀v,VR h p v ms->M [v])->M vs) (fun v n _ _ hv hs=>hs.lO (M:=fun us ms=>(∀v,VR h p v (n++ms)->M [v])->M (v::us)) fun k=>k v (by rw[Bv];exact hv)) k
theorem PV.g7{p:PV}{a:Int}(e:p.int?=some a):p= .int a:=by
 cases p with
 |int b=>exact congrArg PV.int (Aa e)
 |_=>exact nn e
theorem PV.bJ{p:PV}{a:List Nat}(e:p.dh=some a):p= .str a:=by
 cases p with
 |str b=>exact congrArg PV.str (Aa e)
 |_=>exact nn e
@[elab_as_elim] theorem VR.dG {h:Ap} {p:PV} {v:Value} {ns:List Addr} {a:Int} {M:Value->List Addr->Prop} (x:VR h p v ns) (e:p.int?=some a) (k:∀t,M (.int a t) []):M v ns:=VR.ee (M:=M) (PV.g7 e▸x) k
@[elab_as_elim] theorem VR.g8 {h:Ap} {p:PV} {v:Value} {ns:List Addr} {a:List Nat} {M:Value->List Addr->Prop} (x:VR h p v ns) (e:p.dh=some a) (k:∀t,M (.str ⟨a.toArray⟩ t) []):M v ns:=VR.eZ (M:=M) (PV.bJ e▸x) k
theorem ak.ints{h:Ap}{ps:List PV}{vs:List Value}{ns:List Addr}(x:ak h ps vs ns):∀{is:List Int},PV.ints ps=some is->Io vs is:=
 x.ind (M:=fun ps vs _=>∀{is:List Int},PV.ints ps=some is->Io vs is) (fun e=>Aa e▸ .nil) fun hv _ ih is e=>by
  refine aB (Fd.mp e) fun i e1 e2=>?_
  refine aB (Bn.mp e2) fun r e3 cw=>?_
  subst cw
  exact hv.dG (M:=fun v _=>Io (v::_) _) e1 fun t=> .cons i t (ih e3)
noncomputable def mkStr(x:List Nat):Str:=⟨x.toArray⟩
theorem ak.strs{h:Ap}{ps:List PV}{vs:List Value}{ns:List Addr}(x:ak h ps vs ns):∀{is:List (List Nat)},PV.strs ps=some is->StrsAre vs (is.map mkStr):=
 x.ind (M:=fun ps vs _=>∀{is:List (List Nat)},PV.strs ps=some is->StrsAre vs (is.map mkStr)) (fun e=>Aa e▸ .nil) fun hv _ ih is e=>by
  refine aB (Fd.mp e) fun i e1 e2=>?_
  refine aB (Bn.mp e2) fun r e3 cw=>?_
  subst cw
  exact hv.g8 (M:=fun v _=>StrsAre (v::_) _) e1 fun t=> .cons _ t (ih e3)
theorem VR.aD{h:Ap}{p:PV}{v:Value}{ns:List Addr}(x:VR h p v ns)(hp:p.aZ=true):ns=[]:=by
 cases p with
 |list l=>exact ft hp
 |int i=>exact x.inv.elim fun _ e=>e.2
 |str i=>exact x.inv.elim fun _ e=>e.2
 |_=>exact x.inv.2
theorem ak.aD{h:Ap}{ps:List PV}{vs:List Value}{ns:List Addr}(x:ak h ps vs ns):ps.all PV.aZ=true->ns=[]:=
 x.ind (M:=fun ps _ ns=>ps.all PV.aZ=true->ns=[]) (fun _=>rfl) fun hv _ ih hp=>by rw[hv.aD (A9.mp hp).1,ih (A9.mp hp).2];rfl
theorem VR.bS{h h':Ap}{p:PV}{v:Value}{ns:List Addr}(x:VR h p v ns)(hp:p.aZ=true):VR h' p v []:=(x.aD hp▸x).on fun a ha=>(Aq ha).elim
@[elab_as_elim] theorem so {α:Type} {a b:α} {M:α->Prop} (e:some a=some b) (k:M a):M b:=Aa e▸k
@[elab_as_elim] theorem sp {α β:Type} {a a':α} {b b':β} {M:α->β->Prop} (e:some (a,b)=some (a',b')) (k:M a b):M a' b':=two (M:=M) (congrArg Prod.fst (Aa e)).symm (congrArg Prod.snd (Aa e)).symm k
structure pI(g g':Array G9):Prop where
 get:∀(i:Nat) x,g[i]?=some x->g'[i]?=some x
 bare:Lm g->Lm g'
theorem pI.rfl'(g:Array G9):pI g g:=⟨fun _ _ e=>e,fun x=>x⟩
theorem pI.trans{a b c:Array G9}(x:pI a b)(y:pI b c):pI a c:=⟨fun i o e=>y.get i o (x.get i o e),fun h=>y.bare (x.bare h)⟩
inductive KG(s s':Ab):Prop
 |mk (h:Ap) (t:Nat) (g:Array G9) (e:s'={s with heap:=h,toks:=t,gens:=g}) (k:Sub s.heap h) (x:pI s.gens g):KG s s'
theorem jz(s:Ab):KG s s:=⟨s.heap,s.toks,s.gens,rfl,fun _ _ e=>e, .rfl' _⟩
theorem zI{s s' bI:Ab}(a:KG s s')(b:KG s' bI):KG s bI:=by
 obtain⟨h,t,g,rfl,k,x⟩:=a
 obtain⟨h',t',g',rfl,k',x'⟩:=b
 exact⟨h',t',g',rfl,fun b o e=>k' b o (k b o e),x.trans x'⟩
theorem zZ{s s':Ab}(a:KG s s'):Sub s.heap s'.heap:=by obtain⟨h,t,g,rfl,k,_⟩:=a;exact k
theorem du(s:Ab)(t:Nat):KG s {s with toks:=t}:=⟨s.heap,t,s.gens,rfl,fun _ _ e=>e, .rfl' _⟩
theorem jA(s:Ab)(h:Ap)(t:Nat)(k:Sub s.heap h):KG s {s with heap:=h,toks:=t}:=⟨h,t,s.gens,rfl,k, .rfl' _⟩
theorem pJ(s:Ab)(o:Obj)(t:Nat):KG s {s with heap:=s.heap.push o,toks:=t}:=⟨_,t,s.gens,rfl,fun _ _ e=>Ag _ e, .rfl' _⟩
structure wL(h:Ap)(ns:List Addr):Prop where
 nodup:ns.Nodup
 new:∀a∈ns,h.get? a=none
theorem wL.nil(h:Ap):wL h []:=⟨Er,fun _ h=>nomatch h⟩
theorem wL.back{h h':Ap}{ns:List Addr}(x:wL h' ns)(k:Sub h h'):wL h ns:=⟨x.nodup,fun a ha=>by
 cases e:h.get? a with
 |none=>rfl
 |some o=>rw[<-k a o e];exact x.new a ha⟩
section
set_option genSizeOf false
set_option genInjectivity false
mutual
inductive PE where
 |lit (v:PV)
 |var (i:Nat)
 |bin (op:H0) (a b:PE)
 |neg (a:PE)
 |cmp (op:CmpOp) (a b:PE)
 |jU (a b:PE)
 |gA (a b:PE)
 |ite (c:PT) (a b:PE)
 |idx (a i:PE)
 |bD (a:PE) (lo hi st:PO)
 |list (es:jV)
 |comp (elt:PE) (src:nR) (ifs:eh)
 |bi (f:Nat) (es:jV)
 |me (f:Nat) (o:PE) (es:jV)
 |uc (k:Nat) (es:jV)
inductive PO where
 |no
 |yes (e:PE)
inductive jV where
 |nil
 |cons (e:PE) (r:jV)
inductive PT where
 |cmp (op:CmpOp) (a b:PE)
 |not (t:PT)
 |and (ts:eh)
 |or (ts:eh)
 |eG (e:PE)
inductive eh where
 |nil
 |cons (t:PT) (r:eh)
inductive nR where
 |items (e:PE)
 |ei (e:PE)
 |enum (e:PE)
 |zip (a b:PE)
end
noncomputable def ag:Nat:=16777216
noncomputable def wB(i:Int):Bool:=decide (-9223372036854775808<=i)&&decide (i<9223372036854775808)
noncomputable def qP:PV->Option Bool
 | .none=>some false
 | .bool b=>some b
 | .int i=>some (i !=0)
 | .str s=>if s.length<=ag then some (!s.isEmpty)else none
 | .list l=>if l.length<=ag then some (!l.isEmpty)else none
 | .obj _=>none
noncomputable def PV.dC:PV->Option (List PV)
 | .list l=>some l
 |_=>I1
noncomputable def PV.bool?:PV->Option Bool
 | .bool b=>some b
 |_=>I1
noncomputable def PV.isNone:PV->Bool
 | .none=>true
 |_=>false
noncomputable def one{α:Type}:List α->Option α
 |[a]=>some a
 |_=>none
noncomputable def Od:PV->PV->Option PV
 | .int a,y=>y.int?.bind fun b=>some (.int (a+b))
 | .str a,y=>y.dh.bind fun b=>if a.length+b.length<=ag then some (.str (a++b))else none
 | .list a,y=>y.dC.bind fun b=>if a.length+b.length<=ag then some (.list (a++b))else none
 |_,_=>none
noncomputable def Oe:PV->PV->Option PV
 | .int a,y=>y.int?.bind fun b=>if wB a&&wB b then some (.int (a*b))else none
 | .str a,y=>y.int?.bind fun n=>if wB n&&decide (a.length*n.toNat<=ag)then some (.str (Ay n.toNat a).flatten)else none
 | .list a,y=>y.int?.bind fun n=>if a.length==1&&PV.aZ (a.headD .none)&&decide (0<=n)&&decide (n<=1000)then some (.list (Ay n.toNat (a.headD .none)))else none
 |_,_=>none
noncomputable def tF(f:Int->Int->Option Int)(x y:PV):Option PV:=x.int?.bind fun a=>y.int?.bind fun b=>(f a b).map .int
noncomputable def AI(op:H0)(x y:PV):Option PV:=match op with
 | .Add=>Od x y
 | .Mult=>Oe x y
 | .Sub=>tF (fun a b=>some (a-b)) x y
 | .FloorDiv=>tF (fun a b=>if decide (0<b)&&decide (b<1073741824)then some (a/b)else none) x y
 | .Mod=>tF (fun a b=>if decide (0<b)then some (a%b)else none) x y
 | .Pow=>tF (fun a n=>if decide (a=2)&&decide (0<=n)&&decide (n<=60)then some (2^n.toNat)else none) x y
 |_=>none
noncomputable def Of:PV->PV->Option Bool
 | .int a,y=>y.int?.map fun b=>a==b
 | .str a,y=>y.dh.map fun b=>a==b
 |_,_=>none
noncomputable def tG:List PV->List PV->Option Bool
 |[],[]=>some true
 |a::r,b::t=>(Of a b).bind fun x=>(tG r t).map fun y=>x&&y
 |_,_=>none
noncomputable def vEq:PV->PV->Option Bool
 | .int a,y=>y.int?.map fun b=>a==b
 | .str a,y=>y.dh.map fun b=>a==b
 | .list a,y=>y.dC.bind fun b=>if a.length==b.length then tG a b else some false
 |_,_=>none
noncomputable def uU(f:Int->Int->Bool)(x y:PV):Option Bool:=x.int?.bind fun a=>y.int?.map (f a)
noncomputable def FR(x y:PV):Option Bool:=x.dh.bind fun s=>(one s).bind fun c=>y.dh.map fun t=>t.contains c
noncomputable def U1:PV->PV->Option Bool
 | .int k,y=>y.dC.bind fun l=>(PV.ints l).map fun is=>is.any (· ==k)
 |x,y=>FR x y
noncomputable def FT(x y:PV):Option Bool:=x.bool?.bind fun a=>y.bool?.map fun b=>a==b
noncomputable def U2:PV->PV->Option Bool
 | .none,y=>if y.isNone then some true else none
 | .int _,y=>if y.isNone then some false else none
 |x,y=>FT x y
noncomputable def AJ(op:CmpOp)(x y:PV):Option Bool:=match op with
 | .Eq=>vEq x y
 | .NotEq=>(vEq x y).map (!·)
 | .Lt=>uU (fun a b=>decide (a<b)) x y
 | .LtE=>uU (fun a b=>decide (a<=b)) x y
 | .Gt=>uU (fun a b=>decide (b<a)) x y
 | .GtE=>uU (fun a b=>decide (b<=a)) x y
 | .In=>U1 x y
 | .NotIn=>(FR x y).map (!·)
 | .Is=>U2 x y
 | .IsNot=>(FT x y).map (!·)
noncomputable def tH:PV->PV->Option PV
 | .str s, .int i=>if wB i then((F2 i s.length).bind fun j=>s[j]?).map fun c=> .str [c]else none
 | .list l, .int i=>if wB i then(F2 i l.length).bind fun j=>l[j]? else none
 |_,_=>none
noncomputable def FU:Option PV->Option (Option Int)
 |none=>some none
 |some .none=>some none
 |some (.int i)=>some (some i)
 |_=>none
noncomputable def AK:PV->Option Int->Option Int->Option Int->Option PV
 | .str s,lo,hi,none=>if s.length<=ag then some (.str ((s.drop (C7 lo s.length)).take (Fs hi s.length-C7 lo s.length)))else none
 | .list l,lo,hi,none=>if l.length<=ag then some (.list ((l.drop (C7 lo l.length)).take (Fs hi l.length-C7 lo l.length)))else none
 | .list l,lo,hi,some k=>if k==0||decide (ag<l.length)then none else some (.list ((Gx (Cj lo hi (some k) l.length).1 (Cj lo hi (some k) l.length).2.1 (Cj lo hi (some k) l.length).2.2).filterMap (l[·]?)))
 |_,_,_,_=>none
noncomputable def pK(n:Int):List PV:=(Au n.toNat).map fun(i:Nat)=>PV.int (i:Int)
noncomputable def qQ(a b c:Int):List PV:=(Au (if a<b then((b-a-1)/c+1).toNat else 0)).map fun(i:Nat)=>PV.int (a+(i:Int)*c)
noncomputable def FV:List Int->Option Int
 |[]=>none
 |a::r=>some (r.foldl min a)
noncomputable def Og:PV->Option PV
 | .str s=>if s.length<=ag then some (.int s.length)else none
 | .list l=>if l.length<=ag then some (.int l.length)else none
 |_=>none
noncomputable def FW(f:List Int->Option Int)(p:PV):Option PV:=p.dC.bind fun l=>(PV.ints l).bind fun is=>(f is).map .int
noncomputable def tI(f:Nat)(ps:List PV):Option PV:=match f with
 |0=>(one ps).bind Og
 |1=>(one ps).bind (FW fun is=>some is.sum)
 |2=>(one ps).bind (FW FV)
 |3=>(PV.ints ps).bind fun is=>match is with|[a,b]=>some (.int (if b<a then b else a))|_=>none
 |4=>(PV.ints ps).bind fun is=>(one is).map fun a=> .int (if a<0 then -a else a)
 |5=>(PV.ints ps).bind fun is=>match is with|[a,b,c]=>if decide (0<=a)&&decide (a<=1000)&&decide (0<=b)&&decide (b<=1000)&&decide (0<c)&&decide (c<=1000)then some (.list (qQ a b c))else none|_=>none
 |_=>none
noncomputable def kW(sep:List Nat):List (List Nat)->List Nat
 |[]=> []
 |[x]=>x
 |x::r=>x++sep++kW sep r
noncomputable def U3(l:List PV):PV->Option PV
 | .int k=>(PV.ints l).bind fun is=>if is.contains k&&decide (is.length<=ag)then some (.int (is.idxOf k))else none
 | .str k=>(PV.strs l).bind fun is=>if is.contains k&&decide (is.length<=ag)then some (.int (is.idxOf k))else none
 |_=>none
noncomputable def Oh(c:Nat):Option PV:=if c<128 then some (.str [if 65<=c&&c<=90 then c+32 else c])else none
noncomputable def uV(f:Nat)(x:PV)(ps:List PV):Option PV:=match f with
 |0=>x.dh.bind fun sep=>(one ps).bind fun y=>y.dC.bind fun l=>(PV.strs l).bind fun xs=>if(xs.map B2).sum+xs.length*sep.length<=ag then some (.str (kW sep xs))else none
 |1=>x.dh.bind fun s=>(one s).bind fun c=>if ps.isEmpty then Oh c else none
 |2=>x.dh.bind fun s=>(one ps).bind fun y=>y.dh.bind fun t=>(one t).map fun c=> .int (s.count c)
 |3=>x.dC.bind fun l=>(one ps).bind (U3 l)
 |_=>none
noncomputable def nS:List PV->List PV->List (List PV)
 |a::r,b::t=> [a,b]::nS r t
 |_,_=> []
noncomputable def wJ(i:Nat):List PV->List (List PV)
 |[]=> []
 |a::r=> [.int (i:Int),a]::wJ (i+1) r
noncomputable def pL:PV->Option (List (List PV))
 | .list l=>some (l.map fun x=> [x])
 | .str s=>some (s.map fun c=> [.str [c]])
 |_=>none
noncomputable abbrev Uc:=Nat->List PV->Option PV
noncomputable def zQ(f:List PV->Option (Option PV)):List (List PV)->Option (List PV)
 |[]=>some []
 |x::r=>match f x with
  |some (some y)=>(zQ f r).map (y:: ·)
  |some none=>zQ f r
  |none=>none
noncomputable def PE.makes:PE->Bool
 | .list _=>true
 | .bD ..=>true
 | .bin ..=>true
 | .bi ..=>true
 |_=>false
noncomputable def fresh:PE->PV->Bool
 | .comp elt _ _,p=>match p with| .list ps=>ps.all (fresh elt)|_=>true
 |e,p=>match p with| .list ps=>e.makes&&ps.all PV.aZ|_=>true
section
variable(U:Uc)
mutual
noncomputable def ev:PE->List (Option PV)->Option PV
 | .lit v,_=>some v
 | .var i,σ=>(σ[i]?).bind id
 | .bin op a b,σ=>(ev a σ).bind fun x=>(ev b σ).bind fun y=>AI op x y
 | .neg a,σ=>(ev a σ).bind fun x=>match x with| .int i=>some (.int (-i))|_=>none
 | .cmp op a b,σ=>(ev a σ).bind fun x=>(ev b σ).bind fun y=>(AJ op x y).map .bool
 | .jU a b,σ=>(ev a σ).bind fun x=>(qP x).bind fun t=>if t then ev b σ else some x
 | .gA a b,σ=>(ev a σ).bind fun x=>(qP x).bind fun t=>if t then some x else ev b σ
 | .ite c a b,σ=>(aY c σ).bind fun t=>if t then ev a σ else ev b σ
 | .idx a i,σ=>(ev a σ).bind fun x=>(ev i σ).bind fun y=>tH x y
 | .bD a lo hi st,σ=>(ev a σ).bind fun x=>(tJ lo σ).bind fun l=>(tJ hi σ).bind fun h=>(tJ st σ).bind fun k=>AK x l h k
 | .list es,σ=>(tK es σ).bind fun l=>if l.length<=ag then some (.list l)else none
 | .comp elt src ifs,σ=>(jX src σ).bind fun items=>if items.length<=ag then(zQ (fun it=>(nT ifs (σ++it.map some)).bind fun ok=>if ok then(ev elt (σ++it.map some)).bind fun y=>if fresh elt y then some (some y)else none else some none) items).map .list else none
 | .bi f es,σ=>(tK es σ).bind (tI f)
 | .me f o es,σ=>(ev o σ).bind fun x=>(tK es σ).bind (uV f x)
 | .uc k es,σ=>(tK es σ).bind (U k)
noncomputable def tJ:PO->List (Option PV)->Option (Option Int)
 | .no,_=>some none
 | .yes e,σ=>(ev e σ).bind fun x=>FU (some x)
noncomputable def tK:jV->List (Option PV)->Option (List PV)
 | .nil,_=>some []
 | .cons e r,σ=>(ev e σ).bind fun x=>(tK r σ).map (x:: ·)
noncomputable def aY:PT->List (Option PV)->Option Bool
 | .cmp op a b,σ=>(ev a σ).bind fun x=>(ev b σ).bind fun y=>AJ op x y
 | .not t,σ=>(aY t σ).map (!·)
 | .and ts,σ=>uW true ts σ
 | .or ts,σ=>uW false ts σ
 | .eG e,σ=>(ev e σ).bind qP
noncomputable def uW(u:Bool):eh->List (Option PV)->Option Bool
 | .nil,_=>some u
 | .cons t r,σ=>(aY t σ).bind fun b=>if b==u then uW u r σ else some (!u)
noncomputable def nT:eh->List (Option PV)->Option Bool
 | .nil,_=>some true
 | .cons t r,σ=>(aY t σ).bind fun b=>if b then nT r σ else some false
noncomputable def jX:nR->List (Option PV)->Option (List (List PV))
 | .items e,σ=>(ev e σ).bind pL
 | .ei e,σ=>(ev e σ).bind fun x=>match x with| .int n=>if wB n&&decide (n<=16777216)then some ((pK n).map fun x=> [x])else none|_=>none
 | .enum e,σ=>(ev e σ).bind fun x=>match x with| .list l=>some (wJ 0 l)|_=>none
 | .zip a b,σ=>(ev a σ).bind fun x=>(ev b σ).bind fun y=>match x,y with| .list l, .list m=>some (nS l m)|_,_=>none
end
end
set_option genInjectivity true
end
set_option genSizeOf false
set_option genInjectivity false
structure wH(D:Nat)(A:Al):Prop where
 hh:A.handled=none
 depth:A.depth+D<recursionLimit
 units:A.units+8*D+60<cLine
structure bu where
 prog:Program
 w:Cn
 Wd:Ap->Prop
 mono:∀{h h':Ap},Wd h->Sub h h'->Wd h'
 mg:Str->Option Value
 mb:Str->Option Value
 g:∀{h:Ap},Wd h->h.Ns mainGlobals mg
 b:∀{h:Ap},Wd h->h.Ns builtinsNs mb
 D:Nat
 U:Uc
 iY:Nat->Addr
 nU:∀{h:Ap} (k:Nat),(∃ps r,U k ps=some r)->Wd h->∃o fd,h.get? (iY k)=some o/\o.data= .func fd
 call:∀(k:Nat) (A:Al) (s:Ab) (ps:List PV) (vs:List Value) (ns:List Addr) (r:PV),wH D A->Wd s.heap->ak s.heap ps vs ns->U k ps=some r->
  Ca (Af prog w) A (.call (.ref (iY k)) ⟨vs,[]⟩) (fun res s'=>∃v ms,res= .ok (.ret v)/\KG s s'/\VR s'.heap r v ms) s
structure Cx where
 kn:List (Str×C8)
 Γ:List (Str×Nat)
 n:Nat
noncomputable def Acc(env:Dv)(h:Ap)(x:Str)(v:Value):Prop:=
 (env.kindOf x=some .local/\∃m,h.Ns env.locals m/\m x=some v)\/
 ((env.kindOf x=some .cell\/env.kindOf x=some .free)/\∃c,env.cells.lookup x=some c/\h.IsCell c (some v))
theorem Acc.sub{env:Dv}{h h':Ap}{x:Str}{v:Value}(a:Acc env h x v)(k:Sub h h'):Acc env h' x v:=by
 rcases a with⟨hk,m,hn,hm⟩|⟨hk,c,hc,hv⟩
 ·exact .inl ⟨hk,m,hn.keeps k,hm⟩
 ·exact .inr ⟨hk,c,hc,hv.keeps k⟩
noncomputable def uX(k:C8):Bool:=k== .local||k== .cell||k== .free
structure Pre(W:bu)(C:Cx)(env:Dv)(A:Al)(σ:List (Option PV))(s:Ab):Prop where
 kind:env.scope.kind= .function
 names:env.scope.names=C.kn
 gl:env.globals=mainGlobals
 bl:env.builtins=builtinsNs
 room:wH W.D A
 len:σ.length=C.n
 rd:∀x i p k,C.kn.lookup x=some k->uX k=true->C.Γ.lookup x=some i->σ[i]?=some (some p)->∃v ns,Acc env s.heap x v/\VR s.heap p v ns
 wd:W.Wd s.heap
 eT:∀x k,C.kn.lookup x=some k->k= .cell\/k= .free->∃c,env.cells.lookup x=some c
theorem Pre.kp{W:bu}{C:Cx}{env:Dv}{A:Al}{σ:List (Option PV)}{s s':Ab}(P:Pre W C env A σ s)(k:KG s s'):Pre W C env A σ s':=
 {P with
  rd:=fun x i p kk e1 e2 e3 e4=>by
   refine dY (P.rd x i p kk e1 e2 e3 e4) fun v ns a r=>?_
   exact nQ v ns (a.sub (zZ k)) (r.sub (zZ k))
  wd:=W.mono P.wd (zZ k)}
inductive Got(s:Ab)(b:Bool)(p:PV)(v:Value)(s':Ab):Prop
 |mk (k:KG s s') (ns:List Addr) (r:VR s'.heap p v ns) (f:b=true->wL s.heap ns):Got s b p v s'
theorem Got.aZ{s s':Ab}{b:Bool}{p:PV}{v:Value}(k:KG s s')(r:VR s'.heap p v []):Got s b p v s':=⟨k,[],r,fun _=>wL.nil _⟩
noncomputable def Oi(W:bu)(env:Dv)(A:Al)(E:Value->Ab->Prop)(s:Ab)(e:Expr)(b:Bool)(p:PV):Prop:=Am (Af W.prog W.w) A (eval e env) (Got s b p) E s
noncomputable def U4(W:bu)(env:Dv)(A:Al)(E:Value->Ab->Prop)(s:Ab)(e:Expr)(b:Bool):Prop:=Am (Af W.prog W.w) A (Lc e env (eval e env)) (fun b' s'=>b'=b/\KG s s') E s
section
variable(W:bu)(C:Cx)
noncomputable def av(e:Expr)(pe:PE):Prop:=∀env A E s σ p,Pre W C env A σ s->ev W.U pe σ=some p->Oi W env A E s e (fresh pe p) p
noncomputable def di(e:Expr)(t:PT):Prop:=∀env A E s σ b,Pre W C env A σ s->aY W.U t σ=some b->U4 W env A E s e b
noncomputable def jY(e:Option Expr)(o:PO):Prop:=∀env A E s σ k,Pre W C env A σ s->tJ W.U o σ=some k->Am (Af W.prog W.w) A (evalPart e env) (fun v s'=>Js v k/\KG s s') E s
noncomputable def kX(es:List Expr)(U5:jV):Prop:=∀env A E s σ ps,Pre W C env A σ s->tK W.U U5 σ=some ps->∀pos,Am (Af W.prog W.w) A (spliced (Jt pos (B6 es env))) (fun vs s'=>KG s s'/\∃ns,ak s'.heap ps vs ns) E s
end
section
variable{W:bu}{C:Cx}
inductive OB{α β:Type}(x:Option α)(f:α->Option β)(y:β):Prop
 |mk (a:α) (h:x=some a) (k:f a=some y):OB x f y
inductive OM{α β:Type}(x:Option α)(f:α->β)(y:β):Prop
 |mk (a:α) (h:x=some a) (k:f a=y):OM x f y
theorem wO{α β:Type}{x:Option α}{f:α->Option β}{y:β}(h:x.bind f=some y):OB x f y:=let⟨a,h1,h2⟩:=Fd.mp h;⟨a,h1,h2⟩
theorem oB{α β:Type}{x:Option α}{f:α->Option β}{y:β}{G:Prop}(h:x.bind f=some y)(k:∀a,x=some a->f a=some y->G):G:=(Fd.mp h).elim fun a q=>k a q.1 q.2
theorem wX{α β:Type}{x:Option α}{f:α->β}{y:β}(h:x.map f=some y):OM x f y:=let⟨a,h1,h2⟩:=Bn.mp h;⟨a,h1,h2⟩
theorem av.cInt{i:Int}{k:Nat}{pos:Bz}:av W C (.Constant (.int i) k pos) (.lit (.int i)):=fun env A E s σ p P e=>by
 obtain rfl:=Aa e;exact Ft (.aZ (du ..) (.int ..))
theorem av.cStr{x:Str}{l:List Nat}{k:Nat}{pos:Bz}(h:x=mkStr l):av W C (.Constant (.str x) k pos) (.lit (.str l)):=fun env A E s σ p P e=>by
 obtain rfl:=Aa e;subst h;exact Dp (.aZ (du ..) (.str ..))
theorem av.cBool{b:Bool}{k:Nat}{pos:Bz}:av W C (.Constant (.bool b) k pos) (.lit (.bool b)):=fun env A E s σ p P e=>by
 obtain rfl:=Aa e;exact wpAny_Constant_bool (.aZ (jz _) (.bool _))
theorem av.uY{k:Nat}{pos:Bz}:av W C (.Constant .none k pos) (.lit .none):=fun env A E s σ p P e=>by
 obtain rfl:=Aa e;exact wpAny_Constant_none (.aZ (jz _) .none)
theorem zU{prog:Program}{w:Cn}{A:Al}{E:Value->Ab->Prop}{s:Ab}{env:Dv}{x:Str}{v:Value}{Q:Value->Ab->Prop}(hk:env.scope.kind= .function)(a:Acc env s.heap x v)(h:Q v s)
  (hn:(x==("__classdict__" :Str))=false):Am (Af prog w) A (loadName env x) Q E s:=by
 rcases a with⟨hl,m,hm,hv⟩|⟨hl|hl,c,hc,hv⟩
 ·exact wpAny_loadName_local hk hl hm hv h
 ·exact wpAny_loadName_cell hk hl hc hv h
 ·exact wpAny_loadName_free hk hl hc hv h hn
theorem av.var{x:Str}{i:Nat}{pos:Bz}{k:C8}(hk:C.kn.lookup x=some k)(hb:uX k=true)(hi:C.Γ.lookup x=some i)
  (hd:(x==("__debug__" :Str))=false) (hn:(x==("__classdict__" :Str))=false):av W C (.Name x pos) (.var i):=fun env A E s σ p P e=>by
 refine oB e fun q e1 e2=>?_
 have e2:q=some p:=e2
 subst e2
 refine dY (P.rd x i p k hk hb hi e1) fun v ns a r=>?_
 refine Bt (zU P.kind a ⟨jz _,ns,r,fun hf=>?_⟩ hn) hd
 have hp:p.aZ=true:=by cases p<;>first|rfl|exact ft hf
 rw[r.aD hp];exact wL.nil _
theorem av.dG{x:Str}{i:Int}{t:Jr}{pos:Bz}(hk:C.kn.lookup x=some .globalImplicit)(hg:W.mg x=some (.int i t))(hd:(x==("__debug__" :Str))=false):
  av W C (.Name x pos) (.lit (.int i)):=fun env A E s σ p P e=>by
 obtain rfl:=Aa e
 refine A6 P.kind (by unfold Be;rw[P.names];exact hk) (Dh ?_ hg (.aZ (jz _) (.int ..))) hd
 rw[P.gl];exact W.g P.wd
theorem zE{prog:Program}{w:Cn}{A:Al}{E:Value->Ab->Prop}{α:Type}{s:Ab}{t:Kf α}{f:α->Ab->Prop}{Q:α->Ab->Prop}(h:Am (Af prog w) A t f E s)(k:∀a s',f a s'->Q a s'):
  Am (Af prog w) A t Q E s:=Bq h k fun _ _ e=>e
theorem U6{a b:Int}(ha:wB a=true)(hb:wB b=true):IntMulOk a b:=by
 unfold wB at ha hb
 simp only[A0,decide_eq_true_eq]at ha hb
 have q:E9 a<=64:=intBits_le_64 (by lia) (by exact yK)
 unfold IntMulOk
 have:decide (E9 a>shortFactorBits)=false:=decide_eq_false (by refine(?_:¬(E9 a>64));exact Ho ‹_›)
 rw[this];simp
theorem FX(a b:List Nat):(⟨a.toArray⟩:Str)++⟨b.toArray⟩=⟨(a++b).toArray⟩:=by
 refine(?_:Str.mk (a.toArray++b.toArray)=_)
 simp
theorem U7{a b:List Nat}{t u:Jr}{s s₀:Ab}{bb:Bool}(k:KG s₀ s)(hl:a.length+b.length<=ag):
  (if((⟨a.toArray⟩:Str).length==0)=true then Made.val (.str ⟨b.toArray⟩ u)else if((⟨b.toArray⟩:Str).length==0)=true then Made.val (.str ⟨a.toArray⟩ t)else Made.str (⟨a.toArray⟩++⟨b.toArray⟩)).post (Got s₀ bb (.str (a++b))) s:=by
 have la:(⟨a.toArray⟩:Str).length=a.length:=by simp[Ce]
 have lb:(⟨b.toArray⟩:Str).length=b.length:=by simp[Ce]
 refine af la ?_
 refine af lb ?_
 by_cases h1:(a.length==0)=true
 ·refine af (if_pos h1) ?_
  have:a=[]:=by simpa using h1
  subst this
  exact Got.aZ k (.str ..)
 ·refine af (if_neg h1) ?_
  by_cases h2:(b.length==0)=true
  ·refine af (if_pos h2) ?_
   have:b=[]:=by simpa using h2
   subst this
   refine af (Bv ..) ?_
   exact Got.aZ k (.str ..)
  ·refine af (if_neg h2) ?_
   refine cj ?_ ?_
   ·refine af (FX ..) ?_;simp only[Ce,A3,Ah]
    refine af Bm ?_;exact hl
   ·refine af (FX ..) ?_;exact Got.aZ (zI k (du ..)) (.str ..)
theorem Oj(a:List Nat):∀(n:Nat) (acc:Array Nat),(Ay n a.toArray).foldl (· ++ ·) acc=acc++(Ay n a).flatten.toArray
 |0,acc=>by simp
 |n+1,acc=>by
  refine af De ?_
  refine af Fz ?_
  refine af (Oj a n ..) ?_
  refine af De ?_
  refine af List.flatten_cons ?_
  refine af Ld ?_
  simp
theorem U8(a:List Nat)(n:Int):Txt.mul ⟨a.toArray⟩ n=⟨(Ay n.toNat a).flatten.toArray⟩:=by
 unfold Txt.mul
 split
 ·rename_i h
  have:n.toNat=0:=by lia
  refine af this ?_;rfl
 ·rename_i h
  split
  ·rename_i h2
   simp only[Eh,beq_iff_eq]at h2
   rcases h2 with h2|h2
   ·subst h2;simp
   ·have:a=[]:=by simpa[Ce]using h2
    subst this
    have:∀k:Nat,(Ay k ([]:List Nat)).flatten=[]:=fun k=>by simp
    exact af (this ..) rfl
  ·refine af (Oj ..) ?_;simp
end
set_option genInjectivity true
theorem FY{i:Int}:wB i=true↔ -9223372036854775808<=i/\i<9223372036854775808:=by
 unfold wB;simp only[A0,decide_eq_true_eq]
section
variable{prog:Program}{w:Cn}{A:Al}{E:Value->Ab->Prop}{s s₀:Ab}{bb:Bool}
theorem U9{l:Addr}{items:Array Value}{x:Int}{u:Jr}{Q:Value->Ab->Prop}(hl:s.heap.PlainList l items)
  (Ol: -(2^63:Int)<=x) (hhi:x<2^63) (hsz:items.size*x.toNat<=2^24)
  (h:Q (.ref s.heap.objs.size) {s with heap:=s.heap.push {cls:= .type "list",data:= .seq (List.foldl (fun x1 x2=>x1++x2) #[] (Ay (if items.isEmpty=true then 0 else x.toNat) items))} }):
  Am (Af prog w) A (binaryOp .Mult (.ref l) (.int x u)) Q E s:=by
 refine aJ hl fun k hl=>?_
 exact wpAny_binaryOp_repeat_ref (T:= "list") (U:= "int") (by decide) ⟨_,hl,rfl⟩ (fun s'=>typeIs_int s' x u) noFill_list_mul F.fills_int_mul F.slot_int_rmul repeat_list F.slot_int_index.lookup
  (Le F.slot_int_rmul (typeIs_int s x u) F.entry_int_rmul (F.args_int_rmul_2 _ _) (int___rmul___int_list x u l items k)
   ⟨hl,rfl,⟨_,hl,rfl⟩,Le F.slot_list_mul ⟨_,hl,rfl⟩ F.entry_list_mul (F.args_list_mul_2 _ _)
    (AutoListH.list___mul___list_int_3 l items k x u (by simp[Builtin.List.listFitsIndex];lia) (by exact yR) (by simp[Builtin.List.listTooLong,sizeLine];assumption))
    ⟨hl,h⟩⟩)
theorem Om(v:Value):∀(n:Nat) (acc:Array Value),(Ay n #[v]).foldl (· ++ ·) acc=acc++(Ay n v).toArray
 |0,acc=>by simp
 |n+1,acc=>by
  refine af De ?_
  refine af Fz ?_
  refine af (Om v n ..) ?_
  refine af De ?_
  refine af Ld ?_
  apply Array.toList_inj.mp
  simp
theorem Va(v:Value)(n:Nat):List.foldl (fun x1 x2=>x1++x2) #[] (Ay (if([v]:List Value).toArray.isEmpty=true then 0 else n) ([v]:List Value).toArray)=(Ay n v).toArray:=by
 rw[if_neg (by simp)]
 have:=Om v n #[]
 simpa using this
theorem ak.replicate{h:Ap}{p:PV}{v:Value}(x:VR h p v []):∀n:Nat,ak h (Ay n p) (Ay n v) []
 |0=> .nil
 |n+1=>by rw[De,De];exact ak.cons x (ak.replicate x n)
theorem VR.gf{h:Ap}{ps:List PV}{vs:List Value}{ns:List Addr}(x:ak h ps vs ns):VR (h.push {cls:= .type "list",data:= .seq vs.toArray}) (.list ps) (.ref h.objs.size) (h.objs.size::ns):=
 .list ⟨0,Av _ rfl⟩ (x.sub fun _ _ e=>Ag _ e)
theorem FZ(h:Ap):h.get? h.objs.size=none:=by
 cases e:h.get? h.objs.size with
 |none=>rfl
 |some o=>exact absurd (Bk e) (Jd _)
theorem uZ{h:Ap}{a:Addr}(ha:h.objs.size<=a):h.get? a=none:=by
 cases e:h.get? a with
 |none=>rfl
 |some o=>exact absurd (Bk e) (Es.mpr ha)
theorem ni{h h':Ap}{a:Addr}(k:Sub h h')(x:h'.get? a=none):h.get? a=none:=by
 cases e:h.get? a with
 |none=>rfl
 |some o=>rw[k a o e]at x;exact sn x
theorem AL{ps:List PV}{vs:List Value}{ns:List Addr}(k:KG s₀ s)(x:ak s.heap ps vs ns)(hp:bb=true->ns=[]):
  Got s₀ bb (.list ps) (.ref s.heap.objs.size) {s with heap:=s.heap.push {cls:= .type "list",data:= .seq vs.toArray} }:=by
 refine⟨zI k (pJ s _ s.toks),_,VR.gf x,fun hb=>?_⟩
 rw[hp hb]
 exact⟨by simp,fun a ha=>by rw[Ae.mp ha];exact ni (zZ k) (FZ _)⟩
theorem PV.jZ{p:PV}{a:Bool}(e:p.bool?=some a):p= .bool a:=by
 cases p with
 |bool b=>exact congrArg PV.bool (Aa e)
 |_=>exact nn e
theorem PV.ej{p:PV}{a:List PV}(e:p.dC=some a):p= .list a:=by
 cases p with
 |list b=>exact congrArg PV.list (Aa e)
 |_=>exact nn e
@[elab_as_elim] theorem VR.pM {h:Ap} {p:PV} {v:Value} {ns:List Addr} {a:Bool} {M:Value->List Addr->Prop} (x:VR h p v ns) (e:p.bool?=some a) (k:M (.bool a) []):M v ns:=VR.pH (M:=M) (PV.jZ e▸x) k
@[elab_as_elim] theorem VR.g9 {h:Ap} {p:PV} {v:Value} {ns:List Addr} {a:List PV} {M:Value->List Addr->Prop} (x:VR h p v ns) (e:p.dC=some a) (k:∀b vs ms,h.PlainList b vs.toArray->ak h a vs ms->M (.ref b) (b::ms)):M v ns:=VR.dB (M:=M) (PV.ej e▸x) k
theorem nV{α:Type}{l:List α}{a:α}(e:one l=some a):l=[a]:=
 match l,e with
 |[_],e=>congrArg (fun x=> [x]) (Aa e)
 |[],e=>nn e
 |_::_::_,e=>nn e
theorem u0{α:Type}{c:Prop}[Decidable c]{x:Option α}{r:α}(e:(if c then x else none)=some r):c/\x=some r:=by
 by_cases h:c
 ·rw[if_pos h]at e;exact⟨h,e⟩
 ·rw[if_neg h]at e;exact nn e
theorem oI{α:Type}{c:Prop}[Decidable c]{x:Option α}{r:α}{G:Prop}(e:(if c then x else none)=some r)(k:c->x=some r->G):G:=k (u0 e).1 (u0 e).2
theorem Vb{α:Type}{c:Prop}[Decidable c]{x:Option α}{r:α}(e:(if c then none else x)=some r):¬c/\x=some r:=by
 by_cases h:c
 ·rw[if_pos h]at e;exact nn e
 ·rw[if_neg h]at e;exact⟨h,e⟩
theorem b2{a b:Bool}(h:(a&&b)=true):a=true/\b=true:=A9.mp h
@[elab_as_elim] theorem u1 {h:Ap} {x y r:PV} {v u:Value} {ns ms:List Addr} {f:Int->Int->Option Int} {M:PV->Value->Value->Prop} (hx:VR h x v ns) (hy:VR h y u ms) (e:tF f x y=some r)
  (k:∀a b c t t',f a b=some c->M (.int c) (.int a t) (.int b t')):M r v u:=by
 refine oB e fun a e1 e=>?_
 refine oB e fun b e2 e=>?_
 obtain⟨c,e3,rfl⟩:=wX e
 exact hx.dG e1 (M:=fun v _=>M _ v u) fun t=>hy.dG e2 (M:=fun u _=>M _ _ u) fun t'=>k a b c t t' e3
theorem Vc{a:List Nat}{n:Int}(h1:n.toNat*a.length<=ag\/a.length*n.toNat<=ag)(hn:0<n):¬((2^63-1:Int)/n<a.length):=fun h5=>by
 have h6:=(Int.ediv_lt_iff_lt_mul hn).mp h5
 have hl:a.length*n.toNat<=16777216:=h1.elim (fun h=>by rw[Nat.mul_comm];exact h) id
 have e1:((a.length*n.toNat:Nat):Int)<=16777216:=Gj.mpr hl
 rw[Int.natCast_mul,Ih (Ip hn)]at e1
 lia
theorem Vd{x y r:PV}{v u:Value}{ns ms:List Addr}(k:KG s₀ s)(hx:VR s.heap x v ns)(hy:VR s.heap y u ms)(e:Od x y=some r)
  (tL:bb=true->∀l,r= .list l->l.all PV.aZ=true):Am (Af prog w) A (binaryOp .Add v u) (Got s₀ bb r) E s:=by
 cases x with
 |int a=>
  refine hx.ee fun t=>?_
  refine oB e fun b e1 e2=>?_
  obtain rfl:=Aa e2
  exact hy.dG e1 fun t=>P.add_int (.aZ (zI k (du ..)) (.int ..))
 |str a=>
  refine hx.eZ fun t=>?_
  refine oB e fun b e1 e2=>?_
  refine oI e2 fun hl e2=>?_
  obtain rfl:=Aa e2
  exact hy.g8 e1 fun t=>P.add_str (U7 k hl)
 |list Ve=>
  refine hx.dB fun a1 Vf Vg nj tM=>?_
  refine oB e fun b e1 e2=>?_
  refine oI e2 fun hl e2=>?_
  obtain rfl:=Aa e2
  refine hy.g9 e1 fun c us ms nk tN=>?_
  refine aJ nj fun n1 h1=>?_
  refine aJ nk fun n2 h2=>?_
  refine P.add_list h1 h2 ?_ (by(refine af A3 ?_;refine af A3 ?_;refine af tM.length ?_;refine af tN.length ?_;refine af Bm ?_);exact hl)
  refine af (List.append_toArray ..) ?_
  exact AL k (ak.append tM tN) fun hb=>ak.aD (ak.append tM tN) (tL hb _ rfl)
 |_=>exact nn e
theorem Vh{x y r:PV}{v u:Value}{ns ms:List Addr}(k:KG s₀ s)(hx:VR s.heap x v ns)(hy:VR s.heap y u ms)(e:Oe x y=some r):Am (Af prog w) A (binaryOp .Mult v u) (Got s₀ bb r) E s:=by
 cases x with
 |int a=>
  refine hx.ee fun t=>?_
  refine oB e fun b e1 e2=>?_
  refine oI e2 fun hl e2=>?_
  obtain rfl:=Aa e2
  exact hy.dG e1 fun t=>P.mul_int (.aZ (zI k (du ..)) (.int ..)) (U6 (b2 hl).1 (b2 hl).2)
 |str a=>
  refine hx.eZ fun t=>?_
  refine oB e fun n e1 e2=>?_
  refine oI e2 fun hl e2=>?_
  obtain rfl:=Aa e2
  have AM:=of_decide_eq_true (b2 hl).2
  have la:(⟨a.toArray⟩:Str).length=a.length:=by simp[Ce]
  refine hy.dG e1 fun t=>SB.mul ⟨?_,?_,?_⟩ fun t' k'=>?_
  ·refine au (FY.mp (b2 hl).1) fun h3 h4=>?_
   rw[E3];exact⟨decide_eq_false (by exact Lg.mpr yH),decide_eq_false (by exact Int.not_le.mpr yF)⟩
  ·intro h1 h2 Oo
   rw[la]at Oo
   by_cases hn:0<n
   ·exact Vc (.inr AM) hn Oo
   ·lia
  ·intro h1 h2
   refine af la ?_
   simp only[Kw,Bm];exact decide_eq_false (Es.mpr AM)
  ·refine af (U8 ..) ?_;exact .aZ (zI k (du ..)) (.str ..)
 |list Ve=>
  refine hx.dB fun a1 Vf Vg cQ bq=>?_
  refine oB e fun n e1 e2=>?_
  refine oI e2 fun hl e2=>?_
  obtain rfl:=Aa e2
  simp only[A0,decide_eq_true_eq,beq_iff_eq]at hl
  refine au hl fun bL h4=>?_
  refine au bL fun bL h3=>?_
  obtain⟨h1,h2⟩:=bL
  refine aJ (Ju.mp h1) fun p aP=>?_
  subst aP
  revert cQ
  refine bq.lP fun v hv cQ=>?_
  have:=hv.aD h2
  subst this
  refine hy.dG e1 fun t=>U9 cQ (by exact yH) (by exact yG) (by simp;exact yE) ?_
  refine af (Va ..) ?_
  exact AL k (ak.replicate hv _) fun _=>rfl
 |_=>exact nn e
theorem Vi{op:H0}{x y r:PV}{v u:Value}{ns ms:List Addr}(k:KG s₀ s)(hx:VR s.heap x v ns)(hy:VR s.heap y u ms)(e:AI op x y=some r)
  (tL:bb=true->∀l,r= .list l->l.all PV.aZ=true):Am (Af prog w) A (binaryOp op v u) (Got s₀ bb r) E s:=by
 have ki:∀{i:Int} {t:Nat},Got s₀ bb (.int i) (.int i t) {s with toks:=t+1}:= .aZ (zI k (du ..)) (.int ..)
 cases op with
 |Add=>exact Vd k hx hy e tL
 |Mult=>exact Vh k hx hy e
 |Sub=>
  refine u1 hx hy e fun a b c t t' e=>?_
  obtain rfl:=Aa e
  exact P.sub_int ki
 |FloorDiv=>
  refine u1 hx hy e fun a b c t t' e=>?_
  refine oI e fun hl e=>?_
  obtain rfl:=Aa e
  have h2:=of_decide_eq_true (b2 hl).1
  refine PyProof.Rows.floordiv_int (Int.ne_of_gt h2) ?_ (Or.inl (Jv (by have:=of_decide_eq_true (b2 hl).2;lia)))
  refine af (Int.fdiv_eq_ediv_of_nonneg _ (Ip h2)) ?_
  exact ki
 |Mod=>
  refine u1 hx hy e fun a b c t t' e=>?_
  refine oI e fun hl e=>?_
  obtain rfl:=Aa e
  have h2:=of_decide_eq_true hl
  refine PyProof.Rows.mod_int (Int.ne_of_gt h2) ?_
  refine af (Int.fmod_eq_emod_of_nonneg _ (Ip h2)) ?_
  exact ki
 |Pow=>
  refine u1 hx hy e fun a b c t t' e=>?_
  refine oI e fun hl e=>?_
  obtain rfl:=Aa e
  refine au (b2 hl) fun hl h3=>?_
  refine au (b2 hl) fun h1 h2=>?_
  obtain rfl:=of_decide_eq_true h1
  have h2:=of_decide_eq_true h2
  have h3:=of_decide_eq_true h3
  refine PyProof.Rows.pow_int h2 ?_ ki
  have h5:(E9 2:Int)<=64:=Gj.mpr (intBits_le_64 (by decide) (by decide))
  have h6:(E9 2:Int)*b<=64*60:=Int.mul_le_mul h5 h3 h2 (by decide)
  exact yE
 |_=>exact nn e
end
section
variable{prog:Program}{w:Cn}{A:Al}{E:Value->Ab->Prop}{s s₀:Ab}{bb:Bool}
theorem Vj{x y:PV}{v u:Value}{ns ms:List Addr}{b:Bool}(hx:VR s.heap x v ns)(hy:VR s.heap y u ms)(e:Of x y=some b)(A':Al):Ma A' s v u b:=by
 cases hx with
 |int a t=>obtain⟨c,e1,rfl⟩:=wX e;exact hy.dG e1 fun _=>(MeetsSeq.EqGives.int _ _ _ _).at _ _
 |str a t=>obtain⟨c,e1,rfl⟩:=wX e;exact hy.g8 e1 fun _=>(SeqRoads2.EqGives.str _ _ _ _).at _ _
 |_=>exact nn e
noncomputable def AN(s:Ab)(vs us:List Value)(b:Bool):Prop:=∃e:Nat->Bool,(∀j (h1:j<vs.length) (h2:j<us.length),∀A',Ma A' s vs[j] us[j] (e j))/\(Au vs.length).all e=b
theorem AN.cons{s:Ab}{v u:Value}{vs us:List Value}{x y:Bool}(h0:∀A',Ma A' s v u x)(h:AN s vs us y):AN s (v::vs) (u::us) (x&&y):=by
 refine aB h fun e h1 h2=>?_
 refine i12 (fun j=>Nat.casesOn j x e) (fun j=>?_) ?_
 ·cases j with
  |zero=>exact fun _ _=>h0
  |succ j=>exact fun h3 h4=>h1 j (Ha h3) (Ha h4)
 ·(refine af Cf ?_;refine af List.range_succ_eq_map ?_;refine af K6 ?_;refine af Hb ?_;refine ct h2 ?_);rfl
theorem Oq:∀{xs ys:List PV} {vs us:List Value} {ns ms:List Addr} {b:Bool},ak s.heap xs vs ns->ak s.heap ys us ms->tG xs ys=some b->AN s vs us b:=by
 intro xs
 induction xs with
 |nil=>
  intro ys vs us ns ms b hx hy h
  cases ys with
  |nil=>
   refine hx.lO (hy.lO ?_)
   obtain rfl:=Aa h
   exact i12 (fun _=>true) (fun j h1=>absurd h1 (Gr _)) rfl
  |cons=>exact nn h
 |cons x xs ih=>
  intro ys vs us ns ms b hx hy h
  cases ys with
  |nil=>exact nn h
  |cons y ys=>
   refine oB h fun c e1 h=>?_
   obtain⟨d,e2,rfl⟩:=wX h
   exact hx.fc fun v n us ms hv hs=>hy.fc fun _ _ _ _ hu ht=> .cons (Vj hv hu e1) (ih hs ht e2)
noncomputable def GB(s₀:Ab)(b:Bool)(r:Value)(s':Ab):Prop:=r= .bool b/\KG s₀ s'
theorem Vk{x y:PV}{v u:Value}{ns ms:List Addr}{b:Bool}(k:KG s₀ s)(hx:VR s.heap x v ns)(hy:VR s.heap y u ms)(hu:A.units<cLine)(e:vEq x y=some b):Am (Af prog w) A (Ku .Eq v u) (GB s₀ b) E s:=by
 cases hx with
 |int a t=>obtain⟨c,e1,rfl⟩:=wX e;exact hy.dG e1 fun _=>P.eq_int ⟨rfl,k⟩
 |str a t=>obtain⟨c,e1,rfl⟩:=wX e;exact hy.g8 e1 fun _=>P.eq_str ⟨rfl,k⟩
 | @list _ ps _ _ hl hs=>
  refine oB e fun c e1 e=>?_
  refine hy.g9 e1 fun d us ms gB dg=>?_
  have l1:=hs.length
  have l2:=dg.length
  by_cases hlen:(ps.length==c.length)=true
  ·rw[if_pos hlen]at e
   refine aB (Oq hs dg e) fun f h1 h2=>?_
   refine SeqAt.eq_listAt hl.isList gB.isList (by simp[l1,l2,beq_iff_eq.mp hlen]) hu (e:=f) (fun j h3 h4=>?_) ⟨?_,k⟩
   ·simpa using h1 j (by exact h3) (by exact h4) A.in1
   ·rw[A3,h2]
  ·rw[if_neg hlen]at e
   obtain rfl:=Aa e
   refine SeqAt.eq_list_lengthsAt hl.isList gB.isList ?_ hu ⟨rfl,k⟩
   rw[A3,A3,l1,l2,bne_iff_ne]
   exact fun q=>hlen (beq_iff_eq.mpr q)
 |_=>exact nn e
theorem Vl{x y:PV}{v u:Value}{ns ms:List Addr}{b:Bool}(k:KG s₀ s)(hx:VR s.heap x v ns)(hy:VR s.heap y u ms)(hu:A.units<cLine)(e:vEq x y=some b):Am (Af prog w) A (Ku .NotEq v u) (GB s₀ !b) E s:=by
 cases hx with
 |int a t=>obtain⟨c,e1,rfl⟩:=wX e;exact hy.dG e1 fun _=>P.ne_int ⟨rfl,k⟩
 |str a t=>obtain⟨c,e1,rfl⟩:=wX e;exact hy.g8 e1 fun _=>P.ne_str ⟨rfl,k⟩
 | @list _ ps _ _ hl hs=>
  refine oB e fun c e1 e=>?_
  refine hy.g9 e1 fun d us ms gB dg=>?_
  have l1:=hs.length
  have l2:=dg.length
  by_cases hlen:(ps.length==c.length)=true
  ·rw[if_pos hlen]at e
   refine aB (Oq hs dg e) fun f h1 h2=>?_
   refine Ln (SeqAt.RcNeAt.lists hl.isList gB.isList (by simp[l1,l2,beq_iff_eq.mp hlen]) hu (e:=f) (fun j h3 h4=>?_)) ⟨?_,k⟩
   ·simpa using h1 j (by exact h3) (by exact h4) A.in1
   ·rw[A3,h2]
  ·rw[if_neg hlen]at e
   obtain rfl:=Aa e
   refine Ln (SeqAt.RcNeAt.lists_lengths hl.isList gB.isList ?_ hu) ⟨rfl,k⟩
   rw[A3,A3,l1,l2,bne_iff_ne]
   exact fun q=>hlen (beq_iff_eq.mpr q)
 |_=>exact nn e
@[elab_as_elim] theorem AO {h:Ap} {x y:PV} {v u:Value} {ns ms:List Addr} {f:Int->Int->Bool} {b:Bool} {M:Bool->Value->Value->Prop} (hx:VR h x v ns) (hy:VR h y u ms) (e:uU f x y=some b)
  (k:∀a b t t',M (f a b) (.int a t) (.int b t')):M b v u:=by
 refine oB e fun a e1 e=>?_
 obtain⟨c,e2,rfl⟩:=wX e
 exact hx.dG e1 (M:=fun v _=>M _ v u) fun t=>hy.dG e2 (M:=fun u _=>M _ _ u) fun t'=>k a c t t'
@[elab_as_elim] theorem Ot {h:Ap} {x y:PV} {v u:Value} {ns ms:List Addr} {b:Bool} {M:Bool->Value->Value->Prop} (hx:VR h x v ns) (hy:VR h y u ms) (e:FR x y=some b)
  (k:∀c (l:List Nat) t t',M (l.contains c) (.str ⟨[c].toArray⟩ t) (.str ⟨l.toArray⟩ t')):M b v u:=by
 refine oB e fun a e1 e=>?_
 refine oB e fun c e2 e=>?_
 obtain⟨d,e3,rfl⟩:=wX e
 obtain rfl:=nV e2
 exact hx.g8 e1 (M:=fun v _=>M _ v u) fun t=>hy.g8 e3 (M:=fun u _=>M _ _ u) fun t'=>k c d t t'
@[elab_as_elim] theorem Ou {h:Ap} {x y:PV} {v u:Value} {ns ms:List Addr} {b:Bool} {M:Bool->Value->Value->Prop} (hx:VR h x v ns) (hy:VR h y u ms) (e:FT x y=some b)
  (k:∀a b:Bool,M (a==b) (.bool a) (.bool b)):M b v u:=by
 refine oB e fun a e1 e=>?_
 obtain⟨c,e2,rfl⟩:=wX e
 exact hx.pM e1 (M:=fun v _=>M _ v u) (hy.pM e2 (M:=fun u _=>M _ _ u) (k a c))
theorem PV.iZ{p:PV}(e:p.isNone=true):p= .none:=by
 cases p with
 |none=>rfl
 |_=>exact ft e
@[elab_as_elim] theorem VR.pN {h:Ap} {p:PV} {v:Value} {ns:List Addr} {M:Value->List Addr->Prop} (x:VR h p v ns) (e:p.isNone=true) (k:M .none []):M v ns:=VR.lN (M:=M) (PV.iZ e▸x) k
theorem u2{op:CmpOp}{x y:PV}{v u:Value}{ns ms:List Addr}{b:Bool}(k:KG s₀ s)(hx:VR s.heap x v ns)(hy:VR s.heap y u ms)(hu:A.units<cLine)(e:AJ op x y=some b):
  Am (Af prog w) A (Ku op v u) (GB s₀ b) E s:=by
 have fo:∀(c:Nat) (l:List Nat),l.contains c=decide (c∈l):=fun c l=>Bx ..
 cases op with
 |Eq=>exact Vk k hx hy hu e
 |NotEq=>obtain⟨c,e1,rfl⟩:=wX e;exact Vl k hx hy hu e1
 |Lt=>exact AO hx hy e fun _ _ _ _=>P.lt_int ⟨rfl,k⟩
 |LtE=>exact AO hx hy e fun _ _ _ _=>P.le_int ⟨rfl,k⟩
 |Gt=>exact AO hx hy e fun _ _ _ _=>P.gt_int ⟨rfl,k⟩
 |GtE=>exact AO hx hy e fun _ _ _ _=>P.ge_int ⟨rfl,k⟩
 |NotIn=>
  obtain⟨c,e1,rfl⟩:=wX e
  exact Ot hx hy e1 (M:=fun c v u=>Am (Af prog w) A (Ku .NotIn v u) (GB s₀ !c) E s) fun c l t t'=>P.notIn_str ⟨by(refine af (Lo ..) ?_;exact af (fo ..) rfl),k⟩
 |In=>
  cases x with
  |int i=>
   refine oB e fun c e1 e=>?_
   obtain⟨is,e2,rfl⟩:=wX e
   exact hx.ee fun t=>hy.g9 e1 fun b vs ms hl hs=>PyProof.Rows.in_list_ints hl.isList (hs.ints e2) ⟨rfl,k⟩
  |str l=>exact Ot hx hy e fun c l t t'=>P.in_str ⟨by(refine af (Lo ..) ?_;exact af (fo ..) rfl),k⟩
  |_=>exact nn e
 |Is=>
  cases x with
  |none=>obtain⟨h,e⟩:=u0 e;obtain rfl:=Aa e;exact hx.lN (hy.pN h (is_none ⟨rfl,k⟩))
  |int=>obtain⟨h,e⟩:=u0 e;obtain rfl:=Aa e;exact hx.ee fun _=>hy.pN h (is_none ⟨rfl,k⟩)
  |bool=>exact Ou hx hy e fun _ _=>is_bool ⟨rfl,k⟩
  |_=>exact nn e
 |IsNot=>
  obtain⟨c,e1,rfl⟩:=wX e
  exact Ou hx hy e1 (M:=fun c v u=>Am (Af prog w) A (Ku .IsNot v u) (GB s₀ !c) E s) fun a c=>wpAny_isNot_plain rfl ⟨by cases a<;>cases c<;>rfl,k⟩
theorem u3{x:PV}{v:Value}{ns:List Addr}{b:Bool}(k:KG s₀ s)(hx:VR s.heap x v ns)(e:qP x=some b):
  Am (Af prog w) A (truthy v) (fun r s'=>r=b/\KG s₀ s') E s:=by
 cases x with
 |none=>obtain rfl:=Aa e;exact hx.lN (PyProof.Rows.truthy_none ⟨rfl,k⟩)
 |bool=>obtain rfl:=Aa e;exact hx.pH (F4 ⟨rfl,k⟩)
 |int=>obtain rfl:=Aa e;exact hx.ee fun t=>P.truthy_int ⟨rfl,zI k (jz _)⟩
 |str y=>
  refine hx.eZ fun t=>?_
  have e':(if y.length<=16777216 then some (!y.isEmpty)else none)=some b:=e
  refine oI e' fun h1 e'=>?_
  ·obtain rfl:=Aa e'
   have la:(⟨y.toArray⟩:Str).length=y.length:=by simp[Ce]
   refine P.truthy_str (by refine af la ?_;exact yJ) ⟨?_,zI k (du ..)⟩
   refine af la ?_
   cases y with
   |nil=>rfl
   |cons a r=>simp;lia
 |obj=>exact nn e
 |list ps=>
  refine hx.dB fun a vs ns hl hs=>?_
  have e':(if ps.length<=16777216 then some (!ps.isEmpty)else none)=some b:=e
  refine oI e' fun h1 e'=>?_
  ·obtain rfl:=Aa e'
   have l1:=hs.length
   refine wpAny_truthy_list hl.isList (by(refine af A3 ?_;refine af l1 ?_);exact yA) ⟨?_,zI k (du ..)⟩
   cases ps with
   |nil=>obtain rfl:=Eb l1;rfl
   |cons a r=>
    cases vs with
    |nil=>cases l1
    |cons=>rfl
end
theorem Vm(lo:Option Int)(n:Nat):C7 lo n<=n:=by
 unfold C7;split
 ·omega
 ·split<;>omega
theorem Vn(hi:Option Int)(n:Nat):Fs hi n<=n:=by
 unfold Fs;split
 ·omega
 ·split<;>omega
theorem Vo(lo hi:Option Int)(len:Nat):Cw lo hi 1 len=(Au (Fs hi len-C7 lo len)).map (C7 lo len+ ·):=by
 have h:Cw lo hi 1 len=Gx (Cj lo hi none len).1 (Cj lo hi none len).2.1 1:=by
  cases lo<;>cases hi<;>rfl
 refine af h ?_
 refine af (kms_bounds ..) ?_
 exact sliceRange_one _ _
theorem Vp{α:Type}(l:List α)(a k:Nat):((Au k).map (a+ ·)).filterMap (l[·]?)=(l.drop a).take k:=by
 have:=pick_run l.toArray a k
 simpa using this
section
variable{prog:Program}{w:Cn}{A:Al}{E:Value->Ab->Prop}{s s₀:Ab}{bb:Bool}
theorem Vq{x:List Nat}{t:Jr}{lo hi:Option (Int×Jr)}(k:KG s₀ s)(hx:x.length<=ag):
  (sliceMade ⟨x.toArray⟩ t lo hi none).post (Got s₀ bb (.str ((x.drop (C7 (lo.map (·.1)) x.length)).take (Fs (hi.map (·.1)) x.length-C7 (lo.map (·.1)) x.length)))) s:=by
 have la:(⟨x.toArray⟩:Str).length=x.length:=by simp[Ce]
 have hp:Kj ⟨x.toArray⟩ lo hi none=(Au (Fs (hi.map (·.1)) x.length-C7 (lo.map (·.1)) x.length)).map (C7 (lo.map (·.1)) x.length+ ·):=by
  unfold Kj
  refine af la ?_;exact Vo _ _ _
 have hf:(Kj ⟨x.toArray⟩ lo hi none).filterMap ((⟨x.toArray⟩:Str).cps[·]?)=(x.drop (C7 (lo.map (·.1)) x.length)).take (Fs (hi.map (·.1)) x.length-C7 (lo.map (·.1)) x.length):=by
  refine af hp ?_
  have:=Vp x (C7 (lo.map (·.1)) x.length) (Fs (hi.map (·.1)) x.length-C7 (lo.map (·.1)) x.length)
  refine ct this ?_
  congr 1
  funext i
  simp
 unfold sliceMade
 split
 ·rename_i h
  simp only[A0,beq_iff_eq]at h
  have h2:=h.2
  rw[hp,la,An,F5]at h2
  have h3:=Vn (hi.map (·.1)) x.length
  have h4:C7 (lo.map (·.1)) x.length=0:=by
   cases x with
   |nil=>exact Nat.le_zero.mp (Vm _ _)
   |cons a r=>simp only[Cf]at*;omega
  have e:(x.drop (C7 (lo.map (·.1)) x.length)).take (Fs (hi.map (·.1)) x.length-C7 (lo.map (·.1)) x.length)=x:=by
   refine af h2 ?_
   refine af h4 ?_
   refine af Dx ?_
   exact af Jh rfl
  refine af e ?_
  exact .aZ k (.str ..)
 ·refine af hf ?_
  refine cj ?_ (.aZ (zI k (du ..)) (.str ..))
  unfold ag at hx
  simp only[Ce,A3,Cs,Bu,Bm]
  omega
theorem u4{v:Value}{k:Option Int}(p:Js v k):∃q:Option (Int×Jr),v=partValue q/\q.map (·.1)=k:=by
 cases p with
 |none=>exact⟨none,rfl,rfl⟩
 |int i t=>exact⟨some (i,t),rfl,rfl⟩
theorem u5{value slice:Expr}{o i:Value}{T id:String}{Q:Value->Ab->Prop}(hT:s.TypeIs o T)
  (hl:Cq (.type T) "__getitem__" =pure (some (.builtin id))) (h:Am (Af prog w) A (I3 o i) Q E s)
  (hs:∃ops,Fn slice false o i=Jw ops (I3 o i)):
  Am (Af prog w) A (Hy value slice o i) Q E s:=by
 refine aJ hs fun ops hs=>?_
 refine Ac ?_
 rw[getitemInPython_of_ne hT.not_modules]
 refine Ac (D1 hT hl ?_)
 have fin:Am (Af prog w) A (Fn slice false o i) (fun r ao=>Am (Af prog w) A (letTemporaryGo value o r>>=fun _=>pure r) Q E ao) E s:=by
  rw[hs]
  exact wpAny_operating (Bq h (fun r ao aq=>Ac (wpAny_letTemporaryGo (Ak aq))) fun _ _ x=>x)
 first
  |exact Ak (Ac fin)
  |exact Ac (Ak (Ac fin))
  |exact Ac fin
theorem Vr{i:Int}{n j:Nat}(h:F2 i n=some j):(0<=i/\j=i.toNat/\j<n)\/(i<0/\-(n:Int)<=i/\j=(i+n).toNat/\j<n):=by
 unfold F2 at h
 by_cases h0:i<0
 ·simp only[h0,if_true]at h
  split at h
  ·rename_i h1;obtain rfl:=Aa h;simp only[A0,decide_eq_true_eq]at h1;exact .inr ⟨h0,by omega,rfl,by omega⟩
  ·exact nn h
 ·simp only[h0,if_false]at h
  split at h
  ·rename_i h1;obtain rfl:=Aa h;simp only[A0,decide_eq_true_eq]at h1;exact .inl ⟨h1.1,rfl,by omega⟩
  ·exact nn h
theorem Vs{x y r:PV}{v u:Value}{ns ms:List Addr}{value slice:Expr}(k:KG s₀ s)(hx:VR s.heap x v ns)(hy:VR s.heap y u ms)(e:tH x y=some r)(hb:bb=true->r.aZ=true)
  (hs:∀o i,Fn slice false o i=Jw [o,i] (I3 o i)):Am (Af prog w) A (Hy value slice v u) (Got s₀ bb r) E s:=by
 cases x with
 |str s'=>
  cases y with
  |int i=>
   refine oI e fun hf e=>?_
   obtain⟨c,e1,rfl⟩:=wX e
   have hf:=FY.mp hf
   refine hx.eZ fun t=>hy.ee fun u=>?_
   refine u5 (Hp _ _ _) F.slot_str_getitem.lookup ?_ ⟨_,hs _ _⟩
   refine P.getItem_str (c:=c) ?_ ?_ (.aZ (zI k (du ..)) (.str ..))
   ·rw[E3];exact⟨decide_eq_false (by omega),decide_eq_false (by omega)⟩
   ·have la:∀z:List Nat,(⟨z.toArray⟩:Str).length=z.length:=fun z=>by simp[Ce]
    refine af (la ..) ?_
    refine oB e1 fun j e2 e3=>?_
    refine af e2 ?_;simpa using e3
  |_=>exact nn e
 |list l=>
  cases y with
  |int i=>
   refine oI e fun hf e=>?_
   have hf:=FY.mp hf
   refine oB e fun j e2 e3=>?_
   refine hx.dB fun la vs AP hl bq=>hy.ee fun u=>?_
   refine cX (bq.get e3) fun v' n' e4 e5 _=>?_
   have hT:=hl.isList.typeIs (s:=s)
   have g:Got s₀ bb r v' s:=⟨k,n',e5,fun q=>by refine af (e5.aD (hb q)) ?_;exact wL.nil _⟩
   refine u5 hT list_getitem_lookup ?_ ⟨_,hs _ _⟩
   have hlen:=bq.length
   rcases Vr e2 with⟨h0,rfl,h1⟩|⟨h0,h1,rfl,h2⟩
   ·exact wpAny_getItem_list hl.isList h0 (by omega) (by simpa using e4) g
   ·refine wpAny_getItem_list_neg hl.isList h0 (by simp only[A3,hlen];omega) (by omega) ?_ g
    simp only[A3,hlen]
    simpa using e4
  |_=>exact nn e
 |_=>exact nn e
end
section
variable{W:bu}{C:Cx}
theorem AQ{e:PE}{p:PV}(h:p.aZ=true):fresh e p=true:=by
 cases p<;>first|(cases e<;>rfl)|exact ft h
theorem Ov{a b:PE}{p:PV}(h:fresh (.jU a b) p=true):p.aZ=true:=by cases p<;>first|rfl|exact ft h
theorem Ow{a b:PE}{p:PV}(h:fresh (.gA a b) p=true):p.aZ=true:=by cases p<;>first|rfl|exact ft h
theorem Ox{c:PT}{a b:PE}{p:PV}(h:fresh (.ite c a b) p=true):p.aZ=true:=by cases p<;>first|rfl|exact ft h
theorem Vt{a b:PE}{p:PV}(h:fresh (.idx a b) p=true):p.aZ=true:=by cases p<;>first|rfl|exact ft h
theorem u6{D:Nat}{A:Al}(R:wH D A):A.units<cLine:=by have:=R.units;lia
theorem Got.from{s aa s':Ab}{b b':Bool}{p:PV}{v:Value}(k:KG s aa)(g:Got aa b' p v s')(hb:b=true->b'=true):Got s b p v s':=by
 obtain⟨k',ns,r,f⟩:=g
 exact⟨zI k k',ns,r,fun h=>(f (hb h)).back (zZ k)⟩
theorem av.bin{l r:Expr}{op:H0}{pos:Bz}{a b:PE}(hl:av W C l a)(hr:av W C r b):av W C (.BinOp l op r pos) (.bin op a b):=fun env A E s σ p P e=>by
 refine oB e fun x e1 e=>?_
 refine oB e fun y e2 e3=>?_
 refine wpAny_BinOp (zE (hl env A E s σ x P e1) fun v aa ah=>?_)
 obtain⟨k₁,ns,aA,_⟩:=ah
 refine zE (hr env A E aa σ y (P.kp k₁) e2) fun u s₂ ai=>?_
 obtain⟨k₂,ms,ba,_⟩:=ai
 refine Vi (zI k₁ k₂) (aA.sub (zZ k₂)) ba e3 fun hb l q=>?_
 subst q
 exact hb
theorem av.neg{x:Expr}{pos:Bz}{a:PE}(hx:av W C x a):av W C (.UnaryOp .USub x pos) (.neg a):=fun env A E s σ p P e=>by
 refine oB e fun y e1 e=>?_
 refine UnaryOp_ (zE (hx env A E s σ y P e1) fun v aa ah=>?_)
 obtain⟨k₁,ns,aA,_⟩:=ah
 cases y with
 |int i=>obtain rfl:=Aa e;exact aA.ee fun t=>PySem.P.neg_int (.aZ (zI k₁ (du ..)) (.int ..))
 |_=>exact nn e
theorem av.cmp{l r:Expr}{op:CmpOp}{pos:Bz}{a b:PE}(hl:av W C l a)(hr:av W C r b)(hm:Je op r=false):av W C (.Compare l [op] [r] pos) (.cmp op a b):=fun env A E s σ p P e=>by
 refine oB e fun x e1 e=>?_
 refine oB e fun y e2 e=>?_
 obtain⟨c,e3,rfl⟩:=wX e
 refine wpAny_Compare1 (zE (hl env A E s σ x P e1) fun v aa ah=>?_) hm
 obtain⟨k₁,ns,aA,_⟩:=ah
 refine zE (hr env A E aa σ y (P.kp k₁) e2) fun u s₂ ai=>?_
 obtain⟨k₂,ms,ba,_⟩:=ai
 refine zE (u2 (zI k₁ k₂) (aA.sub (zZ k₂)) ba (u6 P.room) e3) fun v ao aq=>?_
 refine au aq fun aG bF=>?_
 clear aq
 subst aG
 exact .aZ bF (.bool _)
theorem av.jU{l r:Expr}{pos:Bz}{a b:PE}(hl:av W C l a)(hr:av W C r b):av W C (.BoolOp .And [l,r] pos) (.jU a b):=fun env A E s σ p P e=>by
 refine oB e fun x e1 e=>?_
 refine oB e fun c e2 e=>?_
 refine BoolOp_and (zE (hl env A E s σ x P e1) fun v aa ah=>?_)
 obtain⟨k₁,ns,aA,_⟩:=ah
 refine zE (u3 (jz _) aA e2) fun c' s₂ ai=>?_
 refine au ai fun aG k₂=>?_
 clear ai
 subst aG
 cases c' with
 |false=>
  have e:some x=some p:=e
  obtain rfl:=Aa e
  refine⟨zI k₁ k₂,ns,aA.sub (zZ k₂),fun hf=>?_⟩
  rw[aA.aD (Ov hf)];exact wL.nil _
 |true=>
  have e:ev W.U b σ=some p:=e
  exact zE (hr env A E s₂ σ p ((P.kp k₁).kp k₂) e) fun u ao aq=>aq.from (zI k₁ k₂) fun hf=>AQ (Ov hf)
theorem av.gA{l r:Expr}{pos:Bz}{a b:PE}(hl:av W C l a)(hr:av W C r b):av W C (.BoolOp .Or [l,r] pos) (.gA a b):=fun env A E s σ p P e=>by
 refine oB e fun x e1 e=>?_
 refine oB e fun c e2 e=>?_
 refine BoolOp_or (zE (hl env A E s σ x P e1) fun v aa ah=>?_)
 obtain⟨k₁,ns,aA,_⟩:=ah
 refine zE (u3 (jz _) aA e2) fun c' s₂ ai=>?_
 refine au ai fun aG k₂=>?_
 clear ai
 subst aG
 cases c' with
 |true=>
  have e:some x=some p:=e
  obtain rfl:=Aa e
  refine⟨zI k₁ k₂,ns,aA.sub (zZ k₂),fun hf=>?_⟩
  rw[aA.aD (Ow hf)];exact wL.nil _
 |false=>
  have e:ev W.U b σ=some p:=e
  exact zE (hr env A E s₂ σ p ((P.kp k₁).kp k₂) e) fun u ao aq=>aq.from (zI k₁ k₂) fun hf=>AQ (Ow hf)
theorem di.cmp{l r:Expr}{op:CmpOp}{pos:Bz}{a b:PE}(hl:av W C l a)(hr:av W C r b)(hm:Je op r=false):di W C (.Compare l [op] [r] pos) (.cmp op a b):=fun env A E s σ c P e=>by
 refine oB e fun x e1 e=>?_
 refine oB e fun y e2 e3=>?_
 refine F3 (zE (hl env A E s σ x P e1) fun v aa ah=>?_) hm
 obtain⟨k₁,ns,aA,_⟩:=ah
 refine zE (hr env A E aa σ y (P.kp k₁) e2) fun u s₂ ai=>?_
 obtain⟨k₂,ms,ba,_⟩:=ai
 refine zE (u2 (zI k₁ k₂) (aA.sub (zZ k₂)) ba (u6 P.room) e3) fun v ao aq=>?_
 refine au aq fun aG bF=>?_
 clear aq
 subst aG
 exact F4 ⟨rfl,bF⟩
theorem di.not{x:Expr}{pos:Bz}{t:PT}(h:di W C x t):di W C (.UnaryOp .Not x pos) (.not t):=fun env A E s σ c P e=>by
 obtain⟨b,e1,rfl⟩:=wX e
 exact wpAny_isTrue_Not (zE (h env A E s σ b P e1) fun b' aa ah=>⟨by rw[ah.1],ah.2⟩)
noncomputable def nW(W:bu)(C:Cx)(es:List Expr)(ts:eh):Prop:=∀env A E s σ b,Pre W C env A σ s->uW W.U true ts σ=some b->Am (Af W.prog W.w) A (allTrue .And es env) (fun b' s'=>b'=b/\KG s s') E s
noncomputable def nX(W:bu)(C:Cx)(es:List Expr)(ts:eh):Prop:=∀env A E s σ b,Pre W C env A σ s->uW W.U false ts σ=some b->Am (Af W.prog W.w) A (allTrue .Or es env) (fun b' s'=>b'=b/\KG s s') E s
theorem nW.nil:nW W C [] .nil:=fun env A E s σ b P e=>by obtain rfl:=Aa e;exact wpAny_allTrue_And_nil ⟨rfl,jz _⟩
theorem nW.cons{x:Expr}{es:List Expr}{t:PT}{ts:eh}(h:di W C x t)(hs:nW W C es ts):nW W C (x::es) (.cons t ts):=fun env A E s σ b P e=>by
 refine oB e fun c e1 e=>?_
 refine wpAny_allTrue_And_cons (zE (h env A E s σ c P e1) fun b' aa ah=>?_)
 refine au ah fun aG k₁=>?_
 clear ah
 subst aG
 cases b' with
 |true=>exact zE (hs env A E aa σ b (P.kp k₁) e) fun nY s₂ ai=>⟨ai.1,zI k₁ ai.2⟩
 |false=>
  have e:some false=some b:=e
  obtain rfl:=Aa e
  exact cj rfl k₁
theorem nX.nil:nX W C [] .nil:=fun env A E s σ b P e=>by obtain rfl:=Aa e;exact wpAny_allTrue_Or_nil ⟨rfl,jz _⟩
theorem nX.cons{x:Expr}{es:List Expr}{t:PT}{ts:eh}(h:di W C x t)(hs:nX W C es ts):nX W C (x::es) (.cons t ts):=fun env A E s σ b P e=>by
 refine oB e fun c e1 e=>?_
 refine Hk (zE (h env A E s σ c P e1) fun b' aa ah=>?_)
 refine au ah fun aG k₁=>?_
 clear ah
 subst aG
 cases b' with
 |false=>exact zE (hs env A E aa σ b (P.kp k₁) e) fun nY s₂ ai=>⟨ai.1,zI k₁ ai.2⟩
 |true=>
  have e:some true=some b:=e
  obtain rfl:=Aa e
  exact cj rfl k₁
theorem di.and{es:List Expr}{ts:eh}{pos:Bz}(h:nW W C es ts):di W C (.BoolOp .And es pos) (.and ts):=fun env A E s σ b P e=>Ii (h env A E s σ b P e)
theorem di.or{es:List Expr}{ts:eh}{pos:Bz}(h:nX W C es ts):di W C (.BoolOp .Or es pos) (.or ts):=fun env A E s σ b P e=>Ii (h env A E s σ b P e)
theorem di.eG{x:Expr}{a:PE}(h:av W C x a)(he:∀env whole,Lc x env whole=(do let v<-whole;Kv x.pos;holding [v] (truthy v))):di W C x (.eG a):=fun env A E s σ b P e=>by
 refine oB e fun y e1 e2=>?_
 refine wpAny_isTrue_value (zE (h env A E s σ y P e1) fun v aa ah=>?_) (he _ _)
 obtain⟨k₁,ns,aA,_⟩:=ah
 exact u3 k₁ aA e2
theorem av.ite{t x y:Expr}{pos:Bz}{c:PT}{a b:PE}(ht:di W C t c)(hx:av W C x a)(hy:av W C y b):av W C (.IfExp t x y pos) (.ite c a b):=fun env A E s σ p P e=>by
 refine oB e fun q e1 e=>?_
 refine wpAny_IfExp (zE (ht env A E s σ q P e1) fun b' aa ah=>?_)
 refine au ah fun aG k₁=>?_
 clear ah
 subst aG
 cases b' with
 |true=>
  have e:ev W.U a σ=some p:=e
  exact zE (hx env A E aa σ p (P.kp k₁) e) fun u ao aq=>aq.from k₁ fun hf=>AQ (Ox hf)
 |false=>
  have e:ev W.U b σ=some p:=e
  exact zE (hy env A E aa σ p (P.kp k₁) e) fun u ao aq=>aq.from k₁ fun hf=>AQ (Ox hf)
theorem av.idx{x i:Expr}{pos:Bz}{a b:PE}(hx:av W C x a)(hi:av W C i b)(hs:∀o v,Fn i false o v=Jw [o,v] (I3 o v)):av W C (.Subscript x i pos) (.idx a b):=fun env A E s σ p P e=>by
 refine oB e fun y e1 e=>?_
 refine oB e fun z e2 e3=>?_
 refine Subscript_ (zE (hx env A E s σ y P e1) fun v aa ah=>?_)
 obtain⟨k₁,ns,aA,_⟩:=ah
 refine zE (hi env A E aa σ z (P.kp k₁) e2) fun u s₂ ai=>?_
 obtain⟨k₂,ms,ba,_⟩:=ai
 refine Vs (zI k₁ k₂) (aA.sub (zZ k₂)) ba e3 Vt hs
theorem jY.no:jY W C none .no:=fun env A E s σ k P e=>by obtain rfl:=Aa e;exact Ak ⟨.none,jz _⟩
theorem jY.yes{x:Expr}{a:PE}(hx:av W C x a):jY W C (some x) (.yes a):=fun env A E s σ k P e=>by
 refine oB e fun y e1 e=>?_
 refine zE (hx env A E s σ y P e1) fun v aa ah=>?_
 obtain⟨k₁,ns,aA,_⟩:=ah
 cases aA with
 |none=>obtain rfl:=Aa e;exact⟨.none,k₁⟩
 |int i t=>obtain rfl:=Aa e;exact⟨.int i t,k₁⟩
 |_=>exact nn e
theorem Vu(l:List Value)(lo hi:Option Int)(k:Int):slicePick l.toArray lo hi (some k)=((Gx (Cj lo hi (some k) l.length).1 (Cj lo hi (some k) l.length).2.1 (Cj lo hi (some k) l.length).2.2).filterMap (l[·]?)).toArray:=by
 unfold slicePick
 simp
section
variable{prog:Program}{w:Cn}{A:Al}{E:Value->Ab->Prop}{s s₀:Ab}{bb:Bool}
theorem Oy{S:Ab}{a:Addr}{xs m:List PV}{v vl vh vk:Value}{ns:List Addr}{lo hi st:Option Int}(kk:KG s₀ S)(r:VR S.heap (.list xs) v ns)(hS:S.heap.IsSliceOf a vl vh vk)(pl:Js vl lo)(ph:Js vh hi)(pk:Js vk st)(h0:st≠some 0)(hlen:xs.length<=ag)
  (hm:∀(vs:List Value) (ns:List Addr),ak S.heap xs vs ns->∃ws ms,slicePick vs.toArray lo hi st=ws.toArray/\ak S.heap m ws ms) (hb:bb=true->m.all PV.aZ=true) {value slice:Expr} (hs:∃ops,Fn slice false v (.ref a)=Jw ops (I3 v (.ref a))):
  Am (Af prog w) A (Hy value slice v (.ref a)) (Got s₀ bb (.list m)) E S:=by
 revert hs
 refine r.dB fun b vs ms hl bq hs=>?_
 refine u5 hl.isList.typeIs list_getitem_lookup ?_ hs
 refine dY (hm vs ms bq) fun ws m1 e1 g1=>?_
 refine wpAny_getItem_list_slice hl.isList hS pl ph pk h0 ?_ (by(refine af A3 ?_;refine af bq.length ?_;refine af Bm ?_);exact hlen)
 refine af e1 ?_
 exact AL kk g1 fun q=>g1.aD (hb q)
theorem Vv{S:Ab}{a:Addr}{x:List Nat}{v vl vh:Value}{ns:List Addr}{lo hi:Option Int}(kk:KG s₀ S)(r:VR S.heap (.str x) v ns)(hS:S.heap.get? a=some {cls:= .type "slice",data:= .fields #[vl,vh, .none]}) (pl:Js vl lo) (ph:Js vh hi) (hlen:x.length<=ag)
  {value slice:Expr} (hs:∃ops,Fn slice false v (.ref a)=Jw ops (I3 v (.ref a))):
  Am (Af prog w) A (Hy value slice v (.ref a)) (Got s₀ bb (.str ((x.drop (C7 lo x.length)).take (Fs hi x.length-C7 lo x.length)))) E S:=by
 refine aB (u4 pl) fun ql aP cw=>?_
 subst aP
 subst cw
 refine aB (u4 ph) fun qh aP cw=>?_
 subst aP
 subst cw
 revert hs
 refine r.eZ fun t hs=>?_
 refine u5 (Hp _ _ _) F.slot_str_getitem.lookup ?_ hs
 exact wpAny_getItem_str_slice (l:=ql) (u:=qh) (st:=none) ⟨_,hS,rfl,rfl⟩ rfl (Vq kk hlen)
theorem Oz{m:List PV}(h:(PV.list m).aZ=true\/∃ps,PV.list m= .list ps/\ps.all PV.aZ=true):m.all PV.aZ=true:=h.elim ft fun⟨_,e,k⟩=>PV.list.inj e▸k
theorem Vw{y p:PV}{v vl vh vk:Value}{ns:List Addr}{l h k:Option Int}(kk:KG s₀ s)(r:VR s.heap y v ns)(pl:Js vl l)(ph:Js vh h)(pk:Js vk k)(e:AK y l h k=some p)
  (hb:bb=true->p.aZ=true\/∃ps,p= .list ps/\ps.all PV.aZ=true) {value slice:Expr} (hs:∃ops,Fn slice false v (.ref s.heap.objs.size)=Jw ops (I3 v (.ref s.heap.objs.size))):
  Am (Af prog w) A (Hy value slice v (.ref s.heap.objs.size)) (Got s₀ bb p) E {s with heap:=s.heap.push {cls:= .type "slice",data:= .fields #[vl,vh,vk]} }:=by
 have kp:=pJ s {cls:= .type "slice",data:= .fields #[vl,vh,vk]} s.toks
 have fS:=r.sub (zZ kp)
 cases y with
 |str x=>
  cases k with
  |some kz=>exact nn e
  |none=>
   refine oI e fun hlen e=>?_
   obtain rfl:=Aa e
   cases pk
   exact Vv (zI kk kp) fS (Av _ rfl) pl ph hlen hs
 |list xs=>
  cases k with
  |none=>
   refine oI e fun hlen e=>?_
   obtain rfl:=Aa e
   refine Oy (zI kk kp) fS (Lh ..) pl ph pk (by decide) hlen (fun vs ns bq=>?_) (fun q=>Oz (hb q)) hs
   refine aB (bq.drop (C7 l xs.length)) fun m1 g1 g2=>?_
   refine aB (g1.take (Fs h xs.length-C7 l xs.length)) fun m2 g3 g4=>?_
   refine⟨_,m2,(kms_pick_eq _ _ _).trans ?_,g3⟩
   unfold kms_pick
   refine af List.toList_toArray ?_
   exact af bq.length rfl
  |some kz=>
   obtain⟨hlen,e⟩:=Vb e
   obtain rfl:=Aa e
   simp only[Eh,beq_iff_eq,decide_eq_true_eq,not_or]at hlen
   refine Oy (zI kk kp) fS (Lh ..) pl ph pk (by simpa using hlen.1) (Cg hlen.2) (fun vs ns bq=>?_) (fun q=>Oz (hb q)) hs
   exact aB (bq.pick (Gx (Cj l h (some kz) xs.length).1 (Cj l h (some kz) xs.length).2.1 (Cj l h (some kz) xs.length).2.2)) fun m1 g1 g2=>⟨_,m1,by(refine af (Vu ..) ?_;exact af bq.length rfl),g1⟩
 |_=>exact nn e
end
theorem av.bD{x:Expr}{lo hi st:Option Expr}{u7 pos:Bz}{a:PE}{b c d:PO}(hx:av W C x a)(hl:jY W C lo b)(hh:jY W C hi c)(fJ:jY W C st d):
  av W C (.Subscript x (.Slice lo hi st u7) pos) (.bD a b c d):=fun env A E s σ p P e=>by
 refine oB e fun y e1 e=>?_
 refine oB e fun l e2 e=>?_
 refine oB e fun h e3 e=>?_
 refine oB e fun k e4 e5=>?_
 refine Subscript_ (zE (hx env A E s σ y P e1) fun v aa ah=>?_)
 obtain⟨k₁,ns,aA,_⟩:=ah
 refine wpAny_Slice (zE (hl env A E aa σ l (P.kp k₁) e2) fun vl s₂ ai=>?_)
 refine au ai fun pl k₂=>?_
 refine zE (hh env A E s₂ σ h ((P.kp k₁).kp k₂) e3) fun vh ao aq=>?_
 refine au aq fun ph bF=>?_
 refine zE (fJ env A E ao σ k (((P.kp k₁).kp k₂).kp bF) e4) fun vk aS aU=>?_
 refine au aU fun pk cf=>?_
 have kk:KG s aS:=zI (zI (zI k₁ k₂) bF) cf
 have GA:VR aS.heap y v ns:=aA.sub fun b o e=>zZ cf b o (zZ bF b o (zZ k₂ b o e))
 have hs:∃ops,Fn (.Slice lo hi st u7) false v (.ref aS.heap.objs.size)=Jw ops (I3 v (.ref aS.heap.objs.size)):=by
  cases st<;>exact⟨_,rfl⟩
 refine Vw kk GA pl ph pk e5 (fun hf=>?_) hs
 cases p with
 |list ps=>exact .inr ⟨ps,rfl,hf⟩
 |_=>exact .inl rfl
theorem kX.nil:kX W C [] .nil:=fun env A E s σ ps P e pos=>by
 obtain rfl:=Aa e;exact wpAny_items_nil ⟨jz _,[], .nil⟩
theorem kX.cons{x:Expr}{es:List Expr}{a:PE}{r:jV}(hx:av W C x a)(hr:kX W C es r)(he:∀env,B6 (x::es) env=(false,eval x env)::B6 es env):kX W C (x::es) (.cons a r):=fun env A E s σ ps P e pos=>by
 refine oB e fun y e1 e=>?_
 obtain⟨ys,e2,rfl⟩:=wX e
 refine wpAny_items_cons (zE (hx env A E s σ y P e1) fun v aa ah=>?_) (he env)
 obtain⟨k₁,ns,aA,_⟩:=ah
 refine zE (hr env A E aa σ ys (P.kp k₁) e2 pos) fun vs s₂ ai=>?_
 obtain⟨k₂,ms,ba⟩:=ai
 exact⟨zI k₁ k₂,_, .cons (aA.sub (zZ k₂)) ba⟩
theorem av.list{es:List Expr}{r:jV}{pos:Bz}(h:kX W C es r):av W C (.List es pos) (.list r):=fun env A E s σ p P e=>by
 refine oB e fun ps e1 e=>?_
 split at e
 ·rename_i hlen
  obtain rfl:=Aa e
  refine List_ (zE (h env A E s σ ps P e1 pos) fun vs aa ah=>?_)
  obtain⟨k₁,ns,aA⟩:=ah
  have tO:=aA.length
  refine Cb (AL k₁ aA fun hf=>aA.aD hf) ?_
  refine(?_:vs.toArray.size<=sizeLine)
  rw[A3,tO,Bm];exact hlen
 ·exact nn e
end
theorem Vx:∀c:Fin 128,(Txt.lower ⟨#[c.1]⟩)=⟨#[if 65<=c.1&&c.1<=90 then c.1+32 else c.1]⟩:=by decide+kernel
theorem GC(sep:List Nat)(xs:List (List Nat)):Txt.join (mkStr sep) (xs.map mkStr)=mkStr (kW sep xs):=by
 refine(?_:(⟨((xs.map mkStr).drop 1).foldl (fun acc p=>acc++(mkStr sep).cps++p.cps) ((xs.map mkStr).headD Str.empty).cps⟩:Str)=_)
 have h:∀(r:List (List Nat)) (a:List Nat),(r.map mkStr).foldl (fun acc p=>acc++(mkStr sep).cps++p.cps) a.toArray=(kW sep (a::r)).toArray:=by
  intro r
  induction r with
  |nil=>intro a;rfl
  |cons b t ih=>
   intro a
   have e:a.toArray++(mkStr sep).cps++(mkStr b).cps=(a++sep++b).toArray:=by simp[mkStr]
   refine af Ds ?_
   refine af Fz ?_
   refine af e ?_
   refine af (ih ..) ?_
   cases t with
   |nil=>simp[kW]
   |cons c u=>simp[kW]
 cases xs with
 |nil=>rfl
 |cons a r=>exact congrArg Str.mk (h r a)
theorem OA(c:Nat):∀l:List Nat,cnt c l=(l.count c:Int)
 |[]=>by refine af (cnt_nil ..) ?_;rfl
 |a::r=>by
  refine af (cnt_cons ..) ?_
  refine af (OA c r) ?_
  refine af List.count_cons ?_
  by_cases h:a=c
  ·subst h;simp;omega
  ·refine af (if_neg h) ?_;simp[h]
theorem OC:∀(r:List Int) (a:Int),(r.foldl min a)∈a::r/\∀b∈a::r,r.foldl min a<=b
 |[],a=>⟨Ai ..,fun b hb=>by refine af (Ae.mp hb) ?_;exact Int.le_refl _⟩
 |c::r,a=>by
  refine au (OC r (min a c)) fun h1 h2=>?_
  refine cj ?_ (fun b hb=>?_)
  ·refine af Fz ?_
   rcases Ax.mp h1 with h|h
   ·refine af h ?_
    by_cases q:a<=c
    ·refine af (Int.min_eq_left q) ?_;exact Ai ..
    ·rw[Int.min_eq_right (by omega)];exact Aj _ (Ai ..)
   ·exact Aj _ (Aj _ h)
  ·refine af Fz ?_
   have h3:=h2 (min a c) (Ai ..)
   rcases Ax.mp hb with rfl|hb
   ·omega
   ·rcases Ax.mp hb with rfl|hb
    ·omega
    ·exact h2 b (Aj _ hb)
section
variable{prog:Program}{w:Cn}{A:Al}{E:Value->Ab->Prop}{s s₀:Ab}{bb:Bool}
theorem Vy{l:Addr}{vs:List Value}{is:List Int}{m:Int}(k:KG s₀ s)(hh:A.handled=none)(hl:s.heap.IsList l vs.toArray)(hi:Io vs is)(hm:FV is=some m):
  Am (Af prog w) A (call (.builtin "min") [.ref l]) (Got s₀ bb (.int m)) E s:=by
 refine aJ hi.allInts.items fun xs e=>?_
 have bY:is=xs.toList.map (·.1):=by
  refine ct hi.numsOf ?_
  refine ct (nums_intItems ..) ?_
  exact ct e rfl
 cases is with
 |nil=>exact nn hm
 |cons a r=>
 have hm:r.foldl min a=m:=Aa hm
 have hsz:0<xs.size:=by
  have:(a::r).length=xs.size:=by(refine af bY ?_;refine af (An ..) ?_;exact af Ij rfl)
  refine ct this ?_;simp
 rw[e]at hl
 refine min_intList hh hl hsz fun v h' tk hv hk=>?_
 refine aJ (intItems_at hv) fun t aP=>?_
 subst aP
 refine au (argBest_lt (Lp xs) (xs.size-1)) fun h1 h2=>?_
 refine au (OC r a) fun h3 h4=>?_
 have h5:Lp xs (argBest (fun i j=>decide (Lp xs i<Lp xs j)) (xs.size-1))∈a::r:=by
  (refine af bY ?_;refine af (numAt_eq ..) ?_);exact getD_mem (by(refine af (An ..) ?_;refine af Ij ?_);omega)
 have h6:Lp xs (argBest (fun i j=>decide (Lp xs i<Lp xs j)) (xs.size-1))<=r.foldl min a:=by
  rw[bY]at h3
  refine aB (mem_getD h3) fun j hj e3=>?_
  rw[An,Ij]at hj
  (refine ct e3 ?_;refine ct (numAt_eq ..) ?_);exact h2 j (by omega)
 have h7:=h4 _ h5
 have:Lp xs (argBest (fun i j=>decide (Lp xs i<Lp xs j)) (xs.size-1))=m:=by omega
 refine af this ?_
 exact .aZ (zI k (jA _ _ _ hk)) (.int ..)
theorem Vz{l:Addr}{vs:List Value}{is:List Int}(k:KG s₀ s)(hh:A.handled=none)(hl:s.heap.IsList l vs.toArray)(hi:Io vs is):
  Am (Af prog w) A (call (.builtin "sum") [.ref l]) (Got s₀ bb (.int is.sum)) E s:=by
 refine aJ hi.allInts.items fun xs e=>?_
 have bY:is=xs.toList.map (·.1):=by
  refine ct hi.numsOf ?_
  refine ct (nums_intItems ..) ?_
  exact ct e rfl
 rw[e]at hl
 refine sum_intListG hh hl fun h' tk t' hk=>?_
 rw[preSum_eq,Fu (by simp),<-bY]
 exact .aZ (zI k (jA _ _ _ hk)) (.int ..)
noncomputable def n5:Nat->String
 |0=> "len" |1=> "sum" |2=> "min" |3=> "min" |_=> "abs"
theorem OD{vs:List Value}{a:Int}(h:Io vs [a]):∃t,vs=[.int a t]:=by
 cases h with
 |cons i t h=>cases h;exact⟨t,rfl⟩
theorem VA{vs:List Value}{a b:Int}(h:Io vs [a,b]):∃t u,vs=[.int a t, .int b u]:=by
 cases h with
 |cons i t h=>obtain⟨u,rfl⟩:=OD h;exact⟨t,u,rfl⟩
theorem VB{x p:PV}{v:Value}{ns:List Addr}(k:KG s₀ s)(r:VR s.heap x v ns)(e:Og x=some p):Am (Af prog w) A (call (.builtin "len") [v]) (Got s₀ bb p) E s:=by
 cases x with
 |str x=>
  refine r.eZ fun t=>?_
  refine oI e fun hlen e=>?_
  obtain rfl:=Aa e
  have la:(⟨x.toArray⟩:Str).length=x.length:=by simp[Ce]
  refine PySem.P.len_str (by refine af la ?_;unfold ag at hlen;omega) ?_
  refine af la ?_
  exact .aZ (zI k (du ..)) (.int ..)
 |list ps=>
  refine r.dB fun a vs ms hl bq=>?_
  refine oI e fun hlen e=>?_
  obtain rfl:=Aa e
  have tO:=bq.length
  refine call_len_list hl.isList (by(refine af A3 ?_;refine af tO ?_);unfold ag at hlen;omega) ?_
  refine af A3 ?_
  refine af tO ?_
  exact .aZ (zI k (du ..)) (.int ..)
 |_=>exact nn e
@[elab_as_elim] theorem OE {h:Ap} {x r:PV} {v:Value} {ns:List Addr} {f:List Int->Option Int} {M:PV->Value->Prop} (hx:VR h x v ns) (e:FW f x=some r)
  (k:∀b vs is i,h.IsList b vs.toArray->Io vs is->f is=some i->M (.int i) (.ref b)):M r v:=by
 refine oB e fun a e1 e=>?_
 refine oB e fun is e2 e=>?_
 obtain⟨c,e3,rfl⟩:=wX e
 exact hx.g9 e1 fun b vs ms hl hs=>k b vs is c hl.isList (hs.ints e2) e3
theorem VC{f:Nat}{ps:List PV}{vs:List Value}{ns:List Addr}{p:PV}(hf:f<5)(k:KG s₀ s)(hh:A.handled=none)(r:ak s.heap ps vs ns)(e:tI f ps=some p):
  Am (Af prog w) A (call (.builtin (n5 f)) vs) (Got s₀ bb p) E s:=by
 revert e
 refine uO hf ?_ fun hf=>UR hf ?_ ?_ ?_ ?_
 rotate_left
 ·intro e
  refine oB e fun x e1 e=>?_
  obtain rfl:=nV e1
  exact r.lP fun v hv=>VB k hv e
 ·intro e
  refine oB e fun x e1 e=>?_
  obtain rfl:=nV e1
  exact r.lP fun v hv=>OE hv e fun b vs is i hl hi e=>by obtain rfl:=Aa e;exact Vz k hh hl hi
 ·intro e
  refine oB e fun x e1 e=>?_
  obtain rfl:=nV e1
  exact r.lP fun v hv=>OE hv e fun b vs is i hl hi e=>Vy k hh hl hi e
 ·intro e
  refine oB e fun is e1 e=>?_
  cases is with
  |nil=>exact nn e
  |cons a r=>
  cases r with
  |nil=>exact nn e
  |cons b r=>
  cases r with
  |cons=>exact nn e
  |nil=>
   obtain rfl:=Aa e
   refine gc (VA (r.ints e1)) fun t u cw=>?_
   subst cw
   refine min_two_ints hh fun h' tk hk=>?_
   by_cases AR:b<a
   ·(refine af (if_pos AR) ?_;refine af (if_pos AR) ?_);exact .aZ (zI k (jA _ _ _ hk)) (.int ..)
   ·(refine af (if_neg AR) ?_;refine af (if_neg AR) ?_);exact .aZ (zI k (jA _ _ _ hk)) (.int ..)
 ·intro e
  refine oB e fun is e1 e=>?_
  obtain⟨a,e2,rfl⟩:=wX e
  obtain rfl:=nV e2
  refine aJ (OD (r.ints e1)) fun t aP=>?_
  subst aP
  exact PyProof.Rows.call_abs_int fun u tk=> .aZ (zI k (du ..)) (.int ..)
end
section
variable{W:bu}{C:Cx}
theorem av.bi{x:Str}{f:Nat}{a:Expr}{r:List Expr}{es:jV}{p pos:Bz}(hf:f<5)(hk:C.kn.lookup x=some .globalImplicit)(hg:W.mg x=none)(hb:W.mb x=some (.builtin (n5 f)))(hd:(x==("__debug__" :Str))=false)
  (h:kX W C (a::r) es) (he:∀env,B6 (a::r) env=(false,eval a env)::B6 r env) (hp:∀env,(Jt pos (B6 r env)).any (·.1)=false):av W C (.Call (.Name x p) (a::r) [] pos) (.bi f es):=fun env A E s σ q P e=>by
 refine oB e fun ps e1 e2=>?_
 refine Eo rfl ?_
 refine A6 P.kind (by unfold Be;refine af P.names ?_;exact hk) (Cz (mg:=W.mg) (mb:=W.mb) ?_ hg ?_ hb ?_) hd
 ·refine af P.gl ?_;exact W.g P.wd
 ·refine af P.bl ?_;exact W.b P.wd
 ·refine callWith_builtin1 (zE (h env A E s σ ps P e1 pos) fun vs aa ah=>?_) (he env) (hp env)
  obtain⟨k₁,ns,aA⟩:=ah
  exact zE (VC hf k₁ P.room.hh aA e2 (bb:=true)) fun v s₂ ⟨k,ns,r,f⟩=>⟨k,ns,r,fun _=>f rfl⟩
theorem av.uc{x:Str}{k:Nat}{a:Expr}{r:List Expr}{es:jV}{p pos:Bz}(hk:C.kn.lookup x=some .globalImplicit)(hg:W.mg x=some (.ref (W.iY k)))(hd:(x==("__debug__" :Str))=false)
  (h:kX W C (a::r) es) (he:∀env,B6 (a::r) env=(false,eval a env)::B6 r env):av W C (.Call (.Name x p) (a::r) [] pos) (.uc k es):=fun env A E s σ q P e=>by
 refine oB e fun ps e1 e2=>?_
 refine Eo rfl ?_
 refine A6 P.kind (by unfold Be;rw[P.names];exact hk) (Dh (mg:=W.mg) ?_ hg ?_) hd
 ·rw[P.gl];exact W.g P.wd
 ·refine dY (W.nU k ⟨ps,q,e2⟩ P.wd) fun o fd ho gj=>?_
  refine Jx gj (zE (h env A E s σ ps P e1 pos) fun vs aa ah=>?_) (he env)
  obtain⟨k₁,ns,aA⟩:=ah
  refine cj (zZ k₁ _ _ ho) (F8 (E4 (W.call k A aa ps vs ns q P.room (P.kp k₁).wd aA e2) fun res s₂ ai=>?_))
  refine cX ai fun v ms cw k₂ ba=>?_
  clear ai
  subst cw
  refine⟨zI k₁ k₂,ms,ba,fun hf=>?_⟩
  have hp:q.aZ=true:=by cases q<;>first|rfl|exact ft hf
  rw[ba.aD hp];exact wL.nil _
theorem VD{x p:PV}(e:uV 1 x []=some p):∃c,x= .str [c]/\c<128/\p= .str [if 65<=c&&c<=90 then c+32 else c]:=by
 refine oB e fun s e1 e=>?_
 refine oB e fun c e2 e=>?_
 obtain rfl:=nV e2
 have e:Oh c=some p:=e
 refine oI e fun hc e=>?_
 exact FN c (x.bJ e1) hc ((Aa e).symm)
theorem VE{x y p:PV}(e:uV 0 x [y]=some p):∃sep l xs,x= .str sep/\y= .list l/\PV.strs l=some xs/\(xs.map B2).sum+xs.length*sep.length<=ag/\p= .str (kW sep xs):=by
 refine oB e fun s e1 e=>?_
 refine oB e fun z e2 e=>?_
 obtain rfl:=Aa e2
 refine oB e fun l e3 e=>?_
 refine oB e fun xs e4 e=>?_
 refine oI e fun hc e=>?_
 exact UU s l xs (x.bJ e1) (y.ej e3) e4 hc ((Aa e).symm)
theorem VF{x y p:PV}(e:uV 2 x [y]=some p):∃s c,x= .str s/\y= .str [c]/\p= .int (s.count c):=by
 refine oB e fun s e1 e=>?_
 refine oB e fun z e2 e=>?_
 obtain rfl:=Aa e2
 refine oB e fun t e3 e=>?_
 obtain⟨c,e4,rfl⟩:=wX e
 obtain rfl:=nV e4
 exact tD s c (x.bJ e1) (y.bJ e3) rfl
theorem av.lower{o:Expr}{apos pos:Bz}{a:PE}(ho:av W C o a)(bT:∀env,D7 o "lower" env (eval o env)=eval o env) (aV:(apos.endLine==pos.line)=true):
  av W C (.Call (.Attribute o "lower" apos) [] [] pos) (.me 1 a .nil):=fun env A E s σ p P e=>by
 refine oB e fun x e1 e=>?_
 refine kU (VD e) fun c aP hc gC=>?_
 subst aP
 subst gC
 refine Call_method0 (bT env) aV (zE (ho env A E s σ _ P e1) fun v aa ah=>?_)
 obtain⟨k₁,ns,aA,_⟩:=ah
 refine aA.eZ fun t=>?_
 have hl:Txt.lower ⟨[c].toArray⟩=⟨[if 65<=c&&c<=90 then c+32 else c].toArray⟩:=Vx ⟨c,hc⟩
 refine nh ("str") _ Ji F.slot_str_lower F.type_str_lower (Hp _ _ _) (fun _ e=>nomatch e) (Dq rfl (Ik ?_))
 refine SC.lower (by rw[hl];simp[Kw,Ce,Bm]) ?_
 rw[hl]
 exact .aZ (zI k₁ (du ..)) (.str ..)
theorem OF{name:Str}{o x:Expr}{apos pos:Bz}{T id:String}{a b:PE}{q y:PV}{env:Dv}{A:Al}{E:Value->Ab->Prop}{s:Ab}{σ:List (Option PV)}{bb:Bool}{p:PV}(ho:av W C o a)(hx:av W C x b)(P:Pre W C env A σ s)
  (bT:D7 o name env (eval o env)=eval o env) (hs:B6 [x] env=[(false,eval x env)]) (aV:(apos.endLine==pos.line)=true)
  (pa:PlainAttrs T) (sl:Slot T name id) (ty:typeOf (.builtin id)=pure (.type "method_descriptor")) (eo:ev W.U a σ=some q) (ex:ev W.U b σ=some y)
  (hT:∀(v:Value) (ns:List Addr) (aa:Ab),VR aa.heap q v ns->aa.TypeIs v T/\∀c,v= .ref c->∃ob,aa.heap.get? c=some ob/\ob.dict=none)
  (h:∀(v u:Value) (ns ms:List Addr) (aa:Ab),KG s aa->VR aa.heap q v ns->VR aa.heap y u ms->Am (Af W.prog W.w) A (call (.builtin id) [v,u]) (Got s bb p) E aa):
  Am (Af W.prog W.w) A (eval (.Call (.Attribute o name apos) [x] [] pos) env) (Got s bb p) E s:=by
 refine Jy bT hs aV (zE (ho env A E s σ q P eo) fun v aa ah=>?_)
 obtain⟨k₁,ns,aA,_⟩:=ah
 refine au (hT v ns aa aA) fun t1 t2=>?_
 refine nh T id pa sl ty t1 t2 (Dq rfl (evalArgs_plain (Ba (zE (hx env A E aa σ y (P.kp k₁) ex) fun u s₂ ai=>B7 ?_))))
 obtain⟨k₂,ms,ba,_⟩:=ai
 exact h v u ns ms s₂ (zI k₁ k₂) (aA.sub (zZ k₂)) ba
theorem OG{aa:Ab}{x:List Nat}{v:Value}{ns:List Addr}(r:VR aa.heap (.str x) v ns):aa.TypeIs v "str" /\∀c,v= .ref c->∃ob,aa.heap.get? c=some ob/\ob.dict=none:=by
 exact r.eZ fun t=>⟨Hp _ _ _,fun _ e=>nomatch e⟩
theorem OH{U:Uc}{f:Nat}{a b:PE}{σ:List (Option PV)}{p:PV}(e:ev U (.me f a (.cons b .nil)) σ=some p):∃q y,ev U a σ=some q/\ev U b σ=some y/\uV f q [y]=some p:=by
 refine oB e fun q e1 e=>?_
 refine oB e fun ys e2 e=>?_
 refine oB e2 fun y e3 e2=>?_
 have e2:some [y]=some ys:=e2
 obtain rfl:=Aa e2
 exact tD q y e1 e3 e
theorem av.join{o x:Expr}{apos pos:Bz}{a b:PE}(ho:av W C o a)(hx:av W C x b)(bT:∀env,D7 o "join" env (eval o env)=eval o env) (hs:∀env,B6 [x] env=[(false,eval x env)]) (aV:(apos.endLine==pos.line)=true):
  av W C (.Call (.Attribute o "join" apos) [x] [] pos) (.me 0 a (.cons b .nil)):=fun env A E s σ p P e=>by
 refine cX (OH e) fun q y e1 e3 e=>?_
 refine AG (VE e) fun sep l xs gC hV e4 hlen GD=>?_
 subst gC
 subst hV
 subst GD
 refine OF ho hx P (bT env) (hs env) aV Ji F.slot_str_join F.type_str_join e1 e3 (fun v ns aa r=>OG r) fun v u ns ms aa k r1 r2=>?_
 refine r1.eZ fun t1=>r2.dB fun a vs ms hl bq=>?_
 refine Hc (x:=mkStr sep) hl.isList (bq.strs e4) ?_ fun t' k'=>?_
 ·have h1:∀z:List Nat,(mkStr z).length=z.length:=fun z=>by simp[mkStr,Ce]
  refine af A8 ?_
  refine af (An ..) ?_
  refine af (h1 ..) ?_
  have h2:(Ce∘mkStr)=B2:=by funext z;exact h1 z
  unfold ag at hlen
  refine(?_:(List.map (Ce∘mkStr) xs).sum+_<=_)
  refine af h2 ?_;exact hlen
 ·refine af (GC ..) ?_
  exact .aZ (zI k (du ..)) (.str ..)
end
section
variable{prog:Program}{w:Cn}{A:Al}{E:Value->Ab->Prop}{s s₀:Ab}
theorem VG{h':Ap}{a c:Int}:∀(l:List Value) (o m:Nat),(∀j v,l[j]?=some v->∃t,v=Value.int (a+((o+j:Nat):Int)*c) t)->l.length=m->
   ak h' ((F9 o m).map fun(i:Nat)=>PV.int (a+(i:Int)*c)) l []:=by
  intro l
  induction l with
  |nil=>intro o m _ hm;cases hm;exact .nil
  |cons v l ih=>
   intro o m h hm
   cases m with
   |zero=>cases hm
   |succ m=>
    refine aJ (h 0 v rfl) fun t e=>?_
    refine af List.range'_succ ?_
    refine af Ds ?_
    refine .cons (n:=[]) ?_ (ih (o+1) m (fun j v e'=>?_) (by simpa using hm))
    ·refine af e ?_;exact .int ..
    ·refine aJ (h (j+1) v (by exact e')) fun t' GF=>?_
     exact cn t' (by refine af GF ?_;congr 3;omega)
theorem u9{i:Int}(h1:0<=i)(h2:i<=2000):Iq i=true:=A9.mpr (Jj (decide_eq_true (Du (by decide) h1)) (decide_eq_true (Gw h2 (by decide))))
theorem VH{a b c:Int}(ha:0<=a)(hb:b<=1000)(hc:0<c):∃n:Nat,n<=1000/\Jk a b c=n/\(if a<b then((b-a-1)/c+1).toNat else 0)=n:=by
 by_cases h:a<b
 ·have h0:0<=b-a-1:=Kk (Int.sub_pos_of_lt h)
  have hu:(b-a-1)/c+1<=1000:=Du (Int.add_le_add_right (Int.ediv_le_self _ h0) 1) (by rw[Int.sub_add_cancel];exact Du (Int.sub_le_self b ha) hb)
  exact⟨((b-a-1)/c+1).toNat,Int.toNat_le.mpr hu,(if_pos hc).trans ((if_pos h).trans (Ih (Int.add_nonneg (Int.ediv_nonneg h0 (Ip hc)) (by decide))).symm),if_pos h⟩
 ·exact⟨0,C0 _,(if_pos hc).trans (if_neg h),if_neg h⟩
theorem VI{r:Addr}{a b c:Int}{t u v:Jr}(hh:A.handled=none)(hr:IsRange s.heap r a b c t u v)(ha:0<=a)(VJ:a<=1000)(hb:0<=b)(j0:b<=1000)(hc:0<c)(kY:c<=1000)
  :Am (Af prog w) A (call (.type "list") [.ref r]) (Got s true (.list (qQ a b c))) E s:=by
 refine kU (VH ha j0 hc) fun n OI hn e3=>?_
 refine call_list_range hh hr ?_ hn (Ad OI (by decide)) fun h' tk lQ c' hk hS hi=>?_
 ·unfold Kx
  rw[hn,if_pos hc,u9 ha (Du VJ (by decide)),u9 hb (Du j0 (by decide)),u9 (Ip hc) (Du kY (by decide)),u9 (Ep n) (Du (Gj.mpr OI) (by decide)),u9 (i:=b+(c-1)) (Int.add_nonneg hb (Kk hc)) (Int.add_le_add j0 (Du (Int.sub_le_self c (by decide)) kY)),Bool.or_true]
  rfl
 ·refine⟨jA _ _ _ hk,[s.heap.objs.size],?_,fun _=>⟨by simp,fun a ha=>?_⟩⟩
  ·refine VR.list (vs:=lQ.toList) (ns:=[]) ⟨c',hS⟩ ?_
   refine au hi fun hsz hit=>?_
   have:=VG (h':=h') lQ.toList 0 lQ.size (fun j v e=>by simpa using hit j v (by simpa using e)) (by rfl)
   unfold qQ
   refine af e3 ?_
   refine af H6 ?_
   refine ct hsz ?_
   exact this
  ·have:a=s.heap.objs.size:=by exact Ae.mp ha
   subst this
   cases e:s.heap.get? s.heap.objs.size with
   |none=>rfl
   |some o=>exact absurd (Bk e) (Jd _)
end
section
variable{W:bu}{C:Cx}
theorem av.count{o x:Expr}{apos pos:Bz}{a b:PE}(ho:av W C o a)(hx:av W C x b)(bT:∀env,D7 o "count" env (eval o env)=eval o env) (hs:∀env,B6 [x] env=[(false,eval x env)]) (aV:(apos.endLine==pos.line)=true):
  av W C (.Call (.Attribute o "count" apos) [x] [] pos) (.me 2 a (.cons b .nil)):=fun env A E s σ p P e=>by
 refine cX (OH e) fun q y e1 e3 e=>?_
 refine cX (VF e) fun l c cw gC hV=>?_
 subst cw
 subst gC
 subst hV
 refine OF ho hx P (bT env) (hs env) aV Ji F.slot_str_count F.type_str_count e1 e3 (fun v ns aa r=>OG r) fun v u ns ms aa k r1 r2=>?_
 cases r1
 cases r2
 refine SC.count ?_
 have:Txt.count ⟨l.toArray⟩ ⟨[c].toArray⟩=(l.count c:Int):=by
  refine af (show(⟨[c].toArray⟩:Str)=⟨#[c]⟩from rfl) ?_
  refine af (count_cnt ..) ?_
  exact ct (OA ..) rfl
 refine af this ?_
 exact .aZ (zI k (du ..)) (.int ..)
theorem VK:∀{ps:List PV} {is:List Int},PV.ints ps=some is->ps=is.map .int:=by
 intro ps
 induction ps with
 |nil=>intro is e;obtain rfl:=Aa e;rfl
 |cons p r ih=>
  intro is e
  cases p with
  |int i=>obtain⟨y,e1,rfl⟩:=wX e;rw[ih e1];rfl
  |_=>exact nn e
theorem VL{ps:List PV}{p:PV}(e:tI 5 ps=some p):∃a b c,ps=[.int a, .int b, .int c]/\0<=a/\a<=1000/\0<=b/\b<=1000/\0<c/\c<=1000/\p= .list (qQ a b c):=by
 refine oB e fun is e1 e=>?_
 match is,e with
 |[a,b,c],e=>
  refine oI e fun h e=>?_
  refine au (b2 h) fun h h6=>?_
  refine au (b2 h) fun h h5=>?_
  refine au (b2 h) fun h h4=>?_
  refine au (b2 h) fun h h3=>?_
  refine au (b2 h) fun h1 h2=>?_
  exact⟨a,b,c,VK e1,of_decide_eq_true h1,of_decide_eq_true h2,of_decide_eq_true h3,of_decide_eq_true h4,of_decide_eq_true h5,of_decide_eq_true h6,(Aa e).symm⟩
 |[],e=>exact nn e
 |[_],e=>exact nn e
 |[_,_],e=>exact nn e
 |_::_::_::_::_,e=>exact nn e
theorem av.j9{a b c:Expr}{p1 p2 p3 pos:Bz}{es:jV}(pO:C.kn.lookup ("list" :Str)=some .globalImplicit) (qR:W.mg "list" =none) (lR:W.mb "list" =some (.type "list")) (GG:C.kn.lookup ("range" :Str)=some .globalImplicit) (VM:W.mg "range" =none) (VN:W.mb "range" =some (.type "range"))
  (h:kX W C [a,b,c] es) (he:∀env,B6 [a,b,c] env=(false,eval a env)::B6 [b,c] env) (hp:∀env,(Jt p2 (B6 [b,c] env)).any (·.1)=false):av W C (.Call (.Name "list" p1) [.Call (.Name "range" p3) [a,b,c] [] p2] [] pos) (.bi 5 es):=fun env A E s σ p P e=>by
 refine oB e fun ps e1 e2=>?_
 obtain⟨x,y,z,rfl,h1,h2,h3,h4,h5,h6,rfl⟩:=VL e2
 refine Eo rfl ?_
 refine A6 P.kind (by unfold Be;refine af P.names ?_;exact pO) (Cz (mg:=W.mg) (mb:=W.mb) ?_ qR ?_ lR ?_) (by decide)
 ·refine af P.gl ?_;exact W.g P.wd
 ·refine af P.bl ?_;exact W.b P.wd
 ·refine Cm ?_
  refine Ba ?_
  refine Eo rfl ?_
  refine A6 P.kind (by unfold Be;refine af P.names ?_;exact GG) (Cz (mg:=W.mg) (mb:=W.mb) ?_ VM ?_ VN ?_) (by decide)
  ·refine af P.gl ?_;exact W.g P.wd
  ·refine af P.bl ?_;exact W.b P.wd
  ·refine Cm (zE (h env A E s σ _ P e1 p2) fun vs aa ah=>?_) (he env) (hp env)
   obtain⟨k₁,ns,aA⟩:=ah
   refine aA.fc fun v1 n1 us m1 q1 aA=>?_
   refine aA.fc fun v2 n2 us m2 q2 aA=>?_
   refine aA.fc fun v3 n3 us m3 q3 aA=>?_
   refine aA.lO (q1.ee fun t1=>q2.ee fun t2=>q3.ee fun t3=>?_)
   refine call_range_3 (by omega) ?_ (Or.inl (Jv (by omega)))
   refine B7 ?_
   refine zE (VI P.room.hh (Av _ rfl) h1 h2 h3 h4 h5 h6) fun v s₂ ai=>?_
   obtain⟨k₂,ms,ba,qS⟩:=ai
   exact⟨zI k₁ (zI (pJ ..) k₂),ms,ba,fun _=>(qS rfl).back (fun b o e=>Ag _ (zZ k₁ b o e))⟩
end
noncomputable def qT(prog:Program)(w:Cn)(A:Al)(env:Dv)(E:Value->Ab->Prop)(Q:Ab->Prop):List (Str×Value)->Ab->Prop
 |[],s=>Q s
 |(x,v)::r,s=>Am (Af prog w) A (storeName env x v) (fun _ s'=>qT prog w A env E Q r s') E s
noncomputable def qU(prog:Program)(w:Cn)(A:Al)(target:Expr)(I:Addr)(env:Dv)(E:Value->Ab->Prop)(Q:Ab->Prop)(r:Option Value)(s:Ab):Prop:=
 ∃v,r=some v/\Am (Af prog w) A (E1 target (.ref I) v) (fun _ aa=>Am (Af prog w) A (assign target env v) (fun _ s₂=>Q s₂) E aa) E s
structure dy(prog:Program)(w:Cn)(A:Al)(target:Expr)(xs:List Str)(I:Addr)(fp wr:List Addr)(its:List (List PV))(St:Nat->Ap->Prop):Prop where
 sub:∀b∈wr,b∈fp
 frame:∀i h h',St i h->(∀b∈fp,∀o,h.get? b=some o->h'.get? b=some o)->St i h'
 bU:∀i h,St i h->∀b∈fp,∃o,h.get? b=some o
 qV:∀i h,St i h->∀b∈wr,∀items n,h.get? b≠some {cls:= .type "list",data:= .seq items n}
 item:∀i it (s:Ab) (env:Dv) (Q:Ab->Prop) (E:Value->Ab->Prop),its[i]?=some it->St i s.heap->
  (∀vs ns h' tk,ak h' it vs ns->(∀a∈ns,a∈fp)->it.length=xs.length->St (i+1) h'->(∀b o,b∉wr->s.heap.get? b=some o->h'.get? b=some o)->
   qT prog w A env E Q (xs.zip vs) {s with heap:=h',toks:=tk})->
  Am (Af prog w) A (Gy (.ref I)) (qU prog w A target I env E Q) E s
 done:∀(s:Ab) (Q:Option Value->Ab->Prop) (E:Value->Ab->Prop),St its.length s.heap->
  (∀h' tk,(∀b o,b∉wr->s.heap.get? b=some o->h'.get? b=some o)->Q none {s with heap:=h',toks:=tk})->Am (Af prog w) A (Gy (.ref I)) Q E s
 self:∀i (s:Ab) (Q:Value->Ab->Prop) (E:Value->Ab->Prop),St i s.heap->Q (.ref I) s->Am (Af prog w) A (Hq (.ref I)) Q E s
theorem dy.walks{prog:Program}{w:Cn}{A:Al}{x:Str}{px:Bz}{I:Addr}{fp fp' wr:List Addr}{its:List (List PV)}{P:Nat->Value->Prop}{St:Nat->Ap->Prop}(W:Walks prog w A I fp wr its.length P St)
  (cR:∀b∈fp,b∈fp') (Ex:Ap->Prop) (AS:∀h h',Ex h->(∀b∈fp',∀o,h.get? b=some o->h'.get? b=some o)->Ex h')
  (gD:∀i h,St i h->Ex h->∀b∈fp',∃o,h.get? b=some o)
  (qW:∀i h,St i h->∀b∈wr,∀items n,h.get? b≠some {cls:= .type "list",data:= .seq items n})
  (hit:∀i it v h h',its[i]?=some it->P i v->Ex h->(∀b o,b∉wr->h.get? b=some o->h'.get? b=some o)->Ex h'/\∃ns,ak h' it [v] ns/\∀a∈ns,a∈fp'):
  dy prog w A (.Name x px) [x] I fp' wr its (fun i h=>St i h/\Ex h) where
 sub:=fun b hb=>cR b (W.sub b hb)
 frame:=fun i h h' st k=>⟨W.frame i h h' st.1 fun b hb o e=>k b (cR b hb) o e,AS h h' st.2 k⟩
 bU:=fun i h st=>gD i h st.1 st.2
 qV:=fun i h st=>qW i h st.1
 item:=fun i it s env Q E hi st h=>by
  have aX:i<its.length:=(Bc.mp hi).1
  refine W.item i s _ E aX st.1 fun v h' tk hP i0 hk=>⟨v,rfl,B3 (show E1 (.Name x px) (.ref I) v=pure ()from rfl) ?_⟩
  refine Di ?_
  obtain⟨kb,ns,r,bY⟩:=hit i it v s.heap h' hi hP st.2 hk
  have:=h [v] ns h' tk r bY (by have:=r.length;exact this.symm) ⟨i0,kb⟩ hk
  exact this
 done:=fun s Q E st hQ=>W.done s Q E st.1 hQ
 self:=fun i s Q E st hQ=>W.self i s Q E st.1 hQ
theorem dy.i4{prog:Program}{w:Cn}{A:Al}(hh:A.handled=none){x y:Str}{px py pt:Bz}{k:Nat}{I:Addr}{fp fp' wr:List Addr}{its:List (List PV)}{Pt:Nat->Array Value->Prop}{St:Nat->Ap->Prop}{VO:Nat->Addr->Ap->Prop}(W:WalksT prog w A I fp wr its.length Pt St VO)
  (cR:∀b∈fp,b∈fp') (Ex:Ap->Prop) (AS:∀h h',Ex h->(∀b∈fp',∀o,h.get? b=some o->h'.get? b=some o)->Ex h')
  (gD:∀i h,St i h->Ex h->∀b∈fp',∃o,h.get? b=some o)
  (qW:∀i h,St i h->∀b∈wr,∀items n,h.get? b≠some {cls:= .type "list",data:= .seq items n})
  (hit:∀i it vs h h',its[i]?=some it->Pt i vs->Ex h->(∀b o,b∉wr->h.get? b=some o->h'.get? b=some o)->Ex h'/\∃v u ns,vs= #[v,u]/\ak h' it [v,u] ns/\∀a∈ns,a∈fp'):
  dy prog w A (.Tuple [.Name x px, .Name y py] k pt) [x,y] I fp' wr its (fun i h=>St i h/\Ex h) where
 sub:=fun b hb=>cR b (W.sub b hb)
 frame:=fun i h h' st k=>⟨W.frame i h h' st.1 fun b hb o e=>k b (cR b hb) o e,AS h h' st.2 k⟩
 bU:=fun i h st=>gD i h st.1 st.2
 qV:=fun i h st=>qW i h st.1
 item:=fun i it s env Q E hi st h=>by
  have aX:i<its.length:=(Bc.mp hi).1
  refine W.item i s _ E aX st.1 fun T vals h' tk hP hT GH va hk=>⟨_,rfl,?_⟩
  refine W.go _ _ _ i T _ _ E va fun ai cz aC=>?_
  have VP:T∉wr:=W.apart i T h' va
  obtain⟨kb,v,u,ns,rfl,r,bY⟩:=hit i it vals s.heap ai hi hP st.2 fun b o hb e=>aC b o hb (hk b o hb e)
  have n7:IsTup ai T #[v,u]:=by obtain⟨o,ho,rr⟩:=GH;exact⟨o,aC T o VP ho,rr⟩
  refine assign_Tuple_tuple hh n7 rfl rfl fun aq he=>?_
  have up:∀b o,ai.get? b=some o->aq.get? b=some o:=fun b o e=>he b o (Bo (Bk e)) e
  have hlen:it.length=2:=by have:=r.length;exact this.symm
  have:=h [v,u] ns aq tk (r.sub up) bY hlen ⟨W.frame _ _ _ cz fun b _ o e=>up b o e,AS _ _ kb fun b _ o e=>up b o e⟩ fun b o hb e=>up b o (aC b o hb (hk b o hb e))
  refine Et (Di (zE this fun _ aa ah=>?_))
  refine Et (Di (zE ah fun _ s₂ ai=>?_))
  exact I4 ai
 done:=fun s Q E st hQ=>W.done s Q E st.1 hQ
 self:=fun i s Q E st hQ=>W.self i s Q E st.1 hQ
section
variable{prog:Program}{w:Cn}{A:Al}{E:Value->Ab->Prop}{R:D3->Ab->Prop}{s:Ab}
theorem VQ{elt target iter:Expr}{ifs:List Expr}{scope:Scope}{pos:Bz}{I:Addr}{acc:Value}{env:Dv}(J:Nat->Ab->Prop)
  (turn:∀n s,J n s->
   Am (Af prog w) A (Gy (.ref I)) (fun r aa=>(r=none/\R (.ok .next) aa)\/qU prog w A target I env (Fv (Af prog w) A env fun e s'=>R (.error e) s') (fun s₂=>
     Am (Af prog w) A (forIn ifs true fun c r=>if r=true then do let ok<-Lc c env (eval c env);pure (B1 ok)else pure (B1 r)) (fun ok ao=>
      if ok=true then Am (Af prog w) A (eval elt env) (fun x aS=>
       Am (Af prog w) A (call (.builtin "list.append") [acc,x]) (fun _ cH=>∃m,m<n/\J m cH) (Fv (Af prog w) A env fun e s'=>R (.error e) s') aS) (Fv (Af prog w) A env fun e s'=>R (.error e) s') ao
      else ∃m,m<n/\J m ao) (Fv (Af prog w) A env fun e s'=>R (.error e) s') s₂) r aa) (Fv (Af prog w) A env fun e s'=>R (.error e) s') s)
  (n:Nat) (h:J n s):
  Ca (Af prog w) A (.compLoop (.ListComp elt [⟨target,iter,ifs,0⟩] scope pos) 0 (.ref I) acc env) R s:=by
 refine codeAny_loop rfl J (fun n s hI=>?_) n h
 refine(?_:Am _ A ((Lq (.ListComp elt [⟨target,iter,ifs,0⟩] scope pos) 0 (.ref I) acc env).onRaise (fun x=>do Hr x env;E2 x)) _ _ s)
 refine Kl ?_
 rw[compTurn_list]
 refine Ac (Ck (Ac (Bq (turn n s hI) (fun r aa ah=>?_) fun _ _ h'=>h')))
 rcases ah with⟨rfl,ah⟩|⟨v,rfl,ah⟩
 ·exact Ak ah
 ·refine Ac (Bq ah (fun _ pP fe=>?_) fun _ _ h'=>h')
  refine Ac (Bq fe (fun _ s₂ ai=>Ac (Bq ai (fun ok ao aq=>?_) fun _ _ h'=>h')) fun _ _ h'=>h')
  cases ok with
  |false=>exact Ak ⟨rfl,aq⟩
  |true=>
   exact Ac (Ac (Bq aq (fun x aS aU=>Ac (Bq aU (fun _ cH dH=>Ak (Ak ⟨rfl,dH⟩)) fun _ _ h'=>h')) fun _ _ h'=>h'))
noncomputable def GI(prog:Program)(w:Cn)(A:Al)(elt target:Expr)(ifs:List Expr)(I:Addr)(acc:Value)(env:Dv)(R:D3->Ab->Prop)(J:Nat->Ab->Prop)(n:Nat)(s:Ab):Prop:=
 Am (Af prog w) A (Gy (.ref I)) (fun r aa=>(r=none/\R (.ok .next) aa)\/qU prog w A target I env (Fv (Af prog w) A env fun e s'=>R (.error e) s') (fun s₂=>
  Am (Af prog w) A (forIn ifs true fun c r=>if r=true then do let ok<-Lc c env (eval c env);pure (B1 ok)else pure (B1 r)) (fun ok ao=>
   if ok=true then Am (Af prog w) A (eval elt env) (fun x aS=>
    Am (Af prog w) A (call (.builtin "list.append") [acc,x]) (fun _ cH=>∃m,m<n/\J m cH) (Fv (Af prog w) A env fun e s'=>R (.error e) s') aS) (Fv (Af prog w) A env fun e s'=>R (.error e) s') ao
   else ∃m,m<n/\J m ao) (Fv (Af prog w) A env fun e s'=>R (.error e) s') s₂) r aa) (Fv (Af prog w) A env fun e s'=>R (.error e) s') s
theorem OJ{elt target iter:Expr}{ifs:List Expr}{scope:Scope}{pos:Bz}{I:Addr}{acc:Value}{env:Dv}(J:Nat->Ab->Prop)(turn:∀n s,J n s->GI prog w A elt target ifs I acc env R J n s)(n:Nat)(h:J n s):
  Ca (Af prog w) A (.compLoop (.ListComp elt [⟨target,iter,ifs,0⟩] scope pos) 0 (.ref I) acc env) R s:=VQ J turn n h
theorem AU{scope:Scope}{env:Dv}(h:∀y∈scope.names,y.2= .free->∃c,env.cells.lookup y.1=some c):
  ∃cl,Li scope env=pure cl/\∀x c,env.cells.lookup x=some c->(x,Cd)∈scope.names->cl.lookup x=some c:=by
 have key:∀(ns:List (Str×C8)) (acc:List (Str×Addr)),(∀y∈ns,y.2= .free->∃c,env.cells.lookup y.1=some c)->(∀z∈acc,env.cells.lookup z.1=some z.2)->
   ∃cl,(forIn ns acc fun y cs=>if(y.2==Cd)=true then do let c<-cellOf env y.1;pure (B1 ((y.1,c)::cs))else pure (B1 cs))=(pure cl:Kf _)/\
    (∀z∈cl,env.cells.lookup z.1=some z.2)/\(∀z∈acc,z∈cl)/\∀x c,env.cells.lookup x=some c->(x,Cd)∈ns->(x,c)∈cl:=by
  intro ns
  induction ns with
  |nil=>intro acc _ ha;exact⟨acc,rfl,ha,fun _ h=>h,fun _ _ _ h=>nomatch h⟩
  |cons y r ih=>
   intro acc hn ha
   refine af (Gu ..) ?_
   by_cases hy:(y.2==Cd)=true
   ·have VS:y.2= .free:=by exact eq_of_beq hy
    refine aJ (hn y (Ai ..) VS) fun c hc=>?_
    obtain⟨cl,e1,e2,e3,e4⟩:=ih ((y.1,c)::acc) (fun z hz=>hn z (Aj _ hz)) (fun z hz=>by
     rcases Ax.mp hz with rfl|hz
     ·exact hc
     ·exact ha z hz)
    refine FO cl ?_ e2 (fun z hz=>e3 z (Aj _ hz)) (fun x c' hx hm=>?_)
    ·refine af (if_pos hy) ?_
     have i5:cellOf env y.1=pure c:=by unfold cellOf;exact af hc rfl
     refine af i5 ?_
     exact e1
    ·rcases Ax.mp hm with rfl|hm
     ·rw[hc]at hx;obtain rfl:=Aa hx;exact e3 _ (Ai ..)
     ·exact e4 x c' hx hm
   ·refine jS (ih acc (fun z hz=>hn z (Aj _ hz)) ha) fun cl e1 e2 e3 e4=>?_
    refine FO cl ?_ e2 e3 (fun x c' hx hm=>?_)
    ·refine af (if_neg hy) ?_;exact e1
    ·rcases Ax.mp hm with rfl|hm
     ·exact absurd rfl hy
     ·exact e4 x c' hx hm
 refine jS (key scope.names [] h (fun _ h=>nomatch h)) fun cl e1 e2 _ e4=>?_
 refine i12 cl ?_ (fun x c hx hm=>?_)
 ·show(forIn scope.names [] _>>=fun cs=>pure cs)=_
  have:(fun(y:Str×C8) (cs:List (Str×Addr))=>if(y.2==Cd)=true then do let c<-cellOf env y.1;pure (B1 ((y.1,c)::cs))else(pure (B1 cs):Kf _))=_:=rfl
  exact(congrArg (· >>=fun cs=>pure cs) e1)
 ·have hm:=e4 x c hx hm
  cases e:cl.lookup x with
  |none=>
   exfalso
   have:∀l:List (Str×Addr),(x,c)∈l->l.lookup x≠none:=by
    intro l
    induction l with
    |nil=>intro h;cases h
    |cons z r ih=>
     intro h
     refine af A7 ?_
     rcases Ax.mp h with h|h
     ·subst h;simp
     ·split
      ·simp
      ·exact ih h
   exact this cl hm e
  |some c'=>
   have:∀l:List (Str×Addr),l.lookup x=some c'->(x,c')∈l:=by
    intro l
    induction l with
    |nil=>intro h;exact nn h
    |cons z r ih=>
     intro h
     rw[A7]at h
     split at h
     ·rename_i hz
      obtain rfl:=Aa h
      have:x=z.1:=by exact eq_of_beq hz
      refine af this ?_;exact Ai ..
     ·exact Aj _ (ih h)
   have h1:=e2 _ (this cl e)
   rw[hx]at h1
   exact h1.symm
end
noncomputable def jB(kn:List (Str×C8))(sc:List (Str×C8)):List (Str×C8):=
 sc.map fun(n,k)=>if(k== .free&&kn.lookup n==some .cell)then(n, .cell)else(n,k)
noncomputable def kZ:Nat->List Str->List (Str×Nat)
 |_,[]=> []
 |n,x::r=>(x,n)::kZ (n+1) r
noncomputable def Cx.dZ(C:Cx)(scope:Scope)(xs:List Str):Cx:=⟨jB C.kn scope.names,kZ C.n xs++C.Γ,C.n+xs.length⟩
noncomputable def xV:List Str->Bool
 |[]=>true
 |x::r=>!r.contains x&&xV r
noncomputable def kc(C:Cx)(scope:Scope)(xs:List Str):Bool:=
 scope.kind== .function&&xV xs&&xs.all (fun x=>scope.names.lookup x==some .local)&&C.Γ.all (fun z=>decide (z.2<C.n))&&
 scope.names.all fun y=>y.2 != .cell&&(y.2 != .local||(scope.names.lookup y.1==some .local&&(xs.contains y.1||(C.Γ.lookup y.1).isNone)))&&
  (y.2 != .free||(C.kn.lookup y.1==some .cell||C.kn.lookup y.1==some .free))
section
variable(W:bu)(C:Cx)
noncomputable def iQ(ifs:List Expr)(ts:eh):Prop:=∀env A E s σ b,Pre W C env A σ s->nT W.U ts σ=some b->
 Am (Af W.prog W.w) A (forIn ifs true fun c r=>if r=true then do let ok<-Lc c env (eval c env);pure (B1 ok)else pure (B1 r)) (fun b' s'=>b'=b/\KG s s') E s
inductive kh(A:Al)(s:Ab)(target:Expr)(xs:List Str)(its:List (List PV))(F:List Addr->Prop)(it:Value)(s₂:Ab):Prop
 |mk (I:Addr) (fp wr:List Addr) (St:Nat->Ap->Prop) (e:it= .ref I) (k:KG s s₂) (d0:∀b∈wr,s.heap.get? b=none) (bU:∀b∈fp,∃o,s₂.heap.get? b=some o) (T:dy W.prog W.w A target xs I fp wr its St) (st:St 0 s₂.heap) (hF:F fp):kh A s target xs its F it s₂
noncomputable def i6(target:Expr)(xs:List Str)(iter:Expr)(src:nR):Prop:=∀env A E s σ its,Pre W C env A σ s->jX W.U src σ=some its->its.length<=ag->
 Am (Af W.prog W.w) A (eval iter env) (fun xv aa=>Am (Af W.prog W.w) A (Hq xv) (kh W A s target xs its fun _=>True) E aa) E s
end
section
variable{W:bu}{C:Cx}
theorem iQ.nil:iQ W C [] .nil:=fun env A E s σ b P e=>by obtain rfl:=Aa e;exact wpAny_tests_nil ⟨rfl,jz _⟩
theorem iQ.one{c:Expr}{t:PT}(h:di W C c t):iQ W C [c] (.cons t .nil):=fun env A E s σ b P e=>by
 refine oB e fun b' e1 e2=>?_
 have:b'=b:=by cases b'<;>(simp[nT]at e2;exact e2.symm)
 subst this
 exact wpAny_tests_one (h env A E s σ b' P e1)
theorem wF{xs:List Str}:∀{n:Nat} {x:Str} {i:Nat},(kZ n xs).lookup x=some i->∃j,i=n+j/\xs[j]?=some x:=by
 induction xs with
 |nil=>intro n x i h;exact nn h
 |cons y r ih=>
  intro n x i h
  unfold kZ at h
  rw[A7]at h
  split at h
  ·rename_i hx
   obtain rfl:=Aa h
   refine i12 0 rfl ?_
   have:x=y:=by exact eq_of_beq hx
   rw[this];rfl
  ·refine aB (ih h) fun j e1 e2=>?_
   exact i12 (j+1) (by exact Eq.trans ‹_› (Iv _ _ _)) (by exact e2)
theorem VT{xs:List Str}:∀{n:Nat} {x:Str},(kZ n xs).lookup x=none->x∉xs:=by
 induction xs with
 |nil=>intro n x _ h;cases h
 |cons y r ih=>
  intro n x h hm
  unfold kZ at h
  rw[A7]at h
  split at h
  ·exact sn h
  ·rename_i hx
   rcases Ax.mp hm with rfl|hm
   ·simp at hx
   ·exact ih h hm
theorem OK{α:Type}{l m:List (Str×α)}{x:Str}:(l++m).lookup x=(l.lookup x).or (m.lookup x):=by
 induction l with
 |nil=>simp
 |cons z r ih=>
  refine af B9 ?_
  refine af A7 ?_
  refine af A7 ?_
  split
  ·simp
  ·exact ih
theorem zS{α:Type}{l:List (Str×α)}{x:Str}{a:α}(h:l.lookup x=some a):(x,a)∈l:=by
 induction l with
 |nil=>exact nn h
 |cons z r ih=>
  rw[A7]at h
  split at h
  ·rename_i hx
   obtain rfl:=Aa h
   have:x=z.1:=by exact eq_of_beq hx
   rw[this];exact Ai ..
  ·exact Aj _ (ih h)
theorem vc{kn:List (Str×C8)}:∀{sc:List (Str×C8)} {x:Str} {k:C8},(jB kn sc).lookup x=some k->
  ∃aH,sc.lookup x=some aH/\(k=aH\/(aH= .free/\k= .cell))
 |[],_,_,h=>by exact nn h
 |(n,k₁)::r,x,k,h=>by
  have ih:= @vc kn r x k
  change Fp x ((if(k₁== .free&&kn.lookup n==some .cell)=true then(n,C4)else(n,k₁))::jB kn r)=some k at h
  rw[A7]at h⊢
  by_cases hc:(k₁== .free&&kn.lookup n==some .cell)=true
  ·rw[if_pos hc]at h
   split at h
   ·rename_i hx
    obtain rfl:=Aa h
    simp only[A0,beq_iff_eq]at hc
    refine af (show(x==n)=true from hx) ?_
    exact i12 k₁ rfl (.inr ⟨hc.1,rfl⟩)
   ·rename_i hx
    rw[show(x==n)=false by simpa using hx]
    exact ih h
  ·rw[if_neg hc]at h
   split at h
   ·rename_i hx
    obtain rfl:=Aa h
    refine af (show(x==n)=true from hx) ?_
    exact i12 _ rfl (.inl rfl)
   ·rename_i hx
    rw[show(x==n)=false by simpa using hx]
    exact ih h
inductive qX(m:Str->Option Value):List Str->List Value->Prop
 |nil:qX m [] []
 |cons {x v xs vs}:m x=some v->qX m xs vs->qX m (x::xs) (v::vs)
theorem qX.get{m:Str->Option Value}{xs:List Str}{vs:List Value}(b:qX m xs vs):∀{j:Nat} {x:Str} {v:Value},xs[j]?=some x->vs[j]?=some v->m x=some v:=by
 induction b with
 |nil=>intro j x v e;exact nn e
 |cons h _ ih=>
  intro j x v e1 e2
  cases j with
  |zero=>obtain rfl:=Aa e1;obtain rfl:=Aa e2;exact h
  |succ j=>exact ih (j:=j) e1 e2
theorem AV{prog:Program}{w:Cn}{A:Al}{E:Value->Ab->Prop}{bh:Dv}{Q:Ab->Prop}(hp:(bh.scope.kind== .class||(bh.scope.kind== .module&&bh.locals !=bh.globals))=false):
  ∀(xs:List Str) (vs:List Value) (s:Ab) (m:Str->Option Value),xs.length=vs.length->xV xs=true->(∀x∈xs,bh.kindOf x=some .local)->s.heap.Ns bh.locals m->
   (∀h' tk m',h'.Ns bh.locals m'->Co bh.locals s.heap h'->qX m' xs vs->(∀y,y∉xs->m' y=m y)->Q {s with heap:=h',toks:=tk})->qT prog w A bh E Q (xs.zip vs) s:=by
 intro xs
 induction xs with
 |nil=>
  intro vs s m hl _ _ hn h
  cases vs with
  |nil=>exact h s.heap s.toks m hn (fun _ _ _ e=>e) .nil fun _ _=>rfl
  |cons v vs=>cases hl
 |cons x xs ih=>
  intro vs s m hl hd hk hn h
  cases vs with
  |nil=>cases hl
  |cons v vs=>
  simp only[xV,A0,Dj,Bx,decide_eq_false_iff_not]at hd
  rw[Gz]
  refine wpAny_storeName_local (hk x (Ai ..)) hn (fun ah vd vf=>?_) hp
  refine ih vs _ _ (by simpa using hl) hd.2 (fun y hy=>hk y (Aj _ hy)) vd fun ai bR m₂ jC vg hb ho=>?_
  refine h ai bR m₂ jC (fun b o hb e=>vg b o hb (vf.extBut b o hb e)) (.cons ?_ hb) fun y hy=>?_
  ·rw[ho x hd.1];simp
  ·rw[ho y fun hm=>hy (Aj _ hm)]
   simp[show y≠x from fun q=>hy (q▸Ai ..)]
theorem bA{a b:Bool}(h:(a&&b)=true):a=true/\b=true:=A9.mp h
theorem Pre.kd{env:Dv}{A:Al}{σ:List (Option PV)}{s:Ab}{x:Str}{k:C8}(P:Pre W C env A σ s)(e:C.kn.lookup x=some k):env.kindOf x=some k:=(congrArg (Fp x) P.names).trans e
theorem Pre.out{env:Dv}{A:Al}{σ:List (Option PV)}{s:Ab}{x:Str}{i:Nat}{p:PV}(P:Pre W C env A σ s)(h:C.kn.lookup x=some .cell\/C.kn.lookup x=some .free)(e3:C.Γ.lookup x=some i)(e4:σ[i]?=some (some p)):
  ∃c v n,env.cells.lookup x=some c/\s.heap.IsCell c (some v)/\VR s.heap p v n:=
 have key:∀q,uX q=true->q≠ .local->C.kn.lookup x=some q->_:=fun q e2 hn e1=>
  dY (P.rd x i p q e1 e2 e3 e4) fun v n a r=>a.elim (fun h=>absurd (Aa ((P.kd e1).symm.trans h.1)) hn) fun h=>aB h.2 fun c hc hv=>⟨c,v,n,hc,hv,r⟩
 h.elim (key _ rfl nofun) (key _ rfl nofun)
theorem OL{scope:Scope}{xs:List Str}{env:Dv}{A:Al}{σ:List (Option PV)}{s s':Ab}{cl:List (Str×Addr)}{L:Addr}{it:List PV}
  (h1:(scope.kind== .function)=true) (P:Pre W C env A σ s) (k:KG s s') (h4:C.Γ.all (fun z=>decide (z.2<C.n))=true) (dc:∀x c,env.cells.lookup x=some c->scope.names.lookup x=some .free->cl.lookup x=some c) (hl:it.length=xs.length)
  (vi:∀(x:Str) (j:Nat) (p:PV) kk,xs[j]?=some x->it[j]?=some p->(jB C.kn scope.names).lookup x=some kk->(B8 scope cl L env).kindOf x=some kk->∃v ns,Acc (B8 scope cl L env) s'.heap x v/\VR s'.heap p v ns)
  (GJ:∀x aH i,scope.names.lookup x=some aH->x∉xs->C.Γ.lookup x=some i->uX aH=true->aH= .free)
  (k9:∀x,scope.names.lookup x=some .free->C.kn.lookup x=some .cell\/C.kn.lookup x=some .free)
  (VU:∀x,scope.names.lookup x=some .cell->∃c,cl.lookup x=some c):Pre W (C.dZ scope xs) (B8 scope cl L env) A (σ++it.map some) s':=by
 have cJ:(Fb scope env).names=jB C.kn scope.names:=by
  refine Ct fun z _=>?_
  refine(?_:(if(z.2==Cd&&env.scope.kind== .function&&env.scope.names.lookup z.1==some .cell)=true then _ else _)=_)
  rw[P.kind,P.names,show(G0==G0)=true from rfl,K7]
 refine⟨eq_of_beq h1,cJ,P.gl,P.bl,P.room,?_,fun x i p kk e1 e2 e3 e4=>?_,W.mono P.wd (zZ k),fun x kk e1 e2=>?_⟩
 ·refine(?_:(σ++it.map some).length=C.n+xs.length)
  rw[Ah,An,P.len,hl]
 ·have i7:(B8 scope cl L env).kindOf x=some kk:=(congrArg (Fp x) cJ).trans e1
  have e3:(kZ C.n xs++C.Γ).lookup x=some i:=e3
  rw[OK]at e3
  cases hx:(kZ C.n xs).lookup x with
  |some i'=>
   rw[hx]at e3
   obtain rfl:=Aa e3
   refine aB (wF hx) fun j aP hj=>?_
   subst aP
   rw[C1 (P.len▸C6 ..),P.len,G4,Bi]at e4
   refine aB (Bn.mp e4) fun q e q'=>?_
   exact vi x j p kk hj (Aa q'▸e) e1 i7
  |none=>
   rw[hx]at e3
   have e3:C.Γ.lookup x=some i:=e3
   rw[B4 (P.len▸of_decide_eq_true (Ao.mp h4 _ (zS e3)))]at e4
   refine aB (vc e1) fun aH e5 e6=>?_
   have hf:aH= .free:=e6.elim (fun q=>GJ x aH i e5 (VT hx) e3 (q▸e2)) (·.1)
   subst hf
   obtain⟨c,v,n,hc,hv,r⟩:=P.out (k9 x e5) e3 e4
   exact nQ v n (.inr ⟨e6.elim (fun q=> .inr (q▸i7)) (fun q=> .inl (q.2▸i7)),c,dc x c hc e5,hv.keeps (zZ k)⟩) (r.sub (zZ k))
 ·refine aB (vc (show(jB C.kn scope.names).lookup x=some kk from e1)) fun aH e5 e6=>?_
  refine(e6.elim (fun q=>q▸e2) (fun q=> .inr q.1):aH= .cell\/aH= .free).elim (fun q=>VU x (q▸e5)) fun q=>?_
  subst q
  exact aJ ((k9 x e5).elim (fun e=>P.eT x _ e (.inl rfl)) (fun e=>P.eT x _ e (.inr rfl))) fun c hc=>cn c (dc x c hc e5)
theorem ON{scope:Scope}{xs:List Str}{env:Dv}{A:Al}{σ:List (Option PV)}{s s':Ab}{cl:List (Str×Addr)}{L:Addr}{m:Str->Option Value}{it:List PV}{vs:List Value}{ns:List Addr}
  (bg:kc C scope xs=true) (P:Pre W C env A σ s) (k:KG s s') (dc:∀x c,env.cells.lookup x=some c->(x,Cd)∈scope.names->cl.lookup x=some c)
  (hn:s'.heap.Ns L m) (hb:qX m xs vs) (hr:ak s'.heap it vs ns) (hl:it.length=xs.length):Pre W (C.dZ scope xs) (B8 scope cl L env) A (σ++it.map some) s':=by
 refine au (bA bg) fun bg h5=>?_
 refine au (bA bg) fun bg h4=>?_
 refine au (bA bg) fun bg h3=>?_
 have h5:=fun x k (e:scope.names.lookup x=some k)=>Ao.mp h5 _ (zS e)
 refine OL (bA bg).1 P k h4 (fun x c h e=>dc x c h (zS e)) hl (fun x j p kk hj hg e1 i7=>?_) (fun x aH i e5 hx e3 e2=>?_) (fun x e5=>?_) fun x e5=>?_
 ·refine aB (vc e1) fun aH e5 e6=>?_
  have e5:=Aa ((eq_of_beq (Ao.mp h3 x (C2 hj))).symm.trans e5)
  have GL:kk= .local:=e6.elim (·.trans e5.symm) fun q=>nomatch e5.trans q.1
  refine cX (hr.get hg) fun v n e7 e8 _=>?_
  exact nQ v n (.inl ⟨GL▸i7,m,hn,hb.get hj e7⟩) e8
 ·have hm:=h5 x aH e5
  cases aH with
  | «local» =>simp[e3,hx]at hm
  |cell=>exact ft hm
  |free=>rfl
  |globalImplicit=>exact ft e2
  |globalExplicit=>exact ft e2
 ·have hm:=(bA (h5 x _ e5)).2
  simpa using hm
 ·exact ft (h5 x _ e5)
end
theorem VR.nodes{h:Ap}{p:PV}{v:Value}{ns:List Addr}(x:VR h p v ns):∀a∈ns,∃items n,h.get? a=some {cls:= .type "list",data:= .seq items n}:=
 VR.rec (motive_1:=fun _ _ ns _=>∀a∈ns,∃items n,h.get? a=some {cls:= .type "list",data:= .seq items n}) (motive_2:=fun _ _ ns _=>∀a∈ns,∃items n,h.get? a=some {cls:= .type "list",data:= .seq items n})
  (fun _ h=>(Aq h).elim) (fun _ _ h=>(Aq h).elim) (fun _ _ _ h=>(Aq h).elim) (fun _ _ _ h=>(Aq h).elim) (fun _ _ h=>(Aq h).elim)
  (fun hl _ ih a ha=>(Ax.mp ha).elim (fun q=>let⟨n,e⟩:=hl;⟨_,n,q▸e⟩) (ih a)) (fun _ h=>(Aq h).elim) (fun _ _ i1 i2 a ha=>(Bb.mp ha).elim (i1 a) (i2 a)) x
theorem ak.nodes{h:Ap}{p:List PV}{v:List Value}{ns:List Addr}(x:ak h p v ns):∀a∈ns,∃items n,h.get? a=some {cls:= .type "list",data:= .seq items n}:=
 x.ind (M:=fun _ _ ns=>∀a∈ns,∃items n,h.get? a=some {cls:= .type "list",data:= .seq items n}) (fun _ h=>(Aq h).elim) fun hv _ ih a ha=>(Bb.mp ha).elim (hv.nodes a) (ih a)
theorem ak.bU{h:Ap}{p:List PV}{v:List Value}{ns:List Addr}(r:ak h p v ns):∀a∈ns,∃o,h.get? a=some o:=fun a ha=>let⟨_,_,e⟩:=r.nodes a ha;⟨_,e⟩
theorem VR.bU{h:Ap}{p:PV}{v:Value}{ns:List Addr}(r:VR h p v ns):∀a∈ns,∃o,h.get? a=some o:=fun a ha=>let⟨_,_,e⟩:=r.nodes a ha;⟨_,e⟩
theorem wM{h:Ap}{c:Addr}{m:Str->Option Value}(hn:h.Ns c m){items:Array Value}{n:Nat}(e:h.get? c=some {cls:= .type "list",data:= .seq items n}):False:=by
 refine nO hn fun o es ep ho hd _=>?_
 rw[ho]at e;obtain rfl:=Aa e;cases hd
theorem VR.i8{h:Ap}{p:PV}{v:Value}{ns:List Addr}(r:VR h p v ns){c:Addr}{m:Str->Option Value}(hn:h.Ns c m):c∉ns:=fun ha=>let⟨_,_,e⟩:=r.nodes c ha;wM hn e
theorem lg{s s':Ab}(k:KG s s')(h:Ap)(t:Nat)(e:Sub s.heap h):KG s {s' with heap:=h,toks:=t}:=by
 obtain⟨h',t',g,rfl,_,x⟩:=k
 exact⟨h,t,g,rfl,e,x⟩
section
variable{W:bu}{C:Cx}
noncomputable def lS(U:Uc)(elt:PE)(ifs:eh)(σ:List (Option PV))(it:List PV):Option (Option PV):=
 (nT U ifs (σ++it.map some)).bind fun ok=>if ok then(ev U elt (σ++it.map some)).bind fun y=>if fresh elt y then some (some y)else none else some none
theorem VV{U:Uc}{pe:PE}{ts:eh}{σ:List (Option PV)}{it:List PV}{y:PV}(e:lS U pe ts σ it=some (some y)):nT U ts (σ++it.map some)=some true/\ev U pe (σ++it.map some)=some y/\fresh pe y=true:=by
 refine oB e fun ok e1 e2=>?_
 cases ok with
 |false=>exact nn (Aa e2)
 |true=>
  refine oB e2 fun z e3 e4=>?_
  refine oI e4 fun hf e5=>?_
  obtain rfl:=Aa (Aa e5)
  exact nP e1 e3 hf
theorem VW{U:Uc}{pe:PE}{ts:eh}{σ:List (Option PV)}{it:List PV}(e:lS U pe ts σ it=some none):nT U ts (σ++it.map some)=some false:=by
 refine oB e fun ok e1 e2=>?_
 cases ok with
 |false=>exact e1
 |true=>
  refine oB e2 fun z e3 e4=>?_
  exact sn (Aa (u0 e4).2)
theorem VX{f:List PV->Option (Option PV)}{it:List PV}{l:List (List PV)}{r:List PV}(e:zQ f (it::l)=some r):(∃y r',f it=some (some y)/\zQ f l=some r'/\r=y::r')\/(f it=some none/\zQ f l=some r):=by
 unfold zQ at e
 cases q:f it with
 |none=>rw[q]at e;exact nn e
 |some o=>
  rw[q]at e
  cases o with
  |none=>exact .inr ⟨rfl,e⟩
  |some y=>obtain⟨r',e1,rfl⟩:=wX e;exact .inl ⟨y,r',rfl,e1,rfl⟩
theorem VY{α:Type}{l:List α}{i:Nat}(h:i<l.length):∃x,l[i]?=some x/\l.drop i=x::l.drop (i+1):=⟨l[i],by simp[h],A5 h⟩
structure CS(s:Ab)(D:Addr)(fp:List Addr)(St:Nat->Ap->Prop)(J:Ap->Prop)(i:Nat)(ys:List Value)(qs:List PV)(ns:List Addr)(s':Ab):Prop where
 k:KG s s'
 st:St i s'.heap
 pl:s'.heap.PlainList D ys.toArray
 vs:ak s'.heap qs ys ns
 fr:wL s.heap ns
 dn:D∉ns
 nf:∀a∈ns,a∉fp
 j:J s'.heap
structure pQ(W:bu)(C':Cx)(bh:Dv)(A:Al)(σ:List (Option PV))(s:Ab)(xs:List Str)(D Z:Addr)(fp wr:List Addr)(J:Ap->Prop):Prop where
 nD:s.heap.get? D=none
 nZ:s.heap.get? Z=none
 d0:∀b∈wr,s.heap.get? b=none
 DZ:D≠Z
 Df:D∉fp
 Zf:Z∉fp
 qV:∀h,J h->∀items n,h.get? Z≠some {cls:= .type "list",data:= .seq items n}
 fr:∀h h',J h->(∀b o,b∉fp->b≠D->h.get? b=some o->h'.get? b=some o)->J h'
 store:∀(it:List PV) (us:List Value) (ms:List Addr) (s':Ab) (Q:Ab->Prop) (E:Value->Ab->Prop),J s'.heap->KG s s'->it.length=xs.length->ak s'.heap it us ms->Z∉ms->
  (∀h tk,J h->Co Z s'.heap h->Pre W C' bh A (σ++it.map some) {s' with heap:=h,toks:=tk}->Q {s' with heap:=h,toks:=tk})->qT W.prog W.w A bh E Q (xs.zip us) s'
inductive AW(s:Ab)(D:Addr)(fp:List Addr)(St:Nat->Ap->Prop)(J:Ap->Prop)(its:List (List PV))(ps:List PV)(F:List PV->Option (Option PV))(n:Nat)(s':Ab):Prop
 |mk (i:Nat) (ys:List Value) (qs rest:List PV) (ns:List Addr) (hn:n=its.length+1-i) (hi:i<=its.length) (S:CS s D fp St J i ys qs ns s') (run:zQ F (its.drop i)=some rest) (gU:ps=qs++rest) (tP:ys.length<=i):AW s D fp St J its ps F n s'
section
variable{C':Cx}{bh:Dv}{A:Al}{σ:List (Option PV)}{s s' bI:Ab}{xs:List Str}{D Z I:Addr}{fp wr:List Addr}{J:Ap->Prop}{target:Expr}{its:List (List PV)}{St:Nat->Ap->Prop}{i:Nat}{ys:List Value}{qs:List PV}{ns:List Addr}{h:Ap}{tk:Nat}
theorem CS.kp(B:pQ W C' bh A σ s xs D Z fp wr J)(T:dy W.prog W.w A target xs I fp wr its St)(S:CS s D fp St J i ys qs ns s')(k:KG s' bI):CS s D fp St J i ys qs ns bI:=
 ⟨zI S.k k,T.frame _ _ _ S.st fun b _ o e=>zZ k b o e,S.pl.at fun o e=>zZ k D o e,S.vs.sub (zZ k),S.fr,S.dn,S.nf,B.fr _ _ S.j fun b o _ _ e=>zZ k b o e⟩
theorem CS.fin(B:pQ W C' bh A σ s xs D Z fp wr J)(T:dy W.prog W.w A target xs I fp wr its St)(S:CS s D fp St J i ys qs ns s'){St':Nat->Ap->Prop}{i':Nat}(k:∀b o,b∉wr->s'.heap.get? b=some o->h.get? b=some o)(st:St' i' h):CS s D fp St' J i' ys qs ns {s' with heap:=h,toks:=tk}:=
 ⟨lg S.k _ _ fun b o e=>k b o (fun hb=>by rw[B.d0 b hb]at e;exact nn e) (zZ S.k b o e),st,S.pl.at fun o e=>k D o (fun h=>B.Df (T.sub _ h)) e,S.vs.on fun a ha o e=>k a o (fun hw=>S.nf a ha (T.sub _ hw)) e,S.fr,S.dn,S.nf,B.fr _ _ S.j fun b o hb _ e=>k b o (fun h=>hb (T.sub _ h)) e⟩
theorem CS.stored(B:pQ W C' bh A σ s xs D Z fp wr J)(T:dy W.prog W.w A target xs I fp wr its St)(S:CS s D fp St J i ys qs ns s')(j:J h)(k:Co Z s'.heap h):CS s D fp St J i ys qs ns {s' with heap:=h,toks:=tk}:=
 ⟨lg S.k _ _ fun b o e=>k b o (fun q=>by rw[q,B.nZ]at e;exact nn e) (zZ S.k b o e),T.frame _ _ _ S.st fun b hb o e=>k b o (fun q=>B.Zf (q▸hb)) e,S.pl.at fun o e=>k D o B.DZ e,
  S.vs.on fun a ha o e=>k a o (fun q=>let⟨_,_,e'⟩:=S.vs.nodes a ha;B.qV _ S.j _ _ (q▸e')) e,S.fr,S.dn,S.nf,j⟩
theorem CS.add(B:pQ W C' bh A σ s xs D Z fp wr J)(T:dy W.prog W.w A target xs I fp wr its St)(S:CS s D fp St J i ys qs ns s'){ls:List Addr}{v:Value}{y:PV}(k:KG s' bI)(r:VR bI.heap y v ls)(f:wL s'.heap ls)(pl:h.PlainList D (ys.toArray.push v))(b:Heap.SameBut D bI.heap h):
  CS s D fp St J i (ys++[v]) (qs++[y]) (ns++ls) {bI with heap:=h}:=by
 have dl:D∉ls:=fun m=>by obtain⟨n,e⟩:=S.pl;rw[f.new D m]at e;exact nn e
 refine⟨lg (zI S.k k) h bI.toks fun a o e=>b.extBut a o (fun q=>by rw[q,B.nD]at e;exact nn e) (zZ k a o (zZ S.k a o e)),T.frame _ _ _ S.st fun a ha o e=>b.extBut a o (fun q=>B.Df (q▸ha)) (zZ k a o e),by simpa using pl,
  .append ((S.vs.sub (zZ k)).on fun a ha o e=>b.extBut a o (fun q=>S.dn (q▸ha)) e) (.one (r.on fun a ha o e=>b.extBut a o (fun q=>dl (q▸ha)) e)),
  ⟨I5.mpr ⟨S.fr.nodup,f.nodup,fun a ha c hc q=>?_⟩,fun a ha=>(Bb.mp ha).elim (S.fr.new a) fun h=>ni (zZ S.k) (f.new a h)⟩,fun h=>(Bb.mp h).elim S.dn dl,
  fun a ha=>(Bb.mp ha).elim (S.nf a) fun h hf=>?_,B.fr _ _ S.j fun a o _ ha e=>b.extBut a o ha (zZ k a o e)⟩
 ·refine aJ (S.vs.bU a ha) fun o e=>?_
  rw[f.new a (q▸hc)]at e;exact nn e
 ·refine aJ (T.bU _ _ S.st a hf) fun o e=>?_
  rw[f.new a h]at e;exact nn e
theorem VZ{elt:Expr}{ifs:List Expr}{pe:PE}{ts:eh}{ps:List PV}{R:D3->Ab->Prop}{n:Nat}(B:pQ W C' bh A σ s xs D Z fp wr J)(T:dy W.prog W.w A target xs I fp wr its St)(br:av W C' elt pe)(cY:iQ W C' ifs ts)(hsz:its.length<=ag)
  (gk:∀s' ns,KG s s'->J s'.heap->VR s'.heap (.list ps) (.ref D) ns->wL s.heap ns->R (.ok .next) s') (x:AW s D fp St J its ps (lS W.U pe ts σ) n s'):
  GI W.prog W.w A elt target ifs I (.ref D) bh R (AW s D fp St J its ps (lS W.U pe ts σ)) n s':=by
 obtain⟨i,ys,qs,rest,ns,rfl,hi,S,run,gU,tP⟩:=x
 by_cases aX:i<its.length
 ·refine aB (VY aX) fun it hit dD=>?_
  rw[dD]at run
  have less:its.length+1-(i+1)<its.length+1-i:=Nat.sub_lt_sub_left (I6 aX) (Bj i)
  refine zE (T.item i it s' _ _ _ hit S.st fun us ms ai bR fT ff hlen cz aC=>?_) fun r aa h=> .inr h
  have dP:=S.fin (tk:=bR) B T aC cz
  refine B.store it us ms _ _ _ dP.j dP.k hlen fT (fun h=>B.Zf (ff _ h)) fun aq dj hJ he lT=>?_
  have n8:=dP.stored (tk:=dj) B T hJ he
  rcases VX run with⟨y,r',e1,e2,rfl⟩|⟨e1,e2⟩
  ·refine dX (VV e1) fun e3 e4 e5=>?_
   refine zE (cY _ A _ _ _ true lT e3) fun V0 aS aU=>?_
   refine au aU fun aG cf=>?_
   clear aU
   subst aG
   refine af (if_pos rfl) ?_
   refine zE (br _ A _ _ _ y (lT.kp cf) e4) fun v cH dH=>?_
   obtain⟨eN,ls,fS,GN⟩:=dH
   have fU:=n8.kp B T cf
   refine Fe (hsz:=by(refine af A3 ?_;refine af Bm ?_);exact Ad tP (Ad hi hsz)) ((fU.kp B T eN).pl) fun et fg dk=>?_
   exact i12 _ less (.mk (i+1) _ _ r' _ rfl aX (fU.add B T eN fS (GN e5) fg dk) e2 (by(refine af gU ?_;refine af (Bf ..) ?_);rfl) (by refine af Ah ?_;exact Dr tP))
  ·refine zE (cY _ A _ _ _ false lT (VW e1)) fun V0 aS aU=>?_
   refine au aU fun aG cf=>?_
   clear aU
   subst aG
   refine af (if_neg Bp) ?_
   exact i12 _ less (.mk (i+1) _ _ rest _ rfl aX (n8.kp B T cf) e2 gU (I9 tP))
 ·obtain rfl:i=its.length:=Ic hi (Es.mp aX)
  rw[Hs]at run
  obtain rfl:=Aa run
  rw[Bv]at gU
  subst gU
  refine T.done _ _ _ S.st fun ai bR aC=> .inl ⟨rfl,?_⟩
  have dP:=S.fin (St':=fun _ _=>True) (i':=0) (tk:=bR) B T aC trivial
  exact gk _ (D::ns) dP.k dP.j (.list dP.pl dP.vs) ⟨Dl.mpr ⟨dP.dn,dP.fr.nodup⟩,Km.mpr ⟨B.nD,dP.fr.new⟩⟩
theorem OO{elt iter:Expr}{scope:Scope}{pos:Bz}{ifs:List Expr}{pe:PE}{ts:eh}{ps:List PV}{R:D3->Ab->Prop}(B:pQ W C' bh A σ s xs D Z fp wr J)(T:dy W.prog W.w A target xs I fp wr its St)(br:av W C' elt pe)(cY:iQ W C' ifs ts)(hsz:its.length<=ag)
  (run:zQ (lS W.U pe ts σ) its=some ps) (gk:∀s' ns,KG s s'->J s'.heap->VR s'.heap (.list ps) (.ref D) ns->wL s.heap ns->R (.ok .next) s') (S:CS s D fp St J 0 [] [] [] s'):
  Ca (Af W.prog W.w) A (.compStart (.ListComp elt [⟨target,iter,ifs,0⟩] scope pos) 0 (.ref I) (.ref D) bh) R s':=
 have loop:=OJ (AW s D fp St J its ps (lS W.U pe ts σ)) (fun _ _ h=>VZ B T br cY hsz gk h) (its.length+1) (.mk 0 [] [] ps [] rfl (C0 _) S run rfl (Br _))
 Hd loop (T.self 0 _ _ _ S.st loop)
end
theorem OP{scope:Scope}{xs:List Str}(h:kc C scope xs=true):scope.kind= .function/\xV xs=true/\(∀x∈xs,scope.names.lookup x=some .local)/\∀y∈scope.names,y.2≠ .cell:=by
 unfold kc at h
 refine au (b2 h) fun h h5=>?_
 refine au (b2 h) fun h _=>?_
 refine au (b2 h) fun h h3=>?_
 refine au (b2 h) fun h1 h2=>?_
 exact N8 (eq_of_beq h1) h2 (fun x hx=>eq_of_beq (Ao.mp h3 x hx)) (fun y hy=>bne_iff_ne.mp (b2 (b2 (Ao.mp h5 y hy)).1).1)
section
variable{elt iter target:Expr}{xs:List Str}{x:Str}{ifs:List Expr}{scope:Scope}{pos:Bz}{pe:PE}{ts:eh}{env:Dv}{A:Al}{E:Value->Ab->Prop}{σ:List (Option PV)}{s s₂:Ab}{cl:List (Str×Addr)}
 {I:Addr} {fp wr:List Addr} {its:List (List PV)} {St:Nat->Ap->Prop} {ps:List PV} {RR:Value->Addr->D3->Ab->Prop}
structure OQ(h ah:Ap)(D L Z:Addr):Prop where
 d:h.objs.size=D
 l:D<L
 z:L<=Z
 old:∀b o,h.get? b=some o->ah.get? b=some o
 acc:ah.PlainList D ([]:List Value).toArray
theorem V1{D L:Addr}{ah:Ap}{tk:Nat}{m:Str->Option Value}(bg:kc C scope xs=true)(P:Pre W C env A σ s)(dc:∀x c,env.cells.lookup x=some c->(x,Cd)∈scope.names->cl.lookup x=some c)
  (br:av W (C.dZ scope xs) elt pe) (cY:iQ W (C.dZ scope xs) ifs ts)
  (aH:KG s s₂) (d0:∀b∈wr,s.heap.get? b=none) (cR:∀b∈fp,∃o,s₂.heap.get? b=some o) (T:dy W.prog W.w A target xs I fp wr its St) (st:St 0 s₂.heap) (hsz:its.length<=ag)
  (run:zQ (lS W.U pe ts σ) its=some ps)
  (gk:∀D L s' ns m',s.heap.get? L=none->KG s s'->s'.heap.Ns L m'->VR s'.heap (.list ps) (.ref D) ns->wL s.heap ns->L∉ns->RR (.ref D) L (.ok .next) s')
  (N:OQ s₂.heap ah D L L) (hn:ah.Ns L m):
  Ca (Af W.prog W.w) A (.compStart (.ListComp elt [⟨target,iter,ifs,0⟩] scope pos) 0 (.ref I) (.ref D) (B8 scope cl L env)) (RR (.ref D) L) {s₂ with heap:=ah,toks:=tk}:=by
 refine tj (OP bg) fun aT ia bf aR=>?_
 have nD:s₂.heap.get? D=none:=uZ (Cr N.d)
 have nL:s₂.heap.get? L=none:=uZ (Ci (N.d▸N.l))
 have off:∀{a:Addr},s₂.heap.get? a=none->a∉fp:=fun e hm=>by obtain⟨o,e'⟩:=cR _ hm;rw[e]at e';exact nn e'
 have B:pQ W (C.dZ scope xs) (B8 scope cl L env) A σ s xs D L fp wr (fun h=>∃m,h.Ns L m):=
  {nD:=ni (zZ aH) nD,nZ:=ni (zZ aH) nL,d0:=d0,DZ:=Bo N.l,Df:=off nD,Zf:=off nL
   qV:=fun h ⟨m,hn⟩ items n e=>wM hn e
   fr:=fun h h' ⟨m,hn⟩ k=>⟨m,hn.at' fun o e=>k L o (off nL) (He N.l) e⟩
   store:=fun it us ms s' Q E ⟨m,hn⟩ k hl hv hz hQ=>AV (by simp[B8,Fb,aT]) xs us _ m (by rw[<-hl];exact hv.length.symm) ia (fun x hx=>Ga (bf x hx)) hn fun aq dj fV dm bB gm _=>
    hQ aq dj ⟨fV,dm⟩ bB (ON bg P (lg k _ _ fun b o e=>bB b o (fun q=>by have e:s.heap.get? b=some o:=e;rw[show b=L from q,ni (zZ aH) nL]at e;exact nn e) (zZ k b o e)) dc dm gm (hv.on fun a ha o e=>bB a o (fun q=>hz ((show a=L from q)▸ha)) e) hl)}
 exact OO B T br cY hsz run (fun s' ns k ⟨m,hn⟩ r f=>gk D L s' ns m B.nZ k hn r f (r.i8 hn))
  ⟨lg aH _ _ fun b o e=>N.old b o (zZ aH b o e),T.frame _ _ _ st fun b _ o e=>N.old b o e,N.acc, .nil,wL.nil _,(fun h=>nomatch h),(fun _ h=>nomatch h),⟨m,hn⟩⟩
theorem V2(bg:kc C scope xs=true)(P:Pre W C env A σ s)(dc:∀x c,env.cells.lookup x=some c->(x,Cd)∈scope.names->cl.lookup x=some c)
  (br:av W (C.dZ scope xs) elt pe) (cY:iQ W (C.dZ scope xs) ifs ts)
  (aH:KG s s₂) (d0:∀b∈wr,s.heap.get? b=none) (cR:∀b∈fp,∃o,s₂.heap.get? b=some o) (T:dy W.prog W.w A target xs I fp wr its St) (st:St 0 s₂.heap) (hsz:its.length<=ag)
  (run:zQ (lS W.U pe ts σ) its=some ps)
  (gk:∀D L s' ns m',s.heap.get? L=none->KG s s'->s'.heap.Ns L m'->VR s'.heap (.list ps) (.ref D) ns->wL s.heap ns->L∉ns->RR (.ref D) L (.ok .next) s'):
  Am (Af W.prog W.w) A (Lr []) (fun acc ao=>Am (Af W.prog W.w) A (Gb scope env.globals cl [] env.qual none .none (some env)) (fun bh aS=>
   Ca (Af W.prog W.w) A (.compStart (.ListComp elt [⟨target,iter,ifs,0⟩] scope pos) 0 (.ref I) acc {bh with scope:=Fb scope env}) (RR acc bh.locals) aS) E ao) E s₂:=by
 refine tj (OP bg) fun aT ia bf aR=>?_
 refine Cb (E5 aR (by intro y hy;simp at hy) (fun ah dI dp=>?_) aT)
 have hL:(s₂.heap.push {cls:= .type "list",dict:=none,data:= .seq ([]:List Value).toArray}).objs.size=s₂.heap.objs.size+1:=Eu ..
 have up:∀b o,b≠s₂.heap.objs.size+1->(s₂.heap.push {cls:= .type "list",dict:=none,data:= .seq ([]:List Value).toArray}).get? b=some o->ah.get? b=some o:=fun b o hb e=>dp.extBut b o (fun q=>hb (q.trans hL)) (Ag _ e)
 exact V1 (s₂:=s₂) bg P dc br cY aH d0 cR T st hsz run gk ⟨rfl,by rw[hL];exact Bj _,Br _,fun b o e=>up b o (Bo (I6 (Bk e))) (Ag _ e),
  ⟨_,up _ _ (Bo (Bj _)) (Av _ rfl)⟩⟩ dI
end
noncomputable def qY(C:Cx)(scope:Scope)(xs:List Str):Bool:=match xs with
 |[x]=>scope.kind== .function&&scope.names.filter (fun y=>y.2== .cell)==[(x, .cell)]&&scope.names.lookup x==some .cell&&C.Γ.all (fun z=>decide (z.2<C.n))&&
  scope.names.all fun y=>(y.2 != .local||(scope.names.lookup y.1==some .local&&(C.Γ.lookup y.1).isNone))&&(y.2 != .free||(C.kn.lookup y.1==some .cell||C.kn.lookup y.1==some .free))&&(y.1 !=x||y.2== .cell)
 |_=>false
theorem OR{C:Cx}{scope:Scope}{xs:List Str}(h:qY C scope xs=true):∃x,xs=[x]:=by
 cases xs with
 |nil=>exact ft h
 |cons x r=>
  cases r with
  |nil=>exact⟨x,rfl⟩
  |cons=>exact ft h
noncomputable def n9(C:Cx)(scope:Scope)(xs:List Str):Bool:=kc C scope xs||qY C scope xs
theorem GO{scope:Scope}{xs:List Str}(h:n9 C scope xs=true):scope.kind= .function/\(∀y∈scope.names,y.2= .local->scope.names.lookup y.1=some .local)/\∀y∈scope.names,y.2= .free->C.kn.lookup y.1=some .cell\/C.kn.lookup y.1=some .free:=by
 unfold n9 at h
 simp only[Eh]at h
 rcases h with h|h
 ·unfold kc at h
  simp only[A0,Ao,beq_iff_eq,decide_eq_true_eq]at h
  refine au h fun bL h5=>?_
  refine au bL fun bL _=>?_
  obtain⟨⟨aT,ia⟩,bf⟩:=bL
  refine nP aT (fun y hy hl=>?_) (fun y hy hf=>?_)
  ·have:=(h5 y hy).1.2
   rw[hl]at this
   simp at this
   exact this.1
  ·have:=(h5 y hy).2
   rw[hf]at this
   simpa using this
 ·refine aJ (OR h) fun x aP=>?_
  subst aP
  unfold qY at h
  simp only[A0,Ao,beq_iff_eq,decide_eq_true_eq]at h
  refine au h fun bL h5=>?_
  refine au bL fun bL _=>?_
  obtain⟨⟨aT,_⟩,_⟩:=bL
  refine nP aT (fun y hy hl=>?_) (fun y hy hf=>?_)
  ·have:=(h5 y hy).1.1
   rw[hl]at this
   simp at this
   exact this.1
  ·have:=(h5 y hy).1.2
   rw[hf]at this
   simpa using this
theorem OS{M:L8}{A:Al}{E:Value->Ab->Prop}:∀(names:List (Str×C8)) (acc:List (Str×Addr)) (s:Ab) (Q:List (Str×Addr)->Ab->Prop),names.filter (fun y=>y.2== .cell)=[]->Q acc s->
  Am M A (forIn names acc fun z cells=>if(z.2==C4)=true then do let c<-alloc {cls:= .type "cell",data:= .cell none};pure (B1 ((z.1,c)::cells))else pure (B1 cells)) Q E s
 |[],acc,s,Q,_,h=>Ak h
 |z::r,acc,s,Q,hf,h=>by
  rw[Gu]
  rw[Gk]at hf
  by_cases hz:(z.2==C4)=true
  ·rw[if_pos hz]at hf;cases hf
  ·rw[if_neg hz]at hf
   rw[if_neg hz]
   exact Ac (Ak (OS r acc s Q hf h))
theorem OT{M:L8}{A:Al}{E:Value->Ab->Prop}{x:Str}:∀(names:List (Str×C8)) (acc:List (Str×Addr)) (s:Ab) (Q:List (Str×Addr)->Ab->Prop),names.filter (fun y=>y.2== .cell)=[(x, .cell)]->
  Q ((x,s.heap.objs.size)::acc) {s with heap:=s.heap.push {cls:= .type "cell",data:= .cell none} }->
  Am M A (forIn names acc fun z cells=>if(z.2==C4)=true then do let c<-alloc {cls:= .type "cell",data:= .cell none};pure (B1 ((z.1,c)::cells))else pure (B1 cells)) Q E s
 |[],acc,s,Q,hf,h=>by cases hf
 |z::r,acc,s,Q,hf,h=>by
  refine af (Gu ..) ?_
  rw[Gk]at hf
  by_cases hz:(z.2==C4)=true
  ·rw[if_pos hz]at hf
   simp only[List.cons.injEq]at hf
   obtain⟨rfl,hf⟩:=hf
   refine af (if_pos hz) ?_
   exact Ac (Ac (wpAny_alloc (Ak (OS r _ _ Q hf h))))
  ·rw[if_neg hz]at hf
   refine af (if_neg hz) ?_
   exact Ac (Ak (OT r acc s Q hf h))
theorem V3{M:L8}{A:Al}{E:Value->Ab->Prop}{s:Ab}{scope:Scope}{g:Addr}{cl:List (Str×Addr)}{q:Str}{env:Dv}{x:Str}{Q:Dv->Ab->Prop}(hf:scope.names.filter (fun y=>y.2== .cell)=[(x, .cell)])
  (hQ:Q {scope,locals:=s.heap.objs.size,globals:=g,cells:=(x,s.heap.objs.size+1)::cl,qual:=q,func:=none,code:=env.code,frame:=env.frame,builtins:=env.builtins}
   {s with heap:=(s.heap.push {cls:= .type "dict",data:= .dict #[]}).push {cls:= .type "cell",data:= .cell none} }):
  Am M A (Gb scope g cl [] q none .none (some env)) Q E s:=by
 refine Ac (wpAny_alloc ?_)
 refine Ac (OT scope.names cl _ _ hf ?_)
 simp only[Eu]
 exact Ac (Ak (Ak hQ))
theorem V4{scope:Scope}{x:Str}{env:Dv}{A:Al}{σ:List (Option PV)}{s s':Ab}{cl:List (Str×Addr)}{L c:Addr}{p:PV}{v:Value}{ns:List Addr}
  (bg:qY C scope [x]=true) (P:Pre W C env A σ s) (k:KG s s') (dc:∀x c,env.cells.lookup x=some c->(x,Cd)∈scope.names->cl.lookup x=some c)
  (hc:s'.heap.IsCell c (some v)) (hr:VR s'.heap p v ns):Pre W (C.dZ scope [x]) (B8 scope ((x,c)::cl) L env) A (σ++[some p]) s':=by
 refine au (bA bg) fun bg h5=>?_
 refine au (bA bg) fun bg h4=>?_
 refine au (bA bg) fun bg h3=>?_
 refine au (bA bg) fun h1 h2=>?_
 have h3:=eq_of_beq h3
 have h5:=fun y k (e:scope.names.lookup y=some k)=>Ao.mp h5 _ (zS e)
 have hx:((x,c)::cl).lookup x=some c:=by rw[A7,beq_self_eq_true]
 refine OL (xs:=[x]) (it:=[p]) h1 P k h4 (fun y d h e=>?_) rfl (fun y j q kk hj hg e1 i7=>?_) (fun y aH i e5 hn e3 e2=>?_) (fun y e5=>?_) fun y e5=>?_
 ·have cU:(y==x)=false:=beq_eq_false_iff_ne.mpr fun q=>nomatch (Aa (h3.symm.trans (q▸e:scope.names.lookup x=some .free)))
  rw[A7,cU]
  exact dc y d h (zS e)
 ·cases j with
  |succ j=>exact nn hj
  |zero=>
   obtain rfl:=Aa hj
   obtain rfl:=Aa hg
   refine aB (vc e1) fun aH e5 e6=>?_
   have e5:=Aa (h3.symm.trans e5)
   have GL:kk= .cell:=e6.elim (·.trans e5.symm) (·.2)
   exact nQ v ns (.inr ⟨.inl (GL▸i7),c,hx,hc⟩) hr
 ·have hm:=h5 y aH e5
  cases aH with
  | «local» =>simp[e3]at hm
  |cell=>
   have:=(show(y,C4)∈scope.names.filter (fun y=>y.2== .cell)from J5.mpr ⟨zS e5,rfl⟩)
   rw[eq_of_beq h2]at this
   exact absurd (congrArg Prod.fst (Ae.mp this)) fun q=>hn (Ae.mpr q)
  |free=>rfl
  |globalImplicit=>exact ft e2
  |globalExplicit=>exact ft e2
 ·have hm:=(bA (bA (h5 y _ e5)).1).2
  simpa using hm
 ·have:=(show(y,C4)∈scope.names.filter (fun y=>y.2== .cell)from J5.mpr ⟨zS e5,rfl⟩)
  rw[eq_of_beq h2]at this
  have hy:y=x:=congrArg Prod.fst (Ae.mp this)
  subst hy;exact cn c hx
theorem OU{kn:List (Str×C8)}:∀{sc:List (Str×C8)} {x:Str},sc.lookup x=some .cell->(jB kn sc).lookup x=some .cell
 |[],_,h=>by exact nn h
 |(n,k₁)::r,x,h=>by
  have ih:= @OU kn r x
  refine(?_:Fp x ((if(k₁== .free&&kn.lookup n==some .cell)=true then(n,C4)else(n,k₁))::jB kn r)=_)
  rw[A7]at h⊢
  by_cases hc:(k₁== .free&&kn.lookup n==some .cell)=true
  ·refine af (if_pos hc) ?_
   split at h
   ·next hx=>rw[show(x==n)=true from hx]
   ·next hx=>
    rw[show(x==n)=false by simpa using hx]
    exact ih h
  ·refine af (if_neg hc) ?_
   split at h
   ·next hx=>rw[show(x==n)=true from hx];obtain rfl:=Aa h;rfl
   ·next hx=>
    rw[show(x==n)=false by simpa using hx]
    exact ih h
theorem OV{scope:Scope}{x:Str}(h:qY C scope [x]=true):scope.kind= .function/\scope.names.filter (fun y=>y.2== .cell)=[(x, .cell)]/\scope.names.lookup x=some .cell:=by
 have h:=(b2 (b2 h).1).1
 exact nP (eq_of_beq (b2 (b2 h).1).1) (eq_of_beq (b2 (b2 h).1).2) (eq_of_beq (b2 h).2)
theorem V5{h:Ap}{c:Addr}{u:Option Value}(x:h.IsCell c u){items:Array Value}{n:Nat}(e:h.get? c=some {cls:= .type "list",data:= .seq items n}):False:=by
 refine aB x fun o e' ed=>?_
 rw[e]at e';obtain rfl:=Aa e';cases ed
theorem V6{scope:Scope}{env:Dv}{A:Al}{σ:List (Option PV)}{s:Ab}{x:Str}{cl:List (Str×Addr)}{L:Addr}(P:Pre W C env A σ s)(lh:scope.names.lookup x=some .cell):(B8 scope cl L env).kindOf x=some .cell:=by
 have cJ:(Fb scope env).names=jB C.kn scope.names:=by
  unfold Fb jB
  refine(?_:scope.names.map _=_)
  refine Ct fun z _=>?_
  obtain⟨n,kk⟩:=z
  refine(?_:(if(kk==Cd&&env.scope.kind== .function&&env.kindOf n==some .cell)=true then _ else _)=_)
  have e1:(env.scope.kind==G0)=true:=by refine af P.kind ?_;rfl
  refine af e1 ?_
  refine af (K7 ..) ?_
  unfold Be
  exact af P.names rfl
 refine(?_:(Fb scope env).names.lookup x=_)
 refine af cJ ?_
 exact OU lh
theorem OW{α:Type}{l:List α}(h:l.length=1):∃a,l=[a]:=Ju.mp h
section
variable{elt iter target:Expr}{x:Str}{ifs:List Expr}{scope:Scope}{pos:Bz}{pe:PE}{ts:eh}{env:Dv}{A:Al}{E:Value->Ab->Prop}{σ:List (Option PV)}{s s₂:Ab}{cl:List (Str×Addr)}
 {I:Addr} {fp wr:List Addr} {its:List (List PV)} {St:Nat->Ap->Prop} {ps:List PV} {RR:Value->Addr->D3->Ab->Prop}
theorem V7{D L c:Addr}{ah:Ap}{tk:Nat}{m:Str->Option Value}(bg:qY C scope [x]=true)(P:Pre W C env A σ s)(dc:∀x c,env.cells.lookup x=some c->(x,Cd)∈scope.names->cl.lookup x=some c)
  (br:av W (C.dZ scope [x]) elt pe) (cY:iQ W (C.dZ scope [x]) ifs ts)
  (aH:KG s s₂) (d0:∀b∈wr,s.heap.get? b=none) (cR:∀b∈fp,∃o,s₂.heap.get? b=some o) (T:dy W.prog W.w A target [x] I fp wr its St) (st:St 0 s₂.heap) (hsz:its.length<=ag)
  (run:zQ (lS W.U pe ts σ) its=some ps)
  (gk:∀D L s' ns m',s.heap.get? L=none->KG s s'->s'.heap.Ns L m'->VR s'.heap (.list ps) (.ref D) ns->wL s.heap ns->L∉ns->RR (.ref D) L (.ok .next) s')
  (N:OQ s₂.heap ah D L c) (V8:L≠c) (hn:ah.Ns L m) (hc:ah.IsCell c none):
  Ca (Af W.prog W.w) A (.compStart (.ListComp elt [⟨target,iter,ifs,0⟩] scope pos) 0 (.ref I) (.ref D) (B8 scope ((x,c)::cl) L env)) (RR (.ref D) L) {s₂ with heap:=ah,toks:=tk}:=by
 refine dX (OV bg) fun aT OX lh=>?_
 have nD:s₂.heap.get? D=none:=uZ (Cr N.d)
 have nL:s₂.heap.get? L=none:=uZ (Ci (N.d▸N.l))
 have nC:s₂.heap.get? c=none:=uZ (Ad (Ci (N.d▸N.l)) N.z)
 have off:∀{a:Addr},s₂.heap.get? a=none->a∉fp:=fun e hm=>by obtain⟨o,e'⟩:=cR _ hm;rw[e]at e';exact nn e'
 have OY:D<c:=D5 N.l N.z
 have B:pQ W (C.dZ scope [x]) (B8 scope ((x,c)::cl) L env) A σ s [x] D c fp wr (fun h=>(∃m,h.Ns L m)/\∃u,h.IsCell c u):=
  {nD:=ni (zZ aH) nD,nZ:=ni (zZ aH) nC,d0:=d0,DZ:=Bo OY,Df:=off nD,Zf:=off nC
   qV:=fun h ⟨_,u,hu⟩ items n e=>V5 hu e
   fr:=fun h h' ⟨⟨m,hn⟩,u,o,e,d⟩ k=>⟨⟨m,hn.at' fun o e=>k L o (off nL) (He N.l) e⟩,u,o,k c o (off nC) (He OY) e,d⟩
   store:=fun it us ms s' Q E ⟨⟨m,hn⟩,u,hu⟩ k hl hv hz hQ=>by
    refine aJ (OW hl) fun p aP=>?_
    subst aP
    refine aJ (OW hv.length) fun v aP=>?_
    subst aP
    refine wpAny_storeName_cell (show(Fb scope env).kind=_ from aT) (V6 P lh) (by refine(?_:((x,c)::cl).lookup x=_);simp) hu fun aq pR jD=>?_
    have ko:∀b o,s.heap.get? b=some o->aq.get? b=some o:=fun b o e=>jD.extBut b o (fun q=>by rw[q,ni (zZ aH) nC]at e;exact nn e) (zZ k b o e)
    have vj:=hv.on fun a ha o e=>jD.extBut a o (fun q=>hz (q▸ha)) e
    refine cX (vj.get (i:=0) rfl) fun vv nn qZ ra _=>?_
    obtain rfl:=Aa qZ
    exact hQ aq s'.toks ⟨⟨m,hn.at' fun o e=>jD.extBut L o V8 e⟩,_,pR⟩ jD.extBut (V4 bg P (lg k aq s'.toks ko) dc pR ra)}
 exact OO B T br cY hsz run (fun s' ns k ⟨⟨m,hn⟩,_⟩ r f=>gk D L s' ns m (ni (zZ aH) nL) k hn r f (r.i8 hn))
  ⟨lg aH _ _ fun b o e=>N.old b o (zZ aH b o e),T.frame _ _ _ st fun b _ o e=>N.old b o e,N.acc, .nil,wL.nil _,(fun h=>nomatch h),(fun _ h=>nomatch h),⟨⟨m,hn⟩,_,hc⟩⟩
theorem V9(bg:qY C scope [x]=true)(P:Pre W C env A σ s)(dc:∀x c,env.cells.lookup x=some c->(x,Cd)∈scope.names->cl.lookup x=some c)
  (br:av W (C.dZ scope [x]) elt pe) (cY:iQ W (C.dZ scope [x]) ifs ts)
  (aH:KG s s₂) (d0:∀b∈wr,s.heap.get? b=none) (cR:∀b∈fp,∃o,s₂.heap.get? b=some o) (T:dy W.prog W.w A target [x] I fp wr its St) (st:St 0 s₂.heap) (hsz:its.length<=ag)
  (run:zQ (lS W.U pe ts σ) its=some ps)
  (gk:∀D L s' ns m',s.heap.get? L=none->KG s s'->s'.heap.Ns L m'->VR s'.heap (.list ps) (.ref D) ns->wL s.heap ns->L∉ns->RR (.ref D) L (.ok .next) s'):
  Am (Af W.prog W.w) A (Lr []) (fun acc ao=>Am (Af W.prog W.w) A (Gb scope env.globals cl [] env.qual none .none (some env)) (fun bh aS=>
   Ca (Af W.prog W.w) A (.compStart (.ListComp elt [⟨target,iter,ifs,0⟩] scope pos) 0 (.ref I) acc {bh with scope:=Fb scope env}) (RR acc bh.locals) aS) E ao) E s₂:=by
 refine Cb (V3 (OV bg).2.1 ?_)
 have hL:(s₂.heap.push {cls:= .type "list",dict:=none,data:= .seq ([]:List Value).toArray}).objs.size=s₂.heap.objs.size+1:=Eu ..
 refine V7 (s₂:=s₂) bg P dc br cY aH d0 cR T st hsz run gk ⟨rfl,by refine af hL ?_;exact Bj _,Fq _,fun b o e=>Ag _ (Ag _ (Ag _ e)),
  ⟨_,Ag _ (Ag _ (Av _ rfl))⟩⟩ (Bo (Bj _)) (Heap.Ns.keeps (Heap.Ns.new _ (.type "dict")) fun b o e=>Ag _ e) ⟨{cls:= .type "cell",data:= .cell none},?_,rfl⟩
 refine ct (Eu (o:={cls:= .type "dict",data:= .dict #[]}) ..) ?_;exact Av _ rfl
end
theorem OZ{target elt iter:Expr}{xs:List Str}{ifs:List Expr}{scope:Scope}{pos:Bz}{pe:PE}{ts:eh}{env:Dv}{A:Al}{E:Value->Ab->Prop}{σ:List (Option PV)}{s s₂:Ab}{cl:List (Str×Addr)}
  {I:Addr} {fp wr:List Addr} {its:List (List PV)} {St:Nat->Ap->Prop} {ps:List PV} {RR:Value->Addr->D3->Ab->Prop}
  (bg:n9 C scope xs=true) (P:Pre W C env A σ s) (dc:∀x c,env.cells.lookup x=some c->(x,Cd)∈scope.names->cl.lookup x=some c)
  (br:av W (C.dZ scope xs) elt pe) (cY:iQ W (C.dZ scope xs) ifs ts)
  (aH:KG s s₂) (d0:∀b∈wr,s.heap.get? b=none) (cR:∀b∈fp,∃o,s₂.heap.get? b=some o) (T:dy W.prog W.w A target xs I fp wr its St) (st:St 0 s₂.heap) (hsz:its.length<=ag)
  (run:zQ (lS W.U pe ts σ) its=some ps)
  (gk:∀D L s' ns m',s.heap.get? L=none->KG s s'->s'.heap.Ns L m'->VR s'.heap (.list ps) (.ref D) ns->wL s.heap ns->L∉ns->RR (.ref D) L (.ok .next) s'):
  Am (Af W.prog W.w) A (Lr []) (fun acc ao=>Am (Af W.prog W.w) A (Gb scope env.globals cl [] env.qual none .none (some env)) (fun bh aS=>
   Ca (Af W.prog W.w) A (.compStart (.ListComp elt [⟨target,iter,ifs,0⟩] scope pos) 0 (.ref I) acc {bh with scope:=Fb scope env}) (RR acc bh.locals) aS) E ao) E s₂:=by
 unfold n9 at bg
 cases h:kc C scope xs with
 |true=>exact V2 h P dc br cY aH d0 cR T st hsz run gk
 |false=>
  rw[h,Bool.false_or]at bg
  refine aJ (OR bg) fun x aP=>?_
  subst aP
  exact V9 bg P dc br cY aH d0 cR T st hsz run gk
theorem av.comp{target elt iter:Expr}{xs:List Str}{ifs:List Expr}{scope:Scope}{pos:Bz}{pe:PE}{src:nR}{ts:eh}
  (bg:n9 C scope xs=true) (lU:i6 W C target xs iter src) (br:av W (C.dZ scope xs) elt pe) (cY:iQ W (C.dZ scope xs) ifs ts)
  (hs:∀env x,Ee iter env x=pure x):av W C (.ListComp elt [⟨target,iter,ifs,0⟩] scope pos) (.comp pe src ts):=fun env A E s σ p P e=>by
 refine oB e fun its e1 e2=>?_
 split at e2
 ·rename_i hsz
  obtain⟨ps,run,rfl⟩:=wX e2
  refine dX (GO bg) fun aT cJ k9=>?_
  obtain⟨cl,fh,dc⟩:=AU (scope:=scope) (env:=env) fun y hy hf=>by
   rcases k9 y hy hf with e|e
   ·exact P.eT _ _ e (.inl rfl)
   ·exact P.eT _ _ e (.inr rfl)
  unfold Oi;rw[K8]
  refine E7 (use:=none) rfl (hs env) fh aT cJ (zE (lU env A E s σ its P e1 hsz) fun xv aa ah=>zE ah fun it s₂ ai=>?_)
  obtain⟨I,fp,wr,St,rfl,aH,d0,cR,T,st,_⟩:=ai
  refine OZ (RR:=fun acc L=>compPost (Af W.prog W.w) A E none (Got s (fresh (.comp pe src ts) (.list ps)) (.list ps)) acc L) bg P dc br cY aH d0 cR T st hsz run ?_
  intro D L s' ns m' hL k hn r hf rb
  refine i12 m' hn (fun h' dg=>?_)
  have kk:KG s {s' with heap:=h'}:=by
   obtain⟨h0,t0,g0,rfl,kk,x⟩:=k
   exact⟨h',t0,g0,rfl,fun b o e=>dg.extBut b o (by rintro rfl;rw[hL]at e;exact nn e) (kk b o e),x⟩
  exact⟨kk,ns,r.on fun a ha o e=>dg.extBut a o (fun q=>rb (q▸ha)) e,fun _=>hf⟩
 ·exact nn e2
end
section
variable{W:bu}{C:Cx}
theorem yP{h:Ap}(k:Nat):h.get? (h.objs.size+k)=none:=by
 cases e:h.get? (h.objs.size+k)with
 |none=>rfl
 |some o=>exact absurd (Bk e) (Es.mpr (C6 _ k))
theorem wT{s s':Ab}(k:KG s s'){a:Addr}(h:s'.heap.get? a=none):s.heap.get? a=none:=by
 cases e:s.heap.get? a with
 |none=>rfl
 |some o=>rw[zZ k a o e]at h;exact sn h
theorem AX{h:Ap}{a l:Addr}{i:Nat}(x:h.IsListIter a l i)(items:Array Value)(n:Nat):h.get? a≠some {cls:= .type "list",data:= .seq items n}:=fun e=>by
 refine kU x fun o e1 e2 _=>?_
 rw[e1]at e;obtain rfl:=Aa e;simp at e2
theorem wR{h:Ap}{a l:Addr}{i:Nat}(x:h.IsListIter a l i):∃o,h.get? a=some o:=let⟨o,e,_⟩:=x;⟨o,e⟩
theorem AY{h:Ap}{a:Addr}{xs:Array Value}(x:h.IsList a xs):∃o,h.get? a=some o:=let⟨o,e,_⟩:=x;⟨o,e⟩
theorem GP{x:Str}{px:Bz}{A:Al}{E:Value->Ab->Prop}{s aa:Ab}{l:List PV}{v:Value}{ms:List Addr}(hh:A.handled=none)(k:KG s aa)(r:VR aa.heap (.list l) v ms):
  Am (Af W.prog W.w) A (Hq v) (kh W A s (.Name x px) [x] (l.map fun p=> [p]) fun fp=>∀b∈fp,s.heap.get? b=none\/b∈ms) E aa:=by
 refine r.dB fun a vs ns hl bq=>?_
 refine wpAny_pyIter_list hl.isList ?_
 generalize hI:aa.heap.objs.size=I
 have hIn:aa.heap.get? I=none:=hI▸yP 0
 have GQ:a≠I:=fun q=>by obtain⟨n,e⟩:=hl;rw[q,hIn]at e;exact nn e
 have GR:I∉ns:=fun hm=>by obtain⟨o,e⟩:=bq.bU _ hm;rw[hIn]at e;exact nn e
 have up:Sub aa.heap (aa.heap.push {cls:= .type "list_iterator",data:= .fields #[.ref a, .int 0 0]}):=fun b o e=>Ag _ e
 have hlen:(l.map fun p=> [p]).length=vs.toArray.size:=by simp[bq.length]
 have GU:(aa.heap.push {cls:= .type "list_iterator",data:= .fields #[.ref a, .int 0 0]}).IsListIter I a 0:=⟨_,hI▸Av _ rfl,rfl,rfl⟩
 have Wk:=Walks.list (prog:=W.prog) (w:=W.w) hh I a GQ vs.toArray
 rw[<-hlen]at Wk
 refine⟨I,I::a::ns,[I],_,rfl,zI k (pJ ..),?_,?_,dy.walks Wk (fun b hb=>?_) (fun h=>ak h l vs ns) (fun h h' e kk=>e.on fun b hb o e=>kk b (by simp[hb]) o e) (fun i h st ex b hb=>?_) (fun i h st b hb items n=>by rw[Ae.mp hb];exact AX st.1 items n) (fun i it u h h' e1 e2 ex kk=>?_),⟨⟨GU,hl.isList.push _⟩,bq.sub up⟩,?_⟩
 ·intro b hb
  rw[Ae.mp hb]
  exact wT k hIn
 ·intro b hb
  rcases Ax.mp hb with rfl|hb
  ·exact cn _ (hI▸Av _ rfl)
  ·rcases Ax.mp hb with rfl|hb
   ·obtain⟨n,e⟩:=hl;exact⟨_,up _ _ e⟩
   ·obtain⟨o,e⟩:=bq.bU _ hb;exact⟨o,up _ _ e⟩
 ·simp at hb;rcases hb with rfl|rfl<;>simp
 ·rcases Ax.mp hb with rfl|hb
  ·exact wR st.1
  ·rcases Ax.mp hb with rfl|hb
   ·exact AY st.2
   ·exact ex.bU _ hb
 ·have kb:ak h' l vs ns:=ex.on fun b hb o e=>kk b o (fun q=>GR (by rwa[Ae.mp q]at hb)) e
  refine cj kb ?_
  rw[Bi]at e1
  refine aB (Bn.mp e1) fun p e3 cw=>?_
  subst cw
  refine cX (kb.get e3) fun v' n e4 e5 e6=>?_
  have:v'=u:=by
   have e2:vs.toArray[i]?=some u:=e2
   rw[D4,e4]at e2;obtain rfl:=Aa e2;rfl
  subst this
  exact i12 n (ak.one e5) (fun b hb=>by simp[e6 b hb])
 ·intro b hb
  rcases Ax.mp hb with rfl|hb
  ·exact .inl (wT k hIn)
  ·exact .inr hb
theorem AZ{x:Str}{px:Bz}{A:Al}{E:Value->Ab->Prop}{s aa:Ab}{l:List Nat}{v:Value}{ms:List Addr}(hh:A.handled=none)(k:KG s aa)(r:VR aa.heap (.str l) v ms):
  Am (Af W.prog W.w) A (Hq v) (kh W A s (.Name x px) [x] (l.map fun c=> [PV.str [c]]) fun fp=>∀b∈fp,s.heap.get? b=none) E aa:=by
 cases r
 rename_i t
 refine wpAny_pyIter_strU ?_
 generalize hI:aa.heap.objs.size=I
 have hIn:aa.heap.get? I=none:=hI▸yP 0
 have GU:(aa.heap.push {cls:= .type (Gd ⟨l.toArray⟩),data:= .fields #[.str ⟨l.toArray⟩ t, .int 0 0]}).IsStrIter I (Gd ⟨l.toArray⟩) ⟨l.toArray⟩ t 0:=⟨_,hI▸Av _ rfl,rfl,rfl⟩
 have Wk:Walks W.prog W.w A I [I] [I] (l.map fun c=> [PV.str [c]]).length (SignAt ⟨l.toArray⟩) (fun i h=>h.IsStrIter I (Gd ⟨l.toArray⟩) ⟨l.toArray⟩ t i):=by
  have e:(l.map fun c=> [PV.str [c]]).length=(⟨l.toArray⟩:Str).cps.size:=by simp
  rw[e]
  unfold Gd
  split
  ·exact Walks.strAscii hh I ⟨l.toArray⟩ t
  ·exact Walks.strWide hh I ⟨l.toArray⟩ t
 refine⟨I,[I],[I],_,rfl,zI k (pJ ..),?_,?_,dy.walks Wk (fun b hb=>hb) (fun _=>True) (fun _ _ _ _=>trivial) (fun i h st ex b hb=>?_) (fun i h st b hb items n e=>by
  rw[Ae.mp hb]at e
  refine kU st fun o e1 e2 e3=>?_
  rw[e1]at e;obtain rfl:=Aa e;simp at e3) (fun i it u h h' e1 e2 ex kk=>⟨trivial,?_⟩),⟨GU,trivial⟩,?_⟩
 ·intro b hb
  rw[Ae.mp hb]
  exact wT k hIn
 ·intro b hb
  rw[Ae.mp hb]
  exact cn _ (hI▸Av _ rfl)
 ·rw[Ae.mp hb]
  obtain⟨o,e,_⟩:=st;exact⟨o,e⟩
 ·rw[Bi]at e1
  refine aB (Bn.mp e1) fun c e3 cw=>?_
  subst cw
  refine dY e2 fun c' u' e4 gC=>?_
  clear e2
  subst gC
  have:c'=c:=by
   have e4:l.toArray[i]?=some c':=e4
   rw[D4,e3]at e4;obtain rfl:=Aa e4;rfl
  subst this
  exact i12 ([]) (ak.one (.str [c'] u')) (fun _ h=>nomatch h)
 ·intro b hb
  rw[Ae.mp hb]
  exact wT k hIn
theorem Wa{x:Str}{px:Bz}{A:Al}{E:Value->Ab->Prop}{s aa:Ab}{n:Int}{v:Value}{ms:List Addr}(hh:A.handled=none)(k:KG s aa)(r:VR aa.heap (.int n) v ms)(h1:wB n=true)(h2:n<=16777216):
  Am (Af W.prog W.w) A (call (.type "range") [v]) (fun xv s₂=>Am (Af W.prog W.w) A (Hq xv) (kh W A s (.Name x px) [x] ((pK n).map fun p=> [p]) fun fp=>∀b∈fp,s.heap.get? b=none) E s₂) E aa:=by
 cases r
 rename_i t
 unfold wB at h1
 simp only[A0,decide_eq_true_eq]at h1
 refine call_range_1 ?_
 have hsz:Jk 0 n 1=(n.toNat:Int):=by refine af (rangeSize_nat ..) ?_;lia
 refine wpAny_pyIter_range (Av _ rfl) ?_ ?_
 ·unfold Kx
  refine af hsz ?_
  simp only[Iq,A0,Eh,decide_eq_true_eq,beq_iff_eq,show(1:Int)>0 by decide,if_true]
  refine⟨⟨?_,?_⟩,?_⟩<;>lia
 ·refine af hsz ?_
  generalize hH:aa.heap.push {cls:= .type "range",data:= .fields #[.int 0 aa.toks, .int n t, .int 1 (aa.toks+1)]}=H
  have GV:Sub aa.heap H:=fun b o e=>hH▸Ag _ e
  generalize hI:H.objs.size=I
  have hIn:aa.heap.get? I=none:=by
   cases e:aa.heap.get? I with
   |none=>rfl
   |some o=>have:=Bk e;rw[<-hI,<-hH,Eu]at this;exact absurd this (Es.mpr (Fq _))
  have Wk:=Walks.range (prog:=W.prog) (w:=W.w) hh I 0 1 n.toNat
  have hlen:((pK n).map fun p=> [p]).length=n.toNat:=by simp[pK]
  rw[<-hlen]at Wk
  refine⟨I,[I],[I],_,rfl,?_,?_,?_,dy.walks Wk (fun b hb=>hb) (fun _=>True) (fun _ _ _ _=>trivial) (fun i h st ex b hb=>?_) (fun i h st b hb items n e=>by
   rw[Ae.mp hb]at e
   have st:=st
   rw[show h.get? I=some _ from st]at e;simp at e) (fun i it u h h' e1 e2 ex kk=>⟨trivial,?_⟩),⟨?_,trivial⟩,?_⟩
  ·exact zI k (jA _ _ _ fun b o e=>Ag _ (GV b o e))
  ·intro b hb
   refine af (Ae.mp hb) ?_
   exact wT k hIn
  ·intro b hb
   refine af (Ae.mp hb) ?_
   exact cn _ (hI▸Av _ rfl)
  ·refine af (Ae.mp hb) ?_
   exact cn _ st
  ·refine aJ e2 fun tt aP=>?_
   clear e2
   subst aP
   have:it=[PV.int (i:Int)]:=by
    rw[Bi]at e1
    refine aB (Bn.mp e1) fun c e3 cw=>?_
    subst cw
    unfold pK at e3
    rw[Bi]at e3
    refine aB (Bn.mp e3) fun j e4 cw=>?_
    subst cw
    have:=Bc.mp e4
    obtain⟨_,h3⟩:=this
    rw[List.getElem_range]at h3
    exact af h3 rfl
   subst this
   refine i12 ([]) (ak.one ?_) (fun _ h=>nomatch h)
   rw[show(0:Int)+(i:Int)*1=i by lia]
   exact .int ..
  ·refine(?_:IsRangeIter _ I (0+((0:Nat):Int)*1) ((((pK n).map fun p=> [p]).length:Int)-((0:Nat):Int)) 1)
   rw[hlen,show(0:Int)+((0:Nat):Int)*1=0 by lia,show((n.toNat:Int)-((0:Nat):Int))=(n.toNat:Int)by lia]
   exact hI▸Av _ rfl
  ·intro b hb
   refine af (Ae.mp hb) ?_
   exact wT k hIn
theorem i6.items{x:Str}{px:Bz}{iter:Expr}{pe:PE}(h:av W C iter pe):i6 W C (.Name x px) [x] iter (.items pe):=fun env A E s σ its P e _=>by
 refine oB e fun p e1 e2=>?_
 refine zE (h env A E s σ p P e1) fun v aa ah=>?_
 obtain⟨k,ns,r,_⟩:=ah
 cases p with
 |list l=>
  have e2:some (l.map fun x=> [x])=some its:=e2
  obtain rfl:=Aa e2
  refine zE (GP (x:=x) (px:=px) P.room.hh k r) fun it s₂ ai=>?_
  obtain⟨I,fp,wr,St,h1,h2,h3,h4,h5,h6,_⟩:=ai
  exact⟨I,fp,wr,St,h1,h2,h3,h4,h5,h6,trivial⟩
 |str l=>
  have e2:some (l.map fun c=> [PV.str [c]])=some its:=e2
  obtain rfl:=Aa e2
  refine zE (AZ (x:=x) (px:=px) P.room.hh k r) fun it s₂ ai=>?_
  obtain⟨I,fp,wr,St,h1,h2,h3,h4,h5,h6,_⟩:=ai
  exact⟨I,fp,wr,St,h1,h2,h3,h4,h5,h6,trivial⟩
 |_=>exact nn e2
theorem O0{x xr:Str}{px pr pos:Bz}{iter:Expr}{pe:PE}(h:av W C iter pe)(hx:xr= "range") (hk:C.kn.lookup xr=some .globalImplicit) (hg:W.mg "range" =none) (hb:W.mb "range" =some (.type "range")) (he:∀env,B6 [iter] env=[(false,eval iter env)])
  {env:Dv} {A:Al} {E:Value->Ab->Prop} {s:Ab} {σ:List (Option PV)} {its:List (List PV)} (P:Pre W C env A σ s) (e:jX W.U (.ei pe) σ=some its):
  Am (Af W.prog W.w) A (eval (.Call (.Name xr pr) [iter] [] pos) env) (fun xv s₂=>Am (Af W.prog W.w) A (Hq xv) (kh W A s (.Name x px) [x] its fun fp=>∀b∈fp,s.heap.get? b=none) E s₂) E s:=by
 subst hx
 refine oB e fun p e1 e2=>?_
 cases p with
 |int n=>
  have e2:(if wB n&&decide (n<=16777216)then some ((pK n).map fun x=> [x])else none)=some its:=e2
  split at e2
  ·rename_i hc
   obtain rfl:=Aa e2
   simp only[A0,decide_eq_true_eq]at hc
   refine Eo rfl ?_
   refine A6 P.kind (by unfold Be;refine af P.names ?_;exact hk) (Cz (mg:=W.mg) (mb:=W.mb) ?_ hg ?_ hb ?_) (by decide)
   ·refine af P.gl ?_;exact W.g P.wd
   ·refine af P.bl ?_;exact W.b P.wd
   ·refine Cm ?_ (he env) rfl
    refine af (he env) ?_
    refine Ba ?_
    refine zE (h env A E s σ _ P e1) fun v aa ah=>?_
    obtain⟨k,ns,r,_⟩:=ah
    exact B7 (Wa P.room.hh k r hc.1 hc.2)
  ·exact nn e2
 |_=>exact nn e2
theorem i6.ei{x xr:Str}{px pr pos:Bz}{iter:Expr}{pe:PE}(h:av W C iter pe)(hx:xr= "range") (hk:C.kn.lookup xr=some .globalImplicit) (hg:W.mg "range" =none) (hb:W.mb "range" =some (.type "range")) (he:∀env,B6 [iter] env=[(false,eval iter env)]):
  i6 W C (.Name x px) [x] (.Call (.Name xr pr) [iter] [] pos) (.ei pe):=fun env A E s σ its P e _=>by
 refine zE (O0 (x:=x) (px:=px) h hx hk hg hb he P e) fun v aa ah=>zE ah fun it s₂ ai=>?_
 obtain⟨I,fp,wr,St,h1,h2,h3,h4,h5,h6,_⟩:=ai
 exact⟨I,fp,wr,St,h1,h2,h3,h4,h5,h6,trivial⟩
end
theorem fa{α:Type}{P:α->Prop}{a:α}{l:List α}(h:P a)(t:∀b∈l,P b):∀b∈a::l,P b:=Km.mpr ⟨h,t⟩
theorem dE{α:Type}{P:α->Prop}:∀b∈([]:List α),P b:=fun _ h=>(Aq h).elim
theorem fap{α:Type}{P:α->Prop}{l m:List α}(h:∀b∈l,P b)(t:∀b∈m,P b):∀b∈l++m,P b:=fun b hb=>(Bb.mp hb).elim (h b) (t b)
theorem GW:∀{l:List PV} {i k:Nat} {it:List PV},(wJ k l)[i]?=some it->∃p,l[i]?=some p/\it=[.int ((k+i:Nat):Int),p]
 |[],_,_,_,e=>nn e
 |a::r,0,k,it,e=>⟨a,rfl,(Aa e).symm⟩
 |a::r,i+1,k,it,e=>by
  refine aB (GW (l:=r) (i:=i) (k:=k+1) (it:=it) e) fun p e1 e2=>?_
  exact i12 p e1 (by(refine af e2 ?_;refine af (C3 ..) ?_;exact af (Ej 1 ..) rfl))
theorem BA:∀(l:List PV) (k:Nat),(wJ k l).length=l.length
 |[],_=>rfl
 |_::r,k=>by simp[wJ,BA r]
theorem Wb:∀{l m:List PV} {i:Nat} {it:List PV},(nS l m)[i]?=some it->∃p q,l[i]?=some p/\m[i]?=some q/\it=[p,q]:=by
 intro l
 induction l with
 |nil=>intro m i it e;exact nn e
 |cons a r ih=>
  intro m i it e
  cases m with
  |nil=>exact nn e
  |cons b t=>
   cases i with
   |zero=>exact⟨a,b,rfl,rfl,(Aa e).symm⟩
   |succ i=>exact ih (m:=t) (i:=i) e
theorem O1:∀(l m:List PV),(nS l m).length=min l.length m.length
 |[],_=>(Nat.zero_min _).symm
 |_::_,[]=>(Nat.min_zero _).symm
 |_::r,_::t=>(congrArg Nat.succ (O1 r t)).trans (Nat.succ_min_succ _ _).symm
section
variable{W:bu}{C:Cx}
theorem xT{h:Ap}{a b:Addr}(ha:∃o,h.get? a=some o)(hb:h.get? b=none):a≠b:=fun q=>ha.elim fun o e=>nn (hb.symm.trans (q▸e))
theorem Wc{x y:Str}{px py pt:Bz}{kk:Nat}{A:Al}{h₀:Ap}{l:List PV}{vs:List Value}{ns:List Addr}{I a:Addr}(hh:A.handled=none)(We:a≠I+1)(GQ:a≠I)(bq:ak h₀ l vs ns)(o1:∀b∈ns,b≠I+1)(o0:∀b∈ns,b≠I):
  dy W.prog W.w A (.Tuple [.Name x px, .Name y py] kk pt) [x,y] (I+1) ((I+1)::I::a::ns) [I+1,I] (wJ 0 l) (fun i h=>((∃old,IsEnum h (I+1) I i old)/\h.IsListIter I a i/\h.IsList a vs.toArray)/\ak h l vs ns):=by
 have Wk:=WalksT.enumerate (prog:=W.prog) (w:=W.w) hh (I+1) I a (Nat.succ_ne_self I) We GQ vs.toArray
 rw[A3,bq.length,<-BA l 0]at Wk
 refine dy.i4 hh Wk (fa (.head _) (fa (.tail _ (.head _)) (fa (.tail _ (.tail _ (.head _))) dE))) (fun h=>ak h l vs ns) (fun h h' e kk=>e.on fun b hb o e=>kk b (.tail _ (.tail _ (.tail _ hb))) o e) (fun i h st ex=>fa (st.1.elim fun _ e=>⟨_,e⟩) (fa (wR st.2.1) (fa (AY st.2.2) ex.bU)))
  (fun i h st=>fa (fun items n e=>st.1.elim fun _ e1=>by rw[e1]at e;simp at e) (fa (AX st.2.1) dE)) (fun i it us h h' e1 e2 ex kk=>?_)
 have kb:ak h' l vs ns:=ex.on fun b hb o e=>kk b o (fun q=>(Ax.mp q).elim (o1 b hb) fun q=>o0 b hb (Ae.mp q)) e
 refine aB (GW e1) fun p e3 cw=>?_
 subst cw
 refine dY e2 fun t u e4 gC=>?_
 clear e2
 subst gC
 refine cX (kb.get e3) fun v' n e5 e6 e7=>?_
 rw[D4,e5]at e4
 obtain rfl:=Aa e4
 rw[Cp]
 exact⟨kb,_,_,n,rfl, .cons (n:=[]) (.int ..) (ak.one e6),fun b hb=> .tail _ (.tail _ (.tail _ (e7 b hb)))⟩
theorem Wf{x y:Str}{px py pt:Bz}{kk:Nat}{A:Al}{E:Value->Ab->Prop}{s aa:Ab}{l:List PV}{v:Value}{ms:List Addr}(hh:A.handled=none)(k:KG s aa)(r:VR aa.heap (.list l) v ms):
  Am (Af W.prog W.w) A (call (.type "enumerate") [v]) (fun xv s₂=>Am (Af W.prog W.w) A (Hq xv) (kh W A s (.Tuple [.Name x px, .Name y py] kk pt) [x,y] (wJ 0 l) fun _=>True) E s₂) E aa:=by
 refine jT r.inv fun a vs ns hl bq rf rg=>?_
 subst rf
 subst rg
 have n0:aa.heap.get? aa.heap.objs.size=none:=yP 0
 have n1:aa.heap.get? (aa.heap.objs.size+1)=none:=yP 1
 have ha:∃o,aa.heap.get? a=some o:=by obtain⟨n,e⟩:=hl;exact⟨_,e⟩
 refine call_enumerate_list hl.isList fun h' he hi hsz up=>?_
 refine wpAny_pyIter_enum he ?_
 generalize aa.heap.objs.size=I at n0 n1 he hi
 exact⟨I+1,(I+1)::I::a::ns,[I+1,I],_,rfl,zI k (jA _ _ _ up),fa (wT k n1) (fa (wT k n0) dE),fa ⟨_,he⟩ (fa (wR hi) (fa (ha.elim fun o e=>⟨o,up _ _ e⟩) fun b hb=>(bq.bU b hb).elim fun o e=>⟨o,up _ _ e⟩)),
  Wc hh (xT ha n1) (xT ha n0) bq (fun b hb=>xT (bq.bU b hb) n1) (fun b hb=>xT (bq.bU b hb) n0),⟨⟨⟨_,he⟩,hi,hl.isList.at fun o e=>up _ o e⟩,bq.sub up⟩,trivial⟩
theorem i6.enum{x y xe:Str}{px py pt pe pos:Bz}{kk:Nat}{iter:Expr}{a:PE}(h:av W C iter a)(hx:xe= "enumerate") (hk:C.kn.lookup xe=some .globalImplicit) (hg:W.mg "enumerate" =none) (hb:W.mb "enumerate" =some (.type "enumerate")) (he:∀env,B6 [iter] env=[(false,eval iter env)]):
  i6 W C (.Tuple [.Name x px, .Name y py] kk pt) [x,y] (.Call (.Name xe pe) [iter] [] pos) (.enum a):=fun env A E s σ its P e _=>by
 subst hx
 refine oB e fun p e1 e2=>?_
 obtain⟨l,rfl,rfl⟩:∃l,p= .list l/\wJ 0 l=its:=by
  cases p with
  |list l=>exact⟨l,rfl,Aa e2⟩
  |_=>exact nn e2
 refine Eo rfl ?_
 refine A6 P.kind (by unfold Be;refine af P.names ?_;exact hk) (Cz (mg:=W.mg) (mb:=W.mb) (P.gl▸W.g P.wd) hg (P.bl▸W.b P.wd) hb ?_) (by decide)
 refine Cm ?_ (he env) rfl
 refine af (he env) ?_
 refine Ba (zE (h env A E s σ _ P e1) fun v aa ah=>?_)
 obtain⟨k,ns,r,_⟩:=ah
 exact B7 (Wf P.room.hh k r)
theorem Wg{x y:Str}{px py pt:Bz}{kk:Nat}{A:Al}{h₀:Ap}{l m:List PV}{vs us:List Value}{ns nq:List Addr}{z TI TO i1 i2 a a':Addr}(hh:A.handled=none)(D:ZipApart z TI TO i1 i2 a a')(bq:ak h₀ l vs ns)(fT:ak h₀ m us nq)(off:∀b∈[z,TO,i1,i2],h₀.get? b=none):
  dy W.prog W.w A (.Tuple [.Name x px, .Name y py] kk pt) [x,y] z (z::TI::TO::i1::i2::a::a'::(ns++nq)) [z,TO,i1,i2] (nS l m)
   (fun i h=>(IsZip h z TI TO .none/\IsPair h TI (.ref i1) (.ref i2)/\(∃a b,IsPair h TO a b)/\h.IsListIter i1 a i/\h.IsListIter i2 a' i/\h.IsList a vs.toArray/\h.IsList a' us.toArray)/\(ak h l vs ns/\ak h m us nq)):=by
 have Wk:=WalksT.zip2 (prog:=W.prog) (w:=W.w) hh _ _ _ _ _ _ _ D vs.toArray us.toArray
 rw[A3,A3,bq.length,fT.length,<-O1 l m]at Wk
 refine dy.i4 (fp':=z::TI::TO::i1::i2::a::a'::(ns++nq)) hh Wk (fun b hb=>Az (ns++nq) hb) (fun h=>ak h l vs ns/\ak h m us nq) (fun h h' e kk=>⟨e.1.on fun b hb o e=>kk b (Ar [z,TI,TO,i1,i2,a,a'] (Az _ hb)) o e,e.2.on fun b hb o e=>kk b (Ar [z,TI,TO,i1,i2,a,a'] (Ar _ hb)) o e⟩)
  (fun i h st ex=>?_) (fun i h st=>?_) (fun i it ws h h' e1 e2 ex kk=>?_)
 ·refine N7 st fun q1 q2 jE q4 q5 q6 q7=>?_
  refine gc jE fun _ _ q3=>?_
  exact fa ⟨_,q1⟩ (fa ⟨_,q2⟩ (fa ⟨_,q3⟩ (fa (wR q4) (fa (wR q5) (fa (AY q6) (fa (AY q7) (fap ex.1.bU ex.2.bU)))))))
 ·refine N7 st fun q1 q2 jE q4 q5 q6 q7=>?_
  refine gc jE fun _ _ q3=>?_
  exact fa (fun items n e=>by rw[q1]at e;simp at e) (fa (fun items n e=>by rw[q3]at e;simp at e) (fa (AX q4) (fa (AX q5) dE)))
 ·have kb:ak h' l vs ns/\ak h' m us nq:=⟨ex.1.on fun b hb o e=>kk b o (fun q=>xT (bq.bU b hb) (off b q) rfl) e,ex.2.on fun b hb o e=>kk b o (fun q=>xT (fT.bU b hb) (off b q) rfl) e⟩
  refine cX (Wb e1) fun p q e3 e4 hV=>?_
  subst hV
  refine cX e2 fun z1 z2 e5 e6 hV=>?_
  clear e2
  subst hV
  refine cX (kb.1.get e3) fun v1 n1 g1 g2 g3=>?_
  refine cX (kb.2.get e4) fun v2 n2 f1 f2 f3=>?_
  rw[D4,g1]at e5
  rw[D4,f1]at e6
  obtain rfl:=Aa e5
  obtain rfl:=Aa e6
  exact⟨kb,_,_,n1++n2,rfl, .cons g2 (ak.one f2),fun b hb=>Ar [z,TI,TO,i1,i2,a,a'] ((Bb.mp hb).elim (fun hb=>Az _ (g3 b hb)) fun hb=>Ar _ (f3 b hb))⟩
theorem Wh{x y:Str}{px py pt:Bz}{kk:Nat}{A:Al}{E:Value->Ab->Prop}{s aa:Ab}{l m:List PV}{v u:Value}{ms ls:List Addr}(hh:A.handled=none)(k:KG s aa)(r:VR aa.heap (.list l) v ms)(r':VR aa.heap (.list m) u ls):
  Am (Af W.prog W.w) A (call (.type "zip") [v,u]) (fun xv s₂=>Am (Af W.prog W.w) A (Hq xv) (kh W A s (.Tuple [.Name x px, .Name y py] kk pt) [x,y] (nS l m) fun _=>True) E s₂) E aa:=by
 refine jT r.inv fun a vs ns hl bq rf rg=>?_
 subst rf
 subst rg
 refine jT r'.inv fun a' us nq gB fT rf rg=>?_
 subst rf
 subst rg
 have hd:(∃o,aa.heap.get? a=some o)/\∃o,aa.heap.get? a'=some o:=by obtain⟨n,e⟩:=hl;obtain⟨n',e'⟩:=gB;exact⟨⟨_,e⟩,_,e'⟩
 have D:=zipApart_new (n:=aa.heap.objs.size) (l1:=a) (l2:=a') (hd.1.elim fun _ e=>Bk e) (hd.2.elim fun _ e=>Bk e)
 have off:∀b∈[aa.heap.objs.size+4,aa.heap.objs.size+3,aa.heap.objs.size,aa.heap.objs.size+1],aa.heap.get? b=none:=fa (yP 4) (fa (yP 3) (fa (yP 0) (fa (yP 1) dE)))
 refine call_zip_2 hl.isList gB.isList fun h' hz nj nk vm O2 hsz up=>?_
 refine wpAny_pyIter_zip hz ?_
 exact⟨_,_,_,_,rfl,zI k (jA _ _ _ up),fun b hb=>wT k (off b hb),
  fa ⟨_,hz⟩ (fa ⟨_,nj⟩ (fa ⟨_,nk⟩ (fa (wR vm) (fa (wR O2) (fa (hd.1.elim fun o e=>⟨o,up _ _ e⟩) (fa (hd.2.elim fun o e=>⟨o,up _ _ e⟩) (fap (fun b hb=>(bq.bU b hb).elim fun o e=>⟨o,up _ _ e⟩) fun b hb=>(fT.bU b hb).elim fun o e=>⟨o,up _ _ e⟩))))))),
  Wg hh D bq fT off,⟨⟨hz,nj,⟨_,_,nk⟩,vm,O2,hl.isList.at fun o e=>up _ o e,gB.isList.at fun o e=>up _ o e⟩,bq.sub up,fT.sub up⟩,trivial⟩
theorem i6.zip{x y xe:Str}{px py pt pe pos:Bz}{kk:Nat}{i1 i2:Expr}{a b:PE}(h1:av W C i1 a)(h2:av W C i2 b)(hx:xe= "zip") (hk:C.kn.lookup xe=some .globalImplicit) (hg:W.mg "zip" =none) (hb:W.mb "zip" =some (.type "zip"))
  (he:∀env,B6 [i1,i2] env=(false,eval i1 env)::B6 [i2] env) (O3:∀env,B6 [i2] env=[(false,eval i2 env)]):
  i6 W C (.Tuple [.Name x px, .Name y py] kk pt) [x,y] (.Call (.Name xe pe) [i1,i2] [] pos) (.zip a b):=fun env A E s σ its P e _=>by
 subst hx
 refine oB e fun p e1 e2=>?_
 refine oB e2 fun q e3 e4=>?_
 obtain⟨l,m,rfl,rfl,rfl⟩:∃l m,p= .list l/\q= .list m/\nS l m=its:=by
  cases p with
  |list l=>
   cases q with
   |list m=>exact⟨l,m,rfl,rfl,Aa e4⟩
   |_=>exact nn e4
  |_=>exact nn e4
 refine Eo rfl ?_
 refine A6 P.kind (by unfold Be;refine af P.names ?_;exact hk) (Cz (mg:=W.mg) (mb:=W.mb) (P.gl▸W.g P.wd) hg (P.bl▸W.b P.wd) hb ?_) (by decide)
 refine Cm ?_ (he env) (by refine af (O3 env) ?_;rfl)
 refine af (he env) ?_
 refine af (O3 env) ?_
 refine Ba (zE (h1 env A E s σ _ P e1) fun v aa ah=>?_)
 obtain⟨k,ns,r,_⟩:=ah
 refine Ba (zE (h2 env A E aa σ _ (P.kp k) e3) fun u s₂ ai=>?_)
 obtain⟨k₂,ms,ba,_⟩:=ai
 exact B7 (Wh P.room.hh (zI k k₂) (r.sub (zZ k₂)) ba)
end
set_option genSizeOf false
structure aj where
 chars:List Nat
 line:Int
 push:List (List Nat)
structure tQ where
 is:Value->aj->List Addr->Ap->Prop
 frame:∀{v b F h h'},is v b F h->(∀a∈F,∀o,h.get? a=some o->h'.get? a=some o)->is v b F h'
 bU:∀{v b F h},is v b F h->∀a∈F,∃o,h.get? a=some o
structure Sg where
 σ:List (Option PV)
 β:Option (Value×aj)
noncomputable def Sg.set(g:Sg)(i:Nat)(p:PV):Sg:={g with σ:=g.σ.set i (some p)}
structure Ctx where
 W:bu
 BK:tQ
 C:Cx
inductive yZ(s₀ s:Ab):Prop
 |mk (h:Ap) (t:Nat) (g:Array G9) (e:s={s₀ with heap:=h,toks:=t,gens:=g}) (x:pI s₀.gens g):yZ s₀ s
theorem yZ.refl(s:Ab):yZ s s:=⟨s.heap,s.toks,s.gens,rfl, .rfl' _⟩
theorem yZ.kg{s₀ s s':Ab}(x:yZ s₀ s)(k:KG s s'):yZ s₀ s':=by
 obtain⟨h,t,g,rfl,e⟩:=x
 obtain⟨h',t',g',rfl,_,e'⟩:=k
 exact⟨h',t',g',rfl,e.trans e'⟩
theorem yZ.heap{s₀ s:Ab}(x:yZ s₀ s)(h:Ap)(t:Nat):yZ s₀ {s with heap:=h,toks:=t}:=by
 obtain⟨h',t',g,rfl,e⟩:=x
 exact⟨h,t,g,rfl,e⟩
structure GX(C:Cx):Prop where
 inj:∀x y i,C.Γ.lookup x=some i->C.Γ.lookup y=some i->x=y
 lt:∀x i,C.Γ.lookup x=some i->i<C.n
 kd:∀x i,C.Γ.lookup x=some i->C.kn.lookup x=some .local\/C.kn.lookup x=some .cell
inductive O4(env:Dv)(h:Ap)(x:Str)(p:PV)(ns:List Addr):Prop
 |mk (v:Value) (a:Acc env h x v) (r:VR h p v ns):O4 env h x p ns
structure aw(X:Ctx)(tv dv:List Nat)(K:Addr->Option Obj)(env:Dv)(A:Al)(s₀:Ab)(g:Sg)(N:Nat->List Addr)(F:List Addr)(s:Ab):Prop where
 gV:GX X.C
 kind:env.scope.kind= .function
 names:env.scope.names=X.C.kn
 gl:env.globals=mainGlobals
 bl:env.builtins=builtinsNs
 room:wH X.W.D A
 eT:∀x k,X.C.kn.lookup x=some k->k= .cell\/k= .free->∃c,env.cells.lookup x=some c
 fj:∀x y c,env.cells.lookup x=some c->env.cells.lookup y=some c->x=y
 len:g.σ.length=X.C.n
 loc:∃m,s.heap.Ns env.locals m
 dJ:K env.locals=none
 cls:∀x c,X.C.kn.lookup x=some .cell->env.cells.lookup x=some c->(∃v,s.heap.IsCell c v)/\K c=none
 rd:∀x i p,X.C.Γ.lookup x=some i->g.σ[i]?=some (some p)->O4 env s.heap x p (N i)
 nd:∀j a,a∈N j->∃items n,s.heap.get? a=some {cls:= .type "list",data:= .seq items n}
 bO:∀i∈tv,∀a r,N i=a::r->K a=none/\a∉r/\∀j,j≠i->a∉N j
 deep:∀i∈dv,(N i).Nodup/\∀a∈N i,K a=none/\∀j,j≠i->a∉N j
 kept:∀b o,K b=some o->s.heap.get? b=some o
 eO:∀h:Ap,(∀b o,K b=some o->h.get? b=some o)->X.W.Wd h
 same:yZ s₀ s
 book:∀v b,g.β=some (v,b)->X.BK.is v b F s.heap
 foot:∀a∈F,K a=none/\(∃o,s.heap.get? a=some o)/\(∀j,a∉N j)/\a≠env.locals/\∀x c,env.cells.lookup x=some c->a≠c
section
variable{X:Ctx}{tv dv:List Nat}{K:Addr->Option Obj}{env:Dv}{A:Al}{s₀ s s':Ab}{g:Sg}{N:Nat->List Addr}{F:List Addr}
theorem aw.pre(T:aw X tv dv K env A s₀ g N F s):Pre X.W X.C env A g.σ s where
 kind:=T.kind
 names:=T.names
 gl:=T.gl
 bl:=T.bl
 room:=T.room
 len:=T.len
 rd:=fun x i p k _ _ e1 e2=>by obtain⟨v,a,r⟩:=T.rd x i p e1 e2;exact⟨v,_,a,r⟩
 wd:=T.eO _ T.kept
 eT:=T.eT
theorem aw.kg(T:aw X tv dv K env A s₀ g N F s)(k:KG s s'):aw X tv dv K env A s₀ g N F s':=
 {T with
  loc:=by obtain⟨m,h⟩:=T.loc;exact⟨m,h.keeps (zZ k)⟩
  cls:=fun x c e1 e2=>by obtain⟨⟨v,h⟩,h2⟩:=T.cls x c e1 e2;exact⟨⟨v,h.keeps (zZ k)⟩,h2⟩
  rd:=fun x i p e1 e2=>by obtain⟨v,a,r⟩:=T.rd x i p e1 e2;exact⟨v,a.sub (zZ k),r.sub (zZ k)⟩
  nd:=fun j a ha=>by obtain⟨i,n,e⟩:=T.nd j a ha;exact⟨i,n,zZ k _ _ e⟩
  kept:=fun b o e=>zZ k b o (T.kept b o e)
  same:=T.same.kg k
  book:=fun v b e=>X.BK.frame (T.book v b e) fun a _ o e=>zZ k a o e
  foot:=fun a ha=>by obtain⟨h1,⟨o,h2⟩,h3⟩:=T.foot a ha;exact⟨h1,⟨o,zZ k a o h2⟩,h3⟩}
theorem aw.mono{tv' dv':List Nat}(T:aw X tv dv K env A s₀ g N F s)(h1:∀i∈tv',i∈tv)(h2:∀i∈dv',i∈dv):aw X tv' dv' K env A s₀ g N F s:=
 {T with
  bO:=fun i hi=>T.bO i (h1 i hi)
  deep:=fun i hi=>T.deep i (h2 i hi)}
structure eu(tv dv:List Nat)(K:Addr->Option Obj)(N:Nat->List Addr)(F:List Addr)(ms:List Addr)(own:Bool):Prop where
 t:∀j∈tv,∀a r,N j=a::r->a∉ms
 d:∀j∈dv,∀a∈N j,a∉ms
 f:∀a∈F,a∉ms
 o:own=true->ms.Nodup/\∀a∈ms,K a=none/\∀j,a∉N j
theorem eu.nil{own:Bool}:eu tv dv K N F [] own:=⟨fun _ _ _ _ _=>(fun h=>nomatch h),fun _ _ _ _=>(fun h=>nomatch h),fun _ _=>(fun h=>nomatch h),fun _=>⟨Er,fun _ h=>nomatch h⟩⟩
theorem aw.held(T:aw X tv dv K env A s₀ g N F s){ms:List Addr}(f:wL s.heap ms){own:Bool}:eu tv dv K N F ms own:=by
 have off:∀j,∀a∈N j,a∉ms:=fun j a ha hm=>by
  refine gc (T.nd j a ha) fun i n e=>?_
  rw[f.new a hm]at e;exact nn e
 refine⟨fun j _ a r e=>off j a (e▸Ai ..),fun j _ a ha=>off j a ha,fun a ha hm=>?_,fun _=>⟨f.nodup,fun a ha=>⟨?_,fun j hj=>off j a hj ha⟩⟩⟩
 ·refine dX (T.foot a ha) fun _ ib _=>?_
  refine aJ ib fun o e=>?_
  rw[f.new a hm]at e;exact nn e
 ·cases e:K a with
  |none=>rfl
  |some o=>have:=T.kept a o e;rw[f.new a ha]at this;exact nn this
theorem Wi{h:Ap}{a:Addr}{m m':Str->Option Value}(x:h.Ns a m)(y:h.Ns a m')(n:Str):m n=m' n:=by
 refine jT x fun o es ep e1 e2 _ e3=>?_
 refine jT y fun o' es' ep' f1 f2 _ f3=>?_
 rw[e1]at f1;obtain rfl:=Aa f1
 rw[e2]at f2;cases f2
 rw[<-e3,f3]
theorem GY{h:Ap}{c:Addr}{m:Str->Option Value}{v:Option Value}(hn:h.Ns c m)(hc:h.IsCell c v):False:=by
 refine nO hn fun o es ep e1 e2 _=>?_
 refine aB hc fun o' f1 f2=>?_
 rw[e1]at f1;obtain rfl:=Aa f1
 rw[e2]at f2;cases f2
theorem vn{h:Ap}{c:Addr}{v:Option Value}{items:Array Value}{n:Nat}(hc:h.IsCell c v)(e:h.get? c=some {cls:= .type "list",data:= .seq items n}):False:=by
 refine aB hc fun o' f1 f2=>?_
 rw[f1]at e;obtain rfl:=Aa e;cases f2
noncomputable def fK(N:Nat->List Addr)(i:Nat)(ms:List Addr):Nat->List Addr:=fun j=>if j=i then ms else N j
theorem aw.ew{x:Str}{i:Nat}{p:PV}{v:Value}{ms:List Addr}{own:Bool}(T:aw X tv dv K env A s₀ g N F s)(hx:X.C.Γ.lookup x=some i)(r:VR s.heap p v ms)(H:eu tv dv K N F ms own)
  (ho:own=true\/(i∉tv/\i∉dv)) {E:Value->Ab->Prop}:
  Am (Af X.W.prog X.W.w) A (storeName env x v) (fun _ s'=>aw X tv dv K env A s₀ (g.set i p) (fK N i ms) F s'/\(∀a items n,s.heap.get? a=some {cls:= .type "list",data:= .seq items n}->s'.heap.get? a=some {cls:= .type "list",data:= .seq items n})/\∀b o,b≠env.locals->(∀y d,X.C.kn.lookup y=some .cell->env.cells.lookup y=some d->b≠d)->s.heap.get? b=some o->s'.heap.get? b=some o) E s:=by
 have hi:i<g.σ.length:=by refine af T.len ?_;exact T.gV.lt x i hx
 have key:∀(c:Addr) (h':Ap) (tk:Nat),(∀b o,b≠c->s.heap.get? b=some o->h'.get? b=some o)->(c=env.locals\/∃y,X.C.kn.lookup y=some .cell/\env.cells.lookup y=some c)->K c=none->(∀items n,s.heap.get? c≠some {cls:= .type "list",data:= .seq items n})->
   c∉F->(∃m,h'.Ns env.locals m)->(∀y d,X.C.kn.lookup y=some .cell->env.cells.lookup y=some d->∃v,h'.IsCell d v)->
   (∀y j q,y≠x->X.C.Γ.lookup y=some j->g.σ[j]?=some (some q)->∀u,Acc env s.heap y u->Acc env h' y u)->Acc env h' x v->
   aw X tv dv K env A s₀ (g.set i p) (fK N i ms) F {s with heap:=h',toks:=tk}/\(∀a items n,s.heap.get? a=some {cls:= .type "list",data:= .seq items n}->h'.get? a=some {cls:= .type "list",data:= .seq items n})/\∀b o,b≠env.locals->(∀y d,X.C.kn.lookup y=some .cell->env.cells.lookup y=some d->b≠d)->s.heap.get? b=some o->h'.get? b=some o:=by
  intro c h' tk up GZ HA dc HB bf bM dq Wj
  have nodes:∀a,(∃items n,s.heap.get? a=some {cls:= .type "list",data:= .seq items n})->∀o,s.heap.get? a=some o->h'.get? a=some o:=fun a ⟨it,n,e⟩ o e'=>up a o (fun q=>dc it n (q▸e)) e'
  have O5:=r.nodes
  refine⟨?_,fun a items n e=>nodes a ⟨items,n,e⟩ _ e,fun b o h1 h2 e=>up b o (fun q=>by
   rcases GZ with rfl|⟨y,e1,e2⟩
   ·exact h1 q
   ·exact h2 y c e1 e2 q) e⟩
  exact
   {gV:=T.gV,kind:=T.kind,names:=T.names,gl:=T.gl,bl:=T.bl,room:=T.room,eT:=T.eT,fj:=T.fj
    len:=by refine(?_:(g.σ.set i (some p)).length=_);refine af C5 ?_;exact T.len
    loc:=bf,dJ:=T.dJ
    cls:=fun y d e1 e2=>⟨bM y d e1 e2,(T.cls y d e1 e2).2⟩
    rd:=fun y j q e1 e2=>by
     by_cases hj:j=i
     ·subst hj
      have:y=x:=T.gV.inj y x j e1 hx
      subst this
      have e2:(g.σ.set j (some p))[j]?=some (some q):=e2
      rw[El hi]at e2
      cases e2
      refine⟨v,Wj,?_⟩
      unfold fK;refine af (if_pos rfl) ?_
      exact r.on fun a ha o e=>nodes a (O5 a ha) o e
     ·have e2:(g.σ.set i (some p))[j]?=some (some q):=e2
      rw[By (Ir hj)]at e2
      obtain⟨u,a,r'⟩:=T.rd y j q e1 e2
      have ri:y≠x:=fun q=>hj (by rw[q,hx]at e1;obtain rfl:=Aa e1;rfl)
      refine⟨u,dq y j q ri e1 e2 u a,?_⟩
      unfold fK;refine af (if_neg hj) ?_
      exact r'.on fun a ha o e=>nodes a (T.nd j a ha) o e
    nd:=fun j a ha=>by
     unfold fK at ha
     split at ha
     ·obtain⟨it,n,e⟩:=O5 a ha;exact⟨it,n,nodes a ⟨it,n,e⟩ _ e⟩
     ·obtain⟨it,n,e⟩:=T.nd j a ha;exact⟨it,n,nodes a ⟨it,n,e⟩ _ e⟩
    bO:=fun j hj a rr e=>by
     unfold fK at e
     by_cases dQ:j=i
     ·rw[if_pos dQ]at e
      subst dQ
      rcases ho with ho|ho
      ·refine au (H.o ho) fun h1 h2=>?_
       rw[e]at h1 h2
       refine au (h2 a (Ai ..)) fun h3 h4=>?_
       refine nP h3 ((Dl.mp h1).1) (fun k hk=>?_)
       unfold fK;refine af (if_neg hk) ?_;exact h4 k
      ·exact absurd hj ho.1
     ·rw[if_neg dQ]at e
      refine dX (T.bO j hj a rr e) fun h1 h2 h3=>?_
      refine nP h1 h2 (fun k hk=>?_)
      unfold fK
      split
      ·exact H.t j hj a rr e
      ·exact h3 k hk
    deep:=fun j hj=>by
     unfold fK
     by_cases dQ:j=i
     ·refine af (if_pos dQ) ?_
      subst dQ
      rcases ho with ho|ho
      ·refine au (H.o ho) fun h1 h2=>?_
       refine cj h1 (fun a ha=>⟨(h2 a ha).1,fun k hk=>?_⟩)
       refine af (if_neg hk) ?_;exact(h2 a ha).2 k
      ·exact absurd hj ho.2
     ·refine af (if_neg dQ) ?_
      refine au (T.deep j hj) fun h1 h2=>?_
      refine cj h1 (fun a ha=>⟨(h2 a ha).1,fun k hk=>?_⟩)
      split
      ·exact H.d j hj a ha
      ·exact(h2 a ha).2 k hk
    kept:=fun b o e=>up b o (fun q=>by rw[q,HA]at e;exact nn e) (T.kept b o e)
    eO:=T.eO
    same:=T.same.heap h' tk
    book:=fun u b e=>X.BK.frame (T.book u b e) fun a ha o e=>up a o (fun q=>HB (q▸ha)) e
    foot:=fun a ha=>by
     refine AE (T.foot a ha) fun h1 ib h3 h4 h5=>?_
     refine aJ ib fun o h2=>?_
     refine uT h1 ⟨o,up a o (fun q=>HB (q▸ha)) h2⟩ (fun j=>?_) h4 h5
     unfold fK
     split
     ·exact H.f a ha
     ·exact h3 j}
 have kindOf:∀k,X.C.kn.lookup x=some k->env.kindOf x=some k:=fun k e=>by unfold Be;refine af T.names ?_;exact e
 rcases T.gV.kd x i hx with hk|hk
 ·refine aJ T.loc fun m hm=>?_
  refine wpAny_storeName_local (kindOf _ hk) hm (fun h' pS dg=>?_) (by refine af T.kind ?_;rfl)
  refine key env.locals h' _ (fun b o hb e=>dg.extBut b o hb e) (.inl rfl) T.dJ (fun items n e=>wM hm e) (fun hF=>(T.foot _ hF).2.2.2.1 rfl) ⟨_,pS⟩ (fun y d e1 e2=>?_) (fun y j q ri e1 e2 u a=>?_) ?_
  ·refine au (T.cls y d e1 e2) fun bL _=>?_
   refine aJ bL fun w h=>?_
   exact cn w (h.sameBut dg fun q=>GY hm (q▸h))
  ·rcases a with⟨hl,m',pT,hv⟩|⟨hl,c,hc,hv⟩
   ·refine .inl ⟨hl,_,pS,?_⟩
    (refine eM ri ?_;(refine af (Wi hm pT ..) ?_;exact af hv rfl))
   ·exact .inr ⟨hl,c,hc,hv.sameBut dg fun q=>GY hm (q▸hv)⟩
  ·exact .inl ⟨kindOf _ hk,_,pS,by simp⟩
 ·refine aJ (T.eT x _ hk (.inl rfl)) fun c hc=>?_
  refine au (T.cls x c hk hc) fun bL HA=>?_
  refine aJ bL fun Wl lV=>?_
  refine aJ T.loc fun m hm=>?_
  refine wpAny_storeName_cell T.kind (kindOf _ hk) hc lV fun h' aR dg=>?_
  have BB:env.locals≠c:=fun q=>GY hm (q▸lV)
  refine key c h' s.toks (fun b o hb e=>dg.extBut b o hb e) (.inr ⟨x,hk,hc⟩) HA (fun items n e=>vn lV e) (fun hF=>(T.foot _ hF).2.2.2.2 x c hc rfl) ⟨m,hm.sameBut dg BB⟩ (fun y d e1 e2=>?_) (fun y j q ri e1 e2 u a=>?_) ?_
  ·by_cases hd:d=c
   ·subst hd;exact⟨_,aR⟩
   ·refine au (T.cls y d e1 e2) fun bL _=>?_
    refine aJ bL fun w h=>?_
    exact cn w (h.sameBut dg hd)
  ·rcases a with⟨hl,m',pT,hv⟩|⟨hl,c',kY,hv⟩
   ·exact .inl ⟨hl,m',pT.sameBut dg BB,hv⟩
   ·refine .inr ⟨hl,c',kY,hv.sameBut dg fun q=>ri (T.fj y x c' kY (q▸hc))⟩
  ·exact .inr ⟨.inl (kindOf _ hk),c,hc,aR⟩
theorem aw.store{x:Str}{i:Nat}{p:PV}{v:Value}{ms:List Addr}{own:Bool}(T:aw X tv dv K env A s₀ g N F s)(hx:X.C.Γ.lookup x=some i)(r:VR s.heap p v ms)(H:eu tv dv K N F ms own)
  (ho:own=true\/(i∉tv/\i∉dv)) {E:Value->Ab->Prop}:
  Am (Af X.W.prog X.W.w) A (storeName env x v) (fun _ s'=>aw X tv dv K env A s₀ (g.set i p) (fK N i ms) F s') E s:=zE (T.ew hx r H ho) fun _ _ h=>h.1
end
set_option genSizeOf false
inductive Fl where
 |next|brk|cont
 |ret (p:PV)
noncomputable abbrev Den:=Sg->Option (Sg×Fl)
noncomputable abbrev dr:=Sg->Option (Sg×PV)
noncomputable def fk(U:Uc)(pe:PE):dr:=fun g=>(ev U pe g.σ).bind fun p=>if fresh pe p then some (g,p)else none
noncomputable def yY(i:Nat)(f:dr):Den:=fun g=>(f g).bind fun r=>some (r.1.set i r.2, .next)
noncomputable def O6(i j:Nat)(f:dr):Den:=fun g=>(f g).bind fun r=>some ((r.1.set i r.2).set j r.2, .next)
noncomputable def O7(i j:Nat)(U:Uc)(a b:PE):Den:=fun g=>(ev U a g.σ).bind fun x=>(ev U b g.σ).bind fun y=>if x.aZ&&y.aZ then some ((g.set j y).set i x, .next)else none
noncomputable def O8(op:H0)(x y:PV):Option PV:=match op with
 | .Sub=>tF (fun a b=>some (a-b)) x y
 | .Add=>match x with
  | .int a=>y.int?.map fun b=> .int (a+b)
  | .str a=>y.dh.bind fun b=>if a.length+b.length<=ag then some (.str (a++b))else none
  |_=>none
 |_=>none
noncomputable def oe(U:Uc)(op:H0)(i:Nat)(pe:PE):Den:=fun g=>((g.σ[i]?).bind id).bind fun x=>(ev U pe g.σ).bind fun y=>(O8 op x y).map fun z=>(g.set i z, .next)
noncomputable def BC(U:Uc)(c:PT)(f h:Den):Den:=fun g=>(aY U c g.σ).bind fun t=>if t then f g else h g
noncomputable def vo(f:dr):Den:=fun g=>(f g).bind fun r=>some (r.1, .ret r.2)
noncomputable def az:Den:=fun g=>some (g, .next)
noncomputable def zX(f h:Den):Den:=fun g=>(f g).bind fun r=>match r with
 |(g', .next)=>h g'
 |r=>some r
section
variable(X:Ctx)(tv dv:List Nat)
inductive PX(K:Addr->Option Obj)(env:Dv)(A:Al)(s₀:Ab)(g':Sg)(p:PV)(own:Bool)(v:Value)(s':Ab):Prop
 |mk (N':Nat->List Addr) (F' ms:List Addr) (T:aw X tv dv K env A s₀ g' N' F' s') (r:VR s'.heap p v ms) (H:eu tv dv K N' F' ms own):PX K env A s₀ g' p own v s'
noncomputable def Wm(K:Addr->Option Obj)(env:Dv)(A:Al)(E:Value->Ab->Prop)(s₀:Ab)(g':Sg)(p:PV)(own:Bool)(e:Expr)(s:Ab):Prop:=Am (Af X.W.prog X.W.w) A (eval e env) (PX X tv dv K env A s₀ g' p own) E s
noncomputable def wV(own:Bool)(e:Expr)(f:dr):Prop:=∀K env A E s₀ g N F s g' p,aw X tv dv K env A s₀ g N F s->f g=some (g',p)->Wm X tv dv K env A E s₀ g' p own e s
noncomputable def Wn(K:Addr->Option Obj):Fl->Ls->Ab->Prop
 | .next,fw,_=>fw= .next
 | .brk,fw,_=>fw= .brk
 | .cont,fw,_=>fw= .cont
 | .ret p,fw,s=>∃v ms,fw= .ret v/\VR s.heap p v ms/\∀a∈ms,K a=none
inductive i9(K:Addr->Option Obj)(env:Dv)(A:Al)(s₀:Ab)(g':Sg)(fl:Fl)(fw:Ls)(s':Ab):Prop
 |mk (f:Wn K fl fw s') (N':Nat->List Addr) (F':List Addr) (T:aw X tv dv K env A s₀ g' N' F' s'):i9 K env A s₀ g' fl fw s'
noncomputable def HC(K:Addr->Option Obj)(env:Dv)(A:Al)(E:Value->Ab->Prop)(s₀:Ab)(g':Sg)(fl:Fl)(st:Stmt)(s:Ab):Prop:=Am (Af X.W.prog X.W.w) A (exec st env) (i9 X tv dv K env A s₀ g' fl) E s
noncomputable def O9(K:Addr->Option Obj)(env:Dv)(A:Al)(E:Value->Ab->Prop)(s₀:Ab)(g':Sg)(fl:Fl)(b:List Stmt)(s:Ab):Prop:=Am (Af X.W.prog X.W.w) A (Ge b env) (i9 X tv dv K env A s₀ g' fl) E s
noncomputable def zN(st:Stmt)(f:Den):Prop:=∀K env A E s₀ g N F s g' fl,aw X tv dv K env A s₀ g N F s->f g=some (g',fl)->HC X tv dv K env A E s₀ g' fl st s
noncomputable def zO(tv' dv':List Nat)(b:List Stmt)(f:Den):Prop:=∀K env A E s₀ g N F s g' fl,aw X tv dv K env A s₀ g N F s->f g=some (g',fl)->O9 X tv' dv' K env A E s₀ g' fl b s
end
noncomputable def ja(a b:List Nat):Bool:=a.all b.contains
theorem pU{a b:List Nat}(h:ja a b=true):∀i∈a,i∈b:=fun i hi=>by
 unfold ja at h
 have:=Ao.mp h i hi
 simpa using this
section
variable{X:Ctx}{tv dv tv' dv':List Nat}
theorem wV.pure{e:Expr}{pe:PE}(h:av X.W X.C e pe):wV X tv dv true e (fk X.W.U pe):=fun K env A E s₀ g N F s g' p T e=>by
 refine oB e fun q e1 e2=>?_
 refine oI e2 fun hf e2=>?_
 refine sp e2 (zE (h env A E s g.σ q T.pre e1) fun v aa ah=>?_)
 obtain⟨k,ns,r,f⟩:=ah
 exact⟨N,F,ns,T.kg k,r,T.held (f hf)⟩
theorem zN.assign{x:Str}{i:Nat}{px pos:Bz}{value:Expr}{f:dr}{own:Bool}(hx:X.C.Γ.lookup x=some i)(ho:own=true\/(i∉tv/\i∉dv))(h:wV X tv dv own value f)
  (hs:∀env:Dv,env.scope.names=X.C.kn->It value (some (.Name x px)) pos.line env=pure false):zN X tv dv (.Assign [.Name x px] value pos) (yY i f):=fun K env A E s₀ g N F s g' fl T e=>by
 obtain⟨⟨g₁,p⟩,e1,e2⟩:=wO e
 refine sp e2 ?_
 refine Hf (zE (h K env A E s₀ g N F s g₁ p T e1) fun v aa ah=>?_) (hs env T.names)
 obtain⟨N',F',ms,T',r,H⟩:=ah
 exact zE (T'.store hx r H ho) fun _ s₂ ax=>⟨rfl,_,_,ax⟩
theorem zN.cZ{x y:Str}{i j:Nat}{px py pos:Bz}{value:Expr}{pe:PE}(hx:X.C.Γ.lookup x=some i)(hy:X.C.Γ.lookup y=some j)(hi:i∉tv/\i∉dv)(hj:j∉tv/\j∉dv)
  (h:av X.W X.C value pe):zN X tv dv (.Assign [.Name x px, .Name y py] value pos) (O6 i j fun g=>(ev X.W.U pe g.σ).bind fun p=>if p.aZ then some (g,p)else none):=fun K env A E s₀ g N F s g' fl T e=>by
 obtain⟨⟨g₁,p⟩,e1,e2⟩:=wO e
 refine oB e1 fun q e3 e4=>?_
 refine oI e4 fun kj e4=>?_
 refine au (Bg (Aa e4)) fun aG aP=>?_
 subst aG
 subst aP
 refine sp e2 (wpAny_Assign_two (zE (h env A E s g.σ q T.pre e3) fun v aa ah=>?_))
 obtain⟨k,ns,r,f⟩:=ah
 refine Di (zE ((T.kg k).store hx (r.bS kj) (eu.nil (own:=true)) (.inl rfl)) fun _ s₂ ax=>?_)
 exact Di (zE (ax.store hy (r.bS kj) (eu.nil (own:=true)) (.inl rfl)) fun _ ao aM=>⟨rfl,_,_,aM⟩)
theorem Wo{prog:Program}{w:Cn}{A:Al}{E:Value->Ab->Prop}{s:Ab}{h:Ap}{op:H0}{x y z:PV}{v u:Value}{ns ms:List Addr}{Q:Value->Ab->Prop}(e:O8 op x y=some z)(hv:VR h x v ns)(hu:VR h y u ms)
  (k:∀v' tk,(∀h',VR h' z v' [])->Q v' {s with toks:=tk}):Am (Af prog w) A (Jl op v u) Q E s:=by
 cases op with
 |Sub=>exact u1 hv hu e (M:=fun z v u=>(∀v' tk,(∀h',VR h' z v' [])->Q v' {s with toks:=tk})->Am (Af prog w) A (Jl .Sub v u) Q E s) (fun a b c t t' q k=>PyProof.Rows.isub_int (k _ _ fun h'=>Aa q▸ .int ..)) k
 |Add=>
  cases x with
  |int a=>
   obtain⟨b,e1,rfl⟩:=wX e
   exact VR.ee hv (M:=fun v _=>Am (Af prog w) A (Jl .Add v u) Q E s) fun t=>VR.dG hu e1 (M:=fun u _=>Am (Af prog w) A (Jl .Add _ u) Q E s) fun t'=>J8 (k _ _ fun h'=> .int ..)
  |str a=>
   refine oB e fun b e1 e=>?_
   refine oI e fun hsz e=>?_
   refine VR.eZ hv (M:=fun v _=>Am (Af prog w) A (Jl .Add v u) Q E s) fun t=>VR.g8 hu e1 (M:=fun u _=>Am (Af prog w) A (Jl .Add _ u) Q E s) fun t'=>SBL.iadd (fun t' kk _=>?_) (by rw[Bm];simp[Ce];assumption)
   rw[FX]
   exact k _ _ fun h'=>Aa e▸ .str ..
  |_=>exact nn e
 |_=>exact nn e
theorem zN.aug{x:Str}{i:Nat}{px pos:Bz}{op:H0}{value:Expr}{pe:PE}(hx:X.C.Γ.lookup x=some i)(h:av X.W X.C value pe)(hn:(x==("__classdict__" :Str))=false):
  zN X tv dv (.AugAssign (.Name x px) op value pos) (oe X.W.U op i pe):=fun K env A E s₀ g N F s g' fl T e=>by
 refine oB e fun p e1 e=>?_
 refine oB e fun q e2 e=>?_
 obtain⟨z,ez,e⟩:=wX e
 refine oB e1 fun p' e3 e4=>?_
 obtain rfl:p'=some p:=e4
 obtain⟨v,a,r⟩:=T.rd x i p hx e3
 refine au (Bg e) fun aG aP=>?_
 subst aG
 subst aP
 refine wpAny_AugAssign_Name (zU T.kind a ?_ hn)
 refine zE (h env A E s g.σ q T.pre e2) fun u aa ah=>?_
 obtain⟨k,ns,r',_⟩:=ah
 refine Wo (h:=aa.heap) ez (r.sub (zZ k)) r' fun v' tk hz=>?_
 exact zE (((T.kg k).kg (du aa tk)).store hx (hz _) (eu.nil (own:=true)) (.inl rfl)) fun _ ao aM=>⟨rfl,_,_,aM⟩
theorem zN.Pa{test:Expr}{body orelse:List Stmt}{pos:Bz}{c:PT}{f h:Den}(ht:di X.W X.C test c)(hb:zO X tv dv tv dv body f)(ho:zO X tv dv tv dv orelse h):
  zN X tv dv (.If test body orelse pos) (BC X.W.U c f h):=fun K env A E s₀ g N F s g' fl T e=>by
 refine oB e fun t e1 e2=>?_
 refine Lu (zE (ht env A E s g.σ t T.pre e1) fun b aa ah=>?_)
 refine au ah fun aG k=>?_
 clear ah
 subst aG
 cases b with
 |true=>exact hb K env A E s₀ g N F aa g' fl (T.kg k) e2
 |false=>exact ho K env A E s₀ g N F aa g' fl (T.kg k) e2
theorem zN.ret{e:Expr}{pos:Bz}{f:dr}(h:wV X tv dv true e f):zN X tv dv (.Return (some e) pos) (vo f):=fun K env A E s₀ g N F s g' fl T e=>by
 obtain⟨⟨g₁,p⟩,e1,e2⟩:=wO e
 refine au (Bg (Aa e2)) fun aG aP=>?_
 subst aG
 subst aP
 refine F6 (zE (h K env A E s₀ g N F s g₁ p T e1) fun v aa ah=>?_)
 obtain⟨N',F',ms,T',r,H⟩:=ah
 exact⟨⟨v,ms,rfl,r,fun a ha=>((H.o rfl).2 a ha).1⟩,N',F',T'⟩
theorem zN.brk{pos:Bz}:zN X tv dv (.Break pos) (fun g=>some (g, .brk)):=fun K env A E s₀ g N F s g' fl T e=>by
 exact sp e (wpAny_Break ⟨rfl,N,F,T⟩)
theorem zN.cont{pos:Bz}:zN X tv dv (.Continue pos) (fun g=>some (g, .cont)):=fun K env A E s₀ g N F s g' fl T e=>by
 exact sp e (wpAny_Continue ⟨rfl,N,F,T⟩)
theorem zN.pass{pos:Bz}:zN X tv dv (.Pass pos) az:=fun K env A E s₀ g N F s g' fl T e=>by
 exact sp e (wpAny_Pass ⟨rfl,N,F,T⟩)
theorem zO.nil(h1:ja tv' tv=true)(h2:ja dv' dv=true):zO X tv dv tv' dv' [] az:=fun K env A E s₀ g N F s g' fl T e=>by
 exact sp e (Ei ⟨rfl,N,F,T.mono (pU h1) (pU h2)⟩)
theorem zO.cons{tv₁ dv₁:List Nat}{st:Stmt}{rest:List Stmt}{f h:Den}(h1:zN X tv dv st f)(h2:zO X tv₁ dv₁ tv' dv' rest h)(m1:ja tv₁ tv=true)(m2:ja dv₁ dv=true)(m3:ja tv' tv=true)(m4:ja dv' dv=true):
  zO X tv dv tv' dv' (st::rest) (zX f h):=fun K env A E s₀ g N F s g' fl T e=>by
 obtain⟨⟨g₁,ig⟩,e1,e2⟩:=wO e
 refine Bd (zE (h1 K env A E s₀ g N F s g₁ ig T e1) fun fw aa ah=>?_)
 obtain⟨hf,N',F',T'⟩:=ah
 have aW:=T'.mono (pU m3) (pU m4)
 cases ig with
 |next=>exact Fw hf▸h2 K env A E s₀ g₁ N' F' aa g' fl (T'.mono (pU m1) (pU m2)) e2
 |brk=>exact sp e2 (Fw hf▸⟨rfl,N',F',aW⟩)
 |cont=>exact sp e2 (Fw hf▸⟨rfl,N',F',aW⟩)
 |ret p=>exact sp e2 (let⟨v,ms,q,r,hn⟩:=hf;q.symm▸⟨⟨v,ms,rfl,r,hn⟩,N',F',aW⟩)
end
theorem ak.setAt{h:Ap}{ps:List PV}{vs:List Value}{ns:List Addr}(x:ak h ps vs ns){p:PV}{v:Value}(k:Nat)(r:VR h p v []):∃r,ak h (ps.set k p) (vs.set k v) r/\∀b∈r,b∈ns:=
 x.ind (M:=fun ps vs ns=>∀k:Nat,∃r,ak h (ps.set k p) (vs.set k v) r/\∀b∈r,b∈ns) (fun _=>⟨[], .nil,fun _ h=>h⟩) (fun hv hs ih k=>by
  cases k with
  |zero=>exact⟨_, .cons r hs,fun b hb=>Ar _ hb⟩
  |succ k=>
   refine aB (ih k) fun r' e1 e2=>?_
   exact⟨_, .cons hv e1,fun b hb=>Bb.mpr ((Bb.mp hb).imp id (e2 b))⟩) k
theorem ak.snoc{h:Ap}:∀{ps:List PV} {p:PV} {vs:List Value} {ns:List Addr},ak h (ps++[p]) vs ns->∃us v r n,vs=us++[v]/\ak h ps us r/\VR h p v n/\(∀b∈r,b∈ns)/\∀b∈n,b∈ns
 |[],p,_,_,x=>x.lP (M:=fun vs=>∃us v r n,vs=us++[v]/\ak h [] us r/\VR h p v n/\(∀b∈r,b∈_)/\∀b∈n,b∈_) fun v hv=>⟨[],v,[],_,rfl, .nil,hv,fun _ h=>(Aq h).elim,fun _ h=>h⟩
 |q::ps,p,vs,ns,x=>ak.fc (M:=fun vs ns=>∃us v r n,vs=us++[v]/\ak h (q::ps) us r/\VR h p v n/\(∀b∈r,b∈ns)/\∀b∈n,b∈ns) x fun w _ _ _ hv hs=>by
  refine uR (ak.snoc (ps:=ps) hs) fun us v r n hV e1 e2 e3 e4=>?_
  subst hV
  exact UX (w::us) v _ n rfl (.cons hv e1) e2 (fun b hb=>Bb.mpr ((Bb.mp hb).imp id (e3 b))) (fun b hb=>Ar _ (e4 b hb))
section
variable{X:Ctx}{tv dv:List Nat}{K:Addr->Option Obj}{env:Dv}{A:Al}{s₀ s:Ab}{g:Sg}{N:Nat->List Addr}{F:List Addr}
theorem vp{i j:Nat}{l:List Addr}{b:Addr}{P:Prop}(h:b∈fK N i l j)(h1:j=i->b∈l->P)(h2:j≠i->b∈N j->P):P:=by
 by_cases q:j=i
 ·exact h1 q (by rw[fK,if_pos q]at h;exact h)
 ·exact h2 q (by rw[fK,if_neg q]at h;exact h)
theorem pV{i j:Nat}{l:List Addr}(h:j≠i):fK N i l j=N j:=if_neg h
theorem HD{i:Nat}{l:List Addr}:fK N i l i=l:=if_pos rfl
inductive HE(env:Dv)(h:Ap)(x:Str)(l:List PV)(ns:List Addr):Prop
 |mk (a:Addr) (r:List Addr) (us:List Value) (hN:ns=a::r) (acc:Acc env h x (.ref a)) (pl:h.PlainList a (Ek us)) (vs:ak h l us r):HE env h x l ns
theorem aw.top{x:Str}{i:Nat}{l:List PV}(T:aw X tv dv K env A s₀ g N F s)(hx:X.C.Γ.lookup x=some i)(hl:g.σ[i]?=some (some (.list l))):HE env s.heap x l (N i):=by
 obtain⟨v,a,r⟩:=T.rd x i _ hx hl
 exact VR.dB r (M:=fun v ns=>Acc env s.heap x v->HE env s.heap x l ns) (fun b vs ms h1 h2 ac=>⟨b,ms,vs,rfl,ac,h1,h2⟩) a
theorem Acc.vq{h h':Ap}{a:Addr}{its:Array Value}{nn:Nat}{y:Str}{u:Value}(fm:h.get? a=some {cls:= .type "list",data:= .seq its nn}) (hs:Co a h h') (ac:Acc env h y u):Acc env h' y u:=by
 rcases ac with⟨hk,m,hn,hm⟩|⟨hk,c,hc,o,e1,e2⟩
 ·exact .inl ⟨hk,m,hn.at' fun o e=>hs _ o (fun q=>wM hn (q▸fm)) e,hm⟩
 ·exact .inr ⟨hk,c,hc,o,hs c o (fun q=>vn ⟨o,e1,e2⟩ (q▸fm)) e1,e2⟩
theorem aw.mut{x:Str}{i:Nat}{l l':List PV}{a:Addr}{r r':List Addr}{tS:List Value}{h':Ap}{tk:Nat}(T:aw X tv dv K env A s₀ g N F s)(hx:X.C.Γ.lookup x=some i)(hl:g.σ[i]?=some (some (.list l)))
  (hi:i∈tv) (hd:i∉dv) (hN:N i=a::r) (cQ:h'.PlainList a tS.toArray) (bq:ak s.heap l' tS r') (Pb:a∉r') (hs:Co a s.heap h')
  (h1:∀j∈tv,j≠i->∀b q,N j=b::q->b∉r') (h2:∀j∈dv,∀b∈N j,b∉r') (h3:∀b∈F,b∉r'):
  aw X tv dv K env A s₀ (g.set i (.list l')) (fK N i (a::r')) F {s with heap:=h',toks:=tk}:=by
 refine dX (T.bO i hi a r hN) fun rj ij dR=>?_
 have lj:i<g.σ.length:=(Bc.mp hl).1
 have Pc:a∈N i:=hN▸Ai ..
 refine gc (T.nd i a Pc) fun its nn fm=>?_
 have HF:a∉F:=fun h=>(T.foot a h).2.2.1 i Pc
 have oh:ak h' l' tS r':=bq.on fun b hb o e=>hs b o (fun q=>Pb (q▸hb)) e
 exact
  {gV:=T.gV,kind:=T.kind,names:=T.names,gl:=T.gl,bl:=T.bl,room:=T.room,eT:=T.eT,fj:=T.fj
   len:=by refine(?_:(g.σ.set i _).length=_);refine af C5 ?_;exact T.len
   loc:=by obtain⟨m,hm⟩:=T.loc;exact⟨m,hm.at' fun o e=>hs _ o (fun q=>wM hm (q▸fm)) e⟩
   dJ:=T.dJ
   cls:=fun y c e1 e2=>by
    refine au (T.cls y c e1 e2) fun bL h=>?_
    refine dY bL fun v o e3 e4=>?_
    exact cj ⟨v,o,hs c o (fun q=>vn ⟨o,e3,e4⟩ (q▸fm)) e3,e4⟩ h
   rd:=fun y j q e1 e2=>by
    by_cases hj:j=i
    ·have ri:y=x:=T.gV.inj y x i (hj▸e1) hx
     have e2:(g.σ.set i (some (.list l')))[i]?=some (some q):=hj▸e2
     rw[El lj]at e2
     obtain⟨a',r0,HG,e3,e4,_⟩:=T.top hx hl
     refine au (D8 (hN.symm.trans e3)) fun aG _=>?_
     subst aG
     refine⟨.ref a,ri▸e4.vq fm hs,?_⟩
     refine af hj ?_
     refine af HD ?_
     exact Aa (Aa e2)▸ .list cQ oh
    ·have e2:(g.σ.set i (some (.list l')))[j]?=some (some q):=e2
     rw[By (Ir hj)]at e2
     obtain⟨u,ac,rr⟩:=T.rd y j q e1 e2
     refine⟨u,ac.vq fm hs,?_⟩
     refine af (pV hj) ?_
     exact rr.on fun b hb o e=>hs b o (fun q=>dR j hj (q▸hb)) e
   nd:=fun j b hb=>vp hb (fun _ hb=>(Ax.mp hb).elim (fun q=>cQ.elim fun n e=>⟨_,n,q▸e⟩) (oh.nodes b)) fun hj hb=>(T.nd j b hb).elim fun it e=>e.elim fun n e=>⟨it,n,hs b _ (fun q=>dR j hj (q▸hb)) e⟩
   bO:=fun j hj b rr e=>by
    by_cases dQ:j=i
    ·rw[dQ,HD]at e
     refine au (D8 e) fun aG aP=>?_
     subst aG
     subst aP
     exact nP rj Pb (fun k hk=>by refine af (pV (dQ▸hk)) ?_;exact dR k (dQ▸hk))
    ·rw[pV dQ]at e
     refine dX (T.bO j hj b rr e) fun g1 g2 g3=>?_
     exact nP g1 g2 (fun k hk hm=>vp hm (fun _ hm=>(Ax.mp hm).elim (fun q=>dR j dQ (e▸q▸Ai ..)) (h1 j hj dQ b rr e)) fun _=>g3 k hk)
   deep:=fun j hj=>by
    have dQ:j≠i:=fun q=>hd (q▸hj)
    refine af (pV dQ) ?_
    refine au (T.deep j hj) fun g1 g2=>?_
    exact cj g1 (fun b hb=>⟨(g2 b hb).1,fun k hk hm=>vp hm (fun _ hm=>(Ax.mp hm).elim (fun q=>dR j dQ (q▸hb)) (h2 j hj b hb)) fun _=>(g2 b hb).2 k hk⟩)
   kept:=fun b o e=>hs b o (fun q=>by rw[q,rj]at e;cases e) (T.kept b o e)
   eO:=T.eO
   same:=T.same.heap h' tk
   book:=fun u b e=>X.BK.frame (T.book u b e) fun c hc o e=>hs c o (fun q=>HF (q▸hc)) e
   foot:=fun b hb=>by
    refine AE (T.foot b hb) fun g1 ib g3 g4 g5=>?_
    refine aJ ib fun o g2=>?_
    exact⟨g1,⟨o,hs b o (fun q=>HF (q▸hb)) g2⟩,fun j hm=>vp hm (fun _ hm=>(Ax.mp hm).elim (fun q=>HF (q▸hb)) (h3 b hb)) fun _=>g3 j,g4,g5⟩}
theorem Pd{prog:Program}{w:Cn}{E:Value->Ab->Prop}{l:Addr}{us:List Value}{y:Value}{Q:Value->Ab->Prop}(hl:s.heap.PlainList l (us++[y]).toArray)(hsz:us.length+1<=ag)
  (hQ:∀h',h'.PlainList l us.toArray->Co l s.heap h'->Q y {s with heap:=h'}):Am (Af prog w) A (call (.builtin "list.pop") [.ref l]) Q E s:=by
 refine aJ hl fun n ho=>?_
 have hz:(us++[y]).toArray.size<=sizeLine:=by refine af Bm ?_;simp;exact Jz ‹_›
 have hk:(us++[y]).toArray.size-1=us.length:=by(refine af A3 ?_;refine af Ah ?_);rfl
 have hy:(us++[y]).toArray[(us++[y]).toArray.size-1]?=some y:=by refine af hk ?_;simp
 refine Le Ez ⟨_,ho,rfl⟩ J0 (PySem.F.args_list_pop_1 _) (PySem.MeetsSeq.list_pop_last l _ n y hy hz) ⟨ho,hQ _ ?_ (Fc ..).extBut⟩
 have q:=Ht ho (fun xs=>xs.eraseIdxIfInBounds ((us++[y]).toArray.size-1))
 rw[hk,kl_erase,Bv]at q
 refine af hk ?_
 exact cn _ q
noncomputable def ll(g:Sg)(i:Nat):Option (List PV):=((g.σ[i]?).bind id).bind PV.dC
theorem HH{g:Sg}{i:Nat}{l:List PV}(h:ll g i=some l):g.σ[i]?=some (some (.list l)):=by
 refine oB h fun p e1 e2=>?_
 refine oB e1 fun q e3 e4=>?_
 rw[e3,show q=some p from e4,PV.ej e2]
theorem HI{g:Sg}{i:Nat}{l:List PV}(h:g.σ[i]?=some (some (.list l))):ll g i=some l:=by
 rw[ll,h];rfl
noncomputable def vt(i:Nat):dr:=fun g=>(ll g i).bind fun l=>if l.length<=ag then(l.getLast?).map fun p=>(g.set i (.list l.dropLast),p)else none
inductive Pe(i:Nat)(g g':Sg)(p:PV):Prop
 |mk (l:List PV) (hl:g.σ[i]?=some (some (.list (l++[p])))) (hsz:l.length+1<=ag) (hg:g.set i (.list l)=g'):Pe i g g' p
theorem Wq{i:Nat}{g g':Sg}{p:PV}(e:vt i g=some (g',p)):Pe i g g' p:=by
 refine oB e fun l e1 e=>?_
 refine oI e fun hsz e=>?_
 obtain⟨q,e2,e3⟩:=wX e
 refine aJ (List.getLast?_eq_some_iff.mp e2) fun l aP=>?_
 subst aP
 refine au (Bg e3) fun e4 aP=>?_
 subst aP
 rw[Ko]at e4
 rw[Ah]at hsz
 exact⟨l,HH e1,hsz,e4⟩
inductive Pf(X:Ctx)(tv dv:List Nat)(K:Addr->Option Obj)(env:Dv)(A:Al)(s₀:Ab)(g':Sg)(N:Nat->List Addr)(F:List Addr)(i:Nat)(p:PV)(v:Value)(s':Ab):Prop
 |mk (ms nn:List Addr) (T:aw X tv dv K env A s₀ g' (fK N i nn) F s') (r:VR s'.heap p v ms) (H:eu tv dv K (fK N i nn) F ms false):Pf X tv dv K env A s₀ g' N F i p v s'
theorem HJ{h:Ap}{a:Addr}{l:Array Value}(cQ:h.PlainList a l):∀c,Hu a= .ref c->∃o,h.get? c=some o/\o.dict=none:=fun c e=>by
 refine aJ cQ fun n h=>?_
 exact i12 _ (Gp e▸h) rfl
theorem Wr{x:Str}{i:Nat}{apos pos px:Bz}{E:Value->Ab->Prop}{g':Sg}{p:PV}(hx:X.C.Γ.lookup x=some i)(hi:i∈tv)(hd:i∉dv)(hn:(x==("__classdict__" :Str))=false) (oi:(x==("__debug__" :Str))=false)
  (aV:(apos.endLine==pos.line)=true) (bT:∀env,D7 (.Name x px) "pop" env (eval (.Name x px) env)=eval (.Name x px) env) (T:aw X tv dv K env A s₀ g N F s) (e:vt i g=some (g',p)):
  Am (Af X.W.prog X.W.w) A (eval (.Call (.Attribute (.Name x px) "pop" apos) [] [] pos) env) (Pf X tv dv K env A s₀ g' N F i p) E s:=by
 obtain⟨l,hl,hsz,rfl⟩:=Wq e
 obtain⟨a,r,us,hN,dq,cQ,bq⟩:=T.top hx hl
 refine uR bq.snoc fun tS y r' n hV e3 e4 e5 e6=>?_
 subst hV
 refine dX (T.bO i hi a r hN) fun rj ij dR=>?_
 refine Call_method0 (bT env) aV (Bt (zU T.kind dq ?_ hn) oi)
 refine nh ("list") _ Ff Ez Hl cQ.isList.typeIs (HJ cQ) (Dq rfl (Ik ?_))
 refine Pd cQ (e3.length▸hsz) fun h' fW ik=>?_
 have sub:∀b∈r,b∈N i:=fun b hb=>hN▸Aj _ hb
 have vu:∀j∈tv,j≠i->∀b q,N j=b::q->b∉r:=fun j hj dQ b q e hm=>(T.bO j hj b q e).2.2 i (Ir dQ) (sub b hm)
 have vw:∀j∈dv,∀b∈N j,b∉r:=fun j hj b hb hm=>((T.deep j hj).2 b hb).2 i (fun q=>hd (q▸hj)) (sub b hm)
 have fq:∀b∈F,b∉r:=fun b hb hm=>(T.foot b hb).2.2.1 i (sub b hm)
 refine⟨n,_,T.mut (tk:=s.toks) hx hl hi hd hN fW e3 (fun h=>ij (e5 a h)) ik (fun j hj dQ b q e hm=>vu j hj dQ b q e (e5 b hm)) (fun j hj b hb hm=>vw j hj b hb (e5 b hm)) (fun b hb hm=>fq b hb (e5 b hm)),
  e4.on fun b hb o e=>ik b o (fun q=>ij (q▸e6 b hb)) e,fun j hj b q e hm=>?_,fun j hj b hb hm=>vp hb (fun q _=>hd (q▸hj)) fun _ hb=>vw j hj b hb (e6 b hm),fun b hb hm=>fq b hb (e6 b hm),fun q=>ft q⟩
 by_cases dQ:j=i
 ·rw[dQ,HD]at e
  exact ij ((D8 e).1▸e6 b hm)
 ·rw[pV dQ]at e
  exact vu j hj dQ b q e (e6 b hm)
theorem wV.pop{x:Str}{i:Nat}{apos pos px:Bz}(hx:X.C.Γ.lookup x=some i)(hi:i∈tv)(hd:i∉dv)(hn:(x==("__classdict__" :Str))=false) (oi:(x==("__debug__" :Str))=false)
  (aV:(apos.endLine==pos.line)=true) (bT:∀env,D7 (.Name x px) "pop" env (eval (.Name x px) env)=eval (.Name x px) env):
  wV X tv dv false (.Call (.Attribute (.Name x px) "pop" apos) [] [] pos) (vt i):=fun K env A E s₀ g N F s g' p T e=>
 zE (Wr hx hi hd hn oi aV bT T e) fun v s' ⟨ms,nn,T',r,H⟩=>⟨_,F,ms,T',r,H⟩
end
noncomputable def Pg(i:Nat)(U:Uc)(pe:PE):Den:=fun g=>(ll g i).bind fun l=>(ev U pe g.σ).bind fun p=>if fresh pe p&&decide (l.length<=ag)then some (g.set i (.list (l++[p])), .next)else none
noncomputable def Ws(i j:Nat)(U:Uc)(pe:PE):Den:=fun g=>(ll g i).bind fun l=>(vt j g).bind fun r=>(ev U pe r.1.σ).bind fun q=>(r.2.int?).bind fun a=>(q.int?).bind fun b=>
 if l.length<=ag then some (r.1.set i (.list (l++[.int (a+b)])), .next)else none
noncomputable def Ph(i:Nat)(U:Uc)(ie ve:PE):Den:=fun g=>(ev U ve g.σ).bind fun p=>(ll g i).bind fun l=>(ev U ie g.σ).bind fun k=>(k.int?).bind fun k=>
 if p.aZ&&decide (0<=k)&&decide (k<l.length)&&decide (l.length<=1000)then some (g.set i (.list (l.set k.toNat p)), .next)else none
noncomputable def Wt(g:Sg)(i:Nat)(p:PV)(l:List PV)(a b:PV):Option (Sg×Fl):=(a.int?).bind fun a=>(b.int?).bind fun b=>((l[a.toNat]?).bind PV.dC).bind fun m=>
 if p.aZ&&decide (0<=a)&&decide (a<l.length)&&decide (l.length<=1000)&&decide (0<=b)&&decide (b<m.length)&&decide (m.length<=1000)&&m.all PV.aZ then some (g.set i (.list (l.set a.toNat (.list (m.set b.toNat p)))), .next)else none
noncomputable def Wu(i:Nat)(U:Uc)(ie je ve:PE):Den:=fun g=>(ev U ve g.σ).bind fun p=>(ll g i).bind fun l=>(ev U ie g.σ).bind fun a=>(ev U je g.σ).bind fun b=>Wt g i p l a b
inductive vy(g:Sg)(i:Nat)(p:PV)(l:List PV)(a b:PV)(r:Sg×Fl):Prop
 |mk (x y:Int) (m:List PV) (ha:a= .int x) (hb:b= .int y) (hm:l[x.toNat]?=some (.list m)) (hc:(p.aZ&&decide (0<=x)&&decide (x<l.length)&&decide (l.length<=1000)&&decide (0<=y)&&decide (y<m.length)&&decide (m.length<=1000)&&m.all PV.aZ)=true)
  (e:(g.set i (.list (l.set x.toNat (.list (m.set y.toNat p)))), .next)=r):vy g i p l a b r
section
variable{X:Ctx}{tv dv:List Nat}{K:Addr->Option Obj}{env:Dv}{A:Al}{s₀ s:Ab}{g:Sg}{N:Nat->List Addr}{F:List Addr}
inductive Pj(env:Dv)(h:Ap)(x:Str)(l:List PV)(a:Addr)(r:List Addr):Prop
 |mk (us:List Value) (acc:Acc env h x (.ref a)) (pl:h.PlainList a (Ek us)) (vs:ak h l us r):Pj env h x l a r
theorem Pk{x:Str}{i:Nat}{l:List PV}{a:Addr}{r:List Addr}(T:aw X tv dv K env A s₀ g N F s)(hx:X.C.Γ.lookup x=some i)(hl:g.σ[i]?=some (some (.list l)))(hN:N i=a::r):Pj env s.heap x l a r:=by
 obtain⟨a',r',us,h1,h2,h3,h4⟩:=T.top hx hl
 refine au (D8 (h1.symm.trans hN)) fun aG aP=>?_
 subst aG
 subst aP
 exact⟨us,h2,h3,h4⟩
inductive Pl(X:Ctx)(tv dv:List Nat)(K:Addr->Option Obj)(env:Dv)(A:Al)(s₀:Ab)(g':Sg)(F:List Addr)(u:Value)(s':Ab):Prop
 |mk (h:u= .none) (N':Nat->List Addr) (T:aw X tv dv K env A s₀ g' N' F s'):Pl X tv dv K env A s₀ g' F u s'
theorem Pm{l:List Nat}{i:Nat}(h:l.contains i=true):i∈l:=Hm.mp h
theorem BD{l:List Nat}{i:Nat}(h:l.contains i=false):i∉l:=fun q=>ft (h.symm.trans (Hm.mpr q))
theorem Wv{x:Str}{i:Nat}{l:List PV}{p:PV}{a:Addr}{r:List Addr}{v:Value}{ms:List Addr}{E:Value->Ab->Prop}(T:aw X tv dv K env A s₀ g N F s)(hx:X.C.Γ.lookup x=some i)(hl:g.σ[i]?=some (some (.list l)))(hi:i∈tv)(hd:i∉dv)
  (hN:N i=a::r) (rv:VR s.heap p v ms) (H:eu tv dv K N F ms true) (hsz:l.length<=ag):
  Am (Af X.W.prog X.W.w) A (call (.builtin "list.append") [.ref a,v]) (Pl X tv dv K env A s₀ (g.set i (.list (l++[p]))) F) E s:=by
 obtain⟨us,dq,cQ,bq⟩:=Pk T hx hl hN
 refine dX (T.bO i hi a r hN) fun rj ij dR=>?_
 refine Fe cQ (fun h' fW dg=>⟨rfl,fK N i (a::(r++ms)),?_⟩) (by have:=bq.length;unfold ag at hsz;rw[Bm];simp;exact zJ)
 rw[Ja]at fW
 have sub:∀b∈r,b∈N i:=fun b hb=>hN▸Aj _ hb
 have Ww:a∉ms:=H.t i hi a r hN
 exact T.mut (tk:=s.toks) hx hl hi hd hN fW (bq.append (ak.one rv)) (fun h=>(Bb.mp h).elim ij Ww) dg.extBut
  (fun j hj dQ b q e hm=>(Bb.mp hm).elim (fun h=>(T.bO j hj b q e).2.2 i (Ir dQ) (sub b h)) (H.t j hj b q e))
  (fun j hj b hb hm=>(Bb.mp hm).elim (fun h=>((T.deep j hj).2 b hb).2 i (fun q=>hd (q▸hj)) (sub b h)) (H.d j hj b hb))
  (fun b hb hm=>(Bb.mp hm).elim (fun h=>(T.foot b hb).2.2.1 i (sub b h)) (H.f b hb))
theorem zN.append{x:Str}{i:Nat}{px ap pos lW:Bz}{arg:Expr}{pe:PE}(hx:X.C.Γ.lookup x=some i)(hi:tv.contains i=true)(hd:dv.contains i=false)(hn:(x==("__classdict__" :Str))=false) (oi:(x==("__debug__" :Str))=false)
  (aV:(ap.endLine==pos.line)=true) (bT:∀env,D7 (.Name x px) "append" env (eval (.Name x px) env)=eval (.Name x px) env) (hs:∀env,B6 [arg] env=[(false,eval arg env)])
  (h:av X.W X.C arg pe):zN X tv dv (.Expr (.Call (.Attribute (.Name x px) "append" ap) [arg] [] pos) lW) (Pg i X.W.U pe):=fun K env A E s₀ g N F s g' fl T e=>by
 have hi:=Pm hi
 have hd:=BD hd
 refine oB e fun l e1 e=>?_
 refine oB e fun p e2 e=>?_
 have hl:=HH e1
 refine oI e fun hc e=>?_
 refine au (b2 hc) fun Wx Wy=>?_
 refine sp e ?_
 obtain⟨a,r,us,hN,dq,cQ,bq⟩:=T.top hx hl
 refine wpAny_Expr ?_ (by unfold interactive;rw[T.kind];rfl) rfl
 refine Jy (bT env) (hs env) aV (Bt (zU T.kind dq ?_ hn) oi)
 refine nh ("list") _ Ff PySem.F.slot_list_append PySem.F.type_list_append cQ.isList.typeIs (HJ cQ) (Dq rfl (evalArgs_plain (Ba (zE (h env A E s g.σ p T.pre e2) fun u s₂ ai=>B7 ?_))))
 obtain⟨k,ms,ba,qS⟩:=ai
 refine zE (Wv (T.kg k) hx hl hi hd hN ba (T.held (qS Wx)) (of_decide_eq_true Wy)) fun u ao aq=>?_
 obtain⟨rfl,N',T'⟩:=aq
 exact⟨rfl,N',F,T'⟩
theorem zN.setItem{x:Str}{i:Nat}{px sp pos:Bz}{ie value:Expr}{pi pv:PE}(hx:X.C.Γ.lookup x=some i)(hi:tv.contains i=true)(hd:dv.contains i=false)(hn:(x==("__classdict__" :Str))=false) (oi:(x==("__debug__" :Str))=false)
  (hs:∀env,It value (some (.Subscript (.Name x px) ie sp)) pos.line env=pure false) (h1:av X.W X.C ie pi) (h2:av X.W X.C value pv):
  zN X tv dv (.Assign [.Subscript (.Name x px) ie sp] value pos) (Ph i X.W.U pi pv):=fun K env A E s₀ g N F s g' fl T e=>by
 have hi:=Pm hi
 have hd:=BD hd
 refine oB e fun p e1 e=>?_
 refine oB e fun l e2 e=>?_
 refine oB e fun k e3 e=>?_
 refine oB e fun z ek e=>?_
 have hl:=HH e2
 refine oI e fun hc e=>?_
 refine au (b2 hc) fun hc c4=>?_
 refine au (b2 hc) fun hc c3=>?_
 refine au (b2 hc) fun c1 c2=>?_
 have c2:=of_decide_eq_true c2
 have c3:=of_decide_eq_true c3
 have c4:=of_decide_eq_true c4
 refine Internal.sp e (wpAny_Assign_Subscript (zE (h2 env A E s g.σ p T.pre e1) fun v aa ah=>?_) (hs env))
 obtain⟨k₁,ns,aA,_⟩:=ah
 have aW:=T.kg k₁
 obtain⟨a,r,us,hN,dq,cQ,bq⟩:=aW.top hx hl
 refine Bt (zU aW.kind dq ?_ hn) oi
 refine zE (h1 env A E aa g.σ _ aW.pre e3) fun u s₂ ai=>?_
 obtain⟨k₂,ms,ba,_⟩:=ai
 have ba:VR s₂.heap (.int z) u ms:=PV.g7 ek▸ba
 refine aB ba.inv fun t aP _=>?_
 subst aP
 have ax:=aW.kg k₂
 obtain⟨us,dq,cQ,bq⟩:=Pk ax hx hl hN
 refine dX (ax.bO i hi a r hN) fun rj ij dR=>?_
 refine aJ (id cQ) fun n ho=>?_
 have hlen:=bq.length
 refine ki_setAt ho c2 (Int.lt_trans c3 (Gw (Gj.mpr c4) (by decide))) (by(refine af A3 ?_;refine af hlen ?_);exact c3) ?_
 have gW:=Ht ho (fun xs=>xs.setIfInBounds z.toNat v)
 refine aB (bq.setAt z.toNat (aA.bS c1)) fun r' e4 e5=>?_
 have sub:∀b∈r',b∈N i:=fun b hb=>hN▸Aj _ (e5 b hb)
 have fW:(s₂.heap.update a (Obj.mapSeq fun xs=>xs.setIfInBounds z.toNat v)).PlainList a (us.set z.toNat v).toArray:=by
  refine ct (List.setIfInBounds_toArray ..) ?_
  exact cn _ gW
 exact⟨rfl,fK N i (a::r'),F,ax.mut (tk:=s₂.toks) hx hl hi hd hN fW e4 (fun h=>ij (e5 a h)) (Fc ..).extBut (fun j hj dQ b q e hm=>(ax.bO j hj b q e).2.2 i (Ir dQ) (sub b hm))
  (fun j hj b hb hm=>((ax.deep j hj).2 b hb).2 i (fun q=>hd (q▸hj)) (sub b hm)) (fun b hb hm=>(ax.foot b hb).2.2.1 i (sub b hm))⟩
end
noncomputable def nr(U:Uc)(c:PT)(f:Den):Nat->Den
 |0=>fun _=>none
 |n+1=>fun g=>(aY U c g.σ).bind fun t=>if t then(f g).bind fun r=>match r with
   |(g', .next)=>nr U c f n g'
   |(g', .cont)=>nr U c f n g'
   |(g', .brk)=>some (g', .next)
   |(g', .ret p)=>some (g', .ret p)
  else some (g, .next)
noncomputable def HK:List Nat->List PV->Sg->Sg
 |i::r,p::ps,g=>HK r ps (g.set i p)
 |_,_,g=>g
noncomputable def wD(is:List Nat)(f:Den):List (List PV)->Den
 |[]=>az
 |it::r=>fun g=>(f (HK is it g)).bind fun q=>match q with
   |(g', .next)=>wD is f r g'
   |(g', .cont)=>wD is f r g'
   |(g', .brk)=>some (g', .next)
   |(g', .ret p)=>some (g', .ret p)
noncomputable def tT(src:Sg->Option (List (List PV)))(is:List Nat)(f:Den):Den:=fun g=>(src g).bind fun its=>wD is f its g
section
variable{X:Ctx}{tv dv:List Nat}
inductive vz(X:Ctx)(tv dv:List Nat)(K:Addr->Option Obj)(env:Dv)(A:Al)(s₀:Ab)(d:Sg->Option (Sg×Fl))(r:Sg×Fl)(s':Ab):Prop
 |mk (g₁:Sg) (N':Nat->List Addr) (F':List Addr) (T:aw X tv dv K env A s₀ g₁ N' F' s') (e:d g₁=some r):vz X tv dv K env A s₀ d r s'
theorem zN.lX{test:Expr}{body:List Stmt}{pos:Bz}{c:PT}{f:Den}(n:Nat)(ht:di X.W X.C test c)(hb:zO X tv dv tv dv body f):
  zN X tv dv (.While test body [] pos) (nr X.W.U c f n):=fun K env A E s₀ g N F s g' fl T e=>by
 refine wpAny_While (codeAny_whileLoop (fun m s'=>vz X tv dv K env A s₀ (nr X.W.U c f m) (g',fl) s') ?_ n ⟨g,N,F,T,e⟩)
 intro m s' I
 obtain⟨g₁,N',F',T',e'⟩:=I
 cases m with
 |zero=>exact nn e'
 |succ m=>
  refine oB e' fun t e1 e2=>?_
  refine zE (ht env A _ s' g₁.σ t T'.pre e1) fun b s₂ ai=>?_
  refine au ai fun aG k=>?_
  clear ai
  subst aG
  have ax:=T'.kg k
  cases b with
  |false=>exact Internal.sp e2 (Ei ⟨rfl,N',F',ax⟩)
  |true=>
   obtain⟨⟨cg,bZ⟩,e3,e4⟩:=wO e2
   refine zE (hb K env A _ s₀ g₁ N' F' s₂ cg bZ ax e3) fun fw ao aq=>?_
   obtain⟨hf,fu,kq,aM⟩:=aq
   cases bZ with
   |next=>exact Fw hf▸⟨m,Bj m,cg,fu,kq,aM,e4⟩
   |cont=>exact Fw hf▸⟨m,Bj m,cg,fu,kq,aM,e4⟩
   |brk=>exact Fw hf▸Internal.sp e4 ⟨rfl,fu,kq,aM⟩
   |ret p=>
    refine cX hf fun v ms cw r hn=>?_
    clear hf
    subst cw
    exact Internal.sp e4 ⟨⟨v,ms,rfl,r,hn⟩,fu,kq,aM⟩
theorem HL{prog:Program}{w:Cn}{A:Al}{R:D3->Ab->Prop}{s:Ab}{target:Expr}{I:Addr}{body:List Stmt}{env:Dv}(J:Nat->Ab->Prop)
  (turn:∀n s,J n s->Am (Af prog w) A (Gy (.ref I)) (fun r aa=>(r=none/\R (.ok .next) aa)\/qU prog w A target I env (Fv (Af prog w) A env fun e s'=>R (.error e) s') (fun s₂=>
    Am (Af prog w) A (Ge body env) (fun f ao=>match f with
     | .next| .cont=>∃m,m<n/\J m ao
     | .brk=>R (.ok .next) ao
     | .ret v=>R (.ok (.ret v)) ao) (Fv (Af prog w) A env fun e s'=>R (.error e) s') s₂) r aa) (Fv (Af prog w) A env fun e s'=>R (.error e) s') s)
  (n:Nat) (h:J n s):Ca (Af prog w) A (.forLoop target (.ref I) body [] env) R s:=by
 refine codeAny_loop' rfl J (fun n s hI=>?_) n h
 refine(?_:Am _ _ ((forTurn target (.ref I) body [] env).onRaise (fun x=>do Hr x env;E2 x)) _ _ s)
 refine Kl ?_
 simp only[forTurn]
 refine Ac (Ck (Ac (K9 (Bq (turn n s hI) (fun r aa ah=>?_) fun _ _ h'=>Ck h'))))
 rcases ah with⟨rfl,ah⟩|⟨v,rfl,ah⟩
 ·exact Ak (.inr ⟨rfl,codeAny_block (Ei ah)⟩)
 ·refine Ac (Bq ah (fun _ pP fe=>?_) fun _ _ h'=>h')
  refine Ac (Bq fe (fun _ s₂ ai=>Ac (Bq ai (fun f ao aq=>?_) fun _ _ h'=>h')) fun _ _ h'=>h')
  cases f with
  |next=>exact Ak (.inl ⟨rfl,aq⟩)
  |cont=>exact Ak (.inl ⟨rfl,aq⟩)
  |brk=>exact Ak aq
  |ret v=>exact Ak aq
noncomputable def HM(tv dv:List Nat)(N:Nat->List Addr)(s:Ab)(fp:List Addr):Prop:=
 ∀b∈fp,s.heap.get? b=none\/((∃j,b∈N j)/\(∀j∈tv,∀a r,N j=a::r->b≠a)/\∀j∈dv,b∉N j)
noncomputable def lq(X:Ctx)(tv dv:List Nat)(target:Expr)(xs:List Str)(iter:Expr)(src:Sg->Option (List (List PV))):Prop:=∀K env A E s₀ g N F s its,aw X tv dv K env A s₀ g N F s->src g=some its->
 Am (Af X.W.prog X.W.w) A (eval iter env) (fun xv aa=>Am (Af X.W.prog X.W.w) A (Hq xv) (kh X.W A s target xs its (HM tv dv N s)) E aa) E s
inductive vA(C:Cx):List Str->List Nat->Prop
 |nil:vA C [] []
 |cons {x i xs is}:C.Γ.lookup x=some i->vA C xs is->vA C (x::xs) (i::is)
theorem Pn{K:Addr->Option Obj}{env:Dv}{A:Al}{E:Value->Ab->Prop}{s₀:Ab}{F:List Addr}{Q:Ab->Prop}:∀{xs:List Str} {is:List Nat},vA X.C xs is->∀{it:List PV} {vs:List Value} {ns:List Addr} {s:Ab} {g:Sg} {N:Nat->List Addr},
  aw X tv dv K env A s₀ g N F s->ak s.heap it vs ns->it.length=xs.length->(∀i∈is,i∉tv/\i∉dv)->eu tv dv K N F ns false->(∀N' s',aw X tv dv K env A s₀ (HK is it g) N' F s'->(∀j,j∉is->N' j=N j)->(∀b o,b≠env.locals->(∀y d,X.C.kn.lookup y=some .cell->env.cells.lookup y=some d->b≠d)->s.heap.get? b=some o->s'.heap.get? b=some o)->Q s')->
  qT X.W.prog X.W.w A env E Q (xs.zip vs) s:=by
 intro xs is S
 induction S with
 |nil=>
  intro it vs ns s g N T r hl _ _ h
  cases it with
  |nil=>exact r.lO (M:=fun vs _=>qT X.W.prog X.W.w A env E Q (([]:List Str).zip vs) s) (h N s T (fun _ _=>rfl) fun _ _ _ _ e=>e)
  |cons p q=>exact absurd hl (Jm _)
 | @cons x i xs is hx S ih=>
  intro it vs ns s g N T r hl hi H h
  cases it with
  |nil=>exact absurd hl.symm (Jm _)
  |cons p ps=>
   refine tw r.inv fun v n tU nq rv rs rg GD=>?_
   subst rg
   subst GD
   rw[Gz]
   have lj:=hi i (Ai ..)
   have H1:eu tv dv K N F n false:=⟨fun j hj a r e hm=>H.t j hj a r e (Az _ hm),fun j hj a ha hm=>H.d j hj a ha (Az _ hm),fun a ha hm=>H.f a ha (Az _ hm),fun q=>ft q⟩
   refine zE (T.ew (E:=E) hx rv H1 (.inr lj)) fun _ aa ah=>?_
   refine dX ah fun aW vB vC=>?_
   have vD:ak aa.heap ps tU nq:=rs.on fun a ha o e=>by
    refine gc (rs.nodes a ha) fun its n e'=>?_
    exact Aa (e'.symm.trans e)▸vB a its n e'
   refine ih aW vD (Im hl) (fun k hk=>hi k (Aj _ hk)) ⟨fun j hj a r e hm=>?_,fun j hj a ha hm=>?_,fun a ha hm=>H.f a ha (Ar _ hm),fun q=>ft q⟩ fun N' s' T' vE Wz=>h N' s' T' (fun j hj=>?_) fun b o h1 h2 e=>Wz b o h1 h2 (vC b o h1 h2 e)
   ·exact H.t j hj a r ((pV (N:=N) (i:=i) (j:=j) (l:=n) fun q=>lj.1 (q▸hj)).symm.trans e) (Ar _ hm)
   ·exact H.d j hj a ((pV (N:=N) (i:=i) (j:=j) (l:=n) fun q=>lj.2 (q▸hj))▸ha) (Ar _ hm)
   ·exact(vE j fun h=>hj (Aj _ h)).trans (pV fun q=>hj (q▸Ai ..))
end
section
variable{X:Ctx}{tv dv:List Nat}{K K':Addr->Option Obj}{env:Dv}{A:Al}{s₀ s:Ab}{g:Sg}{N:Nat->List Addr}{F:List Addr}
theorem aw.eH(T:aw X tv dv K' env A s₀ g N F s)(h:∀b o,K b=some o->K' b=some o)(wd:∀h:Ap,(∀b o,K b=some o->h.get? b=some o)->X.W.Wd h):aw X tv dv K env A s₀ g N F s:=by
 have no:∀a,K' a=none->K a=none:=fun a e=>by
  cases q:K a with
  |none=>rfl
  |some o=>rw[h a o q]at e;exact sn e
 exact
  {T with
   dJ:=no _ T.dJ
   cls:=fun x c e1 e2=>⟨(T.cls x c e1 e2).1,no c (T.cls x c e1 e2).2⟩
   bO:=fun i hi a r e=>⟨no a (T.bO i hi a r e).1,(T.bO i hi a r e).2⟩
   deep:=fun i hi=>⟨(T.deep i hi).1,fun a ha=>⟨no a ((T.deep i hi).2 a ha).1,((T.deep i hi).2 a ha).2⟩⟩
   kept:=fun b o e=>T.kept b o (h b o e)
   eO:=wd
   foot:=fun a ha=>⟨no a (T.foot a ha).1,(T.foot a ha).2⟩}
structure oj(X:Ctx)(tv dv:List Nat)(env:Dv)(N:Nat->List Addr)(F:List Addr)(fp:List Addr):Prop where
 loc:env.locals∉fp
 cls:∀x c,X.C.kn.lookup x=some .cell->env.cells.lookup x=some c->c∉fp
 f:∀a∈F,a∉fp
 t:∀j∈tv,∀a r,N j=a::r->a∉fp
 d:∀j∈dv,∀a∈N j,a∉fp
noncomputable def oo(K:Addr->Option Obj)(fp:List Addr)(h:Ap):Addr->Option Obj:=fun b=>if fp.contains b then h.get? b else K b
theorem lr{fp:List Addr}{h:Ap}{b:Addr}(hb:b∈fp):oo K fp h b=h.get? b:=by
 exact xU (by simpa using hb) rfl
theorem wP{fp:List Addr}{h:Ap}{b:Addr}(hb:b∉fp):oo K fp h b=K b:=by
 exact eM (by simpa using hb) rfl
theorem aw.freeze{fp:List Addr}(T:aw X tv dv K env A s₀ g N F s)(I:oj X tv dv env N F fp):aw X tv dv (oo K fp s.heap) env A s₀ g N F s:=
 {T with
  dJ:=by refine af (wP I.loc) ?_;exact T.dJ
  cls:=fun x c e1 e2=>⟨(T.cls x c e1 e2).1,by refine af (wP (I.cls x c e1 e2)) ?_;exact(T.cls x c e1 e2).2⟩
  bO:=fun i hi a r e=>⟨by refine af (wP (I.t i hi a r e)) ?_;exact(T.bO i hi a r e).1,(T.bO i hi a r e).2⟩
  deep:=fun i hi=>⟨(T.deep i hi).1,fun a ha=>⟨by refine af (wP (I.d i hi a ha)) ?_;exact((T.deep i hi).2 a ha).1,((T.deep i hi).2 a ha).2⟩⟩
  kept:=fun b o e=>by
   by_cases hb:b∈fp
   ·rw[lr hb]at e;exact e
   ·rw[wP hb]at e;exact T.kept b o e
  eO:=fun h hk=>T.eO h fun b o e=>by
   by_cases hb:b∈fp
   ·exact hk b o (by refine af (lr hb) ?_;exact T.kept b o e)
   ·exact hk b o (by refine af (wP hb) ?_;exact e)
  foot:=fun a ha=>⟨by refine af (wP (I.f a ha)) ?_;exact(T.foot a ha).1,(T.foot a ha).2⟩}
theorem aw.vF{fp:List Addr}{h:Ap}(T:aw X tv dv (oo K fp h) env A s₀ g N F s)(hd:∀b∈fp,∃o,h.get? b=some o):oj X tv dv env N F fp:=by
 have no:∀a,oo K fp h a=none->a∉fp:=fun a e hm=>by
  refine aJ (hd a hm) fun o ho=>?_
  rw[lr hm,ho]at e;exact sn e
 exact⟨no _ T.dJ,fun x c e1 e2=>no c (T.cls x c e1 e2).2,fun a ha=>no a (T.foot a ha).1,fun j hj a r e=>no a (T.bO j hj a r e).1,fun j hj a ha=>no a ((T.deep j hj).2 a ha).1⟩
theorem aw.other{wr:List Addr}{h':Ap}{tk:Nat}(T:aw X tv dv K env A s₀ g N F s)(hk:∀b o,b∉wr->s.heap.get? b=some o->h'.get? b=some o)(h1:env.locals∉wr)(h2:∀x c,X.C.kn.lookup x=some .cell->env.cells.lookup x=some c->c∉wr)
  (h3:∀a∈F,a∉wr) (h4:∀j,∀a∈N j,a∉wr) (h5:∀b∈wr,K b=none) (h6:∀x c,X.C.kn.lookup x=some .free->env.cells.lookup x=some c->c∉wr):aw X tv dv K env A s₀ g N F {s with heap:=h',toks:=tk}:=
 {T with
  loc:=by obtain⟨m,h⟩:=T.loc;exact⟨m,h.at' fun o e=>hk _ o h1 e⟩
  cls:=fun x c e1 e2=>by
   refine au (T.cls x c e1 e2) fun bL h=>?_
   refine dY bL fun v o e3 e4=>?_
   exact cj ⟨v,o,hk c o (h2 x c e1 e2) e3,e4⟩ h
  rd:=fun x i p e1 e2=>by
   obtain⟨v,a,r⟩:=T.rd x i p e1 e2
   refine⟨v,?_,r.on fun a ha o e=>hk a o (h4 i a ha) e⟩
   rcases a with⟨hl,m,hn,hm⟩|⟨hl,c,hc,o,e3,e4⟩
   ·exact .inl ⟨hl,m,hn.at' fun o e=>hk _ o h1 e,hm⟩
   ·refine .inr ⟨hl,c,hc,o,hk c o ?_ e3,e4⟩
    rcases hl with hl|hl
    ·exact h2 x c (by unfold Be at hl;rw[T.names]at hl;exact hl) hc
    ·exact h6 x c (by unfold Be at hl;rw[T.names]at hl;exact hl) hc
  nd:=fun j a ha=>by obtain⟨i,n,e⟩:=T.nd j a ha;exact⟨i,n,hk a _ (h4 j a ha) e⟩
  kept:=fun b o e=>hk b o (fun hb=>by rw[h5 b hb]at e;exact nn e) (T.kept b o e)
  same:=T.same.heap h' tk
  book:=fun v b e=>X.BK.frame (T.book v b e) fun a ha o e=>hk a o (h3 a ha) e
  foot:=fun a ha=>by obtain⟨g1,⟨o,g2⟩,g3⟩:=T.foot a ha;exact⟨g1,⟨o,hk a o (h3 a ha) g2⟩,g3⟩}
theorem aw.oq{fp:List Addr}(T:aw X tv dv K env A s₀ g N F s)(h:HM tv dv N s fp):oj X tv dv env N F fp:=by
 have bU:∀a j,a∈N j->∃o,s.heap.get? a=some o:=fun a j ha=>(T.nd j a ha).elim fun _ h=>h.elim fun _ e=>⟨_,e⟩
 refine⟨fun hm=>?_,fun x c e1 e2 hm=>?_,fun a ha hm=>?_,fun j hj a r e hm=>?_,fun j hj a ha hm=>?_⟩
 ·refine aJ T.loc fun m hn=>?_
  rcases h _ hm with h0|⟨⟨j,hj⟩,_⟩
  ·obtain⟨o,_,_,e,_⟩:=hn;rw[h0]at e;exact nn e
  ·obtain⟨_,_,e⟩:=T.nd j _ hj;exact wM hn e
 ·refine au (T.cls x c e1 e2) fun bL _=>?_
  refine aJ bL fun v hc=>?_
  rcases h _ hm with h0|⟨⟨j,hj⟩,_⟩
  ·obtain⟨o,e,_⟩:=hc;rw[h0]at e;exact nn e
  ·obtain⟨_,_,e⟩:=T.nd j _ hj;exact vn hc e
 ·refine tj (T.foot a ha) fun _ ib g3 _=>?_
  refine aJ ib fun o e=>?_
  rcases h _ hm with h0|⟨⟨j,hj⟩,_⟩
  ·rw[h0]at e;exact nn e
  ·exact g3 j hj
 ·refine aJ (bU a j (e▸Ai ..)) fun o e'=>?_
  rcases h _ hm with h0|⟨_,h1,_⟩
  ·rw[h0]at e';exact nn e'
  ·exact h1 j hj a r e rfl
 ·refine aJ (bU a j ha) fun o e'=>?_
  rcases h _ hm with h0|⟨_,_,h2⟩
  ·rw[h0]at e';exact nn e'
  ·exact h2 j hj ha
end
section
variable{X:Ctx}{tv dv:List Nat}
inductive HN(X:Ctx)(tv dv:List Nat)(K:Addr->Option Obj)(env:Dv)(A:Al)(s₀:Ab)(fp:List Addr)(St:Nat->Ap->Prop)(its:List (List PV))(d:List (List PV)->Sg->Option (Sg×Fl))(r:Sg×Fl)(n:Nat)(s':Ab):Prop
 |mk (i:Nat) (g₁:Sg) (N':Nat->List Addr) (F':List Addr) (hn:n+i=its.length+1) (hi:i<=its.length) (T:aw X tv dv K env A s₀ g₁ N' F' s') (J:oj X tv dv env N' F' fp) (st:St i s'.heap) (e:d (its.drop i) g₁=some r):HN X tv dv K env A s₀ fp St its d r n s'
theorem aw.wr{I:Addr}{fp wr:List Addr}{its:List (List PV)}{St:Nat->Ap->Prop}{target:Expr}{xs:List Str}{K:Addr->Option Obj}{env:Dv}{A A':Al}{s₀ s:Ab}{g:Sg}{N:Nat->List Addr}{F:List Addr}(T:aw X tv dv K env A s₀ g N F s)(J:oj X tv dv env N F fp)(Y:dy X.W.prog X.W.w A' target xs I fp wr its St){i:Nat}(st:St i s.heap)
  (wK:∀b∈wr,K b=none) (il:∀x,X.C.kn.lookup x≠some .free) {h':Ap} {tk:Nat} (hk:∀b o,b∉wr->s.heap.get? b=some o->h'.get? b=some o):aw X tv dv K env A s₀ g N F {s with heap:=h',toks:=tk}:=
 T.other hk (fun h=>J.loc (Y.sub _ h)) (fun x c e1 e2 h=>J.cls x c e1 e2 (Y.sub _ h)) (fun a ha h=>J.f a ha (Y.sub _ h)) (fun j a ha hw=>by obtain⟨items,n,e⟩:=T.nd j a ha;exact Y.qV i _ st a hw items n e) wK (fun x c e _=>absurd e (il x))
theorem Po{K:Addr->Option Obj}{fp:List Addr}{h:Ap}(k:∀b o,K b=some o->h.get? b=some o)(b:Addr)(o:Obj)(e:K b=some o):oo K fp h b=some o:=by
 by_cases hm:b∈fp
 ·rw[lr hm];exact k b o e
 ·rw[wP hm];exact e
theorem rk{K K':Addr->Option Obj}(k:∀b o,K b=some o->K' b=some o){a:Addr}(h:K' a=none):K a=none:=by
 cases q:K a with
 |none=>rfl
 |some o=>exact nn (h.symm.trans (k a o q))
theorem zN.vG{target iter:Expr}{xs:List Str}{is:List Nat}{body:List Stmt}{pos:Bz}{src:Sg->Option (List (List PV))}{f:Den}(lU:lq X tv dv target xs iter src)(S:vA X.C xs is)
  (hi:∀i∈is,i∉tv/\i∉dv) (hb:zO X tv dv tv dv body f) (hf:∀env x,Ee iter env x=pure x) (il:∀x,X.C.kn.lookup x≠some .free):zN X tv dv (.For target iter body [] pos) (tT src is f):=fun K env A E s₀ g N F s g' fl T e=>by
 refine oB e fun its e1 e2=>?_
 refine wpAny_For (zE (lU K env A E s₀ g N F s its T e1) fun xv aa ah=>zE ah fun it s₂ ai=>?_) (hf env)
 obtain⟨I,fp,wr,St,rfl,k,d0,cR,Y,st,hF⟩:=ai
 have wK:∀b∈wr,K b=none:=fun b hb=>rk T.kept (d0 b hb)
 refine HL (HN X tv dv K env A s₀ fp St its (wD is f) (g',fl)) (fun n s' I=>?_) (its.length+1) ⟨0,g,N,F,rfl,C0 _,T.kg k,T.oq hF,st,e2⟩
 obtain⟨i,g₁,N',F',hn,nt,T',J,i0,e'⟩:=I
 rcases Nat.lt_or_eq_of_le nt with aX|rfl
 ·rw[A5 aX]at e'
  obtain⟨⟨cg,bZ⟩,e3,e4⟩:=wO e'
  refine zE (Y.item i _ s' env _ _ (Aw aX) i0 fun us ms ai bR fT ff hlen cz aC=>?_) fun r aa h=> .inr h
  have H:eu tv dv K N' F' ms false:=⟨fun j hj a r e hm=>J.t j hj a r e (ff a hm),fun j hj a ha hm=>J.d j hj a ha (ff a hm),fun a ha hm=>J.f a ha (ff a hm),fun q=>ft q⟩
  refine Pn S (T'.wr (tk:=bR) J Y i0 wK il aC) fT hlen hi H fun fu ao aM pW kp=>?_
  have HO:oj X tv dv env fu F' fp:=⟨J.loc,J.cls,J.f,fun j hj a r e=>J.t j hj a r (by rw[<-pW j fun h=>(hi j h).1 hj];exact e),fun j hj a ha=>J.d j hj a (by rw[<-pW j fun h=>(hi j h).2 hj];exact ha)⟩
  have gn:St (i+1) ao.heap:=Y.frame _ _ _ cz fun b hb o e=>kp b o (fun q=>J.loc (q▸hb)) (fun y d e1 e2 q=>J.cls y d e1 e2 (q▸hb)) e
  refine zE (hb _ env A _ s₀ _ fu F' ao cg bZ (aM.freeze HO) e3) fun fw aS aU=>?_
  obtain⟨iu,gE,iv,bP⟩:=aU
  have up:=Po (fp:=fp) aM.kept
  have go:wD is f (its.drop (i+1)) cg=some (g',fl)->∃m,m<n/\HN X tv dv K env A s₀ fp St its (wD is f) (g',fl) m aS:=fun e=>
   ⟨its.length-i,by(refine ct (Nat.add_sub_cancel (n:=n) (m:=i)) ?_;refine af hn ?_;refine af (Nat.succ_sub nt) ?_);exact Bj _,i+1,cg,gE,iv,by(refine ct (C3 ..) ?_;exact af (Nat.sub_add_cancel nt) rfl),aX,bP.eH up T.eO,bP.vF (Y.bU _ _ gn),Y.frame _ _ _ gn fun b hb o e=>bP.kept b o (by refine af (lr hb) ?_;exact e),e⟩
  cases bZ with
  |next=>exact Fw iu▸go e4
  |cont=>exact Fw iu▸go e4
  |brk=>exact Fw iu▸Internal.sp e4 ⟨rfl,gE,iv,bP.eH up T.eO⟩
  |ret p=>
   refine cX iu fun v AP cw r hn=>?_
   clear iu
   subst cw
   exact Internal.sp e4 ⟨⟨v,AP,rfl,r,fun a ha=>rk up (hn a ha)⟩,gE,iv,bP.eH up T.eO⟩
 ·rw[Hs]at e'
  exact Internal.sp e' (Y.done _ _ _ i0 fun ai bR aC=> .inl ⟨rfl,rfl,N',F',T'.wr J Y i0 wK il aC⟩)
theorem kh.mono{W:bu}{A:Al}{s:Ab}{target:Expr}{xs:List Str}{its:List (List PV)}{F F':List Addr->Prop}{it:Value}{s₂:Ab}(h:kh W A s target xs its F it s₂)(k:∀fp,F fp->F' fp):kh W A s target xs its F' it s₂:=by
 obtain⟨I,fp,wr,St,h1,h2,h3,h4,h5,h6,h7⟩:=h
 exact⟨I,fp,wr,St,h1,h2,h3,h4,h5,h6,k fp h7⟩
theorem lq.ei{x xr:Str}{px pr pos:Bz}{iter:Expr}{pe:PE}(h:av X.W X.C iter pe)(hx:xr= "range") (hk:X.C.kn.lookup xr=some .globalImplicit) (hg:X.W.mg "range" =none) (hb:X.W.mb "range" =some (.type "range")) (he:∀env,B6 [iter] env=[(false,eval iter env)]):
  lq X tv dv (.Name x px) [x] (.Call (.Name xr pr) [iter] [] pos) (fun g=>jX X.W.U (.ei pe) g.σ):=fun K env A E s₀ g N F s its T e=>
 zE (O0 (x:=x) (px:=px) h hx hk hg hb he T.pre e) fun xv aa ah=>zE ah fun it s₂ ai=>ai.mono fun fp hf b hb=> .inl (hf b hb)
theorem Pp{x:Str}{px:Bz}{p:PV}{v:Value}{ns:List Addr}{its:List (List PV)}{K:Addr->Option Obj}{env:Dv}{A:Al}{E:Value->Ab->Prop}{s₀ s aa:Ab}{g:Sg}{N:Nat->List Addr}{F:List Addr}(T:aw X tv dv K env A s₀ g N F s)(k:KG s aa)(r:VR aa.heap p v ns)(e:pL p=some its)
  (h:∀b∈ns,s.heap.get? b=none\/((∃j,b∈N j)/\(∀j∈tv,∀a r,N j=a::r->b≠a)/\∀j∈dv,b∉N j)):
  Am (Af X.W.prog X.W.w) A (Hq v) (kh X.W A s (.Name x px) [x] its (HM tv dv N s)) E aa:=by
 cases p with
 |list l=>exact so e (zE (GP (x:=x) (px:=px) T.room.hh k r) fun it s₂ ai=>ai.mono fun fp hq b hb=>(hq b hb).elim .inl (h b))
 |str l=>exact so e (zE (AZ (x:=x) (px:=px) T.room.hh k r) fun it s₂ ai=>ai.mono fun fp hq b hb=> .inl (hq b hb))
 |_=>exact nn e
theorem lq.items{x:Str}{px:Bz}{iter:Expr}{pe:PE}(h:av X.W X.C iter pe):
  lq X tv dv (.Name x px) [x] iter (fun g=>(ev X.W.U pe g.σ).bind fun p=>if fresh pe p then pL p else none):=fun K env A E s₀ g N F s its T e=>by
 refine oB e fun p e1 e2=>?_
 refine oI e2 fun hf e2=>?_
 refine zE (h env A E s g.σ p T.pre e1) fun v aa ah=>?_
 obtain⟨k,ns,r,f⟩:=ah
 exact Pp T k r e2 fun b hb=> .inl ((f hf).new b hb)
theorem lq.name{x y:Str}{j:Nat}{px py:Bz}(hy:X.C.Γ.lookup y=some j)(ht:tv.contains j=false)(hd:dv.contains j=false)(hn:(y==("__classdict__" :Str))=false) (oi:(y==("__debug__" :Str))=false):
  lq X tv dv (.Name x px) [x] (.Name y py) (fun g=>((g.σ[j]?).bind id).bind pL):=fun K env A E s₀ g N F s its T e=>by
 have ht:=BD ht
 have hd:=BD hd
 refine oB e fun p e1 e2=>?_
 refine oB e1 fun p' e3 e4=>?_
 obtain rfl:p'=some p:=e4
 obtain⟨v,a,r⟩:=T.rd y j p hy e3
 refine Bt (zU T.kind a ?_ hn) oi
 exact Pp T (jz s) r e2 fun b h=> .inr ⟨⟨j,h⟩,fun i hi a r e q=>(T.bO i hi a r e).2.2 j (fun q'=>ht (q'▸hi)) (q▸h),fun i hi hm=>((T.deep i hi).2 b hm).2 j (fun q'=>hd (q'▸hi)) h⟩
end
inductive lu(h:Ap)(a:Addr)(name:Str)(params:Arguments)(body:List Stmt)(scope:Scope):Prop
 |mk (o:Obj) (pm cd doc:Value) (e:h.get? a=some o) (d:o.data= .func (Fx name params body scope pm cd doc)) (c:h.CodeRec cd name):lu h a name params body scope
theorem lu.sub{h h':Ap}{a:Addr}{name:Str}{params:Arguments}{body:List Stmt}{scope:Scope}(x:lu h a name params body scope)(k:Sub h h'):lu h' a name params body scope:=by
 obtain⟨o,pm,cd,doc,e1,e2,e3⟩:=x
 exact⟨o,pm,cd,doc,k _ _ e1,e2,e3.keeps k⟩
noncomputable def yQ(scope:Scope)(xs:List Str):List Str:=xs++(scope.names.filter fun y=>(y.2== .local||y.2== .cell)&&!xs.contains y.1).map (·.1)
noncomputable def xY(scope:Scope)(xs:List Str):Cx:=⟨scope.names,kZ 0 (yQ scope xs),(yQ scope xs).length⟩
noncomputable def jb(scope:Scope)(xs:List Str):Bool:=
 scope.kind== .function&&!scope.isCoroutine&&!scope.isGenerator&&xV (yQ scope xs)&&
 (yQ scope xs).all (fun x=>scope.names.lookup x==some .local||scope.names.lookup x==some .cell)&&scope.names.all fun y=>y.2 != .free
theorem BE{scope:Scope}{xs:List Str}(h:jb scope xs=true):GX (xY scope xs):=by
 unfold jb at h
 simp only[A0,Ao,beq_iff_eq,Eh]at h
 refine au h fun bL _=>?_
 refine au bL fun bL hk=>?_
 obtain⟨_,hn⟩:=bL
 refine⟨fun x y i h1 h2=>?_,fun x i h1=>?_,fun x i h1=>?_⟩
 ·refine aB (wF h1) fun j e1 e2=>?_
  refine aB (wF h2) fun k e3 e4=>?_
  have:j=k:=by lia
  subst this
  rw[e2]at e4;obtain rfl:=Aa e4;rfl
 ·refine aB (wF h1) fun j e1 e2=>?_
  obtain⟨h2,_⟩:=Bc.mp e2
  refine(?_:i<(yQ scope xs).length)
  lia
 ·refine aB (wF h1) fun j e1 e2=>?_
  exact hk x (C2 e2)
theorem BF{x:Str}:∀(names:List (Str×C8)) (n:Nat) (acc:List (Str×Addr)),((x,C4)∈names\/(acc.lookup x).isSome=true)->((Gl n names acc).lookup x).isSome=true
 |[],n,acc,h=>by
  rcases h with h|h
  ·cases h
  ·exact h
 |(y,k)::r,n,acc,h=>by
  unfold Gl
  split
  ·rename_i hk
   refine BF r _ _ ?_
   rcases h with h|h
   ·rcases Ax.mp h with h|h
    ·obtain⟨rfl,rfl⟩:=Bg h;right;simp
    ·exact .inl h
   ·right
    rw[A7]
    split
    ·rfl
    ·exact h
  ·rename_i hk
   refine BF r _ _ ?_
   rcases h with h|h
   ·rcases Ax.mp h with h|h
    ·obtain⟨rfl,rfl⟩:=Bg h;exact absurd rfl hk
    ·exact .inl h
   ·exact .inr h
theorem HP{kindOf:Str->Option C8}:∀{xs:List Str} {vs:List Value} (m cm:Str->Option Value),xV xs=true->(∀(j:Nat) (x:Str) (v:Value),xs[j]?=some x->vs[j]?=some v->
  (kindOf x=some .local->bindL kindOf (xs.zip vs) m x=some v)/\(kindOf x≠some .local->bindC kindOf (xs.zip vs) cm x=some v))/\
  (∀y,y∉xs->bindL kindOf (xs.zip vs) m y=m y/\bindC kindOf (xs.zip vs) cm y=cm y)
 |[],vs,m,cm,_=>⟨fun j x v h=>(by exact nn h),fun y _=>by simp[bindL,bindC]⟩
 |x::xs,[],m,cm,_=>⟨fun j y v _ h=>(by exact nn h),fun y _=>by simp[bindL,bindC]⟩
 |x::xs,v::vs,m,cm,hd=>by
  simp only[xV,A0,Dj,Bx,decide_eq_false_iff_not]at hd
  refine au (@HP kindOf xs vs (if kindOf x=some .local then fun y=>if y=x then some v else m y else m) (if kindOf x=some .local then cm else fun y=>if y=x then some v else cm y) hd.2) fun h1 h2=>?_
  refine af Gz ?_
  unfold bindL bindC
  refine cj (fun j y u e1 e2=>?_) (fun y hy=>?_)
  ·cases j with
   |zero=>
    obtain rfl:=Aa e1;obtain rfl:=Aa e2
    refine au (h2 x hd.1) fun h3 h4=>?_
    refine cj (fun hk=>?_) (fun hk=>?_)
    ·(refine af h3 ?_;refine af (if_pos hk) ?_);simp
    ·(refine af h4 ?_;refine af (if_neg hk) ?_);simp
   |succ j=>exact h1 j y u (by exact e1) (by exact e2)
  ·refine au (h2 y fun h=>hy (Aj _ h)) fun h3 h4=>?_
   have cU:y≠x:=fun q=>hy (q▸Ai ..)
   refine af h3 ?_
   refine af h4 ?_
   constructor
   ·split
    ·simp[cU]
    ·rfl
   ·split
    ·rfl
    ·simp[cU]
theorem ak.split{h:Ap}{ps:List PV}{vs:List Value}{ns:List Addr}(x:ak h ps vs ns):∃L:List (List Addr),(∀(i:Nat) (p:PV),ps[i]?=some p->∃v,vs[i]?=some v/\VR h p v (L.getD i []))/\∀(i:Nat),∀a∈L.getD i [],a∈ns:=by
 refine ak.ind (M:=fun ps vs ns=>∃L:List (List Addr),(∀(i:Nat) (p:PV),ps[i]?=some p->∃v,vs[i]?=some v/\VR h p v (L.getD i []))/\∀(i:Nat),∀a∈L.getD i [],a∈ns) ⟨[],fun i p e=>nn e,fun i a h=>(Aq h).elim⟩ (fun {p v n ps vs ns} hv _ g=>?_) x
 refine aB g fun L h1 h2=>?_
 refine i12 (n::L) (fun i p e=>?_) (fun i a h=>?_)
 ·cases i with
  |zero=>obtain rfl:=Aa e;exact⟨_,rfl,hv⟩
  |succ i=>exact h1 i p e
 ·cases i with
  |zero=>exact Az _ h
  |succ i=>exact Ar _ (h2 i a h)
noncomputable def ey(C:Cx)(ps:List PV)(β:Option (Value×aj)):Sg:=⟨ps.map some++Ay (C.n-ps.length) none,β⟩
theorem wH.deeper{D:Nat}{A:Al}(h:wH (D+1) A)(env:Dv):wH D (A.deeper env):=
 ⟨h.hh,by have:=h.depth;refine(?_:A.depth+1+D<_);exact xA,by have:=h.units;refine(?_:A.units+3+8*D+60<cLine);lia⟩
section
variable{X:Ctx}{tv dv:List Nat}
theorem WA{name:Str}{params:Arguments}{body:List Stmt}{scope:Scope}{xs:List Str}{a:Addr}{A:Al}{s:Ab}{ps:List PV}{vs:List Value}{ns:List Addr}{f:Den}{R:D3->Ab->Prop}{K:Addr->Option Obj}{F:List Addr}{β:Option (Value×aj)}{g':Sg}{r:PV}
  (hC:X.C=xY scope xs) (bg:jb scope xs=true) (dz:lu s.heap a name params body scope) (cx:s.heap.NoLimit) (aN:wH (X.W.D+1) A)
  (hK:∀b o,K b=some o->s.heap.get? b=some o) (wd:∀h:Ap,(∀b o,K b=some o->h.get? b=some o)->X.W.Wd h)
  (de:∀v b,β=some (v,b)->X.BK.is v b F s.heap) (hF:∀b∈F,K b=none/\(∃o,s.heap.get? b=some o)/\b∉ns)
  (bo:∀pm cd doc,E6 (Fx name params body scope pm cd doc) ⟨vs,[]⟩=pure (xs.zip vs)) (hr:ak s.heap ps vs ns) (hlen:ps.length=xs.length)
  (rl:∀i,i∈tv\/i∈dv->xs.length<=i) (hb:zO X tv dv [] [] body f) (rm:f (ey X.C ps β)=some (g', .ret r))
  (hR:∀(v:Value) (ms:List Addr) (s':Ab) (N':Nat->List Addr) (F':List Addr),VR s'.heap r v ms->(∀b∈ms,K b=none)->(∀b o,K b=some o->s'.heap.get? b=some o)->yZ s s'->(∀u b,g'.β=some (u,b)->X.BK.is u b F' s'.heap)->(∀b∈F',K b=none/\(∃o,s'.heap.get? b=some o)/\∀j,b∉N' j)->R (.ok (.ret v)) s'):
  Ca (Af X.W.prog X.W.w) A (.call (.ref a) ⟨vs,[]⟩) R s:=by
 obtain⟨o,pm,cd,doc,ho,dF,gF⟩:=dz
 have fv:=bg
 unfold jb at fv
 simp only[A0,Ao,beq_iff_eq,Eh,Dj]at fv
 refine au fv fun bL iw=>?_
 refine au bL fun bL ot=>?_
 obtain⟨⟨⟨hk,i5⟩,gG⟩,ia⟩:=bL
 have vH:∀j x,xs[j]?=some x->(yQ scope xs)[j]?=some x:=fun j x e=>by
  unfold yQ
  rw[B4 (Bc.mp e).1];exact e
 have lY:xV xs=true:=by
  have:∀(l m:List Str),xV (l++m)=true->xV l=true:=by
   intro l
   induction l with
   |nil=>intro m _;rfl
   |cons y r ih=>
    intro m h
    simp only[B9,xV,A0,Dj,Bx,decide_eq_false_iff_not]at h⊢
    exact cj (fun hm=>h.1 (Az _ hm)) (ih m h.2)
  exact this xs _ ia
 have dM:∀x,scope.names.lookup x=some .cell->∀n,((Gl n scope.names []).lookup x).isSome=true:=fun x e n=>BF _ _ _ (.inl (zS e))
 have hsz:∀b o,s.heap.get? b=some o->b<s.heap.objs.size:=fun b o e=>Bk e
 have vI:xs.length<=(yQ scope xs).length:=by unfold yQ;simp
 have pX:X.C.kn=scope.names:=by refine af hC ?_;rfl
 have rn:X.C.Γ=kZ 0 (yQ scope xs):=by refine af hC ?_;rfl
 have hn:X.C.n=(yQ scope xs).length:=by refine af hC ?_;rfl
 have pY:∀x∈xs,scope.names.lookup x=some .local\/scope.names.lookup x=some .cell:=fun x hx=>ot x (by exact Az _ hx)
 refine call_cells_ret (by have:=aN.depth;exact zW) ho dF cx gF (bo pm cd doc) (fun y hy=>?_) (fun ah tk Fm Xc=>?_) i5 gG hk
 ·have hx:y.1∈xs:=(Ie hy).1
  rcases pY y.1 hx with e|e
  ·exact .inl e
  ·exact .inr ⟨e,dM _ e _⟩
 ·refine aB hr.split fun LL vJ HQ=>?_
  have up:Sub s.heap ah:=Fm.keep
  have cu:∀c o,s.heap.get? c=some o->c<s.heap.objs.size:=fun c o e=>Bk e
  have Kn:∀c,s.heap.objs.size<=c->K c=none:=fun c hc=>by
   cases q:K c with
   |none=>rfl
   |some o=>exact absurd (cu c o (hK c o q)) (Es.mpr hc)
  have above:∀x c,(Gl (s.heap.objs.size+1) scope.names []).lookup x=some c->s.heap.objs.size<c:=fun x c e=>Xc.above x c (D0 e)
  generalize bG:envOfC name scope s.heap.objs.size a cd=env at*
  have bM:env.cells=Gl (s.heap.objs.size+1) scope.names []:=by refine ct bG ?_;rfl
  have bf:env.locals=s.heap.objs.size:=by refine ct bG ?_;rfl
  have eB:env.scope=scope:=by refine ct bG ?_;rfl
  have T:aw X tv dv K env (A.deeper env) s (ey X.C ps β) (fun i=>if i<ps.length then LL.getD i []else []) F {s with heap:=ah,toks:=tk}:=
   {gV:=by refine af hC ?_;exact BE bg
    kind:=by refine af eB ?_;exact hk
    names:=by(refine af eB ?_;exact af pX rfl)
    gl:=by refine ct bG ?_;rfl
    bl:=by refine ct bG ?_;rfl
    room:=aN.deeper env
    eT:=fun x k e1 e2=>by
     rw[pX]at e1
     rcases e2 with rfl|rfl
     ·refine af bM ?_;exact E8.mp (dM x e1 _)
     ·have:=iw _ (zS e1);simp at this
    fj:=fun x y c e1 e2=>by
     rw[bM]at e1 e2
     exact name_of_addr Xc.apart (D0 e1) (D0 e2)
    len:=by refine(?_:(ps.map some++Ay (X.C.n-ps.length) none).length=_);(refine af Ah ?_;refine af (An ..) ?_;refine af E0 ?_;refine af hn ?_);lia
    loc:=⟨_,by refine af bf ?_;exact Fm.ns⟩
    dJ:=by refine af bf ?_;exact Kn _ (Br _)
    cls:=fun x c e1 e2=>by
     rw[bM]at e2
     exact cj ⟨_,Xc.cell x c e2⟩ (Kn c (Ci (above x c e2)))
    rd:=fun x i p e1 e2=>by
     rw[rn]at e1
     refine aB (wF e1) fun j e3 e4=>?_
     have:i=j:=by refine af e3 ?_;exact Cp j
     subst this
     have e2:(ps.map some++Ay (X.C.n-ps.length) none)[i]?=some (some p):=e2
     have hi:i<ps.length:=by
      by_cases hi:i<ps.length
      ·exact hi
      ·rw[C1 (by simpa using hi)]at e2
       have:=C2 e2
       have:=Gq this
       exact sn this
     rw[B4 (by simpa using hi),Bi]at e2
     have e5:ps[i]?=some p:=by
      cases q:ps[i]? with
      |none=>rw[q]at e2;exact nn e2
      |some z=>rw[q]at e2;cases e2;rfl
     refine aB (vJ i p e5) fun v e6 e7=>?_
     have e8:xs[i]?=some x:=by
      obtain⟨y,hy⟩:∃y,xs[i]?=some y:=⟨xs[i]'(by exact yV),by simp⟩
      have:=vH i y hy
      rw[e4]at this;obtain rfl:=Aa this;exact hy
     refine au ((HP (kindOf:=env.kindOf) (vs:=vs) (fun _=>none) (fun _=>none) lY).1 i x v e8 e6) fun b1 b2=>?_
     refine⟨v,?_,?_⟩
     ·have kk:∀k,scope.names.lookup x=some k->env.kindOf x=some k:=fun k e=>by unfold Be;refine af eB ?_;exact e
      rcases pY x (C2 e8)with e|e
      ·exact .inl ⟨kk _ e,_,by refine af bf ?_;exact Fm.ns,b1 (kk _ e)⟩
      ·refine aJ (E8.mp (dM x e (s.heap.objs.size+1))) fun c hc=>?_
       have:=Xc.cell x c hc
       rw[b2 (by rw[kk _ e];simp)]at this
       exact .inr ⟨.inl (kk _ e),c,by refine af bM ?_;exact hc,this⟩
     ·refine(?_:VR ah p v (if i<ps.length then LL.getD i []else []))
      refine af (if_pos hi) ?_;exact e7.sub up
    nd:=fun j b hb=>by
     split at hb
     ·rename_i hj
      refine aB (vJ j ps[j] (by simp)) fun v e6 e7=>?_
      refine gc (e7.nodes b hb) fun items n e=>?_
      exact Oa items n (up _ _ e)
     ·cases hb
    bO:=fun i hi b q e=>by
     have:=rl i (.inl hi)
     rw[if_neg (by lia)]at e;cases e
    deep:=fun i hi=>by
     have:=rl i (.inr hi)
     rw[if_neg (by lia)]
     exact cj Er (fun _ h=>nomatch h)
    kept:=fun b o e=>up b o (hK b o e)
    eO:=wd
    same:=⟨ah,tk,s.gens,rfl, .rfl' _⟩
    book:=fun v b e=>X.BK.frame (de v b e) fun c _ o e=>up c o e
    foot:=fun b hb=>by
     refine dX (hF b hb) fun h1 ib h3=>?_
     refine aJ ib fun o h2=>?_
     have aX:=cu b o h2
     refine uT h1 ⟨o,up b o h2⟩ (fun j=>?_) ?_ (fun x c e=>?_)
     ·split
      ·exact fun hm=>h3 (HQ j b hm)
      ·exact fun h=>nomatch h
     ·refine af bf ?_;exact Bo aX
     ·rw[bM]at e
      exact Bo (Nat.lt_trans aX (above x c e))}
  refine zE (hb K env _ _ s _ _ F _ g' (.ret r) T rm) fun fw s' h=>?_
  obtain⟨⟨v,ms,rfl,rv,ff⟩,N',F',T'⟩:=h
  exact hR v ms s' N' F' rv ff T'.kept T'.same T'.book fun b hb=>⟨(T'.foot b hb).1,(T'.foot b hb).2.1,(T'.foot b hb).2.2.1⟩
theorem tV{name:Str}{params:Arguments}{body:List Stmt}{scope:Scope}{xs:List Str}{a:Addr}{A:Al}{s:Ab}{ps:List PV}{vs:List Value}{ns:List Addr}{f:Den}{g':Sg}{r:PV}
  (hC:X.C=xY scope xs) (bg:jb scope xs=true) (dz:lu s.heap a name params body scope) (cx:s.heap.NoLimit) (aN:wH (X.W.D+1) A) (wd:X.W.Wd s.heap)
  (bo:∀pm cd doc,E6 (Fx name params body scope pm cd doc) ⟨vs,[]⟩=pure (xs.zip vs)) (hr:ak s.heap ps vs ns) (hlen:ps.length=xs.length)
  (rl:∀i,i∈tv\/i∈dv->xs.length<=i) (hb:zO X tv dv [] [] body f) (rm:f (ey X.C ps none)=some (g', .ret r)):
  Ca (Af X.W.prog X.W.w) A (.call (.ref a) ⟨vs,[]⟩) (fun res s'=>∃v ms,res= .ok (.ret v)/\KG s s'/\VR s'.heap r v ms) s:=
 WA (K:=fun b=>s.heap.get? b) (F:=[]) (β:=none) hC bg dz cx aN (fun _ _ e=>e) (fun h k=>X.W.mono wd k) (fun _ _ e=>by exact nn e) (fun _ h=>nomatch h) bo hr hlen rl hb rm
  fun v ms s' N' F' rv _ kept same _ _=>by
   obtain⟨h,t,g,rfl,x⟩:=same
   exact tD v ms rfl ⟨h,t,g,rfl,kept,x⟩ rv
end
set_option genSizeOf false
set_option genInjectivity false
inductive GK where
 |int (i:Int)
 |fn (k:Nat)
 |bi (f:Nat)
 |ty (T:String)
noncomputable def Pq(W:bu)(x:Str):GK->Prop
 | .int i=>∃t,W.mg x=some (.int i t)
 | .fn k=>W.mg x=some (.ref (W.iY k))
 | .bi f=>W.mg x=none/\W.mb x=some (.builtin (n5 f))
 | .ty T=>W.mg x=none/\W.mb x=some (.type T)
noncomputable abbrev Tab:=List (Str×GK)
noncomputable def cM(W:bu)(tab:Tab):Prop:=∀x k,tab.lookup x=some k->Pq W x k
noncomputable abbrev Pr(tab:Tab)(C:Cx)(e:Expr):={pe:PE//∀W,cM W tab->av W C e pe}
noncomputable abbrev RE(tab:Tab)(C:Cx)(e:Expr):=Option (Pr tab C e)
noncomputable abbrev fy(tab:Tab):=∀(C:Cx) (e:Expr),RE tab C e
noncomputable def yT(e:Expr):Bool:=e.ctorIdx !=22
theorem zF{x:Expr}(h:yT x=true)(es:List Expr)(env:Dv):B6 (x::es) env=(false,eval x env)::B6 es env:=by
 cases x<;>first|rfl|exact ft h
theorem HR:∀(es:List Expr),es.all yT=true->∀pos env,(Jt pos (B6 es env)).any (·.1)=false
 |[],_,_,_=>rfl
 |x::es,h,pos,env=>by
  simp only[K6,A0]at h
  rw[zF h.1]
  have:=HR es h.2 pos env
  refine(?_:(false||(Jt pos (B6 es env)).any (·.1))=false)
  rw[this];rfl
noncomputable def vK(e:Expr):Bool:=e.ctorIdx !=7
theorem wU{e:Expr}(h:vK e=true)(env:Dv)(x:Value):Ee e env x=pure x:=by
 cases e<;>first|rfl|exact ft h
noncomputable def Pu(e:Expr):Bool:=e.ctorIdx !=16
theorem kr{o:Expr}(h:Pu o=true)(m:Str)(env:Dv)(t:Kf Value):D7 o m env t=t:=by
 cases o<;>first|rfl|exact ft h
noncomputable def Pw(e:Expr):Bool:=!([0,3,5,15].contains e.ctorIdx)
theorem Px{e:Expr}(h:Pw e=true)(env:Dv)(whole:Kf Value):Lc e env whole=(do let v<-whole;Kv e.pos;holding [v] (truthy v)):=by
 cases e<;>first|rfl|exact ft h
noncomputable def bad(x:Str):Bool:=x==("__debug__" :Str)||x==("__classdict__" :Str)
theorem wE{x:Str}(h:bad x=false):(x==("__debug__" :Str))=false:=by unfold bad at h;simp only[E3]at h;exact h.1
theorem wW{x:Str}(h:bad x=false):(x==("__classdict__" :Str))=false:=by unfold bad at h;simp only[E3]at h;exact h.2
theorem av.vL{W:bu}{C:Cx}{x:Str}{k:Nat}{pos:Bz}:av W C (.Constant (.str x) k pos) (.lit (.str x.cps.toList)):=av.cStr (by cases x;simp[mkStr])
section
variable{α β:Type}
noncomputable def bH(c:Prop)[Decidable c](k:c->Option β):Option β:=if h:c then k h else none
noncomputable def iR(o:Option α)(k:∀a,o=some a->Option β):Option β:=match o,k with
 |some a,k=>k a rfl
 |none,_=>none
@[elab_as_elim] noncomputable def HS {M:α->Type} [DecidableEq α] (a b:α) (d:M a) (k:M b):M a:=if h:a=b then h▸k else d
@[elab_as_elim] noncomputable def ro {M:List α->Type} (l:List α) (d:M l) (k:M []):M l:=match l,d with
 |[],_=>k
 |_::_,d=>d
@[elab_as_elim] noncomputable def BG {M:List α->Type} (l:List α) (d:M l) (k:∀a r,M (a::r)->M (a::r)):M l:=match l,d with
 |a::r,d=>k a r d
 |[],d=>d
@[elab_as_elim] noncomputable def ku {M:List α->Type} (l:List α) (d:M l) (k:∀a,M [a]):M l:=BG l d fun a r d=>ro r d (k a)
@[elab_as_elim] noncomputable def pZ {M:List α->Type} (l:List α) (d:M l) (k:∀a b,M [a,b]):M l:=BG l d fun a r d=>ku r d (k a)
noncomputable def alt(a b:Option α):Option α:=match a with
 |some x=>some x
 |none=>b
end
section
variable{M:Expr->Type}
@[elab_as_elim] noncomputable def sN (e:Expr) (d:M e) (k:∀x p,M (.Name x p)):M e:=if h:e.ctorIdx=23 then Expr.Name.elim e h k else d
@[elab_as_elim] noncomputable def sC (e:Expr) (d:M e) (k:∀f a p,M (.Call f a [] p)):M e:=if h:e.ctorIdx=16 then Expr.Call.elim (motive_1:=fun e=>M e->M e) e h (fun f a q p d=>ro q d (k f a p)) d else d
@[elab_as_elim] noncomputable def sA (e:Expr) (d:M e) (k:∀o m p,M (.Attribute o m p)):M e:=if h:e.ctorIdx=20 then Expr.Attribute.elim e h k else d
@[elab_as_elim] noncomputable def sS (e:Expr) (d:M e) (k:∀o i p,M (.Subscript o i p)):M e:=if h:e.ctorIdx=21 then Expr.Subscript.elim e h k else d
@[elab_as_elim] noncomputable def sB (e:Expr) (d:M e) (k:∀l o r p,M (.BinOp l o r p)):M e:=if h:e.ctorIdx=2 then Expr.BinOp.elim e h k else d
@[elab_as_elim] noncomputable def sT (e:Expr) (d:M e) (k:∀es q p,M (.Tuple es q p)):M e:=if h:e.ctorIdx=25 then Expr.Tuple.elim e h k else d
@[elab_as_elim] noncomputable def sU (o:UnaryOp) (e:Expr) (d:M e) (k:∀x p,M (.UnaryOp o x p)):M e:=if h:e.ctorIdx=3 then Expr.UnaryOp.elim (motive_1:=fun e=>M e->M e) e h (fun q x p d=>HS q o d (k x p)) d else d
@[elab_as_elim] noncomputable def sO (o:BoolOp) (e:Expr) (d:M e) (k:∀es p,M (.BoolOp o es p)):M e:=if h:e.ctorIdx=0 then Expr.BoolOp.elim (motive_1:=fun e=>M e->M e) e h (fun q x p d=>HS q o d (k x p)) d else d
@[elab_as_elim] noncomputable def sP (e:Expr) (d:M e) (k:∀l o r p,Je o r=false->M (.Compare l [o] [r] p)):M e:=if h:e.ctorIdx=15 then Expr.Compare.elim (motive_1:=fun e=>M e->M e) e h (fun l os rs p d=>ku (M:=fun os=>M (.Compare l os rs p)->M (.Compare l os rs p)) os id (fun o d=>ku (M:=fun rs=>M (.Compare l [o] rs p)->M (.Compare l [o] rs p)) rs id (fun r d=>if h:_ then k l o r p h else d) d) d) d else d
@[elab_as_elim] noncomputable def sG (e:Expr) (d:M e) (k:∀elt t i ifs sc p,M (.ListComp elt [⟨t,i,ifs,0⟩] sc p)):M e:=if h:e.ctorIdx=8 then Expr.ListComp.elim (motive_1:=fun e=>M e->M e) e h (fun elt gs sc p d=>ku (M:=fun gs=>M (.ListComp elt gs sc p)->M (.ListComp elt gs sc p)) gs id (fun⟨t,i,ifs,z⟩ d=>HS z 0 d (k elt t i ifs sc p)) d) d else d
end
noncomputable def tyB(o:Option GK)(T:String):Bool:=match o with
 |some (.ty S)=>S==T
 |_=>false
section
variable{tab:Tab}
theorem cM.ty{W:bu}(ok:cM W tab){x:Str}{T:String}(h:tyB (tab.lookup x) T=true):W.mg x=none/\W.mb x=some (.type T):=by
 have o:=ok x
 revert o h
 cases tab.lookup x with
 |none=>exact fun h=>ft h
 |some k=>
  cases k with
  |ty S=>exact fun h o=>(eq_of_beq (show(S==T)=true from h))▸o _ rfl
  |_=>exact fun h=>ft h
noncomputable def cL(R:fy tab)(C:Cx):∀es:List Expr,Option {ps:jV//∀W,cM W tab->kX W C es ps}
 |[]=>some ⟨.nil,fun _ _=>kX.nil⟩
 |x::es=>bH (yT x=true) fun hs=>(R C x).bind fun a=>(cL R C es).bind fun r=>some ⟨.cons a.1 r.1,fun W ok=>kX.cons (a.2 W ok) (r.2 W ok) (fun env=>zF hs es env)⟩
noncomputable def cO(R:fy tab)(C:Cx):∀e:Option Expr,Option {o:PO//∀W,cM W tab->jY W C e o}
 |none=>some ⟨.no,fun _ _=>jY.no⟩
 |some x=>(R C x).bind fun a=>some ⟨.yes a.1,fun W ok=>jY.yes (a.2 W ok)⟩
noncomputable abbrev WB(tab:Tab)(C:Cx)(e:Expr):={t:PT//∀W,cM W tab->di W C e t}
noncomputable abbrev RT(tab:Tab)(C:Cx)(e:Expr):=Option (WB tab C e)
noncomputable def Py{C:Cx}(f:∀e,RT tab C e):∀es:List Expr,Option {ts:eh//∀W,cM W tab->nW W C es ts}
 |[]=>some ⟨.nil,fun _ _=>nW.nil⟩
 |x::es=>(f x).bind fun a=>(Py f es).bind fun r=>some ⟨.cons a.1 r.1,fun W ok=>nW.cons (a.2 W ok) (r.2 W ok)⟩
noncomputable def Pz{C:Cx}(f:∀e,RT tab C e):∀es:List Expr,Option {ts:eh//∀W,cM W tab->nX W C es ts}
 |[]=>some ⟨.nil,fun _ _=>nX.nil⟩
 |x::es=>(f x).bind fun a=>(Pz f es).bind fun r=>some ⟨.cons a.1 r.1,fun W ok=>nX.cons (a.2 W ok) (r.2 W ok)⟩
noncomputable def cT(R:fy tab)(C:Cx):Nat->∀e:Expr,RT tab C e
 |0,_=>none
 |n+1,e=>alt (sU .Not e none fun x _=>(cT R C n x).bind fun t=>some ⟨.not t.1,fun W ok=>di.not (t.2 W ok)⟩)
  (alt (sO .And e none fun es _=>(Py (cT R C n) es).bind fun t=>some ⟨.and t.1,fun W ok=>di.and (t.2 W ok)⟩)
  (alt (sO .Or e none fun es _=>(Pz (cT R C n) es).bind fun t=>some ⟨.or t.1,fun W ok=>di.or (t.2 W ok)⟩)
  (alt (sP e none fun l op r _ hm=>(R C l).bind fun a=>(R C r).bind fun b=>some ⟨.cmp op a.1 b.1,fun W ok=>di.cmp (a.2 W ok) (b.2 W ok) hm⟩)
  (bH (Pw e=true) fun h=>(R C e).bind fun a=>some ⟨.eG a.1,fun W ok=>di.eG (a.2 W ok) fun env whole=>Px h env whole⟩))))
noncomputable def cI(R:fy tab)(C:Cx)(es:List Expr):Option {ts:eh//∀W,cM W tab->iQ W C es ts}:=alt
 (ro es none (some ⟨.nil,fun _ _=>iQ.nil⟩))
 (ku es none fun c=>(cT R C 5 c).bind fun t=>some ⟨.cons t.1 .nil,fun W ok=>iQ.one (t.2 W ok)⟩)
structure HT(tab:Tab)(C:Cx)(target iter:Expr) where
 xs:List Str
 src:nR
 ok:∀W,cM W tab->i6 W C target xs iter src
noncomputable def tW(C:Cx)(xr:Str)(T:String){β:Type}(k:xr=((T:String):Str)->C.kn.lookup xr=some .globalImplicit->(∀W,cM W tab->W.mg (T:String)=none/\W.mb (T:String)=some (.type T))->Option β):Option β:=
 bH (xr=((T:String):Str)/\C.kn.lookup xr=some .globalImplicit/\tyB (tab.lookup xr) T=true) fun h=>k h.1 h.2.1 fun _ ok=>h.1▸ok.ty h.2.2
noncomputable def WC(R:fy tab)(C:Cx)(x:Str)(px:Bz)(iter:Expr):Option (HT tab C (.Name x px) iter):=
 sC iter none fun f as pos=>sN f none fun xr pr=>ku as none fun a=>
  tW (tab:=tab) C xr "range" fun hx hk ht=>bH (yT a=true) fun hs=>(R C a).bind fun r=>some ⟨[x], .ei r.1,fun W ok=>i6.ei (r.2 W ok) hx hk (ht W ok).1 (ht W ok).2 fun env=>zF hs [] env⟩
noncomputable def WD(R:fy tab)(C:Cx)(x y:Str)(px py pt:Bz)(k:Nat)(iter:Expr):Option (HT tab C (.Tuple [.Name x px, .Name y py] k pt) iter):=
 sC iter none fun f as pos=>sN f none fun xe pe=>alt
  (ku as none fun a=>
   tW (tab:=tab) C xe "enumerate" fun hx hk ht=>bH (yT a=true) fun hs=>(R C a).bind fun r=>some ⟨[x,y], .enum r.1,fun W ok=>i6.enum (r.2 W ok) hx hk (ht W ok).1 (ht W ok).2 fun env=>zF hs [] env⟩)
  (pZ as none fun a b=>
   tW (tab:=tab) C xe "zip" fun hx hk ht=>bH (yT a=true/\yT b=true) fun hs=>(R C a).bind fun r=>(R C b).bind fun q=>some ⟨[x,y], .zip r.1 q.1,fun W ok=>i6.zip (r.2 W ok) (q.2 W ok) hx hk (ht W ok).1 (ht W ok).2 (fun env=>zF hs.1 [b] env) fun env=>zF hs.2 [] env⟩)
noncomputable def PA(R:fy tab)(C:Cx)(target iter:Expr):Option (HT tab C target iter):=alt
 (sN target none fun x px=>alt (WC R C x px iter) ((R C iter).bind fun a=>some ⟨[x], .items a.1,fun W ok=>i6.items (a.2 W ok)⟩))
 (sT target none fun es k pt=>pZ es none fun a b=>sN a none fun x px=>sN b none fun y py=>WD R C x y px py pt k iter)
noncomputable def WE(C:Cx)(x:Str)(pos:Bz):RE tab C (.Name x pos):=
 bH (bad x=false) fun hb=>iR (C.kn.lookup x) fun k hk=>alt
  (bH (uX k=true) fun hi=>iR (C.Γ.lookup x) fun i hg=>some ⟨.var i,fun W _=>av.var hk hi hg (wE hb) (wW hb)⟩)
  (bH (k= .globalImplicit) fun HU=>iR (tab.lookup x) fun q ht=>match q,ht with
   | .int i,ht=>some ⟨.lit (.int i),fun W ok=>(ok x _ ht).elim fun t h=>av.dG (HU▸hk) h (wE hb)⟩
   |_,_=>none)
noncomputable def WG(R:fy tab)(C:Cx)(x:Str)(p:Bz)(args:List Expr)(pos:Bz):RE tab C (.Call (.Name x p) args [] pos):=
 bH (bad x=false/\C.kn.lookup x=some .globalImplicit) fun⟨hb,hk⟩=>iR (tab.lookup x) fun q ht=>BG args none fun a r _=>bH (yT a=true) fun hs=>(cL R C (a::r)).bind fun es=>match q,ht with
  | .bi f,ht=>bH (r.all yT=true/\(if f=2/\r.length=1 then 3 else f)<5/\n5 (if f=2/\r.length=1 then 3 else f)=n5 f) fun⟨hr,hf⟩=>
   some ⟨.bi (if f=2/\r.length=1 then 3 else f) es.1,fun W ok=>av.bi hf.1 hk (ok x _ ht).1 (hf.2▸(ok x _ ht).2) (wE hb) (es.2 W ok) (fun env=>zF hs r env) fun env=>HR r hr pos env⟩
  | .fn k,ht=>some ⟨.uc k es.1,fun W ok=>av.uc hk (ok x _ ht) (wE hb) (es.2 W ok) fun env=>zF hs r env⟩
  |_,_=>none
noncomputable def WH(R:fy tab)(C:Cx)(xl:Str)(p1:Bz)(pos:Bz)(args:List Expr):RE tab C (.Call (.Name xl p1) args [] pos):=
 ku args none fun arg=>sC arg none fun f as p2=>sN f none fun xr p3=>
 BG as none fun a WI _=>pZ WI none fun b c=>
 tW (tab:=tab) C xl "list" fun hx hk ht=>tW (tab:=tab) C xr "range" fun WJ GG hr=>bH (yT a=true/\[b,c].all yT=true) fun hs=>(cL R C [a,b,c]).bind fun es=>some ⟨.bi 5 es.1,fun W ok=>by
  cases hx
  cases WJ
  exact av.j9 hk (ht W ok).1 (ht W ok).2 GG (hr W ok).1 (hr W ok).2 (es.2 W ok) (fun env=>zF hs.1 [b,c] env) fun env=>HR [b,c] hs.2 p2 env⟩
noncomputable def WK(R:fy tab)(C:Cx)(o:Expr)(m:Str)(ap:Bz)(args:List Expr)(pos:Bz):RE tab C (.Call (.Attribute o m ap) args [] pos):=
 bH (Pu o=true/\(ap.endLine==pos.line)=true) fun hb=>(R C o).bind fun a=>alt
  (ro args none (bH (m=("lower" :Str)) fun hm=>some ⟨.me 1 a.1 .nil,fun W ok=>hm▸av.lower (a.2 W ok) (fun env=>kr hb.1 _ env _) hb.2⟩))
  (ku args none fun x=>bH (yT x=true) fun hs=>(R C x).bind fun b=>alt
   (bH (m=("join" :Str)) fun hm=>some ⟨.me 0 a.1 (.cons b.1 .nil),fun W ok=>hm▸av.join (a.2 W ok) (b.2 W ok) (fun env=>kr hb.1 _ env _) (fun env=>zF hs [] env) hb.2⟩)
   (bH (m=("count" :Str)) fun hm=>some ⟨.me 2 a.1 (.cons b.1 .nil),fun W ok=>hm▸av.count (a.2 W ok) (b.2 W ok) (fun env=>kr hb.1 _ env _) (fun env=>zF hs [] env) hb.2⟩))
noncomputable def PC(e:Expr):Bool:=e.ctorIdx==26
theorem WM{i:Expr}(h:PC i=false)(o v:Value):Fn i false o v=Jw [o,v] (I3 o v):=by
 cases i<;>first|rfl|exact ft h.symm
noncomputable def WN(R:fy tab)(C:Cx)(x i:Expr)(pos:Bz):RE tab C (.Subscript x i pos):=(R C x).bind fun a=>alt
 (bH (i.ctorIdx=26) fun h=>L9 (motive_1:=fun i=>Option (Pr tab C (.Subscript x i pos))) i h fun lo hi st _=>(cO R C lo).bind fun b=>(cO R C hi).bind fun c=>(cO R C st).bind fun d=>some ⟨.bD a.1 b.1 c.1 d.1,fun W ok=>av.bD (a.2 W ok) (b.2 W ok) (c.2 W ok) (d.2 W ok)⟩)
 (bH (PC i=false) fun hs=>(R C i).bind fun b=>some ⟨.idx a.1 b.1,fun W ok=>av.idx (a.2 W ok) (b.2 W ok) fun o v=>WM hs o v⟩)
noncomputable def cK{C:Cx}(k:Nat)(p:Bz):∀c:Const,RE tab C (.Constant c k p)
 | .int i=>some ⟨.lit (.int i),fun _ _=>av.cInt⟩
 | .str x=>some ⟨.lit (.str x.cps.toList),fun _ _=>av.vL⟩
 | .bool b=>some ⟨.lit (.bool b),fun _ _=>av.cBool⟩
 | .none=>some ⟨.lit .none,fun _ _=>av.uY⟩
 |_=>none
noncomputable def WO(R:fy tab):fy tab:=fun C e=>
 alt (bH (e.ctorIdx=19) fun h=>Lj (motive_1:=fun e=>RE tab C e) e h fun c k p=>cK k p c)
 (alt (sN e none (WE C))
 (alt (sB e none fun l op r _=>(R C l).bind fun a=>(R C r).bind fun b=>some ⟨.bin op a.1 b.1,fun W ok=>av.bin (a.2 W ok) (b.2 W ok)⟩)
 (alt (sU .USub e none fun x _=>(R C x).bind fun a=>some ⟨.neg a.1,fun W ok=>av.neg (a.2 W ok)⟩)
 (alt (sP e none fun l op r _ hm=>(R C l).bind fun a=>(R C r).bind fun b=>some ⟨.cmp op a.1 b.1,fun W ok=>av.cmp (a.2 W ok) (b.2 W ok) hm⟩)
 (alt (sO .And e none fun es p=>pZ es none fun l r=>(R C l).bind fun a=>(R C r).bind fun b=>some ⟨.jU a.1 b.1,fun W ok=>av.jU (a.2 W ok) (b.2 W ok)⟩)
 (alt (sO .Or e none fun es p=>pZ es none fun l r=>(R C l).bind fun a=>(R C r).bind fun b=>some ⟨.gA a.1 b.1,fun W ok=>av.gA (a.2 W ok) (b.2 W ok)⟩)
 (alt (bH (e.ctorIdx=5) fun h=>Expr.IfExp.elim (motive_1:=fun e=>RE tab C e) e h fun t x y _=>(cT R C 5 t).bind fun c=>(R C x).bind fun a=>(R C y).bind fun b=>some ⟨.ite c.1 a.1 b.1,fun W ok=>av.ite (c.2 W ok) (a.2 W ok) (b.2 W ok)⟩)
 (alt (sS e none (WN R C))
 (alt (bH (e.ctorIdx=24) fun h=>Expr.List.elim (motive_1:=fun e=>RE tab C e) e h fun es _=>(cL R C es).bind fun l=>some ⟨.list l.1,fun W ok=>av.list (l.2 W ok)⟩)
 (alt (sG e none fun elt target iter ifs scope _=>(PA R C target iter).bind fun S=>bH (n9 C scope S.xs=true/\vK iter=true) fun hc=>(R (C.dZ scope S.xs) elt).bind fun a=>(cI R (C.dZ scope S.xs) ifs).bind fun t=>some ⟨.comp a.1 S.src t.1,fun W ok=>av.comp hc.1 (S.ok W ok) (a.2 W ok) (t.2 W ok) fun env x=>wU hc.2 env x⟩)
 (sC e none fun f args pos=>alt
  (sN f none fun x p=>alt (WG R C x p args pos) (WH R C x p pos args))
  (sA f none fun o m ap=>WK R C o m ap args pos))))))))))))
noncomputable def cE:Nat->fy tab
 |0=>fun _ _=>none
 |n+1=>WO (cE n)
end
set_option genInjectivity true
theorem WQ{env:Dv}{x:Str}{px pos:Bz}{elt:Expr}{gens:List Comprehension}{scope:Scope}{line:Nat}(hk:env.scope.kind= .function)(hl:env.kindOf x=some .local)(h1:(px.line==pos.line)=true)
  (h2:(scope.names.any fun y=>y.1==x&&(y.2== .local||y.2== .cell))=false):It (.ListComp elt gens scope pos) (some (.Name x px)) line env=pure true:=by
 unfold It
 have hb:env.blockKind= .function:=by unfold Env.blockKind;refine af hk ?_;rfl
 have vM:(scope.names.any fun(n,k)=>n==x&&(k== .local||k== .cell))=false:=h2
 refine(?_:(pure _:Kf Bool)=_)
 have e:(env.blockKind== .function&&env.kindOf x==some .local&&px.line==pos.line&&!(scope.names.any fun(n,k)=>n==x&&(k== .local||k== .cell)))=true:=by
  (refine af hb ?_;refine af hl ?_;refine af vM ?_;refine af (show(px.line==pos.line)=true from h1) ?_);rfl
 exact congrArg pure e
theorem PD{env:Dv}{x:Str}{px pos:Bz}{elt:Expr}{gens:List Comprehension}{scope:Scope}{line:Nat}(hl:env.kindOf x=some .cell):It (.ListComp elt gens scope pos) (some (.Name x px)) line env=pure false:=by
 unfold It
 dsimp only
 refine af hl ?_
 have:((some C4:Option C8)==some .local)=false:=rfl
 rw[this,Bool.and_false,Gf,Gf]
noncomputable def HV(e:Expr):Bool:=!([8,9,10].contains e.ctorIdx)
theorem PF{value:Expr}(h:HV value=true)(target:Option Expr)(line:Nat)(env:Dv):It value target line env=pure false:=by
 cases value<;>first|rfl|exact ft h
section
variable{X:Ctx}{tv dv:List Nat}
theorem zN.kv{x:Str}{i:Nat}{px ou:Bz}{target elt iter:Expr}{xs:List Str}{ifs:List Expr}{scope:Scope}{pos:Bz}{pe:PE}{src:nR}{ts:eh}(hx:X.C.Γ.lookup x=some i)(pO:X.C.kn.lookup x=some .local)
  (h1:(px.line==pos.line)=true) (h2:(scope.names.any fun y=>y.1==x&&(y.2== .local||y.2== .cell))=false)
  (bg:n9 X.C scope xs=true) (lU:i6 X.W X.C target xs iter src) (br:av X.W (X.C.dZ scope xs) elt pe) (cY:iQ X.W (X.C.dZ scope xs) ifs ts)
  (hs:∀env x,Ee iter env x=pure x) (il:∀x,X.C.kn.lookup x≠some .free):zN X tv dv (.Assign [.Name x px] (.ListComp elt [⟨target,iter,ifs,0⟩] scope pos) ou) (yY i (fk X.W.U (.comp pe src ts))):=fun K env A E s₀ g N F s g' fl T e=>by
 obtain⟨⟨g₁,p⟩,e1,e2⟩:=wO e
 refine oB e1 fun q e3 e4=>?_
 refine oI e4 fun _ e4=>?_
 refine au (Bg (Aa e4)) fun aG aP=>?_
 subst aG
 subst aP
 refine oB e3 fun its e5 e6=>?_
 refine oI e6 fun hsz e6=>?_
 obtain⟨ps,run,rfl⟩:=wX e6
 refine Internal.sp e2 ?_
 have P:=T.pre
 refine dX (GO bg) fun aT cJ k9=>?_
 obtain⟨cl,fh,dc⟩:=AU (scope:=scope) (env:=env) fun y hy hf=>by
  rcases k9 y hy hf with e|e
  ·exact P.eT _ _ e (.inl rfl)
  ·exact P.eT _ _ e (.inr rfl)
 have i7:env.kindOf x=some .local:=by unfold Be;refine af T.names ?_;exact pO
 unfold HC;refine af (exec_Assign_Name_used _ _ _ _ (WQ (line:=ou.line) T.kind i7 h1 h2)) ?_
 refine Ac (Ck (Ac ?_))
 refine(?_:Am _ A (do let _<-comprehension (.ListComp elt [⟨target,iter,ifs,0⟩] scope pos) scope env _ (Lr []) false (eval iter env) (some (J1 (.Name x px) env))) _ _ s)
 refine Ac (Bq (E7 (use:=some (J1 (.Name x px) env)) (Q:=fun _ s'=>i9 X tv dv K env A s₀ (g.set i (.list ps)) .next .next s') rfl (hs env) fh aT cJ
  (zE (lU env A E s g.σ its P e5 hsz) fun xv aa ah=>zE ah fun it s₂ ai=>?_)) (fun _ s' hq=>Ak (Ak hq)) fun _ _ e=>e)
 obtain⟨I,fp,wr,St,rfl,aH,d0,cR,Y,st,_⟩:=ai
 refine OZ (RR:=fun acc L=>compPost (Af X.W.prog X.W.w) A E (some (J1 (.Name x px) env)) (fun _ s'=>i9 X tv dv K env A s₀ (g.set i (.list ps)) .next .next s') acc L) bg P dc br cY aH d0 cR Y st hsz run ?_
 intro D L s' ns m' hL k hn r hf rb
 have aW:=T.kg k
 refine(?_:Am _ A (J1 (.Name x px) env (.ref D)) _ _ _)
 have ow:∀a,(∃o,s.heap.get? a=some o)->a≠L:=fun a ⟨o,e⟩ q=>by rw[q,hL]at e;exact nn e
 have p8:env.locals≠L:=ow _ (by obtain⟨m,o,_,_,e,_⟩:=T.loc;exact⟨o,e⟩)
 have BH:∀y d,X.C.kn.lookup y=some .cell->env.cells.lookup y=some d->d≠L:=fun y d e1 e2=>ow d (by obtain⟨⟨_,o,e,_⟩,_⟩:=T.cls y d e1 e2;exact⟨o,e⟩)
 refine Di (zE (aW.ew hx r (T.held hf) (own:=true) (.inl rfl)) fun _ aS aU=>?_)
 refine dX aU fun ax _ kp=>?_
 refine i12 m' (hn.at' fun o e=>kp L o (Ir p8) (fun y d e1 e2 q=>BH y d e1 e2 q.symm) e) (fun h' dg=>⟨rfl,_,_,ax.other (wr:=[L]) (tk:=aS.toks) (fun b o hb e=>dg.extBut b o (fun q=>hb (by refine af q ?_;exact B0 L)) e) ?_ ?_ ?_ ?_ ?_ ?_⟩)
 ·exact fun h=>p8 (Ae.mp h)
 ·exact fun y d e1 e2 h=>BH y d e1 e2 (Ae.mp h)
 ·exact fun a ha h=>ow a (T.foot a ha).2.1 (Ae.mp h)
 ·intro j a ha h
  have BI:=Ae.mp h
  unfold fK at ha
  split at ha
  ·exact rb (BI▸ha)
  ·refine gc (T.nd j a ha) fun _ _ e=>?_
   exact ow a ⟨_,e⟩ BI
 ·intro b hb
  refine af (Ae.mp hb) ?_
  cases q:K L with
  |none=>rfl
  |some o=>have:=T.kept L o q;rw[hL]at this;exact nn this
 ·intro y c e1 e2 h
  exact absurd e1 (il y)
end
inductive HW(h:Ap)(ps:List PV)(vs:List Value)(ns:List Addr)(u:Nat)(p:PV):Prop
 |mk (w:Value) (n:List Addr) (e:vs[u]?=some w) (r:VR h p w n) (m:∀x∈n,x∈ns) (k:∀(h':Ap) (p':PV),(∀x o,x∉n->h.get? x=some o->h'.get? x=some o)->VR h' p' w n->ak h' (ps.set u p') vs ns):HW h ps vs ns u p
section
variable{X:Ctx}{tv dv:List Nat}{K:Addr->Option Obj}{env:Dv}{A:Al}{s₀ s:Ab}{g:Sg}{N:Nat->List Addr}{F:List Addr}
end
section
variable{X:Ctx}{tv dv:List Nat}
inductive HX(h:Ap)(m:List PV)(w:Value)(n:List Addr):Prop
 |mk (b:Addr) (us:List Value) (e:w= .ref b) (en:n=[b]) (pl:h.PlainList b (Ek us)) (vs:ak h m us []):HX h m w n
theorem PG{r:List Addr}(h:∀b∈r,b∈([]:List Addr)):r=[]:=Hv.mpr fun a ha=>Aq (h a ha)
end
set_option genSizeOf false
set_option genInjectivity false
theorem WR{env:Dv}{x y a1 a2:Str}{px py tp q1 q2 p2:Bz}{k k2:Nat}(hk:env.scope.kind= .function)(hx:env.kindOf x=some .local)(hy:env.kindOf y=some .local)(hl:(py.line==px.line)=true)(cU:(y==x)=false)(hb:bad a1=false):
  swappedStores [.Tuple [.Name x px, .Name y py] k tp] (.Tuple [.Name a1 q1, .Name a2 q2] k2 p2) env=pure (some [x,y]):=by
 have de:env.blockKind= .function:=by unfold Env.blockKind;rw[hk];rfl
 have tX:=wE hb
 have gB:py.line=px.line:=by exact eq_of_beq hl
 have vN:y≠x:=by simpa using cU
 unfold swappedStores
 have f1:foldedForSure 8 (.Name a1 q1)=false:=rfl
 have c1:constantsAlone 8 (.Name a1 q1)=false:=tX
 have ep:∀x p,(Expr.Name x p).pos=p:=fun _ _=>rfl
 dsimp only[List.any,List.filterMap,B2,List.head?]
 simp[de,hx,hy,gB,ep,f1,c1,List.eraseDups_cons,vN,Ir vN]
section
variable{X:Ctx}{tv dv:List Nat}
theorem zN.swap{x y a1 a2:Str}{i j:Nat}{px py tp q1 q2 p2 ou:Bz}{k k2:Nat}{pa pb:PE}(hx:X.C.Γ.lookup x=some i)(hy:X.C.Γ.lookup y=some j)(i7:X.C.kn.lookup x=some .local)(HY:X.C.kn.lookup y=some .local)
  (hl:(py.line==px.line)=true) (cU:(y==x)=false) (hb:bad a1=false) (h1:av X.W X.C (.Name a1 q1) pa) (h2:av X.W X.C (.Name a2 q2) pb):
  zN X tv dv (.Assign [.Tuple [.Name x px, .Name y py] k tp] (.Tuple [.Name a1 q1, .Name a2 q2] k2 p2) ou) (O7 i j X.W.U pa pb):=fun K env A E s₀ g N F s g' fl T e=>by
 refine oB e fun p e1 e=>?_
 refine oB e fun q e2 e=>?_
 refine oI e fun kj e=>?_
 refine au (b2 kj) fun ip iq=>?_
 have kk:∀z,X.C.kn.lookup z=some .local->env.kindOf z=some .local:=fun z e=>by unfold Be;rw[T.names];exact e
 refine Internal.sp e (Assign_Tuple_swapped (names:=[x,y]) ?_ rfl (WR T.kind (kk x i7) (kk y HY) hl cU hb))
 refine wpAny_Tuple ?_
 refine Ba (zE (h1 env A E s g.σ p T.pre e1) fun v aa ah=>?_)
 obtain⟨k₁,ns,aA,_⟩:=ah
 refine Ba (zE (h2 env A E aa g.σ q (T.kg k₁).pre e2) fun u s₂ ai=>?_)
 obtain⟨k₂,ms,ba,_⟩:=ai
 refine B7 ⟨by rw[Bm];refine(?_:2<=16777216);decide,?_⟩
 have ax:=((T.kg k₁).kg k₂).kg (pJ s₂ {cls:= .type "tuple",data:= .seq [v,u].toArray} s₂.toks)
 refine unpackItems_tuple (items:=[v,u].toArray) T.room.hh ⟨_,Av _ rfl,rfl,_,rfl⟩ fun h' he=>?_
 have aM:=ax.kg (jA _ h' s₂.toks fun b o e=>he b o (Bo (Bk e)) e)
 refine Et (wpAny_bindName (zE (aM.store hy (ba.bS iq) (eu.nil (own:=true)) (.inl rfl)) fun _ cH dt=>?_))
 refine Et (wpAny_bindName (zE (dt.store hx (aA.bS ip) (eu.nil (own:=true)) (.inl rfl)) fun _ s₆ dN=>?_))
 exact I4 ⟨rfl,_,_,dN⟩
end
mutual
inductive PS where
 |assign (i:Nat) (e:PE)
 |cZ (i j:Nat) (e:PE)
 |swap (i j:Nat) (a b:PE)
 |aug (op:H0) (i:Nat) (e:PE)
 |append (i:Nat) (e:PE)
 |kx (i j:Nat) (e:PE)
 |ix (i j:Nat)
 |set (i:Nat) (a b:PE)
 |HZ (i:Nat) (a b c:PE)
 |ifs (c:PT) (a b:ea)
 |ox (c:PT) (b:ea)
 |forR (i:Nat) (e:PE) (b:ea)
 |rq (i:Nat) (e:PE) (b:ea)
 |rt (i j:Nat) (b:ea)
 |ret (e:PE)
 |brk
 |cont
 |pass
inductive ea where
 |nil
 |cons (s:PS) (r:ea)
end
noncomputable def IA(U:Uc)(pe:PE):dr:=fun g=>(ev U pe g.σ).bind fun p=>if p.aZ then some (g,p)else none
mutual
noncomputable def den(U:Uc):PS->Den
 | .assign i e=>yY i (fk U e)
 | .cZ i j e=>O6 i j (IA U e)
 | .swap i j a b=>O7 i j U a b
 | .aug op i e=>oe U op i e
 | .append i e=>Pg i U e
 | .kx i j e=>Ws i j U e
 | .ix i j=>yY i (vt j)
 | .set i a b=>Ph i U a b
 | .HZ i a b c=>Wu i U a b c
 | .ifs c a b=>BC U c (zT U a) (zT U b)
 | .ox c b=>nr U c (zT U b) 64
 | .forR i e b=>tT (fun g=>jX U (.ei e) g.σ) [i] (zT U b)
 | .rq i e b=>tT (fun g=>(ev U e g.σ).bind fun p=>if fresh e p then pL p else none) [i] (zT U b)
 | .rt i j b=>tT (fun g=>((g.σ[j]?).bind id).bind pL) [i] (zT U b)
 | .ret e=>vo (fk U e)
 | .brk=>fun g=>some (g, .brk)
 | .cont=>fun g=>some (g, .cont)
 | .pass=>az
noncomputable def zT(U:Uc):ea->Den
 | .nil=>az
 | .cons s r=>zX (den U s) (zT U r)
end
section
variable{tab:Tab}
noncomputable abbrev WS(tab:Tab)(C:Cx)(tv dv:List Nat)(st:Stmt):={p:PS//∀X:Ctx,X.C=C->cM X.W tab->zN X tv dv st (den X.W.U p)}
noncomputable abbrev RS(tab:Tab)(C:Cx)(tv dv:List Nat)(st:Stmt):=Option (WS tab C tv dv st)
noncomputable abbrev RB(tab:Tab)(C:Cx)(tv dv:List Nat)(b:List Stmt):=Option {p:ea//∀X:Ctx,X.C=C->cM X.W tab->zO X tv dv tv dv b (zT X.W.U p)}
theorem BJ{C:Cx}(h:C.kn.all (fun y=>y.2 != .free)=true)(x:Str):C.kn.lookup x≠some .free:=fun e=>by
 have:=Ao.mp h _ (zS e)
 simp at this
theorem oy{i:Nat}{l:List Nat}(h:l.contains i=false):i∉l:=by simpa using h
theorem xR(l:List Nat):ja l l=true:=by unfold ja;simp
noncomputable def IB{C:Cx}{tv dv:List Nat}(f:∀st,RS tab C tv dv st):∀b:List Stmt,RB tab C tv dv b
 |[]=>some ⟨.nil,fun _ _ _=>zO.nil (xR _) (xR _)⟩
 |st::r=>(f st).bind fun a=>(IB f r).bind fun q=>some ⟨.cons a.1 q.1,fun X hX ok=>zO.cons (a.2 X hX ok) (q.2 X hX ok) (xR _) (xR _) (xR _) (xR _)⟩
noncomputable def WT(R:fy tab)(C:Cx)(tv dv:List Nat)(x:Str)(px:Bz)(value:Expr)(pos:Bz):RS tab C tv dv (.Assign [.Name x px] value pos):=
 iR (C.Γ.lookup x) fun i hx=>alt
  (bH (HV value=true) fun hc=>(R C value).bind fun a=>some ⟨.assign i a.1,fun X hX ok=>by subst hX;exact zN.assign hx (.inl rfl) (wV.pure (a.2 X.W ok)) fun env _=>PF hc _ _ env⟩)
  (sG value none fun elt target iter ifs scope cp=>alt
   (bH (C.kn.lookup x=some .cell) fun hk=>(R C (.ListComp elt [⟨target,iter,ifs,0⟩] scope cp)).bind fun a=>some ⟨.assign i a.1,fun X hX ok=>by subst hX;exact zN.assign hx (.inl rfl) (wV.pure (a.2 X.W ok)) fun env hn=>PD (by unfold Be;rw[hn];exact hk)⟩)
   (bH (C.kn.lookup x=some .local/\C.kn.all (fun y=>y.2 != .free)=true) fun pO=>(PA R C target iter).bind fun S=>bH (n9 C scope S.xs=true/\vK iter=true/\(px.line==cp.line)=true/\(scope.names.any fun y=>y.1==x&&(y.2== .local||y.2== .cell))=false) fun hc=>(R (C.dZ scope S.xs) elt).bind fun a=>(cI R (C.dZ scope S.xs) ifs).bind fun t=>some ⟨.assign i (.comp a.1 S.src t.1),fun X hX ok=>by
    subst hX
    exact zN.kv hx pO.1 hc.2.2.1 hc.2.2.2 hc.1 (S.ok X.W ok) (a.2 X.W ok) (t.2 X.W ok) (fun env x=>wU hc.2.1 env x) (BJ pO.2)⟩))
noncomputable def WU(C:Cx)(tv dv:List Nat)(x y m:Str)(px py ap cp pos:Bz):RS tab C tv dv (.Assign [.Name x px] (.Call (.Attribute (.Name y py) m ap) [] [] cp) pos):=
 bH (m=("pop" :Str)) fun hm=>iR (C.Γ.lookup x) fun i hx=>iR (C.Γ.lookup y) fun j hy=>bH (tv.contains i=false/\dv.contains i=false/\tv.contains j=true/\dv.contains j=false/\bad y=false/\(ap.endLine==cp.line)=true) fun hc=>
   some ⟨.ix i j,fun X hX ok=>by
    subst hX hm
    exact zN.assign hx (.inr ⟨oy hc.1,oy hc.2.1⟩) (wV.pop hy (Hm.mp hc.2.2.1) (oy hc.2.2.2.1) (wW hc.2.2.2.2.1) (wE hc.2.2.2.2.1) hc.2.2.2.2.2 fun env=>kr rfl _ env _) fun env _=>rfl⟩
theorem IC{C:Cx}{tv dv:List Nat}{x:Str}{px:Bz}{i:Nat}{iter:Expr}{body:List Stmt}{pos:Bz}{X:Ctx}{f:Sg->Option (List (List PV))}{b:Den}(hC:X.C=C)(hx:C.Γ.lookup x=some i)(hi:tv.contains i=false/\dv.contains i=false)(hn:C.kn.all (fun y=>y.2 != .free)=true)
  (h:lq X tv dv (.Name x px) [x] iter f) (hb:zO X tv dv tv dv body b) (hf:vK iter=true):zN X tv dv (.For (.Name x px) iter body [] pos) (tT f [i] b):=by
 subst hC
 exact zN.vG h (.cons hx .nil) (fun k hk=>by rw[Ae.mp hk];exact⟨oy hi.1,oy hi.2⟩) hb (fun env x=>wU hf env x) (BJ hn)
noncomputable def WV(R:fy tab)(C:Cx)(tv dv:List Nat)(x:Str)(px:Bz)(i:Nat)(body:List Stmt)(pos:Bz)(hx:C.Γ.lookup x=some i)(hi:tv.contains i=false/\dv.contains i=false)(hn:C.kn.all (fun y=>y.2 != .free)=true)
  (b:{p:ea//∀X:Ctx,X.C=C->cM X.W tab->zO X tv dv tv dv body (zT X.W.U p)}) (iter:Expr):RS tab C tv dv (.For (.Name x px) iter body [] pos):=alt
 (sC iter none fun f as cp=>sN f none fun xr pr=>ku as none fun a=>
  tW (tab:=tab) C xr "range" fun hr hk ht=>bH (yT a=true) fun hs=>(R C a).bind fun e=>some ⟨.forR i e.1 b.1,fun X hX ok=>IC hX hx hi hn (lq.ei (by subst hX;exact e.2 X.W ok) hr (by subst hX;exact hk) (ht X.W ok).1 (ht X.W ok).2 fun env=>zF hs [] env) (b.2 X hX ok) rfl⟩) (alt
 (sN iter none fun y py=>iR (C.Γ.lookup y) fun j hy=>bH (tv.contains j=false/\dv.contains j=false/\bad y=false) fun hc=>
  some ⟨.rt i j b.1,fun X hX ok=>IC hX hx hi hn (lq.name (hX▸hy) hc.1 hc.2.1 (wW hc.2.2) (wE hc.2.2)) (b.2 X hX ok) rfl⟩)
 (bH (vK iter=true) fun hf=>(R C iter).bind fun e=>some ⟨.rq i e.1 b.1,fun X hX ok=>IC hX hx hi hn (lq.items (by subst hX;exact e.2 X.W ok)) (b.2 X hX ok) hf⟩))
end
set_option genInjectivity true
section
variable{tab:Tab}
noncomputable def WW(R:fy tab)(C:Cx)(tv dv:List Nat)(x m:Str)(px ap:Bz)(pos lW:Bz)(arg:Expr):RS tab C tv dv (.Expr (.Call (.Attribute (.Name x px) m ap) [arg] [] pos) lW):=
 bH (m=("append" :Str)) fun hm=>iR (C.Γ.lookup x) fun i hx=>bH (tv.contains i=true/\dv.contains i=false/\bad x=false/\(ap.endLine==pos.line)=true) fun hc=>
  (bH (yT arg=true) fun hs=>(R C arg).bind fun a=>some ⟨.append i a.1,fun X hX ok=>by
   subst hX hm
   exact zN.append hx hc.1 hc.2.1 (wW hc.2.2.1) (wE hc.2.2.1) hc.2.2.2 (fun env=>kr rfl _ env _) (fun env=>zF hs [] env) (a.2 X.W ok)⟩)
noncomputable def WX(R:fy tab)(C:Cx)(tv dv:List Nat)(x:Str)(px:Bz)(value:Expr)(pos:Bz):RS tab C tv dv (.Assign [.Name x px] value pos):=alt
 (WT R C tv dv x px value pos)
 (sC value none fun f as cp=>ro as none<|sA f none fun o m ap=>sN o none fun y py=>
  WU (tab:=tab) C tv dv x y m px py ap cp pos)
noncomputable def WY(R:fy tab)(C:Cx)(tv dv:List Nat)(t1 t2 value:Expr)(pos:Bz):RS tab C tv dv (.Assign [t1,t2] value pos):=
 sN t1 none fun x px=>sN t2 none fun y py=>
  iR (C.Γ.lookup x) fun i hx=>iR (C.Γ.lookup y) fun j hy=>(R C value).bind fun a=>bH (tv.contains i=false/\dv.contains i=false/\tv.contains j=false/\dv.contains j=false) fun hc=>some ⟨.cZ i j a.1,fun X hX ok=>by
   subst hX
   exact zN.cZ hx hy ⟨oy hc.1,oy hc.2.1⟩ ⟨oy hc.2.2.1,oy hc.2.2.2⟩ (a.2 X.W ok)⟩
noncomputable def WZ(R:fy tab)(C:Cx)(tv dv:List Nat)(es:List Expr)(k:Nat)(tp:Bz)(value:Expr)(pos:Bz):RS tab C tv dv (.Assign [.Tuple es k tp] value pos):=
 pZ es none fun t1 t2=>sN t1 none fun x px=>sN t2 none fun y py=>
 sT value none fun vs k2 p2=>pZ vs none fun v1 v2=>
 sN v1 none fun a1 q1=>sN v2 none fun a2 q2=>
  iR (C.Γ.lookup x) fun i hx=>iR (C.Γ.lookup y) fun j hy=>(R C (.Name a1 q1)).bind fun a=>(R C (.Name a2 q2)).bind fun b=>bH (C.kn.lookup x=some .local/\C.kn.lookup y=some .local/\(py.line==px.line)=true/\(y==x)=false/\bad a1=false) fun hc=>some ⟨.swap i j a.1 b.1,fun X hX ok=>by
   subst hX
   exact zN.swap hx hy hc.1 hc.2.1 hc.2.2.1 hc.2.2.2.1 hc.2.2.2.2 (a.2 X.W ok) (b.2 X.W ok)⟩
noncomputable def W0(R:fy tab)(C:Cx)(tv dv:List Nat)(t ie:Expr)(sp:Bz)(value:Expr)(pos:Bz):RS tab C tv dv (.Assign [.Subscript t ie sp] value pos):=bH (HV value=true) fun hv=>
 (sN t none fun x px=>iR (C.Γ.lookup x) fun i hx=>bH (tv.contains i=true/\dv.contains i=false/\bad x=false) fun hc=>(R C ie).bind fun a=>(R C value).bind fun b=>some ⟨.set i a.1 b.1,fun X hX ok=>by
  subst hX
  exact zN.setItem hx hc.1 hc.2.1 (wW hc.2.2) (wE hc.2.2) (fun env=>PF hv _ _ env) (a.2 X.W ok) (b.2 X.W ok)⟩)
noncomputable def W7(R:fy tab)(C:Cx)(tv dv:List Nat)(BL:∀b,RB tab C tv dv b)(st:Stmt):RS tab C tv dv st:=
 alt (bH (st.ctorIdx=5) fun h=>L5 (motive_2:=RS tab C tv dv) st h fun ts value pos=>alt
  (ku ts none fun t=>alt
   (sN t none fun x px=>WX R C tv dv x px value pos) (alt
   (sT t none fun es k tp=>WZ R C tv dv es k tp value pos)
   (sS t none fun t ie sp=>W0 R C tv dv t ie sp value pos)))
  (pZ ts none fun t1 t2=>WY R C tv dv t1 t2 value pos))
 (alt (bH (st.ctorIdx=7) fun h=>Stmt.AugAssign.elim (motive_2:=RS tab C tv dv) st h fun t op value pos=>sN t none fun x px=>iR (C.Γ.lookup x) fun i hx=>bH (bad x=false) fun hb=>(R C value).bind fun a=>some ⟨.aug op i a.1,fun X hX ok=>by subst hX;exact zN.aug hx (a.2 X.W ok) (wW hb)⟩)
 (alt (bH (st.ctorIdx=24) fun h=>Stmt.Expr.elim (motive_2:=RS tab C tv dv) st h fun e lW=>sC e none fun f as pos=>ku as none fun arg=>sA f none fun o m ap=>sN o none fun x px=>WW R C tv dv x m px ap pos lW arg)
 (alt (bH (st.ctorIdx=12) fun h=>Stmt.If.elim (motive_2:=RS tab C tv dv) st h fun test body orelse pos=>(cT R C 5 test).bind fun t=>(BL body).bind fun a=>(BL orelse).bind fun b=>some ⟨.ifs t.1 a.1 b.1,fun X hX ok=>zN.Pa (hX▸t.2 X.W ok) (a.2 X hX ok) (b.2 X hX ok)⟩)
 (alt (bH (st.ctorIdx=11) fun h=>Stmt.While.elim (motive_2:=RS tab C tv dv) st h fun test body ID pos=>ro ID none ((cT R C 5 test).bind fun t=>(BL body).bind fun a=>some ⟨.ox t.1 a.1,fun X hX ok=>zN.lX 64 (hX▸t.2 X.W ok) (a.2 X hX ok)⟩))
 (alt (bH (st.ctorIdx=9) fun h=>Stmt.For.elim (motive_2:=RS tab C tv dv) st h fun t iter body ID pos=>ro ID none (sN t none fun x px=>iR (C.Γ.lookup x) fun i hx=>(BL body).bind fun b=>bH ((tv.contains i=false/\dv.contains i=false)/\C.kn.all (fun y=>y.2 != .free)=true) fun hc=>WV R C tv dv x px i body pos hx hc.1 hc.2 b iter))
 (alt (bH (st.ctorIdx=3) fun h=>Stmt.Return.elim (motive_2:=RS tab C tv dv) st h fun o pos=>match o with
  |some e=>(R C e).bind fun a=>some ⟨.ret a.1,fun X hX ok=>by subst hX;exact zN.ret (wV.pure (a.2 X.W ok))⟩
  |none=>none)
 (alt (bH (st.ctorIdx=26) fun h=>Stmt.Break.elim (motive_2:=RS tab C tv dv) st h fun pos=>some ⟨.brk,fun X _ _=>zN.brk⟩)
 (alt (bH (st.ctorIdx=27) fun h=>Stmt.Continue.elim (motive_2:=RS tab C tv dv) st h fun pos=>some ⟨.cont,fun X _ _=>zN.cont⟩)
 (bH (st.ctorIdx=25) fun h=>Stmt.Pass.elim (motive_2:=RS tab C tv dv) st h fun pos=>some ⟨.pass,fun X _ _=>zN.pass⟩)))))))))
noncomputable def cS(R:fy tab)(C:Cx)(tv dv:List Nat):Nat->∀st:Stmt,RS tab C tv dv st
 |0=>fun _=>none
 |n+1=>W7 R C tv dv (IB (cS R C tv dv n))
noncomputable def cB(C:Cx)(tv dv:List Nat)(b:List Stmt):RB tab C tv dv b:=IB (cS (cE 24) C tv dv 12) b
noncomputable def PH(C:Cx)(dv tv':List Nat):∀(b:List Stmt) (l:List (List Nat)) (tv:List Nat),Option {p:ea//∀X:Ctx,X.C=C->cM X.W tab->zO X tv dv tv' dv b (zT X.W.U p)}
 |[],_,tv=>bH (ja tv' tv=true) fun h=>some ⟨.nil,fun _ _ _=>zO.nil h (xR _)⟩
 |st::r,l,tv=>(cS (cE 24) C tv dv 12 st).bind fun a=>(PH C dv tv' r l.tail (l.headD [])).bind fun q=>bH (ja (l.headD []) tv=true/\ja tv' tv=true) fun h=>some ⟨.cons a.1 q.1,fun X hX ok=>zO.cons (a.2 X hX ok) (q.2 X hX ok) h.1 (xR _) h.2 (xR _)⟩
theorem vO{α:Type}{P:α->Prop}{d q:α}{r:Option {p//P p}}(h:r.isSome=true)(e:r.elim d (·.1)=q):P q:=by
 cases r with
 |none=>exact ft h
 |some x=>exact e▸x.2
theorem zO.weak{X:Ctx}{tv dv tv' dv':List Nat}{b:List Stmt}{f:Den}(h:zO X tv dv tv dv b f)(m1:ja tv' tv=true)(m2:ja dv' dv=true):zO X tv dv tv' dv' b f:=fun K env A E s₀ g N F s g' fl T e=>
 zE (h K env A E s₀ g N F s g' fl T e) fun fw s' ⟨h1,N',F',T'⟩=>⟨h1,N',F',T'.mono (pU m1) (pU m2)⟩
end
noncomputable def vP(p:Program)(i:Nat):Option Stmt:=p.main.body[i]?
noncomputable def p9{α:Type}(o:Option Stmt)(d:α)(k:Str->Arguments->List Stmt->Scope->α):α:=(o.bind fun st=>bH (st.ctorIdx=0) fun h=>Stmt.FunctionDef.elim (motive_2:=fun _=>Option α) st h fun n a b _ _ _ s _ _ _=>some (k n a b s)).getD d
noncomputable def yO(p:Program)(i:Nat):List Stmt:=p9 (vP p i) [] fun _ _ b _=>b
noncomputable def lz(p:Program)(i:Nat):Scope:=p9 (vP p i) default fun _ _ _ s=>s
noncomputable def vQ(p:Program)(i:Nat):Arguments:=p9 (vP p i) ⟨[],[],none,[],[],none,[]⟩ fun _ a _ _=>a
noncomputable def vR(p:Program)(i:Nat):Str:=p9 (vP p i) "" fun n _ _ _=>n
noncomputable def PI(p:Program)(i:Nat):List Str:=(vQ p i).args.map (·.arg)
noncomputable def PJ(env:Dv)(K:Ls->Kf Fin)(H:Value->Kf Fin)(gd:Bool->Bool)(lv:List Value->List Value):D3->Kf Fin:=fun r=>((match r with| .ok f=>(.pure f:Kf Ls)| .error e=> .raise e).onRaise fun(x:Value)=>do
    if(<-field x 1)==Hw then unsupported "frame.own-activation:exception-without-traceback"
    setFlight x env.frame).wrap K H gd lv
section
variable{M:L8}{A:Al}{R:GenEnd}{Y:Protocol}{n:Nat}{s₀:Ab}{c:Code}{fs:List Frame}{s:Ab}{env:Dv}{K:Ls->Kf Fin}{H:Value->Kf Fin}{gd:Bool->Bool}{lv:List Value->List Value}
theorem W8{target iter:Expr}{body:List Stmt}{pos:Bz}(hf:∀x,Ee iter env x=pure x)
  (h:Am M (A.over c fs) (eval iter env) (fun x aa=>Am M (A.over c fs) (Hq x) (fun it s₂=>∀p,L4 M A R Y n s₀ (.forLoop target it body [] env) (M.den (.forLoop target it body [] env))
   (.ret (PJ env K H gd lv) none (gd false) (lv []) c p []::fs) s₂) (fun x s'=>L4 M A R Y n s₀ c (H x) fs s') aa) (fun x s'=>L4 M A R Y n s₀ c (H x) fs s') s):
  L4 M A R Y n s₀ c ((exec (.For target iter body [] pos) env).wrap K H gd lv) fs s:=by
 rw[exec_For]
 refine Dt (Ck ?_)
 refine Dt (Bq h (fun x aa ah=>?_) fun _ _ e=>e)
 refine Dt (B3 (hf x) ?_)
 refine Dt (Ck ?_)
 refine Dt (D9 (Bq ah (fun it s₂ ai=>?_) fun _ _ e=>e))
 exact seg_call ai
theorem IE{test:Expr}{body orelse:List Stmt}{pos:Bz}
  (h:Am M (A.over c fs) (Lc test env (eval test env)) (fun b s'=>if b=true then L4 M A R Y n s₀ c ((Ge body env).wrap K H gd lv) fs s' else L4 M A R Y n s₀ c ((Ge orelse env).wrap K H gd lv) fs s') (fun x s'=>L4 M A R Y n s₀ c (H x) fs s') s):
  L4 M A R Y n s₀ c ((exec (.If test body orelse pos) env).wrap K H gd lv) fs s:=by
 rw[exec_If]
 refine Dt (Ck ?_)
 refine Dt (Bq h (fun b aa ah=>?_) fun _ _ e=>e)
 cases b with
 |true=>exact ah
 |false=>exact ah
end
section
variable{prog:Program}{w:Cn}{A:Al}{R:GenEnd}{Y:Protocol}{n:Nat}{s₀:Ab}{fs:List Frame}{s:Ab}{env:Dv}
noncomputable def PK(c:Code):Ls->Kf Fin
 | .next=> .pure (.again c)
 | .cont=> .pure (.again c)
 | .brk=> .pure (.done .next)
 | .ret v=> .pure (.done (.ret v))
noncomputable def BM(env:Dv):Value->Kf Fin:=fun e=>(do Hr e env;E2 e:Kf Unit).bind fun _=> .raise e
theorem PL{target:Expr}{I:Addr}{body:List Stmt}
  (h:Am (Af prog w) (A.over (.forLoop target (.ref I) body [] env) fs) (Gy (.ref I)) (fun r aa=>
    (r=none/\L4 (Af prog w) A R Y n s₀ (.block [] env) ((Af prog w).den (.block [] env)) fs aa)\/
    qU prog w (A.over (.forLoop target (.ref I) body [] env) fs) target I env (fun x s'=>L4 (Af prog w) A R Y n s₀ (.forLoop target (.ref I) body [] env) (BM env x) fs s') (fun s₂=>
     L4 (Af prog w) A R Y n s₀ (.forLoop target (.ref I) body [] env) ((Ge body env).wrap (PK (.forLoop target (.ref I) body [] env)) (BM env) id id) fs s₂) r aa)
   (fun x s'=>L4 (Af prog w) A R Y n s₀ (.forLoop target (.ref I) body [] env) (BM env x) fs s') s):
  L4 (Af prog w) A R Y n s₀ (.forLoop target (.ref I) body [] env) ((Af prog w).den (.forLoop target (.ref I) body [] env)) fs s:=by
 refine(?_:L4 _ A R Y n s₀ _ ((forTurn target (.ref I) body [] env).onRaise (fun x=>do Hr x env;E2 x)) fs s)
 refine af (Sem.onRaise_eq_wrap ..) ?_
 refine Dt (Ck ?_)
 refine Dt (K9 (Bq h (fun r aa ah=>?_) fun _ _ e=>Ck e))
 rcases ah with⟨rfl,ah⟩|⟨v,rfl,ah⟩
 ·exact seg_again rfl ah
 ·refine Dt (Bq ah (fun _ pP fe=>?_) fun _ _ h'=>h')
  refine Dt (Bq fe (fun _ s₂ ai=>?_) fun _ _ h'=>h')
  refine af (Sem.bind_eq_wrap' ..) ?_
  refine af (Sem.wrap_wrap ..) ?_
  rw[Sem.wrap_congr (Ge body env) _ _ (K':=PK (.forLoop target (.ref I) body [] env)) (H':=BM env) (fun f=>by cases f<;>rfl) (fun e=>by rfl)]
  exact ai
theorem W9(h:L4 (Af prog w) A R Y n s₀ (.block [] env) (.pure (.done .next)) fs s):L4 (Af prog w) A R Y n s₀ (.block [] env) ((Af prog w).den (.block [] env)) fs s:=by
 refine(?_:L4 _ A R Y n s₀ _ (do return Fin.done (<-(Ge [] env).onRaise (fun x=>do Hr x env;E2 x))) fs s)
 exact h
end
section
variable{X:Ctx}{tv dv:List Nat}
theorem IF{A:Al}{R:GenEnd}{Y:Protocol}{n:Nat}{eI:Ab}{c:Code}{fs:List Frame}{s s₀:Ab}{env:Dv}{K:Ls->Kf Fin}{H:Value->Kf Fin}{gd:Bool->Bool}{lv:List Value->List Value}{st:Stmt}{rest:List Stmt}{f:Den}{KK:Addr->Option Obj}{g g':Sg}{N:Nat->List Addr}{F:List Addr}
  (hs:zN X tv dv st f) (T:aw X tv dv KK env (A.over c fs) s₀ g N F s) (hd:f g=some (g', .next))
  (h:∀N' F' s',aw X tv dv KK env (A.over c fs) s₀ g' N' F' s'->L4 (Af X.W.prog X.W.w) A R Y n eI c ((Ge rest env).wrap K H gd lv) fs s'):
  L4 (Af X.W.prog X.W.w) A R Y n eI c ((Ge (st::rest) env).wrap K H gd lv) fs s:=by
 refine Ew (seg_wrap (Bq (hs KK env (A.over c fs) (fun _ _=>False) s₀ g N F s g' .next T hd) (fun fw s' h'=>?_) fun _ _ e=>e.elim))
 obtain⟨rfl,N',F',T'⟩:=h'
 exact h N' F' s' T'
theorem PM{A:Al}{R:GenEnd}{Y:Protocol}{n:Nat}{eI:Ab}{c:Code}{fs:List Frame}{s s₀:Ab}{env:Dv}{K:Ls->Kf Fin}{H:Value->Kf Fin}{gd:Bool->Bool}{lv:List Value->List Value}{st:Stmt}{rest:List Stmt}{f:Den}{KK:Addr->Option Obj}{g g':Sg}{N:Nat->List Addr}{F fp:List Addr}
  (hs:zN X tv dv st f) (T:aw X tv dv KK env (A.over c fs) s₀ g N F s) (I:oj X tv dv env N F fp) (cR:∀b∈fp,∃o,s.heap.get? b=some o) (hd:f g=some (g', .next))
  (h:∀N' F' s',aw X tv dv KK env (A.over c fs) s₀ g' N' F' s'->(∀b∈fp,∀o,s.heap.get? b=some o->s'.heap.get? b=some o)->L4 (Af X.W.prog X.W.w) A R Y n eI c ((Ge rest env).wrap K H gd lv) fs s'):
  L4 (Af X.W.prog X.W.w) A R Y n eI c ((Ge (st::rest) env).wrap K H gd lv) fs s:=by
 refine IF hs (T.freeze I) hd fun N' F' s' T'=>h N' F' s' (T'.eH (fun b o e=>?_) T.eO) fun b hb o e=>T'.kept b o (by rw[lr hb];exact e)
 by_cases hm:b∈fp
 ·rw[lr hm];exact T.kept b o e
 ·rw[wP hm];exact e
end
section
variable{prog:Program}{w:Cn}{A:Al}{E:Value->Ab->Prop}{s:Ab}
theorem PN{a:Addr}{g n:Nat}{gs:G9}{P:Nat->Ab->Ab->Prop}{Y:Protocol}{Q:Option Value->Ab->Prop}(hh:A.handled=none)
  (hl:s.heap.NoLimit) (aN:A.depth<recursionLimit)
  (hg:s.heap.IsGen a g) (rx:s.gens[g]?=some gs)
  (ry:gs.Goes (Af prog w) A.in1 (fun n s₀ r aa=>r= .ok (.ret .none)/\P n s₀ aa) Y n (.send .none) (s.setGen g .running))
  (hY:∀v aa oz,oz.bare=true->Y (n-1) (s.setGen g .running) v aa (fun r' bI=>match n with
    |0=>False
    |m+1=>oz.Goes (Af prog w) A.in1 (fun n s₀ r aa=>r= .ok (.ret .none)/\P n s₀ aa) Y m r' bI)->Q (some v) (aa.setGen g oz))
  (hP:∀aa,P n (s.setGen g .running) aa->∀h',(∀b o,aa.heap.get? b=some o->h'.get? b=some o)->Q none {aa.setGen g .finished with heap:=h'}):
  Am (Af prog w) A (Gy (.ref a)) Q E s:=by
 refine Ac (Jf (G5 (name:=Str.ofString "__next__") hg.typeIs slot_gen_next
  (Fg slot_gen_next hg.typeIs entry_gen_next ?_ (args_gen_next _))))
 refine(?_:Am _ A.in1 (Builtin.Generator.genWake (.ref a) (.send .none)) _ _ s)
 refine Ac (D9 (wpAny_genNumber hg (Ac (wpAny_genState rx ?_))))
 cases gs with
 |running=>exact ry.elim
 |finished=>exact ry.elim
 |_=>
  refine Ac (wpAny_roomToWake hl aN ?_)
  refine(?_:Am _ A.in1 (.resume g (.send .none) [] _) _ _ s)
  refine wpAny_resumeQ rx ry (fun x aa hx=>?_) (fun v aa oz hb hv=>?_)
  ·refine au hx fun aG hp=>?_
   clear hx
   subst aG
   refine(?_:Am _ A.in1 (newExc (.type "StopIteration") []>>=_) _ _ _)
   refine Ac ?_
   simp only[newExc,newTuple]
   refine Ac (Cb ?_ (by size_fits))
   refine Ac (m:=Iw _ _) (B3 (a:=Hw) (by first|rfl|(simp only[Iw];rfl)) ?_)
   refine Cb ?_ (by size_fits)
   simp only[raiseNew]
   refine Ac (Ac (wpAny_handled ?_))
   first|refine af (show A.in1.handled=none from hh) ?_|rw[hh]
   refine wpAny_throw ?_
   refine Ac (wpAny_isInstance (T:= "StopIteration") (b:=true) ⟨_,Av _ rfl,rfl⟩ isSubtype_stop ?_)
   exact Ak (hP aa hp _ fun b o hb=>Ag _ (Ag _ hb))
  ·exact Ak ⟨v,rfl,Ak (hY v aa oz hb hv)⟩
end
noncomputable def dA:Nat->Bool->List Nat->Int->List (Int×List Nat)
 |_,e,[],p=>if e then [(p,[92])]else []
 |i,e,c::r,_=>if e then((i:Int),[92,c])::dA (i+1) false r i else if c==92 then dA (i+1) true r i else((i:Int),[c])::dA (i+1) false r i
noncomputable def xW(o:Obj):Bool:=match o.data with
 | .fields _=>true
 |_=>false
noncomputable def gH(L:Addr)(Ka:Addr->Option Obj)(h:Ap):Addr->Option Obj:=fun b=>if b=L then none else match Ka b with
 |some o=>some o
 |none=>match h.get? b with
  |some o=>if xW o then none else some o
  |none=>none
structure Sn(L:Addr)(Ka:Addr->Option Obj)(s₀ s:Ab):Prop where
 same:yZ s₀ s
 old:∀b o,b≠L->xW o=false->s₀.heap.get? b=some o->s.heap.get? b=some o
 ka:∀b o,Ka b=some o->s.heap.get? b=some o
noncomputable def lZ(L:Addr)(Ka:Addr->Option Obj)(cW:List (Int×List Nat)):Protocol:=fun m s₀ v s PQ=>∃(x:Int×List Nat) (T:Addr) (t1 t2:Jr) (fp:List Addr),cW.reverse[m]?=some x/\v= .ref T/\IsTup s.heap T #[.int x.1 t1, .str ⟨x.2.toArray⟩ t2]/\Sn L Ka s₀ s/\T∉fp/\(L∈fp/\∃mL,s.heap.Ns L mL)/\
 (∀b∈fp,Ka b=none/\∃o,s.heap.get? b=some o/\(b=L\/xW o=true))/\
 ∀bI:Ab,(∀b∈fp,∀o,s.heap.get? b=some o->bI.heap.get? b=some o)->(∀b o,Ka b=some o->bI.heap.get? b=some o)->PQ (.send .none) bI
noncomputable def oA(L:Addr)(Ka:Addr->Option Obj):GenEnd:=fun n s₀ r aa=>r= .ok (.ret .none)/\(n=0/\Sn L Ka s₀ aa)
theorem PR{α:Type}(pre:List α)(x:α)(t:List α):(pre++x::t).reverse[t.length]?=some x:=by
 rw[List.reverse_append,List.reverse_cons,Bf,C1 (by simp)]
 simp
section
variable{X:Ctx}{L:Addr}{Ka:Addr->Option Obj}{env:Dv}{A:Al}{s₀ s:Ab}{g:Sg}{N:Nat->List Addr}{F:List Addr}
theorem aw.around{tv dv:List Nat}{K:Addr->Option Obj}{A':Al}(T:aw X tv dv K env A s₀ g N F s)(h:wH X.W.D A'):aw X tv dv K env A' s₀ g N F s:={T with room:=h}
theorem aw.sn(T:aw X [] [] (gH L Ka s₀.heap) env A s₀ g N F s)(hL:Ka L=none)(h0:∀b o,Ka b=some o->s₀.heap.get? b=some o):Sn L Ka s₀ s where
 same:=T.same
 old:=fun b o hb hf e=>by
  cases q:Ka b with
  |some o'=>
   have h1:=T.kept b o' (by(refine eM hb ?_;exact af q rfl))
   rw[h0 b o' q]at e;obtain rfl:=Aa e;exact h1
  |none=>exact T.kept b o (by(refine eM hb ?_;(refine af q ?_;refine af e ?_));simp[hf])
 ka:=fun b o e=>T.kept b o (by(refine eM (fun q=>by rw[q,hL]at e;exact nn e) ?_;exact af e rfl))
theorem BN{h h':Ap}{p:PV}{v:Value}{ns:List Addr}(r:VR h p v ns)(hp:p.aZ=true):VR h' p v []:=by
 cases r<;>first|constructor|exact ft hp
theorem aw.again{K K':Addr->Option Obj}{bI:Ab}{A':Al}(T:aw X [] [] K env A s₀ g N F s)(bV:g.β=none)(kj:∀(i:Nat) (p:PV),g.σ[i]?=some (some p)->p.aZ=true)(iS:∀x,X.C.kn.lookup x≠some .cell)
  (hk:∀o,s.heap.get? env.locals=some o->bI.heap.get? env.locals=some o) (hL:K' env.locals=none) (hK:∀b o,K' b=some o->bI.heap.get? b=some o)
  (wd:∀h:Ap,(∀b o,K' b=some o->h.get? b=some o)->X.W.Wd h) (hr:wH X.W.D A'):aw X [] [] K' env A' bI g (fun _=> []) [] bI where
 gV:=T.gV
 kind:=T.kind
 names:=T.names
 gl:=T.gl
 bl:=T.bl
 room:=hr
 eT:=T.eT
 fj:=T.fj
 len:=T.len
 loc:=by obtain⟨m,h⟩:=T.loc;exact⟨m,h.at' hk⟩
 dJ:=hL
 cls:=fun x c e _=>absurd e (iS x)
 rd:=fun x i p e1 e2=>by
  obtain⟨v,a,r⟩:=T.rd x i p e1 e2
  refine⟨v,?_,BN r (kj i p e2)⟩
  have ot:=(T.gV.kd x i e1).resolve_right (iS x)
  have i7:env.kindOf x=some .local:=by unfold Be;rw[T.names];exact ot
  rcases a with⟨hl,m,hn,hm⟩|⟨hl,_⟩
  ·exact .inl ⟨hl,m,hn.at' hk,hm⟩
  ·rw[i7]at hl;rcases hl with hl|hl<;>cases hl
 nd:=fun j a h=>nomatch h
 bO:=fun i h=>nomatch h
 deep:=fun i h=>nomatch h
 kept:=hK
 eO:=wd
 same:= .refl _
 book:=fun v b e=>by rw[bV]at e;exact nn e
 foot:=fun a h=>nomatch h
end
section
variable{X:Ctx}{L:Addr}{Ka:Addr->Option Obj}{env:Dv}{A:Al}{s₀ s:Ab}{g:Sg}{N:Nat->List Addr}{F:List Addr}
theorem Xa{prog:Program}{w:Cn}{x y:Str}{px py pt:Bz}{kk:Nat}{l:List Nat}{t:Jr}{e it:Addr}(cU:e≠it)(A:Al)(hh:A.handled=none):
  dy prog w A (.Tuple [.Name x px, .Name y py] kk pt) [x,y] e [e,it] [e,it] (wJ 0 (l.map fun c=>PV.str [c])) (fun i h=>((∃old,IsEnum h e it i old)/\h.IsStrIter it (Gd ⟨l.toArray⟩) ⟨l.toArray⟩ t i)/\True):=by
 have hlen:(wJ 0 (l.map fun c=>PV.str [c])).length=(⟨l.toArray⟩:Str).cps.size:=by simp[BA]
 have D:Draws prog w A.in1 it [it] (wJ 0 (l.map fun c=>PV.str [c])).length (SignAt ⟨l.toArray⟩) (fun i h=>h.IsStrIter it (Gd ⟨l.toArray⟩) ⟨l.toArray⟩ t i):=by
  refine af hlen ?_
  unfold Gd
  split
  ·exact Draws.strAscii (A:=A.in1) hh it ⟨l.toArray⟩ t
  ·exact Draws.strWide (A:=A.in1) hh it ⟨l.toArray⟩ t
 have Wk:=WalksT.enumerateD D e cU (by simpa using cU) (by exact B0 _)
 refine dy.i4 hh Wk (fun b hb=>hb) (fun _=>True) (fun _ _ _ _=>trivial) (fun i h st _ b hb=>?_) (fun i h st b hb items n e'=>?_) (fun i it us h h' e1 e2 _ _=>⟨trivial,?_⟩)
 ·obtain⟨⟨old,h1⟩,o,h2,_⟩:=st
  rcases Ax.mp hb with rfl|hb
  ·exact cn _ h1
  ·refine af (Ae.mp hb) ?_;exact⟨o,h2⟩
 ·obtain⟨⟨old,h1⟩,o,h2,h3,h4⟩:=st
  rcases Ax.mp hb with rfl|hb
  ·rw[h1]at e';simp at e'
  ·rw[Ae.mp hb,h2]at e'
   obtain rfl:=Aa e';simp at h4
 ·refine aB (GW e1) fun p e3 cw=>?_
  subst cw
  refine dY e2 fun tk v jE gC=>?_
  clear e2
  refine dY jE fun c u e4 gC=>?_
  clear jE
  subst gC
  subst gC
  rw[Bi]at e3
  refine aB (Bn.mp e3) fun c' e5 cw=>?_
  subst cw
  have:c=c':=by
   have e4:l.toArray[i]?=some c:=e4
   rw[D4,e5]at e4;obtain rfl:=Aa e4;rfl
  subst this
  refine af (Cp ..) ?_
  exact UT _ _ ([]) rfl (.cons (n:=[]) (.int ..) (ak.one (.str [c] u))) (fun _ h=>nomatch h)
theorem IG{c:Code}{fs:List Frame}{K:Ls->Kf Fin}{H:Value->Kf Fin}{gd:Bool->Bool}{lv:List Value->List Value}{p v:Expr}{pp pv:PE}{k:Nat}{q yq ep:Bz}{z:Int}{l:List Nat}{pre t cW:List (Int×List Nat)}{fp:List Addr}
  (hp:av X.W X.C p pp) (hv:av X.W X.C v pv) (rz:yT p=true) (Xb:yT v=true) (T:aw X [] [] (gH L Ka s₀.heap) env (A.over c fs) s₀ g N F s) (hL:Ka L=none) (h0:∀b o,Ka b=some o->s₀.heap.get? b=some o)
  (e1:ev X.W.U pp g.σ=some (.int z)) (e2:ev X.W.U pv g.σ=some (.str l)) (dO:cW=pre++(z,l)::t) (rA:splitAtGen fs=none) (II:gd false=false) (BO:fs.any Frame.guarded=false) (i5:env.scope.isCoroutine=false)
  (bf:env.locals=L) (IJ:L∈fp) (cR:∀b∈fp,Ka b=none/\∃o,s.heap.get? b=some o/\(b=L\/xW o=true))
  (hn:∀s' bI:Ab,KG s s'->(∀b∈fp,∀o,s'.heap.get? b=some o->bI.heap.get? b=some o)->(∀b o,Ka b=some o->bI.heap.get? b=some o)->L4 (Af X.W.prog X.W.w) A (oA L Ka) (lZ L Ka cW) t.length bI c (K .next) fs bI):
  L4 (Af X.W.prog X.W.w) A (oA L Ka) (lZ L Ka cW) (t.length+1) s₀ c ((exec (.Expr (.Yield (some (.Tuple [p,v] k q)) yq) ep) env).wrap K H gd lv) fs s:=by
 refine seg_Expr_Yield rA II BO ?_ i5 (by unfold interactive;refine af T.kind ?_;rfl)
 refine wpAny_Tuple ?_
 refine af (zF rz ..) ?_
 refine af (zF Xb ..) ?_
 refine Ba (zE (hp env _ _ s g.σ _ T.pre e1) fun u aa ah=>?_)
 obtain⟨k₁,ns,aA,_⟩:=ah
 refine Ba (zE (hv env _ _ aa g.σ _ (T.kg k₁).pre e2) fun u' s₂ ai=>?_)
 obtain⟨k₂,ms,ba,_⟩:=ai
 refine B7 ⟨by refine af Bm ?_;refine(?_:2<=16777216);decide,fun PQ IK=>?_⟩
 obtain⟨t1,rfl⟩:∃t,u= .int z t:=by cases aA;exact⟨_,rfl⟩
 obtain⟨t2,rfl⟩:∃t,u'= .str ⟨l.toArray⟩ t:=by cases ba;exact⟨_,rfl⟩
 have bF:=zI (zI k₁ k₂) (pJ s₂ {cls:= .type "tuple",data:= .seq #[.int z t1, .str ⟨l.toArray⟩ t2]} s₂.toks)
 have aM:=T.kg bF
 refine⟨(z,l),s₂.heap.objs.size,t1,t2,fp,by refine af dO ?_;exact PR pre _ t,rfl,⟨_,Av _ rfl,rfl,_,rfl⟩,aM.sn hL h0,fun hm=>?_,⟨IJ,by obtain⟨m,hm⟩:=aM.loc;rw[bf]at hm;exact⟨m,hm⟩⟩,fun b hb=>?_,fun bI hk iy=>?_⟩
 ·obtain⟨_,o,e,_⟩:=cR _ hm
  have:=zZ (zI k₁ k₂) _ o e
  exact absurd (Bk this) (Jd _)
 ·obtain⟨h1,o,e,h2⟩:=cR b hb
  exact⟨h1,o,zZ bF b o e,h2⟩
 ·exact IK .none bI (hn _ bI bF hk iy)
end
theorem aw.rB{X:Ctx}{tv dv:List Nat}{K:Addr->Option Obj}{env:Dv}{A:Al}{s₀ s:Ab}{g:Sg}{N:Nat->List Addr}{F:List Addr}(T:aw X tv dv K env A s₀ g N F s)(h:g.β=none):aw X tv dv K env A s₀ g N [] s:=
 {T with
  book:=fun v b e=>by rw[h]at e;exact nn e
  foot:=fun a ha=>nomatch ha}
noncomputable def ky(al:List Nat)(p:Int)(e:Bool)(o:Option PV):Sg:=⟨[some (.str al),some (.int p),some (.bool e),o],none⟩
section
variable{X:Ctx}{L eA df:Addr}{Ka:Addr->Option Obj}{env:Dv}{A:Al}{al:List Nat}{tA:Jr}{cW:List (Int×List Nat)}
set_option genSizeOf false in
set_option genInjectivity false in
structure EP where
 xp:Str
 xc:Str
 xa:Str
 PU:Bz
 BP:Bz
 pt:Bz
 kt:Nat
 e1:Expr
 e2:Expr
 e3:Expr
 p1:Expr
 v1:Expr
 p2:Expr
 v2:Expr
 p3:Expr
 v3:Expr
 a1:Stmt
 a2:Stmt
 a0:Stmt
 b0:Stmt
 k1:Nat
 k2:Nat
 k3:Nat
 q1:Bz
 Xd:Bz
 Xe:Bz
 q2:Bz
 Xf:Bz
 Xg:Bz
 q3:Bz
 IL:Bz
 IM:Bz
 Xh:Bz
 Xi:Bz
 IP:Bz
 Xj:Bz
 Xk:Bz
 Xl:Bz
 fp:Bz
noncomputable abbrev IQ(P:EP):Expr:= .Tuple [.Name P.xp P.PU, .Name P.xc P.BP] P.kt P.pt
noncomputable abbrev BQ(P:EP):List Stmt:=
 [.If P.e1 [.Expr (.Yield (some (.Tuple [P.p1,P.v1] P.k1 P.q1)) P.Xd) P.Xe,P.a1] [.If P.e2 [P.a2] [.Expr (.Yield (some (.Tuple [P.p2,P.v2] P.k2 P.q2)) P.Xf) P.Xg] P.Xi] P.Xh]
structure EscOk(X:Ctx)(L:Addr)(Ka:Addr->Option Obj)(env:Dv)(P:EP):Prop where
 gI:X.C.Γ.lookup P.xp=some 1
 bD:X.C.Γ.lookup P.xc=some 3
 nc:∀x,X.C.kn.lookup x≠some .cell
 nf:∀x,X.C.kn.lookup x≠some .free
 loc:env.locals=L
 co:env.scope.isCoroutine=false
 qa:Ka L=none
 vS:∀h:Ap,(∀b o,Ka b=some o->h.get? b=some o)->X.W.Wd h
 t1:di X.W X.C P.e1 (.eG (.var 2))
 t2:di X.W X.C P.e2 (.cmp .Eq (.var 3) (.lit (.str [92])))
 nj:av X.W X.C P.p1 (.var 1)
 tM:av X.W X.C P.v1 (.bin .Add (.lit (.str [92])) (.var 3))
 nk:av X.W X.C P.p2 (.var 1)
 tN:av X.W X.C P.v2 (.var 3)
 s1:yT P.p1=true/\yT P.v1=true/\yT P.p2=true/\yT P.v2=true
 PW:zN X [] [] P.a1 (den X.W.U (.assign 2 (.lit (.bool false))))
 PY:zN X [] [] P.a2 (den X.W.U (.assign 2 (.lit (.bool true))))
variable{P:EP}
theorem Xm{al:List Nat}{p:Int}{e:Bool}{o:Option PV}(ho:∀q,o=some q->q.aZ=true):∀(i:Nat) (q:PV),(ky al p e o).σ[i]?=some (some q)->q.aZ=true:=by
 intro i q h
 unfold ky at h
 match i,h with
 |0,h=>cases h;rfl
 |1,h=>cases h;rfl
 |2,h=>cases h;rfl
 |3,h=>exact ho q (by simpa using h)
 |_+4,h=>simp at h
theorem Xn{h:Ap}{e it:Addr}{i:Int}{old:Value}(x:IsEnum h e it i old):∃o,h.get? e=some o/\xW o=true:=⟨_,x,rfl⟩
theorem Xo{h:Ap}{it:Addr}{T:String}{x:Str}{t:Jr}{i:Nat}(y:h.IsStrIter it T x t i):∃o,h.get? it=some o/\xW o=true:=by
 refine kU y fun o h1 h2 h3=>?_
 refine i12 o h1 ?_
 unfold xW
 first|rw[h3]|rw[h2]
theorem Xp{s:Ap}{b:Addr}(h1:Ka b=none)(h2:s.get? b=none\/∃o,s.get? b=some o/\xW o=true):gH L Ka s b=none:=by
 unfold gH
 split
 ·rfl
 ·rw[h1]
  rcases h2 with h2|⟨o,h2,h3⟩
  ·rw[h2]
  ·rw[h2];simp[h3]
theorem PZ{s:Ap}(h0:∀b o,Ka b=some o->s.get? b=some o):∀b o,gH L Ka s b=some o->s.get? b=some o:=by
 intro b o h
 unfold gH at h
 split at h
 ·exact nn h
 ·split at h
  ·rename_i o' e;obtain rfl:=Aa h;exact h0 b _ e
  ·split at h
   ·rename_i o' e
    split at h
    ·exact nn h
    ·obtain rfl:=Aa h;exact e
   ·exact nn h
theorem P7{s:Ap}(hL:Ka L=none)(h:∀h:Ap,(∀b o,Ka b=some o->h.get? b=some o)->X.W.Wd h):∀h:Ap,(∀b o,gH L Ka s b=some o->h.get? b=some o)->X.W.Wd h:=fun h' k=>h h' fun b o e=>k b o (by
 (refine eM (fun q=>by rw[q,hL]at e;exact nn e) ?_;rw[e]))
inductive iz(h:Ap)(al:List Nat)(tA:Jr)(eA df:Addr)(i:Nat):Prop
 |mk (old:Value) (e:IsEnum h eA df i old) (s:h.IsStrIter df (Gd ⟨al.toArray⟩) ⟨al.toArray⟩ tA i):iz h al tA eA df i
theorem iz.up{h h':Ap}{i:Nat}(x:iz h al tA eA df i)(k:∀b∈[eA,df],∀o,h.get? b=some o->h'.get? b=some o):iz h' al tA eA df i:=by
 obtain⟨old,e,o,g1,g2⟩:=x
 exact⟨old,k _ (.head _) _ e,o,k _ (.tail _ (.head _)) _ g1,g2⟩
theorem iz.fld{h:Ap}{i:Nat}(x:iz h al tA eA df i):∀b∈[eA,df],∃o,h.get? b=some o/\xW o=true:=by
 obtain⟨old,e,s⟩:=x
 exact fa (Xn e) (fa (Xo s) dE)
noncomputable abbrev vT(h:Ap)(l:List Addr):Prop:=∀b∈l,h.get? b=none\/∃o,h.get? b=some o/\xW o=true
theorem iz.loose{h:Ap}{i:Nat}(x:iz h al tA eA df i):vT h [eA,df]:=fun b hb=> .inr (x.fld b hb)
theorem Xq{o:Obj}{items:Array Value}{n:Nat}(hf:xW o=true)(e:o={cls:= .type "list",data:= .seq items n}):False:=by
 rw[e]at hf;exact ft hf
theorem iz.off{A':Al}{K':Addr->Option Obj}{s₀ s:Ab}{g:Sg}{N:Nat->List Addr}{F:List Addr}{i:Nat}(x:iz s.heap al tA eA df i)(T:aw X [] [] K' env A' s₀ g N F s):env.locals∉ [eA,df]/\∀j,∀a∈N j,a∉ [eA,df]:=by
 refine cj (fun hm=>?_) (fun j a ha hm=>?_)
 ·refine aB (x.fld _ hm) fun o e hf=>?_
  refine qO T.loc fun m o' es ep e' hd _=>?_
  rw[<-Aa (e'.symm.trans e),xW,hd]at hf;exact ft hf
 ·refine aB (x.fld _ hm) fun o e hf=>?_
  refine gc (T.nd j a ha) fun items n e'=>?_
  exact Xq hf (Aa (e.symm.trans e'))
theorem P8{A':Al}{s₀ s:Ab}{g:Sg}{N:Nat->List Addr}{h':Ap}{tk i:Nat}(nc:∀x,X.C.kn.lookup x≠some .cell)(nf:∀x,X.C.kn.lookup x≠some .free)(hK:∀b∈[eA,df],Ka b=none)(T:aw X [] [] (gH L Ka s₀.heap) env A' s₀ g N [] s)(fl:vT s₀.heap [eA,df])(x:iz s.heap al tA eA df i)
  (hk:∀b o,b∉ [eA,df]->s.heap.get? b=some o->h'.get? b=some o):aw X [] [] (gH L Ka s₀.heap) env A' s₀ g N [] {s with heap:=h',toks:=tk}:=
 T.other hk (x.off T).1 (fun x c e=>absurd e (nc x)) (fun _ h=>(Aq h).elim) (x.off T).2 (fun b hb=>Xp (hK b hb) (fl b hb)) (fun x c e=>absurd e (nf x))
theorem P9{A':Al}{K':Addr->Option Obj}{s₀ s:Ab}{g:Sg}{N:Nat->List Addr}{i:Nat}(nc:∀x,X.C.kn.lookup x≠some .cell)(x:iz s.heap al tA eA df i)(T:aw X [] [] K' env A' s₀ g N [] s):oj X [] [] env N [] [eA,df]:=
 ⟨(x.off T).1,fun x c e _=>absurd e (nc x),fun _ h=>(Aq h).elim,fun _ h=>(Aq h).elim,fun _ h=>(Aq h).elim⟩
theorem Qa{h:Ap}{l:List Addr}(x:∀b∈l,∃o,h.get? b=some o/\xW o=true):∀b∈l,∃o,h.get? b=some o:=fun b hb=>(x b hb).elim fun o e=>⟨o,e.1⟩
theorem Xr{i:Int}{e:Bool}{c:Nat}:∀(j:Nat) (q:PV),(ky al i e (some (.str [c]))).σ[j]?=some (some q)->q.aZ=true:=Xm fun q h=>by rw[<-Aa h];rfl
theorem Xs(H:EscOk X L Ka env P)(hK:∀b∈[eA,df],Ka b=none){cd:Code}{fs:List Frame}{K':Ls->Kf Fin}{Hh:Value->Kf Fin}(rA:splitAtGen fs=none)(BO:fs.any Frame.guarded=false){c:Nat}{r:List Nat}{i:Nat}{p:Int}{e:Bool}{pre:List (Int×List Nat)}{s₀ ao:Ab}{N:Nat->List Addr}
  (dO:cW=pre++dA i e (c::r) p) (aM:aw X [] [] (gH L Ka s₀.heap) env (A.over cd fs) s₀ (ky al i e (some (.str [c]))) N [] ao) (h0:∀b o,Ka b=some o->s₀.heap.get? b=some o) (fl:vT s₀.heap [eA,df]) (x:iz ao.heap al tA eA df (i+1))
  (back:∀(e':Bool) (dS:List (Int×List Nat)) (aa s':Ab) (N':Nat->List Addr) (F':List Addr),cW=dS++dA (i+1) e' r i->aw X [] [] (gH L Ka aa.heap) env (A.over cd fs) aa (ky al i e' (some (.str [c]))) N' F' s'->(∀b o,Ka b=some o->aa.heap.get? b=some o)->vT aa.heap [eA,df]->iz s'.heap al tA eA df (i+1)->
   L4 (Af X.W.prog X.W.w) A (oA L Ka) (lZ L Ka cW) (dA (i+1) e' r i).length aa cd (K' .next) fs s'):
  L4 (Af X.W.prog X.W.w) A (oA L Ka) (lZ L Ka cW) (dA i e (c::r) p).length s₀ cd ((Ge (BQ P) env).wrap K' Hh id id) fs ao:=by
 have bf:∃o,ao.heap.get? L=some o:=by
  refine tm aM.loc fun m o' _ _ e' _=>?_
  exact cn o' (H.loc▸e')
 have cR:∀{s':Ab},KG ao s'->∀b∈[L,eA,df],Ka b=none/\∃o,s'.heap.get? b=some o/\(b=L\/xW o=true):=fun k=>fa (bf.elim fun o e=>⟨H.qa,o,zZ k _ _ e, .inl rfl⟩) fun b hb=>(x.fld b hb).elim fun o e=>⟨hK b hb,o,zZ k _ _ e.1, .inr e.2⟩
 have again:∀{e':Bool} {s' bI:Ab},aw X [] [] (gH L Ka s₀.heap) env (A.over cd fs) s₀ (ky al i e' (some (.str [c]))) N [] ao->KG ao s'->(∀b∈[L,eA,df],∀o,s'.heap.get? b=some o->bI.heap.get? b=some o)->(∀b o,Ka b=some o->bI.heap.get? b=some o)->
   aw X [] [] (gH L Ka bI.heap) env (A.over cd fs) bI (ky al i e' (some (.str [c]))) (fun _=> []) [] bI/\iz bI.heap al tA eA df (i+1):=fun {e' s' bI} T' k hk iy=>by
  refine cj (aw.again T' rfl Xr H.nc (fun o e=>hk _ (by rw[H.loc];exact Ai ..) o (zZ k _ o e)) ?_ (PZ iy) (P7 H.qa H.vS) T'.room) (x.up fun b hb o e=>hk b (.tail _ hb) o (zZ k _ _ e))
  rw[H.loc];exact xU rfl rfl
 refine Ew (IE ?_)
 refine zE (H.t1 env _ _ ao _ e aM.pre rfl) fun b aS aU=>?_
 refine au aU fun aG cf=>?_
 clear aU
 subst aG
 have bP:=aM.kg cf
 cases b with
 |true=>
  rw[if_pos rfl]
  have he:dA i true (c::r) p=((i:Int),[92,c])::dA (i+1) false r i:=rfl
  rw[he]at dO⊢
  refine Ew (IG (pre:=pre) (t:=dA (i+1) false r i) (fp:=[L,eA,df]) H.nj H.tM H.s1.1 H.s1.2.1 bP H.qa h0 (z:=i) (l:=[92,c]) rfl ?_ dO rA rfl BO H.co H.loc (.head _) (cR cf) fun s' bI k hk iy=>?_)
  ·refine(?_:(if [92].length+[c].length<=ag then some (PV.str ([92]++[c]))else none)=_)
   refine xU (by refine(?_:2<=16777216);decide) ?_;rfl
  ·refine au (again aM (zI cf k) hk iy) fun dt iA=>?_
   refine PM (fp:=[eA,df]) H.PW dt (P9 H.nc iA dt) (Qa iA.fld) (g':=ky al i false (some (.str [c]))) rfl fun IS IT s₆ dN kf=>?_
   exact Dk (Dk (back false (pre++[((i:Int),[92,c])]) _ _ _ _ (by rw[dO,Bf];rfl) dN iy iA.loose (iA.up kf)))
 |false=>
  rw[if_neg Bp]
  refine Ew (IE ?_)
  refine zE (H.t2 env _ _ aS _ (c==92) bP.pre (by refine(?_:some ([c]==[92])=_);simp)) fun b cH dH=>?_
  refine au dH fun aG eN=>?_
  clear dH
  subst aG
  have BR:=zI cf eN
  have dt:=aM.kg BR
  have iA:=x.up fun b _ o e=>zZ BR b o e
  have he:dA i false (c::r) p=if c==92 then dA (i+1) true r i else((i:Int),[c])::dA (i+1) false r i:=rfl
  rw[he]at dO⊢
  cases hc:(c==92)with
  |true=>
   rw[if_pos rfl]
   rw[hc,if_pos rfl]at dO
   rw[if_pos rfl]
   refine PM (fp:=[eA,df]) H.PY dt (P9 H.nc iA dt) (Qa iA.fld) (g':=ky al i true (some (.str [c]))) rfl fun IS IT s₆ dN kf=>?_
   exact Dk (Dk (Dk (back true pre _ _ _ _ dO dN h0 fl (iA.up kf))))
  |false=>
   rw[if_neg Bp]
   rw[hc,if_neg Bp]at dO
   rw[if_neg Bp]
   refine Ew (IG (pre:=pre) (t:=dA (i+1) false r i) (fp:=[L,eA,df]) H.nk H.tN H.s1.2.2.1 H.s1.2.2.2 dt H.qa h0 (z:=i) (l:=[c]) rfl rfl dO rA rfl BO H.co H.loc (.head _) (cR BR) fun s' bI k hk iy=>?_)
   refine au (again aM (zI BR k) hk iy) fun dN vU=>?_
   exact Dk (Dk (Dk (back false (pre++[((i:Int),[c])]) _ _ _ _ (by rw[dO,Bf];rfl) dN iy vU.loose vU)))
theorem Xt{l:List PV}{k i:Nat}{q:PV}(h:l[i]?=some q):(wJ k l)[i]?=some [.int ((k+i:Nat):Int),q]:=by
 induction l generalizing k i with
 |nil=>exact nn h
 |cons a l ih=>
  cases i with
  |zero=>rw[<-Aa h];rfl
  |succ i=>
   have:=ih (k:=k+1) (i:=i) h
   rw[C3,Ej 1]at this
   exact this
theorem Xu(H:EscOk X L Ka env P)(cU:eA≠df)(hK:∀b∈[eA,df],Ka b=none){k:D3->Kf Fin}{l0:List Value}{cF cL:Code}{pF:Bz}(hh:A.handled=none)
  (BH:cL= .forLoop (IQ P) (.ref eA) (BQ P) [] env) (aN:wH X.W.D (A.over cL [.ret k none false l0 cF pF []]))
  (IU:∀(p:Int) (e:Bool) (o:Option PV) (pre:List (Int×List Nat)) (s₀ s:Ab) (N:Nat->List Addr),(∀q,o=some q->q.aZ=true)->cW=pre++(if e then [(p,[92])]else [])->
   (∀A',wH X.W.D A'->aw X [] [] (gH L Ka s₀.heap) env A' s₀ (ky al p e o) N [] s)->(∀b o,Ka b=some o->s₀.heap.get? b=some o)->
   L4 (Af X.W.prog X.W.w) A (oA L Ka) (lZ L Ka cW) (if e then [(p,[92])]else([]:List (Int×List Nat))).length s₀ cF (k (.ok .next)) [] s):
  ∀(r:List Nat) (i:Nat) (p:Int) (e:Bool) (o:Option PV) (pre:List (Int×List Nat)) (s₀ s:Ab) (N:Nat->List Addr) (F:List Addr),al.drop i=r->i<=al.length->(∀q,o=some q->q.aZ=true)->cW=pre++dA i e r p->
   aw X [] [] (gH L Ka s₀.heap) env (A.over cL [.ret k none false l0 cF pF []]) s₀ (ky al p e o) N F s->(∀b o,Ka b=some o->s₀.heap.get? b=some o)->vT s₀.heap [eA,df]->iz s.heap al tA eA df i->
   L4 (Af X.W.prog X.W.w) A (oA L Ka) (lZ L Ka cW) (dA i e r p).length s₀ cL ((Af X.W.prog X.W.w).den cL) [.ret k none false l0 cF pF []] s:=by
 subst BH
 intro r
 have Y:=Xa (prog:=X.W.prog) (w:=X.W.w) (x:=P.xp) (y:=P.xc) (px:=P.PU) (py:=P.BP) (pt:=P.pt) (kk:=P.kt) (l:=al) (t:=tA) cU _ aN.hh
 induction r with
 |nil=>
  intro i p e o pre s₀ s N F dD hi ho dO T h0 fl x
  have T:=T.rB rfl
  have nt:(wJ 0 (al.map fun c=>PV.str [c])).length=i:=by
   rw[BA,An];exact Ic (Ec.mp dD) hi
  refine PL (Y.done s _ _ (by rw[nt];exact x.casesOn fun _ hE hS=>⟨⟨⟨_,hE⟩,hS⟩,trivial⟩) fun h' tk hk=> .inl ⟨rfl,?_⟩)
  exact W9 (seg_leaf (.ok .next) (IU p e o pre s₀ _ N ho dO (fun A' hr=>(P8 H.nc H.nf hK T fl x hk).around hr) h0))
 |cons c r ih=>
  intro i p e o pre s₀ s N F dD hi ho dO T h0 fl x
  have T:=T.rB rfl
  have Qb:al[i]?=some c:=by rw[<-List.head?_drop,dD];rfl
  have rC:al.drop (i+1)=r:=by rw[<-Iy,dD];rfl
  have hit:=Xt (k:=0) (l:=al.map fun c=>PV.str [c]) (i:=i) (q:= .str [c]) (by rw[Bi,Qb];rfl)
  rw[Cp]at hit
  refine PL (zE (Y.item i _ s env _ _ hit (x.casesOn fun _ hE hS=>⟨⟨⟨_,hE⟩,hS⟩,trivial⟩) fun us ms ai bR fT ff hlen cz aC=>?_) fun r aa h=> .inr h)
  have ax:=P8 (tk:=bR) H.nc H.nf hK T fl x aC
  obtain rfl:=fT.aD rfl
  have oC:iz ai al tA eA df (i+1):=cz.1.1.elim fun _ e=>⟨_,e,cz.1.2⟩
  refine Pn (is:=[1,3]) (.cons H.gI (.cons H.bD .nil)) ax fT hlen (fun _ _=>⟨fun h=>(Aq h).elim,fun h=>(Aq h).elim⟩) eu.nil fun fu ao aM _ kp=>?_
  have aM:aw X [] [] (gH L Ka s₀.heap) env _ s₀ (ky al i e (some (.str [c]))) fu [] ao:=aM.rB rfl
  exact Xs H hK rfl rfl dO aM h0 fl (oC.up fun b hb o e=>kp b o (fun q=>(oC.off ax).1 (q▸hb)) (fun y d e1 _=>absurd e1 (H.nc y)) e) fun e' dS aa s' N' F' hl T' BS Xv x'=>
   seg_again rfl (ih (i+1) i e' (some (.str [c])) dS aa s' N' F' rC (Bc.mp Qb).1 (fun q h=>by rw[<-Aa h];rfl) hl T' BS Xv x')
end
theorem Sn.vV{L:Addr}{Ka:Addr->Option Obj}{s:Ab}(h:∀b o,Ka b=some o->s.heap.get? b=some o):Sn L Ka s s:=⟨.refl _,fun _ _ _ _ e=>e,h⟩
section
variable{X:Ctx}{L:Addr}{Ka:Addr->Option Obj}{env:Dv}{A:Al}{al:List Nat}
variable{P:EP}
noncomputable abbrev oE(P:EP):List Stmt:=
 [P.a0,P.b0, .For (IQ P) (.Call (.Name ("enumerate" :Str) P.Xj) [.Name P.xa P.Xk] [] P.Xl) (BQ P) [] P.fp,
  .If P.e3 [.Expr (.Yield (some (.Tuple [P.p3,P.v3] P.k3 P.q3)) P.IL) P.IM] [] P.IP]
structure Qc(X:Ctx)(L:Addr)(Ka:Addr->Option Obj)(env:Dv)(P:EP):Prop extends EscOk X L Ka env P where
 hx:X.C.Γ.lookup P.xa=some 0
 bad:bad P.xa=false
 ke:X.C.kn.lookup ("enumerate" :Str)=some .globalImplicit
 ge:X.W.mg "enumerate" =none
 be:X.W.mb "enumerate" =some (.type "enumerate")
 t3:di X.W X.C P.e3 (.eG (.var 2))
 Qd:av X.W X.C P.p3 (.var 1)
 Qe:av X.W X.C P.v3 (.lit (.str [92]))
 s3:yT P.p3=true/\yT P.v3=true
 Qf:zN X [] [] P.a0 (den X.W.U (.assign 1 (.lit (.int 0))))
 BU:zN X [] [] P.b0 (den X.W.U (.assign 2 (.lit (.bool false))))
theorem Xw{h:Ap}{a:Addr}(cU:a≠L)(h1:gH L Ka h a=none):Ka a=none/\(h.get? a=none\/∃o,h.get? a=some o/\xW o=true):=by
 unfold gH at h1
 rw[if_neg cU]at h1
 cases q:Ka a with
 |some o=>rw[q]at h1;exact sn h1
 |none=>
  rw[q]at h1
  refine cj rfl ?_
  cases q2:h.get? a with
  |none=>exact .inl rfl
  |some o=>
   rw[q2]at h1
   by_cases hf:xW o=true
   ·exact .inr ⟨o,rfl,hf⟩
   ·exact sn ((if_neg hf).symm.trans h1)
theorem Xx(H:Qc X L Ka env P)(hh:A.handled=none){s₀ s:Ab}{N:Nat->List Addr}{F:List Addr}
  (rD:wH X.W.D (A.over (.func (oE P) env) []))
  (rE:∀eA k p,wH X.W.D (A.over (.forLoop (IQ P) (.ref eA) (BQ P) [] env) [.ret k none false [] (.func (oE P) env) p []]))
  (T:aw X [] [] (gH L Ka s₀.heap) env (A.over (.func (oE P) env) []) s₀ ⟨[some (.str al),none,none,none],none⟩ N F s)
  (h0:∀b o,Ka b=some o->s₀.heap.get? b=some o):
  L4 (Af X.W.prog X.W.w) A (oA L Ka) (lZ L Ka (dA 0 false al 0)) (dA 0 false al 0).length s₀ (.func (oE P) env)
   ((Af X.W.prog X.W.w).den (.func (oE P) env)) [] s:=by
 refine seg_func ?_
 generalize HB:Code.func (oE P) env=cF at*
 refine IF H.Qf T (g':=⟨[some (.str al),some (.int 0),none,none],none⟩) rfl fun vW rF aa aW=>?_
 refine IF H.BU aW (g':=ky al 0 false none) rfl fun rG oF s₂ ax=>?_
 have ax:=ax.rB rfl
 refine Ew (W8 (fun x=>wU rfl env x) ?_)
 obtain⟨v,dq,rv⟩:=ax.rd P.xa 0 (.str al) H.hx rfl
 have Xy:VR s₂.heap (.str al) v []:=BN rv rfl
 obtain⟨tA,rfl⟩:∃t,v= .str ⟨al.toArray⟩ t:=Xy.inv.elim fun t e=>⟨t,e.1⟩
 refine Eo rfl ?_
 refine A6 ax.kind (by unfold Be;rw[ax.names];exact H.ke) (Cz (mg:=X.W.mg) (mb:=X.W.mb) ?_ H.ge ?_ H.be ?_) (by decide)
 ·rw[ax.gl];exact X.W.g ax.pre.wd
 ·rw[ax.bl];exact X.W.b ax.pre.wd
 refine Cm ?_ (zF rfl [] env) rfl
 rw[zF rfl [] env]
 refine Ba (Bt (zU ax.kind dq ?_ (wW H.bad)) (wE H.bad))
 refine B7 ?_
 refine call_enumerate_str fun h' hE hS hsz up=>?_
 refine wpAny_pyIter_enum hE fun p=>?_
 have aM:=ax.kg (jA _ h' s₂.toks up)
 have kN:∀j,Ka (s₂.heap.objs.size+j)=none/\(s₀.heap.get? (s₂.heap.objs.size+j)=none\/∃o,s₀.heap.get? (s₂.heap.objs.size+j)=some o/\xW o=true):=fun j=>Xw (fun q=>by
   refine tm ax.loc fun m o _ _ e _=>?_
   rw[H.loc,<-q,yP]at e;exact nn e) (rk ax.kept (yP j))
 have k0:=kN 0
 rw[Nat.add_zero]at k0
 have Qg:=rE (s₂.heap.objs.size+1) (PJ env (fun f=>match f with
   | .next=>(Ge [.If P.e3 [.Expr (.Yield (some (.Tuple [P.p3,P.v3] P.k3 P.q3)) P.IL) P.IM] [] P.IP] env).wrap (fun f=> .pure (.done (.ret (match f with| .ret v=>v|_=> .none)))) (fun e=>(leaving env e).wrap (fun _=> .raise e) .raise id id) id id
   |f=> .pure (.done (.ret (match f with| .ret v=>v|_=> .none)))) (fun e=>(leaving env e).wrap (fun _=> .raise e) .raise id id) id id) p
 refine Xu (tA:=tA) H.toEscOk (Nat.succ_ne_self _) (fa (kN 1).1 (fa k0.1 dE)) (al:=al) hh rfl Qg ?_ al 0 0 false none [] s₀ _ _ _ (Dx) (C0 _) (fun q h=>nn h) rfl (aM.around Qg) h0 (fa (kN 1).2 (fa k0.2 dE)) ⟨_,hE,hS⟩
 intro p' e o pre eI s' N' ho hL hT BS
 refine(?_:L4 _ _ _ _ _ _ _ ((Ge [.If P.e3 [.Expr (.Yield (some (.Tuple [P.p3,P.v3] P.k3 P.q3)) P.IL) P.IM] [] P.IP] env).wrap _ _ id id) [] s')
 have T':=hT _ rD
 refine Ew (IE ?_)
 refine zE (H.t3 env _ _ s' _ e T'.pre rfl) fun b aS aU=>?_
 refine au aU fun aG cf=>?_
 clear aU
 subst aG
 have bP:=T'.kg cf
 cases b with
 |true=>
  rw[if_pos rfl]
  have BI:dA 0 false al 0=pre++(p',[92])::[]:=hL
  refine Ew (IG (pre:=pre) (t:=[]) (fp:=[L]) H.Qd H.Qe H.s3.1 H.s3.2 bP H.qa BS (z:=p') (l:=[92]) rfl rfl BI rfl rfl rfl H.co H.loc (by exact B0 _) (fun b hb=>?_) fun s5 s6 k hk iy=>?_)
  ·rw[Ae.mp hb]
   refine tm bP.loc fun m o' _ _ e' _=>?_
   rw[H.loc]at e'
   exact⟨H.qa,o',e', .inl rfl⟩
  ·refine Dk (Dk ?_)
   exact seg_end (.ok (.ret .none)) ⟨rfl,rfl,Sn.vV iy⟩
 |false=>
  rw[if_neg Bp]
  refine Dk (Dk ?_)
  exact seg_end (.ok (.ret .none)) ⟨rfl,rfl,bP.sn H.qa BS⟩
end
structure GS(prog:Program)(w:Cn)(A':Al)(L a:Addr)(g:Nat)(Ka:Addr->Option Obj)(cW rem:List (Int×List Nat))(fp:List Addr)(s:Ab):Prop where
 gp:s.heap.IsGen a g
 vX:∃o,Ka a=some o
 pre:∃pre,cW=pre++rem
 tY:L∈fp/\∃mL,s.heap.Ns L mL
 rH:∀b∈fp,Ka b=none/\∃o,s.heap.get? b=some o/\(b=L\/xW o=true)
 ka:∀b o,Ka b=some o->s.heap.get? b=some o
 BV:∃gs,s.gens[g]?=some gs/\gs.bare=true/\∀bI:Ab,(∀b∈fp,∀o,s.heap.get? b=some o->bI.heap.get? b=some o)->(∀b o,Ka b=some o->bI.heap.get? b=some o)->
  gs.Goes (Af prog w) A' (oA L Ka) (lZ L Ka cW) rem.length (.send .none) bI
theorem Qh{s:Ab}{g:Nat}{x:G9}(h:∃y,s.gens[g]?=some y):(s.setGen g x).gens[g]?=some x:=by
 refine aJ h fun y h=>?_
 have aX:=(Gg.mp h).1
 refine(?_:(s.gens.setIfInBounds g x)[g]?=some x)
 simp[aX]
theorem Qi{s:Ab}{g i:Nat}{x:G9}(h:i≠g):(s.setGen g x).gens[i]?=s.gens[i]?:=by
 refine(?_:(s.gens.setIfInBounds g x)[i]?=_)
 rw[Array.getElem?_setIfInBounds_ne (Ir h)]
theorem Qj{s:Ab}{g:Nat}{x:G9}(h:Lm s.gens)(hx:x.bare=true):Lm (s.setGen g x).gens:=fun y hy=>by
 change y∈s.gens.setIfInBounds g x at hy
 rcases Array.mem_or_eq_of_mem_setIfInBounds hy with h1|h1
 ·exact h y h1
 ·exact h1▸hx
structure Tn(L:Addr)(g:Nat)(Ka:Addr->Option Obj)(s aa:Ab):Prop where
 eq:∃h t gs,aa={s with heap:=h,toks:=t,gens:=gs}
 old:∀b o,b≠L->xW o=false->s.heap.get? b=some o->aa.heap.get? b=some o
 ka:∀b o,Ka b=some o->aa.heap.get? b=some o
 gens:∀(i:Nat) x,i≠g->s.gens[i]?=some x->aa.gens[i]?=some x
 bare:Lm s.gens->Lm aa.gens
theorem Tn.of{L:Addr}{g:Nat}{Ka:Addr->Option Obj}{s aa:Ab}{x:G9}(hx:x.bare=true)(h:Sn L Ka (s.setGen g .running) aa):Tn L g Ka s (aa.setGen g x):=by
 obtain⟨⟨h',t,gs,rfl,e⟩,h2,h3⟩:=h
 refine⟨⟨h',t,_,rfl⟩,h2,h3,fun i y hi hy=>?_,fun hb=>?_⟩
 ·rw[Qi hi]
  exact e.get i y (by rw[Qi hi];exact hy)
 ·exact Qj (e.bare (Qj hb rfl)) hx
theorem Xz{prog:Program}{w:Cn}{A:Al}{L a:Addr}{g:Nat}{Ka:Addr->Option Obj}{cW rem:List (Int×List Nat)}{x:Int×List Nat}{fp:List Addr}{s:Ab}{E:Value->Ab->Prop}(G:GS prog w A.in1 L a g Ka cW (x::rem) fp s)(hh:A.handled=none)(hl:s.heap.NoLimit)(hd:A.depth<recursionLimit):
  Am (Af prog w) A (Gy (.ref a)) (fun r aa=>∃T t1 t2 fp',r=some (.ref T)/\IsTup aa.heap T #[.int x.1 t1, .str ⟨x.2.toArray⟩ t2]/\GS prog w A.in1 L a g Ka cW rem fp' aa/\Tn L g Ka s aa) E s:=by
 refine aJ G.pre fun pre oG=>?_
 refine kU G.BV fun gs rx hb ry=>?_
 refine PN hh hl hd G.gp rx (ry (s.setGen g .running) (fun _ _ _ e=>e) G.ka) (fun v aa oz j0 hY=>?_) (fun aa hP=>?_)
 ·have hY:lZ L Ka cW rem.length (s.setGen g .running) v aa (fun r' bI=>oz.Goes (Af prog w) A.in1 (oA L Ka) (lZ L Ka cW) rem.length r' bI):=hY
  obtain⟨x',T,t1,t2,fp',h1,rfl,h3,h4,h5,h6,h7,h8⟩:=hY
  have hx:x'=x:=by
   rw[oG,PR]at h1;obtain rfl:=Aa h1;rfl
  subst hx
  have vi:∃y,aa.gens[g]?=some y:=by
   obtain⟨_,_,_,rfl,e⟩:=h4.same
   exact cn _ (e.get g .running (Qh ⟨gs,rx⟩))
  refine UW T t1 t2 fp' rfl h3 ⟨?_,G.vX,⟨pre++[x'],by rw[oG,Bf];rfl⟩,h6,h7,h4.ka,oz,Qh vi,j0,fun bI k1 k2=>h8 bI k1 k2⟩ (Tn.of j0 h4)
  refine qN G.gp fun o i vs e1 e2=>?_
  refine aJ G.vX fun o' e3=>?_
  have e4:=G.ka a o' e3
  rw[e1]at e4;obtain rfl:=Aa e4
  exact Ob o i vs (h4.ka a o e3) e2
 ·refine au hP fun h1 _=>?_
  cases h1
theorem XA{prog:Program}{w:Cn}{A:Al}{L a:Addr}{g:Nat}{Ka:Addr->Option Obj}{cW:List (Int×List Nat)}{fp:List Addr}{s:Ab}{E:Value->Ab->Prop}(G:GS prog w A.in1 L a g Ka cW [] fp s)(hh:A.handled=none)(hl:s.heap.NoLimit)(hd:A.depth<recursionLimit):
  Am (Af prog w) A (Gy (.ref a)) (fun r aa=>r=none/\Tn L g Ka s aa) E s:=by
 refine kU G.BV fun gs rx hb ry=>?_
 refine PN hh hl hd G.gp rx (ry (s.setGen g .running) (fun _ _ _ e=>e) G.ka) (fun v aa oz j0 hY=>?_) (fun aa hP h' hk=>?_)
 ·have hY:lZ L Ka cW 0 (s.setGen g .running) v aa (fun r' bI=>False):=hY
  obtain⟨x',T,t1,t2,fp',h1,rfl,h3,h4,h5,h6,h7,h8⟩:=hY
  exact(h8 aa (fun _ _ _ e=>e) h4.ka).elim
 ·refine au hP fun _ h2=>?_
  have t:=Tn.of (x:= .finished) rfl h2
  refine cj rfl ?_
  obtain⟨⟨hh',tt,gg,e⟩,t2,t3,t4,t5⟩:=t
  refine⟨⟨h',aa.toks,(aa.setGen g .finished).gens,?_⟩,fun b o h1 h2 e=>hk b o (t2 b o h1 h2 e),fun b o e=>hk b o (t3 b o e),t4,t5⟩
  refine af e ?_
  have:aa.toks=tt:=congrArg Shared.toks e
  exact af this rfl
theorem XB{prog:Program}{w:Cn}{A:Al}{E:Value->Ab->Prop}{s:Ab}{elts:List Expr}{x1:Nat}{pos:Bz}{I T:Addr}{g:Nat}{Q:Unit->Ab->Prop}(hit:s.heap.IsGen I g)(hQ:Q () s):
  Am (Af prog w) A (E1 (.Tuple elts x1 pos) (.ref I) (.ref T)) Q E s:=by
 refine nO hit fun o nm q ho hc hd=>?_
 refine Ac (Lk ho ?_)
 refine af hc ?_
 refine af hd.1 ?_
 refine(?_:Am _ A (if(["enumerate", "zip", "dict_itemiterator", "dict_reverseitemiterator", "odict_iterator", "itertools.zip_longest", "itertools.pairwise"].contains "generator" &&_)=true then _ else _) Q E s)
 rw[if_neg (by
  intro h
  rw[show(["enumerate", "zip", "dict_itemiterator", "dict_reverseitemiterator", "odict_iterator", "itertools.zip_longest", "itertools.pairwise"].contains "generator")=false from by decide,Gf]at h
  exact ft h)]
 exact Ak hQ
theorem yZ.trans{a b c:Ab}(x:yZ a b)(y:yZ b c):yZ a c:=by
 obtain⟨h,t,g,rfl,e⟩:=x
 obtain⟨h',t',g',rfl,e'⟩:=y
 exact⟨h',t',g',rfl,e.trans e'⟩
section
variable{X:Ctx}{tv dv:List Nat}{K Ka:Addr->Option Obj}{env:Dv}{A:Al}{s₀ s aa:Ab}{g:Sg}{N:Nat->List Addr}{L a:Addr}{gi:Nat}
theorem aw.rebase{F:List Addr}(T:aw X tv dv K env A s₀ g N F s):aw X tv dv K env A s g N F s:={T with same:= .refl s}
theorem aw.rI{F:List Addr}(T:aw X tv dv K env A aa g N F s)(x:yZ s₀ aa):aw X tv dv K env A s₀ g N F s:={T with same:=x.trans T.same}
theorem aw.tn(T:aw X tv dv K env A s₀ g N [] s)(t:Tn L gi Ka s aa)(hK:∀b o,K b=some o->Ka b=some o)(hL:env.locals≠L)(hc:∀x c,X.C.kn.lookup x=some .cell->env.cells.lookup x=some c->c≠L)(il:∀x,X.C.kn.lookup x≠some .free)
  (hg:s₀.gens[gi]?=none) (IV:∀items n,s.heap.get? L≠some {cls:= .type "list",data:= .seq items n}) (bV:g.β=none):aw X tv dv K env A s₀ g N [] aa:=by
 have lst:∀b items n,s.heap.get? b=some {cls:= .type "list",data:= .seq items n}->aa.heap.get? b=some {cls:= .type "list",data:= .seq items n}:=fun b items n e=>t.old b _ (fun q=>IV items n (q▸e)) rfl e
 exact
  {T with
   loc:=by obtain⟨m,h⟩:=T.loc;exact⟨m,h.at' fun o e=>t.old _ o hL (by obtain⟨o',_,_,e',hd,_⟩:=h;rw[e]at e';obtain rfl:=Aa e';unfold xW;exact af hd rfl) e⟩
   cls:=fun x c e1 e2=>by
    refine au (T.cls x c e1 e2) fun bL h=>?_
    refine dY bL fun v o e3 e4=>?_
    exact cj ⟨v,o,t.old c o (hc x c e1 e2) (by unfold xW;exact af e4 rfl) e3,e4⟩ h
   rd:=fun x i p e1 e2=>by
    obtain⟨v,ac,r⟩:=T.rd x i p e1 e2
    refine⟨v,?_,r.on fun b hb o e=>by obtain⟨items,n,e'⟩:=T.nd i b hb;rw[e']at e;obtain rfl:=Aa e;exact lst b items n e'⟩
    rcases ac with⟨hl,m,hn,hm⟩|⟨hl,c,kY,o,e3,e4⟩
    ·exact .inl ⟨hl,m,hn.at' fun o e=>t.old _ o hL (by obtain⟨o',_,_,e',hd,_⟩:=hn;rw[e]at e';obtain rfl:=Aa e';unfold xW;exact af hd rfl) e,hm⟩
    ·refine .inr ⟨hl,c,kY,o,t.old c o ?_ (by unfold xW;exact af e4 rfl) e3,e4⟩
     rcases hl with hl|hl
     ·exact hc x c (by unfold Be at hl;rw[T.names]at hl;exact hl) kY
     ·exact absurd (by unfold Be at hl;rw[T.names]at hl;exact hl) (il x)
   nd:=fun j b hb=>by obtain⟨items,n,e⟩:=T.nd j b hb;exact⟨items,n,lst b items n e⟩
   kept:=fun b o e=>t.ka b o (hK b o e)
   same:=by
    refine AF t.eq fun h tk gs e=>?_
    obtain⟨h0,t0,g0,e0,x0⟩:=T.same
    refine⟨h,tk,gs,by(refine af e ?_;exact af e0 rfl),⟨fun i x hx=>?_,fun hb=>?_⟩⟩
    ·have h1:=x0.get i x hx
     have h2:s.gens[i]?=some x:=by refine af e0 ?_;exact h1
     have h3:=t.gens i x (fun q=>by rw[q,hg]at hx;exact nn hx) h2
     rw[e]at h3;exact h3
    ·have h1:=t.bare (by refine af e0 ?_;exact x0.bare hb)
     rw[e]at h1;exact h1
   book:=fun v b e=>by rw[bV]at e;exact nn e
   foot:=fun a ha=>nomatch ha}
theorem GS.frame{prog:Program}{w:Cn}{A':Al}{cW rem:List (Int×List Nat)}{fp:List Addr}(G:GS prog w A' L a gi Ka cW rem fp s)(h1:∀b∈fp,∀o,s.heap.get? b=some o->aa.heap.get? b=some o)(h2:∀b o,Ka b=some o->aa.heap.get? b=some o)(h3:∀(i:Nat) x,s.gens[i]?=some x->aa.gens[i]?=some x):
  GS prog w A' L a gi Ka cW rem fp aa where
 gp:=by
  refine qN G.gp fun o nm q e1 e2=>?_
  refine aJ G.vX fun o' e3=>?_
  have e4:=G.ka a o' e3
  rw[e1]at e4;obtain rfl:=Aa e4
  exact Ob o nm q (h2 a o e3) e2
 vX:=G.vX
 pre:=G.pre
 tY:=⟨G.tY.1,by obtain⟨m,hm⟩:=G.tY.2;exact⟨m,hm.at' fun o e=>h1 L G.tY.1 o e⟩⟩
 rH:=fun b hb=>by obtain⟨g1,o,g2,g3⟩:=G.rH b hb;exact⟨g1,o,h1 b hb o g2,g3⟩
 ka:=h2
 BV:=by
  refine kU G.BV fun gs g1 g2 g3=>?_
  exact FN gs (h3 _ _ g1) g2 (fun bI k1 k2=>g3 bI (fun b hb o e=>k1 b hb o (h1 b hb o e)) k2)
end
inductive Qk(prog:Program)(w:Cn)(Wd:Ap->Prop)(D:Nat)(al:List Nat)(s:Ab)(res:D3)(s':Ab):Prop
 |mk (a L:Addr) (g:Nat) (e:res= .ok (.ret (.ref a))) (k:KG s s') (ha:s.heap.get? a=none) (hL:s.heap.get? L=none) (Ql:a≠L) (hg:s.gens[g]?=none) (ho:∃o,s'.heap.get? a=some o/\xW o=true) (hi:s'.heap.IsGen a g)
  (G:∀(A2:Al) (Ka:Addr->Option Obj),wH D A2->(∀b o,Ka b=some o->s'.heap.get? b=some o)->Ka L=none->(∃o,Ka a=some o)->(∀h:Ap,(∀b o,Ka b=some o->h.get? b=some o)->Wd h)->GS prog w A2.in1 L a g Ka (dA 0 false al 0) (dA 0 false al 0) [L] s'):Qk prog w Wd D al s res s'
noncomputable def vY(prog:Program)(w:Cn)(Wd:Ap->Prop)(D:Nat)(fa:Addr):Prop:=∀(A:Al) (s:Ab) (u:Value) (al:List Nat),wH D A->Wd s.heap->VR s.heap (.str al) u []->
 Ca (Af prog w) A (.call (.ref fa) ⟨[u],[]⟩) (Qk prog w Wd D al s) s
noncomputable def kA(x:Int×List Nat):List PV:=[.int x.1, .str x.2]
noncomputable def rJ(U:Uc)(pa:PE)(is:List Nat)(f:Den):Den:=fun g=>((ev U pa g.σ).bind PV.dh).bind fun al=>wD is f ((dA 0 false al 0).map kA) g
structure qb(X:Ctx)(env:Dv)(K Kg:Addr->Option Obj)(s₀:Ab)(L a:Addr)(gi:Nat)(oa:Obj):Prop where
 up:∀b o,K b=some o->Kg b=some o
 out:∀b o,b≠a->Kg b=some o->K b=some o
 ka:Kg a=some oa
 fa:xW oa=true
 loc:env.locals≠L
 cls:∀x c,X.C.kn.lookup x=some .cell->env.cells.lookup x=some c->c≠L
 g0:s₀.gens[gi]?=none
section
variable{X:Ctx}{tv dv:List Nat}{K K' Kg:Addr->Option Obj}{env:Dv}{A A':Al}{s₀ s aa s' eI:Ab}{g g₁:Sg}{N N':Nat->List Addr}{L a:Addr}{gi:Nat}{oa:Obj}{cW rem:List (Int×List Nat)}{fp:List Addr}{prog:Program}{w:Cn}
theorem XD{o:Obj}{items:Array Value}{n:Nat}{P:Prop}(e:some o=some {cls:= .type "list",data:= .seq items n}) (h:xW o=true):P:=by
 rw[Aa e]at h;exact ft h
theorem qb.inv(B:qb X env K Kg s₀ L a gi oa)(T':aw X tv dv K' env A eI g₁ N' [] s')(G:GS prog w A' L a gi Kg cW rem fp s'):oj X tv dv env N' [] (a::fp)/\(∀b∈a::fp,∃o,s'.heap.get? b=some o):=by
 have kind:∀b∈a::fp,∃o,s'.heap.get? b=some o/\(b=L\/xW o=true):=Internal.fa ⟨oa,G.ka a oa B.ka, .inr B.fa⟩ fun b hb=>(G.rH b hb).2
 refine aJ G.tY.2 fun mL IW=>?_
 have off:∀j,∀b∈N' j,b∉a::fp:=fun j b hb hm=>by
  refine gc (T'.nd j b hb) fun items n e=>?_
  refine aB (kind b hm) fun o e' h=>?_
  exact h.elim (fun h=>wM IW (h▸e)) fun h=>XD (e'.symm.trans e) h
 refine cj ⟨fun hm=>?_,fun z c e1 e2 hm=>?_,fun _ h=>(Aq h).elim,fun j hj b q e=>off j b (e▸Ai ..),fun j hj b j0=>off j b j0⟩ (fun b hb=>(kind b hb).elim fun o e=>⟨o,e.1⟩)
 ·refine aB (kind _ hm) fun o e' h=>?_
  refine qO T'.loc fun m o' _ _ GF hd _=>?_
  refine h.elim B.loc fun h=>?_
  rw[<-Aa (GF.symm.trans e'),xW,hd]at h;exact ft h
 ·refine aB (kind _ hm) fun o e' h=>?_
  refine au (T'.cls z c e1 e2) fun bL _=>?_
  refine dY bL fun v o' e3 e4=>?_
  refine h.elim (B.cls z c e1 e2) fun h=>?_
  rw[<-Aa (e3.symm.trans e'),xW,e4]at h;exact ft h
theorem qb.vZ(B:qb X env K Kg s₀ L a gi oa){h h':Ap}(e:h.get? a=some oa)(k1:∀b o,K b=some o->h'.get? b=some o)(k2:∀o,h.get? a=some o->h'.get? a=some o)(b:Addr)(o:Obj)(q:Kg b=some o):h'.get? b=some o:=by
 by_cases hm:b=a
 ·rw[hm,B.ka]at q
  exact hm▸Aa q▸k2 _ e
 ·exact k1 b o (B.out b o hm q)
theorem IX(x:yZ s s'):∀(i:Nat) x,s.gens[i]?=some x->s'.gens[i]?=some x:=by
 obtain⟨_,_,_,rfl,e⟩:=x;exact e.get
theorem qb.tn(B:qb X env K Kg s₀ L a gi oa)(T':aw X tv dv K env A s₀ g₁ N' [] s')(G:GS prog w A' L a gi Kg cW rem fp s')(t:Tn L gi Kg s' aa)(il:∀x,X.C.kn.lookup x≠some .free)(bV:g₁.β=none):aw X tv dv K env A s₀ g₁ N' [] aa:=
 T'.tn t B.up B.loc B.cls il B.g0 (fun items n e=>by obtain⟨mL,IW⟩:=G.tY.2;exact wM IW e) bV
end
inductive v5(X:Ctx)(tv dv:List Nat)(K Kg:Addr->Option Obj)(env:Dv)(A:Al)(s₀:Ab)(L a:Addr)(gi:Nat)(cW:List (Int×List Nat))(is:List Nat)(fb:Den)(r:Sg×Fl)(n:Nat)(s':Ab):Prop
 |mk (g₁:Sg) (N':Nat->List Addr) (rem:List (Int×List Nat)) (fp:List Addr) (hn:n=rem.length+1) (T:aw X tv dv K env A s₀ g₁ N' [] s') (G:GS X.W.prog X.W.w A.in1 L a gi Kg cW rem fp s') (e:wD is fb (rem.map kA) g₁=some r):v5 X tv dv K Kg env A s₀ L a gi cW is fb r n s'
section
variable{X:Ctx}{tv dv:List Nat}
theorem BW{K':Addr->Option Obj}{env:Dv}{A':Al}{s0 s':Ab}{g₁:Sg}{N':Nat->List Addr}{F':List Addr}(de:∀v b F h,¬X.BK.is v b F h)(T':aw X tv dv K' env A' s0 g₁ N' F' s'):g₁.β=none:=by
 cases q:g₁.β with
 |none=>rfl
 |some p=>exact(de _ _ _ _ (T'.book p.1 p.2 q)).elim
theorem XE{x y:Str}{i j:Nat}{px py pt:Bz}{kt:Nat}{body:List Stmt}{fb:Den}{K Kg:Addr->Option Obj}{env:Dv}{A:Al}{s₀ s':Ab}{L a:Addr}{gi n:Nat}{oa:Obj}{cW:List (Int×List Nat)}{g':Sg}{fl:Fl}{E:Value->Ab->Prop}
  (de:∀v b F h,¬X.BK.is v b F h) (hx:X.C.Γ.lookup x=some i) (hy:X.C.Γ.lookup y=some j) (hb:zO X tv dv tv dv body fb) (il:∀x,X.C.kn.lookup x≠some .free) (cx:∀h,X.W.Wd h->h.NoLimit)
  (B:qb X env K Kg s₀ L a gi oa) (eO:∀h:Ap,(∀b o,K b=some o->h.get? b=some o)->X.W.Wd h) (I:v5 X tv dv K Kg env A s₀ L a gi cW [i,j] fb (g',fl) n s'):
  Am (Af X.W.prog X.W.w) A (Gy (.ref a)) (fun r aa=>(r=none/\i9 X tv dv K env A s₀ g' fl .next aa)\/qU X.W.prog X.W.w A (.Tuple [.Name x px, .Name y py] kt pt) a env E (fun s₂=>
    Am (Af X.W.prog X.W.w) A (Ge body env) (fun f ao=>match f with
     | .next| .cont=>∃m,m<n/\v5 X tv dv K Kg env A s₀ L a gi cW [i,j] fb (g',fl) m ao
     | .brk=>i9 X tv dv K env A s₀ g' fl .next ao
     | .ret v=>i9 X tv dv K env A s₀ g' fl (.ret v) ao) E s₂) r aa) E s':=by
 obtain⟨g₁,N',rem,fp,rfl,T',G,e'⟩:=I
 have oH:A.depth<recursionLimit:=Dn (C6 ..) T'.room.depth
 cases rem with
 |nil=>
  refine zE (XA G T'.room.hh (cx _ T'.pre.wd) oH) fun r ao aq=> .inl ?_
  exact cj aq.1 (Internal.sp e' ⟨rfl,N',[],B.tn T' G aq.2 il (BW de T')⟩)
 |cons z rem=>
  obtain⟨⟨cg,bZ⟩,e3,e4⟩:=wO e'
  refine zE (Xz G T'.room.hh (cx _ T'.pre.wd) oH) fun r ao aq=> .inr ?_
  refine tw aq fun Tp t1 t2 fp' hV IY rK t=>?_
  clear aq
  subst hV
  have aM:=B.tn T' G t il (BW de T')
  refine i12 (.ref Tp) rfl (XB rK.gp ?_)
  refine assign_Tuple_tuple T'.room.hh IY rfl rfl fun aU he=>?_
  have up:Sub ao.heap aU:=fun b o e=>he b o (Bo (Bk e)) e
  have bP:=aM.kg (jA _ aU ao.toks up)
  have oJ:GS X.W.prog X.W.w A.in1 L a gi Kg cW rem fp' {ao with heap:=aU}:=rK.frame (fun b _ o e=>up b o e) (fun b o e=>up b o (rK.ka b o e)) (fun _ _ e=>e)
  refine Et (Di (zE (bP.rebase.ew hx (.int z.1 t1) (eu.nil (own:=true)) (.inl rfl)) fun _ cH dH=>?_))
  refine dX dH fun dt _ v7=>?_
  refine Et (Di (zE (dt.ew hy (.str z.2 t2) (eu.nil (own:=true)) (.inl rfl)) fun _ s₆ et=>?_))
  refine dX et fun dN _ wa=>?_
  refine I4 ?_
  have oK:=(B.inv bP oJ).1
  have kp:∀b∈a::fp',∀o,aU.get? b=some o->s₆.heap.get? b=some o:=fun b hb o e=>
   wa b o (fun q=>oK.loc (q▸hb)) (fun y d e1 e2 q=>oK.cls y d e1 e2 (q▸hb)) (v7 b o (fun q=>oK.loc (q▸hb)) (fun y d e1 e2 q=>oK.cls y d e1 e2 (q▸hb)) e)
  have ga:aU.get? a=some oa:=oJ.ka a oa B.ka
  have IZ:GS X.W.prog X.W.w A.in1 L a gi Kg cW rem fp' s₆:=oJ.frame (fun b hb o e=>kp b (Aj _ hb) o e) (B.vZ ga dN.kept fun o e=>kp a (Ai ..) o e) (IX dN.same)
  refine zE (hb _ env A _ _ _ _ [] s₆ cg bZ (dN.freeze (B.inv dN IZ).1) e3) fun fw wb JA=>?_
  obtain⟨iu,rL,XG,rM⟩:=JA
  have Qm:=Po (fp:=a::fp') dN.kept
  have fz:∀b∈a::fp',∀o,s₆.heap.get? b=some o->wb.heap.get? b=some o:=fun b hb o e=>rM.kept b o (by rw[lr hb];exact e)
  have rN:=(rM.rB (BW de rM)).eH Qm eO
  have rO:=rN.rI bP.same
  have go:wD [i,j] fb (rem.map kA) cg=some (g',fl)->∃m,m<rem.length+1+1/\v5 X tv dv K Kg env A s₀ L a gi cW [i,j] fb (g',fl) m wb:=fun e=>
   ⟨rem.length+1,Bj _,cg,rL,rem,fp',rfl,rO,oJ.frame (fun b hb o e=>fz b (Aj _ hb) o (kp b (Aj _ hb) o e)) (B.vZ ga rN.kept fun o e=>fz a (Ai ..) o (kp a (Ai ..) o e)) (IX rN.same),e⟩
  cases bZ with
  |next=>exact Fw iu▸go e4
  |cont=>exact Fw iu▸go e4
  |brk=>exact Fw iu▸Internal.sp e4 ⟨rfl,rL,[],rO⟩
  |ret p=>
   refine cX iu fun v AP cw r hn=>?_
   clear iu
   subst cw
   exact Internal.sp e4 ⟨⟨v,AP,rfl,r,fun b j0=>rk Qm (hn b j0)⟩,rL,[],rO⟩
theorem zN.l3{x y f:Str}{i j:Nat}{px py pt pf pc pos:Bz}{kt:Nat}{arg:Expr}{body:List Stmt}{pa:PE}{fb:Den}{fa:Addr}(de:∀v b F h,¬X.BK.is v b F h)(l4:vY X.W.prog X.W.w X.W.Wd X.W.D fa)
  (hk:X.C.kn.lookup f=some .globalImplicit) (XH:X.W.mg f=some (.ref fa)) (BX:bad f=false) (XI:∀h,X.W.Wd h->∃o fd,h.get? fa=some o/\o.data= .func fd) (JB:av X.W X.C arg pa) (bY:yT arg=true)
  (hx:X.C.Γ.lookup x=some i) (hy:X.C.Γ.lookup y=some j) (hi:(i∉tv/\i∉dv)/\(j∉tv/\j∉dv)) (hb:zO X tv dv tv dv body fb) (il:∀x,X.C.kn.lookup x≠some .free) (cx:∀h,X.W.Wd h->h.NoLimit):
  zN X tv dv (.For (.Tuple [.Name x px, .Name y py] kt pt) (.Call (.Name f pf) [arg] [] pc) body [] pos) (rJ X.W.U pa [i,j] fb):=fun K env A E s₀ g N F s g' fl T e=>by
 have T:=T.rB (BW de T)
 refine oB e fun al e1 e2=>?_
 refine oB e1 fun p e1 ep=>?_
 obtain rfl:=PV.bJ ep
 refine wpAny_For ?_ (fun x=>wU rfl env x)
 refine Eo rfl ?_
 refine A6 T.kind (by unfold Be;refine af T.names ?_;exact hk) (Dh (mg:=X.W.mg) (T.gl▸X.W.g T.pre.wd) XH ?_) (wE BX)
 refine dY (XI _ T.pre.wd) fun o fd ho gj=>?_
 refine Jx gj ?_ (zF bY [] env)
 refine af (zF bY [] env) ?_
 refine Ba (zE (JB env A E s g.σ _ T.pre e1) fun u aa ah=>B7 ?_)
 obtain⟨k₁,ns,aA,_⟩:=ah
 have aW:=T.kg k₁
 refine cj (zZ k₁ _ _ ho) (F8 (E4 (l4 A aa u al aW.room aW.pre.wd (aA.bS rfl)) fun res s₂ ai=>?_))
 obtain⟨a,L,gi,rfl,k₂,ha,hL,Ql,HU,⟨oa,nu,dz⟩,JC,XJ⟩:=ai
 refine wpAny_pyIter_gen JC ?_
 have ax:=aW.kg k₂
 have rj:K a=none:=rk aW.kept ha
 have B:qb X env K (oo K [a] s₂.heap) s₀ L a gi oa:=
  {up:=fun b o e=>by rw[wP fun hm=>nn (rj.symm.trans (Ae.mp hm▸e))];exact e
   out:=fun b o hb e=>by rw[wP fun hm=>hb (Ae.mp hm)]at e;exact e
   ka:=by refine af (lr (B0 a)) ?_;exact nu
   fa:=dz
   loc:=fun q=>by obtain⟨m,o,_,_,e,_⟩:=aW.loc;exact nn (hL.symm.trans (q▸e))
   cls:=fun x c h1 h2 q=>by obtain⟨⟨v,o,e,_⟩,_⟩:=aW.cls x c h1 h2;exact nn (hL.symm.trans (q▸e))
   g0:=by
    cases q:s₀.gens[gi]? with
    |none=>rfl
    |some z=>exact nn (HU.symm.trans (IX aW.same gi z q))}
 refine HL (v5 X tv dv K (oo K [a] s₂.heap) env A s₀ L a gi (dA 0 false al 0) [i,j] fb (g',fl)) (fun n s' I=>XE de hx hy hb il cx B T.eO I) ((dA 0 false al 0).length+1)
  ⟨g,N,_,[L],rfl,ax,XJ A _ aW.room (fun b o e=>?_) ?_ ⟨oa,B.ka⟩ (fun h hk=>T.eO h fun b o e=>hk b o (B.up b o e)),e2⟩
 ·by_cases hm:b=a
  ·rw[hm,B.ka]at e;exact hm▸e▸nu
  ·exact ax.kept b o (B.out b o hm e)
 ·rw[wP fun hm=>Ql (Ae.mp hm).symm];exact rk aW.kept hL
end
theorem Qn{D:Nat}{A:Al}{body:List Stmt}{env:Dv}(h:wH (D+1) A):wH D (A.in1.over (.func body env) []):=
 ⟨h.hh,by have:=h.depth;refine(?_:A.depth+Ll []+1+D<_);simp[Ll];exact xA,by
  have:=h.units
  refine(?_:A.units+1+0+3+8*D+60<cLine)
  lia⟩
theorem XK{D:Nat}{A:Al}{body lb:List Stmt}{env:Dv}{t:Expr}{I:Value}{k:D3->Kf Fin}{p:Bz}(h:wH (D+1) A):wH D (A.in1.over (.forLoop t I lb [] env) [.ret k none false [] (.func body env) p []]):=
 ⟨h.hh,by have:=h.depth;refine(?_:A.depth+Ll [(.func body env,p)]+0+D<_);have e:Ll [(Code.func body env,p)]=1:=rfl;rw[e];lia,by
  have:=h.units
  refine(?_:A.units+1+3+0+8*D+60<cLine)
  lia⟩
theorem XM{X:Ctx}{name:Str}{params:Arguments}{scope:Scope}{fa:Addr}{P:EP}
  (hC:X.C.kn=scope.names) (gV:GX X.C) (XN:X.C.n=4) (aT:scope.kind= .function) (i5:scope.isCoroutine=false) (gG:scope.isGenerator=true) (iS:∀y∈scope.names,y.2≠ .cell) (il:∀y∈scope.names,y.2≠ .free)
  (Qo:scope.names.lookup P.xa=some .local)
  (dz:∀h,X.W.Wd h->lu h fa name params (oE P) scope)
  (cx:∀h,X.W.Wd h->h.NoLimit)
  (bo:∀pm cd doc u,E6 (Fx name params (oE P) scope pm cd doc) ⟨[u],[]⟩=pure [(P.xa,u)])
  (hE:∀(L:Addr) (Ka:Addr->Option Obj) (env:Dv),env.locals=L->env.scope=scope->Ka L=none->(∀h:Ap,(∀b o,Ka b=some o->h.get? b=some o)->X.W.Wd h)->Qc X L Ka env P):
  vY X.W.prog X.W.w X.W.Wd (X.W.D+1) fa:=by
 intro A s u al aN eJ hu
 obtain⟨o,pm,cd,doc,ho,dF,gF⟩:=dz _ eJ
 refine codeAny_call_generator (by have:=aN.depth;exact zW) ho dF i5 gG rfl gF ?_
 rw[bo pm cd doc u]
 refine Ak (E5 (binds:=[(P.xa,u)]) iS (fun y hy=>by rw[Ae.mp hy];exact Qo) (fun ah bY iB=>?_) aT)
 have up:Sub s.heap ah:=fun b o e=>iB.extBut b o (Bo (Bk e)) (Ag _ e)
 refine cj ((cx _ eJ).keeps up) ?_
 generalize hL:s.heap.objs.size=L at*
 have rb:s.heap.get? L=none:=hL▸yP 0
 have bf:(envOf name scope L fa cd).locals=L:=rfl
 have eB:(envOf name scope L fa cd).scope=scope:=rfl
 have qR:(envOf name scope L fa cd).globals=mainGlobals:=rfl
 have lR:(envOf name scope L fa cd).builtins=builtinsNs:=rfl
 have JD:L<ah.objs.size:=bY.lt
 have n0:s.heap.get? ah.objs.size=none:=by
  cases e:s.heap.get? ah.objs.size with
  |none=>rfl
  |some o=>exact absurd (Bk (up _ _ e)) (Jd _)
 have JE:∀(o':Obj),o'.isFreed=false->(ah.push o').get? ah.objs.size=some o':=fun o' h=>Av _ h
 refine⟨ah.objs.size,L,s.gens.size,rfl,?_,n0,rb,(Bo JD).symm,by simp,?_,?_,?_⟩
 ·refine⟨_,_,_,rfl,fun b o e=>Ag _ (up b o e),fun i x hx=>?_,fun hb=>AllBare.push hb rfl⟩
  have hi:=(Gg.mp hx).1
  rw[Array.getElem?_push_lt hi]
  exact(Gg.mp hx).2▸rfl
 ·exact i12 _ (JE _ rfl) rfl
 ·exact Oc _ _ _ (JE _ rfl) rfl rfl rfl
 ·intro A2 Ka BY iy rP JF wc
  refine⟨?_,JF,⟨[],rfl⟩,⟨B0 L,?_⟩,fun b hb=>?_,iy,⟨.fresh (.func (oE P) (envOf name scope L fa cd)),?_,rfl,fun bI k1 k2=>⟨rfl,?_⟩⟩⟩
  ·exact Oc _ _ _ (JE _ rfl) rfl rfl rfl
  ·exact cn _ (bY.keeps fun b o e=>Ag _ e)
  ·rw[Ae.mp hb]
   refine qN bY fun o' _ _ e' _=>?_
   exact⟨rP,o',Ag _ e', .inl rfl⟩
  ·refine(?_:(s.gens.push _)[s.gens.size]?=_)
   simp
   rfl
  ·have H:=hE L Ka (envOf name scope L fa cd) bf eB rP wc
   refine Xx (A:=A2.in1) (Ka:=Ka) (s₀:=bI) (s:=bI) (N:=fun _=> []) (F:=[]) H BY.hh (Qn BY) (fun eA k p=>XK BY) ?_ k2
   have qc:bI.heap.Ns L _:=(bY.keeps fun b o e=>Ag _ e).at' fun o e=>k1 L (B0 L) o e
   exact
    {gV:=gV
     kind:=by rw[eB];exact aT
     names:=by rw[eB];exact hC.symm
     gl:=qR
     bl:=lR
     room:=Qn BY
     eT:=fun x k e1 e2=>by
      rw[hC]at e1
      rcases e2 with rfl|rfl
      ·exact absurd rfl (iS _ (zS e1))
      ·exact absurd rfl (il _ (zS e1))
     fj:=fun x y c e1 _=>by
      exfalso
      exact nn e1
     len:=by rw[XN];rfl
     loc:=⟨_,by rw[bf];exact qc⟩
     dJ:=by rw[bf];exact xU rfl rfl
     cls:=fun x c e1 _=>by
      rw[hC]at e1
      exact absurd rfl (iS _ (zS e1))
     rd:=fun x i p e1 e2=>by
      have hi:i=0/\p= .str al:=by
       match i,e2 with
       |0,e2=>cases e2;exact⟨rfl,rfl⟩
       |1,e2=>simp at e2
       |2,e2=>simp at e2
       |3,e2=>simp at e2
       |_+4,e2=>simp at e2
      refine au hi fun aG aP=>?_
      clear hi
      subst aG
      subst aP
      have hx:x=P.xa:=gV.inj x P.xa 0 e1 H.hx
      subst hx
      refine⟨u, .inl ⟨by unfold Be;rw[eB];exact Qo,_,by rw[bf];exact qc,by simp⟩,BN hu rfl⟩
     nd:=fun j a h=>nomatch h
     bO:=fun i h=>nomatch h
     deep:=fun i h=>nomatch h
     kept:=PZ k2
     eO:=P7 rP wc
     same:= .refl _
     book:=fun v b e=>by exact nn e
     foot:=fun a h=>nomatch h}
end Internal
namespace Internal
open PySem PySem.W PySem.Calls PyProof.Rows Builtin Builtin.ObjectAttr
theorem Qp:Slot "function" "__setattr__" "object.__setattr__" := .of (owner:= "object") (n:= "__setattr__") (by rw[Bh,A1];kernel_rfl) (by decide+kernel) (by decide+kernel) (by decide+kernel)
  (by first|exact .inl (by decide+kernel)|exact .inr (by decide+kernel)) (by rw[Fh];kernel_rfl)
theorem XO(a b c:Value):L6 "object.__setattr__" ⟨[a,b,c],[]⟩:=by kernel_rfl
theorem XP:typeHasDict (.type "function")=true:=by decide+kernel
theorem XQ:finalisedInACycleAlone "function" =false:=by decide+kernel
section
variable{prog:Program}{w:Cn}{A:Al}{E:Value->Ab->Prop}{s:Ab}{name:Str}{v:Value}
set_option maxHeartbeats 1000000 in
theorem XR{f:Addr}{fd:FuncData}{o:Obj}{Q:Unit->Ab->Prop}(ho:s.heap.get? f=some o)(hc:o.cls= .type "function") (BZ:o.dict=none) (l5:o.data= .func fd) (hB:Cq (.type "function") name=pure none)
  (hq:∀h' tk,(∀b ob,b≠f->s.heap.get? b=some ob->h'.get? b=some ob)->h'.get? f=some {o with dict:=some s.heap.objs.size}->h'.Ns1 s.heap.objs.size (fun y=>if y=name then some v else none)->Q () {s with heap:=h',toks:=tk}):
  Am (Af prog w) A (setAttr (.ref f) name v) Q E s:=by
 obtain⟨h,g,d,t,os⟩:=s
 have hT:(⟨h,g,d,t+1,os⟩:Ab).TypeIs (.ref f) "function" :=⟨o,ho,hc⟩
 refine Ac (wpAny_mkText ?_)
 refine Ac (G5 hT Qp (Fg Qp hT F.entry_object_sa ?_ (XO _ _ _)))
 have hd0:∀T:String,T= "function" ->Cq (.type T) name=pure none:=fun T h=>h▸hB
 unfold Builtin.«object.__setattr__»
 repeat (first|rewrite [refuse_eq]|wp_step)
 have l6:h.get? f=some o:=ho
 have rA:f≠h.objs.size:=Bo (Bk l6)
 have qd:(h.push {cls:= .type "dict",data:= .dict #[]}).get? f=some o:=Ag _ l6
 rw[hc]
 rw[BZ]
 (refine iP (by rw[XP];decide) ?_;rw[l5])
 refine Ac (wpAny_alloc' ?_)
 refine Ac (wpAny_update' qd ?_)
 unfold dictMade
 refine iP (by rw[XQ];decide) ?_
 refine Ac (Ak (Ak ?_))
 have II:((h.push {cls:= .type "dict",data:= .dict #[]}).update f fun o=>{cls:=o.cls,dict:=some h.objs.size,data:=o.data,slots:=o.slots}).get? h.objs.size
   =some {cls:= .type "dict",data:= .dict #[]}:=(Ky _ _ _ _ rA.symm).trans (Heap.get?_push_at rfl rfl)
 have ia:((h.push {cls:= .type "dict",data:= .dict #[]}).update f fun o=>{cls:=o.cls,dict:=some h.objs.size,data:=o.data,slots:=o.slots}).Ns h.objs.size (fun _=>none):=
  ⟨_, #[],_,II,rfl,fun e he=>absurd he (by simp),fun _=>rfl⟩
 refine(?_:Am _ _ (storeInDict h.objs.size (.str name t) name v) _ _ _)
 unfold storeInDict newKeyGuard
 refine Ac (Ak (Ac (wpAny_nsSet1 (Heap.Ns1.of_empty ia) fun h' pS hs=>?_)))
 refine nO (pS.count (G6 name v Within.nil)) fun oD esD epD XS XT XU=>?_
 refine Ac (wpAny_lookBehind XS (by rw[XT];exact pastItsLine_dict (Ad XU (by rw[Cf,F0,Bm];exact Eg _ _))) ?_)
 wp_walk
 have XW:h'.get? f=some {cls:=o.cls,dict:=some h.objs.size,data:=o.data,slots:=o.slots}:=by
  refine(hs.2 f rA).trans (J9 _ qd ?_)
  have k9:=(Heap.get?_some_iff.mp l6).2
  obtain⟨oc,od,CA,osl⟩:=o
  cases CA<;>first|rfl|exact k9
 exact i12 .none rfl (Ak (hq h' _ (fun b ob hb e=>(hs.2 b (Bo (Bk e))).trans ((Ky _ _ _ _ hb).trans (Ag _ e))) XW pS))
end
theorem CB:Slot "function" "__getattribute__" "object.__getattribute__" := .of (owner:= "object") (n:= "__getattribute__") (by rw[Bh,A1];kernel_rfl) (by decide+kernel) (by decide+kernel) (by decide+kernel)
  (by first|exact .inl (by decide+kernel)|exact .inr (by decide+kernel)) (by rw[Fh];kernel_rfl)
theorem Qq:Cq (.type "function") "__getattr__" =pure none:=by rw[Bh,A1];kernel_rfl
theorem XX:Jn table "object.__getattribute__" =some Builtin.«object.__getattribute__» :=Fi (by kernel_rfl)
theorem XY(a b:Value):L6 "object.__getattribute__" ⟨[a,b],[]⟩:=by kernel_rfl
section
variable{prog:Program}{w:Cn}{A:Al}{E:Value->Ab->Prop}{s:Ab}{name:Str}{v:Value}
theorem XZ{f d:Addr}{fd:FuncData}{o:Obj}{m:Str->Option Value}{pl:Kf Bool}{Q:Value×List Value->Ab->Prop}(ho:s.heap.get? f=some o)(hc:o.cls= .type "function") (BZ:o.dict=some d) (l5:o.data= .func fd) (hB:Cq (.type "function") name=pure none)
  (bY:s.heap.Ns d m) (hv:m name=some v) (hh:handedOut v=pure v) (hq:Q (v,[]) {s with toks:=s.toks+1}):
  Am (Af prog w) A (getMethod (.ref f) name pl) Q E s:=by
 obtain⟨h,g,d',t,os⟩:=s
 have hT:∀t',(⟨h,g,d',t',os⟩:Ab).TypeIs (.ref f) "function" :=fun t'=>⟨o,ho,hc⟩
 have f1:=hT t
 have f2:=hT (t+1)
 have f3:=CB.lookup
 have f4:=Qq
 have JG:=F.canon_object_ga
 refine Ac (D1 f1 CB.lookup ?_)
 refine iP (by refine af JG ?_;decide) ?_
 refine Ac (D1 f1 Qq ?_)
 refine iP (by decide) ?_
 refine Ac (D1 f1 hB ?_)
 refine Ac (m:=J2 (.ref f) name) ?_
 refine Ac (wpAny_mkText ?_)
 refine D9 (Ac (wpAny_typeOf f2 (Ac (B3 f3 ?_))))
 refine iP (by decide) ?_
 refine Ac (B3 (show hookBefore (.type "function")=pure none from rfl) ?_)
 unfold callGetattribute boundAndCalled
 rw[if_neg (by decide)]
 refine Ac (Jf (D9 ?_))
 refine af (CB.bind ..) ?_
 refine Ac (Ak (Fg CB f2 XX ?_ (XY _ _)))
 unfold Builtin.«object.__getattribute__»
 have l6:h.get? f=some o:=ho
 have JH:h.Ns d m:=bY
 refine Ac (B3 (show slotArgs "__getattribute__" 1 ⟨.ref f::[.str name t],[]⟩=pure (.ref f,[.str name t])from rfl) ?_)
 refine Ac (B3 (show attrName (.str name t)=pure name from rfl) ?_)
 refine Ac (wpAny_typeOf f2 ?_)
 refine Ac ?_
 refine Ac (B3 hB ?_)
 refine Ac (B3 (show getOf none=pure none from rfl) ?_)
 refine Ac (B3 (show dataDescriptor? none none=pure none from rfl) ?_)
 unfold ownThenClass inOwnDict Iz
 refine Ac (Ac (Ac (Ef l6 ?_)))
 refine af l5 ?_
 refine Ac (Ef l6 ?_)
 refine af hc ?_
 refine af BZ ?_
 refine Ak ?_
 refine wpAny_nsGet JH ?_
 refine af hv ?_
 refine Ac (G1 (Ak ?_))
 refine Ak ⟨v,rfl,?_⟩
 refine(?_:Am _ _ (handedOut v) _ _ _)
 refine af hh ?_
 exact Ak (Ak hq)
end
theorem Qr:Slot "function" "__get__" "function.__get__" := .of (owner:= "function") (n:= "__get__") (by rw[Bh,A1];kernel_rfl) (by decide+kernel) (by decide+kernel) (by decide+kernel)
  (by first|exact .inl (by decide+kernel)|exact .inr (by decide+kernel)) (by rw[Fh];kernel_rfl)
theorem X1:Cq (.type "function") "__set__" =pure none:=by rw[Bh,A1];kernel_rfl
theorem X2:Cq (.type "function") "__delete__" =pure none:=by rw[Bh,A1];kernel_rfl
theorem X3:Jn table "function.__get__" =some Builtin.«function.__get__» :=Fi (by kernel_rfl)
theorem X4(a b c:Value):L6 "function.__get__" ⟨[a,b,c],[]⟩:=by kernel_rfl
section
variable{prog:Program}{w:Cn}{A:Al}{E:Value->Ab->Prop}{s:Ab}{name:Str}{v:Value}
variable{nm q:Str}{C N x:Addr}{bs:List Value}{sn:List Str}{sub:List Value}{ab:Bool}{col:Option Bool}{dd:Option Addr}{k0 k1 k2 k3 k5:Option Value}{newId:String}
 {mN mA:Str->Option Value}
noncomputable abbrev ny(f x:Addr):Obj:={cls:= .type "method",data:= .fields #[.ref f, .ref x]}
theorem X5{f:Addr}{of:Obj}{Q:Value->Ab->Prop}{expr:Bool}
  (hC:s.heap.get? C=some (excClassObj nm q C N bs [.type "object"] true sn sub ab col dd k0 k1 k2 k3 k5 newId)) (hn:s.heap.Ns N mN) (X6:mN "__getattribute__" =none) (X7:mN "__getattr__" =none) (hf:mN name=some (.ref f)) (X8:s.heap.get? f=some of) (nz:of.cls= .type "function")
  {y:Option Value} (hB:Cq (.type "object") name=pure y) (I:s.heap.Inst x C mA) (X9:mA name=none) (oN:∃z,mA z≠none) (iS:(["__module__", "__name__", "__qualname__", "__doc__", "__annotations__"]:List Str).contains name=false)
  (hq:Q (.ref s.heap.objs.size) {s with heap:=s.heap.push (ny f x),toks:=s.toks+1}):
  Am (Af prog w) A (J2 (.ref x) name expr) Q E s:=by
 obtain⟨h,g,d,t,os⟩:=s
 refine jS (id I) fun o hx hc JI hd=>?_
 have CC:(⟨h,g,d,t+1,os⟩:Ab).TypeIs (.ref f) "function" :=⟨of,X8,nz⟩
 unfold J2 getAttrBy
 repeat (first|(with_reducible refine Ef hx ?_;refine af hc ?_)|(with_reducible refine H7 hC hn Lv F.lk_object_ga ?_;refine af X6 ?_)|wp_step)
 refine(?_:Am _ _ ((runValue (.builtin "proto.getattr_hooked" ⟨[.ref x, .str name t],[]⟩)).onRaise (noteIf true (.ref x) (.str name t))) _ _ _)
 refine K9 (wpAny_runValue (codeAny_builtin F.plainObj_entry_getattr_hooked ?_))
 unfold Builtin.«proto.getattr_hooked»
 have Qs:h.get? x=some o:=hx
 refine Ac (B3 (show attrName (.str name t)=pure name from rfl) ?_)
 refine Ac ?_
 refine(?_:Am _ _ (loadPart x (some headPart)>>=fun o=>pure o.cls) _ _ _)
 refine Ac (Ef Qs (Ak ?_))
 refine af hc ?_
 refine Ac (Ac (H7 hC hn Lv hB ?_))
 refine af hf ?_
 refine Ac (D1 CC Qr.lookup ?_)
 unfold dataDescriptor? takesStores
 refine Ac (Ac (Ac (D1 CC X1 ?_)))
 refine iP (by decide) ?_
 refine Ac (D1 CC X2 (Ak ?_))
 refine iP (by decide) ?_
 refine Ak ?_
 unfold ownThenClass inOwnDict Iz
 refine Ac (Ac (Ac (Ef Qs ?_)))
 split
 ·rename_i c gF
  exact absurd gF (JI c)
 repeat (first|(with_reducible refine Ef hx ?_;refine af hc ?_)|with_reducible refine Ef hC ?_|wp_step)
 rcases hd with⟨BZ,hz⟩|⟨dx,jc,_,bY⟩
 ·refine aJ oN fun z oN=>?_
  exact absurd (hz z) oN
 refine af jc ?_
 refine Ak ?_
 refine wpAny_nsGet bY.ns ?_
 refine af X9 ?_
 unfold copiedAttributeGuard
 dsimp only
 rw[if_neg (by rw[iS];decide)]
 refine Ac (Ak ?_)
 refine Ac (G1 (Ak ?_))
 refine Ac (H7 hC hn Lv F.lk_object_getattr ?_)
 refine af X7 ?_
 unfold bindWithHook bindTo
 refine Ac (D9 (Fg Qr CC X3 ?_ (X4 _ _ _)))
 unfold Builtin.«function.__get__»
 repeat k_node
 refine i12 _ rfl (Ak ?_)
 refine(?_:Am _ _ (handedOut _) _ _ _)
 exact Ak hq
end
end Internal
namespace Internal
open PySem PySem.W PySem.Calls PyProof.Rows Builtin
theorem Ya{M:L8}{A:Al}{E:Value->Ab->Prop}{s:Ab}{f:Value}{pos:List Value}{Q:Value->Ab->Prop}
  (hc:Ca M A (.call f ⟨pos,[]⟩) (fun r s'=>match r with| .ok (.ret v)=>Q v s'| .ok _=>False| .error e=>E e s') s):
  Am M A (callBorrowed f pos) Q E s:=fun Γ p rn=>by
 have:=hc _ p rfl (rn.enter (.call f ⟨pos,[]⟩) none p (by intro x;exact nn x))
 refine Eq.mp ?_ this
 refine(?_:_=wpCode M _ _ _ _)
 congr 1
 funext r s'
 cases r with
 |error e=>rfl
 |ok f=>cases f<;>rfl
theorem Yb{prog:Program}{w:Cn}{A:Al}{m f:Addr}{x:Addr}{a:Args}{R:D3->Ab->Prop}{s:Ab}(hb:s.heap.get? m=some (ny f x))
  (hq:Ca (Af prog w) A (.call (.ref f) {a with pos:= .ref x::a.pos}) R s):Ca (Af prog w) A (.call (.ref m) a) R s:=by
 refine codeAny_of_tree ?_
 refine(?_:Am _ A.in1 (callAny (.ref m) a) _ _ _)
 refine Ac (Lk hb ?_)
 exact Ak ⟨rfl,hq⟩
noncomputable def CD(h:Ap)(it m:Addr):Prop:=∃o t,h.get? it=some o/\o.cls= .type "callable_iterator" /\o.data= .fields #[.ref m, .str ⟨#[]⟩ t, .bool false]
theorem JJ:Slot "callable_iterator" "__next__" "callable_iterator.__next__" := .of (owner:= "callable_iterator") (n:= "__next__") (by rw[Bh,A1];kernel_rfl) (by decide+kernel) (by decide+kernel) (by decide+kernel)
  (by first|exact .inl (by decide+kernel)|exact .inr (by decide+kernel)) (by rw[Fh];kernel_rfl)
theorem Yc:Jn table "callable_iterator.__next__" =some Builtin.«callable_iterator.__next__» :=Fi (by kernel_rfl)
theorem Yd(a:Value):L6 "callable_iterator.__next__" ⟨[a],[]⟩:=by kernel_rfl
theorem Qt:Slot "callable_iterator" "__iter__" "callable_iterator.__iter__" := .of (owner:= "callable_iterator") (n:= "__iter__") (by rw[Bh,A1];kernel_rfl) (by decide+kernel) (by decide+kernel) (by decide+kernel)
  (by first|exact .inl (by decide+kernel)|exact .inr (by decide+kernel)) (by rw[Fh];kernel_rfl)
theorem Ye:Jn table "callable_iterator.__iter__" =some Builtin.«dict_keyiterator.__iter__» :=
 entryFor_alias (id':= "dict_keyiterator.__iter__") (by kernel_rfl) rfl (by decide+kernel) (by kernel_rfl)
theorem Yf(a:Value):L6 "callable_iterator.__iter__" ⟨[a],[]⟩:=by kernel_rfl
theorem Yg:Slot "method" "__call__" "method.__call__" := .of (owner:= "method") (n:= "__call__") (by rw[Bh,A1];kernel_rfl) (by decide+kernel) (by decide+kernel) (by decide+kernel)
  (by first|exact .inl (by decide+kernel)|exact .inr (by decide+kernel)) (by rw[Fh];kernel_rfl)
theorem Yh:builtinKind "iter" =none:=by decide+kernel
theorem Yi:plainId "iter" =true:=by decide+kernel
theorem Yj:Jn table "iter" =some Builtin.«iter» :=Fi (by kernel_rfl)
theorem Yk(a b:Value):L6 "iter" ⟨[a,b],[]⟩:=by kernel_rfl
section
variable{prog:Program}{w:Cn}{A:Al}{E:Value->Ab->Prop}{s:Ab}
theorem CD.typeIs{it m:Addr}(h:CD s.heap it m):s.TypeIs (.ref it) "callable_iterator" :=by obtain⟨o,t,h1,h2,_⟩:=h;exact⟨o,h1,h2⟩
theorem Yl{it m:Addr}{Q:Value->Ab->Prop}(hit:CD s.heap it m)(h:Q (.ref it) s):Am (Af prog w) A (Hq (.ref it)) Q E s:=by
 refine wpAny_pyIter_slot hit.typeIs Qt (Fg Qt hit.typeIs Ye ?_ (Yf _))
 refine(?_:Am _ _ (ret (.ref it)) _ _ s)
 exact Ak ⟨_,rfl, "callable_iterator",_,hit.typeIs,JJ.lookup,h⟩
theorem Ym{m f x:Addr}{t:Jr}{Q:Value->Ab->Prop}(hm:s.heap.get? m=some (ny f x))
  (hq:Q (.ref s.heap.objs.size) {s with heap:=s.heap.push {cls:= .type "callable_iterator",data:= .fields #[.ref m, .str ⟨#[]⟩ t, .bool false]} }):
  Am (Af prog w) A (call (.builtin "iter") [.ref m, .str ⟨#[]⟩ t]) Q E s:=by
 have hT:s.TypeIs (.ref m) "method" :=⟨_,hm,rfl⟩
 refine call_function_entry Yh Yi Yj (Yk _ _) ?_
 unfold Builtin.«iter»
 refine Ac (B3 (a:=[.ref m, .str ⟨#[]⟩ t]) (by first|rfl|kernel_rfl) ?_)
 refine Ac (D1 hT Yg.lookup ?_)
 refine iP (by decide) ?_
 refine Ac (G1 (Ac (Cb (Ak ⟨_,rfl,hq⟩))))
theorem JK{it:Addr}{o:Obj}{vs:Array Value}{i:Nat}{v:Value}{Q:Unit->Ab->Prop}(ho:s.heap.get? it=some o)(hd:o.data= .fields vs)(hi:i<vs.size)
  (hq:∀h' o' tU,Co it s.heap h'->h'.get? it=some o'->o'.data= .fields tU->tU.size=vs.size->Q () {s with heap:=h'}):Am (Af prog w) A (setField (.ref it) i v) Q E s:=
 wpAny_setField ho hd hi (hq _ _ _ (Fc ..).extBut (J9 _ ho (Obj.isFreed_of_fields (Obj.data_mapFields hd _))) (Obj.data_mapFields hd _) (by simp))
theorem Yn{it m f x:Addr}{of:Obj}{fd:FuncData}{Q:Option Value->Ab->Prop}(hh:A.handled=none)(hit:CD s.heap it m)(hm:s.heap.get? m=some (ny f x))(hf:s.heap.get? f=some of)(gj:of.data= .func fd)
  (l7:Ca (Af prog w) A.in1 (.call (.ref f) ⟨[.ref x],[]⟩) (fun res s'=>∃(c:List Nat) (t:Jr),res= .ok (.ret (.str ⟨c.toArray⟩ t))/\(∀o,s.heap.get? it=some o->s'.heap.get? it=some o)/\s'.heap.get? m=some (ny f x)/\(∃qe rQ,s'.heap.get? f=some qe/\qe.data= .func rQ)/\
   (c=[]->∀h',Co it s'.heap h'->Q none {s' with heap:=h'})/\(c≠ []->Q (some (.str ⟨c.toArray⟩ t)) s')) s):
  Am (Af prog w) A (Gy (.ref it)) Q E s:=by
 refine cX (id hit) fun o t0 ho hc hd=>?_
 refine Ac (Jf (G5 (name:=Str.ofString "__next__") hit.typeIs JJ
  (Fg JJ hit.typeIs Yc ?_ (Yd _))))
 unfold Builtin.«callable_iterator.__next__»
 refine Ac (B3 (show slotArgs "__next__" 0 ⟨.ref it::[],[]⟩=pure (.ref it,[])from rfl) ?_)
 refine Ac (Jb ho hd (x:= .bool false) rfl ?_)
 refine iP (by decide) ?_
 refine Ac (Jb ho hd (x:= .ref m) rfl ?_)
 have bor:∀{A':Al} {E':Value->Ab->Prop} {s':Ab} {Q':Bool->Ab->Prop},s'.heap.get? m=some (ny f x)->(∃qe rQ,s'.heap.get? f=some qe/\qe.data= .func rQ)->Q' true s'->Am (Af prog w) A' (borrowsExactly (.ref m)) Q' E' s':=fun {A' E' s' Q'} h1 h2 hq=>by
  refine dY h2 fun qe rQ h2 h3=>?_
  refine Ac (Lk h1 ?_)
  dsimp only
  refine tE (by decide) ?_
  refine(?_:Am _ _ (load f>>=_) _ _ _)
  refine Ac (Lk h2 ?_)
  refine af h3 ?_
  exact Ak hq
 refine Ac (Jf ?_)
 refine Ac (bor hm ⟨of,fd,hf,gj⟩ ?_)
 refine tE rfl ?_
 refine Ya ?_
 refine Yb hm (E4 l7 fun res s' h=>?_)
 refine uQ h fun c t cw k1 k2 k3 q1 q2=>?_
 clear h
 subst cw
 have l6:=k1 o ho
 refine Ac (Jb l6 hd (x:= .bool false) rfl ?_)
 refine iP (by decide) ?_
 refine Ac (Jb l6 hd (x:= .str ⟨#[]⟩ t0) rfl ?_)
 refine Ac (D9 (eqBool_str ?_))
 by_cases JL:c=[]
 ·subst JL
  refine iP (by decide) ?_
  refine Ac (G1 (Ac ?_))
  refine(?_:Am _ _ (field (.ref it) 0>>=fun v=>slotLetsGo "callable_iterator.__next__" v _>>=fun _=>setField (.ref it) 0 .none>>=fun _=>setField (.ref it) 1 .none>>=fun _=>setField (.ref it) 2 (.bool true)) _ _ _)
  refine Ac (Jb l6 hd (x:= .ref m) rfl (Ac ?_))
  unfold slotLetsGo
  refine Ac (bor k2 k3 ?_)
  refine tE rfl ?_
  refine Ak ?_
  refine Ac (JK l6 hd (by simp) fun ah jd Yo JM g₁ JN we=>?_)
  refine Ac (JK (s:={s' with heap:=ah}) g₁ JN (by refine af we ?_;simp) fun ai Yp JO oC cg JP JQ=>?_)
  refine JK (s:={s' with heap:=ai}) cg JP (by(refine af JQ ?_;refine af we ?_);simp) fun aq Yq JR JS Yr Ys Yt=>?_
  have x:Co it s'.heap aq:=fun b ob hb e=>JS b ob hb (oC b ob hb (JM b ob hb e))
  refine(?_:Am _ _ (newExc (.type "StopIteration") []>>=_) _ _ _)
  refine Ac ?_
  simp only[newExc,newTuple]
  refine Ac (Cb ?_ (by size_fits))
  refine Ac (m:=Iw _ _) (B3 (a:=Hw) (by first|rfl|(simp only[Iw];rfl)) ?_)
  refine Cb ?_ (by size_fits)
  simp only[raiseNew]
  refine Ac (wpAny_handled ?_)
  refine af (show A.in1.handled=none from hh) ?_
  refine Ac (Ak (wpAny_throw ?_))
  refine Ac (wpAny_isInstance (T:= "StopIteration") (b:=true) ⟨_,Av _ rfl,rfl⟩ isSubtype_stop ?_)
  exact Ak (q1 rfl _ ((x.push _).push _))
 ·have cU:((⟨#[]⟩:Str)==⟨c.toArray⟩)=false:=by
   cases e:((⟨#[]⟩:Str)==⟨c.toArray⟩)with
   |false=>rfl
   |true=>
    have:=eq_of_beq e
    injection this with this
    exact absurd (by exact congrArg Array.toList this.symm) JL
  rw[cU,if_pos (by decide)]
  exact Ak ⟨_,rfl,Ak (q2 JL)⟩
end
end Internal
namespace Internal
open PySem PySem.W PySem.Calls PyProof.Rows
theorem yZ.toks{s₀ s:Ab}(x:yZ s₀ s)(h:Ap)(t:Nat):yZ s₀ {s with heap:=h,toks:=t}:=x.heap h t
structure Qu(s₂:Ab)(D L:Addr)(fp G F wr:List Addr):Prop where
 newD:s₂.heap.get? D=none
 cu:s₂.heap.get? L=none
 DL:D≠L
 Df:D∉fp
 Lf:L∉fp
 DG:D∉G
 LG:L∉G
 DF:D∉F
 LF:L∉F
 Dw:D∉wr
 Lw:L∉wr
inductive CE(s₂:Ab)(D L:Addr)(F wr:List Addr)(St J:Nat->Ap->Prop)(its:List (List PV))(ps:List PV)(n:Nat)(s':Ab):Prop
 |mk (i:Nat) (ys:List Value) (m':Str->Option Value) (hn:n+i=its.length+1) (hi:i<=its.length) (sm:yZ s₂ s') (k:∀b o,b∉F->b∉wr->s₂.heap.get? b=some o->s'.heap.get? b=some o) (st:St i s'.heap) (pl:s'.heap.PlainList D (Ek ys)) (vs:ak s'.heap (ps.take i) ys [])
  (ns:s'.heap.Ns L m') (j:J i s'.heap):CE s₂ D L F wr St J its ps n s'
inductive tZ(F:List Addr)(J:Nat->Ap->Prop)(i:Nat)(p:PV)(s':Ab)(v:Value)(bI:Ab):Prop
 |mk (r:VR bI.heap p v []) (sm:yZ s' bI) (k:∀b o,b∉F->s'.heap.get? b=some o->bI.heap.get? b=some o) (j:J (i+1) bI.heap):tZ F J i p s' v bI
theorem ak.bS{h h':Ap}{q:List PV}{u:List Value}(x:ak h q u []):ak h' q u []:=x.on fun a ha=>(Aq ha).elim
section
variable{prog:Program}{w:Cn}{target elt iter:Expr}{xs:List Str}{scope:Scope}{pos:Bz}{env:Dv}{A:Al}{E:Value->Ab->Prop}{s₂:Ab}{cl:List (Str×Addr)}
  {I:Addr} {fp wr G F:List Addr} {its:List (List PV)} {St:Nat->Ap->Prop} {J:Nat->Ap->Prop} {ps:List PV}
theorem Yu{D L n:Nat}{s':Ab}{R:D3->Ab->Prop}(B:Qu s₂ D L fp G F wr)(aT:scope.kind= .function)(ia:xV xs=true)(bf:∀x∈xs,scope.names.lookup x=some .local)(T:dy prog w A target xs I fp wr its St)(hsz:its.length<=ag)
  (t6:∀a∈wr,a∉G) (wg:∀a∈F,a∉fp) (qf:∀i h h',J i h->(∀a∈G,∀o,h.get? a=some o->h'.get? a=some o)->J i h') (hlen:ps.length=its.length)
  (br:∀(i:Nat) (it:List PV) (p:PV) (L:Addr) (s':Ab) (m':Str->Option Value) (E':Value->Ab->Prop),its[i]?=some it->ps[i]?=some p->J i s'.heap->s'.heap.Ns L m'->Am (Af prog w) A (eval elt (B8 scope cl L env)) (tZ F J i p s') E' s')
  (hR:∀s' m',yZ s₂ s'->(∀b o,b∉F->b∉wr->s₂.heap.get? b=some o->s'.heap.get? b=some o)->s'.heap.Ns L m'->VR s'.heap (.list ps) (.ref D) [D]->J its.length s'.heap->R (.ok .next) s') (x:CE s₂ D L F wr St J its ps n s'):
  GI prog w A elt target [] I (.ref D) (B8 scope cl L env) R (CE s₂ D L F wr St J its ps) n s':=by
 obtain⟨i,ys,m',hn,hi,eK,k,i0,cQ,bq,bY,hJ⟩:=x
 rcases Nat.lt_or_eq_of_le hi with aX|rfl
 ·have Qv:i<ps.length:=hlen▸aX
  refine zE (T.item i _ s' _ _ _ (Aw aX) i0 fun us ms ai bR fT ff rR cz aC=>?_) fun r aa h=> .inr h
  refine AV (by simp[B8,Fb,aT]) xs us _ _ (by refine ct rR ?_;exact fT.length.symm) ia (fun x hx=>Ga (bf x hx)) (bY.at' fun o e=>aC _ o B.Lw e) fun aq dj fV dm bB gm _=>?_
  have bB:Co L ai aq:=bB
  refine wpAny_tests_nil ?_
  refine af (if_pos rfl) ?_
  have JT:∀b o,b∉wr->b≠L->s'.heap.get? b=some o->aq.get? b=some o:=fun b o h1 h2 e=>bB b o h2 (aC b o h1 e)
  refine zE (br i _ _ L _ fV _ (Aw aX) (Aw Qv) (qf _ _ _ hJ fun a ha o e=>JT a o (fun q=>t6 a q ha) (fun q=>B.LG (q▸ha)) e) dm) fun v cH dH=>?_
  obtain⟨fS,wh,eN,JU⟩:=dH
  refine Fe (hsz:=by(refine af A3 ?_;refine af bq.length ?_;refine af Cs ?_;refine af Bm ?_);exact Ad (Ig ..) (Ad hi hsz)) (cQ.at fun o e=>eN D o B.DF (JT D o B.Dw B.DL e)) fun et fg dk=>?_
  refine⟨its.length-i,by(refine ct (Nat.add_sub_cancel (n:=n) (m:=i)) ?_;refine af hn ?_;refine af (Nat.succ_sub hi) ?_);exact Bj _,i+1,ys++[v],fV,by(refine ct (C3 ..) ?_;exact af (Nat.sub_add_cancel hi) rfl),aX,((eK.toks aq dj).trans wh).heap et cH.toks,fun b o h1 h2 e=>?_,?_,Ja ..▸fg,?_,(dm.at' fun o e=>eN L o B.LF e).sameBut dk (Ir B.DL),qf _ _ _ JU fun a ha o e=>dk.extBut a o (fun q=>B.DG (q▸ha)) e⟩
  ·exact dk.extBut b o (fun q=>nn (B.newD.symm.trans (q▸e))) (eN b o h1 (JT b o h2 (fun q=>nn (B.cu.symm.trans (q▸e))) (k b o h1 h2 e)))
  ·exact T.frame _ _ _ cz fun b hb o e=>dk.extBut b o (fun q=>B.Df (q▸hb)) (eN b o (fun q=>wg b q hb) (bB b o (fun q=>B.Lf (q▸hb)) e))
  ·rw[List.take_add_one,Aw Qv]
   exact ak.append (bq.bS (h':=et)) (ak.one (fS.on fun a ha=>(Aq ha).elim))
 ·refine T.done _ _ _ i0 fun ai bR aC=> .inl ⟨rfl,?_⟩
  rw[<-hlen,Jh]at bq
  exact hR _ m' (eK.heap ai bR) (fun b o h1 h2 e=>aC b o h2 (k b o h1 h2 e)) (bY.at' fun o e=>aC _ o B.Lw e) (.list (cQ.at fun o e=>aC D o B.Dw e) bq.bS) (qf _ _ _ hJ fun a ha o e=>aC a o (fun q=>t6 a q ha) e)
theorem Yv{RR:Value->Addr->D3->Ab->Prop}{iC ah:Ap}{D tk:Nat}{m:Str->Option Value}{oL:Obj}(hL:iC.objs.size=D+1)(wi:iC.get? D=some {cls:= .type "list",dict:=none,data:= .seq ([]:List Value).toArray}) (gW:∀b o,s₂.heap.get? b=some o->iC.get? b=some o) (newD:s₂.heap.get? D=none) (cu:s₂.heap.get? (D+1)=none)
  (aT:scope.kind= .function) (ia:xV xs=true) (bf:∀x∈xs,scope.names.lookup x=some .local)
  (cR:∀b∈fp,∃o,s₂.heap.get? b=some o) (T:dy prog w A target xs I fp wr its St) (st:St 0 s₂.heap) (hsz:its.length<=ag)
  (hG:∀a∈G,∃o,s₂.heap.get? a=some o) (CF:∀a∈F,a∈G) (t6:∀a∈wr,a∉G) (wg:∀a∈F,a∉fp)
  (qf:∀i h h',J i h->(∀a∈G,∀o,h.get? a=some o->h'.get? a=some o)->J i h') (JV:J 0 s₂.heap) (hlen:ps.length=its.length)
  (br:∀(i:Nat) (it:List PV) (p:PV) (L:Addr) (s':Ab) (m':Str->Option Value) (E':Value->Ab->Prop),its[i]?=some it->ps[i]?=some p->J i s'.heap->s'.heap.Ns L m'->
   Am (Af prog w) A (eval elt (B8 scope cl L env)) (tZ F J i p s') E' s')
  (gk:∀D L s' m',s₂.heap.get? L=none->s₂.heap.get? D=none->D≠L->yZ s₂ s'->(∀b o,b∉F->b∉wr->s₂.heap.get? b=some o->s'.heap.get? b=some o)->s'.heap.Ns L m'->VR s'.heap (.list ps) (.ref D) [D]->J its.length s'.heap->RR (.ref D) L (.ok .next) s')
  (bY:ah.Ns iC.objs.size m) (iB:Heap.SameBut iC.objs.size (iC.push oL) ah):
  Ca (Af prog w) A (.compStart (.ListComp elt [⟨target,iter,[],0⟩] scope pos) 0 (.ref I) (.ref D) (B8 scope cl iC.objs.size env)) (RR (.ref D) iC.objs.size) {s₂ with heap:=ah,toks:=tk}:=by
 rw[hL]at bY iB⊢
 have old:∀b o,s₂.heap.get? b=some o->ah.get? b=some o:=fun b o e=>iB.extBut b o (fun q=>nn (cu.symm.trans (q▸e))) (Ag _ (gW b o e))
 have off:∀{l:List Addr} {a:Addr},(∀b∈l,∃o,s₂.heap.get? b=some o)->s₂.heap.get? a=none->a∉l:=fun h e hm=>xT (h _ hm) e rfl
 have B:Qu s₂ D (D+1) fp G F wr:=⟨newD,cu,Bo (Bj _),off cR newD,off cR cu,off hG newD,off hG cu,fun h=>off hG newD (CF _ h),fun h=>off hG cu (CF _ h),fun h=>off cR newD (T.sub _ h),fun h=>off cR cu (T.sub _ h)⟩
 have qg:=T.frame _ _ _ st fun b _ o e=>old b o e
 have loop:=OJ (iter:=iter) (scope:=scope) (pos:=pos) (R:=RR (.ref D) (D+1)) (CE s₂ D (D+1) F wr St J its ps) (fun n s' x=>Yu B aT ia bf T hsz t6 wg qf hlen br (fun s' m'=>gk D (D+1) s' m' cu newD B.DL) x) (its.length+1) (s:={s₂ with heap:=ah,toks:=tk})
  ⟨0,[],_,rfl,C0 _,⟨ah,_,s₂.gens,rfl, .rfl' _⟩,fun b o _ _ e=>old b o e,qg,⟨_,iB.extBut _ _ B.DL (Ag _ wi)⟩, .nil,bY,qf _ _ _ JV fun b _ o e=>old b o e⟩
 exact Hd loop (T.self 0 _ _ _ qg loop)
theorem Yw{RR:Value->Addr->D3->Ab->Prop}
  (aT:scope.kind= .function) (ia:xV xs=true) (bf:∀x∈xs,scope.names.lookup x=some .local) (aR:∀y∈scope.names,y.2≠ .cell)
  (cR:∀b∈fp,∃o,s₂.heap.get? b=some o) (T:dy prog w A target xs I fp wr its St) (st:St 0 s₂.heap) (hsz:its.length<=ag)
  (hG:∀a∈G,∃o,s₂.heap.get? a=some o) (CF:∀a∈F,a∈G) (t6:∀a∈wr,a∉G) (wg:∀a∈F,a∉fp)
  (qf:∀i h h',J i h->(∀a∈G,∀o,h.get? a=some o->h'.get? a=some o)->J i h') (JV:J 0 s₂.heap) (hlen:ps.length=its.length)
  (br:∀(i:Nat) (it:List PV) (p:PV) (L:Addr) (s':Ab) (m':Str->Option Value) (E':Value->Ab->Prop),its[i]?=some it->ps[i]?=some p->J i s'.heap->s'.heap.Ns L m'->
   Am (Af prog w) A (eval elt (B8 scope cl L env)) (tZ F J i p s') E' s')
  (gk:∀D L s' m',s₂.heap.get? L=none->s₂.heap.get? D=none->D≠L->yZ s₂ s'->(∀b o,b∉F->b∉wr->s₂.heap.get? b=some o->s'.heap.get? b=some o)->s'.heap.Ns L m'->VR s'.heap (.list ps) (.ref D) [D]->J its.length s'.heap->RR (.ref D) L (.ok .next) s'):
  Am (Af prog w) A (Lr []) (fun acc ao=>Am (Af prog w) A (Gb scope env.globals cl [] env.qual none .none (some env)) (fun bh aS=>
   Ca (Af prog w) A (.compStart (.ListComp elt [⟨target,iter,[],0⟩] scope pos) 0 (.ref I) acc {bh with scope:=Fb scope env}) (RR acc bh.locals) aS) E ao) E s₂:=by
 refine Cb (E5 aR (by intro y hy;simp at hy) (fun ah dI dp=>?_) aT)
 have hL:(s₂.heap.push {cls:= .type "list",dict:=none,data:= .seq ([]:List Value).toArray}).objs.size=s₂.heap.objs.size+1:=Eu ..
 have wi:=Av (h:=s₂.heap) (o:={cls:= .type "list",dict:=none,data:= .seq ([]:List Value).toArray}) rfl
 have gW:∀b o,s₂.heap.get? b=some o->(s₂.heap.push {cls:= .type "list",dict:=none,data:= .seq ([]:List Value).toArray}).get? b=some o:=fun b o e=>Ag _ e
 have newD:s₂.heap.get? s₂.heap.objs.size=none:=yP 0
 have cu:s₂.heap.get? (s₂.heap.objs.size+1)=none:=yP 1
 exact Yv (s₂:=s₂) hL wi gW newD cu aT ia bf cR T st hsz hG CF t6 wg qf JV hlen br gk dI dp
end
noncomputable abbrev Qw(sg:Str)(p1 fC gJ:Bz):Expr:= .Call (.Attribute (.Name sg p1) "pop" fC) [] [] gJ
noncomputable abbrev JW(sg si sz:Str)(jk:Nat)(jp ap p1 fC gJ px p2 p3 gI sp lp cp:Bz)(aE:Scope):Expr:=
 .Call (.Attribute (.Constant (.str "") jk jp) "join" ap) [.ListComp (Qw sg p1 fC gJ) [⟨.Name si px, .Subscript (.Name sg p2) (.Slice none (some (.Name sz p3)) none gI) sp,[],0⟩] aE lp] [] cp
noncomputable def dw(cs:List Nat):List PV:=cs.map fun c=>PV.str [c]
theorem Qx:∀cs:List Nat,PV.strs (dw cs)=some (cs.map fun c=> [c])
 |[]=>rfl
 |c::r=>by refine(?_:(PV.strs (dw r)).map _=_);rw[Qx r];rfl
theorem JX:∀cs:List Nat,(dw cs).all PV.aZ=true
 |[]=>rfl
 |c::r=>by refine(?_:(PV.aZ (.str [c])&&(dw r).all PV.aZ)=true);rw[JX r];rfl
theorem Qy:∀cs:List Nat,kW [] (cs.map fun c=> [c])=cs
 |[]=>rfl
 |[c]=>rfl
 |c::d::r=>by
  refine(?_:[c]++[]++kW [] ((d::r).map fun c=> [c])=_)
  rw[Qy (d::r)];rfl
theorem Yx{kn:List (Str×C8)}{sc:List (Str×C8)}{x:Str}(h:sc.lookup x=some .free)(hc:kn.lookup x≠some .cell):(jB kn sc).lookup x=some .free:=by
 induction sc with
 |nil=>exact nn h
 |cons z r ih=>
  obtain⟨n,k₁⟩:=z
  refine(?_:Fp x ((if(k₁== .free&&kn.lookup n==some .cell)=true then(n,C4)else(n,k₁))::jB kn r)=_)
  rw[A7]at h
  cases hx:x==n with
  |true=>
   rw[hx]at h
   have kY:(kn.lookup n==some .cell)=false:=eq_of_beq hx▸beq_false_of_ne hc
   (refine af kY ?_;refine af (Bool.and_false ..) ?_;refine af (if_neg Bp) ?_;refine af A7 ?_;refine af hx ?_);exact h
  |false=>
   rw[hx]at h
   cases hq:(k₁== .free&&kn.lookup n==some .cell)with
   |true=>rw[if_pos rfl,A7,hx];exact ih h
   |false=>rw[if_neg Bp,A7,hx];exact ih h
theorem Yy{scope:Scope}{env:Dv}(hk:env.scope.kind= .function):(Fb scope env).names=jB env.scope.names scope.names:=by
 unfold Fb jB
 refine(?_:scope.names.map _=_)
 refine Ct fun z _=>?_
 obtain⟨n,kk⟩:=z
 refine(?_:(if(kk==Cd&&env.scope.kind== .function&&env.kindOf n==some .cell)=true then _ else _)=_)
 have e1:(env.scope.kind==G0)=true:=by refine af hk ?_;rfl
 refine af e1 ?_
 refine af (K7 ..) ?_
 rfl
structure Yz(h:Ap)(lam cell:Addr)(sg si sz:Str)(jk:Nat)(jp ap p1 fC gJ px p2 p3 gI sp lp cp:Bz)(aE ay:Scope)(params:Arguments):Prop where
 obj:∃o name qual pm rS fO,h.get? lam=some o/\o.data= .func (kla_fn name qual params (JW sg si sz jk jp ap p1 fC gJ px p2 p3 gI sp lp cp aE) ay [(sg,cell)] pm rS fO)/\h.CodeRec rS qual
structure CG(W:bu)(sg si sz:Str)(ap p1 fC gJ px p2 p3 gI sp lp cp:Bz)(aE ay:Scope)(params:Arguments):Prop where
 k1:ay.kind= .function
 co:ay.isCoroutine=false
 gen:ay.isGenerator=false
 n1:ay.names=[(sz, .local),(sg, .free)]
 k2:aE.kind= .function
 l2:aE.names.lookup si=some .local
 f2:aE.names.lookup sg=some .free
 c2:aE.names.all (fun y=>y.2 != .cell&&(y.2 != .local||aE.names.lookup y.1==some .local)&&(y.2 != .free||y.1==sg))=true
 bad:bad sg=false
 ne:sz≠sg
 line:(ap.endLine==cp.line)=true/\(fC.endLine==gJ.line)=true
 bind:∀name qual body pm rS fO cl v,E6 (kla_fn name qual params body ay cl pm rS fO) ⟨[v],[]⟩=pure [(sz,v)]
 it:av W ⟨ay.names,[(sg,0),(sz,1)],2⟩ (.Subscript (.Name sg p2) (.Slice none (some (.Name sz p3)) none gI) sp) (.bD (.var 0) .no (.yes (.var 1)) .no)
inductive kB(h:Ap)(l:Addr)(cs:List Nat):Prop
 |mk (us:List Value) (e:h.PlainList l (Ek us)) (r:ak h (dw cs.reverse) us []):kB h l cs
theorem kB.at'{h h':Ap}{l:Addr}{cs:List Nat}(x:kB h l cs)(k:∀o,h.get? l=some o->h'.get? l=some o):kB h' l cs:=by
 obtain⟨us,h1,h2⟩:=x
 exact⟨us,h1.at k,h2.bS⟩
noncomputable def oO(cell l:Addr)(cs:List Nat)(i:Nat)(h:Ap):Prop:=h.IsCell cell (some (.ref l))/\kB h l (cs.drop i)
theorem oO.up{h h':Ap}{cell l:Addr}{cs:List Nat}{i:Nat}(j:oO cell l cs i h)(k:∀a∈[cell,l],∀o,h.get? a=some o->h'.get? a=some o):oO cell l cs i h':=
 ⟨j.1.elim fun o e=>⟨o,k _ (.head _) _ e.1,e.2⟩,j.2.at' fun o e=>k _ (.tail _ (.head _)) o e⟩
inductive JY(l:Addr)(cs:List Nat)(s:Ab)(v:Value)(s':Ab):Prop
 |mk (D:Addr) (e:v= .ref D) (r:VR s'.heap (.list (dw (cs.take 1))) (.ref D) [D]) (sm:yZ s s') (k:∀b o,b≠l->s.heap.get? b=some o->s'.heap.get? b=some o) (j:kB s'.heap l (cs.drop 1)):JY l cs s v s'
inductive Qz(l:Addr)(cs:List Nat)(s:Ab)(res:D3)(s':Ab):Prop
 |mk (t:Jr) (e:res= .ok (.ret (.str ⟨(cs.take 1).toArray⟩ t))) (sm:yZ s s') (k:∀b o,b≠l->s.heap.get? b=some o->s'.heap.get? b=some o) (j:kB s'.heap l (cs.drop 1)):Qz l cs s res s'
section
variable{W:bu}{sg si sz:Str}{jk:Nat}{jp ap p1 fC gJ px p2 p3 gI sp lp cp:Bz}{aE ay:Scope}{params:Arguments}
theorem YA{A:Al}{E:Value->Ab->Prop}{s:Ab}{env:Dv}{cell l:Addr}{c:Nat}{cs:List Nat}(H:CG W sg si sz ap p1 fC gJ px p2 p3 gI sp lp cp aE ay params)
  (hk:env.scope.kind= .function) (hf:env.kindOf sg=some .free) (hc:env.cells.lookup sg=some cell) (j:oO cell l (c::cs) 0 s.heap) (hsz:cs.length+1<=ag) (cU:cell≠l):
  Am (Af W.prog W.w) A (eval (Qw sg p1 fC gJ) env) (tZ [l] (oO cell l (c::cs)) 0 (.str [c]) s) E s:=by
 obtain⟨aR,us,cQ,bq⟩:=j
 rw[Dx,show dw (c::cs).reverse=dw cs.reverse++[.str [c]]by simp[dw]]at bq
 refine uR bq.snoc fun tS y r' n hV e3 e4 e5 e6=>?_
 subst hV
 refine Call_method0 (kr rfl _ env _) H.line.2 (Bt (zU hk (.inr ⟨.inr hf,cell,hc,aR⟩) ?_ (wW H.bad)) (wE H.bad))
 refine nh ("list") _ Ff Ez Hl cQ.isList.typeIs (HJ cQ) (Dq rfl (Ik ?_))
 refine Pd cQ (by have:=e3.length;simp[dw]at this;lia) fun h' fW ik=>?_
 obtain rfl:=PG e5
 obtain rfl:=PG e6
 exact⟨e4.bS rfl,⟨h',_,s.gens,rfl, .rfl' _⟩,fun b o hb e=>ik b o (fun q=>hb (q▸ .head _)) e,aR.elim fun o e=>⟨o,ik _ _ cU e.1,e.2⟩,tS,fW,e3.bS⟩
theorem JZ{β:Type}{x a:Str}{i k:β}{l:List (Str×β)}(e:Fp x ((a,i)::l)=some k):(a=x/\i=k)\/((x==a)=false/\l.lookup x=some k):=by
 rw[A7]at e
 cases h:x==a with
 |true=>rw[h]at e;exact .inl ⟨(eq_of_beq h).symm,Aa e⟩
 |false=>rw[h]at e;exact .inr ⟨rfl,e⟩
theorem YB(cs:List Nat):cs.drop (min 1 cs.length)=cs.drop 1:=by
 cases cs with
 |nil=>rfl
 |cons c r=>rw[show min 1 (c::r).length=1 by simp]
theorem QA{β:Type}{x a:Str}{i k:β}(e:Fp x [(a,i)]=some k):a=x/\i=k:=(JZ e).elim id fun h=>nn h.2
theorem YC{A:Al}{env:Dv}{s:Ab}{ah:Ap}{tk:Nat}{cell l:Addr}{cs:List Nat}{t:Jr}{m:Str->Option Value}(H:CG W sg si sz ap p1 fC gJ px p2 p3 gI sp lp cp aE ay params)(aN:wH W.D A)(wd:W.Wd ah)(eB:env.scope=ay)(qR:env.globals=mainGlobals)(lR:env.builtins=builtinsNs)
  (lh:env.cells.lookup sg=some cell) (kf:env.kindOf sg=some .free) (bY:ah.Ns env.locals m) (hm:m sz=some (.int 1 t)) (aR:ah.IsCell cell (some (.ref l))) (hs:kB ah l cs):
  Pre W ⟨ay.names,[(sg,0),(sz,1)],2⟩ env A [some (.list (dw cs.reverse)),some (.int 1)] {s with heap:=ah,toks:=tk} where
 kind:=by refine af eB ?_;exact H.k1
 names:=by exact af eB rfl
 gl:=qR
 bl:=lR
 room:=aN
 len:=rfl
 rd:=fun x i p k e1 e2 e3 e4=>by
  obtain⟨us,cQ,bq⟩:=hs
  rcases JZ e3 with⟨rfl,rfl⟩|⟨_,e3⟩
  ·obtain rfl:=Aa (Aa e4)
   exact nQ (.ref l) (l::[]) (.inr ⟨.inr kf,cell,lh,aR⟩) (.list cQ bq)
  ·refine au (QA e3) fun aG aP=>?_
   subst aG
   subst aP
   obtain rfl:=Aa (Aa e4)
   exact nQ (.int 1 t) ([]) (.inl ⟨by unfold Be;(refine af eB ?_;refine af H.n1 ?_);simp,_,bY,hm⟩) (.int ..)
 wd:=wd
 eT:=fun x k e1 e2=>by
  have e1:ay.names.lookup x=some k:=e1
  rw[H.n1]at e1
  rcases JZ e1 with⟨rfl,rfl⟩|⟨_,e1⟩
  ·rcases e2 with h|h<;>cases h
  ·refine au (QA e1) fun aG aP=>?_
   subst aG
   subst aP
   exact cn cell lh
theorem YD{U:Uc}{cs:List Nat}(hsz:cs.length<=ag):ev U (.bD (.var 0) .no (.yes (.var 1)) .no) [some (.list (dw cs.reverse)),some (.int 1)]=some (.list (dw (cs.reverse.take 1))):=by
 have wj:(dw cs.reverse).length=cs.length:=by rw[dw,An,Dg]
 refine(?_:(if(dw cs.reverse).length<=ag then some _ else none)=_)
 refine xU (by rw[wj];exact hsz) ?_
 refine congrArg some (congrArg PV.list ?_)
 refine(?_:((dw cs.reverse).drop 0).take (min 1 (dw cs.reverse).length-0)=_)
 rw[Dx,wj,dw,<-Ea]
 refine congrArg (List.map _) ?_
 cases cs with
 |nil=>rfl
 |cons c r=>rw[show min 1 (c::r).length-0=1 by simp]
theorem YE{A:Al}{E:Value->Ab->Prop}{env:Dv}{s:Ab}{kn:List (Str×C8)}{cell l:Addr}{cs:List Nat}{elt it:Expr}(KA:aE.kind= .function)(l2:aE.names.lookup si=some .local)(f2:aE.names.lookup sg=some .free)
  (c2:aE.names.all (fun y=>y.2 != .cell&&(y.2 != .local||aE.names.lookup y.1==some .local)&&(y.2 != .free||y.1==sg))=true)
  (br:∀(env:Dv) (E:Value->Ab->Prop) (s:Ab) (c:Nat) (r:List Nat),env.scope.kind= .function->env.kindOf sg=some .free->env.cells.lookup sg=some cell->oO cell l (c::r) 0 s.heap->r.length+1<=ag->Am (Af W.prog W.w) A (eval elt env) (tZ [l] (oO cell l (c::r)) 0 (.str [c]) s) E s)
  (hit:av W ⟨kn,[(sg,0),(sz,1)],2⟩ it (.bD (.var 0) .no (.yes (.var 1)) .no)) (wk:∀x,Ee it env x=pure x) (P:Pre W ⟨kn,[(sg,0),(sz,1)],2⟩ env A [some (.list (dw cs.reverse)),some (.int 1)] s)
  (kf:env.kindOf sg=some .free) (lh:env.cells.lookup sg=some cell) (hj:oO cell l cs 0 s.heap) (hsz:cs.length<=ag):
  Am (Af W.prog W.w) A (eval (.ListComp elt [⟨.Name si px,it,[],0⟩] aE lp) env) (JY l cs s) E s:=by
 refine af (K8 ..) ?_
 have h2:=fun y hy=>b2 (Ao.mp c2 y hy)
 obtain⟨cl,fh,KC⟩:=AU (scope:=aE) (env:=env) fun y hy hf=>by
  have h:=(h2 y hy).2
  rw[hf]at h
  exact cn cell ((show y.1=sg from eq_of_beq h)▸lh)
 have gD:∀a∈[cell,l],∃o,s.heap.get? a=some o:=fa (hj.1.elim fun o e=>⟨o,e.1⟩) (fa (by obtain⟨_,⟨_,e⟩,_⟩:=hj.2;exact⟨_,e⟩) dE)
 refine E7 (use:=none) rfl wk fh KA (fun y hy hl=>by
  have h:=(b2 (h2 y hy).1).2
  rw[hl]at h
  exact eq_of_beq h) (zE (hit env _ _ _ _ _ P (YD hsz)) fun xv aa fe=>?_)
 obtain⟨k₁,ns,rv,fr⟩:=fe
 have fr:=fr (JX _)
 refine zE (GP (x:=si) (px:=px) P.room.hh k₁ rv) fun it s₂ wm=>?_
 obtain⟨I,fp,wr,St,rfl,aH,d0,cR,T,st,kE⟩:=wm
 have nt:((dw (cs.reverse.take 1)).map fun p=> [p]).length=min 1 cs.length:=by simp[dw]
 have up:=zZ aH
 refine Yw (RR:=fun acc L=>compPost (Af W.prog W.w) A _ none (JY l cs s) acc L) (G:=[cell,l]) (F:=[l]) (J:=oO cell l cs) (ps:=dw (cs.take 1)) KA rfl (fa l2 dE) (fun y hy q=>by
   have h:=(b2 (h2 y hy).1).1
   rw[q]at h;exact ft h) cR T st (by refine af nt ?_;exact Ad (Ig ..) (by decide)) (fun a ha=>(gD a ha).elim fun o e=>⟨o,up _ _ e⟩) (fun a ha=> .tail _ ha) (fun a ha hg=>xT (gD a hg) (d0 a ha) rfl) (fun a ha hf=>?_) (fun i h h' hj hk=>hj.up hk) (hj.up fun a _ o e=>up a o e) (by refine af nt ?_;simp[dw]) (fun i it p L s' m' E' hi hp KD hn=>?_) (fun D L s' m' nL nD YF eK wo hn hv KD=>?_)
 ·exact(kE a hf).elim (fun h=>xT (gD a (.tail _ ha)) h rfl) fun h=>xT (gD a (.tail _ ha)) (fr.new a h) rfl
 ·have vm:i<min 1 cs.length:=nt▸(Bc.mp hi).1
  cases cs with
  |nil=>exact absurd vm (by simp)
  |cons c r=>
   obtain rfl:i=0:=Nat.lt_one_iff.mp (D5 vm (Ig ..))
   obtain rfl:PV.str [c]=p:=Aa hp
   refine br _ _ _ c r KA ?_ (KC sg cell lh (zS f2)) KD hsz
   refine(?_:(Fb aE env).names.lookup sg=_)
   refine af (Yy P.kind) ?_
   exact Yx f2 (by refine af (show env.scope.names.lookup sg=some .free from kf) ?_;exact fun q=>H8 (Aa q))
 ·refine i12 m' hn (fun h' dg=>⟨D,rfl,hv.on fun a ha o e=>dg.extBut a o (by refine af (Ae.mp ha) ?_;exact YF) e,(((yZ.refl s).kg aH).trans eK).heap h' _,fun b o hb e=>?_,?_⟩)
  ·exact dg.extBut b o (fun q=>nn (nL.symm.trans (q▸up b o e))) (wo b o (fun h=>hb (Ae.mp h)) (fun hw=>nn ((d0 b hw).symm.trans e)) (up b o e))
  ·have QB:=KD.2
   rw[nt,YB]at QB
   exact QB.at' fun o e=>dg.extBut l o (fun q=>(gD l (.tail _ (.head _))).elim fun o e=>nn (nL.symm.trans (q▸up l o e))) e
theorem YG{A:Al}{s:Ab}{lam cell l:Addr}{cs:List Nat}{t:Jr}(H:CG W sg si sz ap p1 fC gJ px p2 p3 gI sp lp cp aE ay params)
  (aN:wH (W.D+1) A) (wd:W.Wd s.heap) (cx:s.heap.NoLimit) (F:Yz s.heap lam cell sg si sz jk jp ap p1 fC gJ px p2 p3 gI sp lp cp aE ay params)
  (aR:s.heap.IsCell cell (some (.ref l))) (hs:kB s.heap l cs) (hsz:cs.length<=ag):
  Ca (Af W.prog W.w) A (.call (.ref lam) ⟨[.int 1 t],[]⟩) (Qz l cs s) s:=by
 refine FK F.obj fun o name qual pm rS fO ho hd gF=>?_
 have rR:cell≠l:=fun q=>by
  obtain⟨us,⟨n,e⟩,_⟩:=hs
  rw[<-q]at e;exact vn aR e
 have cU:(sg==sz)=false:=beq_false_of_ne H.ne.symm
 refine kla_callFunE (Dn (C6 ..) aN.depth) ho hd H.co H.gen rfl gF ?_
 refine af (H.bind ..) ?_
 refine Ak (E5 (by refine(?_:∀x∈ay.names,x.2≠ .cell);refine af H.n1 ?_;exact fa (fun h=>H8 h) (fa (fun h=>H8 h) dE)) (by intro x hx;refine af (Ae.mp hx) ?_;refine(?_:ay.names.lookup sz=_);refine af H.n1 ?_;simp) (fun ah bY iB=>?_) H.k1)
 have up:Sub s.heap ah:=fun b o e=>iB.extBut b o (Bo (Bk e)) (Ag _ e)
 refine cj (cx.keeps up) ?_
 generalize bG:newEnv (kla_fn name qual params (JW sg si sz jk jp ap p1 fC gJ px p2 p3 gI sp lp cp aE) ay [(sg,cell)] pm rS fO).scope _ _ _ _ _ _ _ _=env
 have eB:env.scope=ay:=bG▸rfl
 have BB:env.locals=s.heap.objs.size:=bG▸rfl
 have kf:env.kindOf sg=some .free:=by
  unfold Be;(refine af eB ?_;refine af H.n1 ?_;refine af A7 ?_;refine af cU ?_);simp
 have lh:env.cells.lookup sg=some cell:=by refine af (show env.cells=[(sg,cell)]from bG▸rfl) ?_;simp
 have P:=YC (s:=s) (t:=t) (tk:=s.toks+[(sz,Value.int 1 t)].length) H (aN.deeper env) (W.mono wd up) eB (bG▸rfl) (bG▸rfl) lh kf (BB▸bY) (by simp) (aR.keeps up) (hs.at' fun o e=>up l o e)
 clear bG
 refine kla_codeExpr ?_
 refine Jy (kr rfl _ env _) (zF rfl [] env) H.line.1 (Dp ?_)
 refine nh ("str") _ PySem.F.plainAttrs_str PySem.F.slot_str_join PySem.F.type_str_join (Hp _ _ _) (fun _ e=>Value.noConfusion e) (Dq rfl (Ey (Ba ?_)))
 refine zE (YE (px:=px) (lp:=lp) H.k2 H.l2 H.f2 H.c2 (fun env E s c r h1 h2 h3 h4 h5=>YA H h1 h2 h3 h4 h5 rR) H.it (fun x=>wU rfl env x) (P.kp (du _ _)) kf lh ⟨aR.keeps up,hs.at' fun o e=>up l o e⟩ hsz) fun v s' h=>B7 ?_
 obtain⟨D,rfl,hv,sm,k,j⟩:=h
 refine jT hv.inv fun _ vs _ hl oh e _=>?_
 obtain rfl:=Gp e
 refine Hc (s:=s') (x:=mkStr []) hl.isList (oh.strs (Qx _)) ?_ fun t' k'=>?_
 ·have h1:∀z:List Nat,(mkStr z).length=z.length:=fun z=>by simp[mkStr,Ce]
  refine af A8 ?_
  refine af (An ..) ?_
  refine af (h1 ..) ?_
  cases cs with
  |nil=>simp
  |cons c r=>simp[h1,Bm]
 ·refine af (GC ..) ?_
  refine af (Qy ..) ?_
  exact⟨t',rfl,((⟨ah,_,s.gens,rfl, .rfl' _⟩:yZ s {s with heap:=ah,toks:=s.toks+[(sz,Value.int 1 t)].length+1}).trans sm).heap s'.heap k',fun b o hb e=>k b o hb (up b o e),j⟩
end
set_option genSizeOf false
set_option genInjectivity false
section
variable{prog:Program}{w:Cn}{A:Al}{E:Value->Ab->Prop}{s:Ab}{env:Dv}
theorem QC{o:Expr}{name:Str}{apos pos:Bz}{Q:Value->Ab->Prop}(bT:D7 o name env (eval o env)=eval o env)(aV:(apos.endLine==pos.line)=true)
  (h:Am (Af prog w) A (eval o env) (fun ov aa=>∀pl,Am (Af prog w) A (getMethod ov name pl) (fun fx s₂=>Am (Af prog w) A (callWith pos fx.1 fx.2 (Jt pos (B6 [] env)) []) Q E s₂) E aa) E s):
  Am (Af prog w) A (eval (.Call (.Attribute o name apos) [] [] pos) env) Q E s:=by
 refine af (arm_eval_Call ..) ?_
 refine af bT ?_
 refine Ac (Bq h (fun ov aa ah=>?_) fun _ _ e=>e)
 refine Ac (Ck ?_)
 have l8:methodCallForm (([]:List Expr).length+([]:List Keyword).length) (Jt pos (B6 [] env)) (backToKw pos (keywordEach [] env))=true:=rfl
 have rT:Jg true o env apos pos=pure pos:=by unfold Jg;simp[aV]
 unfold methodCall
 refine af l8 ?_
 refine Ac (D9 (Bq (ah _) (fun fx s₂ ai=>?_) fun _ _ e=>e))
 exact Ac (B3 rT ai)
theorem YH{o x:Expr}{name:Str}{apos pos:Bz}{Q:Value->Ab->Prop}(bT:D7 o name env (eval o env)=eval o env)(aV:(apos.endLine==pos.line)=true)(hs:B6 [x] env=[(false,eval x env)])
  (h:Am (Af prog w) A (eval o env) (fun ov aa=>∀pl,Am (Af prog w) A (getMethod ov name pl) (fun fx s₂=>Am (Af prog w) A (callWith pos fx.1 fx.2 (Jt pos (B6 [x] env)) []) Q E s₂) E aa) E s):
  Am (Af prog w) A (eval (.Call (.Attribute o name apos) [x] [] pos) env) Q E s:=by
 refine af (arm_eval_Call ..) ?_
 refine af bT ?_
 refine Ac (Bq h (fun ov aa ah=>?_) fun _ _ e=>e)
 refine Ac (Ck ?_)
 have l8:methodCallForm (([x]:List Expr).length+([]:List Keyword).length) (Jt pos (B6 [x] env)) (backToKw pos (keywordEach [] env))=true:=by refine af hs ?_;rfl
 have rT:Jg true o env apos pos=pure pos:=by unfold Jg;simp[aV]
 unfold methodCall
 refine af l8 ?_
 refine Ac (D9 (Bq (ah _) (fun fx s₂ ai=>?_) fun _ _ e=>e))
 exact Ac (B3 rT ai)
theorem YI{pos:Bz}{f:Addr}{o:Obj}{fd:FuncData}{first:List Value}{x:Expr}{Q:Value->Ab->Prop}(hs:B6 [x] env=[(false,eval x env)])(l5:o.data= .func fd)
  (h:Am (Af prog w) A (eval x env) (fun v aa=>aa.heap.get? f=some o/\Am (Af prog w) A (call (.ref f) (first++[v])) Q E aa) E s):
  Am (Af prog w) A (callWith pos (.ref f) first (Jt pos (B6 [x] env)) []) Q E s:=by
 rw[hs]
 exact Calls.callWith_function (o:=o) (fd:=fd) (Calls.evalArgs_plain (Ba (Bq h (fun v aa ah=>B7 ⟨⟨ah.1,l5⟩,ah.2⟩) fun _ _ e=>e)))
end
structure bW where
 sg:Str
 si:Str
 sz:Str
 jk:Nat
 jp:Bz
 ap:Bz
 p1:Bz
 fC:Bz
 gJ:Bz
 px:Bz
 p2:Bz
 p3:Bz
 gI:Bz
 sp:Bz
 lp:Bz
 cp:Bz
 aE:Scope
 ay:Scope
 params:Arguments
noncomputable def bW.Ok(R:bW)(W:bu):Prop:=CG W R.sg R.si R.sz R.ap R.p1 R.fC R.gJ R.px R.p2 R.p3 R.gI R.sp R.lp R.cp R.aE R.ay R.params
noncomputable def bW.body(R:bW):Expr:=JW R.sg R.si R.sz R.jk R.jp R.ap R.p1 R.fC R.gJ R.px R.p2 R.p3 R.gI R.sp R.lp R.cp R.aE
inductive QD(h:Ap)(C N:Addr):Prop
 |mk (nm q:Str) (bs:List Value) (sn:List Str) (sub:List Value) (col:Option Bool) (dd:Option Addr) (k0 k1 k2 k3 k5:Option Value) (e:h.get? C=some (excClassObj nm q C N bs [.type "object"] true sn sub false col dd k0 k1 k2 k3 k5 "object.__new__")):QD h C N
inductive QE(h:Ap)(N fI fR fG fP:Addr):Prop
 |mk (mN:Str->Option Value) (hN:h.Ns N mN) (i:mN "__init__" =some (.ref fI)) (r:mN "_read_char" =some (.ref fR)) (g:mN "get_token" =some (.ref fG)) (p:mN "push_token" =some (.ref fP)) (ga:mN "__getattribute__" =none) (gh:mN "__getattr__" =none) (sa:mN "__setattr__" =none)
  (n1:mN "lineno" =none) (n2:mN "instream" =none) (n3:mN "whitespace" =none) (n4:mN "pushback" =none):QE h N fI fR fG fP
structure fQ(h:Ap)(C N fI fR fG fP:Addr):Prop where
 cls:QD h C N
 ns:QE h N fI fR fG fP
theorem fQ.at'{h h':Ap}{C N fI fR fG fP:Addr}(x:fQ h C N fI fR fG fP)(kC:∀o,h.get? C=some o->h'.get? C=some o)(kN:∀o,h.get? N=some o->h'.get? N=some o):fQ h' C N fI fR fG fP:=by
 obtain⟨nm,q,bs,sn,sub,col,dd,k0,k1,k2,k3,k5,e⟩:=x.cls
 obtain⟨mN,hN,i,r,g,p,ga,gh,sa,n1,n2,n3,n4⟩:=x.ns
 exact⟨⟨nm,q,bs,sn,sub,col,dd,k0,k1,k2,k3,k5,kC _ e⟩,mN,hN.at' kN,i,r,g,p,ga,gh,sa,n1,n2,n3,n4⟩
theorem fQ.keeps{h h':Ap}{C N fI fR fG fP:Addr}(x:fQ h C N fI fR fG fP)(k:Sub h h'):fQ h' C N fI fR fG fP:=x.at' (k C) (k N)
inductive lA(h:Ap)(a:Addr)(name qual:Str)(params:Arguments)(body:List Stmt)(scope:Scope):Prop
 |mk (o:Obj) (pm cd doc:Value) (e:h.get? a=some o) (c:o.cls= .type "function") (d:o.data= .func (H9 name qual params body scope pm cd doc .none)) (r:h.CodeRec cd qual):lA h a name qual params body scope
noncomputable abbrev XF(h:Ap)(x C dx:Addr):Prop:=∃o,h.get? x=some o/\o.cls= .ref C/\(∀c,o.data≠ .cls c)/\o.dict=some dx
noncomputable abbrev rU(h:Ap)(dx st pb:Addr)(l:Int):Prop:=∃mA,h.Ns1 dx mA/\(∃t,mA "lineno" =some (.int l t))/\mA "instream" =some (.ref st)/\(∃t,mA "whitespace" =some (.str ⟨#[10,9,13,32]⟩ t))/\mA "pushback" =some (.ref pb)/\∀n:Str,n∉(["lineno", "instream", "whitespace", "pushback"]:List Str)->mA n=none
noncomputable abbrev oP(h:Ap)(st ds:Addr):Prop:=∃o fd,h.get? st=some o/\o.cls= .type "function" /\o.data= .func fd/\o.dict=some ds
noncomputable abbrev nA(h:Ap)(ds lam:Addr):Prop:=∃m,h.Ns ds m/\m "read" =some (.ref lam)
noncomputable abbrev l9(R:bW)(h:Ap)(lam cc cell:Addr):Prop:=∃o name qual pm fO,h.get? lam=some o/\o.data= .func (kla_fn name qual R.params R.body R.ay [(R.sg,cell)] pm (.ref cc) fO)/\h.CodeRec (.ref cc) qual
noncomputable abbrev qi(h:Ap)(pb:Addr)(ws:List (List Nat)):Prop:=∃us,h.PlainList pb (Ek us)/\ak h (ws.map PV.str) us []
section
variable{h h':Ap}{x C dx st pb ds lam cc cell:Addr}{l:Int}{R:bW}{ws:List (List Nat)}
noncomputable abbrev lB(h h':Ap)(a:Addr):Prop:=∀o,h.get? a=some o->h'.get? a=some o
theorem XF.up(f:XF h x C dx)(k:lB h h' x):XF h' x C dx:=by obtain⟨o,e,r⟩:=f;exact⟨o,k _ e,r⟩
theorem rU.up(f:rU h dx st pb l)(k:lB h h' dx):rU h' dx st pb l:=by obtain⟨mA,⟨o,es,ep,e,r0⟩,r⟩:=f;exact⟨mA,⟨o,es,ep,k o e,r0⟩,r⟩
theorem oP.up(f:oP h st ds)(k:lB h h' st):oP h' st ds:=by obtain⟨o,fd,e,r⟩:=f;exact⟨o,fd,k _ e,r⟩
theorem nA.up(f:nA h ds lam)(k:lB h h' ds):nA h' ds lam:=by obtain⟨m,e,r⟩:=f;exact⟨m,e.at' fun o e=>k o e,r⟩
theorem l9.up(f:l9 R h lam cc cell)(k:lB h h' lam)(k':lB h h' cc):l9 R h' lam cc cell:=by
 obtain⟨o,name,qual,pm,fO,e,e2,c,oc,vs,t,e3,e4,r⟩:=f
 exact⟨o,name,qual,pm,fO,k _ e,e2,c,oc,vs,t,e3,Gp e3▸k' _ (Gp e3▸e4),r⟩
theorem qi.up(f:qi h pb ws)(k:lB h h' pb):qi h' pb ws:=by obtain⟨us,e,r⟩:=f;exact⟨us,e.at fun o e=>k o e,r.on fun a ha=>(Aq ha).elim⟩
theorem XF.bU(f:XF h x C dx):∃o,h.get? x=some o:=f.elim fun o e=>⟨o,e.1⟩
theorem rU.bU(f:rU h dx st pb l):∃o,h.get? dx=some o:=by obtain⟨_,⟨o,_,_,e,_⟩,_⟩:=f;exact⟨o,e⟩
theorem oP.bU(f:oP h st ds):∃o,h.get? st=some o:=f.elim fun o e=>e.elim fun _ e=>⟨o,e.1⟩
theorem nA.bU(f:nA h ds lam):∃o,h.get? ds=some o:=by obtain⟨_,⟨o,_,_,e,_⟩,_⟩:=f;exact⟨o,e⟩
theorem l9.bU(f:l9 R h lam cc cell):∃o,h.get? lam=some o:=by obtain⟨o,_,_,_,_,e,_⟩:=f;exact⟨o,e⟩
theorem l9.KH(f:l9 R h lam cc cell):∃o,h.get? cc=some o:=by
 obtain⟨_,_,_,_,_,_,_,c,oc,_,_,e3,e4,_⟩:=f
 exact cn oc (Gp e3▸e4)
theorem qi.bU(f:qi h pb ws):∃o,h.get? pb=some o:=by obtain⟨_,⟨_,e⟩,_⟩:=f;exact⟨_,e⟩
end
structure wA(R:bW)(C:Addr)(h:Ap)(b:aj)(x dx st ds lam cc cell sg pb:Addr):Prop where
 hx:XF h x C dx
 jc:rU h dx st pb b.line
 fJ:oP h st ds
 KI:nA h ds lam
 oQ:l9 R h lam cc cell
 aR:h.IsCell cell (some (.ref sg))
 iT:kB h sg b.chars
 nB:qi h pb b.push
 nd:[x,dx,st,ds,lam,cc,cell,sg,pb].Nodup
 sz:b.chars.length<=ag
section
variable{R:bW}{C:Addr}{h h':Ap}{b:aj}{x dx st ds lam cc cell sg pb:Addr}
theorem IsCell.up{v:Option Value}(f:h.IsCell cell v)(k:lB h h' cell):h'.IsCell cell v:=by obtain⟨o,e,r⟩:=f;exact⟨o,k _ e,r⟩
theorem wA.upd{b':aj}(L:wA R C h b x dx st ds lam cc cell sg pb)(k:∀a∈[st,ds,lam,cc,cell],lB h h' a)(hx:XF h' x C dx)(jc:rU h' dx st pb b'.line)(iT:kB h' sg b'.chars)(nB:qi h' pb b'.push)(sz:b'.chars.length<=ag):wA R C h' b' x dx st ds lam cc cell sg pb:=
 ⟨hx,jc,L.fJ.up (k _ (.head _)),L.KI.up (k _ (.tail _ (.head _))),L.oQ.up (k _ (.tail _ (.tail _ (.head _)))) (k _ (.tail _ (.tail _ (.tail _ (.head _))))),IsCell.up L.aR (k _ (.tail _ (.tail _ (.tail _ (.tail _ (.head _)))))),iT,nB,L.nd,sz⟩
theorem wA.keep(L:wA R C h b x dx st ds lam cc cell sg pb)(k:∀a∈[x,dx,st,ds,lam,cc,cell,sg,pb],∀o,h.get? a=some o->h'.get? a=some o):wA R C h' b x dx st ds lam cc cell sg pb:=
 L.upd (fun a ha=>k a (.tail _ (.tail _ (Az [sg,pb] ha)))) (L.hx.up (k _ (.head _))) (L.jc.up (k _ (.tail _ (.head _)))) (L.iT.at' fun o e=>k _ (Ar [x,dx,st,ds,lam,cc,cell] (.head _)) o e) (L.nB.up (k _ (Ar [x,dx,st,ds,lam,cc,cell] (.tail _ (.head _))))) L.sz
theorem wA.bU(L:wA R C h b x dx st ds lam cc cell sg pb):∀a∈[x,dx,st,ds,lam,cc,cell,sg,pb],∃o,h.get? a=some o:=
 fa L.hx.bU (fa L.jc.bU (fa L.fJ.bU (fa L.KI.bU (fa L.oQ.bU (fa L.oQ.KH (fa (L.aR.elim fun o e=>⟨o,e.1⟩) (fa (by obtain⟨_,⟨_,e⟩,_⟩:=L.iT;exact⟨_,e⟩) (fa L.nB.bU dE))))))))
end
set_option genInjectivity true
inductive iD(R:bW)(C:Addr)(v:Value)(b:aj)(F:List Addr)(h:Ap):Prop
 |mk (x dx st ds lam cc cell sg pb:Addr) (e:v= .ref x) (hF:F=[x,dx,st,ds,lam,cc,cell,sg,pb]) (L:wA R C h b x dx st ds lam cc cell sg pb):iD R C v b F h
theorem iD.frame{R:bW}{C:Addr}{v:Value}{b:aj}{F:List Addr}{h h':Ap}(x:iD R C v b F h)(k:∀a∈F,∀o,h.get? a=some o->h'.get? a=some o):iD R C v b F h':=by
 obtain⟨x,dx,st,ds,lam,cc,cell,sg,pb,rfl,rfl,L⟩:=x
 exact⟨x,dx,st,ds,lam,cc,cell,sg,pb,rfl,rfl,L.keep k⟩
theorem iD.bU{R:bW}{C:Addr}{v:Value}{b:aj}{F:List Addr}{h:Ap}(x:iD R C v b F h):∀a∈F,∃o,h.get? a=some o:=by
 obtain⟨x,dx,st,ds,lam,cc,cell,sg,pb,rfl,rfl,L⟩:=x
 exact L.bU
noncomputable def wG(R:bW)(C:Addr)(bx:List Addr):tQ where
 is v b F h:=F=bx/\iD R C v b F h
 frame:=fun h k=>⟨h.1,h.2.frame k⟩
 bU:=fun h=>h.2.bU
section
variable{X:Ctx}{tv dv:List Nat}{K:Addr->Option Obj}{env:Dv}{A:Al}{s₀ s s':Ab}{g:Sg}{N:Nat->List Addr}{F:List Addr}
theorem aw.t7(T:aw X tv dv K env A s₀ g N F s)(hs:yZ s s')(hk:∀a o,a∉F->s.heap.get? a=some o->s'.heap.get? a=some o){v:Value}{b':aj}(hb:X.BK.is v b' F s'.heap):
  aw X tv dv K env A s₀ {g with β:=some (v,b')} N F s':=by
 have hl:env.locals∉F:=fun h=>(T.foot _ h).2.2.2.1 rfl
 have hc:∀x c,env.cells.lookup x=some c->c∉F:=fun x c e h=>(T.foot _ h).2.2.2.2 x c e rfl
 have hn:∀j a,a∈N j->a∉F:=fun j a ha h=>(T.foot a h).2.2.1 j ha
 have up:∀j a,a∈N j->∀o,s.heap.get? a=some o->s'.heap.get? a=some o:=fun j a ha o e=>hk a o (hn j a ha) e
 have acc:∀x u,Acc env s.heap x u->Acc env s'.heap x u:=fun x u h=>by
  rcases h with⟨h1,m,h2,h3⟩|⟨h1,c,h2,o,h3,h4⟩
  ·exact .inl ⟨h1,m,h2.at' fun o e=>hk _ o hl e,h3⟩
  ·exact .inr ⟨h1,c,h2,o,hk c o (hc x c h2) h3,h4⟩
 exact
  {T with
   len:=T.len
   loc:=by obtain⟨m,h⟩:=T.loc;exact⟨m,h.at' fun o e=>hk _ o hl e⟩
   cls:=fun x c e1 e2=>by
    refine au (T.cls x c e1 e2) fun bL h5=>?_
    refine dY bL fun u o h3 h4=>?_
    exact cj ⟨u,o,hk c o (hc x c e2) h3,h4⟩ h5
   rd:=fun x i p e1 e2=>by
    obtain⟨u,a,r⟩:=T.rd x i p e1 e2
    exact⟨u,acc x u a,r.on fun a ha o e=>up i a ha o e⟩
   nd:=fun j a ha=>by obtain⟨items,n,e⟩:=T.nd j a ha;exact⟨items,n,up j a ha _ e⟩
   kept:=fun a o e=>hk a o (fun h=>by rw[(T.foot a h).1]at e;exact nn e) (T.kept a o e)
   same:=T.same.trans hs
   book:=fun u b e=>by obtain⟨rfl,rfl⟩:=Bg (Aa e);exact hb
   foot:=fun a ha=>by
    refine dX (T.foot a ha) fun h1 _ h3=>?_
    exact⟨h1,X.BK.bU hb a ha,h3⟩}
theorem KJ:∀(names:List (Str×C8)) (n:Nat) (acc:List (Str×Addr)) (x:Str) (c:Addr),(x,c)∈Gl n names acc->(x,C4)∈names\/(x,c)∈acc
 |[],n,acc,x,c,h=> .inr h
 |(y,k)::r,n,acc,x,c,h=>by
  unfold Gl at h
  split at h
  ·next hk=>
   have hk:k= .cell:=by exact eq_of_beq hk
   subst hk
   rcases KJ r _ _ x c h with h|h
   ·exact .inl (Aj _ h)
   ·rcases Ax.mp h with h|h
    ·obtain⟨rfl,rfl⟩:=Bg h;exact .inl (Ai ..)
    ·exact .inr h
  ·rcases KJ r _ _ x c h with h|h
   ·exact .inl (Aj _ h)
   ·exact .inr h
theorem KL{name:Str}{params:Arguments}{body:List Stmt}{scope:Scope}{xs:List Str}{a:Addr}{ps:List PV}{vs:List Value}{ns:List Addr}{R:D3->Ab->Prop}{β:Option (Value×aj)}
  (hC:X.C=xY scope xs) (bg:jb scope xs=true) (dz:lu s.heap a name params body scope) (cx:s.heap.NoLimit) (aN:wH (X.W.D+1) A)
  (hK:∀b o,K b=some o->s.heap.get? b=some o) (wd:∀h:Ap,(∀b o,K b=some o->h.get? b=some o)->X.W.Wd h)
  (de:∀v b,β=some (v,b)->X.BK.is v b F s.heap) (hF:∀b∈F,K b=none/\(∃o,s.heap.get? b=some o)/\b∉ns)
  (bo:∀pm cd doc,E6 (Fx name params body scope pm cd doc) ⟨vs,[]⟩=pure (xs.zip vs)) (hr:ak s.heap ps vs ns) (hlen:ps.length=xs.length)
  (rl:∀i,i∈tv\/i∈dv->xs.length<=i)
  (eC:∀(env:Dv) (cd:Value) (aa:Ab) (N:Nat->List Addr),env.code=cd->env.qual=name++ ".<locals>." ->(∃o fd,s.heap.get? a=some o/\o.data= .func fd/\fd.code=cd)->(∀x c,env.cells.lookup x=some c->(x,C4)∈scope.names)->aw X tv dv K env (A.deeper env) s (ey X.C ps β) N F aa->Am (Af X.W.prog X.W.w) (A.deeper env) (Ge body env) (fun fw s'=>R (.ok (.ret (match fw with| .ret v=>v|_=> .none))) s') (fun _ _=>False) aa):
  Ca (Af X.W.prog X.W.w) A (.call (.ref a) ⟨vs,[]⟩) R s:=by
 obtain⟨o,pm,cd,doc,ho,dF,gF⟩:=dz
 have fv:=bg
 unfold jb at fv
 simp only[A0,Ao,beq_iff_eq,Eh,Dj]at fv
 refine au fv fun bL iw=>?_
 refine au bL fun bL ot=>?_
 obtain⟨⟨⟨hk,i5⟩,gG⟩,ia⟩:=bL
 have vH:∀j x,xs[j]?=some x->(yQ scope xs)[j]?=some x:=fun j x e=>by
  unfold yQ
  rw[B4 (Bc.mp e).1];exact e
 have lY:xV xs=true:=by
  have:∀(l m:List Str),xV (l++m)=true->xV l=true:=by
   intro l
   induction l with
   |nil=>intro m _;rfl
   |cons y r ih=>
    intro m h
    simp only[B9,xV,A0,Dj,Bx,decide_eq_false_iff_not]at h⊢
    exact cj (fun hm=>h.1 (Az _ hm)) (ih m h.2)
  exact this xs _ ia
 have dM:∀x,scope.names.lookup x=some .cell->∀n,((Gl n scope.names []).lookup x).isSome=true:=fun x e n=>BF _ _ _ (.inl (zS e))
 have hsz:∀b o,s.heap.get? b=some o->b<s.heap.objs.size:=fun b o e=>Bk e
 have vI:xs.length<=(yQ scope xs).length:=by unfold yQ;simp
 have pX:X.C.kn=scope.names:=by refine af hC ?_;rfl
 have rn:X.C.Γ=kZ 0 (yQ scope xs):=by refine af hC ?_;rfl
 have hn:X.C.n=(yQ scope xs).length:=by refine af hC ?_;rfl
 have pY:∀x∈xs,scope.names.lookup x=some .local\/scope.names.lookup x=some .cell:=fun x hx=>ot x (by exact Az _ hx)
 refine call_cells_ret (by have:=aN.depth;omega) ho dF cx gF (bo pm cd doc) (fun y hy=>?_) (fun ah tk Fm Xc=>?_) i5 gG hk
 ·have hx:y.1∈xs:=(Ie hy).1
  rcases pY y.1 hx with e|e
  ·exact .inl e
  ·exact .inr ⟨e,dM _ e _⟩
 ·refine aB hr.split fun LL vJ HQ=>?_
  have up:Sub s.heap ah:=Fm.keep
  have cu:∀c o,s.heap.get? c=some o->c<s.heap.objs.size:=fun c o e=>Bk e
  have Kn:∀c,s.heap.objs.size<=c->K c=none:=fun c hc=>by
   cases q:K c with
   |none=>rfl
   |some o=>exact absurd (cu c o (hK c o q)) (Es.mpr hc)
  have above:∀x c,(Gl (s.heap.objs.size+1) scope.names []).lookup x=some c->s.heap.objs.size<c:=fun x c e=>Xc.above x c (D0 e)
  generalize bG:envOfC name scope s.heap.objs.size a cd=env at*
  have bM:env.cells=Gl (s.heap.objs.size+1) scope.names []:=by refine ct bG ?_;rfl
  have bf:env.locals=s.heap.objs.size:=by refine ct bG ?_;rfl
  have eB:env.scope=scope:=by refine ct bG ?_;rfl
  have T:aw X tv dv K env (A.deeper env) s (ey X.C ps β) (fun i=>if i<ps.length then LL.getD i []else []) F {s with heap:=ah,toks:=tk}:=
   {gV:=by refine af hC ?_;exact BE bg
    kind:=by refine af eB ?_;exact hk
    names:=by(refine af eB ?_;exact af pX rfl)
    gl:=by refine ct bG ?_;rfl
    bl:=by refine ct bG ?_;rfl
    room:=aN.deeper env
    eT:=fun x k e1 e2=>by
     rw[pX]at e1
     rcases e2 with rfl|rfl
     ·refine af bM ?_;exact E8.mp (dM x e1 _)
     ·have:=iw _ (zS e1);simp at this
    fj:=fun x y c e1 e2=>by
     rw[bM]at e1 e2
     exact name_of_addr Xc.apart (D0 e1) (D0 e2)
    len:=by refine(?_:(ps.map some++Ay (X.C.n-ps.length) none).length=_);(refine af Ah ?_;refine af (An ..) ?_;refine af E0 ?_;refine af hn ?_);omega
    loc:=⟨_,by refine af bf ?_;exact Fm.ns⟩
    dJ:=by refine af bf ?_;exact Kn _ (Br _)
    cls:=fun x c e1 e2=>by
     rw[bM]at e2
     exact cj ⟨_,Xc.cell x c e2⟩ (Kn c (Ci (above x c e2)))
    rd:=fun x i p e1 e2=>by
     rw[rn]at e1
     refine aB (wF e1) fun j e3 e4=>?_
     have:i=j:=by refine af e3 ?_;exact Cp j
     subst this
     have e2:(ps.map some++Ay (X.C.n-ps.length) none)[i]?=some (some p):=e2
     have hi:i<ps.length:=by
      by_cases hi:i<ps.length
      ·exact hi
      ·rw[C1 (by simpa using hi)]at e2
       have:=C2 e2
       have:=Gq this
       exact sn this
     rw[B4 (by simpa using hi),Bi]at e2
     have e5:ps[i]?=some p:=by
      cases q:ps[i]? with
      |none=>rw[q]at e2;exact nn e2
      |some z=>rw[q]at e2;cases e2;rfl
     refine aB (vJ i p e5) fun v e6 e7=>?_
     have e8:xs[i]?=some x:=by
      obtain⟨y,hy⟩:∃y,xs[i]?=some y:=⟨xs[i]'(by omega),by simp⟩
      have:=vH i y hy
      rw[e4]at this;obtain rfl:=Aa this;exact hy
     refine au ((HP (kindOf:=env.kindOf) (vs:=vs) (fun _=>none) (fun _=>none) lY).1 i x v e8 e6) fun b1 b2=>?_
     refine⟨v,?_,?_⟩
     ·have kk:∀k,scope.names.lookup x=some k->env.kindOf x=some k:=fun k e=>by unfold Be;refine af eB ?_;exact e
      rcases pY x (C2 e8)with e|e
      ·exact .inl ⟨kk _ e,_,by refine af bf ?_;exact Fm.ns,b1 (kk _ e)⟩
      ·refine aJ (E8.mp (dM x e (s.heap.objs.size+1))) fun c hc=>?_
       have:=Xc.cell x c hc
       rw[b2 (by rw[kk _ e];simp)]at this
       exact .inr ⟨.inl (kk _ e),c,by refine af bM ?_;exact hc,this⟩
     ·refine(?_:VR ah p v (if i<ps.length then LL.getD i []else []))
      refine af (if_pos hi) ?_;exact e7.sub up
    nd:=fun j b hb=>by
     split at hb
     ·rename_i hj
      refine aB (vJ j ps[j] (by simp)) fun v e6 e7=>?_
      refine gc (e7.nodes b hb) fun items n e=>?_
      exact Oa items n (up _ _ e)
     ·cases hb
    bO:=fun i hi b q e=>by
     have:=rl i (.inl hi)
     rw[if_neg (by omega)]at e;cases e
    deep:=fun i hi=>by
     have:=rl i (.inr hi)
     rw[if_neg (by omega)]
     exact cj Er (fun _ h=>nomatch h)
    kept:=fun b o e=>up b o (hK b o e)
    eO:=wd
    same:=⟨ah,tk,s.gens,rfl, .rfl' _⟩
    book:=fun v b e=>X.BK.frame (de v b e) fun c _ o e=>up c o e
    foot:=fun b hb=>by
     refine dX (hF b hb) fun h1 ib h3=>?_
     refine aJ ib fun o h2=>?_
     have aX:=cu b o h2
     refine uT h1 ⟨o,up b o h2⟩ (fun j=>?_) ?_ (fun x c e=>?_)
     ·split
      ·exact fun hm=>h3 (HQ j b hm)
      ·exact fun h=>nomatch h
     ·refine af bf ?_;exact Bo aX
     ·rw[bM]at e
      exact Bo (Nat.lt_trans aX (above x c e))}
  exact eC env cd _ _ (by refine ct bG ?_;rfl) (by refine ct bG ?_;rfl) ⟨o,_,ho,dF,rfl⟩ (fun x c e=>by
   rw[bM]at e
   exact(KJ _ _ _ _ _ (D0 e)).resolve_right fun h=>nomatch h) T
theorem QF{name qual:Str}{params:Arguments}{body:List Stmt}{scope:Scope}{xs:List Str}{a:Addr}{ps:List PV}{vs:List Value}{R:D3->Ab->Prop}{β:Option (Value×aj)}
  (hC:X.C=xY scope xs) (bg:jb scope xs=true) (iS:scope.names.all (fun y=>y.2 != .cell)=true) (dz:lA s.heap a name qual params body scope) (cx:s.heap.NoLimit) (aN:wH (X.W.D+1) A)
  (hK:∀b o,K b=some o->s.heap.get? b=some o) (wd:∀h:Ap,(∀b o,K b=some o->h.get? b=some o)->X.W.Wd h)
  (de:∀v b,β=some (v,b)->X.BK.is v b F s.heap) (hF:∀b∈F,K b=none/\(∃o,s.heap.get? b=some o))
  (bo:∀pm cd doc,E6 (H9 name qual params body scope pm cd doc .none) ⟨vs,[]⟩=pure (xs.zip vs)) (hr:ak s.heap ps vs []) (hlen:ps.length=xs.length)
  (eC:∀(env:Dv) (aa:Ab),aw X [] [] K env (A.deeper env) s (ey X.C ps β) (fun _=> []) F aa->Am (Af X.W.prog X.W.w) (A.deeper env) (Ge body env) (fun fw s'=>R (.ok (.ret (match fw with| .ret v=>v|_=> .none))) s') (fun _ _=>False) aa):
  Ca (Af X.W.prog X.W.w) A (.call (.ref a) ⟨vs,[]⟩) R s:=by
 obtain⟨o,pm,cd,doc,ho,ma,dF,gF⟩:=dz
 have fv:=bg
 unfold jb at fv
 simp only[A0,Ao,beq_iff_eq,Eh,Dj]at fv
 refine au fv fun bL iw=>?_
 refine au bL fun bL ot=>?_
 obtain⟨⟨⟨hk,i5⟩,gG⟩,ia⟩:=bL
 have rV:∀y∈scope.names,y.2≠ .cell:=fun y hy q=>by
  have:=Ao.mp iS y hy
  rw[q]at this;exact ft this
 have vH:∀j x,xs[j]?=some x->(yQ scope xs)[j]?=some x:=fun j x e=>by
  unfold yQ
  rw[B4 (Bc.mp e).1];exact e
 have lY:xV xs=true:=by
  have:∀(l m:List Str),xV (l++m)=true->xV l=true:=by
   intro l
   induction l with
   |nil=>intro m _;rfl
   |cons y r ih=>
    intro m h
    simp only[B9,xV,A0,Dj,Bx,decide_eq_false_iff_not]at h⊢
    exact cj (fun hm=>h.1 (Az _ hm)) (ih m h.2)
  exact this xs _ ia
 have vI:xs.length<=(yQ scope xs).length:=by unfold yQ;simp
 have pX:X.C.kn=scope.names:=by refine af hC ?_;rfl
 have rn:X.C.Γ=kZ 0 (yQ scope xs):=by refine af hC ?_;rfl
 have hn:X.C.n=(yQ scope xs).length:=by refine af hC ?_;rfl
 have pY:∀x∈xs,scope.names.lookup x=some .local:=fun x hx=>by
  rcases ot x (by exact Az _ hx)with h|h
  ·exact h
  ·exact absurd rfl (rV _ (zS h))
 refine call_methW_ret (by have:=aN.depth;omega) ho dF cx gF (.of_eq (bo pm cd doc)) (fun y hy=>pY y.1 (Ie hy).1) (fun ah Fm=>?_) i5 gG hk rV
 have up:Sub s.heap ah:=Fm.keep
 generalize bG:envOf qual scope s.heap.objs.size a cd=env at*
 have bf:env.locals=s.heap.objs.size:=by refine ct bG ?_;rfl
 have eB:env.scope=scope:=by refine ct bG ?_;rfl
 have KN:env.cells=[]:=by refine ct bG ?_;rfl
 have Kn:∀c,s.heap.objs.size<=c->K c=none:=fun c hc=>by
  cases q:K c with
  |none=>rfl
  |some o=>exact absurd (Bk (hK c o q)) (Es.mpr hc)
 have KO:∀{xs:List Str} {vs:List Value},xV xs=true->∀(j:Nat) (x:Str) (v:Value),xs[j]?=some x->vs[j]?=some v->(xs.zip vs).reverse.lookup x=some v:=by
  intro xs
  induction xs with
  |nil=>intro vs _ j x v e1 _;exact nn e1
  |cons y r ih=>
   intro vs hd j x v e1 e2
   simp only[xV,A0,Dj,Bx,decide_eq_false_iff_not]at hd
   cases vs with
   |nil=>exact nn e2
   |cons u us=>
    refine af Gz ?_
    refine af List.reverse_cons ?_
    refine af OK ?_
    cases j with
    |zero=>
     obtain rfl:=Aa e1;obtain rfl:=Aa e2
     have:(r.zip us).reverse.lookup y=none:=by
      cases q:(r.zip us).reverse.lookup y with
      |none=>rfl
      |some z=>
       have hm:=zS q
       rw[List.mem_reverse]at hm
       exact absurd (Ie hm).1 hd.1
     refine af this ?_;simp
    |succ j=>
     rw[ih hd.2 j x v (by simpa using e1) (by simpa using e2)];simp
 refine eC env _ ?_
 exact
   {gV:=by refine af hC ?_;exact BE bg
    kind:=by refine af eB ?_;exact hk
    names:=by(refine af eB ?_;exact af pX rfl)
    gl:=by refine ct bG ?_;rfl
    bl:=by refine ct bG ?_;rfl
    room:=aN.deeper env
    eT:=fun x k e1 e2=>by
     rw[pX]at e1
     rcases e2 with rfl|rfl
     ·exact absurd rfl (rV _ (zS e1))
     ·have:=iw _ (zS e1);simp at this
    fj:=fun x y c e1 e2=>by rw[KN]at e1;exact nn e1
    len:=by refine(?_:(ps.map some++Ay (X.C.n-ps.length) none).length=_);(refine af Ah ?_;refine af (An ..) ?_;refine af E0 ?_;refine af hn ?_);omega
    loc:=⟨_,by refine af bf ?_;exact Fm.ns⟩
    dJ:=by refine af bf ?_;exact Kn _ (Br _)
    cls:=fun x c e1 e2=>by rw[KN]at e2;exact nn e2
    rd:=fun x i p e1 e2=>by
     rw[rn]at e1
     refine aB (wF e1) fun j e3 e4=>?_
     have:i=j:=by refine af e3 ?_;exact Cp j
     subst this
     have e2:(ps.map some++Ay (X.C.n-ps.length) none)[i]?=some (some p):=e2
     have hi:i<ps.length:=by
      by_cases hi:i<ps.length
      ·exact hi
      ·rw[C1 (by simpa using hi)]at e2
       have:=C2 e2
       have:=Gq this
       exact sn this
     rw[B4 (by simpa using hi),Bi]at e2
     have e5:ps[i]?=some p:=by
      cases q:ps[i]? with
      |none=>rw[q]at e2;exact nn e2
      |some z=>rw[q]at e2;cases e2;rfl
     refine cX (hr.get e5) fun v n e6 e7 YJ=>?_
     have:n=[]:=Hv.mpr fun a ha=>nomatch YJ a ha
     subst this
     have e8:xs[i]?=some x:=by
      obtain⟨y,hy⟩:∃y,xs[i]?=some y:=⟨xs[i]'(by omega),by simp⟩
      have:=vH i y hy
      rw[e4]at this;obtain rfl:=Aa this;exact hy
     refine⟨v, .inl ⟨?_,_,by refine af bf ?_;exact Fm.ns,KO lY i x v e8 e6⟩,e7.sub up⟩
     unfold Be;refine af eB ?_;exact pY x (C2 e8)
    nd:=fun j b hb=>nomatch hb
    bO:=fun i hi=>nomatch hi
    deep:=fun i hi=>nomatch hi
    kept:=fun b o e=>up b o (hK b o e)
    eO:=wd
    same:=⟨ah,_,s.gens,rfl, .rfl' _⟩
    book:=fun v b e=>X.BK.frame (de v b e) fun c _ o e=>up c o e
    foot:=fun b hb=>by
     refine au (hF b hb) fun h1 ib=>?_
     refine aJ ib fun o h2=>?_
     refine uT h1 ⟨o,up b o h2⟩ (fun j h=>nomatch h) ?_ (fun x c e=>?_)
     ·refine af bf ?_;exact Bo (Bk h2)
     ·rw[KN]at e;cases e}
end
theorem KP:Cq (.type "object") "lineno" =pure none:=by rw[Bh,A1];kernel_rfl
theorem QG:Cq (.type "object") "instream" =pure none:=by rw[Bh,A1];kernel_rfl
theorem QH:Cq (.type "object") "whitespace" =pure none:=by rw[Bh,A1];kernel_rfl
theorem QI:Cq (.type "object") "pushback" =pure none:=by rw[Bh,A1];kernel_rfl
theorem QJ:Cq (.type "object") "_read_char" =pure none:=by rw[Bh,A1];kernel_rfl
theorem YK:Cq (.type "object") "get_token" =pure none:=by rw[Bh,A1];kernel_rfl
theorem QK:Cq (.type "function") "read" =pure none:=by rw[Bh,A1];kernel_rfl
section
variable{prog:Program}{w:Cn}{A:Al}{E:Value->Ab->Prop}{s:Ab}{R:bW}{C N fI fR fG fP:Addr}{b:aj}{x dx st ds lam cc cell sg pb:Addr}
theorem wA.inst{h:Ap}(L:wA R C h b x dx st ds lam cc cell sg pb):∃mA,h.Inst x C mA/\(∃t,mA "lineno" =some (.int b.line t))/\mA "instream" =some (.ref st)/\(∃t,mA "whitespace" =some (.str ⟨#[10,9,13,32]⟩ t))/\mA "pushback" =some (.ref pb)/\∀n:Str,n∉(["lineno", "instream", "whitespace", "pushback"]:List Str)->mA n=none:=by
 refine jS L.hx fun o e h1 h2 h3=>?_
 refine aB L.jc fun mA hn r=>?_
 have cU:dx≠x:=fun q=>(Dl.mp L.nd).1 (q▸ .head _)
 exact i12 mA ⟨o,e,h1,h2, .inr ⟨dx,h3,cU,hn⟩⟩ r
theorem CH{name:Str}{u:Value}{expr:Bool}{Q:Value->Ab->Prop}{mA:Str->Option Value}(c:fQ s.heap C N fI fR fG fP)(iE:∀mN:Str->Option Value,mN "lineno" =none->mN "instream" =none->mN "whitespace" =none->mN "pushback" =none->mN name=none)
  (hB:Cq (.type "object") name=pure none) (I:s.heap.Inst x C mA) (hv:mA name=some u) (hh:handedOut u=pure u) (hq:Q u {s with toks:=s.toks+1}):Am (Af prog w) A (J2 (.ref x) name expr) Q E s:=by
 obtain⟨⟨nm,q,bs,sn,sub,col,dd,k0,k1,k2,k3,k5,hC⟩,mN,hN,_,_,_,_,wq,_,_,h1,h2,h3,h4⟩:=c
 obtain⟨h,g,d,t,os⟩:=s
 exact load_attr hC hN wq (iE mN h1 h2 h3 h4) hB I hv hh hq
theorem QL{name:Str}{f:Addr}{of:Obj}{pl:Kf Bool}{Q:Value×List Value->Ab->Prop}(c:fQ s.heap C N fI fR fG fP)(hf:∀mN:Str->Option Value,mN "_read_char" =some (.ref fR)->mN "get_token" =some (.ref fG)->mN "push_token" =some (.ref fP)->mN name=some (.ref f))
  (ho:s.heap.get? f=some of) (nz:of.cls= .type "function") (hB:Cq (.type "object") name=pure none) (L:wA R C s.heap b x dx st ds lam cc cell sg pb) (hn:name∉(["lineno", "instream", "whitespace", "pushback"]:List Str)) (hq:Q (.ref f,[.ref x]) s):Am (Af prog w) A (getMethod (.ref x) name pl) Q E s:=by
 obtain⟨⟨nm,q,bs,sn,sub,col,dd,k0,k1,k2,k3,k5,hC⟩,mN,hN,_,hR,hG,hP,wq,KQ,_⟩:=c
 refine qM L.inst fun mA I _ _ _ _ dR=>?_
 obtain⟨h,g,d,t,os⟩:=s
 exact method_of hC hN wq KQ (hf mN hR hG hP) ho nz hB I (dR _ hn) hq
theorem QM{expr:Bool}{Q:Value->Ab->Prop}(L:wA R C s.heap b x dx st ds lam cc cell sg pb)(c:fQ s.heap C N fI fR fG fP)(hq:∀t,Q (.int b.line t) {s with toks:=s.toks+1}):
  Am (Af prog w) A (J2 (.ref x) "lineno" expr) Q E s:=by
 refine kU L.inst fun mA I jE _=>?_
 refine aJ jE fun t h1=>?_
 exact CH c (fun _ h _ _ _=>h) KP I h1 rfl (hq t)
theorem YL{expr:Bool}{Q:Value->Ab->Prop}(L:wA R C s.heap b x dx st ds lam cc cell sg pb)(c:fQ s.heap C N fI fR fG fP)(hq:Q (.ref st) {s with toks:=s.toks+1}):
  Am (Af prog w) A (J2 (.ref x) "instream" expr) Q E s:=by
 refine jS L.inst fun mA I _ h1 _=>?_
 exact CH c (fun _ _ h _ _=>h) QG I h1 rfl hq
theorem YM{expr:Bool}{Q:Value->Ab->Prop}(L:wA R C s.heap b x dx st ds lam cc cell sg pb)(c:fQ s.heap C N fI fR fG fP)(hq:∀t,Q (.str ⟨#[10,9,13,32]⟩ t) {s with toks:=s.toks+1}):
  Am (Af prog w) A (J2 (.ref x) "whitespace" expr) Q E s:=by
 refine pG L.inst fun mA I _ _ YN _=>?_
 refine aJ YN fun t h1=>?_
 exact CH c (fun _ _ _ h _=>h) QH I h1 rfl (hq t)
theorem QN{expr:Bool}{Q:Value->Ab->Prop}(L:wA R C s.heap b x dx st ds lam cc cell sg pb)(c:fQ s.heap C N fI fR fG fP)(hq:Q (.ref pb) {s with toks:=s.toks+1}):
  Am (Af prog w) A (J2 (.ref x) "pushback" expr) Q E s:=by
 refine qM L.inst fun mA I _ _ _ h1 _=>?_
 exact CH c (fun _ _ _ _ h=>h) QI I h1 rfl hq
theorem YO{mA:Str->Option Value}(h:∀n:Str,n∉(["lineno", "instream", "whitespace", "pushback"]:List Str)->mA n=none):Within mA ["lineno", "instream", "whitespace", "pushback"]:=fun y hy=>C9 fun hn=>hy (h y hn)
structure lC(h:Ap)(C x dx:Addr)(mA:Str->Option Value):Prop where
 o:XF h x C dx
 d:h.Ns1 dx mA
 ne:dx≠x
theorem lC.up{h h':Ap}{x dx:Addr}{mA:Str->Option Value}(I:lC h C x dx mA)(k:Sub h h'):lC h' C x dx mA:=by
 refine qN I.d fun o' es ep e2 r2=>?_
 exact⟨I.o.up (k _),⟨o',es,ep,k _ _ e2,r2⟩,I.ne⟩
theorem YP{h:Ap}{m:Str->Option Value}{o:Obj}(I:h.Inst x C m)(e:h.get? x=some o)(hd:o.dict=some dx):h.Ns1 dx m:=by
 refine jS I fun o' e' _ _ hI=>?_
 obtain rfl:=Aa (e.symm.trans e')
 rcases hI with⟨hn,_⟩|⟨d',md,_,bY⟩
 ·exact nn (hn.symm.trans hd)
 ·exact Aa (md.symm.trans hd)▸bY
theorem XF.QO(f:XF s.heap x C dx)(c:fQ s.heap C N fI fR fG fP):x≠C:=by
 rintro rfl
 refine jS f fun o e _ hd _=>?_
 obtain⟨_,_,_,_,_,_,_,_,_,_,_,_,hC⟩:=c.cls
 exact hd _ (congrArg Obj.data (Aa (e.symm.trans hC)))
theorem QP{x dx:Addr}{mA:Str->Option Value}{ns:List Str}{name:Str}{v:Value}{Q:Unit->Ab->Prop}(I:lC s.heap C x dx mA)(c:fQ s.heap C N fI fR fG fP)(iE:∀mN:Str->Option Value,mN "lineno" =none->mN "instream" =none->mN "whitespace" =none->mN "pushback" =none->mN name=none)
  (hB:Cq (.type "object") name=pure none) (hw:Within mA ns) (bY:ns.length<=100)
  (hq:∀h' tk,lC h' C x dx (fun y=>if y=name then some v else mA y)->(∀a o,a≠x->a≠dx->s.heap.get? a=some o->h'.get? a=some o)->Q () {s with heap:=h',toks:=tk}):
  Am (Af prog w) A (setAttr (.ref x) name v) Q E s:=by
 have nE:=I.o.QO c
 obtain⟨⟨nm,q,bs,sn,sub,col,dd,k0,k1,k2,k3,k5,hC⟩,mN,hN,_,_,_,_,_,_,qj,h1,h2,h3,h4⟩:=c
 refine jS I.o fun o hx hc hd jc=>?_
 obtain⟨h,g,d,t,os⟩:=s
 refine store_attr PySem.F.store_object hC hN qj (iE mN h1 h2 h3 h4) hB nE ⟨o,hx,hc,hd, .inr ⟨dx,jc,I.ne,I.d⟩⟩ (fun h' tk I' hk eK=>?_) hw (by rw[Bm];exact zB)
 refine pG (eK o hx) fun jd e1 c1 d1 _ QQ=>?_
 exact hq h' tk ⟨⟨jd,e1,c1.trans hc,fun c q=>hd c (d1▸q),QQ dx jc⟩,YP I' e1 (QQ dx jc),I.ne⟩ fun a oa h1 h2 e=>hk a oa h1 (fun YQ d' e0 e1 q=>h2 (q.trans (Aa (e1.symm.trans (Aa (Eq.trans (Fw e0) hx)▸jc))))) e
theorem wA.sep(L:wA R C s.heap b x dx st ds lam cc cell sg pb){l m:List Addr}(e:l++m=[x,dx,st,ds,lam,cc,cell,sg,pb]){a c:Addr}(ha:a∈l)(hc:c∈m):a≠c:=(I5.mp (e.symm▸L.nd)).2.2 a ha c hc
theorem YR{Q:Unit->Ab->Prop}{n:Int}{tn:Jr}(L:wA R C s.heap b x dx st ds lam cc cell sg pb)(c:fQ s.heap C N fI fR fG fP)
  (hq:∀h' tk,wA R C h' {b with line:=n} x dx st ds lam cc cell sg pb->(∀a o,a≠x->a≠dx->s.heap.get? a=some o->h'.get? a=some o)->Q () {s with heap:=h',toks:=tk}):
  Am (Af prog w) A (setAttr (.ref x) "lineno" (.int n tn)) Q E s:=by
 refine qM L.jc fun mA bY hl hi hw hp ho=>?_
 refine QP ⟨L.hx,bY,(L.sep (l:=[x]) rfl (.head _) (.head _)).symm⟩ c (fun _ h _ _ _=>h) KP (YO ho) (by decide) fun h' tk I k=>hq h' tk ?_ k
 have kk:∀a∈[st,ds,lam,cc,cell,sg,pb],lB s.heap h' a:=fun a ha o=>k a o (L.sep (l:=[x,dx]) rfl (.head _) ha).symm (L.sep (l:=[x,dx]) rfl (.tail _ (.head _)) ha).symm
 exact L.upd (fun a ha=>kk a (Az [sg,pb] ha)) I.o ⟨_,I.d,⟨tn,if_pos rfl⟩,hi,hw,hp,fun n hn=>(if_neg (c:=n= "lineno") fun q=>hn (q▸Ai ..)).trans (ho n hn)⟩
  (L.iT.at' fun o e=>kk _ (Ar [st,ds,lam,cc,cell] (.head _)) o e) (L.nB.up (kk _ (Ar [st,ds,lam,cc,cell] (.tail _ (.head _))))) L.sz
theorem wA.chars{h':Ap}{cs:List Nat}(L:wA R C s.heap b x dx st ds lam cc cell sg pb)(k:∀a o,a≠sg->s.heap.get? a=some o->h'.get? a=some o)(hs:kB h' sg cs)(hsz:cs.length<=ag):
  wA R C h' {b with chars:=cs} x dx st ds lam cc cell sg pb:=by
 have kk:∀a∈[x,dx,st,ds,lam,cc,cell],lB s.heap h' a:=fun a ha o=>k a o (L.sep (l:=[x,dx,st,ds,lam,cc,cell]) rfl ha (.head _))
 exact L.upd (fun a ha=>kk a (.tail _ (.tail _ ha))) (L.hx.up (kk _ (.head _))) (L.jc.up (kk _ (.tail _ (.head _)))) hs (L.nB.up fun o=>k pb o (L.sep (l:=[x,dx,st,ds,lam,cc,cell,sg]) rfl (Ar [x,dx,st,ds,lam,cc,cell] (.head _)) (.head _)).symm) hsz
theorem wA.push{h':Ap}{ws:List (List Nat)}(L:wA R C s.heap b x dx st ds lam cc cell sg pb)(k:∀a o,a≠pb->s.heap.get? a=some o->h'.get? a=some o)(hs:qi h' pb ws):
  wA R C h' {b with push:=ws} x dx st ds lam cc cell sg pb:=by
 have kk:∀a∈[x,dx,st,ds,lam,cc,cell,sg],lB s.heap h' a:=fun a ha o=>k a o (L.sep (l:=[x,dx,st,ds,lam,cc,cell,sg]) rfl ha (.head _))
 exact L.upd (fun a ha=>kk a (.tail _ (.tail _ (Az [sg] ha)))) (L.hx.up (kk _ (.head _))) (L.jc.up (kk _ (.tail _ (.head _)))) (L.iT.at' fun o e=>kk _ (Ar [x,dx,st,ds,lam,cc,cell] (.head _)) o e) hs L.sz
end
structure eU(R:bW)(C N fI fR fG fP:Addr)(X:Ctx):Prop where
 bk:∃bx,X.BK=wG R C bx
 cls:∀h,X.W.Wd h->fQ h C N fI fR fG fP
 lim:∀h,X.W.Wd h->h.NoLimit
noncomputable def gX(g:Sg)(i:Nat):Option (Value×aj):=match g.σ[i]?,g.β with
 |some (some (.obj u)),some (v,b)=>if u==v then some (v,b)else none
 |_,_=>none
theorem qn{g:Sg}{i:Nat}{v:Value}{b:aj}(h:gX g i=some (v,b)):g.σ[i]?=some (some (.obj v))/\g.β=some (v,b):=by
 unfold gX at h
 cases hs:g.σ[i]? with
 |none=>rw[hs]at h;exact nn h
 |some o=>
  rw[hs]at h
  cases o with
  |none=>exact nn h
  |some p=>
   cases p with
   |obj u=>
    cases hb:g.β with
    |none=>rw[hb]at h;exact nn h
    |some vb=>
     rw[hb]at h
     refine oI h fun hu h=>?_
     refine au (Bg (Aa h)) fun aG aP=>?_
     subst aG
     subst aP
     exact cj (congrArg (fun u=>some (some (PV.obj u))) (eq_of_beq hu)) rfl
   |_=>exact nn h
section
variable{R:bW}{C N₀ fI fR fG fP:Addr}{X:Ctx}{tv dv:List Nat}{K:Addr->Option Obj}{env:Dv}{A:Al}{s₀ s s':Ab}{g:Sg}{N:Nat->List Addr}{F:List Addr}
inductive QR(R:bW)(C:Addr)(v:Value)(b:aj)(F:List Addr)(h:Ap):Prop
 |mk (x dx st ds lam cc cell sg pb:Addr) (e:v= .ref x) (hF:F=[x,dx,st,ds,lam,cc,cell,sg,pb]) (L:wA R C h b x dx st ds lam cc cell sg pb) (n:x≠C):QR R C v b F h
theorem aw.lex(Y:eU R C N₀ fI fR fG fP X)(T:aw X tv dv K env A s₀ g N F s){v:Value}{b:aj}(bV:g.β=some (v,b)):QR R C v b F s.heap:=by
 have:=T.book v b bV
 refine aJ Y.bk fun bx hb=>?_
 rw[hb]at this
 obtain⟨_,x,dx,st,ds,lam,cc,cell,sg,pb,rfl,rfl,L⟩:=this
 exact⟨x,dx,st,ds,lam,cc,cell,sg,pb,rfl,rfl,L,L.hx.QO (Y.cls _ T.pre.wd)⟩
theorem aw.self(T:aw X tv dv K env A s₀ g N F s){z:Str}{i:Nat}{v:Value}(hz:X.C.Γ.lookup z=some i)(bp:g.σ[i]?=some (some (.obj v))):Acc env s.heap z v:=by
 obtain⟨u,a,r⟩:=T.rd z i _ hz bp
 refine au r.inv fun aG _=>?_
 subst aG
 exact a
theorem aw.rW(Y:eU R C N₀ fI fR fG fP X)(T:aw X tv dv K env A s₀ g N F s){x dx st ds lam cc cell sg pb:Addr}{b b':aj}(bV:g.β=some (.ref x,b))(hF:F=[x,dx,st,ds,lam,cc,cell,sg,pb])(hs:yZ s s')(hk:∀a o,a∉F->s.heap.get? a=some o->s'.heap.get? a=some o)(L:wA R C s'.heap b' x dx st ds lam cc cell sg pb):
  aw X tv dv K env A s₀ {g with β:=some (.ref x,b')} N F s':=by
 refine aJ Y.bk fun bx hb=>?_
 have:=T.book _ b bV
 rw[hb]at this
 exact T.t7 hs hk (by rw[hb];exact⟨this.1,x,dx,st,ds,lam,cc,cell,sg,pb,rfl,hF,L⟩)
noncomputable def CI(i:Nat):dr:=fun g=>(gX g i).map fun vb=>({g with β:=some (vb.1,{vb.2 with chars:=vb.2.chars.drop 1})}, .str (vb.2.chars.take 1))
theorem wV.jf(Y:eU R C N₀ fI fR fG fP X)(wt:∃W',R.Ok W'/\W'.prog=X.W.prog/\W'.w=X.W.w/\W'.D+1=X.W.D/\∀h,X.W.Wd h->W'.Wd h){z:Str}{i:Nat}{p0 p1 ap cp:Bz}{k:Nat}{kp:Bz}(hz:X.C.Γ.lookup z=some i)(bC:bad z=false)(aV:(ap.endLine==cp.line)=true):
  wV X tv dv true (.Call (.Attribute (.Attribute (.Name z p0) "instream" p1) "read" ap) [.Constant (.int 1) k kp] [] cp) (CI i):=fun K env A E s₀ g N F s g' p T e=>by
 obtain⟨⟨v,b⟩,e1,e2⟩:=wX e
 refine au (Bg e2) fun aG aP=>?_
 subst aG
 subst aP
 refine au (qn e1) fun bp bV=>?_
 obtain⟨x,dx,st,ds,lam,cc,cell,sg,pb,rfl,hF,L,nE⟩:=T.lex Y bV
 have c:=Y.cls _ T.pre.wd
 refine YH (kr rfl _ env _) aV (zF rfl [] env) ?_
 refine Gh (Bt (zU T.kind (T.self hz bp) ?_ (wW bC)) (wE bC))
 refine YL L c fun pl=>?_
 refine uP L.fJ fun o fd h1 h2 h3 h4=>?_
 refine aB L.KI fun m h5 h6=>?_
 refine XZ (s:={s with toks:=s.toks+1}) h1 h2 h4 h3 QK h5 h6 rfl ?_
 refine AH L.oQ fun ol name qual pm fO h7 h8 h9=>?_
 refine YI (zF rfl [] env) h8 (Ft ⟨h7,?_⟩)
 refine pG wt fun W' ok q1 q2 q3 q4=>?_
 obtain⟨QS,w',YS,wu,YT,YU,g',b',D',U',KR,wx,wy⟩:=W'
 dsimp only at q1 q2 q3 q4
 subst q1 q2
 have rc:=YG (W:=⟨X.W.prog,X.W.w,YS,wu,YT,YU,g',b',D',U',KR,wx,wy⟩) (s:={s with toks:=s.toks+1+1+1}) (t:=s.toks+1+1) (lam:=lam) (cell:=cell) (l:=sg) (cs:=b.chars) (A:=A) (jk:=R.jk) (jp:=R.jp) ok (by refine af (show D'+1=X.W.D from q3) ?_;exact T.room) (q4 _ T.pre.wd) (Y.lim _ T.pre.wd) ⟨ol,name,qual,pm,_,fO,h7,h8,h9⟩ L.aR L.iT L.sz
 refine F8 (E4 rc fun res s' h=>?_)
 obtain⟨t',rfl,hs,hk,iT⟩:=h
 have L':wA R C s'.heap {b with chars:=b.chars.drop 1} x dx st ds lam cc cell sg pb:=L.chars (fun a o h e=>hk a o h e) iT (by have:=L.sz;refine af Bu ?_;omega)
 have rz:yZ s s':=(yZ.heap (.refl s) s.heap (s.toks+1+1+1)).trans hs
 have T':=T.rW Y bV hF rz (fun a o h e=>hk a o (fun q=>h (by(refine af hF ?_;refine af q ?_);simp)) e) L'
 exact⟨N,F,[],T', .str ..,eu.nil⟩
noncomputable def wz(i:Nat):Den:=fun g=>(gX g i).map fun vb=>({g with β:=some (vb.1,{vb.2 with line:=vb.2.line+1})}, .next)
theorem zN.oR(Y:eU R C N₀ fI fR fG fP X){z:Str}{i:Nat}{p0 ap cp:Bz}{k:Nat}{kp:Bz}(hz:X.C.Γ.lookup z=some i)(bC:bad z=false):
  zN X tv dv (.AugAssign (.Attribute (.Name z p0) "lineno" ap) .Add (.Constant (.int 1) k kp) cp) (wz i):=fun K env A E s₀ g N F s g' fl T e=>by
 obtain⟨⟨v,b⟩,e1,e2⟩:=wX e
 refine au (Bg e2) fun aG aP=>?_
 subst aG
 subst aP
 refine au (qn e1) fun bp bV=>?_
 obtain⟨x,dx,st,ds,lam,cc,cell,sg,pb,rfl,hF,L,nE⟩:=T.lex Y bV
 have c:=Y.cls _ T.pre.wd
 refine wpAny_AugAssign_AttributeAny (Bt (zU T.kind (T.self hz bp) ?_ (wW bC)) (wE bC))
 refine QM L c fun t=>Ft (J8 ?_)
 refine YR (s:={s with toks:=s.toks+1+1+1}) L c fun h' tk L' hk=>?_
 have T':=T.rW (s':={s with heap:=h',toks:=tk}) Y bV hF ((yZ.refl s).heap h' tk) (fun a o h e=>hk a o (fun q=>h (by rw[hF,q];simp)) (fun q=>h (by rw[hF,q];simp)) e) L'
 exact⟨rfl,N,F,T'⟩
end
inductive KS(R:bW)(C:Addr)(v:Value)(b':aj)(r:List Nat)(F:List Addr)(s:Ab)(res:D3)(s':Ab):Prop
 |mk (t:Jr) (e:res= .ok (.ret (.str ⟨r.toArray⟩ t))) (sm:yZ s s') (k:∀a o,a∉F->s.heap.get? a=some o->s'.heap.get? a=some o) (l:iD R C v b' F s'.heap):KS R C v b' r F s res s'
noncomputable def mf(W:bu)(R:bW)(C:Addr)(D:Nat)(f:Addr)(op:aj->aj->List Nat->Prop):Prop:=∀(A:Al) (s:Ab) (v:Value) (b b':aj) (r:List Nat) (F:List Addr),wH D A->iD R C v b F s.heap->
 (∀h:Ap,(∀a o,a∉F->s.heap.get? a=some o->h.get? a=some o)->W.Wd h)->op b b' r->
 Ca (Af W.prog W.w) A (.call (.ref f) ⟨[v],[]⟩) (KS R C v b' r F s) s
noncomputable def gq(b:aj):aj×List Nat:=({b with chars:=b.chars.drop 1,line:=if b.chars.take 1==[10]then b.line+1 else b.line},b.chars.take 1)
noncomputable def rX(b b':aj)(r:List Nat):Prop:=gq b=(b',r)
noncomputable def fq(h:Ap)(F:List Addr):Addr->Option Obj:=fun a=>if a∈F then none else h.get? a
theorem w0{h:Ap}{F:List Addr}{a:Addr}{o:Obj}(e:fq h F a=some o):a∉F/\h.get? a=some o:=by
 unfold fq at e
 split at e
 ·exact nn e
 ·rename_i q;exact⟨q,e⟩
theorem jF{h:Ap}{F:List Addr}{a:Addr}{o:Obj}(q:a∉F)(e:h.get? a=some o):fq h F a=some o:=by
 refine eM q ?_;exact e
section
variable{R:bW}{C N₀ fI fR fG fP:Addr}{W:bu}
theorem YV{scope:Scope}{params:Arguments}{name qual zs zc:Str}{BP p0 p1 ap cp YW YX fC YY ip YZ rp kp Y0:Bz}{k k2:Nat}{test:Expr}
  (hY:∀bx,eU R C N₀ fI fR fG fP ⟨W,wG R C bx,xY scope [zs]⟩) (wt:∃W',R.Ok W'/\W'.prog=W.prog/\W'.w=W.w/\W'.D+1=W.D/\∀h,W.Wd h->W'.Wd h)
  (hm:∀h,W.Wd h->lA h fR name qual params [.Assign [.Name zc BP] (.Call (.Attribute (.Attribute (.Name zs p0) "instream" p1) "read" ap) [.Constant (.int 1) k kp] [] cp) YW,
   .If test [.AugAssign (.Attribute (.Name zs YX) "lineno" fC) .Add (.Constant (.int 1) k2 Y0) YY] [] ip, .Return (some (.Name zc YZ)) rp] scope)
  (bg:jb scope [zs]=true) (iS:scope.names.all (fun y=>y.2 != .cell)=true) (hz:(xY scope [zs]).Γ.lookup zs=some 0) (hc:(xY scope [zs]).Γ.lookup zc=some 1) (w2:(xY scope [zs]).kn.lookup zc=some .local) (hn:(xY scope [zs]).n=2) (QT:bad zs=false) (gr:bad zc=false) (aV:(ap.endLine==cp.line)=true)
  (bo:∀pm cd doc u body,E6 (H9 name qual params body scope pm cd doc .none) ⟨[u],[]⟩=pure [(zs,u)])
  (ht:di W (xY scope [zs]) test (.cmp .Eq (.var 1) (.lit (.str [10])))):mf W R C (W.D+1) fR rX:=by
 intro A s v b b' r F aN de eJ gu
 refine au (Bg gu) fun aG aP=>?_
 subst aG
 subst aP
 have jG:W.Wd s.heap:=eJ _ fun a o _ e=>e
 have cx:=(hY F).lim _ jG
 refine QF (X:=⟨W,wG R C F,xY scope [zs]⟩) (xs:=[zs]) (ps:=[.obj v]) (vs:=[v]) (β:=some (v,b)) (K:=fq s.heap F) (F:=F) rfl bg iS (hm _ jG) cx aN (fun a o e=>(w0 e).2) (fun h k=>eJ h fun a o h1 h2=>k a o (jF h1 h2))
  (fun u c e=>sp e ⟨rfl,de⟩) (fun a ha=>⟨by exact xU ha rfl,de.bU a ha⟩) (fun pm cd doc=>bo pm cd doc v _) (ak.one (.obj v)) rfl fun env aa T=>?_
 have bp:(ey (xY scope [zs]) [.obj v] (some (v,b)))=⟨[some (.obj v),none],some (v,b)⟩:=by unfold ey;refine af hn ?_;rfl
 have QU:∀z b,gX ⟨[some (.obj v),z],some (v,b)⟩ 0=some (v,b):=fun z b=>by exact if_pos (beq_self_eq_true v)
 refine zE (zO.cons (tv₁:=[]) (dv₁:=[]) (tv':=[]) (dv':=[]) (zN.assign hc (.inl rfl) (wV.jf (hY F) wt hz QT aV) fun env _=>rfl)
   (zO.cons (tv₁:=[]) (dv₁:=[]) (zN.Pa ht (zO.cons (tv₁:=[]) (dv₁:=[]) (zN.oR (hY F) hz QT) (zO.nil rfl rfl) rfl rfl rfl rfl) (zO.nil rfl rfl))
    (zO.cons (tv₁:=[]) (dv₁:=[]) (zN.ret (wV.pure (av.var w2 rfl hc (wE gr) (wW gr)))) (zO.nil rfl rfl) rfl rfl rfl rfl) rfl rfl rfl rfl) rfl rfl rfl rfl
   (fq s.heap F) env _ _ s _ _ F _ ⟨[some (.obj v),some (.str (b.chars.take 1))],some (v,{b with chars:=b.chars.drop 1,line:=if b.chars.take 1==[10]then b.line+1 else b.line})⟩ (.ret (.str (b.chars.take 1))) T ?_) fun fw s' h=>?_
 ·refine af bp ?_
  have e1:yY 1 (CI 0) ⟨[some (.obj v),none],some (v,b)⟩=some (⟨[some (.obj v),some (.str (b.chars.take 1))],some (v,{b with chars:=b.chars.drop 1})⟩, .next):=by
   unfold yY CI;refine af (QU ..) ?_;rfl
  refine(?_:(yY 1 (CI 0) _).bind _=_)
  refine zK e1 ?_
  refine(?_:(BC W.U _ _ _ _).bind _=_)
  have e2:BC W.U (.cmp .Eq (.var 1) (.lit (.str [10]))) (zX (wz 0) az) az ⟨[some (.obj v),some (.str (b.chars.take 1))],some (v,{b with chars:=b.chars.drop 1})⟩=some (⟨[some (.obj v),some (.str (b.chars.take 1))],some (v,{b with chars:=b.chars.drop 1,line:=if b.chars.take 1==[10]then b.line+1 else b.line})⟩, .next):=by
   refine(?_:(if(b.chars.take 1==[10])=true then zX (wz 0) az _ else az _)=_)
   cases hq:(b.chars.take 1==[10])with
   |false=>rfl
   |true=>
    refine xU rfl ?_
    refine(?_:(wz 0 _).bind _=_)
    unfold wz
    refine af (QU ..) ?_;rfl
  refine af e2 ?_;rfl
 ·obtain⟨⟨u,ms,rfl,ru,_⟩,N',F',T'⟩:=h
  have hb:=T'.book _ _ rfl
  refine au hb fun aG hl=>?_
  clear hb
  subst aG
  refine aB ru.inv fun t aP _=>?_
  subst aP
  exact⟨_,rfl,T'.same,fun a o h1 h2=>T'.kept a o (jF h1 h2),hl⟩
end
theorem ak.rY{h:Ap}{p:PV}{ps:List PV}{vs:List Value}{ns:List Addr}(x:ak h (p::ps) vs ns):∃v us n m,vs=v::us/\ns=n++m/\VR h p v n/\ak h ps us m:=by
 cases x with
 |cons a b=>exact⟨_,_,_,_,rfl,rfl,a,b⟩
theorem ak.oS{h:Ap}{p:PV}{ps:List PV}{vs:List Value}(x:ak h (p::ps) vs []):∃v us,vs=v::us/\VR h p v []/\ak h ps us []:=by
 refine tw x.rY fun v us n m e hn a b=>?_
 have:n=[]/\m=[]:=by simpa using hn.symm
 refine au this fun aG aP=>?_
 clear this
 subst aG
 subst aP
 exact tD v us e a b
section
variable(X:Ctx)(tv dv:List Nat)
noncomputable def oT(test:Expr)(f:Sg->Option Bool):Prop:=∀K env A E s₀ g N F s b,aw X tv dv K env A s₀ g N F s->f g=some b->Am (Af X.W.prog X.W.w) A (Lc test env (eval test env)) (fun b' s'=>b'=b/\KG s s') E s
noncomputable def eV(P:(Addr->Option Obj)->Prop)(st:Stmt)(f:Den):Prop:=∀K env A E s₀ g N F s g' fl,P K->aw X tv dv K env A s₀ g N F s->f g=some (g',fl)->
 HC X tv dv K env A E s₀ g' fl st s
noncomputable def yU(P:(Addr->Option Obj)->Prop)(b:List Stmt)(f:Den):Prop:=∀K env A E s₀ g N F s g' fl,P K->aw X tv dv K env A s₀ g N F s->f g=some (g',fl)->
 O9 X tv dv K env A E s₀ g' fl b s
end
noncomputable def kF(c:Sg->Option Bool)(f h:Den):Den:=fun g=>(c g).bind fun t=>if t then f g else h g
section
variable{X:Ctx}{tv dv:List Nat}{P:(Addr->Option Obj)->Prop}
theorem oT.of{test:Expr}{c:PT}(h:di X.W X.C test c):oT X tv dv test (fun g=>aY X.W.U c g.σ):=fun K env A E s₀ g N F s b T e=>h env A E s g.σ b T.pre e
theorem eV.of{st:Stmt}{f:Den}(h:zN X tv dv st f):eV X tv dv P st f:=fun K env A E s₀ g N F s g' fl _ T e=>h K env A E s₀ g N F s g' fl T e
theorem yU.nil:yU X tv dv P [] az:=fun K env A E s₀ g N F s g' fl _ T e=>by obtain⟨rfl,rfl⟩:=Bg (Aa e);exact Ei ⟨rfl,N,F,T⟩
theorem yU.cons{st:Stmt}{rest:List Stmt}{f h:Den}(h1:eV X tv dv P st f)(h2:yU X tv dv P rest h):yU X tv dv P (st::rest) (zX f h):=fun K env A E s₀ g N F s g' fl p T e=>by
 obtain⟨⟨g₁,ig⟩,e1,e2⟩:=wO e
 refine Bd (zE (h1 K env A E s₀ g N F s g₁ ig p T e1) fun fw aa ah=>?_)
 obtain⟨hf,N',F',T'⟩:=ah
 cases ig with
 |next=>
  have hf:fw= .next:=hf
  subst hf
  exact h2 K env A E s₀ g₁ N' F' aa g' fl p T' e2
 |brk=>obtain⟨rfl,rfl⟩:=Bg (Aa e2);have hf:fw= .brk:=hf;subst hf;exact⟨rfl,N',F',T'⟩
 |cont=>obtain⟨rfl,rfl⟩:=Bg (Aa e2);have hf:fw= .cont:=hf;subst hf;exact⟨rfl,N',F',T'⟩
 |ret p=>
  refine au (Bg (Aa e2)) fun aG aP=>?_
  subst aG
  subst aP
  refine cX hf fun v ms cw r hn=>?_
  clear hf
  subst cw
  exact⟨⟨v,ms,rfl,r,hn⟩,N',F',T'⟩
theorem eV.kG{test:Expr}{body orelse:List Stmt}{pos:Bz}{c:Sg->Option Bool}{f h:Den}(ht:oT X tv dv test c)(hb:yU X tv dv P body f)(ho:yU X tv dv P orelse h):
  eV X tv dv P (.If test body orelse pos) (kF c f h):=fun K env A E s₀ g N F s g' fl p T e=>by
 refine oB e fun t e1 e2=>?_
 refine Lu (zE (ht K env A E s₀ g N F s t T e1) fun b aa ah=>?_)
 refine au ah fun aG k=>?_
 clear ah
 subst aG
 cases b with
 |true=>exact hb K env A E s₀ g N F aa g' fl p (T.kg k) e2
 |false=>exact ho K env A E s₀ g N F aa g' fl p (T.kg k) e2
end
section
variable{R:bW}{C N₀ fI fR fG fP:Addr}{X:Ctx}{tv dv:List Nat}{K:Addr->Option Obj}{env:Dv}{A:Al}{s₀ s s':Ab}{g:Sg}{N:Nat->List Addr}{F:List Addr}
theorem aw.w3(T:aw X tv dv K env A s₀ g N F s){a:Addr}(hK:K a=none)(hF:a∉F)(ho:∃o,s.heap.get? a=some o/\xW o=true)(hs:yZ s s')(hk:∀b o,b≠a->s.heap.get? b=some o->s'.heap.get? b=some o):aw X tv dv K env A s₀ g N F s':=by
 refine aB ho fun oa nu dz=>?_
 have hl:env.locals≠a:=fun q=>by
  refine qO T.loc fun m o es ep e1 e2 _=>?_
  rw[q,nu]at e1;obtain rfl:=Aa e1;unfold xW at dz;rw[e2]at dz;exact ft dz
 have aR:∀c v,s.heap.IsCell c v->c≠a:=fun c v h q=>by
  refine aB h fun o e1 e2=>?_
  rw[q,nu]at e1;obtain rfl:=Aa e1;unfold xW at dz;rw[e2]at dz;exact ft dz
 have hn:∀j b,b∈N j->b≠a:=fun j b hb q=>by
  refine gc (T.nd j b hb) fun items n e=>?_
  rw[q,nu]at e;obtain rfl:=Aa e;exact ft dz
 have up:∀j b,b∈N j->∀o,s.heap.get? b=some o->s'.heap.get? b=some o:=fun j b hb o e=>hk b o (hn j b hb) e
 exact
  {T with
   loc:=by obtain⟨m,h⟩:=T.loc;exact⟨m,h.at' fun o e=>hk _ o hl e⟩
   cls:=fun x c e1 e2=>by
    refine au (T.cls x c e1 e2) fun bL h5=>?_
    refine dY bL fun u o h3 h4=>?_
    exact cj ⟨u,o,hk c o (aR c _ ⟨o,h3,h4⟩) h3,h4⟩ h5
   rd:=fun x i p e1 e2=>by
    obtain⟨u,ac,r⟩:=T.rd x i p e1 e2
    refine⟨u,?_,r.on fun b hb o e=>up i b hb o e⟩
    rcases ac with⟨h1,m,h2,h3⟩|⟨h1,c,h2,o,h3,h4⟩
    ·exact .inl ⟨h1,m,h2.at' fun o e=>hk _ o hl e,h3⟩
    ·exact .inr ⟨h1,c,h2,o,hk c o (aR c _ ⟨o,h3,h4⟩) h3,h4⟩
   nd:=fun j b hb=>by obtain⟨items,n,e⟩:=T.nd j b hb;exact⟨items,n,up j b hb _ e⟩
   kept:=fun b o e=>hk b o (fun q=>by rw[q,hK]at e;exact nn e) (T.kept b o e)
   same:=T.same.trans hs
   book:=fun u b e=>X.BK.frame (T.book u b e) fun c hc o e=>hk c o (fun q=>hF (q▸hc)) e
   foot:=fun b hb=>by
    refine dX (T.foot b hb) fun h1 ib h3=>?_
    refine aJ ib fun o h2=>?_
    exact⟨h1,⟨o,hk b o (fun q=>hF (q▸hb)) h2⟩,h3⟩}
noncomputable def t8(i:Nat):Den:=fun g=>(gX g i).bind fun vb=>match vb.2.push with
 |[]=>some (g, .next)
 |w::r=>if r.length<1000 then some ({g with β:=some (vb.1,{vb.2 with push:=r})}, .ret (.str w))else none
theorem Y1{prog:Program}{w:Cn}{A:Al}{E:Value->Ab->Prop}{s:Ab}{l:Addr}{us:List Value}{y:Value}{t:Jr}{Q:Value->Ab->Prop}(hl:s.heap.PlainList l (y::us).toArray)(hsz:us.length+1<=ag)
  (hQ:∀h',h'.PlainList l us.toArray->Co l s.heap h'->Q y {s with heap:=h'}):Am (Af prog w) A (call (.builtin "list.pop") [.ref l, .int 0 t]) Q E s:=by
 refine aJ hl fun n ho=>?_
 have hz:(y::us).toArray.size<=sizeLine:=by rw[Bm];simp;exact Jz ‹_›
 have hk:F2 0 (y::us).toArray.size=some 0:=by unfold F2;simp
 refine Le Ez ⟨_,ho,rfl⟩ J0 (PySem.F.args_list_pop_2 _ _) (PySem.MeetsSeq.list_pop_at l _ n 0 t 0 y (by decide) hk (by rfl) hz) ⟨ho,hQ _ ?_ (Fc ..).extBut⟩
 have q:=Ht ho (fun xs=>xs.eraseIdxIfInBounds 0)
 have:(y::us).toArray.eraseIdxIfInBounds 0=us.toArray:=by simp
 rw[this]at q
 exact cn _ q
theorem zN.rZ(Y:eU R C N₀ fI fR fG fP X){z:Str}{i:Nat}{p0 p1 p2 p3 ap cp rp ip:Bz}{k:Nat}{kp:Bz}(hz:X.C.Γ.lookup z=some i)(bC:bad z=false)(aV:(ap.endLine==cp.line)=true):
  zN X tv dv (.If (.Attribute (.Name z p0) "pushback" p1) [.Return (some (.Call (.Attribute (.Attribute (.Name z p2) "pushback" p3) "pop" ap) [.Constant (.int 0) k kp] [] cp)) rp] [] ip) (t8 i):=fun K env A E s₀ g N F s g' fl T e=>by
 obtain⟨⟨v,b⟩,e1,e2⟩:=wO e
 refine au (qn e1) fun bp bV=>?_
 obtain⟨x,dx,st,ds,lam,cc,cell,sg,pb,rfl,hF,L,nE⟩:=T.lex Y bV
 have c:=Y.cls _ T.pre.wd
 refine aB L.nB fun us cQ bq=>?_
 refine Lu (wpAny_isTrue_value (Gh (Bt (zU T.kind (T.self hz bp) (QN L c ?_) (wW bC)) (wE bC))) (Px rfl _ _))
 have hul:us.length=b.push.length:=by have:=bq.length;simpa using this
 cases hp:b.push with
 |nil=>
  have e2:some (g,Fl.next)=some (g',fl):=by refine ct e2 ?_;refine(?_:_=(match b.push with|[]=>_|w::r=>_));exact af hp rfl
  refine au (Bg (Aa e2)) fun aG aP=>?_
  subst aG
  subst aP
  refine zE (u3 (x:= .list (b.push.map PV.str)) (du s (s.toks+1)) (.list cQ bq) (b:=false) (by refine af hp ?_;rfl)) fun r aa ah=>?_
  refine au ah fun aG k=>?_
  clear ah
  subst aG
  exact Ei ⟨rfl,N,F,T.kg k⟩
 |cons w r=>
  have e2:(if r.length<1000 then some ({g with β:=some (Hu x,{b with push:=r})},Fl.ret (.str w))else none)=some (g',fl):=by refine ct e2 ?_;refine(?_:_=(match b.push with|[]=>_|w::r=>_));exact af hp rfl
  split at e2
  ·rename_i hsz
   refine au (Bg (Aa e2)) fun aG aP=>?_
   subst aG
   subst aP
   refine zE (u3 (x:= .list (b.push.map PV.str)) (du s (s.toks+1)) (.list cQ bq) (b:=true) (by
    refine af hp ?_;refine(?_:(if _<=ag then some _ else none)=_)
    refine xU (by unfold ag;simp;exact zC) ?_;rfl)) fun rr aa ah=>?_
   refine au ah fun aG k=>?_
   clear ah
   subst aG
   have aW:=T.kg k
   have r4:wA R C aa.heap b x dx st ds lam cc cell sg pb:=L.keep fun a _ o e=>zZ k a o e
   refine Bd (F6 ?_)
   refine Jy (kr rfl _ env _) (zF rfl [] env) aV ?_
   refine Gh (Bt (zU aW.kind (aW.self hz bp) (QN r4 (Y.cls _ aW.pre.wd) ?_) (wW bC)) (wE bC))
   refine aB r4.nB fun QV jg mh=>?_
   rw[hp]at mh
   refine cX mh.oS fun v0 HG cw hv mi=>?_
   subst cw
   refine nh ("list") _ Ff Ez Hl jg.isList.typeIs (fun c e=>by cases e;obtain⟨n,h⟩:=jg;exact⟨_,h,rfl⟩) (Dq rfl (Ey (Ba (Ft (B7 ?_)))))
   have KU:HG.length+1<=ag:=by have:=mi.length;simp at this;unfold ag;lia
   refine Y1 (s:={aa with toks:=aa.toks+1+1}) jg KU fun h' fW ik=>?_
   have cU:=hv
   have L':wA R C h' {b with push:=r} x dx st ds lam cc cell sg pb:=r4.push (fun a o h e=>ik a o h e) ⟨HG,fW,mi.on fun a ha=>nomatch ha⟩
   have T':=aW.rW (s':={aa with heap:=h',toks:=aa.toks+1+1}) Y bV hF ((yZ.refl aa).heap h' _) (fun a o h e=>ik a o (fun q=>h (by(refine af hF ?_;refine af q ?_);simp)) e) L'
   refine⟨⟨v0,[],rfl,hv.on (fun a ha=>nomatch ha),(fun a ha=>nomatch ha)⟩,N,F,T'⟩
  ·exact nn e2
end
theorem wH.less{D D':Nat}{A:Al}(h:wH D A)(e:D'+1=D):wH D' A:=⟨h.hh,by have:=h.depth;lia,by have:=h.units;lia⟩
theorem wH.in1{D D':Nat}{A:Al}(h:wH D A)(e:D'+1=D):wH D' A.in1:=⟨h.hh,by have:=h.depth;refine(?_:A.depth+D'<_);lia,by have:=h.units;refine(?_:A.units+1+8*D'+60<cLine);lia⟩
section
variable{R:bW}{C N₀ fI fR fG fP:Addr}{X:Ctx}{tv dv:List Nat}{K:Addr->Option Obj}{env:Dv}{A:Al}{s₀ s s':Ab}{g:Sg}{N:Nat->List Addr}{F:List Addr}
structure mj(R:bW)(C fR:Addr)(X:Ctx):Prop where
 D:∃D,D+1=X.W.D/\mf X.W R C D fR rX
 ob:∀h,X.W.Wd h->∃of fd,h.get? fR=some of/\of.cls= .type "function" /\of.data= .func fd
theorem aw.KV(T:aw X tv dv K env A s₀ g N F s):∀h:Ap,(∀a o,a∉F->s.heap.get? a=some o->h.get? a=some o)->X.W.Wd h:=fun h k=>
 T.eO h fun a o e=>k a o (fun q=>by rw[(T.foot a q).1]at e;exact nn e) (T.kept a o e)
theorem QW(Y:eU R C N₀ fI fR fG fP X)(Z:mj R C fR X)(T:aw X tv dv K env A s₀ g N F s){A':Al}(hA:∀D,D+1=X.W.D->wH D A'){x:Addr}{b:aj}(bV:g.β=some (.ref x,b)){Rr:D3->Ab->Prop}
  (h:∀s' t,yZ s s'->(∀a o,a∉F->s.heap.get? a=some o->s'.heap.get? a=some o)->aw X tv dv K env A s₀ {g with β:=some (.ref x,(gq b).1)} N F s'->Rr (.ok (.ret (.str ⟨(gq b).2.toArray⟩ t))) s'):
  Ca (Af X.W.prog X.W.w) A' (.call (.ref fR) ⟨[.ref x],[]⟩) Rr s:=by
 refine aJ Y.bk fun bx de=>?_
 have hb:=T.book _ b bV
 rw[de]at hb
 refine au hb fun aG hl=>?_
 clear hb
 subst aG
 refine aB Z.D fun D hD fn=>?_
 refine E4 (fn A' s (.ref x) b (gq b).1 (gq b).2 F (hA D hD) hl T.KV rfl) fun res s' hr=>?_
 obtain⟨t,rfl,hs,hk,gB⟩:=hr
 exact h s' t hs hk (T.t7 hs hk (by rw[de];exact⟨rfl,gB⟩))
noncomputable def w4(i:Nat):dr:=fun g=>(gX g i).map fun vb=>({g with β:=some (vb.1,(gq vb.2).1)}, .str (gq vb.2).2)
theorem wV.ml(Y:eU R C N₀ fI fR fG fP X)(Z:mj R C fR X){z:Str}{i:Nat}{p0 ap cp:Bz}(hz:X.C.Γ.lookup z=some i)(bC:bad z=false)(aV:(ap.endLine==cp.line)=true):
  wV X tv dv true (.Call (.Attribute (.Name z p0) "_read_char" ap) [] [] cp) (w4 i):=fun K env A E s₀ g N F s g' p T e=>by
 obtain⟨⟨v,b⟩,e1,e2⟩:=wX e
 refine au (Bg e2) fun aG aP=>?_
 subst aG
 subst aP
 refine au (qn e1) fun bp bV=>?_
 obtain⟨x,dx,st,ds,lam,cc,cell,sg,pb,rfl,hF,L,nE⟩:=T.lex Y bV
 refine cX (Z.ob _ T.pre.wd) fun of fd ho nz gj=>?_
 refine QC (kr rfl _ env _) aV (Bt (zU T.kind (T.self hz bp) (fun pl=>QL (Y.cls _ T.pre.wd) (fun _ h _ _=>h) ho nz QJ L (by decide) ?_) (wW bC)) (wE bC))
 refine callWith_meth0 gj ho (F8 (QW Y Z T (fun D hD=>T.room.less hD) bV fun s' t hs hk T'=>?_))
 exact⟨N,F,[],T', .str ..,eu.nil⟩
noncomputable def t9(i c:Nat):Sg->Option Bool:=fun g=>(gX g i).bind fun _=>((((g.σ[c]?).bind id).bind PV.dh).bind one).map fun a=>([10,9,13,32]:List Nat).contains a
theorem oT.ws(Y:eU R C N₀ fI fR fG fP X){z y:Str}{i c:Nat}{p0 p1 py pos:Bz}(hz:X.C.Γ.lookup z=some i)(bC:bad z=false)(hy:X.C.Γ.lookup y=some c)(QX:bad y=false):
  oT X tv dv (.Compare (.Name y py) [.In] [.Attribute (.Name z p0) "whitespace" p1] pos) (t9 i c):=fun K env A E s₀ g N F s b T e=>by
 obtain⟨⟨v,bk⟩,e1,e2⟩:=wO e
 refine au (qn e1) fun bp bV=>?_
 obtain⟨x,dx,st,ds,lam,cc,cell,sg,pb,rfl,hF,L,nE⟩:=T.lex Y bV
 obtain⟨a,e2,hb⟩:=wX e2
 refine oB e2 fun l e2 el=>?_
 refine oB e2 fun q e2 eq=>?_
 refine oB e2 fun q' hc e4=>?_
 obtain rfl:q'=some q:=e4
 obtain rfl:=PV.bJ eq
 obtain rfl:=nV el
 obtain⟨u,acc,r⟩:=T.rd y c _ hy hc
 refine F3 (Bt (zU T.kind acc ?_ (wW QX)) (wE QX)) rfl
 refine Gh (Bt (zU T.kind (T.self hz bp) (YM L (Y.cls _ T.pre.wd) fun t=>?_) (wW bC)) (wE bC))
 refine zE (u2 (op:= .In) (x:= .str [a]) (y:= .str [10,9,13,32]) (b:=b) (du s (s.toks+1)) (r.sub fun _ _ e=>e) (.str [10,9,13,32] t) (u6 T.room) (congrArg some hb)) fun v ao aq=>?_
 refine au aq fun aG bF=>?_
 clear aq
 subst aG
 exact F4 ⟨rfl,bF⟩
end
noncomputable def lD(fR it m x:Addr)(K:Addr->Option Obj):Prop:=(∃o t,K it=some o/\o.cls= .type "callable_iterator" /\o.data= .fields #[.ref m, .str ⟨#[]⟩ t, .bool false])/\K m=some (ny fR x)
noncomputable def gK(out:Bool)(x:Value)(ic:Nat)(f:Den):Nat->Den
 |0=>fun _=>none
 |n+1=>fun g=>match g.β with
  |some (v,b)=>if v==x then(match b.chars with
    |[]=>if out then some ({g with β:=some (v,(gq b).1)}, .next)else none
    |c::_=>(f ({g with β:=some (v,(gq b).1)}.set ic (.str [c]))).bind fun r=>match r with
     |(g', .next)=>gK out x ic f n g'
     |(g', .cont)=>gK out x ic f n g'
     |(g', .brk)=>some (g', .next)
     |(g', .ret p)=>some (g', .ret p))else none
  |none=>none
noncomputable def QY(v:Value):Option (Option PV)->Bool
 |some (some (.obj u))=>u==v
 |_=>false
theorem Y2{v:Value}{z:Option (Option PV)}(h:QY v z=true):z=some (some (.obj v)):=by
 cases z with
 |none=>exact ft h
 |some o=>
  cases o with
  |none=>exact ft h
  |some p=>
   cases p with
   |obj u=>exact congrArg (fun u=>some (some (PV.obj u))) (eq_of_beq h)
   |_=>exact ft h
noncomputable def QZ(g:Sg):Nat:=match g.β with
 |some (_,b)=>b.chars.length
 |none=>0
noncomputable def nF(out:Bool)(x:Value)(fi:Nat)(it:Value)(ic:Nat)(f:Den):Den:=fun g=>if QY it g.σ[fi]? then gK out x ic f (QZ g+1) g else none
section
variable{R:bW}{C N₀ fI fR fG fP:Addr}{X:Ctx}{K:Addr->Option Obj}{env:Dv}{A:Al}{s₀ s s':Ab}{g:Sg}{N:Nat->List Addr}{F:List Addr}
noncomputable def Y3(k:Den):Sg×Fl->Option (Sg×Fl)
 |(g', .next)=>k g'
 |(g', .cont)=>k g'
 |(g', .brk)=>some (g', .next)
 |(g', .ret p)=>some (g', .ret p)
inductive KW(out:Bool)(x:Value)(ic:Nat)(f k:Den)(g:Sg)(r:Sg×Fl):Prop
 |nil (b:aj) (bV:g.β=some (x,b)) (hc:b.chars=[]) (ho:out=true) (e:({g with β:=some (x,(gq b).1)},Fl.next)=r):KW out x ic f k g r
 |cons (b:aj) (c:Nat) (l:List Nat) (bV:g.β=some (x,b)) (hc:b.chars=c::l) (cg:Sg) (bZ:Fl) (e2:f ({g with β:=some (x,(gq b).1)}.set ic (.str [c]))=some (cg,bZ)) (e3:Y3 k (cg,bZ)=some r):KW out x ic f k g r
theorem Y4{out:Bool}{x:Value}{ic n:Nat}{f:Den}{g:Sg}{r:Sg×Fl}(e:gK out x ic f (n+1) g=some r):KW out x ic f (gK out x ic f n) g r:=by
 unfold gK at e
 cases bV:g.β with
 |none=>rw[bV]at e;exact nn e
 |some vb=>
  obtain⟨v,b⟩:=vb
  rw[bV]at e
  refine oI e fun hv e=>?_
  obtain rfl:=eq_of_beq hv
  cases hc:b.chars with
  |nil=>
   rw[hc]at e
   refine oI e fun ho e=>?_
   exact .nil b bV hc ho (Aa e)
  |cons c l=>
   rw[hc]at e
   obtain⟨⟨cg,bZ⟩,e2,e3⟩:=wO e
   exact .cons b c l bV hc cg bZ e2 e3
theorem Y5{b:aj}(h:b.chars=[]):(gq b).2=[]:=by unfold gq;rw[h];rfl
theorem Q0{b:aj}{c:Nat}{r:List Nat}(h:b.chars=c::r):(gq b).2=[c]:=by unfold gq;rw[h];rfl
theorem Q1(Y:eU R C N₀ fI fR fG fP X)(Z:mj R C fR X)(T:aw X [] [] K env A s₀ g N F s){it m x:Addr}{b:aj}(bV:g.β=some (.ref x,b))(hK:lD fR it m x K){Q:Option Value->Ab->Prop}{E:Value->Ab->Prop}
  (h1:∀c r,b.chars=c::r->∀s' t,aw X [] [] K env A s₀ {g with β:=some (.ref x,(gq b).1)} N F s'->Q (some (.str ⟨[c].toArray⟩ t)) s')
  (h0:b.chars=[]->∀s' h',aw X [] [] K env A s₀ {g with β:=some (.ref x,(gq b).1)} N F s'->Co it s'.heap h'->Q none {s' with heap:=h'}):
  Am (Af X.W.prog X.W.w) A (Gy (.ref it)) Q E s:=by
 refine au hK fun bL km=>?_
 refine cX bL fun o t ko hc hd=>?_
 have ho:=T.kept it o ko
 have hm:=T.kept m _ km
 refine cX (Z.ob _ T.pre.wd) fun of fd hf nz gj=>?_
 refine Yn T.room.hh ⟨o,t,ho,hc,hd⟩ hm hf gj (QW Y Z T (fun D hD=>T.room.in1 hD) bV fun s' t hs hk T'=>?_)
 refine nh ((gq b).2) t rfl (fun o' e=>Aa (ho.symm.trans e)▸T'.kept it o ko) (T'.kept m _ km) ?_ (fun hn h' hx=>?_) (fun hn=>?_)
 ·refine cX (Z.ob _ T'.pre.wd) fun qe rQ h2 _ h3=>?_
  exact nQ qe rQ h2 h3
 ·cases hb:b.chars with
  |nil=>exact h0 hb s' h' T' hx
  |cons c r=>rw[Q0 hb]at hn;cases hn
 ·cases hb:b.chars with
  |nil=>exact absurd (Y5 hb) hn
  |cons c r=>
   rw[Q0 hb]
   exact h1 c r hb s' t T'
theorem Y6(Y:eU R C N₀ fI fR fG fP X)(Z:mj R C fR X){it m x:Addr}{zc:Str}{ic n:Nat}{pc:Bz}{body:List Stmt}{fb:Den}{E:Value->Ab->Prop}{cN:Addr->Option Obj}{g':Sg}{fl:Fl}{out:Bool}(hc:X.C.Γ.lookup zc=some ic)
  (hb:yU X [] [] (lD fR it m x) body fb) (p:lD fR it m x K) (gW:∀b o,cN b=some o->K b=some o) (oU:out=true->cN it=none) (wd:∀h:Ap,(∀b o,cN b=some o->h.get? b=some o)->X.W.Wd h) (I:vz X [] [] K env A s₀ (gK out (.ref x) ic fb n) (g',fl) s'):
  Am (Af X.W.prog X.W.w) A (Gy (.ref it)) (fun r aa=>(r=none/\i9 X [] [] cN env A s₀ g' fl .next aa)\/qU X.W.prog X.W.w A (.Name zc pc) it env E (fun s₂=>
    Am (Af X.W.prog X.W.w) A (Ge body env) (fun f ao=>match f with
     | .next| .cont=>∃m,m<n/\vz X [] [] K env A s₀ (gK out (.ref x) ic fb m) (g',fl) ao
     | .brk=>i9 X [] [] cN env A s₀ g' fl .next ao
     | .ret v=>i9 X [] [] cN env A s₀ g' fl (.ret v) ao) E s₂) r aa) E s':=by
 obtain⟨g₁,vW,rF,aW,fD⟩:=I
 cases n with
 |zero=>exact nn fD
 |succ n=>
  rcases Y4 fD with⟨b,bV,gr,ho,e⟩|⟨b,c,l,bV,gr,cg,bZ,eP,oV⟩
  ·refine Q1 Y Z aW bV p (fun c r h=>absurd (gr.symm.trans h) (List.cons_ne_nil c r).symm) fun _ s₂ ai ax hx=> .inl ⟨rfl,?_⟩
   refine au p fun bL _=>?_
   refine cX bL fun o t ko _ hd=>?_
   exact Internal.sp (congrArg some e) ⟨rfl,vW,rF,(ax.eH gW wd).w3 (s':={s₂ with heap:=ai}) (oU ho) (fun hm=>nn ((ax.foot it hm).1.symm.trans ko)) ⟨o,ax.kept it o ko,by unfold xW;rw[hd]⟩ ((yZ.refl s₂).heap ai s₂.toks) (fun b ob hb e=>hx b ob hb e)⟩
  ·refine Q1 Y Z aW bV p (fun c' r' h s₂ r5 ax=> .inr ?_) fun h=>absurd (h.symm.trans gr) (List.cons_ne_nil c l).symm
   refine au (D8 (gr.symm.trans h)) fun aG _=>?_
   subst aG
   refine i12 _ rfl (B3 (show E1 (.Name zc pc) (.ref it) (.str ⟨[c].toArray⟩ r5)=pure ()from rfl) ?_)
   refine Di (zE (ax.store hc (.str [c] r5) (eu.nil (own:=true)) (.inl rfl)) fun _ ao aM=>?_)
   refine zE (hb K env A _ s₀ _ _ rF ao cg bZ p aM eP) fun fw aS aU=>?_
   obtain⟨iu,gE,iv,bP⟩:=aU
   cases bZ with
   |next=>exact Fw iu▸⟨n,Bj n,cg,gE,iv,bP,oV⟩
   |cont=>exact Fw iu▸⟨n,Bj n,cg,gE,iv,bP,oV⟩
   |brk=>exact Fw iu▸Internal.sp oV ⟨rfl,gE,iv,bP.eH gW wd⟩
   |ret q=>
    refine cX iu fun u ms cw r' hn=>?_
    clear iu
    subst cw
    exact Internal.sp oV ⟨⟨u,ms,rfl,r',fun a ha=>rk gW (hn a ha)⟩,gE,iv,bP.eH gW wd⟩
theorem Q2(Y:eU R C N₀ fI fR fG fP X)(Z:mj R C fR X){it m x:Addr}{zf zc:Str}{fi ic:Nat}{pc pf fp:Bz}{body:List Stmt}{fb:Den}{E:Value->Ab->Prop}{cN:Addr->Option Obj}{g':Sg}{fl:Fl}{out:Bool}(hf:X.C.Γ.lookup zf=some fi)(ua:bad zf=false)(hc:X.C.Γ.lookup zc=some ic)
  (hb:yU X [] [] (lD fR it m x) body fb) (p:lD fR it m x K) (gW:∀b o,cN b=some o->K b=some o) (oU:out=true->cN it=none) (wd:∀h:Ap,(∀b o,cN b=some o->h.get? b=some o)->X.W.Wd h)
  (T:aw X [] [] K env A s₀ g N F s) (e:nF out (.ref x) fi (.ref it) ic fb g=some (g',fl)):
  Am (Af X.W.prog X.W.w) A (exec (.For (.Name zc pc) (.Name zf pf) body [] fp) env) (i9 X [] [] cN env A s₀ g' fl) E s:=by
 refine oI e fun bp e=>?_
 refine wpAny_For ?_ (fun x=>wU rfl env x)
 refine Bt (zU T.kind (T.self hf (Y2 bp)) ?_ (wW ua)) (wE ua)
 refine au (id p) fun bL km=>?_
 refine cX bL fun o t ko i5 hd=>?_
 refine Yl (m:=m) ⟨o,t,T.kept it o ko,i5,hd⟩ ?_
 exact HL (fun n s'=>vz X [] [] K env A s₀ (gK out (.ref x) ic fb n) (g',fl) s') (fun n s' I=>Y6 Y Z hc hb p gW oU wd I) (QZ g+1) ⟨g,N,F,T,e⟩
theorem eV.mm(Y:eU R C N₀ fI fR fG fP X)(Z:mj R C fR X){it m x:Addr}{zf zc:Str}{fi ic:Nat}{pc pf fp:Bz}{body:List Stmt}{fb:Den}(hf:X.C.Γ.lookup zf=some fi)(ua:bad zf=false)(hc:X.C.Γ.lookup zc=some ic)
  (hb:yU X [] [] (lD fR it m x) body fb):eV X [] [] (lD fR it m x) (.For (.Name zc pc) (.Name zf pf) body [] fp) (nF false (.ref x) fi (.ref it) ic fb):=fun K env A E s₀ g N F s g' fl p T e=>
 Q2 Y Z hf ua hc hb p (fun _ _ e=>e) (fun h=>ft h) T.eO T e
theorem Y7(Y:eU R C N₀ fI fR fG fP X)(Z:mj R C fR X){it m x:Addr}{zf zc:Str}{fi ic:Nat}{pc pf fp:Bz}{body:List Stmt}{fb:Den}{E:Value->Ab->Prop}{cN:Addr->Option Obj}{g':Sg}{fl:Fl}(hf:X.C.Γ.lookup zf=some fi)(ua:bad zf=false)(hc:X.C.Γ.lookup zc=some ic)
  (hb:yU X [] [] (lD fR it m x) body fb) (p:lD fR it m x K) (gW:∀b o,cN b=some o->K b=some o) (oU:cN it=none) (wd:∀h:Ap,(∀b o,cN b=some o->h.get? b=some o)->X.W.Wd h)
  (T:aw X [] [] K env A s₀ g N F s) (e:nF true (.ref x) fi (.ref it) ic fb g=some (g',fl)):
  Am (Af X.W.prog X.W.w) A (exec (.For (.Name zc pc) (.Name zf pf) body [] fp) env) (i9 X [] [] cN env A s₀ g' fl) E s:=
 Q2 Y Z hf ua hc hb p gW (fun _=>oU) wd T e
end
section
variable{R:bW}{C N₀ fI fR fG fP:Addr}{X:Ctx}{K:Addr->Option Obj}{env:Dv}{A:Al}{s₀ s s':Ab}{g:Sg}{N:Nat->List Addr}{F:List Addr}
theorem Y8(Y:eU R C N₀ fI fR fG fP X)(Z:mj R C fR X){zs zf:Str}{i fi k:Nat}{pf pi pa ps kp cp ap:Bz}(hz:X.C.Γ.lookup zs=some i)(bC:bad zs=false)(hf:X.C.Γ.lookup zf=some fi)(hk:X.C.kn.lookup ("iter" :Str)=some .globalImplicit) (hg:X.W.mg "iter" =none) (hb:X.W.mb "iter" =some (.builtin "iter"))
  (T:aw X [] [] K env A s₀ g N F s) {x:Addr} {b:aj} (bp:g.σ[i]?=some (some (.obj (.ref x)))) (bV:g.β=some (.ref x,b)) {Q:Ls->Ab->Prop} {E:Value->Ab->Prop}
  (h:∀it m eD N' s',aw X [] [] eD env A s₀ (g.set fi (.obj (.ref it))) N' F s'->lD fR it m x eD->(∀a o,K a=some o->eD a=some o)->K it=none->Q .next s'):
  Am (Af X.W.prog X.W.w) A (exec (.Assign [.Name zf pf] (.Call (.Name "iter" pi) [.Attribute (.Name zs ps) "_read_char" pa, .Constant (.str "") k kp] [] cp) ap) env) Q E s:=by
 obtain⟨x',dx,st,ds,lam,cc,cell,sg,pb,hx,hF,L,nE⟩:=T.lex Y bV
 cases hx
 obtain⟨⟨nm,q,bs,sn,sub,col,dd,k0,k1,k2,k3,k5,hC⟩,mN,hN,_,hR,_,_,wq,KQ,_⟩:=Y.cls _ T.pre.wd
 refine qM L.inst fun mA I jE _ _ _ dR=>?_
 refine aJ jE fun tl rR=>?_
 refine cX (Z.ob _ T.pre.wd) fun of fd ho nz gj=>?_
 refine Hf ?_ rfl
 refine Eo rfl ?_
 refine A6 T.kind (by unfold Be;refine af T.names ?_;exact hk) (Cz (mg:=X.W.mg) (mb:=X.W.mb) ?_ hg ?_ hb ?_) (by decide)
 ·refine af T.gl ?_;exact X.W.g T.pre.wd
 ·refine af T.bl ?_;exact X.W.b T.pre.wd
 refine callWith_builtin1 ?_ (zF rfl _ env) rfl
 refine af (zF rfl _ env) ?_
 refine af (zF rfl [] env) ?_
 refine Ba ?_
 refine Gh (Bt (zU T.kind (T.self hz bp) ?_ (wW bC)) (wE bC))
 refine X5 hC hN wq KQ hR ho nz QJ I (dR _ (by decide)) ⟨"lineno",by refine af rR ?_;simp⟩ (by decide) ?_
 refine Ba (Dp (pos:=kp) (k:=k) (B7 ?_))
 have Q3:(s.heap.push (ny fR x)).get? s.heap.objs.size=some (ny fR x):=Av _ rfl
 refine Ym (m:=s.heap.objs.size) (f:=fR) (x:=x) Q3 ?_
 generalize hH:(s.heap.push (ny fR x))=H at*
 have GV:Sub s.heap H:=fun a o e=>hH▸Ag _ e
 have Q4:H.objs.size=s.heap.objs.size+1:=by(refine ct hH ?_;exact af (Eu ..) rfl)
 generalize hit:H.objs.size=it at*
 generalize hm:s.heap.objs.size=m at*
 have Y9:s.heap.get? m=none:=hm▸yP 0
 have w5:s.heap.get? it=none:=by
  have:=yP (h:=s.heap) 1
  rw[hm]at this;refine af Q4 ?_;exact this
 have cU:m≠it:=by refine af Q4 ?_;exact Bo (Bj _)
 have r7:(H.push {cls:= .type "callable_iterator",data:= .fields #[.ref m, .str ⟨#[]⟩ (s.toks+1), .bool false]}).get? it=some {cls:= .type "callable_iterator",data:= .fields #[.ref m, .str ⟨#[]⟩ (s.toks+1), .bool false]}:=hit▸Av _ rfl
 have aW:=T.kg (jA s (H.push {cls:= .type "callable_iterator",data:= .fields #[.ref m, .str ⟨#[]⟩ (s.toks+1), .bool false]}) (s.toks+1+1) fun a o e=>Ag _ (GV a o e))
 have Kn:∀a,s.heap.get? a=none->K a=none:=fun a e=>by
  cases q:K a with
  |none=>rfl
  |some o=>rw[T.kept a o q]at e;cases e
 have off:∀a o,s.heap.get? a=some o->a∉ [it,m]:=fun a o e pT=>by
  simp only[Ax,Aq,or_false]at pT
  rcases pT with rfl|rfl
  ·rw[w5]at e;exact nn e
  ·rw[Y9]at e;exact nn e
 have ax:=aW.freeze (fp:=[it,m])
  {loc:=by obtain⟨_,o,_,_,e,_⟩:=T.loc;exact off _ o e
   cls:=fun y c e1 e2=>by obtain⟨⟨v,o,e,_⟩,_⟩:=T.cls y c e1 e2;exact off _ o e
   f:=fun a ha=>by obtain⟨_,⟨o,e⟩,_⟩:=T.foot a ha;exact off _ o e
   t:=fun j hj=>nomatch hj
   d:=fun j hj=>nomatch hj}
 refine zE (ax.store hf (.obj (.ref it)) (eu.nil (own:=true)) (.inl rfl)) fun _ ao aM=>?_
 refine h it m _ _ ao aM ⟨⟨_,s.toks+1,(lr (Ai ..)).trans r7,rfl,rfl⟩,(lr (by simp)).trans (Ag _ Q3)⟩ (fun a o e=>?_) (Kn _ w5)
 refine af (wP (off a o (T.kept a o e))) ?_;exact e
end
noncomputable def Za(i c:Nat):Den:=zX (yY c (w4 i)) az
noncomputable def ub(i c:Nat)(U:Uc):Den:=kF (fun g=>aY U (.cmp .Eq (.var c) (.lit (.str [92]))) g.σ) (Za i c) az
noncomputable def KY(U:Uc)(t:Nat):Den:=zX (vo (fk U (.var t))) az
noncomputable def CJ(U:Uc)(t c:Nat):Den:=zX (oe U .Add t (.var c)) az
noncomputable def Zb(U:Uc)(i t c:Nat):Den:=zX (kF (fun g=>aY U (.cmp .Eq (.var c) (.lit (.str [34]))) g.σ) (KY U t) (zX (ub i c U) az)) (CJ U t c)
noncomputable def qo(U:Uc)(i t c:Nat):Den:=zX (kF (t9 i c) (KY U t) (zX (ub i c U) az)) (CJ U t c)
noncomputable def qp(U:Uc)(i t f c:Nat)(x it:Value):Den:=
 zX (kF (t9 i c) (zX (fun g=>some (g, .cont)) az) az)
  (zX (kF (fun g=>aY U (.cmp .Eq (.var c) (.lit (.str [34]))) g.σ) (zX (nF false x f it c (Zb U i t c)) az)
   (zX (ub i c U) (zX (oe U .Add t (.var c)) (zX (nF false x f it c (qo U i t c)) az)))) az)
noncomputable def KZ(U:Uc)(x it:Value):Den:=zX (nF true x 2 it 3 (qp U 0 1 2 3 x it)) (zX (vo (fk U (.var 1))) az)
noncomputable def jH(U:Uc)(b b':aj)(r:List Nat):Prop:=∀v:Value,
 t8 0 ⟨[some (.obj v),none,none,none],some (v,b)⟩=some (⟨[some (.obj v),none,none,none],some (v,b')⟩, .ret (.str r))\/
 (b.push=[]/\∀it:Value,∃aI,KZ U v it ⟨[some (.obj v),some (.str []),some (.obj it),none],some (v,b)⟩=some (⟨aI,some (v,b')⟩, .ret (.str r)))
section
variable{zs zt zf zc:Str}
noncomputable abbrev Zc(zs zc:Str)(p1 p ap cp q:Bz):Stmt:= .Assign [.Name zc p1] (.Call (.Attribute (.Name zs p) "_read_char" ap) [] [] cp) q
noncomputable abbrev CK(zc x:Str)(k:Nat)(p1 p2 q:Bz):Expr:= .Compare (.Name zc p1) [.Eq] [.Constant (.str x) k p2] q
noncomputable abbrev Q5(zs zc:Str)(p1 p2 ap q:Bz):Expr:= .Compare (.Name zc p1) [.In] [.Attribute (.Name zs p2) "whitespace" ap] q
noncomputable abbrev CL(zt zc:Str)(p1 p2 q:Bz):Stmt:= .AugAssign (.Name zt p1) .Add (.Name zc p2) q
noncomputable abbrev CM(zt:Str)(p q:Bz):Stmt:= .Return (some (.Name zt p)) q
noncomputable abbrev CN(zs zc:Str)(a1:Nat)(a2 a3 a4 a5 a6 a7 a8 a9 oW:Bz):Stmt:= .If (CK zc "\\" a1 a2 a3 a4) [Zc zs zc a5 a6 a7 a8 a9] [] oW
structure ud(X:Ctx)(zs zt zf zc:Str):Prop where
 s:X.C.Γ.lookup zs=some 0/\bad zs=false/\X.C.kn.lookup zs=some .local
 t:X.C.Γ.lookup zt=some 1/\bad zt=false/\X.C.kn.lookup zt=some .local
 f:X.C.Γ.lookup zf=some 2/\bad zf=false/\X.C.kn.lookup zf=some .local
 c:X.C.Γ.lookup zc=some 3/\bad zc=false/\X.C.kn.lookup zc=some .local
 n:X.C.n=4
 ki:X.C.kn.lookup ("iter" :Str)=some .globalImplicit
 gi:X.W.mg "iter" =none
 bi:X.W.mb "iter" =some (.builtin "iter")
variable{R:bW}{C N₀ fI fR fG fP:Addr}{X:Ctx}{P:(Addr->Option Obj)->Prop}
theorem di.eqc(O:ud X zs zt zf zc){x:Str}{k:Nat}{p1 p2 q:Bz}{l:List Nat}(h:x=mkStr l):oT X [] [] (CK zc x k p1 p2 q) (fun g=>aY X.W.U (.cmp .Eq (.var 3) (.lit (.str l))) g.σ):=
 oT.of (di.cmp (av.var O.c.2.2 rfl O.c.1 (wE O.c.2.1) (wW O.c.2.1)) (av.cStr h) rfl)
theorem eV.dA(Y:eU R C N₀ fI fR fG fP X)(Z:mj R C fR X)(O:ud X zs zt zf zc){a1:Nat}{a2 a3 a4 a5 a6 a7 a8 a9 oW:Bz}(hl:(a7.endLine==a8.line)=true):eV X [] [] P (CN zs zc a1 a2 a3 a4 a5 a6 a7 a8 a9 oW) (ub 0 3 X.W.U):=
 eV.kG (di.eqc O rfl) (yU.cons (eV.of (zN.assign O.c.1 (.inl rfl) (wV.ml Y Z O.s.1 O.s.2.1 hl) fun env _=>rfl)) yU.nil) yU.nil
theorem yU.add(O:ud X zs zt zf zc){p1 p2 q:Bz}:yU X [] [] P [CL zt zc p1 p2 q] (CJ X.W.U 1 3):=
 yU.cons (eV.of (zN.aug O.t.1 (av.var O.c.2.2 rfl O.c.1 (wE O.c.2.1) (wW O.c.2.1)) (wW O.t.2.1))) yU.nil
theorem yU.w6(O:ud X zs zt zf zc){p q:Bz}:yU X [] [] P [CM zt p q] (KY X.W.U 1):=
 yU.cons (eV.of (zN.ret (wV.pure (av.var O.t.2.2 rfl O.t.1 (wE O.t.2.1) (wW O.t.2.1))))) yU.nil
end
noncomputable def Zd(X:Ctx)(fR:Addr)(fi:Nat)(st:Stmt):Prop:=∀{K:Addr->Option Obj} {env:Dv} {A:Al} {s₀ s:Ab} {g:Sg} {N:Nat->List Addr} {F:List Addr} {x:Addr} {b:aj},aw X [] [] K env A s₀ g N F s->g.σ[0]?=some (some (.obj (.ref x)))->g.β=some (.ref x,b)->∀{Q:Ls->Ab->Prop} {E:Value->Ab->Prop},
 (∀it m eD N' s',aw X [] [] eD env A s₀ (g.set fi (.obj (.ref it))) N' F s'->lD fR it m x eD->(∀a o,K a=some o->eD a=some o)->K it=none->Q .next s')->Am (Af X.W.prog X.W.w) A (exec st env) Q E s
noncomputable def Ze(X:Ctx)(fR:Addr)(st:Stmt)(D:Value->Value->Den):Prop:=∀{K cN:Addr->Option Obj} {env:Dv} {A:Al} {s₀ s:Ab} {g g':Sg} {fl:Fl} {N:Nat->List Addr} {F:List Addr} {it m x:Addr} {E:Value->Ab->Prop},lD fR it m x K->(∀b o,cN b=some o->K b=some o)->cN it=none->(∀h:Ap,(∀b o,cN b=some o->h.get? b=some o)->X.W.Wd h)->
 aw X [] [] K env A s₀ g N F s->D (.ref x) (.ref it) g=some (g',fl)->Am (Af X.W.prog X.W.w) A (exec st env) (i9 X [] [] cN env A s₀ g' fl) E s
theorem LA{R:bW}{C:Addr}{W:bu}{Cc:Cx}{F:List Addr}{s s':Ab}{env:Dv}{A:Al}{aI:List (Option PV)}{v:Value}{b':aj}{r:List Nat}{fw:Ls}(h:i9 ⟨W,wG R C F,Cc⟩ [] [] (fq s.heap F) env A s ⟨aI,some (v,b')⟩ (.ret (.str r)) fw s'):
  ∃u,fw= .ret u/\KS R C v b' r F s (.ok (.ret u)) s':=by
 obtain⟨⟨u,ms,rfl,ru,_⟩,N',F',T'⟩:=h
 refine aB ru.inv fun t aP _=>?_
 subst aP
 refine au (T'.book _ _ rfl) fun aG gB=>?_
 subst aG
 exact⟨_,rfl,t,rfl,T'.same,fun a o h1 h2=>T'.kept a o (jF h1 h2),gB⟩
theorem Zg{R:bW}{C N₀ fI fR fG fP:Addr}{W:bu}{scope:Scope}{params:Arguments}{name qual zs:Str}{s1 s2 s3 s4 s5:Stmt}{D:Value->Value->Den}{d5:Den}
  (hY:∀bx,eU R C N₀ fI fR fG fP ⟨W,wG R C bx,xY scope [zs]⟩) (hn:(xY scope [zs]).n=4)
  (hm:∀h,W.Wd h->lA h fG name qual params [s1,s2,s3,s4,s5] scope) (h1:∀F,zN ⟨W,wG R C F,xY scope [zs]⟩ [] [] s1 (t8 0)) (h2:∀F,zN ⟨W,wG R C F,xY scope [zs]⟩ [] [] s2 (yY 1 (fk W.U (.lit (.str [])))))
  (h3:∀F,Zd ⟨W,wG R C F,xY scope [zs]⟩ fR 2 s3) (h4:∀F,Ze ⟨W,wG R C F,xY scope [zs]⟩ fR s4 D) (h5:∀F,zO ⟨W,wG R C F,xY scope [zs]⟩ [] [] [] [] [s5] d5) (hD:∀v it,KZ W.U v it=zX (D v it) d5)
  (bg:jb scope [zs]=true) (iS:scope.names.all (fun y=>y.2 != .cell)=true) (bo:∀pm cd doc u body,E6 (H9 name qual params body scope pm cd doc .none) ⟨[u],[]⟩=pure [(zs,u)]):mf W R C (W.D+1) fG (jH W.U):=by
 intro A s v b b' r F aN de eJ gu
 have jG:W.Wd s.heap:=eJ _ fun a o _ e=>e
 refine QF (X:=⟨W,wG R C F,xY scope [zs]⟩) (xs:=[zs]) (ps:=[.obj v]) (vs:=[v]) (β:=some (v,b)) (K:=fq s.heap F) (F:=F) rfl bg iS (hm _ jG) ((hY F).lim _ jG) aN (fun a o e=>(w0 e).2) (fun h k=>eJ h fun a o h1 h2=>k a o (jF h1 h2))
  (fun u c e=>sp e ⟨rfl,de⟩) (fun a ha=>⟨by exact xU ha rfl,de.bU a ha⟩) (fun pm cd doc=>bo pm cd doc v _) (ak.one (.obj v)) rfl fun env aa T=>?_
 rw[show ey (xY scope [zs]) [.obj v] (some (v,b))=⟨[some (.obj v),none,none,none],some (v,b)⟩by unfold ey;rw[hn];rfl]at T
 rcases gu v with e1|⟨hp,e2⟩
 ·refine Bd (zE (h1 F _ env _ _ _ _ _ F _ _ _ T e1) fun fw s₂ ai=>?_)
  refine aB (LA ai) fun u aP h=>?_
  subst aP
  exact h
 ·refine Bd (zE (h1 F _ env _ _ _ _ _ F _ ⟨[some (.obj v),none,none,none],some (v,b)⟩ .next T ?_) fun fw s₂ ai=>?_)
  ·simp[t8,gX,hp]
  obtain⟨hf,rG,oF,ax⟩:=ai
  obtain rfl:fw= .next:=hf
  refine Bd (zE (h2 F _ env _ _ _ _ _ oF _ ⟨[some (.obj v),some (.str []),none,none],some (v,b)⟩ .next ax rfl) fun fw ao aq=>?_)
  obtain⟨hf,fu,kq,aM⟩:=aq
  obtain rfl:fw= .next:=hf
  obtain⟨x,dx,st,ds,lam,cc,cell,sg,pb,rfl,hF,L,nE⟩:=aM.lex (hY F) rfl
  refine Bd (h3 F aM rfl rfl fun it m eD gE aS bP w7 gW oU=>?_)
  refine aJ (e2 (.ref it)) fun aI e2=>?_
  rw[hD]at e2
  obtain⟨⟨Zh,w8⟩,LB,oX⟩:=wO e2
  refine Bd (zE (h4 F w7 gW oU (fun h k=>eJ h fun a o h1 h2=>k a o (jF h1 h2)) bP LB) fun fw cH dH=>?_)
  cases w8 with
  |next=>
   obtain⟨hf,Zi,LC,dt⟩:=dH
   obtain rfl:fw= .next:=hf
   refine zE (h5 F _ env _ _ _ _ _ LC _ _ _ dt oX) fun fw s₆ et=>?_
   refine aB (LA et) fun u aP h=>?_
   subst aP
   exact h
  |ret p=>
   refine au (Bg (Aa oX)) fun aG q=>?_
   subst aG
   obtain rfl:=Fl.ret.inj q
   refine aB (LA dH) fun u aP h=>?_
   subst aP
   exact h
  |brk=>exact Fl.noConfusion (Bg (Aa oX)).2
  |cont=>exact Fl.noConfusion (Bg (Aa oX)).2
section
variable{zs zt zf zc:Str}{j1 j2 j3 j4 j5 j6 j7 j8:Nat}{q1 q2 q3 q4 q5 q6 q7 q8 q9 Zj aJ aB kU jS pG qM Zk Zl Zm Zn gc dY cX uP FH uQ Zo Zp Zq Zr AF qN nO jT AG FI Zs Zt Zu Zv Zw tm qO tw uR uS Q6 Zx Zy Zz ZA ZC AH ZD ZE ZF ZG ZH ZI ZJ ZK ZL FK ZM ZN ZO ZP ZQ Q7 Q8 q71 q72 q73 q74 q75 q76 q77 ZR ZS ZT ZU ZV ZW ZX ZY ZZ Z0 Z1 Z2 Z3 Z4 Z5 Z6 Z7 Z8 Z9:Bz}
theorem zZy{R:bW}{C N₀ fI fR fG fP:Addr}{W:bu}{scope:Scope}{params:Arguments}{name qual:Str}
  (hY:∀bx,eU R C N₀ fI fR fG fP ⟨W,wG R C bx,xY scope [zs]⟩) (hZ:∀bx,mj R C fR ⟨W,wG R C bx,xY scope [zs]⟩) (hO:∀bx,ud ⟨W,wG R C bx,xY scope [zs]⟩ zs zt zf zc)
  (hm:∀h,W.Wd h->lA h fG name qual params [.If (.Attribute (.Name zs ZR) "pushback" ZS) [.Return (some (.Call (.Attribute (.Attribute (.Name zs ZT) "pushback" ZU) "pop" Q7) [.Constant (.int 0) j6 ZV] [] Q8)) ZW] [] ZX,
   .Assign [.Name zt ZY] (.Constant (.str "") j7 ZZ) Z0,
   .Assign [.Name zf Z1] (.Call (.Name "iter" Z2) [.Attribute (.Name zs Z3) "_read_char" Z4, .Constant (.str "") j8 Z5] [] Z6) Z7,
   .For (.Name zc ZO) (.Name zf ZP) [.If (Q5 zs zc ZF ZG ZH ZI) [.Continue ZJ] [] ZK, .If (CK zc "\"" j5 ZL FK ZM) [.For (.Name zc Zm) (.Name zf Zn) [.If (CK zc "\"" j1 q1 q2 q3) [CM zt q4 q5] [CN zs zc j2 q6 q7 q8 q9 Zj aJ aB kU jS] pG,CL zt zc qM Zk Zl] [] gc] [CN zs zc j4 Zw tm qO tw uR uS Q6 Zx Zy,CL zt zc Zz ZA ZC, .For (.Name zc AH) (.Name zf ZD) [.If (Q5 zs zc dY cX uP FH) [CM zt uQ Zo] [CN zs zc j3 Zp Zq Zr AF qN nO jT AG FI] Zs,CL zt zc Zt Zu Zv] [] ZE] ZN] [] ZQ,
   CM zt Z8 Z9] scope)
  (hl:(Q7.endLine==Q8.line)=true/\(aJ.endLine==aB.line)=true/\(nO.endLine==jT.line)=true/\(uS.endLine==Q6.line)=true)
  (bg:jb scope [zs]=true) (iS:scope.names.all (fun y=>y.2 != .cell)=true)
  (bo:∀pm cd doc u body,E6 (H9 name qual params body scope pm cd doc .none) ⟨[u],[]⟩=pure [(zs,u)]):mf W R C (W.D+1) fG (jH W.U):=by
 exact Zg (D:=fun v it=>nF true v 2 it 3 _) hY (hO []).n hm (fun F=>zN.rZ (hY F) (hO F).s.1 (hO F).s.2.1 hl.1) (fun F=>zN.assign (hO F).t.1 (.inl rfl) (wV.pure (av.cStr (l:=[]) rfl)) (fun env _=>rfl))
  (fun F=>fun T bp bV _ _ h=>Y8 (hY F) (hZ F) (hO F).s.1 (hO F).s.2.1 (hO F).f.1 (hO F).ki (hO F).gi (hO F).bi T bp bV h)
  (fun F=>fun p gW oU wd T e=>Y7 (hY F) (hZ F) (hO F).f.1 (hO F).f.2.1 (hO F).c.1
   (yU.cons (eV.kG (oT.ws (hY F) (hO F).s.1 (hO F).s.2.1 (hO F).c.1 (hO F).c.2.1) (yU.cons (eV.of zN.cont) yU.nil) yU.nil)
    (yU.cons (eV.kG (di.eqc (hO F) (l:=[34]) rfl) (yU.cons (eV.mm (hY F) (hZ F) (hO F).f.1 (hO F).f.2.1 (hO F).c.1 (yU.cons (eV.kG (di.eqc (hO F) (l:=[34]) rfl) (yU.w6 (hO F)) (yU.cons (eV.dA (hY F) (hZ F) (hO F) hl.2.1) yU.nil)) (yU.add (hO F)))) yU.nil)
     (yU.cons (eV.dA (hY F) (hZ F) (hO F) hl.2.2.2) (yU.cons (eV.of (zN.aug (hO F).t.1 (av.var (hO F).c.2.2 rfl (hO F).c.1 (wE (hO F).c.2.1) (wW (hO F).c.2.1)) (wW (hO F).t.2.1))) (yU.cons (eV.mm (hY F) (hZ F) (hO F).f.1 (hO F).f.2.1 (hO F).c.1 (yU.cons (eV.kG (oT.ws (hY F) (hO F).s.1 (hO F).s.2.1 (hO F).c.1 (hO F).c.2.1) (yU.w6 (hO F)) (yU.cons (eV.dA (hY F) (hZ F) (hO F) hl.2.2.1) yU.nil)) (yU.add (hO F)))) yU.nil)))) yU.nil))
   p gW oU wd T e)
  (fun F=>zO.cons (tv₁:=[]) (dv₁:=[]) (zN.ret (wV.pure (av.var (hO F).t.2.2 rfl (hO F).t.1 (wE (hO F).t.2.1) (wW (hO F).t.2.1)))) (zO.nil rfl rfl) rfl rfl rfl rfl) (fun v it=>rfl) bg iS bo
end
section
variable{R:bW}{C N₀ fI fR fG fP:Addr}{W:bu}
end
section
variable{prog:Program}{w:Cn}{A:Al}{E:Value->Ab->Prop}{s:Ab}{C N fI fR fG fP:Addr}
noncomputable def LD(st pb:Addr)(t1 t3:Jr):Str->Option Value:=fun y=>if y= "pushback" then some (.ref pb)else if y= "whitespace" then some (.str ⟨#[10,9,13,32]⟩ t3)else if y= "instream" then some (.ref st)else if y= "lineno" then some (.int 1 t1)else none
structure r8(s:Ab)(L C N fI fR fG fP x dx:Addr)(m mA:Str->Option Value)(h:Ap):Prop where
 I:lC h C x dx mA
 c:fQ h C N fI fR fG fP
 ns:h.Ns L m
 k:∀a o,a≠x->a≠dx->s.heap.get? a=some o->h.get? a=some o
theorem r8.step{L x dx:Addr}{m mA Q9:Str->Option Value}{h h':Ap}(S:r8 s L C N fI fR fG fP x dx m mA h)(qq:L≠x)(qr:L≠dx)(mn:x≠N/\dx≠N/\x≠C/\dx≠C)(I':lC h' C x dx Q9)(hk:∀a o,a≠x->a≠dx->h.get? a=some o->h'.get? a=some o):r8 s L C N fI fR fG fP x dx m Q9 h':=
 ⟨I',S.c.at' (fun o=>hk C o mn.2.2.1.symm mn.2.2.2.symm) (fun o=>hk N o mn.1.symm mn.2.1.symm),S.ns.at' fun o e=>hk _ o qq qr e,fun a o h1 h2 e=>hk a o h1 h2 (S.k a o h1 h2 e)⟩
theorem CO{env:Dv}{x dx:Addr}{m mA:Str->Option Value}{h:Ap}{tk:Nat}{zs:Str}{p:Bz}{ns:List Str}{name:Str}{v:Value}{Q:Unit->Ab->Prop}(S:r8 s env.locals C N fI fR fG fP x dx m mA h)(r9:env.scope.kind= .function)(kz:env.kindOf zs=some .local)(mz:m zs=some (.ref x))(mq:bad zs=false)
  (qq:env.locals≠x) (qr:env.locals≠dx) (mn:x≠N/\dx≠N/\x≠C/\dx≠C) (iE:∀mN:Str->Option Value,mN "lineno" =none->mN "instream" =none->mN "whitespace" =none->mN "pushback" =none->mN name=none) (hB:Cq (.type "object") name=pure none) (hw:Within mA ns) (bY:ns.length<=100)
  (hq:∀h' w9,r8 s env.locals C N fI fR fG fP x dx m (fun y=>if y=name then some v else mA y) h'->(∀a o,a≠x->a≠dx->h.get? a=some o->h'.get? a=some o)->Q () {s with heap:=h',toks:=w9}):
  Am (Af prog w) A (eval (.Name zs p) env) (fun o aa=>Am (Af prog w) A (setAttr o name v) Q E aa) E {s with heap:=h,toks:=tk}:=
 Bt (zU r9 (.inl ⟨kz,m,S.ns,mz⟩) (QP (s:={s with heap:=h,toks:=tk}) S.I S.c iE hB hw bY fun h' w9 I' Ra=>hq h' w9 (S.step qq qr mn I' Ra) Ra) (wW mq)) (wE mq)
theorem zSj{x dx st:Addr}{scope:Scope}{params:Arguments}{name qual zs zp:Str}{a1 a2 a3 a4 b1 b2 b3 b4 b5 c1 c2 c3 c4 c5 c6 d1:Bz}{k1 k2:Nat}
  (hm:lA s.heap fI name qual params [.Assign [.Attribute (.Name zs a1) "lineno" a2] (.Constant (.int 1) k1 a3) a4, .Assign [.Attribute (.Name zs b1) "instream" b2] (.Name zp b3) b4,
   .Assign [.Attribute (.Name zs b5) "whitespace" c1] (.Constant (.str "\n\t\r ") k2 c2) c3, .Assign [.Attribute (.Name zs c4) "pushback" c5] (.List [] c6) d1] scope)
  (aN:A.depth<recursionLimit) (cx:s.heap.NoLimit) (c:fQ s.heap C N fI fR fG fP) (I:lC s.heap C x dx (fun _=>none))
  (hn:scope.names=[(zs, .local),(zp, .local)]) (cU:(zp==zs)=false) (hk:scope.kind= .function) (i5:scope.isCoroutine=false) (gG:scope.isGenerator=false) (mq:bad zs=false) (ue:bad zp=false)
  (mn:x≠N/\dx≠N/\x≠C/\dx≠C)
  (bo:∀pm cd doc u v body,E6 (H9 name qual params body scope pm cd doc .none) ⟨[u,v],[]⟩=pure [(zs,u),(zp,v)])
  {Rr:D3->Ab->Prop}
  (h:∀s' pb t1 t3,s.heap.get? pb=none->yZ s s'->(∀a o,a≠x->a≠dx->s.heap.get? a=some o->s'.heap.get? a=some o)->lC s'.heap C x dx (LD st pb t1 t3)->s'.heap.PlainList pb (Ek ([]:List Value))->Rr (.ok (.ret .none)) s'):
  Ca (Af prog w) A (.call (.ref fI) ⟨[.ref x, .ref st],[]⟩) Rr s:=by
 obtain⟨o,pm,cd,doc,ho,ma,dF,gF⟩:=hm
 have kl:∀y∈([(zs,Hu x),(zp,Hu st)]:List (Str×Value)),scope.names.lookup y.1=some .local:=fun y hy=>by
  simp only[Ax,Aq,or_false]at hy
  rcases hy with rfl|rfl
  ·refine af hn ?_;simp
  ·(refine af hn ?_;refine af A7 ?_;refine af cU ?_);simp
 refine call_methW_ret aN ho dF cx gF (.of_eq (bo pm cd doc _ _ _)) kl (fun ah Fm=>?_) i5 gG hk (by refine af hn ?_;intro y hy;simp at hy;rcases hy with rfl|rfl<;>simp)
 have up:Sub s.heap ah:=Fm.keep
 generalize bG:envOf qual scope s.heap.objs.size fI cd=env
 have eB:env.scope=scope:=by refine ct bG ?_;rfl
 have bf:env.locals=s.heap.objs.size:=by refine ct bG ?_;rfl
 have r9:env.scope.kind= .function:=by refine af eB ?_;exact hk
 have kz:env.kindOf zs=some .local:=by unfold Be;refine af eB ?_;exact kl (zs, .ref x) (by simp)
 have kp:env.kindOf zp=some .local:=by unfold Be;refine af eB ?_;exact kl (zp, .ref st) (by simp)
 clear bG
 have hL:s.heap.get? env.locals=none:=by refine af bf ?_;exact yP 0
 obtain⟨m,bY,m1,m2⟩:∃m:Str->Option Value,ah.Ns env.locals m/\m zs=some (.ref x)/\m zp=some (.ref st):=by
  refine FN _ (by refine af bf ?_;exact Fm.ns) ?_ ?_
  ·have:(zs==zp)=false:=by
    cases q:(zs==zp)with
    |false=>rfl
    |true=>
     have:zs=zp:=by exact eq_of_beq q
     rw[this]at cU;simp at cU
   refine(?_:Fp zs [(zp,Hu st),(zs,Hu x)]=_)
   (refine af A7 ?_;refine af this ?_);simp
  ·refine(?_:Fp zp [(zp,Hu st),(zs,Hu x)]=_)
   simp
 have qq:env.locals≠x:=fun q=>I.o.bU.elim fun o e=>nn (hL.symm.trans (q▸e))
 have qr:env.locals≠dx:=fun q=>by obtain⟨o,_,_,e,_⟩:=I.d;exact nn (hL.symm.trans (q▸e))
 have LH:r8 s env.locals C N fI fR fG fP x dx m (fun _=>none) ah:=⟨I.up up,c.keeps up,bY,fun a o _ _ e=>up a o e⟩
 refine Bd (Cy (Ft (CO (s:=s) (ns:=[]) LH r9 kz m1 mq qq qr mn (fun _ h _ _ _=>h) KP (I0 fun _=>rfl) (by decide) fun ai bR dP aC=>?_)) rfl)
 refine Bd (Cy (Bt (zU r9 (.inl ⟨kp,m,dP.ns,m2⟩) (CO (s:=s) (ns:=["lineno"]) dP r9 kz m1 mq qq qr mn (fun _ _ h _ _=>h) QG (G6 _ _ (I0 fun _=>rfl)) (by decide) fun aq dj n8 Rb=>?_) (wW ue)) (wE ue)) rfl)
 refine Bd (Cy (Dp (CO (s:=s) (ns:=["instream", "lineno"]) n8 r9 kz m1 mq qq qr mn (fun _ _ _ h _=>h) QH (G6 _ _ (G6 _ _ (I0 fun _=>rfl))) (by decide) fun aU Rc fU Rd=>?_)) rfl)
 refine Bd (Cy ?_ rfl)
 refine List_ (B7 (Cb ?_ (by refine(?_:(#[]:Array Value).size<=_);refine af Bm ?_;decide)))
 have r7:=Av (h:=aU) (o:={cls:= .type "list",data:= .seq ([]:List Value).toArray}) rfl
 have xb:Sub aU (aU.push {cls:= .type "list",data:= .seq ([]:List Value).toArray}):=fun a o e=>Ag _ e
 have n4:aU.get? aU.objs.size=none:=yP 0
 generalize aU.push {cls:= .type "list",data:= .seq ([]:List Value).toArray}=LI at r7 xb⊢
 generalize aU.objs.size=pb at r7 n4⊢
 have px:pb≠x:=(xT fU.I.o.bU n4).symm
 have pd:pb≠dx:=(xT (by obtain⟨o,_,_,e,_⟩:=fU.I.d;exact⟨o,e⟩) n4).symm
 have LJ:r8 s env.locals C N fI fR fG fP x dx m _ LI:=⟨fU.I.up xb,fU.c.keeps xb,fU.ns.keeps xb,fun a o h1 h2 e=>xb a o (fU.k a o h1 h2 e)⟩
 refine CO (s:=s) (ns:=["whitespace", "instream", "lineno"]) LJ r9 kz m1 mq qq qr mn (fun _ _ _ _ h=>h) QI (G6 _ _ (G6 _ _ (G6 _ _ (I0 fun _=>rfl)))) (by decide) fun et Rf xd xf=>?_
 have uf:s.heap.get? pb=none:=by
  cases e:s.heap.get? pb with
  |none=>rfl
  |some o=>exact nn (n4.symm.trans (fU.k pb o px pd e))
 exact Ei (h _ pb _ _ uf ⟨et,_,s.gens,rfl, .rfl' _⟩ xd.k xd.I ⟨_,xf pb _ px pd r7⟩)
end
noncomputable def qt(P:Addr)(ps:Array Value):tQ where
 is _ _ F h:=F=[P]/\h.get? P=some (G2 ps)
 frame:=fun h k=>⟨h.1,k P (by rw[h.1];simp) _ h.2⟩
 bU:=fun h a ha=>by rw[h.1]at ha;rw[Ae.mp ha];exact⟨_,h.2⟩
theorem Rg{α:Type}(L:List α):∀n:Nat,(Au n).filterMap (L[·]?)=L.take n
 |0=>by simp
 |n+1=>by(refine af List.range_succ ?_;refine af List.filterMap_append ?_;refine af (Rg L n) ?_;refine af List.take_add_one ?_);cases h:L[n]?<;>simp[h]
theorem zKi(l:List Nat):(Cw none none (-1) l.length).filterMap (l[·]?)=l.reverse:=by
 have h1:Cw none none (-1) l.length=(Au l.length).map fun k=>l.length-1-k:=by
  unfold Cw Gx
  have a1:¬((-1:Int)>0):=by decide
  simp only[if_neg a1]
  have hc:(if((l.length:Int)-1)> -1 then(((l.length:Int)-1)-(-1)-(-1)-1)/(-(-1))else 0).toNat=l.length:=by
   have e:((l.length:Int)-1-(-1)-(-1)-1)/(-(-1))=l.length:=by
    rw[show(-(-1:Int))=1 by decide,Int.ediv_one];lia
   refine af e ?_
   split<;>lia
  refine af hc ?_
  refine Ct fun k hk=>?_
  have:=B5.mp hk
  lia
 refine af h1 ?_
 refine af List.filterMap_map ?_
 have h2:=Rg l.reverse l.length
 rw[show l.reverse.take l.length=l.reverse by rw[<-Dg,Jh]]at h2
 refine ct h2 ?_
 have key:∀ks:List Nat,(∀k∈ks,k<l.length)->ks.filterMap ((fun x=>l[x]?)∘fun k=>l.length-1-k)=ks.filterMap (l.reverse[·]?):=by
  intro ks
  induction ks with
  |nil=>intro _;rfl
  |cons k r ih=>
   intro h
   have hk:=h k (Ai ..)
   rw[Dd,Dd,ih fun a ha=>h a (Aj _ ha)]
   have e:((fun x=>l[x]?)∘fun k=>l.length-1-k) k=l.reverse[k]?:=by
    refine(?_:l[l.length-1-k]?=_)
    rw[List.getElem?_reverse hk]
   exact af e rfl
 exact key _ fun k hk=>B5.mp hk
theorem Rh{h:Ap}:∀{cs:List Nat} {vs:List Value},vs.length=cs.length->(∀(j:Nat) v,vs[j]?=some v->∃c u,cs[j]?=some c/\v= .str ⟨#[c]⟩ u)->ak h (dw cs) vs []
 |[],[],_,_=> .nil
 |[],_::_,h,_=>by cases h
 |_::_,[],h,_=>by cases h
 |c::cs,v::vs,hl,hg=>by
  refine dY (hg 0 v rfl) fun c' u e gC=>?_
  subst gC
  obtain rfl:=Aa e
  refine ak.cons (n:=[]) (.str [c] u) (Rh (by simpa using hl) fun j v e=>?_)
  refine dY (hg (j+1) v (by exact e)) fun c' u' e1 e2=>?_
  exact nQ c' u' (by exact e1) e2
section
variable{X:Ctx}{tv dv:List Nat}
noncomputable def sd(i:Nat):dr:=fun g=>match g.σ[i]? with
 |some (some (.str l))=>if l.length<=ag then some (g, .list (dw l.reverse))else none
 |_=>none
theorem zUg{i:Nat}{g g':Sg}{p:PV}(e:sd i g=some (g',p)):∃l,g.σ[i]?=some (some (.str l))/\l.length<=ag/\g=g'/\PV.list (dw l.reverse)=p:=by
 unfold sd at e
 cases h:g.σ[i]? with
 |none=>rw[h]at e;exact nn e
 |some o=>
  rw[h]at e
  cases o with
  |none=>exact nn e
  |some q=>
   cases q with
   |str l=>
    refine oI e fun hl e=>?_
    refine au (Bg (Aa e)) fun aG aP=>?_
    subst aG
    subst aP
    exact FO l rfl hl rfl rfl
   |_=>exact nn e
theorem wV.listRev{zt:Str}{i k:Nat}{p1 p2 p3 p4 p5 p6 p7:Bz}(hz:X.C.Γ.lookup zt=some i)(hb:bad zt=false)(hk:X.C.kn.lookup ("list" :Str)=some .globalImplicit) (hg:X.W.mg "list" =none) (lR:X.W.mb "list" =some (.type "list")):
  wV X tv dv true (.Call (.Name "list" p1) [.Subscript (.Name zt p2) (.Slice none none (some (.UnaryOp .USub (.Constant (.int 1) k p3) p4)) p5) p6] [] p7) (sd i):=fun K env A E s₀ g N F s g' p T e=>by
 refine jS (zUg e) fun l hl hsz gC hV=>?_
 subst gC
 subst hV
 obtain⟨v,acc,r⟩:=T.rd zt i _ hz hl
 generalize N i=nn at r
 cases r
 rename_i t
 refine Eo rfl ?_
 refine A6 T.kind (by unfold Be;refine af T.names ?_;exact hk) (Cz (mg:=X.W.mg) (mb:=X.W.mb) ?_ hg ?_ lR ?_) (by decide)
 ·refine af T.gl ?_;exact X.W.g T.pre.wd
 ·refine af T.bl ?_;exact X.W.b T.pre.wd
 refine Cm ?_ (zF rfl [] env) rfl
 refine af (zF rfl [] env) ?_
 refine Ba (Subscript_ (Bt (zU T.kind acc ?_ (wW hb)) (wE hb)))
 refine wpAny_Slice ?_
 refine zE (jY.no env A _ s g.σ none T.pre rfl) fun vl s₂ ai=>?_
 refine au ai fun pl k₂=>?_
 refine zE (jY.no env A _ s₂ g.σ none (T.pre.kp k₂) rfl) fun vh ao aq=>?_
 refine au aq fun ph bF=>?_
 refine zE (jY.yes (av.neg av.cInt) env A _ ao g.σ (some (-1)) ((T.pre.kp k₂).kp bF) rfl) fun vk aS aU=>?_
 refine au aU fun pk cf=>?_
 have kk:KG s aS:=zI (zI k₂ bF) cf
 refine aB (u4 pl) fun ql aP hql=>?_
 subst aP
 refine aB (u4 ph) fun qh aP hqh=>?_
 subst aP
 refine aB (u4 pk) fun qk aP Ri=>?_
 subst aP
 refine u5 (Hp _ _ _) PySem.F.slot_str_getitem.lookup ?_ ⟨_,rfl⟩
 refine wpAny_getItem_str_slice (l:=ql) (u:=qh) (st:=qk) ⟨_,Av _ rfl,rfl,rfl⟩ (by refine af Ri ?_;rfl) ?_
 have xh:sliceMade ⟨l.toArray⟩ t ql qh qk= .str ⟨l.reverse.toArray⟩:=by
  unfold sliceMade Kj
  refine af hql ?_
  refine af hqh ?_
  refine af Ri ?_
  refine eM (by simp) ?_
  refine congrArg Made.str (congrArg Str.mk (congrArg Ek ?_))
  refine(?_:List.filterMap (fun x=>l.toArray[x]?) (Cw none none (-1) (Ce ⟨l.toArray⟩))=_)
  have:Ce ⟨l.toArray⟩=l.length:=by simp[Ce]
  refine af this ?_
  have h2:(fun x:Nat=>l.toArray[x]?)=(l[·]?):=by funext x;simp
  refine af h2 ?_
  exact zKi l
 refine af xh ?_
 have hlen:Ce ⟨l.reverse.toArray⟩=l.length:=by simp[Ce]
 refine cj (by(refine af hlen ?_;refine af Bm ?_);exact hsz) (B7 ?_)
 generalize hH:aS.heap.push {cls:= .type "slice",data:= .fields #[partValue ql,partValue qh,partValue qk]}=H
 have kH:KG s {aS with heap:=H,toks:=aS.toks+1}:=zI kk (jA _ H _ fun a o e=>hH▸Ag _ e)
 refine call_list_str (s:={aS with heap:=H,toks:=aS.toks+1}) T.room.hh _ _ (fun h' tk lQ c' hk hS hit=>?_) (by refine(?_:l.reverse.toArray.size<=_);refine af Bm ?_;unfold ag at hsz;simpa using hsz)
 have k':KG s {aS with heap:=h',toks:=tk}:=zI kH (jA _ h' tk hk)
 have hv:ak h' (dw l.reverse) lQ.toList []:=Rh (by have:=hit.1;exact this) fun j v e=>by
  refine dY (hit.2 j v (by simpa using e)) fun c u e1 e2=>?_
  exact nQ c u (by simpa using e1) e2
 have hn:s.heap.get? H.objs.size=none:=wT kH (yP (h:=H) 0)
 exact⟨N,F,[H.objs.size],T.kg k', .list ⟨c',by simpa using hS⟩ hv,T.held ⟨by simp,fun a ha=>by refine af (Ae.mp ha) ?_;exact hn⟩⟩
end
section
variable{X:Ctx}{tv dv:List Nat}{K:Addr->Option Obj}{env:Dv}{A:Al}{s₀ s s':Ab}{g:Sg}{N:Nat->List Addr}{F:List Addr}
theorem aw.jh(T:aw X tv dv K env A s₀ g N F s){BK:tQ}{β:Option (Value×aj)}(h:∀v b,β=some (v,b)->BK.is v b F s.heap):aw ⟨X.W,BK,X.C⟩ tv dv K env A s₀ {g with β:=β} N F s:=
 {T with book:=h}
noncomputable def odd(o:Obj):Bool:=match o.data with
 | .fields _=>true
 | .func _=>true
 |_=>false
theorem aw.se(T:aw X tv dv K env A s₀ g N F s){a:Addr}(hK:K a=none)(hF:a∉F)(ho:∃o,s.heap.get? a=some o/\odd o=true)(hs:yZ s s')(hk:∀b o,b≠a->s.heap.get? b=some o->s'.heap.get? b=some o):aw X tv dv K env A s₀ g N F s':=by
 refine aB ho fun oa nu dz=>?_
 have hl:env.locals≠a:=fun q=>by
  refine qO T.loc fun m o es ep e1 e2 _=>?_
  rw[q,nu]at e1;obtain rfl:=Aa e1;unfold odd at dz;rw[e2]at dz;exact ft dz
 have aR:∀c v,s.heap.IsCell c v->c≠a:=fun c v h q=>by
  refine aB h fun o e1 e2=>?_
  rw[q,nu]at e1;obtain rfl:=Aa e1;unfold odd at dz;rw[e2]at dz;exact ft dz
 have hn:∀j b,b∈N j->b≠a:=fun j b hb q=>by
  refine gc (T.nd j b hb) fun items n e=>?_
  rw[q,nu]at e;obtain rfl:=Aa e;exact ft dz
 have up:∀j b,b∈N j->∀o,s.heap.get? b=some o->s'.heap.get? b=some o:=fun j b hb o e=>hk b o (hn j b hb) e
 exact
  {T with
   loc:=by obtain⟨m,h⟩:=T.loc;exact⟨m,h.at' fun o e=>hk _ o hl e⟩
   cls:=fun x c e1 e2=>by
    refine au (T.cls x c e1 e2) fun bL h5=>?_
    refine dY bL fun u o h3 h4=>?_
    exact cj ⟨u,o,hk c o (aR c _ ⟨o,h3,h4⟩) h3,h4⟩ h5
   rd:=fun x i p e1 e2=>by
    obtain⟨u,ac,r⟩:=T.rd x i p e1 e2
    refine⟨u,?_,r.on fun b hb o e=>up i b hb o e⟩
    rcases ac with⟨h1,m,h2,h3⟩|⟨h1,c,h2,o,h3,h4⟩
    ·exact .inl ⟨h1,m,h2.at' fun o e=>hk _ o hl e,h3⟩
    ·exact .inr ⟨h1,c,h2,o,hk c o (aR c _ ⟨o,h3,h4⟩) h3,h4⟩
   nd:=fun j b hb=>by obtain⟨items,n,e⟩:=T.nd j b hb;exact⟨items,n,up j b hb _ e⟩
   kept:=fun b o e=>hk b o (fun q=>by rw[q,hK]at e;exact nn e) (T.kept b o e)
   same:=T.same.trans hs
   book:=fun u b e=>X.BK.frame (T.book u b e) fun c hc o e=>hk c o (fun q=>hF (q▸hc)) e
   foot:=fun b hb=>by
    refine dX (T.foot b hb) fun h1 ib h3=>?_
    refine aJ ib fun o h2=>?_
    exact⟨h1,⟨o,hk b o (fun q=>hF (q▸hb)) h2⟩,h3⟩}
theorem zGz{pos:Bz}{a b:Int}{c:Value}(h:(a==(pos.line:Int)&&b==(pos.col:Int))=false):codeAmong pos [Hg a,Hg b,c]=none:=by
 unfold Hg codeAmong
 refine eM (by rw[h];decide) ?_
 rfl
end
noncomputable def eQ:aj:=⟨[],0,[]⟩
noncomputable def oY(P:Addr):tQ where
 is _ _ F h:=F=[P]/\∃o,h.get? P=some o
 frame:=fun h k=>⟨h.1,by obtain⟨o,e⟩:=h.2;exact⟨o,k P (by rw[h.1];simp) _ e⟩⟩
 bU:=fun h a ha=>by rw[h.1]at ha;rw[Ae.mp ha];exact h.2
noncomputable def xi(o:Obj):Nat:=match o.data with
 | .func _=>if o.dict.isSome then 0 else 1
 | .fields _=>2
 | .cell _=>3
 | .seq _ _=>4
 | .dict _ _=>5
 |_=>6
structure CP(W:bu)(P c iY:Addr):Prop where
 code:∀h,W.Wd h->∃o fd,h.get? iY=some o/\o.data= .func fd/\fd.code= .ref c
 hd:∀h,W.Wd h->L7 h c P
 bm:∀h,W.Wd h->h.BuiltinsAt W.mg P
 gP:mainGlobals≠P
 lim:∀h,W.Wd h->h.NoLimit
inductive CQ(R:bW)(C P:Addr)(text:List Nat)(s:Ab)(res:D3)(s':Ab):Prop
 |mk (v:Value) (F:List Addr) (ps:Array Value) (e:res= .ok (.ret v)) (sm:yZ s s') (k:∀a o,a≠P->s.heap.get? a=some o->s'.heap.get? a=some o) (hP:s'.heap.get? P=some (G2 ps)) (l:iD R C v ⟨text,1,[]⟩ F s'.heap) (n:∀a∈F,s.heap.get? a=none):CQ R C P text s res s'
noncomputable def sf(W:bu)(R:bW)(C:Addr)(D:Nat)(f P:Addr):Prop:=∀(A:Al) (s:Ab) (u:Value) (text:List Nat),wH D A->VR s.heap (.str text) u []->s.heap.get? P=some (G2 #[])->text.length<=ag->
 (∀h:Ap,(∀a o,a∉ [P]->s.heap.get? a=some o->h.get? a=some o)->W.Wd h)->
 Ca (Af W.prog W.w) A (.call (.ref f) ⟨[u],[]⟩) (CQ R C P text s) s
inductive Rj(s:Ab)(P:Addr)(tr:Array Value)(pos:Bz)(ob:Addr->Value->Obj)(qual:Str)(f:Addr)(s':Ab):Prop
 |mk (c':Addr) (fO:Value) (sm:yZ s s') (k:∀a o,a≠P->s.heap.get? a=some o->s'.heap.get? a=some o) (ho:s'.heap.get? f=some (ob c' fO)) (hP:s'.heap.get? P=some (G2 (tr++ #[Hg pos.line,Hg pos.col, .ref c']))) (rc:s'.heap.CodeRec (.ref c') qual)
  (nf:s.heap.get? f=none) (nc:s.heap.get? c'=none):Rj s P tr pos ob qual f s'
theorem Rk{h:Ap}{a:Addr}(q:h.objs.size<=a):h.get? a=none:=by
 cases e:h.get? a with
 |none=>rfl
 |some o=>exact absurd (Bk e) (Es.mpr q)
section
variable{R:bW}{C N₀ fI fR fG fP fM P c:Addr}{W:bu}{Cc:Cx}{tv dv:List Nat}{K:Addr->Option Obj}{env:Dv}{A:Al}{E:Value->Ab->Prop}{s₀ s s':Ab}{σ:List (Option PV)}{N:Nat->List Addr}
theorem Rl{params:Arguments}{body:Expr}{scope:Scope}{pos:Bz}{tr:Array Value}{cl:List (Str×Addr)}{Q:Value->Ab->Prop}(T:aw ⟨W,oY P,Cc⟩ tv dv K env A s₀ ⟨σ,some (.none,eQ)⟩ N [P] s)(hM:CP W P c fM)(gF:env.code= .ref c)(hP:s.heap.get? P=some (G2 tr))(ht:TriplesOk tr.toList)(ug:codeAmong pos tr.toList=none)
  (hd:J3 params env=([],[])) (hc:Li scope env=pure cl)
  (h:∀f s',Rj s P tr pos (fun c' fO=>kla_obj "<lambda>" (env.qual++ "<lambda>") params body scope cl ((W.mg "__name__").getD .none) c' fO) (env.qual++ "<lambda>") f s'->aw ⟨W,oY P,Cc⟩ tv dv K env A s₀ ⟨σ,some (.none,eQ)⟩ N [P] s'->Q (.ref f) s'):
  Am (Af W.prog W.w) A (eval (.Lambda params body scope pos) env) Q E s:=by
 have wd:=T.pre.wd
 refine kla_eval hd (kla_makeFunction hc T.gl (W.g wd) gF (hM.hd _ wd) hP ht ug hM.gP (hM.bm _ wd) fun c' fO h' tk hx xj aX LK xk=>?_)
 have up:Sub h' (h'.push (kla_obj "<lambda>" (env.qual++ "<lambda>") params body scope cl ((W.mg "__name__").getD .none) c' fO)):=fun a o e=>Ag _ e
 have ho:=Av (h:=h') (o:=kla_obj "<lambda>" (env.qual++ "<lambda>") params body scope cl ((W.mg "__name__").getD .none) c' fO) rfl
 generalize h'.push (kla_obj "<lambda>" (env.qual++ "<lambda>") params body scope cl ((W.mg "__name__").getD .none) c' fO)=H at up ho⊢
 have sm:=(yZ.refl s).heap H tk
 have kk:∀a o,a≠P->s.heap.get? a=some o->H.get? a=some o:=fun a o h e=>up a o (hx a o h e)
 exact h _ _ ⟨c',fO,sm,kk,ho,up _ _ xk,LK.keeps up,Rk (Ad xj (Ci aX)),Rk xj⟩ (aw.t7 T sm (fun a o h e=>kk a o (fun q=>h (q▸ .head _)) e) (v:= .none) (b':=eQ) ⟨rfl,_,up _ _ xk⟩)
inductive jI(h:Ap):List Addr->List Nat->Prop
 |nil:jI h [] []
 |cons {a:Addr} {t:Nat} {l:List Addr} {ts:List Nat} (e:∃o,h.get? a=some o/\xi o=t) (r:jI h l ts):jI h (a::l) (t::ts)
theorem jI.app{h:Ap}{l k:List Addr}{ts us:List Nat}(x:jI h l ts)(y:jI h k us):jI h (l++k) (ts++us):=by
 induction x with
 |nil=>exact y
 |cons e _ ih=>exact .cons e ih
theorem jI.mem{h:Ap}{l:List Addr}{ts:List Nat}(x:jI h l ts):∀a∈l,∃o,h.get? a=some o/\xi o∈ts:=by
 induction x with
 |nil=>exact dE
 |cons e r ih=>exact fa (e.elim fun o q=>⟨o,q.1,q.2▸ .head _⟩) fun b hb=>(ih b hb).elim fun o q=>⟨o,q.1, .tail _ q.2⟩
theorem jI.nodup{h:Ap}{l:List Addr}{ts:List Nat}(x:jI h l ts)(n:ts.Nodup):l.Nodup:=by
 induction x with
 |nil=>exact Er
 |cons e r ih=>
  have n:=Dl.mp n
  refine Dl.mpr ⟨fun hm=>?_,ih n.2⟩
  refine aB (r.mem _ hm) fun o e1 e2=>?_
  refine aB e fun o' e3 e4=>?_
  obtain rfl:=Aa (e1.symm.trans e3)
  exact n.1 (e4▸e2)
structure Rm(R:bW)(h:Ap)(f ds lam cc cell sg:Addr)(text:List Nat):Prop where
 LM:oP h f ds
 xm:nA h ds lam
 sh:l9 R h lam cc cell
 xn:h.IsCell cell (some (.ref sg))
 ysg:kB h sg text
 tags:jI h [f,ds,lam,cc,cell,sg] [0,5,1,2,3,4]
theorem zT2{h6 h7 h8:Ap}{x dx f ds lam cc cell sg pb:Addr}{t1 t3:Jr}{text:List Nat}(Y:Rm R h6 f ds lam cc cell sg text)(oZ:Sub h6 h7)(keep:Sub h6 h8)(nx:h6.get? x=none)(nd:h6.get? dx=none)(I7:lC h7 C x dx fun _=>none)(I8:lC h8 C x dx (LD f pb t1 t3))(uf:h7.get? pb=none)(nB:h8.PlainList pb (Ek ([]:List Value)))(hsz:text.length<=ag):
  wA R C h8 ⟨text,1,[]⟩ x dx f ds lam cc cell sg pb:=by
 have LN:∀a∈[x,dx,f,ds,lam,cc,cell,sg],∃o,h7.get? a=some o:=fa I7.o.bU (fa (by obtain⟨o,_,_,e,_⟩:=I7.d;exact⟨o,e⟩) fun a ha=>(Y.tags.mem a ha).elim fun o e=>⟨o,oZ _ _ e.1⟩)
 have n6:∀a∈[f,ds,lam,cc,cell,sg],∀b,h6.get? b=none->b≠a:=fun a ha b hb q=>(Y.tags.mem a ha).elim fun o e=>nn (hb.symm.trans (q▸e.1))
 refine⟨I8.o,⟨_,I8.d,⟨t1,by(refine eM (by decide) ?_;refine eM (by decide) ?_;refine eM (by decide) ?_;exact xU rfl rfl)⟩,by(refine eM (by decide) ?_;refine eM (by decide) ?_;exact xU rfl rfl),⟨t3,by(refine eM (by decide) ?_;exact xU rfl rfl)⟩,if_pos rfl,fun n hn=>?_⟩,Y.LM.up (keep _),Y.xm.up (keep _),Y.sh.up (keep _) (keep _),IsCell.up Y.xn (keep _),Y.ysg.at' (keep _),⟨[],nB, .nil⟩,?_,hsz⟩
 ·unfold LD
  have ne:∀z∈(["lineno", "instream", "whitespace", "pushback"]:List Str),n≠z:=fun z hz q=>hn (q▸hz)
  (refine eM (ne _ (by decide)) ?_;refine eM (ne _ (by decide)) ?_;refine eM (ne _ (by decide)) ?_;exact eM (ne _ (by decide)) rfl)
 ·have m:=Y.tags.nodup (by decide)
  refine I5 (l₁:=[x,dx,f,ds,lam,cc,cell,sg]) (l₂:=[pb])|>.mpr ⟨Dl.mpr ⟨fun h=>(Ax.mp h).elim (fun q=>I7.ne q.symm) fun h=>n6 x h x nx rfl,Dl.mpr ⟨fun h=>n6 dx h dx nd rfl,m⟩⟩,Dl.mpr ⟨Aq,Er⟩,fun a ha b hb=>?_⟩
  exact Ae.mp hb▸xT (LN a ha) uf
end
section
variable{R:bW}{C N₀ fI fR fG fP fM P c:Addr}{W:bu}{Cc:Cx}{tv:List Nat}{env:Dv}{A:Al}{E:Value->Ab->Prop}{s s₆:Ab}{N:Nat->List Addr}{text:List Nat}{f:Addr}{p0:Option PV}
theorem LO{a:Addr}(T:aw ⟨W,oY P,Cc⟩ tv [] (fq s.heap [P]) env A s ⟨[p0,some (.obj (.ref f)),some (.list (dw text.reverse))],some (.none,eQ)⟩ N [P] s₆)(h:s₆.heap.get? a=none)(hP:a≠P):s.heap.get? a=none:=by
 cases e:s.heap.get? a with
 |none=>rfl
 |some o=>exact nn (h.symm.trans (T.kept a o (jF (fun q=>hP (Ae.mp q)) e)))
theorem Rn{a:Addr}(h:fq s.heap [P] a=none)(hP:a≠P):s.heap.get? a=none:=by
 unfold fq at h
 rwa[if_neg fun q=>hP (Ae.mp q)]at h
set_option maxHeartbeats 1000000 in
theorem yAl{scopeI:Scope}{paramsI:Arguments}{nameI iF zs zp zst:Str}{d1 d2 d3 d4 e1 e2 e3 e4 e5 f1 f2 f3 f4 f5 f6 g1 c1 c2 c3:Bz}{j1 j2:Nat}{ds lam cc cell:Addr}{ps:Array Value}{Q:Value->Ab->Prop}
  (ma:∀h,W.Wd h->fQ h C N₀ fI fR fG fP) (cx:∀h,W.Wd h->h.NoLimit)
  (LP:∀h,W.Wd h->lA h fI nameI iF paramsI [.Assign [.Attribute (.Name zs d1) "lineno" d2] (.Constant (.int 1) j1 d3) d4, .Assign [.Attribute (.Name zs e1) "instream" e2] (.Name zp e3) e4,
   .Assign [.Attribute (.Name zs e5) "whitespace" f1] (.Constant (.str "\n\t\r ") j2 f2) f3, .Assign [.Attribute (.Name zs f4) "pushback" f5] (.List [] f6) g1] scopeI)
  (LQ:scopeI.names=[(zs, .local),(zp, .local)]) (sj:(zp==zs)=false) (LR:scopeI.kind= .function) (sk:scopeI.isCoroutine=false) (mr:scopeI.isGenerator=false) (mq:bad zs=false) (ue:bad zp=false)
  (ji:∀pm cd doc u v body,E6 (H9 nameI iF paramsI body scopeI pm cd doc .none) ⟨[u,v],[]⟩=pure [(zs,u),(zp,v)])
  (T:aw ⟨W,oY P,Cc⟩ tv [] (fq s.heap [P]) env A s ⟨[p0,some (.obj (.ref f)),some (.list (dw text.reverse))],some (.none,eQ)⟩ N [P] s₆) (h2:2∈tv) (fJ:Cc.Γ.lookup zst=some 1) (iT:Cc.Γ.lookup R.sg=some 2) (jj:Cc.kn.lookup R.sg=some .cell) (w2:Cc.kn.lookup ("_netrclex" :Str)=some .globalImplicit)
  (l4:W.mg "_netrclex" =some (.ref C)) (iG:bad zst=false) (oH:A.depth+1<recursionLimit) (hsz:text.length<=ag) (hP:s₆.heap.get? P=some (G2 ps)) (dc:env.cells.lookup R.sg=some cell)
  (LM:oP s₆.heap f ds) (xm:nA s₆.heap ds lam) (sh:l9 R s₆.heap lam cc cell) (xo:jI s₆.heap [f,ds,lam,cc] [0,5,1,2]) (fresh:∀a∈[f,ds,lam,cc],s.heap.get? a=none)
  (hQ:∀v s',CQ R C P text s (.ok (.ret v)) s'->Q v s'):Am (Af W.prog W.w) A (eval (.Call (.Name "_netrclex" c1) [.Name zst c2] [] c3) env) Q E s₆:=by
 have wd:=T.pre.wd
 obtain⟨vst,ast,LS⟩:=T.rd zst 1 (.obj (.ref f)) fJ rfl
 refine au LS.inv fun aG _=>?_
 subst aG
 obtain⟨vsg,asg,rsg⟩:=T.rd R.sg 2 (.list (dw text.reverse)) iT rfl
 refine jT rsg.inv fun sg us ns cQ bq rf hN=>?_
 subst rf
 obtain rfl:=bq.aD (JX _)
 have aR:s₆.heap.IsCell cell (some (.ref sg)):=by
  rcases asg with⟨h1,_⟩|⟨_,c0,h2,h3⟩
  ·rw[show env.kindOf R.sg=some .cell by unfold Be;rw[T.names];exact jj]at h1;cases h1
  ·exact Aa (h2.symm.trans dc)▸h3
 have Y:Rm R s₆.heap f ds lam cc cell sg text:=⟨LM,xm,sh,aR,⟨us,cQ,bq⟩,by
  refine aB aR fun o e1 e2=>?_
  refine aJ cQ fun n e3=>?_
  exact xo.app (.cons ⟨o,e1,by unfold xi;exact af e2 rfl⟩ (.cons ⟨_,e3,rfl⟩ .nil))⟩
 have LU:sg≠P:=fun q=>(T.foot P (.head _)).2.2.1 2 (hN▸q▸ .head _)
 have sq:cell≠P:=fun q=>(T.foot P (.head _)).2.2.2.2 _ _ dc q.symm
 have fr6:∀a∈[f,ds,lam,cc,cell,sg],s.heap.get? a=none:=fa (fresh _ (.head _)) (fa (fresh _ (.tail _ (.head _))) (fa (fresh _ (.tail _ (.tail _ (.head _)))) (fa (fresh _ (.tail _ (.tail _ (.tail _ (.head _))))) (fa (Rn (T.cls _ _ jj dc).2 sq) (fa (Rn (T.bO 2 h2 sg [] hN).1 LU) dE)))))
 refine Eo rfl ?_
 refine A6 T.kind (by unfold Be;refine af T.names ?_;exact w2) (Dh (mg:=W.mg) (T.gl▸W.g wd) l4 ?_) (by decide)
 have c6:fQ s₆.heap C N₀ fI fR fG fP:=ma _ wd
 obtain⟨⟨nm,q,bs,sn,sub,col,dd,k0,k1,k2,k3,k5',hC⟩,mN,vE,hI,_⟩:=id c6
 refine callWith_cls (h₀:=s₆.heap) (N:=N₀) (mN:=mN) ⟨⟨nm,q,bs,sn,sub,col,dd,k0,k1,k2,k3,k5',hC⟩,vE⟩ ?_ (zF rfl [] env) rfl
 refine af (zF rfl [] env) ?_
 refine Ba (Bt (zU T.kind ast (B7 ⟨fun _ _ e=>e,?_⟩) (wW iG)) (wE iG))
 obtain⟨oI,pmI,cdI,LW,Ro,Rp,hdI,LX⟩:=LP _ wd
 refine wpAny_call_obj_init PySem.F.objNew hC vE hI Ro Rp fun h7 x dx Mk=>?_
 have oZ:Sub s₆.heap h7:=Mk.keeps
 have nx:s₆.heap.get? x=none:=Mk.newX
 have nd:s₆.heap.get? dx=none:=Mk.newD
 have I7:lC h7 C x dx (fun _=>none):=by
  refine jS Mk.inst fun o e1 e2 e3 e4=>?_
  have hd:=Mk.dict o e1
  rcases e4 with⟨hn,_⟩|⟨d',md,cU,bY⟩
  ·exact nn (hn.symm.trans hd)
  ·obtain rfl:=Aa (hd.symm.trans md)
   exact⟨⟨o,e1,e2,e3,hd⟩,bY,cU⟩
 have Rq:∃o,s₆.heap.get? C=some o:=⟨_,hC⟩
 have Rt:∃o,s₆.heap.get? N₀=some o:=by obtain⟨o,_,_,e,_⟩:=vE;exact⟨o,e⟩
 have off:∀a,(∃o,s₆.heap.get? a=some o)->a≠x/\a≠dx:=fun a h=>⟨xT h nx,xT h nd⟩
 refine F8 (zSj (fI:=fI) (x:=x) (dx:=dx) (st:=f) (C:=C) (N:=N₀) (fR:=fR) (fG:=fG) (fP:=fP) ⟨oI,pmI,cdI,LW,oZ _ _ Ro,Rp,hdI,LX.keeps oZ⟩ oH ((cx _ wd).keeps oZ) (c6.keeps oZ) I7 LQ sj LR sk mr mq ue ⟨(off _ Rt).1.symm,(off _ Rt).2.symm,(off _ Rq).1.symm,(off _ Rq).2.symm⟩ ji fun s8 pb t1 t3 uf hs8 hk8 I8 LY=>?_)
 have keep:Sub s₆.heap s8.heap:=fun a o e=>hk8 a o (off a ⟨o,e⟩).1 (off a ⟨o,e⟩).2 (oZ a o e)
 have xq:s₆.heap.get? pb=none:=by
  cases e:s₆.heap.get? pb with
  |none=>rfl
  |some o=>exact nn ((show h7.get? pb=none from uf).symm.trans (oZ _ _ e))
 have LZ:∃o,s₆.heap.get? P=some o:=⟨_,hP⟩
 exact⟨rfl,hQ _ _ ⟨.ref x,[x,dx,f,ds,lam,cc,cell,sg,pb],ps,rfl,(T.same.trans ((yZ.refl _).heap h7 _)).trans hs8,fun a o h e=>keep a o (T.kept a o (jF (fun q=>h (Ae.mp q)) e)),keep _ _ hP,⟨x,dx,f,ds,lam,cc,cell,sg,pb,rfl,rfl,zT2 Y oZ keep nx nd I7 I8 uf LY hsz⟩,
  fa (LO T nx (off _ LZ).1.symm) (fa (LO T nd (off _ LZ).2.symm) (fap (l:=[f,ds,lam,cc,cell,sg]) fr6 (fa (LO T xq (xT LZ xq).symm) dE)))⟩⟩
end
theorem zYq{text:List Nat}{β:Option (Value×aj)}(hsz:text.length<=ag):yY 2 (sd 0) ⟨[some (.str text),none,none],β⟩=some (⟨[some (.str text),none,some (.list (dw text.reverse))],β⟩, .next):=by
 refine(?_:(sd 0 _).bind _=_)
 unfold sd
 refine af (show([some (PV.str text),none,none]:List (Option PV))[0]?=some (some (.str text))from rfl) ?_
 dsimp only
 refine af (if_pos hsz) ?_
 rfl
section
variable{R:bW}{C N₀ fI fR fG fP fM P c:Addr}{W:bu}
set_option maxHeartbeats 1000000 in
theorem zZ3{scope ay:Scope}{params dU:Arguments}{name zt zst:Str}{xt:Expr}{b1 b3 b4 b5 b6 b7 b8 c4:Bz}{s1:Stmt}{e4:Expr}
  (hM:CP W P c fM)
  (dz:∀h,W.Wd h->lu h fM name params [s1, .Assign [.Name zst b1] (.Lambda dU xt ay b3) b4, .Assign [.Attribute (.Name zst b5) "read" b6] (.Lambda R.params R.body R.ay b7) b8, .Return (some e4) c4] scope)
  (h1:zN ⟨W,qt P #[],xY scope [zt]⟩ [2] [] s1 (yY 2 (sd 0)))
  (bg:jb scope [zt]=true) (fJ:(xY scope [zt]).Γ.lookup zst=some 1) (iT:(xY scope [zt]).Γ.lookup R.sg=some 2) (hn:(xY scope [zt]).n=3)
  (iG:bad zst=false) (jj:(xY scope [zt]).kn.lookup R.sg=some .cell)
  (rz:ay.names=[]) (Mc:∀env,J3 dU env=([],[])) (Md:∀env,J3 R.params env=([],[])) (Me:R.ay.names=[(R.sz, .local),(R.sg, .free)]) (jm:(((b3.line:Int))==(b7.line:Int)&&((b3.col:Int))==(b7.col:Int))=false)
  (bo:∀pm cd doc u body,E6 (Fx name params body scope pm cd doc) ⟨[u],[]⟩=pure [(zt,u)])
  (h4:∀{s s₆:Ab} {env:Dv} {A:Al} {E:Value->Ab->Prop} {N:Nat->List Addr} {text:List Nat} {f ds lam cc cell:Addr} {p0:Option PV} {ps:Array Value} {Q:Value->Ab->Prop},aw ⟨W,oY P,xY scope [zt]⟩ [2] [] (fq s.heap [P]) env A s ⟨[p0,some (.obj (.ref f)),some (.list (dw text.reverse))],some (.none,eQ)⟩ N [P] s₆->text.length<=ag->s₆.heap.get? P=some (G2 ps)->env.cells.lookup R.sg=some cell->
   oP s₆.heap f ds->nA s₆.heap ds lam->l9 R s₆.heap lam cc cell->jI s₆.heap [f,ds,lam,cc] [0,5,1,2]->(∀a∈[f,ds,lam,cc],s.heap.get? a=none)->(∀v s',CQ R C P text s (.ok (.ret v)) s'->Q v s')->Am (Af W.prog W.w) A (eval e4 env) Q E s₆):sf W R C (W.D+1) fM P:=by
 intro A s u text aN hu hP hsz eJ
 have jG:W.Wd s.heap:=eJ _ fun a o _ e=>e
 refine KL (X:=⟨W,qt P #[],xY scope [zt]⟩) (tv:=[2]) (dv:=[]) (xs:=[zt]) (ps:=[.str text]) (vs:=[u]) (ns:=[]) (β:=some (.none,eQ)) (K:=fq s.heap [P]) (F:=[P]) rfl bg (dz _ jG) (hM.lim _ jG) aN (fun a o e=>(w0 e).2) (fun h k=>eJ h fun a o h1 h2=>k a o (jF h1 h2))
  (fun v b e=>⟨rfl,hP⟩) (fun a ha=>⟨by exact xU ha rfl,by refine af (Ae.mp ha) ?_;exact⟨_,hP⟩,(fun h=>(Aq h).elim)⟩) (fun pm cd doc=>bo pm cd doc u _) (ak.one hu) rfl (by intro i hi;simp at hi;subst hi;exact Ci (D5 Nat.one_lt_two (Br _))) fun env cd aa N mu hq gj _ T=>?_
 have gF:env.code= .ref c:=by
  refine cX gj fun o fd e1 e2 e3=>?_
  refine cX (hM.code _ jG) fun o' rQ e4 e5 e6=>?_
  obtain rfl:=Aa (e1.symm.trans e4)
  obtain rfl:=Data.func.inj (e2.symm.trans e5)
  refine af mu ?_
  refine ct e3 ?_
  exact af e6 rfl
 rw[show ey (xY scope [zt]) [.str text] (some (.none,eQ))=⟨[some (.str text),none,none],some (.none,eQ)⟩by unfold ey;rw[hn];rfl]at T
 refine Bd (zE (h1 _ env _ _ _ _ _ [P] _ ⟨[some (.str text),none,some (.list (dw text.reverse))],some (.none,eQ)⟩ .next T (zYq hsz)) fun fw s₂ ai=>?_)
 obtain⟨hf,rG,oF,ax⟩:=ai
 obtain rfl:fw= .next:=hf
 refine au (ax.book _ _ rfl) fun aG jJ=>?_
 subst aG
 have ax:=ax.jh (BK:=oY P) (β:=some (.none,eQ)) fun v b e=>⟨rfl,_,jJ⟩
 refine Bd (Hf (Rl ax hM gF jJ trivial rfl (Mc env) (cl:=[]) (by unfold Li;refine af rz ?_;rfl) fun f ao I aM=>?_) rfl)
 refine zE (aM.ew fJ (.obj (.ref f)) (eu.nil (own:=true)) (.inl rfl)) fun _ aS aU=>?_
 refine dX aU fun bP Ru cf=>?_
 obtain⟨c',fO,sm,kk,ho,xu,_,nf,nc⟩:=I
 have xw:∃o,s₂.heap.get? env.locals=some o:=by obtain⟨_,o,_,_,e,_⟩:=ax.loc;exact⟨o,e⟩
 have xx:∀y d,(xY scope [zt]).kn.lookup y=some .cell->env.cells.lookup y=some d->∃o,s₂.heap.get? d=some o:=fun y d e1 e2=>by obtain⟨⟨v,o,e,_⟩,_⟩:=ax.cls y d e1 e2;exact⟨o,e⟩
 have qu:=cf f _ (xT xw nf).symm (fun y d e1 e2=>(xT (xx y d e1 e2) nf).symm) ho
 have fP:=(aM.foot P (.head _)).2.2.2
 have mv:aS.heap.get? P=_:=cf P _ fP.1 (fun y d _ e2=>fP.2 y d e2) xu
 refine aJ (bP.eT R.sg _ jj (.inl rfl)) fun cell dc=>?_
 refine Bd (Cy (Rl bP hM gF mv (by exact trivial) (zGz jm) (Md env) (cl:=[(R.sg,cell)]) (by unfold Li;refine af Me ?_;simp only[Gu,List.forIn_nil,cellOf,dc];rfl) fun lam cH J dt=>?_) rfl)
 obtain⟨c5,aaa,sm5,kk5,ho5,qv,rc5,Rv,Rw⟩:=J
 obtain⟨vst,ast,LS⟩:=dt.rd zst 1 (.obj (.ref f)) fJ rfl
 refine au LS.inv fun aG _=>?_
 subst aG
 refine Bt (zU dt.kind ast ?_ (wW iG)) (wE iG)
 have Mf:f≠P:=(xT ⟨_,jJ⟩ nf).symm
 have qw:=kk5 f _ Mf qu
 refine XR (s:=cH) qw rfl rfl rfl QK fun h6 Mg CR Mh Mi=>?_
 have Rx:cH.heap.get? cH.heap.objs.size=none:=yP 0
 generalize cH.heap.objs.size=ds at Mh Mi Rx
 have fr:∀{a:Addr} {σ:List (Option PV)} {N:Nat->List Addr} {s':Ab},aw ⟨W,oY P,xY scope [zt]⟩ [2] [] (fq s.heap [P]) env (A.deeper env) s ⟨σ,some (.none,eQ)⟩ N [P] s'->(∃ps,s'.heap.get? P=some (G2 ps))->s'.heap.get? a=none->s.heap.get? a=none:=fun {a _ _ s'} T' mw h=>by
  cases e:s.heap.get? a with
  |none=>rfl
  |some o=>exact nn (h.symm.trans (T'.kept a o (jF (fun q=>mw.elim fun _ e=>nn (h.symm.trans (Ae.mp q▸e))) e)))
 have hKf:fq s.heap [P] f=none:=by
  cases q:fq s.heap [P] f with
  |none=>rfl
  |some o=>exact nn (nf.symm.trans (ax.kept f o q))
 have dN:=dt.se (s':={cH with heap:=h6,toks:=Mg}) hKf (fun h=>Mf (Ae.mp h)) ⟨_,qw,rfl⟩ ((yZ.refl _).heap h6 Mg) CR
 have Ry:∃o,aS.heap.get? f=some o:=⟨_,qu⟩
 refine tw rc5 fun cc' occ vcc tcc GZ Mj xy Ml=>?_
 obtain rfl:=Gp GZ
 have qx:=CR lam _ (xT Ry Rv).symm ho5
 have x3:=CR c5 _ (xT Ry Rw).symm Mj
 have xm:nA h6 ds lam:=⟨_,Mi.ns,by simp⟩
 refine nO Mi fun ods esd epd Mm Mn _=>?_
 refine Bd (F6 (h4 (s₆:={cH with heap:=h6,toks:=Mg}) dN hsz (CR P _ Mf.symm qv) dc ⟨_,_,Mh,rfl,rfl,rfl⟩ xm ⟨_,_,_,_,_,qx,rfl,c5,occ,vcc,tcc,rfl,x3,xy,Ml⟩
  (.cons ⟨_,Mh,rfl⟩ (.cons ⟨_,Mm,by unfold xi;exact af Mn rfl⟩ (.cons ⟨_,qx,rfl⟩ (.cons ⟨_,x3,by unfold xi;exact af xy rfl⟩ .nil))))
  (fa (fr ax ⟨_,jJ⟩ nf) (fa (fr dt ⟨_,qv⟩ Rx) (fa (fr bP ⟨_,mv⟩ Rv) (fa (fr bP ⟨_,mv⟩ Rw) dE)))) fun v s' h=>h))
end
section
variable{R:bW}{C N₀ fI fR fG fP fM P c:Addr}{W:bu}
set_option maxHeartbeats 1000000 in
theorem yBz{scope ay:Scope}{params dU:Arguments}{name zt zst:Str}{k1 k2:Nat}{a1 a2 a3 a4 a5 a6 a7 a8 a9 b1 b2 b3 b4 b5 b6 b7 b8 c1 c2 c3 c4:Bz}
  {scopeI:Scope} {paramsI:Arguments} {nameI iF zs zp:Str} {d1 d2 d3 d4 e1 e2 e3 e4 e5 f1 f2 f3 f4 f5 f6 g1:Bz} {j1 j2:Nat}
  (ma:∀h,W.Wd h->fQ h C N₀ fI fR fG fP) (hM:CP W P c fM)
  (dz:∀h,W.Wd h->lu h fM name params [.Assign [.Name R.sg a1] (.Call (.Name "list" a2) [.Subscript (.Name zt a3) (.Slice none none (some (.UnaryOp .USub (.Constant (.int 1) k1 a4) a5)) a6) a7] [] a8) a9,
   .Assign [.Name zst b1] (.Lambda dU (.Constant .none k2 b2) ay b3) b4, .Assign [.Attribute (.Name zst b5) "read" b6] (.Lambda R.params R.body R.ay b7) b8,
   .Return (some (.Call (.Name "_netrclex" c1) [.Name zst c2] [] c3)) c4] scope)
  (LP:∀h,W.Wd h->lA h fI nameI iF paramsI [.Assign [.Attribute (.Name zs d1) "lineno" d2] (.Constant (.int 1) j1 d3) d4, .Assign [.Attribute (.Name zs e1) "instream" e2] (.Name zp e3) e4,
   .Assign [.Attribute (.Name zs e5) "whitespace" f1] (.Constant (.str "\n\t\r ") j2 f2) f3, .Assign [.Attribute (.Name zs f4) "pushback" f5] (.List [] f6) g1] scopeI)
  (LQ:scopeI.names=[(zs, .local),(zp, .local)]) (sj:(zp==zs)=false) (LR:scopeI.kind= .function) (sk:scopeI.isCoroutine=false) (mr:scopeI.isGenerator=false) (mq:bad zs=false) (ue:bad zp=false)
  (ji:∀pm cd doc u v body,E6 (H9 nameI iF paramsI body scopeI pm cd doc .none) ⟨[u,v],[]⟩=pure [(zs,u),(zp,v)])
  (bg:jb scope [zt]=true) (ht:(xY scope [zt]).Γ.lookup zt=some 0) (fJ:(xY scope [zt]).Γ.lookup zst=some 1) (iT:(xY scope [zt]).Γ.lookup R.sg=some 2) (hn:(xY scope [zt]).n=3)
  (hbt:bad zt=false) (iG:bad zst=false) (aab:(xY scope [zt]).kn.lookup zst=some .local) (jj:(xY scope [zt]).kn.lookup R.sg=some .cell) (pO:(xY scope [zt]).kn.lookup ("list" :Str)=some .globalImplicit) (w2:(xY scope [zt]).kn.lookup ("_netrclex" :Str)=some .globalImplicit)
  (qR:W.mg "list" =none) (lR:W.mb "list" =some (.type "list")) (l4:W.mg "_netrclex" =some (.ref C))
  (rz:ay.names=[]) (Mc:∀env,J3 dU env=([],[])) (Md:∀env,J3 R.params env=([],[])) (Me:R.ay.names=[(R.sz, .local),(R.sg, .free)]) (jm:(((b3.line:Int))==(b7.line:Int)&&((b3.col:Int))==(b7.col:Int))=false)
  (hD:2<=W.D) (bo:∀pm cd doc u body,E6 (Fx name params body scope pm cd doc) ⟨[u],[]⟩=pure [(zt,u)]):sf W R C (W.D+1) fM P:=by
 exact zZ3 hM dz (zN.assign iT (.inl rfl) (wV.listRev ht hbt pO qR lR) (fun env hnm=>rfl)) bg fJ iT hn iG jj rz Mc Md Me jm bo
  fun {s s₆ env A E N text f ds lam cc cell p0 ps Q} T hsz hP dc y1 y2 y3 y4 y5 hQ=>yAl ma hM.lim LP LQ sj LR sk mr mq ue ji T (.head _) fJ iT jj w2 l4 iG (by
   have:=T.room.depth
   have h2:W.D=(⟨W,oY P,xY scope [zt]⟩:Ctx).W.D:=rfl
   lia) hsz hP dc y1 y2 y3 y4 y5 hQ
end
end Internal
namespace Internal
open PySem PySem.Sre
noncomputable def ec:Array Nat:= #[14,4,0,1,1,6,1,16,46,1]
noncomputable def cy:Array Nat:= #[14,9,4,1,2,16,10,16,13,0,7,7,16,13,16,10,15,18,5,16,10,15,13,11,16,13,5,5,0,16,10,1,15,2,0,1]
noncomputable def mk(cd t:Array Nat)(lim start ls pc pos handed:Nat)(om:Bool)(fr:List Iu)(w:Nat)(ans:Option Bool)(seen:Seen):M:=
 {code:=cd,text:=t,lim,start,lastStart:=ls,pc,pos,handed,outermost:=om,marks:= #[],frames:=fr,weight:=w,answer:=ans,seen}
noncomputable def fN(pc pos:Nat)(om:Bool):Iu:={wait:= .nextStart,pc,pos,outermost:=om}
noncomputable def fB(pc pos:Nat)(om:Bool):Iu:={wait:= .nextBranch,pc,pos,outermost:=om,kept:={lastmark:= -1,lastindex:= -1,whole:=false,marks:= #[]} }
noncomputable def fL(pc pos:Nat)(om:Bool):Iu:={wait:= .lookNot,pc,pos,outermost:=om,kept:={lastmark:= -1,lastindex:= -1,whole:=false,marks:= #[]} }
section
variable{t:Array Nat}{lim s ls p h:Nat}{om om':Bool}{fr:List Iu}{seen:Seen}
theorem Mo:∃sn,(mk cy t lim s ls 10 p h om [fN 10 s om'] 1 none seen).step=mk cy t lim s ls 12 p p om [fB 11 p om,fN 10 s om'] 2 none sn:=⟨_,rfl⟩
theorem uh{cd:Array Nat}{pc w c:Nat}(gu:ops[cd.getD pc 0]?=some .LITERAL)(dq:∀c' sn,accepts cd pc c' sn= .ok (c'==c,sn))(Mp:pc<cd.size)(ug:p>=lim\/(t.getD p 0==c)=false):
  ∃sn,(mk cd t lim s ls pc p h om fr w none seen).step=mk cd t lim s ls pc p h om fr w (some false) sn:=by
 unfold M.step
 rw[if_neg (by simp[mk])]
 refine(?_:∃sn,(if pc<cd.size then M.exec (mk cd t lim s ls pc p h om fr w none seen)else _)=_)
 refine af (if_pos Mp) ?_
 unfold M.exec
 have:(mk cd t lim s ls pc p h om fr w none seen).word 0=cd.getD pc 0:=rfl
 refine af this ?_
 refine af gu ?_
 refine cn (seen.add (cd.getD pc 0)) ?_
 by_cases ui:lim<=p
 ·simp[mk,M.say,ui]
 ·rcases ug with hp|hp
  ·exact absurd hp ui
  ·simp only[mk,M.say,dq,hp]
   split
   ·rfl
   ·rfl
theorem uj{cd:Array Nat}{pc w c:Nat}(gu:ops[cd.getD pc 0]?=some .LITERAL)(dq:∀c' sn,accepts cd pc c' sn= .ok (c'==c,sn))(hw:itemWidth cd pc=2)(Mp:pc<cd.size)(ui:p<lim)(hp:(t.getD p 0==c)=true):
  ∃sn,(mk cd t lim s ls pc p h om fr w none seen).step=mk cd t lim s ls (pc+2) (p+1) h om fr w none sn:=by
 unfold M.step
 rw[if_neg (by simp[mk])]
 refine(?_:∃sn,(if pc<cd.size then M.exec (mk cd t lim s ls pc p h om fr w none seen)else _)=_)
 refine af (if_pos Mp) ?_
 unfold M.exec
 have:(mk cd t lim s ls pc p h om fr w none seen).word 0=cd.getD pc 0:=rfl
 refine af this ?_
 refine af gu ?_
 refine cn (seen.add (cd.getD pc 0)) ?_
 simp only[mk,M.say,dq,hp,hw]
 split
 ·rename_i h;exact absurd ui (Es.mpr h)
 ·rfl
end
theorem Mq:∀c' sn,accepts cy 12 c' sn= .ok (c'==13,sn):=fun _ _=>rfl
theorem Rz:∀c' sn,accepts cy 14 c' sn= .ok (c'==10,sn):=fun _ _=>rfl
theorem RA:∀c' sn,accepts cy 19 c' sn= .ok (c'==10,sn):=fun _ _=>rfl
theorem zVz:∀c' sn,accepts cy 24 c' sn= .ok (c'==13,sn):=fun _ _=>rfl
theorem zV8:∀c' sn,accepts cy 29 c' sn= .ok (c'==10,sn):=fun _ _=>rfl
theorem Mr:∀c' sn,accepts ec 7 c' sn= .ok (c'==46,sn):=fun _ _=>rfl
section
variable{t:Array Nat}{lim s ls p h:Nat}{om om':Bool}{fr:List Iu}{seen:Seen}
theorem zY6{w:Nat}:∃sn,(mk cy t lim s ls 16 p h om fr w none seen).step=mk cy t lim s ls 35 p h om fr w none sn:=⟨_,rfl⟩
theorem zZ1{w:Nat}:∃sn,(mk cy t lim s ls 21 p h om fr w none seen).step=mk cy t lim s ls 35 p h om fr w none sn:=⟨_,rfl⟩
theorem yAt{w:Nat}:∃sn,(mk cy t lim s ls 32 p h om fr w none seen).step=mk cy t lim s ls 35 p h om fr w none sn:=⟨_,rfl⟩
theorem zZ0{w:Nat}:∃sn,(mk cy t lim s ls 35 p h om fr w none seen).step=mk cy t lim s ls 35 p p om fr w (some true) sn:=by
 cases om<;>exact⟨_,rfl⟩
theorem RC{pc p' h':Nat}:(mk cy t lim s ls pc p' h' om [fB 11 p true,fN 10 s om'] 2 (some false) seen).step=mk cy t lim s ls 19 p p true [fB 18 p true,fN 10 s om'] 2 none seen:=rfl
theorem zS1{pc p' h':Nat}:(mk cy t lim s ls pc p' h' om [fB 18 p true,fN 10 s om'] 2 (some false) seen).step=mk cy t lim s ls 24 p p true [fB 23 p true,fN 10 s om'] 2 none seen:=rfl
theorem zUv{q pc p' h':Nat}:(mk cy t lim s ls pc p' h' om [fB q p true,fN 10 s om'] 2 (some true) seen).step=mk cy t lim s ls q p h' true [fN 10 s om'] 1 (some true) seen:=rfl
theorem zVy{pc p' h':Nat}:(mk cy t lim s ls pc p' h' om [fN 10 s om'] 1 (some true) seen).step=mk cy t lim s ls 10 s h' om' [] 0 (some true) seen:=rfl
theorem RD{cd:Array Nat}{pc w:Nat}:(mk cd t lim s ls pc p h om [] w (some true) seen).step={mk cd t lim s ls pc p h om [] w (some true) seen with outcome:=some .matched}:=rfl
theorem zWq{cd:Array Nat}{pc w:Nat}:(mk cd t lim s ls pc p h om [] w (some false) seen).step={mk cd t lim s ls pc p h om [] w (some false) seen with outcome:=some .failed}:=rfl
theorem yA9:∃sn,(mk cy t lim s ls 26 p h true [fB 23 s true,fN 10 s om'] 2 none seen).step=mk cy t lim s ls 29 p p false [fL 26 p true,fB 23 s true,fN 10 s om'] 3 none sn:=⟨_,rfl⟩
theorem zYl{pc p' h':Nat}:(mk cy t lim s ls pc p' h' om [fL 26 p true,fB 23 s true,fN 10 s om'] 3 (some false) seen).step=mk cy t lim s ls 32 p h' true [fB 23 s true,fN 10 s om'] 2 none seen:=rfl
end
noncomputable def cA:Nat->M->M
 |0,m=>m
 |n+1,m=>cA n m.step
theorem zRw{m:M}(h:m.outcome.isSome=true):m.step=m:=by exact xU h rfl
theorem x4{m:M}(h:m.outcome.isSome=true):∀n,cA n m=m
 |0=>rfl
 |n+1=>by unfold cA;rw[zRw h];exact x4 h n
theorem CT(a b:Nat)(m:M):cA (a+b) m=cA b (cA a m):=by
 induction a generalizing m with
 |zero=>rw[Cp];rfl
 |succ a ih=>rw[Nat.succ_add];exact ih m.step
theorem RF:∀(n:Nat) (m:M),M.runFor n m=cA n m
 |0,_=>rfl
 |n+1,m=>by
  unfold M.runFor
  split
  ·rename_i h;exact(x4 h _).symm
  ·exact RF n m.step
theorem zT8{m:M}{a b:Nat}(ha:(cA a m).outcome.isSome=true)(hb:(cA b m).outcome.isSome=true):cA a m=cA b m:=by
 rcases Nat.le_total a b with h|h
 ·refine aJ (Kp h) fun d aP=>?_
  subst aP
  refine af (CT ..) ?_
  exact af (x4 ha ..) rfl
 ·refine aJ (Kp h) fun d aP=>?_
  subst aP
  refine af (CT ..) ?_
  exact af (x4 hb ..) rfl
open PySem.Builtin.Re in
theorem RG{MM:L8}{A:Al}{E:Value->Ab->Prop}{s:Ab}{Q:M->Ab->Prop}:∀(turns:Nat) (m:M) (k:Nat),(cA k m).outcome.isSome=true->k<=4*turns->Q (cA k m) s->Am MM A (reDrive (turns+1) m) Q E s
 |turns,m,k,hk,hle,hQ=>by
  unfold reDrive
  refine af (RF ..) ?_
  refine(?_:Am MM A (if(cA 4 m).outcome.isSome=true then _ else _) Q E s)
  split
  ·rename_i h4
   refine(?_:Am MM A (pure (cA 4 m)) Q E s)
   refine af (zT8 h4 hk) ?_;exact Ak hQ
  ·rename_i h4
   refine Ac (G1 ?_)
   have hk4:4<k:=by
    apply C9
    intro hn
    refine aJ (Kp (Cg hn)) fun d hd=>?_
    refine h4 ?_
    (refine ct hd ?_;refine af (CT ..) ?_;refine af (x4 hk ..) ?_);exact hk
   refine aJ (Kp (Ci hk4)) fun d aP=>?_
   subst aP
   rw[CT]at hk hQ
   cases turns with
   |zero=>lia
   |succ turns=>exact RG turns _ d hk (by lia) hQ
open PySem.Builtin.Re in
theorem RH{MM:L8}{A:Al}{E:Value->Ab->Prop}{s:Ab}{Q:Option M->Ab->Prop}{m:M}{k:Nat}(hle:k<=2^60)(ho:((cA k m).outcome=some .matched/\Q (some (cA k m)) s)\/((cA k m).outcome=some .failed/\Q none s)):Am MM A (reRunToEnd m) Q E s:=by
 have hs:(cA k m).outcome.isSome=true:=by rcases ho with⟨h,_⟩|⟨h,_⟩<;>refine af h ?_<;>rfl
 refine Ac (RG (2^64-1) m k hs (by exact zB) ?_)
 have loop:∀(l:List Nat) (Q':PUnit->Ab->Prop),Q' ⟨⟩ s->Am MM A (forIn l Mb fun i _=>do
   if(cA k m).seen.has i=true then do
    rule (Sre.names.getD i "")
    pure (B1 Mb)
   else pure (B1 Mb)) Q' E s:=by
  intro l
  induction l with
  |nil=>intro Q' h;exact Ak h
  |cons i r ih=>
   intro Q' h
   refine af (Gu ..) ?_
   refine Ac ?_
   split
   ·exact Ac (G1 (Ak (ih Q' h)))
   ·exact Ak (ih Q' h)
 refine Ac (loop _ _ ?_)
 rcases ho with⟨h,hq⟩|⟨h,hq⟩
 ·refine af h ?_;exact Ak hq
 ·refine af h ?_;exact Ak hq
theorem yB{P:M->Prop}{m m':M}{k:Nat}(h:m.step=m')(h2:∃j≤k,P (cA j m')):∃j≤k+1,P (cA j m):=by
 refine aB h2 fun j hj hp=>?_
 exact i12 (j+1) (by lia) (by unfold cA;rw[h];exact hp)
theorem yI{P:M->Prop}{m:M}{f:Seen->M}{k:Nat}(h:∃sn,m.step=f sn)(h2:∀sn,∃j≤k,P (cA j (f sn))):∃j≤k+1,P (cA j m):=by
 refine aJ h fun sn h=>?_
 exact yB h (h2 sn)
noncomputable def kI(s e:Nat)(m:M):Prop:=m.outcome=some .matched/\m.start=s/\m.handed=e
section
variable{t:Array Nat}{lim s ls:Nat}{om':Bool}{seen:Seen}
theorem Ms{q p h:Nat}:∃j≤4,kI s p (cA j (mk cy t lim s ls 35 p h true [fB q s true,fN 10 s om'] 2 none seen)):=
 yI zZ0 fun _=>yB zUv (yB zVy (yB RD ⟨0,Br _,rfl,rfl,rfl⟩))
theorem zXg(h0:s+1<lim)(h1:(t.getD s 0==13)=true)(h2:(t.getD (s+1) 0==10)=true){h:Nat}:∃j≤8,kI s (s+2) (cA j (mk cy t lim s ls 10 s h true [fN 10 s om'] 1 none seen)):=
 yI Mo fun _=>yI (uj (pc:=12) (c:=13) rfl Mq rfl (by decide) (by exact Nat.lt_of_succ_lt ‹_›) h1) fun _=>yI (uj (pc:=14) (c:=10) rfl Rz rfl (by decide) h0 h2) fun _=>yI zY6 fun _=>Ms
theorem zZo(h0:s<lim)(h1:(t.getD s 0==13)=true)(gv:(t.getD s 0==10)=false)(h2:s+1>=lim\/(t.getD (s+1) 0==10)=false){h:Nat}:∃j≤15,kI s (s+1) (cA j (mk cy t lim s ls 10 s h true [fN 10 s om'] 1 none seen)):=
 yI Mo fun _=>yI (uj (pc:=12) (c:=13) rfl Mq rfl (by decide) h0 h1) fun _=>yI (uh (pc:=14) (c:=10) rfl Rz (by decide) h2) fun _=>yB RC
  (yI (uh (pc:=19) (c:=10) rfl RA (by decide) (.inr gv)) fun _=>yB zS1 (yI (uj (pc:=24) (c:=13) rfl zVz rfl (by decide) h0 h1) fun _=>yI yA9 fun _=>
   yI (uh (pc:=29) (c:=10) rfl zV8 (by decide) h2) fun _=>yB zYl (yI yAt fun _=>Ms)))
theorem zZl(h0:s<lim)(h1:(t.getD s 0==13)=false)(gv:(t.getD s 0==10)=true){h:Nat}:∃j≤9,kI s (s+1) (cA j (mk cy t lim s ls 10 s h true [fN 10 s om'] 1 none seen)):=
 yI Mo fun _=>yI (uh (pc:=12) (c:=13) rfl Mq (by decide) (.inr h1)) fun _=>yB RC (yI (uj (pc:=19) (c:=10) rfl RA rfl (by decide) h0 gv) fun _=>yI zZ1 fun _=>Ms)
noncomputable def iH(t:Array Nat)(lim:Nat):Nat->Nat->Option Nat
 |0,_=>none
 |n+1,i=>if i>=lim then none else if(t.getD i 0==10)||(t.getD i 0==13)then some i else iH t lim n (i+1)
noncomputable def s0(t:Array Nat)(lim start:Nat):M:=mk cy t lim start lim 10 start start true [] 0 none (({}:Seen).add 14)
theorem zZt(c:Nat)(sn:Seen):∃o3,inSet cy c cy.size 5 true sn= .ok ((c==10)||(c==13),o3):=by
 refine(?_:∃o3,inSet cy c (35+1) 5 true sn=_)
 refine(?_:∃o3,(if(c==10)=true then _ else inSet cy c (34+1) 7 true _)=_)
 by_cases h:(c==10)=true
 ·(refine af (if_pos h) ?_;refine af h ?_);exact⟨_,rfl⟩
 ·refine af (if_neg h) ?_
  have h':(c==10)=false:=by simpa using h
  refine(?_:∃o3,(if(c==13)=true then _ else inSet cy c (33+1) 9 true _)=_)
  by_cases h2:(c==13)=true
  ·(refine af (if_pos h2) ?_;refine af h2 ?_;refine af h' ?_);exact⟨_,rfl⟩
  ·refine af (if_neg h2) ?_
   have vM:(c==13)=false:=by simpa using h2
   refine af h' ?_
   refine af vM ?_
   exact cn _ rfl
theorem Mt{t:Array Nat}{lim:Nat}{m:M}(hc:m.code=cy)(ht:m.text=t)(hl:m.lim=lim):∀(n i:Nat) (sn:Seen),∃o3,M.admitted m n i sn= .ok (iH t lim n i,o3)
 |0,_,sn=>⟨sn,rfl⟩
 |n+1,i,sn=>by
  unfold M.admitted iH
  refine af hc ?_
  refine af ht ?_
  refine af hl ?_
  by_cases h:i>=lim
  ·(refine af (if_pos h) ?_;refine af (if_pos h) ?_);exact⟨_,rfl⟩
  ·refine af (if_neg h) ?_
   refine af (if_neg h) ?_
   refine aJ (zZt (t.getD i 0) sn) fun o3 e=>?_
   refine af e ?_
   cases hq:((t.getD i 0==10)||(t.getD i 0==13))with
   |true=>exact⟨o3,by simp⟩
   |false=>
    refine aJ (Mt hc ht hl n (i+1) o3) fun Mu e2=>?_
    exact cn Mu (by exact e2)
theorem zOr{t:Array Nat}{lim start:Nat}:Em cy t 0 start lim false=if(decide (start>lim)||decide (lim-start<1))=true then M.say {s0 t lim start with lastStart:=0} false else(s0 t lim start).attemptFrom start true:=rfl
noncomputable def lE(t:Array Nat)(lim s:Nat):Nat:=if(t.getD s 0==13)&&decide (s+1<lim)&&(t.getD (s+1) 0==10)then s+2 else s+1
theorem CU{t:Array Nat}{lim:Nat}:∀{n i s:Nat},iH t lim n i=some s->s<lim/\((t.getD s 0==10)||(t.getD s 0==13))=true
 |0,_,_,h=>by exact nn h
 |n+1,i,s,h=>by
  unfold iH at h
  split at h
  ·exact nn h
  ·rename_i hl
   split at h
   ·rename_i hc;obtain rfl:=Aa h;exact⟨Gm hl,hc⟩
   ·exact CU h
theorem zWy{t:Array Nat}{lim start:Nat}:match iH t lim (lim+1-start) start with
  |some s=>∃j≤20,kI s (lE t lim s) (cA j (Em cy t 0 start lim false))
  |none=>∃j≤20,(cA j (Em cy t 0 start lim false)).outcome=some .failed:=by
 refine af zOr ?_
 split
 ·rename_i s hs
  refine au (CU hs) fun h1 h2=>?_
  have fJ:start<=s/\start<lim:=by
   have:∀n i,iH t lim n i=some s->i<=s:=by
    intro n
    induction n with
    |zero=>intro i h;exact nn h
    |succ n ih=>
     intro i h
     unfold iH at h
     split at h
     ·exact nn h
     ·split at h
      ·obtain rfl:=Aa h;exact Br _
      ·exact Cv (ih _ h)
   have:=this _ _ hs
   lia
  rw[if_neg (by simp;lia)]
  unfold M.attemptFrom
  have hf:(s0 t lim start).hasFirstSet=true:=rfl
  rw[if_neg (by rw[hf];decide)]
  refine aJ (Mt (t:=t) (lim:=lim) (m:=s0 t lim start) rfl rfl rfl ((s0 t lim start).lim+1-start) start (s0 t lim start).seen) fun sn e=>?_
  rw[show(s0 t lim start).admitted ((s0 t lim start).lim+1-start) start (s0 t lim start).seen= .ok (some s,sn)by rw[e];exact congrArg (fun z=>Except.ok (z,sn)) hs]
  refine(?_:∃j≤20,kI s (lE t lim s) (cA j (mk cy t lim s lim 10 s s true [fN 10 s true] 1 none sn)))
  unfold lE
  cases mx:(t.getD s 0==13)with
  |false=>
   have gv:(t.getD s 0==10)=true:=by rw[mx,Bool.or_false]at h2;exact h2
   refine aB (zZl (t:=t) (lim:=lim) (ls:=lim) (om':=true) (seen:=sn) h1 mx gv (h:=s)) fun j hj hh=>?_
   exact i12 j (by exact zB) (by exact hh)
  |true=>
   have gv:(t.getD s 0==10)=false:=by
    have:t.getD s 0=13:=by exact eq_of_beq mx
    refine af this ?_;rfl
   by_cases hq:s+1<lim/\(t.getD (s+1) 0==10)=true
   ·refine aB (zXg (t:=t) (lim:=lim) (ls:=lim) (om':=true) (seen:=sn) hq.1 mx hq.2 (h:=s)) fun j hj hh=>?_
    exact i12 j (by exact zB) (by refine af hq.2 ?_;simpa[hq.1]using hh)
   ·have ug:s+1>=lim\/(t.getD (s+1) 0==10)=false:=by
     by_cases a:s+1<lim
     ·right
      cases b:(t.getD (s+1) 0==10)with
      |false=>rfl
      |true=>exact absurd ⟨a,b⟩ hq
     ·left;exact Cg ‹_›
    refine aB (zZo (t:=t) (lim:=lim) (ls:=lim) (om':=true) (seen:=sn) h1 mx gv ug (h:=s)) fun j hj hh=>?_
    refine i12 j (by exact zB) ?_
    have:(true&&decide (s+1<lim)&&(t.getD (s+1) 0==10))=false:=by
     rcases ug with a|a
     ·have:¬(s+1<lim):=by exact Ho ‹_›
      simp[this]
     ·refine af a ?_;simp
    refine af this ?_;exact hh
 ·rename_i hs
  split
  ·exact i12 1 (by exact Eg _ _) rfl
  ·unfold M.attemptFrom
   have hf:(s0 t lim start).hasFirstSet=true:=rfl
   rw[if_neg (by rw[hf];decide)]
   refine aJ (Mt (t:=t) (lim:=lim) (m:=s0 t lim start) rfl rfl rfl ((s0 t lim start).lim+1-start) start (s0 t lim start).seen) fun sn e=>?_
   rw[show(s0 t lim start).admitted ((s0 t lim start).lim+1-start) start (s0 t lim start).seen= .ok (none,sn)by rw[e];exact congrArg (fun z=>Except.ok (z,sn)) hs]
   exact i12 1 (by exact Eg _ _) rfl
end
section
variable{t:Array Nat}{lim s ls p h i:Nat}{om om':Bool}{fr:List Iu}{seen:Seen}{w:Nat}
noncomputable def bol(t:Array Nat)(i:Nat):Bool:=(i==0)||(t.getD (i-1) 0==10)
theorem RI:∃sn,(mk ec t lim s ls 5 p h om fr w none seen).step=if bol t p then mk ec t lim s ls 7 p h om fr w none sn else mk ec t lim s ls 5 p h om fr w (some false) sn:=by
 refine cn ((seen.add 6).add 44) ?_
 refine(?_:(if bol t p=true then _ else _)=_)
 cases bol t p<;>rfl
theorem yCg:∃sn,(mk ec t lim s ls 9 p h om fr w none seen).step=mk ec t lim s ls 9 p p om fr w (some true) sn:=by
 cases om<;>exact⟨_,rfl⟩
theorem yDs{pc p' h':Nat}:(mk ec t lim s ls pc p' h' om [fN 5 s om'] 1 (some true) seen).step=mk ec t lim s ls 5 s h' om' [] 0 (some true) seen:=rfl
theorem RJ{pc p' h':Nat}(hi:i<lim):(mk ec t lim i lim pc p' h' om [fN 5 i om'] 1 (some false) seen).step=mk ec t lim (i+1) lim 5 (i+1) (i+1) false [fN 5 (i+1) false] 1 none seen:=by
 refine(?_:(if i<lim then _ else _)=_)
 refine xU hi ?_;rfl
theorem yCd{pc p' h':Nat}(hi:¬i<lim):(mk ec t lim i lim pc p' h' om [fN 5 i om'] 1 (some false) seen).step=mk ec t lim i lim 5 i h' om' [] 0 (some false) seen:=by
 refine(?_:(if i<lim then _ else _)=_)
 refine eM hi ?_;rfl
end
noncomputable def nG(m:M):Prop:=m.outcome=some .failed
noncomputable def jo(t:Array Nat)(lim:Nat):Nat->Nat->Option Nat
 |0,_=>none
 |n+1,i=>if i>=lim then none else if bol t i&&(t.getD i 0==46)then some i else jo t lim n (i+1)
theorem RK{t:Array Nat}{lim:Nat}:∀(n i:Nat) (h:Nat) (om om':Bool) (seen:Seen),n=lim+1-i->i<=lim->match jo t lim n i with
  |some s=>∃j≤4*n+8,kI s (s+1) (cA j (mk ec t lim i lim 5 i h om [fN 5 i om'] 1 none seen))
  |none=>∃j≤4*n+8,nG (cA j (mk ec t lim i lim 5 i h om [fN 5 i om'] 1 none seen))
 |0,i,_,_,_,_,hn,hi=>absurd hn (Bo (F7 (Hi hi)))
 |n+1,i,h,om,om',seen,hn,hi=>by
  unfold jo
  by_cases hl:i>=lim
  ·refine af (if_pos hl) ?_
   have fin:∀{pc p' h':Nat} {sn:Seen},∃j≤3,nG (cA j (mk ec t lim i lim pc p' h' om [fN 5 i om'] 1 (some false) sn)):=fun {pc p' h' sn}=>
    by obtain⟨j,hj,hp⟩:=yB (P:=nG) (yCd (Es.mpr hl)) (yB zWq ⟨0,Br 0,rfl⟩);exact⟨j,by exact zB,hp⟩
   refine aJ (RI (t:=t) (lim:=lim) (s:=i) (ls:=lim) (p:=i) (h:=h) (om:=om) (fr:=[fN 5 i om']) (w:=1) (seen:=seen)) fun sn e=>?_
   cases hb:bol t i with
   |false=>
    rw[hb,if_neg (by decide)]at e
    refine aB (yB (P:=nG) e fin) fun j hj hp=>?_
    exact i12 j (by exact zB) hp
   |true=>
    rw[hb,if_pos rfl]at e
    refine aB (yB (P:=nG) e (yI (uh (pc:=7) (c:=46) rfl Mr (by decide) (.inl hl)) fun _=>fin)) fun j hj hp=>?_
    exact i12 j (by exact zB) hp
  ·refine af (if_neg hl) ?_
   have aX:i<lim:=Gm hl
   refine aJ (RI (t:=t) (lim:=lim) (s:=i) (ls:=lim) (p:=i) (h:=h) (om:=om) (fr:=[fN 5 i om']) (w:=1) (seen:=seen)) fun sn e=>?_
   have RL:∀{pc p' h':Nat} {sn:Seen},match jo t lim n (i+1)with
     |some s=>∃j≤4*n+9,kI s (s+1) (cA j (mk ec t lim i lim pc p' h' om [fN 5 i om'] 1 (some false) sn))
     |none=>∃j≤4*n+9,nG (cA j (mk ec t lim i lim pc p' h' om [fN 5 i om'] 1 (some false) sn)):=fun {pc p' h' sn}=>by
    have ih:=RK (t:=t) (lim:=lim) n (i+1) (i+1) false false sn (congrArg Nat.pred hn) aX
    split
    ·rename_i s hs
     rw[hs]at ih
     exact yB (RJ aX) ih
    ·rename_i hs
     rw[hs]at ih
     exact yB (P:=nG) (RJ aX) ih
   have go:∀(P:M->Prop),(∃j≤4*n+11,P (cA j (mk ec t lim i lim 5 i h om [fN 5 i om'] 1 none seen)))->∃j≤4*(n+1)+8,P (cA j (mk ec t lim i lim 5 i h om [fN 5 i om'] 1 none seen)):=fun P ⟨j,hj,hp⟩=>⟨j,by lia,hp⟩
   cases hb:bol t i with
   |false=>
    rw[hb,if_neg (by decide)]at e
    rw[Gf,if_neg (by decide)]
    have nx:=RL (pc:=5) (p':=i) (h':=h) (sn:=sn)
    split
    ·rename_i s hs
     rw[hs]at nx
     refine aB (yB e nx) fun j hj hp=>?_
     exact go _ ⟨j,by lia,hp⟩
    ·rename_i hs
     rw[hs]at nx
     refine aB (yB e nx) fun j hj hp=>?_
     exact go _ ⟨j,by lia,hp⟩
   |true=>
    rw[hb,if_pos rfl]at e
    refine af (Hz ..) ?_
    cases hc:(t.getD i 0==46)with
    |true=>
     refine af (if_pos rfl) ?_
     obtain⟨j,hj,hp⟩:=yB e (yI (P:=kI i (i+1)) (k:=4) (uj (pc:=7) (c:=46) (s:=i) (ls:=lim) (h:=h) (om:=om) (fr:=[fN 5 i om']) (w:=1) (seen:=sn) rfl Mr rfl (by decide) aX hc) fun _=>by
      obtain⟨j,hj,hp⟩:=yI (P:=kI i (i+1)) (k:=3) (yCg (t:=t) (lim:=lim) (s:=i) (ls:=lim) (p:=i+1) (h:=h) (om:=om) (fr:=[fN 5 i om']) (w:=1)) fun _=>by
       obtain⟨j,hj,hp⟩:=yB (P:=kI i (i+1)) (yDs (t:=t) (lim:=lim)) (yB RD ⟨0,Br 0,rfl,rfl,rfl⟩)
       exact i12 j (by exact zB) hp
      exact⟨j,by assumption,hp⟩)
     exact go _ ⟨j,by exact zB,hp⟩
    |false=>
     rw[if_neg (by decide)]
     refine aJ (uh (cd:=ec) (t:=t) (lim:=lim) (pc:=7) (c:=46) (s:=i) (ls:=lim) (p:=i) (h:=h) (om:=om) (fr:=[fN 5 i om']) (w:=1) (seen:=sn) rfl Mr (by decide) (.inr hc)) fun Mu e2=>?_
     have nx:=RL (pc:=7) (p':=i) (h':=h) (sn:=Mu)
     split
     ·rename_i s hs
      rw[hs]at nx
      refine aB (yB e (yB e2 nx)) fun j hj hp=>?_
      exact go _ ⟨j,by assumption,hp⟩
     ·rename_i hs
      rw[hs]at nx
      refine aB (yB (P:=nG) e (yB e2 nx)) fun j hj hp=>?_
      exact go _ ⟨j,by assumption,hp⟩
theorem zOu{t:Array Nat}{lim start:Nat}:Em ec t 0 start lim false=if(decide (start>lim)||decide (lim-start<1))=true then M.say (mk ec t lim start 0 5 start start true [] 0 none (({}:Seen).add 14)) false else mk ec t lim start lim 5 start start true [fN 5 start true] 1 none (({}:Seen).add 14):=rfl
theorem zWr{t:Array Nat}{lim start:Nat}:match jo t lim (lim+1-start) start with
  |some s=>∃j≤4*lim+20,kI s (s+1) (cA j (Em ec t 0 start lim false))
  |none=>∃j≤4*lim+20,nG (cA j (Em ec t 0 start lim false)):=by
 rw[zOu]
 by_cases h:start<lim
 ·rw[if_neg (by simp;lia)]
  have r:=RK (t:=t) (lim:=lim) (lim+1-start) start start true true (({}:Seen).add 14) rfl (by exact Ci ‹_›)
  split
  ·rename_i s hs
   rw[hs]at r
   refine aB r fun j hj hp=>?_
   exact i12 j (by lia) hp
  ·rename_i hs
   rw[hs]at r
   refine aB r fun j hj hp=>?_
   exact i12 j (by lia) hp
 ·rw[if_pos (by simp;lia)]
  have:jo t lim (lim+1-start) start=none:=by
   cases q:lim+1-start with
   |zero=>rfl
   |succ n=>exact xU (by exact Cg ‹_›) rfl
  rw[this]
  exact i12 1 (by exact Eg _ _) rfl
end Internal
namespace Internal
open PySem PySem.W PySem.Calls PyProof.Rows PySem.Builtin.Re
theorem zNr:Jn table "re.Pattern.sub.loop" =some Builtin.«re.Pattern.sub.loop» :=Fi (by kernel_rfl)
theorem RM(a:Args):(Code.builtin "re.Pattern.sub.loop" a).quiet=true:=Code.quiet_builtin _ (by decide+kernel)
inductive my(h:Ap)(a:Addr)(cd:Array Nat):Prop
 |mk (o:Obj) (ps:Array Value) (ta:Addr) (to:Obj) (items:Array Value) (n:Nat) (e1:h.get? a=some o) (e2:o.cls= .type "re.Pattern") (e3:o.dict=none) (e4:o.data= .fields ps) (e5:reRawNat (ps.getD 2 .none)=0) (e6:ps.getD 5 .none= .ref ta) (e7:reRawNat (ps.getD 6 .none)=0)
   (e8:h.get? ta=some to) (e9:to.data= .seq items n) (qy:(items.map reRawOf).map (·.toNat)=cd):my h a cd
theorem my.sub{h h':Ap}{a:Addr}{cd:Array Nat}(x:my h a cd)(k:Sub h h'):my h' a cd:=by
 obtain⟨o,ps,ta,to,items,n,e1,e2,e3,e4,e5,e6,e7,e8,e9,qy⟩:=x
 exact⟨o,ps,ta,to,items,n,k _ _ e1,e2,e3,e4,e5,e6,e7,k _ _ e8,e9,qy⟩
noncomputable def CV(pa:Addr)(cd:Array Nat)(t:Str)(tk:Jr):ReTarget:={pattern:= .ref pa,string:= .str t tk,code:=cd,text:=t.cps,kind:=0,groups:=0,pos:=0,lim:=t.cps.size}
section
variable{prog:Program}{w:Cn}{A:Al}{E:Value->Ab->Prop}{s:Ab}
theorem RN{pa:Addr}{cd:Array Nat}{t:Str}{tk:Jr}{Q:ReTarget->Ab->Prop}(hp:my s.heap pa cd)
  (hQ:Q (CV pa cd t tk) s):Am (Af prog w) A (reWholeTarget (.ref pa) (.str t tk)) Q E s:=by
 obtain⟨o,ps,ta,to,items,n,e1,e2,e3,e4,e5,e6,e7,e8,e9,qy⟩:=hp
 refine Ac (wpAny_fieldsOf e1 e4 ?_)
 refine Ac (B3 (show reTextOf (.str t tk)=pure (t.cps,0)from rfl) ?_)
 refine af e7 ?_
 refine Ac (B3 (show reNoCollectionInside (.str t tk) 0=pure ()from rfl) ?_)
 refine af e6 ?_
 refine Ac (Ac (wpAny_seqItems e8 e9 (Ak ?_)))
 refine af e5 ?_
 refine(?_:Am _ _ (pure _) _ _ _)
 refine Ak ?_
 have:(((some items).getD #[]).map reRawOf).map (·.toNat)=cd:=qy
 refine af this ?_
 exact hQ
noncomputable def x5(cd:Array Nat)(t:Array Nat)(Sp:Nat->Option (Nat×Nat)):Prop:=∀start,start<=t.size->match Sp start with
 |some (a,e)=>start<=a/\a<e/\e<=t.size/\∃j≤2^60,kI a e (cA j (Em cd t 0 start t.size false))
 |none=>∃j≤2^60,nG (cA j (Em cd t 0 start t.size false))
theorem zOk{cd:Array Nat}{t:Str}{tk:Jr}{pa:Addr}{Sp:Nat->Option (Nat×Nat)}(F:x5 cd t.cps Sp){start:Nat}(hs:start<=t.cps.size){Q:Option Sre.M->Ab->Prop}
  (hS:∀m:Sre.M,Sp start=some (m.start,m.handed)->start<=m.start->m.start<m.handed->m.handed<=t.cps.size->Q (some m) s) (hN:Sp start=none->Q none s):
  Am (Af prog w) A (reNextFound (CV pa cd t tk) start false) Q E s:=by
 have f:=F start hs
 cases q:Sp start with
 |some ae=>
  rw[q]at f
  refine tj f fun f1 f2 f3 f4=>?_
  refine aB f4 fun j hj f5=>?_
  refine dX f5 fun h1 h2 h3=>?_
  have k:=hS (cA j (Em cd t.cps 0 start t.cps.size false))
  rw[h2,h3]at k
  exact RH hj (.inl ⟨h1,k q f1 f2 f3⟩)
 |none=>
  rw[q]at f
  exact aB f fun j hj h1=>RH hj (.inr ⟨h1,hN q⟩)
noncomputable def o4(Sp:Nat->Option (Nat×Nat))(t rp:List Nat):Nat->Nat->List (List Nat)
 |0,_=> []
 |n+1,i=>match Sp i with
  |some (a,e)=>(if i<a then [(t.drop i).take (a-i)]else [])++[rp]++o4 Sp t rp n e
  |none=>if i<t.length then [t.drop i]else []
theorem RO(t:List Nat)(a b:Nat):t.toArray.extract a b=((t.drop a).take (b-a)).toArray:=by simp
structure uk(L:Addr)(h₀:Ap)(s s':Ab)(vs:List Value)(ps:List (List Nat)):Prop where
 pl:s'.heap.PlainList L vs.toArray
 vr:ak s'.heap (ps.map PV.str) vs []
 sm:yZ s s'
 kp:Co L h₀ s'.heap
theorem RP{s₀:Ab}{h₀:Ap}{L:Addr}{vs:List Value}{ps:List (List Nat)}{x:List Nat}{tx:Jr}{Q:Unit->Ab->Prop}(P:uk L h₀ s₀ s vs ps)(hsz:ps.length<ag)
  (hQ:∀s',uk L h₀ s₀ s' (vs++[Value.str ⟨x.toArray⟩ tx]) (ps++[x])->Q () s'):
  Am (Af prog w) A (updateSeq L (·.push (.str ⟨x.toArray⟩ tx))) Q E s:=by
 refine aJ P.pl fun n ho=>?_
 have hz:vs.length<ag:=by rw[P.vr.length,An];exact hsz
 refine wpAny_updateSeq ho rfl ?_ (Bm▸Ci hz) (by rw[Array.size_push,Bm];exact I9 hz)
 have hx:Co L s.heap (s.heap.update L (Obj.mapSeq fun x_1=>x_1.push (Value.str ⟨x.toArray⟩ tx))):=(Fc ..).extBut
 refine hQ _ ⟨?_,?_,P.sm.trans ((yZ.refl _).heap _ _),fun b o h e=>hx b o h (P.kp b o h e)⟩
 ·have q:=Ht ho (fun xs=>xs.push (.str ⟨x.toArray⟩ tx))
  rw[Ja]at q
  exact cn _ q
 ·rw[D2]
  exact ak.append (P.vr.on fun a ha=>nomatch ha) (ak.one (.str x tx))
theorem RQ:∀ps:List (List Nat),PV.strs (ps.map PV.str)=some ps
 |[]=>rfl
 |p::r=>by refine(?_:(PV.strs (r.map PV.str)).map _=_);rw[RQ r];rfl
theorem Mv:∀ps:List (List Nat),kW [] ps=ps.flatten
 |[]=>rfl
 |[x]=>by simp[kW]
 |x::y::r=>by
  refine(?_:x++[]++kW [] (y::r)=_)
  rw[Mv (y::r)];simp
noncomputable def Mw(pa L:Addr)(t rp:Str)(tk tr:Jr)(k e:Int)(b:Bool):Code:= .builtin "re.Pattern.sub.loop" ⟨[.ref pa, .str t tk, .str rp tr,Hg 0,Hg 0,Hg k,Hg e,Hg e, .bool b, .ref L, .bool false],[]⟩
noncomputable def RU(L:Addr)(g:ReTarget):Kf Fin:=reSlice g.text g.kind 0 0>>=fun x=>seqItems? (.ref L)>>=fun v=>if(v.getD #[]).isEmpty=true then pure x>>=fun y=>ret y else call (.builtin (if(g.kind==0)=true then "str.join" else "bytes.join")) [x, .ref L]>>=fun y=>ret y
noncomputable def zZ9(pa L:Addr)(t rp:Str)(tk tr:Jr)(k:Int)(m:Sre.M):Kf Fin:=pure (.str rp tr)>>=fun x=>if(x != .none)=true then updateSeq L (·.push x)>>=fun _=>again (Mw pa L t rp tk tr (k+1) m.handed (m.handed==m.start))else again (Mw pa L t rp tk tr (k+1) m.handed (m.handed==m.start))
noncomputable def Mx(L:Addr)(g:ReTarget)(i b:Nat)(r:Kf Fin):Kf Fin:=if i<b then reSlice g.text g.kind i b>>=fun v=>updateSeq L (·.push v)>>=fun _=>r else r
noncomputable def yDl(pa L:Addr)(t rp:Str)(tk tr:Jr)(k:Int)(i:Nat)(g:ReTarget):Kf Fin:=reLiteralCannotBeTurned (.str rp tr)>>=fun _=>reNextFound g i false>>=fun r=>
 Option.casesOn (motive:=fun _=>Kf Fin) r (Mx L g i g.lim (RU L g)) fun m=>Mx L g i m.start (zZ9 pa L t rp tk tr k m)
theorem RV{s₀:Ab}{h₀:Ap}{L:Addr}{vs:List Value}{ps:List (List Nat)}{t:List Nat}{i b:Nat}{body:Kf Fin}{pa:Addr}{cd:Array Nat}{tk:Jr}{Q:Fin->Ab->Prop}(P:uk L h₀ s₀ s vs ps)(hsz:ps.length<ag)(mC:t.length<=1000000)
  (hQ:∀s' tU,uk L h₀ s₀ s' tU (ps++(if i<b then [(t.drop i).take (b-i)]else []))->Am (Af prog w) A body Q E s'):
  Am (Af prog w) A (Mx L (CV pa cd ⟨t.toArray⟩ tk) i b body) Q E s:=by
 by_cases CW:i<b
 ·rw[if_pos CW]at hQ
  refine tE CW (Ac ?_)
  refine(?_:Am _ _ (PySem.mkStr ⟨t.toArray.extract i b⟩) _ _ _)
  rw[RO]
  refine wpAny_mkStr (Ac ?_) (Bm▸Ad (Kq ..) (Ad (Bu▸Hn ..) (Ad mC (by decide))))
  exact RP (s:={s with toks:=s.toks+1}) ⟨P.pl,P.vr,P.sm.trans ((yZ.refl _).heap _ _),P.kp⟩ hsz fun s' P'=>hQ s' _ P'
 ·rw[if_neg CW,Bv]at hQ
  exact iP CW (hQ s vs P)
theorem RW(t:List Nat)(ps:List (List Nat))(i b:Nat):(ps++if i<b then [(t.drop i).take (b-i)]else []).length<=ps.length+1:=by split<;>simp
theorem RX(t:List Nat)(ps:List (List Nat))(i b:Nat):((ps++if i<b then [(t.drop i).take (b-i)]else []).map B2).sum<=(ps.map B2).sum+(b-i):=by
 split
 ·simp;exact Ig _ _
 ·simp
theorem zVk{s₀:Ab}{h₀:Ap}{L:Addr}{vs:List Value}{ps:List (List Nat)}{t:List Nat}{pa:Addr}{cd:Array Nat}{tk:Jr}{Q:Fin->Ab->Prop}(P:uk L h₀ s₀ s vs ps)(hs:(ps.map B2).sum<=16000000)
  (hQ:∀(s':Ab) (tx:Jr),yZ s₀ s'->Co L h₀ s'.heap->Q (.done (.ret (.str ⟨ps.flatten.toArray⟩ tx))) s'):
  Am (Af prog w) A (RU L (CV pa cd ⟨t.toArray⟩ tk)) Q E s:=by
 refine Ac ?_
 refine(?_:Am _ _ (PySem.mkStr ⟨t.toArray.extract 0 0⟩) _ _ _)
 rw[RO,Nat.sub_zero,Kr]
 refine wpAny_mkStr ?_ (C0 _)
 refine aJ P.pl fun n ho=>?_
 refine Ac (wpAny_seqItems ho rfl ?_)
 by_cases My:vs.toArray.isEmpty=true
 ·refine tE My (Ac (Ak (Ak ?_)))
  have hv:vs.length=0:=by rw[Array.isEmpty_iff.mp My|>fun e=>(show vs=[]by simpa using e)];rfl
  have e:=hQ {s with toks:=s.toks+1} (s.toks) (P.sm.trans ((yZ.refl _).heap _ _)) P.kp
  rw[Il.mp (Eb (P.vr.length.symm.trans hv))]at e
  exact e
 ·refine iP My (Ac ?_)
  refine Hc (s:={s with toks:=s.toks+1}) (x:=mkStr []) P.pl.isList (P.vr.strs (RQ _)) ?_ fun t' k'=>?_
  ·have h1:(Ce∘mkStr)=B2:=funext fun z=>rfl
   refine(?_:_+_*0<=_)
   rw[A8]
   refine(?_:(List.map (Ce∘mkStr) ps).sum<=_)
   rw[h1]
   exact Ad hs (by decide)
  ·rw[GC,Mv]
   exact Ak (hQ {s with toks:=k'} _ (P.sm.trans ((yZ.refl _).heap _ _)) P.kp)
theorem yC3{x y i a e r:Nat}(h:x<=y+(a-i))(k:y<=11*i)(f1:i<=a)(f2:a<e)(hr:r<=10):x+r<=11*e:=
 have q:11*i+(a-i)<=11*a:=Ad (Dc (Nat.le_mul_of_pos_left _ (G8 10)) _) (by rw[<-Nat.mul_add,Nat.add_sub_cancel' f1];exact Br _)
 Ad (Hj (Ad h (Ad (Bw k _) q)) hr) (Ad (Fq (11*a+10)) (Dz 11 f2))
theorem zZf(pa L:Addr)(t rp:Str)(tk tr:Jr)(k:Int)(i:Nat):
 (Builtin.«re.Pattern.sub.loop» <|⟨[.ref pa, .str t tk, .str rp tr,Hg 0,Hg 0,Hg k,Hg i,Hg i, .bool false, .ref L, .bool false],[]⟩)=(reWholeTarget (.ref pa) (.str t tk)>>=yDl pa L t rp tk tr k i):=by
 kernel_rfl
theorem zUe{cd:Array Nat}{t rp:List Nat}{tk tr:Jr}{pa L:Addr}{Sp:Nat->Option (Nat×Nat)}{s₀:Ab}{h₀:Ap}(F:x5 cd t.toArray Sp)(mC:t.length<=1000000)(Mz:rp.length<=10)
  (hp:∀h:Ap,Co L h₀ h->my h pa cd) {R:D3->Ab->Prop}:
  ∀(n:Nat) (s:Ab) (vs:List Value) (ps:List (List Nat)) (i:Nat) (k:Int) (b:Bool),b=false->i<=t.length->t.length<i+n->uk L h₀ s₀ s vs ps->ps.length<=2*i->(ps.map B2).sum<=11*i->
   (∀(s':Ab) (tx:Jr),yZ s₀ s'->Co L h₀ s'.heap->R (.ok (.ret (.str ⟨(ps++o4 Sp t rp n i).flatten.toArray⟩ tx))) s')->
   Ca (Af prog w) A (Mw pa L ⟨t.toArray⟩ ⟨rp.toArray⟩ tk tr k i b) R s:=by
 intro n
 induction n with
 |zero=>intro s vs ps i k b hb h1 h2;exact absurd h1 (Nat.not_le_of_lt h2)
 |succ n ih=>
  intro s vs ps i k b hb h1 h2 P gU x6 hR
  subst hb
  have hi:i<=1000000:=Ad h1 mC
  have x7:ps.length<=2000000:=Ad gU (Dz 2 hi)
  have cQ:ps.length<ag:=Dn x7 (by decide)
  refine codeAny_builtin zNr (af (zZf ..) ?_)
  refine Ac (RN (hp _ P.kp) ?_)
  refine Ac (B3 (show reLiteralCannotBeTurned (.str ⟨rp.toArray⟩ tr)=pure ()from rfl) ?_)
  refine Ac (zOk (tk:=tk) F h1 (fun m q f1 f2 f3=>?_) fun q=>?_)
  ·refine RV P cQ mC fun aa x8 sr=>?_
   refine Ac (Ak ?_)
   refine tE rfl (Ac ?_)
   have f3:m.handed<=t.length:=f3
   have el:(ps++if i<m.start then [(t.drop i).take (m.start-i)]else []).length<=ps.length+1:=RW ..
   have es:((ps++if i<m.start then [(t.drop i).take (m.start-i)]else []).map B2).sum<=(ps.map B2).sum+(m.start-i):=RX ..
   have lj:i+1<=m.handed:=Dn f1 f2
   refine RP sr (Dn (Ad el (Dr x7)) (by decide)) fun s₂ MA=>?_
   refine Ak ⟨RM _,ih s₂ _ _ m.handed (k+1) _ (beq_eq_false_iff_ne.mpr (He f2)) f3 (D5 h2 (Nat.succ_add_eq_add_succ i n▸Bw lj n)) MA (Ah▸Ad (Dr (Ad el (Dr gU))) (Dz 2 lj)) (by rw[D2,Gv,List.map_singleton,List.sum_singleton];exact yC3 es x6 f1 f2 Mz) fun s' tx h1 h2=>?_⟩
   have e:=hR s' tx h1 h2
   unfold o4 at e
   rw[q,<-Bf,<-Bf]at e
   exact e
  ·refine RV (b:=t.length) P cQ mC fun aa x8 sr=>?_
   have el:(ps++if i<t.length then [(t.drop i).take (t.length-i)]else []).length<=ps.length+1:=RW ..
   have es:((ps++if i<t.length then [(t.drop i).take (t.length-i)]else []).map B2).sum<=(ps.map B2).sum+(t.length-i):=RX ..
   refine zVk sr (Ad es (Ad (Hj (Ad x6 (Dz 11 hi)) (Ad (Hn ..) mC)) (by decide))) fun s' tx h1 h2=>?_
   have e:=hR s' tx h1 h2
   unfold o4 at e
   rw[q]at e
   rw[Fu (Bu▸Br _)]
   exact e
end
theorem CX:Slot "re.Pattern" "sub" "re.Pattern.sub" := .of (owner:= "re.Pattern") (n:= "sub") (by rw[Bh,A1];kernel_rfl) (by decide+kernel) (by decide+kernel) (by decide+kernel)
  (by first|exact .inl (by decide+kernel)|exact .inr (by decide+kernel)) (by rw[Fh];kernel_rfl)
theorem RY:typeOf (.builtin "re.Pattern.sub")=pure (.type "method_descriptor"):=by refine(?_:builtinType _=_);rw[builtinType_eq_fast];kernel_rfl
theorem zI4:Jn table "re.Pattern.sub" =some Builtin.«re.Pattern.sub» :=Fi (by kernel_rfl)
theorem zLa(a b c:Value):L6 "re.Pattern.sub" ⟨[a,b,c],[]⟩:=by kernel_rfl
theorem RZ:PlainAttrs "re.Pattern" :=⟨⟨"object.__getattribute__",by(refine af (Bh ..) ?_;refine af A1 ?_);kernel_rfl,by decide+kernel⟩,by(refine af (Bh ..) ?_;refine af A1 ?_);kernel_rfl⟩
theorem zM1:Cq (.type "str") "__call__" =pure none:=by rw[Bh,A1];kernel_rfl
section
variable{prog:Program}{w:Cn}{A:Al}{E:Value->Ab->Prop}{s:Ab}
theorem R0{cd:Array Nat}{t rp:List Nat}{tk tr:Jr}{pa:Addr}{Sp:Nat->Option (Nat×Nat)}{Q:Value->Ab->Prop}(F:x5 cd t.toArray Sp)(hp:my s.heap pa cd)(mC:t.length<=1000000)(Mz:rp.length<=10)(h92:rp.contains 92=false)
  (hQ:∀(s':Ab) (tx:Jr),KG s s'->Q (.str ⟨((o4 Sp t rp (t.length+1) 0).flatten).toArray⟩ tx) s'):
  Am (Af prog w) A (call (.builtin "re.Pattern.sub") [.ref pa, .str ⟨rp.toArray⟩ tr, .str ⟨t.toArray⟩ tk]) Q E s:=by
 obtain⟨o,ps,ta,to,items,n,e1,e2,e3⟩:=id hp
 have hT:s.TypeIs (.ref pa) "re.Pattern" :=⟨o,e1,e2⟩
 refine F8 (codeAny_call_builtin CX.plain zI4 (CX.check _ _ _ _ _ _ _ _ hT (zLa _ _ _) ?_))
 unfold Builtin.«re.Pattern.sub»reSubstitute
 refine Ac (B3 (show reNamed "re.Pattern.sub" "sub" ["repl", "string", "count"] 2 [.str ⟨rp.toArray⟩ tr, .str ⟨t.toArray⟩ tk] []=pure [some (.str ⟨rp.toArray⟩ tr),some (.str ⟨t.toArray⟩ tk),none]by first|rfl|kernel_rfl) ?_)
 refine Ac (Ak ?_)
 refine Ac (D1 (Hp _ _ _) zM1 ?_)
 refine iP (by decide) ?_
 refine Ac (B3 (show asStr? (.str ⟨rp.toArray⟩ tr)=pure (some ⟨rp.toArray⟩)from rfl) ?_)
 refine Ac (Ak ?_)
 refine iP (by decide) ?_
 have MB:(!(rp.toArray.contains 92))=true:=by simpa using h92
 refine af MB ?_
 refine af (if_pos rfl) ?_
 refine Ac (Ak ?_)
 dsimp only
 refine Ac (D9 (RN hp ?_))
 refine iP (by decide) ?_
 refine Ac (Cb ?_ (by refine(?_:(#[]:Array Value).size<=_);refine af Bm ?_;decide))
 refine Ak ⟨RM _,?_⟩
 have kE:s.heap.get? s.heap.objs.size=none:=yP (h:=s.heap) 0
 generalize hL:s.heap.objs.size=L at*
 have r7:(s.heap.push {cls:= .type "list",data:= .seq ([]:List Value).toArray}).get? L=some {cls:= .type "list",data:= .seq ([]:List Value).toArray}:=hL▸Av _ rfl
 have up:Sub s.heap (s.heap.push {cls:= .type "list",data:= .seq ([]:List Value).toArray}):=fun b o e=>Ag _ e
 have old:∀{h:Ap},(∀b o,b≠L->s.heap.get? b=some o->h.get? b=some o)->Sub s.heap h:=fun {h} k b o e=>k b o (fun q=>by rw[q,kE]at e;exact nn e) e
 refine zUe (h₀:=s.heap) (s₀:=s) F mC Mz (fun h k=>hp.sub (old k)) (t.length+1) {s with heap:=s.heap.push {cls:= .type "list",data:= .seq ([]:List Value).toArray} } [] [] 0 0 false rfl (C0 _) (Cp _▸Bj _) ⟨⟨_,r7⟩, .nil,(yZ.refl s).heap _ _,fun b o _ e=>up b o e⟩ (C0 _) (C0 _) fun s' tx h1 h2=>?_
 refine hQ s' tx ?_
 obtain⟨h',w9,g',e,xg⟩:=h1
 exact⟨h',w9,g',e,fun b o eb=>by
  have hb:b≠L:=fun q=>by rw[q,kE]at eb;exact nn eb
  have:=h2 b o hb eb
  rw[e]at this;exact this,xg⟩
end
end Internal
namespace Internal
open PySem
noncomputable def cC:Bool->List Nat->List Nat
 |_,[]=> []
 |cr,c::r=>if c==13 then 13::10::cC true r else if c==10 then(if cr then cC false r else 13::10::cC false r)else c::cC false r
noncomputable def dbl:Bool->List Nat->List Nat
 |_,[]=> []
 |b,c::r=>(if b&&c==46 then [46,46]else [c])++dbl (c==10) r
noncomputable def um(t:Array Nat)(start:Nat):Option (Nat×Nat):=(iH t t.size (t.size+1-start) start).map fun s=>(s,lE t t.size s)
noncomputable def uo(t:Array Nat)(start:Nat):Option (Nat×Nat):=(jo t t.size (t.size+1-start) start).map fun s=>(s,s+1)
theorem CY{t:Array Nat}{lim:Nat}:∀{n i s:Nat},iH t lim n i=some s->i<=s
 |0,_,_,h=>by exact nn h
 |n+1,i,s,h=>by
  unfold iH at h
  split at h
  ·exact nn h
  ·split at h
   ·obtain rfl:=Aa h;exact Br _
   ·exact Cv (CY h)
theorem x9{t:Array Nat}{lim:Nat}:∀{n i s:Nat},jo t lim n i=some s->i<=s/\s<lim
 |0,_,_,h=>by exact nn h
 |n+1,i,s,h=>by
  unfold jo at h
  split at h
  ·exact nn h
  ·rename_i hl
   split at h
   ·obtain rfl:=Aa h;exact⟨Br _,Gm hl⟩
   ·exact cj (Cv (x9 h).1) ((x9 h).2)
theorem R1{t:Array Nat}{lim s:Nat}(h:s<lim):s<lE t lim s/\lE t lim s<=lim:=by
 unfold lE
 split
 ·rename_i h2
  simp only[A0,decide_eq_true_eq]at h2
  lia
 ·lia
theorem yAw(t:Array Nat):x5 cy t (um t):=fun start hs=>by
 have h:=zWy (t:=t) (lim:=t.size) (start:=start)
 unfold um
 cases q:iH t t.size (t.size+1-start) start with
 |some s=>
  rw[q]at h
  refine aB h fun j hj hh=>?_
  have h1:=CU q
  have h2:=R1 (t:=t) h1.1
  exact⟨CY q,h2.1,h2.2,j,Ad hj (by decide),hh⟩
 |none=>
  rw[q]at h
  refine aB h fun j hj hh=>?_
  exact i12 j (Ad hj (by decide)) hh
theorem zZu(t:Array Nat)(ht:t.size<=1000000000):x5 ec t (uo t):=fun start hs=>by
 have h:=zWr (t:=t) (lim:=t.size) (start:=start)
 unfold uo
 cases q:jo t t.size (t.size+1-start) start with
 |some s=>
  rw[q]at h
  refine aB h fun j hj hh=>?_
  have h1:=x9 q
  exact⟨h1.1,Bj _,h1.2,j,by exact xX,hh⟩
 |none=>
  rw[q]at h
  refine aB h fun j hj hh=>?_
  exact i12 j (by exact xX) hh
theorem o5{l:List Nat}{i:Nat}(h:i<l.length):l.drop i=l.toArray.getD i 0::l.drop (i+1):=by
 rw[A5 h]
 congr 1
 simp[h]
theorem R2{l:List Nat}:∀(n i:Nat),n=l.length+1-i->i<=l.length->match iH l.toArray l.length n i with
  |some a=>cC false (l.drop i)=(l.drop i).take (a-i)++cC false (l.drop a)
  |none=>cC false (l.drop i)=l.drop i
 |0,i,hn,hi=>absurd hn (Bo (F7 (Hi hi)))
 |n+1,i,hn,hi=>by
  unfold iH
  by_cases h:i>=l.length
  ·refine af (if_pos h) ?_
   have:l.drop i=[]:=Ec.mpr h
   refine af this ?_;rfl
  ·refine af (if_neg h) ?_
   have aX:i<l.length:=Gm h
   cases hc:((l.toArray.getD i 0==10)||(l.toArray.getD i 0==13))with
   |true=>rw[if_pos rfl];simp
   |false=>
    rw[if_neg (by decide)]
    have ih:=R2 (l:=l) n (i+1) (congrArg Nat.pred hn) aX
    simp only[E3]at hc
    have e:cC false (l.drop i)=l.toArray.getD i 0::cC false (l.drop (i+1)):=by
     refine af (o5 aX) ?_
     conv=>lhs;unfold cC
     (refine eM (by refine af hc.2 ?_;decide) ?_;exact eM (by refine af hc.1 ?_;decide) rfl)
    split
    ·rename_i a ha
     rw[ha]at ih
     have xj:=CY ha
     rw[e,ih,o5 aX,show a-i=(a-(i+1))+1 by lia,Kz]
     rfl
    ·rename_i ha
     rw[ha]at ih
     refine af e ?_
     refine af ih ?_
     exact ct (o5 aX) rfl
theorem zY9{r:List Nat}(h:r.head?≠some 10):cC true r=cC false r:=by
 cases r with
 |nil=>rfl
 |cons c r=>
  have hc:(c==10)=false:=by
   cases q:(c==10)with
   |false=>rfl
   |true=>exact absurd (by exact q) (by simpa using h)
  unfold cC
  rw[hc]
  rfl
theorem yBg{l:List Nat}{a:Nat}(h:a<l.length)(hc:((l.toArray.getD a 0==10)||(l.toArray.getD a 0==13))=true):cC false (l.drop a)=[13,10]++cC false (l.drop (lE l.toArray l.length a)):=by
 unfold lE
 refine af (o5 h) ?_
 cases mx:(l.toArray.getD a 0==13)with
 |false=>
  rw[mx,Bool.or_false]at hc
  simp only[Gf]
  refine af (if_neg Bp) ?_
  conv=>lhs;unfold cC
  (refine af mx ?_;refine af hc ?_);rfl
 |true=>
  have e:cC false (l.toArray.getD a 0::l.drop (a+1))=13::10::cC true (l.drop (a+1)):=by
   conv=>lhs;unfold cC
   refine af mx ?_;rfl
  refine af e ?_
  by_cases hq:a+1<l.length/\(l.toArray.getD (a+1) 0==10)=true
  ·refine af hq.2 ?_
   simp only[hq.1,decide_true,Bool.and_self,if_true]
   refine af (o5 hq.1) ?_
   have:cC true (l.toArray.getD (a+1) 0::l.drop (a+1+1))=cC false (l.drop (a+2)):=by
    have gv:l.toArray.getD (a+1) 0=10:=by exact eq_of_beq hq.2
    refine af gv ?_;rfl
   refine af this ?_;rfl
  ·have hf:(true&&decide (a+1<l.length)&&(l.toArray.getD (a+1) 0==10))=false:=by
    cases q:(true&&decide (a+1<l.length)&&(l.toArray.getD (a+1) 0==10))with
    |false=>rfl
    |true=>
     simp only[Hz,A0,decide_eq_true_eq]at q
     exact absurd q hq
   rw[hf,if_neg Bp,zY9]
   ·rfl
   ·intro hh
    by_cases hl:a+1<l.length
    ·rw[o5 hl]at hh
     have:l.toArray.getD (a+1) 0=10:=by simpa using hh
     exact hq ⟨hl,by refine af this ?_;rfl⟩
    ·rw[Ec.mpr (by exact Cg ‹_›)]at hh;exact nn hh
theorem R3{l:List Nat}:∀(n i:Nat),i<=l.length->l.length<i+n->(o4 (um l.toArray) l [13,10] n i).flatten=cC false (l.drop i)
 |0,i,h1,h2=>by lia
 |n+1,i,h1,h2=>by
  unfold o4
  have hsz:l.toArray.size=l.length:=by rfl
  have hf:=R2 (l:=l) (l.length+1-i) i rfl h1
  unfold um
  refine af hsz ?_
  cases q:iH l.toArray l.length (l.length+1-i) i with
  |none=>
   rw[q]at hf
   refine af hf ?_
   dsimp only[Option.map_none]
   split
   ·simp
   ·rename_i h
    refine af (Ec.mpr (Cg h)) ?_;rfl
  |some a=>
   rw[q]at hf
   have hs:=CU q
   have he:=R1 (t:=l.toArray) hs.1
   have xj:=CY q
   dsimp only[J6]
   have ih:=R3 (l:=l) n (lE l.toArray l.length a) he.2 (by lia)
   unfold um at ih
   rw[hsz]at ih
   refine af hf ?_
   refine af (yBg hs.1 hs.2) ?_
   refine af Cu ?_
   refine af Cu ?_
   rw[show(fun start=>Hx (fun s=>(s,lE l.toArray l.length s)) (iH l.toArray l.length (l.length+1-start) start))=fun start=>Hx (fun s=>(s,lE l.toArray l.length s)) (iH l.toArray l.length (l.length+1-start) start)from rfl]
   refine af ih ?_
   split
   ·simp
   ·rename_i h
    have:a-i=0:=by lia
    refine af this ?_;simp
end Internal
namespace Internal
open PySem PySem.W PySem.Calls PyProof.Rows
theorem zVn{l:List Nat}{i:Nat}:bol l.toArray (i+1)=(l.toArray.getD i 0==10):=by
 unfold bol
 simp
theorem R4{l:List Nat}:∀(n i:Nat),n=l.length+1-i->i<=l.length->match jo l.toArray l.length n i with
  |some a=>dbl (bol l.toArray i) (l.drop i)=(l.drop i).take (a-i)++[46,46]++dbl (bol l.toArray (a+1)) (l.drop (a+1))
  |none=>dbl (bol l.toArray i) (l.drop i)=l.drop i
 |0,i,hn,hi=>absurd hn (Bo (F7 (Hi hi)))
 |n+1,i,hn,hi=>by
  unfold jo
  by_cases h:i>=l.length
  ·refine af (if_pos h) ?_
   have:l.drop i=[]:=Ec.mpr h
   refine af this ?_;rfl
  ·refine af (if_neg h) ?_
   have aX:i<l.length:=Gm h
   have e:dbl (bol l.toArray i) (l.drop i)=(if bol l.toArray i&&l.toArray.getD i 0==46 then [46,46]else [l.toArray.getD i 0])++dbl (bol l.toArray (i+1)) (l.drop (i+1)):=by
    refine af (o5 aX) ?_
    refine af zVn ?_
    conv=>lhs;unfold dbl
   cases hc:(bol l.toArray i&&(l.toArray.getD i 0==46))with
   |true=>
    refine af (if_pos rfl) ?_
    refine af e ?_
    refine af hc ?_
    refine af (if_pos rfl) ?_
    simp
   |false=>
    rw[if_neg (by decide)]
    have ih:=R4 (l:=l) n (i+1) (congrArg Nat.pred hn) aX
    rw[hc,if_neg (by decide)]at e
    split
    ·rename_i a ha
     rw[ha]at ih
     have xj:=(x9 ha).1
     rw[e,ih,o5 aX,show a-i=(a-(i+1))+1 by lia,Kz]
     simp
    ·rename_i ha
     rw[ha]at ih
     refine af e ?_
     refine af ih ?_
     conv=>rhs;rw[o5 aX]
     rfl
theorem R5{l:List Nat}:∀(n i:Nat),i<=l.length->l.length<i+n->(o4 (uo l.toArray) l [46,46] n i).flatten=dbl (bol l.toArray i) (l.drop i)
 |0,i,h1,h2=>by lia
 |n+1,i,h1,h2=>by
  unfold o4
  have hsz:l.toArray.size=l.length:=by rfl
  have hf:=R4 (l:=l) (l.length+1-i) i rfl h1
  unfold uo
  refine af hsz ?_
  cases q:jo l.toArray l.length (l.length+1-i) i with
  |none=>
   rw[q]at hf
   refine af hf ?_
   dsimp only[Option.map_none]
   split
   ·simp
   ·rename_i h
    refine af (Ec.mpr (Cg h)) ?_;rfl
  |some a=>
   rw[q]at hf
   have hs:=x9 q
   dsimp only[J6]
   have ih:=R5 (l:=l) n (a+1) hs.2 (by lia)
   unfold uo at ih
   rw[hsz]at ih
   refine af hf ?_
   refine af Cu ?_
   refine af Cu ?_
   rw[show(fun start=>Hx (fun s=>(s,s+1)) (jo l.toArray l.length (l.length+1-start) start))=fun start=>Hx (fun s=>(s,s+1)) (jo l.toArray l.length (l.length+1-start) start)from rfl]
   refine af ih ?_
   split
   ·simp
   ·rename_i h
    have:a-i=0:=by lia
    refine af this ?_;simp
noncomputable def kJ(l:List Nat):List Nat:=dbl true (cC false l)
theorem MC:∀(cr:Bool) (l:List Nat),(cC cr l).length<=2*l.length
 |_,[]=>by simp[cC]
 |cr,c::r=>by
  have h1:=MC true r
  have h2:=MC false r
  unfold cC
  split
  ·simp;exact xK
  ·split
   ·split
    ·simp;exact xM
    ·simp;exact xK
   ·simp;exact xL
section
variable{W:bu}{C:Cx}
theorem zOl{env:Dv}{A:Al}{E:Value->Ab->Prop}{s:Ab}{σ:List (Option PV)}{p1 p2:Addr}{z1 z2 zc zd:Str}{i:Nat}{l:List Nat}{tc:Jr}{a1 a2 a3 a4 a5 a6 a7 a8 a9:Bz}{k:Nat}{Q:Value->Ab->Prop}(P:Pre W C env A σ s)
  (h1:my s.heap p1 ec) (h2:my s.heap p2 cy) (qZ:C.kn.lookup z1=some .globalImplicit) (ra:C.kn.lookup z2=some .globalImplicit) (hzc:C.kn.lookup zc=some .globalImplicit) (hg1:W.mg z1=some (.ref p1)) (hg2:W.mg z2=some (.ref p2)) (l4:W.mg zc=some (.str ⟨#[13,10]⟩ tc))
  (tX:bad z1=false) (su:bad z2=false) (gr:bad zc=false) (BX:bad zd=false) (ot:C.kn.lookup zd=some .local) (hid:C.Γ.lookup zd=some i) (bp:σ[i]?=some (some (.str l))) (hl:l.length<=100000) (hl1:(a3.endLine==a8.line)=true) (AM:(a6.endLine==a7.line)=true)
  (hQ:∀s' t,KG s s'->Q (.str ⟨(kJ l).toArray⟩ t) s'):
  Am (Af W.prog W.w) A (eval (.Call (.Attribute (.Name z1 a1) "sub" a3) [.Constant (.str "..") k a2, .Call (.Attribute (.Name z2 a4) "sub" a6) [.Name zc a5, .Name zd a9] [] a7] [] a8) env) Q E s:=by
 have kk:∀x k,C.kn.lookup x=some k->env.kindOf x=some k:=fun x k e=>by unfold Be;refine af P.names ?_;exact e
 refine Call_method2 (kr rfl _ env _) (by(refine af (zF rfl _ env) ?_;refine af (zF rfl [] env) ?_);rfl) hl1 ?_
 refine A6 P.kind (kk _ _ qZ) (Dh (mg:=W.mg) (by refine af P.gl ?_;exact W.g P.wd) hg1 ?_) (wE tX)
 obtain⟨o,ps,ta,to,items,n,e1,e2,e3,e4⟩:=id h1
 refine nh ("re.Pattern") _ RZ CX RY ⟨o,e1,e2⟩ (fun c e=>by cases e;exact⟨o,e1,e3⟩) (Dq rfl (Ey (Ba (Dp (Ba ?_)))))
 refine Call_method2 (kr rfl _ env _) (by(refine af (zF rfl _ env) ?_;refine af (zF rfl [] env) ?_);rfl) AM ?_
 have P1:=P.kp (du s (s.toks+1))
 refine A6 P.kind (kk _ _ ra) (Dh (mg:=W.mg) (by refine af P.gl ?_;exact W.g P1.wd) hg2 ?_) (wE su)
 obtain⟨o',ps',ta',to',MD,n',f1,f2,f3,f4⟩:=id h2
 refine nh ("re.Pattern") _ RZ CX RY ⟨o',f1,f2⟩ (fun c e=>by cases e;exact⟨o',f1,f3⟩) (Dq rfl (Ey (Ba ?_)))
 refine A6 P.kind (kk _ _ hzc) (Dh (mg:=W.mg) (by refine af P.gl ?_;exact W.g P1.wd) l4 ?_) (wE gr)
 refine dY (P1.rd zd i _ _ ot rfl hid bp) fun v ns acc r=>?_
 refine Ba (Bt (zU P.kind acc (B7 ?_) (wW BX)) (wE BX))
 cases r
 have R6:=R3 (l:=l) (l.length+1) 0 (C0 _) (by lia)
 rw[Dx]at R6
 refine R0 (s:={s with toks:=s.toks+1}) (rp:=[13,10]) (Sp:=um l.toArray) (yAw _) h2 (by exact zB) (by decide) (by decide) fun s₂ r5 k₂=>?_
 refine af R6 ?_
 refine B7 ?_
 have hlen:=MC false l
 have ME:=R5 (l:=cC false l) ((cC false l).length+1) 0 (C0 _) (by lia)
 rw[Dx]at ME
 have BU:bol (cC false l).toArray 0=true:=rfl
 rw[BU]at ME
 refine R0 (rp:=[46,46]) (Sp:=uo (cC false l).toArray) (zZu _ (by simp;exact xN)) (h1.sub (zZ (zI (du s (s.toks+1)) k₂))) (by exact xN) (by decide) (by decide) fun ao MF bF=>?_
 refine af ME ?_
 exact hQ ao MF (zI (du s (s.toks+1)) (zI k₂ bF))
end
noncomputable def enc:List (Bool×Nat)->List Nat
 |[]=> []
 |(b,c)::r=>(if b then [92,c]else [c])++enc r
noncomputable def jq(c:Nat):Bool:=([10,9,13,32]:List Nat).contains c
noncomputable def MG(c:Nat):Prop:=jq c=false/\c≠34/\c≠92
noncomputable def nl(c:Nat)(ln:Int):Int:=if c=10 then ln+1 else ln
section
variable{U:Uc}{v it:Value}
noncomputable abbrev gS(v it:Value)(tok:List Nat)(c:Option PV)(cs:List Nat)(ln:Int):Sg:=⟨[some (.obj v),some (.str tok),some (.obj it),c],some (v,⟨cs,ln,[]⟩)⟩
theorem R7(c:Nat)(r:List Nat)(ln:Int):gq ⟨c::r,ln,[]⟩=(⟨r,nl c ln,[]⟩,[c]):=by
 unfold gq nl
 by_cases h:c=10
 ·subst h;rfl
 ·have:(([c]:List Nat)==[10])=false:=by simp[h]
  simp[h]
theorem CZ{out:Bool}{f:Den}{n:Nat}{tok:List Nat}{p:Option PV}{c:Nat}{r:List Nat}{ln:Int}:gK out v 3 f (n+1) (gS v it tok p (c::r) ln)=
  (f (gS v it tok (some (.str [c])) r (nl c ln))).bind fun q=>match q with
   |(g', .next)=>gK out v 3 f n g'
   |(g', .cont)=>gK out v 3 f n g'
   |(g', .brk)=>some (g', .next)
   |(g', .ret p)=>some (g', .ret p):=by
 refine(?_:(if v==v then _ else _)=_)
 refine xU (by simp) ?_
 refine(?_:(f _).bind _=_)
 rw[R7];rfl
theorem uq{tok:List Nat}{c:Nat}{r:List Nat}{ln:Int}:t9 0 3 (gS v it tok (some (.str [c])) r ln)=some (jq c):=by
 refine(?_:(if v==v then _ else _:Option (Value×aj)).bind _=_)
 rw[if_pos (by simp)];rfl
theorem DA{tok:List Nat}{c k:Nat}{r:List Nat}{ln:Int}:aY U (.cmp .Eq (.var 3) (.lit (.str [k]))) (gS v it tok (some (.str [c])) r ln).σ=some (c==k):=by
 refine(?_:some (([c]:List Nat)==[k])=_)
 simp
theorem kG{c:Sg->Option Bool}{f h:Den}{g:Sg}{t:Bool}(e:c g=some t):kF c f h g=if t then f g else h g:=by unfold kF;rw[e];rfl
theorem R8{tok:List Nat}{c:Nat}{r:List Nat}{ln:Int}(h:c≠92):ub 0 3 U (gS v it tok (some (.str [c])) r ln)=some (gS v it tok (some (.str [c])) r ln, .next):=by
 refine(kG (t:=false) (DA.trans (by simpa using h))).trans ?_
 rfl
theorem R9{tok:List Nat}{c:Nat}{r:List Nat}{ln:Int}:ub 0 3 U (gS v it tok (some (.str [92])) (c::r) ln)=some (gS v it tok (some (.str [c])) r (nl c ln), .next):=by
 refine(kG (t:=true) DA).trans ?_
 refine(?_:(zX (yY 3 (w4 0)) az _)=_)
 have:w4 0 (gS v it tok (some (.str [92])) (c::r) ln)=some (gS v it tok (some (.str [92])) r (nl c ln), .str [c]):=by
  refine(?_:Hx _ (if v==v then _ else _:Option (Value×aj))=_)
  rw[if_pos (by simp)]
  simp only[J6]
  rw[R7]
 refine(?_:((yY 3 (w4 0) _).bind _)=_)
 unfold yY
 rw[this];rfl
theorem Sa{g:Sg}{i:Nat}{e:PE}{a b:List Nat}(hx:g.σ[i]?=some (some (.str a)))(hy:ev U e g.σ=some (.str b))(hs:a.length+b.length<=ag):oe U .Add i e g=some (g.set i (.str (a++b)), .next):=by
 unfold oe
 rw[hx]
 refine(?_:(ev U e g.σ).bind _=_)
 rw[hy]
 refine(?_:(if a.length+b.length<=ag then some (PV.str (a++b))else none:Option PV).map _=_)
 rw[if_pos hs]
 rfl
theorem Sb{tok:List Nat}{c:Nat}{r:List Nat}{ln:Int}(h:tok.length+1<=ag):CJ U 1 3 (gS v it tok (some (.str [c])) r ln)=some (gS v it (tok++[c]) (some (.str [c])) r ln, .next):=by
 refine(?_:(oe U .Add 1 (.var 3) _).bind _=_)
 rw[Sa (a:=tok) (b:=[c]) rfl rfl h];rfl
theorem zM{f h:Den}{g g₁:Sg}(e:f g=some (g₁, .next)):zX f h g=h g₁:=by unfold zX;rw[e];rfl
theorem yW{f h:Den}{g g₁:Sg}{p:PV}(e:f g=some (g₁, .ret p)):zX f h g=some (g₁, .ret p):=by unfold zX;rw[e];rfl
theorem zTz{f h:Den}{g g₁:Sg}(e:f g=some (g₁, .cont)):zX f h g=some (g₁, .cont):=by unfold zX;rw[e];rfl
theorem Sd(b:Bool)(c:Nat)(l:List (Bool×Nat))(r:List Nat):enc ((b,c)::l)++r=(if b then 92 else c)::(if b then c::(enc l++r)else enc l++r):=by
 cases b<;>simp[enc]
theorem zVp(b:Bool){c:Nat}(hc:MG c)(ln:Int):nl (if b then 92 else c) ln=ln:=by
 unfold nl;rw[if_neg];cases b with
 |true=>simp
 |false=>simp only[D6,if_false];rintro rfl;exact absurd hc.1 (by decide)
theorem MH{out:Bool}{f:Den}{tok:List Nat}{p:Option PV}{cs:List Nat}{ln:Int}:nF out v 2 it 3 f (gS v it tok p cs ln)=gK out v 3 f (cs.length+1) (gS v it tok p cs ln):=by
 refine(?_:(if(it==it)=true then _ else _)=_)
 refine xU (by simp) ?_;rfl
theorem yBf{tok:List Nat}{c:Nat}{r:List Nat}{ln:Int}(hc:jq c=true):qp U 0 1 2 3 v it (gS v it tok (some (.str [c])) r ln)=some (gS v it tok (some (.str [c])) r ln, .cont):=by
 refine zTz ?_
 exact(kG (t:=true) (uq.trans (by rw[hc]))).trans rfl
noncomputable def jK:List Nat->Int->Int
 |[],ln=>ln
 |c::r,ln=>jK r (nl c ln)
theorem MI{rest:List Nat}{n:Nat}:∀(pre:List Nat) (p:Option PV) (ln:Int),pre.all jq=true->∃p',gK true v 3 (qp U 0 1 2 3 v it) (pre.length+n) (gS v it [] p (pre++rest) ln)=gK true v 3 (qp U 0 1 2 3 v it) n (gS v it [] p' rest (jK pre ln))
 |[],p,ln,_=>⟨p,by rw[F0,Cp];rfl⟩
 |c::r,p,ln,h=>by
  simp only[K6,A0]at h
  obtain⟨p',e⟩:=MI r (some (.str [c])) (nl c ln) h.2
  refine cn p' ?_
  rw[show(c::r).length+n=(r.length+n)+1 by simp;exact Iv _ _ _,B9,CZ,yBf h.1]
  exact e
theorem zX6{cs:List Nat}{ln:Int}{p':Option PV}{b':aj}{r:List Nat}{tok:List Nat}
  (h:gK true v 3 (qp U 0 1 2 3 v it) (cs.length+1) (gS v it [] none cs ln)=some (⟨[some (.obj v),some (.str tok),some (.obj it),p'],some (v,b')⟩, .ret (.str r))):
  KZ U v it (gS v it [] none cs ln)=some (⟨[some (.obj v),some (.str tok),some (.obj it),p'],some (v,b')⟩, .ret (.str r)):=by
 refine yW ?_
 rw[MH];exact h
end
section
variable{U:Uc}
theorem zSi{pre:List Nat}{ln:Int}(hp:pre.all jq=true):jH U ⟨pre,ln,[]⟩ ⟨[],jK pre ln,[]⟩ []:=fun v=>by
 refine .inr ⟨rfl,fun it=>?_⟩
 refine aJ (MI (U:=U) (v:=v) (it:=it) (rest:=[]) (n:=1) pre none ln hp) fun mD fD=>?_
 rw[Bv]at fD
 refine cn ([some (.obj v),some (.str []),some (.obj it),mD]) ?_
 have eP:nF true v 2 it 3 (qp U 0 1 2 3 v it) (gS v it [] none pre ln)=some (gS v it [] mD [] (jK pre ln), .next):=by
  rw[MH,fD]
  refine(?_:(if(v==v)=true then _ else _)=_)
  refine xU (by simp) ?_;rfl
 exact(zM eP).trans rfl
noncomputable def kK(U:Uc)(b:aj):Option (aj×List Nat):=open Classical in if h:∃q:aj×List Nat,jH U b q.1 q.2 then some (choose h)else none
theorem zV3{b b':aj}{r:List Nat}(h:kK U b=some (b',r)):jH U b b' r:=by
 unfold kK at h
 split at h
 ·next h'=>
  have:=Kb h'
  rw[Aa h]at this
  exact this
 ·exact nn h
theorem zQ5{b ya yb:aj}{aA ba:List Nat}(ah:jH U b ya aA)(ai:jH U b yb ba):ya=yb/\aA=ba:=by
 rcases ah .none with ah|⟨mE,ah⟩
 ·rcases ai .none with ai|⟨jL,ai⟩
  ·rw[ah]at ai
   simp only[Lx,Prod.mk.injEq,Sg.mk.injEq,Fl.ret.injEq,PV.str.injEq,true_and]at ai
   exact ai
  ·exfalso
   have:t8 0 ⟨[some (.obj .none),none,none,none],some (Hw,b)⟩=some (⟨[some (.obj .none),none,none,none],some (Hw,b)⟩, .next):=by
    obtain⟨a,c,d⟩:=b
    have jL:d=[]:=jL
    subst jL;rfl
   rw[this]at ah;cases ah
 ·rcases ai .none with ai|⟨jL,ai⟩
  ·exfalso
   have:t8 0 ⟨[some (.obj .none),none,none,none],some (Hw,b)⟩=some (⟨[some (.obj .none),none,none,none],some (Hw,b)⟩, .next):=by
    obtain⟨a,c,d⟩:=b
    have mE:d=[]:=mE
    subst mE;rfl
   rw[this]at ai;cases ai
  ·refine aJ (ah .none) fun cb fD=>?_
   refine aJ (ai .none) fun fE eP=>?_
   rw[fD]at eP
   simp only[Lx,Prod.mk.injEq,Sg.mk.injEq,Fl.ret.injEq,PV.str.injEq,true_and]at eP
   exact cj eP.1.2 eP.2
theorem Se{b b':aj}{r:List Nat}(h:jH U b b' r):kK U b=some (b',r):=by
 unfold kK
 have h':∃q:aj×List Nat,jH U b q.1 q.2:=⟨(b',r),h⟩
 rw[dif_pos h']
 refine au (zQ5 (Kb h') h) fun e1 e2=>?_
 exact congrArg some (Prod.ext e1 e2)
end
noncomputable def lF(U:Uc)(elt:PE)(σ:List (Option PV))(it:List PV):Option (Option PV):=(ev U elt (σ++it.map some)).bind fun y=>if y.aZ then some (some y)else none
noncomputable def o6(l1 l2:List Nat):List (List PV):=l1.flatMap fun a=>l2.map fun b=> [PV.str [a],PV.str [b]]
theorem MJ{f:List PV->Option (Option PV)}:∀{a b:List (List PV)} {ps:List PV},zQ f (a++b)=some ps->∃p q,zQ f a=some p/\zQ f b=some q/\ps=p++q
 |[],b,ps,h=>⟨[],ps,rfl,h,rfl⟩
 |x::a,b,ps,h=>by
  rw[B9]at h
  unfold zQ at h
  split at h
  ·next y e=>
   obtain⟨r,e1,rfl⟩:=wX h
   obtain⟨p,q,e2,e3,rfl⟩:=MJ e1
   refine⟨y::p,q,?_,e3,rfl⟩
   unfold zQ
   rw[e]
   dsimp only
   rw[e2];rfl
  ·next e=>
   obtain⟨p,q,e2,e3,rfl⟩:=MJ h
   refine⟨p,q,?_,e3,rfl⟩
   unfold zQ
   rw[e]
   exact e2
  ·cases h
section
variable{prog:Program}{w:Cn}{A:Al}{R:D3->Ab->Prop}{s:Ab}
noncomputable abbrev gY(elt it1:Expr)(x y:Str)(px py:Bz)(s2:Str)(k2:Nat)(q2:Bz)(scope:Scope)(pos:Bz):Expr:= .ListComp elt [⟨.Name x px,it1,[],0⟩,⟨.Name y py, .Constant (.str s2) k2 q2,[],0⟩] scope pos
variable{elt it1:Expr}{x y:Str}{px py:Bz}{s2:Str}{k2:Nat}{q2:Bz}{scope:Scope}{pos:Bz}
theorem zIz(it acc:Value)(env:Dv):Lq (gY elt it1 x y px py s2 k2 q2 scope pos) 1 it acc env=(Kv q2>>=fun _=>Gy it>>=fun r=>match r with
  |none=>pure (.done .next)
  |some v=>E1 (.Name y py) it v>>=fun _=>assign (.Name y py) env v>>=fun _=>
   (eval elt env>>=fun x=>call (.builtin "list.append") [acc,x]>>=fun _=>pure ())>>=fun _=>again (.compLoop (gY elt it1 x y px py s2 k2 q2 scope pos) 1 it acc env)):=rfl
theorem zI6(it acc:Value)(env:Dv):Lq (gY elt it1 x y px py s2 k2 q2 scope pos) 0 it acc env=(Kv it1.pos>>=fun _=>Gy it>>=fun r=>match r with
  |none=>pure (.done .next)
  |some v=>E1 (.Name x px) it v>>=fun _=>assign (.Name x px) env v>>=fun _=>
   (eval (.Constant (.str s2) k2 q2) env>>=fun u=>Kv q2>>=fun _=>Ee (.Constant (.str s2) k2 q2) env u>>=fun u=>holding [u] (Hq u)>>=fun it2=>
    runOwn (.compStart (gY elt it1 x y px py s2 k2 q2 scope pos) 1 it2 acc env) env>>=fun _=>again (.compLoop (gY elt it1 x y px py s2 k2 q2 scope pos) 0 it acc env))):=rfl
theorem zIc{it acc:Value}{env:Dv}
  (h0:Ca (Af prog w) A (.compLoop (gY elt it1 x y px py s2 k2 q2 scope pos) 1 it acc env) R s)
  (h:Am (Af prog w) A (Hq it) (fun MK s'=>Ca (Af prog w) A (.compLoop (gY elt it1 x y px py s2 k2 q2 scope pos) 1 MK acc env) R s')
   (Fv (Af prog w) A env fun x s'=>R (.error x) s') s):
  Ca (Af prog w) A (.compStart (gY elt it1 x y px py s2 k2 q2 scope pos) 1 it acc env) R s:=by
 refine codeAny_of_tree ?_
 show Am _ _ ((compStart (gY elt it1 x y px py s2 k2 q2 scope pos) 1 it acc env).onRaise (fun x=>do Hr x env;Kv theWindowsPlace)) _ _ s
 refine wpAny_notedAt ?_
 unfold compStart
 show Am _ _ (ask>>=_) _ _ s
 refine Ac (wpAny_askSetting (wpAny_ite ?_))
 split
 ·first
   |exact Ac (Ak (Ak (Jj rfl h0)))
   |exact Ak (Jj rfl h0)
 ·first
   |exact Ac (G1 (Ac (Ck (Ac (Bq h (fun MK s' h'=>Ak (Jj rfl h')) fun _ _ x=>x)))))
   |(refine Ac (G1 ?_);show Am _ _ (Kv q2>>=_) _ _ s;exact Ac (Ck (Ac (Bq h (fun MK s' h'=>Ak (Jj rfl h')) fun _ _ x=>x))))
end
section
variable{W:bu}{C:Cx}
theorem dy.bind{prog:Program}{w:Cn}{A:Al}{target:Expr}{xs:List Str}{I:Addr}{fp wr:List Addr}{its:List (List PV)}{St:Nat->Ap->Prop}(T:dy prog w A target xs I fp wr its St){i:Nat}{it:List PV}{s:Ab}{env:Dv}{E:Value->Ab->Prop}{dn cont:Kf Fin}{sv:Fin->Ab->Prop}
  (hi:its[i]?=some it) (st:St i s.heap) (h:∀vs ns h' tk,ak h' it vs ns->(∀a∈ns,a∈fp)->it.length=xs.length->St (i+1) h'->(∀b o,b∉wr->s.heap.get? b=some o->h'.get? b=some o)->
   qT prog w A env E (fun s₂=>Am (Af prog w) A cont sv E s₂) (xs.zip vs) {s with heap:=h',toks:=tk}):
  Am (Af prog w) A (Gy (.ref I)) (fun r aa=>Am (Af prog w) A (match r with
   |none=>dn
   |some v=>E1 target (.ref I) v>>=fun _=>assign target env v>>=fun _=>cont) sv E aa) E s:=by
 refine Bq (T.item i it s env (fun s₂=>Am (Af prog w) A cont sv E s₂) E hi st h) (fun r aa ah=>?_) fun _ _ h=>h
 obtain⟨v,rfl,ah⟩:=ah
 exact Ac (Bq ah (fun _ s₂ ai=>Ac ai) fun _ _ h=>h)
structure yc(s₀:Ab)(D L:Addr)(x:Str)(vx:Option Value)(qs:List PV)(ys:List Value)(ah:Ap)(wr:List Addr)(s:Ab):Prop where
 k:KG s₀ s
 pl:s.heap.PlainList D ys.toArray
 vs:ak s.heap qs ys []
 ns:∃m,s.heap.Ns L m/\(∀v,vx=some v->m x=some v)
 kp:∀b o,b≠D->b≠L->b∉wr->ah.get? b=some o->s.heap.get? b=some o
theorem iI{n i:Nat}(h:i<n):n+1-(i+1)<n+1-i:=Nat.sub_lt_sub_left (I6 h) (Bj i)
theorem zR9{U:Uc}{pe:PE}{σ:List (Option PV)}{it:List PV}{r:List (List PV)}{rest:List PV}(h:zQ (lF U pe σ) (it::r)=some rest):∃yv iJ,ev U pe (σ++it.map some)=some yv/\yv.aZ=true/\zQ (lF U pe σ) r=some iJ/\rest=yv::iJ:=by
 unfold zQ at h
 split at h
 ·next yv e1=>
  obtain⟨r',e2,e3⟩:=wX h
  obtain⟨z,e4,e5⟩:=wO e1
  refine oI e5 fun hi e5=>?_
  obtain rfl:=Aa (Aa e5)
  exact⟨_,r',e4,hi,e2,e3.symm⟩
 ·next e1=>
  obtain⟨z,e4,e5⟩:=wO e1
  exact oI e5 fun _ e5=>nomatch e5
 ·exact nn h
theorem zR5{elt it1:Expr}{x y:Str}{px py:Bz}{s2:Str}{k2:Nat}{q2:Bz}{scope:Scope}{pos:Bz}{pe:PE}{env:Dv}{A:Al}{σ:List (Option PV)}{s₀ s:Ab}{cl:List (Str×Addr)}
  {I D L:Addr} {fp wr:List Addr} {l2:List Nat} {St:Nat->Ap->Prop} {a:Nat} {ta:Jr} {qs ps:List PV} {ys:List Value} {R:D3->Ab->Prop}
  (bg:kc C scope [x,y]=true) (P:Pre W C env A σ s₀) (dc:∀x c,env.cells.lookup x=some c->(x,Cd)∈scope.names->cl.lookup x=some c)
  (br:av W (C.dZ scope [x,y]) elt pe) (sD:x≠y) (T:dy W.prog W.w A (.Name y py) [y] I fp wr (l2.map fun c=> [PV.str [c]]) St) (st:St 0 s.heap)
  (hD:D≠L) (hDs:s₀.heap.get? D=none) (hLs:s₀.heap.get? L=none) (Sf:∀b∈wr,s₀.heap.get? b=none) (yd:D∉fp) (ur:L∉fp)
  (t:yc s₀ D L x (some (.str ⟨#[a]⟩ ta)) qs ys s.heap wr s) (run:zQ (lF W.U pe σ) (l2.map fun b=> [PV.str [a],PV.str [b]])=some ps) (hsz:qs.length+ps.length<=ag)
  (hR:∀s' vs,yc s₀ D L x (some (.str ⟨#[a]⟩ ta)) (qs++ps) vs s.heap wr s'->R (.ok .next) s'):
  Ca (Af W.prog W.w) A (.compLoop (gY elt it1 x y px py s2 k2 q2 scope pos) 1 (.ref I) (.ref D) (B8 scope cl L env)) R s:=by
 have aT:scope.kind= .function:=eq_of_beq (bA (bA (bA (bA bg).1).1).1).1
 have HY:(B8 scope cl L env).kindOf y=some .local:=Ga (eq_of_beq (Ao.mp (bA (bA (bA bg).1).1).2 y (.tail _ (.head _))))
 have ye:L∉wr:=fun h=>ur (T.sub _ h)
 have yf:D∉wr:=fun h=>yd (T.sub _ h)
 refine codeAny_loop rfl (fun n s'=>∃i iK jr rest,n=l2.length+1-i/\i<=l2.length/\St i s'.heap/\yc s₀ D L x (some (.str ⟨#[a]⟩ ta)) iK jr s.heap wr s'/\zQ (lF W.U pe σ) ((l2.drop i).map fun b=> [PV.str [a],PV.str [b]])=some rest/\qs++ps=iK++rest)
  (fun n s' hI=>?_) (l2.length+1) ⟨0,qs,ys,ps,rfl,C0 _,st,t,run,rfl⟩
 show Am _ A ((Lq (gY elt it1 x y px py s2 k2 q2 scope pos) 1 (.ref I) (.ref D) (B8 scope cl L env)).onRaise (fun x=>do Hr x (B8 scope cl L env);E2 x)) _ _ s'
 refine Kl ?_
 rw[zIz]
 refine uS hI fun i iK jr rest ML hi i0 t' eC gU=>?_
 subst ML
 refine Ac (Ck (Ac ?_))
 by_cases aX:i<l2.length
 ·have dD:l2.drop i=l2[i]::l2.drop (i+1):=A5 aX
  rw[dD,Ds]at eC
  refine T.bind (by rw[Bi,Aw aX];rfl) i0 fun us ms ai bR fT ff hlen cz aC=>?_
  refine aB t'.ns fun m' hn oN=>?_
  refine aJ (ti fT.length) fun u yg=>?_
  subst yg
  have gL:∀b o,s₀.heap.get? b=some o->b≠D/\b≠L/\b∉wr:=fun b o e=>⟨fun q=>nn ((q▸hDs).symm.trans e),fun q=>nn ((q▸hLs).symm.trans e),fun hb=>nn ((Sf b hb).symm.trans e)⟩
  refine AV (by simp[B8,Fb,aT]) [y] [u] _ _ rfl rfl (fun z hz=>by rw[Ae.mp hz];exact HY) (hn.at' fun o e=>aC _ o ye e) fun aq dj fV dm bB gm qz=>?_
  replace bB:Co L ai aq:=bB
  have gM:fV x=some (.str ⟨#[a]⟩ ta):=by rw[qz x (by simpa using sD)];exact oN _ rfl
  have bF:KG s₀ {s' with heap:=aq,toks:=dj}:=lg t'.k _ _ fun b o e=>bB b o (gL b o e).2.1 (aC b o (gL b o e).2.2 (zZ t'.k b o e))
  have gn:St (i+1) aq:=T.frame _ _ _ cz fun b hb o e=>bB b o (fun q=>ur (q▸hb)) e
  have gN:aq.PlainList D jr.toArray:=t'.pl.at fun o e=>bB D o hD (aC D o yf e)
  have js:ak aq iK jr []:=t'.vs.on fun a ha=>nomatch ha
  refine cX (fT.get (i:=0) rfl) fun vv nv qZ ra _=>?_
  obtain rfl:=Aa qZ
  have lT:=ON (L:=L) (m:=fV) (it:=[PV.str [a],PV.str [l2[i]]]) (vs:=[.str ⟨#[a]⟩ ta,u]) bg P bF dc dm (.cons gM gm) (ak.cons (VR.str [a] ta) (ak.one (ra.bS rfl))) rfl
  refine uP (zR9 eC) fun yv iJ e1 e2 e3 MN=>?_
  subst MN
  refine Ac (Ac (zE (br _ A _ _ _ yv lT e1) fun v cH dH=>?_))
  obtain⟨eN,ls,fS,_⟩:=dH
  obtain rfl:=fS.aD e2
  have up:Sub aq cH.heap:=zZ eN
  have tP:jr.length<=ag:=by
   have h1:=t'.vs.length
   have h2:qs.length+ps.length=iK.length+(yv::iJ).length:=by rw[<-Ah,<-Ah,gU]
   rw[h1]
   simp only[Cf]at h2
   omega
  refine Ac (Fe (hsz:=by unfold ag at tP;rw[Bm];simp;omega) (gN.at fun o e=>up D o e) fun et fg dk=>Ak ?_)
  refine Ak ⟨rfl,l2.length+1-(i+1),iI aX,i+1,iK++[yv],jr++[v],iJ,rfl,aX,?_,⟨?_,?_,?_,?_,?_⟩,e3,by rw[gU];simp⟩
  ·exact T.frame _ _ _ gn fun b hb o e=>dk.extBut b o (fun q=>yd (q▸hb)) (up b o e)
  ·obtain⟨h',t',g',rfl,kk,x⟩:=zI bF eN
   exact⟨et,t',g',rfl,fun b o e=>dk.extBut b o (gL b o e).1 (kk b o e),x⟩
  ·simpa using fg
  ·have r6:VR et yv v []:=fS.on fun a ha=>nomatch ha
   have:=ak.append (js.on (h':=et) fun a ha=>nomatch ha) (ak.one r6)
   simpa using this
  ·exact⟨fV,(dm.keeps up).sameBut dk (Ir hD),fun v e=>Aa e▸gM⟩
  ·intro b o tX su Sh e
   exact dk.extBut b o tX (up b o (bB b o su (aC b o Sh (t'.kp b o tX su Sh e))))
 ·have lj:i=l2.length:=Ic hi (Cg aX)
  subst lj
  rw[Hs]at eC
  obtain rfl:=Aa eC
  refine T.done _ _ _ (by rw[An];exact i0) fun ai bR aC=>Ak ?_
  have gL:∀b o,s₀.heap.get? b=some o->b∉wr:=fun b o e hb=>nn ((Sf b hb).symm.trans e)
  refine aB t'.ns fun m' hn oN=>?_
  rw[Bv]at gU
  refine hR _ jr ⟨lg t'.k _ _ fun b o e=>aC b o (gL b o e) (zZ t'.k b o e),t'.pl.at fun o e=>aC D o yf e,?_,⟨m',hn.at' fun o e=>aC _ o ye e,oN⟩,fun b o h1 h2 h3 e=>aC b o h3 (t'.kp b o h1 h2 h3 e)⟩
  rw[gU]
  exact t'.vs.on fun a ha=>nomatch ha
theorem zMg(a:Nat)(l1 l2:List Nat):o6 (a::l1) l2=(l2.map fun b=> [PV.str [a],PV.str [b]])++o6 l1 l2:=rfl
theorem zT1{elt it1:Expr}{x y:Str}{px py:Bz}{l1 l2:List Nat}{k2:Nat}{q2:Bz}{scope:Scope}{pos:Bz}{pe:PE}{env:Dv}{A:Al}{E:Value->Ab->Prop}{σ:List (Option PV)}{s s₂:Ab}{cl:List (Str×Addr)}
  {I:Addr} {fp wr:List Addr} {St:Nat->Ap->Prop} {ps:List PV} {RR:Value->Addr->D3->Ab->Prop}
  (bg:kc C scope [x,y]=true) (P:Pre W C env A σ s) (dc:∀x c,env.cells.lookup x=some c->(x,Cd)∈scope.names->cl.lookup x=some c)
  (br:av W (C.dZ scope [x,y]) elt pe) (sD:x≠y)
  (aH:KG s s₂) (d0:∀b∈wr,s.heap.get? b=none) (cR:∀b∈fp,∃o,s₂.heap.get? b=some o) (T:dy W.prog W.w A (.Name x px) [x] I fp wr (l1.map fun c=> [PV.str [c]]) St) (st:St 0 s₂.heap)
  (run:zQ (lF W.U pe σ) (o6 l1 l2)=some ps) (hsz:ps.length<=ag)
  (gk:∀D L s' ns m',s.heap.get? L=none->KG s s'->s'.heap.Ns L m'->VR s'.heap (.list ps) (.ref D) ns->wL s.heap ns->L∉ns->RR (.ref D) L (.ok .next) s'):
  Am (Af W.prog W.w) A (Lr []) (fun acc ao=>Am (Af W.prog W.w) A (Gb scope env.globals cl [] env.qual none .none (some env)) (fun bh aS=>
   Ca (Af W.prog W.w) A (.compStart (gY elt it1 x y px py ⟨l2.toArray⟩ k2 q2 scope pos) 0 (.ref I) acc {bh with scope:=Fb scope env}) (RR acc bh.locals) aS) E ao) E s₂:=by
 have aT:scope.kind= .function:=eq_of_beq (bA (bA (bA (bA bg).1).1).1).1
 have aR:∀y∈scope.names,y.2≠ .cell:=fun y hy=>bne_iff_ne.mp (bA (bA (Ao.mp (bA bg).2 y hy)).1).1
 refine Cb (E5 aR (by intro y hy;simp at hy) (fun ah dI dp=>?_) aT)
 dsimp only at dI dp⊢
 generalize MO:s₂.heap.push {cls:= .type "list",dict:=none,data:= .seq ([]:List Value).toArray}=H2 at dI dp⊢
 have hC:H2.objs.size=s₂.heap.objs.size+1:=by rw[<-MO,Eu]
 have MP:s₂.heap.objs.size≠H2.objs.size:=by rw[hC];exact Bo (Bj _)
 generalize hD:s₂.heap.objs.size=D at*
 generalize hL:H2.objs.size=L at*
 have new:∀a,D<=a->s₂.heap.get? a=none:=fun a ha=>by
  cases e:s₂.heap.get? a with
  |none=>rfl
  |some o'=>exact absurd (Bk e) (Es.mpr (hD▸ha))
 have newD:s₂.heap.get? D=none:=new D (Br _)
 have cu:s₂.heap.get? L=none:=new L (by omega)
 have back:∀a,s₂.heap.get? a=none->s.heap.get? a=none:=fun a ha=>by
  cases e:s.heap.get? a with
  |none=>rfl
  |some o=>exact nn (ha.symm.trans (zZ aH a o e))
 have yd:D∉fp:=fun hm=>aJ (cR _ hm) fun o e=>nn (newD.symm.trans e)
 have ur:L∉fp:=fun hm=>aJ (cR _ hm) fun o e=>nn (cu.symm.trans e)
 have old:∀b o,s₂.heap.get? b=some o->ah.get? b=some o:=fun b o e=>by
  have hb:b≠L:=fun q=>nn ((q▸cu).symm.trans e)
  exact dp.extBut b o hb (Ag _ (MO▸Ag _ e))
 have wi:H2.get? D=some {cls:= .type "list",dict:=none,data:= .seq ([]:List Value).toArray}:=by rw[<-MO,<-hD];exact Av _ rfl
 have dq:ah.PlainList D ([]:List Value).toArray:=⟨_,dp.extBut _ _ MP (Ag _ wi)⟩
 have i7:(B8 scope cl L env).kindOf x=some .local:=Ga (eq_of_beq (Ao.mp (bA (bA (bA bg).1).1).2 x (.head _)))
 have ye:L∉wr:=fun h=>ur (T.sub _ h)
 have yf:D∉wr:=fun h=>yd (T.sub _ h)
 have gL:∀b o,s.heap.get? b=some o->b≠D/\b≠L/\b∉wr:=fun b o e=>⟨fun q=>nn ((q▸back _ newD).symm.trans e),fun q=>nn ((q▸back _ cu).symm.trans e),fun hb=>nn ((d0 b hb).symm.trans e)⟩
 have loop:∀ao:Ab,ao={s₂ with heap:=ah,toks:=s₂.toks+([]:List (Str×Value)).length}->
   Ca (Af W.prog W.w) A (.compLoop (gY elt it1 x y px py ⟨l2.toArray⟩ k2 q2 scope pos) 0 (.ref I) (.ref D) (B8 scope cl L env)) (RR (.ref D) L) ao:=by
  rintro ao rfl
  refine codeAny_loop rfl (fun n s'=>∃i iK jr rest,n=l1.length+1-i/\i<=l1.length/\St i s'.heap/\yc s D L x none iK jr s.heap [] s'/\zQ (lF W.U pe σ) (o6 (l1.drop i) l2)=some rest/\ps=iK++rest)
   (fun n s' hI=>?_) (l1.length+1) ⟨0,[],[],ps,rfl,C0 _,T.frame _ _ _ st fun b _ o e=>old b o e,⟨lg aH _ _ (fun b o e=>old b o (zZ aH b o e)),dq, .nil,⟨_,dI,fun v e=>nomatch e⟩,fun b o _ _ _ e=>old b o (zZ aH b o e)⟩,run,rfl⟩
  show Am _ A ((Lq (gY elt it1 x y px py ⟨l2.toArray⟩ k2 q2 scope pos) 0 (.ref I) (.ref D) (B8 scope cl L env)).onRaise (fun x=>do Hr x (B8 scope cl L env);E2 x)) _ _ s'
  refine Kl ?_
  rw[zI6]
  refine uS hI fun i iK jr rest ML hi i0 t' eC gU=>?_
  subst ML
  refine Ac (Ck (Ac ?_))
  by_cases aX:i<l1.length
  ·have dD:l1.drop i=l1[i]::l1.drop (i+1):=A5 aX
   rw[dD,zMg]at eC
   refine cX (MJ eC) fun p1 p2 r1 r2 MN=>?_
   subst MN
   refine T.bind (by rw[Bi,Aw aX];rfl) i0 fun us ms ai bR fT ff hlen cz aC=>?_
   refine aB t'.ns fun m' hn oN=>?_
   refine aJ (ti fT.length) fun u yg=>?_
   subst yg
   refine AV (by simp[B8,Fb,aT]) [x] [u] _ _ rfl rfl (fun z hz=>by rw[Ae.mp hz];exact i7) (hn.at' fun o e=>aC _ o ye e) fun aq dj fV dm bB gm qz=>?_
   replace bB:Co L ai aq:=bB
   have bF:KG s {s' with heap:=aq,toks:=dj}:=lg t'.k _ _ fun b o e=>bB b o (gL b o e).2.1 (aC b o (gL b o e).2.2 (zZ t'.k b o e))
   have gn:St (i+1) aq:=T.frame _ _ _ cz fun b hb o e=>bB b o (fun q=>ur (q▸hb)) e
   have gN:aq.PlainList D jr.toArray:=t'.pl.at fun o e=>bB D o MP (aC D o yf e)
   have js:ak aq iK jr []:=t'.vs.on fun a ha=>nomatch ha
   refine cX (fT.get (i:=0) rfl) fun vv nv qZ ra _=>?_
   obtain rfl:=Aa qZ
   refine aB ra.inv fun tu yg _=>?_
   subst yg
   have gM:=gm.get (j:=0) rfl rfl
   refine Ac (Dp (Ac (Ck (Ac (B3 (wU rfl _ _) (Ac (D9 ?_)))))))
   refine zE (AZ (W:=W) (x:=y) (px:=py) (A:=A) (s:={s' with heap:=aq,toks:=dj}) (l:=l2) P.room.hh (du _ _) (.str l2 _)) fun itv aS aU=>?_
   obtain⟨I2,fp2,wr2,St2,rfl,cf,yh,aac,T2,Si,yi⟩:=aU
   have up:Sub aq aS.heap:=zZ cf
   have hDe:∃o,aq.get? D=some o:=let⟨n,e⟩:=gN;⟨_,e⟩
   have hLe:∃o,aq.get? L=some o:=let⟨o,_,_,e,_⟩:=dm;⟨o,e⟩
   have inner:=zR5 (elt:=elt) (it1:=it1) (px:=px) (k2:=k2) (q2:=q2) (pos:=pos) (s2:=⟨l2.toArray⟩) (R:=fun r s'=>match r with
     | .ok f=>Am (Af W.prog W.w) A (again (.compLoop (gY elt it1 x y px py ⟨l2.toArray⟩ k2 q2 scope pos) 0 (.ref I) (.ref D) (B8 scope cl L env))) (fun fin s'=>match fin with
      | .done f=>RR (.ref D) L (.ok f) s'
      | .again c'=>c'= .compLoop (gY elt it1 x y px py ⟨l2.toArray⟩ k2 q2 scope pos) 0 (.ref I) (.ref D) (B8 scope cl L env)/\∃m,m<l1.length+1-i/\∃i iK jr rest,m=l1.length+1-i/\i<=l1.length/\St i s'.heap/\yc s D L x none iK jr s.heap [] s'/\zQ (lF W.U pe σ) (o6 (l1.drop i) l2)=some rest/\ps=iK++rest)
      (Fv (Af W.prog W.w) A (B8 scope cl L env) fun e s'=>RR (.ref D) L (.error e) s') s'
     | .error e=>cameBackBy (Af W.prog W.w) A (B8 scope cl L env) (Fv (Af W.prog W.w) A (B8 scope cl L env) fun e s'=>RR (.ref D) L (.error e) s') e s')
    (ys:=jr) (qs:=iK) (ps:=p1) bg P dc br sD T2 Si MP (back _ newD) (back _ cu) (fun b hb=>by
     cases e:s.heap.get? b with
     |none=>rfl
     |some o=>exact nn ((yh b hb).symm.trans (zZ bF b o e))) (fun hm=>aJ hDe fun o e=>nn ((yi _ hm).symm.trans e)) (fun hm=>aJ hLe fun o e=>nn ((yi _ hm).symm.trans e))
    ⟨zI bF cf,gN.at fun o e=>up D o e,js.on (fun a ha=>nomatch ha),⟨fV,dm.keeps up,fun v e=>Aa e▸gM⟩,fun b o _ _ _ e=>e⟩ r1 (by
     have h2:ps.length=iK.length+(p1++p2).length:=by rw[gU,Ah]
     rw[Ah]at h2
     omega) ?_
   ·exact Ac (wpAny_runOwn (zIc inner (T2.self 0 _ _ _ Si inner)))
   ·intro cH vs kL
    refine Ak ⟨rfl,l1.length+1-(i+1),iI aX,i+1,iK++p1,vs,p2,rfl,aX,?_,⟨kL.k,kL.pl,kL.vs,?_,fun b o h1 h2 h3 e=>zZ kL.k b o e⟩,r2,by rw[gU,Bf]⟩
    ·exact T.frame _ _ _ gn fun b hb o e=>kL.kp b o (fun q=>yd (q▸hb)) (fun q=>ur (q▸hb)) (fun hw=>nn ((yh b hw).symm.trans e)) (up b o e)
    ·exact aB kL.ns fun m h1 _=>⟨m,h1,fun v e=>nomatch e⟩
  ·have lj:i=l1.length:=Ic hi (Cg aX)
   subst lj
   rw[Hs]at eC
   obtain rfl:=Aa eC
   refine T.done _ _ _ (by rw[An];exact i0) fun ai bR aC=>Ak ?_
   refine aB t'.ns fun m' hn oN=>?_
   rw[Bv]at gU
   subst gU
   have jC:=hn.at' fun o e=>aC _ o ye e
   have ba:VR ai (.list ps) (.ref D) [D]:= .list (t'.pl.at fun o e=>aC D o yf e) (t'.vs.on fun a ha=>nomatch ha)
   refine gk D L _ [D] m' (back _ cu) (lg t'.k _ _ fun b o e=>aC b o (gL b o e).2.2 (zZ t'.k b o e)) jC ba ⟨by simp,fun a ha=>?_⟩ (ba.i8 jC)
   rw[Ae.mp ha]
   exact back _ newD
 exact Hd (loop _ rfl) (T.self 0 _ _ _ (T.frame _ _ _ st fun b _ o e=>old b o e) (loop _ rfl))
theorem zWl{elt:Expr}{x y:Str}{px py:Bz}{l1 l2:List Nat}{k1 k2:Nat}{q1 q2:Bz}{scope:Scope}{pos:Bz}{pe:PE}(bg:kc C scope [x,y]=true)(sD:x≠y)(br:av W (C.dZ scope [x,y]) elt pe)
  {env:Dv} {A:Al} {E:Value->Ab->Prop} {s:Ab} {σ:List (Option PV)} {ps:List PV} (P:Pre W C env A σ s) (run:zQ (lF W.U pe σ) (o6 l1 l2)=some ps) (hsz:ps.length<=ag):
  Am (Af W.prog W.w) A (eval (gY elt (.Constant (.str ⟨l1.toArray⟩) k1 q1) x y px py ⟨l2.toArray⟩ k2 q2 scope pos) env) (Got s true (.list ps)) E s:=by
 obtain⟨aT,cJ,k9⟩:=GO (C:=C) (scope:=scope) (xs:=[x,y]) (by unfold n9;rw[bg];rfl)
 obtain⟨cl,fh,dc⟩:=AU (scope:=scope) (env:=env) fun y hy hf=>by
  rcases k9 y hy hf with e|e
  ·exact P.eT _ _ e (.inl rfl)
  ·exact P.eT _ _ e (.inr rfl)
 rw[K8]
 refine E7 (use:=none) rfl (fun u=>wU rfl env u) fh aT cJ (Dp (k:=k1) (pos:=q1) (zE (AZ (W:=W) (x:=x) (px:=px) (s:=s) (l:=l1) P.room.hh (du s _) (.str l1 _)) fun it s₂ ai=>?_))
 obtain⟨I,fp,wr,St,rfl,aH,d0,cR,T,st,_⟩:=ai
 refine zT1 (RR:=fun acc L=>compPost (Af W.prog W.w) A E none (Got s true (.list ps)) acc L) bg P dc br sD aH d0 cR T st run hsz ?_
 intro D L s' ns m' hL k hn r hf rb
 refine⟨m',hn,fun h' dg=>?_⟩
 have kk:KG s {s' with heap:=h'}:=by
  obtain⟨h0,t0,g0,rfl,kk,x⟩:=k
  exact⟨h',t0,g0,rfl,fun b o e=>dg.extBut b o (by rintro rfl;rw[hL]at e;cases e) (kk b o e),x⟩
 exact⟨kk,ns,r.on fun a ha o e=>dg.extBut a o (fun q=>rb (q▸ha)) e,fun _=>hf⟩
noncomputable def Sj(U:Uc)(pe:PE)(l1 l2:List Nat):dr:=fun g=>(zQ (lF U pe g.σ) (o6 l1 l2)).bind fun ps=>if ps.length<=ag then some (g, .list ps)else none
theorem wV.two{X:Ctx}{tv dv:List Nat}{elt:Expr}{x y:Str}{px py:Bz}{l1 l2:List Nat}{k1 k2:Nat}{q1 q2:Bz}{scope:Scope}{pos:Bz}{pe:PE}(bg:kc X.C scope [x,y]=true)(sD:x≠y)(br:av X.W (X.C.dZ scope [x,y]) elt pe):
  wV X tv dv true (gY elt (.Constant (.str ⟨l1.toArray⟩) k1 q1) x y px py ⟨l2.toArray⟩ k2 q2 scope pos) (Sj X.W.U pe l1 l2):=fun K env A E s₀ g N F s g' p T e=>by
 obtain⟨ps,e1,e2⟩:=wO e
 split at e2
 ·next hsz=>
  cases e2
  refine zE (zWl bg sD br T.pre e1 hsz) fun v aa ah=>?_
  obtain⟨k,ns,r,f⟩:=ah
  exact⟨N,F,ns,T.kg k,r,T.held (f rfl)⟩
 ·cases e2
noncomputable def DB(U:Uc)(pe:PE):dr:=fun g=>(ev U pe g.σ).bind fun p=>if fresh pe p then some (g, .list [p])else none
theorem wV.nest{X:Ctx}{tv dv:List Nat}{a:Expr}{pe:PE}{pos:Bz}(bY:yT a=true)(h:av X.W X.C a pe):wV X tv dv true (.List [a] pos) (DB X.W.U pe):=fun K env A E s₀ g N F s g' p T e=>by
 obtain⟨q,e1,e2⟩:=wO e
 split at e2
 ·next hf=>
  cases e2
  refine List_ ?_
  rw[zF bY [] env]
  refine Ba (zE (h env A E s g.σ q T.pre e1) fun v aa ah=>B7 ?_)
  obtain⟨k,ns,r,f⟩:=ah
  have f:=f hf
  refine Cb ?_ (by show 1<=sizeLine;rw[Bm];decide)
  refine⟨N,F,aa.heap.objs.size::ns,(T.kg k).kg (pJ _ _ _),?_,T.held ⟨Dl.mpr ⟨fun hm=>?_,f.nodup⟩,fun a ha=>?_⟩⟩
  ·have:=VR.gf (ak.one r)
   exact this
  ·obtain⟨o,e⟩:=r.bU _ hm
   rw[FZ]at e;cases e
  ·rcases Ax.mp ha with rfl|ha
   ·exact ni (zZ k) (FZ _)
   ·exact f.new a ha
 ·cases e2
end
noncomputable abbrev PB:Program:=PySem.Challenge.pw_uc0011_02
noncomputable def bj:Tab:=[("len", .bi 0),("sum", .bi 1),("min", .bi 2),("abs", .bi 4),("range", .ty "range"),("list", .ty "list"),("enumerate", .ty "enumerate"),("zip", .ty "zip"),("_MOVE_COST", .int 2),("_CASE_COST", .int 1),("_MAX_STRING_SIZE", .int 40),
 ("_substitution_cost", .fn 0),("_levenshtein_distance", .fn 1),("_strip_quoted_realnames", .fn 2),("_check_parenthesis", .fn 3),("quotedata", .fn 4),("_law_spelled", .fn 5)]
noncomputable def aF(i:Nat):Cx:=xY (lz PB i) (PI PB i)
noncomputable def DC(p:Program)(i j:Nat):Option Stmt:=(vP p i).bind fun st=>bH (st.ctorIdx=2) fun h=>Stmt.ClassDef.elim (motive_2:=fun _=>Option Stmt) st h fun _ _ _ b _ _ _ _ _ _ _=>b[j]?
noncomputable def Sk(p:Program)(i j:Nat):List Stmt:=p9 (DC p i j) [] fun _ _ b _=>b
noncomputable def qA(p:Program)(i j:Nat):Scope:=p9 (DC p i j) default fun _ _ _ s=>s
noncomputable def yj(p:Program)(i j:Nat):Arguments:=p9 (DC p i j) ⟨[],[],none,[],[],none,[]⟩ fun _ a _ _=>a
noncomputable def yk(p:Program)(i j:Nat):Str:=p9 (DC p i j) "" fun n _ _ _=>n
noncomputable def eR(p:Program)(h:Ap)(a:Addr)(i:Nat):Prop:=lu h a (vR p i) (vQ p i) (yO p i) (lz p i)
noncomputable def DD(p:Program)(h:Ap)(a:Addr)(i j:Nat)(qual:Str):Prop:=lA h a (yk p i j) qual (yj p i j) (Sk p i j) (qA p i j)
theorem lA.sub{h h':Ap}{a:Addr}{name qual:Str}{params:Arguments}{body:List Stmt}{scope:Scope}(x:lA h a name qual params body scope)(k:Sub h h'):lA h' a name qual params body scope:=by
 obtain⟨o,pm,cd,doc,e1,e2,e3,e4⟩:=x
 exact⟨o,pm,cd,doc,k _ _ e1,e2,e3,e4.keeps k⟩
structure fX(mg mb:Str->Option Value)(h:Ap):Prop where
 g:h.Ns mainGlobals mg
 b:h.Ns builtinsNs mb
 lim:h.NoLimit
 yl:eR PB h 125 17
 ym:eR PB h 132 18
 uu:eR PB h 45 3
 yn:eR PB h 52 4
 yo:eR PB h 59 5
 mF:eR PB h 118 12
 mG:eR PB h 139 20
 mH:eR PB h 144 21
 kM:eR PB h 149 22
 cls:fQ h 97 96 73 80 87 94
 DE:DD PB h 73 7 0 "_netrclex.__init__"
 yp:DD PB h 80 7 1 "_netrclex._read_char"
 yr:DD PB h 87 7 2 "_netrclex.get_token"
 o7:my h 106 ec
 o8:my h 111 cy
 code:∃o fd,h.get? 139=some o/\o.data= .func fd/\fd.code= .ref 138
 hd:L7 h 138 134
 bm:h.BuiltinsAt mg 134
theorem L7.up{h h':Ap}{c P:Addr}(x:L7 h c P)(k:Sub h h'):L7 h' c P:=by
 obtain⟨o,vs,file,tf,flags,tg,MQ,text,tt,e,r⟩:=x
 exact⟨o,vs,file,tf,flags,tg,MQ,text,tt,k _ _ e,r⟩
theorem fX.sub{mg mb:Str->Option Value}{h h':Ap}(x:fX mg mb h)(k:Sub h h'):fX mg mb h' where
 g:=x.g.keeps k
 b:=x.b.keeps k
 lim:=x.lim.keeps k
 yl:=x.yl.sub k
 ym:=x.ym.sub k
 uu:=x.uu.sub k
 yn:=x.yn.sub k
 yo:=x.yo.sub k
 mF:=x.mF.sub k
 mG:=x.mG.sub k
 mH:=x.mH.sub k
 kM:=x.kM.sub k
 cls:=x.cls.keeps k
 DE:=x.DE.sub k
 yp:=x.yp.sub k
 yr:=x.yr.sub k
 o7:=x.o7.sub k
 o8:=x.o8.sub k
 code:=by obtain⟨o,fd,e,r⟩:=x.code;exact⟨o,fd,k _ _ e,r⟩
 hd:=L7.up x.hd k
 bm:=by obtain⟨bm,o,e1,e2,e3,e4,e5,r⟩:=x.bm;exact⟨bm,o,e1,e2,e3,e4,k _ _ e5,r⟩
structure jM(mg mb:Str->Option Value):Prop where
 i1:∃t,mg "_MOVE_COST" =some (.int 2 t)
 i2:∃t,mg "_CASE_COST" =some (.int 1 t)
 i3:∃t,mg "_MAX_STRING_SIZE" =some (.int 40 t)
 f0:mg "_substitution_cost" =some (.ref 125)
 f1:mg "_levenshtein_distance" =some (.ref 132)
 f2:mg "_strip_quoted_realnames" =some (.ref 52)
 f3:mg "_check_parenthesis" =some (.ref 59)
 f4:mg "quotedata" =some (.ref 118)
 f5:mg "_iter_escaped_chars" =some (.ref 45)
 f6:mg "_law_lexer" =some (.ref 139)
 f7:mg "_netrclex" =some (.ref 97)
 r1:mg "_twin_re_1" =some (.ref 106)
 r2:mg "_twin_re_2" =some (.ref 111)
 f8:mg "_law_spelled" =some (.ref 144)
 f9:mg "_law_least" =some (.ref 149)
 crlf:∃t,mg "CRLF" =some (.str ⟨#[13,10]⟩ t)
 no:∀x∈(["len", "sum", "min", "abs", "range", "list", "enumerate", "zip", "iter"]:List Str),mg x=none
 yt:mb "len" =some (.builtin (n5 0))
 yu:mb "sum" =some (.builtin (n5 1))
 yw:mb "min" =some (.builtin (n5 2))
 yx:mb "abs" =some (.builtin (n5 4))
 mI:mb "range" =some (.type "range")
 mJ:mb "list" =some (.type "list")
 mM:mb "enumerate" =some (.type "enumerate")
 yy:mb "zip" =some (.type "zip")
 qB:mb "iter" =some (.builtin "iter")
noncomputable def sE(k:Nat):Addr:=([125,132,52,59,118,144]:List Addr).getD k 0
noncomputable def DH(w:Cn){mg mb:Str->Option Value}:bu where
 prog:=PB
 w:=w
 Wd:=fX mg mb
 mono:=fun x k=>x.sub k
 mg:=mg
 mb:=mb
 g:=fun x=>x.g
 b:=fun x=>x.b
 D:=0
 U:=fun _ _=>none
 iY:=sE
 nU:=fun k h _=>by obtain⟨_,_,e⟩:=h;exact nn e
 call:=fun k A s ps vs ns r _ _ _ e=>by exact nn e
noncomputable def bu.add(W:bu)(n:Nat)(f:List PV->Option PV)(MR:∀{h:Ap},W.Wd h->∃o fd,h.get? (W.iY n)=some o/\o.data= .func fd)
  (l7:∀(A:Al) (s:Ab) (ps:List PV) (vs:List Value) (ns:List Addr) (r:PV),wH (W.D+1) A->W.Wd s.heap->ak s.heap ps vs ns->f ps=some r->
   Ca (Af W.prog W.w) A (.call (.ref (W.iY n)) ⟨vs,[]⟩) (fun res s'=>∃v ms,res= .ok (.ret v)/\KG s s'/\VR s'.heap r v ms) s):bu:=
 {W with
  D:=W.D+1
  U:=fun k ps=>if k=n then f ps else W.U k ps
  nU:=fun {h} k hu hw=>by
   refine gc hu fun ps r e=>?_
   by_cases hk:k=n
   ·subst hk;exact MR hw
   ·simp only[if_neg hk]at e
    exact W.nU k ⟨ps,r,e⟩ hw
  call:=fun k A s ps vs ns r hr hw hv e=>by
   by_cases hk:k=n
   ·subst hk
    simp only[if_true]at e
    exact l7 A s ps vs ns r hr hw hv e
   ·simp only[if_neg hk]at e
    exact W.call k A s ps vs ns r (hr.less rfl) hw hv e}
noncomputable def lG(f:Den)(C:Cx)(n:Nat)(ps:List PV):Option PV:=if ps.length=n then(match f (ey C ps none)with
 |some (_, .ret r)=>some r
 |_=>none)else none
theorem yz{f:Den}{C:Cx}{n:Nat}{ps:List PV}{r:PV}(h:lG f C n ps=some r):ps.length=n/\∃g',f (ey C ps none)=some (g', .ret r):=by
 refine oI h fun hl h=>?_
 refine cj hl ?_
 cases e:f (ey C ps none)with
 |none=>rw[e]at h;exact nn h
 |some q=>
  rw[e]at h
  obtain⟨g',fl⟩:=q
  cases fl with
  |ret r=>obtain rfl:=Aa h;exact⟨_,rfl⟩
  |_=>exact nn h
noncomputable def eW:tQ:=⟨fun _ _ _ _=>False,fun h _=>h,fun h=>h.elim⟩
noncomputable def DI:ea:=(.cons (.ifs (.cmp .Eq (.var 0) (.var 1)) (.cons (.ret (.lit (.int 0))) .nil) .nil) (.cons (.ifs (.cmp .Eq (.me 1 (.var 0) .nil) (.me 1 (.var 1) .nil)) (.cons (.ret (.lit (.int 1))) .nil) .nil) (.cons (.ret (.lit (.int 2))) .nil)))
noncomputable def y0:ea:=(.cons (.ifs (.cmp .Eq (.var 0) (.var 1)) (.cons (.ret (.lit (.int 0))) .nil) .nil) (.cons (.assign 3 (.lit (.int 0))) (.cons (.ox (.and (.cons (.eG (.bD (.var 0) (.yes (.var 3)) .no .no)) (.cons (.eG (.bD (.var 1) (.yes (.var 3)) .no .no)) (.cons (.cmp .Eq (.idx (.var 0) (.var 3)) (.idx (.var 1) (.var 3))) .nil)))) (.cons (.aug .Add 3 (.lit (.int 1))) .nil)) (.cons (.assign 0 (.bD (.var 0) (.yes (.var 3)) .no .no)) (.cons (.assign 1 (.bD (.var 1) (.yes (.var 3)) .no .no)) (.cons (.assign 4 (.lit (.int 0))) (.cons (.ox (.and (.cons (.eG (.bD (.var 0) .no (.yes (.gA (.var 4) (.lit .none))) .no)) (.cons (.eG (.bD (.var 1) .no (.yes (.gA (.var 4) (.lit .none))) .no)) (.cons (.cmp .Eq (.idx (.var 0) (.bin .Sub (.var 4) (.lit (.int 1)))) (.idx (.var 1) (.bin .Sub (.var 4) (.lit (.int 1))))) .nil)))) (.cons (.aug .Sub 4 (.lit (.int 1))) .nil)) (.cons (.assign 0 (.bD (.var 0) .no (.yes (.gA (.var 4) (.lit .none))) .no)) (.cons (.assign 1 (.bD (.var 1) .no (.yes (.gA (.var 4) (.lit .none))) .no)) (.cons (.ifs (.or (.cons (.not (.eG (.var 0))) (.cons (.not (.eG (.var 1))) .nil))) (.cons (.ret (.bin .Mult (.lit (.int 2)) (.bin .Add (.bi 0 (.cons (.var 0) .nil)) (.bi 0 (.cons (.var 1) .nil))))) .nil) .nil) (.cons (.ifs (.or (.cons (.cmp .Gt (.bi 0 (.cons (.var 0) .nil)) (.lit (.int 40))) (.cons (.cmp .Gt (.bi 0 (.cons (.var 1) .nil)) (.lit (.int 40))) .nil))) (.cons (.ret (.bin .Add (.var 2) (.lit (.int 1)))) .nil) .nil) (.cons (.ifs (.cmp .Lt (.bi 0 (.cons (.var 1) .nil)) (.bi 0 (.cons (.var 0) .nil))) (.cons (.swap 0 1 (.var 1) (.var 0)) .nil) .nil) (.cons (.ifs (.cmp .Gt (.bin .Mult (.bin .Sub (.bi 0 (.cons (.var 1) .nil)) (.bi 0 (.cons (.var 0) .nil))) (.lit (.int 2))) (.var 2)) (.cons (.ret (.bin .Add (.var 2) (.lit (.int 1)))) .nil) .nil) (.cons (.assign 5 (.bi 5 (.cons (.lit (.int 2)) (.cons (.bin .Mult (.lit (.int 2)) (.bin .Add (.bi 0 (.cons (.var 0) .nil)) (.lit (.int 1)))) (.cons (.lit (.int 2)) .nil))))) (.cons (.assign 6 (.lit (.int 0))) (.cons (.forR 7 (.bi 0 (.cons (.var 1) .nil)) (.cons (.assign 8 (.idx (.var 1) (.var 7))) (.cons (.cZ 9 6 (.bin .Mult (.var 7) (.lit (.int 2)))) (.cons (.assign 10 (.lit (.int 9223372036854775807))) (.cons (.forR 11 (.bi 0 (.cons (.var 0) .nil)) (.cons (.assign 12 (.bin .Add (.var 9) (.uc 0 (.cons (.var 8) (.cons (.idx (.var 0) (.var 11)) .nil))))) (.cons (.assign 9 (.idx (.var 5) (.var 11))) (.cons (.assign 13 (.bin .Add (.bi 3 (.cons (.var 6) (.cons (.var 9) .nil))) (.lit (.int 2)))) (.cons (.assign 6 (.bi 3 (.cons (.var 13) (.cons (.var 12) .nil)))) (.cons (.set 5 (.var 11) (.var 6)) (.cons (.ifs (.cmp .Lt (.var 6) (.var 10)) (.cons (.assign 10 (.var 6)) .nil) .nil) .nil))))))) (.cons (.ifs (.cmp .Gt (.var 10) (.var 2)) (.cons (.ret (.bin .Add (.var 2) (.lit (.int 1)))) .nil) .nil) .nil)))))) (.cons (.ret (.var 6)) .nil)))))))))))))))))
noncomputable def DJ:PS:=(.ifs (.cmp .NotIn (.lit (.str [34])) (.var 0)) (.cons (.ret (.var 0)) .nil) .nil)
noncomputable def DK:PS:=(.assign 1 (.lit (.int 0)))
noncomputable def DM:PS:=(.assign 2 (.lit .none))
noncomputable def DN:PS:=(.assign 3 (.list .nil))
noncomputable def y6:PS:=(.ifs (.cmp .Lt (.var 1) (.bi 0 (.cons (.var 0) .nil))) (.cons (.append 3 (.bD (.var 0) (.yes (.var 1)) .no .no)) .nil) .nil)
noncomputable def DO:PS:=(.ret (.me 0 (.lit (.str [])) (.cons (.var 3) .nil)))
noncomputable def qC:ea:=(.cons (.ifs (.cmp .Eq (.var 5) (.lit (.str [34]))) (.cons (.ifs (.cmp .Is (.var 2) (.lit .none)) (.cons (.assign 2 (.var 4)) .nil) (.cons (.ifs (.cmp .NotEq (.var 1) (.var 2)) (.cons (.append 3 (.bD (.var 0) (.yes (.var 1)) (.yes (.var 2)) .no)) .nil) .nil) (.cons (.assign 1 (.bin .Add (.var 4) (.lit (.int 1)))) (.cons (.assign 2 (.lit .none)) .nil)))) .nil) .nil) .nil)
noncomputable def DP:PS:=(.assign 0 (.uc 2 (.cons (.var 0) .nil)))
noncomputable def DQ:PS:=(.assign 1 (.lit (.int 0)))
noncomputable def MS:PS:=(.ret (.cmp .Eq (.var 1) (.lit (.int 0))))
noncomputable def jt:ea:=(.cons (.ifs (.cmp .Eq (.var 3) (.lit (.str [40]))) (.cons (.aug .Add 1 (.lit (.int 1))) .nil) (.cons (.ifs (.cmp .Eq (.var 3) (.lit (.str [41]))) (.cons (.aug .Sub 1 (.lit (.int 1))) (.cons (.ifs (.cmp .Lt (.var 1) (.lit (.int 0))) (.cons (.ret (.lit (.bool false))) .nil) .nil) .nil)) .nil) .nil)) .nil)
noncomputable def DR:ea:=(.cons (.ret (.me 0 (.lit (.str [])) (.cons (.comp (.ite (.cmp .In (.var 2) (.var 1)) (.bin .Add (.lit (.str [92])) (.var 2)) (.var 2)) (.items (.var 0)) .nil) .nil))) .nil)
noncomputable def Sl(o:Option Stmt):List Stmt:=(o.bind fun st=>bH (st.ctorIdx=9) fun h=>Stmt.For.elim (motive_2:=fun _=>Option (List Stmt)) st h fun _ _ b _ _=>some b).getD []
theorem uv{C:Cx}{tv dv:List Nat}{b:List Stmt}{q:ea}(h:(cB (tab:=bj) C tv dv b).isSome=true)(e:(cB (tab:=bj) C tv dv b).elim .nil (·.1)=q)(X:Ctx)(hX:X.C=C)(ok:cM X.W bj):zO X tv dv tv dv b (zT X.W.U q):=vO h e X hX ok
theorem yX{C:Cx}{tv dv:List Nat}{st:Stmt}{q:PS}(h:(cS (tab:=bj) (cE 24) C tv dv 12 st).isSome=true)(e:(cS (tab:=bj) (cE 24) C tv dv 12 st).elim .pass (·.1)=q)(X:Ctx)(hX:X.C=C)(ok:cM X.W bj):zN X tv dv st (den X.W.U q):=vO h e X hX ok
theorem zZb(X:Ctx)(hX:X.C=aF 17)(ok:cM X.W bj):zO X [] [] [] [] (yO PB 17) (zT X.W.U DI):=uv (by decide+kernel) rfl X hX ok
theorem zZc(X:Ctx)(hX:X.C=aF 18)(ok:cM X.W bj):zO X [5] [] [5] [] (yO PB 18) (zT X.W.U y0):=uv (by decide+kernel) rfl X hX ok
theorem yAf(X:Ctx)(hX:X.C=aF 21)(ok:cM X.W bj):zO X [] [] [] [] (yO PB 21) (zT X.W.U DR):=uv (by decide+kernel) rfl X hX ok
theorem zW4(X:Ctx)(hX:X.C=aF 4)(ok:cM X.W bj):zN X [3] [] ((yO PB 4)[0]) (den X.W.U DJ):=yX (by decide+kernel) rfl X hX ok
theorem zWn(X:Ctx)(hX:X.C=aF 4)(ok:cM X.W bj):zN X [3] [] ((yO PB 4)[1]) (den X.W.U DK):=yX (by decide+kernel) rfl X hX ok
theorem zX5(X:Ctx)(hX:X.C=aF 4)(ok:cM X.W bj):zN X [3] [] ((yO PB 4)[2]) (den X.W.U DM):=yX (by decide+kernel) rfl X hX ok
theorem zV6(X:Ctx)(hX:X.C=aF 4)(ok:cM X.W bj):zN X [3] [] ((yO PB 4)[3]) (den X.W.U DN):=yX (by decide+kernel) rfl X hX ok
theorem zYb(X:Ctx)(hX:X.C=aF 4)(ok:cM X.W bj):zN X [3] [] ((yO PB 4)[5]) (den X.W.U y6):=yX (by decide+kernel) rfl X hX ok
theorem zXs(X:Ctx)(hX:X.C=aF 4)(ok:cM X.W bj):zN X [3] [] ((yO PB 4)[6]) (den X.W.U DO):=yX (by decide+kernel) rfl X hX ok
theorem zXe(X:Ctx)(hX:X.C=aF 4)(ok:cM X.W bj):zO X [3] [] [3] [] (Sl ((yO PB 4)[4]?)) (zT X.W.U qC):=uv (by decide+kernel) rfl X hX ok
theorem zXp(X:Ctx)(hX:X.C=aF 5)(ok:cM X.W bj):zN X [] [] ((yO PB 5)[0]) (den X.W.U DP):=yX (by decide+kernel) rfl X hX ok
theorem zWm(X:Ctx)(hX:X.C=aF 5)(ok:cM X.W bj):zN X [] [] ((yO PB 5)[1]) (den X.W.U DQ):=yX (by decide+kernel) rfl X hX ok
theorem zWd(X:Ctx)(hX:X.C=aF 5)(ok:cM X.W bj):zN X [] [] ((yO PB 5)[3]) (den X.W.U MS):=yX (by decide+kernel) rfl X hX ok
theorem zYo(X:Ctx)(hX:X.C=aF 5)(ok:cM X.W bj):zO X [] [] [] [] (Sl ((yO PB 5)[2]?)) (zT X.W.U jt):=uv (by decide+kernel) rfl X hX ok
theorem mO{W:bu}(G:jM W.mg W.mb)(hf:W.iY=sE):cM W bj:=fun x k h=>
 have q:∀{n:Nat} {s:Str},W.mg s=some (.ref (sE n))->W.mg s=some (.ref (W.iY n)):=fun e=>hf▸e
 (show ∀z∈bj,Pq W z.1 z.2 from
  fa (cj (G.no _ (by decide)) G.yt) (fa (cj (G.no _ (by decide)) G.yu) (fa (cj (G.no _ (by decide)) G.yw) (fa (cj (G.no _ (by decide)) G.yx) (fa (cj (G.no _ (by decide)) G.mI) (fa (cj (G.no _ (by decide)) G.mJ) (fa (cj (G.no _ (by decide)) G.mM) (fa (cj (G.no _ (by decide)) G.yy)
  (fa G.i1 (fa G.i2 (fa G.i3 (fa (q G.f0) (fa (q G.f1) (fa (q G.f2) (fa (q G.f3) (fa (q G.f4) (fa (q G.f8) dE))))))))))))))))) (x,k) (zS h)
theorem eR.obj{p:Program}{h:Ap}{a:Addr}{i:Nat}(x:eR p h a i):∃o fd,h.get? a=some o/\o.data= .func fd:=let⟨o,_,_,_,e1,e2,_⟩:=x;⟨o,_,e1,e2⟩
section
variable(w:Cn){mg mb:Str->Option Value}(G:jM mg mb)
include G in
theorem yDr:cM (DH w (mg:=mg) (mb:=mb)) bj:=mO G rfl
noncomputable def W1:bu:=(DH w (mg:=mg) (mb:=mb)).add 0 (lG (zT (fun _ _=>none) DI) (aF 17) 2) (fun {h} x=>eR.obj x.yl) fun A s ps vs ns r hr hw hv e=>by
 obtain⟨hl,g',hd⟩:=yz e
 refine gc (FG (hv.length.trans hl)) fun v1 v2 cw=>?_
 subst cw
 exact tV (tv:=[]) (dv:=[]) (X:=⟨DH w (mg:=mg) (mb:=mb),eW,aF 17⟩) rfl (by decide+kernel) hw.yl hw.lim hr hw (fun pm cd doc=>rfl) hv (by rw[hl];rfl) (fun i hi=>by simp at hi) (zZb _ rfl (yDr w G)) hd
noncomputable def W2:bu:=(W1 w G).add 1 (lG (zT (W1 w G).U y0) (aF 18) 3) (fun {h} x=>eR.obj x.ym) fun A s ps vs ns r hr hw hv e=>by
 obtain⟨hl,g',hd⟩:=yz e
 refine AF (N5 (hv.length.trans hl)) fun v1 v2 v3 gC=>?_
 subst gC
 exact tV (tv:=[5]) (dv:=[]) (X:=⟨W1 w G,eW,aF 18⟩) rfl (by decide+kernel) hw.ym hw.lim hr hw (fun pm cd doc=>rfl) hv (by rw[hl];rfl) (fun i hi=>by simp at hi;subst hi;decide) (zO.weak (zZc ⟨W1 w G,eW,aF 18⟩ rfl (mO G rfl)) rfl rfl) hd
end
theorem wS{C:Cx}{e:Expr}{q:PE}{r:RE bj C e}(h:r.isSome=true)(k:r.elim (.lit .none) (·.1)=q)(W:bu)(ok:cM W bj):av W C e q:=vO h k W ok
theorem uw{C:Cx}{e:Expr}{q:PT}{r:RT bj C e}(h:r.isSome=true)(k:r.elim (.eG (.lit .none)) (·.1)=q)(W:bu)(ok:cM W bj):di W C e q:=vO h k W ok
section
variable{w:Cn}{mg mb:Str->Option Value}
set_option maxHeartbeats 1000000 in
theorem Sm{W:bu}(G:jM W.mg W.mb)(hf:W.iY=sE)(hw:∀h,W.Wd h->fX W.mg W.mb h):vY W.prog W.w W.Wd (W.D+1) 45:=by
 have ok:=mO G hf
 refine XM (X:=⟨W,eW,aF 3⟩) (scope:=lz PB 3) (P:=⟨_,_, "addr",_,_,_,_,_,_,_,_,_,_,_,_,_,_,_,_,_,_,_,_,_,_,_,_,_,_,_,_,_,_,_,_,_,_,_,_⟩) rfl (BE (scope:={lz PB 3 with isGenerator:=false}) (by decide+kernel)) (by rfl) (by rfl) (by rfl) (by rfl) (fun y hy=>?_) (fun y hy=>?_) (by decide+kernel) (fun h hh=>(hw h hh).uu) (fun h hh=>(hw h hh).lim) (fun pm cd doc u=>rfl) ?_
 ·revert y;decide+kernel
 ·revert y;decide+kernel
 ·intro L Ka env hl hs hk wd
  exact
   {gI:=rfl,bD:=rfl,
    nc:=fun x e=>(show ∀y∈(lz PB 3).names,y.2≠ .cell by decide+kernel) _ (zS e) rfl
    nf:=fun x e=>(show ∀y∈(lz PB 3).names,y.2≠ .free by decide+kernel) _ (zS e) rfl
    loc:=hl,co:=by rw[hs];rfl,qa:=hk,vS:=wd
    t1:=uw (r:=cT (cE 24) (aF 3) 5 _) (by decide+kernel) rfl W ok
    t2:=uw (r:=cT (cE 24) (aF 3) 5 _) (by decide+kernel) rfl W ok
    nj:=wS (r:=cE 24 (aF 3) _) (by decide+kernel) rfl W ok
    tM:=wS (r:=cE 24 (aF 3) _) (by decide+kernel) rfl W ok
    nk:=wS (r:=cE 24 (aF 3) _) (by decide+kernel) rfl W ok
    tN:=wS (r:=cE 24 (aF 3) _) (by decide+kernel) rfl W ok
    s1:=⟨rfl,rfl,rfl,rfl⟩
    PW:=yX (C:=aF 3) (by decide+kernel) rfl _ rfl ok
    PY:=yX (C:=aF 3) (by decide+kernel) rfl _ rfl ok
    hx:=rfl,bad:=by decide+kernel,ke:=rfl
    ge:=G.no _ (by decide),be:=G.mM
    t3:=uw (r:=cT (cE 24) (aF 3) 5 _) (by decide+kernel) rfl W ok
    Qd:=wS (r:=cE 24 (aF 3) _) (by decide+kernel) rfl W ok
    Qe:=wS (r:=cE 24 (aF 3) _) (by decide+kernel) rfl W ok
    s3:=⟨rfl,rfl⟩
    Qf:=yX (C:=aF 3) (by decide+kernel) rfl _ rfl ok
    BU:=yX (C:=aF 3) (by decide+kernel) rfl _ rfl ok}
theorem So(i:Nat)(h:(lz PB i).names.all (fun y=>y.2 != .free)=true)(x:Str):(aF i).kn.lookup x≠some .free:=BJ (C:=aF i) h x
theorem zO.cs{X:Ctx}{tv dv:List Nat}{st:Stmt}{rest:List Stmt}{f h:Den}(h1:zN X tv dv st f)(h2:zO X tv dv [] [] rest h):zO X tv dv [] [] (st::rest) (zX f h):=zO.cons h1 h2 (xR _) (xR _) rfl rfl
theorem zO.cd{X:Ctx}{tv dv:List Nat}{b:List Stmt}{i:Nat}{hi:i<b.length}{f h:Den}(h1:zN X tv dv b[i] f)(h2:zO X tv dv [] [] (b.drop (i+1)) h):zO X tv dv [] [] (b.drop i) (zX f h):=A5 hi▸zO.cs h1 h2
theorem zQz{W:bu}(G:jM W.mg W.mb)(hf:W.iY=sE)(hw:∀h,W.Wd h->fX W.mg W.mb h)(l4:vY W.prog W.w W.Wd W.D 45):
  zO ⟨W,eW,aF 4⟩ [3] [] [] [] (yO PB 4) (zX (den W.U DJ) (zX (den W.U DK) (zX (den W.U DM) (zX (den W.U DN) (zX (rJ W.U (.var 0) [4,5] (zT W.U qC)) (zX (den W.U y6) (zX (den W.U DO) az))))))):=by
 have ok:=mO G hf
 refine zO.cd (b:=yO PB 4) (i:=0) (zW4 ⟨W,eW,aF 4⟩ rfl ok) (zO.cd (zWn ⟨W,eW,aF 4⟩ rfl ok) (zO.cd (zX5 ⟨W,eW,aF 4⟩ rfl ok) (zO.cd (zV6 ⟨W,eW,aF 4⟩ rfl ok) (zO.cd (hi:=by decide+kernel) ?_ (zO.cd (zYb ⟨W,eW,aF 4⟩ rfl ok) (zO.cd (zXs ⟨W,eW,aF 4⟩ rfl ok)
  (zO.nil rfl rfl)))))))
 exact zN.l3 (X:=⟨W,eW,aF 4⟩) (fun _ _ _ _ h=>h) l4 (by rfl) G.f5 (by decide+kernel) (fun h hh=>eR.obj (hw h hh).uu) (wS (r:=cE 24 (aF 4) _) (by decide+kernel) rfl W ok) rfl (by rfl) (by rfl) (by decide)
  (zXe ⟨W,eW,aF 4⟩ rfl ok) (So 4 (by decide+kernel)) (fun h hh=>(hw h hh).lim)
theorem zRa{W:bu}(G:jM W.mg W.mb)(hf:W.iY=sE)(hw:∀h,W.Wd h->fX W.mg W.mb h)(l4:vY W.prog W.w W.Wd W.D 45):
  zO ⟨W,eW,aF 5⟩ [] [] [] [] (yO PB 5) (zX (den W.U DP) (zX (den W.U DQ) (zX (rJ W.U (.var 0) [2,3] (zT W.U jt)) (zX (den W.U MS) az)))):=by
 have ok:=mO G hf
 refine zO.cd (b:=yO PB 5) (i:=0) (zXp ⟨W,eW,aF 5⟩ rfl ok) (zO.cd (zWm ⟨W,eW,aF 5⟩ rfl ok) (zO.cd (hi:=by decide+kernel) ?_ (zO.cd (zWd ⟨W,eW,aF 5⟩ rfl ok) (zO.nil rfl rfl))))
 exact zN.l3 (X:=⟨W,eW,aF 5⟩) (fun _ _ _ _ h=>h) l4 (by rfl) G.f5 (by decide+kernel) (fun h hh=>eR.obj (hw h hh).uu) (wS (r:=cE 24 (aF 5) _) (by decide+kernel) rfl W ok) rfl (by rfl) (by rfl) (by decide)
  (zYo ⟨W,eW,aF 5⟩ rfl ok) (So 5 (by decide+kernel)) (fun h hh=>(hw h hh).lim)
variable(w:Cn)(G:jM mg mb)
noncomputable def DT(U:Uc):Den:=zX (den U DJ) (zX (den U DK) (zX (den U DM) (zX (den U DN) (zX (rJ U (.var 0) [4,5] (zT U qC)) (zX (den U y6) (zX (den U DO) az))))))
noncomputable def DU(U:Uc):Den:=zX (den U DP) (zX (den U DQ) (zX (rJ U (.var 0) [2,3] (zT U jt)) (zX (den U MS) az)))
noncomputable def W3:bu:=(W2 w G).add 2 (lG (DT (W2 w G).U) (aF 4) 1) (fun {h} x=>eR.obj x.yn) fun A s ps vs ns r hr hw hv e=>by
 obtain⟨hl,g',hd⟩:=yz e
 refine aJ (ti (hv.length.trans hl)) fun v1 aP=>?_
 subst aP
 exact tV (tv:=[3]) (dv:=[]) (X:=⟨W2 w G,eW,aF 4⟩) rfl (by decide+kernel) hw.yn hw.lim hr hw (fun pm cd doc=>rfl) hv (by rw[hl];rfl) (fun i hi=>by simp at hi;subst hi;decide) (zQz (W:=W2 w G) G rfl (fun _ x=>x) (Sm (W:=W1 w G) G rfl (fun _ x=>x))) hd
noncomputable def W4:bu:=(W3 w G).add 3 (lG (DU (W3 w G).U) (aF 5) 1) (fun {h} x=>eR.obj x.yo) fun A s ps vs ns r hr hw hv e=>by
 obtain⟨hl,g',hd⟩:=yz e
 refine aJ (ti (hv.length.trans hl)) fun v1 aP=>?_
 subst aP
 exact tV (tv:=[]) (dv:=[]) (X:=⟨W3 w G,eW,aF 5⟩) rfl (by decide+kernel) hw.yo hw.lim hr hw (fun pm cd doc=>rfl) hv (by rw[hl];rfl) (fun i hi=>by simp at hi) (zRa (W:=W3 w G) G rfl (fun _ x=>x) (Sm (W:=W2 w G) G rfl (fun _ x=>x))) hd
noncomputable def zZd(ps:List PV):Option PV:=(one ps).bind fun p=>p.dh.bind fun l=>if l.length<=100000 then some (.str (kJ l))else none
noncomputable def yAx:dr:=fun g=>((g.σ[0]?).bind id).bind fun p=>p.dh.bind fun l=>if l.length<=100000 then some (g, .str (kJ l))else none
theorem Sq{σ:List (Option PV)}{i:Nat}{p:PV}(h:(σ[i]?).bind id=some p):σ[i]?=some (some p):=by
 refine oB h fun o h1 h2=>?_
 rw[h1,show o=some p from h2]
theorem zSb{W:bu}(G:jM W.mg W.mb)(hw:∀h,W.Wd h->fX W.mg W.mb h):zO ⟨W,eW,aF 12⟩ [] [] [] [] (yO PB 12) (zX (vo yAx) az):=by
 refine zO.cs (zN.ret ?_) (zO.nil rfl rfl)
 intro K env A E s₀ g N F s g' p T e
 refine oB e fun q e1 e=>?_
 refine oB e fun l e2 e=>?_
 refine oI e fun hl e=>?_
 refine au (Bg (Aa e)) fun aG aP=>?_
 subst aG
 subst aP
 have bp:=Sq e1
 rw[PV.bJ e2]at bp
 refine aJ G.crlf fun t ht=>?_
 have hh:=hw _ (T.eO _ T.kept)
 exact zOl (C:=aF 12) (W:=W) T.pre hh.o7 hh.o8 (by rfl) (by rfl) (by rfl) G.r1 G.r2 ht (by decide+kernel) (by decide+kernel) (by decide+kernel) (by decide+kernel) (by rfl) (by rfl) bp hl (by rfl) (by rfl) fun s' t k=>⟨N,F,[],T.kg k, .str _ _,eu.nil⟩
noncomputable def W5:bu:=(W4 w G).add 4 zZd (fun {h} x=>eR.obj x.mF) fun A s ps vs ns r hr hw hv e=>by
 refine oB e fun q e1 e=>?_
 refine oB e fun l e2 e=>?_
 refine oI e fun hl e=>?_
 obtain rfl:=Aa e
 obtain rfl:=nV e1
 obtain rfl:=PV.bJ e2
 refine aJ (ti hv.length) fun v1 aP=>?_
 subst aP
 refine tV (tv:=[]) (dv:=[]) (X:=⟨W4 w G,eW,aF 12⟩) (g':=⟨[some (.str l)],none⟩) rfl (by decide+kernel) hw.mF hw.lim hr hw (fun pm cd doc=>rfl) hv rfl (fun i hi=>by simp at hi) (zSb (W:=W4 w G) G fun _ x=>x) ?_
 refine(?_:((if l.length<=100000 then some ((⟨[some (.str l)],none⟩:Sg),PV.str (kJ l))else none).bind _).bind _=_)
 rw[if_pos hl];rfl
noncomputable def W6:bu:=(W5 w G).add 5 (lG (zT (W5 w G).U DR) (aF 21) 2) (fun {h} x=>eR.obj x.mH) fun A s ps vs ns r hr hw hv e=>by
 obtain⟨hl,g',hd⟩:=yz e
 refine gc (FG (hv.length.trans hl)) fun v1 v2 cw=>?_
 subst cw
 exact tV (tv:=[]) (dv:=[]) (X:=⟨W5 w G,eW,aF 21⟩) rfl (by decide+kernel) hw.mH hw.lim hr hw (fun pm cd doc=>rfl) hv (by rw[hl];rfl) (fun i hi=>by simp at hi) (yAf _ rfl (mO G rfl)) hd
end
noncomputable def rdO(o:Option Stmt):Option bW:=o.bind fun st=>bH (st.ctorIdx=5) fun h=>L5 (motive_2:=fun _=>Option bW) st h fun _ v _=>bH (v.ctorIdx=4) fun h=>Expr.Lambda.elim (motive_1:=fun _=>Option bW) v h fun params b ay _=>
 sC b none fun f as cp=>sA f none fun c _ ap=>bH (c.ctorIdx=19) fun h=>Lj (motive_1:=fun _=>Option bW) c h fun _ jk jp=>ku as none fun a=>sG a none fun elt t it _ aE lp=>sC elt none fun f2 _ gJ=>sA f2 none fun o2 _ fC=>sN o2 none fun sg p1=>sN t none fun si px=>sS it none fun b2 sl sp=>sN b2 none fun _ p2=>
 bH (sl.ctorIdx=26) fun h=>L9 (motive_1:=fun _=>Option bW) sl h fun _ hi _ gI=>hi.bind fun z=>sN z none fun sz p3=>some ⟨sg,si,sz,jk,jp,ap,p1,fC,gJ,px,p2,p3,gI,sp,lp,cp,aE,ay,params⟩
noncomputable def yDg(o:Option Stmt):bW:=(rdO o).getD ⟨"", "", "",0,default,default,default,default,default,default,default,default,default,default,default,default,default,default,default⟩
noncomputable def gw:bW:=yDg ((yO PB 20)[2]?)
section
variable{mg mb:Str->Option Value}(w:Cn)(G:jM mg mb)
noncomputable def cxM(j:Nat):Cx:=xY (qA PB 7 j) ["self"]
theorem MT{W:bu}(hw:∀h,W.Wd h->fX W.mg W.mb h)(C:Cx)(bx:List Addr):eU gw 97 96 73 80 87 94 ⟨W,wG gw 97 bx,C⟩:=⟨⟨bx,rfl⟩,fun h hh=>(hw h hh).cls,fun h hh=>(hw h hh).lim⟩
theorem zXv{W:bu}(G:jM W.mg W.mb)(hf:W.iY=sE):gw.Ok W:=by
 have ok:=mO G hf
 exact
  {k1:=by rfl,co:=by rfl,gen:=by rfl,n1:=by rfl,k2:=by rfl,l2:=by rfl,f2:=by rfl,c2:=by decide+kernel,bad:=by decide+kernel,ne:=by decide+kernel,line:=by decide+kernel,
   bind:=fun name qual body pm rS fO cl v=>rfl
   it:=wS (r:=cE 24 ⟨gw.ay.names,[(gw.sg,0),(gw.sz,1)],2⟩ _) (by decide+kernel) rfl W ok}
set_option maxHeartbeats 1000000 in
theorem yAv:mf (W1 w G) gw 97 2 80 rX:=by
 have ok:cM (W1 w G) bj:=mO G rfl
 refine YV (W:=W1 w G) (scope:=qA PB 7 1) (params:=yj PB 7 1) (name:=yk PB 7 1) (zs:= "self") (zc:= "ch") (N₀:=96) (fI:=73) (fG:=87) (fP:=94) (fun bx=>MT (fun h x=>x) _ bx) ⟨DH w (mg:=mg) (mb:=mb),zXv G rfl,rfl,rfl,rfl,fun _ x=>x⟩ (fun h hh=>hh.yp) (by decide+kernel) (by decide+kernel) (by rfl) (by rfl) (by rfl) (by rfl) (by decide+kernel) (by decide+kernel) (by decide+kernel) (fun pm cd doc u body=>rfl) ?_
 exact uw (r:=cT (cE 24) (cxM 1) 5 _) (by decide+kernel) rfl (W1 w G) ok
set_option maxHeartbeats 2000000 in
theorem yDo:mf (W3 w G) gw 97 4 87 (jH (W3 w G).U):=by
 have hZ:∀bx,mj gw 97 80 ⟨W3 w G,wG gw 97 bx,xY (qA PB 7 2) ["self"]⟩:=fun bx=>⟨⟨2,rfl,yAv w G⟩,fun h (hh:fX mg mb h)=>by
  obtain⟨o,pm,cd,doc,e1,e2,e3,_⟩:=hh.yp
  exact⟨o,_,e1,e2,e3⟩⟩
 have hO:∀bx,ud ⟨W3 w G,wG gw 97 bx,xY (qA PB 7 2) ["self"]⟩ "self" "token" "fiter" "ch" :=fun bx=>
  {s:=⟨by rfl,by decide+kernel,by rfl⟩,t:=⟨by rfl,by decide+kernel,by rfl⟩,f:=⟨by rfl,by decide+kernel,by rfl⟩,c:=⟨by rfl,by decide+kernel,by rfl⟩,n:=by rfl,ki:=by rfl
   gi:=G.no _ (by decide),bi:=G.qB}
 exact zZy (W:=W3 w G) (R:=gw) (C:=97) (N₀:=96) (fI:=73) (fR:=80) (fG:=87) (fP:=94) (scope:=qA PB 7 2) (params:=yj PB 7 2) (name:=yk PB 7 2) (zs:= "self") (zt:= "token") (zf:= "fiter") (zc:= "ch")
  (fun bx=>MT (fun h x=>x) _ bx) hZ hO (fun h hh=>hh.yr) (by decide+kernel) (by decide+kernel) (by decide+kernel) (fun pm cd doc u body=>rfl)
set_option maxHeartbeats 2000000 in
theorem mkB:sf (W3 w G) gw 97 4 139 134:=by
 have hM:CP (W3 w G) 134 138 139:=⟨fun h (hh:fX mg mb h)=>hh.code,fun h (hh:fX mg mb h)=>hh.hd,fun h (hh:fX mg mb h)=>hh.bm,by decide,fun h (hh:fX mg mb h)=>hh.lim⟩
 refine yBz (W:=W3 w G) (R:=gw) (C:=97) (N₀:=96) (fI:=73) (fR:=80) (fG:=87) (fP:=94) (scope:=lz PB 20) (params:=vQ PB 20) (name:=vR PB 20) (zt:= "text") (zst:= "stream") (nameI:=yk PB 7 0) (scopeI:=qA PB 7 0) (paramsI:=yj PB 7 0) (zs:= "self") (zp:= "fp")
  (fun h (hh:fX mg mb h)=>hh.cls) hM (fun h hh=>hh.mG) (fun h hh=>hh.DE) (by rfl) (by decide+kernel) (by rfl) (by rfl) (by rfl) (by decide+kernel) (by decide+kernel) (fun pm cd doc u v body=>rfl) (by decide+kernel) (by rfl) (by rfl) (by rfl) (by rfl)
  (by decide+kernel) (by decide+kernel) (by rfl) (by rfl) (by rfl) (by rfl) (G.no _ (by decide)) G.mJ G.f7 (by rfl) (fun env=>rfl) (fun env=>rfl) (by rfl) (by decide+kernel) (show 2<=3 by decide) (fun pm cd doc u body=>rfl)
end
theorem wH.le{D D':Nat}{A:Al}(h:wH D A)(hd:D'<=D):wH D' A:=⟨h.hh,by have:=h.depth;omega,by have:=h.units;omega⟩
noncomputable def bu.more(W:bu)(D':Nat)(h:W.D<=D'):bu:={W with
 D:=D'
 call:=fun k A s ps vs ns r hr hw hv e=>W.call k A s ps vs ns r (hr.le h) hw hv e}
theorem mf.more{W W':bu}{R:bW}{C:Addr}{D D':Nat}{f:Addr}{op:aj->aj->List Nat->Prop}(h:mf W R C D f op)(hp:W'.prog=W.prog)(hw:W'.w=W.w)(hd:∀h,W'.Wd h->W.Wd h)(hD:D<=D'):mf W' R C D' f op:=
 fun A s v b b' r F hr hl eJ e=>by
  have:=h A s v b b' r F (hr.le hD) hl (fun h k=>hd h (eJ h k)) e
  rw[hp,hw];exact this
structure MU(R:bW)(C fG:Addr)(X:Ctx)(fget:aj->Option (aj×List Nat)):Prop where
 D:∃D,D+1=X.W.D/\∃op,mf X.W R C D fG op/\∀b b' r,fget b=some (b',r)->op b b' r
 og:∀h,X.W.Wd h->∃of fd,h.get? fG=some of/\of.cls= .type "function" /\of.data= .func fd
section
variable{R:bW}{C N₀ fI fR fG fP:Addr}{X:Ctx}{tv dv:List Nat}{fget:aj->Option (aj×List Nat)}
noncomputable def ux(fget:aj->Option (aj×List Nat))(i:Nat):dr:=fun g=>(gX g i).bind fun vb=>(fget vb.2).map fun q=>({g with β:=some (vb.1,q.1)}, .str q.2)
theorem wV.mP(Y:eU R C N₀ fI fR fG fP X)(Z:MU R C fG X fget){z:Str}{i:Nat}{p0 ap cp:Bz}(hz:X.C.Γ.lookup z=some i)(bC:bad z=false)(aV:(ap.endLine==cp.line)=true):
  wV X tv dv true (.Call (.Attribute (.Name z p0) "get_token" ap) [] [] cp) (ux fget i):=fun K env A E s₀ g N F s g' p T e=>by
 obtain⟨⟨v,b⟩,e1,e2⟩:=wO e
 obtain⟨⟨b',r⟩,e3,e4⟩:=wX e2
 refine au (Bg e4) fun aG aP=>?_
 subst aG
 subst aP
 refine au (qn e1) fun bp bV=>?_
 obtain⟨x,dx,st,ds,lam,cc,cell,sg,pb,rfl,hF,L,nE⟩:=T.lex Y bV
 refine cX (Z.og _ T.pre.wd) fun of fd ho nz gj=>?_
 refine aJ Y.bk fun bx de=>?_
 have hb:=T.book _ b bV
 rw[de]at hb
 refine aB Z.D fun D hD jE=>?_
 refine aB jE fun op fn gu=>?_
 refine QC (kr rfl _ env _) aV (Bt (zU T.kind (T.self hz bp) (fun pl=>QL (Y.cls _ T.pre.wd) (fun _ _ h _=>h) ho nz YK L (by decide) ?_) (wW bC)) (wE bC))
 refine callWith_meth0 gj ho (F8 (E4 (fn A s (.ref x) b b' r F (T.room.less hD) hb.2 T.KV (gu _ _ _ e3)) fun res s' hr=>?_))
 obtain⟨t,rfl,hs,hk,gB⟩:=hr
 exact⟨N,F,[],T.t7 hs hk (by rw[de];exact⟨hb.1,gB⟩), .str ..,eu.nil⟩
noncomputable abbrev FL:=Value->PV->PV->PV->aj->Option (aj×PV)
noncomputable def MV(W:bu)(R:bW)(C:Addr)(D:Nat)(f:Addr)(fL:FL):Prop:=∀(A:Al) (s:Ab) (v:Value) (b b':aj) (p0 p2 p3 r:PV) (vs:List Value) (ns:List Addr) (F:List Addr),wH D A->iD R C v b F s.heap->
 ak s.heap [p0, .obj v,p2,p3] vs ns->(∀a∈F,a∉ns)->(∀h:Ap,(∀a o,a∉F->s.heap.get? a=some o->h.get? a=some o)->W.Wd h)->fL v p0 p2 p3 b=some (b',r)->
 Ca (Af W.prog W.w) A (.call (.ref f) ⟨vs,[]⟩) (fun res s'=>∃u ms,res= .ok (.ret u)/\yZ s s'/\(∀a o,a∉F->s.heap.get? a=some o->s'.heap.get? a=some o)/\iD R C v b' F s'.heap/\VR s'.heap r u ms/\wL s.heap ms) s
noncomputable def kO(X:Ctx)(tv dv:List Nat)(e:Expr)(f:Sg->Option PV):Prop:=yT e=true/\∀K env A E s₀ g N F s p,aw X tv dv K env A s₀ g N F s->f g=some p->
 Am (Af X.W.prog X.W.w) A (eval e env) (fun v s'=>KG s s'/\∃ns,VR s'.heap p v ns/\∀a∈F,a∉ns) E s
theorem kO.var{z:Str}{i:Nat}{p0:Bz}(hz:X.C.Γ.lookup z=some i)(bC:bad z=false):kO X tv dv (.Name z p0) (fun g=>(g.σ[i]?).bind id):=⟨rfl,fun K env A E s₀ g N F s p T e=>by
 obtain⟨q,e1,e2⟩:=wO e
 have e2:q=some p:=e2
 subst e2
 obtain⟨v,a,r⟩:=T.rd z i p hz e1
 exact Bt (zU T.kind a ⟨du s _,_,r.sub fun _ _ e=>e,fun b hb=>(T.foot b hb).2.2.1 i⟩ (wW bC)) (wE bC)⟩
theorem kO.new{a:Expr}{pe:PE}(bY:yT a=true)(h:av X.W X.C a pe):kO X tv dv a (fun g=>(ev X.W.U pe g.σ).bind fun p=>if fresh pe p then some p else none):=⟨bY,fun K env A E s₀ g N F s p T e=>by
 obtain⟨q,e1,e2⟩:=wO e
 split at e2
 ·next hf=>
  cases e2
  refine zE (h env A E s g.σ p T.pre e1) fun v aa ah=>?_
  obtain⟨k,ns,r,f⟩:=ah
  exact⟨k,ns,r,fun b hb hm=>by obtain⟨_,⟨o,e⟩,_⟩:=T.foot b hb;rw[(f hf).new b hm]at e;cases e⟩
 ·cases e2⟩
noncomputable def uy(fL:FL)(i:Nat)(f0 f2 f3:Sg->Option PV):dr:=fun g=>(f0 g).bind fun p0=>(gX g i).bind fun vb=>(f2 g).bind fun p2=>(f3 g).bind fun p3=>(fL vb.1 p0 p2 p3 vb.2).map fun q=>({g with β:=some (vb.1,q.1)},q.2)
theorem wV.least{fL:FL}{fA:Addr}{D:Nat}(Y:eU R C N₀ fI fR fG fP X)(fn:MV X.W R C D fA fL)(hD:D<=X.W.D){zl zb:Str}{i:Nat}{p0 p1 pos:Bz}{a0 a2 a3:Expr}{f0 f2 f3:Sg->Option PV}
  (hk:X.C.kn.lookup zl=some .globalImplicit) (hg:X.W.mg zl=some (.ref fA)) (lR:bad zl=false) (ho:∀h,X.W.Wd h->∃o fd,h.get? fA=some o/\o.data= .func fd)
  (hz:X.C.Γ.lookup zb=some i) (tL:bad zb=false) (h0:kO X tv dv a0 f0) (h2:kO X tv dv a2 f2) (h3:kO X tv dv a3 f3):
  wV X tv dv true (.Call (.Name zl p0) [a0, .Name zb p1,a2,a3] [] pos) (uy fL i f0 f2 f3):=fun K env A E s₀ g N F s g' p T e=>by
 refine oB e fun q0 e0 e=>?_
 obtain⟨⟨v,b⟩,e1,e⟩:=wO e
 refine oB e fun q2 e2 e=>?_
 refine oB e fun q3 e3 e=>?_
 obtain⟨⟨b',r⟩,e4,e5⟩:=wX e
 refine au (Bg e5) fun aG aP=>?_
 subst aG
 subst aP
 refine au (qn e1) fun bp bV=>?_
 refine au h0 fun n0 h0=>?_
 refine au h2 fun n2 h2=>?_
 refine au h3 fun n3 h3=>?_
 refine dY (ho _ T.pre.wd) fun o fd MW gj=>?_
 refine Eo rfl ?_
 refine A6 T.kind (by unfold Be;rw[T.names];exact hk) (Dh (mg:=X.W.mg) ?_ hg ?_) (wE lR)
 ·refine af T.gl ?_;exact X.W.g T.pre.wd
 refine Jx gj ?_ (zF n0 _ env)
 refine af (zF n0 _ env) ?_
 refine Ba (zE (h0 K env A E s₀ g N F s q0 T e0) fun v0 aa aA=>?_)
 refine au aA fun k₁ aA=>?_
 refine aB aA fun bL r0 f0=>?_
 have aW:=T.kg k₁
 refine af (zF rfl _ env) ?_
 refine Ba (Bt (zU aW.kind (aW.self hz bp) ?_ (wW tL)) (wE tL))
 refine af (zF n2 _ env) ?_
 refine Ba (zE (h2 K env A E s₀ g N F aa q2 aW e2) fun v2 s₂ ba=>?_)
 refine au ba fun k₂ ba=>?_
 refine aB ba fun jE r2 f2=>?_
 have ax:=aW.kg k₂
 refine af (zF n3 _ env) ?_
 refine Ba (zE (h3 K env A E s₀ g N F s₂ q3 ax e3) fun v3 ao mQ=>B7 ?_)
 refine au mQ fun bF mQ=>?_
 refine aB mQ fun ns3 r3 f3=>?_
 have aM:=ax.kg bF
 have up:Sub s.heap ao.heap:=fun b o e=>zZ bF b o (zZ k₂ b o (zZ k₁ b o e))
 refine aJ Y.bk fun bx de=>?_
 have hb:=aM.book _ b bV
 rw[de]at hb
 have bq:ak ao.heap [q0, .obj v,q2,q3] [v0,v,v2,v3] (bL++([]++(jE++(ns3++[])))):=
  .cons (r0.sub fun b o e=>zZ bF b o (zZ k₂ b o e)) (.cons (.obj v) (.cons (r2.sub (zZ bF)) (.cons r3 .nil)))
 refine⟨up _ _ MW,F8 (E4 (fn A ao v b b' q0 q2 q3 r _ _ F (T.room.le hD) hb.2 bq (fun a ha hm=>?_) aM.KV e4) fun res s' hr=>?_)⟩
 ·simp only[F1,Bv,Bb]at hm
  rcases hm with hm|hm|hm
  ·exact f0 a ha hm
  ·exact f2 a ha hm
  ·exact f3 a ha hm
 ·obtain⟨u,ms,rfl,hs,hk,gB,ru,hf⟩:=hr
  exact⟨N,F,ms,aM.t7 hs hk (by rw[de];exact⟨hb.1,gB⟩),ru,aM.held hf⟩
end
noncomputable def MX:Fl->Bool
 | .next=>true
 |_=>false
noncomputable def Sr:PV->Bool
 | .list l=>l.all PV.aZ
 |_=>false
noncomputable def o9(v:Value)(p0 p2 p3:PV)(b:aj):Sg:=⟨[some p0,some (.obj v),some p2,some p3,none,none,none,none],some (v,b)⟩
noncomputable def Ss(U:Uc)(fget:aj->Option (aj×List Nat))(pe:PE)(g0:Sg):Option (aj×PV):=(yY 4 (ux fget 1) g0).bind fun q=>(ev U pe q.1.σ).bind fun p=>if fresh pe p=true then q.1.β.map fun vb=>(vb.2,p)else none
noncomputable def Su(uz:Den)(g0:Sg):Option (aj×PV):=(uz g0).bind fun q=>if MX q.2=true then((q.1.σ[5]?).bind id).bind fun p=>if Sr p=true then q.1.β.map fun vb=>(vb.2,p)else none else none
noncomputable def DV(U:Uc)(fget:aj->Option (aj×List Nat))(pt:PT)(pe:PE)(uz:Den):FL:=fun v p0 p2 p3 b=>
 (aY U pt (o9 v p0 p2 p3 b).σ).bind fun c=>if c=true then Ss U fget pe (o9 v p0 p2 p3 b)else Su uz (o9 v p0 p2 p3 b)
theorem iD.same{R:bW}{C:Addr}{v v':Value}{b b':aj}{F:List Addr}{h h':Ap}(a:iD R C v b F h)(c:iD R C v' b' F h'):v=v':=by
 obtain⟨x,dx,st,ds,lam,cc,cell,sg,pb,rfl,rfl,_⟩:=a
 obtain⟨x,dx,st,ds,lam,cc,cell,sg,pb,rfl,q,_⟩:=c
 rw[(D8 q).1]
theorem Sv(env:Dv):∀(a b:List Stmt),Ge (a++b) env=(Ge a env>>=fun fw=>match fw with| .next=>Ge b env|fw=>pure fw)
 |[],b=>by
  refine(?_:Ge b env=(pure Flow.next>>=_))
  rw[pure_bind]
 |st::a,b=>by
  rw[B9,execs_cons,execs_cons,bind_assoc]
  refine bind_congr fun fw=>?_
  cases fw with
  |next=>exact Sv env a b
  |_=>rw[pure_bind]
theorem DW{X:Ctx}{tv dv tv' dv':List Nat}{K:Addr->Option Obj}{env:Dv}{A:Al}{E:Value->Ab->Prop}{s₀ s:Ab}{g g₁:Sg}{N:Nat->List Addr}{F:List Addr}{a b:List Stmt}{f:Den}{Q:Ls->Ab->Prop}
  (h1:zO X tv dv tv' dv' a f) (T:aw X tv dv K env A s₀ g N F s) (e:f g=some (g₁, .next))
  (k:∀N' F' s',aw X tv' dv' K env A s₀ g₁ N' F' s'->Am (Af X.W.prog X.W.w) A (Ge b env) Q E s'):Am (Af X.W.prog X.W.w) A (Ge (a++b) env) Q E s:=by
 rw[Sv]
 refine Ac (zE (h1 K env A E s₀ g N F s g₁ .next T e) fun fw aa ah=>?_)
 obtain⟨hf,N',F',T'⟩:=ah
 have hf:fw= .next:=hf
 subst hf
 exact k N' F' aa T'
theorem yDn{α:Type}{l:List α}(h:l.length=4):∃a b c d,l=[a,b,c,d]:=by
 obtain⟨a,r,rfl,h⟩:=AD h
 obtain⟨b,c,d,rfl⟩:=N5 (Im h)
 exact⟨a,b,c,d,rfl⟩
section
variable{R:bW}{C N₀ fI fR fG fP:Addr}{W:bu}{Cc:Cx}
theorem oM{α β:Type}{x:Option α}{f:α->β}{y:β}{G:Prop}(h:x.map f=some y)(k:∀a,x=some a->f a=y->G):G:=let⟨a,h1,h2⟩:=Bn.mp h;k a h1 h2
theorem zXh{fl:Fl}(h:MX fl=true):fl= .next:=by cases fl<;>first|rfl|exact ft h
theorem zWw{p:PV}(h:Sr p=true):∃l,p= .list l:=by cases p<;>first|exact⟨_,rfl⟩|exact ft h
noncomputable def Sw(R:bW)(C:Addr)(v:Value)(b':aj)(r:PV)(F:List Addr)(s:Ab)(u:Value)(s':Ab):Prop:=∃ms,yZ s s'/\(∀a o,a∉F->s.heap.get? a=some o->s'.heap.get? a=some o)/\iD R C v b' F s'.heap/\VR s'.heap r u ms/\wL s.heap ms
theorem Sx{F F':List Addr}{s s':Ab}{env:Dv}{A:Al}{g:Sg}{N:Nat->List Addr}{v:Value}{b b':aj}{u:Value}{p r:PV}{ms:List Addr}{vb:Value×aj}(de:iD R C v b F s.heap)(T:aw ⟨W,wG R C F,Cc⟩ [5] [] (fq s.heap F) env A s g N F' s')(bV:g.β=some vb)(e:(vb.2,p)=(b',r))(hr:VR s'.heap p u ms)
  (hn:ms.Nodup) (hK:∀a∈ms,fq s.heap F a=none) (hF:∀a∈F',a∉ms):Sw R C v b' r F s u s':=by
 refine au (Bg e) fun e1 e2=>?_
 subst e1
 subst e2
 refine au (T.book vb.1 vb.2 bV) fun e1 hl=>?_
 subst e1
 exact⟨ms,T.same,fun a o h1 h2=>T.kept a o (jF h1 h2),de.same hl▸hl,hr,⟨hn,fun a ha=>by
  cases e:s.heap.get? a with
  |none=>rfl
  |some o=>exact nn ((hK a ha).symm.trans (jF (fun q=>hF a q ha) e))⟩⟩
theorem zO2{scope:Scope}{params:Arguments}{name z0 zb z2 z3 zw:Str}{fA:Addr}{MY er:Expr}{sA s1 s2:Stmt}{pr pi pz pq:Bz}{pt:PT}{pe:PE}{uz:Den}{fget:aj->Option (aj×List Nat)}
  (hC:Cc=xY scope [z0,zb,z2,z3]) (hn:Cc.n=8) (hY:∀bx,eU R C N₀ fI fR fG fP ⟨W,wG R C bx,Cc⟩)
  (dz:∀h,W.Wd h->lu h fA name params [.If MY [sA, .Return (some er) pr] [] pi,s1,s2, .Return (some (.Name zw pz)) pq] scope) (bg:jb scope [z0,zb,z2,z3]=true)
  (bo:∀pm cd doc v0 v1 v2 v3,E6 (Fx name params [.If MY [sA, .Return (some er) pr] [] pi,s1,s2, .Return (some (.Name zw pz)) pq] scope pm cd doc) ⟨[v0,v1,v2,v3],[]⟩=pure [(z0,v0),(zb,v1),(z2,v2),(z3,v3)])
  (ht:di W Cc MY pt) (hA:∀F,zN ⟨W,wG R C F,Cc⟩ [5] [] sA (yY 4 (ux fget 1))) (hE:av W Cc er pe) (y7:∀F,zO ⟨W,wG R C F,Cc⟩ [5] [] [5] [] [s1,s2] uz)
  (hz:Cc.Γ.lookup zw=some 5) (bC:bad zw=false):MV W R C (W.D+1) fA (DV W.U fget pt pe uz):=by
 intro A s v b b' p0 p2 p3 r vs ns F aN de hv dR eJ e
 have jG:W.Wd s.heap:=eJ _ fun a o _ e=>e
 obtain⟨v0,v1,v2,v3,rfl⟩:=yDn hv.length
 have go:∀R':D3->Ab->Prop,(∀u s',Sw R C v b' r F s u s'->R' (.ok (.ret u)) s')->Ca (Af W.prog W.w) A (.call (.ref fA) ⟨[v0,v1,v2,v3],[]⟩) R' s:=fun R' hR=>by
  refine KL (X:=⟨W,wG R C F,Cc⟩) (tv:=[5]) (dv:=[]) (xs:=[z0,zb,z2,z3]) (ps:=[p0, .obj v,p2,p3]) (ns:=ns) (β:=some (v,b)) (K:=fq s.heap F) (F:=F) hC bg (dz _ jG) ((hY F).lim _ jG) aN (fun a o e=>(w0 e).2) (fun h k=>eJ h fun a o h1 h2=>k a o (jF h1 h2))
   (fun u c e=>sp e ⟨rfl,de⟩) (fun a ha=>⟨by exact xU ha rfl,de.bU a ha,dR a ha⟩) (fun pm cd doc=>bo pm cd doc v0 v1 v2 v3) hv rfl (by intro i hi;simp at hi;subst hi;exact Fq 4) fun env cd aa N mu hq gj pg T=>?_
  rw[show ey Cc [p0, .obj v,p2,p3] (some (v,b))=o9 v p0 p2 p3 b by unfold ey;rw[hn];rfl]at T
  refine oB e fun c e1 e2=>?_
  refine Bd (Lu (zE (ht env _ _ aa _ c T.pre e1) fun c' s₂ ai=>?_))
  refine au ai fun aG k=>?_
  subst aG
  have ax:=T.kg k
  cases c' with
  |true=>
   refine oB e2 fun q e3 e4=>?_
   refine oB e3 fun q' e5 e6=>?_
   obtain rfl:=Aa e6
   refine Bd (zE (hA F _ env _ _ _ _ _ F s₂ _ .next ax e3) fun fw ao aq=>?_)
   obtain⟨hf,fu,kq,aM⟩:=aq
   obtain rfl:fw= .next:=hf
   refine oB e4 fun p e7 e8=>?_
   refine oI e8 fun k9 e8=>?_
   refine oM e8 fun vb e9 qy=>?_
   refine Bd (F6 (zE (hE env _ _ ao _ p aM.pre e7) fun u aS aU=>hR u aS ?_))
   obtain⟨k,ms,ru,f⟩:=aU
   have H:=aM.held (f k9) (own:=true)
   exact Sx de (aM.kg k) e9 qy ru (H.o rfl).1 (fun a ha=>((H.o rfl).2 a ha).1) H.f
  |false=>
   refine oB e2 fun q e3 e4=>?_
   refine oI e4 fun hnx e4=>?_
   refine oB e4 fun p e5 e6=>?_
   refine oI e6 fun Sy e6=>?_
   refine oM e6 fun vb e9 qy=>?_
   obtain⟨g₁,fl⟩:=q
   obtain rfl:fl= .next:=zXh hnx
   refine Ei (DW (a:=[s1,s2]) (y7 F) ax e3 fun N' F' s' T'=>?_)
   refine aJ (zWw Sy) fun l hl=>?_
   subst hl
   obtain⟨u,a,ru⟩:=T'.rd zw 5 _ hz (Sq e5)
   refine Bd (F6 (Bt (zU T'.kind a (hR u _ ?_) (wW bC)) (wE bC)))
   refine jT ru.inv fun sg us ns cQ bq _ hN=>?_
   obtain rfl:=bq.aD Sy
   have htp:=T'.bO 5 (.head _) sg [] hN
   exact Sx de (T'.kg (du s' _)) e9 qy (ru.sub fun _ _ e=>e) (hN▸Dl.mpr ⟨Aq,Er⟩) (fun a ha=>by rw[hN]at ha;exact Ae.mp ha▸htp.1) (fun a ha=>(T'.foot a ha).2.2.1 5)
 exact go _ fun u s' ⟨ms,h1,h2,h3,h4,h5⟩=>⟨u,ms,rfl,h1,h2,h3,h4,h5⟩
end
noncomputable def MZ:PT:=(.cmp .Eq (.var 0) (.list .nil))
noncomputable def DX:PE:=(.comp (.ite (.cmp .Eq (.var 4) (.var 8)) (.lit (.int 0)) (.lit (.int 1000))) (.items (.var 3)) .nil)
noncomputable def k1:PS:=(.assign 5 (.list (.cons (.lit (.int 0)) (.cons (.lit (.int 0)) (.cons (.lit (.int 0)) (.cons (.lit (.int 0)) .nil))))))
noncomputable def y8:PT:=(.cmp .NotEq (.var 0) (.list .nil))
noncomputable def Sz:PS:=(.assign 6 (.lit (.int 2)))
noncomputable def kW1:PS:=(.ox (.and (.cons (.cmp .LtE (.var 6) (.bi 0 (.cons (.var 0) .nil))) (.cons (.not (.eG (.uc 3 (.cons (.me 0 (.lit (.str [])) (.cons (.bD (.var 0) .no (.yes (.var 6)) .no) .nil)) .nil)))) .nil))) (.cons (.aug .Add 6 (.lit (.int 2))) .nil))
noncomputable def sF:PE:=(.bD (.var 0) (.yes (.lit (.int 1))) (.yes (.bin .Sub (.var 6) (.lit (.int 1)))) .no)
noncomputable def SA:PS:=(.assign 5 (.comp (.bin .Add (.idx (.var 5) (.var 8)) (.bi 2 (.cons (.comp (.bin .Add (.idx (.var 7) (.var 9)) (.idx (.idx (.var 2) (.var 8)) (.var 9))) (.ei (.lit (.int 4))) .nil) .nil))) (.ei (.lit (.int 4))) .nil))
noncomputable def SD:PS:=(.assign 0 (.bD (.var 0) (.yes (.var 6)) .no .no))
noncomputable def iU(i:Nat):Sg->Option PV:=fun g=>(g.σ[i]?).bind id
noncomputable def newD(U:Uc)(pe:PE):Sg->Option PV:=fun g=>(ev U pe g.σ).bind fun p=>if fresh pe p then some p else none
noncomputable def DY(U:Uc)(fL:FL):Den:=zX (den U Sz) (zX (den U kW1) (zX (yY 7 (uy fL 1 (newD U sF) (iU 2) (iU 3))) (zX (den U SA) (zX (den U SD) az))))
noncomputable def kD(U:Uc)(fL:FL):Den:=zX (den U k1) (zX (nr U y8 (DY U fL) 64) az)
noncomputable def nH(U:Uc)(fget:aj->Option (aj×List Nat)):Nat->FL
 |0=>fun _ _ _ _ _=>none
 |n+1=>DV U fget MZ DX (kD U (nH U fget n))
theorem zO.ck{X:Ctx}{tv dv:List Nat}{st:Stmt}{rest:List Stmt}{f h:Den}(h1:zN X tv dv st f)(h2:zO X tv dv tv dv rest h):zO X tv dv tv dv (st::rest) (zX f h):=zO.cons h1 h2 (xR _) (xR _) (xR _) (xR _)
section
variable{mg mb:Str->Option Value}(w:Cn)(G:jM mg mb)
noncomputable def WL(n:Nat):bu:=(W6 w G).more (n+(W6 w G).D) (Eg ..)
variable{fget:aj->Option (aj×List Nat)}(gu:∀b b' r,fget b=some (b',r)->jH (W3 w G).U b b' r)
include gu in
theorem SE(n:Nat)(F:List Addr)(Cc:Cx):MU gw 97 87 ⟨WL w G n,wG gw 97 F,Cc⟩ fget where
 D:=⟨n+5,rfl,_,mf.more (yDo w G) rfl rfl (fun _ x=>x) (Ad (by decide:4<=5) (Eg ..)),gu⟩
 og:=fun h (hh:fX mg mb h)=>by
  obtain⟨o,pm,cd,doc,e1,e2,e3,_⟩:=hh.yr
  exact tD o _ e1 e2 e3
theorem y9(n:Nat)(F:List Addr)(Cc:Cx):eU gw 97 96 73 80 87 94 ⟨WL w G n,wG gw 97 F,Cc⟩:=MT (W:=WL w G n) (fun _ x=>x) Cc F
include gu in
theorem SF:∀n,MV (W6 w G) gw 97 (n+(W6 w G).D) 149 (nH (W6 w G).U fget n)
 |0=>fun A s v b b' p0 p2 p3 r vs ns F hr hl hv ho hw e=>nn e
 |n+1=>by
  have fn:=SF n
  have ok:cM (WL w G n) bj:=mO G rfl
  rw[show n+1+(W6 w G).D=(WL w G n).D+1 from Nat.succ_add ..]
  refine zO2 (W:=WL w G n) (Cc:=aF 22) (z0:= "pieces") (zb:= "book") (z2:= "costs") (z3:= "sent") (zw:= "whole") (scope:=lz PB 22) (params:=vQ PB 22) (name:=vR PB 22) rfl (by decide+kernel) (fun F=>y9 w G n F _) (fun h hh=>hh.kM) (by decide+kernel) (fun pm cd doc v0 v1 v2 v3=>rfl)
   (uw (r:=cT (cE 24) (aF 22) 5 _) (by decide+kernel) rfl _ ok) (fun F=>?_) (wS (r:=cE 24 (aF 22) _) (by decide+kernel) rfl _ ok) (fun F=>?_) (by rfl) (by decide+kernel)
  ·exact zN.assign (x:= "word") (by rfl) (.inl rfl) (wV.mP (z:= "book") (y9 w G n F _) (SE w G gu n F _) (by rfl) (by decide+kernel) (by rfl)) (fun env hn=>rfl)
  ·refine zO.ck (yX (C:=aF 22) (by decide+kernel) rfl _ rfl ok) (zO.ck (zN.lX 64 (uw (r:=cT (cE 24) (aF 22) 5 _) (by decide+kernel) rfl _ ok) ?_) (zO.nil rfl rfl))
   refine zO.ck (yX (C:=aF 22) (by decide+kernel) rfl _ rfl ok) (zO.ck (yX (C:=aF 22) (by decide+kernel) rfl _ rfl ok) (zO.ck ?_ (zO.ck (yX (C:=aF 22) (by decide+kernel) rfl _ rfl ok) (zO.ck (yX (C:=aF 22) (by decide+kernel) rfl _ rfl ok) (zO.nil rfl rfl)))))
   refine zN.assign (x:= "below") (by rfl) (.inl rfl) (wV.least (zl:= "_law_least") (zb:= "book") (y9 w G n F _) fn (Br _) (by rfl) G.f9 (by decide+kernel) (fun h hh=>eR.obj hh.kM) (by rfl) (by decide+kernel) (kO.new (by rfl) (wS (r:=cE 24 (aF 22) _) (by decide+kernel) rfl _ ok)) (kO.var (by rfl) (by decide+kernel)) (kO.var (by rfl) (by decide+kernel))) (fun env hn=>rfl)
end
noncomputable def m0:PS:=(.assign 2 (.comp (.bin .Mod (.bin .Add (.var 28) (.bi 1 (.cons (.bD (.var 0) (.yes (.var 27)) .no (.yes (.lit (.int 5)))) .nil))) (.lit (.int 1000000))) (.enum (.list (.cons (.lit (.int 5)) (.cons (.lit (.int 36)) (.cons (.lit (.int 67)) (.cons (.lit (.int 22)) (.cons (.lit (.int 54)) .nil))))))) .nil))
noncomputable def m1:PS:=(.assign 3 (.bi 1 (.cons (.var 2) .nil)))
noncomputable def m2:PS:=(.assign 4 (.lit (.str [])))
noncomputable def m3:PS:=(.assign 5 (.list .nil))
noncomputable def m4:PS:=(.forR 1 (.lit (.int 5)) (.cons (.aug .Add 4 (.lit (.str [40]))) (.cons (.assign 6 (.bin .Sub (.me 2 (.var 4) (.cons (.lit (.str [40])) .nil)) (.me 2 (.var 4) (.cons (.lit (.str [41])) .nil)))) (.cons (.assign 7 (.ite (.cmp .Eq (.var 1) (.lit (.int 4))) (.var 6) (.bin .Mod (.bin .FloorDiv (.idx (.var 2) (.var 1)) (.lit (.int 24))) (.bin .Add (.var 6) (.lit (.int 1)))))) (.cons (.aug .Add 4 (.bin .Mult (.lit (.str [41])) (.var 7))) (.cons (.ifs (.cmp .Gt (.var 7) (.lit (.int 0))) (.cons (.append 5 (.var 1)) .nil) .nil) .nil))))))
noncomputable def m5:PS:=(.assign 8 (.idx (.list (.cons (.lit (.str [])) (.cons (.lit (.str [92,40])) (.cons (.lit (.str [92,41])) (.cons (.lit (.str [34,40,34])) (.cons (.lit (.str [34,41,34])) (.cons (.lit (.str [34,92,34,41,34])) (.cons (.lit (.str [92,92])) (.cons (.lit (.str [92,34])) (.cons (.lit (.str [34])) .nil)))))))))) (.bin .Mod (.var 3) (.lit (.int 9)))))
noncomputable def m6:PS:=(.assign 9 (.bin .Add (.lit (.int 1)) (.bin .Mult (.bin .Mod (.var 3) (.lit (.int 5))) (.lit (.int 2)))))
noncomputable def m7:PS:=(.assign 10 (.comp (.bin .Add (.idx (.var 4) (.var 27)) (.ite (.or (.cons (.cmp .Eq (.var 27) (.bin .Mod (.bin .FloorDiv (.var 3) (.lit (.int 9))) (.lit (.int 10)))) (.cons (.and (.cons (.cmp .Gt (.bi 0 (.cons (.var 8) .nil)) (.lit (.int 2))) (.cons (.cmp .Eq (.var 27) (.bin .Mod (.bin .Add (.bin .FloorDiv (.var 3) (.lit (.int 9))) (.var 9)) (.lit (.int 10)))) .nil))) .nil))) (.var 8) (.lit (.str [])))) (.ei (.lit (.int 10))) .nil))
noncomputable def m8:PS:=(.assign 11 (.idx (.list (.cons (.lit (.str [])) (.cons (.lit (.str [32])) (.cons (.lit (.str [34])) (.cons (.lit (.str [92])) (.cons (.lit (.str [9])) (.cons (.lit (.str [45])) .nil))))))) (.bin .Mod (.var 3) (.lit (.int 6)))))
noncomputable def SG:PS:=(.assign 13 (.comp (.uc 4 (.cons (.var 27) .nil)) (.items (.var 12)) .nil))
noncomputable def SH:PS:=(.assign 14 (.comp (.uc 5 (.cons (.idx (.var 12) (.bin .Mod (.idx (.var 2) (.var 27)) (.lit (.int 4)))) (.cons (.idx (.list (.cons (.lit (.str [32,9,92])) (.cons (.lit (.str [32,9,92,97,66,34,45])) .nil))) (.bin .Mod (.bin .FloorDiv (.idx (.var 2) (.var 27)) (.lit (.int 4))) (.lit (.int 2)))) .nil))) (.items (.var 5)) .nil))
noncomputable def SI:PS:=(.assign 15 (.uc 4 (.cons (.me 0 (.lit (.str [])) (.cons (.comp (.bin .Add (.var 27) (.idx (.list (.cons (.lit (.str [10])) (.cons (.lit (.str [13])) (.cons (.lit (.str [13,10])) .nil)))) (.bin .Mod (.bin .FloorDiv (.idx (.var 2) (.var 28)) (.lit (.int 8))) (.lit (.int 3))))) (.zip (.var 14) (.var 5)) .nil) .nil)) .nil)))
noncomputable def M0:PS:=(.ifs (.cmp .NotEq (.var 15) (.me 0 (.lit (.str [])) (.cons (.comp (.bin .Add (.bin .Add (.lit (.str [46])) (.var 27)) (.lit (.str [13,10]))) (.items (.var 14)) .nil) .nil))) (.cons (.ret (.lit (.bool false))) .nil) .nil)
noncomputable def SJ:PS:=(.assign 16 (.comp (.comp (.uc 1 (.cons (.idx (.var 12) (.var 27)) (.cons (.idx (.var 13) (.var 28)) (.cons (.bin .Sub (.bin .Add (.bin .Add (.lit (.int 2)) (.bi 4 (.cons (.bin .Sub (.bin .FloorDiv (.var 27) (.lit (.int 2))) (.bin .FloorDiv (.var 28) (.lit (.int 2)))) .nil))) (.bi 4 (.cons (.bin .Sub (.bin .Mod (.var 27) (.lit (.int 2))) (.bin .Mod (.var 28) (.lit (.int 2)))) .nil))) (.bin .Mod (.bin .Add (.var 27) (.var 3)) (.lit (.int 2)))) .nil)))) (.ei (.lit (.int 4))) .nil) (.ei (.lit (.int 4))) .nil))
noncomputable def M1:PS:=(.ifs (.cmp .IsNot (.uc 3 (.cons (.me 0 (.lit (.str [])) (.cons (.var 10) .nil)) .nil)) (.lit (.bool true))) (.cons (.ret (.lit (.bool false))) .nil) .nil)
noncomputable def M3:PS:=(.ifs (.cmp .IsNot (.uc 3 (.cons (.bin .Add (.bin .Add (.lit (.str [40,41])) (.me 0 (.lit (.str [])) (.cons (.bin .Add (.bD (.var 10) (.yes (.var 9)) .no .no) (.bD (.var 10) .no (.yes (.var 9)) .no)) .nil))) (.lit (.str [40,41]))) .nil)) (.lit (.bool false))) (.cons (.ret (.lit (.bool false))) .nil) .nil)
noncomputable def M4:PS:=(.assign 19 (.list (.cons (.lit (.int 10)) (.cons (.lit (.int 10)) (.cons (.lit (.int 10)) (.cons (.lit (.int 10)) .nil))))))
noncomputable def M5:PS:=(.ret (.cmp .Eq (.var 18) (.var 19)))
noncomputable def M6:PS:=(.assign 22 (.neg (.lit (.int 1))))
noncomputable def za:PS:=(.forR 23 (.lit (.int 10)) (.cons (.ifs (.cmp .Eq (.idx (.var 4) (.var 23)) (.lit (.str [40]))) (.cons (.aug .Add 22 (.lit (.int 1))) (.cons (.append 21 (.list (.cons (.lit (.int 0)) (.cons (.lit (.int 0)) .nil)))) .nil)) (.cons (.ix 24 21) (.cons (.ifs (.cmp .Eq (.idx (.var 4) (.bin .Sub (.var 23) (.lit (.int 1)))) (.lit (.str [40]))) (.cons (.assign 25 (.bin .Mod (.bin .FloorDiv (.idx (.var 2) (.var 22)) (.var 20)) (.lit (.int 2)))) (.cons (.assign 24 (.list (.cons (.var 25) (.cons (.bin .Sub (.lit (.int 1)) (.var 25)) .nil)))) .nil)) .nil) (.cons (.ix 26 21) (.cons (.append 21 (.comp (.bin .Add (.idx (.var 26) (.var 27)) (.bi 3 (.cons (.idx (.var 24) (.var 27)) (.cons (.bin .Add (.bi 2 (.cons (.var 24) .nil)) (.lit (.int 1))) .nil)))) (.ei (.lit (.int 2))) .nil)) .nil))))) .nil))
noncomputable def M7:PS:=(.assign 19 (.comp (.bin .Add (.idx (.var 19) (.var 27)) (.idx (.idx (.var 21) (.lit (.int 0))) (.bin .Mod (.bin .FloorDiv (.var 27) (.var 20)) (.lit (.int 2))))) (.ei (.lit (.int 4))) .nil))
noncomputable def mA:ea:= .cons m0 (.cons m1 (.cons m2 (.cons m3 (.cons m4 (.cons m5 (.cons m6 (.cons m7 (.cons m8 (.nil)))))))))
noncomputable def mB:ea:= .cons SG (.cons SH (.cons SI (.cons M0 (.cons SJ (.nil)))))
noncomputable def uA:PE:= .bin .Add (.bin .Add (.bin .Add (.bin .Mult (.lit (.str [46])) (.bin .Add (.lit (.int 1)) (.bin .Mod (.bin .FloorDiv (.var 3) (.lit (.int 6))) (.lit (.int 3))))) (.var 27)) (.var 11)) (.var 28)
noncomputable def M8:PE:= .list (.cons (.lit (.int 0)) (.cons (.lit (.int 0)) .nil))
noncomputable def SK:PE:= .list (.cons (.lit (.int 2)) (.cons (.lit (.int 1)) .nil))
noncomputable def EA:PE:= .bin .Add (.lit (.int 1)) (.bi 0 (.cons (.var 5) .nil))
section
variable{R:bW}{C N₀ fI fR fG fP:Addr}{X:Ctx}{tv dv:List Nat}{fget:aj->Option (aj×List Nat)}
noncomputable def M9(U:Uc)(fget:aj->Option (aj×List Nat))(i:Nat)(pe:PE):Den:=fun g=>(gX g i).bind fun vb=>(fget vb.2).bind fun q=>(ev U pe g.σ).bind fun p=>if q.2.isEmpty&&AJ .NotEq (.int q.1.line) p==some false then some ({g with β:=some (vb.1,q.1)}, .next)else none
theorem zN.mR(Y:eU R C N₀ fI fR fG fP X)(Z:MU R C fG X fget){z:Str}{i:Nat}{k1:Nat}{p0 ap cp p1 fC q1 q2 q4 q5 q6:Bz}{en:Expr}{pn:PE}{body:List Stmt}(hz:X.C.Γ.lookup z=some i)(bC:bad z=false)(aV:(ap.endLine==cp.line)=true)(hEn:av X.W X.C en pn)(hen:Je .NotEq en=false):
  zN X tv dv (.If (.BoolOp .Or [.Compare (.Call (.Attribute (.Name z p0) "get_token" ap) [] [] cp) [.NotEq] [.Constant (.str "") k1 q1] q2, .Compare (.Attribute (.Name z p1) "lineno" fC) [.NotEq] [en] q4] q5) body [] q6) (M9 X.W.U fget i pn):=fun K env A E s₀ g N F s g' fl T e=>by
 obtain⟨⟨v,b⟩,e1,e2⟩:=wO e
 obtain⟨⟨b',r⟩,e3,e4⟩:=wO e2
 obtain⟨p,e5,e4⟩:=wO e4
 refine oI e4 fun hc e4=>?_
 refine au (A9.mp hc) fun aG hc=>?_
 obtain rfl:=List.isEmpty_iff.mp aG
 refine au (Bg (Aa e4)) fun aG aP=>?_
 subst aG
 subst aP
 refine au (qn e1) fun bp bV=>?_
 have e0:ux fget i g=some ({g with β:=some (v,b')}, .str []):=by
  refine(?_:(gX g i).bind _=_)
  refine af e1 ?_
  refine(?_:(fget b).map _=_)
  refine af e3 ?_;rfl
 refine Lu (Ii (Hk (F3 (zE (wV.mP (tv:=tv) (dv:=dv) Y Z hz bC aV K env A E s₀ g N F s _ _ T e0) fun u aa ah=>?_) rfl)))
 obtain⟨N',F',ms,aW,aA,_⟩:=ah
 refine Dp (zE (u2 (op:= .NotEq) (x:= .str []) (y:= .str []) (b:=false) (du aa _) (aA.sub fun _ _ e=>e) (.str [] _) (u6 aW.room) rfl) fun JO s₂ ai=>?_)
 refine au ai fun aG k₂=>?_
 subst aG
 refine F4 ?_
 have ax:=aW.kg k₂
 have sH:({g with β:=some (v,b')}:Sg).β=some (v,b'):=rfl
 obtain⟨x,dx,st,ds,lam,cc,cell,sg,pb,rfl,hF,L,nE⟩:=ax.lex Y sH
 refine Hk (F3 (Gh (Bt (zU ax.kind (ax.self hz bp) (QM L (Y.cls _ ax.pre.wd) fun t=>zE (hEn env _ _ _ _ p (ax.kg (du s₂ _)).pre e5) fun aad ao aq=>?_) (wW bC)) (wE bC))) hen)
 obtain⟨bF,SM,mQ,_⟩:=aq
 have aM:=(ax.kg (du s₂ _)).kg bF
 refine zE (u2 (op:= .NotEq) (x:= .int b'.line) (y:=p) (b:=false) (jz ao) (.int _ _) mQ (u6 aM.room) (eq_of_beq hc)) fun JR aS aU=>?_
 refine au aU fun aG cf=>?_
 subst aG
 refine F4 (wpAny_allTrue_Or_nil ?_)
 exact Ei ⟨rfl,N',F',aM.kg cf⟩
theorem zW1{K:Addr->Option Obj}{env:Dv}{A:Al}{s₀ s:Ab}{g:Sg}{N:Nat->List Addr}{F:List Addr}{P fM:Addr}{W:bu}{Cx₀:Cx}{E:Value->Ab->Prop}{Q:Ls->Ab->Prop}
  (T:aw ⟨W,qt P #[],Cx₀⟩ tv dv K env A s₀ g N F s) (bV:g.β=some (.none,eQ)) {D:Nat} (hD:D+1=W.D) (fn:sf W R C D fM P) {zb zm zs:Str} {i j:Nat} {text:List Nat} {p1 p2 p3 cp ap:Bz}
  (hb:Cx₀.Γ.lookup zb=some i) (hi:i∉tv/\i∉dv) (hm:Cx₀.kn.lookup zm=some .globalImplicit) (hmb:bad zm=false) (hg:W.mg zm=some (.ref fM)) (ho:∀h,W.Wd h->∃o fd,h.get? fM=some o/\o.data= .func fd)
  (hs:Cx₀.Γ.lookup zs=some j) (iB:bad zs=false) (bp:g.σ[j]?=some (some (.str text))) (hlen:text.length<=ag) (pg:∀x c,env.cells.lookup x=some c->Cx₀.kn.lookup x=some .cell)
  (h:∀v F' ps K' N' s',aw ⟨W,wG R C F',Cx₀⟩ tv dv K' env A s₀ {g.set i (.obj v)with β:=some (v,⟨text,1,[]⟩)} N' F' s'->(∀b o,K b=some o->K' b=some o)->K' P=some (G2 ps)->Q .next s'):
  Am (Af W.prog W.w) A (exec (.Assign [.Name zb p1] (.Call (.Name zm p2) [.Name zs p3] [] cp) ap) env) Q E s:=by
 have T:=T
 refine au (T.book _ _ bV) fun aG hP=>?_
 subst aG
 refine dY (ho _ T.pre.wd) fun o fd MW gj=>?_
 obtain⟨u,acc,ru⟩:=T.rd zs j _ hs bp
 refine Hf ?_ rfl
 refine Eo rfl ?_
 refine A6 T.kind (by unfold Be;refine af T.names ?_;exact hm) (Dh (mg:=W.mg) ?_ hg ?_) (wE hmb)
 ·refine af T.gl ?_;exact W.g T.pre.wd
 refine Jx gj ?_ (zF rfl [] env)
 refine af (zF rfl [] env) ?_
 refine Ba (Bt (zU T.kind acc (B7 ?_) (wW iB)) (wE iB))
 have aW:=T.kg (du s (s.toks+1))
 refine cj MW (F8 (E4 (fn A _ u text (T.room.less hD) (BN ru rfl) hP hlen (fun h hh=>T.eO h fun b o e=>hh b o (fun q=>by rw[(T.foot b q).1]at e;exact nn e) (T.kept b o e))) fun res s' hr=>?_))
 obtain⟨v,F',ps,rfl,eK,hkp,mw,ze,kE⟩:=hr
 have TA:=(T.jh (BK:=oY P) (β:=some (.none,eQ)) fun v b e=>⟨rfl,_,hP⟩)
 have TB:=TA.t7 (s':=s') (v:= .none) (b':=eQ) (((yZ.refl s).heap s.heap _).trans eK) (fun a o ha e=>hkp a o (fun q=>ha (by refine af q ?_;exact B0 P)) e) ⟨rfl,_,mw⟩
 have foot:=T.foot P (B0 P)
 have TC:=(TB.jh (BK:=wG R C F') (β:=none) fun v b e=>by exact nn e).rB rfl
 have TD:=TC.freeze (fp:=[P])
  {loc:=fun hm=>foot.2.2.2.1 (Ae.mp hm).symm
   cls:=fun x c e1 e2 hm=>foot.2.2.2.2 x c e2 (Ae.mp hm).symm
   f:=fun a ha=>nomatch ha
   t:=fun k hk a r e hm=>foot.2.2.1 k (by(refine af e ?_;refine af (Ae.mp hm) ?_);exact Ai ..)
   d:=fun k hk a ha hm=>foot.2.2.1 k (by refine ct (Ae.mp hm) ?_;exact ha)}
 have old:∀a,(∃o,s.heap.get? a=some o)->a∉F':=fun a ⟨o,e⟩ hm=>by rw[kE a hm]at e;exact nn e
 have MQ:∀a∈F',a≠P:=fun a ha q=>old P ⟨_,hP⟩ (q▸ha)
 have TE:aw ⟨W,wG R C F',Cx₀⟩ tv dv (oo K [P] s'.heap) env A s₀ {g with β:=some (v,⟨text,1,[]⟩)} N F' s':=
  {TD with
   book:=fun u b e=>by obtain⟨rfl,rfl⟩:=Bg (Aa e);exact⟨rfl,ze⟩
   foot:=fun a ha=>by
    refine uT ?_ (ze.bU a ha) (fun k hk=>?_) (fun q=>?_) (fun x c e q=>?_)
    ·rw[wP (fun hm=>MQ a ha (Ae.mp hm))]
     cases q:K a with
     |none=>rfl
     |some o=>exact absurd ha (old a ⟨o,T.kept a o q⟩)
    ·refine gc (T.nd k a hk) fun _ _ e=>?_
     exact old a ⟨_,e⟩ ha
    ·refine tm T.loc fun m o es ep e1 _=>?_
     exact old a ⟨o,q▸e1⟩ ha
    ·refine au (T.cls x c (pg x c e) e) fun bL _=>?_
     refine dY bL fun w' o e1 _=>?_
     exact old a ⟨o,q▸e1⟩ ha}
 refine zE (TE.store hb (.obj v) (eu.nil (own:=true)) (.inl rfl)) fun _ s₂ ax=>?_
 refine h v F' ps _ _ s₂ ax (fun b o e=>?_) ((lr (B0 P)).trans mw)
 rw[wP (fun hm=>by rw[Ae.mp hm,foot.1]at e;exact nn e)];exact e
end
noncomputable def Na(U:Uc):Den:=yY 12 (Sj U uA [97,65] [98,66])
noncomputable def SN(fL:FL):Den:=yY 18 (uy fL 17 (iU 10) (iU 16) (iU 13))
noncomputable def SO(U:Uc):Den:=tT (fun g=>(ev U SK g.σ).bind fun p=>if fresh SK p then pL p else none) [20] (zX (yY 21 (DB U M8)) (zX (den U M6) (zX (den U za) (zX (den U M7) az))))
noncomputable def Nb(U:Uc)(fget:aj->Option (aj×List Nat))(fL:FL):Den:=zX (SN fL) (zX (M9 U fget 17 EA) (zX (den U M1) (zX (den U M3) (zX (den U M4) (zX (SO U) (zX (den U M5) az))))))
theorem yDb(x:Str):(aF 23).kn.lookup x≠some .free:=BJ (C:=aF 23) (by decide+kernel) x
theorem zO.ce{X:Ctx}{tv dv:List Nat}{b:List Stmt}{i:Nat}{hi:i<b.length}{f h:Den}(h1:zN X tv dv b[i] f)(h2:zO X tv dv tv dv (b.drop (i+1)) h):zO X tv dv tv dv (b.drop i) (zX f h):=A5 hi▸zO.ck h1 h2
theorem zZp(X:Ctx)(hX:X.C=aF 23)(ok:cM X.W bj):zO X [5,21] [] [21] [] ((yO PB 23).take 9) (zT X.W.U mA):=
 vO (q:=mA) (d:= .nil) (r:=PH (tab:=bj) (aF 23) [] [21] ((yO PB 23).take 9) (Ay 4 [5,21]++Ay 5 [21]) [5,21]) (by decide+kernel) rfl X hX ok
theorem zZj(X:Ctx)(hX:X.C=aF 23)(ok:cM X.W bj):zO X [21] [] [21] [] (((yO PB 23).drop 10).take 5) (zT X.W.U mB):=uv (by decide+kernel) rfl X hX ok
theorem yBi(X:Ctx)(hX:X.C=aF 23)(ok:cM X.W bj):zN X [21] [] ((yO PB 23)[9]) (Na X.W.U):=by
 subst_vars
 obtain⟨W,BK,C⟩:=X
 have hX:C=aF 23:=hX
 subst hX
 refine zN.assign (x:= "words") (by rfl) (.inl rfl) (wV.two (x:= "one") (y:= "other") (by refine(?_:kc (aF 23) _ _=true);decide+kernel) (by decide) (wS (r:=cE 24 ((aF 23).dZ _ ["one", "other"]) _) (by decide+kernel) rfl _ ok)) (fun env hn=>PD (by unfold Be;rw[hn];rfl))
section
variable{mg mb:Str->Option Value}(w:Cn)(G:jM mg mb)
variable{fget:aj->Option (aj×List Nat)}(gu:∀b b' r,fget b=some (b',r)->jH (W3 w G).U b b' r)
noncomputable abbrev XC(F:List Addr):Ctx:=⟨WL w G 6,wG gw 97 F,aF 23⟩
include gu in
theorem zVh(F:List Addr):zO (XC w G F) [21] [] [21] [] ((yO PB 23).drop 16) (Nb (W6 w G).U fget (nH (W6 w G).U fget 6)):=by
 have ok:cM (WL w G 6) bj:=mO G rfl
 have h18:zN (XC w G F) [21] [] ((yO PB 23)[18]) (den (W6 w G).U M1):=yX (C:=aF 23) (by decide+kernel) rfl (XC w G F) rfl ok
 have Nc:zN (XC w G F) [21] [] ((yO PB 23)[19]) (den (W6 w G).U M3):=yX (C:=aF 23) (by decide+kernel) rfl (XC w G F) rfl ok
 have Nd:zN (XC w G F) [21] [] ((yO PB 23)[20]) (den (W6 w G).U M4):=yX (C:=aF 23) (by decide+kernel) rfl (XC w G F) rfl ok
 have Nf:zN (XC w G F) [21] [] ((yO PB 23)[22]) (den (W6 w G).U M5):=yX (C:=aF 23) (by decide+kernel) rfl (XC w G F) rfl ok
 refine zO.ce (i:=16) (hi:=by decide+kernel) ?_ ?_
 rotate_left
 refine zO.ce (i:=17) (hi:=by decide+kernel) ?_ ?_
 rotate_left
 refine zO.ce (i:=18) h18 (zO.ce (i:=19) Nc (zO.ce (i:=20) Nd ?_))
 refine zO.ce (i:=21) (hi:=by decide+kernel) ?_ (zO.ce (i:=22) Nf (zO.nil rfl rfl))
 rotate_left
 ·exact zN.assign (x:= "told") (by rfl) (.inl rfl) (wV.least (zl:= "_law_least") (zb:= "book") (y9 w G 6 F _) (SF w G gu 6) (Br _) (by rfl) G.f9 (by decide+kernel) (fun h hh=>eR.obj hh.kM) (by rfl) (by decide+kernel) (kO.var (by rfl) (by decide+kernel)) (kO.var (by rfl) (by decide+kernel)) (kO.var (by rfl) (by decide+kernel))) (fun env hn=>rfl)
 ·exact zN.mR (z:= "book") (y9 w G 6 F _) (SE w G gu 6 F _) (by rfl) (by decide+kernel) (by rfl) (wS (r:=cE 24 (aF 23) _) (by decide+kernel) rfl _ ok) (by rfl)
 ·refine zN.vG (lq.items (x:= "half") (wS (r:=cE 24 (aF 23) _) (by decide+kernel) rfl _ ok)) (.cons (by rfl) .nil) (fun k hk=>by simp at hk⊢;subst hk;decide) ?_ (fun env x=>wU rfl env x) yDb
  refine zO.ck (zN.assign (x:= "pile") (by rfl) (.inl rfl) (wV.nest (by rfl) (wS (r:=cE 24 (aF 23) _) (by decide+kernel) rfl _ ok)) (fun env hn=>rfl)) ?_
  exact zO.ck (yX (C:=aF 23) (by decide+kernel) rfl (XC w G F) rfl ok) (zO.ck (yX (C:=aF 23) (by decide+kernel) rfl (XC w G F) rfl ok) (zO.ck (yX (C:=aF 23) (by decide+kernel) rfl (XC w G F) rfl ok) (zO.nil rfl rfl)))
end
theorem sf.more{W W':bu}{R:bW}{C:Addr}{D D':Nat}{f P:Addr}(h:sf W R C D f P)(hp:W'.prog=W.prog)(hw:W'.w=W.w)(hd:∀h,W'.Wd h->W.Wd h)(hD:D<=D'):sf W' R C D' f P:=by
 intro A s u text hr hu hP hs eJ
 have:=h A s u text (hr.le hD) hu hP hs fun h k=>hd h (eJ h k)
 rw[hp,hw];exact this
theorem pj{f:Den}{g g₁:Sg}(e:f g=some (g₁, .next)):zX f az g=some (g₁, .next):=by unfold zX;rw[e];rfl
section
variable{mg mb:Str->Option Value}(w:Cn)(G:jM mg mb)
set_option maxHeartbeats 1000000 in
theorem zXw{fget:aj->Option (aj×List Nat)}(gu:∀b b' r,fget b=some (b',r)->jH (W3 w G).U b b' r){A:Al}{s:Ab}{p:PV}{v:Value}{ns:List Addr}{cb fE jN:List (Option PV)}{sI:List Nat}
  (aN:wH 13 A) (eJ:∀h:Ap,(∀a o,a∉ [134]->s.heap.get? a=some o->h.get? a=some o)->fX mg mb h) (hf:eR PB s.heap 154 23) (hP:s.heap.get? 134=some (G2 #[]))
  (hv:VR s.heap p v ns) (bY:134∉ns)
  (hA:zT (W6 w G).U mA (ey (aF 23) [p] (some (.none,eQ)))=some (⟨cb,some (.none,eQ)⟩, .next)) (h9:Na (W6 w G).U ⟨cb,some (.none,eQ)⟩=some (⟨fE,some (.none,eQ)⟩, .next)) (hB:zT (W6 w G).U mB ⟨fE,some (.none,eQ)⟩=some (⟨jN,some (.none,eQ)⟩, .next)) (bp:jN[15]?=some (some (.str sI))) (hlen:sI.length<=ag)
  (hC:∀u,∃g',Nb (W6 w G).U fget (nH (W6 w G).U fget 6) ⟨jN.set 17 (some (.obj u)),some (u,⟨sI,1,[]⟩)⟩=some (g', .ret (.bool true))):
  Ca (Af PB w) A (.call (.ref 154) ⟨[v],[]⟩) (fun res s'=>res= .ok (.ret (.bool true))/\yZ s s'/\(∀a o,a≠134->s.heap.get? a=some o->s'.heap.get? a=some o)/\∃ps,s'.heap.get? 134=some (G2 ps)) s:=by
 have ok:cM (WL w G 6) bj:=mO G rfl
 have jG:fX mg mb s.heap:=eJ _ fun a o _ e=>e
 have X0:∀X:Ctx,X=⟨WL w G 6,qt 134 #[],aF 23⟩->X.C=aF 23/\cM X.W bj:=fun X e=>by subst e;exact⟨rfl,ok⟩
 refine KL (X:=⟨WL w G 6,qt 134 #[],aF 23⟩) (tv:=[5,21]) (dv:=[]) (scope:=lz PB 23) (xs:=PI PB 23) (ps:=[p]) (vs:=[v]) (ns:=ns) (β:=some (.none,eQ)) (K:=fq s.heap [134]) (F:=[134]) rfl (by decide+kernel) hf jG.lim aN (fun a o e=>(w0 e).2) (fun h k=>eJ h fun a o h1 h2=>k a o (jF h1 h2))
  (fun v b e=>⟨rfl,hP⟩) (fun a ha=>⟨by exact xU ha rfl,by rw[Ae.mp ha];exact⟨_,hP⟩,by rw[Ae.mp ha];exact bY⟩) (fun pm cd doc=>rfl) (ak.one hv) rfl (by intro i hi;simp at hi;refine(?_:1<=i);lia) fun env cd aa N mu hq gj pg T=>?_
 have zg:∀x c,env.cells.lookup x=some c->(aF 23).kn.lookup x=some .cell:=fun x c e=>by
  have h:∀y∈(lz PB 23).names,y.2= .cell->(aF 23).kn.lookup y.1=some .cell:=by decide+kernel
  exact h _ (pg x c e) rfl
 have eb:yO PB 23=(yO PB 23).take 9++([(yO PB 23)[9]]++(((yO PB 23).drop 10).take 5++((yO PB 23)[15]::(yO PB 23).drop 16))):=rfl
 rw[eb]
 refine DW (zZp ⟨WL w G 6,qt 134 #[],aF 23⟩ rfl ok) T hA fun N F s T=>?_
 refine DW (zO.ck (yBi ⟨WL w G 6,qt 134 #[],aF 23⟩ rfl ok) (zO.nil rfl rfl)) T (pj h9) fun N F s T=>?_
 refine DW (zZj ⟨WL w G 6,qt 134 #[],aF 23⟩ rfl ok) T hB fun N F s T=>?_
 refine Bd ?_
 refine zW1 (W:=WL w G 6) (Cx₀:=aF 23) (zb:= "book") (zm:= "_law_lexer") (zs:= "text") (i:=17) (j:=15) T rfl (D:=11) rfl ((mkB w G).more rfl rfl (fun _ x=>x) (by decide)) (by rfl) (by decide) (by rfl) (by decide+kernel) G.f6 (fun h hh=>eR.obj hh.mG) (by rfl) (by decide+kernel) bp hlen zg fun u F' ps K' N' s' T' hKK mw=>?_
 refine aJ (hC u) fun g' hC=>?_
 refine zE (zVh w G gu F' K' env _ _ _ _ _ _ _ _ _ T' hC) fun fw s₂ ai=>?_
 obtain⟨⟨r,ms,rfl,rv,_⟩,rG,oF,ax⟩:=ai
 cases rv
 exact⟨rfl,ax.same,fun a o ha e=>ax.kept a o (hKK a o (jF (fun q=>ha (Ae.mp q)) e)),ps,ax.kept _ _ mw⟩
end
noncomputable def mS(r:List Nat):Prop:=∀c∈r,c≠13/\c≠10
theorem SP(cr:Bool)(c:Nat)(r:List Nat):cC cr (c::r)=if c==13 then 13::10::cC true r else if c==10 then(if cr then cC false r else 13::10::cC false r)else c::cC false r:=rfl
theorem SQ(b:Bool)(c:Nat)(r:List Nat):dbl b (c::r)=(if b&&c==46 then [46,46]else [c])++dbl (c==10) r:=rfl
theorem SS:∀{row:List Nat} {t:List Nat},mS row->cC false (row++t)=row++cC false t
 |[],t,_=>rfl
 |c::r,t,h=>by
  have hc:=h c (Ai ..)
  have e1:(c==13)=false:=by simpa using hc.1
  have e2:(c==10)=false:=by simpa using hc.2
  rw[B9]
  rw[SP,e1,e2]
  simp only[D6,if_false]
  rw[SS fun d hd=>h d (Aj _ hd)];rfl
theorem zTh{cr:Bool}{row:List Nat}{t:List Nat}(h:mS row)(cU:row≠ []):cC cr (row++t)=row++cC false t:=by
 match row,cU with
 |c::r,_=>
  have hc:=h c (Ai ..)
  have e1:(c==13)=false:=by simpa using hc.1
  have e2:(c==10)=false:=by simpa using hc.2
  rw[B9]
  rw[SP,e1,e2]
  simp only[D6,if_false]
  rw[SS fun d hd=>h d (Aj _ hd)];rfl
theorem SU:∀{row:List Nat} {t:List Nat},mS row->dbl false (row++13::10::t)=row++13::10::dbl true t
 |[],t,_=>rfl
 |c::r,t,h=>by
  have hc:=h c (Ai ..)
  have e2:(c==10)=false:=by simpa using hc.2
  rw[B9]
  rw[SQ,e2]
  simp only[Gf,D6,if_false]
  rw[SU fun d hd=>h d (Aj _ hd)];rfl
noncomputable def EB(row:List Nat):List Nat:=(if row.head?=some 46 then [46]else [])++row++[13,10]
theorem zVm{row:List Nat}{t:List Nat}(h:mS row)(cU:row≠ []):dbl true (row++13::10::t)=EB row++dbl true t:=by
 match row,cU with
 |c::r,_=>
  have hc:=h c (Ai ..)
  have e2:(c==10)=false:=by simpa using hc.2
  rw[B9]
  rw[SQ,e2,SU fun d hd=>h d (Aj _ hd)]
  unfold EB
  by_cases Ng:c=46
  ·subst Ng;simp
  ·have:(c==46)=false:=by simpa using Ng
   simp[Ng]
noncomputable def uB:List (List Nat):=[[10],[13],[13,10]]
theorem SV:∀(cr:Bool) (L:List (List Nat×List Nat)),(∀q∈L,q.1≠ []/\mS q.1/\q.2∈uB)->cC cr (L.flatMap fun q=>q.1++q.2)=L.flatMap fun q=>q.1++[13,10]
 |_,[],_=>by simp[cC]
 |cr,q::L,h=>by
  refine dX (h q (Ai ..)) fun h1 h2 h3=>?_
  have ih:=fun cr=>SV cr L fun q hq=>h q (Aj _ hq)
  rw[Dy,Bf,zTh h2 h1,Dy]
  simp only[uB,Ax,Aq,or_false]at h3
  rcases h3 with h3|h3|h3<;>rw[h3]
  ·refine(?_:q.1++(13::10::cC false (L.flatMap fun q=>q.1++q.2))=_)
   rw[ih];simp
  ·refine(?_:q.1++(13::10::cC true (L.flatMap fun q=>q.1++q.2))=_)
   rw[ih];simp
  ·refine(?_:q.1++(13::10::cC false (L.flatMap fun q=>q.1++q.2))=_)
   rw[ih];simp
theorem SW:∀(L:List (List Nat×List Nat)),(∀q∈L,q.1≠ []/\mS q.1/\q.2∈uB)->dbl true (L.flatMap fun q=>q.1++[13,10])=L.flatMap fun q=>EB q.1
 |[],_=>rfl
 |q::L,h=>by
  refine dX (h q (Ai ..)) fun h1 h2 h3=>?_
  rw[Dy,Dy,Bf]
  refine(?_:dbl true (q.1++13::10::(L.flatMap fun q=>q.1++[13,10]))=_)
  rw[zVm h2 h1,SW L fun q hq=>h q (Aj _ hq)]
theorem zNk(L:List (List Nat×List Nat))(h:∀q∈L,q.1≠ []/\mS q.1/\q.2∈uB):kJ (L.flatMap fun q=>q.1++q.2)=L.flatMap fun q=>EB q.1:=by
 unfold kJ
 rw[SV false L h,SW L h]
noncomputable abbrev pn(n:Nat):PV:= .int (n:Int)
noncomputable abbrev At(σ:List (Option PV))(i:Nat)(p:PV):Prop:=σ[i]?=some (some p)
theorem At.lt{σ:List (Option PV)}{i:Nat}{p:PV}(h:At σ i p):i<σ.length:=(Bc.mp h).1
theorem At.set{σ:List (Option PV)}{i j:Nat}{p q:PV}(h:At σ j q)(cU:i≠j):At (σ.set i (some p)) j q:=by unfold At;rw[By cU];exact h
theorem yN{σ:List (Option PV)}{i:Nat}{p:PV}(h:i<σ.length):At (σ.set i (some p)) i p:=by unfold At;rw[El h]
theorem At.app{σ τ:List (Option PV)}{i:Nat}{p:PV}(h:At σ i p):At (σ++τ) i p:=by unfold At;rw[B4 h.lt];exact h
theorem wZ{σ:List (Option PV)}{n:Nat}{p:PV}{τ:List (Option PV)}(h:σ.length=n):At (σ++some p::τ) n p:=by unfold At;rw[C1 (by exact Cr ‹_›),h,Ly];rfl
section
variable{U:Uc}{σ:List (Option PV)}{β:Option (Value×aj)}
theorem zA{i:Nat}{p:PV}(h:At σ i p):ev U (.var i) σ=some p:=by refine(?_:(σ[i]?).bind id=_);rw[h];rfl
theorem yL{e:PE}{l:List Nat}:fresh e (.str l)=true:=by cases e<;>rfl
theorem zP{e:PE}{n:Int}:fresh e (.int n)=true:=by cases e<;>rfl
theorem zN3{e:PE}{b:Bool}:fresh e (.bool b)=true:=by cases e<;>rfl
theorem zD{i:Nat}{e:PE}{p:PV}(h:ev U e σ=some p)(hf:fresh e p=true):den U (.assign i e) ⟨σ,β⟩=some (⟨σ.set i (some p),β⟩, .next):=by
 refine(?_:(fk U e ⟨σ,β⟩).bind _=_)
 unfold fk
 rw[h]
 refine(?_:(if fresh e p=true then _ else _:Option (Sg×PV)).bind _=_)
 rw[if_pos hf];rfl
theorem zh{i:Nat}{e:PE}{p:PV}{l:List PV}(hl:At σ i (.list l))(h:ev U e σ=some p)(hf:fresh e p=true)(hs:l.length<=ag):den U (.append i e) ⟨σ,β⟩=some (⟨σ.set i (some (.list (l++[p]))),β⟩, .next):=by
 have e1:ll ⟨σ,β⟩ i=some l:=HI hl
 refine(?_:(ll ⟨σ,β⟩ i).bind _=_)
 rw[e1]
 refine(?_:(ev U e σ).bind _=_)
 rw[h]
 refine(?_:(if(fresh e p&&decide (l.length<=ag))=true then _ else _)=_)
 refine xU (by rw[hf];simpa using hs) ?_;rfl
theorem SX{i:Nat}{e:PE}{a b:List Nat}(ha:At σ i (.str a))(h:ev U e σ=some (.str b))(hs:a.length+b.length<=ag):den U (.aug .Add i e) ⟨σ,β⟩=some (⟨σ.set i (some (.str (a++b))),β⟩, .next):=by
 refine(?_:((σ[i]?).bind id).bind _=_)
 rw[ha]
 refine(?_:(ev U e σ).bind _=_)
 rw[h]
 refine(?_:(if a.length+b.length<=ag then some (PV.str (a++b))else none:Option PV).map _=_)
 rw[if_pos hs];rfl
theorem zi{c:PT}{a b:ea}{t:Bool}(h:aY U c σ=some t):den U (.ifs c a b) ⟨σ,β⟩=if t then zT U a ⟨σ,β⟩else zT U b ⟨σ,β⟩:=by
 refine(?_:(aY U c σ).bind _=_)
 rw[h];rfl
theorem uC{n:Nat}(h:n<=16777216):wB (n:Int)=true:=by
 exact A9.mpr ⟨decide_eq_true (by exact yC),decide_eq_true (by exact yA)⟩
theorem SY{n m:Nat}(h:n<m):F2 (n:Int) m=some n:=by
 unfold F2
 simp only[Lg.mpr (Ep n),if_false]
 refine xU (A9.mpr ⟨decide_eq_true (Ep n),decide_eq_true (Int.ofNat_lt.mpr h)⟩) ?_;rfl
theorem zSp{f:List PV->Option (Option PV)}{α:Type}{l:List α}{it:α->List PV}{b:α->Bool}{g:α->PV}(h:∀x∈l,f (it x)=if b x then some (some (g x))else some none):zQ f (l.map it)=some ((l.filter b).map g):=by
 induction l with
 |nil=>rfl
 |cons x l ih=>
  have hx:=h x (Ai ..)
  have ih:=ih fun y hy=>h y (Aj _ hy)
  rw[Ds]
  unfold zQ
  rw[hx]
  cases hb:b x with
  |true=>simp only[if_true];rw[ih,Gk,if_pos hb];rfl
  |false=>simp only[D6,if_false];rw[ih,Gk,if_neg (by rw[hb];decide)]
theorem kP{elt:PE}{src:nR}{α:Type}{l:List α}{it:α->List PV}{g:α->PV}(hs:jX U src σ=some (l.map it))(hl:l.length<=ag)(h:∀x∈l,ev U elt (σ++(it x).map some)=some (g x)/\fresh elt (g x)=true):
  ev U (.comp elt src .nil) σ=some (.list (l.map g)):=by
 refine(?_:(jX U src σ).bind _=_)
 rw[hs]
 refine(?_:(if(l.map it).length<=ag then _ else _:Option PV)=_)
 (refine xU (by simpa using hl) ?_;rw[zSp (it:=it) (b:=fun _=>true) (g:=g) fun x hx=>?_])
 ·rw[List.filter_eq_self.mpr fun _ _=>rfl];rfl
 ·refine au (h x hx) fun h1 h2=>?_
  refine(?_:((some true:Option Bool).bind fun ok=>if ok then _ else _)=_)
  simp only[As,if_true]
  rw[h1]
  refine(?_:(if fresh elt (g x)=true then _ else _)=_)
  exact xU h2 rfl
theorem wQ{elt:PE}{src:nR}{ts:eh}{α:Type}{l:List α}{g:α->PV}(h:∀x∈l,fresh elt (g x)=true):fresh (.comp elt src ts) (.list (l.map g))=true:=by
 refine(?_:(l.map g).all (fresh elt)=true)
 rw[Hb,Ao]
 exact h
theorem qD{e:PE}{n:Nat}(h:ev U e σ=some (pn n))(hn:n<=16777216):jX U (.ei e) σ=some ((Au n).map fun i=> [pn i]):=by
 refine(?_:(ev U e σ).bind _=_)
 refine zK h ?_
 refine(if_pos (A9.mpr ⟨uC hn,decide_eq_true (by exact yD)⟩)).trans ?_
 unfold pK
 simp
theorem EC{e:PE}{l:List PV}(h:ev U e σ=some (.list l)):jX U (.items e) σ=some (l.map fun x=> [x]):=by
 refine(?_:(ev U e σ).bind _=_)
 rw[h];rfl
theorem Nh:∀(l:List Nat),PV.ints (l.map pn)=some (l.map fun n:Nat=>(n:Int))
 |[]=>rfl
 |n::l=>by
  refine(?_:(PV.ints (l.map pn)).map _=_)
  rw[Nh l];rfl
theorem S2:∀(l:List (List Nat)),PV.strs (l.map PV.str)=some l
 |[]=>rfl
 |n::l=>by
  refine(?_:(PV.strs (l.map PV.str)).map _=_)
  rw[S2 l];rfl
theorem sJ{e:PE}{l:List (List Nat)}(h:ev U e σ=some (.list (l.map PV.str)))(hs:(l.map B2).sum<=ag):ev U (.me 0 (.lit (.str [])) (.cons e .nil)) σ=some (.str l.flatten):=by
 refine(?_:((ev U e σ).bind fun x=>(some []).map (x:: ·)).bind _=_)
 rw[h]
 refine(?_:(PV.strs (l.map PV.str)).bind _=_)
 rw[S2]
 refine(?_:(if(l.map B2).sum+l.length*([]:List Nat).length<=ag then _ else _:Option PV)=_)
 (refine xU (by simpa using hs) ?_;rw[Mv])
theorem zRt{l:List PV}{i:Int}{k:Nat}{p:PV}(hf:wB i=true)(hk:F2 i l.length=some k)(hp:l[k]?=some p):tH (.list l) (.int i)=some p:=by
 unfold tH
 (refine xU hf ?_;rw[hk])
 exact hp
theorem S3{l:List Nat}{i:Int}{k c:Nat}(hf:wB i=true)(hk:F2 i l.length=some k)(hp:l[k]?=some c):tH (.str l) (.int i)=some (.str [c]):=by
 unfold tH
 dsimp only
 rw[if_pos hf,hk,As,hp]
 rfl
theorem wC{e:PE}{l:List PV}{p:PV}{j:PE}{n:Nat}(h:ev U e σ=some (.list l))(hj:ev U j σ=some (pn n))(hn:l[n]?=some p)(hs:l.length<=ag):ev U (.idx e j) σ=some p:=by
 have aX:n<l.length:=(Bc.mp hn).1
 refine(?_:(ev U e σ).bind _=_)
 (refine zK h ?_;refine zK hj ?_)
 exact zRt (uC (by unfold ag at hs;exact yS)) (SY aX) hn
theorem uD{e:PE}{l:List Nat}{c:Nat}{j:PE}{n:Nat}(h:ev U e σ=some (.str l))(hj:ev U j σ=some (pn n))(hn:l[n]?=some c)(hs:l.length<=ag):ev U (.idx e j) σ=some (.str [c]):=by
 have aX:n<l.length:=(Bc.mp hn).1
 refine(?_:(ev U e σ).bind _=_)
 (refine zK h ?_;refine zK hj ?_)
 exact S3 (uC (by unfold ag at hs;exact yS)) (SY aX) hn
theorem ju{a b:PE}{m n:Nat}(ha:ev U a σ=some (pn m))(hb:ev U b σ=some (pn n))(hn:0<n):ev U (.bin .Mod a b) σ=some (pn (m%n)):=by
 refine(?_:(ev U a σ).bind _=_)
 rw[ha]
 refine(?_:(ev U b σ).bind _=_)
 rw[hb]
 refine(?_:Hx PV.int (if decide (0<(n:Int))=true then some ((m:Int)%(n:Int))else none)=_)
 rw[if_pos (by simp;assumption)]
 rfl
theorem pw{a b:PE}{m n:Nat}(ha:ev U a σ=some (pn m))(hb:ev U b σ=some (pn n))(hn:0<n/\n<1073741824):ev U (.bin .FloorDiv a b) σ=some (pn (m/n)):=by
 refine(?_:(ev U a σ).bind _=_)
 rw[ha]
 refine(?_:(ev U b σ).bind _=_)
 rw[hb]
 refine(?_:Hx PV.int (if(decide (0<(n:Int))&&decide ((n:Int)<1073741824))=true then some ((m:Int)/(n:Int))else none)=_)
 rw[if_pos (by simp;lia)]
 rfl
theorem wI{a b:PE}{m n:Nat}(ha:ev U a σ=some (pn m))(hb:ev U b σ=some (pn n)):ev U (.bin .Add a b) σ=some (pn (m+n)):=by
 refine(?_:(ev U a σ).bind _=_)
 rw[ha]
 refine(?_:(ev U b σ).bind _=_)
 rw[hb];rfl
theorem pA{a b:PE}{m n:List Nat}(ha:ev U a σ=some (.str m))(hb:ev U b σ=some (.str n))(hs:m.length+n.length<=ag):ev U (.bin .Add a b) σ=some (.str (m++n)):=by
 refine(?_:(ev U a σ).bind _=_)
 rw[ha]
 refine(?_:(ev U b σ).bind _=_)
 rw[hb]
 refine(?_:(if m.length+n.length<=ag then _ else _)=_)
 exact xU hs rfl
theorem S4{a:PE}{m:List PV}(ha:ev U a σ=some (.list m))(hs:m.length<=ag):ev U (.bi 0 (.cons a .nil)) σ=some (pn m.length):=by
 refine(?_:((ev U a σ).bind fun x=>(some []).map (x:: ·)).bind _=_)
 rw[ha]
 refine(?_:(if m.length<=ag then _ else _)=_)
 exact xU hs rfl
theorem qE{a:PE}{m:List Nat}(ha:ev U a σ=some (.str m))(hs:m.length<=ag):ev U (.bi 0 (.cons a .nil)) σ=some (pn m.length):=by
 refine(?_:((ev U a σ).bind fun x=>(some []).map (x:: ·)).bind _=_)
 rw[ha]
 refine(?_:(if m.length<=ag then _ else _)=_)
 exact xU hs rfl
theorem ED{c:PT}{a b:PE}{t:Bool}(h:aY U c σ=some t):ev U (.ite c a b) σ=if t then ev U a σ else ev U b σ:=by
 refine(?_:(aY U c σ).bind _=_)
 rw[h];rfl
theorem Ni{a b:PE}{m n:Nat}(ha:ev U a σ=some (pn m))(hb:ev U b σ=some (pn n)):aY U (.cmp .Eq a b) σ=some (m==n):=by
 refine(?_:(ev U a σ).bind _=_)
 rw[ha]
 refine(?_:(ev U b σ).bind _=_)
 rw[hb]
 refine(?_:some ((m:Int)==(n:Int))=_)
 congr 1
 by_cases h:m=n
 ·subst h;simp
 ·have:((m:Int)==(n:Int))=false:=by simp;exact xF ‹_›
  rw[this];simp[h]
theorem sL{a b:PE}{m n:Nat}(ha:ev U a σ=some (pn m))(hb:ev U b σ=some (pn n)):aY U (.cmp .Gt a b) σ=some (decide (n<m)):=by
 refine(?_:(ev U a σ).bind _=_)
 rw[ha]
 refine(?_:(ev U b σ).bind _=_)
 rw[hb]
 refine(?_:some (decide ((n:Int)<(m:Int)))=_)
 congr 1
 simp
end
set_option genSizeOf false
set_option genInjectivity false
noncomputable def EE:PS->ea
 | .forR _ _ b=>b
 | .rq _ _ b=>b
 | .rt _ _ b=>b
 |_=> .nil
section
variable{U:Uc}{σ:List (Option PV)}{β:Option (Value×aj)}{xs:List Nat}{tot:Nat}
theorem zG{q:PS}{r:ea}{g g₁:Sg}(e:den U q g=some (g₁, .next)):zT U (.cons q r) g=zT U r g₁:=zM e
end
set_option genInjectivity true
section
variable{U:Uc}{σ:List (Option PV)}{β:Option (Value×aj)}{xs:List Nat}{tot:Nat}
theorem EF{i n:Nat}{e:PE}{b:ea}(h:ev U e σ=some (pn n))(hn:n<=16777216):den U (.forR i e b) ⟨σ,β⟩=wD [i] (zT U b) ((Au n).map fun k=> [pn k]) ⟨σ,β⟩:=by
 refine(?_:((jX U (.ei e) σ).bind _)=_)
 exact zK (qD h hn) rfl
end
section
variable{U:Uc}{σ:List (Option PV)}{β:Option (Value×aj)}
theorem Nj:∀(is:List Int) (idx:List Nat),PV.ints (idx.filterMap ((is.map PV.int)[·]?))=some (idx.filterMap (is[·]?))
 |is,[]=>rfl
 |is,j::idx=>by
  rw[Dd,Dd,Bi]
  cases is[j]? with
  |none=>exact Nj is idx
  |some x=>
   refine(?_:(PV.ints (idx.filterMap _)).map _=_)
   rw[Nj is idx];rfl
theorem zZ7{is:List Int}{k:Nat}{st:Int}(h0:At σ 0 (.list (is.map .int)))(hl:is.length<=1000)(hk:At σ 27 (pn k))(hs:At σ 28 (.int st)):
  ∃n:Nat,ev U (.bin .Mod (.bin .Add (.var 28) (.bi 1 (.cons (.bD (.var 0) (.yes (.var 27)) .no (.yes (.lit (.int 5)))) .nil))) (.lit (.int 1000000))) σ=some (pn n):=by
 have e1:ev U (.bD (.var 0) (.yes (.var 27)) .no (.yes (.lit (.int 5)))) σ=some (.list ((Gx (Cj (some (k:Int)) none (some 5) is.length).1 (Cj (some (k:Int)) none (some 5) is.length).2.1 (Cj (some (k:Int)) none (some 5) is.length).2.2).filterMap ((is.map PV.int)[·]?))):=by
  refine(?_:(ev U (.var 0) σ).bind _=_)
  refine zK (zA h0) ?_
  refine(?_:((ev U (.var 27) σ).bind _).bind _=_)
  rw[zA hk,As]
  refine(?_:AK (.list (is.map PV.int)) (some (k:Int)) none (some 5)=_)
  have:((5:Int)==0||decide (ag<(is.map PV.int).length))=false:=by simp[ag];exact zB
  unfold AK
  dsimp only
  rw[this]
  simp
 have e2:ev U (.bi 1 (.cons (.bD (.var 0) (.yes (.var 27)) .no (.yes (.lit (.int 5)))) .nil)) σ=some (.int ((Gx (Cj (some (k:Int)) none (some 5) is.length).1 (Cj (some (k:Int)) none (some 5) is.length).2.1 (Cj (some (k:Int)) none (some 5) is.length).2.2).filterMap (is[·]?)).sum):=by
  refine(?_:((ev U _ σ).bind fun x=>(some []).map (x:: ·)).bind _=_)
  rw[e1]
  refine(?_:(PV.ints _).bind _=_)
  rw[Nj];rfl
 generalize((Gx (Cj (some (k:Int)) none (some 5) is.length).1 (Cj (some (k:Int)) none (some 5) is.length).2.1 (Cj (some (k:Int)) none (some 5) is.length).2.2).filterMap (is[·]?)).sum=S at e2
 have e3:ev U (.bin .Add (.var 28) (.bi 1 (.cons (.bD (.var 0) (.yes (.var 27)) .no (.yes (.lit (.int 5)))) .nil))) σ=some (.int (st+S)):=by
  refine(?_:(ev U (.var 28) σ).bind _=_)
  (refine zK (zA hs) ?_;rw[e2]);rfl
 refine cn (((st+S)%1000000).toNat) ?_
 refine(?_:(ev U (.bin .Add _ _) σ).bind _=_)
 rw[e3]
 refine(?_:some (PV.int ((st+S)%1000000))=_)
 have:0<=(st+S)%1000000:=Int.emod_nonneg _ (by decide)
 refine(?_:_=some (PV.int (((st+S)%1000000).toNat:Int)))
 rw[Ih this]
theorem zXm{elt:PE}{src:nR}:∀{its:List (List PV)},jX U src σ=some its->its.length<=ag->(∀it∈its,∃n:Nat,ev U elt (σ++it.map some)=some (pn n))->∃ns:List Nat,ns.length=its.length/\ev U (.comp elt src .nil) σ=some (.list (ns.map pn)):=by
 intro its hs hl h
 have:∀its:List (List PV),(∀it∈its,∃n:Nat,ev U elt (σ++it.map some)=some (pn n))->∃ns:List Nat,ns.length=its.length/\zQ (fun it=>(nT U .nil (σ++it.map some)).bind fun ok=>if ok then(ev U elt (σ++it.map some)).bind fun y=>if fresh elt y then some (some y)else none else some none) its=some (ns.map pn):=by
  intro its
  induction its with
  |nil=>exact fun _=>⟨[],rfl,rfl⟩
  |cons it its ih=>
   intro h
   refine aJ (h it (Ai ..)) fun n hn=>?_
   refine aB (ih fun q hq=>h q (Aj _ hq)) fun ns h1 h2=>?_
   refine i12 (n::ns) (by simp[h1]) ?_
   unfold zQ
   have e1:(nT U .nil (σ++it.map some)).bind (fun ok=>if ok then(ev U elt (σ++it.map some)).bind fun y=>if fresh elt y then some (some y)else none else some none)=some (some (pn n)):=by
    refine(?_:((some true:Option Bool).bind fun ok=>if ok then _ else _)=_)
    simp only[As,if_true]
    (refine zK hn ?_;exact xU zP rfl)
   rw[e1]
   rw[h2];rfl
 refine aB (this its h) fun ns h1 h2=>?_
 refine i12 ns h1 ?_
 refine(?_:(jX U src σ).bind _=_)
 (refine zK hs ?_;refine xU hl ?_;rw[h2]);rfl
theorem zZ5{is:List Int}(h0:At σ 0 (.list (is.map .int)))(hl:is.length<=1000)(bp:σ.length=27):∃xs:List Nat,xs.length=5/\den U m0 ⟨σ,β⟩=some (⟨σ.set 2 (some (.list (xs.map pn))),β⟩, .next):=by
 obtain⟨xs,h1,h2⟩:=zXm (U:=U) (σ:=σ) (elt:= .bin .Mod (.bin .Add (.var 28) (.bi 1 (.cons (.bD (.var 0) (.yes (.var 27)) .no (.yes (.lit (.int 5)))) .nil))) (.lit (.int 1000000)))
  (src:= .enum (.list (.cons (.lit (.int 5)) (.cons (.lit (.int 36)) (.cons (.lit (.int 67)) (.cons (.lit (.int 22)) (.cons (.lit (.int 54)) .nil))))))) (its:=[[pn 0,pn 5],[pn 1,pn 36],[pn 2,pn 67],[pn 3,pn 22],[pn 4,pn 54]]) rfl (by decide) (fun it hit=>by
   have key:∀(k:Nat) (st:Int),∃n:Nat,ev U (.bin .Mod (.bin .Add (.var 28) (.bi 1 (.cons (.bD (.var 0) (.yes (.var 27)) .no (.yes (.lit (.int 5)))) .nil))) (.lit (.int 1000000))) (σ++[some (pn k),some (.int st)])=some (pn n):=fun k st=>by
    refine zZ7 (st:=st) (h0.app (τ:=[some (pn k),some (.int st)])) hl (wZ bp) ?_
    refine(?_:At (σ++([some (pn k)]++[some (.int st)])) 28 _)
    rw[<-Bf]
    exact wZ (by simp[bp])
   simp only[Ax,Aq,or_false]at hit
   rcases hit with rfl|rfl|rfl|rfl|rfl<;>exact key _ _)
 refine i12 xs h1 (zD h2 (wQ fun x _=>zP))
theorem yA8{i:Nat}{xs:List Nat}(h:At σ i (.list (xs.map pn))):ev U (.bi 1 (.cons (.var i) .nil)) σ=some (pn xs.sum):=by
 refine(?_:((ev U (.var i) σ).bind fun x=>(some []).map (x:: ·)).bind _=_)
 rw[zA h]
 refine(?_:(PV.ints (xs.map pn)).bind _=_)
 rw[Nh]
 refine(?_:some (PV.int ((xs.map fun n:Nat=>(n:Int)).sum))=_)
 have:∀l:List Nat,((l.map fun n:Nat=>(n:Int)).sum)=(l.sum:Int):=by
  intro l
  induction l with
  |nil=>rfl
  |cons x l ih=>simp only[Ds,Lb,ih];lia
 rw[this]
end
noncomputable def things:List (List Nat):=[[],[92,40],[92,41],[34,40,34],[34,41,34],[34,92,34,41,34],[92,92],[92,34],[34]]
section
variable{U:Uc}{σ:List (Option PV)}{β:Option (Value×aj)}{xs:List Nat}
theorem yB8(a:List Nat)(n:Int):AI .Mult (.str a) (.int n)=if(wB n&&decide (a.length*n.toNat<=ag))=true then some (.str (Ay n.toNat a).flatten)else none:=rfl
theorem S5{e:PE}{c n:Nat}(h:ev U e σ=some (pn n))(hn:n<=1000):ev U (.bin .Mult (.lit (.str [c])) e) σ=some (.str (Ay n c)):=by
 refine(?_:(some (PV.str [c])).bind _=_)
 rw[As,h,As]
 rw[yB8]
 refine xU (by rw[uC (by exact zB),Hz];exact decide_eq_true (by simp[ag];exact zB)) ?_
 have:∀n:Nat,(Ay n [c]).flatten=Ay n c:=by
  intro n
  induction n with
  |zero=>rfl
  |succ n ih=>rw[De,List.flatten_cons,ih,De];rfl
 refine(?_:some (PV.str (Ay n [c]).flatten)=_)
 rw[this]
theorem mT{α β:Type}(f:α->β){l:List α}{i:Nat}(d:α)(h:i<l.length):(l.map f)[i]?=some (f (l.getD i d)):=by
 rw[Bi,A4,Aw h];rfl
theorem sM{α:Type}{l:List α}{i:Nat}(d:α)(h:i<l.length):l[i]?=some (l.getD i d):=by
 rw[A4,Aw h];rfl
end
section
variable{U:Uc}{σ:List (Option PV)}{β:Option (Value×aj)}{xs:List Nat}{tot:Nat}{sp:List Nat}{nm:List (List Nat)}{od:List Nat}{pc:List (List Nat)}
theorem qF{α:Type}(f:α->Nat)(b:Nat):∀l:List α,(∀x∈l,f x<=b)->(l.map f).sum<=l.length*b
 |[],_=>by simp
 |x::l,h=>by
  have:=qF f b l fun y hy=>h y (Aj _ hy)
  have:=h x (Ai ..)
  simp only[Ds,Lb,Cf,Nat.add_mul]
  lia
end
set_option genSizeOf false
noncomputable def xI:Nat->Bool->List Nat->Nat->List (Nat×List Nat)
 |_,e,[],p=>if e then [(p,[92])]else []
 |i,e,c::r,_=>if e then(i,[92,c])::xI (i+1) false r i else if c==92 then xI (i+1) true r i else(i,[c])::xI (i+1) false r i
theorem EG:∀(al:List Nat) (i:Nat) (e:Bool) (p:Nat),dA i e al (p:Int)=(xI i e al p).map fun x=>((x.1:Int),x.2)
 |[],i,e,p=>by cases e<;>rfl
 |c::r,i,e,p=>by
  refine(?_:(if e then((i:Int),[92,c])::dA (i+1) false r i else if c==92 then dA (i+1) true r i else((i:Int),[c])::dA (i+1) false r i)=(if e then(i,[92,c])::xI (i+1) false r i else if c==92 then xI (i+1) true r i else(i,[c])::xI (i+1) false r i).map fun x=>((x.1:Int),x.2))
  rw[EG r (i+1) false i,EG r (i+1) true i]
  cases e with
  |true=>rfl
  |false=>
   cases h:(c==92)with
   |true=>rfl
   |false=>rfl
noncomputable def xD(s:List Nat)(a b:Nat):List Nat:=(s.drop (min a s.length)).take (min b s.length-min a s.length)
theorem S6(s:List Nat)(a b:Nat):(xD s a b).length<=s.length:=by
 unfold xD
 rw[Cs,Bu];exact Ad (Jo _ _) (Hn _ _)
structure lH where
 st:Nat
 op:Option Nat
 rs:List (List Nat)
noncomputable def mU(addr:List Nat)(x:Nat×List Nat)(s:lH):lH:=if x.2==[34]then(match s.op with
 |none=>⟨s.st,some x.1,s.rs⟩
 |some o=>⟨x.1+1,none,if s.st==o then s.rs else s.rs++[xD addr s.st o]⟩)else s
noncomputable def iL(addr:List Nat):List (Nat×List Nat)->lH->lH
 |[],s=>s
 |x::r,s=>iL addr r (mU addr x s)
noncomputable def xZ(addr:List Nat):List Nat:=if addr.contains 34 then
 (let s:=iL addr (xI 0 false addr 0) ⟨0,none,[]⟩;
  (if s.st<addr.length then s.rs++[xD addr s.st addr.length]else s.rs).flatten)else addr
noncomputable def xC:List (Nat×List Nat)->Nat->Bool
 |[],o=>o==0
 |x::r,o=>if x.2==[40]then xC r (o+1)else if x.2==[41]then(match o with|0=>false|o+1=>xC r o)else xC r o
noncomputable def zV(s:List Nat):Bool:=xC (xI 0 false (xZ s) 0) 0
noncomputable def S7:Option Nat->PV
 |none=> .none
 |some o=>pn o
structure SR(addr:List Nat)(σ:List (Option PV))(s:lH):Prop where
 len:σ.length=6
 a:At σ 0 (.str addr)
 st:At σ 1 (pn s.st)
 op:At σ 2 (S7 s.op)
 rs:At σ 3 (.list (s.rs.map .str))
section
variable{U:Uc}{σ:List (Option PV)}{β:Option (Value×aj)}{addr:List Nat}{s:lH}
theorem eq_str{i:Nat}{a b:List Nat}(h:At σ i (.str a)):aY U (.cmp .Eq (.var i) (.lit (.str b))) σ=some (a==b):=by
 refine(?_:(ev U (.var i) σ).bind _=_)
 rw[zA h];rfl
theorem EH(a n:Nat):C7 (some (a:Int)) n=min a n:=by
 unfold C7
 refine eM (Lg.mpr (Ep a)) ?_;rfl
theorem Nk(a n:Nat):Fs (some (a:Int)) n=min a n:=by
 unfold Fs
 refine eM (Lg.mpr (Ep a)) ?_;rfl
theorem gx{c:PT}{a b:ea}{r:Option (Sg×Fl)}(h:aY U c σ=some true)(e:zT U a ⟨σ,β⟩=r):den U (.ifs c a b) ⟨σ,β⟩=r:=(zi h).trans e
theorem fF{c:PT}{a b:ea}{r:Option (Sg×Fl)}(h:aY U c σ=some false)(e:zT U b ⟨σ,β⟩=r):den U (.ifs c a b) ⟨σ,β⟩=r:=(zi h).trans e
theorem eX{q:PS}{g g₁:Sg}(e:den U q g=some (g₁, .next)):zT U (.cons q .nil) g=some (g₁, .next):=(zG (r:= .nil) e).trans rfl
theorem zUd{i j:Nat}{e:PE}{a b:Nat}{s:List Nat}(hs:At σ i (.str s))(hl:s.length<=ag)(ha:At σ j (pn a))(hb:ev U e σ=some (pn b)):ev U (.bD (.var i) (.yes (.var j)) (.yes e) .no) σ=some (.str (xD s a b)):=by
 refine(?_:(ev U (.var i) σ).bind _=_)
 refine zK (zA hs) ?_
 refine(?_:((ev U (.var j) σ).bind _).bind _=_)
 rw[zA ha,As]
 refine(?_:Option.bind (some (some (a:Int))) (fun l=>((ev U e σ).bind _).bind _)=_)
 rw[As,hb,As]
 refine(?_:(if s.length<=ag then some (PV.str ((s.drop (C7 (some (a:Int)) s.length)).take (Fs (some (b:Int)) s.length-C7 (some (a:Int)) s.length)))else none)=_)
 refine xU hl ?_
 rw[EH,Nk];rfl
theorem S8{i j:Nat}{a:Nat}{s:List Nat}(hs:At σ i (.str s))(hl:s.length<=ag)(ha:At σ j (pn a)):ev U (.bD (.var i) (.yes (.var j)) .no .no) σ=some (.str (xD s a s.length)):=by
 refine(?_:(ev U (.var i) σ).bind _=_)
 refine zK (zA hs) ?_
 refine(?_:((ev U (.var j) σ).bind _).bind _=_)
 rw[zA ha,As]
 refine(?_:(if s.length<=ag then some (PV.str ((s.drop (C7 (some (a:Int)) s.length)).take (s.length-C7 (some (a:Int)) s.length)))else none)=_)
 refine xU hl ?_
 rw[EH]
 unfold xD
 rw[Lz]
theorem zSm(h:SR addr σ s)(hl:addr.length<=1000)(hr:s.rs.length<=1000){p:Nat}{ch:List Nat}:∃aI,zT U qC ⟨(σ.set 4 (some (pn p))).set 5 (some (.str ch)),β⟩=some (⟨aI,β⟩, .next)/\SR addr aI (mU addr (p,ch) s):=by
 have sz:addr.length<=ag:=by exact zB
 generalize lI:(σ.set 4 (some (pn p))).set 5 (some (.str ch))=τ
 have L:τ.length=6:=by rw[<-lI];simp[h.len]
 have a0:At τ 0 (.str addr):=by rw[<-lI];exact(h.a.set (by decide)).set (by decide)
 have a1:At τ 1 (pn s.st):=by rw[<-lI];exact(h.st.set (by decide)).set (by decide)
 have a2:At τ 2 (S7 s.op):=by rw[<-lI];exact(h.op.set (by decide)).set (by decide)
 have a3:At τ 3 (.list (s.rs.map .str)):=by rw[<-lI];exact(h.rs.set (by decide)).set (by decide)
 have a4:At τ 4 (pn p):=by rw[<-lI];exact(yN (by rw[h.len];decide)).set (by decide)
 have a5:At τ 5 (.str ch):=by rw[<-lI];exact yN (by simp[h.len])
 unfold mU
 by_cases hq:ch==[34]
 ·rw[if_pos hq]
  have t1:aY U (.cmp .Eq (.var 5) (.lit (.str [34]))) τ=some true:=by rw[eq_str a5,hq]
  obtain⟨st,op,rs⟩:=s
  cases op with
  |none=>
   have t2:aY U (.cmp .Is (.var 2) (.lit .none)) τ=some true:=by
    refine(?_:(ev U (.var 2) τ).bind _=_)
    rw[zA a2];rfl
   refine i12 (τ.set 2 (some (pn p))) ?_ ⟨by rw[C5];exact L,a0.set (by decide),a1.set (by decide),yN (by rw[L];decide),a3.set (by decide)⟩
   exact eX (gx t1 (eX (gx t2 (eX (zD (zA a4) zP)))))
  |some o=>
   have t2:aY U (.cmp .Is (.var 2) (.lit .none)) τ=some false:=by
    refine(?_:(ev U (.var 2) τ).bind _=_)
    rw[zA a2];rfl
   have t3:aY U (.cmp .NotEq (.var 1) (.var 2)) τ=some (!(st==o)):=by
    refine(?_:(ev U (.var 1) τ).bind _=_)
    (refine zK (zA a1) ?_;rw[zA a2])
    refine(?_:some ((st:Int) !=(o:Int))=_)
    by_cases h:st=o
    ·subst h;simp
    ·have e1:((st:Int) !=(o:Int))=true:=by simp;exact xF ‹_›
     have e2:(st==o)=false:=by simpa using h
     rw[e1,e2];rfl
   have fin:∀(ρ:List (Option PV)) (Nl:List (List Nat)),ρ.length=6->At ρ 0 (.str addr)->At ρ 4 (pn p)->At ρ 3 (.list (Nl.map .str))->∃aI,zT U (.cons (.assign 1 (.bin .Add (.var 4) (.lit (.int 1)))) (.cons (.assign 2 (.lit .none)) .nil)) ⟨ρ,β⟩=some (⟨aI,β⟩, .next)/\SR addr aI ⟨p+1,none,Nl⟩:=fun ρ Nl hL h0 h4 h3=>by
    refine i12 ((ρ.set 1 (some (pn (p+1)))).set 2 (some .none)) ?_ ⟨by simp[hL],(h0.set (by decide)).set (by decide),(yN (by rw[hL];decide)).set (by decide),yN (by simp[hL]),(h3.set (by decide)).set (by decide)⟩
    exact(zG (zD (wI (n:=1) (zA h4) rfl) zP)).trans (eX (zD (e:= .lit .none) rfl rfl))
   have step:∃ρ,den U (.ifs (.cmp .NotEq (.var 1) (.var 2)) (.cons (.append 3 (.bD (.var 0) (.yes (.var 1)) (.yes (.var 2)) .no)) .nil) .nil) ⟨τ,β⟩=some (⟨ρ,β⟩, .next)/\ρ.length=6/\At ρ 0 (.str addr)/\At ρ 4 (pn p)/\At ρ 3 (.list ((if st==o then rs else rs++[xD addr st o]).map .str)):=by
    by_cases h:st==o
    ·refine FP τ (fF (t3.trans (by rw[h];rfl)) rfl) L a0 a4 (by rw[if_pos h];exact a3)
    ·have h':(st==o)=false:=by simpa using h
     refine FP (τ.set 3 (some (.list (rs.map .str++[.str (xD addr st o)])))) ?_ (by rw[C5];exact L) (a0.set (by decide)) (a4.set (by decide)) ?_
     ·exact gx (t3.trans (by rw[h'];rfl)) (eX (zh a3 (zUd a0 sz a1 (zA a2)) yL (by have hr:rs.length<=1000:=hr;rw[An];exact zB)))
     ·rw[if_neg h,show(rs++[xD addr st o]).map PV.str=rs.map .str++[.str (xD addr st o)]by simp]
      exact yN (by rw[L];decide)
   refine pG step fun ρ e1 hL h0 h4 h3=>?_
   refine aB (fin ρ _ hL h0 h4 h3) fun aI e2 hS=>?_
   refine i12 aI ?_ hS
   exact eX (gx t1 (eX (fF t2 ((zG e1).trans e2))))
 ·rw[if_neg hq]
  have hq':(ch==[34])=false:=by simpa using hq
  have t1:aY U (.cmp .Eq (.var 5) (.lit (.str [34]))) τ=some false:=by rw[eq_str a5,hq']
  exact i12 τ (eX (fF t1 rfl)) ⟨L,a0,a1,a2,a3⟩
theorem S9(addr:List Nat)(x:Nat×List Nat)(s:lH):(mU addr x s).rs.length<=s.rs.length+1:=by
 unfold mU
 split
 ·split
  ·exact Fq _
  ·dsimp only
   split<;>simp
 ·exact Fq _
theorem Ta(hl:addr.length<=1000):∀(its:List (Nat×List Nat)) (σ:List (Option PV)) (s:lH),SR addr σ s->s.rs.length+its.length<=1000->
  ∃aI,wD [4,5] (zT U qC) ((its.map fun x=>((x.1:Int),x.2)).map kA) ⟨σ,β⟩=some (⟨aI,β⟩, .next)/\SR addr aI (iL addr its s)
 |[],σ,s,h,_=>⟨σ,rfl,h⟩
 |(p,ch)::its,σ,s,h,hr=>by
  simp only[Cf]at hr
  refine aB (zSm (U:=U) (β:=β) h hl (by exact zR) (p:=p) (ch:=ch)) fun cb e1 h1=>?_
  have:=S9 addr (p,ch) s
  refine aB (Ta hl its cb _ h1 (by lia)) fun fE e2 h2=>?_
  refine i12 fE ?_ h2
  refine(?_:((zT U qC ⟨(σ.set 4 (some (pn p))).set 5 (some (.str ch)),β⟩).bind _)=_)
  rw[e1];exact e2
theorem Nm:∀(al:List Nat) (i:Nat) (e:Bool) (p:Nat),(xI i e al p).length<=al.length+1
 |[],i,e,p=>by cases e<;>simp[xI]
 |c::r,i,e,p=>by
  have h1:=Nm r (i+1) false i
  have h2:=Nm r (i+1) true i
  unfold xI
  split
  ·simp;assumption
  ·split
   ·simp;exact Nat.le_add_right_of_le ‹_›
   ·simp;assumption
theorem zQx(hl:addr.length<=900):lG (DT U) (aF 4) 1 [.str addr]=some (.str (xZ addr)):=by
 have sz:addr.length<=ag:=by exact zB
 have fJ:ey (aF 4) [.str addr] none=⟨[some (.str addr),none,none,none,none,none],none⟩:=rfl
 have key:∃g',DT U (ey (aF 4) [.str addr] none)=some (g', .ret (.str (xZ addr))):=by
  rw[fJ]
  unfold DT
  have t0:aY U (.cmp .NotIn (.lit (.str [34])) (.var 0)) [some (.str addr),none,none,none,none,none]=some (!addr.contains 34):=rfl
  unfold xZ
  by_cases hc:addr.contains 34
  ·rw[if_pos hc]
   have e0:den U DJ ⟨[some (.str addr),none,none,none,none,none],none⟩=some (⟨[some (.str addr),none,none,none,none,none],none⟩, .next):=fF (t0.trans (by rw[hc];rfl)) rfl
   rw[zM e0]
   have e1:∀σ,den U DK ⟨σ,none⟩=some (⟨σ.set 1 (some (pn 0)),none⟩, .next):=fun σ=>zD (e:= .lit _) rfl rfl
   have e2:∀σ,den U DM ⟨σ,none⟩=some (⟨σ.set 2 (some .none),none⟩, .next):=fun σ=>zD (e:= .lit _) rfl rfl
   have e3:∀σ,den U DN ⟨σ,none⟩=some (⟨σ.set 3 (some (.list [])),none⟩, .next):=fun σ=>zD (e:= .list _) rfl rfl
   rw[zM (e1 _),zM (e2 _),zM (e3 _)]
   have S0:SR addr [some (.str addr),some (pn 0),some .none,some (.list []),none,none] ⟨0,none,[]⟩:=⟨rfl,rfl,rfl,rfl,rfl⟩
   have hel:=Nm addr 0 false 0
   obtain⟨aI,e4,S1⟩:=Ta (U:=U) (β:=none) (by lia) (xI 0 false addr 0) _ _ S0 (by simp;lia)
   have e5:rJ U (.var 0) [4,5] (zT U qC) ⟨[some (.str addr),some (pn 0),some .none,some (.list []),none,none],none⟩=some (⟨aI,none⟩, .next):=by
    refine(?_:wD [4,5] (zT U qC) ((dA 0 false addr ((0:Nat):Int)).map kA) _=_)
    rw[EG];exact e4
   have Nn:(([some (PV.str addr),none,none,none,none,none].set 1 (some (pn 0))).set 2 (some PV.none)).set 3 (some (PV.list []))=[some (.str addr),some (pn 0),some .none,some (.list []),none,none]:=rfl
   rw[Nn,zM e5]
   have Tb:(iL addr (xI 0 false addr 0) ⟨0,none,[]⟩).rs.length<=1000:=by
    have:∀(its:List (Nat×List Nat)) (s:lH),(iL addr its s).rs.length<=s.rs.length+its.length:=by
     intro its
     induction its with
     |nil=>intro s;exact Br _
     |cons x its ih=>
      intro s
      have h1:=ih (mU addr x s)
      have h2:=S9 addr x s
      refine(?_:(iL addr its (mU addr x s)).rs.length<=_)
      simp only[Cf];lia
    have:=this (xI 0 false addr 0) ⟨0,none,[]⟩
    simp at this;lia
   have Np:((iL addr (xI 0 false addr 0) ⟨0,none,[]⟩).rs.map B2).sum<=1000*900:=by
    have:∀(its:List (Nat×List Nat)) (s:lH),(∀l∈s.rs,l.length<=900)->∀l∈(iL addr its s).rs,l.length<=900:=by
     intro its
     induction its with
     |nil=>intro s h;exact h
     |cons x its ih=>
      intro s h
      refine ih (mU addr x s) fun l hm=>?_
      unfold mU at hm
      split at hm
      ·split at hm
       ·exact h l hm
       ·dsimp only at hm
        split at hm
        ·exact h l hm
        ·rcases Bb.mp hm with hm|hm
         ·exact h l hm
         ·rw[Ae.mp hm]
          exact Ad (S6 _ _ _) hl
      ·exact h l hm
    have:=qF B2 900 _ (this (xI 0 false addr 0) ⟨0,none,[]⟩ fun l h=>nomatch h)
    refine Ad this (Ed _ Tb)
   generalize iL addr (xI 0 false addr 0) ⟨0,none,[]⟩=s at S1 Tb Np⊢
   dsimp only
   have hlen:ev U (.bi 0 (.cons (.var 0) .nil)) aI=some (pn addr.length):=qE (zA S1.a) sz
   have t5:aY U (.cmp .Lt (.var 1) (.bi 0 (.cons (.var 0) .nil))) aI=some (decide (s.st<addr.length)):=by
    refine(?_:(ev U (.var 1) aI).bind _=_)
    (refine zK (zA S1.st) ?_;refine zK hlen ?_)
    refine(?_:some (decide ((s.st:Int)<(addr.length:Int)))=_)
    congr 1
    simp
   have fin:∀(ρ:List (Option PV)) (rs:List (List Nat)),At ρ 3 (.list (rs.map .str))->(rs.map B2).sum<=2000000->zX (den U DO) az ⟨ρ,none⟩=some (⟨ρ,none⟩, .ret (.str rs.flatten)):=fun ρ rs h3 hs=>by
    refine yW ?_
    refine(?_:((fk U _ ⟨ρ,none⟩).bind _)=_)
    unfold fk
    rw[sJ (zA h3) (by exact zB),As,if_pos yL];rfl
   by_cases h5:s.st<addr.length
   ·rw[if_pos h5]
    have e6:den U y6 ⟨aI,none⟩=some (⟨aI.set 3 (some (.list (s.rs.map .str++[.str (xD addr s.st addr.length)]))),none⟩, .next):=gx (t5.trans (by rw[decide_eq_true h5])) (eX (zh S1.rs (S8 S1.a sz S1.st) yL (by rw[An];exact zB)))
    rw[zM e6]
    refine cn _ (fin _ _ ?_ ?_)
    ·rw[show(s.rs++[xD addr s.st addr.length]).map PV.str=s.rs.map .str++[.str (xD addr s.st addr.length)]by simp]
     exact yN (by rw[S1.len];decide)
    ·have:(xD addr s.st addr.length).length<=addr.length:=S6 _ _ _
     simp only[D2,Gv,Ds,List.map_nil,Lb,List.sum_nil];lia
   ·rw[if_neg h5]
    have e6:den U y6 ⟨aI,none⟩=some (⟨aI,none⟩, .next):=fF (t5.trans (by rw[decide_eq_false h5])) rfl
    rw[zM e6]
    exact cn _ (fin _ _ S1.rs (by exact zB))
  ·rw[if_neg hc]
   have kY:addr.contains 34=false:=by simpa using hc
   refine cn _ (yW (g₁:=⟨[some (.str addr),none,none,none,none,none],none⟩) (gx (t0.trans (by rw[kY];rfl)) rfl))
 refine aJ key fun g' e=>?_
 exact(if_pos rfl).trans (by rw[e])
theorem wN(x:Nat×List Nat)(r:List (Nat×List Nat))(o:Nat):xC (x::r) o=if x.2==[40]then xC r (o+1)else if x.2==[41]then(match o with|0=>false|o+1=>xC r o)else xC r o:=rfl
theorem Tc:∀(its:List (Nat×List Nat)) (σ:List (Option PV)) (o:Nat),σ.length=4->At σ 1 (pn o)->
  (∃aI o',wD [2,3] (zT U jt) ((its.map fun x=>((x.1:Int),x.2)).map kA) ⟨σ,β⟩=some (⟨aI,β⟩, .next)/\At aI 1 (pn o')/\xC its o=(o'==0))\/
  (∃g',wD [2,3] (zT U jt) ((its.map fun x=>((x.1:Int),x.2)).map kA) ⟨σ,β⟩=some (g', .ret (.bool false))/\xC its o=false)
 |[],σ,o,_,h=> .inl ⟨σ,o,rfl,h,rfl⟩
 |(p,ch)::its,σ,o,hL,h=>by
  generalize lI:(σ.set 2 (some (pn p))).set 3 (some (.str ch))=τ
  have L:τ.length=4:=by rw[<-lI];simp[hL]
  have a1:At τ 1 (pn o):=by rw[<-lI];exact(h.set (by decide)).set (by decide)
  have a3:At τ 3 (.str ch):=by rw[<-lI];exact yN (by simp[hL])
  have run:∀r,wD [2,3] (zT U jt) ((((p,ch)::its).map fun x=>((x.1:Int),x.2)).map kA) ⟨σ,β⟩=r↔((zT U jt ⟨τ,β⟩).bind fun q=>match q with
   |(g', .next)=>wD [2,3] (zT U jt) ((its.map fun x=>((x.1:Int),x.2)).map kA) g'
   |(g', .cont)=>wD [2,3] (zT U jt) ((its.map fun x=>((x.1:Int),x.2)).map kA) g'
   |(g', .brk)=>some (g', .next)
   |(g', .ret p)=>some (g', .ret p))=r:=fun r=>by rw[<-lI];exact Iff.rfl
  have go:∀cb jd,zT U jt ⟨τ,β⟩=some (⟨cb,β⟩, .next)->cb.length=4->At cb 1 (pn jd)->xC ((p,ch)::its) o=xC its jd->
    (∃aI o',wD [2,3] (zT U jt) ((((p,ch)::its).map fun x=>((x.1:Int),x.2)).map kA) ⟨σ,β⟩=some (⟨aI,β⟩, .next)/\At aI 1 (pn o')/\xC ((p,ch)::its) o=(o'==0))\/
    (∃g',wD [2,3] (zT U jt) ((((p,ch)::its).map fun x=>((x.1:Int),x.2)).map kA) ⟨σ,β⟩=some (g', .ret (.bool false))/\xC ((p,ch)::its) o=false):=fun cb jd e zj ah hc=>by
   rcases Tc its cb jd zj ah with⟨aI,o',e',h',c'⟩|⟨g',e',c'⟩
   ·exact .inl ⟨aI,o',(run _).mpr (by rw[e];exact e'),h',hc.trans c'⟩
   ·exact .inr ⟨g',(run _).mpr (by rw[e];exact e'),hc.trans c'⟩
  by_cases Td:ch=[40]
  ·subst Td
   refine go (τ.set 1 (some (pn (o+1)))) (o+1) ?_ (by rw[C5];exact L) (yN (by rw[L];decide)) rfl
   refine eX (gx (eq_str a3) (eX ?_))
   refine(?_:((τ[1]?).bind id).bind _=_)
   rw[a1];rfl
  ·have Te:(ch==[40])=false:=by simpa using Td
   by_cases Tf:ch=[41]
   ·subst Tf
    have sub:den U (.aug .Sub 1 (.lit (.int 1))) ⟨τ,β⟩=some (⟨τ.set 1 (some (.int ((o:Int)-1))),β⟩, .next):=by
     refine(?_:((τ[1]?).bind id).bind _=_)
     rw[a1];rfl
    have hb:At (τ.set 1 (some (.int ((o:Int)-1)))) 1 (.int ((o:Int)-1)):=yN (by rw[L];decide)
    have t:aY U (.cmp .Lt (.var 1) (.lit (.int 0))) (τ.set 1 (some (.int ((o:Int)-1))))=some (decide ((o:Int)-1<0)):=by
     refine(?_:(ev U (.var 1) _).bind _=_)
     rw[zA hb];rfl
    cases o with
    |zero=>
     refine .inr ⟨⟨τ.set 1 (some (.int (((0:Nat):Int)-1))),β⟩,(run _).mpr ?_,rfl⟩
     have e:zT U jt ⟨τ,β⟩=some (⟨τ.set 1 (some (.int (((0:Nat):Int)-1))),β⟩, .ret (.bool false)):=by
      refine yW (fF ((eq_str a3).trans rfl) ?_)
      refine yW (gx ((eq_str a3).trans rfl) ?_)
      refine(zG sub).trans ?_
      refine yW (gx (t.trans rfl) ?_)
      rfl
     rw[e];rfl
    |succ o=>
     have e1:((o+1:Nat):Int)-1=(o:Int):=by lia
     rw[e1]at sub hb t
     refine go (τ.set 1 (some (pn o))) o ?_ (by rw[C5];exact L) hb rfl
     refine eX (fF ((eq_str a3).trans rfl) (eX (gx ((eq_str a3).trans rfl) ?_)))
     refine(zG sub).trans (eX (fF (t.trans (by rw[decide_eq_false (by lia)])) rfl))
   ·have Tg:(ch==[41])=false:=by simpa using Tf
    refine go τ o ?_ L a1 (by rw[wN,Te,Tg];rfl)
    exact eX (fF ((eq_str a3).trans (by rw[Te])) (eX (fF ((eq_str a3).trans (by rw[Tg])) rfl)))
theorem zQ4{a:List Nat}(hU:U 2 [.str a]=some (.str (xZ a))):lG (DU U) (aF 5) 1 [.str a]=some (.bool (zV a)):=by
 have fJ:ey (aF 5) [.str a] none=⟨[some (.str a),none,none,none],none⟩:=rfl
 have key:∃g',DU U (ey (aF 5) [.str a] none)=some (g', .ret (.bool (zV a))):=by
  rw[fJ]
  unfold DU
  have e0:den U DP ⟨[some (.str a),none,none,none],none⟩=some (⟨[some (.str (xZ a)),none,none,none],none⟩, .next):=by
   refine zD (e:= .uc 2 _) (p:= .str (xZ a)) ?_ yL
   exact hU
  have e1:den U DQ ⟨[some (.str (xZ a)),none,none,none],none⟩=some (⟨[some (.str (xZ a)),some (pn 0),none,none],none⟩, .next):=zD (e:= .lit _) rfl rfl
  rw[zM e0,zM e1]
  have hG:∀r,rJ U (.var 0) [2,3] (zT U jt) ⟨[some (.str (xZ a)),some (pn 0),none,none],none⟩=r↔wD [2,3] (zT U jt) (((xI 0 false (xZ a) 0).map fun x=>((x.1:Int),x.2)).map kA) ⟨[some (.str (xZ a)),some (pn 0),none,none],none⟩=r:=fun r=>by
   rw[<-EG];exact Iff.rfl
  rcases Tc (U:=U) (β:=none) (xI 0 false (xZ a) 0) [some (.str (xZ a)),some (pn 0),none,none] 0 rfl rfl with⟨aI,o',e,h,c⟩|⟨g',e,c⟩
  ·rw[zM ((hG _).mpr e)]
   refine cn ⟨aI,none⟩ (yW ?_)
   refine(?_:((fk U _ ⟨aI,none⟩).bind _)=_)
   have t:ev U (.cmp .Eq (.var 1) (.lit (.int 0))) aI=some (.bool (zV a)):=by
    refine(?_:(ev U (.var 1) aI).bind _=_)
    refine zK (zA h) ?_
    refine(?_:some (PV.bool ((o':Int)==0))=_)
    unfold zV
    rw[c]
    congr 2
    by_cases h0:o'=0
    ·subst h0;rfl
    ·have e1:((o':Int)==0)=false:=by simp;assumption
     have e2:(o'==0)=false:=by simpa using h0
     rw[e1,e2]
   unfold fk
   rw[t,As,if_pos zN3];rfl
  ·refine cn g' (yW ?_)
   rw[(hG _).mpr e]
   unfold zV
   rw[c]
 refine aJ key fun g' e=>?_
 exact(if_pos rfl).trans (by rw[e])
end
set_option genSizeOf false
noncomputable def mV(c:Nat):Nat:=if 65<=c&&c<=90 then c+32 else c
noncomputable def gZ(x y:Nat):Nat:=if x==y then 0 else if mV x==mV y then 1 else 2
noncomputable def gO:List Nat->List Nat->Nat
 |x::a,y::b=>if x==y then gO a b+1 else 0
 |_,_=>0
structure sQ where
 d:Nat
 r:Nat
 m:Nat
 row:List Nat
noncomputable def uE:Nat:=9223372036854775807
noncomputable def jv(a b:Nat):Nat:=if b<a then b else a
noncomputable def kQ(s:List Nat)(bc:Nat)(q:sQ)(i:Nat):sQ:=
 let r':=jv (jv q.r (q.row.getD i 0)+2) (q.d+gZ bc (s.getD i 0))
 ⟨q.row.getD i 0,r',if r'<q.m then r' else q.m,q.row.set i r'⟩
noncomputable def kR(s:List Nat)(bc bi:Nat)(row:List Nat):sQ:=(Au s.length).foldl (kQ s bc) ⟨bi*2,bi*2,uE,row⟩
noncomputable def uF(s:List Nat)(c:Nat):List Nat->Nat->List Nat->Nat->Nat
 |[],_,_,res=>res
 |bc::l,bi,row,_=>let q:=kR s bc bi row;if c<q.m then c+1 else uF s c l (bi+1) q.row q.r
noncomputable def EI(s l:List Nat)(c:Nat):Nat:=if c<(l.length-s.length)*2 then c+1 else uF s c l 0 ((Au s.length).map fun i=>2+2*i) 0
noncomputable def Nq(a b:List Nat)(c:Nat):Nat:=if a.isEmpty||b.isEmpty then 2*(a.length+b.length)else if b.length<a.length then EI b a c else EI a b c
noncomputable def Th(a b:List Nat):List Nat×List Nat:=
 let q:=gO a.reverse b.reverse
 (a.take (a.length-q),b.take (b.length-q))
noncomputable def sR(a b:List Nat)(c:Nat):Nat:=if a==b then 0 else
 let p:=gO a b
 let x:=Th (a.drop p) (b.drop p)
 Nq x.1 x.2 c
noncomputable def sV:ea:=(.cons (.assign 12 (.bin .Add (.var 9) (.uc 0 (.cons (.var 8) (.cons (.idx (.var 0) (.var 11)) .nil))))) (.cons (.assign 9 (.idx (.var 5) (.var 11))) (.cons (.assign 13 (.bin .Add (.bi 3 (.cons (.var 6) (.cons (.var 9) .nil))) (.lit (.int 2)))) (.cons (.assign 6 (.bi 3 (.cons (.var 13) (.cons (.var 12) .nil)))) (.cons (.set 5 (.var 11) (.var 6)) (.cons (.ifs (.cmp .Lt (.var 6) (.var 10)) (.cons (.assign 10 (.var 6)) .nil) .nil) .nil))))))
noncomputable def jw:ea:=(.cons (.assign 8 (.idx (.var 1) (.var 7))) (.cons (.cZ 9 6 (.bin .Mult (.var 7) (.lit (.int 2)))) (.cons (.assign 10 (.lit (.int 9223372036854775807))) (.cons (.forR 11 (.bi 0 (.cons (.var 0) .nil)) sV) (.cons (.ifs (.cmp .Gt (.var 10) (.var 2)) (.cons (.ret (.bin .Add (.var 2) (.lit (.int 1)))) .nil) .nil) .nil)))))
noncomputable def Nr:ea:=(.cons (.ifs (.or (.cons (.not (.eG (.var 0))) (.cons (.not (.eG (.var 1))) .nil))) (.cons (.ret (.bin .Mult (.lit (.int 2)) (.bin .Add (.bi 0 (.cons (.var 0) .nil)) (.bi 0 (.cons (.var 1) .nil))))) .nil) .nil) (.cons (.ifs (.or (.cons (.cmp .Gt (.bi 0 (.cons (.var 0) .nil)) (.lit (.int 40))) (.cons (.cmp .Gt (.bi 0 (.cons (.var 1) .nil)) (.lit (.int 40))) .nil))) (.cons (.ret (.bin .Add (.var 2) (.lit (.int 1)))) .nil) .nil) (.cons (.ifs (.cmp .Lt (.bi 0 (.cons (.var 1) .nil)) (.bi 0 (.cons (.var 0) .nil))) (.cons (.swap 0 1 (.var 1) (.var 0)) .nil) .nil) (.cons (.ifs (.cmp .Gt (.bin .Mult (.bin .Sub (.bi 0 (.cons (.var 1) .nil)) (.bi 0 (.cons (.var 0) .nil))) (.lit (.int 2))) (.var 2)) (.cons (.ret (.bin .Add (.var 2) (.lit (.int 1)))) .nil) .nil) (.cons (.assign 5 (.bi 5 (.cons (.lit (.int 2)) (.cons (.bin .Mult (.lit (.int 2)) (.bin .Add (.bi 0 (.cons (.var 0) .nil)) (.lit (.int 1)))) (.cons (.lit (.int 2)) .nil))))) (.cons (.assign 6 (.lit (.int 0))) (.cons (.forR 7 (.bi 0 (.cons (.var 1) .nil)) jw) (.cons (.ret (.var 6)) .nil))))))))
noncomputable def zk:PT:=(.and (.cons (.eG (.bD (.var 0) (.yes (.var 3)) .no .no)) (.cons (.eG (.bD (.var 1) (.yes (.var 3)) .no .no)) (.cons (.cmp .Eq (.idx (.var 0) (.var 3)) (.idx (.var 1) (.var 3))) .nil))))
noncomputable def zo:PT:=(.and (.cons (.eG (.bD (.var 0) .no (.yes (.gA (.var 4) (.lit .none))) .no)) (.cons (.eG (.bD (.var 1) .no (.yes (.gA (.var 4) (.lit .none))) .no)) (.cons (.cmp .Eq (.idx (.var 0) (.bin .Sub (.var 4) (.lit (.int 1)))) (.idx (.var 1) (.bin .Sub (.var 4) (.lit (.int 1))))) .nil))))
theorem yAi:y0=(.cons (.ifs (.cmp .Eq (.var 0) (.var 1)) (.cons (.ret (.lit (.int 0))) .nil) .nil) (.cons (.assign 3 (.lit (.int 0))) (.cons (.ox zk (.cons (.aug .Add 3 (.lit (.int 1))) .nil)) (.cons (.assign 0 (.bD (.var 0) (.yes (.var 3)) .no .no)) (.cons (.assign 1 (.bD (.var 1) (.yes (.var 3)) .no .no)) (.cons (.assign 4 (.lit (.int 0))) (.cons (.ox zo (.cons (.aug .Sub 4 (.lit (.int 1))) .nil)) (.cons (.assign 0 (.bD (.var 0) .no (.yes (.gA (.var 4) (.lit .none))) .no)) (.cons (.assign 1 (.bD (.var 1) .no (.yes (.gA (.var 4) (.lit .none))) .no)) Nr))))))))):=rfl
theorem zZh(U:Uc){x y:Nat}(hx:x<128)(hy:y<128):lG (zT U DI) (aF 17) 2 [.str [x], .str [y]]=some (pn (gZ x y)):=by
 have fJ:ey (aF 17) [.str [x], .str [y]] none=⟨[some (.str [x]),some (.str [y])],none⟩:=rfl
 have key:∃g',zT U DI (ey (aF 17) [.str [x], .str [y]] none)=some (g', .ret (pn (gZ x y))):=by
  rw[fJ]
  refine cn ⟨[some (.str [x]),some (.str [y])],none⟩ ?_
  have t1:aY U (.cmp .Eq (.var 0) (.var 1)) [some (.str [x]),some (.str [y])]=some (x==y):=by
   refine(?_:some (([x]:List Nat)==[y])=_)
   simp
  have m:∀(i c:Nat),c<128->At [some (.str [x]),some (.str [y])] i (.str [c])->ev U (.me 1 (.var i) .nil) [some (.str [x]),some (.str [y])]=some (.str [mV c]):=fun i c hc h=>by
   refine(?_:(ev U (.var i) _).bind _=_)
   refine zK (zA h) ?_
   refine(?_:(if c<128 then some (PV.str [if 65<=c&&c<=90 then c+32 else c])else none)=_)
   refine xU hc ?_;rfl
  have t2:aY U (.cmp .Eq (.me 1 (.var 0) .nil) (.me 1 (.var 1) .nil)) [some (.str [x]),some (.str [y])]=some (mV x==mV y):=by
   refine(?_:(ev U (.me 1 (.var 0) .nil) _).bind _=_)
   (refine zK (m 0 x hx rfl) ?_;refine zK (m 1 y hy rfl) ?_)
   refine(?_:some (([mV x]:List Nat)==[mV y])=_)
   simp
  unfold gZ
  by_cases h1:x==y
  ·rw[if_pos h1]
   exact yW (gx (t1.trans (by rw[h1])) rfl)
  ·have h1':(x==y)=false:=by simpa using h1
   rw[if_neg h1]
   refine(zG (fF (t1.trans (by rw[h1'])) rfl)).trans ?_
   by_cases h2:mV x==mV y
   ·rw[if_pos h2]
    exact yW (gx (t2.trans (by rw[h2])) rfl)
   ·have vM:(mV x==mV y)=false:=by simpa using h2
    rw[if_neg h2]
    refine(zG (fF (t2.trans (by rw[vM])) rfl)).trans ?_
    exact yW rfl
 refine aJ key fun g' e=>?_
 exact(if_pos rfl).trans (by rw[e])
noncomputable def small(l:List Nat):Prop:=∀c∈l,c<128
structure LV(σ:List (Option PV))(s l:List Nat)(c:Nat)(row:List Nat):Prop where
 len:σ.length=14
 s:At σ 0 (.str s)
 l:At σ 1 (.str l)
 c:At σ 2 (pn c)
 row:At σ 5 (.list (row.map pn))
section
variable{U:Uc}{σ:List (Option PV)}{β:Option (Value×aj)}{s l:List Nat}{c:Nat}{row:List Nat}
theorem LV.set(h:LV σ s l c row){i:Nat}{p:PV}(hi:6<=i\/i=3\/i=4):LV (σ.set i (some p)) s l c row:=by
 refine⟨by rw[C5];exact h.len,h.s.set ?_,h.l.set ?_,h.c.set ?_,h.row.set ?_⟩<;>exact xJ ‹_› rfl
theorem Nt{a b:PE}{m n:Nat}(ha:ev U a σ=some (pn m))(hb:ev U b σ=some (pn n)):ev U (.bi 3 (.cons a (.cons b .nil))) σ=some (pn (jv m n)):=by
 refine(?_:((ev U a σ).bind fun x=>((ev U b σ).bind fun y=>(some []).map (y:: ·)).map (x:: ·)).bind (tI 3)=_)
 rw[ha,As,hb]
 refine(?_:some (PV.int (if(n:Int)<(m:Int)then(n:Int)else(m:Int)))=_)
 unfold jv
 by_cases h:n<m
 ·rw[if_pos (by exact Int.ofNat_lt.mpr ‹_›),if_pos h]
 ·rw[if_neg (by lia),if_neg h]
theorem zX4{i n:Nat}{a b:PE}{l:List Nat}{m:Nat}(hl:At σ i (.list (l.map pn)))(ha:ev U a σ=some (pn n))(hb:ev U b σ=some (pn m))(hn:n<l.length)(hs:l.length<=1000):den U (.set i a b) ⟨σ,β⟩=some (⟨σ.set i (some (.list ((l.set n m).map pn))),β⟩, .next):=by
 have e1:ll ⟨σ,β⟩ i=some (l.map pn):=HI hl
 refine(?_:(ev U b σ).bind _=_)
 (refine zK hb ?_;refine zK e1 ?_)
 refine(?_:(ev U a σ).bind _=_)
 refine zK ha ?_
 refine(?_:(if(true&&decide ((0:Int)<=(n:Int))&&decide ((n:Int)<((l.map pn).length:Int))&&decide ((l.map pn).length<=1000))=true then some ((⟨σ,β⟩:Sg).set i (.list ((l.map pn).set ((n:Int)).toNat (pn m))),Fl.next)else none)=_)
 refine xU (by simp;exact Jj ‹_› ‹_›) ?_
 rw[List.map_set];rfl
theorem zX3(hU:∀x y:Nat,x<128->y<128->U 0 [.str [x], .str [y]]=some (pn (gZ x y)))(hs:small s)(nI:s.length<=40){bc:Nat}(gr:bc<128){q:sQ}{i:Nat}(hi:i<s.length)(hr:q.row.length=s.length)
  (h:LV σ s l c q.row) (h8:At σ 8 (.str [bc])) (h9:At σ 9 (pn q.d)) (h6:At σ 6 (pn q.r)) (gv:At σ 10 (pn q.m)) (uG:At σ 11 (pn i)):
  ∃aI,zT U sV ⟨σ,β⟩=some (⟨aI,β⟩, .next)/\LV aI s l c (kQ s bc q i).row/\At aI 8 (.str [bc])/\At aI 9 (pn (kQ s bc q i).d)/\At aI 6 (pn (kQ s bc q i).r)/\At aI 10 (pn (kQ s bc q i).m)/\aI[7]?=σ[7]?:=by
 have hsi:s.getD i 0<128:=by
  rw[A4,Aw hi]
  exact hs _ (List.getElem_mem _)
 have v1:ev U (.bin .Add (.var 9) (.uc 0 (.cons (.var 8) (.cons (.idx (.var 0) (.var 11)) .nil)))) σ=some (pn (q.d+gZ bc (s.getD i 0))):=by
  refine wI (zA h9) ?_
  refine(?_:((ev U (.var 8) σ).bind fun x=>((ev U (.idx (.var 0) (.var 11)) σ).bind fun y=>(some []).map (y:: ·)).map (x:: ·)).bind (U 0)=_)
  rw[zA h8,As,uD (zA h.s) (zA uG) (sM 0 hi) (by exact zB)]
  exact hU _ _ gr hsi
 have e1:den U (.assign 12 _) ⟨σ,β⟩=some (⟨σ.set 12 (some (pn (q.d+gZ bc (s.getD i 0)))),β⟩, .next):=zD v1 zP
 generalize eE:σ.set 12 (some (pn (q.d+gZ bc (s.getD i 0))))=bQ at e1
 have H1:LV bQ s l c q.row:=by rw[<-eE];exact h.set (.inl (by decide))
 have a8:At bQ 8 (.str [bc]):=by rw[<-eE];exact h8.set (by decide)
 have a6:At bQ 6 (pn q.r):=by rw[<-eE];exact h6.set (by decide)
 have oW:At bQ 10 (pn q.m):=by rw[<-eE];exact gv.set (by decide)
 have Ti:At bQ 11 (pn i):=by rw[<-eE];exact uG.set (by decide)
 have a12:At bQ 12 (pn (q.d+gZ bc (s.getD i 0))):=by rw[<-eE];exact yN (by rw[h.len];decide)
 have a7:bQ[7]?=σ[7]?:=by rw[<-eE,By (by decide)]
 have e2:den U (.assign 9 _) ⟨bQ,β⟩=some (⟨bQ.set 9 (some (pn (q.row.getD i 0))),β⟩, .next):=zD (wC (zA H1.row) (zA Ti) (mT pn 0 (by exact zH)) (by rw[An];exact xE)) zP
 generalize cv:bQ.set 9 (some (pn (q.row.getD i 0)))=bN at e2
 have H2:LV bN s l c q.row:=by rw[<-cv];exact H1.set (.inl (by decide))
 have b8:At bN 8 (.str [bc]):=by rw[<-cv];exact a8.set (by decide)
 have b6:At bN 6 (pn q.r):=by rw[<-cv];exact a6.set (by decide)
 have uH:At bN 10 (pn q.m):=by rw[<-cv];exact oW.set (by decide)
 have b11:At bN 11 (pn i):=by rw[<-cv];exact Ti.set (by decide)
 have b12:At bN 12 (pn (q.d+gZ bc (s.getD i 0))):=by rw[<-cv];exact a12.set (by decide)
 have b9:At bN 9 (pn (q.row.getD i 0)):=by rw[<-cv];exact yN (by rw[H1.len];decide)
 have b7:bN[7]?=σ[7]?:=by rw[<-cv,By (by decide),a7]
 have e3:den U (.assign 13 (.bin .Add (.bi 3 (.cons (.var 6) (.cons (.var 9) .nil))) (.lit (.int 2)))) ⟨bN,β⟩=some (⟨bN.set 13 (some (pn (jv q.r (q.row.getD i 0)+2))),β⟩, .next):=zD (wI (n:=2) (Nt (zA b6) (zA b9)) rfl) zP
 generalize cV:bN.set 13 (some (pn (jv q.r (q.row.getD i 0)+2)))=cD at e3
 have H3:LV cD s l c q.row:=by rw[<-cV];exact H2.set (.inl (by decide))
 have c8:At cD 8 (.str [bc]):=by rw[<-cV];exact b8.set (by decide)
 have c10:At cD 10 (pn q.m):=by rw[<-cV];exact uH.set (by decide)
 have c11:At cD 11 (pn i):=by rw[<-cV];exact b11.set (by decide)
 have c12:At cD 12 (pn (q.d+gZ bc (s.getD i 0))):=by rw[<-cV];exact b12.set (by decide)
 have c9:At cD 9 (pn (q.row.getD i 0)):=by rw[<-cV];exact b9.set (by decide)
 have c13:At cD 13 (pn (jv q.r (q.row.getD i 0)+2)):=by rw[<-cV];exact yN (by rw[H2.len];decide)
 have c7:cD[7]?=σ[7]?:=by rw[<-cV,By (by decide),b7]
 generalize uI:jv (jv q.r (q.row.getD i 0)+2) (q.d+gZ bc (s.getD i 0))=r'
 have e4:den U (.assign 6 _) ⟨cD,β⟩=some (⟨cD.set 6 (some (pn r')),β⟩, .next):=zD (by rw[<-uI];exact Nt (zA c13) (zA c12)) zP
 generalize jx:cD.set 6 (some (pn r'))=fY at e4
 have H4:LV fY s l c q.row:=by rw[<-jx];exact H3.set (.inl (by decide))
 have d8:At fY 8 (.str [bc]):=by rw[<-jx];exact c8.set (by decide)
 have d10:At fY 10 (pn q.m):=by rw[<-jx];exact c10.set (by decide)
 have d11:At fY 11 (pn i):=by rw[<-jx];exact c11.set (by decide)
 have d9:At fY 9 (pn (q.row.getD i 0)):=by rw[<-jx];exact c9.set (by decide)
 have d6:At fY 6 (pn r'):=by rw[<-jx];exact yN (by rw[H3.len];decide)
 have d7:fY[7]?=σ[7]?:=by rw[<-jx,By (by decide),c7]
 have e5:den U (.set 5 (.var 11) (.var 6)) ⟨fY,β⟩=some (⟨fY.set 5 (some (.list ((q.row.set i r').map pn))),β⟩, .next):=zX4 H4.row (zA d11) (zA d6) (by exact zH) (by exact xE)
 generalize kS:fY.set 5 (some (.list ((q.row.set i r').map pn)))=kT at e5
 have H5:LV kT s l c (q.row.set i r'):=by
  rw[<-kS]
  exact⟨by rw[C5];exact H4.len,H4.s.set (by decide),H4.l.set (by decide),H4.c.set (by decide),yN (by rw[H4.len];decide)⟩
 have f8:At kT 8 (.str [bc]):=by rw[<-kS];exact d8.set (by decide)
 have Tj:At kT 10 (pn q.m):=by rw[<-kS];exact d10.set (by decide)
 have f9:At kT 9 (pn (q.row.getD i 0)):=by rw[<-kS];exact d9.set (by decide)
 have f6:At kT 6 (pn r'):=by rw[<-kS];exact d6.set (by decide)
 have f7:kT[7]?=σ[7]?:=by rw[<-kS,By (by decide),d7]
 have t:aY U (.cmp .Lt (.var 6) (.var 10)) kT=some (decide (r'<q.m)):=by
  refine(?_:(ev U (.var 6) kT).bind _=_)
  (refine zK (zA f6) ?_;refine zK (zA Tj) ?_)
  refine(?_:some (decide ((r':Int)<(q.m:Int)))=_)
  congr 1
  simp
 have st:kQ s bc q i=⟨q.row.getD i 0,r',if r'<q.m then r' else q.m,q.row.set i r'⟩:=by rw[<-uI];rfl
 rw[st]
 by_cases hm:r'<q.m
 ·rw[if_pos hm]
  refine N9 (kT.set 10 (some (pn r'))) ?_ (H5.set (.inl (by decide))) (f8.set (by decide)) (f9.set (by decide)) (f6.set (by decide)) (yN (by rw[H5.len];decide)) (by rw[By (by decide),f7])
  unfold sV
  rw[zG e1,zG e2,zG e3,zG e4,zG e5]
  exact eX (gx (t.trans (by rw[decide_eq_true hm])) (eX (zD (zA f6) zP)))
 ·rw[if_neg hm]
  refine N9 kT ?_ H5 f8 f9 f6 Tj f7
  unfold sV
  rw[zG e1,zG e2,zG e3,zG e4,zG e5]
  exact eX (fF (t.trans (by rw[decide_eq_false hm])) rfl)
end
section
variable{U:Uc}{β:Option (Value×aj)}{s l:List Nat}{c:Nat}
theorem yDf{a b:Int}(ha:wB a=true)(hb:wB b=true):AI .Mult (.int a) (.int b)=some (.int (a*b)):=by
 refine(?_:(if(wB a&&wB b)=true then some (PV.int (a*b))else none)=_)
 exact xU (by rw[ha,hb];rfl) rfl
theorem zq{σ:List (Option PV)}{a b:PE}{m n:Nat}(ha:ev U a σ=some (pn m))(hb:ev U b σ=some (pn n))(hm:m<=16777216)(hn:n<=16777216):ev U (.bin .Mult a b) σ=some (pn (m*n)):=by
 refine(?_:(ev U a σ).bind _=_)
 (refine zK ha ?_;refine zK hb ?_)
 refine(yDf (uC hm) (uC hn)).trans ?_
 refine(?_:some (PV.int ((m:Int)*(n:Int)))=some (PV.int ((m*n:Nat):Int)))
 rw[Int.natCast_mul]
theorem To(s:List Nat)(bc:Nat)(q:sQ)(i:Nat):(kQ s bc q i).row.length=q.row.length:=by
 refine(?_:(q.row.set i _).length=_)
 simp
theorem Tq(s:List Nat)(bc:Nat):∀(is:List Nat) (q:sQ),(is.foldl (kQ s bc) q).row.length=q.row.length
 |[],q=>rfl
 |i::is,q=>by rw[Fz,Tq s bc is,To]
theorem Tr(hU:∀x y:Nat,x<128->y<128->U 0 [.str [x], .str [y]]=some (pn (gZ x y)))(hs:small s)(nI:s.length<=40){bc:Nat}(gr:bc<128):∀(is:List Nat) (σ:List (Option PV)) (q:sQ),(∀i∈is,i<s.length)->q.row.length=s.length->
  LV σ s l c q.row->At σ 8 (.str [bc])->At σ 9 (pn q.d)->At σ 6 (pn q.r)->At σ 10 (pn q.m)->
  ∃aI,wD [11] (zT U sV) (is.map fun i=> [pn i]) ⟨σ,β⟩=some (⟨aI,β⟩, .next)/\LV aI s l c (is.foldl (kQ s bc) q).row/\At aI 6 (pn (is.foldl (kQ s bc) q).r)/\At aI 10 (pn (is.foldl (kQ s bc) q).m)/\aI[7]?=σ[7]?
 |[],σ,q,_,_,h,_,_,h6,gv=>⟨σ,rfl,h,h6,gv,rfl⟩
 |i::is,σ,q,hi,hr,h,h8,h9,h6,gv=>by
  obtain⟨cb,e1,H1,a8,a9,a6,oW,a7⟩:=zX3 (U:=U) (β:=β) hU hs nI gr (hi i (Ai ..)) hr (h.set (i:=11) (p:=pn i) (.inl (by decide))) (h8.set (by decide)) (h9.set (by decide)) (h6.set (by decide)) (gv.set (by decide)) (yN (by rw[h.len];decide))
  obtain⟨fE,e2,H2,b6,uH,b7⟩:=Tr hU hs nI gr is cb (kQ s bc q i) (fun j hj=>hi j (Aj _ hj)) (by rw[To];exact hr) H1 a8 a9 a6 oW
  refine FP fE ?_ H2 b6 uH (by rw[b7,a7,By (by decide)])
  refine(?_:((zT U sV ⟨σ.set 11 (some (pn i)),β⟩).bind _)=_)
  rw[e1];exact e2
theorem zRb(hU:∀x y:Nat,x<128->y<128->U 0 [.str [x], .str [y]]=some (pn (gZ x y)))(hs:small s)(nI:s.length<=40)(hl:small l)(g6:l.length<=40){σ:List (Option PV)}{row:List Nat}{bi:Nat}(sW:bi<l.length)(hr:row.length=s.length)
  (h:LV σ s l c row) (h7:At σ 7 (pn bi)):
  (c<(kR s (l.getD bi 0) bi row).m/\∃g',zT U jw ⟨σ,β⟩=some (g', .ret (pn (c+1))))\/
  (¬c<(kR s (l.getD bi 0) bi row).m/\∃aI,zT U jw ⟨σ,β⟩=some (⟨aI,β⟩, .next)/\LV aI s l c (kR s (l.getD bi 0) bi row).row/\At aI 6 (pn (kR s (l.getD bi 0) bi row).r)):=by
 have gr:l.getD bi 0<128:=by
  rw[A4,Aw sW]
  exact hl _ (List.getElem_mem _)
 generalize Nu:l.getD bi 0=bc at gr
 have e1:den U (.assign 8 (.idx (.var 1) (.var 7))) ⟨σ,β⟩=some (⟨σ.set 8 (some (.str [bc])),β⟩, .next):=zD (uD (zA h.l) (zA h7) (by rw[<-Nu];exact sM 0 sW) (by exact zB)) yL
 have H1:LV (σ.set 8 (some (.str [bc]))) s l c row:=h.set (.inl (by decide))
 have e2:den U (.cZ 9 6 (.bin .Mult (.var 7) (.lit (.int 2)))) ⟨σ.set 8 (some (.str [bc])),β⟩=some (⟨((σ.set 8 (some (.str [bc]))).set 9 (some (pn (bi*2)))).set 6 (some (pn (bi*2))),β⟩, .next):=by
  have v:ev U (.bin .Mult (.var 7) (.lit (.int 2))) (σ.set 8 (some (.str [bc])))=some (pn (bi*2)):=zq (n:=2) (zA (h7.set (by decide))) rfl (by exact xP) (by decide)
  refine(?_:((IA U _ _).bind _)=_)
  unfold IA
  rw[v,As,if_pos (show(pn (bi*2)).aZ=true from rfl)];rfl
 generalize cv:((σ.set 8 (some (.str [bc]))).set 9 (some (pn (bi*2)))).set 6 (some (pn (bi*2)))=bN at e2
 have H2:LV bN s l c row:=by rw[<-cv];exact(H1.set (.inl (by decide))).set (.inl (by decide))
 have e3:den U (.assign 10 (.lit (.int 9223372036854775807))) ⟨bN,β⟩=some (⟨bN.set 10 (some (pn uE)),β⟩, .next):=zD (e:= .lit _) rfl rfl
 generalize cV:bN.set 10 (some (pn uE))=cD at e3
 have L2:bN.length=14:=H2.len
 have H3:LV cD s l c row:=by rw[<-cV];exact H2.set (.inl (by decide))
 have a8:At cD 8 (.str [bc]):=by rw[<-cV,<-cv];exact(((yN (by rw[h.len];decide)).set (by decide)).set (by decide)).set (by decide)
 have a9:At cD 9 (pn (bi*2)):=by rw[<-cV,<-cv];exact((yN (by simp[h.len])).set (by decide)).set (by decide)
 have a6:At cD 6 (pn (bi*2)):=by rw[<-cV,<-cv];exact(yN (by simp[h.len])).set (by decide)
 have oW:At cD 10 (pn uE):=by rw[<-cV];exact yN (by rw[L2];decide)
 refine pG (Tr (U:=U) (β:=β) (c:=c) (l:=l) hU hs nI gr (Au s.length) cD ⟨bi*2,bi*2,uE,row⟩ (fun i hi=>B5.mp hi) hr H3 a8 a9 a6 oW) fun fY e4 H4 b6 uH _=>?_
 have e4':den U (.forR 11 (.bi 0 (.cons (.var 0) .nil)) sV) ⟨cD,β⟩=some (⟨fY,β⟩, .next):=by
  rw[EF (n:=s.length) (qE (zA H3.s) (by exact zB)) (by exact zB)]
  exact e4
 have vi:kR s bc bi row=(Au s.length).foldl (kQ s bc) ⟨bi*2,bi*2,uE,row⟩:=rfl
 rw[<-vi]at H4 b6 uH
 have t:aY U (.cmp .Gt (.var 10) (.var 2)) fY=some (decide (c<(kR s bc bi row).m)):=sL (zA uH) (zA H4.c)
 have run:zT U jw ⟨σ,β⟩=zT U (.cons (.ifs (.cmp .Gt (.var 10) (.var 2)) (.cons (.ret (.bin .Add (.var 2) (.lit (.int 1)))) .nil) .nil) .nil) ⟨fY,β⟩:=by
  unfold jw
  rw[zG e1,zG e2,zG e3,zG e4']
 by_cases hm:c<(kR s bc bi row).m
 ·refine .inl ⟨hm,⟨fY,β⟩,?_⟩
  rw[run]
  refine yW (gx (t.trans (by rw[decide_eq_true hm])) (yW ?_))
  refine(?_:((fk U _ ⟨fY,β⟩).bind _)=_)
  unfold fk
  rw[wI (n:=1) (zA H4.c) rfl,As,if_pos zP];rfl
 ·refine .inr ⟨hm,fY,?_,H4,b6⟩
  rw[run]
  exact eX (fF (t.trans (by rw[decide_eq_false hm])) rfl)
theorem zQ2(s:List Nat)(bc bi:Nat)(row:List Nat):(kR s bc bi row).row.length=row.length:=Tq ..
theorem Ts(hU:∀x y:Nat,x<128->y<128->U 0 [.str [x], .str [y]]=some (pn (gZ x y)))(hs:small s)(nI:s.length<=40)(hl:small l)(g6:l.length<=40):∀(r:List Nat) (bi:Nat) (σ:List (Option PV)) (row:List Nat) (res:Nat),l.drop bi=r->row.length=s.length->LV σ s l c row->At σ 6 (pn res)->
  (∃aI v,wD [7] (zT U jw) ((F9 bi r.length).map fun i=> [pn i]) ⟨σ,β⟩=some (⟨aI,β⟩, .next)/\At aI 6 (pn v)/\uF s c r bi row res=v)\/(∃g',wD [7] (zT U jw) ((F9 bi r.length).map fun i=> [pn i]) ⟨σ,β⟩=some (g', .ret (pn (uF s c r bi row res))))
 |[],bi,σ,row,res,_,_,_,h6=> .inl ⟨σ,res,rfl,h6,rfl⟩
 |bc::r,bi,σ,row,res,hd,hr,h,h6=>by
  have sW:bi<l.length:=by
   have:(l.drop bi).length=r.length+1:=by rw[hd];rfl
   rw[Bu]at this;lia
  have gr:l.getD bi 0=bc:=by
   have:=A5 sW
   rw[hd]at this
   rw[A4,Aw sW]
   exact(D8 this).1.symm
  have md:l.drop (bi+1)=r:=by
   have:=A5 sW
   rw[hd]at this
   exact(D8 this).2.symm
  have run:∀x,((zT U jw ⟨σ.set 7 (some (pn bi)),β⟩).bind fun q=>match q with
   |(g', .next)=>wD [7] (zT U jw) ((F9 (bi+1) r.length).map fun i=> [pn i]) g'
   |(g', .cont)=>wD [7] (zT U jw) ((F9 (bi+1) r.length).map fun i=> [pn i]) g'
   |(g', .brk)=>some (g', .next)
   |(g', .ret p)=>some (g', .ret p))=x->wD [7] (zT U jw) ((F9 bi (bc::r).length).map fun i=> [pn i]) ⟨σ,β⟩=x:=fun x e=>e
  rcases zRb (U:=U) (β:=β) hU hs nI hl g6 sW hr (h.set (i:=7) (p:=pn bi) (.inl (by decide))) (yN (by rw[h.len];decide))with⟨hm,g',e⟩|⟨hm,cb,e,H1,b6⟩
  ·rw[gr]at hm
   refine .inr ⟨g',run _ ?_⟩
   rw[e]
   refine(?_:some (g',Fl.ret (pn (c+1)))=some (g',Fl.ret (pn (if c<(kR s bc bi row).m then c+1 else _))))
   rw[if_pos hm]
  ·rw[gr]at hm H1 b6
   have rr:uF s c (bc::r) bi row res=uF s c r (bi+1) (kR s bc bi row).row (kR s bc bi row).r:=by
    refine(?_:(if c<(kR s bc bi row).m then c+1 else _)=_)
    exact eM hm rfl
   rw[rr]
   rcases Ts hU hs nI hl g6 r (bi+1) cb _ _ md (by rw[zQ2];exact hr) H1 b6 with⟨aI,v,e',h',c'⟩|⟨g',e'⟩
   ·exact .inl ⟨aI,v,run _ (by rw[e];exact e'),h',c'⟩
   ·exact .inr ⟨g',run _ (by rw[e];exact e')⟩
noncomputable def EJ:ea:=(.cons (.ifs (.cmp .Gt (.bin .Mult (.bin .Sub (.bi 0 (.cons (.var 1) .nil)) (.bi 0 (.cons (.var 0) .nil))) (.lit (.int 2))) (.var 2)) (.cons (.ret (.bin .Add (.var 2) (.lit (.int 1)))) .nil) .nil) (.cons (.assign 5 (.bi 5 (.cons (.lit (.int 2)) (.cons (.bin .Mult (.lit (.int 2)) (.bin .Add (.bi 0 (.cons (.var 0) .nil)) (.lit (.int 1)))) (.cons (.lit (.int 2)) .nil))))) (.cons (.assign 6 (.lit (.int 0))) (.cons (.forR 7 (.bi 0 (.cons (.var 1) .nil)) jw) (.cons (.ret (.var 6)) .nil)))))
theorem zPd(n:Nat):qQ 2 (2*((n:Int)+1)) 2=((Au n).map fun i=>2+2*i).map pn:=by
 unfold qQ
 have hc:(if(2:Int)<2*((n:Int)+1)then((2*((n:Int)+1)-2-1)/2+1).toNat else 0)=n:=by
  split<;>lia
 rw[hc,A8]
 refine Ct fun i _=>?_
 refine(?_:PV.int (2+(i:Int)*2)=PV.int ((2+2*i:Nat):Int))
 congr 1
 lia
theorem Tt(hU:∀x y:Nat,x<128->y<128->U 0 [.str [x], .str [y]]=some (pn (gZ x y)))(hs:small s)(nI:s.length<=40)(hl:small l)(g6:l.length<=40)(hle:s.length<=l.length){σ:List (Option PV)}
  (hL:σ.length=14) (h0:At σ 0 (.str s)) (h1:At σ 1 (.str l)) (h2:At σ 2 (pn c)):∃g',zT U EJ ⟨σ,β⟩=some (g', .ret (pn (EI s l c))):=by
 have n0:ev U (.bi 0 (.cons (.var 0) .nil)) σ=some (pn s.length):=qE (zA h0) (by exact xQ)
 have n1:ev U (.bi 0 (.cons (.var 1) .nil)) σ=some (pn l.length):=qE (zA h1) (by exact zB)
 have v:ev U (.bin .Mult (.bin .Sub (.bi 0 (.cons (.var 1) .nil)) (.bi 0 (.cons (.var 0) .nil))) (.lit (.int 2))) σ=some (pn ((l.length-s.length)*2)):=by
  have v0:ev U (.bin .Sub (.bi 0 (.cons (.var 1) .nil)) (.bi 0 (.cons (.var 0) .nil))) σ=some (pn (l.length-s.length)):=by
   refine(?_:(ev U (.bi 0 (.cons (.var 1) .nil)) σ).bind _=_)
   (refine zK n1 ?_;refine zK n0 ?_)
   refine(?_:some (PV.int ((l.length:Int)-(s.length:Int)))=some (PV.int ((l.length-s.length:Nat):Int)))
   congr 2
   lia
  exact zq (n:=2) v0 rfl (by exact zL) (by decide)
 have t:aY U (.cmp .Gt (.bin .Mult (.bin .Sub (.bi 0 (.cons (.var 1) .nil)) (.bi 0 (.cons (.var 0) .nil))) (.lit (.int 2))) (.var 2)) σ=some (decide (c<(l.length-s.length)*2)):=sL v (zA h2)
 unfold EI
 by_cases hb:c<(l.length-s.length)*2
 ·rw[if_pos hb]
  refine cn ⟨σ,β⟩ (yW (gx (t.trans (by rw[decide_eq_true hb])) (yW ?_)))
  refine(?_:((fk U _ ⟨σ,β⟩).bind _)=_)
  unfold fk
  rw[wI (n:=1) (zA h2) rfl,As,if_pos zP];rfl
 ·rw[if_neg hb]
  have e0:=fF (U:=U) (β:=β) (a:= .cons (.ret (.bin .Add (.var 2) (.lit (.int 1)))) .nil) (b:= .nil) (t.trans (by rw[decide_eq_false hb])) rfl
  have e1:den U (.assign 5 (.bi 5 (.cons (.lit (.int 2)) (.cons (.bin .Mult (.lit (.int 2)) (.bin .Add (.bi 0 (.cons (.var 0) .nil)) (.lit (.int 1)))) (.cons (.lit (.int 2)) .nil))))) ⟨σ,β⟩=some (⟨σ.set 5 (some (.list (((Au s.length).map fun i=>2+2*i).map pn))),β⟩, .next):=by
   refine zD (p:= .list _) ?_ (by
    refine(?_:(List.all _ PV.aZ)=true)
    rw[Hb,Ao]
    exact fun _ _=>rfl)
   have m:ev U (.bin .Mult (.lit (.int 2)) (.bin .Add (.bi 0 (.cons (.var 0) .nil)) (.lit (.int 1)))) σ=some (.int (2*((s.length:Int)+1))):=by
    rw[zq (m:=2) rfl (wI (n:=1) n0 rfl) (by decide) (by lia)]
    refine(?_:some (PV.int ((2*(s.length+1):Nat):Int))=_)
    congr 2
   refine(?_:((some (PV.int 2)).bind fun x=>((ev U (.bin .Mult _ _) σ).bind fun y=>((some (PV.int 2)).bind fun z=>(some []).map (z:: ·)).map (y:: ·)).map (x:: ·)).bind (tI 5)=_)
   rw[m]
   refine(?_:(if(decide ((0:Int)<=2)&&decide ((2:Int)<=1000)&&decide (0<=2*((s.length:Int)+1))&&decide (2*((s.length:Int)+1)<=1000)&&decide ((0:Int)<2)&&decide ((2:Int)<=1000))=true then some (PV.list (qQ 2 (2*((s.length:Int)+1)) 2))else none)=_)
   (refine xU (by simp;lia) ?_;rw[zPd])
  have e2:∀σ,den U (.assign 6 (.lit (.int 0))) ⟨σ,β⟩=some (⟨σ.set 6 (some (pn 0)),β⟩, .next):=fun σ=>zD (e:= .lit _) rfl rfl
  generalize cv:(σ.set 5 (some (.list (((Au s.length).map fun i=>2+2*i).map pn)))).set 6 (some (pn 0))=bN
  have H2:LV bN s l c ((Au s.length).map fun i=>2+2*i):=by
   rw[<-cv]
   exact⟨by simp[hL],(h0.set (by decide)).set (by decide),(h1.set (by decide)).set (by decide),(h2.set (by decide)).set (by decide),(yN (by rw[hL];decide)).set (by decide)⟩
  have a6:At bN 6 (pn 0):=by rw[<-cv];exact yN (by simp[hL])
  have run:zT U EJ ⟨σ,β⟩=zT U (.cons (.forR 7 (.bi 0 (.cons (.var 1) .nil)) jw) (.cons (.ret (.var 6)) .nil)) ⟨bN,β⟩:=by
   unfold EJ
   rw[zG e0,zG e1,zG (e2 _),cv]
  rw[run]
  have fr:den U (.forR 7 (.bi 0 (.cons (.var 1) .nil)) jw) ⟨bN,β⟩=wD [7] (zT U jw) ((F9 0 l.length).map fun i=> [pn i]) ⟨bN,β⟩:=by
   rw[EF (n:=l.length) (qE (zA H2.l) (by exact zB)) (by exact zB),H6]
  rcases Ts (U:=U) (β:=β) hU hs nI hl g6 l 0 bN _ 0 (by rfl) (by simp) H2 a6 with⟨aI,v,e,h',c'⟩|⟨g',e⟩
  ·refine cn ⟨aI,β⟩ ((zG (fr.trans e)).trans (yW ?_))
   rw[c']
   refine(?_:((fk U _ ⟨aI,β⟩).bind _)=_)
   unfold fk
   rw[zA h',As,if_pos zP];rfl
  ·exact cn g' (yW (fr.trans e))
end
noncomputable def lJ(a b:List Nat)(k:Nat):Bool:=match a.drop k,b.drop k with
 |x::_,y::_=>x==y
 |_,_=>false
theorem Tu(a b:List Nat)(k:Nat):gO (a.drop k) (b.drop k)=if lJ a b k then gO (a.drop (k+1)) (b.drop (k+1))+1 else 0:=by
 have h1:a.drop (k+1)=(a.drop k).drop 1:=by rw[Iy,Ej]
 have h2:b.drop (k+1)=(b.drop k).drop 1:=by rw[Iy,Ej]
 unfold lJ
 rw[h1,h2]
 generalize a.drop k=x
 generalize b.drop k=y
 match x,y with
 |[],_=>rfl
 |_::_,[]=>rfl
 |x::a,y::b=>rfl
theorem EK{a b:List Nat}{k:Nat}(h:lJ a b k=true):k<a.length/\k<b.length/\a[k]?=b[k]?:=by
 unfold lJ at h
 split at h
 ·next x r y t e1 e2=>
  have l1:k<a.length:=by
   have:(a.drop k).length=r.length+1:=by rw[e1];rfl
   rw[Bu]at this;exact Nat.lt_of_sub_pos (this▸G8 _)
  have l2:k<b.length:=by
   have:(b.drop k).length=t.length+1:=by rw[e2];rfl
   rw[Bu]at this;exact Nat.lt_of_sub_pos (this▸G8 _)
  refine nP l1 l2 ?_
  rw[A5 l1]at e1
  rw[A5 l2]at e2
  rw[Aw l1,Aw l2,(D8 e1).1,(D8 e2).1]
  exact eq_of_beq h
 ·exact ft h
theorem Tv{a b:List Nat}{k:Nat}(h1:k<a.length)(h2:k<b.length):lJ a b k=(a.getD k 0==b.getD k 0):=by
 unfold lJ
 rw[A5 h1,A5 h2]
 rw[A4,Aw h1,A4,Aw h2];rfl
theorem Tw{a b:List Nat}{k:Nat}(h:¬(k<a.length/\k<b.length)):lJ a b k=false:=by
 cases e:lJ a b k with
 |false=>rfl
 |true=>exact absurd ⟨(EK e).1,(EK e).2.1⟩ h
theorem zV5(a b:List Nat):gO a b<=a.length/\gO a b<=b.length:=by
 induction a generalizing b with
 |nil=>cases b<;>simp[gO]
 |cons x a ih=>
  cases b with
  |nil=>simp[gO]
  |cons y b=>
   have:=ih b
   refine(?_:(if x==y then gO a b+1 else 0)<=_/\(if x==y then gO a b+1 else 0)<=_)
   split<;>simp<;>lia
section
variable{U:Uc}{σ:List (Option PV)}{β:Option (Value×aj)}{a b:List Nat}
theorem uJ{e:PE}{s:List Nat}(h:ev U e σ=some (.str s))(hs:s.length<=ag):aY U (.eG e) σ=some (!s.isEmpty):=by
 refine(?_:(ev U e σ).bind qP=_)
 refine zK h ?_
 refine(?_:(if s.length<=ag then some (!s.isEmpty)else none)=_)
 exact xU hs rfl
theorem EL{t1 t2 t3:PT}{b1 b2 b3:Bool}(h1:aY U t1 σ=some b1)(h2:b1=true->aY U t2 σ=some b2)(h3:b1=true->b2=true->aY U t3 σ=some b3):aY U (.and (.cons t1 (.cons t2 (.cons t3 .nil)))) σ=some (b1&&b2&&b3):=by
 refine(?_:((aY U t1 σ).bind fun b=>if b==true then(aY U t2 σ).bind fun b=>if b==true then(aY U t3 σ).bind fun b=>if b==true then some true else some (!true)else some (!true)else some (!true))=_)
 refine zK h1 ?_
 cases b1 with
 |false=>rfl
 |true=>
  (refine xU (show(true==true)=true from rfl) ?_;refine zK (h2 rfl) ?_)
  cases b2 with
  |false=>rfl
  |true=>
   (refine xU (show(true==true)=true from rfl) ?_;refine zK (h3 rfl rfl) ?_)
   cases b3<;>rfl
theorem Nv{e f:PE}{x y:List Nat}(h1:ev U e σ=some (.str x))(h2:ev U f σ=some (.str y)):aY U (.cmp .Eq e f) σ=some (x==y):=by
 refine(?_:(ev U e σ).bind _=_)
 (refine zK h1 ?_;rw[h2]);rfl
theorem EM{i j k:Nat}{s:List Nat}(hs:At σ i (.str s))(hl:s.length<=ag)(hk:k<=s.length)(ha:At σ j (pn k)):ev U (.bD (.var i) (.yes (.var j)) .no .no) σ=some (.str (s.drop k)):=by
 rw[S8 hs hl ha]
 unfold xD
 rw[Dm hk,Lz,Fu (by rw[Bu];lia)]
theorem zTp{k:Nat}(h0:At σ 0 (.str a))(h1:At σ 1 (.str b))(h3:At σ 3 (pn k))(ha:a.length<=60)(hb:b.length<=60)(hk:k<=a.length/\k<=b.length):aY U zk σ=some (lJ a b k):=by
 have sa:a.length<=ag:=by unfold ag;lia
 have sb:b.length<=ag:=by unfold ag;lia
 have t1:=uJ (EM (U:=U) h0 sa hk.1 h3) (by rw[Bu];lia)
 have t2:=uJ (EM (U:=U) h1 sb hk.2 h3) (by rw[Bu];lia)
 by_cases aX:k<a.length/\k<b.length
 ·have t3:=Nv (U:=U) (uD (zA h0) (zA h3) (sM 0 aX.1) sa) (uD (zA h1) (zA h3) (sM 0 aX.2) sb)
  refine(EL t1 (fun _=>t2) (fun _ _=>t3)).trans ?_
  rw[Tv aX.1 aX.2]
  have e1:(a.drop k).isEmpty=false:=by rw[A5 aX.1];rfl
  have e2:(b.drop k).isEmpty=false:=by rw[A5 aX.2];rfl
  rw[e1,e2]
  simp
 ·refine(EL (b3:=false) t1 (fun _=>t2) (fun q1 q2=>?_)).trans ?_
  ·exfalso
   apply aX
   constructor
   ·apply C9;intro h
    rw[J4 (by lia)]at q1;exact ft q1
   ·apply C9;intro h
    rw[J4 (by lia)]at q2;exact ft q2
  ·rw[Tw aX];simp
theorem Tx(ha:a.length<=60)(hb:b.length<=60):∀(n k:Nat) (σ:List (Option PV)),σ.length=14->At σ 0 (.str a)->At σ 1 (.str b)->At σ 3 (pn k)->k<=a.length->k<=b.length->a.length<n+k->
  nr U zk (zT U (.cons (.aug .Add 3 (.lit (.int 1))) .nil)) n ⟨σ,β⟩=some (⟨σ.set 3 (some (pn (k+gO (a.drop k) (b.drop k)))),β⟩, .next)
 |0,k,σ,_,_,_,_,h1,_,h2=>by lia
 |n+1,k,σ,hL,h0,h1,h3,iy,hkb,hn=>by
  refine(?_:((aY U zk σ).bind _)=_)
  (refine zK (zTp h0 h1 h3 ha hb ⟨iy,hkb⟩) ?_;rw[Tu])
  cases hs:lJ a b k with
  |true=>
   refine dX (EK hs) fun l1 l2 _=>?_
   rw[if_pos rfl,if_pos rfl]
   have e:zT U (.cons (.aug .Add 3 (.lit (.int 1))) .nil) ⟨σ,β⟩=some (⟨σ.set 3 (some (pn (k+1))),β⟩, .next):=by
    refine eX ?_
    refine(?_:((σ[3]?).bind id).bind _=_)
    rw[h3];rfl
   refine zK e ?_
   dsimp only
   rw[Tx ha hb n (k+1) _ (by rw[C5];exact hL) (h0.set (by decide)) (h1.set (by decide)) (yN (by rw[hL];decide)) l1 l2 (by lia)]
   rw[L0,show k+(gO (a.drop (k+1)) (b.drop (k+1))+1)=k+1+gO (a.drop (k+1)) (b.drop (k+1))from by rw[C3,Ej 1]]
  |false=>
   rw[if_neg (by decide),if_neg (by decide)]
   congr 3
   apply List.ext_getElem?
   intro j
   by_cases hj:3=j
   ·subst hj
    rw[El (by rw[hL];decide),h3];rfl
   ·rw[By hj]
theorem yAn(k n:Nat)(hk:0<k):Fs (some (-(k:Int))) n=n-k:=by
 unfold Fs
 refine xU (by lia) ?_
 congr 1
 lia
theorem EN{i k:Nat}{s:List Nat}(hs:At σ i (.str s))(hl:s.length<=ag)(h4:At σ 4 (.int (-(k:Int)))):ev U (.bD (.var i) .no (.yes (.gA (.var 4) (.lit .none))) .no) σ=some (.str (s.take (s.length-k))):=by
 have ho:tJ U (.yes (.gA (.var 4) (.lit .none))) σ=some (if k=0 then none else some (-(k:Int))):=by
  refine(?_:((ev U (.var 4) σ).bind fun x=>(qP x).bind fun t=>if t then some x else some PV.none).bind (fun x=>FU (some x))=_)
  rw[zA h4,As]
  refine(?_:((some ((-(k:Int)) !=0)).bind fun t=>if t then some (PV.int (-(k:Int)))else some PV.none).bind (fun x=>FU (some x))=_)
  rw[As]
  by_cases h:k=0
  ·subst h;rfl
  ·have e1:((-(k:Int)) !=0)=true:=by simp;lia
   rw[e1,if_pos rfl,if_neg h];rfl
 refine(?_:(ev U (.var i) σ).bind _=_)
 refine zK (zA hs) ?_
 refine(?_:(tJ U (.yes (.gA (.var 4) (.lit .none))) σ).bind _=_)
 refine zK ho ?_
 refine(?_:(if s.length<=ag then some (PV.str ((s.drop 0).take (Fs (if k=0 then none else some (-(k:Int))) s.length-0)))else none)=_)
 refine xU hl ?_
 by_cases h:k=0
 ·subst h
  rw[if_pos rfl];rfl
 ·rw[if_neg h,yAn k _ (by lia)];rfl
theorem Tz{i k:Nat}{s:List Nat}(hs:At σ i (.str s))(hl:s.length<=60)(h4:At σ 4 (.int (-(k:Int))))(hk:k<s.length):ev U (.idx (.var i) (.bin .Sub (.var 4) (.lit (.int 1)))) σ=some (.str [s.reverse.getD k 0]):=by
 have v:ev U (.bin .Sub (.var 4) (.lit (.int 1))) σ=some (.int (-(k:Int)-1)):=by
  refine(?_:(ev U (.var 4) σ).bind _=_)
  refine zK (zA h4) ?_;rfl
 refine(?_:(ev U (.var i) σ).bind _=_)
 (refine zK (zA hs) ?_;refine zK v ?_)
 refine S3 (k:=s.length-1-k) ?_ ?_ ?_
 ·unfold wB
  exact A9.mpr ⟨decide_eq_true (by lia),decide_eq_true (by lia)⟩
 ·have hj:(if(-(k:Int)-1)<0 then(-(k:Int)-1)+(s.length:Int)else(-(k:Int)-1))=((s.length-1-k:Nat):Int):=by
   refine xU (by lia) ?_;lia
  unfold F2
  rw[hj,if_pos (by simp;lia)];rfl
 ·have hr:k<s.reverse.length:=by simpa using hk
  rw[A4,Aw hr,List.getElem_reverse]
  rw[Aw (Dn (Hn _ _) (Nat.sub_lt (Nat.zero_lt_of_lt hk) Nat.one_pos))];rfl
theorem zVc{k:Nat}(h0:At σ 0 (.str a))(h1:At σ 1 (.str b))(h4:At σ 4 (.int (-(k:Int))))(ha:a.length<=60)(hb:b.length<=60):aY U zo σ=some (lJ a.reverse b.reverse k):=by
 have sa:a.length<=ag:=by unfold ag;lia
 have sb:b.length<=ag:=by unfold ag;lia
 have t1:=uJ (EN (U:=U) h0 sa h4) (by rw[Cs];exact Ad (Jo _ _) sa)
 have t2:=uJ (EN (U:=U) h1 sb h4) (by rw[Cs];exact Ad (Jo _ _) sb)
 by_cases aX:k<a.reverse.length/\k<b.reverse.length
 ·have l1:k<a.length:=by simpa using aX.1
  have l2:k<b.length:=by simpa using aX.2
  have t3:=Nv (U:=U) (Tz h0 ha h4 l1) (Tz h1 hb h4 l2)
  refine(EL t1 (fun _=>t2) (fun _ _=>t3)).trans ?_
  rw[Tv aX.1 aX.2]
  have e1:(a.take (a.length-k)).isEmpty=false:=by
   cases h:(a.take (a.length-k))with
   |nil=>
    have:(a.take (a.length-k)).length=0:=by rw[h];rfl
    rw[Cs,Dm (Hn _ _)]at this;exact absurd this (He (F7 l1))
   |cons _ _=>rfl
  have e2:(b.take (b.length-k)).isEmpty=false:=by
   cases h:(b.take (b.length-k))with
   |nil=>
    have:(b.take (b.length-k)).length=0:=by rw[h];rfl
    rw[Cs,Dm (Hn _ _)]at this;exact absurd this (He (F7 l2))
   |cons _ _=>rfl
  rw[e1,e2]
  simp
 ·refine(EL (b3:=false) t1 (fun _=>t2) (fun q1 q2=>?_)).trans ?_
  ·exfalso
   apply aX
   rw[Dg,Dg]
   constructor
   ·apply C9;intro h
    rw[Kc (Cg h)]at q1;exact ft q1
   ·apply C9;intro h
    rw[Kc (Cg h)]at q2;exact ft q2
  ·rw[Tw aX];simp
theorem TF(ha:a.length<=60)(hb:b.length<=60):∀(n k:Nat) (σ:List (Option PV)),σ.length=14->At σ 0 (.str a)->At σ 1 (.str b)->At σ 4 (.int (-(k:Int)))->k<=a.length->a.length<n+k->
  nr U zo (zT U (.cons (.aug .Sub 4 (.lit (.int 1))) .nil)) n ⟨σ,β⟩=some (⟨σ.set 4 (some (.int (-((k+gO (a.reverse.drop k) (b.reverse.drop k):Nat):Int)))),β⟩, .next)
 |0,k,σ,_,h0,h1,h4,iy,hn=>by lia
 |n+1,k,σ,hL,h0,h1,h4,iy,hn=>by
  refine(?_:((aY U zo σ).bind _)=_)
  (refine zK (zVc h0 h1 h4 ha hb) ?_;rw[Tu])
  cases hs:lJ a.reverse b.reverse k with
  |true=>
   refine dX (EK hs) fun l1 l2 _=>?_
   rw[if_pos rfl,if_pos rfl]
   have e:zT U (.cons (.aug .Sub 4 (.lit (.int 1))) .nil) ⟨σ,β⟩=some (⟨σ.set 4 (some (.int (-((k+1:Nat):Int)))),β⟩, .next):=by
    refine eX ?_
    refine(?_:((σ[4]?).bind id).bind _=_)
    rw[h4]
    refine(?_:some ((⟨σ,β⟩:Sg).set 4 (.int (-(k:Int)-1)),Fl.next)=_)
    rw[show(-(k:Int)-1)= -((k+1:Nat):Int)by lia];rfl
   refine zK e ?_
   dsimp only
   rw[TF ha hb n (k+1) _ (by rw[C5];exact hL) (h0.set (by decide)) (h1.set (by decide)) (yN (by rw[hL];decide)) (by rw[Dg]at l1;exact l1) (by lia)]
   rw[L0,show k+(gO (a.reverse.drop (k+1)) (b.reverse.drop (k+1))+1)=k+1+gO (a.reverse.drop (k+1)) (b.reverse.drop (k+1))from by rw[C3,Ej 1]]
  |false=>
   rw[if_neg (by decide),if_neg (by decide)]
   congr 3
   apply List.ext_getElem?
   intro j
   by_cases hj:4=j
   ·subst hj
    rw[El (by rw[hL];decide),h4];rfl
   ·rw[By hj]
theorem TG{t1 t2:PT}{b1 b2:Bool}(h1:aY U t1 σ=some b1)(h2:aY U t2 σ=some b2):aY U (.or (.cons t1 (.cons t2 .nil))) σ=some (b1||b2):=by
 refine(?_:((aY U t1 σ).bind fun b=>if b==false then(aY U t2 σ).bind fun b=>if b==false then some false else some (!false)else some (!false))=_)
 refine zK h1 ?_
 cases b1 with
 |true=>rfl
 |false=>
  (refine xU (show(false==false)=true from rfl) ?_;refine zK h2 ?_)
  cases b2<;>rfl
theorem Nw{t:PT}{b:Bool}(h:aY U t σ=some b):aY U (.not t) σ=some (!b):=by
 refine(?_:(aY U t σ).map _=_)
 rw[h];rfl
theorem zVo(hU:∀x y:Nat,x<128->y<128->U 0 [.str [x], .str [y]]=some (pn (gZ x y))){c:Nat}(qj:small a)(ha:a.length<=40)(iB:small b)(hb:b.length<=40)
  (hL:σ.length=14) (h0:At σ 0 (.str a)) (h1:At σ 1 (.str b)) (h2:At σ 2 (pn c)):∃g',zT U Nr ⟨σ,β⟩=some (g', .ret (pn (Nq a b c))):=by
 have sa:a.length<=ag:=by unfold ag;lia
 have sb:b.length<=ag:=by unfold ag;lia
 have n0:ev U (.bi 0 (.cons (.var 0) .nil)) σ=some (pn a.length):=qE (zA h0) sa
 have n1:ev U (.bi 0 (.cons (.var 1) .nil)) σ=some (pn b.length):=qE (zA h1) sb
 have tA:aY U (.or (.cons (.not (.eG (.var 0))) (.cons (.not (.eG (.var 1))) .nil))) σ=some (a.isEmpty||b.isEmpty):=by
  rw[TG (Nw (uJ (zA h0) sa)) (Nw (uJ (zA h1) sb))]
  simp
 unfold Nq
 by_cases he:(a.isEmpty||b.isEmpty)=true
 ·rw[if_pos he]
  refine cn ⟨σ,β⟩ (yW (gx (tA.trans (by rw[he])) (yW ?_)))
  refine(?_:((fk U _ ⟨σ,β⟩).bind _)=_)
  unfold fk
  rw[zq (m:=2) rfl (wI n0 n1) (by decide) (by lia),As,if_pos zP];rfl
 ·have he':(a.isEmpty||b.isEmpty)=false:=by simpa using he
  rw[if_neg he]
  have e1:=fF (U:=U) (β:=β) (a:= .cons (.ret (.bin .Mult (.lit (.int 2)) (.bin .Add (.bi 0 (.cons (.var 0) .nil)) (.bi 0 (.cons (.var 1) .nil))))) .nil) (b:= .nil) (tA.trans (by rw[he'])) rfl
  have tB:aY U (.or (.cons (.cmp .Gt (.bi 0 (.cons (.var 0) .nil)) (.lit (.int 40))) (.cons (.cmp .Gt (.bi 0 (.cons (.var 1) .nil)) (.lit (.int 40))) .nil))) σ=some false:=by
   rw[TG (sL (n:=40) n0 rfl) (sL (n:=40) n1 rfl),decide_eq_false (by lia),decide_eq_false (by lia)];rfl
  have e2:=fF (U:=U) (β:=β) (a:= .cons (.ret (.bin .Add (.var 2) (.lit (.int 1)))) .nil) (b:= .nil) tB rfl
  have tC:aY U (.cmp .Lt (.bi 0 (.cons (.var 1) .nil)) (.bi 0 (.cons (.var 0) .nil))) σ=some (decide (b.length<a.length)):=by
   refine(?_:(ev U (.bi 0 (.cons (.var 1) .nil)) σ).bind _=_)
   (refine zK n1 ?_;refine zK n0 ?_)
   refine(?_:some (decide ((b.length:Int)<(a.length:Int)))=_)
   congr 1
   simp
  have tO:zT U Nr ⟨σ,β⟩=zT U (.cons (.ifs (.cmp .Lt (.bi 0 (.cons (.var 1) .nil)) (.bi 0 (.cons (.var 0) .nil))) (.cons (.swap 0 1 (.var 1) (.var 0)) .nil) .nil) EJ) ⟨σ,β⟩:=(zG e1).trans (zG e2)
  rw[tO]
  by_cases aX:b.length<a.length
  ·rw[if_pos aX]
   have sw:den U (.swap 0 1 (.var 1) (.var 0)) ⟨σ,β⟩=some (⟨(σ.set 1 (some (.str a))).set 0 (some (.str b)),β⟩, .next):=by
    refine(?_:((ev U (.var 1) σ).bind _)=_)
    (refine zK (zA h1) ?_;rw[zA h0]);rfl
   have e3:=gx (U:=U) (β:=β) (a:= .cons (.swap 0 1 (.var 1) (.var 0)) .nil) (b:= .nil) (tC.trans (by rw[decide_eq_true aX])) (eX sw)
   obtain⟨g',e4⟩:=Tt (U:=U) (β:=β) (c:=c) (σ:=(σ.set 1 (some (.str a))).set 0 (some (.str b))) hU iB hb qj ha (by lia) (by simp[hL]) (yN (by simp[hL])) ((yN (by rw[hL];decide)).set (by decide)) ((h2.set (by decide)).set (by decide))
   exact cn g' ((zG e3).trans e4)
  ·rw[if_neg aX]
   have e3:=fF (U:=U) (β:=β) (a:= .cons (.swap 0 1 (.var 1) (.var 0)) .nil) (b:= .nil) (tC.trans (by rw[decide_eq_false aX])) rfl
   refine aJ (Tt (U:=U) (β:=β) (c:=c) hU qj ha iB hb (by lia) hL h0 h1 h2) fun g' e4=>?_
   exact cn g' ((zG e3).trans e4)
theorem zXf(hU:∀x y:Nat,x<128->y<128->U 0 [.str [x], .str [y]]=some (pn (gZ x y))){c:Nat}(qj:small a)(ha:a.length<=40)(iB:small b)(hb:b.length<=40):
  lG (zT U y0) (aF 18) 3 [.str a, .str b,pn c]=some (pn (sR a b c)):=by
 have fJ:ey (aF 18) [.str a, .str b,pn c] none=⟨[some (.str a),some (.str b),some (pn c),none,none,none,none,none,none,none,none,none,none,none],none⟩:=rfl
 have key:∃g',zT U y0 (ey (aF 18) [.str a, .str b,pn c] none)=some (g', .ret (pn (sR a b c))):=by
  rw[fJ,yAi]
  generalize bp:[some (PV.str a),some (.str b),some (pn c),none,none,none,none,none,none,none,none,none,none,none]=σ
  have hL:σ.length=14:=by rw[<-bp];rfl
  have h0:At σ 0 (.str a):=by rw[<-bp];rfl
  have h1:At σ 1 (.str b):=by rw[<-bp];rfl
  have h2:At σ 2 (pn c):=by rw[<-bp];rfl
  have sa:a.length<=ag:=by unfold ag;lia
  have sb:b.length<=ag:=by unfold ag;lia
  have t1:=Nv (U:=U) (zA h0) (zA h1)
  unfold sR
  by_cases EO:(a==b)=true
  ·rw[if_pos EO]
   exact cn ⟨σ,none⟩ (yW (gx (t1.trans (by rw[EO])) rfl))
  ·have Nx:(a==b)=false:=by simpa using EO
   rw[if_neg EO]
   dsimp only
   have e1:=fF (U:=U) (β:=none) (a:= .cons (.ret (.lit (.int 0))) .nil) (b:= .nil) (t1.trans (by rw[Nx])) rfl
   rw[zG e1]
   have e2:den U (.assign 3 (.lit (.int 0))) ⟨σ,none⟩=some (⟨σ.set 3 (some (pn 0)),none⟩, .next):=zD (e:= .lit _) rfl rfl
   rw[zG e2]
   have e3:=Tx (U:=U) (β:=none) (a:=a) (b:=b) (by lia) (by lia) 64 0 (σ.set 3 (some (pn 0))) (by simp[hL]) (h0.set (by decide)) (h1.set (by decide)) (yN (by rw[hL];decide)) (C0 _) (C0 _) (by lia)
   rw[Dx,Dx,Cp,L0]at e3
   refine au (zV5 a b) fun nj nk=>?_
   generalize gO a b=p at e3 nj nk⊢
   rw[zG (q:= .ox zk (.cons (.aug .Add 3 (.lit (.int 1))) .nil)) e3]
   generalize eE:σ.set 3 (some (pn p))=bQ
   have L1:bQ.length=14:=by rw[<-eE];simp[hL]
   have a0:At bQ 0 (.str a):=by rw[<-eE];exact h0.set (by decide)
   have a1:At bQ 1 (.str b):=by rw[<-eE];exact h1.set (by decide)
   have a2:At bQ 2 (pn c):=by rw[<-eE];exact h2.set (by decide)
   have a3:At bQ 3 (pn p):=by rw[<-eE];exact yN (by rw[hL];decide)
   have e4:den U (.assign 0 (.bD (.var 0) (.yes (.var 3)) .no .no)) ⟨bQ,none⟩=some (⟨bQ.set 0 (some (.str (a.drop p))),none⟩, .next):=zD (EM a0 sa nj a3) yL
   rw[zG e4]
   have e5:den U (.assign 1 (.bD (.var 1) (.yes (.var 3)) .no .no)) ⟨bQ.set 0 (some (.str (a.drop p))),none⟩=some (⟨(bQ.set 0 (some (.str (a.drop p)))).set 1 (some (.str (b.drop p))),none⟩, .next):=zD (EM (a1.set (by decide)) sb nk (a3.set (by decide))) yL
   rw[zG e5]
   have e6:∀σ,den U (.assign 4 (.lit (.int 0))) ⟨σ,none⟩=some (⟨σ.set 4 (some (.int (-((0:Nat):Int)))),none⟩, .next):=fun σ=>zD (e:= .lit _) rfl rfl
   rw[zG (e6 _)]
   generalize cv:((bQ.set 0 (some (.str (a.drop p)))).set 1 (some (.str (b.drop p)))).set 4 (some (.int (-((0:Nat):Int))))=bN
   have L2:bN.length=14:=by rw[<-cv];simp[L1]
   have b0:At bN 0 (.str (a.drop p)):=by rw[<-cv];exact((yN (by rw[L1];decide)).set (by decide)).set (by decide)
   have b1:At bN 1 (.str (b.drop p)):=by rw[<-cv];exact(yN (by simp[L1])).set (by decide)
   have b2:At bN 2 (pn c):=by rw[<-cv];exact((a2.set (by decide)).set (by decide)).set (by decide)
   have b4:At bN 4 (.int (-((0:Nat):Int))):=by rw[<-cv];exact yN (by simp[L1])
   have lx:(a.drop p).length<=40:=by rw[Bu];lia
   have ly:(b.drop p).length<=40:=by rw[Bu];lia
   have sx:small (a.drop p):=fun c hc=>qj c (Ia hc)
   have sy:small (b.drop p):=fun c hc=>iB c (Ia hc)
   generalize a.drop p=x at b0 lx sx⊢
   generalize b.drop p=y at b1 ly sy⊢
   have e7:=TF (U:=U) (β:=none) (a:=x) (b:=y) (by lia) (by lia) 64 0 bN L2 b0 b1 b4 (C0 _) (by lia)
   rw[Dx,Dx,Cp]at e7
   rw[zG (q:= .ox zo (.cons (.aug .Sub 4 (.lit (.int 1))) .nil)) e7]
   unfold Th
   generalize gO x.reverse y.reverse=q at e7⊢
   generalize cV:bN.set 4 (some (.int (-(q:Int))))=cD
   have L3:cD.length=14:=by rw[<-cV];simp[L2]
   have c0:At cD 0 (.str x):=by rw[<-cV];exact b0.set (by decide)
   have c1:At cD 1 (.str y):=by rw[<-cV];exact b1.set (by decide)
   have c2:At cD 2 (pn c):=by rw[<-cV];exact b2.set (by decide)
   have c4:At cD 4 (.int (-(q:Int))):=by rw[<-cV];exact yN (by rw[L2];decide)
   have e8:den U (.assign 0 (.bD (.var 0) .no (.yes (.gA (.var 4) (.lit .none))) .no)) ⟨cD,none⟩=some (⟨cD.set 0 (some (.str (x.take (x.length-q)))),none⟩, .next):=zD (EN c0 (by unfold ag;lia) c4) yL
   rw[zG e8]
   have e9:den U (.assign 1 (.bD (.var 1) .no (.yes (.gA (.var 4) (.lit .none))) .no)) ⟨cD.set 0 (some (.str (x.take (x.length-q)))),none⟩=some (⟨(cD.set 0 (some (.str (x.take (x.length-q))))).set 1 (some (.str (y.take (y.length-q)))),none⟩, .next):=zD (EN (c1.set (by decide)) (by unfold ag;lia) (c4.set (by decide))) yL
   rw[zG e9]
   exact zVo hU (fun c hc=>sx c (Gi hc)) (by rw[Cs];lia) (fun c hc=>sy c (Gi hc)) (by rw[Cs];lia) (by simp[L3]) ((yN (by rw[L3];decide)).set (by decide)) (yN (by simp[L3])) ((c2.set (by decide)).set (by decide))
 refine aJ key fun g' e=>?_
 exact(if_pos rfl).trans (by rw[e])
end
structure Kn(n:Nat)(σ:List (Option PV))(K:List (Nat×PV)):Prop where
 len:σ.length=n
 get:∀i p,K.lookup i=some p->At σ i p
theorem Kn.set{n:Nat}{σ:List (Option PV)}{K:List (Nat×PV)}(h:Kn n σ K){i:Nat}(hi:i<n)(p:PV):Kn n (σ.set i (some p)) ((i,p)::K):=by
 refine⟨by rw[C5];exact h.len,fun j q e=>?_⟩
 rw[A7]at e
 by_cases hj:j=i
 ·subst hj
  rw[show(j==j)=true by simp]at e
  obtain rfl:=Aa e
  exact yN (by rw[h.len];exact hi)
 ·rw[show(j==i)=false by simpa using hj]at e
  exact(h.get j q e).set (fun q=>hj q.symm)
section
variable{U:Uc}{σ:List (Option PV)}{β:Option (Value×aj)}{n:Nat}{K:List (Nat×PV)}
theorem zr{a b:PE}{m n:Nat}(ha:ev U a σ=some (pn m))(hb:ev U b σ=some (pn n))(hle:n<=m):ev U (.bin .Sub a b) σ=some (pn (m-n)):=by
 refine(?_:(ev U a σ).bind _=_)
 rw[ha]
 refine(?_:(ev U b σ).bind _=_)
 rw[hb]
 refine(?_:some (PV.int ((m:Int)-(n:Int)))=_)
 rw[(Int.ofNat_sub hle).symm]
theorem yAo{a b:PE}{m n:Int}(ha:ev U a σ=some (.int m))(hb:ev U b σ=some (.int n)):ev U (.bin .Sub a b) σ=some (.int (m-n)):=by
 refine(?_:(ev U a σ).bind _=_)
 rw[ha]
 refine(?_:(ev U b σ).bind _=_)
 rw[hb];rfl
theorem yAa{a:PE}{m n:Nat}(ha:ev U a σ=some (.int ((m:Int)-(n:Int)))):ev U (.bi 4 (.cons a .nil)) σ=some (pn ((m-n)+(n-m))):=by
 refine(?_:((ev U a σ).bind fun x=>(some []).map (x:: ·)).bind _=_)
 rw[ha]
 refine(?_:some (PV.int (if(m:Int)-(n:Int)<0 then -((m:Int)-(n:Int))else(m:Int)-(n:Int)))=_)
 congr 2
 split<;>lia
theorem TH{t1 t2:PT}{b1 b2:Bool}(h1:aY U t1 σ=some b1)(h2:b1=true->aY U t2 σ=some b2):aY U (.and (.cons t1 (.cons t2 .nil))) σ=some (b1&&b2):=by
 refine(?_:((aY U t1 σ).bind fun b=>if b==true then(aY U t2 σ).bind fun b=>if b==true then some true else some (!true)else some (!true))=_)
 refine zK h1 ?_
 cases b1 with
 |false=>rfl
 |true=>
  (refine xU (show(true==true)=true from rfl) ?_;refine zK (h2 rfl) ?_)
  cases b2<;>rfl
theorem zu{k:Nat}{a:PE}{x r:PV}(ha:ev U a σ=some x)(h:U k [x]=some r):ev U (.uc k (.cons a .nil)) σ=some r:=by
 refine(?_:((ev U a σ).bind fun x=>(some []).map (x:: ·)).bind _=_)
 rw[ha];exact h
theorem yBa{k:Nat}{a b c:PE}{x y z r:PV}(ha:ev U a σ=some x)(hb:ev U b σ=some y)(hc:ev U c σ=some z)(h:U k [x,y,z]=some r):ev U (.uc k (.cons a (.cons b (.cons c .nil)))) σ=some r:=by
 refine(?_:((ev U a σ).bind fun x=>((ev U b σ).bind fun y=>((ev U c σ).bind fun z=>(some []).map (z:: ·)).map (y:: ·)).map (x:: ·)).bind _=_)
 rw[ha,hb,hc];exact h
theorem TJ{a b:PE}{x y:Bool}(ha:ev U a σ=some (.bool x))(hb:ev U b σ=some (.bool y)):aY U (.cmp .IsNot a b) σ=some (!(x==y)):=by
 refine(?_:(ev U a σ).bind _=_)
 (refine zK ha ?_;rw[hb]);rfl
end
section
variable{U:Uc}{σ:List (Option PV)}{β:Option (Value×aj)}
end
theorem TK{Inv:Nat->Sg->Prop}{i n:Nat}{f:Den}(step:∀k g,k<n->Inv k g->∃g',f (g.set i (pn k))=some (g', .next)/\Inv (k+1) g'):∀(m k:Nat) (g:Sg),k+m=n->Inv k g->∃g',wD [i] f ((F9 k m).map fun k=> [pn k]) g=some (g', .next)/\Inv n g'
 |0,k,g,hk,h=>⟨g,rfl,by rw[Nat.add_zero]at hk;rw[<-hk];exact h⟩
 |m+1,k,g,hk,h=>by
  refine aB (step k g (by exact xS) h) fun g₁ e1 h1=>?_
  refine aB (TK step m (k+1) g₁ (by lia) h1) fun cg e2 h2=>?_
  refine i12 cg ?_ h2
  rw[List.range'_succ,Ds]
  refine(?_:((f (g.set i (pn k))).bind _)=_)
  rw[e1];exact e2
theorem TL{Inv:Nat->Sg->Prop}{i n:Nat}{f:Den}{g:Sg}(h:Inv 0 g)(step:∀k g,k<n->Inv k g->∃g',f (g.set i (pn k))=some (g', .next)/\Inv (k+1) g'):∃g',wD [i] f ((Au n).map fun k=> [pn k]) g=some (g', .next)/\Inv n g':=by
 rw[H6]
 exact TK step n 0 g (Cp n) h
section
variable{U:Uc}{σ:List (Option PV)}{β:Option (Value×aj)}{xs:List Nat}{tot:Nat}{t:Nat×Nat×Nat}{w:Value}{K:List (Nat×PV)}
theorem zv{p:PV}:ev U (.lit p) σ=some p:=rfl
theorem Kn.nil{n:Nat}(h:σ.length=n):Kn n σ []:=⟨h,fun _ _ e=>nn e⟩
theorem Kn.cons{n i:Nat}{p:PV}(h:At σ i p)(k:Kn n σ K):Kn n σ ((i,p)::K):=⟨k.len,fun j q e=>by
 rw[A7]at e
 by_cases hj:(j==i)=true
 ·rw[hj]at e
  obtain rfl:=Aa e
  rw[eq_of_beq hj];exact h
 ·rw[Bool.eq_false_iff.mpr hj]at e
  exact k.get j q e⟩
end
noncomputable def cP(ms:List Nat):List Nat:=ms.flatMap fun m=>40::Ay m 41
noncomputable def yM(ms:List Nat):List Nat:=(Au ms.length).filter fun k=>decide (0<ms.getD k 0)
noncomputable def iV(xs ms:List Nat):Nat:=if ms.length=4 then ms.length+1-ms.sum else xs.getD ms.length 0/24%(ms.length+1-ms.sum+1)
noncomputable def bz(xs:List Nat):Nat->List Nat
 |0=> []
 |n+1=>bz xs n++[iV xs (bz xs n)]
noncomputable def lL:Nat->List (List Nat)
 |0=> [[]]
 |n+1=>(lL n).flatMap fun ms=>if n=4 then [ms++[5-ms.sum]]else(Au (n+2-ms.sum)).map fun m=>ms++[m]
theorem sX(xs:List Nat):∀n,(bz xs n).length=n
 |0=>rfl
 |n+1=>by
  refine(?_:(bz xs n++[_]).length=_)
  rw[Ah,sX xs n];rfl
theorem Ny:∀n ms,ms∈lL n->n<=5->ms.length=n/\ms.sum<=n:=by
 intro n
 induction n with
 |zero=>intro ms h _;cases Ae.mp h;exact⟨rfl,Br _⟩
 |succ n ih=>
  intro ms h hn
  obtain⟨q,hq,h⟩:=Fj.mp h
  obtain⟨h1,h2⟩:=ih q hq (Cv hn)
  by_cases h4:n=4
  ·rw[if_pos h4]at h
   cases Ae.mp h
   rw[Ah,Gv,h1]
   exact⟨rfl,by simp;omega⟩
  ·rw[if_neg h4]at h
   obtain⟨m,hm,rfl⟩:=Fy.mp h
   have:=B5.mp hm
   rw[Ah,Gv,h1]
   exact⟨rfl,by simp;omega⟩
theorem uK(xs:List Nat):∀n,n<=5->bz xs n∈lL n
 |0,_=> .head _
 |n+1,hn=>by
  have hs:=(Ny n _ (uK xs n (Cv hn)) (Cv hn)).2
  refine Fj.mpr ⟨_,uK xs n (Cv hn),?_⟩
  refine(?_:bz xs n++[iV xs (bz xs n)]∈(if n=4 then [bz xs n++[5-(bz xs n).sum]]else(Au (n+2-(bz xs n).sum)).map fun m=>bz xs n++[m]))
  unfold iV
  rw[sX]
  by_cases h:n=4
  ·rw[if_pos h,if_pos h,h];exact B0 _
  ·rw[if_neg h,if_neg h]
   refine Fy.mpr ⟨_,B5.mpr ?_,rfl⟩
   exact D5 (Bl _ (G8 _)) (Cr (Nat.sub_add_comm (I9 hs)).symm)
theorem zV2(ms:List Nat)(m:Nat):cP (ms++[m])=cP ms++[40]++Ay m 41:=by
 unfold cP;rw[List.flatMap_append];simp
theorem TM(ms:List Nat):(cP ms++[40]).count 40=ms.length+1:=by
 induction ms with
 |nil=>rfl
 |cons m r ih=>
  unfold cP at ih⊢
  rw[Dy,Bf,List.count_append,ih,List.count_cons_self,List.count_replicate]
  simp;omega
theorem TN(ms:List Nat):(cP ms++[40]).count 41=ms.sum:=by
 induction ms with
 |nil=>rfl
 |cons m r ih=>
  unfold cP at ih⊢
  rw[Dy,Bf,List.count_append,ih]
  simp
theorem Nz(ms:List Nat):(cP ms).length=ms.length+ms.sum:=by
 induction ms with
 |nil=>rfl
 |cons m r ih=>
  unfold cP at ih⊢
  rw[Dy,Ah,ih];simp;omega
theorem zRp(ms:List Nat)(m:Nat):yM (ms++[m])=yM ms++(if 0<m then [ms.length]else []):=by
 unfold yM
 rw[Ah,List.length_singleton,List.range_succ,List.filter_append]
 congr 1
 ·refine List.filter_congr fun k hk=>?_
  have:=B5.mp hk
  rw[A4,A4,B4 this]
 ·simp[Gk]
theorem zMy{l:List (Nat×PV)}{i:Nat}{p:PV}(h:l.lookup i=some p):(i,p)∈l:=by
 induction l with
 |nil=>exact nn h
 |cons z r ih=>
  obtain⟨j,q⟩:=z
  rw[A7]at h
  by_cases e:i==j
  ·rw[e]at h
   obtain rfl:=Aa h
   rw[eq_of_beq e];exact Ai ..
  ·rw[Bool.not_eq_true]at e
   rw[e]at h
   exact Aj _ (ih h)
section
variable{U:Uc}{σ:List (Option PV)}{β:Option (Value×aj)}{xs:List Nat}
theorem TP{e:PE}{l:List Nat}{c:Nat}(h:ev U e σ=some (.str l)):ev U (.me 2 e (.cons (.lit (.str [c])) .nil)) σ=some (pn (l.count c)):=by
 refine(?_:(ev U e σ).bind _=_)
 exact zK h rfl
theorem Kn.step{n:Nat}{K:List (Nat×PV)}(h:Kn n σ K){i:Nat}(hi:i<n){st:PS}{p:PV}(e:den U st ⟨σ,β⟩=some (⟨σ.set i (some p),β⟩, .next)):∃aI,(∀r,zT U (.cons st r) ⟨σ,β⟩=zT U r ⟨aI,β⟩)/\Kn n aI ((i,p)::K):=
 ⟨_,fun r=>zG e,h.set hi p⟩
theorem Kn.sub{n:Nat}{K L:List (Nat×PV)}(h:Kn n σ K)(k:∀z∈L,K.lookup z.1=some z.2):Kn n σ L:=⟨h.len,fun i p e=>h.get i p (k _ (zMy e))⟩
noncomputable def mK(xs:List Nat)(tot:Nat)(ms:List Nat):List (Nat×PV):=[(2, .list (xs.map pn)),(3,pn tot),(4, .str (cP ms)),(5, .list ((yM ms).map pn))]
theorem zYi{K:List (Nat×PV)}{ms:List Nat}(h:Kn 27 σ K)(hx:xs.length=5)(hm:ms.length<5)(h2:K.lookup 2=some (.list (xs.map pn)))(h1:K.lookup 1=some (pn ms.length))(h6:K.lookup 6=some (pn (ms.length+1-ms.sum))):
  ev U (.ite (.cmp .Eq (.var 1) (.lit (.int 4))) (.var 6) (.bin .Mod (.bin .FloorDiv (.idx (.var 2) (.var 1)) (.lit (.int 24))) (.bin .Add (.var 6) (.lit (.int 1))))) σ=some (pn (iV xs ms)):=by
 rw[ED (Ni (n:=4) (zA (h.get 1 _ h1)) rfl)]
 unfold iV
 by_cases h4:ms.length=4
 ·rw[if_pos (by simpa using h4),if_pos h4];exact zA (h.get 6 _ h6)
 ·rw[if_neg (by simpa using h4),if_neg h4]
  exact ju (pw (n:=24) (wC (zA (h.get 2 _ h2)) (zA (h.get 1 _ h1)) (mT pn 0 (hx▸hm)) (by rw[An,hx];decide)) rfl (by decide)) (wI (zA (h.get 6 _ h6)) (zv (p:=pn 1))) (G8 _)
theorem zYk{tot:Nat}{ms:List Nat}(h:Kn 27 σ ((1,pn ms.length)::mK xs tot ms))(hx:xs.length=5)(hm:ms.length<5)(hs:ms.sum<=ms.length)(dg:iV xs ms<=5):
  ∃aI,zT U (EE m4) ⟨σ,β⟩=some (⟨aI,β⟩, .next)/\Kn 27 aI (mK xs tot (ms++[iV xs ms])):=by
 have hml:=Nz ms
 have hb:(cP ms).length<=10:=by omega
 have ER:(yM ms).length<=ms.length:=Ad (Kd ..) (Cr F5)
 have j0:(cP ms++[40]).length<=11:=by rw[Ah];exact Bw hb 1
 have uI:(Ay (iV xs ms) 41).length<=5:=by rw[E0];exact dg
 obtain⟨bQ,e1,h1⟩:=h.step (U:=U) (β:=β) (i:=4) (by decide) (SX (h.get 4 _ rfl) (zv (p:= .str [40])) (Ad (Bw hb 1) (by decide)))
 obtain⟨bN,e2,h2⟩:=h1.step (U:=U) (β:=β) (i:=6) (by decide) (zD (by have:=zr (U:=U) (TP (c:=40) (zA (h1.get 4 _ rfl))) (TP (c:=41) (zA (h1.get 4 _ rfl))) (by rw[TM,TN];omega);rw[TM,TN]at this;exact this) zP)
 obtain⟨cD,e3,h3⟩:=h2.step (U:=U) (β:=β) (i:=7) (by decide) (zD (zYi h2 hx hm rfl rfl rfl) zP)
 obtain⟨fY,e4,h4⟩:=h3.step (U:=U) (β:=β) (i:=4) (by decide) (SX (h3.get 4 _ rfl) (S5 (zA (h3.get 7 _ rfl)) (Ad dg (by decide))) (Ad (Hj j0 uI) (by decide)))
 refine i12 (if 0<iV xs ms then fY.set 5 (some (.list ((yM ms).map pn++[pn ms.length])))else fY) ?_ ?_
 ·refine(e1 _).trans<|(e2 _).trans<|(e3 _).trans<|(e4 _).trans ?_
  refine(?_:zX (den U _) az _=_)
  by_cases hp:0<iV xs ms
  ·rw[if_pos hp]
   refine pj ?_
   rw[zi (sL (n:=0) (zA (h4.get 7 _ rfl)) rfl),if_pos (by simpa using hp)]
   exact pj (zh (h4.get 5 _ rfl) (zA (h4.get 1 _ rfl)) zP (by rw[An];exact Ad ER (Ad (Ci hm) (by decide))))
  ·rw[if_neg hp]
   refine pj ?_
   rw[zi (sL (n:=0) (zA (h4.get 7 _ rfl)) rfl),if_neg (by simpa using hp)]
   rfl
 ·have g5:(yM (ms++[iV xs ms])).map pn=if 0<iV xs ms then(yM ms).map pn++[pn ms.length]else(yM ms).map pn:=by
   rw[zRp]
   split<;>simp
  have g4:cP ms++[40]++Ay (iV xs ms) 41=cP (ms++[iV xs ms]):=(zV2 ..).symm
  by_cases hp:0<iV xs ms
  ·rw[if_pos hp]at g5⊢
   exact(h4.set (i:=5) (by decide) _).sub (fa rfl (fa rfl (fa (congrArg (some∘PV.str) g4) (fa (congrArg (some∘PV.list) g5.symm) dE))))
  ·rw[if_neg hp]at g5⊢
   exact h4.sub (fa rfl (fa rfl (fa (congrArg (some∘PV.str) g4) (fa (congrArg (some∘PV.list) g5.symm) dE))))
theorem yAd{tot:Nat}(h:Kn 27 σ (mK xs tot []))(hx:xs.length=5):∃aI,den U m4 ⟨σ,β⟩=some (⟨aI,β⟩, .next)/\Kn 27 aI (mK xs tot (bz xs 5)):=by
 obtain⟨g,e,aI,rfl,h'⟩:=TL (i:=1) (n:=5) (f:=zT U (EE m4)) (g:=⟨σ,β⟩) (Inv:=fun k g=>∃σ,g=⟨σ,β⟩/\Kn 27 σ (mK xs tot (bz xs k))) ⟨σ,rfl,h⟩ fun k g hk ⟨τ,e,hK⟩=>by
  subst e
  have hl:=sX xs k
  have hM:=Ny _ _ (uK xs k (Ci hk)) (Ci hk)
  have hM':=Ny _ _ (uK xs (k+1) hk) hk
  have dg:(bz xs k++[iV xs (bz xs k)]).sum<=k+1:=hM'.2
  rw[Gv,List.sum_singleton]at dg
  obtain⟨aI,e',h'⟩:=zYk (U:=U) (β:=β) (σ:=τ.set 1 (some (pn k))) (ms:=bz xs k) (by have:=hK.set (i:=1) (by decide) (pn k);rw[hl];exact this) hx (by rw[hl];exact hk) (by rw[hl];exact hM.2) (by omega)
  exact⟨_,e',aI,rfl,h'⟩
 exact⟨aI,(EF (n:=5) rfl (by decide)).trans e,h'⟩
end
noncomputable def mW(th:List Nat)(q turn k:Nat):Bool:=k==q%10||(decide (2<th.length)&&k==(q+turn)%10)
noncomputable def sY(M th:List Nat)(q turn:Nat):List (List Nat):=(Au 10).map fun k=> [M.getD k 0]++if mW th q turn k then th else []
noncomputable def fZ(tot:Nat):Nat:=1+tot%5*2
noncomputable def gQ(tot:Nat):List Nat:=things.getD (tot%9) []
noncomputable def jO:List (List Nat):=[[],[32],[34],[92],[9],[45]]
noncomputable def ES(tot:Nat):List Nat:=jO.getD (tot%6) []
theorem ET(tot:Nat):(gQ tot).length<=5:=by
 have key:∀k<9,(things.getD k []).length<=5:=by decide
 exact key _ (Bl _ (by decide))
section
variable{U:Uc}{σ:List (Option PV)}{β:Option (Value×aj)}{xs:List Nat}
theorem zWg{t1 t2:PT}{b1 b2:Bool}(h1:aY U t1 σ=some b1)(h2:b1=false->aY U t2 σ=some b2):aY U (.or (.cons t1 (.cons t2 .nil))) σ=some (b1||b2):=by
 refine(?_:((aY U t1 σ).bind fun b=>if b==false then(aY U t2 σ).bind fun b=>if b==false then some false else some (!false)else some (!false))=_)
 refine zK h1 ?_
 cases b1 with
 |true=>rfl
 |false=>
  (refine xU (show(false==false)=true from rfl) ?_;refine zK (h2 rfl) ?_)
  cases b2<;>rfl
theorem sZ{ls:List (List Nat)}{e:PE}{n:Nat}{j:PE}(he:ev U e σ=some (.list (ls.map PV.str)))(hj:ev U j σ=some (pn n))(hn:n<ls.length)(hs:ls.length<=ag):ev U (.idx e j) σ=some (.str (ls.getD n [])):=
 wC he hj (mT PV.str [] hn) (by rw[An];exact hs)
theorem zTx{tot k:Nat}{M th:List Nat}(bp:σ.length=27)(h3:At σ 3 (pn tot))(h4:At σ 4 (.str M))(hM:M.length=10)(h8:At σ 8 (.str th))(ht:th.length<=100)(h9:At σ 9 (pn (fZ tot)))(hk:k<10):
  ev U (.bin .Add (.idx (.var 4) (.var 27)) (.ite (.or (.cons (.cmp .Eq (.var 27) (.bin .Mod (.bin .FloorDiv (.var 3) (.lit (.int 9))) (.lit (.int 10)))) (.cons (.and (.cons (.cmp .Gt (.bi 0 (.cons (.var 8) .nil)) (.lit (.int 2))) (.cons (.cmp .Eq (.var 27) (.bin .Mod (.bin .Add (.bin .FloorDiv (.var 3) (.lit (.int 9))) (.var 9)) (.lit (.int 10)))) .nil))) .nil))) (.var 8) (.lit (.str [])))) (σ++[some (pn k)])=some (.str ([M.getD k 0]++if mW th (tot/9) (fZ tot) k then th else [])):=by
 have v:ev U (.var 27) (σ++[some (pn k)])=some (pn k):=zA (wZ bp)
 have d:ev U (.bin .FloorDiv (.var 3) (.lit (.int 9))) (σ++[some (pn k)])=some (pn (tot/9)):=pw (n:=9) (zA h3.app) rfl (by decide)
 refine pA (uD (zA h4.app) v (c:=M.getD k 0) (sM 0 (hM▸hk)) (by rw[hM];decide)) ?_ ?_
 ·rw[ED (zWg (Ni v (ju (n:=10) d rfl (by decide))) fun _=>TH (sL (n:=2) (qE (zA h8.app) (Ad ht (by decide))) rfl) fun _=>Ni v (ju (n:=10) (wI d (zA h9.app)) rfl (by decide)))]
  refine(?_:(if mW th (tot/9) (fZ tot) k=true then _ else _)=some (PV.str (if mW th (tot/9) (fZ tot) k=true then th else [])))
  cases mW th (tot/9) (fZ tot) k with
  |true=>exact zA (U:=U) (p:= .str th) h8.app
  |false=>rfl
 ·refine Ad (m:=101) ?_ (by decide)
  split
  ·exact Ad (Cr (Ej ..)) (Bw ht 1)
  ·exact Eg _ _
noncomputable def aK(xs:List Nat):List (Nat×PV):=[(2, .list (xs.map pn)),(3,pn xs.sum),(4, .str (cP (bz xs 5))),(5, .list ((yM (bz xs 5)).map pn)),(8, .str (gQ xs.sum)),(9,pn (fZ xs.sum)),(10, .list ((sY (cP (bz xs 5)) (gQ xs.sum) (xs.sum/9) (fZ xs.sum)).map .str)),(11, .str (ES xs.sum))]
theorem TQ:∀ms∈lL 5,ms.sum=5:=by decide+kernel
theorem zZk{is:List Int}(h0:At σ 0 (.list (is.map .int)))(hl:is.length<=1000)(bp:σ.length=27):∃xs aI,xs.length=5/\zT U mA ⟨σ,β⟩=some (⟨aI,β⟩, .next)/\Kn 27 aI (aK xs):=by
 obtain⟨xs,hx,e0⟩:=zZ5 (U:=U) (β:=β) h0 hl bp
 have k0:Kn 27 (σ.set 2 (some (.list (xs.map pn)))) [(2, .list (xs.map pn))]:=(Kn.nil bp).set (by decide) _
 generalize σ.set 2 (some (.list (xs.map pn)))=EU at e0 k0
 obtain⟨bQ,e1,k1⟩:=k0.step (U:=U) (β:=β) (st:=m1) (i:=3) (by decide) (zD (yA8 (k0.get 2 _ rfl)) zP)
 obtain⟨bN,e2,k2⟩:=k1.step (U:=U) (β:=β) (st:=m2) (i:=4) (by decide) (zD (e:= .lit (.str [])) rfl rfl)
 obtain⟨cD,e3,k3⟩:=k2.step (U:=U) (β:=β) (st:=m3) (i:=5) (by decide) (zD (e:= .list _) rfl rfl)
 obtain⟨fY,e4,k4⟩:=yAd (U:=U) (β:=β) (xs:=xs) (tot:=xs.sum) (k3.sub (fa rfl (fa rfl (fa rfl (fa rfl dE))))) hx
 have ff:=uK xs 5 (Br _)
 have hM:(cP (bz xs 5)).length=10:=by rw[Nz,sX,TQ _ ff]
 obtain⟨kT,e5,k5⟩:=k4.step (U:=U) (β:=β) (st:=m5) (i:=8) (p:= .str (gQ xs.sum)) (by decide) (zD (e:= .idx (.list _) (.bin .Mod (.var 3) (.lit (.int 9)))) (sZ (ls:=things) rfl (ju (n:=9) (zA (k4.get 3 _ rfl)) rfl (by decide)) (Bl _ (by decide)) (by decide)) yL)
 obtain⟨σ6,e6,k6⟩:=k5.step (U:=U) (β:=β) (st:=m6) (i:=9) (p:=pn (fZ xs.sum)) (by decide) (zD (wI (m:=1) rfl (zq (n:=2) (ju (n:=5) (zA (k5.get 3 _ rfl)) rfl (by decide)) rfl (Ad (Ci (Bl _ (by decide))) (by decide)) (by decide))) zP)
 obtain⟨σ7,e7,k7⟩:=k6.step (U:=U) (β:=β) (st:=m7) (i:=10) (p:= .list ((sY (cP (bz xs 5)) (gQ xs.sum) (xs.sum/9) (fZ xs.sum)).map .str)) (by decide) (by
  refine zD (e:= .comp _ _ _) ?_ (show fresh (.comp _ _ _) (.list ((sY (cP (bz xs 5)) (gQ xs.sum) (xs.sum/9) (fZ xs.sum)).map .str))=true from wQ fun x _=>yL)
  refine(kP (U:=U) (src:= .ei (.lit (.int 10))) (l:=Au 10) (it:=fun i=> [pn i]) (g:=fun k=> .str ([(cP (bz xs 5)).getD k 0]++if mW (gQ xs.sum) (xs.sum/9) (fZ xs.sum) k then gQ xs.sum else [])) (qD (n:=10) rfl (by decide)) (by decide) fun k hk=>⟨zTx k6.len (k6.get 3 _ rfl) (k6.get 4 _ rfl) hM (k6.get 8 _ rfl) (Ad (ET _) (by decide)) (k6.get 9 _ rfl) (B5.mp hk),yL⟩).trans ?_
  unfold sY
  rw[A8];rfl)
 obtain⟨σ8,e8,k8⟩:=k7.step (U:=U) (β:=β) (st:=m8) (i:=11) (p:= .str (ES xs.sum)) (by decide) (zD (e:= .idx (.list _) (.bin .Mod (.var 3) (.lit (.int 6)))) (sZ (ls:=jO) rfl (ju (n:=6) (zA (k7.get 3 _ rfl)) rfl (by decide)) (Bl _ (by decide)) (by decide)) yL)
 refine⟨xs,σ8,hx,?_,k8.sub (fa rfl (fa rfl (fa rfl (fa rfl (fa rfl (fa rfl (fa rfl (fa rfl dE))))))))⟩
 exact(zG e0).trans<|(e1 _).trans<|(e2 _).trans<|(e3 _).trans<|(zG e4).trans<|(e5 _).trans<|(e6 _).trans<|(e7 _).trans<|(e8 _).trans rfl
end
noncomputable def lM(w h:List Nat):List Nat:=w.flatMap fun c=>if h.contains c then [92,c]else [c]
noncomputable def jP(d:Nat)(bt:List Nat):List (List Nat):=[[97,98],[97,66],[65,98],[65,66]].map fun q=>Ay (1+d) 46++q.take 1++bt++q.drop 1
noncomputable def qG:List (List Nat):=[[32,9,92],[32,9,92,97,66,34,45]]
noncomputable def zx:List (List Nat):=[[10],[13],[13,10]]
noncomputable def eS(tot:Nat):List (List Nat):=jP (tot/6%3) (ES tot)
noncomputable def gR(tot:Nat):List (List Nat):=(eS tot).map (46:: ·)
noncomputable def fH(tot:Nat)(xs:List Nat)(k:Nat):List Nat:=lM ((eS tot).getD (xs.getD k 0%4) []) (qG.getD (xs.getD k 0/4%2) [])
noncomputable def mX(tot:Nat)(xs L:List Nat):List (List Nat):=L.map (fH tot xs)
noncomputable def iM(tot:Nat)(xs L:List Nat):List Nat:=L.flatMap fun k=>46::fH tot xs k++[13,10]
theorem yAr:∀d<3,∀t<6,(jP d (jO.getD t [])).map kJ=(jP d (jO.getD t [])).map (46:: ·):=by decide+kernel
section
variable{U:Uc}{σ:List (Option PV)}{β:Option (Value×aj)}{xs:List Nat}
theorem TR{e:PE}{p:PV}(h:ev U e σ=some p)(hf:fresh e p=true):den U (.ret e) ⟨σ,β⟩=some (⟨σ,β⟩, .ret p):=by
 refine(?_:(fk U e ⟨σ,β⟩).bind _=_)
 unfold fk
 rw[h]
 refine(?_:(if fresh e p=true then _ else _:Option (Sg×PV)).bind _=_)
 rw[if_pos hf];rfl
theorem zRy{e:PE}{l:List Nat}(h:ev U e σ=some (.str l)):jX U (.items e) σ=some (l.map fun c=> [.str [c]]):=by
 refine(?_:(ev U e σ).bind pL=_)
 rw[h];rfl
theorem yBr{a b:PE}{c:Nat}{l:List Nat}(ha:ev U a σ=some (.str [c]))(hb:ev U b σ=some (.str l)):aY U (.cmp .In a b) σ=some (l.contains c):=by
 refine(?_:(ev U a σ).bind _=_)
 refine zK ha ?_
 exact zK hb rfl
theorem zTr{w h:List Nat}(hw:w.length<=1000):ev U (.me 0 (.lit (.str [])) (.cons (.comp (.ite (.cmp .In (.var 2) (.var 1)) (.bin .Add (.lit (.str [92])) (.var 2)) (.var 2)) (.items (.var 0)) .nil) .nil)) [some (.str w),some (.str h)]=some (.str (lM w h)):=by
 have e:=kP (U:=U) (σ:=[some (.str w),some (.str h)]) (elt:= .ite (.cmp .In (.var 2) (.var 1)) (.bin .Add (.lit (.str [92])) (.var 2)) (.var 2)) (src:= .items (.var 0)) (l:=w) (it:=fun c=> [.str [c]]) (g:=fun c=> .str (if h.contains c then [92,c]else [c])) (zRy rfl) (Ad hw (by decide)) fun c _=>⟨by
  rw[ED (yBr (c:=c) (l:=h) rfl rfl)]
  cases h.contains c<;>rfl,yL⟩
 have:=sJ (l:=w.map fun c=>if h.contains c then [92,c]else [c]) (e.trans (by rw[A8];rfl)) ?_
 ·rw[<-Jp]at this;exact this
 ·rw[A8]
  refine Ad (qF (fun c=>(if h.contains c then [92,c]else [c]).length) 2 w fun c _=>?_) (Ad (Ed 2 hw) (by decide))
  split
  ·exact Br 2
  ·exact Fq 1
theorem zR0{w h:List Nat}(hw:w.length<=1000):lG (zT U DR) (aF 21) 2 [.str w, .str h]=some (.str (lM w h)):=by
 have key:zT U DR ⟨[some (.str w),some (.str h)],none⟩=some (⟨[some (.str w),some (.str h)],none⟩, .ret (.str (lM w h))):=by
  refine(?_:zX (den U _) az _=_)
  exact yW (TR (zTr hw) yL)
 unfold lG
 rw[if_pos (show [PV.str w,PV.str h].length=2 from rfl),show ey (aF 21) [.str w, .str h] none=⟨[some (.str w),some (.str h)],none⟩from rfl,key]
theorem zX0{tot:Nat}{bt:List Nat}{a b:Nat}(bp:σ.length=27)(h3:At σ 3 (pn tot))(uG:At σ 11 (.str bt))(hb:bt.length<=10):
  ev U uA (σ++([[PV.str [a],PV.str [b]]].flatten).map some)=some (.str (Ay (1+tot/6%3) 46++[a]++bt++[b])):=by
 have hd:tot/6%3<3:=Bl _ (by decide)
 have v1:ev U (.var 27) (σ++[some (.str [a]),some (.str [b])])=some (.str [a]):=zA (wZ bp)
 have v2:ev U (.var 28) (σ++[some (.str [a]),some (.str [b])])=some (.str [b]):=zA (by
  refine(?_:At (σ++([some (.str [a])]++[some (.str [b])])) 28 _)
  rw[<-Bf]
  exact wZ (by rw[Ah,bp];rfl))
 refine pA (pA (pA (S5 (wI (m:=1) rfl (ju (n:=3) (pw (n:=6) (zA h3.app) rfl (by decide)) rfl (by decide))) (Ad (Dc (Ci hd) 1) (by decide))) v1 ?_) (zA uG.app) ?_) v2 ?_
 all_goals simp only[Ah,E0,Cf,F0];exact Ad (m:=20) (by omega) (by decide)
theorem zZq{tot:Nat}{bt:List Nat}(bp:σ.length=27)(h3:At σ 3 (pn tot))(uG:At σ 11 (.str bt))(hb:bt.length<=10):
  Na U ⟨σ,β⟩=some (⟨σ.set 12 (some (.list ((jP (tot/6%3) bt).map .str))),β⟩, .next):=by
 have e:∀a b,lF U uA σ [.str [a], .str [b]]=some (some (.str (Ay (1+tot/6%3) 46++[a]++bt++[b]))):=fun a b=>by
  refine(?_:(ev U uA (σ++_)).bind _=_)
  exact zK (zX0 bp h3 uG hb) rfl
 have r:zQ (lF U uA σ) (o6 [97,65] [98,66])=some ((jP (tot/6%3) bt).map .str):=by
  refine(?_:zQ _ [[.str [97], .str [98]],[.str [97], .str [66]],[.str [65], .str [98]],[.str [65], .str [66]]]=_)
  simp only[zQ,e]
  rfl
 refine(?_:((zQ (lF U uA σ) (o6 [97,65] [98,66])).bind _).bind _=_)
 rw[r]
 rfl
end
noncomputable def iW(w k:Nat):Nat:=(w/2-k/2+(k/2-w/2))+(w%2-k%2+(k%2-w%2))
noncomputable def TS:List (List Nat):=(Au 4).map fun w=>(Au 4).map fun k=>2+iW w k
noncomputable def wY:PV:= .list (TS.map fun r=> .list (r.map pn))
theorem zOe:∀d<3,∀t<6,∀i<4,((jP d (jO.getD t [])).getD i []).length<=6:=by decide+kernel
theorem zMs:∀d<3,∀t<6,∀i<4,(((jP d (jO.getD t [])).getD i []).all fun c=>c !=10&&c !=13)=true:=by decide+kernel
theorem yBp:∀d<3,∀t<6,∀w<4,∀k<4,sR ((jP d (jO.getD t [])).getD w []) (46::(jP d (jO.getD t [])).getD k []) (2+iW w k-(w+t)%2)=2+iW w k:=by decide+kernel
theorem zV9:∀d<3,∀t<6,∀w<4,((jP d (jO.getD t [])).getD w []).all (fun c=>decide (c<128))=true:=by decide+kernel
theorem pB(tot:Nat):tot%6<6:=Bl _ (by decide)
theorem qH(tot:Nat):tot/6%3<3:=Bl _ (by decide)
theorem uL(tot i:Nat)(hi:i<4):((eS tot).getD i []).length<=6:=zOe _ (qH tot) _ (pB tot) i hi
theorem TU{ms:List Nat}{k:Nat}(h:k∈yM ms):k<ms.length:=B5.mp (J5.mp h).1
theorem NA(ms:List Nat):(yM ms).length<=ms.length:=Ad (Kd ..) (Cr F5)
theorem zSs{w h:List Nat}:(lM w h).length<=2*w.length:=by
 unfold lM
 rw[K5,Nat.mul_comm]
 refine qF _ 2 w fun c _=>?_
 split
 ·exact Br 2
 ·exact Fq 1
theorem zy(tot:Nat)(xs:List Nat)(k:Nat):(fH tot xs k).length<=12:=Ad zSs (Dz 2 (uL tot _ (Bl _ (by decide))))
theorem TV{α:Type}(f g:α->PV):∀l:List α,nS (l.map f) (l.map g)=l.map fun x=> [f x,g x]
 |[]=>rfl
 |x::l=>congrArg ([f x,g x]:: ·) (TV f g l)
section
variable{U:Uc}{σ:List (Option PV)}{β:Option (Value×aj)}{xs:List Nat}
theorem zZr{k:Nat}{a b:PE}{x y r:PV}(ha:ev U a σ=some x)(hb:ev U b σ=some y)(h:U k [x,y]=some r):ev U (.uc k (.cons a (.cons b .nil))) σ=some r:=by
 refine(?_:((ev U a σ).bind fun x=>((ev U b σ).bind fun y=>(some []).map (y:: ·)).map (x:: ·)).bind _=_)
 rw[ha,hb];exact h
theorem zYr{a b:PE}{x y:List Nat}(ha:ev U a σ=some (.str x))(hb:ev U b σ=some (.str y)):aY U (.cmp .NotEq a b) σ=some (!(x==y)):=by
 refine(?_:(ev U a σ).bind _=_)
 refine zK ha ?_
 exact zK hb rfl
theorem yBh{tot k:Nat}(bp:σ.length=27)(h2:At σ 2 (.list (xs.map pn)))(hx:xs.length=5)(y7:At σ 12 (.list ((eS tot).map .str)))(NB:∀w h:List Nat,w.length<=1000->U 5 [.str w, .str h]=some (.str (lM w h)))(hk:k<5):
  ev U (.uc 5 (.cons (.idx (.var 12) (.bin .Mod (.idx (.var 2) (.var 27)) (.lit (.int 4)))) (.cons (.idx (.list (.cons (.lit (.str [32,9,92])) (.cons (.lit (.str [32,9,92,97,66,34,45])) .nil))) (.bin .Mod (.bin .FloorDiv (.idx (.var 2) (.var 27)) (.lit (.int 4))) (.lit (.int 2)))) .nil))) (σ++[some (pn k)])=some (.str (fH tot xs k)):=by
 have v:ev U (.var 27) (σ++[some (pn k)])=some (pn k):=zA (wZ bp)
 have x:ev U (.idx (.var 2) (.var 27)) (σ++[some (pn k)])=some (pn (xs.getD k 0)):=wC (zA h2.app) v (mT pn 0 (hx▸hk)) (by rw[An,hx];decide)
 exact zZr (sZ (zA y7.app) (ju (n:=4) x rfl (by decide)) (Bl _ (by decide)) (show 4<=ag by decide)) (sZ (ls:=qG) rfl (ju (n:=2) (pw (n:=4) x rfl (by decide)) rfl (by decide)) (Bl _ (by decide)) (by decide)) (NB _ _ (Ad (uL tot _ (Bl _ (by decide))) (by decide)))
noncomputable def qI(xs:List Nat)(k:Nat):List Nat:=zx.getD (xs.getD k 0/8%3) []
theorem zWe{k:Nat}{r:List Nat}(bp:σ.length=27)(h2:At σ 2 (.list (xs.map pn)))(hx:xs.length=5)(hr:r.length<=100)(hk:k<5):
  ev U (.bin .Add (.var 27) (.idx (.list (.cons (.lit (.str [10])) (.cons (.lit (.str [13])) (.cons (.lit (.str [13,10])) .nil)))) (.bin .Mod (.bin .FloorDiv (.idx (.var 2) (.var 28)) (.lit (.int 8))) (.lit (.int 3))))) (σ++[some (.str r),some (pn k)])=some (.str (r++qI xs k)):=by
 have v1:ev U (.var 27) (σ++[some (.str r),some (pn k)])=some (.str r):=zA (wZ bp)
 have v2:ev U (.var 28) (σ++[some (.str r),some (pn k)])=some (pn k):=zA (by
  refine(?_:At (σ++([some (.str r)]++[some (pn k)])) 28 _)
  rw[<-Bf]
  exact wZ (by rw[Ah,bp];rfl))
 have x:ev U (.idx (.var 2) (.var 28)) (σ++[some (.str r),some (pn k)])=some (pn (xs.getD k 0)):=wC (zA h2.app) v2 (mT pn 0 (hx▸hk)) (by rw[An,hx];decide)
 refine pA v1 (sZ (ls:=zx) rfl (ju (n:=3) (pw (n:=8) x rfl (by decide)) rfl (by decide)) (Bl _ (by decide)) (by decide)) ?_
 have:∀i<3,(zx.getD i []).length<=2:=by decide
 exact Ad (Hj hr (this _ (Bl _ (by decide)))) (by decide)
end
noncomputable def bK(xs:List Nat):List (Nat×PV):=[(2, .list (xs.map pn)),(4, .str (cP (bz xs 5))),(5, .list ((yM (bz xs 5)).map pn)),(9,pn (fZ xs.sum)),(10, .list ((sY (cP (bz xs 5)) (gQ xs.sum) (xs.sum/9) (fZ xs.sum)).map .str)),(13, .list ((gR xs.sum).map .str)),(15, .str (iM xs.sum xs (yM (bz xs 5)))),(16,wY)]
theorem zOs{w h:List Nat}(hw:mS w):mS (lM w h):=fun c hc=>by
 obtain⟨x,hx,hc⟩:=Fj.mp hc
 split at hc
 ·rcases Ax.mp hc with rfl|hc
  ·exact⟨by decide,by decide⟩
  ·exact Ae.mp hc▸hw x hx
 ·exact Ae.mp hc▸hw x hx
theorem zX9(tot i:Nat)(hi:i<4):mS ((eS tot).getD i []):=fun c hc=>by
 have:=Ao.mp (zMs _ (qH tot) _ (pB tot) i hi) c hc
 obtain⟨h1,h2⟩:=A9.mp this
 exact⟨bne_iff_ne.mp h2,bne_iff_ne.mp h1⟩
theorem zXr:∀d<3,∀t<6,∀i<4,((jP d (jO.getD t [])).getD i []).head?=some 46:=by decide+kernel
theorem zWb(tot i:Nat)(hi:i<4):((eS tot).getD i []).head?=some 46:=zXr _ (qH tot) _ (pB tot) i hi
theorem yBo:∀i<2,(qG.getD i []).contains 46=false:=by decide
theorem TX(tot:Nat)(xs:List Nat)(k:Nat):(fH tot xs k).head?=some 46:=by
 have h:=zWb tot (xs.getD k 0%4) (Bl _ (by decide))
 unfold fH
 generalize(eS tot).getD (xs.getD k 0%4) []=w at h
 cases w with
 |nil=>exact nn h
 |cons c r=>
  obtain rfl:=Aa h
  unfold lM
  rw[Dy,yBo _ (Bl _ (by decide))];rfl
theorem TY(tot:Nat)(xs:List Nat)(k:Nat):fH tot xs k≠ []/\mS (fH tot xs k):=⟨fun q=>by have:=TX tot xs k;rw[q]at this;exact nn this,zOs (zX9 tot _ (Bl _ (by decide)))⟩
theorem zW5(xs:List Nat)(k:Nat):qI xs k∈uB:=by
 have:∀i<3,zx.getD i []∈uB:=by decide
 exact this _ (Bl _ (by decide))
theorem zW0(tot:Nat)(xs L:List Nat):kJ (L.map fun k=>fH tot xs k++qI xs k).flatten=iM tot xs L:=by
 have:=zNk (L.map fun k=>(fH tot xs k,qI xs k)) fun q hq=>by
  obtain⟨k,_,rfl⟩:=Fy.mp hq
  exact⟨(TY tot xs k).1,(TY tot xs k).2,zW5 xs k⟩
 rw[List.flatMap_map,List.flatMap_map,Jp]at this
 rw[this]
 unfold iM
 refine congrArg List.flatten (Ct fun k _=>?_)
 refine(?_:(if(fH tot xs k).head?=some 46 then [46]else [])++fH tot xs k++[13,10]=_)
 rw[if_pos (TX tot xs k)];rfl
section
variable{U:Uc}{σ:List (Option PV)}{β:Option (Value×aj)}{xs:List Nat}
theorem zYd{tot w k:Nat}(bp:σ.length=27)(h3:At σ 3 (pn tot))(y7:At σ 12 (.list ((eS tot).map .str)))(mx:At σ 13 (.list ((gR tot).map .str)))(NC:∀(a b:List Nat) (c:Nat),small a->a.length<=40->small b->b.length<=40->U 1 [.str a, .str b,pn c]=some (pn (sR a b c)))(hw:w<4)(hk:k<4):
  ev U (.uc 1 (.cons (.idx (.var 12) (.var 27)) (.cons (.idx (.var 13) (.var 28)) (.cons (.bin .Sub (.bin .Add (.bin .Add (.lit (.int 2)) (.bi 4 (.cons (.bin .Sub (.bin .FloorDiv (.var 27) (.lit (.int 2))) (.bin .FloorDiv (.var 28) (.lit (.int 2)))) .nil))) (.bi 4 (.cons (.bin .Sub (.bin .Mod (.var 27) (.lit (.int 2))) (.bin .Mod (.var 28) (.lit (.int 2)))) .nil))) (.bin .Mod (.bin .Add (.var 27) (.var 3)) (.lit (.int 2)))) .nil)))) (σ++[some (pn w)]++[some (pn k)])=some (pn (2+iW w k)):=by
 have v1:ev U (.var 27) (σ++[some (pn w)]++[some (pn k)])=some (pn w):=zA (At.app (wZ bp))
 have v2:ev U (.var 28) (σ++[some (pn w)]++[some (pn k)])=some (pn k):=zA (wZ (by rw[Ah,bp];rfl))
 have l2:ev U (.lit (.int 2)) (σ++[some (pn w)]++[some (pn k)])=some (pn 2):=rfl
 have a {e1 e2:PE} {x y:Nat} (h1:ev U e1 (σ++[some (pn w)]++[some (pn k)])=some (pn x)) (h2:ev U e2 (σ++[some (pn w)]++[some (pn k)])=some (pn y)):ev U (.bi 4 (.cons (.bin .Sub e1 e2) .nil)) (σ++[some (pn w)]++[some (pn k)])=some (pn (x-y+(y-x))):=yAa (yAo h1 h2)
 have ND:=zr (U:=U) (wI (wI (m:=2) l2 (a (pw (n:=2) v1 l2 (by decide)) (pw (n:=2) v2 l2 (by decide)))) (a (ju (n:=2) v1 l2 (by decide)) (ju (n:=2) v2 l2 (by decide)))) (ju (n:=2) (wI v1 (zA h3.app.app)) (zv (p:=pn 2)) (by decide)) (Ad (Jc (Bl _ (by decide))) (Ad (by decide:1<=2) (Ad (C6 _ _) (C6 _ _))))
 have hl:=yBp _ (qH tot) _ (pB tot) w hw k hk
 have par:(w+tot%6)%2=(w+tot)%2:=by rw[Nat.add_mod,Nat.mod_mod_of_dvd tot (by decide:2∣6),<-Nat.add_mod]
 rw[par]at hl
 have sm:∀i,i<4->small ((eS tot).getD i []):=fun i hi c hc=>of_decide_eq_true (Ao.mp (zV9 _ (qH tot) _ (pB tot) i hi) c hc)
 have s13:(gR tot).getD k []=46::(eS tot).getD k []:=by
  unfold gR
  rw[A4,Bi,sM (l:=eS tot) [] (show k<4 from hk)];rfl
 refine yBa (sZ (zA y7.app.app) v1 (show w<4 from hw) (show 4<=ag by decide)) (sZ (zA mx.app.app) v2 (show k<4 from hk) (show 4<=ag by decide)) ND ?_
 rw[s13,show 2+(w/2-k/2+(k/2-w/2))+(w%2-k%2+(k%2-w%2))-(w+tot)%2=2+iW w k-(w+tot)%2 by rw[iW,C3]]
 rw[NC _ _ _ (sm w hw) (Ad (uL tot w hw) (by decide)) (fun c hc=>(Ax.mp hc).elim (fun q=>q▸by decide) (sm k hk c)) (Ad (Dr (uL tot k hk)) (by decide))]
 exact congrArg (fun n=>some (pn n)) hl
theorem zY8(NC:∀(a b:List Nat) (c:Nat),small a->a.length<=40->small b->b.length<=40->U 1 [.str a, .str b,pn c]=some (pn (sR a b c)))(TZ:∀l:List Nat,l.length<=100000->U 4 [.str l]=some (.str (kJ l)))(NB:∀w h:List Nat,w.length<=1000->U 5 [.str w, .str h]=some (.str (lM w h)))
  (hx:xs.length=5) (h:Kn 27 σ ((12, .list ((eS xs.sum).map .str))::aK xs)):∃aI,zT U mB ⟨σ,β⟩=some (⟨aI,β⟩, .next)/\Kn 27 aI (bK xs):=by
 have ff:(bz xs 5).length=5:=sX xs 5
 have ER:∀k∈yM (bz xs 5),k<5:=fun k hk=>ff▸TU hk
 have p8:(yM (bz xs 5)).length<=5:=Ad (NA _) (Cr ff)
 obtain⟨bQ,e1,h1⟩:=h.step (U:=U) (β:=β) (st:=SG) (i:=13) (p:= .list ((gR xs.sum).map .str)) (by decide) (by
  refine zD (e:= .comp _ _ _) ?_ (show fresh (.comp _ _ _) (.list ((gR xs.sum).map .str))=true from wQ fun x _=>yL)
  refine(kP (U:=U) (src:= .items (.var 12)) (l:=eS xs.sum) (it:=fun w=> [.str w]) (g:=fun w=> .str (kJ w)) (by rw[EC (zA (h.get 12 _ rfl)),A8];rfl) (show 4<=ag by decide) fun w hw=>⟨zu (zA (wZ h.len)) (TZ w ?_),yL⟩).trans ?_
  ·obtain⟨i,hi,rfl⟩:=List.mem_iff_getElem.mp hw
   have:=uL xs.sum i hi
   rw[A4,Aw hi]at this
   exact Ad this (by decide)
  ·have q:(eS xs.sum).map kJ=gR xs.sum:=yAr _ (qH xs.sum) _ (pB xs.sum)
   rw[<-q,A8];rfl)
 obtain⟨bN,e2,h2⟩:=h1.step (U:=U) (β:=β) (st:=SH) (i:=14) (p:= .list ((mX xs.sum xs (yM (bz xs 5))).map .str)) (by decide) (by
  refine zD (e:= .comp _ _ _) ?_ (show fresh (.comp _ _ _) (.list ((mX xs.sum xs (yM (bz xs 5))).map .str))=true from wQ fun x _=>yL)
  refine(kP (U:=U) (src:= .items (.var 5)) (l:=yM (bz xs 5)) (it:=fun k=> [pn k]) (g:=fun k=> .str (fH xs.sum xs k)) (by rw[EC (zA (h1.get 5 _ rfl)),A8];rfl) (Ad p8 (by decide)) fun k hk=>⟨yBh h1.len (h1.get 2 _ rfl) hx (h1.get 12 _ rfl) NB (ER k hk),yL⟩).trans ?_
  unfold mX
  rw[A8];rfl)
 obtain⟨cD,e3,h3⟩:=h2.step (U:=U) (β:=β) (st:=SI) (i:=15) (p:= .str (iM xs.sum xs (yM (bz xs 5)))) (by decide) (by
  have c:=kP (U:=U) (σ:=bN) (elt:= .bin .Add (.var 27) (.idx (.list (.cons (.lit (.str [10])) (.cons (.lit (.str [13])) (.cons (.lit (.str [13,10])) .nil)))) (.bin .Mod (.bin .FloorDiv (.idx (.var 2) (.var 28)) (.lit (.int 8))) (.lit (.int 3))))) (src:= .zip (.var 14) (.var 5)) (l:=yM (bz xs 5)) (it:=fun k=> [.str (fH xs.sum xs k),pn k]) (g:=fun k=> .str (fH xs.sum xs k++qI xs k)) (by
   refine(?_:(ev U (.var 14) bN).bind _=_)
   rw[zA (h2.get 14 _ rfl)]
   refine(?_:(ev U (.var 5) bN).bind _=_)
   rw[zA (h2.get 5 _ rfl)]
   refine(?_:some (nS ((mX xs.sum xs (yM (bz xs 5))).map PV.str) ((yM (bz xs 5)).map pn))=_)
   unfold mX
   rw[A8,TV];rfl) (Ad p8 (by decide)) fun k hk=>⟨zWe h2.len (h2.get 2 _ rfl) hx (Ad (zy ..) (by decide)) (ER k hk),yL⟩
  have hlen:((yM (bz xs 5)).map fun k=>(fH xs.sum xs k++qI xs k).length).sum<=70:=Ad (qF (fun k=>(fH xs.sum xs k++qI xs k).length) 14 _ fun k _=>by
   have h2:∀i<3,(zx.getD i []).length<=2:=by decide
   rw[Ah]
   exact Hj (zy ..) (h2 _ (Bl _ (by decide)))) (Ed 14 p8)
  have j:=sJ (U:=U) (l:=(yM (bz xs 5)).map fun k=>fH xs.sum xs k++qI xs k) (c.trans (by rw[A8];rfl)) (by rw[A8];exact Ad hlen (by decide))
  refine zD (zu j ((TZ _ ?_).trans ?_)) yL
  ·rw[Gn,A8];exact Ad hlen (by decide)
  ·rw[zW0])
 have e4:den U M0 ⟨cD,β⟩=some (⟨cD,β⟩, .next):=by
  have c:=kP (U:=U) (σ:=cD) (elt:= .bin .Add (.bin .Add (.lit (.str [46])) (.var 27)) (.lit (.str [13,10]))) (src:= .items (.var 14)) (l:=mX xs.sum xs (yM (bz xs 5))) (it:=fun r=> [.str r]) (g:=fun r=> .str (46::r++[13,10])) (by rw[EC (zA (h3.get 14 _ rfl)),A8];rfl) (by unfold mX;rw[An];exact Ad p8 (by decide)) fun r hr=>⟨by
   obtain⟨k,_,rfl⟩:=Fy.mp hr
   have hb:=zy xs.sum xs k
   refine pA (m:=46::fH xs.sum xs k) (pA (m:=[46]) rfl (zA (wZ h3.len)) (Ad (Dc hb _) (by decide))) rfl (Ad (Bw (Dr hb) 2) (by decide)),yL⟩
  have j:=sJ (U:=U) (l:=(mX xs.sum xs (yM (bz xs 5))).map fun r=>46::r++[13,10]) (c.trans (by rw[A8];rfl)) (by
   unfold mX
   rw[A8,A8]
   refine Ad (qF _ 15 _ fun k _=>?_) (Ad (Ed 15 p8) (by decide))
   refine(?_:(46::fH xs.sum xs k++[13,10]).length<=15)
   rw[Ah]
   exact Bw (Dr (zy ..)) 2)
  have q:((mX xs.sum xs (yM (bz xs 5))).map fun r=>46::r++[13,10]).flatten=iM xs.sum xs (yM (bz xs 5)):=by
   unfold mX iM
   rw[A8,Jp];rfl
  rw[q]at j
  rw[show M0= .ifs (.cmp .NotEq (.var 15) _) _ _ from rfl,zi (zYr (zA (h3.get 15 _ rfl)) j),beq_self_eq_true]
  rfl
 obtain⟨kT,e5,h5⟩:=h3.step (U:=U) (β:=β) (st:=SJ) (i:=16) (p:=wY) (by decide) (by
  refine zD (e:= .comp _ _ _) ?_ (show fresh (.comp _ _ _) (.list ((Au 4).map fun w=> .list ((Au 4).map fun k=>pn (2+iW w k))))=true from wQ fun w _=>wQ fun k _=>zP)
  exact kP (U:=U) (src:= .ei (.lit (.int 4))) (l:=Au 4) (it:=fun w=> [pn w]) (g:=fun w=> .list ((Au 4).map fun k=>pn (2+iW w k))) (qD (n:=4) rfl (by decide)) (by decide) fun w hw=>⟨
   kP (U:=U) (src:= .ei (.lit (.int 4))) (l:=Au 4) (it:=fun k=> [pn k]) (g:=fun k=>pn (2+iW w k)) (qD (n:=4) rfl (by decide)) (by decide) fun k hk=>⟨zYd h3.len (h3.get 3 _ rfl) (h3.get 12 _ rfl) (h3.get 13 _ rfl) NC (B5.mp hw) (B5.mp hk),zP⟩,wQ fun k _=>zP⟩)
 refine⟨kT,(e1 _).trans<|(e2 _).trans<|(e3 _).trans<|(zG e4).trans<|(e5 _).trans rfl,h5.sub (fa rfl (fa rfl (fa rfl (fa rfl (fa rfl (fa rfl (fa rfl (fa rfl dE))))))))⟩
end
noncomputable def par(A:List Nat):Prop:=∀c∈A,c=40\/c=41
theorem par.cons{c:Nat}{A:List Nat}(h:par (c::A)):(c=40\/c=41)/\par A:=⟨h c (.head _),fun x hx=>h x (.tail _ hx)⟩
theorem par.app{A B:List Nat}(h:par A)(k:par B):par (A++B):=fun c hc=>(Bb.mp hc).elim (h c) (k c)
theorem jQ(i p q:Nat):∀s:List Nat,xI i false s p=xI i false s q
 |[]=>rfl
 |_::_=>rfl
theorem uM:∀{A:List Nat} (i p q:Nat) (s:List Nat),par A->xI i false (A++s) p=xI i false A q++xI (i+A.length) false s q
 |[],i,p,q,s,_=>jQ i p q s
 |c::A,i,p,q,s,h=>by
  obtain⟨hc,hA⟩:=h.cons
  have ih:=uM (i+1) i i s hA
  have hq:(c==92)=false:=by rcases hc with rfl|rfl<;>rfl
  refine(?_:(if c==92 then xI (i+1) true (A++s) i else(i,[c])::xI (i+1) false (A++s) i)=(if c==92 then xI (i+1) true A i else(i,[c])::xI (i+1) false A i)++_)
  rw[hq,if_neg Bp,if_neg Bp,ih,jQ (i+1+A.length) i q s,Iv i 1]
  rfl
theorem uN:∀(s:List Nat) (e:Bool) (i j p q o:Nat),xC (xI i e s p) o=xC (xI j e s q) o
 |[],e,i,j,p,q,o=>by cases e<;>rfl
 |c::r,true,i,j,p,q,o=>by
  refine(?_:xC ((i,[92,c])::xI (i+1) false r i) o=xC ((j,[92,c])::xI (j+1) false r j) o)
  rw[wN,wN]
  exact uN r false _ _ _ _ o
 |c::r,false,i,j,p,q,o=>by
  refine(?_:xC (if c==92 then xI (i+1) true r i else(i,[c])::xI (i+1) false r i) o=xC (if c==92 then xI (j+1) true r j else(j,[c])::xI (j+1) false r j) o)
  split
  ·exact uN r true _ _ _ _ o
  ·rw[wN,wN]
   split
   ·exact uN r false _ _ _ _ _
   ·split
    ·cases o with
     |zero=>rfl
     |succ o=>exact uN r false _ _ _ _ _
    ·exact uN r false _ _ _ _ _
theorem EV{r r':List (Nat×List Nat)}(h:∀o,xC r o=xC r' o):∀(l:List (Nat×List Nat)) (o:Nat),xC (l++r) o=xC (l++r') o
 |[],o=>h o
 |x::l,o=>by
  rw[B9,B9,wN,wN]
  split
  ·exact EV h l _
  ·split
   ·cases o with
    |zero=>rfl
    |succ o=>exact EV h l _
   ·exact EV h l _
theorem T1:∀(m r:List (Nat×List Nat)) (o:Nat),(m.all fun x=>x.2 !=[40]&&x.2 !=[41])=true->xC (m++r) o=xC r o
 |[],_,_,_=>rfl
 |x::m,r,o,h=>by
  obtain⟨h1,h2⟩:=A9.mp h
  obtain⟨a,b⟩:=A9.mp h1
  rw[B9,wN,if_neg (by simpa using a),if_neg (by simpa using b)]
  exact T1 m r o h2
theorem s7(ad:List Nat):∀{A:List Nat} (i p:Nat) (r:List (Nat×List Nat)) (s:lH),par A->iL ad (xI i false A p++r) s=iL ad r s
 |[],i,p,r,s,_=>rfl
 |c::A,i,p,r,s,h=>by
  obtain⟨hc,hA⟩:=h.cons
  have hq:(c==92)=false:=by rcases hc with rfl|rfl<;>rfl
  have h4:([c]==[34])=false:=by rcases hc with rfl|rfl<;>rfl
  refine(?_:iL ad ((if c==92 then xI (i+1) true A i else(i,[c])::xI (i+1) false A i)++r) s=_)
  rw[hq]
  refine(?_:iL ad (xI (i+1) false A i++r) (mU ad (i,[c]) s)=_)
  rw[s7 ad (i+1) i r _ hA]
  unfold mU
  rw[h4];rfl
theorem T3(ad:List Nat){A:List Nat}(i p:Nat)(s:lH)(h:par A):iL ad (xI i false A p) s=s:=by
 have:=s7 ad i p [] s h
 rw[Bv]at this;exact this
theorem NF{A:List Nat}(h:par A){c:Nat}(hc:c≠40/\c≠41):A.contains c=false:=by
 rw[Bx]
 exact decide_eq_false fun q=>(h c q).elim hc.1 hc.2
theorem NG{A:List Nat}(h:par A):zV A=xC (xI 0 false A 0) 0:=by
 unfold zV xZ
 rw[NF h (by decide)];rfl
noncomputable def iN(th:List Nat)(i:Nat):List (Nat×List Nat):=xI i false th 0
theorem zSz:∀th∈things,∀(i p:Nat) (B:List Nat),par B->xI i false (th++B) p=iN th i++xI (i+th.length) false B 0:=by
 intro th bX i p B hB
 simp only[things,Ax,Aq,or_false]at bX
 rcases bX with rfl|rfl|rfl|rfl|rfl|rfl|rfl|rfl|rfl
 ·exact jQ i p 0 B
 ·exact congrArg (iN [92,40] i++ ·) (jQ (i+2) (i+1) 0 B)
 ·exact congrArg (iN [92,41] i++ ·) (jQ (i+2) (i+1) 0 B)
 ·exact congrArg (iN [34,40,34] i++ ·) (jQ (i+3) (i+2) 0 B)
 ·exact congrArg (iN [34,41,34] i++ ·) (jQ (i+3) (i+2) 0 B)
 ·exact congrArg (iN [34,92,34,41,34] i++ ·) (jQ (i+5) (i+4) 0 B)
 ·exact congrArg (iN [92,92] i++ ·) (jQ (i+2) (i+1) 0 B)
 ·exact congrArg (iN [92,34] i++ ·) (jQ (i+2) (i+1) 0 B)
 ·exact congrArg (iN [34] i++ ·) (jQ (i+1) i 0 B)
theorem T4{th A B:List Nat}(bX:th∈things)(hA:par A)(hB:par B):xI 0 false (A++(th++B)) 0=xI 0 false A 0++(iN th (0+A.length)++xI (0+A.length+th.length) false B 0):=by
 rw[uM 0 0 0 _ hA,zSz th bX _ _ _ hB]
theorem zR1{A B:List Nat}{m:List (Nat×List Nat)}{i:Nat}(hA:par A)(hB:par B)(hm:(m.all fun x=>x.2 !=[40]&&x.2 !=[41])=true)(o:Nat):
  xC (xI 0 false A 0++(m++xI i false B 0)) o=xC (xI 0 false (A++B) 0) o:=by
 rw[uM 0 0 0 B hA]
 exact EV (fun o=>(T1 m _ o hm).trans (uN B false _ _ _ _ o)) _ _
theorem NH{th A B:List Nat}(bX:th∈things)(hA:par A)(hB:par B)(hm:∀i,((iN th i).all fun x=>x.2 !=[40]&&x.2 !=[41])=true)(hs:xZ (A++(th++B))=A++(th++B)):zV (A++(th++B))=zV (A++B):=by
 rw[NG (hA.app hB)]
 unfold zV
 rw[hs,T4 bX hA hB]
 exact zR1 hA hB (hm _) 0
theorem zTj{s:List Nat}(h:s.contains 34=false):xZ s=s:=by unfold xZ;rw[h];rfl
theorem zZn{th A B:List Nat}(hA:par A)(hB:par B)(h:th.contains 34=false):(A++(th++B)).contains 34=false:=by
 have a:=NF hA (c:=34) (by decide)
 have b:=NF hB (c:=34) (by decide)
 rw[Bx]at*
 simp only[Bb,decide_eq_false_iff_not]at*
 exact fun q=>q.elim a fun q=>q.elim h b
theorem zSd(s:List Nat):xD s 0 s.length=s:=by unfold xD;simp
theorem T5{th A B:List Nat}(bX:th=[92,34]\/th=[34])(hA:par A)(hB:par B):xZ (A++(th++B))=A++(th++B):=by
 have NI:th∈things:=by rcases bX with rfl|rfl<;>decide
 have hc:(A++(th++B)).contains 34=true:=by
  rw[Bx]
  exact decide_eq_true (Ar _ (Az _ (by rcases bX with rfl|rfl<;>decide)))
 have hl:0<(A++(th++B)).length:=List.length_pos_of_mem (a:=34) (by rw[Bx]at hc;exact of_decide_eq_true hc)
 have e:∀ad,iL ad (xI 0 false (A++(th++B)) 0) ⟨0,none,[]⟩=⟨0,(if th=[34]then some (0+A.length)else none),[]⟩:=fun ad=>by
  rw[T4 NI hA hB,s7 ad 0 0 _ _ hA]
  have NJ:=fun s=>s7 ad (0+A.length+th.length) 0 [] s hB
  simp only[Bv]at NJ
  rcases bX with rfl|rfl
  ·exact NJ _
  ·exact NJ _
 generalize A++(th++B)=s at hc hl e⊢
 unfold xZ
 rw[hc,e]
 refine(?_:(if 0<s.length then []++[xD s 0 s.length]else []).flatten=s)
 rw[if_pos hl,zSd];simp
noncomputable def nJ:List (List Nat):=[[34,40,34],[34,41,34],[34,92,34,41,34]]
theorem NK{th:List Nat}(bX:th∈nJ)(ad:List Nat)(i st:Nat)(rs:List (List Nat))(r:List (Nat×List Nat)):iL ad (iN th i++r) ⟨st,none,rs⟩=iL ad r ⟨i+th.length,none,if st==i then rs else rs++[xD ad st i]⟩:=by
 simp only[nJ,Ax,Aq,or_false]at bX
 rcases bX with rfl|rfl|rfl<;>rfl
theorem zz(P Q R:List Nat):xD (P++(Q++R)) P.length (P.length+Q.length)=Q:=by
 unfold xD
 have h1:min P.length (P++(Q++R)).length=P.length:=Dm (by rw[Ah];exact C6 _ _)
 have h2:min (P.length+Q.length) (P++(Q++R)).length=P.length+Q.length:=Dm (by rw[Ah,Ah];omega)
 rw[h1,h2,List.drop_left,G4,List.take_left]
theorem NL(ad:List Nat)(st i:Nat)(rs:List (List Nat)):(if st==i then rs else rs++[xD ad st i]).flatten=rs.flatten++xD ad st i:=by
 by_cases h:st=i
 ·subst h
  rw[if_pos (beq_self_eq_true st)]
  unfold xD
  rw[Ly,Kr,Bv]
 ·rw[if_neg (by simpa using h),Cu];simp
theorem T6(ad:List Nat)(st:Nat)(rs:List (List Nat)):(if st<ad.length then rs++[xD ad st ad.length]else rs).flatten=rs.flatten++xD ad st ad.length:=by
 by_cases h:st<ad.length
 ·rw[if_pos h,Cu];simp
 ·rw[if_neg h]
  unfold xD
  rw[Nat.min_eq_right (Cg h),Lz,Ly,Kr,Bv]
theorem T7{th:List Nat}(bX:th∈nJ):th∈things/\th.contains 34=true:=by
 simp only[nJ,Ax,Aq,or_false]at bX
 rcases bX with rfl|rfl|rfl<;>exact⟨by decide,by decide⟩
theorem T8{th A X:List Nat}(h:th.contains 34=true):(A++(th++X)).contains 34=true:=by
 rw[Bx]at*
 exact decide_eq_true (Ar _ (Az _ (of_decide_eq_true h)))
theorem NM{th:List Nat}(bX:th∈nJ)(i p:Nat)(X:List Nat):xI i false (th++X) p=iN th i++xI (i+th.length) false X 0:=by
 simp only[nJ,Ax,Aq,or_false]at bX
 rcases bX with rfl|rfl|rfl
 ·exact congrArg (iN [34,40,34] i++ ·) (jQ (i+3) (i+2) 0 X)
 ·exact congrArg (iN [34,41,34] i++ ·) (jQ (i+3) (i+2) 0 X)
 ·exact congrArg (iN [34,92,34,41,34] i++ ·) (jQ (i+5) (i+4) 0 X)
theorem NN{th A B:List Nat}(bX:th∈nJ)(hA:par A)(hB:par B):zV (A++(th++B))=zV (A++B):=by
 have hs:xZ (A++(th++B))=A++B:=by
  unfold xZ
  rw[T8 (T7 bX).2,uM 0 0 0 _ hA,NM bX,s7 _ 0 0 _ _ hA,NK bX]
  rw[T3 _ _ _ _ hB]
  refine(T6 ..).trans ?_
  rw[NL,List.flatten_nil,F1,Cp]
  have e1:=zz [] A (th++B)
  have e2:=zz (A++th) B []
  simp only[F1,F0,Cp,Bv,Bf,Ah]at e1 e2
  rw[e1]
  refine congrArg (A++ ·) ?_
  rw[Ah,Ah,<-C3];exact e2
 rw[NG (hA.app hB)]
 unfold zV
 rw[hs]
theorem yAj{th A B D:List Nat}(bX:th∈nJ)(hA:par A)(hB:par B)(hD:par D):zV (A++(th++(B++(th++D))))=zV (A++(B++D)):=by
 have hs:xZ (A++(th++(B++(th++D))))=A++(B++D):=by
  unfold xZ
  rw[T8 (T7 bX).2,uM 0 0 0 _ hA,NM bX,s7 _ 0 0 _ _ hA,NK bX,uM _ 0 0 _ hB,NM bX,s7 _ _ 0 _ _ hB,NK bX]
  rw[T3 _ _ _ _ hD]
  refine(T6 ..).trans ?_
  rw[NL,NL,List.flatten_nil,F1,Cp]
  have e1:=zz [] A (th++(B++(th++D)))
  have e2:=zz (A++th) B (th++D)
  have e3:=zz (A++(th++(B++th))) D []
  simp only[F1,F0,Cp,Bv,Bf,Ah]at e1 e2 e3
  simp only[Ah]
  simp only[C3]at e2 e3⊢
  rw[e1,e2,e3,Bf]
 rw[NG (hA.app (hB.app hD))]
 unfold zV
 rw[hs]
theorem yDd{th A B:List Nat}(bX:th∈things)(hA:par A)(hB:par B):zV (A++(th++B))=zV (A++B):=by
 have keep:∀{t:List Nat},t∈things->t.contains 34=false->(∀i,((iN t i).all fun x=>x.2 !=[40]&&x.2 !=[41])=true)->zV (A++(t++B))=zV (A++B):=fun h1 h2 h3=>NH h1 hA hB h3 (zTj (zZn hA hB h2))
 simp only[things,Ax,Aq,or_false]at bX
 rcases bX with rfl|rfl|rfl|rfl|rfl|rfl|rfl|rfl|rfl
 ·rfl
 ·exact keep (by decide) (by decide) fun _=>rfl
 ·exact keep (by decide) (by decide) fun _=>rfl
 ·exact NN (by decide) hA hB
 ·exact NN (by decide) hA hB
 ·exact NN (by decide) hA hB
 ·exact keep (by decide) (by decide) fun _=>rfl
 ·exact NH (by decide) hA hB (fun _=>rfl) (T5 (.inl rfl) hA hB)
 ·exact NH (by decide) hA hB (fun _=>rfl) (T5 (.inr rfl) hA hB)
noncomputable abbrev DL:=List (Nat×Bool)
noncomputable def dT(th:List Nat)(d:DL):List (List Nat):=d.map fun z=> [z.1]++if z.2 then th else []
noncomputable def cq(d:DL):List Nat:=d.map (·.1)
noncomputable def gT(d:DL):Nat:=d.countP (·.2)
theorem z4{th:List Nat}:∀{d:DL},gT d=0->(dT th d).flatten=cq d
 |[],_=>rfl
 |(c,b)::d,h=>by
  unfold gT at h
  cases b with
  |true=>rw[Jq (by rfl)]at h;exact absurd h (Jm _)
  |false=>
   rw[G7 Bp]at h
   refine(?_:[c]++[]++(dT th d).flatten=c::cq d)
   rw[z4 h];rfl
theorem NO{k:Nat}:∀{d:DL},gT d=k+1->∃d1 c d2,d=d1++(c,true)::d2/\gT d1=0/\gT d2=k
 |[],h=>nomatch h
 |(c,b)::d,h=>by
  unfold gT at h
  cases b with
  |true=>rw[Jq (by rfl)]at h;exact⟨[],c,d,rfl,rfl,Im h⟩
  |false=>
   rw[G7 Bp]at h
   obtain⟨d1,c',d2,rfl,h1,h2⟩:=NO (d:=d) h
   exact⟨(c,false)::d1,c',d2,rfl,(G7 Bp).trans h1,h2⟩
theorem NP(th:List Nat)(a b:DL):dT th (a++b)=dT th a++dT th b:=D2
theorem z5(a b:DL):cq (a++b)=cq a++cq b:=D2
theorem T9(th:List Nat)(d1 d2:DL)(c:Nat)(h:gT d1=0):(dT th (d1++(c,true)::d2)).flatten=(cq d1++[c])++(th++(dT th d2).flatten):=by
 rw[NP,Cu,z4 h]
 refine(?_:cq d1++([c]++th++(dT th d2).flatten)=_)
 simp
noncomputable def mY(th:List Nat):Nat:=if th∈nJ then 2 else 1
theorem NQ{th:List Nat}(bX:th∈things){d:DL}(hp:par (cq d))(hc:gT d<=mY th):zV (dT th d).flatten=zV (cq d):=by
 cases e:gT d with
 |zero=>rw[z4 e]
 |succ k=>
  obtain⟨d1,c,d2,rfl,h1,h2⟩:=NO e
  rw[T9 th d1 d2 c h1]
  have hm:cq (d1++(c,true)::d2)=(cq d1++[c])++cq d2:=by rw[z5];simp[cq]
  rw[hm]at hp⊢
  have hA:par (cq d1++[c]):=fun x hx=>hp x (Az _ hx)
  have hB:par (cq d2):=fun x hx=>hp x (Ar _ hx)
  cases k with
  |zero=>rw[z4 h2];exact yDd bX hA hB
  |succ k=>
   rw[e]at hc
   unfold mY at hc
   by_cases hq:th∈nJ
   ·rw[if_pos hq]at hc
    obtain rfl:k=0:=by omega
    obtain⟨d3,c',d4,rfl,h3,h4⟩:=NO h2
    rw[T9 th d3 d4 c' h3,z4 h4]
    have pT:cq (d3++(c',true)::d4)=(cq d3++[c'])++cq d4:=by rw[z5];simp[cq]
    rw[pT]at hB⊢
    exact yAj hq hA (fun x hx=>hB x (Az _ hx)) (fun x hx=>hB x (Ar _ hx))
   ·rw[if_neg hq]at hc;omega
inductive Fo where
 |e
 |n (i r:Fo)
noncomputable def Fo.mk:Fo->List Nat
 | .e=> []
 | .n i r=>40::(i.mk++41::r.mk)
noncomputable def Fo.sz:Fo->Nat
 | .e=>0
 | .n i r=>i.sz+r.sz+1
theorem Fo.eF:∀f:Fo,f.mk.length=2*f.sz
 | .e=>rfl
 | .n i r=>by
  refine(?_:(40::(i.mk++41::r.mk)).length=2*(i.sz+r.sz+1))
  rw[Cf,Ah,Cf,i.eF,r.eF];omega
theorem Fo.par:∀f:Fo,par f.mk
 | .e=>fun c h=>nomatch h
 | .n i r=>fun c h=>by
  rcases Ax.mp h with rfl|h
  ·exact .inl rfl
  ·rcases Bb.mp h with h|h
   ·exact i.par c h
   ·rcases Ax.mp h with rfl|h
    ·exact .inr rfl
    ·exact r.par c h
noncomputable def Fo.gen:Nat->Nat->List Fo
 |0,s=>if s=0 then [.e]else []
 |_+1,0=> [.e]
 |k+1,s+1=>(Au (s+1)).flatMap fun a=>(gen k a).flatMap fun i=>(gen k (s-a)).map fun r=> .n i r
theorem Fo.dW:∀(k:Nat) (f:Fo),f.sz<=k->f∈Fo.gen k f.sz
 |0, .e,_=> .head _
 |0, .n i r,h=>absurd h (Ks _)
 |k+1, .e,_=> .head _
 |k+1, .n i r,h=>by
  have h:i.sz+r.sz+1<=k+1:=h
  refine(?_:Fo.n i r∈(Au (i.sz+r.sz+1)).flatMap fun a=>(gen k a).flatMap fun i'=>(gen k (i.sz+r.sz-a)).map fun r'=> .n i' r')
  refine Fj.mpr ⟨i.sz,B5.mpr (by omega),Fj.mpr ⟨i,dW k i (by omega),Fy.mpr ⟨r,?_,rfl⟩⟩⟩
  rw[G4]
  exact dW k r (by omega)
noncomputable def Ua:Fo->Bool
 | .e=>true
 | .n i r=>(Au i.sz).all (fun m=>!zV ((Fo.n i r).mk.take (2*(m+1))))&&zV ((Fo.n i r).mk.take (2*(i.sz+1)))
theorem zXq:((Au 6).all fun s=>(Fo.gen 5 s).all Ua)=true:=by decide+kernel
theorem zZ4(f:Fo)(h:f.sz<=5):Ua f=true:=Ao.mp (Ao.mp zXq f.sz (B5.mpr (Hi h))) f (Fo.dW 5 f h)
theorem zRn:((lL 5).all fun ms=>(Fo.gen 5 5).any fun f=>f.mk==cP ms)=true:=by decide+kernel
theorem zV1:((Fo.gen 5 5).all fun f=>f.sz==5)=true:=by decide+kernel
theorem yC2{ms:List Nat}(h:ms∈lL 5):∃f:Fo,f.sz=5/\f.mk=cP ms:=by
 obtain⟨f,hf,e⟩:=List.any_eq_true.mp (Ao.mp zRn ms h)
 exact⟨f,eq_of_beq (Ao.mp zV1 f hf),eq_of_beq e⟩
noncomputable def nK(M th:List Nat)(q turn:Nat):DL:=(Au 10).map fun k=>(M.getD k 0,mW th q turn k)
theorem zY7(M th:List Nat)(q turn:Nat):sY M th q turn=dT th (nK M th q turn):=by unfold sY dT nK;rw[A8];rfl
theorem zWt:∀i<9,∀q<10,∀t<10,((Au 10).countP fun k=>mW (things.getD i []) q t k)<=mY (things.getD i []):=by decide+kernel
noncomputable def mZ(m:Nat):List Nat:=(Au 4).map fun k=>if k=m then 0 else 1000
noncomputable def EW(l:List Nat):Nat:=l.tail.foldl min (l.headD 0)
noncomputable def qJ(b:List Nat)(w:Nat):Nat:=EW ((Au 4).map fun k=>b.getD k 0+(2+iW w k))
noncomputable def jR(acc b:List Nat):List Nat:=(Au 4).map fun w=>acc.getD w 0+qJ b w
noncomputable def pC:List Nat:=[0,0,0,0]
noncomputable def iX:Fo->List Nat->List Nat->List Nat×List Nat
 | .e,W,acc=>(acc,W)
 | .n i r,W,acc=>
  let q:=if i.sz=0 then(mZ (W.headD 0),W.tail)else iX i W pC
  iX r q.2 (jR acc q.1)
noncomputable def gb(f:Fo)(W:List Nat):List Nat×List Nat:=if f.sz=0 then(mZ (W.headD 0),W.tail)else iX f W pC
noncomputable def jy:Fo->Nat
 | .e=>0
 | .n i r=>(if i.sz=0 then 1 else jy i)+jy r
noncomputable def ln(f:Fo):Nat:=if f.sz=0 then 1 else jy f
inductive qK(fget:aj->Option (aj×List Nat))(ws:List (List Nat)):aj->List Nat->aj->Prop
 |nil (b:aj):qK fget ws b [] b
 |cons {b b1 b':aj} {m:Nat} {W:List Nat} (e:fget b=some (b1,46::ws.getD m [])) (hm:m<4) (r:qK fget ws b1 W b'):qK fget ws b (m::W) b'
section
variable{U:Uc}{σ:List (Option PV)}{β:Option (Value×aj)}
theorem zVw{e a c:PE}{l:List PV}{m n:Nat}(h:ev U e σ=some (.list l))(ha:ev U a σ=some (pn m))(hc:ev U c σ=some (pn n))(hl:l.length<=ag)(hm:m<=n)(hn:n<=l.length):ev U (.bD e (.yes a) (.yes c) .no) σ=some (.list ((l.drop m).take (n-m))):=by
 refine(?_:(ev U e σ).bind _=_)
 refine zK h ?_
 refine(?_:((ev U a σ).bind _).bind _=_)
 rw[ha,As]
 refine(?_:Option.bind (some (some (m:Int))) (fun lo=>((ev U c σ).bind _).bind _)=_)
 rw[As,hc,As]
 refine(?_:(if l.length<=ag then some (PV.list ((l.drop (C7 (some (m:Int)) l.length)).take (Fs (some (n:Int)) l.length-C7 (some (m:Int)) l.length)))else none)=_)
 rw[if_pos hl,EH,Nk,Dm (Ad hm hn),Dm hn]
theorem Ub{e c:PE}{l:List PV}{n:Nat}(h:ev U e σ=some (.list l))(hc:ev U c σ=some (pn n))(hl:l.length<=ag)(hn:n<=l.length):ev U (.bD e .no (.yes c) .no) σ=some (.list (l.take n)):=by
 refine(?_:(ev U e σ).bind _=_)
 refine zK h ?_
 refine(?_:((ev U c σ).bind _).bind _=_)
 rw[hc,As]
 refine(?_:(if l.length<=ag then some (PV.list ((l.drop (C7 none l.length)).take (Fs (some (n:Int)) l.length-C7 none l.length)))else none)=_)
 rw[if_pos hl,Nk,Dm hn];rfl
theorem Ud{e a:PE}{l:List PV}{m:Nat}(h:ev U e σ=some (.list l))(ha:ev U a σ=some (pn m))(hl:l.length<=ag)(hm:m<=l.length):ev U (.bD e (.yes a) .no .no) σ=some (.list (l.drop m)):=by
 refine(?_:(ev U e σ).bind _=_)
 refine zK h ?_
 refine(?_:((ev U a σ).bind _).bind _=_)
 rw[ha,As]
 refine(?_:(if l.length<=ag then some (PV.list ((l.drop (C7 (some (m:Int)) l.length)).take (l.length-C7 (some (m:Int)) l.length)))else none)=_)
 rw[if_pos hl,EH,Dm hm,Fu (by rw[Bu];exact Br _)]
theorem Ue:∀(l:List Nat) (a:Nat),(l.map fun n:Nat=>(n:Int)).foldl min (a:Int)=((l.foldl min a:Nat):Int)
 |[],_=>rfl
 |x::l,a=>by
  refine(?_:(l.map fun n:Nat=>(n:Int)).foldl min (min (a:Int) (x:Int))=((l.foldl min (min a x):Nat):Int))
  rw[<-Ue l (min a x)];congr 1;omega
theorem Ug{e:PE}{l:List Nat}(h:ev U e σ=some (.list (l.map pn)))(hl:l≠ []):ev U (.bi 2 (.cons e .nil)) σ=some (pn (EW l)):=by
 cases l with
 |nil=>exact absurd rfl hl
 |cons a r=>
  refine(?_:((ev U e σ).bind fun x=>(some []).map (x:: ·)).bind (tI 2)=_)
  rw[h]
  refine(?_:((PV.ints ((a::r).map pn)).bind fun is=>(FV is).map PV.int)=_)
  rw[Nh]
  refine(?_:some (PV.int ((r.map fun n:Nat=>(n:Int)).foldl min (a:Int)))=_)
  rw[Ue];rfl
theorem zW9:∀w<4,TS[w]?=some ((Au 4).map fun k=>2+iW w k):=by decide
theorem zUo:∀w<4,∀k<4,((Au 4).map fun k=>2+iW w k)[k]?=some (2+iW w k):=by decide
theorem zS3{acc b:List Nat}(bp:σ.length=8)(h5:At σ 5 (.list (acc.map pn)))(h7:At σ 7 (.list (b.map pn)))(h2:At σ 2 wY)(ha:acc.length=4)(hb:b.length=4):
  den U SA ⟨σ,β⟩=some (⟨σ.set 5 (some (.list ((jR acc b).map pn))),β⟩, .next):=by
 have q:PV.list ((Au 4).map fun w=>pn (acc.getD w 0+qJ b w))= .list ((jR acc b).map pn):=by unfold jR;rw[A8];rfl
 rw[<-q]
 refine zD (e:= .comp _ _ _) ?_ (show fresh (.comp _ _ _) (.list ((Au 4).map fun w=>pn (acc.getD w 0+qJ b w)))=true from wQ fun w _=>zP)
 refine kP (U:=U) (src:= .ei (.lit (.int 4))) (l:=Au 4) (it:=fun w=> [pn w]) (g:=fun w=>pn (acc.getD w 0+qJ b w)) (qD (n:=4) rfl (by decide)) (by decide) fun w hw=>⟨?_,zP⟩
 have hw:=B5.mp hw
 have v8:ev U (.var 8) (σ++[some (pn w)])=some (pn w):=zA (wZ bp)
 refine wI (wC (zA h5.app) v8 (mT pn 0 (ha▸hw)) (by rw[An,ha];decide)) (Ug (l:=(Au 4).map fun k=>b.getD k 0+(2+iW w k)) ?_ nofun)
 refine(kP (U:=U) (src:= .ei (.lit (.int 4))) (l:=Au 4) (it:=fun k=> [pn k]) (g:=fun k=>pn (b.getD k 0+(2+iW w k))) (qD (n:=4) rfl (by decide)) (by decide) fun k hk=>⟨?_,zP⟩).trans (by rw[A8];rfl)
 have hk:=B5.mp hk
 have v8':ev U (.var 8) (σ++[some (pn w)]++[some (pn k)])=some (pn w):=zA (At.app (wZ bp))
 have v9:ev U (.var 9) (σ++[some (pn w)]++[some (pn k)])=some (pn k):=zA (wZ (by rw[Ah,bp];rfl))
 refine wI (wC (zA h7.app.app) v9 (mT pn 0 (hb▸hk)) (by rw[An,hb];decide)) (wC (l:=((Au 4).map fun k=>2+iW w k).map pn) (wC (zA h2.app.app) v8' (by rw[Bi,zW9 w hw];rfl) (show 4<=ag by decide)) v9 (by rw[Bi,zUo w hw k hk];rfl) (show 4<=ag by decide))
noncomputable def lK(d:DL)(th:List Nat)(v:Value)(sp:PV)(acc:List Nat):List (Nat×PV):=[(0, .list ((dT th d).map .str)),(1, .obj v),(2,wY),(3,sp),(5, .list (acc.map pn))]
theorem NR{th:List Nat}(ht:th.length<=5){d:DL}(hd:d.length<=14):((dT th d).map B2).sum<=84:=by
 unfold dT
 rw[A8]
 refine Ad (qF _ 6 d fun z _=>?_) (Ed 6 hd)
 refine(?_:([z.1]++if z.2 then th else []).length<=6)
 rw[Ah]
 split
 ·exact Dc ht 1
 ·exact C6 1 5
theorem yAg(gy:∀s:List Nat,s.length<=900->U 3 [.str s]=some (.bool (zV s))){th:List Nat}(bX:th∈things)(ht:th.length<=5){d:DL}{j:Nat}(h0:At σ 0 (.list ((dT th d).map .str)))(h6:At σ 6 (pn j))(hp:par (cq d))(hc:gT d<=mY th)(hl:d.length<=14)(hj:j<=d.length):
  aY U (.and (.cons (.cmp .LtE (.var 6) (.bi 0 (.cons (.var 0) .nil))) (.cons (.not (.eG (.uc 3 (.cons (.me 0 (.lit (.str [])) (.cons (.bD (.var 0) .no (.yes (.var 6)) .no) .nil)) .nil)))) .nil))) σ=some (!zV ((cq d).take j)):=by
 have g6:((dT th d).map PV.str).length=d.length:=by unfold dT;rw[An,An]
 have hsz:((dT th d).map PV.str).length<=ag:=g6▸Ad hl (by decide)
 have t1:aY U (.cmp .LtE (.var 6) (.bi 0 (.cons (.var 0) .nil))) σ=some true:=by
  refine(?_:(ev U (.var 6) σ).bind _=_)
  rw[zA h6]
  refine(?_:(ev U (.bi 0 (.cons (.var 0) .nil)) σ).bind _=_)
  rw[S4 (zA h0) hsz]
  refine congrArg some (decide_eq_true ?_)
  rw[g6];exact Gj.mpr hj
 have sl:ev U (.bD (.var 0) .no (.yes (.var 6)) .no) σ=some (.list ((dT th (d.take j)).map .str)):=by
  rw[Ub (zA h0) (zA h6) hsz (g6▸hj)]
  unfold dT;rw[<-Ea,<-Ea]
 have Uh:((dT th (d.take j)).map B2).sum<=84:=NR ht (Ad (Kq ..) hl)
 have jn:=sJ sl (Ad Uh (by decide))
 have ck:ev U (.uc 3 (.cons (.me 0 (.lit (.str [])) (.cons (.bD (.var 0) .no (.yes (.var 6)) .no) .nil)) .nil)) σ=some (.bool (zV ((cq d).take j))):=by
  refine(zu jn (gy _ (by rw[Gn];exact Ad Uh (by decide)))).trans ?_
  have hm:cq (d.take j)=(cq d).take j:=Ea
  rw[NQ bX (d:=d.take j) (by rw[hm];exact fun c hc=>hp c (Gi hc)) (Ad (List.Sublist.countP_le (List.take_sublist ..)) hc),hm]
 rw[TH t1 fun _=>Nw (b:=zV ((cq d).take j)) ?_]
 ·rfl
 ·refine(?_:(ev U _ σ).bind qP=_)
  rw[ck];rfl
end
section
variable{U:Uc}{σ:List (Option PV)}{β:Option (Value×aj)}{th:List Nat}{v:Value}{sp:PV}
noncomputable def jW:PT:= .and (.cons (.cmp .LtE (.var 6) (.bi 0 (.cons (.var 0) .nil))) (.cons (.not (.eG (.uc 3 (.cons (.me 0 (.lit (.str [])) (.cons (.bD (.var 0) .no (.yes (.var 6)) .no) .nil)) .nil)))) .nil))
theorem yCf{i r:Fo}(h:i.sz+r.sz+1<=5):(∀m<i.sz,zV ((Fo.n i r).mk.take (2*(m+1)))=false)/\zV ((Fo.n i r).mk.take (2*(i.sz+1)))=true:=by
 have:=zZ4 (.n i r) h
 obtain⟨h1,h2⟩:=A9.mp this
 exact⟨fun m hm=>by simpa using Ao.mp h1 m (B5.mpr hm),h2⟩
theorem Ui(gy:∀s:List Nat,s.length<=900->U 3 [.str s]=some (.bool (zV s)))(bX:th∈things)(ht:th.length<=5){i r:Fo}(hs:i.sz+r.sz+1<=5){d:DL}(hd:cq d=(Fo.n i r).mk)(hc:gT d<=mY th){acc:List Nat}:
  ∀(k m fuel:Nat) (σ:List (Option PV)),m+k=i.sz->k<fuel->Kn 8 σ ((6,pn (2*(m+1)))::lK d th v sp acc)->∃aI,nr U jW (zT U (.cons (.aug .Add 6 (.lit (.int 2))) .nil)) fuel ⟨σ,β⟩=some (⟨aI,β⟩, .next)/\Kn 8 aI ((6,pn (2*(i.sz+1)))::lK d th v sp acc)
 |_,_,0,_,_,hf,_=>absurd hf (Gr _)
 |k,m,fuel+1,σ,hk,hf,K=>by
  obtain⟨f1,f2⟩:=yCf hs
  have hlen:d.length=2*(i.sz+r.sz+1):=by have:=congrArg B2 hd;rw[Fo.eF]at this;unfold cq at this;rw[An]at this;exact this
  have t:=yAg (U:=U) (j:=2*(m+1)) gy bX ht (K.get 0 _ rfl) (K.get 6 _ rfl) (hd▸Fo.par _) hc (by omega) (by omega)
  rw[hd]at t
  refine(?_:∃aI,(aY U jW σ).bind _=_/\_)
  rw[show aY U jW σ=_ from t,As]
  cases k with
  |zero=>
   obtain rfl:m=i.sz:=hk
   rw[f2]
   exact⟨σ,rfl,K⟩
  |succ k=>
   rw[f1 m (by omega)]
   have e:zT U (.cons (.aug .Add 6 (.lit (.int 2))) .nil) ⟨σ,β⟩=some (⟨σ.set 6 (some (pn (2*(m+1)+2))),β⟩, .next):=by
    refine eX ?_
    refine(?_:((σ[6]?).bind id).bind _=_)
    rw[K.get 6 _ rfl];rfl
   obtain⟨aI,e',K'⟩:=Ui gy bX ht hs hd hc k (m+1) fuel (σ.set 6 (some (pn (2*(m+1)+2)))) (by omega) (by omega) ((K.set (i:=6) (by decide) (pn (2*(m+1)+2))).sub (fa rfl (fa rfl (fa rfl (fa rfl (fa rfl (fa rfl dE)))))))
   refine⟨aI,?_,K'⟩
   refine(?_:(zT U (.cons (.aug .Add 6 (.lit (.int 2))) .nil) ⟨σ,β⟩).bind _=_)
   rw[e]
   exact e'
theorem aO{i:Nat}{b:aj}(h:At σ i (.obj v)):gX ⟨σ,some (v,b)⟩ i=some (v,b):=by
 unfold gX
 rw[show(⟨σ,some (v,b)⟩:Sg).σ[i]?=some (some (.obj v))from h]
 exact xU (by simp) rfl
theorem Uj(a b:List Nat):(jR a b).length=4:=by unfold jR;rw[An];rfl
theorem zRx(m:Nat):(mZ m).length=4:=rfl
theorem Uk:∀(f:Fo) (W acc:List Nat),acc.length=4->(iX f W acc).1.length=4
 | .e,_,_,h=>h
 | .n i r,W,acc,_=>Uk r _ _ (Uj ..)
theorem zW8(f:Fo)(W:List Nat):(gb f W).1.length=4:=by
 unfold gb
 split
 ·exact zRx _
 ·exact Uk _ _ _ rfl
theorem zTw{fL:FL}(gy:∀s:List Nat,s.length<=900->U 3 [.str s]=some (.bool (zV s)))(bX:th∈things)(ht:th.length<=5){i r:Fo}(hs:i.sz+r.sz+1<=5){d:DL}(hd:cq d=(Fo.n i r).mk)(hc:gT d<=mY th){acc:List Nat}(ha:acc.length=4){b b':aj}{q:List Nat}(hq:q.length=4)
  (K:Kn 8 σ (lK d th v sp acc)) (hL:fL v (.list ((dT th ((d.drop 1).take (2*i.sz))).map .str)) wY sp b=some (b', .list (q.map pn))):
  ∃aI,DY U fL ⟨σ,some (v,b)⟩=some (⟨aI,some (v,b')⟩, .next)/\Kn 8 aI (lK (d.drop (2*(i.sz+1))) th v sp (jR acc q)):=by
 have hlen:d.length=2*(i.sz+r.sz+1):=by have:=congrArg B2 hd;rw[Fo.eF]at this;unfold cq at this;rw[An]at this;exact this
 have g6:((dT th d).map PV.str).length=d.length:=by unfold dT;rw[An,An]
 have hsz:((dT th d).map PV.str).length<=ag:=g6▸Ad (show d.length<=10 by omega) (by decide)
 have e0:den U Sz ⟨σ,some (v,b)⟩=some (⟨σ.set 6 (some (pn 2)),some (v,b)⟩, .next):=zD (e:= .lit (.int 2)) rfl rfl
 have K0:Kn 8 (σ.set 6 (some (pn 2))) ((6,pn 2)::lK d th v sp acc):=K.set (by decide) _
 obtain⟨bQ,e1,K1⟩:=Ui (β:=some (v,b)) gy bX ht hs hd hc i.sz 0 64 _ (Cp _) (by omega) K0
 have mid:newD U sF ⟨bQ,some (v,b)⟩=some (.list ((dT th ((d.drop 1).take (2*i.sz))).map .str)):=by
  refine(?_:(ev U sF bQ).bind _=_)
  have e:ev U sF bQ=some (.list ((dT th ((d.drop 1).take (2*i.sz))).map .str)):=by
   refine(zVw (m:=1) (n:=2*(i.sz+1)-1) (zA (K1.get 0 _ rfl)) rfl (zr (n:=1) (zA (K1.get 6 _ rfl)) rfl (by omega)) hsz (by omega) (by rw[g6];omega)).trans ?_
   unfold dT
   rw[<-En,<-Ea,<-En,<-Ea,show 2*(i.sz+1)-1-1=2*i.sz by omega]
  rw[e,As]
  refine if_pos ?_
  refine(?_:(true&&((dT th ((d.drop 1).take (2*i.sz))).map PV.str).all PV.aZ)=true)
  rw[Hz,Hb]
  exact Ao.mpr fun _ _=>rfl
 have e2:yY 7 (uy fL 1 (newD U sF) (iU 2) (iU 3)) ⟨bQ,some (v,b)⟩=some (⟨bQ.set 7 (some (.list (q.map pn))),some (v,b')⟩, .next):=by
  refine(?_:(uy fL 1 (newD U sF) (iU 2) (iU 3) ⟨bQ,some (v,b)⟩).bind _=_)
  refine zK (a:=(⟨bQ,some (v,b')⟩, .list (q.map pn))) ?_ rfl
  refine(?_:(newD U sF ⟨bQ,some (v,b)⟩).bind _=_)
  refine zK mid ?_
  refine zK (aO (K1.get 1 _ rfl)) ?_
  refine zK (show iU 2 ⟨bQ,some (v,b)⟩=some wY by refine(?_:(bQ[2]?).bind id=_);rw[K1.get 2 _ rfl];rfl) ?_
  refine zK (show iU 3 ⟨bQ,some (v,b)⟩=some sp by refine(?_:(bQ[3]?).bind id=_);rw[K1.get 3 _ rfl];rfl) ?_
  refine(?_:(fL v _ wY sp b).map _=_)
  rw[hL];rfl
 have K2:=K1.set (i:=7) (by decide) (.list (q.map pn))
 generalize bQ.set 7 (some (.list (q.map pn)))=bN at e2 K2
 have e3:=zS3 (U:=U) (β:=some (v,b')) K2.len (K2.get 5 _ rfl) (K2.get 7 _ rfl) (K2.get 2 _ rfl) ha hq
 have K3:=K2.set (i:=5) (by decide) (.list ((jR acc q).map pn))
 generalize bN.set 5 (some (.list ((jR acc q).map pn)))=cD at e3 K3
 have e4:den U SD ⟨cD,some (v,b')⟩=some (⟨cD.set 0 (some (.list ((dT th (d.drop (2*(i.sz+1)))).map .str))),some (v,b')⟩, .next):=by
  refine zD (e:= .bD _ _ _ _) ?_ ?_
  ·refine(Ud (m:=2*(i.sz+1)) (zA (K3.get 0 _ rfl)) (zA (K3.get 6 _ rfl)) hsz (by rw[g6];omega)).trans ?_
   unfold dT
   rw[<-En,<-En]
  ·refine(?_:(true&&((dT th (d.drop (2*(i.sz+1)))).map PV.str).all PV.aZ)=true)
   rw[Hz,Hb]
   exact Ao.mpr fun _ _=>rfl
 refine⟨_,(zM e0).trans<|(zM e1).trans<|(zM e2).trans<|(zM e3).trans<|(zM e4).trans rfl,(K3.set (i:=0) (by decide) _).sub (fa rfl (fa rfl (fa rfl (fa rfl (fa rfl dE)))))⟩
end
theorem Ul(i r:Fo)(W acc:List Nat):iX (.n i r) W acc=iX r (gb i W).2 (jR acc (gb i W).1):=rfl
theorem EX:∀(f:Fo) (W acc:List Nat),jy f<=W.length->(iX f W acc).2.length+jy f=W.length
 | .e,_,_,_=>rfl
 | .n i r,W,acc,h=>by
  have h:(if i.sz=0 then 1 else jy i)+jy r<=W.length:=h
  have hi:(gb i W).2.length+(if i.sz=0 then 1 else jy i)=W.length:=by
   unfold gb
   by_cases hz:i.sz=0
   ·rw[if_pos hz]at h⊢;rw[if_pos hz,List.length_tail];omega
   ·rw[if_neg hz]at h⊢;rw[if_neg hz];exact EX i W pC (by omega)
  have hr:=EX r (gb i W).2 (jR acc (gb i W).1) (by omega)
  rw[Ul]
  refine(?_:_+((if i.sz=0 then 1 else jy i)+jy r)=_)
  omega
theorem Um(f:Fo)(W:List Nat)(h:ln f<=W.length):(gb f W).2.length+ln f=W.length:=by
 unfold gb ln at*
 by_cases hz:f.sz=0
 ·rw[if_pos hz]at h⊢;rw[if_pos hz,List.length_tail];omega
 ·rw[if_neg hz]at h⊢;rw[if_neg hz];exact EX f W pC h
section
variable{U:Uc}{σ:List (Option PV)}{th:List Nat}{v:Value}{sp:PV}{fget:aj->Option (aj×List Nat)}{ws:List (List Nat)}{bE:aj}
theorem zZz{d:DL}(h0:At σ 0 (.list ((dT th d).map .str))):aY U (.cmp .Eq (.var 0) (.list .nil)) σ=some (d.isEmpty):=by
 refine(?_:(ev U (.var 0) σ).bind _=_)
 rw[zA h0]
 cases d with
 |nil=>rfl
 |cons z d=>rfl
theorem Un{d:DL}(h0:At σ 0 (.list ((dT th d).map .str))):aY U y8 σ=some (!d.isEmpty):=by
 refine(?_:(ev U (.var 0) σ).bind _=_)
 rw[zA h0]
 cases d with
 |nil=>rfl
 |cons z d=>rfl
noncomputable def Uo(th:List Nat)(v:Value)(sp:PV)(fget:aj->Option (aj×List Nat))(ws:List (List Nat))(bE:aj)(n:Nat)(fL:FL):Prop:=∀(f:Fo) (d:DL) (b:aj) (W:List Nat),f.sz<n->f.sz<=5->cq d=f.mk->gT d<=mY th->qK fget ws b W bE->ln f<=W.length->
 ∃b',fL v (.list ((dT th d).map .str)) wY sp b=some (b', .list ((gb f W).1.map pn))/\qK fget ws b' (gb f W).2 bE
theorem Up{fL:FL}{n:Nat}(gy:∀s:List Nat,s.length<=900->U 3 [.str s]=some (.bool (zV s)))(bX:th∈things)(ht:th.length<=5)(IH:Uo th v sp fget ws bE n fL):
  ∀(r:Fo) (fuel:Nat) (d:DL) (σ:List (Option PV)) (b:aj) (W acc:List Nat),r.sz<=n->r.sz<=5->r.sz<fuel->cq d=r.mk->gT d<=mY th->acc.length=4->Kn 8 σ (lK d th v sp acc)->qK fget ws b W bE->jy r<=W.length->
   ∃aI b',nr U y8 (DY U fL) fuel ⟨σ,some (v,b)⟩=some (⟨aI,some (v,b')⟩, .next)/\At aI 5 (.list ((iX r W acc).1.map pn))/\qK fget ws b' (iX r W acc).2 bE
 |_,0,_,_,_,_,_,_,_,hf,_,_,_,_,_,_=>absurd hf (Gr _)
 | .e,fuel+1,d,σ,b,W,acc,_,_,_,hd,_,_,K,hT,_=>by
  obtain rfl:d=[]:=Il.mp hd
  refine⟨σ,b,?_,K.get 5 _ rfl,hT⟩
  refine(?_:(aY U y8 σ).bind _=_)
  rw[Un (K.get 0 _ rfl)];rfl
 | .n i r,fuel+1,d,σ,b,W,acc,hn,h5,hf,hd,hc,ha,K,hT,hW=>by
  have hn:i.sz+r.sz+1<=n:=hn
  have h5:i.sz+r.sz+1<=5:=h5
  have hf:i.sz+r.sz+1<fuel+1:=hf
  have hW:ln i+jy r<=W.length:=hW
  have md:cq d=40::(i.mk++41::r.mk):=hd
  have m1:cq ((d.drop 1).take (2*i.sz))=i.mk:=by
   unfold cq at md⊢
   rw[Ea,En,md,<-i.eF]
   exact List.take_left
  have m2:cq (d.drop (2*(i.sz+1)))=r.mk:=by
   unfold cq at md⊢
   rw[En,md,show 2*(i.sz+1)=i.mk.length+1+1 by rw[i.eF];omega,List.drop_succ_cons,<-Iy,List.drop_left];rfl
  have NS:((d.drop 1).take (2*i.sz)).Sublist d:=(List.take_sublist ..).trans (List.drop_sublist ..)
  have NT:(d.drop (2*(i.sz+1))).Sublist d:=List.drop_sublist ..
  obtain⟨b1,e1,hT1⟩:=IH i _ b W (by omega) (by omega) m1 (Ad NS.countP_le hc) hT (by omega)
  obtain⟨bQ,e2,K1⟩:=zTw gy bX ht h5 hd hc ha (zW8 i W) K e1
  have z6:=Um i W (by omega)
  obtain⟨bN,b2,e3,h3,hT3⟩:=Up gy bX ht IH r fuel _ bQ b1 (gb i W).2 (jR acc (gb i W).1) (by omega) (by omega) (by omega) m2 (Ad NT.countP_le hc) (Uj ..) K1 hT1 (by omega)
  refine⟨bN,b2,?_,h3,hT3⟩
  refine(?_:(aY U y8 σ).bind _=_)
  rw[Un (K.get 0 _ rfl)]
  have cU:d.isEmpty=false:=by cases d with|nil=>exact absurd (show([]:List Nat)=40::(i.mk++41::r.mk)from md) nofun|cons z d=>rfl
  rw[cU]
  refine(?_:(DY U fL ⟨σ,some (v,b)⟩).bind _=_)
  rw[e2];exact e3
theorem zUh:∀d<3,∀t<6,∀m<4,(((jP d (jO.getD t [])).map (46:: ·)).map fun s=>if(46::(jP d (jO.getD t [])).getD m [])==s then 0 else 1000)=mZ m:=by decide+kernel
theorem Uq{a b:PE}{x y:List Nat}(ha:ev U a σ=some (.str x))(hb:ev U b σ=some (.str y)):aY U (.cmp .Eq a b) σ=some (x==y):=by
 refine(?_:(ev U a σ).bind _=_)
 refine zK ha ?_
 exact zK hb rfl
theorem zXz{tot m:Nat}(hm:m<4)(bp:σ.length=8)(h4:At σ 4 (.str (46::(eS tot).getD m [])))(h3:At σ 3 (.list ((gR tot).map .str))):ev U DX σ=some (.list ((mZ m).map pn)):=by
 refine(kP (U:=U) (src:= .items (.var 3)) (l:=gR tot) (it:=fun s=> [.str s]) (g:=fun s=>pn (if(46::(eS tot).getD m [])==s then 0 else 1000)) (by rw[EC (zA h3),A8];rfl) (show 4<=ag by decide) fun s _=>⟨?_,zP⟩).trans ?_
 ·refine(?_:ev U (.ite (.cmp .Eq (.var 4) (.var 8)) (.lit (.int 0)) (.lit (.int 1000))) (σ++[some (.str s)])=_)
  rw[ED (Uq (zA h4.app) (zA (wZ bp)))]
  cases(46::(eS tot).getD m [])==s<;>rfl
 ·have:=zUh _ (qH tot) _ (pB tot) m hm
  rw[<-this,A8];rfl
theorem Ur{tot:Nat}(gy:∀s:List Nat,s.length<=900->U 3 [.str s]=some (.bool (zV s)))(bX:th∈things)(ht:th.length<=5):∀n,Uo th v (.list ((gR tot).map .str)) fget (eS tot) bE n (nH U fget n)
 |0=>fun f d b W h=>absurd h (Gr _)
 |n+1=>by
  intro f d b W hn h5 hd hc hT hW
  refine(?_:∃b',DV U fget MZ DX (kD U (nH U fget n)) v _ wY _ b=_/\_)
  have h0:At (o9 v (.list ((dT th d).map .str)) wY (.list ((gR tot).map .str)) b).σ 0 (.list ((dT th d).map .str)):=rfl
  unfold DV
  rw[show aY U MZ _=_ from zZz h0,As]
  cases f with
  |e=>
   obtain rfl:d=[]:=Il.mp hd
   cases hT with
   |nil=>exact absurd hW (Ks _)
   | @cons _ b1 _ m W e hm r=>
    refine⟨b1,?_,r⟩
    refine(?_:Ss U fget DX _=_)
    have e1:yY 4 (ux fget 1) (o9 v (.list (([]:DL).map fun _=> .none)) wY (.list ((gR tot).map .str)) b)=some (⟨[some (.list []),some (.obj v),some wY,some (.list ((gR tot).map .str)),some (.str (46::(eS tot).getD m [])),none,none,none],some (v,b1)⟩, .next):=by
     refine(?_:((gX (o9 v (.list []) wY (.list ((gR tot).map .str)) b) 1).bind _).bind _=_)
     rw[show gX (o9 v (.list []) wY (.list ((gR tot).map .str)) b) 1=some (v,b)from aO (v:=v) rfl,As]
     refine(?_:((fget b).map _).bind _=_)
     rw[e];rfl
    refine(?_:(yY 4 (ux fget 1) _).bind _=_)
    refine zK e1 ?_
    refine zK (zXz (tot:=tot) hm rfl rfl rfl) ?_
    exact xU rfl rfl
  |n i r=>
   have cU:d.isEmpty=false:=by cases d with|nil=>exact absurd (show([]:List Nat)=40::(i.mk++41::r.mk)from hd) nofun|cons z d=>rfl
   rw[cU]
   have e1:den U k1 (o9 v (.list ((dT th d).map .str)) wY (.list ((gR tot).map .str)) b)=some (⟨[some (.list ((dT th d).map .str)),some (.obj v),some wY,some (.list ((gR tot).map .str)),none,some (.list (pC.map pn)),none,none],some (v,b)⟩, .next):=zD (e:= .list _) rfl rfl
   have K:Kn 8 [some (.list ((dT th d).map PV.str)),some (.obj v),some wY,some (.list ((gR tot).map .str)),none,some (.list (pC.map pn)),none,none] (lK d th v (.list ((gR tot).map .str)) pC):=Kn.cons rfl (Kn.cons rfl (Kn.cons rfl (Kn.cons rfl (Kn.cons rfl (Kn.nil rfl)))))
   obtain⟨bN,b2,e2,h5',hT2⟩:=Up gy bX ht (Ur (tot:=tot) gy bX ht n) (.n i r) 64 d _ b W pC (Jc hn) h5 (Dn h5 (by decide)) hd hc rfl K hT hW
   refine⟨b2,?_,hT2⟩
   refine(?_:Su _ _=_)
   refine(?_:(kD U (nH U fget n) _).bind _=_)
   refine zK ((zM e1).trans ((zM e2).trans rfl)) ?_
   refine xU (show MX Fl.next=true from rfl) ?_
   refine(?_:((bN[5]?).bind id).bind _=_)
   rw[h5']
   refine xU ?_ rfl
   refine(?_:((iX (.n i r) W pC).1.map pn).all PV.aZ=true)
   rw[Hb]
   exact Ao.mpr fun _ _=>rfl
end
noncomputable def up(g:Nat×Nat):Nat×Nat:=(min g.1 (min g.1 g.2+1),min g.2 (min g.1 g.2+1))
noncomputable def iO(a b:Nat×Nat):Nat×Nat:=(a.1+b.1,a.2+b.2)
noncomputable def lf(b:Nat):Nat×Nat:=(b,1-b)
noncomputable def rh:Fo->List Nat->Nat×Nat->(Nat×Nat)×List Nat
 | .e,B,acc=>(acc,B)
 | .n i r,B,acc=>
  let q:=if i.sz=0 then(lf (B.headD 0),B.tail)else rh i B (0,0)
  rh r q.2 (iO acc (up q.1))
noncomputable def eL(c:Nat)(a b:Nat×Nat):List Nat:=[c+a.1+b.1,c+a.1+b.2,c+a.2+b.1,c+a.2+b.2]
theorem pD(c s a b x y:Nat):c+a+b+(s+x+y)=c+s+(a+x)+(b+y):=(Kt (c+a) b (s+x) y).trans (congrArg (· +(b+y)) (Kt c a s x))
theorem EY(s g0 g1 h0 h1 i j k l:Nat):min (min (min (s+g0+h0+(2+(i+k))) (s+g0+h1+(2+(i+l)))) (s+g1+h0+(2+(j+k)))) (s+g1+h1+(2+(j+l)))=s+2+min (g0+i) (g1+j)+min (h0+k) (h1+l):=by
 have e:∀a b m n,s+a+b+(2+(m+n))=(s+2+(a+m))+(b+n):=fun a b m n=>(congrArg (s+a+b+ ·) (C3 2 m n).symm).trans (pD s 2 a b m n)
 rw[e,e,e,e,Ib,Nat.min_assoc,Ib,Ke,Ib]
theorem up1(a b:Nat):min a (min a b+1)=min (a+0) (b+1):=by
 rw[<-Ke,<-Nat.min_assoc,Dm (Fq a)];rfl
theorem Us(a b:Nat):min b (min a b+1)=min (a+1) (b+0):=by
 rw[Nat.min_comm a b,up1,Nat.min_comm]
theorem zUx(c s:Nat)(a b g h:Nat×Nat):jR (eL c a b) (eL s g h)=eL (c+(s+2)) (iO a (up g)) (iO b (up h)):=by
 refine(?_:[c+a.1+b.1+_,c+a.1+b.2+_,c+a.2+b.1+_,c+a.2+b.2+_]=[_+(a.1+min g.1 (min g.1 g.2+1))+(b.1+min h.1 (min h.1 h.2+1)),_+(a.1+min g.1 (min g.1 g.2+1))+(b.2+min h.2 (min h.1 h.2+1)),_+(a.2+min g.2 (min g.1 g.2+1))+(b.1+min h.1 (min h.1 h.2+1)),_+(a.2+min g.2 (min g.1 g.2+1))+(b.2+min h.2 (min h.1 h.2+1))])
 rw[up1 g.1 g.2,Us g.1 g.2,up1 h.1 h.2,Us h.1 h.2]
 refine congr (congrArg _ ?_) (congr (congrArg _ ?_) (congr (congrArg _ ?_) (congrArg (· ::[]) ?_)))
 ·exact(congrArg (c+a.1+b.1+ ·) (EY s g.1 g.2 h.1 h.2 0 1 0 1)).trans (pD ..)
 ·exact(congrArg (c+a.1+b.2+ ·) (EY s g.1 g.2 h.1 h.2 0 1 1 0)).trans (pD ..)
 ·exact(congrArg (c+a.2+b.1+ ·) (EY s g.1 g.2 h.1 h.2 1 0 0 1)).trans (pD ..)
 ·exact(congrArg (c+a.2+b.2+ ·) (EY s g.1 g.2 h.1 h.2 1 0 1 0)).trans (pD ..)
theorem zTn(c:Nat)(a b:Nat×Nat){m:Nat}(hm:m<4):jR (eL c a b) (mZ m)=eL (c+2) (iO a (up (lf (m/2)))) (iO b (up (lf (m%2)))):=by
 have key:∀m<4,qJ (mZ m) 0=2+(up (lf (m/2))).1+(up (lf (m%2))).1/\qJ (mZ m) 1=2+(up (lf (m/2))).1+(up (lf (m%2))).2/\qJ (mZ m) 2=2+(up (lf (m/2))).2+(up (lf (m%2))).1/\qJ (mZ m) 3=2+(up (lf (m/2))).2+(up (lf (m%2))).2:=by decide
 obtain⟨k0,k1,k2,k3⟩:=key m hm
 refine(?_:[c+a.1+b.1+_,c+a.1+b.2+_,c+a.2+b.1+_,c+a.2+b.2+_]=_)
 rw[k0,k1,k2,k3,pD,pD,pD,pD];rfl
theorem EZ:∀(f:Fo) (W:List Nat) (c:Nat) (a b:Nat×Nat),(∀m∈W,m<4)->jy f<=W.length->
  (iX f W (eL c a b)).1=eL (c+2*f.sz) (rh f (W.map (· /2)) a).1 (rh f (W.map (· %2)) b).1/\(rh f (W.map (· /2)) a).2=(iX f W (eL c a b)).2.map (· /2)/\(rh f (W.map (· %2)) b).2=(iX f W (eL c a b)).2.map (· %2)/\(∀m∈(iX f W (eL c a b)).2,m<4)
 | .e,W,c,a,b,h,_=>⟨rfl,rfl,rfl,h⟩
 | .n i r,W,c,a,b,h,hl=>by
  have hl:(if i.sz=0 then 1 else jy i)+jy r<=W.length:=hl
  rw[Ul]
  by_cases hz:i.sz=0
  ·rw[if_pos hz]at hl
   cases W with
   |nil=>exact absurd hl (by rw[F0];omega)
   |cons m W=>
    have hm:=h m (.head _)
    have hW:∀x∈W,x<4:=fun x hx=>h x (.tail _ hx)
    have c1:gb i (m::W)=(mZ m,W):=by unfold gb;rw[if_pos hz];rfl
    have r1:∀(B:Nat) (Bs:List Nat) (x:Nat×Nat),rh (.n i r) (B::Bs) x=rh r Bs (iO x (up (lf B))):=fun B Bs x=>by
     refine(?_:rh r (if i.sz=0 then _ else _:(Nat×Nat)×List Nat).2 (iO x (up (if i.sz=0 then _ else _:(Nat×Nat)×List Nat).1))=_)
     rw[if_pos hz];rfl
    rw[c1,zTn c a b hm,Ds,Ds,r1,r1]
    have ih:=EZ r W (c+2) (iO a (up (lf (m/2)))) (iO b (up (lf (m%2)))) hW (by rw[Cf]at hl;omega)
    refine⟨ih.1.trans ?_,ih.2⟩
    refine congrArg (fun n=>eL n _ _) ?_
    refine(?_:c+2+2*r.sz=c+2*(i.sz+r.sz+1))
    omega
  ·rw[if_neg hz]at hl
   have c1:gb i W=iX i W (eL 0 (0,0) (0,0)):=by unfold gb;rw[if_neg hz];rfl
   have r1:∀(B:List Nat) (x:Nat×Nat),rh (.n i r) B x=rh r (rh i B (0,0)).2 (iO x (up (rh i B (0,0)).1)):=fun B x=>by
    refine(?_:rh r (if i.sz=0 then _ else _:(Nat×Nat)×List Nat).2 (iO x (up (if i.sz=0 then _ else _:(Nat×Nat)×List Nat).1))=_)
    rw[if_neg hz]
   obtain⟨q1,q2,q3,q4⟩:=EZ i W 0 (0,0) (0,0) h (by omega)
   have z6:=EX i W (eL 0 (0,0) (0,0)) (by omega)
   rw[c1,r1,r1,q1,q2,q3,zUx]
   have ih:=EZ r (iX i W (eL 0 (0,0) (0,0))).2 (c+(0+2*i.sz+2)) (iO a (up (rh i (W.map (· /2)) (0,0)).1)) (iO b (up (rh i (W.map (· %2)) (0,0)).1)) q4 (by omega)
   refine⟨ih.1.trans ?_,ih.2⟩
   refine congrArg (fun n=>eL n _ _) ?_
   refine(?_:c+(0+2*i.sz+2)+2*r.sz=c+2*(i.sz+r.sz+1))
   omega
noncomputable abbrev DS:=List (Nat×Nat)×Nat
noncomputable def dst(M:List Nat)(X:List Nat)(s:DS)(t:Nat):Option DS:=
 if 12<s.1.length\/5<s.2 then none else
 if M.getD t 0=40 then some (s.1++[(0,0)],s.2+1)else
 match s.1.reverse with
 |l0::ar::rest=>if t=0\/s.2=0 then none else some (rest.reverse++[iO ar (up (if M.getD (t-1) 0=40 then lf (X.getD (s.2-1) 0)else l0))],s.2)
 |_=>none
noncomputable def nM(M X:List Nat):Nat->Option DS
 |0=>some ([(0,0)],0)
 |k+1=>(nM M X k).bind fun s=>dst M X s k
noncomputable def NU:Nat->List (List Nat)
 |0=> [[]]
 |n+1=>(NU n).flatMap fun B=> [0::B,1::B]
theorem zSw:((Fo.gen 5 5).all fun f=>(lL 5).all fun ms=>!(f.mk==cP ms)||(NU 5).all fun X=>nM (cP ms) X 10==some ([(rh f ((yM ms).map fun k=>X.getD k 0) (0,0)).1],5))=true:=by decide+kernel
noncomputable def da(g:Nat×Nat):PV:= .list [pn g.1,pn g.2]
noncomputable def eY(xs:List Nat)(h:Nat):List Nat:=xs.map fun x=>x/h%2
noncomputable def dK(xs M:List Nat)(h:Nat)(E:PV×PV)(s:DS):List (Nat×PV):=[(18,E.1),(19,E.2),(2, .list (xs.map pn)),(4, .str M),(20,pn h),(21, .list (s.1.map da)),(22, .int ((s.2:Int)-1))]
section
variable{U:Uc}{σ:List (Option PV)}{β:Option (Value×aj)}{xs M:List Nat}{h:Nat}{E:PV×PV}
theorem Ut{i j:Nat}{l:List PV}{p:PV}(hl:At σ j (.list (l++[p])))(hs:l.length+1<=ag):den U (.ix i j) ⟨σ,β⟩=some (⟨(σ.set j (some (.list l))).set i (some p),β⟩, .next):=by
 refine(?_:((ll ⟨σ,β⟩ j).bind _).bind _=_)
 rw[HI hl,As,if_pos (by rw[Ah];exact hs),List.getLast?_concat,Ko]
 rfl
theorem Uu(a b:Nat):jv a b=min a b:=by unfold jv;split<;>omega
theorem NV(g:Nat×Nat):∀k<2,[pn g.1,pn g.2][k]?=some (pn (if k=0 then g.1 else g.2))
 |0,_=>rfl
 |1,_=>rfl
theorem yB4{l ar:Nat×Nat}(bp:σ.length=27)(Uv:At σ 24 (da l))(h26:At σ 26 (da ar)):ev U (.comp (.bin .Add (.idx (.var 26) (.var 27)) (.bi 3 (.cons (.idx (.var 24) (.var 27)) (.cons (.bin .Add (.bi 2 (.cons (.var 24) .nil)) (.lit (.int 1))) .nil)))) (.ei (.lit (.int 2))) .nil) σ=some (da (iO ar (up l))):=by
 have q:da (iO ar (up l))= .list ((Au 2).map fun k=>pn ((if k=0 then ar.1 else ar.2)+jv (if k=0 then l.1 else l.2) (EW [l.1,l.2]+1))):=by
  refine(?_:PV.list [pn (ar.1+(up l).1),pn (ar.2+(up l).2)]= .list [pn (ar.1+jv l.1 (min l.1 l.2+1)),pn (ar.2+jv l.2 (min l.1 l.2+1))])
  rw[Uu,Uu];rfl
 rw[q]
 refine kP (U:=U) (src:= .ei (.lit (.int 2))) (l:=Au 2) (it:=fun k=> [pn k]) (g:=fun k=>pn ((if k=0 then ar.1 else ar.2)+jv (if k=0 then l.1 else l.2) (EW [l.1,l.2]+1))) (qD (n:=2) rfl (by decide)) (by decide) fun k hk=>⟨?_,zP⟩
 have hk:=B5.mp hk
 have v:ev U (.var 27) (σ++[some (pn k)])=some (pn k):=zA (wZ bp)
 exact wI (wC (zA h26.app) v (NV ar k hk) (show 2<=ag by decide)) (Nt (wC (zA Uv.app) v (NV l k hk) (show 2<=ag by decide)) (wI (Ug (l:=[l.1,l.2]) (zA Uv.app) nofun) (zv (p:=pn 1))))
theorem zXx{t:Nat}(h23:At σ 23 (pn t))(ht:1<=t):ev U (.bin .Sub (.var 23) (.lit (.int 1))) σ=some (pn (t-1)):=zr (zA h23) (zv (p:=pn 1)) ht
theorem Uw{e:PE}{t:Nat}(h4:At σ 4 (.str M))(hM:M.length=10)(he:ev U e σ=some (pn t))(ht:t<10):aY U (.cmp .Eq (.idx (.var 4) e) (.lit (.str [40]))) σ=some (M.getD t 0==40):=by
 rw[Uq (y:=[40]) (uD (zA h4) he (sM 0 (hM▸ht)) (by rw[hM];decide)) rfl]
 simp
theorem zU8(hx:xs.length=5)(hM:M.length=10)(hh:0<h/\h<1073741824){s s':DS}{t:Nat}(ht:t<10)(e:dst M (eY xs h) s t=some s')(K:Kn 27 σ ((23,pn t)::dK xs M h E s)):
  ∃aI,zT U (EE za) ⟨σ,β⟩=some (⟨aI,β⟩, .next)/\Kn 27 aI (dK xs M h E s'):=by
 unfold dst at e
 by_cases hb:12<s.1.length\/5<s.2
 ·rw[if_pos hb]at e;exact nn e
 rw[if_neg hb]at e
 have t0:=Uw (U:=U) (K.get 4 _ rfl) hM (zA (K.get 23 _ rfl)) ht
 have hl:(s.1.map da).length<=12:=by rw[An];omega
 refine(?_:∃aI,zX (den U _) az _=_/\_)
 by_cases hm:M.getD t 0=40
 ·rw[if_pos hm]at e
  obtain rfl:=Aa e
  rw[hm]at t0
  have e1:den U (.aug .Add 22 (.lit (.int 1))) ⟨σ,β⟩=some (⟨σ.set 22 (some (.int (((s.2+1:Nat):Int)-1))),β⟩, .next):=by
   refine(?_:((σ[22]?).bind id).bind _=_)
   rw[K.get 22 _ rfl]
   refine(?_:some ((⟨σ.set 22 (some (.int ((s.2:Int)-1+1))),β⟩:Sg),Fl.next)=_)
   rw[show(s.2:Int)-1+1=((s.2+1:Nat):Int)-1 by omega]
  have K1:=K.set (i:=22) (by decide) (.int (((s.2+1:Nat):Int)-1))
  generalize σ.set 22 (some (.int (((s.2+1:Nat):Int)-1)))=bQ at e1 K1
  have e2:=zh (U:=U) (β:=β) (e:= .list (.cons (.lit (.int 0)) (.cons (.lit (.int 0)) .nil))) (p:=da (0,0)) (K1.get 21 _ rfl) rfl rfl (Ad hl (by decide))
  have K2:=K1.set (i:=21) (by decide) (.list (s.1.map da++[da (0,0)]))
  exact⟨_,pj (gx t0 ((zG e1).trans (pj e2))),K2.sub (fa rfl (fa rfl (fa rfl (fa rfl (fa rfl (fa (congrArg (some∘PV.list) (by rw[D2];rfl)) (fa rfl dE)))))))⟩
 ·rw[if_neg hm]at e
  rw[show(M.getD t 0==40)=false by simpa using hm]at t0
  cases hr:s.1.reverse with
  |nil=>rw[hr]at e;exact nn e
  |cons l0 q=>
   cases q with
   |nil=>rw[hr]at e;exact nn e
   |cons ar rest=>
    rw[hr]at e
    dsimp only at e
    by_cases hz:t=0\/s.2=0
    ·rw[if_pos hz]at e;exact nn e
    rw[if_neg hz]at e
    obtain rfl:=Aa e
    have hs:s.1=rest.reverse++[ar]++[l0]:=by
     have:=congrArg List.reverse hr
     rw[List.reverse_reverse]at this
     rw[this];simp
    have dg:s.1.map da=(rest.reverse.map da++[da ar])++[da l0]:=by rw[hs];simp
    have hlr:rest.length+2<=12:=((Dg).symm.trans (congrArg B2 hr):s.1.length=rest.length+2)▸Cg fun q=>hb (.inl q)
    have NW:At σ 21 (.list ((rest.reverse.map da++[da ar])++[da l0])):=dg▸K.get 21 _ rfl
    have e1:=Ut (U:=U) (β:=β) (i:=24) NW (by rw[Ah,An,Dg];exact Ad (show _<=12 by simp;omega) (by decide))
    have K1:=(K.set (i:=21) (by decide) (.list (rest.reverse.map da++[da ar]))).set (i:=24) (by decide) (da l0)
    generalize(σ.set 21 (some (.list (rest.reverse.map da++[da ar])))).set 24 (some (da l0))=bQ at e1 K1
    have t1:=Uw (U:=U) (K1.get 4 _ rfl) hM (zXx (K1.get 23 _ rfl) (by omega)) (t:=t-1) (by omega)
    obtain⟨bN,e2,K2⟩:∃bN,den U (.ifs (.cmp .Eq (.idx (.var 4) (.bin .Sub (.var 23) (.lit (.int 1)))) (.lit (.str [40]))) (.cons (.assign 25 (.bin .Mod (.bin .FloorDiv (.idx (.var 2) (.var 22)) (.var 20)) (.lit (.int 2)))) (.cons (.assign 24 (.list (.cons (.var 25) (.cons (.bin .Sub (.lit (.int 1)) (.var 25)) .nil)))) .nil)) .nil) ⟨bQ,β⟩=some (⟨bN,β⟩, .next)/\Kn 27 bN ((24,da (if M.getD (t-1) 0=40 then lf ((eY xs h).getD (s.2-1) 0)else l0))::(21, .list (rest.reverse.map da++[da ar]))::(18,E.1)::(19,E.2)::(2, .list (xs.map pn))::(4, .str M)::(20,pn h)::[(22, .int ((s.2:Int)-1))]):=by
     by_cases hp:M.getD (t-1) 0=40
     ·rw[hp]at t1
      rw[if_pos hp]
      have Nf:At bQ 22 (pn (s.2-1)):=by have:=K1.get 22 _ rfl;rw[show((s.2:Int)-1)=((s.2-1:Nat):Int)by omega]at this;exact this
      have aX:s.2-1<xs.length:=by omega
      have su:(eY xs h).getD (s.2-1) 0=xs.getD (s.2-1) 0/h%2:=by
       unfold eY
       rw[A4,mT (fun x=>x/h%2) 0 aX];rfl
      have a1:den U (.assign 25 (.bin .Mod (.bin .FloorDiv (.idx (.var 2) (.var 22)) (.var 20)) (.lit (.int 2)))) ⟨bQ,β⟩=some (⟨bQ.set 25 (some (pn ((eY xs h).getD (s.2-1) 0))),β⟩, .next):=by
       rw[su]
       exact zD (ju (n:=2) (pw (wC (zA (K1.get 2 _ rfl)) (zA Nf) (mT pn 0 aX) (by rw[An,hx];decide)) (zA (K1.get 20 _ rfl)) hh) rfl (by decide)) zP
      have K2:=K1.set (i:=25) (by decide) (pn ((eY xs h).getD (s.2-1) 0))
      have hle:(eY xs h).getD (s.2-1) 0<=1:=by rw[su];exact Jc (Bl _ (by decide))
      generalize(eY xs h).getD (s.2-1) 0=bb at a1 K2 hle⊢
      generalize bQ.set 25 (some (pn bb))=bN at a1 K2
      have a2:den U (.assign 24 (.list (.cons (.var 25) (.cons (.bin .Sub (.lit (.int 1)) (.var 25)) .nil)))) ⟨bN,β⟩=some (⟨bN.set 24 (some (da (lf bb))),β⟩, .next):=by
       refine zD (e:= .list _) ?_ rfl
       refine(?_:(((ev U (.var 25) bN).bind fun x=>((ev U (.bin .Sub (.lit (.int 1)) (.var 25)) bN).bind fun y=>(some []).map (y:: ·)).map (x:: ·))).bind _=_)
       rw[zA (K2.get 25 _ rfl),zr (m:=1) rfl (zA (K2.get 25 _ rfl)) hle];rfl
      exact⟨_,gx t1 ((zG a1).trans (pj a2)),(K2.set (i:=24) (by decide) (da (lf bb))).sub (fa rfl (fa rfl (fa rfl (fa rfl (fa rfl (fa rfl (fa rfl (fa rfl dE))))))))⟩
     ·rw[if_neg hp]
      rw[show(M.getD (t-1) 0==40)=false by simpa using hp]at t1
      exact⟨_,fF t1 rfl,K1.sub (fa rfl (fa rfl (fa rfl (fa rfl (fa rfl (fa rfl (fa rfl (fa rfl dE))))))))⟩
    generalize(if M.getD (t-1) 0=40 then lf ((eY xs h).getD (s.2-1) 0)else l0)=l at K2⊢
    have z7:(rest.reverse.map da).length+1<=12:=by rw[An,Dg];omega
    have e3:=Ut (U:=U) (β:=β) (i:=26) (K2.get 21 _ rfl) (Ad z7 (by decide))
    have K3:=(K2.set (i:=21) (by decide) (.list (rest.reverse.map da))).set (i:=26) (by decide) (da ar)
    generalize(bN.set 21 (some (.list (rest.reverse.map da)))).set 26 (some (da ar))=cD at e3 K3
    have e4:=zh (U:=U) (β:=β) (K3.get 21 _ rfl) (yB4 K3.len (K3.get 24 _ rfl) (K3.get 26 _ rfl)) rfl (Ad (Cv z7) (by decide))
    have K4:=K3.set (i:=21) (by decide) (.list (rest.reverse.map da++[da (iO ar (up l))]))
    exact⟨_,pj (fF t0 ((zG e1).trans<|(zG e2).trans<|(zG e3).trans (pj e4))),K4.sub (fa rfl (fa rfl (fa rfl (fa rfl (fa rfl (fa (congrArg (some∘PV.list) (by rw[D2];rfl)) (fa rfl dE)))))))⟩
theorem Ux{M X:List Nat}:∀{n:Nat} {s:DS},nM M X n=some s->∀k,k<=n->∃s',nM M X k=some s'
 |0,s,h,k,hk=>⟨s,by rw[Nat.le_zero.mp hk];exact h⟩
 |n+1,s,h,k,hk=>by
  obtain⟨s1,e1,e2⟩:=wO h
  by_cases hn:k=n+1
  ·exact⟨s,hn▸h⟩
  ·exact Ux e1 k (by omega)
theorem zRd(hx:xs.length=5)(hM:M.length=10)(hh:0<h/\h<1073741824){s:DS}(hm:nM M (eY xs h) 10=some s)(K:Kn 27 σ (dK xs M h E ([(0,0)],0))):∃aI,den U za ⟨σ,β⟩=some (⟨aI,β⟩, .next)/\Kn 27 aI (dK xs M h E s):=by
 obtain⟨g,e,aI,s',rfl,h',K'⟩:=TL (i:=23) (n:=10) (f:=zT U (EE za)) (g:=⟨σ,β⟩) (Inv:=fun k g=>∃σ s,g=⟨σ,β⟩/\nM M (eY xs h) k=some s/\Kn 27 σ (dK xs M h E s)) ⟨σ,_,rfl,rfl,K⟩ fun k g hk ⟨τ,s1,e,h1,K1⟩=>by
  subst e
  obtain⟨s2,h2⟩:=Ux hm (k+1) hk
  obtain⟨s1',q1,q2⟩:=wO h2
  obtain rfl:=Aa (q1.symm.trans h1)
  obtain⟨aI,e',K'⟩:=zU8 (U:=U) (β:=β) (σ:=τ.set 23 (some (pn k))) hx hM hh hk q2 (K1.set (by decide) _)
  exact⟨_,e',aI,s2,rfl,h2,K'⟩
 obtain rfl:=Aa (h'.symm.trans hm)
 exact⟨aI,(EF (n:=10) rfl (by decide)).trans e,K'⟩
end
noncomputable def z8(q:Bool×Nat):Prop:=q.2≠10/\(q.1=false->jq q.2=false/\q.2≠92)
section
variable{U:Uc}{v it:Value}
theorem yDi(b:Bool){c:Nat}(hc:z8 (b,c))(ln:Int):nl (if b then 92 else c) ln=ln:=by
 unfold nl;rw[if_neg];cases b with
 |true=>exact(by decide:(92:Nat)≠10)
 |false=>exact hc.1
theorem yCb{tok:List Nat}{b:Bool}{c:Nat}{r:List Nat}{ln:Int}(hc:z8 (b,c))(h:tok.length+1<=ag):
  ∃p,qo U 0 1 3 (gS v it tok (some (.str [if b then 92 else c])) (if b then c::r else r) ln)=some (gS v it (tok++[c]) p r ln, .next):=by
 have n0:∀ln,nl c ln=ln:=fun ln=>by unfold nl;rw[if_neg hc.1]
 refine cn (some (.str [c])) ?_
 unfold qo
 cases b with
 |false=>
  simp only[D6,if_false]
  rw[zM (g₁:=gS v it tok (some (.str [c])) r ln)]
  ·exact Sb h
  ·unfold kF
   rw[uq,(hc.2 rfl).1]
   exact zM (R8 (hc.2 rfl).2)
 |true=>
  simp only[if_true]
  rw[zM (g₁:=gS v it tok (some (.str [c])) r ln)]
  ·exact Sb h
  ·unfold kF
   rw[uq,show jq 92=false from rfl]
   refine(zM (R9)).trans ?_
   rw[n0];rfl
theorem Uy{w:Nat}(hw:jq w=true){rest:List Nat}:∀(l:List (Bool×Nat)) (tok:List Nat) (p:Option PV) (ln:Int) (n:Nat),(∀q∈l,z8 q)->tok.length+l.length<=ag->l.length<n->
  ∃p',gK false v 3 (qo U 0 1 3) n (gS v it tok p (enc l++w::rest) ln)=some (gS v it (tok++l.map (·.2)) p' rest (nl w ln), .ret (.str (tok++l.map (·.2))))
 |[],tok,p,ln,n+1,_,_,_=>by
  refine cn (some (.str [w])) ?_
  refine(?_:gK false v 3 (qo U 0 1 3) (n+1) (gS v it tok p (w::rest) ln)=_)
  rw[CZ]
  have:qo U 0 1 3 (gS v it tok (some (.str [w])) rest (nl w ln))=some (gS v it tok (some (.str [w])) rest (nl w ln), .ret (.str tok)):=by
   refine yW ?_
   unfold kF
   rw[uq,hw];rfl
  rw[this]
  simp
 |(b,c)::l,tok,p,ln,n+1,hg,hs,hn=>by
  have hc:=hg (b,c) (Ai ..)
  rw[Sd,CZ,yDi b hc]
  simp only[Cf]at hs hn
  refine aJ (yCb (U:=U) (v:=v) (it:=it) (tok:=tok) (b:=b) (c:=c) (r:=enc l++w::rest) (ln:=ln) hc (by exact xO)) fun mD fD=>?_
  rw[fD]
  obtain⟨s9,eP⟩:=Uy hw l (tok++[c]) mD ln n (fun q hq=>hg q (Aj _ hq)) (by simp;exact zY) (by exact Ha ‹_›)
  refine cn s9 ?_
  refine(?_:gK false v 3 (qo U 0 1 3) n _=_)
  rw[eP];simp
theorem yB9{b:Bool}{c w:Nat}{l:List (Bool×Nat)}{rest:List Nat}{ln:Int}(hc:MG c)(hw:jq w=true)(hg:∀q∈l,z8 q)(hs:l.length+1<=ag):
  ∃p',qp U 0 1 2 3 v it (gS v it [] (some (.str [if b then 92 else c])) (if b then c::(enc l++w::rest)else enc l++w::rest) ln)=some (gS v it (c::l.map (·.2)) p' rest (nl w ln), .ret (.str (c::l.map (·.2)))):=by
 have n0:∀ln,nl c ln=ln:=fun ln=>by unfold nl;rw[if_neg];rintro rfl;exact absurd hc.1 (by decide)
 obtain⟨p',e⟩:=Uy (U:=U) (v:=v) (it:=it) hw (rest:=rest) l [c] (some (.str [c])) ln ((enc l++w::rest).length+1) hg (by simp;exact xB) (by
  have:∀l:List (Bool×Nat),l.length<=(enc l).length:=by
   intro l
   induction l with
   |nil=>exact Br _
   |cons q l ih=>
    obtain⟨b,c⟩:=q
    refine(?_:l.length+1<=((if b then [92,c]else [c])++enc l).length)
    cases b<;>simp<;>lia
  have:=this l
  simp;lia)
 refine cn p' ?_
 have tail:∀g,g=gS v it [] (some (.str [c])) (enc l++w::rest) ln->zX (oe U .Add 1 (.var 3)) (zX (nF false v 2 it 3 (qo U 0 1 3)) az) g=some (gS v it (c::l.map (·.2)) p' rest (nl w ln), .ret (.str (c::l.map (·.2)))):=by
  rintro g rfl
  have e1:oe U .Add 1 (.var 3) (gS v it [] (some (.str [c])) (enc l++w::rest) ln)=some (gS v it [c] (some (.str [c])) (enc l++w::rest) ln, .next):=by
   exact Sa (a:=[]) (b:=[c]) rfl rfl (by simp[ag])
  rw[zM e1]
  refine yW ?_
  rw[MH,e];simp
 unfold qp
 cases b with
 |false=>
  simp only[D6,if_false]
  have e1:kF (t9 0 3) (zX (fun g=>some (g, .cont)) az) az (gS v it [] (some (.str [c])) (enc l++w::rest) ln)=some (gS v it [] (some (.str [c])) (enc l++w::rest) ln, .next):=(kG (t:=false) (uq.trans (by rw[hc.1]))).trans rfl
  rw[zM e1]
  refine yW ?_
  refine(kG (t:=false) (DA.trans (by simpa using hc.2.1))).trans ?_
  refine(zM (R8 hc.2.2)).trans (tail _ rfl)
 |true=>
  simp only[if_true]
  have e1:kF (t9 0 3) (zX (fun g=>some (g, .cont)) az) az (gS v it [] (some (.str [92])) (c::(enc l++w::rest)) ln)=some (gS v it [] (some (.str [92])) (c::(enc l++w::rest)) ln, .next):=(kG (t:=false) (uq.trans rfl)).trans rfl
  rw[zM e1]
  refine yW ?_
  refine(kG (t:=false) DA).trans ?_
  refine(zM R9).trans ?_
  rw[n0]
  exact tail _ rfl
theorem zX2{pre:List Nat}{b:Bool}{c w:Nat}{l:List (Bool×Nat)}{rest:List Nat}{ln:Int}(hp:pre.all jq=true)(hc:MG c)(hw:jq w=true)(hg:∀q∈l,z8 q)(hs:l.length+1<=ag):
  jH U ⟨pre++(enc ((b,c)::l)++w::rest),ln,[]⟩ ⟨rest,nl w (jK pre ln),[]⟩ (c::l.map (·.2)):=fun v=>by
 refine .inr ⟨rfl,fun it=>?_⟩
 refine aJ (MI (U:=U) (v:=v) (it:=it) (rest:=enc ((b,c)::l)++w::rest) (n:=(enc ((b,c)::l)++w::rest).length+1) pre none ln hp) fun mD fD=>?_
 refine aJ (yB9 (U:=U) (v:=v) (it:=it) (b:=b) (rest:=rest) (ln:=jK pre ln) hc hw hg hs) fun s9 eP=>?_
 refine cn ([some (.obj v),some (.str (c::l.map (·.2))),some (.obj it),s9]) (zX6 ?_)
 rw[Ah,C3,fD]
 rw[Sd,CZ,zVp b hc]
 rw[eP];rfl
end
noncomputable def tb(w h:List Nat):List (Bool×Nat):=w.map fun c=>(h.contains c,c)
theorem zRf(w h:List Nat):enc (tb w h)=lM w h:=by
 induction w with
 |nil=>rfl
 |cons c w ih=>
  refine(?_:(if h.contains c then [92,c]else [c])++enc (tb w h)=_)
  rw[ih];rfl
theorem zS5:∀d<3,∀t<6,∀i<4,∀j<2,(((jP d (jO.getD t [])).getD i []).all fun c=>c !=10&&((qG.getD j []).contains c||(!jq c&&c !=92)))=true:=by decide+kernel
theorem Uz{U:Uc}{tot:Nat}{xs:List Nat}:∀(L pre:List Nat) (ln:Int),pre.all jq=true->∃dS pE,qK (kK U) (eS tot) ⟨pre++iM tot xs L,ln,[]⟩ (L.map fun k=>xs.getD k 0%4) ⟨dS,pE,[]⟩/\dS.all jq=true/\jK dS pE=jK pre ln+L.length
 |[],pre,ln,hp=>⟨pre,ln,by rw[show iM tot xs []=[]from rfl,Bv];exact .nil _,hp,by simp⟩
 |k::L,pre,ln,hp=>by
  have hi:xs.getD k 0%4<4:=Bl _ (by decide)
  have hj:xs.getD k 0/4%2<2:=Bl _ (by decide)
  have hg:=zS5 _ (qH tot) _ (pB tot) _ hi _ hj
  have hw:=uL tot _ hi
  have e1:iM tot xs (k::L)=enc ((false,46)::tb ((eS tot).getD (xs.getD k 0%4) []) (qG.getD (xs.getD k 0/4%2) []))++13::(10::iM tot xs L):=by
   refine(?_:(46::fH tot xs k++[13,10])++iM tot xs L=46::enc _++_)
   rw[zRf]
   unfold fH
   simp
  have op:=zX2 (U:=U) (pre:=pre) (b:=false) (c:=46) (w:=13) (l:=tb ((eS tot).getD (xs.getD k 0%4) []) (qG.getD (xs.getD k 0/4%2) [])) (rest:=10::iM tot xs L) (ln:=ln) hp ⟨rfl,by decide,by decide⟩ rfl (fun q hq=>by
   obtain⟨c,hc,rfl⟩:=Fy.mp hq
   obtain⟨h1,h2⟩:=A9.mp (Ao.mp hg c hc)
   refine⟨bne_iff_ne.mp h1,fun hf=>?_⟩
   have hf:(qG.getD (xs.getD k 0/4%2) []).contains c=false:=hf
   rw[hf,Bool.false_or]at h2
   obtain⟨h3,h4⟩:=A9.mp h2
   exact⟨by simpa using h3,bne_iff_ne.mp h4⟩) (by unfold tb;rw[An];exact Ad (Dr hw) (by decide))
  obtain⟨dS,pE,h1,h2,h3⟩:=Uz (U:=U) (tot:=tot) (xs:=xs) L [10] (nl 13 (jK pre ln)) rfl
  refine⟨dS,pE,?_,h2,?_⟩
  ·rw[Ds]
   refine .cons (b1:=⟨[10]++iM tot xs L,nl 13 (jK pre ln),[]⟩) ?_ hi h1
   rw[e1,Se op]
   have:(tb ((eS tot).getD (xs.getD k 0%4) []) (qG.getD (xs.getD k 0/4%2) [])).map (·.2)=(eS tot).getD (xs.getD k 0%4) []:=by unfold tb;rw[A8];exact List.map_id _
   rw[this];rfl
  ·rw[h3];simp only[jK,nl,Cf];simp;omega
theorem zXd:((lL 5).all fun ms=>zV (cP ms)&&[1,3,5,7,9].all fun t=>!zV ([40,41]++((cP ms).drop t++(cP ms).take t)++[40,41]))=true:=by decide+kernel
theorem yAq:((Fo.gen 5 5).all fun f=>(lL 5).all fun ms=>!(f.mk==cP ms)||ln f==(yM ms).length)=true:=by decide+kernel
theorem UA:∀(n:Nat) (B:List Nat),B.length=n->(∀b∈B,b<2)->B∈NU n
 |0,B,h,_=>by rw[Eb h];exact .head _
 |n+1,[],h,_=>nomatch h
 |n+1,b::B,h,hb=>by
  refine Fj.mpr ⟨B,UA n B (Im h) (fun x hx=>hb x (.tail _ hx)),?_⟩
  have:=hb b (.head _)
  have:b=0\/b=1:=by omega
  rcases this with rfl|rfl
  ·exact .head _
  ·exact .tail _ (.head _)
theorem UB{f:Fo}{ms:List Nat}(hf:f.sz=5)(hm:ms∈lL 5)(e:f.mk=cP ms){xs:List Nat}(hx:xs.length=5)(h:Nat):nM (cP ms) (eY xs h) 10=some ([(rh f ((yM ms).map fun k=>(eY xs h).getD k 0) (0,0)).1],5):=by
 have g:=Fo.dW 5 f (Cr hf)
 rw[hf]at g
 have k:=Ao.mp (Ao.mp zSw f g) ms hm
 rw[show(f.mk==cP ms)=true by rw[e];exact beq_self_eq_true _]at k
 exact eq_of_beq (Ao.mp k (eY xs h) (UA 5 _ (by unfold eY;rw[An,hx]) fun b hb=>by
  obtain⟨x,_,rfl⟩:=Fy.mp hb
  exact Bl _ (by decide)))
theorem yCe{f:Fo}{ms:List Nat}(hf:f.sz=5)(hm:ms∈lL 5)(e:f.mk=cP ms):ln f=(yM ms).length:=by
 have g:=Fo.dW 5 f (Cr hf)
 rw[hf]at g
 have k:=Ao.mp (Ao.mp yAq f g) ms hm
 rw[show(f.mk==cP ms)=true by rw[e];exact beq_self_eq_true _]at k
 exact eq_of_beq k
theorem zX7{f:Fo}(hf:f.sz=5){W:List Nat}(hW:∀m∈W,m<4)(hl:ln f<=W.length):(gb f W).1=eL 10 (rh f (W.map (· /2)) (0,0)).1 (rh f (W.map (· %2)) (0,0)).1:=by
 have hz:f.sz≠0:=by omega
 unfold gb ln at*
 rw[if_neg hz]at hl⊢
 have:=(EZ f W 0 (0,0) (0,0) hW hl).1
 rw[hf]at this
 exact this
section
variable{U:Uc}{σ:List (Option PV)}{β:Option (Value×aj)}{xs M:List Nat}{h:Nat}
theorem zZs{due:List Nat}{g:Nat×Nat}(bp:σ.length=27)(Nc:At σ 19 (.list (due.map pn)))(hd:due.length=4)(Nd:At σ 20 (pn h))(hh:0<h/\h<1073741824)(NW:At σ 21 (.list [da g])):
  den U M7 ⟨σ,β⟩=some (⟨σ.set 19 (some (.list (((Au 4).map fun w=>due.getD w 0+(if w/h%2=0 then g.1 else g.2)).map pn))),β⟩, .next):=by
 refine zD (e:= .comp _ _ _) ?_ (show fresh (.comp _ _ _) (.list (((Au 4).map fun w=>due.getD w 0+(if w/h%2=0 then g.1 else g.2)).map pn))=true from wQ fun x _=>zP)
 refine(kP (U:=U) (src:= .ei (.lit (.int 4))) (l:=Au 4) (it:=fun w=> [pn w]) (g:=fun w=>pn (due.getD w 0+(if w/h%2=0 then g.1 else g.2))) (qD (n:=4) rfl (by decide)) (by decide) fun w hw=>⟨?_,zP⟩).trans (by rw[A8];rfl)
 have hw:=B5.mp hw
 have v:ev U (.var 27) (σ++[some (pn w)])=some (pn w):=zA (wZ bp)
 exact wI (wC (zA Nc.app) v (mT pn 0 (hd▸hw)) (by rw[An,hd];decide)) (wC (l:=[pn g.1,pn g.2]) (wC (l:=[da g]) (n:=0) (zA NW.app) rfl rfl (show 1<=ag by decide)) (ju (n:=2) (pw v (zA Nd.app) hh) rfl (by decide)) (NV g _ (Bl _ (by decide))) (show 2<=ag by decide))
noncomputable def hK(xs M due:List Nat)(told:PV):List (Nat×PV):=[(2, .list (xs.map pn)),(4, .str M),(18,told),(19, .list (due.map pn))]
noncomputable def FA(U:Uc):Den:=zX (yY 21 (DB U M8)) (zX (den U M6) (zX (den U za) (zX (den U M7) az)))
theorem UC(hx:xs.length=5)(hM:M.length=10)(hh:0<h/\h<1073741824){g:Nat×Nat}(hm:nM M (eY xs h) 10=some ([g],5)){due:List Nat}{told:PV}(hd:due.length=4)(K:Kn 27 σ (hK xs M due told)):
  ∃aI,FA U ⟨σ.set 20 (some (pn h)),β⟩=some (⟨aI,β⟩, .next)/\Kn 27 aI (hK xs M ((Au 4).map fun w=>due.getD w 0+(if w/h%2=0 then g.1 else g.2)) told):=by
 have K0:=K.set (i:=20) (by decide) (pn h)
 generalize σ.set 20 (some (pn h))=EU at K0
 have e1:yY 21 (DB U M8) ⟨EU,β⟩=some (⟨EU.set 21 (some (.list ([(0,0)].map da))),β⟩, .next):=rfl
 have K1:=K0.set (i:=21) (by decide) (.list ([(0,0)].map da))
 generalize EU.set 21 (some (.list ([(0,0)].map da)))=bQ at e1 K1
 have e2:den U M6 ⟨bQ,β⟩=some (⟨bQ.set 22 (some (.int (((0:Nat):Int)-1))),β⟩, .next):=zD (e:= .neg (.lit (.int 1))) rfl rfl
 have K2:=K1.set (i:=22) (by decide) (.int (((0:Nat):Int)-1))
 generalize bQ.set 22 (some (.int (((0:Nat):Int)-1)))=bN at e2 K2
 obtain⟨cD,e3,K3⟩:=zRd (U:=U) (β:=β) (E:=(told, .list (due.map pn))) hx hM hh hm (K2.sub (fa rfl (fa rfl (fa rfl (fa rfl (fa rfl (fa rfl (fa rfl dE))))))))
 have e4:=zZs (U:=U) (β:=β) K3.len (K3.get 19 _ rfl) hd (K3.get 20 _ rfl) hh (K3.get 21 _ rfl)
 refine⟨_,(zM e1).trans<|(zM e2).trans<|(zM e3).trans<|(zM e4).trans rfl,(K3.set (i:=19) (by decide) _).sub (fa rfl (fa rfl (fa rfl (fa rfl dE))))⟩
theorem zU3(a b:Nat×Nat):((Au 4).map fun w=>((Au 4).map fun w=> [10,10,10,10].getD w 0+(if w/2%2=0 then a.1 else a.2)).getD w 0+(if w/1%2=0 then b.1 else b.2))=eL 10 a b:=rfl
theorem zWk(hx:xs.length=5)(hM:M.length=10){a b:Nat×Nat}(ha:nM M (eY xs 2) 10=some ([a],5))(hb:nM M (eY xs 1) 10=some ([b],5)){told:PV}(K:Kn 27 σ (hK xs M [10,10,10,10] told)):
  ∃aI,SO U ⟨σ,β⟩=some (⟨aI,β⟩, .next)/\Kn 27 aI (hK xs M (eL 10 a b) told):=by
 obtain⟨bQ,e1,K1⟩:=UC (U:=U) (β:=β) hx hM (h:=2) (by decide) ha (due:=[10,10,10,10]) rfl K
 obtain⟨bN,e2,K2⟩:=UC (U:=U) (β:=β) hx hM (h:=1) (by decide) hb (by rw[An];rfl) K1
 rw[zU3]at K2
 refine⟨bN,?_,K2⟩
 refine(?_:wD [20] (FA U) [[pn 2],[pn 1]] ⟨σ,β⟩=_)
 refine(?_:(FA U ⟨σ.set 20 (some (pn 2)),β⟩).bind _=_)
 rw[e1]
 refine(?_:(FA U ⟨bQ.set 20 (some (pn 1)),β⟩).bind _=_)
 rw[e2];rfl
end
theorem zLz(l:List Nat):(Au l.length).map (fun k=>l.getD k 0)=l:=by
 refine List.ext_getElem (by rw[An,F5]) fun k h1 h2=>?_
 rw[List.getElem_map,List.getElem_range,A4,Aw h2];rfl
theorem zXb{M:List Nat}(hM:M.length=10)(th:List Nat)(q t:Nat):cq (nK M th q t)=M:=by
 unfold cq nK
 rw[A8,<-hM]
 exact zLz M
theorem zYa(M:List Nat)(tot q t:Nat)(ht:t<10):gT (nK M (gQ tot) q t)<=mY (gQ tot):=by
 unfold gT nK
 rw[List.countP_map]
 have h:=zWt (tot%9) (Bl _ (by decide)) (q%10) (Bl _ (by decide)) t ht
 have e:∀k,mW (gQ tot) (q%10) t k=mW (gQ tot) q t k:=fun k=>by unfold mW;rw[Nat.mod_mod,Nat.mod_add_mod]
 refine Ad (Cr ?_) h
 refine List.countP_congr fun k _=>?_
 rw[show things.getD (tot%9) []=gQ tot from rfl,e k];rfl
theorem NX(tot:Nat):gQ tot∈things:=by
 have:∀k<9,things.getD k []∈things:=by decide
 exact this _ (Bl _ (by decide))
theorem UD(tot:Nat):fZ tot<10:=by
 have:=Bl tot (show 0<5 by decide)
 unfold fZ;omega
theorem zWs(tot:Nat):fZ tot∈[1,3,5,7,9]:=by
 have:∀k<5,1+k*2∈[1,3,5,7,9]:=by decide
 exact this _ (Bl _ (by decide))
theorem yBl{ms:List Nat}(h:ms∈lL 5):zV (cP ms)=true/\∀t∈[1,3,5,7,9],zV ([40,41]++((cP ms).drop t++(cP ms).take t)++[40,41])=false:=by
 obtain⟨h1,h2⟩:=A9.mp (Ao.mp zXd ms h)
 exact⟨h1,fun t ht=>by simpa using Ao.mp h2 t ht⟩
theorem UE:∀l:List Nat,tG (l.map pn) (l.map pn)=some true
 |[]=>rfl
 |x::l=>by
  refine(?_:((some ((x:Int)==(x:Int))).bind fun a=>(tG (l.map pn) (l.map pn)).map fun b=>a&&b)=_)
  rw[UE l,beq_self_eq_true];rfl
theorem zZw(l:List Nat):vEq (.list (l.map pn)) (.list (l.map pn))=some true:=by
 refine(?_:(if((l.map pn).length==(l.map pn).length)=true then tG (l.map pn) (l.map pn)else some false)=_)
 rw[if_pos (beq_self_eq_true _),UE]
section
variable{U U₃:Uc}{σ:List (Option PV)}{β:Option (Value×aj)}{xs:List Nat}{u:Value}
theorem zXy{a b:PE}{l m:List PV}(ha:ev U a σ=some (.list l))(hb:ev U b σ=some (.list m))(hs:l.length+m.length<=ag):ev U (.bin .Add a b) σ=some (.list (l++m)):=by
 refine(?_:(ev U a σ).bind _=_)
 refine zK ha ?_
 refine zK hb ?_
 exact if_pos hs
theorem zV7(gy:∀s:List Nat,s.length<=900->U 3 [.str s]=some (.bool (zV s))){th:List Nat}(bX:th∈things)(ht:th.length<=5){d:DL}(hp:par (cq d))(hc:gT d<=mY th)(hl:d.length=10)(gv:At σ 10 (.list ((dT th d).map .str)))(NY:zV (cq d)=true):den U M1 ⟨σ,β⟩=some (⟨σ,β⟩, .next):=by
 have jl:=NR ht (d:=d) (by omega)
 have e:ev U (.uc 3 (.cons (.me 0 (.lit (.str [])) (.cons (.var 10) .nil)) .nil)) σ=some (.bool true):=by
  refine(zu (sJ (zA gv) (Ad jl (by decide))) (gy _ (by rw[Gn];exact Ad jl (by decide)))).trans ?_
  rw[NQ bX hp hc,NY]
 refine(?_:den U (.ifs (.cmp .IsNot _ (.lit (.bool true))) _ .nil) _=_)
 exact fF (TJ (x:=true) (y:=true) e rfl) rfl
theorem zYm(gy:∀s:List Nat,s.length<=900->U 3 [.str s]=some (.bool (zV s))){th:List Nat}(bX:th∈things)(ht:th.length<=5){d:DL}{t:Nat}(hp:par (cq d))(hc:gT d<=mY th)(hl:d.length=10)(gv:At σ 10 (.list ((dT th d).map .str)))(h9:At σ 9 (pn t))(mC:t<=10)(NY:zV ([40,41]++((cq d).drop t++(cq d).take t)++[40,41])=false):den U M3 ⟨σ,β⟩=some (⟨σ,β⟩, .next):=by
 have g6:((dT th d).map PV.str).length=10:=by unfold dT;rw[An,An,hl]
 have hsz:((dT th d).map PV.str).length<=ag:=g6▸(by decide)
 have rot:ev U (.bin .Add (.bD (.var 10) (.yes (.var 9)) .no .no) (.bD (.var 10) .no (.yes (.var 9)) .no)) σ=some (.list ((dT th (d.drop t++d.take t)).map .str)):=by
  refine(zXy (Ud (zA gv) (zA h9) hsz (g6▸mC)) (Ub (zA gv) (zA h9) hsz (g6▸mC)) ?_).trans ?_
  ·rw[Bu,Cs,g6];exact Ad (m:=20) (by omega) (by decide)
  ·unfold dT;rw[D2,D2,En,Ea,En,Ea]
 have jl:=NR ht (d:=d.drop t++d.take t) (by rw[Ah,Bu,Cs,hl];omega)
 have jn:=sJ rot (Ad jl (by decide))
 have fl:(dT th (d.drop t++d.take t)).flatten.length<=84:=by rw[Gn];exact jl
 have cat:=pA (pA (a:= .lit (.str [40,41])) (m:=[40,41]) rfl jn (Ad (Dc fl 2) (by decide))) (b:= .lit (.str [40,41])) (n:=[40,41]) rfl (by rw[Ah];exact Ad (Bw (Dc fl 2) 2) (by decide))
 have q:∀D:DL,[40,41]++(dT th D).flatten++[40,41]=(dT th ([(40,false),(41,false)]++D++[(40,false),(41,false)])).flatten:=fun D=>by
  rw[NP,NP,Cu,Cu];rfl
 have qm:cq ([(40,false),(41,false)]++(d.drop t++d.take t)++[(40,false),(41,false)])=[40,41]++((cq d).drop t++(cq d).take t)++[40,41]:=by
  rw[z5,z5,z5];unfold cq;rw[En,Ea];rfl
 have e:ev U (.uc 3 (.cons (.bin .Add (.bin .Add (.lit (.str [40,41])) (.me 0 (.lit (.str [])) (.cons (.bin .Add (.bD (.var 10) (.yes (.var 9)) .no .no) (.bD (.var 10) .no (.yes (.var 9)) .no)) .nil))) (.lit (.str [40,41]))) .nil)) σ=some (.bool false):=by
  refine(zu cat (gy _ (by rw[Ah,Ah];exact Ad (Bw (Dc fl 2) 2) (by decide)))).trans ?_
  rw[q,NQ bX (by
   rw[qm]
   refine par.app (par.app (fun c hc=>?_) (par.app (fun c hc=>hp c (Ia hc)) (fun c hc=>hp c (Gi hc)))) (fun c hc=>?_)
   all_goals simpa using hc) (by
   unfold gT at*
   rw[G3,G3,G3]
   have:=G3 (p:=fun z:Nat×Bool=>z.2) (l₁:=d.take t) (l₂:=d.drop t)
   rw[List.take_append_drop]at this
   simp only[List.countP_cons,List.countP_nil]
   simp
   omega),qm,NY]
 refine(?_:den U (.ifs (.cmp .IsNot _ (.lit (.bool false))) _ .nil) _=_)
 exact fF (TJ (x:=false) (y:=false) e rfl) rfl
theorem zXj{pre:List Nat}{ln:Int}{L:List Nat}(hp:pre.all jq=true)(hl:jK pre ln=1+L.length)(hL:L.length<=10)(h5:At σ 5 (.list (L.map pn)))(h17:At σ 17 (.obj u)):∃b',M9 U (kK U₃) 17 EA ⟨σ,some (u,⟨pre,ln,[]⟩)⟩=some (⟨σ,some (u,b')⟩, .next):=by
 refine⟨⟨[],jK pre ln,[]⟩,?_⟩
 refine(?_:(gX _ 17).bind _=_)
 refine zK (aO h17) ?_
 refine(?_:(kK U₃ _).bind _=_)
 rw[Se (zSi (ln:=ln) hp),As]
 have e:ev U EA σ=some (pn (1+L.length)):=by
  have:=S4 (U:=U) (zA h5) (by rw[An];exact Ad hL (by decide))
  rw[An]at this
  exact wI (m:=1) rfl this
 refine(?_:(ev U EA σ).bind _=_)
 rw[e,As]
 refine xU ?_ rfl
 refine(?_:(true&&((some ((jK pre ln:Int)==((1+L.length:Nat):Int))).map (!·)==some false))=true)
 rw[hl,show((1:Int)+(L.length:Int))=((1+L.length:Nat):Int)by omega,beq_self_eq_true];rfl
theorem zVs(gy:∀s:List Nat,s.length<=900->U 3 [.str s]=some (.bool (zV s)))(hx:xs.length=5)(K:Kn 27 σ ((17, .obj u)::bK xs)):
  ∃g',Nb U (kK U₃) (nH U (kK U₃) 6) ⟨σ,some (u,⟨iM xs.sum xs (yM (bz xs 5)),1,[]⟩)⟩=some (g', .ret (.bool true)):=by
 have ff:=uK xs 5 (Br _)
 have hlen:=sX xs 5
 have hM:(cP (bz xs 5)).length=10:=by rw[Nz,hlen,TQ _ ff]
 have aX:∀k∈yM (bz xs 5),k<5:=fun k hk=>hlen▸TU hk
 have IV:(yM (bz xs 5)).length<=5:=Ad (NA _) (Cr hlen)
 obtain⟨f,hf,ef⟩:=yC2 ff
 have FC:=zXb hM (gQ xs.sum) (xs.sum/9) (fZ xs.sum)
 have td:=zYa (cP (bz xs 5)) xs.sum (xs.sum/9) (fZ xs.sum) (UD _)
 have rR:=yCe hf ff ef
 obtain⟨dS,pE,hT,ui,pS⟩:=Uz (U:=U₃) (tot:=xs.sum) (xs:=xs) (yM (bz xs 5)) [] 1 rfl
 rw[F1]at hT
 have FD:((yM (bz xs 5)).map fun k=>xs.getD k 0%4).length=ln f:=by rw[An,rR]
 obtain⟨b',e1,UG⟩:=Ur (U:=U) (v:=u) (fget:=kK U₃) (tot:=xs.sum) (bE:=⟨dS,pE,[]⟩) gy (NX xs.sum) (ET _) 6 f (nK (cP (bz xs 5)) (gQ xs.sum) (xs.sum/9) (fZ xs.sum)) _ _ (by omega) (by omega) (FC.trans ef.symm) td hT (Cr FD.symm)
 have hr:=Um f ((yM (bz xs 5)).map fun k=>xs.getD k 0%4) (Cr FD.symm)
 have NZ:(gb f ((yM (bz xs 5)).map fun k=>xs.getD k 0%4)).2=[]:=Eb (Nat.add_eq_right.mp (hr.trans FD))
 rw[NZ]at UG
 have hb:b'=⟨dS,pE,[]⟩:=by cases UG;rfl
 subst hb
 have told:=zX7 hf (W:=(yM (bz xs 5)).map fun k=>xs.getD k 0%4) (fun m hm=>by obtain⟨k,_,rfl⟩:=Fy.mp hm;exact Bl _ (by decide)) (Cr FD.symm)
 have hB:∀h,(yM (bz xs 5)).map (fun k=>(eY xs h).getD k 0)=(yM (bz xs 5)).map fun k=>xs.getD k 0/h%2:=fun h=>Ct fun k hk=>by
  unfold eY
  rw[A4,mT (fun x=>x/h%2) 0 (hx▸aX k hk)];rfl
 have b2:(((yM (bz xs 5)).map fun k=>xs.getD k 0%4).map (· /2))=(yM (bz xs 5)).map (fun k=>(eY xs 2).getD k 0):=by
  rw[hB,A8]
  exact Ct fun k _=>by exact Nat.mod_mul_right_div_self (xs.getD k 0) 2 2
 have b1:(((yM (bz xs 5)).map fun k=>xs.getD k 0%4).map (· %2))=(yM (bz xs 5)).map (fun k=>(eY xs 1).getD k 0):=by
  rw[hB,A8]
  exact Ct fun k _=>by exact(Nat.mod_mod_of_dvd _ (by decide:2∣4)).trans (by rw[Nat.div_one])
 rw[b2,b1]at told
 have m2:=UB hf ff ef hx 2
 have m1:=UB hf ff ef hx 1
 generalize(rh f ((yM (bz xs 5)).map fun k=>(eY xs 2).getD k 0) (0,0)).1=a at told m2
 generalize(rh f ((yM (bz xs 5)).map fun k=>(eY xs 1).getD k 0) (0,0)).1=c at told m1
 rw[told]at e1
 have N0:=K.get 10 _ rfl
 rw[zY7]at N0
 have sl:∀i p,At σ i p->iU i ⟨σ,some (u,⟨iM xs.sum xs (yM (bz xs 5)),1,[]⟩)⟩=some p:=fun i p h=>by
  refine(?_:(σ[i]?).bind id=_)
  rw[h];rfl
 have UH:SN (nH U (kK U₃) 6) ⟨σ,some (u,⟨iM xs.sum xs (yM (bz xs 5)),1,[]⟩)⟩=some (⟨σ.set 18 (some (.list ((eL 10 a c).map pn))),some (u,⟨dS,pE,[]⟩)⟩, .next):=by
  refine(?_:(uy _ 17 (iU 10) (iU 16) (iU 13) _).bind _=_)
  refine zK (a:=(⟨σ,some (u,⟨dS,pE,[]⟩)⟩, .list ((eL 10 a c).map pn))) ?_ rfl
  refine(?_:(iU 10 _).bind _=_)
  refine zK (sl 10 _ N0) ?_
  refine zK (aO (K.get 17 _ rfl)) ?_
  refine zK (sl 16 _ (K.get 16 _ rfl)) ?_
  refine zK (sl 13 _ (K.get 13 _ rfl)) ?_
  refine(?_:(nH U (kK U₃) 6 u _ wY _ _).map _=_)
  rw[e1];rfl
 have K1:=K.set (i:=18) (by decide) (.list ((eL 10 a c).map pn))
 have te:At (σ.set 18 (some (.list ((eL 10 a c).map pn)))) 10 _:=N0.set (by decide)
 generalize σ.set 18 (some (.list ((eL 10 a c).map pn)))=bQ at UH K1 te
 obtain⟨nY,e17⟩:=zXj (U:=U) (U₃:=U₃) (u:=u) (L:=yM (bz xs 5)) ui (by rw[pS];rfl) (Ad IV (by decide)) (K1.get 5 _ rfl) (K1.get 17 _ rfl)
 have z9:par (cq (nK (cP (bz xs 5)) (gQ xs.sum) (xs.sum/9) (fZ xs.sum))):=by rw[FC,<-ef];exact f.par
 have UI:(nK (cP (bz xs 5)) (gQ xs.sum) (xs.sum/9) (fZ xs.sum)).length=10:=by unfold nK;rw[An,F5]
 have ck:=yBl ff
 have e18:=zV7 (U:=U) (β:=some (u,nY)) gy (NX _) (ET _) z9 td UI te (by rw[FC];exact ck.1)
 have e19:=zYm (U:=U) (β:=some (u,nY)) gy (NX _) (ET _) z9 td UI te (K1.get 9 _ rfl) (Ci (UD _)) (by rw[FC];exact ck.2 _ (zWs _))
 have UJ:den U M4 ⟨bQ,some (u,nY)⟩=some (⟨bQ.set 19 (some (.list ([10,10,10,10].map pn))),some (u,nY)⟩, .next):=zD (e:= .list _) rfl rfl
 have K2:=K1.set (i:=19) (by decide) (.list ([10,10,10,10].map pn))
 generalize bQ.set 19 (some (.list ([10,10,10,10].map pn)))=bN at UJ K2
 obtain⟨cD,e21,K3⟩:=zWk (U:=U) (β:=some (u,nY)) hx hM m2 m1 (told:= .list ((eL 10 a c).map pn)) (K2.sub (fa rfl (fa rfl (fa rfl (fa rfl dE)))))
 have e22:den U M5 ⟨cD,some (u,nY)⟩=some (⟨cD,some (u,nY)⟩, .ret (.bool true)):=by
  refine TR ?_ rfl
  refine(?_:(ev U (.var 18) cD).bind _=_)
  refine zK (zA (K3.get 18 _ rfl)) ?_
  refine zK (zA (K3.get 19 _ rfl)) ?_
  refine(?_:(vEq (.list ((eL 10 a c).map pn)) (.list ((eL 10 a c).map pn))).map PV.bool=_)
  rw[zZw];rfl
 exact⟨_,(zM UH).trans<|(zM e17).trans<|(zM e18).trans<|(zM e19).trans<|(zM UJ).trans<|(zM e21).trans (yW e22)⟩
end
theorem N1{h h':Ap}{a:Addr}{m:Str->Option Value}(hn:h.Ns a m)(k:∀o,h.get? a=some o->h'.get? a=some o):h'.Ns a m:=
 let⟨o,es,ep,e,r⟩:=hn;⟨o,es,ep,k o e,r⟩
theorem zNp{h h':Ap}(x:h.NoLimit)(k:∀o,h.get? cStatics=some o->h'.get? cStatics=some o):h'.NoLimit:=
 let⟨mc,a,b⟩:=x;⟨mc,N1 a k,b⟩
noncomputable def FE:Option Obj->Array DictEntry
 |some ⟨_,_, .dict es _,_⟩=>es
 |_=> #[]
noncomputable def UK(es:Array DictEntry):Bool:=es.toList.all fun e=>match e.key with| .str _ _=>true|_=>false
theorem zNm{es:Array DictEntry}(h:UK es=true):StrKeys es:=fun e he=>by
 have:=Ao.mp h e (Array.mem_toList_iff.mpr he)
 split at this
 ·next n t q=>exact⟨n,t,q⟩
 ·exact ft this
theorem qL{h:Ap}{a:Addr}{m:Str->Option Value}{o:Obj}(hn:h.Ns a m)(e:h.get? a=some o)(x:Str):m x=nsFind (FE (some o)) x:=by
 refine jT hn fun o' es ep e' hd _ hm=>?_
 rw[e]at e';obtain rfl:=Aa e'
 obtain⟨oc,od,CA,sl⟩:=o
 dsimp only at hd
 subst hd
 exact(hm x).symm
noncomputable def zZi:Option Obj->Bool
 |some ⟨_,_, .dict _ _,_⟩=>true
 |_=>false
theorem yCn{K:Frag}{h:Ap}{a:Addr}(X:K.In h)(hd:zZi (K.lookup a)=true)(hk:UK (FE (K.lookup a))=true):h.Ns a (nsFind (FE (K.lookup a))):=by
 cases hl:K.lookup a with
 |none=>rw[hl]at hd;exact ft hd
 |some o=>
  rw[hl]at hd hk
  obtain⟨oc,od,CA,sl⟩:=o
  cases CA with
  |dict es ep=>exact⟨_,es,ep,X _ _ hl,rfl,zNm hk,fun _=>rfl⟩
  |_=>exact ft hd
noncomputable def UL:Option Obj->Value
 |some ⟨_,_, .func fd,_⟩=>fd.pyModule
 |_=> .none
noncomputable def UM:Option Obj->Value
 |some ⟨_,_, .func fd,_⟩=>fd.doc
 |_=> .none
noncomputable def FF:Option Obj->Option Str
 |some ⟨_,_, .fields vs,_⟩=>match(vs[1]?:Option Value)with
  |some (.str q _)=>some q
  |_=>none
 |_=>none
theorem UN{K:Frag}{h:Ap}{c:Addr}{q:Str}(X:K.In h)(hc:FF (K.lookup c)=some q):h.CodeRec (.ref c) q:=by
 cases hl:K.lookup c with
 |none=>rw[hl]at hc;exact nn hc
 |some o=>
  rw[hl]at hc
  unfold FF at hc
  split at hc
  ·next vs _ q1=>
   obtain rfl:=Aa q1
   split at hc
   ·next q2 t e=>obtain rfl:=Aa hc;exact⟨c,_,vs,t,rfl,X _ _ hl,rfl,e⟩
   ·exact nn hc
  ·exact nn hc
theorem nN{K:Frag}{h:Ap}(X:K.In h){p:Program}{a c:Addr}{i:Nat}(hs:(K.lookup a).map (·.data)=some (.func (docDef (vR p i) (vQ p i) (yO p i) (lz p i) (UL (K.lookup a)) (.ref c) (UM (K.lookup a)))))
  (hc:FF (K.lookup c)=some (vR p i)):eR p h a i:=by
 refine aB (Bn.mp hs) fun o e1 e2=>?_
 exact⟨o,_,_,_,X _ _ e1,e2,UN X hc⟩
noncomputable def yCw:Option Obj->Value
 |some o=>o.cls
 |_=> .none
theorem N2{K:Frag}{h:Ap}(X:K.In h){p:Program}{a c:Addr}{i j:Nat}{qual:Str}(hs:(K.lookup a).map (·.data)=some (.func (H9 (yk p i j) qual (yj p i j) (Sk p i j) (qA p i j) (UL (K.lookup a)) (.ref c) (UM (K.lookup a)) .none)))
  (hf:yCw (K.lookup a)= .type "function") (hc:FF (K.lookup c)=some qual):DD p h a i j qual:=by
 refine aB (Bn.mp hs) fun o e1 e2=>?_
 rw[e1]at hf
 exact⟨o,_,_,_,X _ _ e1,hf,e2,UN X hc⟩
theorem zSh{K:Frag}{h h':Ap}{P:Addr}(X:K.In h)(hP:K.lookup P=none)(k:∀a o,a∉ [P]->h.get? a=some o->h'.get? a=some o):K.In h':=fun a o e=>k a o (fun q=>by rw[Ae.mp q,hP]at e;exact nn e) (X a o e)
end Internal
section
open PySem PySem.W PyProof.Rows
set_option maxHeartbeats 8000000
theorem Internal.okB:OpenLaw.wellSaid PySem.Challenge.rw_uc0011_02=true:=by decide+kernel
local macro_rules | `(tactic|o_law)=> `(tactic|refine holds_law Internal.okB fun said=>?_)
open_top Internal.hdW for PySem.Challenge.rw_uc0011_02
end
namespace Internal
open PySem PySem.W PySem.Calls PyProof.Rows
theorem hfB{mg mb:Str->Option Value}{w:Cn}{h:Ap}(X:(hdW.heap_1 w.params).In h)(hg:h.Ns mainGlobals mg)(hb:h.Ns builtinsNs mb)(hl:h.NoLimit)(hbm:h.BuiltinsAt mg 134):fX mg mb h where
 g:=hg
 b:=hb
 lim:=hl
 yl:=nN (c:=124) X (by kernel_rfl) (by kernel_rfl)
 ym:=nN (c:=131) X (by kernel_rfl) (by kernel_rfl)
 uu:=nN (c:=44) X (by kernel_rfl) (by kernel_rfl)
 yn:=nN (c:=51) X (by kernel_rfl) (by kernel_rfl)
 yo:=nN (c:=58) X (by kernel_rfl) (by kernel_rfl)
 mF:=nN (c:=117) X (by kernel_rfl) (by kernel_rfl)
 mG:=nN (c:=138) X (by kernel_rfl) (by kernel_rfl)
 mH:=nN (c:=143) X (by kernel_rfl) (by kernel_rfl)
 kM:=nN (c:=148) X (by kernel_rfl) (by kernel_rfl)
 cls:=⟨⟨_,_,_,_,_,_,_,_,_,_,_,_,X 97 _ rfl⟩,⟨_,yCn X (a:=96) (by kernel_rfl) (by kernel_rfl),by kernel_rfl,by kernel_rfl,by kernel_rfl,by kernel_rfl,by kernel_rfl,by kernel_rfl,by kernel_rfl,by kernel_rfl,by kernel_rfl,by kernel_rfl,by kernel_rfl⟩⟩
 DE:=N2 (c:=72) X (by kernel_rfl) (by kernel_rfl) (by kernel_rfl)
 yp:=N2 (c:=79) X (by kernel_rfl) (by kernel_rfl) (by kernel_rfl)
 yr:=N2 (c:=86) X (by kernel_rfl) (by kernel_rfl) (by kernel_rfl)
 o7:=⟨_,_,_,_,_,_,X 106 _ rfl,rfl,rfl,rfl,rfl,rfl,rfl,X 105 _ rfl,rfl,by decide+kernel⟩
 o8:=⟨_,_,_,_,_,_,X 111 _ rfl,rfl,rfl,rfl,rfl,rfl,rfl,X 110 _ rfl,rfl,by decide+kernel⟩
 code:=⟨_,_,X 139 _ rfl,rfl,rfl⟩
 hd:=codeHd_of_K X (by kernel_rfl)
 bm:=hbm
theorem gaB{mg mb:Str->Option Value}{w:Cn}{h:Ap}{loose:List Str}{m9:ExcName->Option Value}(X:(hdW.heap_1 w.params).In h)(T:Top hdW.view_1 loose m9 mg mb h):jM mg mb:=by
 have m:∀x,mg x=nsFind (FE ((hdW.heap_1 w.params).lookup 3)) x:=fun x=>qL T.g (X 3 _ rfl) x
 have nb:∀x:Str,x≠ "__name__" ->mb x=bootBuiltins x:=T.builtins
 have ci:∀{x:Str} {i:Int},valOf hdW.view_1 x=some (.int i)->∃t,mg x=some (.int i t):=fun e=>by
  refine aB (T.const _ _ e) fun v e1 r=>?_
  cases r h with
  |int _ t=>exact⟨t,e1⟩
 have cs:∀{x u:Str},valOf hdW.view_1 x=some (.str u)->∃t,mg x=some (.str u t):=fun e=>by
  refine aB (T.const _ _ e) fun v e1 r=>?_
  cases r h with
  |str _ t=>exact⟨t,e1⟩
 exact {
  i1:=ci (by kernel_rfl)
  i2:=ci (by kernel_rfl)
  i3:=ci (by kernel_rfl)
  f0:=(m _).trans (by kernel_rfl)
  f1:=(m _).trans (by kernel_rfl)
  f2:=(m _).trans (by kernel_rfl)
  f3:=(m _).trans (by kernel_rfl)
  f4:=(m _).trans (by kernel_rfl)
  f5:=(m _).trans (by kernel_rfl)
  f6:=(m _).trans (by kernel_rfl)
  f7:=(m _).trans (by kernel_rfl)
  f8:=(m _).trans (by kernel_rfl)
  f9:=(m _).trans (by kernel_rfl)
  r1:=(m _).trans (by kernel_rfl)
  r2:=(m _).trans (by kernel_rfl)
  crlf:=cs (by kernel_rfl)
  no:=fa ((m _).trans (by kernel_rfl)) (fa ((m _).trans (by kernel_rfl)) (fa ((m _).trans (by kernel_rfl)) (fa ((m _).trans (by kernel_rfl)) (fa ((m _).trans (by kernel_rfl)) (fa ((m _).trans (by kernel_rfl)) (fa ((m _).trans (by kernel_rfl)) (fa ((m _).trans (by kernel_rfl)) (fa ((m _).trans (by kernel_rfl)) (dE)))))))))
  yt:=(nb _ (by decide+kernel)).trans (by kernel_rfl)
  yu:=(nb _ (by decide+kernel)).trans (by kernel_rfl)
  yw:=(nb _ (by decide+kernel)).trans (by kernel_rfl)
  yx:=(nb _ (by decide+kernel)).trans (by kernel_rfl)
  mI:=(nb _ (by decide+kernel)).trans (by kernel_rfl)
  mJ:=(nb _ (by decide+kernel)).trans (by kernel_rfl)
  mM:=(nb _ (by decide+kernel)).trans (by kernel_rfl)
  yy:=(nb _ (by decide+kernel)).trans (by kernel_rfl)
  qB:=(nb _ (by decide+kernel)).trans (by kernel_rfl)}
theorem UO{h:Ap}:∀{vs:List Value} {is:List Int},Io vs is->ak h (is.map .int) vs []
 |_,_, .nil=> .nil
 |_,_, .cons i t r=>by
  have:=ak.cons (h:=h) (VR.int i t) (UO r)
  exact this
section
variable{mg mb:Str->Option Value}(w:Cn)(G:jM mg mb)
theorem uB1(a b:List Nat)(c:Nat)(qj:small a)(ha:a.length<=40)(iB:small b)(hb:b.length<=40):(W6 w G).U 1 [.str a, .str b,pn c]=some (pn (sR a b c)):=
 zXf (U:=(W1 w G).U) (fun x y hx hy=>zZh (fun _ _=>none) hx hy) qj ha iB hb
theorem uB3(s:List Nat)(hs:s.length<=900):(W6 w G).U 3 [.str s]=some (.bool (zV s)):=
 zQ4 (U:=(W3 w G).U) (zQx (U:=(W2 w G).U) hs)
theorem uB4(l:List Nat)(hl:l.length<=100000):(W6 w G).U 4 [.str l]=some (.str (kJ l)):=by
 refine(?_:(if l.length<=100000 then some (PV.str (kJ l))else none)=_)
 exact xU hl rfl
theorem uB5(a h:List Nat)(ha:a.length<=1000):(W6 w G).U 5 [.str a, .str h]=some (.str (lM a h)):=zR0 (U:=(W5 w G).U) ha
include G in
theorem zXo{s:Ab}{v:Value}{ns:List Addr}{is:List Int}(hlen:is.length<=1000)(A:Al)(aN:wH 13 A)(eJ:∀h:Ap,(∀a o,a∉ [134]->s.heap.get? a=some o->h.get? a=some o)->fX mg mb h)(hf:eR PB s.heap 154 23)(hP:s.heap.get? 134=some (G2 #[]))
  (hv:VR s.heap (.list (is.map .int)) v ns) (bY:134∉ns):
  Ca (Af PB w) A (.call (.ref 154) ⟨[v],[]⟩) (fun res s'=>res= .ok (.ret (.bool true))/\yZ s s'/\(∀a o,a≠134->s.heap.get? a=some o->s'.heap.get? a=some o)/\∃ps,s'.heap.get? 134=some (G2 ps)) s:=by
 obtain⟨xs,cb,hx,hA,eD⟩:=zZk (U:=(W6 w G).U) (β:=some (.none,eQ)) (σ:=some (.list (is.map .int))::Ay 26 none) (is:=is) rfl hlen rfl
 have bl:(ES xs.sum).length<=10:=by
  have:∀k<6,(jO.getD k []).length<=10:=by decide
  exact this _ (pB xs.sum)
 have h9:=zZq (U:=(W6 w G).U) (β:=some (.none,eQ)) eD.len (eD.get 3 _ rfl) (eD.get 11 _ rfl) bl
 have N3:=eD.set (i:=12) (by decide) (.list ((eS xs.sum).map .str))
 obtain⟨jN,hB,AA⟩:=zY8 (U:=(W6 w G).U) (β:=some (.none,eQ)) (uB1 w G) (uB4 w G) (uB5 w G) hx N3
 refine zXw w G (fget:=kK (W3 w G).U) (fun b b' r h=>zV3 h) aN eJ hf hP hv bY hA h9 hB (AA.get 15 _ rfl) ?_ fun u=>zVs (U:=(W6 w G).U) (uB3 w G) hx (AA.set (i:=17) (by decide) (.obj u))
 unfold iM
 rw[K5]
 refine Ad (qF _ 15 _ fun k _=>?_) (Ad (Ed 15 (Ad (NA _) (Cr (sX xs 5)))) (by decide))
 refine(?_:(46::fH xs.sum xs k++[13,10]).length<=15)
 rw[Ah]
 exact Bw (Dr (zy ..)) 2
end
theorem zYn{aa s':Ab}{c:ClaimW}{cl:Str->Option Addr}{m9:ExcName->Option Value}{args:List WData}{cc P:Addr}{ps:Array Value}(hr:∀x,c.raises args x=false)(hp:c.post args (.bool true) args=true)
  (hS:yZ aa s') (hk:∀a o,a≠P->aa.heap.get? a=some o->s'.heap.get? a=some o) (hc:L7 aa.heap cc P) (hP:aa.heap.get? P=some (G2 #[])) (mw:s'.heap.get? P=some (G2 ps)) (hg:aa.gens= #[]):
  GoodWG c cl m9 args aa (.ok (.ret (.bool true))) s':=by
 obtain⟨h,t,g,rfl,hx⟩:=hS
 refine N8 (.inl ⟨_,_,_,rfl,hr, .bool true,hp,fun _=>⟨Er,fun a ha=>nomatch ha⟩⟩) ⟨fun b o e=>?_,fun b o e=>?_⟩ rfl (hx.bare (.of_eq hg))
 ·by_cases hb:b=P
  ·subst hb
   rw[hP]at e;obtain rfl:=Aa e
   exact .inr (.inl ⟨(hc.tab hP).isCodeTable,rfl, #[],ps,rfl,by rw[Array.empty_append];exact mw⟩)
  ·exact .inl (hk b o hb e)
 ·by_cases hb:b=P
  ·subst hb;exact⟨_,mw⟩
  ·exact cn o (hk b o hb e)
theorem zUj{P:Params}{h:Ap}{a:Addr}{vs:List Value}{xs:List WData}(hL:h.IsList a vs.toArray)(w1:Well P h (.ref a) (.list xs)):h.PlainList a vs.toArray:=by
 cases w1 with
 |list e _=>
  obtain⟨o,e2,_,n,e3⟩:=hL
  rw[e]at e2;obtain rfl:=Aa e2
  cases e3
  exact cn _ e
theorem ng{w:Cn}{aa:Ab}{mg mb:Str->Option Value}{loose:List Str}{m9:ExcName->Option Value}{c:ClaimW}{cl:Str->Option Addr}{AB:ExcName->Option Value}{args:List WData}{a:Addr}{vs:List Value}{is:List Int}{xs:List WData}
  (KX:(hdW.heap_1 w.params).In aa.heap) (hP:aa.heap.get? 134=some (G2 #[])) (T:Top hdW.view_1 loose m9 mg mb aa.heap) (hg:aa.gens= #[]) (hL:aa.heap.IsList a vs.toArray) (w1:Well w.params aa.heap (.ref a) (.list xs)) (hI:Io vs is) (hlen:is.length<=1000)
  (hr:∀x,c.raises args x=false) (hp:c.post args (.bool true) args=true):
  Ca (Af PB w) callerA (.call (.ref 154) ⟨[.ref a],[]⟩) (GoodWG c cl AB args aa) aa:=by
 have cQ:=zUj hL w1
 have ne:∀{b:Addr} {o:Obj},aa.heap.get? b=some o->o.cls≠ .none->b≠134:=fun e hc q=>by
  rw[q,hP]at e;obtain rfl:=Aa e;exact hc rfl
 have eJ:∀h:Ap,(∀b o,b∉ [134]->aa.heap.get? b=some o->h.get? b=some o)->fX mg mb h:=fun h k=>by
  have X':=zSh KX (P:=134) (by kernel_rfl) k
  refine uQ T.bmain fun bm ob m1 m2 m3 m4 m5 m6=>?_
  refine hfB X' (N1 T.g fun o e=>k _ _ (by decide) e) (N1 T.b fun o e=>k _ _ (by decide) e) (zNp T.nolimit fun o e=>k _ _ (by decide) e) ⟨bm,ob,m1,m2,?_,?_,k _ _ ?_ m3,m4,m5,m6⟩
  ·intro q
   have e3:=KX 3 _ rfl
   rw[q]at m3
   have:aa.heap.get? 3=some ob:=m3
   rw[e3]at this
   obtain rfl:=Aa this
   injection m4 with q2
   exact absurd q2 (by decide)
  ·exact ne m3 (by rw[m4];nofun)
  ·intro q
   exact ne m3 (by rw[m4];nofun) (Ae.mp q)
 refine E4 (zXo w (gaB KX T) hlen callerA ⟨rfl,by decide+kernel,by decide+kernel⟩ eJ (nN (c:=153) KX (by kernel_rfl) (by kernel_rfl)) hP (.list cQ (UO hI)) ?_) fun res s' uI=>?_
 ·intro q
  refine aJ cQ fun n e=>?_
  exact ne e nofun (Ae.mp q).symm
 ·obtain⟨rfl,hS,hk,ps,mw⟩:=uI
  exact zYn hr hp hS hk (codeHd_of_K (c:=138) (P:=134) KX (by kernel_rfl)) hP mw hg
end Internal
open PySem PySem.W PyProof.Rows
set_option maxRecDepth 100000 in
set_option maxHeartbeats 8000000 in
theorem PySem.Challenge.cw_uc0011_02_holds : PySem.Challenge.rw_uc0011_02.Holds := by
 refine Internal.hdW ?_
 k_fill
 intro w s₀ aa mg mb G Y fa o pm cd doc dV kV ho hd gF hD hmg hg args vals as oG N4 wt hwl Ol
 have KX:=km_in_of Y
 have hT8:=km_tabs_of Y
 refine Ground.open G ?_
 intro T B D TE TW
 wrow_args oG N4 wt hwl Ol
 rename_i is _ _ _ _ _ _ _ aL vs _ hL _ w1 _ hI _ hlen _
 have e1:mg "law" =some (.ref 154):=(Internal.qL T.g (KX 3 _ rfl) _).trans (by kernel_rfl)
 have e2:fa=154:=by
  have e3:mg "law" =some (.ref fa):=hmg
  rw[e1]at e3
  cases e3;rfl
 subst e2
 refine enter_call ?_
 exact Internal.ng KX (hT8 134 (.head _)) T hg hL w1 hI (by omega) (fun _=>rfl) (by wrow_post)
