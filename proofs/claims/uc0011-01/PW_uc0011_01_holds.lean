import PyProof.Rows.All
import Wide.All
import OpenK.AllK
import Wide.FinOn
import Lean
import PySem.Challenge.RW_uc0011_01
set_option autoImplicit false
set_option maxRecDepth 100000
set_option Elab.async false
set_option linter.all false
open Option.some renaming inj → Aa, injEq → Mt
open PySem renaming Shared → Ab, wpAny_bind → Ac, model → Aj, Around → Am, wpAny → An, wpAny_pure → Aq, Heap → As, builtinLookup_eq_fast → A4, typeLookup_type → Bh, wpAny_execs_cons → Bm, wpAny_Name → Bp, sizeLine_eq → Bt, starEach → Bz, wpAny_mono → B2, wpAny_of_eq → B5, Pos → B7, sliceBounds → Cd, typeLookup → Cm, World → Cn, wpAny_newObj_type → Co, codeAny → Cs, NameKind → Cy, plainObj_wpAny_Assign_Attribute → C1, attributeBase → C8, wpAny_assign_Name → Dj, seg_execs_nil → Dp, compEnvC → Dy, wpAny_standAt → D1, seg_bind_wrap → D2, mem_of_lookup → D7, wpAny_specialOf → D8, Env → Ea, foldedSetIterable → Ej, wpAny_loadPart_at → Ek, wpAny_execs_nil → Em, codeAny_mono → Ey, Result → Ez, wpAny_holding → E2, wpAny_Constant_int → E6, wpAny_Constant_str → E7, seg_execs_cons → Fb, subscripted → Fp, bindArgs → Fq, wpAny_comprehension_free → Fw, relabel → Fz, wpAny_list_append_plain → Ge, wpAny_call_entry → Gg, isSubtype_type → Gh, entryFor_of_tree → Gi, wpAny_call → Gl, seqIndex? → Gq, wpAny_isTrue_Compare1 → Gv, wpAny_truthy_bool → Gw, wpAny_newFunctionEnv → G1, strIterType → G2, execs → G3, cellsFrom → Hd, notedBy → Hk, theTreesLotGoes → Hl, sliceRange → Hn, wpAny_callSpecial?_slot → Hr, GenState → Hu, Call_method1 → Hv, newFunctionEnv → Hz, wpAny_Assign_Name → H6, rawInt → H8, wpAny_allTrue_Or_cons → H9, typeIs_str → Ic, swapsWith → Ie, Operator → Il, wpAny_typeLookup_exc → Io, letOwnedTupleGo → Iu, pyNext → Iv, list_getitem_lookup → I2, wpAny_isTrue_BoolOp → I3, evalArgs_none → I5, getItem → Ja, call_meets → Je, pyIter → Jf, firstArgMember → Ji, wpAny_rule → Jl, operate → Jp, wpAny_Return_some → Js, interactive → Ju, wpAny_field → Jv, wpAny_attempt → J0, methodCallPos → J1, Tok → J3, inplaceOp → J8, entryFor → J9, IsPart → Kd, backTo → Ke, assign → Km, getAttr → Ko, defaultsOf → Kp, Sem → Le, binaryOp → Lg, slicePicked → Lh, compareOp → Lq, noteFrame → Lr, behindInMarks → Lz, eval_ListComp → L4, wpAny_onRaise → L5, Builtin → L6, isTrue → L7, closureFor → Md, wpAny_Expr → Me, wpAny_load → Mh, frameCount → Mi, numAt → Mo, Flow → Mp, Seg → Mw, argsOk → My, Model → M0
open List renaming mem_cons_of_mem → Ad, range → Ae, mem_singleton → Af, mem_cons_self → Ag, replicate → Ai, all_eq_true → Al, getElem?_eq_getElem → Ap, not_mem_nil → Ar, mem_cons → Av, getD_eq_getElem?_getD → Aw, length_append → Ax, getElem?_map → Ay, length_map → Az, mem_append_right → A1, map_map → A3, size_toArray → A5, mem_append_left → A6, getElem?_set_ne → A7, lookup_cons → A8, mem_append → A9, getElem?_eq_some_iff → Ba, drop_eq_getElem_cons → Bc, length_set → Bd, mem_range → Bg, map_cons → Bj, replicate_succ → Bk, length_cons → Bl, mem_singleton_self → Bn, length_replicate → Bq, append_assoc → Br, length_drop → Bs, map → Bv, length → B1, getElem?_append_left → B9, length_take → Ca, eq_of_mem_replicate → Cf, map_congr_left → Cj, getElem?_range → Ck, getElem?_set_self → Ct, contains_eq_mem → C2, drop_zero → C3, range' → C5, getElem?_append_right → C6, mem_of_getElem? → C7, nodup_cons → C9, cons_append → Dg, filterMap_cons → Di, getElem?_toArray → Dm, contains_iff_mem → Dn, append_nil → Dr, range_eq_range' → Dx, mem_map → D6, getElem?_eq_none → Eb, getElem_mem → Ee, drop_eq_nil_iff → Ei, toArray → Eu, take_of_length_le → Ew, lookup → E0, nodup_nil → E5, foldl_cons → Ff, flatten_cons → Fn, sum_cons → Fx, length_reverse → F0, length_eq_zero_iff → Ga, drop_eq_nil_of_le → Gn, length_range → Gx, flatMap_cons → Gy, ext_getElem? → Gz, range'_succ → G8, filter_cons → Ha, flatten_append → Hf, forIn_cons → Hm, zip_cons_cons → Ho, nodup_append → Hx, take_length → Ib, eq_nil_iff_forall_not_mem → Ih, eq_nil_of_length_eq_zero → Im, mem_of_mem_drop → Iq, mem_of_mem_take → Ir, drop_append_of_le_length → It, mem_filter → Iw, of_mem_zip → Iy, nil_append → Iz, length_flatten → I6, setIfInBounds_toArray → Jg, drop_drop → Jj, push_toArray → Jt, idxOf_lt_length_iff → Jx, getElem?_take_of_lt → J2, length_eq_one_iff → Kf, range_succ_eq_map → Ki, all_map → Kj, not_of_lt_findIdx → Kk, length_nil → Kq, map_append → Kr, idxOf_cons → Ks, length_filter_le → Kz, forall_mem_cons → Lj, length_dropLast → Lm, take_succ_cons → Lx, all_cons → Ly, set_set → Mv
open Nat renaming le_trans → Ah, ne_of_lt → Bu, le_of_not_lt → Bw, lt_succ_self → Bx, le_refl → B6, ble → Cb, mod_lt → Cw, zero_add → C0, le_of_lt → Dc, lt_of_succ_lt_succ → De, le_of_ble_eq_true → Dl, le_add_left → Dq, lt_of_le_of_lt → Ds, le_add_right → Du, zero_le → Dv, add_assoc → D0, add_comm → D3, lt_succ_of_le → D5, eq_of_beq_eq_true → Ec, lt_of_lt_of_le → Ed, add_le_add → Eg, add_le_add_right → Eh, min_eq_left → En, mul_le_mul_left → Eo, le_of_succ_le_succ → Es, succ_pos → Et, add_right_comm → E9, not_lt_zero → Fe, le_antisymm → Fh, le_of_eq → Fi, le_of_succ_le → Fj, sub_pos_of_lt → Fs, le_of_lt_succ → Ft, not_lt → Fu, succ_le_succ → Gb, sub_le → Gk, min_le_left → Gp, not_lt_of_le → G7, ne_of_gt → G9, lt_of_not_le → He, lt_irrefl → Hg, lt_succ_of_lt → Hy, add_le_add_left → I0, lt_trans → Jc, lt_or_eq_of_le → Jh, le_succ → Jr, beq → Jw, add_sub_cancel_left → J7, min_le_right → Kb, beq_refl → Kc, sub_eq_zero_of_le → Kx, add_sub_add_right → Ky, ble_eq_true_of_le → Lb, pow_le_pow_right → Ln, mul_le_mul_right → Lo, sub_le_sub_right → Lp, add_zero → Mr, min_self → Mu, pred → M5
open PySem.Heap renaming get?_push_of_some → Ak, get?_push_size → A0, lt_size → Bo, ExtBut → Ci, size_push → Gf, get?_update_self → Kv, get?_update_ne → Lv
open Bool renaming and_eq_true → Ao, and_eq_true_iff → B3, false_ne_true → Ce, false_eq_true → Cu, not_eq_true' → Dk, or_eq_true → El, or_eq_false_iff → Fo, true_and → Gs, false_and → G4, and_true → Jz
open Option renaming bind_some → Au, map_eq_some_iff → By, map_some → D9, isSome_iff_exists → Ef, bind_eq_some_iff → Gd, map → G6, none → Jo
open PySem.Calls renaming Name_function_global → Bb, spliced_cons → Bi, spliced_nil → B4, callWith_builtin → Cv, loadGlobal_builtin → C4, loadGlobal_global → D4, evalArgs_plain → Fc, docDef → Hc
open PySem.Env renaming kindOf → Be
open Prod.mk renaming inj → Bf
open ForInStep renaming yield → B0
open PySem.Str renaming length → B8
open PyProof.Rows renaming callWith_type1 → Cg, assignInOrder_cons → E8, Call_Name → Fg, Attribute_name → Gj, join_list → Hw, methDefD → H7, IntsAre → Ij, subscriptTail → Ik, assignInOrder_nil → Jq, iadd_int → Ku, callWith_meth0 → Lk, Subscript_ → Ma, AllBare → Ml
open PySem.NameKind renaming free → Cp, cell → Cq, noConfusion → Ip
open PySem.W renaming kms_lo → Cr, kms_hi → Gu, tabObj → Hq, CodeHd → Mz
open PySem.Builtin.Str renaming strSliceIndices → Cz, tooLong → Ls
open Int renaming le_trans → Dd, natCast_nonneg → Dt, ofNat_le → Er, lt_of_le_of_lt → E4, toNat_natCast → G0, toNat_of_nonneg → I1, le_of_lt → I9, sub_nonneg_of_le → Li, not_lt → L9, ofNat_lt → Mj, lt_trans → Mq
open Classical renaming byContradiction → Dh, choose_spec → Kw
open PySem.F renaming plainAttrs_list → Dz, slot_list_pop → Fd, slot_list_append → Hi, type_list_append → Hj, type_list_pop → Ia, args_list_index_2 → Jn, entry_list_index → Jy, slot_list_index → J4, plainAttrs_str → J5, entry_list_pop → Kl, mro_object → Ms
open PySem.Heap.SameBut renaming update → Ep
open List.cons renaming inj → E1
open PySem.Sre renaming forSearch → E3, Frame → Jd
open PySem.Builtin.Int renaming intBits → Fy
open Eq renaming symm → Gm
open PySem.Value.ref renaming inj → Gr
open Array renaming getElem?_eq_some_iff → G5, length_toList → I4, append_assoc → L8
open PySem.IsL renaming update → Hb
open PySem.ScopeKind renaming function → Hp
open PySem.Within renaming cons → Ht, of_none → Jm
open Ne renaming symm → H0
open PySem.Value renaming ref → Ig, none → Ii
open PySem.Builtin.Range renaming rangeFitsLong → Jb, rangeSize → J6, small → Lu
open PySem.Builtin.ObjectAttr renaming ownDict → Jk
open PyProof renaming noPylong_small → Kh
open PySem.SeqRoads2.EqGives renaming str → Kt
open Lean renaming Syntax → Lc, mkAtom → Ld
open Nat.le renaming dest → Ll
open PySem.Heap.IsSliceOf renaming new → Mb
open PySem.SeqAt renaming list_indexAt → Mc, EqAt → M3
open PySem.Obj renaming mapSeq → Mf
open PySem.Expr.Constant renaming elim → Mg
open PySem.EqBoolInt renaming of_rcne → Mm
open PySem.StrLaws renaming found_one → Mn
open PySem.Stmt.Assign renaming elim → Mx
open PySem.Expr.Slice renaming elim → M1
open PUnit renaming unit → M4
namespace Internal
open PySem PySem.W PySem.Calls PyProof.Rows
set_option genSizeOf false
inductive PV where
 |none
 |bool (b:Bool)
 |int (i:Int)
 |str (s:List Nat)
 |list (l:List PV)
 |obj (v:Value)
 deriving Inhabited
noncomputable def PV.bo:PV->Bool
 | .list _=>false
 |_=>true
mutual
inductive VR(h:As):PV->Value->List Addr->Prop
 |none:VR h .none .none []
 |bool (b:Bool):VR h (.bool b) (.bool b) []
 |int (i:Int) (t:J3):VR h (.int i) (.int i t) []
 |str (x:List Nat) (t:J3):VR h (.str x) (.str ⟨x.toArray⟩ t) []
 |obj (v:Value):VR h (.obj v) v []
 |list {a:Addr} {ps:List PV} {vs:List Value} {ns:List Addr}:h.PlainList a vs.toArray->aq h ps vs ns->VR h (.list ps) (.ref a) (a::ns)
inductive aq(h:As):List PV->List Value->List Addr->Prop
 |nil:aq h [] [] []
 |cons {p:PV} {v:Value} {n:List Addr} {ps:List PV} {vs:List Value} {ns:List Addr}:VR h p v n->aq h ps vs ns->aq h (p::ps) (v::vs) (n++ns)
end
noncomputable abbrev Sub(h h':As):Prop:=∀b o,h.get? b=some o->h'.get? b=some o
theorem nn{α:Type}{a:α}{G:Prop}(h:none=some a):G:=nomatch h
theorem sn{α:Type}{a:α}{G:Prop}(h:some a=none):G:=nomatch h
theorem ft{G:Prop}(h:false=true):G:=nomatch h
theorem Wy{α:Type}{l:List α}(h:l.length=0):l=[]:=Ga.mp h
theorem vu{α:Type}{l:List α}{n:Nat}(h:l.length=n+1):∃a r,l=a::r/\r.length=n:=by
 cases l with
 |nil=>cases h
 |cons a r=>exact⟨a,r,rfl,Nat.succ.inj h⟩
theorem BO{α:Type}{l:List α}(h:l.length=1):∃a,l=[a]:=let⟨a,_,e,h⟩:=vu h;⟨a,Wy h▸e⟩
theorem Pn{α:Type}{l:List α}(h:l.length=2):∃a b,l=[a,b]:=let⟨a,_,e,h⟩:=vu h;(BO h).elim fun b q=>⟨a,b,q▸e⟩
theorem Po{α:Type}{l:List α}(h:l.length=3):∃a b c,l=[a,b,c]:=let⟨a,_,e,h⟩:=vu h;(Pn h).elim fun b q=>q.elim fun c q=>⟨a,b,c,q▸e⟩
theorem Wz{α:Type}{l:List α}(h:l.length=5):∃a b c d e,l=[a,b,c,d,e]:=let⟨a,_,e,h⟩:=vu h;let⟨b,_,e',h⟩:=vu h;(Po h).elim fun c q=>q.elim fun d q=>q.elim fun x q=>⟨a,b,c,d,x,q▸e'▸e⟩
@[elab_as_elim] theorem pN {M:Nat->Prop} {n j:Nat} (h:j<n+1) (k:M n) (d:j<n->M j):M j:=(Nat.lt_succ_iff_lt_or_eq.mp h).elim d fun e=>e▸k
theorem ltZ{j:Nat}{P:Prop}(h:j<0):P:=(Fe _ h).elim
@[elab_as_elim] theorem Pp {M:Nat->Prop} {j:Nat} (h:j<3) (a:M 0) (b:M 1) (c:M 2):M j:=pN h c fun h=>pN h b fun h=>pN h a ltZ
@[elab_as_elim] theorem rh {M:Nat->Prop} {j:Nat} (h:j<4) (a:M 0) (b:M 1) (c:M 2) (d:M 3):M j:=pN h d fun h=>Pp h a b c
@[reducible] def tq (x:Lc):Lc:= .node .none (`Lean.Parser.Tactic.tacticSeq) #[.node .none (`Lean.Parser.Tactic.tacticSeq1Indented) #[Lean.mkNullNode #[x]]]
@[reducible] def tA:Lc:=tq (.node .none (`Lean.Parser.Tactic.withReducible) #[Ld "with_reducible",tq (.node .none (`Lean.Parser.Tactic.assumption) #[Ld "assumption"])])
@[reducible] def tR:Lc:=tq (.node .none (`Lean.Parser.Tactic.withUnfoldingAll) #[Ld "with_unfolding_all",tq (.node .none (`Lean.Parser.Tactic.tacticRfl) #[Ld "rfl"])])
theorem zB{a b c:Nat}(h:autoParam (a<=b) tA)(k:autoParam (Cb b c=true) tR):a<=c:=Ah h (Dl k)
theorem zC{a b c:Nat}(h:autoParam (a<b) tA)(k:autoParam (Cb b c=true) tR):a<=c:=zB (Dc h) k
theorem zE{a b c:Nat}(h:autoParam (a<=b) tA)(k:autoParam (Cb (b+1) c=true) tR):a<c:=zB (Gb h) k
theorem zF{a b c:Nat}(h:autoParam (a=b) tA)(k:autoParam (Cb b c=true) tR):a<=c:=zB (Fi h) k
theorem zH{a b c:Nat}(h:autoParam (a=b) tA)(k:autoParam (c<b) tA):c<a:=h▸k
theorem zJ{a b c:Nat}(h:autoParam (a=b) tA)(k:autoParam (b<=c) tA):a<=c:=h▸k
theorem zL{a b c k:Nat}(h:autoParam (a<=b) tA)(q:autoParam (Cb b c=true) tR):a-k<=c:=Ah (Gk _ _) (zB h q)
theorem zO{a b c d e:Nat}(h:autoParam (a<=c) tA)(k:autoParam (b<=d) tA)(q:autoParam (Cb (c+d) e=true) tR):a+b<=e:=zB (Eg h k) q
theorem zP{a c k e:Nat}(h:autoParam (a<=c) tA)(q:autoParam (Cb (c+k) e=true) tR):a+k<=e:=zB (Eh h k) q
theorem zQ{a c k e:Nat}(h:autoParam (a<=c) tA)(q:autoParam (Cb (k+c) e=true) tR):k+a<=e:=zB (I0 h k) q
theorem zR{a b c d:Nat}(h:autoParam (a+b<=c) tA)(q:autoParam (Cb c d=true) tR):a<=d:=zB (Ah (Du _ _) h) q
theorem zS{a b c d:Nat}(h:autoParam (a+b<=c) tA)(q:autoParam (Cb c d=true) tR):b<=d:=zB (Ah (Dq _ _) h) q
theorem zU{a b c:Nat}(h:a+b<=c):a<=c:=Ah (Du _ _) h
theorem zV{a b c:Nat}(h:a+b<=c):b<=c:=Ah (Dq _ _) h
theorem HK{a b c d e n k:Nat}(h:autoParam (a+b+c+d+e<=n) tA)(q:autoParam (Cb n k=true) tR):a<=k:=zB (zU (zU (zU (zU h)))) q
theorem WA{a b c d e n k:Nat}(h:autoParam (a+b+c+d+e<=n) tA)(q:autoParam (Cb n k=true) tR):b<=k:=zB (zV (zU (zU (zU h)))) q
theorem WB{a b c d e n k:Nat}(h:autoParam (a+b+c+d+e<=n) tA)(q:autoParam (Cb n k=true) tR):c<=k:=zB (zV (zU (zU h))) q
theorem WC{a b c d e n k:Nat}(h:autoParam (a+b+c+d+e<=n) tA)(q:autoParam (Cb n k=true) tR):d<=k:=zB (zV (zU h)) q
theorem zW{a b c:Nat}(h:autoParam (a+b<c) tA):a<c:=Ds (Du _ _) h
theorem zY{a b c d:Nat}(h:autoParam (a+(b+c)<=d) tA):a+c+b<=d:=by rw[D0,D3 c];exact h
theorem yA{n c:Nat}{K:Int}(h:autoParam (n<=c) tA)(k:autoParam (decide ((c:Int)<K)=true) tR):(n:Int)<K:=E4 (Er.mpr h) (of_decide_eq_true k)
theorem yB{n c:Nat}{K:Int}(h:autoParam (n<c) tA)(k:autoParam (decide ((c:Int)<=K)=true) tR):(n:Int)<K:=Int.lt_of_lt_of_le (Mj.mpr h) (of_decide_eq_true k)
theorem yC{n:Nat}{K:Int}(k:autoParam (decide (K<=0)=true) tR):K<=(n:Int):=Dd (of_decide_eq_true k) (Dt n)
theorem yD{n c:Nat}{K:Int}(h:autoParam (n<=c) tA)(k:autoParam (decide ((c:Int)<=K)=true) tR):(n:Int)<=K:=Dd (Er.mpr h) (of_decide_eq_true k)
theorem yE{a b c:Int}(h:autoParam (a<=b) tA)(k:autoParam (decide (b<=c)=true) tR):a<=c:=Dd h (of_decide_eq_true k)
theorem yF{a b c:Int}(h:autoParam (a<b) tA)(k:autoParam (decide (b<=c)=true) tR):a<c:=Int.lt_of_lt_of_le h (of_decide_eq_true k)
theorem yG{a b c:Int}(h:autoParam (a<=b) tA)(k:autoParam (decide (b<c)=true) tR):a<c:=E4 h (of_decide_eq_true k)
theorem yH{a b c:Int}(h:autoParam (b<=a) tA)(k:autoParam (decide (c<=b)=true) tR):c<=a:=Dd (of_decide_eq_true k) h
theorem yJ{n c:Nat}{K:Int}(h:autoParam (n<=c) tA)(k:autoParam (decide ((c:Int)<K)=true) tR):¬K<=(n:Int):=Int.not_le.mpr (yA h k)
theorem yK{a c L K:Int}(h:autoParam (L<=a/\a<c) tA)(k:autoParam (decide (c<=K)=true) tR):a<K:=yF h.2 k
theorem yM{a b c:Nat}(h:autoParam (a+1+b<=c) tA):a+(b+1)<=c:=by rw[D3 b,<-D0];exact h
theorem yR{a b c:Nat}(h:autoParam (a<=b) tA)(k:autoParam (Cb b c=true) tR):¬c<a:=G7 (zB h k)
theorem yS{a b c:Nat}(h:autoParam (a<b) tA)(k:autoParam (b<=c) tA):a<=c:=Dc (Ed h k)
theorem yV{a b c:Nat}(h:autoParam (b=a) tA)(k:autoParam (c<b) tA):c<a:=h▸k
theorem yW{a b c:Nat}(h:autoParam (b=a) tA)(k:autoParam (c<=b) tA):c<=a:=h▸k
theorem xA{a b c d:Nat}(h:autoParam (a+(b+c)<d) tA):a+c+b<d:=by rw[D0,D3 c];exact h
theorem xB{a b c:Nat}(h:autoParam (a+b<=c) tA):b+a<=c:=D3 a b▸h
theorem xC{a b c k:Nat}(h:autoParam (a<=b) tA)(q:autoParam (b<c) tA)(r:autoParam (Cb c k=true) tR):a<=k:=zB (Dc (Ds h q)) r
theorem xD{a b c k:Nat}(h:autoParam (a=b) tA)(q:autoParam (b<c) tA)(r:autoParam (Cb c k=true) tR):a<=k:=xC (Fi h) q r
theorem xE{a b c k:Nat}(h:autoParam (a=b) tA)(q:autoParam (b<=c) tA)(r:autoParam (Cb c k=true) tR):a<=k:=zB (h▸q) r
theorem xF{m n:Nat}(h:autoParam (¬m=n) tA):¬(m:Int)=n:=fun e=>h (Int.ofNat.inj e)
theorem xG{i a b k:Nat}(h:autoParam (i=a\/b<=i) tA)(q:autoParam ((!Nat.beq a k&&Cb (k+1) b)=true) tR):¬i=k:=by
 rw[Ao]at q
 rintro rfl
 rcases h with h|h
 ·rw[h,Kc]at q;exact absurd q.1 (by decide)
 ·exact G7 h (Dl q.2)
theorem xH{i a b c k:Nat}(h:autoParam (i=a\/i=b\/c<=i) tA)(q:(!Nat.beq a k&&(!Nat.beq b k&&Cb (k+1) c))=true):¬i=k:=by
 rw[Ao]at q
 rcases h with h|h
 ·rintro rfl;rw[h,Kc]at q;exact absurd q.1 (by decide)
 ·exact xG h q.2
theorem xI{i a b c d k:Nat}(h:autoParam (i=a\/i=b\/i=d\/c<=i) tA)(q:(!Nat.beq a k&&(!Nat.beq b k&&(!Nat.beq d k&&Cb (k+1) c)))=true):¬i=k:=by
 rw[Ao]at q
 rcases h with h|h
 ·rintro rfl;rw[h,Kc]at q;exact absurd q.1 (by decide)
 ·exact xH h q.2
theorem xJ{i a b c k:Nat}(h:autoParam (c<=i\/i=a\/i=b) tA)(q:(!Nat.beq a k&&(!Nat.beq b k&&Cb (k+1) c))=true):¬i=k:=
 xH (h.elim (fun h=> .inr (.inr h)) fun h=>h.elim .inl fun h=> .inr (.inl h)) q
theorem xK{x y:Nat}(h:autoParam (x<=2*y) tA):x+1+1<=2*(y+1):=Eh h 2
theorem xL{x y:Nat}(h:autoParam (x<=2*y) tA):x+1<=2*(y+1):=Fj (xK h)
theorem xM{x y:Nat}(h:autoParam (x<=2*y) tA):x<=2*(y+1):=Fj (xL h)
theorem xN{x y c k m:Nat}(h:autoParam (x<=m*y) tA)(q:autoParam (y<=c) tA)(r:autoParam (Cb (m*c) k=true) tR):x<=k:=zB (Ah h (Eo m q)) r
theorem xO{a b c k:Nat}(h:autoParam (a+(b+k)<=c) tA):a+k<=c:=Ah (I0 (Dq k b) a) h
theorem xP{a b c k:Nat}(h:autoParam (a<b) tA)(q:autoParam (b<=c) tA)(r:autoParam (Cb c k=true) tR):a<=k:=zC (Ed h q) r
theorem xQ{a b c k:Nat}(h:autoParam (a<=b) tA)(q:autoParam (b<=c) tA)(r:autoParam (Cb c k=true) tR):a<=k:=zB (Ah h q) r
theorem xR{s n c k:Nat}(h:autoParam (s+(n+1)=c) tA)(q:autoParam (Cb c (k+1)=true) tR):s<=k:=Es (Ah (Ah (Gb (Du s n)) (Fi h)) (Dl q))
theorem xS{s n c:Nat}(h:autoParam (s+(n+1)=c) tA):s<c:=h▸Nat.lt_add_of_pos_right (Et n)
theorem xT{c a b k:Nat}{p:Prop}(h:autoParam ((a<=c/\c<=b)/\p) tA)(q:autoParam (Cb (k+1) a=true) tR):¬c=k:=fun e=>G7 h.1.1 (e▸Dl q)
theorem xU{L a c K:Int}(h:autoParam (L<=a/\a<=c) tA)(k:autoParam (decide (c<K)=true) tR):a<K:=yG h.2 k
theorem xV{L a c K:Int}(h:autoParam (L<=a/\a<=c) tA)(k:autoParam (decide (c<=K)=true) tR):a<=K:=yE h.2 k
theorem xW{L a c K:Int}(h:autoParam (L<=a/\a<=c) tA)(k:autoParam (decide (K<=L)=true) tR):K<=a:=yH h.1 k
theorem xX{j m s c k r:Nat}(h:autoParam (j<=m*s+r) tA)(q:autoParam (s<=c) tA)(t:autoParam (Cb (m*c+r) k=true) tR):j<=k:=zB (Ah h (Eh (Eo m q) r)) t
@[elab_as_elim] theorem af {α:Sort _} {P:α->Prop} {a b:α} (h:a=b) (m:P b):P a:=h▸m
@[elab_as_elim] theorem cu {α:Sort _} {P:α->Prop} {a b:α} (h:b=a) (m:P b):P a:=h▸m
theorem ao{P0 P1:Prop}{G:Prop}(h:P0/\P1)(k:P0->P1->G):G:=k h.1 h.2
theorem cD{P0 P1 P2:Prop}{G:Prop}(h:P0/\P1/\P2)(k:P0->P1->P2->G):G:=ao h.2 (k h.1)
theorem ri{P0 P1 P2 P3:Prop}{G:Prop}(h:P0/\P1/\P2/\P3)(k:P0->P1->P2->P3->G):G:=cD h.2 (k h.1)
theorem BP{P0 P1 P2 P3 P4:Prop}{G:Prop}(h:P0/\P1/\P2/\P3/\P4)(k:P0->P1->P2->P3->P4->G):G:=ri h.2 (k h.1)
theorem Pq{P0 P1 P2 P3 P4 P5:Prop}{G:Prop}(h:P0/\P1/\P2/\P3/\P4/\P5)(k:P0->P1->P2->P3->P4->P5->G):G:=BP h.2 (k h.1)
theorem Pr{P0 P1 P2 P3 P4 P5 P6:Prop}{G:Prop}(h:P0/\P1/\P2/\P3/\P4/\P5/\P6)(k:P0->P1->P2->P3->P4->P5->P6->G):G:=Pq h.2 (k h.1)
theorem aK{aP:Type}{P0:aP->Prop}{G:Prop}(h:∃a0,P0 a0)(k:∀a0,P0 a0->G):G:=h.elim k
theorem aD{aP:Type}{P0 P1:aP->Prop}{G:Prop}(h:∃a0,P0 a0/\P1 a0)(k:∀a0,P0 a0->P1 a0->G):G:=h.elim fun a h=>ao h (k a)
theorem gT{aP:Type}{P0 P1 P2:aP->Prop}{G:Prop}(h:∃a0,P0 a0/\P1 a0/\P2 a0)(k:∀a0,P0 a0->P1 a0->P2 a0->G):G:=h.elim fun a h=>cD h (k a)
theorem iQ{aP:Type}{P0 P1 P2 P3:aP->Prop}{G:Prop}(h:∃a0,P0 a0/\P1 a0/\P2 a0/\P3 a0)(k:∀a0,P0 a0->P1 a0->P2 a0->P3 a0->G):G:=h.elim fun a h=>ri h (k a)
theorem pO{aP:Type}{P0 P1 P2 P3 P4:aP->Prop}{G:Prop}(h:∃a0,P0 a0/\P1 a0/\P2 a0/\P3 a0/\P4 a0)(k:∀a0,P0 a0->P1 a0->P2 a0->P3 a0->P4 a0->G):G:=h.elim fun a h=>BP h (k a)
theorem rj{aP:Type}{P0 P1 P2 P3 P4 P5:aP->Prop}{G:Prop}(h:∃a0,P0 a0/\P1 a0/\P2 a0/\P3 a0/\P4 a0/\P5 a0)(k:∀a0,P0 a0->P1 a0->P2 a0->P3 a0->P4 a0->P5 a0->G):G:=h.elim fun a h=>Pq h (k a)
theorem fU{aP bz:Type}{P0:aP->bz->Prop}{G:Prop}(h:∃a0 a1,P0 a0 a1)(k:∀a0 a1,P0 a0 a1->G):G:=h.elim fun a h=>aK h (k a)
theorem eu{aP bz:Type}{P0 P1:aP->bz->Prop}{G:Prop}(h:∃a0 a1,P0 a0 a1/\P1 a0 a1)(k:∀a0 a1,P0 a0 a1->P1 a0 a1->G):G:=h.elim fun a h=>aD h (k a)
theorem cM{aP bz:Type}{P0 P1 P2:aP->bz->Prop}{G:Prop}(h:∃a0 a1,P0 a0 a1/\P1 a0 a1/\P2 a0 a1)(k:∀a0 a1,P0 a0 a1->P1 a0 a1->P2 a0 a1->G):G:=h.elim fun a h=>gT h (k a)
theorem vw{aP bz:Type}{P0 P1 P2 P3:aP->bz->Prop}{G:Prop}(h:∃a0 a1,P0 a0 a1/\P1 a0 a1/\P2 a0 a1/\P3 a0 a1)(k:∀a0 a1,P0 a0 a1->P1 a0 a1->P2 a0 a1->P3 a0 a1->G):G:=h.elim fun a h=>iQ h (k a)
theorem HL{aP bz:Type}{P0 P1 P2 P3 P4:aP->bz->Prop}{G:Prop}(h:∃a0 a1,P0 a0 a1/\P1 a0 a1/\P2 a0 a1/\P3 a0 a1/\P4 a0 a1)(k:∀a0 a1,P0 a0 a1->P1 a0 a1->P2 a0 a1->P3 a0 a1->P4 a0 a1->G):G:=h.elim fun a h=>pO h (k a)
theorem BQ{aP bz:Type}{P0 P1 P2 P3 P4 P5:aP->bz->Prop}{G:Prop}(h:∃a0 a1,P0 a0 a1/\P1 a0 a1/\P2 a0 a1/\P3 a0 a1/\P4 a0 a1/\P5 a0 a1)(k:∀a0 a1,P0 a0 a1->P1 a0 a1->P2 a0 a1->P3 a0 a1->P4 a0 a1->P5 a0 a1->G):G:=h.elim fun a h=>rj h (k a)
theorem vx{aP bz cG:Type}{P0:aP->bz->cG->Prop}{G:Prop}(h:∃a0 a1 a2,P0 a0 a1 a2)(k:∀a0 a1 a2,P0 a0 a1 a2->G):G:=h.elim fun a h=>fU h (k a)
theorem rk{aP bz cG:Type}{P0 P1:aP->bz->cG->Prop}{G:Prop}(h:∃a0 a1 a2,P0 a0 a1 a2/\P1 a0 a1 a2)(k:∀a0 a1 a2,P0 a0 a1 a2->P1 a0 a1 a2->G):G:=h.elim fun a h=>eu h (k a)
theorem nT{aP bz cG:Type}{P0 P1 P2:aP->bz->cG->Prop}{G:Prop}(h:∃a0 a1 a2,P0 a0 a1 a2/\P1 a0 a1 a2/\P2 a0 a1 a2)(k:∀a0 a1 a2,P0 a0 a1 a2->P1 a0 a1 a2->P2 a0 a1 a2->G):G:=h.elim fun a h=>cM h (k a)
theorem jD{aP bz cG:Type}{P0 P1 P2 P3:aP->bz->cG->Prop}{G:Prop}(h:∃a0 a1 a2,P0 a0 a1 a2/\P1 a0 a1 a2/\P2 a0 a1 a2/\P3 a0 a1 a2)(k:∀a0 a1 a2,P0 a0 a1 a2->P1 a0 a1 a2->P2 a0 a1 a2->P3 a0 a1 a2->G):G:=h.elim fun a h=>vw h (k a)
theorem vy{aP bz cG:Type}{P0 P1 P2 P3 P4:aP->bz->cG->Prop}{G:Prop}(h:∃a0 a1 a2,P0 a0 a1 a2/\P1 a0 a1 a2/\P2 a0 a1 a2/\P3 a0 a1 a2/\P4 a0 a1 a2)(k:∀a0 a1 a2,P0 a0 a1 a2->P1 a0 a1 a2->P2 a0 a1 a2->P3 a0 a1 a2->P4 a0 a1 a2->G):G:=h.elim fun a h=>HL h (k a)
theorem HM{aP bz cG fV:Type}{P0:aP->bz->cG->fV->Prop}{G:Prop}(h:∃a0 a1 a2 a3,P0 a0 a1 a2 a3)(k:∀a0 a1 a2 a3,P0 a0 a1 a2 a3->G):G:=h.elim fun a h=>vx h (k a)
theorem ua{aP bz cG fV:Type}{P0 P1:aP->bz->cG->fV->Prop}{G:Prop}(h:∃a0 a1 a2 a3,P0 a0 a1 a2 a3/\P1 a0 a1 a2 a3)(k:∀a0 a1 a2 a3,P0 a0 a1 a2 a3->P1 a0 a1 a2 a3->G):G:=h.elim fun a h=>rk h (k a)
theorem rl{aP bz cG fV:Type}{P0 P1 P2:aP->bz->cG->fV->Prop}{G:Prop}(h:∃a0 a1 a2 a3,P0 a0 a1 a2 a3/\P1 a0 a1 a2 a3/\P2 a0 a1 a2 a3)(k:∀a0 a1 a2 a3,P0 a0 a1 a2 a3->P1 a0 a1 a2 a3->P2 a0 a1 a2 a3->G):G:=h.elim fun a h=>nT h (k a)
theorem ub{aP bz cG fV:Type}{P0 P1 P2 P3:aP->bz->cG->fV->Prop}{G:Prop}(h:∃a0 a1 a2 a3,P0 a0 a1 a2 a3/\P1 a0 a1 a2 a3/\P2 a0 a1 a2 a3/\P3 a0 a1 a2 a3)(k:∀a0 a1 a2 a3,P0 a0 a1 a2 a3->P1 a0 a1 a2 a3->P2 a0 a1 a2 a3->P3 a0 a1 a2 a3->G):G:=h.elim fun a h=>jD h (k a)
theorem vz{aP bz cG fV:Type}{P0 P1 P2 P3 P4:aP->bz->cG->fV->Prop}{G:Prop}(h:∃a0 a1 a2 a3,P0 a0 a1 a2 a3/\P1 a0 a1 a2 a3/\P2 a0 a1 a2 a3/\P3 a0 a1 a2 a3/\P4 a0 a1 a2 a3)(k:∀a0 a1 a2 a3,P0 a0 a1 a2 a3->P1 a0 a1 a2 a3->P2 a0 a1 a2 a3->P3 a0 a1 a2 a3->P4 a0 a1 a2 a3->G):G:=h.elim fun a h=>vy h (k a)
theorem HN{aP bz cG fV vA:Type}{P0:aP->bz->cG->fV->vA->Prop}{G:Prop}(h:∃a0 a1 a2 a3 a4,P0 a0 a1 a2 a3 a4)(k:∀a0 a1 a2 a3 a4,P0 a0 a1 a2 a3 a4->G):G:=h.elim fun a h=>HM h (k a)
theorem BR{aP bz cG fV vA:Type}{P0 P1 P2:aP->bz->cG->fV->vA->Prop}{G:Prop}(h:∃a0 a1 a2 a3 a4,P0 a0 a1 a2 a3 a4/\P1 a0 a1 a2 a3 a4/\P2 a0 a1 a2 a3 a4)(k:∀a0 a1 a2 a3 a4,P0 a0 a1 a2 a3 a4->P1 a0 a1 a2 a3 a4->P2 a0 a1 a2 a3 a4->G):G:=h.elim fun a h=>rl h (k a)
theorem HO{aP bz cG fV vA WD:Type}{P0 P1 P2:aP->bz->cG->fV->vA->WD->Prop}{G:Prop}(h:∃a0 a1 a2 a3 a4 a5,P0 a0 a1 a2 a3 a4 a5/\P1 a0 a1 a2 a3 a4 a5/\P2 a0 a1 a2 a3 a4 a5)(k:∀a0 a1 a2 a3 a4 a5,P0 a0 a1 a2 a3 a4 a5->P1 a0 a1 a2 a3 a4 a5->P2 a0 a1 a2 a3 a4 a5->G):G:=h.elim fun a h=>BR h (k a)
theorem aZ{P0 P1:Prop} (h0:P0)(h1:P1):P0/\P1:=⟨h0,h1⟩
theorem lP{P0 P1 P2:Prop} (h0:P0)(h1:P1)(h2:P2):P0/\P1/\P2:=⟨h0,h1,h2⟩
theorem Pu{P0 P1 P2 P3:Prop} (h0:P0)(h1:P1)(h2:P2)(h3:P3):P0/\P1/\P2/\P3:=⟨h0,h1,h2,h3⟩
theorem vB{P0 P1 P2 P3 P4:Prop} (h0:P0)(h1:P1)(h2:P2)(h3:P3)(h4:P4):P0/\P1/\P2/\P3/\P4:=⟨h0,h1,h2,h3,h4⟩
theorem bU{aP:Type}{P0:aP->Prop}(a0:aP)(h0:P0 a0):∃a0,P0 a0:=⟨a0,h0⟩
theorem i12{aP:Type}{P0 P1:aP->Prop}(a0:aP)(h0:P0 a0)(h1:P1 a0):∃a0,P0 a0/\P1 a0:=⟨a0,h0,h1⟩
theorem nU{aP:Type}{P0 P1 P2:aP->Prop}(a0:aP)(h0:P0 a0)(h1:P1 a0)(h2:P2 a0):∃a0,P0 a0/\P1 a0/\P2 a0:=⟨a0,h0,h1,h2⟩
theorem vC{aP:Type}{P0 P1 P2 P3:aP->Prop}(a0:aP)(h0:P0 a0)(h1:P1 a0)(h2:P2 a0)(h3:P3 a0):∃a0,P0 a0/\P1 a0/\P2 a0/\P3 a0:=⟨a0,h0,h1,h2,h3⟩
theorem HP{aP:Type}{P0 P1 P2 P3 P4:aP->Prop}(a0:aP)(h0:P0 a0)(h1:P1 a0)(h2:P2 a0)(h3:P3 a0)(h4:P4 a0):∃a0,P0 a0/\P1 a0/\P2 a0/\P3 a0/\P4 a0:=⟨a0,h0,h1,h2,h3,h4⟩
theorem Pw{aP:Type}{P0 P1 P2 P3 P4 P5 P6:aP->Prop}(a0:aP)(h0:P0 a0)(h1:P1 a0)(h2:P2 a0)(h3:P3 a0)(h4:P4 a0)(h5:P5 a0)(h6:P6 a0):∃a0,P0 a0/\P1 a0/\P2 a0/\P3 a0/\P4 a0/\P5 a0/\P6 a0:=⟨a0,h0,h1,h2,h3,h4,h5,h6⟩
theorem HQ{aP bz:Type}{P0:aP->bz->Prop}(a0:aP)(a1:bz)(h0:P0 a0 a1):∃a0 a1,P0 a0 a1:=⟨a0,a1,h0⟩
theorem nr{aP bz:Type}{P0 P1:aP->bz->Prop}(a0:aP)(a1:bz)(h0:P0 a0 a1)(h1:P1 a0 a1):∃a0 a1,P0 a0 a1/\P1 a0 a1:=⟨a0,a1,h0,h1⟩
theorem nt{aP bz:Type}{P0 P1 P2:aP->bz->Prop}(a0:aP)(a1:bz)(h0:P0 a0 a1)(h1:P1 a0 a1)(h2:P2 a0 a1):∃a0 a1,P0 a0 a1/\P1 a0 a1/\P2 a0 a1:=⟨a0,a1,h0,h1,h2⟩
theorem HR{aP bz:Type}{P0 P1 P2 P3:aP->bz->Prop}(a0:aP)(a1:bz)(h0:P0 a0 a1)(h1:P1 a0 a1)(h2:P2 a0 a1)(h3:P3 a0 a1):∃a0 a1,P0 a0 a1/\P1 a0 a1/\P2 a0 a1/\P3 a0 a1:=⟨a0,a1,h0,h1,h2,h3⟩
theorem lg{aP bz:Type}{P0 P1 P2 P3 P4 P5:aP->bz->Prop}(a0:aP)(a1:bz)(h0:P0 a0 a1)(h1:P1 a0 a1)(h2:P2 a0 a1)(h3:P3 a0 a1)(h4:P4 a0 a1)(h5:P5 a0 a1):∃a0 a1,P0 a0 a1/\P1 a0 a1/\P2 a0 a1/\P3 a0 a1/\P4 a0 a1/\P5 a0 a1:=⟨a0,a1,h0,h1,h2,h3,h4,h5⟩
theorem Px{aP bz cG:Type}{P0 P1:aP->bz->cG->Prop}(a0:aP)(a1:bz)(a2:cG)(h0:P0 a0 a1 a2)(h1:P1 a0 a1 a2):∃a0 a1 a2,P0 a0 a1 a2/\P1 a0 a1 a2:=⟨a0,a1,a2,h0,h1⟩
theorem WE{aP bz cG:Type}{P0 P1 P2:aP->bz->cG->Prop}(a0:aP)(a1:bz)(a2:cG)(h0:P0 a0 a1 a2)(h1:P1 a0 a1 a2)(h2:P2 a0 a1 a2):∃a0 a1 a2,P0 a0 a1 a2/\P1 a0 a1 a2/\P2 a0 a1 a2:=⟨a0,a1,a2,h0,h1,h2⟩
theorem Py{aP bz cG:Type}{P0 P1 P2 P3:aP->bz->cG->Prop}(a0:aP)(a1:bz)(a2:cG)(h0:P0 a0 a1 a2)(h1:P1 a0 a1 a2)(h2:P2 a0 a1 a2)(h3:P3 a0 a1 a2):∃a0 a1 a2,P0 a0 a1 a2/\P1 a0 a1 a2/\P2 a0 a1 a2/\P3 a0 a1 a2:=⟨a0,a1,a2,h0,h1,h2,h3⟩
theorem Pz{aP bz cG:Type}{P0 P1 P2 P3 P4:aP->bz->cG->Prop}(a0:aP)(a1:bz)(a2:cG)(h0:P0 a0 a1 a2)(h1:P1 a0 a1 a2)(h2:P2 a0 a1 a2)(h3:P3 a0 a1 a2)(h4:P4 a0 a1 a2):∃a0 a1 a2,P0 a0 a1 a2/\P1 a0 a1 a2/\P2 a0 a1 a2/\P3 a0 a1 a2/\P4 a0 a1 a2:=⟨a0,a1,a2,h0,h1,h2,h3,h4⟩
theorem WG{aP bz cG fV:Type}{P0 P1 P2 P3:aP->bz->cG->fV->Prop}(a0:aP)(a1:bz)(a2:cG)(a3:fV)(h0:P0 a0 a1 a2 a3)(h1:P1 a0 a1 a2 a3)(h2:P2 a0 a1 a2 a3)(h3:P3 a0 a1 a2 a3):∃a0 a1 a2 a3,P0 a0 a1 a2 a3/\P1 a0 a1 a2 a3/\P2 a0 a1 a2 a3/\P3 a0 a1 a2 a3:=⟨a0,a1,a2,a3,h0,h1,h2,h3⟩
theorem WH{aP bz cG fV:Type}{P0 P1 P2 P3 P4:aP->bz->cG->fV->Prop}(a0:aP)(a1:bz)(a2:cG)(a3:fV)(h0:P0 a0 a1 a2 a3)(h1:P1 a0 a1 a2 a3)(h2:P2 a0 a1 a2 a3)(h3:P3 a0 a1 a2 a3)(h4:P4 a0 a1 a2 a3):∃a0 a1 a2 a3,P0 a0 a1 a2 a3/\P1 a0 a1 a2 a3/\P2 a0 a1 a2 a3/\P3 a0 a1 a2 a3/\P4 a0 a1 a2 a3:=⟨a0,a1,a2,a3,h0,h1,h2,h3,h4⟩
theorem ud{M:M0}{A:Am}{α:Type}{Q:α->Ab->Prop}{E:Value->Ab->Prop}{s:Ab}{c:Prop}[Decidable c]{a b:Le α}(h:c)(k:An M A a Q E s):An M A (if c then a else b) Q E s:=(if_pos h).symm▸k
theorem iR{M:M0}{A:Am}{α:Type}{Q:α->Ab->Prop}{E:Value->Ab->Prop}{s:Ab}{c:Prop}[Decidable c]{a b:Le α}(h:¬c)(k:An M A b Q E s):An M A (if c then a else b) Q E s:=(if_neg h).symm▸k
theorem wI{α:Type}{c:Prop}[Decidable c]{a b r:α}(h:c)(k:a=r):(if c then a else b)=r:=(if_pos h).trans k
theorem ea{α:Type}{c:Prop}[Decidable c]{a b r:α}(h:¬c)(k:b=r):(if c then a else b)=r:=(if_neg h).trans k
theorem zZ{α β:Type}{x:Option α}{a:α}{f:α->Option β}{r:Option β}(h:x=some a)(k:f a=r):x.bind f=r:=h▸k
theorem aq.ind{h:As}{M:List PV->List Value->List Addr->Prop}(h0:M [] [] [])(h1:∀{p:PV}{v:Value}{n:List Addr}{ps:List PV}{vs:List Value}{ns:List Addr},VR h p v n->aq h ps vs ns->M ps vs ns->M (p::ps) (v::vs) (n++ns)){ps:List PV}{vs:List Value}{ns:List Addr}(x:aq h ps vs ns):M ps vs ns:=
 aq.rec (motive_1:=fun _ _ _ _=>True) (motive_2:=fun a b c _=>M a b c) trivial (fun _=>trivial) (fun _ _=>trivial) (fun _ _=>trivial) (fun _=>trivial) (fun _ _ _=>trivial) h0 (fun a b _ d=>h1 a b d) x
noncomputable def HS(h h':As)(ns:List Addr):Prop:=∀a∈ns,∀o,h.get? a=some o->h'.get? a=some o
theorem VR.on{h h':As}{p:PV}{v:Value}{ns:List Addr}(x:VR h p v ns):(∀a∈ns,∀o,h.get? a=some o->h'.get? a=some o)->VR h' p v ns:=
 VR.rec (motive_1:=fun p v ns _=>HS h h' ns->VR h' p v ns) (motive_2:=fun p v ns _=>HS h h' ns->aq h' p v ns) (fun _=> .none) (fun b _=> .bool b) (fun i t _=> .int i t) (fun x t _=> .str x t) (fun v _=> .obj v)
  (fun hl _ f k=> .list (hl.at fun o e=>k _ (Ag ..) o e) (f fun a ha o e=>k a (Ad _ ha) o e)) (fun _=> .nil) (fun _ _ f g k=> .cons (f fun a ha o e=>k a (A6 _ ha) o e) (g fun a ha o e=>k a (A1 _ ha) o e)) x
theorem aq.on{h h':As}{p:List PV}{v:List Value}{ns:List Addr}(x:aq h p v ns):(∀a∈ns,∀o,h.get? a=some o->h'.get? a=some o)->aq h' p v ns:=
 aq.ind (M:=fun p v ns=>HS h h' ns->aq h' p v ns) (fun _=> .nil) (fun hv _ g k=> .cons (hv.on fun a ha o e=>k a (A6 _ ha) o e) (g fun a ha o e=>k a (A1 _ ha) o e)) x
theorem VR.sub{h h':As}{p:PV}{v:Value}{ns:List Addr}(x:VR h p v ns)(k:Sub h h'):VR h' p v ns:=x.on fun a _ o e=>k a o e
theorem aq.sub{h h':As}{p:List PV}{v:List Value}{ns:List Addr}(x:aq h p v ns)(k:Sub h h'):aq h' p v ns:=x.on fun a _ o e=>k a o e
theorem aq.length{h:As}{ps:List PV}{vs:List Value}{ns:List Addr}(x:aq h ps vs ns):vs.length=ps.length:=
 x.ind (M:=fun ps vs _=>vs.length=ps.length) rfl fun _ _ ih=>congrArg (· +1) ih
theorem aq.append{h:As}{ps qs:List PV}{vs us:List Value}{ns ms:List Addr}(x:aq h ps vs ns)(y:aq h qs us ms):aq h (ps++qs) (vs++us) (ns++ms):=
 x.ind (M:=fun ps vs ns=>aq h (ps++qs) (vs++us) (ns++ms)) y fun hv _ ih=>by
  rw[Br];exact .cons hv ih
theorem aq.one{h:As}{p:PV}{v:Value}{n:List Addr}(x:VR h p v n):aq h [p] [v] n:=by
 have:=aq.cons x (aq.nil (h:=h));rwa[Dr]at this
theorem aq.get{h:As}{ps:List PV}{vs:List Value}{ns:List Addr}(x:aq h ps vs ns):∀{i:Nat} {p:PV},ps[i]?=some p->∃v n,vs[i]?=some v/\VR h p v n/\∀a∈n,a∈ns:=
 x.ind (M:=fun ps vs ns=>∀{i:Nat} {p:PV},ps[i]?=some p->∃v n,vs[i]?=some v/\VR h p v n/\∀a∈n,a∈ns) (fun e=>nn e) fun hv hs ih i p e=>by
  cases i with
  |zero=>exact Aa e▸⟨_,_,rfl,hv,fun a ha=>A6 _ ha⟩
  |succ i=>
   refine cM (ih (i:=i) e) fun v n e1 e2 e3=>?_
   exact nt v n e1 e2 (fun a ha=>A1 _ (e3 a ha))
theorem aq.pick{h:As}{ps:List PV}{vs:List Value}{ns:List Addr}(x:aq h ps vs ns):∀is:List Nat,∃ms,aq h (is.filterMap (ps[·]?)) (is.filterMap (vs[·]?)) ms/\∀a∈ms,a∈ns
 |[]=>⟨[], .nil,fun _ h=>nomatch h⟩
 |i::is=>by
  refine aD (aq.pick x is) fun ms e1 e2=>?_
  cases hp:ps[i]? with
  |none=>
   have hv:vs[i]?=Jo:=by
    rw[List.getElem?_eq_none_iff]at hp⊢;refine af x.length ?_;exact hp
   (refine af Di ?_;refine af Di ?_;refine af hp ?_;refine af hv ?_);exact⟨ms,e1,e2⟩
  |some p=>
   refine cM (x.get hp) fun v n e3 e4 e5=>?_
   refine af Di ?_
   refine af Di ?_
   refine af hp ?_
   refine af e3 ?_
   exact i12 (n++ms) (.cons e4 e1) (fun a ha=>(A9.mp ha).elim (e5 a) (e2 a))
theorem aq.take{h:As}{ps:List PV}{vs:List Value}{ns:List Addr}(x:aq h ps vs ns):∀k:Nat,∃ms,aq h (ps.take k) (vs.take k) ms/\∀a∈ms,a∈ns:=
 x.ind (M:=fun ps vs ns=>∀k:Nat,∃ms,aq h (ps.take k) (vs.take k) ms/\∀a∈ms,a∈ns) (fun k=>⟨[],by rw[List.take_nil,List.take_nil];exact .nil,fun _ h=>h⟩) fun hv _ ih k=>by
  cases k with
  |zero=>exact⟨[], .nil,fun a h=>(Ar h).elim⟩
  |succ k=>
   refine aD (ih k) fun ms e1 e2=>?_
   exact i12 _ (.cons hv e1) (fun a ha=>A9.mpr ((A9.mp ha).imp id (e2 a)))
theorem aq.drop{h:As}{ps:List PV}{vs:List Value}{ns:List Addr}(x:aq h ps vs ns):∀k:Nat,∃ms,aq h (ps.drop k) (vs.drop k) ms/\∀a∈ms,a∈ns:=
 x.ind (M:=fun ps vs ns=>∀k:Nat,∃ms,aq h (ps.drop k) (vs.drop k) ms/\∀a∈ms,a∈ns) (fun k=>⟨[],by rw[List.drop_nil,List.drop_nil];exact .nil,fun _ h=>h⟩) fun hv hs ih k=>by
  cases k with
  |zero=>exact⟨_, .cons hv hs,fun _ h=>h⟩
  |succ k=>
   refine aD (ih k) fun ms e1 e2=>?_
   exact i12 _ e1 (fun a ha=>A1 _ (e2 a ha))
noncomputable def PV.int?:PV->Option Int
 | .int i=>some i
 |_=>Jo
noncomputable def PV.dg:PV->Option (List Nat)
 | .str s=>some s
 |_=>Jo
noncomputable def PV.ints:List PV->Option (List Int)
 |[]=>some []
 |p::r=>p.int?.bind fun i=>(PV.ints r).map (i:: ·)
noncomputable def PV.strs:List PV->Option (List (List Nat))
 |[]=>some []
 |p::r=>p.dg.bind fun i=>(PV.strs r).map (i:: ·)
noncomputable def WI(h:As)(v:Value)(ns:List Addr):PV->Prop
 | .none=>v= .none/\ns=[]
 | .bool b=>v= .bool b/\ns=[]
 | .int i=>∃t,v= .int i t/\ns=[]
 | .str y=>∃t,v= .str ⟨y.toArray⟩ t/\ns=[]
 | .obj u=>v=u/\ns=[]
 | .list ps=>∃a vs ms,h.PlainList a (Eu vs)/\aq h ps vs ms/\v= .ref a/\ns=a::ms
theorem VR.inv{h:As}{p:PV}{v:Value}{ns:List Addr}(x:VR h p v ns):WI h v ns p:=
 x.casesOn ⟨rfl,rfl⟩ (fun _=>⟨rfl,rfl⟩) (fun _ t=>⟨t,rfl,rfl⟩) (fun _ t=>⟨t,rfl,rfl⟩) (fun _=>⟨rfl,rfl⟩) fun hl hs=>⟨_,_,_,hl,hs,rfl,rfl⟩
noncomputable def WJ(h:As)(vs:List Value)(ns:List Addr):List PV->Prop
 |[]=>vs=[]/\ns=[]
 |p::ps=>∃v n us ms,VR h p v n/\aq h ps us ms/\vs=v::us/\ns=n++ms
theorem aq.inv{h:As}{p:List PV}{v:List Value}{ns:List Addr}(x:aq h p v ns):WJ h v ns p:=
 x.casesOn ⟨rfl,rfl⟩ fun hv hs=>⟨_,_,_,_,hv,hs,rfl,rfl⟩
theorem two{α β:Type}{a a':α}{b b':β}{M:α->β->Prop}(h1:a=a')(h2:b=b')(k:M a' b'):M a b:=h1▸h2▸k
@[elab_as_elim] theorem VR.lQ {h:As} {v:Value} {ns:List Addr} {M:Value->List Addr->Prop} (x:VR h .none v ns) (k:M .none []):M v ns:=two x.inv.1 x.inv.2 k
@[elab_as_elim] theorem VR.pP {h:As} {b:Bool} {v:Value} {ns:List Addr} {M:Value->List Addr->Prop} (x:VR h (.bool b) v ns) (k:M (.bool b) []):M v ns:=two x.inv.1 x.inv.2 k
@[elab_as_elim] theorem VR.ec {h:As} {i:Int} {v:Value} {ns:List Addr} {M:Value->List Addr->Prop} (x:VR h (.int i) v ns) (k:∀t,M (.int i t) []):M v ns:=x.inv.elim fun t e=>two e.1 e.2 (k t)
@[elab_as_elim] theorem VR.eS {h:As} {y:List Nat} {v:Value} {ns:List Addr} {M:Value->List Addr->Prop} (x:VR h (.str y) v ns) (k:∀t,M (.str ⟨y.toArray⟩ t) []):M v ns:=x.inv.elim fun t e=>two e.1 e.2 (k t)
@[elab_as_elim] theorem VR.WK {h:As} {u v:Value} {ns:List Addr} {M:Value->List Addr->Prop} (x:VR h (.obj u) v ns) (k:M u []):M v ns:=two x.inv.1 x.inv.2 k
@[elab_as_elim] theorem VR.cP {h:As} {ps:List PV} {v:Value} {ns:List Addr} {M:Value->List Addr->Prop} (x:VR h (.list ps) v ns) (k:∀a vs ms,h.PlainList a vs.toArray->aq h ps vs ms->M (.ref a) (a::ms)):M v ns:=
 let⟨a,vs,ms,h1,h2,e1,e2⟩:=x.inv;two e1 e2 (k a vs ms h1 h2)
@[elab_as_elim] theorem aq.lR {h:As} {vs:List Value} {ns:List Addr} {M:List Value->List Addr->Prop} (x:aq h [] vs ns) (k:M [] []):M vs ns:=two x.inv.1 x.inv.2 k
@[elab_as_elim] theorem aq.ff {h:As} {p:PV} {ps:List PV} {vs:List Value} {ns:List Addr} {M:List Value->List Addr->Prop} (x:aq h (p::ps) vs ns) (k:∀v n us ms,VR h p v n->aq h ps us ms->M (v::us) (n++ms)):M vs ns:=
 let⟨v,n,us,ms,h1,h2,e1,e2⟩:=x.inv;two e1 e2 (k v n us ms h1 h2)
@[elab_as_elim] theorem aq.lS {h:As} {p:PV} {vs:List Value} {ns:List Addr} {M:List Value->Prop} (x:aq h [p] vs ns) (k:∀v,VR h p v ns->M [v]):M vs:=
 x.ff (M:=fun vs ms=>(∀v,VR h p v ms->M [v])->M vs) (fun v n _ _ hv hs=>hs.lR (M:=fun us ms=>(∀v,VR h p v (n++ms)->M [v])->M (v::us)) fun k=>k v (by rw[Dr];exact hv)) k
theorem PV.ee{p:PV}{a:Int}(e:p.int?=some a):p= .int a:=by
 cases p with
 |int b=>exact congrArg PV.int (Aa e)
 |_=>exact nn e
theorem PV.bJ{p:PV}{a:List Nat}(e:p.dg=some a):p= .str a:=by
 cases p with
 |str b=>exact congrArg PV.str (Aa e)
 |_=>exact nn e
@[elab_as_elim] theorem VR.dq {h:As} {p:PV} {v:Value} {ns:List Addr} {a:Int} {M:Value->List Addr->Prop} (x:VR h p v ns) (e:p.int?=some a) (k:∀t,M (.int a t) []):M v ns:=VR.ec (M:=M) (PV.ee e▸x) k
@[elab_as_elim] theorem VR.hW {h:As} {p:PV} {v:Value} {ns:List Addr} {a:List Nat} {M:Value->List Addr->Prop} (x:VR h p v ns) (e:p.dg=some a) (k:∀t,M (.str ⟨a.toArray⟩ t) []):M v ns:=VR.eS (M:=M) (PV.bJ e▸x) k
theorem aq.ints{h:As}{ps:List PV}{vs:List Value}{ns:List Addr}(x:aq h ps vs ns):∀{is:List Int},PV.ints ps=some is->Ij vs is:=
 x.ind (M:=fun ps vs _=>∀{is:List Int},PV.ints ps=some is->Ij vs is) (fun e=>Aa e▸ .nil) fun hv _ ih is e=>by
  refine aD (Gd.mp e) fun i e1 e2=>?_
  refine aD (By.mp e2) fun r e3 bL=>?_
  subst bL
  exact hv.dq (M:=fun v _=>Ij (v::_) _) e1 fun t=> .cons i t (ih e3)
noncomputable def mkStr(x:List Nat):Str:=⟨x.toArray⟩
theorem aq.strs{h:As}{ps:List PV}{vs:List Value}{ns:List Addr}(x:aq h ps vs ns):∀{is:List (List Nat)},PV.strs ps=some is->StrsAre vs (is.map mkStr):=
 x.ind (M:=fun ps vs _=>∀{is:List (List Nat)},PV.strs ps=some is->StrsAre vs (is.map mkStr)) (fun e=>Aa e▸ .nil) fun hv _ ih is e=>by
  refine aD (Gd.mp e) fun i e1 e2=>?_
  refine aD (By.mp e2) fun r e3 bL=>?_
  subst bL
  exact hv.hW (M:=fun v _=>StrsAre (v::_) _) e1 fun t=> .cons _ t (ih e3)
theorem VR.aM{h:As}{p:PV}{v:Value}{ns:List Addr}(x:VR h p v ns)(hp:p.bo=true):ns=[]:=by
 cases p with
 |list l=>exact ft hp
 |int i=>exact x.inv.elim fun _ e=>e.2
 |str i=>exact x.inv.elim fun _ e=>e.2
 |_=>exact x.inv.2
theorem aq.aM{h:As}{ps:List PV}{vs:List Value}{ns:List Addr}(x:aq h ps vs ns):ps.all PV.bo=true->ns=[]:=
 x.ind (M:=fun ps _ ns=>ps.all PV.bo=true->ns=[]) (fun _=>rfl) fun hv _ ih hp=>by rw[hv.aM (B3.mp hp).1,ih (B3.mp hp).2];rfl
theorem VR.bO{h h':As}{p:PV}{v:Value}{ns:List Addr}(x:VR h p v ns)(hp:p.bo=true):VR h' p v []:=(x.aM hp▸x).on fun a ha=>(Ar ha).elim
@[elab_as_elim] theorem so {α:Type} {a b:α} {M:α->Prop} (e:some a=some b) (k:M a):M b:=Aa e▸k
@[elab_as_elim] theorem sp {α β:Type} {a a':α} {b b':β} {M:α->β->Prop} (e:some (a,b)=some (a',b')) (k:M a b):M a' b':=two (M:=M) (congrArg Prod.fst (Aa e)).symm (congrArg Prod.snd (Aa e)).symm k
structure pQ(g g':Array Hu):Prop where
 get:∀(i:Nat) x,g[i]?=some x->g'[i]?=some x
 bare:Ml g->Ml g'
theorem pQ.rfl'(g:Array Hu):pQ g g:=⟨fun _ _ e=>e,fun x=>x⟩
theorem pQ.trans{a b c:Array Hu}(x:pQ a b)(y:pQ b c):pQ a c:=⟨fun i o e=>y.get i o (x.get i o e),fun h=>y.bare (x.bare h)⟩
inductive KG(s s':Ab):Prop
 |mk (h:As) (t:Nat) (g:Array Hu) (e:s'={s with heap:=h,toks:=t,gens:=g}) (k:Sub s.heap h) (x:pQ s.gens g):KG s s'
theorem jY(s:Ab):KG s s:=⟨s.heap,s.toks,s.gens,rfl,fun _ _ e=>e, .rfl' _⟩
theorem zT{s s' bC:Ab}(a:KG s s')(b:KG s' bC):KG s bC:=by
 obtain⟨h,t,g,rfl,k,x⟩:=a
 obtain⟨h',t',g',rfl,k',x'⟩:=b
 exact⟨h',t',g',rfl,fun b o e=>k' b o (k b o e),x.trans x'⟩
theorem wC{s s':Ab}(a:KG s s'):Sub s.heap s'.heap:=by obtain⟨h,t,g,rfl,k,_⟩:=a;exact k
theorem dI(s:Ab)(t:Nat):KG s {s with toks:=t}:=⟨s.heap,t,s.gens,rfl,fun _ _ e=>e, .rfl' _⟩
theorem jE(s:Ab)(h:As)(t:Nat)(k:Sub s.heap h):KG s {s with heap:=h,toks:=t}:=⟨h,t,s.gens,rfl,k, .rfl' _⟩
theorem rm(s:Ab)(o:Obj)(t:Nat):KG s {s with heap:=s.heap.push o,toks:=t}:=⟨_,t,s.gens,rfl,fun _ _ e=>Ak _ e, .rfl' _⟩
structure eW(h:As)(ns:List Addr):Prop where
 nodup:ns.Nodup
 new:∀a∈ns,h.get? a=none
theorem eW.nil(h:As):eW h []:=⟨E5,fun _ h=>nomatch h⟩
theorem eW.back{h h':As}{ns:List Addr}(x:eW h' ns)(k:Sub h h'):eW h ns:=⟨x.nodup,fun a ha=>by
 cases e:h.get? a with
 |none=>rfl
 |some o=>rw[<-k a o e];exact x.new a ha⟩
section
set_option genSizeOf false
set_option genInjectivity false
mutual
inductive PE where
 |lit (v:PV)
 |var (i:Nat)
 |bin (op:Il) (a b:PE)
 |neg (a:PE)
 |cmp (op:CmpOp) (a b:PE)
 |ia (a b:PE)
 |gy (a b:PE)
 |ite (c:PT) (a b:PE)
 |idx (a i:PE)
 |bS (a:PE) (lo hi st:PO)
 |list (es:jZ)
 |comp (elt:PE) (src:nu) (ifs:ew)
 |bi (f:Nat) (es:jZ)
 |me (f:Nat) (o:PE) (es:jZ)
 |uc (k:Nat) (es:jZ)
inductive PO where
 |no
 |yes (e:PE)
inductive jZ where
 |nil
 |cons (e:PE) (r:jZ)
inductive PT where
 |cmp (op:CmpOp) (a b:PE)
 |not (t:PT)
 |and (ts:ew)
 |or (ts:ew)
 |eT (e:PE)
inductive ew where
 |nil
 |cons (t:PT) (r:ew)
inductive nu where
 |items (e:PE)
 |cv (e:PE)
 |enum (e:PE)
 |zip (a b:PE)
end
noncomputable def ag:Nat:=16777216
noncomputable def wV(i:Int):Bool:=decide (-9223372036854775808<=i)&&decide (i<9223372036854775808)
noncomputable def pR:PV->Option Bool
 | .none=>some false
 | .bool b=>some b
 | .int i=>some (i !=0)
 | .str s=>if s.length<=ag then some (!s.isEmpty)else none
 | .list l=>if l.length<=ag then some (!l.isEmpty)else none
 | .obj _=>none
noncomputable def PV.dr:PV->Option (List PV)
 | .list l=>some l
 |_=>Jo
noncomputable def PV.bool?:PV->Option Bool
 | .bool b=>some b
 |_=>Jo
noncomputable def PV.isNone:PV->Bool
 | .none=>true
 |_=>false
noncomputable def one{α:Type}:List α->Option α
 |[a]=>some a
 |_=>none
noncomputable def PB:PV->PV->Option PV
 | .int a,y=>y.int?.bind fun b=>some (.int (a+b))
 | .str a,y=>y.dg.bind fun b=>if a.length+b.length<=ag then some (.str (a++b))else none
 | .list a,y=>y.dr.bind fun b=>if a.length+b.length<=ag then some (.list (a++b))else none
 |_,_=>none
noncomputable def PC:PV->PV->Option PV
 | .int a,y=>y.int?.bind fun b=>if wV a&&wV b then some (.int (a*b))else none
 | .str a,y=>y.int?.bind fun n=>if wV n&&decide (a.length*n.toNat<=ag)then some (.str (Ai n.toNat a).flatten)else none
 | .list a,y=>y.int?.bind fun n=>if a.length==1&&PV.bo (a.headD .none)&&decide (0<=n)&&decide (n<=1000)then some (.list (Ai n.toNat (a.headD .none)))else none
 |_,_=>none
noncomputable def ue(f:Int->Int->Option Int)(x y:PV):Option PV:=x.int?.bind fun a=>y.int?.bind fun b=>(f a b).map .int
noncomputable def BS(op:Il)(x y:PV):Option PV:=match op with
 | .Add=>PB x y
 | .Mult=>PC x y
 | .Sub=>ue (fun a b=>some (a-b)) x y
 | .FloorDiv=>ue (fun a b=>if decide (0<b)&&decide (b<1073741824)then some (a/b)else none) x y
 | .Mod=>ue (fun a b=>if decide (0<b)then some (a%b)else none) x y
 | .Pow=>ue (fun a n=>if decide (a=2)&&decide (0<=n)&&decide (n<=60)then some (2^n.toNat)else none) x y
 |_=>none
noncomputable def PD:PV->PV->Option Bool
 | .int a,y=>y.int?.map fun b=>a==b
 | .str a,y=>y.dg.map fun b=>a==b
 |_,_=>none
noncomputable def uf:List PV->List PV->Option Bool
 |[],[]=>some true
 |a::r,b::t=>(PD a b).bind fun x=>(uf r t).map fun y=>x&&y
 |_,_=>none
noncomputable def vEq:PV->PV->Option Bool
 | .int a,y=>y.int?.map fun b=>a==b
 | .str a,y=>y.dg.map fun b=>a==b
 | .list a,y=>y.dr.bind fun b=>if a.length==b.length then uf a b else some false
 |_,_=>none
noncomputable def vD(f:Int->Int->Bool)(x y:PV):Option Bool:=x.int?.bind fun a=>y.int?.map (f a)
noncomputable def HT(x y:PV):Option Bool:=x.dg.bind fun s=>(one s).bind fun c=>y.dg.map fun t=>t.contains c
noncomputable def WL:PV->PV->Option Bool
 | .int k,y=>y.dr.bind fun l=>(PV.ints l).map fun is=>is.any (· ==k)
 |x,y=>HT x y
noncomputable def HU(x y:PV):Option Bool:=x.bool?.bind fun a=>y.bool?.map fun b=>a==b
noncomputable def WM:PV->PV->Option Bool
 | .none,y=>if y.isNone then some true else none
 | .int _,y=>if y.isNone then some false else none
 |x,y=>HU x y
noncomputable def ug(op:CmpOp)(x y:PV):Option Bool:=match op with
 | .Eq=>vEq x y
 | .NotEq=>(vEq x y).map (!·)
 | .Lt=>vD (fun a b=>decide (a<b)) x y
 | .LtE=>vD (fun a b=>decide (a<=b)) x y
 | .Gt=>vD (fun a b=>decide (b<a)) x y
 | .GtE=>vD (fun a b=>decide (b<=a)) x y
 | .In=>WL x y
 | .NotIn=>(HT x y).map (!·)
 | .Is=>WM x y
 | .IsNot=>(HU x y).map (!·)
noncomputable def uh:PV->PV->Option PV
 | .str s, .int i=>if wV i then((Gq i s.length).bind fun j=>s[j]?).map fun c=> .str [c]else none
 | .list l, .int i=>if wV i then(Gq i l.length).bind fun j=>l[j]? else none
 |_,_=>none
noncomputable def HV:Option PV->Option (Option Int)
 |none=>some none
 |some .none=>some none
 |some (.int i)=>some (some i)
 |_=>none
noncomputable def BU:PV->Option Int->Option Int->Option Int->Option PV
 | .str s,lo,hi,none=>if s.length<=ag then some (.str ((s.drop (Cr lo s.length)).take (Gu hi s.length-Cr lo s.length)))else none
 | .list l,lo,hi,none=>if l.length<=ag then some (.list ((l.drop (Cr lo l.length)).take (Gu hi l.length-Cr lo l.length)))else none
 | .list l,lo,hi,some k=>if k==0||decide (ag<l.length)then none else some (.list ((Hn (Cd lo hi (some k) l.length).1 (Cd lo hi (some k) l.length).2.1 (Cd lo hi (some k) l.length).2.2).filterMap (l[·]?)))
 |_,_,_,_=>none
noncomputable def pS(n:Int):List PV:=(Ae n.toNat).map fun(i:Nat)=>PV.int (i:Int)
noncomputable def rn(a b c:Int):List PV:=(Ae (if a<b then((b-a-1)/c+1).toNat else 0)).map fun(i:Nat)=>PV.int (a+(i:Int)*c)
noncomputable def HW:List Int->Option Int
 |[]=>none
 |a::r=>some (r.foldl min a)
noncomputable def PF:PV->Option PV
 | .str s=>if s.length<=ag then some (.int s.length)else none
 | .list l=>if l.length<=ag then some (.int l.length)else none
 |_=>none
noncomputable def HX(f:List Int->Option Int)(p:PV):Option PV:=p.dr.bind fun l=>(PV.ints l).bind fun is=>(f is).map .int
noncomputable def ui(f:Nat)(ps:List PV):Option PV:=match f with
 |0=>(one ps).bind PF
 |1=>(one ps).bind (HX fun is=>some is.sum)
 |2=>(one ps).bind (HX HW)
 |3=>(PV.ints ps).bind fun is=>match is with|[a,b]=>some (.int (if b<a then b else a))|_=>none
 |4=>(PV.ints ps).bind fun is=>(one is).map fun a=> .int (if a<0 then -a else a)
 |5=>(PV.ints ps).bind fun is=>match is with|[a,b,c]=>if decide (0<=a)&&decide (a<=1000)&&decide (0<=b)&&decide (b<=1000)&&decide (0<c)&&decide (c<=1000)then some (.list (rn a b c))else none|_=>none
 |_=>none
noncomputable def lh(sep:List Nat):List (List Nat)->List Nat
 |[]=> []
 |[x]=>x
 |x::r=>x++sep++lh sep r
noncomputable def WN(l:List PV):PV->Option PV
 | .int k=>(PV.ints l).bind fun is=>if is.contains k&&decide (is.length<=ag)then some (.int (is.idxOf k))else none
 | .str k=>(PV.strs l).bind fun is=>if is.contains k&&decide (is.length<=ag)then some (.int (is.idxOf k))else none
 |_=>none
noncomputable def PG(c:Nat):Option PV:=if c<128 then some (.str [if 65<=c&&c<=90 then c+32 else c])else none
noncomputable def nV(f:Nat)(x:PV)(ps:List PV):Option PV:=match f with
 |0=>x.dg.bind fun sep=>(one ps).bind fun y=>y.dr.bind fun l=>(PV.strs l).bind fun xs=>if(xs.map B1).sum+xs.length*sep.length<=ag then some (.str (lh sep xs))else none
 |1=>x.dg.bind fun s=>(one s).bind fun c=>if ps.isEmpty then PG c else none
 |2=>x.dg.bind fun s=>(one ps).bind fun y=>y.dg.bind fun t=>(one t).map fun c=> .int (s.count c)
 |3=>x.dr.bind fun l=>(one ps).bind (WN l)
 |_=>none
noncomputable def ro:List PV->List PV->List (List PV)
 |a::r,b::t=> [a,b]::ro r t
 |_,_=> []
noncomputable def j0(i:Nat):List PV->List (List PV)
 |[]=> []
 |a::r=> [.int (i:Int),a]::j0 (i+1) r
noncomputable def j9:PV->Option (List (List PV))
 | .list l=>some (l.map fun x=> [x])
 | .str s=>some (s.map fun c=> [.str [c]])
 |_=>none
noncomputable abbrev Uc:=Nat->List PV->Option PV
noncomputable def wX(f:List PV->Option (Option PV)):List (List PV)->Option (List PV)
 |[]=>some []
 |x::r=>match f x with
  |some (some y)=>(wX f r).map (y:: ·)
  |some none=>wX f r
  |none=>none
noncomputable def PE.makes:PE->Bool
 | .list _=>true
 | .bS ..=>true
 | .bin ..=>true
 | .bi ..=>true
 |_=>false
noncomputable def fresh:PE->PV->Bool
 | .comp elt _ _,p=>match p with| .list ps=>ps.all (fresh elt)|_=>true
 |e,p=>match p with| .list ps=>e.makes&&ps.all PV.bo|_=>true
section
variable(U:Uc)
mutual
noncomputable def ev:PE->List (Option PV)->Option PV
 | .lit v,_=>some v
 | .var i,σ=>(σ[i]?).bind id
 | .bin op a b,σ=>(ev a σ).bind fun x=>(ev b σ).bind fun y=>BS op x y
 | .neg a,σ=>(ev a σ).bind fun x=>match x with| .int i=>some (.int (-i))|_=>none
 | .cmp op a b,σ=>(ev a σ).bind fun x=>(ev b σ).bind fun y=>(ug op x y).map .bool
 | .ia a b,σ=>(ev a σ).bind fun x=>(pR x).bind fun t=>if t then ev b σ else some x
 | .gy a b,σ=>(ev a σ).bind fun x=>(pR x).bind fun t=>if t then some x else ev b σ
 | .ite c a b,σ=>(aU c σ).bind fun t=>if t then ev a σ else ev b σ
 | .idx a i,σ=>(ev a σ).bind fun x=>(ev i σ).bind fun y=>uh x y
 | .bS a lo hi st,σ=>(ev a σ).bind fun x=>(uj lo σ).bind fun l=>(uj hi σ).bind fun h=>(uj st σ).bind fun k=>BU x l h k
 | .list es,σ=>(uk es σ).bind fun l=>if l.length<=ag then some (.list l)else none
 | .comp elt src ifs,σ=>(gz src σ).bind fun items=>if items.length<=ag then(wX (fun it=>(lj ifs (σ++it.map some)).bind fun ok=>if ok then(ev elt (σ++it.map some)).bind fun y=>if fresh elt y then some (some y)else none else some none) items).map .list else none
 | .bi f es,σ=>(uk es σ).bind (ui f)
 | .me f o es,σ=>(ev o σ).bind fun x=>(uk es σ).bind (nV f x)
 | .uc k es,σ=>(uk es σ).bind (U k)
noncomputable def uj:PO->List (Option PV)->Option (Option Int)
 | .no,_=>some none
 | .yes e,σ=>(ev e σ).bind fun x=>HV (some x)
noncomputable def uk:jZ->List (Option PV)->Option (List PV)
 | .nil,_=>some []
 | .cons e r,σ=>(ev e σ).bind fun x=>(uk r σ).map (x:: ·)
noncomputable def aU:PT->List (Option PV)->Option Bool
 | .cmp op a b,σ=>(ev a σ).bind fun x=>(ev b σ).bind fun y=>ug op x y
 | .not t,σ=>(aU t σ).map (!·)
 | .and ts,σ=>vE true ts σ
 | .or ts,σ=>vE false ts σ
 | .eT e,σ=>(ev e σ).bind pR
noncomputable def vE(u:Bool):ew->List (Option PV)->Option Bool
 | .nil,_=>some u
 | .cons t r,σ=>(aU t σ).bind fun b=>if b==u then vE u r σ else some (!u)
noncomputable def lj:ew->List (Option PV)->Option Bool
 | .nil,_=>some true
 | .cons t r,σ=>(aU t σ).bind fun b=>if b then lj r σ else some false
noncomputable def gz:nu->List (Option PV)->Option (List (List PV))
 | .items e,σ=>(ev e σ).bind j9
 | .cv e,σ=>(ev e σ).bind fun x=>match x with| .int n=>if wV n&&decide (n<=16777216)then some ((pS n).map fun x=> [x])else none|_=>none
 | .enum e,σ=>(ev e σ).bind fun x=>match x with| .list l=>some (j0 0 l)|_=>none
 | .zip a b,σ=>(ev a σ).bind fun x=>(ev b σ).bind fun y=>match x,y with| .list l, .list m=>some (ro l m)|_,_=>none
end
end
set_option genInjectivity true
end
set_option genSizeOf false
set_option genInjectivity false
structure de(D:Nat)(A:Am):Prop where
 hh:A.handled=none
 depth:A.depth+D<recursionLimit
 units:A.units+8*D+60<cLine
structure bP where
 prog:Program
 w:Cn
 Wd:As->Prop
 mono:∀{h h':As},Wd h->Sub h h'->Wd h'
 mg:Str->Option Value
 mb:Str->Option Value
 g:∀{h:As},Wd h->h.Ns mainGlobals mg
 b:∀{h:As},Wd h->h.Ns builtinsNs mb
 D:Nat
 U:Uc
 i5:Nat->Addr
 nW:∀{h:As} (k:Nat),(∃ps r,U k ps=some r)->Wd h->∃o fd,h.get? (i5 k)=some o/\o.data= .func fd
 call:∀(k:Nat) (A:Am) (s:Ab) (ps:List PV) (vs:List Value) (ns:List Addr) (r:PV),de D A->Wd s.heap->aq s.heap ps vs ns->U k ps=some r->
  Cs (Aj prog w) A (.call (.ref (i5 k)) ⟨vs,[]⟩) (fun res s'=>∃v ms,res= .ok (.ret v)/\KG s s'/\VR s'.heap r v ms) s
structure Cx where
 kn:List (Str×Cy)
 Γ:List (Str×Nat)
 n:Nat
noncomputable def Acc(env:Ea)(h:As)(x:Str)(v:Value):Prop:=
 (env.kindOf x=some .local/\∃m,h.Ns env.locals m/\m x=some v)\/
 ((env.kindOf x=some .cell\/env.kindOf x=some .free)/\∃c,env.cells.lookup x=some c/\h.IsCell c (some v))
theorem Acc.sub{env:Ea}{h h':As}{x:Str}{v:Value}(a:Acc env h x v)(k:Sub h h'):Acc env h' x v:=by
 rcases a with⟨hk,m,hn,hm⟩|⟨hk,c,hc,hv⟩
 ·exact .inl ⟨hk,m,hn.keeps k,hm⟩
 ·exact .inr ⟨hk,c,hc,hv.keeps k⟩
noncomputable def vF(k:Cy):Bool:=k== .local||k== .cell||k== .free
structure Pre(W:bP)(C:Cx)(env:Ea)(A:Am)(σ:List (Option PV))(s:Ab):Prop where
 kind:env.scope.kind= .function
 names:env.scope.names=C.kn
 gl:env.globals=mainGlobals
 bl:env.builtins=builtinsNs
 room:de W.D A
 len:σ.length=C.n
 rd:∀x i p k,C.kn.lookup x=some k->vF k=true->C.Γ.lookup x=some i->σ[i]?=some (some p)->∃v ns,Acc env s.heap x v/\VR s.heap p v ns
 wd:W.Wd s.heap
 eI:∀x k,C.kn.lookup x=some k->k= .cell\/k= .free->∃c,env.cells.lookup x=some c
theorem Pre.kp{W:bP}{C:Cx}{env:Ea}{A:Am}{σ:List (Option PV)}{s s':Ab}(P:Pre W C env A σ s)(k:KG s s'):Pre W C env A σ s':=
 {P with
  rd:=fun x i p kk e1 e2 e3 e4=>by
   refine eu (P.rd x i p kk e1 e2 e3 e4) fun v ns a r=>?_
   exact nr v ns (a.sub (wC k)) (r.sub (wC k))
  wd:=W.mono P.wd (wC k)}
inductive Got(s:Ab)(b:Bool)(p:PV)(v:Value)(s':Ab):Prop
 |mk (k:KG s s') (ns:List Addr) (r:VR s'.heap p v ns) (f:b=true->eW s.heap ns):Got s b p v s'
theorem Got.bo{s s':Ab}{b:Bool}{p:PV}{v:Value}(k:KG s s')(r:VR s'.heap p v []):Got s b p v s':=⟨k,[],r,fun _=>eW.nil _⟩
noncomputable def PH(W:bP)(env:Ea)(A:Am)(E:Value->Ab->Prop)(s:Ab)(e:Expr)(b:Bool)(p:PV):Prop:=An (Aj W.prog W.w) A (eval e env) (Got s b p) E s
noncomputable def WO(W:bP)(env:Ea)(A:Am)(E:Value->Ab->Prop)(s:Ab)(e:Expr)(b:Bool):Prop:=An (Aj W.prog W.w) A (L7 e env (eval e env)) (fun b' s'=>b'=b/\KG s s') E s
section
variable(W:bP)(C:Cx)
noncomputable def ax(e:Expr)(pe:PE):Prop:=∀env A E s σ p,Pre W C env A σ s->ev W.U pe σ=some p->PH W env A E s e (fresh pe p) p
noncomputable def dB(e:Expr)(t:PT):Prop:=∀env A E s σ b,Pre W C env A σ s->aU W.U t σ=some b->WO W env A E s e b
noncomputable def kb(e:Option Expr)(o:PO):Prop:=∀env A E s σ k,Pre W C env A σ s->uj W.U o σ=some k->An (Aj W.prog W.w) A (evalPart e env) (fun v s'=>Kd v k/\KG s s') E s
noncomputable def ll(es:List Expr)(WQ:jZ):Prop:=∀env A E s σ ps,Pre W C env A σ s->uk W.U WQ σ=some ps->∀pos,An (Aj W.prog W.w) A (spliced (Ke pos (Bz es env))) (fun vs s'=>KG s s'/\∃ns,aq s'.heap ps vs ns) E s
end
section
variable{W:bP}{C:Cx}
inductive OB{α β:Type}(x:Option α)(f:α->Option β)(y:β):Prop
 |mk (a:α) (h:x=some a) (k:f a=some y):OB x f y
inductive OM{α β:Type}(x:Option α)(f:α->β)(y:β):Prop
 |mk (a:α) (h:x=some a) (k:f a=y):OM x f y
theorem fE{α β:Type}{x:Option α}{f:α->Option β}{y:β}(h:x.bind f=some y):OB x f y:=let⟨a,h1,h2⟩:=Gd.mp h;⟨a,h1,h2⟩
theorem oB{α β:Type}{x:Option α}{f:α->Option β}{y:β}{G:Prop}(h:x.bind f=some y)(k:∀a,x=some a->f a=some y->G):G:=(Gd.mp h).elim fun a q=>k a q.1 q.2
theorem dk{α β:Type}{x:Option α}{f:α->β}{y:β}(h:x.map f=some y):OM x f y:=let⟨a,h1,h2⟩:=By.mp h;⟨a,h1,h2⟩
theorem ax.cInt{i:Int}{k:Nat}{pos:B7}:ax W C (.Constant (.int i) k pos) (.lit (.int i)):=fun env A E s σ p P e=>by
 obtain rfl:=Aa e;exact E6 (.bo (dI ..) (.int ..))
theorem ax.cStr{x:Str}{l:List Nat}{k:Nat}{pos:B7}(h:x=mkStr l):ax W C (.Constant (.str x) k pos) (.lit (.str l)):=fun env A E s σ p P e=>by
 obtain rfl:=Aa e;subst h;exact E7 (.bo (dI ..) (.str ..))
theorem ax.cBool{b:Bool}{k:Nat}{pos:B7}:ax W C (.Constant (.bool b) k pos) (.lit (.bool b)):=fun env A E s σ p P e=>by
 obtain rfl:=Aa e;exact wpAny_Constant_bool (.bo (jY _) (.bool _))
theorem ax.vG{k:Nat}{pos:B7}:ax W C (.Constant .none k pos) (.lit .none):=fun env A E s σ p P e=>by
 obtain rfl:=Aa e;exact wpAny_Constant_none (.bo (jY _) .none)
theorem yP{prog:Program}{w:Cn}{A:Am}{E:Value->Ab->Prop}{s:Ab}{env:Ea}{x:Str}{v:Value}{Q:Value->Ab->Prop}(hk:env.scope.kind= .function)(a:Acc env s.heap x v)(h:Q v s)
  (hn:(x==("__classdict__" :Str))=false):An (Aj prog w) A (loadName env x) Q E s:=by
 rcases a with⟨hl,m,hm,hv⟩|⟨hl|hl,c,hc,hv⟩
 ·exact wpAny_loadName_local hk hl hm hv h
 ·exact wpAny_loadName_cell hk hl hc hv h
 ·exact wpAny_loadName_free hk hl hc hv h hn
theorem ax.var{x:Str}{i:Nat}{pos:B7}{k:Cy}(hk:C.kn.lookup x=some k)(hb:vF k=true)(hi:C.Γ.lookup x=some i)
  (hd:(x==("__debug__" :Str))=false) (hn:(x==("__classdict__" :Str))=false):ax W C (.Name x pos) (.var i):=fun env A E s σ p P e=>by
 refine oB e fun q e1 e2=>?_
 have e2:q=some p:=e2
 subst e2
 refine eu (P.rd x i p k hk hb hi e1) fun v ns a r=>?_
 refine Bp (yP P.kind a ⟨jY _,ns,r,fun hf=>?_⟩ hn) hd
 have hp:p.bo=true:=by cases p<;>first|rfl|exact ft hf
 rw[r.aM hp];exact eW.nil _
theorem ax.dq{x:Str}{i:Int}{t:J3}{pos:B7}(hk:C.kn.lookup x=some .globalImplicit)(hg:W.mg x=some (.int i t))(hd:(x==("__debug__" :Str))=false):
  ax W C (.Name x pos) (.lit (.int i)):=fun env A E s σ p P e=>by
 obtain rfl:=Aa e
 refine Bb P.kind (by unfold Be;rw[P.names];exact hk) (D4 ?_ hg (.bo (jY _) (.int ..))) hd
 rw[P.gl];exact W.g P.wd
theorem zM{prog:Program}{w:Cn}{A:Am}{E:Value->Ab->Prop}{α:Type}{s:Ab}{t:Le α}{f:α->Ab->Prop}{Q:α->Ab->Prop}(h:An (Aj prog w) A t f E s)(k:∀a s',f a s'->Q a s'):
  An (Aj prog w) A t Q E s:=B2 h k fun _ _ e=>e
theorem WR{a b:Int}(ha:wV a=true)(hb:wV b=true):IntMulOk a b:=by
 unfold wV at ha hb
 simp only[Ao,decide_eq_true_eq]at ha hb
 have q:Fy a<=64:=intBits_le_64 (by lia) (by exact yK)
 unfold IntMulOk
 have:decide (Fy a>shortFactorBits)=false:=decide_eq_false (by refine(?_:¬(Fy a>64));exact G7 ‹_›)
 rw[this];simp
theorem HY(a b:List Nat):(⟨a.toArray⟩:Str)++⟨b.toArray⟩=⟨(a++b).toArray⟩:=by
 refine(?_:Str.mk (a.toArray++b.toArray)=_)
 simp
theorem WS{a b:List Nat}{t u:J3}{s s₀:Ab}{bb:Bool}(k:KG s₀ s)(hl:a.length+b.length<=ag):
  (if((⟨a.toArray⟩:Str).length==0)=true then Made.val (.str ⟨b.toArray⟩ u)else if((⟨b.toArray⟩:Str).length==0)=true then Made.val (.str ⟨a.toArray⟩ t)else Made.str (⟨a.toArray⟩++⟨b.toArray⟩)).post (Got s₀ bb (.str (a++b))) s:=by
 have la:(⟨a.toArray⟩:Str).length=a.length:=by simp[B8]
 have lb:(⟨b.toArray⟩:Str).length=b.length:=by simp[B8]
 refine af la ?_
 refine af lb ?_
 by_cases h1:(a.length==0)=true
 ·refine af (if_pos h1) ?_
  have:a=[]:=by simpa using h1
  subst this
  exact Got.bo k (.str ..)
 ·refine af (if_neg h1) ?_
  by_cases h2:(b.length==0)=true
  ·refine af (if_pos h2) ?_
   have:b=[]:=by simpa using h2
   subst this
   refine af (Dr ..) ?_
   exact Got.bo k (.str ..)
  ·refine af (if_neg h2) ?_
   refine aZ ?_ ?_
   ·refine af (HY ..) ?_;simp only[B8,A5,Ax]
    refine af Bt ?_;exact hl
   ·refine af (HY ..) ?_;exact Got.bo (zT k (dI ..)) (.str ..)
theorem PI(a:List Nat):∀(n:Nat) (acc:Array Nat),(Ai n a.toArray).foldl (· ++ ·) acc=acc++(Ai n a).flatten.toArray
 |0,acc=>by simp
 |n+1,acc=>by
  refine af Bk ?_
  refine af Ff ?_
  refine af (PI a n ..) ?_
  refine af Bk ?_
  refine af Fn ?_
  refine af L8 ?_
  simp
theorem WT(a:List Nat)(n:Int):Txt.mul ⟨a.toArray⟩ n=⟨(Ai n.toNat a).flatten.toArray⟩:=by
 unfold Txt.mul
 split
 ·rename_i h
  have:n.toNat=0:=by lia
  refine af this ?_;rfl
 ·rename_i h
  split
  ·rename_i h2
   simp only[El,beq_iff_eq]at h2
   rcases h2 with h2|h2
   ·subst h2;simp
   ·have:a=[]:=by simpa[B8]using h2
    subst this
    have:∀k:Nat,(Ai k ([]:List Nat)).flatten=[]:=fun k=>by simp
    exact af (this ..) rfl
  ·refine af (PI ..) ?_;simp
end
set_option genInjectivity true
theorem HZ{i:Int}:wV i=true↔ -9223372036854775808<=i/\i<9223372036854775808:=by
 unfold wV;simp only[Ao,decide_eq_true_eq]
section
variable{prog:Program}{w:Cn}{A:Am}{E:Value->Ab->Prop}{s s₀:Ab}{bb:Bool}
theorem WU{l:Addr}{items:Array Value}{x:Int}{u:J3}{Q:Value->Ab->Prop}(hl:s.heap.PlainList l items)
  (PJ: -(2^63:Int)<=x) (hhi:x<2^63) (hsz:items.size*x.toNat<=2^24)
  (h:Q (.ref s.heap.objs.size) {s with heap:=s.heap.push {cls:= .type "list",data:= .seq (List.foldl (fun x1 x2=>x1++x2) #[] (Ai (if items.isEmpty=true then 0 else x.toNat) items))} }):
  An (Aj prog w) A (Lg .Mult (.ref l) (.int x u)) Q E s:=by
 refine aK hl fun k hl=>?_
 exact wpAny_binaryOp_repeat_ref (T:= "list") (U:= "int") (by decide) ⟨_,hl,rfl⟩ (fun s'=>typeIs_int s' x u) noFill_list_mul F.fills_int_mul F.slot_int_rmul repeat_list F.slot_int_index.lookup
  (Je F.slot_int_rmul (typeIs_int s x u) F.entry_int_rmul (F.args_int_rmul_2 _ _) (int___rmul___int_list x u l items k)
   ⟨hl,rfl,⟨_,hl,rfl⟩,Je F.slot_list_mul ⟨_,hl,rfl⟩ F.entry_list_mul (F.args_list_mul_2 _ _)
    (AutoListH.list___mul___list_int_3 l items k x u (by simp[Builtin.List.listFitsIndex];lia) (by exact yR) (by simp[Builtin.List.listTooLong,sizeLine];assumption))
    ⟨hl,h⟩⟩)
theorem PK(v:Value):∀(n:Nat) (acc:Array Value),(Ai n #[v]).foldl (· ++ ·) acc=acc++(Ai n v).toArray
 |0,acc=>by simp
 |n+1,acc=>by
  refine af Bk ?_
  refine af Ff ?_
  refine af (PK v n ..) ?_
  refine af Bk ?_
  refine af L8 ?_
  apply Array.toList_inj.mp
  simp
theorem WV(v:Value)(n:Nat):List.foldl (fun x1 x2=>x1++x2) #[] (Ai (if([v]:List Value).toArray.isEmpty=true then 0 else n) ([v]:List Value).toArray)=(Ai n v).toArray:=by
 rw[if_neg (by simp)]
 have:=PK v n #[]
 simpa using this
theorem aq.replicate{h:As}{p:PV}{v:Value}(x:VR h p v []):∀n:Nat,aq h (Ai n p) (Ai n v) []
 |0=> .nil
 |n+1=>by rw[Bk,Bk];exact aq.cons x (aq.replicate x n)
theorem VR.kc{h:As}{ps:List PV}{vs:List Value}{ns:List Addr}(x:aq h ps vs ns):VR (h.push {cls:= .type "list",data:= .seq vs.toArray}) (.list ps) (.ref h.objs.size) (h.objs.size::ns):=
 .list ⟨0,A0 _ rfl⟩ (x.sub fun _ _ e=>Ak _ e)
theorem WW(h:As):h.get? h.objs.size=none:=by
 cases e:h.get? h.objs.size with
 |none=>rfl
 |some o=>exact absurd (Bo e) (Hg _)
theorem vH{h:As}{a:Addr}(ha:h.objs.size<=a):h.get? a=none:=by
 cases e:h.get? a with
 |none=>rfl
 |some o=>exact absurd (Bo e) (Fu.mpr ha)
theorem nv{h h':As}{a:Addr}(k:Sub h h')(x:h'.get? a=none):h.get? a=none:=by
 cases e:h.get? a with
 |none=>rfl
 |some o=>rw[k a o e]at x;exact sn x
theorem BV{ps:List PV}{vs:List Value}{ns:List Addr}(k:KG s₀ s)(x:aq s.heap ps vs ns)(hp:bb=true->ns=[]):
  Got s₀ bb (.list ps) (.ref s.heap.objs.size) {s with heap:=s.heap.push {cls:= .type "list",data:= .seq vs.toArray} }:=by
 refine⟨zT k (rm s _ s.toks),_,VR.kc x,fun hb=>?_⟩
 rw[hp hb]
 exact⟨by simp,fun a ha=>by rw[Af.mp ha];exact nv (wC k) (WW _)⟩
theorem PV.kh{p:PV}{a:Bool}(e:p.bool?=some a):p= .bool a:=by
 cases p with
 |bool b=>exact congrArg PV.bool (Aa e)
 |_=>exact nn e
theorem PV.cQ{p:PV}{a:List PV}(e:p.dr=some a):p= .list a:=by
 cases p with
 |list b=>exact congrArg PV.list (Aa e)
 |_=>exact nn e
@[elab_as_elim] theorem VR.pT {h:As} {p:PV} {v:Value} {ns:List Addr} {a:Bool} {M:Value->List Addr->Prop} (x:VR h p v ns) (e:p.bool?=some a) (k:M (.bool a) []):M v ns:=VR.pP (M:=M) (PV.kh e▸x) k
@[elab_as_elim] theorem VR.ib {h:As} {p:PV} {v:Value} {ns:List Addr} {a:List PV} {M:Value->List Addr->Prop} (x:VR h p v ns) (e:p.dr=some a) (k:∀b vs ms,h.PlainList b vs.toArray->aq h a vs ms->M (.ref b) (b::ms)):M v ns:=VR.cP (M:=M) (PV.cQ e▸x) k
theorem nX{α:Type}{l:List α}{a:α}(e:one l=some a):l=[a]:=
 match l,e with
 |[_],e=>congrArg (fun x=> [x]) (Aa e)
 |[],e=>nn e
 |_::_::_,e=>nn e
theorem rq{α:Type}{c:Prop}[Decidable c]{x:Option α}{r:α}(e:(if c then x else none)=some r):c/\x=some r:=by
 by_cases h:c
 ·rw[if_pos h]at e;exact⟨h,e⟩
 ·rw[if_neg h]at e;exact nn e
theorem oI{α:Type}{c:Prop}[Decidable c]{x:Option α}{r:α}{G:Prop}(e:(if c then x else none)=some r)(k:c->x=some r->G):G:=k (rq e).1 (rq e).2
theorem WX{α:Type}{c:Prop}[Decidable c]{x:Option α}{r:α}(e:(if c then none else x)=some r):¬c/\x=some r:=by
 by_cases h:c
 ·rw[if_pos h]at e;exact nn e
 ·rw[if_neg h]at e;exact⟨h,e⟩
theorem b2{a b:Bool}(h:(a&&b)=true):a=true/\b=true:=B3.mp h
@[elab_as_elim] theorem vI {h:As} {x y r:PV} {v u:Value} {ns ms:List Addr} {f:Int->Int->Option Int} {M:PV->Value->Value->Prop} (hx:VR h x v ns) (hy:VR h y u ms) (e:ue f x y=some r)
  (k:∀a b c t t',f a b=some c->M (.int c) (.int a t) (.int b t')):M r v u:=by
 refine oB e fun a e1 e=>?_
 refine oB e fun b e2 e=>?_
 obtain⟨c,e3,rfl⟩:=dk e
 exact hx.dq e1 (M:=fun v _=>M _ v u) fun t=>hy.dq e2 (M:=fun u _=>M _ _ u) fun t'=>k a b c t t' e3
theorem WY{a:List Nat}{n:Int}(h1:n.toNat*a.length<=ag\/a.length*n.toNat<=ag)(hn:0<n):¬((2^63-1:Int)/n<a.length):=fun h5=>by
 have h6:=(Int.ediv_lt_iff_lt_mul hn).mp h5
 have hl:a.length*n.toNat<=16777216:=h1.elim (fun h=>by rw[Nat.mul_comm];exact h) id
 have e1:((a.length*n.toNat:Nat):Int)<=16777216:=Er.mpr hl
 rw[Int.natCast_mul,I1 (I9 hn)]at e1
 lia
theorem WZ{x y r:PV}{v u:Value}{ns ms:List Addr}(k:KG s₀ s)(hx:VR s.heap x v ns)(hy:VR s.heap y u ms)(e:PB x y=some r)
  (IA:bb=true->∀l,r= .list l->l.all PV.bo=true):An (Aj prog w) A (Lg .Add v u) (Got s₀ bb r) E s:=by
 cases x with
 |int a=>
  refine hx.ec fun t=>?_
  refine oB e fun b e1 e2=>?_
  obtain rfl:=Aa e2
  exact hy.dq e1 fun t=>P.add_int (.bo (zT k (dI ..)) (.int ..))
 |str a=>
  refine hx.eS fun t=>?_
  refine oB e fun b e1 e2=>?_
  refine oI e2 fun hl e2=>?_
  obtain rfl:=Aa e2
  exact hy.hW e1 fun t=>P.add_str (WS k hl)
 |list W0=>
  refine hx.cP fun a1 W6 W7 ny um=>?_
  refine oB e fun b e1 e2=>?_
  refine oI e2 fun hl e2=>?_
  obtain rfl:=Aa e2
  refine hy.ib e1 fun c us ms nz uo=>?_
  refine aK ny fun n1 h1=>?_
  refine aK nz fun n2 h2=>?_
  refine P.add_list h1 h2 ?_ (by(refine af A5 ?_;refine af A5 ?_;refine af um.length ?_;refine af uo.length ?_;refine af Bt ?_);exact hl)
  refine af (List.append_toArray ..) ?_
  exact BV k (aq.append um uo) fun hb=>aq.aM (aq.append um uo) (IA hb _ rfl)
 |_=>exact nn e
theorem W8{x y r:PV}{v u:Value}{ns ms:List Addr}(k:KG s₀ s)(hx:VR s.heap x v ns)(hy:VR s.heap y u ms)(e:PC x y=some r):An (Aj prog w) A (Lg .Mult v u) (Got s₀ bb r) E s:=by
 cases x with
 |int a=>
  refine hx.ec fun t=>?_
  refine oB e fun b e1 e2=>?_
  refine oI e2 fun hl e2=>?_
  obtain rfl:=Aa e2
  exact hy.dq e1 fun t=>P.mul_int (.bo (zT k (dI ..)) (.int ..)) (WR (b2 hl).1 (b2 hl).2)
 |str a=>
  refine hx.eS fun t=>?_
  refine oB e fun n e1 e2=>?_
  refine oI e2 fun hl e2=>?_
  obtain rfl:=Aa e2
  have BW:=of_decide_eq_true (b2 hl).2
  have la:(⟨a.toArray⟩:Str).length=a.length:=by simp[B8]
  refine hy.dq e1 fun t=>SB.mul ⟨?_,?_,?_⟩ fun t' k'=>?_
  ·refine ao (HZ.mp (b2 hl).1) fun h3 h4=>?_
   rw[Fo];exact⟨decide_eq_false (by exact L9.mpr yH),decide_eq_false (by exact Int.not_le.mpr yF)⟩
  ·intro h1 h2 PL
   rw[la]at PL
   by_cases hn:0<n
   ·exact WY (.inr BW) hn PL
   ·lia
  ·intro h1 h2
   refine af la ?_
   simp only[Ls,Bt];exact decide_eq_false (Fu.mpr BW)
  ·refine af (WT ..) ?_;exact .bo (zT k (dI ..)) (.str ..)
 |list W0=>
  refine hx.cP fun a1 W6 W7 bX bg=>?_
  refine oB e fun n e1 e2=>?_
  refine oI e2 fun hl e2=>?_
  obtain rfl:=Aa e2
  simp only[Ao,decide_eq_true_eq,beq_iff_eq]at hl
  refine ao hl fun bq h4=>?_
  refine ao bq fun bq h3=>?_
  obtain⟨h1,h2⟩:=bq
  refine aK (Kf.mp h1) fun p aH=>?_
  subst aH
  revert bX
  refine bg.lS fun v hv bX=>?_
  have:=hv.aM h2
  subst this
  refine hy.dq e1 fun t=>WU bX (by exact yH) (by exact yG) (by simp;exact yE) ?_
  refine af (WV ..) ?_
  exact BV k (aq.replicate hv _) fun _=>rfl
 |_=>exact nn e
theorem W9{op:Il}{x y r:PV}{v u:Value}{ns ms:List Addr}(k:KG s₀ s)(hx:VR s.heap x v ns)(hy:VR s.heap y u ms)(e:BS op x y=some r)
  (IA:bb=true->∀l,r= .list l->l.all PV.bo=true):An (Aj prog w) A (Lg op v u) (Got s₀ bb r) E s:=by
 have ki:∀{i:Int} {t:Nat},Got s₀ bb (.int i) (.int i t) {s with toks:=t+1}:= .bo (zT k (dI ..)) (.int ..)
 cases op with
 |Add=>exact WZ k hx hy e IA
 |Mult=>exact W8 k hx hy e
 |Sub=>
  refine vI hx hy e fun a b c t t' e=>?_
  obtain rfl:=Aa e
  exact P.sub_int ki
 |FloorDiv=>
  refine vI hx hy e fun a b c t t' e=>?_
  refine oI e fun hl e=>?_
  obtain rfl:=Aa e
  have h2:=of_decide_eq_true (b2 hl).1
  refine PyProof.Rows.floordiv_int (Int.ne_of_gt h2) ?_ (Or.inl (Kh (by have:=of_decide_eq_true (b2 hl).2;lia)))
  refine af (Int.fdiv_eq_ediv_of_nonneg _ (I9 h2)) ?_
  exact ki
 |Mod=>
  refine vI hx hy e fun a b c t t' e=>?_
  refine oI e fun hl e=>?_
  obtain rfl:=Aa e
  have h2:=of_decide_eq_true hl
  refine PyProof.Rows.mod_int (Int.ne_of_gt h2) ?_
  refine af (Int.fmod_eq_emod_of_nonneg _ (I9 h2)) ?_
  exact ki
 |Pow=>
  refine vI hx hy e fun a b c t t' e=>?_
  refine oI e fun hl e=>?_
  obtain rfl:=Aa e
  refine ao (b2 hl) fun hl h3=>?_
  refine ao (b2 hl) fun h1 h2=>?_
  obtain rfl:=of_decide_eq_true h1
  have h2:=of_decide_eq_true h2
  have h3:=of_decide_eq_true h3
  refine PyProof.Rows.pow_int h2 ?_ ki
  have h5:(Fy 2:Int)<=64:=Er.mpr (intBits_le_64 (by decide) (by decide))
  have h6:(Fy 2:Int)*b<=64*60:=Int.mul_le_mul h5 h3 h2 (by decide)
  exact yE
 |_=>exact nn e
end
section
variable{prog:Program}{w:Cn}{A:Am}{E:Value->Ab->Prop}{s s₀:Ab}{bb:Bool}
theorem Xa{x y:PV}{v u:Value}{ns ms:List Addr}{b:Bool}(hx:VR s.heap x v ns)(hy:VR s.heap y u ms)(e:PD x y=some b)(A':Am):M3 A' s v u b:=by
 cases hx with
 |int a t=>obtain⟨c,e1,rfl⟩:=dk e;exact hy.dq e1 fun _=>(MeetsSeq.EqGives.int _ _ _ _).at _ _
 |str a t=>obtain⟨c,e1,rfl⟩:=dk e;exact hy.hW e1 fun _=>(Kt _ _ _ _).at _ _
 |_=>exact nn e
noncomputable def BX(s:Ab)(vs us:List Value)(b:Bool):Prop:=∃e:Nat->Bool,(∀j (h1:j<vs.length) (h2:j<us.length),∀A',M3 A' s vs[j] us[j] (e j))/\(Ae vs.length).all e=b
theorem BX.cons{s:Ab}{v u:Value}{vs us:List Value}{x y:Bool}(h0:∀A',M3 A' s v u x)(h:BX s vs us y):BX s (v::vs) (u::us) (x&&y):=by
 refine aD h fun e h1 h2=>?_
 refine i12 (fun j=>Nat.casesOn j x e) (fun j=>?_) ?_
 ·cases j with
  |zero=>exact fun _ _=>h0
  |succ j=>exact fun h3 h4=>h1 j (De h3) (De h4)
 ·(refine af Bl ?_;refine af Ki ?_;refine af Ly ?_;refine af Kj ?_;refine cu h2 ?_);rfl
theorem PM:∀{xs ys:List PV} {vs us:List Value} {ns ms:List Addr} {b:Bool},aq s.heap xs vs ns->aq s.heap ys us ms->uf xs ys=some b->BX s vs us b:=by
 intro xs
 induction xs with
 |nil=>
  intro ys vs us ns ms b hx hy h
  cases ys with
  |nil=>
   refine hx.lR (hy.lR ?_)
   obtain rfl:=Aa h
   exact i12 (fun _=>true) (fun j h1=>absurd h1 (Fe _)) rfl
  |cons=>exact nn h
 |cons x xs ih=>
  intro ys vs us ns ms b hx hy h
  cases ys with
  |nil=>exact nn h
  |cons y ys=>
   refine oB h fun c e1 h=>?_
   obtain⟨d,e2,rfl⟩:=dk h
   exact hx.ff fun v n us ms hv hs=>hy.ff fun _ _ _ _ hu ht=> .cons (Xa hv hu e1) (ih hs ht e2)
noncomputable def GB(s₀:Ab)(b:Bool)(r:Value)(s':Ab):Prop:=r= .bool b/\KG s₀ s'
theorem Xb{x y:PV}{v u:Value}{ns ms:List Addr}{b:Bool}(k:KG s₀ s)(hx:VR s.heap x v ns)(hy:VR s.heap y u ms)(hu:A.units<cLine)(e:vEq x y=some b):An (Aj prog w) A (Lq .Eq v u) (GB s₀ b) E s:=by
 cases hx with
 |int a t=>obtain⟨c,e1,rfl⟩:=dk e;exact hy.dq e1 fun _=>P.eq_int ⟨rfl,k⟩
 |str a t=>obtain⟨c,e1,rfl⟩:=dk e;exact hy.hW e1 fun _=>P.eq_str ⟨rfl,k⟩
 | @list _ ps _ _ hl hs=>
  refine oB e fun c e1 e=>?_
  refine hy.ib e1 fun d us ms fg dt=>?_
  have l1:=hs.length
  have l2:=dt.length
  by_cases hlen:(ps.length==c.length)=true
  ·rw[if_pos hlen]at e
   refine aD (PM hs dt e) fun f h1 h2=>?_
   refine SeqAt.eq_listAt hl.isList fg.isList (by simp[l1,l2,beq_iff_eq.mp hlen]) hu (e:=f) (fun j h3 h4=>?_) ⟨?_,k⟩
   ·simpa using h1 j (by exact h3) (by exact h4) A.in1
   ·rw[A5,h2]
  ·rw[if_neg hlen]at e
   obtain rfl:=Aa e
   refine SeqAt.eq_list_lengthsAt hl.isList fg.isList ?_ hu ⟨rfl,k⟩
   rw[A5,A5,l1,l2,bne_iff_ne]
   exact fun q=>hlen (beq_iff_eq.mpr q)
 |_=>exact nn e
theorem Xd{x y:PV}{v u:Value}{ns ms:List Addr}{b:Bool}(k:KG s₀ s)(hx:VR s.heap x v ns)(hy:VR s.heap y u ms)(hu:A.units<cLine)(e:vEq x y=some b):An (Aj prog w) A (Lq .NotEq v u) (GB s₀ !b) E s:=by
 cases hx with
 |int a t=>obtain⟨c,e1,rfl⟩:=dk e;exact hy.dq e1 fun _=>P.ne_int ⟨rfl,k⟩
 |str a t=>obtain⟨c,e1,rfl⟩:=dk e;exact hy.hW e1 fun _=>P.ne_str ⟨rfl,k⟩
 | @list _ ps _ _ hl hs=>
  refine oB e fun c e1 e=>?_
  refine hy.ib e1 fun d us ms fg dt=>?_
  have l1:=hs.length
  have l2:=dt.length
  by_cases hlen:(ps.length==c.length)=true
  ·rw[if_pos hlen]at e
   refine aD (PM hs dt e) fun f h1 h2=>?_
   refine Mm (SeqAt.RcNeAt.lists hl.isList fg.isList (by simp[l1,l2,beq_iff_eq.mp hlen]) hu (e:=f) (fun j h3 h4=>?_)) ⟨?_,k⟩
   ·simpa using h1 j (by exact h3) (by exact h4) A.in1
   ·rw[A5,h2]
  ·rw[if_neg hlen]at e
   obtain rfl:=Aa e
   refine Mm (SeqAt.RcNeAt.lists_lengths hl.isList fg.isList ?_ hu) ⟨rfl,k⟩
   rw[A5,A5,l1,l2,bne_iff_ne]
   exact fun q=>hlen (beq_iff_eq.mpr q)
 |_=>exact nn e
@[elab_as_elim] theorem BY {h:As} {x y:PV} {v u:Value} {ns ms:List Addr} {f:Int->Int->Bool} {b:Bool} {M:Bool->Value->Value->Prop} (hx:VR h x v ns) (hy:VR h y u ms) (e:vD f x y=some b)
  (k:∀a b t t',M (f a b) (.int a t) (.int b t')):M b v u:=by
 refine oB e fun a e1 e=>?_
 obtain⟨c,e2,rfl⟩:=dk e
 exact hx.dq e1 (M:=fun v _=>M _ v u) fun t=>hy.dq e2 (M:=fun u _=>M _ _ u) fun t'=>k a c t t'
@[elab_as_elim] theorem PN {h:As} {x y:PV} {v u:Value} {ns ms:List Addr} {b:Bool} {M:Bool->Value->Value->Prop} (hx:VR h x v ns) (hy:VR h y u ms) (e:HT x y=some b)
  (k:∀c (l:List Nat) t t',M (l.contains c) (.str ⟨[c].toArray⟩ t) (.str ⟨l.toArray⟩ t')):M b v u:=by
 refine oB e fun a e1 e=>?_
 refine oB e fun c e2 e=>?_
 obtain⟨d,e3,rfl⟩:=dk e
 obtain rfl:=nX e2
 exact hx.hW e1 (M:=fun v _=>M _ v u) fun t=>hy.hW e3 (M:=fun u _=>M _ _ u) fun t'=>k c d t t'
@[elab_as_elim] theorem PQ {h:As} {x y:PV} {v u:Value} {ns ms:List Addr} {b:Bool} {M:Bool->Value->Value->Prop} (hx:VR h x v ns) (hy:VR h y u ms) (e:HU x y=some b)
  (k:∀a b:Bool,M (a==b) (.bool a) (.bool b)):M b v u:=by
 refine oB e fun a e1 e=>?_
 obtain⟨c,e2,rfl⟩:=dk e
 exact hx.pT e1 (M:=fun v _=>M _ v u) (hy.pT e2 (M:=fun u _=>M _ _ u) (k a c))
theorem PV.i6{p:PV}(e:p.isNone=true):p= .none:=by
 cases p with
 |none=>rfl
 |_=>exact ft e
@[elab_as_elim] theorem VR.pU {h:As} {p:PV} {v:Value} {ns:List Addr} {M:Value->List Addr->Prop} (x:VR h p v ns) (e:p.isNone=true) (k:M .none []):M v ns:=VR.lQ (M:=M) (PV.i6 e▸x) k
theorem vJ{op:CmpOp}{x y:PV}{v u:Value}{ns ms:List Addr}{b:Bool}(k:KG s₀ s)(hx:VR s.heap x v ns)(hy:VR s.heap y u ms)(hu:A.units<cLine)(e:ug op x y=some b):
  An (Aj prog w) A (Lq op v u) (GB s₀ b) E s:=by
 have fo:∀(c:Nat) (l:List Nat),l.contains c=decide (c∈l):=fun c l=>C2 ..
 cases op with
 |Eq=>exact Xb k hx hy hu e
 |NotEq=>obtain⟨c,e1,rfl⟩:=dk e;exact Xd k hx hy hu e1
 |Lt=>exact BY hx hy e fun _ _ _ _=>P.lt_int ⟨rfl,k⟩
 |LtE=>exact BY hx hy e fun _ _ _ _=>P.le_int ⟨rfl,k⟩
 |Gt=>exact BY hx hy e fun _ _ _ _=>P.gt_int ⟨rfl,k⟩
 |GtE=>exact BY hx hy e fun _ _ _ _=>P.ge_int ⟨rfl,k⟩
 |NotIn=>
  obtain⟨c,e1,rfl⟩:=dk e
  exact PN hx hy e1 (M:=fun c v u=>An (Aj prog w) A (Lq .NotIn v u) (GB s₀ !c) E s) fun c l t t'=>P.notIn_str ⟨by(refine af (Mn ..) ?_;exact af (fo ..) rfl),k⟩
 |In=>
  cases x with
  |int i=>
   refine oB e fun c e1 e=>?_
   obtain⟨is,e2,rfl⟩:=dk e
   exact hx.ec fun t=>hy.ib e1 fun b vs ms hl hs=>PyProof.Rows.in_list_ints hl.isList (hs.ints e2) ⟨rfl,k⟩
  |str l=>exact PN hx hy e fun c l t t'=>P.in_str ⟨by(refine af (Mn ..) ?_;exact af (fo ..) rfl),k⟩
  |_=>exact nn e
 |Is=>
  cases x with
  |none=>obtain⟨h,e⟩:=rq e;obtain rfl:=Aa e;exact hx.lQ (hy.pU h (is_none ⟨rfl,k⟩))
  |int=>obtain⟨h,e⟩:=rq e;obtain rfl:=Aa e;exact hx.ec fun _=>hy.pU h (is_none ⟨rfl,k⟩)
  |bool=>exact PQ hx hy e fun _ _=>is_bool ⟨rfl,k⟩
  |_=>exact nn e
 |IsNot=>
  obtain⟨c,e1,rfl⟩:=dk e
  exact PQ hx hy e1 (M:=fun c v u=>An (Aj prog w) A (Lq .IsNot v u) (GB s₀ !c) E s) fun a c=>wpAny_isNot_plain rfl ⟨by cases a<;>cases c<;>rfl,k⟩
theorem vK{x:PV}{v:Value}{ns:List Addr}{b:Bool}(k:KG s₀ s)(hx:VR s.heap x v ns)(e:pR x=some b):
  An (Aj prog w) A (truthy v) (fun r s'=>r=b/\KG s₀ s') E s:=by
 cases x with
 |none=>obtain rfl:=Aa e;exact hx.lQ (PyProof.Rows.truthy_none ⟨rfl,k⟩)
 |bool=>obtain rfl:=Aa e;exact hx.pP (Gw ⟨rfl,k⟩)
 |int=>obtain rfl:=Aa e;exact hx.ec fun t=>P.truthy_int ⟨rfl,zT k (jY _)⟩
 |str y=>
  refine hx.eS fun t=>?_
  have e':(if y.length<=16777216 then some (!y.isEmpty)else none)=some b:=e
  refine oI e' fun h1 e'=>?_
  ·obtain rfl:=Aa e'
   have la:(⟨y.toArray⟩:Str).length=y.length:=by simp[B8]
   refine P.truthy_str (by refine af la ?_;exact yJ) ⟨?_,zT k (dI ..)⟩
   refine af la ?_
   cases y with
   |nil=>rfl
   |cons a r=>simp;lia
 |obj=>exact nn e
 |list ps=>
  refine hx.cP fun a vs ns hl hs=>?_
  have e':(if ps.length<=16777216 then some (!ps.isEmpty)else none)=some b:=e
  refine oI e' fun h1 e'=>?_
  ·obtain rfl:=Aa e'
   have l1:=hs.length
   refine wpAny_truthy_list hl.isList (by(refine af A5 ?_;refine af l1 ?_);exact yA) ⟨?_,zT k (dI ..)⟩
   cases ps with
   |nil=>obtain rfl:=Im l1;rfl
   |cons a r=>
    cases vs with
    |nil=>cases l1
    |cons=>rfl
end
theorem Xe(lo:Option Int)(n:Nat):Cr lo n<=n:=by
 unfold Cr;split
 ·omega
 ·split<;>omega
theorem Xf(hi:Option Int)(n:Nat):Gu hi n<=n:=by
 unfold Gu;split
 ·omega
 ·split<;>omega
theorem Xg(lo hi:Option Int)(len:Nat):Cz lo hi 1 len=(Ae (Gu hi len-Cr lo len)).map (Cr lo len+ ·):=by
 have h:Cz lo hi 1 len=Hn (Cd lo hi none len).1 (Cd lo hi none len).2.1 1:=by
  cases lo<;>cases hi<;>rfl
 refine af h ?_
 refine af (kms_bounds ..) ?_
 exact sliceRange_one _ _
theorem Xh{α:Type}(l:List α)(a k:Nat):((Ae k).map (a+ ·)).filterMap (l[·]?)=(l.drop a).take k:=by
 have:=pick_run l.toArray a k
 simpa using this
section
variable{prog:Program}{w:Cn}{A:Am}{E:Value->Ab->Prop}{s s₀:Ab}{bb:Bool}
theorem Xi{x:List Nat}{t:J3}{lo hi:Option (Int×J3)}(k:KG s₀ s)(hx:x.length<=ag):
  (sliceMade ⟨x.toArray⟩ t lo hi none).post (Got s₀ bb (.str ((x.drop (Cr (lo.map (·.1)) x.length)).take (Gu (hi.map (·.1)) x.length-Cr (lo.map (·.1)) x.length)))) s:=by
 have la:(⟨x.toArray⟩:Str).length=x.length:=by simp[B8]
 have hp:Lh ⟨x.toArray⟩ lo hi none=(Ae (Gu (hi.map (·.1)) x.length-Cr (lo.map (·.1)) x.length)).map (Cr (lo.map (·.1)) x.length+ ·):=by
  unfold Lh
  refine af la ?_;exact Xg _ _ _
 have hf:(Lh ⟨x.toArray⟩ lo hi none).filterMap ((⟨x.toArray⟩:Str).cps[·]?)=(x.drop (Cr (lo.map (·.1)) x.length)).take (Gu (hi.map (·.1)) x.length-Cr (lo.map (·.1)) x.length):=by
  refine af hp ?_
  have:=Xh x (Cr (lo.map (·.1)) x.length) (Gu (hi.map (·.1)) x.length-Cr (lo.map (·.1)) x.length)
  refine cu this ?_
  congr 1
  funext i
  simp
 unfold sliceMade
 split
 ·rename_i h
  simp only[Ao,beq_iff_eq]at h
  have h2:=h.2
  rw[hp,la,Az,Gx]at h2
  have h3:=Xf (hi.map (·.1)) x.length
  have h4:Cr (lo.map (·.1)) x.length=0:=by
   cases x with
   |nil=>exact Nat.le_zero.mp (Xe _ _)
   |cons a r=>simp only[Bl]at*;omega
  have e:(x.drop (Cr (lo.map (·.1)) x.length)).take (Gu (hi.map (·.1)) x.length-Cr (lo.map (·.1)) x.length)=x:=by
   refine af h2 ?_
   refine af h4 ?_
   refine af C3 ?_
   exact af Ib rfl
  refine af e ?_
  exact .bo k (.str ..)
 ·refine af hf ?_
  refine aZ ?_ (.bo (zT k (dI ..)) (.str ..))
  unfold ag at hx
  simp only[B8,A5,Ca,Bs,Bt]
  omega
theorem vL{v:Value}{k:Option Int}(p:Kd v k):∃q:Option (Int×J3),v=partValue q/\q.map (·.1)=k:=by
 cases p with
 |none=>exact⟨none,rfl,rfl⟩
 |int i t=>exact⟨some (i,t),rfl,rfl⟩
theorem uq{value slice:Expr}{o i:Value}{T id:String}{Q:Value->Ab->Prop}(hT:s.TypeIs o T)
  (hl:Cm (.type T) "__getitem__" =pure (some (.builtin id))) (h:An (Aj prog w) A (Ja o i) Q E s)
  (hs:∃ops,Fp slice false o i=Jp ops (Ja o i)):
  An (Aj prog w) A (Ik value slice o i) Q E s:=by
 refine aK hs fun ops hs=>?_
 refine Ac ?_
 rw[getitemInPython_of_ne hT.not_modules]
 refine Ac (D8 hT hl ?_)
 have fin:An (Aj prog w) A (Fp slice false o i) (fun r av=>An (Aj prog w) A (letTemporaryGo value o r>>=fun _=>pure r) Q E av) E s:=by
  rw[hs]
  exact wpAny_operating (B2 h (fun r av aE=>Ac (wpAny_letTemporaryGo (Aq aE))) fun _ _ x=>x)
 first
  |exact Aq (Ac fin)
  |exact Ac (Aq (Ac fin))
  |exact Ac fin
theorem Xj{i:Int}{n j:Nat}(h:Gq i n=some j):(0<=i/\j=i.toNat/\j<n)\/(i<0/\-(n:Int)<=i/\j=(i+n).toNat/\j<n):=by
 unfold Gq at h
 by_cases h0:i<0
 ·simp only[h0,if_true]at h
  split at h
  ·rename_i h1;obtain rfl:=Aa h;simp only[Ao,decide_eq_true_eq]at h1;exact .inr ⟨h0,by omega,rfl,by omega⟩
  ·exact nn h
 ·simp only[h0,if_false]at h
  split at h
  ·rename_i h1;obtain rfl:=Aa h;simp only[Ao,decide_eq_true_eq]at h1;exact .inl ⟨h1.1,rfl,by omega⟩
  ·exact nn h
theorem Xk{x y r:PV}{v u:Value}{ns ms:List Addr}{value slice:Expr}(k:KG s₀ s)(hx:VR s.heap x v ns)(hy:VR s.heap y u ms)(e:uh x y=some r)(hb:bb=true->r.bo=true)
  (hs:∀o i,Fp slice false o i=Jp [o,i] (Ja o i)):An (Aj prog w) A (Ik value slice v u) (Got s₀ bb r) E s:=by
 cases x with
 |str s'=>
  cases y with
  |int i=>
   refine oI e fun hf e=>?_
   obtain⟨c,e1,rfl⟩:=dk e
   have hf:=HZ.mp hf
   refine hx.eS fun t=>hy.ec fun u=>?_
   refine uq (Ic _ _ _) F.slot_str_getitem.lookup ?_ ⟨_,hs _ _⟩
   refine P.getItem_str (c:=c) ?_ ?_ (.bo (zT k (dI ..)) (.str ..))
   ·rw[Fo];exact⟨decide_eq_false (by omega),decide_eq_false (by omega)⟩
   ·have la:∀z:List Nat,(⟨z.toArray⟩:Str).length=z.length:=fun z=>by simp[B8]
    refine af (la ..) ?_
    refine oB e1 fun j e2 e3=>?_
    refine af e2 ?_;simpa using e3
  |_=>exact nn e
 |list l=>
  cases y with
  |int i=>
   refine oI e fun hf e=>?_
   have hf:=HZ.mp hf
   refine oB e fun j e2 e3=>?_
   refine hx.cP fun la vs BZ hl bg=>hy.ec fun u=>?_
   refine cM (bg.get e3) fun v' n' e4 e5 _=>?_
   have hT:=hl.isList.typeIs (s:=s)
   have g:Got s₀ bb r v' s:=⟨k,n',e5,fun q=>by refine af (e5.aM (hb q)) ?_;exact eW.nil _⟩
   refine uq hT I2 ?_ ⟨_,hs _ _⟩
   have hlen:=bg.length
   rcases Xj e2 with⟨h0,rfl,h1⟩|⟨h0,h1,rfl,h2⟩
   ·exact wpAny_getItem_list hl.isList h0 (by omega) (by simpa using e4) g
   ·refine wpAny_getItem_list_neg hl.isList h0 (by simp only[A5,hlen];omega) (by omega) ?_ g
    simp only[A5,hlen]
    simpa using e4
  |_=>exact nn e
 |_=>exact nn e
end
section
variable{W:bP}{C:Cx}
theorem CA{e:PE}{p:PV}(h:p.bo=true):fresh e p=true:=by
 cases p<;>first|(cases e<;>rfl)|exact ft h
theorem PR{a b:PE}{p:PV}(h:fresh (.ia a b) p=true):p.bo=true:=by cases p<;>first|rfl|exact ft h
theorem PU{a b:PE}{p:PV}(h:fresh (.gy a b) p=true):p.bo=true:=by cases p<;>first|rfl|exact ft h
theorem PW{c:PT}{a b:PE}{p:PV}(h:fresh (.ite c a b) p=true):p.bo=true:=by cases p<;>first|rfl|exact ft h
theorem Xl{a b:PE}{p:PV}(h:fresh (.idx a b) p=true):p.bo=true:=by cases p<;>first|rfl|exact ft h
theorem vM{D:Nat}{A:Am}(R:de D A):A.units<cLine:=by have:=R.units;lia
theorem Got.from{s aa s':Ab}{b b':Bool}{p:PV}{v:Value}(k:KG s aa)(g:Got aa b' p v s')(hb:b=true->b'=true):Got s b p v s':=by
 obtain⟨k',ns,r,f⟩:=g
 exact⟨zT k k',ns,r,fun h=>(f (hb h)).back (wC k)⟩
theorem ax.bin{l r:Expr}{op:Il}{pos:B7}{a b:PE}(hl:ax W C l a)(hr:ax W C r b):ax W C (.BinOp l op r pos) (.bin op a b):=fun env A E s σ p P e=>by
 refine oB e fun x e1 e=>?_
 refine oB e fun y e2 e3=>?_
 refine wpAny_BinOp (zM (hl env A E s σ x P e1) fun v aa ai=>?_)
 obtain⟨k₁,ns,aG,_⟩:=ai
 refine zM (hr env A E aa σ y (P.kp k₁) e2) fun u s₂ aj=>?_
 obtain⟨k₂,ms,bt,_⟩:=aj
 refine W9 (zT k₁ k₂) (aG.sub (wC k₂)) bt e3 fun hb l q=>?_
 subst q
 exact hb
theorem ax.neg{x:Expr}{pos:B7}{a:PE}(hx:ax W C x a):ax W C (.UnaryOp .USub x pos) (.neg a):=fun env A E s σ p P e=>by
 refine oB e fun y e1 e=>?_
 refine UnaryOp_ (zM (hx env A E s σ y P e1) fun v aa ai=>?_)
 obtain⟨k₁,ns,aG,_⟩:=ai
 cases y with
 |int i=>obtain rfl:=Aa e;exact aG.ec fun t=>PySem.P.neg_int (.bo (zT k₁ (dI ..)) (.int ..))
 |_=>exact nn e
theorem ax.cmp{l r:Expr}{op:CmpOp}{pos:B7}{a b:PE}(hl:ax W C l a)(hr:ax W C r b)(hm:Lz op r=false):ax W C (.Compare l [op] [r] pos) (.cmp op a b):=fun env A E s σ p P e=>by
 refine oB e fun x e1 e=>?_
 refine oB e fun y e2 e=>?_
 obtain⟨c,e3,rfl⟩:=dk e
 refine wpAny_Compare1 (zM (hl env A E s σ x P e1) fun v aa ai=>?_) hm
 obtain⟨k₁,ns,aG,_⟩:=ai
 refine zM (hr env A E aa σ y (P.kp k₁) e2) fun u s₂ aj=>?_
 obtain⟨k₂,ms,bt,_⟩:=aj
 refine zM (vJ (zT k₁ k₂) (aG.sub (wC k₂)) bt (vM P.room) e3) fun v av aE=>?_
 refine ao aE fun aI bZ=>?_
 clear aE
 subst aI
 exact .bo bZ (.bool _)
theorem ax.ia{l r:Expr}{pos:B7}{a b:PE}(hl:ax W C l a)(hr:ax W C r b):ax W C (.BoolOp .And [l,r] pos) (.ia a b):=fun env A E s σ p P e=>by
 refine oB e fun x e1 e=>?_
 refine oB e fun c e2 e=>?_
 refine BoolOp_and (zM (hl env A E s σ x P e1) fun v aa ai=>?_)
 obtain⟨k₁,ns,aG,_⟩:=ai
 refine zM (vK (jY _) aG e2) fun c' s₂ aj=>?_
 refine ao aj fun aI k₂=>?_
 clear aj
 subst aI
 cases c' with
 |false=>
  have e:some x=some p:=e
  obtain rfl:=Aa e
  refine⟨zT k₁ k₂,ns,aG.sub (wC k₂),fun hf=>?_⟩
  rw[aG.aM (PR hf)];exact eW.nil _
 |true=>
  have e:ev W.U b σ=some p:=e
  exact zM (hr env A E s₂ σ p ((P.kp k₁).kp k₂) e) fun u av aE=>aE.from (zT k₁ k₂) fun hf=>CA (PR hf)
theorem ax.gy{l r:Expr}{pos:B7}{a b:PE}(hl:ax W C l a)(hr:ax W C r b):ax W C (.BoolOp .Or [l,r] pos) (.gy a b):=fun env A E s σ p P e=>by
 refine oB e fun x e1 e=>?_
 refine oB e fun c e2 e=>?_
 refine BoolOp_or (zM (hl env A E s σ x P e1) fun v aa ai=>?_)
 obtain⟨k₁,ns,aG,_⟩:=ai
 refine zM (vK (jY _) aG e2) fun c' s₂ aj=>?_
 refine ao aj fun aI k₂=>?_
 clear aj
 subst aI
 cases c' with
 |true=>
  have e:some x=some p:=e
  obtain rfl:=Aa e
  refine⟨zT k₁ k₂,ns,aG.sub (wC k₂),fun hf=>?_⟩
  rw[aG.aM (PU hf)];exact eW.nil _
 |false=>
  have e:ev W.U b σ=some p:=e
  exact zM (hr env A E s₂ σ p ((P.kp k₁).kp k₂) e) fun u av aE=>aE.from (zT k₁ k₂) fun hf=>CA (PU hf)
theorem dB.cmp{l r:Expr}{op:CmpOp}{pos:B7}{a b:PE}(hl:ax W C l a)(hr:ax W C r b)(hm:Lz op r=false):dB W C (.Compare l [op] [r] pos) (.cmp op a b):=fun env A E s σ c P e=>by
 refine oB e fun x e1 e=>?_
 refine oB e fun y e2 e3=>?_
 refine Gv (zM (hl env A E s σ x P e1) fun v aa ai=>?_) hm
 obtain⟨k₁,ns,aG,_⟩:=ai
 refine zM (hr env A E aa σ y (P.kp k₁) e2) fun u s₂ aj=>?_
 obtain⟨k₂,ms,bt,_⟩:=aj
 refine zM (vJ (zT k₁ k₂) (aG.sub (wC k₂)) bt (vM P.room) e3) fun v av aE=>?_
 refine ao aE fun aI bZ=>?_
 clear aE
 subst aI
 exact Gw ⟨rfl,bZ⟩
theorem dB.not{x:Expr}{pos:B7}{t:PT}(h:dB W C x t):dB W C (.UnaryOp .Not x pos) (.not t):=fun env A E s σ c P e=>by
 obtain⟨b,e1,rfl⟩:=dk e
 exact wpAny_isTrue_Not (zM (h env A E s σ b P e1) fun b' aa ai=>⟨by rw[ai.1],ai.2⟩)
noncomputable def nY(W:bP)(C:Cx)(es:List Expr)(ts:ew):Prop:=∀env A E s σ b,Pre W C env A σ s->vE W.U true ts σ=some b->An (Aj W.prog W.w) A (allTrue .And es env) (fun b' s'=>b'=b/\KG s s') E s
noncomputable def n5(W:bP)(C:Cx)(es:List Expr)(ts:ew):Prop:=∀env A E s σ b,Pre W C env A σ s->vE W.U false ts σ=some b->An (Aj W.prog W.w) A (allTrue .Or es env) (fun b' s'=>b'=b/\KG s s') E s
theorem nY.nil:nY W C [] .nil:=fun env A E s σ b P e=>by obtain rfl:=Aa e;exact wpAny_allTrue_And_nil ⟨rfl,jY _⟩
theorem nY.cons{x:Expr}{es:List Expr}{t:PT}{ts:ew}(h:dB W C x t)(hs:nY W C es ts):nY W C (x::es) (.cons t ts):=fun env A E s σ b P e=>by
 refine oB e fun c e1 e=>?_
 refine wpAny_allTrue_And_cons (zM (h env A E s σ c P e1) fun b' aa ai=>?_)
 refine ao ai fun aI k₁=>?_
 clear ai
 subst aI
 cases b' with
 |true=>exact zM (hs env A E aa σ b (P.kp k₁) e) fun Xm s₂ aj=>⟨aj.1,zT k₁ aj.2⟩
 |false=>
  have e:some false=some b:=e
  obtain rfl:=Aa e
  exact aZ rfl k₁
theorem n5.nil:n5 W C [] .nil:=fun env A E s σ b P e=>by obtain rfl:=Aa e;exact wpAny_allTrue_Or_nil ⟨rfl,jY _⟩
theorem n5.cons{x:Expr}{es:List Expr}{t:PT}{ts:ew}(h:dB W C x t)(hs:n5 W C es ts):n5 W C (x::es) (.cons t ts):=fun env A E s σ b P e=>by
 refine oB e fun c e1 e=>?_
 refine H9 (zM (h env A E s σ c P e1) fun b' aa ai=>?_)
 refine ao ai fun aI k₁=>?_
 clear ai
 subst aI
 cases b' with
 |false=>exact zM (hs env A E aa σ b (P.kp k₁) e) fun Xm s₂ aj=>⟨aj.1,zT k₁ aj.2⟩
 |true=>
  have e:some true=some b:=e
  obtain rfl:=Aa e
  exact aZ rfl k₁
theorem dB.and{es:List Expr}{ts:ew}{pos:B7}(h:nY W C es ts):dB W C (.BoolOp .And es pos) (.and ts):=fun env A E s σ b P e=>I3 (h env A E s σ b P e)
theorem dB.or{es:List Expr}{ts:ew}{pos:B7}(h:n5 W C es ts):dB W C (.BoolOp .Or es pos) (.or ts):=fun env A E s σ b P e=>I3 (h env A E s σ b P e)
theorem dB.eT{x:Expr}{a:PE}(h:ax W C x a)(he:∀env whole,L7 x env whole=(do let v<-whole;standAt x.pos;holding [v] (truthy v))):dB W C x (.eT a):=fun env A E s σ b P e=>by
 refine oB e fun y e1 e2=>?_
 refine wpAny_isTrue_value (zM (h env A E s σ y P e1) fun v aa ai=>?_) (he _ _)
 obtain⟨k₁,ns,aG,_⟩:=ai
 exact vK k₁ aG e2
theorem ax.ite{t x y:Expr}{pos:B7}{c:PT}{a b:PE}(ht:dB W C t c)(hx:ax W C x a)(hy:ax W C y b):ax W C (.IfExp t x y pos) (.ite c a b):=fun env A E s σ p P e=>by
 refine oB e fun q e1 e=>?_
 refine wpAny_IfExp (zM (ht env A E s σ q P e1) fun b' aa ai=>?_)
 refine ao ai fun aI k₁=>?_
 clear ai
 subst aI
 cases b' with
 |true=>
  have e:ev W.U a σ=some p:=e
  exact zM (hx env A E aa σ p (P.kp k₁) e) fun u av aE=>aE.from k₁ fun hf=>CA (PW hf)
 |false=>
  have e:ev W.U b σ=some p:=e
  exact zM (hy env A E aa σ p (P.kp k₁) e) fun u av aE=>aE.from k₁ fun hf=>CA (PW hf)
theorem ax.idx{x i:Expr}{pos:B7}{a b:PE}(hx:ax W C x a)(hi:ax W C i b)(hs:∀o v,Fp i false o v=Jp [o,v] (Ja o v)):ax W C (.Subscript x i pos) (.idx a b):=fun env A E s σ p P e=>by
 refine oB e fun y e1 e=>?_
 refine oB e fun z e2 e3=>?_
 refine Ma (zM (hx env A E s σ y P e1) fun v aa ai=>?_)
 obtain⟨k₁,ns,aG,_⟩:=ai
 refine zM (hi env A E aa σ z (P.kp k₁) e2) fun u s₂ aj=>?_
 obtain⟨k₂,ms,bt,_⟩:=aj
 refine Xk (zT k₁ k₂) (aG.sub (wC k₂)) bt e3 Xl hs
theorem kb.no:kb W C none .no:=fun env A E s σ k P e=>by obtain rfl:=Aa e;exact Aq ⟨.none,jY _⟩
theorem kb.yes{x:Expr}{a:PE}(hx:ax W C x a):kb W C (some x) (.yes a):=fun env A E s σ k P e=>by
 refine oB e fun y e1 e=>?_
 refine zM (hx env A E s σ y P e1) fun v aa ai=>?_
 obtain⟨k₁,ns,aG,_⟩:=ai
 cases aG with
 |none=>obtain rfl:=Aa e;exact⟨.none,k₁⟩
 |int i t=>obtain rfl:=Aa e;exact⟨.int i t,k₁⟩
 |_=>exact nn e
theorem Xn(l:List Value)(lo hi:Option Int)(k:Int):slicePick l.toArray lo hi (some k)=((Hn (Cd lo hi (some k) l.length).1 (Cd lo hi (some k) l.length).2.1 (Cd lo hi (some k) l.length).2.2).filterMap (l[·]?)).toArray:=by
 unfold slicePick
 simp
section
variable{prog:Program}{w:Cn}{A:Am}{E:Value->Ab->Prop}{s s₀:Ab}{bb:Bool}
theorem PY{S:Ab}{a:Addr}{xs m:List PV}{v vl vh vk:Value}{ns:List Addr}{lo hi st:Option Int}(kk:KG s₀ S)(r:VR S.heap (.list xs) v ns)(hS:S.heap.IsSliceOf a vl vh vk)(pl:Kd vl lo)(ph:Kd vh hi)(pk:Kd vk st)(h0:st≠some 0)(hlen:xs.length<=ag)
  (hm:∀(vs:List Value) (ns:List Addr),aq S.heap xs vs ns->∃ws ms,slicePick vs.toArray lo hi st=ws.toArray/\aq S.heap m ws ms) (hb:bb=true->m.all PV.bo=true) {value slice:Expr} (hs:∃ops,Fp slice false v (.ref a)=Jp ops (Ja v (.ref a))):
  An (Aj prog w) A (Ik value slice v (.ref a)) (Got s₀ bb (.list m)) E S:=by
 revert hs
 refine r.cP fun b vs ms hl bg hs=>?_
 refine uq hl.isList.typeIs I2 ?_ hs
 refine eu (hm vs ms bg) fun ws m1 e1 g1=>?_
 refine wpAny_getItem_list_slice hl.isList hS pl ph pk h0 ?_ (by(refine af A5 ?_;refine af bg.length ?_;refine af Bt ?_);exact hlen)
 refine af e1 ?_
 exact BV kk g1 fun q=>g1.aM (hb q)
theorem Xo{S:Ab}{a:Addr}{x:List Nat}{v vl vh:Value}{ns:List Addr}{lo hi:Option Int}(kk:KG s₀ S)(r:VR S.heap (.str x) v ns)(hS:S.heap.get? a=some {cls:= .type "slice",data:= .fields #[vl,vh, .none]}) (pl:Kd vl lo) (ph:Kd vh hi) (hlen:x.length<=ag)
  {value slice:Expr} (hs:∃ops,Fp slice false v (.ref a)=Jp ops (Ja v (.ref a))):
  An (Aj prog w) A (Ik value slice v (.ref a)) (Got s₀ bb (.str ((x.drop (Cr lo x.length)).take (Gu hi x.length-Cr lo x.length)))) E S:=by
 refine aD (vL pl) fun ql aH bL=>?_
 subst aH
 subst bL
 refine aD (vL ph) fun qh aH bL=>?_
 subst aH
 subst bL
 revert hs
 refine r.eS fun t hs=>?_
 refine uq (Ic _ _ _) F.slot_str_getitem.lookup ?_ hs
 exact wpAny_getItem_str_slice (l:=ql) (u:=qh) (st:=none) ⟨_,hS,rfl,rfl⟩ rfl (Xi kk hlen)
theorem PZ{m:List PV}(h:(PV.list m).bo=true\/∃ps,PV.list m= .list ps/\ps.all PV.bo=true):m.all PV.bo=true:=h.elim ft fun⟨_,e,k⟩=>PV.list.inj e▸k
theorem Xp{y p:PV}{v vl vh vk:Value}{ns:List Addr}{l h k:Option Int}(kk:KG s₀ s)(r:VR s.heap y v ns)(pl:Kd vl l)(ph:Kd vh h)(pk:Kd vk k)(e:BU y l h k=some p)
  (hb:bb=true->p.bo=true\/∃ps,p= .list ps/\ps.all PV.bo=true) {value slice:Expr} (hs:∃ops,Fp slice false v (.ref s.heap.objs.size)=Jp ops (Ja v (.ref s.heap.objs.size))):
  An (Aj prog w) A (Ik value slice v (.ref s.heap.objs.size)) (Got s₀ bb p) E {s with heap:=s.heap.push {cls:= .type "slice",data:= .fields #[vl,vh,vk]} }:=by
 have kp:=rm s {cls:= .type "slice",data:= .fields #[vl,vh,vk]} s.toks
 have i7:=r.sub (wC kp)
 cases y with
 |str x=>
  cases k with
  |some kz=>exact nn e
  |none=>
   refine oI e fun hlen e=>?_
   obtain rfl:=Aa e
   cases pk
   exact Xo (zT kk kp) i7 (A0 _ rfl) pl ph hlen hs
 |list xs=>
  cases k with
  |none=>
   refine oI e fun hlen e=>?_
   obtain rfl:=Aa e
   refine PY (zT kk kp) i7 (Mb ..) pl ph pk (by decide) hlen (fun vs ns bg=>?_) (fun q=>PZ (hb q)) hs
   refine aD (bg.drop (Cr l xs.length)) fun m1 g1 g2=>?_
   refine aD (g1.take (Gu h xs.length-Cr l xs.length)) fun m2 g3 g4=>?_
   refine⟨_,m2,(kms_pick_eq _ _ _).trans ?_,g3⟩
   unfold kms_pick
   refine af List.toList_toArray ?_
   exact af bg.length rfl
  |some kz=>
   obtain⟨hlen,e⟩:=WX e
   obtain rfl:=Aa e
   simp only[El,beq_iff_eq,decide_eq_true_eq,not_or]at hlen
   refine PY (zT kk kp) i7 (Mb ..) pl ph pk (by simpa using hlen.1) (Bw hlen.2) (fun vs ns bg=>?_) (fun q=>PZ (hb q)) hs
   exact aD (bg.pick (Hn (Cd l h (some kz) xs.length).1 (Cd l h (some kz) xs.length).2.1 (Cd l h (some kz) xs.length).2.2)) fun m1 g1 g2=>⟨_,m1,by(refine af (Xn ..) ?_;exact af bg.length rfl),g1⟩
 |_=>exact nn e
end
theorem ax.bS{x:Expr}{lo hi st:Option Expr}{vN pos:B7}{a:PE}{b c d:PO}(hx:ax W C x a)(hl:kb W C lo b)(hh:kb W C hi c)(eX:kb W C st d):
  ax W C (.Subscript x (.Slice lo hi st vN) pos) (.bS a b c d):=fun env A E s σ p P e=>by
 refine oB e fun y e1 e=>?_
 refine oB e fun l e2 e=>?_
 refine oB e fun h e3 e=>?_
 refine oB e fun k e4 e5=>?_
 refine Ma (zM (hx env A E s σ y P e1) fun v aa ai=>?_)
 obtain⟨k₁,ns,aG,_⟩:=ai
 refine wpAny_Slice (zM (hl env A E aa σ l (P.kp k₁) e2) fun vl s₂ aj=>?_)
 refine ao aj fun pl k₂=>?_
 refine zM (hh env A E s₂ σ h ((P.kp k₁).kp k₂) e3) fun vh av aE=>?_
 refine ao aE fun ph bZ=>?_
 refine zM (eX env A E av σ k (((P.kp k₁).kp k₂).kp bZ) e4) fun vk aV aW=>?_
 refine ao aW fun pk cY=>?_
 have kk:KG s aV:=zT (zT (zT k₁ k₂) bZ) cY
 have IB:VR aV.heap y v ns:=aG.sub fun b o e=>wC cY b o (wC bZ b o (wC k₂ b o e))
 have hs:∃ops,Fp (.Slice lo hi st vN) false v (.ref aV.heap.objs.size)=Jp ops (Ja v (.ref aV.heap.objs.size)):=by
  cases st<;>exact⟨_,rfl⟩
 refine Xp kk IB pl ph pk e5 (fun hf=>?_) hs
 cases p with
 |list ps=>exact .inr ⟨ps,rfl,hf⟩
 |_=>exact .inl rfl
theorem ll.nil:ll W C [] .nil:=fun env A E s σ ps P e pos=>by
 obtain rfl:=Aa e;exact wpAny_items_nil ⟨jY _,[], .nil⟩
theorem ll.cons{x:Expr}{es:List Expr}{a:PE}{r:jZ}(hx:ax W C x a)(hr:ll W C es r)(he:∀env,Bz (x::es) env=(false,eval x env)::Bz es env):ll W C (x::es) (.cons a r):=fun env A E s σ ps P e pos=>by
 refine oB e fun y e1 e=>?_
 obtain⟨ys,e2,rfl⟩:=dk e
 refine wpAny_items_cons (zM (hx env A E s σ y P e1) fun v aa ai=>?_) (he env)
 obtain⟨k₁,ns,aG,_⟩:=ai
 refine zM (hr env A E aa σ ys (P.kp k₁) e2 pos) fun vs s₂ aj=>?_
 obtain⟨k₂,ms,bt⟩:=aj
 exact⟨zT k₁ k₂,_, .cons (aG.sub (wC k₂)) bt⟩
theorem ax.list{es:List Expr}{r:jZ}{pos:B7}(h:ll W C es r):ax W C (.List es pos) (.list r):=fun env A E s σ p P e=>by
 refine oB e fun ps e1 e=>?_
 split at e
 ·rename_i hlen
  obtain rfl:=Aa e
  refine List_ (zM (h env A E s σ ps P e1 pos) fun vs aa ai=>?_)
  obtain⟨k₁,ns,aG⟩:=ai
  have n7:=aG.length
  refine Co (BV k₁ aG fun hf=>aG.aM hf) ?_
  refine(?_:vs.toArray.size<=sizeLine)
  rw[A5,n7,Bt];exact hlen
 ·exact nn e
end
theorem Xq:∀c:Fin 128,(Txt.lower ⟨#[c.1]⟩)=⟨#[if 65<=c.1&&c.1<=90 then c.1+32 else c.1]⟩:=by decide+kernel
theorem IC(sep:List Nat)(xs:List (List Nat)):Txt.join (mkStr sep) (xs.map mkStr)=mkStr (lh sep xs):=by
 refine(?_:(⟨((xs.map mkStr).drop 1).foldl (fun acc p=>acc++(mkStr sep).cps++p.cps) ((xs.map mkStr).headD Str.empty).cps⟩:Str)=_)
 have h:∀(r:List (List Nat)) (a:List Nat),(r.map mkStr).foldl (fun acc p=>acc++(mkStr sep).cps++p.cps) a.toArray=(lh sep (a::r)).toArray:=by
  intro r
  induction r with
  |nil=>intro a;rfl
  |cons b t ih=>
   intro a
   have e:a.toArray++(mkStr sep).cps++(mkStr b).cps=(a++sep++b).toArray:=by simp[mkStr]
   refine af Bj ?_
   refine af Ff ?_
   refine af e ?_
   refine af (ih ..) ?_
   cases t with
   |nil=>simp[lh]
   |cons c u=>simp[lh]
 cases xs with
 |nil=>rfl
 |cons a r=>exact congrArg Str.mk (h r a)
theorem Qa(c:Nat):∀l:List Nat,cnt c l=(l.count c:Int)
 |[]=>by refine af (cnt_nil ..) ?_;rfl
 |a::r=>by
  refine af (cnt_cons ..) ?_
  refine af (Qa c r) ?_
  refine af List.count_cons ?_
  by_cases h:a=c
  ·subst h;simp;omega
  ·refine af (if_neg h) ?_;simp[h]
theorem Qb:∀(r:List Int) (a:Int),(r.foldl min a)∈a::r/\∀b∈a::r,r.foldl min a<=b
 |[],a=>⟨Ag ..,fun b hb=>by refine af (Af.mp hb) ?_;exact Int.le_refl _⟩
 |c::r,a=>by
  refine ao (Qb r (min a c)) fun h1 h2=>?_
  refine aZ ?_ (fun b hb=>?_)
  ·refine af Ff ?_
   rcases Av.mp h1 with h|h
   ·refine af h ?_
    by_cases q:a<=c
    ·refine af (Int.min_eq_left q) ?_;exact Ag ..
    ·rw[Int.min_eq_right (by omega)];exact Ad _ (Ag ..)
   ·exact Ad _ (Ad _ h)
  ·refine af Ff ?_
   have h3:=h2 (min a c) (Ag ..)
   rcases Av.mp hb with rfl|hb
   ·omega
   ·rcases Av.mp hb with rfl|hb
    ·omega
    ·exact h2 b (Ad _ hb)
section
variable{prog:Program}{w:Cn}{A:Am}{E:Value->Ab->Prop}{s s₀:Ab}{bb:Bool}
theorem Xr{l:Addr}{vs:List Value}{is:List Int}{m:Int}(k:KG s₀ s)(hh:A.handled=none)(hl:s.heap.IsList l vs.toArray)(hi:Ij vs is)(hm:HW is=some m):
  An (Aj prog w) A (call (.builtin "min") [.ref l]) (Got s₀ bb (.int m)) E s:=by
 refine aK hi.allInts.items fun xs e=>?_
 have cn:is=xs.toList.map (·.1):=by
  refine cu hi.numsOf ?_
  refine cu (nums_intItems ..) ?_
  exact cu e rfl
 cases is with
 |nil=>exact nn hm
 |cons a r=>
 have hm:r.foldl min a=m:=Aa hm
 have hsz:0<xs.size:=by
  have:(a::r).length=xs.size:=by(refine af cn ?_;refine af (Az ..) ?_;exact af I4 rfl)
  refine cu this ?_;simp
 rw[e]at hl
 refine min_intList hh hl hsz fun v h' tk hv hk=>?_
 refine aK (intItems_at hv) fun t aH=>?_
 subst aH
 refine ao (argBest_lt (Mo xs) (xs.size-1)) fun h1 h2=>?_
 refine ao (Qb r a) fun h3 h4=>?_
 have h5:Mo xs (argBest (fun i j=>decide (Mo xs i<Mo xs j)) (xs.size-1))∈a::r:=by
  (refine af cn ?_;refine af (numAt_eq ..) ?_);exact getD_mem (by(refine af (Az ..) ?_;refine af I4 ?_);omega)
 have h6:Mo xs (argBest (fun i j=>decide (Mo xs i<Mo xs j)) (xs.size-1))<=r.foldl min a:=by
  rw[cn]at h3
  refine aD (mem_getD h3) fun j hj e3=>?_
  rw[Az,I4]at hj
  (refine cu e3 ?_;refine cu (numAt_eq ..) ?_);exact h2 j (by omega)
 have h7:=h4 _ h5
 have:Mo xs (argBest (fun i j=>decide (Mo xs i<Mo xs j)) (xs.size-1))=m:=by omega
 refine af this ?_
 exact .bo (zT k (jE _ _ _ hk)) (.int ..)
theorem Xs{l:Addr}{vs:List Value}{is:List Int}(k:KG s₀ s)(hh:A.handled=none)(hl:s.heap.IsList l vs.toArray)(hi:Ij vs is):
  An (Aj prog w) A (call (.builtin "sum") [.ref l]) (Got s₀ bb (.int is.sum)) E s:=by
 refine aK hi.allInts.items fun xs e=>?_
 have cn:is=xs.toList.map (·.1):=by
  refine cu hi.numsOf ?_
  refine cu (nums_intItems ..) ?_
  exact cu e rfl
 rw[e]at hl
 refine sum_intListG hh hl fun h' tk t' hk=>?_
 rw[preSum_eq,Ew (by simp),<-cn]
 exact .bo (zT k (jE _ _ _ hk)) (.int ..)
noncomputable def n8:Nat->String
 |0=> "len" |1=> "sum" |2=> "min" |3=> "min" |_=> "abs"
theorem Qc{vs:List Value}{a:Int}(h:Ij vs [a]):∃t,vs=[.int a t]:=by
 cases h with
 |cons i t h=>cases h;exact⟨t,rfl⟩
theorem Xt{vs:List Value}{a b:Int}(h:Ij vs [a,b]):∃t u,vs=[.int a t, .int b u]:=by
 cases h with
 |cons i t h=>obtain⟨u,rfl⟩:=Qc h;exact⟨t,u,rfl⟩
theorem Xu{x p:PV}{v:Value}{ns:List Addr}(k:KG s₀ s)(r:VR s.heap x v ns)(e:PF x=some p):An (Aj prog w) A (call (.builtin "len") [v]) (Got s₀ bb p) E s:=by
 cases x with
 |str x=>
  refine r.eS fun t=>?_
  refine oI e fun hlen e=>?_
  obtain rfl:=Aa e
  have la:(⟨x.toArray⟩:Str).length=x.length:=by simp[B8]
  refine PySem.P.len_str (by refine af la ?_;unfold ag at hlen;omega) ?_
  refine af la ?_
  exact .bo (zT k (dI ..)) (.int ..)
 |list ps=>
  refine r.cP fun a vs ms hl bg=>?_
  refine oI e fun hlen e=>?_
  obtain rfl:=Aa e
  have n7:=bg.length
  refine call_len_list hl.isList (by(refine af A5 ?_;refine af n7 ?_);unfold ag at hlen;omega) ?_
  refine af A5 ?_
  refine af n7 ?_
  exact .bo (zT k (dI ..)) (.int ..)
 |_=>exact nn e
@[elab_as_elim] theorem Qd {h:As} {x r:PV} {v:Value} {ns:List Addr} {f:List Int->Option Int} {M:PV->Value->Prop} (hx:VR h x v ns) (e:HX f x=some r)
  (k:∀b vs is i,h.IsList b vs.toArray->Ij vs is->f is=some i->M (.int i) (.ref b)):M r v:=by
 refine oB e fun a e1 e=>?_
 refine oB e fun is e2 e=>?_
 obtain⟨c,e3,rfl⟩:=dk e
 exact hx.ib e1 fun b vs ms hl hs=>k b vs is c hl.isList (hs.ints e2) e3
theorem Xv{f:Nat}{ps:List PV}{vs:List Value}{ns:List Addr}{p:PV}(hf:f<5)(k:KG s₀ s)(hh:A.handled=none)(r:aq s.heap ps vs ns)(e:ui f ps=some p):
  An (Aj prog w) A (call (.builtin (n8 f)) vs) (Got s₀ bb p) E s:=by
 revert e
 refine pN hf ?_ fun hf=>rh hf ?_ ?_ ?_ ?_
 rotate_left
 ·intro e
  refine oB e fun x e1 e=>?_
  obtain rfl:=nX e1
  exact r.lS fun v hv=>Xu k hv e
 ·intro e
  refine oB e fun x e1 e=>?_
  obtain rfl:=nX e1
  exact r.lS fun v hv=>Qd hv e fun b vs is i hl hi e=>by obtain rfl:=Aa e;exact Xs k hh hl hi
 ·intro e
  refine oB e fun x e1 e=>?_
  obtain rfl:=nX e1
  exact r.lS fun v hv=>Qd hv e fun b vs is i hl hi e=>Xr k hh hl hi e
 ·intro e
  refine oB e fun is e1 e=>?_
  cases is with
  |nil=>exact nn e
  |cons a r=>
  cases r with
  |nil=>exact nn e
  |cons b r=>
  cases r with
  |cons=>exact nn e
  |nil=>
   obtain rfl:=Aa e
   refine fU (Xt (r.ints e1)) fun t u bL=>?_
   subst bL
   refine min_two_ints hh fun h' tk hk=>?_
   by_cases CB:b<a
   ·(refine af (if_pos CB) ?_;refine af (if_pos CB) ?_);exact .bo (zT k (jE _ _ _ hk)) (.int ..)
   ·(refine af (if_neg CB) ?_;refine af (if_neg CB) ?_);exact .bo (zT k (jE _ _ _ hk)) (.int ..)
 ·intro e
  refine oB e fun is e1 e=>?_
  obtain⟨a,e2,rfl⟩:=dk e
  obtain rfl:=nX e2
  refine aK (Qc (r.ints e1)) fun t aH=>?_
  subst aH
  exact PyProof.Rows.call_abs_int fun u tk=> .bo (zT k (dI ..)) (.int ..)
theorem Xw{l:Addr}{vs:List Value}{xs:List (List Nat)}{x:List Nat}{t:J3}{Q:Value->Ab->Prop}(hl:s.heap.IsList l vs.toArray)(hi:StrsAre vs (xs.map mkStr))(hx:x∈xs)(hsz:xs.length<=ag)
  (h:Q (.int (xs.idxOf x:Nat) s.toks) {s with toks:=s.toks+1}):An (Aj prog w) A (call (.builtin "list.index") [.ref l, .str (mkStr x) t]) Q E s:=by
 obtain⟨⟨cls,dd,data,sl⟩,ho,hc,n,hd⟩:=id hl
 simp only at hc hd
 subst hc hd
 have get:∀{vs:List Value} {xs:List (List Nat)},StrsAre vs (xs.map mkStr)->vs.length=xs.length/\∀(j:Nat) (h1:j<vs.length) (h2:j<xs.length),∃t,vs[j]= .str (mkStr xs[j]) t:=by
  intro vs
  induction vs with
  |nil=>intro xs h;cases xs with
   |nil=>exact⟨rfl,fun j h1=>absurd h1 (Fe _)⟩
   |cons a r=>cases h
  |cons v r ih=>intro xs h;cases xs with
   |nil=>cases h
   |cons a q=>
    rw[Bj]at h
    cases h with
    |cons y t h=>
    refine ao (ih h) fun h1 h2=>?_
    refine aZ (by simp[h1]) (fun j h3 h4=>?_)
    cases j with
    |zero=>exact⟨t,rfl⟩
    |succ j=>exact h2 j (by exact Es h3) (by exact Es h4)
 refine ao (get hi) fun hlen vO=>?_
 have hj:xs.idxOf x<xs.length:=Jx.mpr hx
 let e:Value->Bool:=fun v=>match v with| .str y _=>y.cps.toList==x|_=>false
 have he:∀(j:Nat) (h1:j<vs.length) (h2:j<xs.length),e vs[j]=(xs[j]==x):=fun j h1 h2=>by
  refine aK (vO j h1 h2) fun t e1=>?_
  refine af e1 ?_;rfl
 unfold ag at hsz
 refine Je J4 ⟨_,ho,rfl⟩ Jy (Jn _ _)
  (Mc l vs.toArray n dd sl (.str (mkStr x) t) e (xs.idxOf x) (by simpa[hlen]using hj) (by omega) ?_ ?_) ⟨ho,fun y hy=>?_,h⟩
 ·have:=he (xs.idxOf x) (by omega) hj
  rw[List.getElem_idxOf hj]at this
  simpa using this
 ·intro j ID aY
  have h1:j<vs.length:=by exact ID
  have:=he j h1 (by omega)
  have h2:(xs[j]'(by omega)==x)=false:=by
   have:=Kk (xs:=xs) (p:=(· ==x)) aY
   exact this
  rw[h2]at this
  exact this
 ·have IE:y∈vs:=by simpa using hy
  obtain⟨j,CC,rfl⟩:=List.getElem_of_mem IE
  refine aK (vO j CC (by omega)) fun t' e1=>?_
  refine af e1 ?_
  exact(Kt _ _ _ _).at _ _
end
section
variable{W:bP}{C:Cx}
theorem ax.bi{x:Str}{f:Nat}{a:Expr}{r:List Expr}{es:jZ}{p pos:B7}(hf:f<5)(hk:C.kn.lookup x=some .globalImplicit)(hg:W.mg x=none)(hb:W.mb x=some (.builtin (n8 f)))(hd:(x==("__debug__" :Str))=false)
  (h:ll W C (a::r) es) (he:∀env,Bz (a::r) env=(false,eval a env)::Bz r env) (hp:∀env,(Ke pos (Bz r env)).any (·.1)=false):ax W C (.Call (.Name x p) (a::r) [] pos) (.bi f es):=fun env A E s σ q P e=>by
 refine oB e fun ps e1 e2=>?_
 refine Fg rfl ?_
 refine Bb P.kind (by unfold Be;refine af P.names ?_;exact hk) (C4 (mg:=W.mg) (mb:=W.mb) ?_ hg ?_ hb ?_) hd
 ·refine af P.gl ?_;exact W.g P.wd
 ·refine af P.bl ?_;exact W.b P.wd
 ·refine callWith_builtin1 (zM (h env A E s σ ps P e1 pos) fun vs aa ai=>?_) (he env) (hp env)
  obtain⟨k₁,ns,aG⟩:=ai
  exact zM (Xv hf k₁ P.room.hh aG e2 (bb:=true)) fun v s₂ ⟨k,ns,r,f⟩=>⟨k,ns,r,fun _=>f rfl⟩
theorem ax.uc{x:Str}{k:Nat}{a:Expr}{r:List Expr}{es:jZ}{p pos:B7}(hk:C.kn.lookup x=some .globalImplicit)(hg:W.mg x=some (.ref (W.i5 k)))(hd:(x==("__debug__" :Str))=false)
  (h:ll W C (a::r) es) (he:∀env,Bz (a::r) env=(false,eval a env)::Bz r env):ax W C (.Call (.Name x p) (a::r) [] pos) (.uc k es):=fun env A E s σ q P e=>by
 refine oB e fun ps e1 e2=>?_
 refine Fg rfl ?_
 refine Bb P.kind (by unfold Be;rw[P.names];exact hk) (D4 (mg:=W.mg) ?_ hg ?_) hd
 ·rw[P.gl];exact W.g P.wd
 ·refine eu (W.nW k ⟨ps,q,e2⟩ P.wd) fun o fd ho fW=>?_
  refine callWith_def fW (zM (h env A E s σ ps P e1 pos) fun vs aa ai=>?_) (he env)
  obtain⟨k₁,ns,aG⟩:=ai
  refine aZ (wC k₁ _ _ ho) (Gl (Ey (W.call k A aa ps vs ns q P.room (P.kp k₁).wd aG e2) fun res s₂ aj=>?_))
  refine cM aj fun v ms bL k₂ bt=>?_
  clear aj
  subst bL
  refine⟨zT k₁ k₂,ms,bt,fun hf=>?_⟩
  have hp:q.bo=true:=by cases q<;>first|rfl|exact ft hf
  rw[bt.aM hp];exact eW.nil _
theorem Xx{x p:PV}(e:nV 1 x []=some p):∃c,x= .str [c]/\c<128/\p= .str [if 65<=c&&c<=90 then c+32 else c]:=by
 refine oB e fun s e1 e=>?_
 refine oB e fun c e2 e=>?_
 obtain rfl:=nX e2
 have e:PG c=some p:=e
 refine oI e fun hc e=>?_
 exact nU c (x.bJ e1) hc ((Aa e).symm)
theorem Xy{x y p:PV}(e:nV 0 x [y]=some p):∃sep l xs,x= .str sep/\y= .list l/\PV.strs l=some xs/\(xs.map B1).sum+xs.length*sep.length<=ag/\p= .str (lh sep xs):=by
 refine oB e fun s e1 e=>?_
 refine oB e fun z e2 e=>?_
 obtain rfl:=Aa e2
 refine oB e fun l e3 e=>?_
 refine oB e fun xs e4 e=>?_
 refine oI e fun hc e=>?_
 exact Pz s l xs (x.bJ e1) (y.cQ e3) e4 hc ((Aa e).symm)
theorem Xz{x y p:PV}(e:nV 2 x [y]=some p):∃s c,x= .str s/\y= .str [c]/\p= .int (s.count c):=by
 refine oB e fun s e1 e=>?_
 refine oB e fun z e2 e=>?_
 obtain rfl:=Aa e2
 refine oB e fun t e3 e=>?_
 obtain⟨c,e4,rfl⟩:=dk e
 obtain rfl:=nX e4
 exact nt s c (x.bJ e1) (y.bJ e3) rfl
theorem XA{x y p:PV}(e:nV 3 x [y]=some p):∃l,x= .list l/\((∃k is,y= .int k/\PV.ints l=some is/\(is.contains k&&decide (is.length<=ag))=true/\p= .int (is.idxOf k))\/(∃k is,y= .str k/\PV.strs l=some is/\(is.contains k&&decide (is.length<=ag))=true/\p= .int (is.idxOf k))):=by
 refine oB e fun l e1 e=>?_
 refine oB e fun z e2 e=>?_
 obtain rfl:=Aa e2
 refine i12 l (x.cQ e1) ?_
 cases y with
 |int k=>obtain⟨xs,e4,e⟩:=fE e;obtain⟨hc,e⟩:=rq e;exact .inl ⟨k,xs,rfl,e4,hc,(Aa e).symm⟩
 |str k=>obtain⟨xs,e4,e⟩:=fE e;obtain⟨hc,e⟩:=rq e;exact .inr ⟨k,xs,rfl,e4,hc,(Aa e).symm⟩
 |_=>exact nn e
theorem ax.lower{o:Expr}{apos pos:B7}{a:PE}(ho:ax W C o a)(bD:∀env,C8 o "lower" env (eval o env)=eval o env) (aF:(apos.endLine==pos.line)=true):
  ax W C (.Call (.Attribute o "lower" apos) [] [] pos) (.me 1 a .nil):=fun env A E s σ p P e=>by
 refine oB e fun x e1 e=>?_
 refine gT (Xx e) fun c aH hc fX=>?_
 subst aH
 subst fX
 refine Call_method0 (bD env) aF (zM (ho env A E s σ _ P e1) fun v aa ai=>?_)
 obtain⟨k₁,ns,aG,_⟩:=ai
 refine aG.eS fun t=>?_
 have hl:Txt.lower ⟨[c].toArray⟩=⟨[if 65<=c&&c<=90 then c+32 else c].toArray⟩:=Xq ⟨c,hc⟩
 refine lg ("str") _ J5 F.slot_str_lower F.type_str_lower (Ic _ _ _) (fun _ e=>nomatch e) (Cv rfl (I5 ?_))
 refine SC.lower (by rw[hl];simp[Ls,B8,Bt]) ?_
 rw[hl]
 exact .bo (zT k₁ (dI ..)) (.str ..)
theorem CD{name:Str}{o x:Expr}{apos pos:B7}{T id:String}{a b:PE}{q y:PV}{env:Ea}{A:Am}{E:Value->Ab->Prop}{s:Ab}{σ:List (Option PV)}{bb:Bool}{p:PV}(ho:ax W C o a)(hx:ax W C x b)(P:Pre W C env A σ s)
  (bD:C8 o name env (eval o env)=eval o env) (hs:Bz [x] env=[(false,eval x env)]) (aF:(apos.endLine==pos.line)=true)
  (pa:PlainAttrs T) (sl:Slot T name id) (ty:typeOf (.builtin id)=pure (.type "method_descriptor")) (eo:ev W.U a σ=some q) (ex:ev W.U b σ=some y)
  (hT:∀(v:Value) (ns:List Addr) (aa:Ab),VR aa.heap q v ns->aa.TypeIs v T/\∀c,v= .ref c->∃ob,aa.heap.get? c=some ob/\ob.dict=none)
  (h:∀(v u:Value) (ns ms:List Addr) (aa:Ab),KG s aa->VR aa.heap q v ns->VR aa.heap y u ms->An (Aj W.prog W.w) A (call (.builtin id) [v,u]) (Got s bb p) E aa):
  An (Aj W.prog W.w) A (eval (.Call (.Attribute o name apos) [x] [] pos) env) (Got s bb p) E s:=by
 refine Hv bD hs aF (zM (ho env A E s σ q P eo) fun v aa ai=>?_)
 obtain⟨k₁,ns,aG,_⟩:=ai
 refine ao (hT v ns aa aG) fun t1 t2=>?_
 refine lg T id pa sl ty t1 t2 (Cv rfl (evalArgs_plain (Bi (zM (hx env A E aa σ y (P.kp k₁) ex) fun u s₂ aj=>B4 ?_))))
 obtain⟨k₂,ms,bt,_⟩:=aj
 exact h v u ns ms s₂ (zT k₁ k₂) (aG.sub (wC k₂)) bt
theorem Qe{aa:Ab}{x:List Nat}{v:Value}{ns:List Addr}(r:VR aa.heap (.str x) v ns):aa.TypeIs v "str" /\∀c,v= .ref c->∃ob,aa.heap.get? c=some ob/\ob.dict=none:=by
 exact r.eS fun t=>⟨Ic _ _ _,fun _ e=>nomatch e⟩
theorem Qf{aa:Ab}{x:List PV}{v:Value}{ns:List Addr}(r:VR aa.heap (.list x) v ns):aa.TypeIs v "list" /\∀c,v= .ref c->∃ob,aa.heap.get? c=some ob/\ob.dict=none:=by
 exact r.cP fun a vs ms hl hs=>⟨hl.isList.typeIs,fun c e=>by cases e;obtain⟨n,h⟩:=hl;exact⟨_,h,rfl⟩⟩
theorem IF{U:Uc}{f:Nat}{a b:PE}{σ:List (Option PV)}{p:PV}(e:ev U (.me f a (.cons b .nil)) σ=some p):∃q y,ev U a σ=some q/\ev U b σ=some y/\nV f q [y]=some p:=by
 refine oB e fun q e1 e=>?_
 refine oB e fun ys e2 e=>?_
 refine oB e2 fun y e3 e2=>?_
 have e2:some [y]=some ys:=e2
 obtain rfl:=Aa e2
 exact nt q y e1 e3 e
theorem ax.join{o x:Expr}{apos pos:B7}{a b:PE}(ho:ax W C o a)(hx:ax W C x b)(bD:∀env,C8 o "join" env (eval o env)=eval o env) (hs:∀env,Bz [x] env=[(false,eval x env)]) (aF:(apos.endLine==pos.line)=true):
  ax W C (.Call (.Attribute o "join" apos) [x] [] pos) (.me 0 a (.cons b .nil)):=fun env A E s σ p P e=>by
 refine cM (IF e) fun q y e1 e3 e=>?_
 refine vy (Xy e) fun sep l xs fX ig e4 hlen IG=>?_
 subst fX
 subst ig
 subst IG
 refine CD ho hx P (bD env) (hs env) aF J5 F.slot_str_join F.type_str_join e1 e3 (fun v ns aa r=>Qe r) fun v u ns ms aa k r1 r2=>?_
 refine r1.eS fun t1=>r2.cP fun a vs ms hl bg=>?_
 refine Hw (x:=mkStr sep) hl.isList (bg.strs e4) ?_ fun t' k'=>?_
 ·have h1:∀z:List Nat,(mkStr z).length=z.length:=fun z=>by simp[mkStr,B8]
  refine af A3 ?_
  refine af (Az ..) ?_
  refine af (h1 ..) ?_
  have h2:(B8∘mkStr)=B1:=by funext z;exact h1 z
  unfold ag at hlen
  refine(?_:(Bv (B8∘mkStr) xs).sum+_<=_)
  refine af h2 ?_;exact hlen
 ·refine af (IC ..) ?_
  exact .bo (zT k (dI ..)) (.str ..)
end
section
variable{prog:Program}{w:Cn}{A:Am}{E:Value->Ab->Prop}{s s₀:Ab}
theorem XB{l:Addr}{vs:List Value}{ns:List Int}{k:Int}{t:J3}{Q:Value->Ab->Prop}(hl:s.heap.IsList l vs.toArray)(hi:Ij vs ns)
  (hb:ns.length<=ag) (hk:k∈ns) (h:Q (.int (ns.idxOf k:Nat) s.toks) {s with toks:=s.toks+1}):
  An (Aj prog w) A (call (.builtin "list.index") [.ref l, .int k t]) Q E s:=by
 obtain⟨⟨cls,dd,data,sl⟩,ho,hc,n,hd⟩:=id hl
 simp only at hc hd
 subst hc hd
 have hlen:=hi.length
 unfold ag at hb
 have hj:ns.idxOf k<ns.length:=Jx.mpr hk
 refine Je J4 ⟨_,ho,rfl⟩ Jy (Jn _ _)
  (Mc l vs.toArray n dd sl (.int k t) (isInt k) (ns.idxOf k) (by simpa[hlen]using hj) (by omega) ?_ ?_) ⟨ho,fun y hy=>(eq_isInt k t hi y (by simpa using hy)).at _ _,h⟩
 ·refine(?_:isInt k vs[ns.idxOf k]=true)
  rw[isInt_at k hi _ (by omega) hj]
  simp
 ·intro j ID aY
  have h1:j<vs.length:=by exact ID
  refine(?_:isInt k vs[j]=false)
  rw[isInt_at k hi j h1 (by omega)]
  have:=Kk (xs:=ns) (p:=(· ==k)) aY
  exact this
theorem XC{h':As}{a c:Int}:∀(l:List Value) (o m:Nat),(∀j v,l[j]?=some v->∃t,v=Value.int (a+((o+j:Nat):Int)*c) t)->l.length=m->
   aq h' ((C5 o m).map fun(i:Nat)=>PV.int (a+(i:Int)*c)) l []:=by
  intro l
  induction l with
  |nil=>intro o m _ hm;cases hm;exact .nil
  |cons v l ih=>
   intro o m h hm
   cases m with
   |zero=>cases hm
   |succ m=>
    refine aK (h 0 v rfl) fun t e=>?_
    refine af G8 ?_
    refine af Bj ?_
    refine .cons (n:=[]) ?_ (ih (o+1) m (fun j v e'=>?_) (by simpa using hm))
    ·refine af e ?_;exact .int ..
    ·refine aK (h (j+1) v (by exact e')) fun t' IH=>?_
     exact bU t' (by refine af IH ?_;congr 3;omega)
theorem vP{i:Int}(h1:0<=i)(h2:i<=2000):Jb i=true:=B3.mpr (And.intro (decide_eq_true (Dd (by decide) h1)) (decide_eq_true (E4 h2 (by decide))))
theorem XD{a b c:Int}(ha:0<=a)(hb:b<=1000)(hc:0<c):∃n:Nat,n<=1000/\J6 a b c=n/\(if a<b then((b-a-1)/c+1).toNat else 0)=n:=by
 by_cases h:a<b
 ·have h0:0<=b-a-1:=Li (Int.sub_pos_of_lt h)
  have hu:(b-a-1)/c+1<=1000:=Dd (Int.add_le_add_right (Int.ediv_le_self _ h0) 1) (by rw[Int.sub_add_cancel];exact Dd (Int.sub_le_self b ha) hb)
  exact⟨((b-a-1)/c+1).toNat,Int.toNat_le.mpr hu,(if_pos hc).trans ((if_pos h).trans (I1 (Int.add_nonneg (Int.ediv_nonneg h0 (I9 hc)) (by decide))).symm),if_pos h⟩
 ·exact⟨0,Dv _,(if_pos hc).trans (if_neg h),if_neg h⟩
theorem XE{r:Addr}{a b c:Int}{t u v:J3}(hh:A.handled=none)(hr:IsRange s.heap r a b c t u v)(ha:0<=a)(XG:a<=1000)(hb:0<=b)(lT:b<=1000)(hc:0<c)(lq:c<=1000)
  :An (Aj prog w) A (call (.type "list") [.ref r]) (Got s true (.list (rn a b c))) E s:=by
 refine gT (XD ha lT hc) fun n Qg hn e3=>?_
 refine call_list_range hh hr ?_ hn (Ah Qg (by decide)) fun h' tk lU c' hk hS hi=>?_
 ·unfold Lu
  rw[hn,if_pos hc,vP ha (Dd XG (by decide)),vP hb (Dd lT (by decide)),vP (I9 hc) (Dd lq (by decide)),vP (Dt n) (Dd (Er.mpr Qg) (by decide)),vP (i:=b+(c-1)) (Int.add_nonneg hb (Li hc)) (Int.add_le_add lT (Dd (Int.sub_le_self c (by decide)) lq)),Bool.or_true]
  rfl
 ·refine⟨jE _ _ _ hk,[s.heap.objs.size],?_,fun _=>⟨by simp,fun a ha=>?_⟩⟩
  ·refine VR.list (vs:=lU.toList) (ns:=[]) ⟨c',hS⟩ ?_
   refine ao hi fun hsz hit=>?_
   have:=XC (h':=h') lU.toList 0 lU.size (fun j v e=>by simpa using hit j v (by simpa using e)) (by rfl)
   unfold rn
   refine af e3 ?_
   refine af Dx ?_
   refine cu hsz ?_
   exact this
  ·have:a=s.heap.objs.size:=by exact Af.mp ha
   subst this
   cases e:s.heap.get? s.heap.objs.size with
   |none=>rfl
   |some o=>exact absurd (Bo e) (Hg _)
end
section
variable{W:bP}{C:Cx}
theorem ax.count{o x:Expr}{apos pos:B7}{a b:PE}(ho:ax W C o a)(hx:ax W C x b)(bD:∀env,C8 o "count" env (eval o env)=eval o env) (hs:∀env,Bz [x] env=[(false,eval x env)]) (aF:(apos.endLine==pos.line)=true):
  ax W C (.Call (.Attribute o "count" apos) [x] [] pos) (.me 2 a (.cons b .nil)):=fun env A E s σ p P e=>by
 refine cM (IF e) fun q y e1 e3 e=>?_
 refine cM (Xz e) fun l c bL fX ig=>?_
 subst bL
 subst fX
 subst ig
 refine CD ho hx P (bD env) (hs env) aF J5 F.slot_str_count F.type_str_count e1 e3 (fun v ns aa r=>Qe r) fun v u ns ms aa k r1 r2=>?_
 cases r1
 cases r2
 refine SC.count ?_
 have:Txt.count ⟨l.toArray⟩ ⟨[c].toArray⟩=(l.count c:Int):=by
  refine af (show(⟨[c].toArray⟩:Str)=⟨#[c]⟩from rfl) ?_
  refine af (count_cnt ..) ?_
  exact cu (Qa ..) rfl
 refine af this ?_
 exact .bo (zT k (dI ..)) (.int ..)
theorem ax.index{o x:Expr}{apos pos:B7}{a b:PE}(ho:ax W C o a)(hx:ax W C x b)(bD:∀env,C8 o "index" env (eval o env)=eval o env) (hs:∀env,Bz [x] env=[(false,eval x env)]) (aF:(apos.endLine==pos.line)=true):
  ax W C (.Call (.Attribute o "index" apos) [x] [] pos) (.me 3 a (.cons b .nil)):=fun env A E s σ p P e=>by
 refine cM (IF e) fun q y e1 e3 e=>?_
 obtain⟨l,rfl,⟨k,is,rfl,e4,e5,rfl⟩|⟨k,is,rfl,e4,e5,rfl⟩⟩:=XA e
 ·simp only[Ao,decide_eq_true_eq]at e5
  refine CD ho hx P (bD env) (hs env) aF F.plainAttrs_list F.slot_list_index F.type_list_index e1 e3 (fun v ns aa r=>Qf r) fun v u ns ms aa kk r1 r2=>?_
  exact r1.cP fun a vs ms hl bg=>r2.ec fun t=>XB hl.isList (bg.ints e4) e5.2 (by simpa using e5.1) (.bo (zT kk (dI ..)) (.int ..))
 ·simp only[Ao,decide_eq_true_eq]at e5
  refine CD ho hx P (bD env) (hs env) aF F.plainAttrs_list F.slot_list_index F.type_list_index e1 e3 (fun v ns aa r=>Qf r) fun v u ns ms aa kk r1 r2=>?_
  exact r1.cP fun a vs ms hl bg=>r2.eS fun t=>Xw hl.isList (bg.strs e4) (by simpa using e5.1) e5.2 (.bo (zT kk (dI ..)) (.int ..))
theorem XH:∀{ps:List PV} {is:List Int},PV.ints ps=some is->ps=is.map .int:=by
 intro ps
 induction ps with
 |nil=>intro is e;obtain rfl:=Aa e;rfl
 |cons p r ih=>
  intro is e
  cases p with
  |int i=>obtain⟨y,e1,rfl⟩:=dk e;rw[ih e1];rfl
  |_=>exact nn e
theorem XI{ps:List PV}{p:PV}(e:ui 5 ps=some p):∃a b c,ps=[.int a, .int b, .int c]/\0<=a/\a<=1000/\0<=b/\b<=1000/\0<c/\c<=1000/\p= .list (rn a b c):=by
 refine oB e fun is e1 e=>?_
 match is,e with
 |[a,b,c],e=>
  refine oI e fun h e=>?_
  refine ao (b2 h) fun h h6=>?_
  refine ao (b2 h) fun h h5=>?_
  refine ao (b2 h) fun h h4=>?_
  refine ao (b2 h) fun h h3=>?_
  refine ao (b2 h) fun h1 h2=>?_
  exact⟨a,b,c,XH e1,of_decide_eq_true h1,of_decide_eq_true h2,of_decide_eq_true h3,of_decide_eq_true h4,of_decide_eq_true h5,of_decide_eq_true h6,(Aa e).symm⟩
 |[],e=>exact nn e
 |[_],e=>exact nn e
 |[_,_],e=>exact nn e
 |_::_::_::_::_,e=>exact nn e
theorem ax.kj{a b c:Expr}{p1 p2 p3 pos:B7}{es:jZ}(pV:C.kn.lookup ("list" :Str)=some .globalImplicit) (rt:W.mg "list" =none) (n9:W.mb "list" =some (.type "list")) (II:C.kn.lookup ("range" :Str)=some .globalImplicit) (XJ:W.mg "range" =none) (XK:W.mb "range" =some (.type "range"))
  (h:ll W C [a,b,c] es) (he:∀env,Bz [a,b,c] env=(false,eval a env)::Bz [b,c] env) (hp:∀env,(Ke p2 (Bz [b,c] env)).any (·.1)=false):ax W C (.Call (.Name "list" p1) [.Call (.Name "range" p3) [a,b,c] [] p2] [] pos) (.bi 5 es):=fun env A E s σ p P e=>by
 refine oB e fun ps e1 e2=>?_
 obtain⟨x,y,z,rfl,h1,h2,h3,h4,h5,h6,rfl⟩:=XI e2
 refine Fg rfl ?_
 refine Bb P.kind (by unfold Be;refine af P.names ?_;exact pV) (C4 (mg:=W.mg) (mb:=W.mb) ?_ rt ?_ n9 ?_) (by decide)
 ·refine af P.gl ?_;exact W.g P.wd
 ·refine af P.bl ?_;exact W.b P.wd
 ·refine Cg ?_
  refine Bi ?_
  refine Fg rfl ?_
  refine Bb P.kind (by unfold Be;refine af P.names ?_;exact II) (C4 (mg:=W.mg) (mb:=W.mb) ?_ XJ ?_ XK ?_) (by decide)
  ·refine af P.gl ?_;exact W.g P.wd
  ·refine af P.bl ?_;exact W.b P.wd
  ·refine Cg (zM (h env A E s σ _ P e1 p2) fun vs aa ai=>?_) (he env) (hp env)
   obtain⟨k₁,ns,aG⟩:=ai
   refine aG.ff fun v1 n1 us m1 q1 aG=>?_
   refine aG.ff fun v2 n2 us m2 q2 aG=>?_
   refine aG.ff fun v3 n3 us m3 q3 aG=>?_
   refine aG.lR (q1.ec fun t1=>q2.ec fun t2=>q3.ec fun t3=>?_)
   refine call_range_3 (by omega) ?_ (Or.inl (Kh (by omega)))
   refine B4 ?_
   refine zM (XE P.room.hh (A0 _ rfl) h1 h2 h3 h4 h5 h6) fun v s₂ aj=>?_
   obtain⟨k₂,ms,bt,rx⟩:=aj
   exact⟨zT k₁ (zT (rm ..) k₂),ms,bt,fun _=>(rx rfl).back (fun b o e=>Ak _ (wC k₁ b o e))⟩
end
noncomputable def ur(prog:Program)(w:Cn)(A:Am)(env:Ea)(E:Value->Ab->Prop)(Q:Ab->Prop):List (Str×Value)->Ab->Prop
 |[],s=>Q s
 |(x,v)::r,s=>An (Aj prog w) A (storeName env x v) (fun _ s'=>ur prog w A env E Q r s') E s
noncomputable def ry(prog:Program)(w:Cn)(A:Am)(target:Expr)(I:Addr)(env:Ea)(E:Value->Ab->Prop)(Q:Ab->Prop)(r:Option Value)(s:Ab):Prop:=
 ∃v,r=some v/\An (Aj prog w) A (Iu target (.ref I) v) (fun _ aa=>An (Aj prog w) A (assign target env v) (fun _ s₂=>Q s₂) E aa) E s
structure ef(prog:Program)(w:Cn)(A:Am)(target:Expr)(xs:List Str)(I:Addr)(fp wr:List Addr)(its:List (List PV))(St:Nat->As->Prop):Prop where
 sub:∀b∈wr,b∈fp
 frame:∀i h h',St i h->(∀b∈fp,∀o,h.get? b=some o->h'.get? b=some o)->St i h'
 cg:∀i h,St i h->∀b∈fp,∃o,h.get? b=some o
 rz:∀i h,St i h->∀b∈wr,∀items n,h.get? b≠some {cls:= .type "list",data:= .seq items n}
 item:∀i it (s:Ab) (env:Ea) (Q:Ab->Prop) (E:Value->Ab->Prop),its[i]?=some it->St i s.heap->
  (∀vs ns h' tk,aq h' it vs ns->(∀a∈ns,a∈fp)->it.length=xs.length->St (i+1) h'->(∀b o,b∉wr->s.heap.get? b=some o->h'.get? b=some o)->
   ur prog w A env E Q (xs.zip vs) {s with heap:=h',toks:=tk})->
  An (Aj prog w) A (Iv (.ref I)) (ry prog w A target I env E Q) E s
 done:∀(s:Ab) (Q:Option Value->Ab->Prop) (E:Value->Ab->Prop),St its.length s.heap->
  (∀h' tk,(∀b o,b∉wr->s.heap.get? b=some o->h'.get? b=some o)->Q none {s with heap:=h',toks:=tk})->An (Aj prog w) A (Iv (.ref I)) Q E s
 self:∀i (s:Ab) (Q:Value->Ab->Prop) (E:Value->Ab->Prop),St i s.heap->Q (.ref I) s->An (Aj prog w) A (Jf (.ref I)) Q E s
theorem ef.walks{prog:Program}{w:Cn}{A:Am}{x:Str}{px:B7}{I:Addr}{fp fp' wr:List Addr}{its:List (List PV)}{P:Nat->Value->Prop}{St:Nat->As->Prop}(W:Walks prog w A I fp wr its.length P St)
  (cZ:∀b∈fp,b∈fp') (Ex:As->Prop) (CE:∀h h',Ex h->(∀b∈fp',∀o,h.get? b=some o->h'.get? b=some o)->Ex h')
  (gA:∀i h,St i h->Ex h->∀b∈fp',∃o,h.get? b=some o)
  (rA:∀i h,St i h->∀b∈wr,∀items n,h.get? b≠some {cls:= .type "list",data:= .seq items n})
  (hit:∀i it v h h',its[i]?=some it->P i v->Ex h->(∀b o,b∉wr->h.get? b=some o->h'.get? b=some o)->Ex h'/\∃ns,aq h' it [v] ns/\∀a∈ns,a∈fp'):
  ef prog w A (.Name x px) [x] I fp' wr its (fun i h=>St i h/\Ex h) where
 sub:=fun b hb=>cZ b (W.sub b hb)
 frame:=fun i h h' st k=>⟨W.frame i h h' st.1 fun b hb o e=>k b (cZ b hb) o e,CE h h' st.2 k⟩
 cg:=fun i h st=>gA i h st.1 st.2
 rz:=fun i h st=>rA i h st.1
 item:=fun i it s env Q E hi st h=>by
  have aY:i<its.length:=(Ba.mp hi).1
  refine W.item i s _ E aY st.1 fun v h' tk hP nA hk=>⟨v,rfl,B5 (show Iu (.Name x px) (.ref I) v=pure ()from rfl) ?_⟩
  refine Dj ?_
  obtain⟨kq,ns,r,cn⟩:=hit i it v s.heap h' hi hP st.2 hk
  have:=h [v] ns h' tk r cn (by have:=r.length;exact this.symm) ⟨nA,kq⟩ hk
  exact this
 done:=fun s Q E st hQ=>W.done s Q E st.1 hQ
 self:=fun i s Q E st hQ=>W.self i s Q E st.1 hQ
theorem ef.i8{prog:Program}{w:Cn}{A:Am}(hh:A.handled=none){x y:Str}{px py pt:B7}{k:Nat}{I:Addr}{fp fp' wr:List Addr}{its:List (List PV)}{Pt:Nat->Array Value->Prop}{St:Nat->As->Prop}{XM:Nat->Addr->As->Prop}(W:WalksT prog w A I fp wr its.length Pt St XM)
  (cZ:∀b∈fp,b∈fp') (Ex:As->Prop) (CE:∀h h',Ex h->(∀b∈fp',∀o,h.get? b=some o->h'.get? b=some o)->Ex h')
  (gA:∀i h,St i h->Ex h->∀b∈fp',∃o,h.get? b=some o)
  (rA:∀i h,St i h->∀b∈wr,∀items n,h.get? b≠some {cls:= .type "list",data:= .seq items n})
  (hit:∀i it vs h h',its[i]?=some it->Pt i vs->Ex h->(∀b o,b∉wr->h.get? b=some o->h'.get? b=some o)->Ex h'/\∃v u ns,vs= #[v,u]/\aq h' it [v,u] ns/\∀a∈ns,a∈fp'):
  ef prog w A (.Tuple [.Name x px, .Name y py] k pt) [x,y] I fp' wr its (fun i h=>St i h/\Ex h) where
 sub:=fun b hb=>cZ b (W.sub b hb)
 frame:=fun i h h' st k=>⟨W.frame i h h' st.1 fun b hb o e=>k b (cZ b hb) o e,CE h h' st.2 k⟩
 cg:=fun i h st=>gA i h st.1 st.2
 rz:=fun i h st=>rA i h st.1
 item:=fun i it s env Q E hi st h=>by
  have aY:i<its.length:=(Ba.mp hi).1
  refine W.item i s _ E aY st.1 fun T vals h' tk hP hT IJ vQ hk=>⟨_,rfl,?_⟩
  refine W.go _ _ _ i T _ _ E vQ fun aj dJ bE=>?_
  have XN:T∉wr:=W.apart i T h' vQ
  obtain⟨kq,v,u,ns,rfl,r,cn⟩:=hit i it vals s.heap aj hi hP st.2 fun b o hb e=>bE b o hb (hk b o hb e)
  have oe:IsTup aj T #[v,u]:=by obtain⟨o,ho,rr⟩:=IJ;exact⟨o,bE T o XN ho,rr⟩
  refine assign_Tuple_tuple hh oe rfl rfl fun aE he=>?_
  have up:∀b o,aj.get? b=some o->aE.get? b=some o:=fun b o e=>he b o (Bu (Bo e)) e
  have hlen:it.length=2:=by have:=r.length;exact this.symm
  have:=h [v,u] ns aE tk (r.sub up) cn hlen ⟨W.frame _ _ _ dJ fun b _ o e=>up b o e,CE _ _ kq fun b _ o e=>up b o e⟩ fun b o hb e=>up b o (bE b o hb (hk b o hb e))
  refine E8 (Dj (zM this fun _ aa ai=>?_))
  refine E8 (Dj (zM ai fun _ s₂ aj=>?_))
  exact Jq aj
 done:=fun s Q E st hQ=>W.done s Q E st.1 hQ
 self:=fun i s Q E st hQ=>W.self i s Q E st.1 hQ
section
variable{prog:Program}{w:Cn}{A:Am}{E:Value->Ab->Prop}{R:Ez->Ab->Prop}{s:Ab}
theorem XO{elt target iter:Expr}{ifs:List Expr}{scope:Scope}{pos:B7}{I:Addr}{acc:Value}{env:Ea}(J:Nat->Ab->Prop)
  (turn:∀n s,J n s->
   An (Aj prog w) A (Iv (.ref I)) (fun r aa=>(r=none/\R (.ok .next) aa)\/ry prog w A target I env (Hk (Aj prog w) A env fun e s'=>R (.error e) s') (fun s₂=>
     An (Aj prog w) A (forIn ifs true fun c r=>if r=true then do let ok<-L7 c env (eval c env);pure (B0 ok)else pure (B0 r)) (fun ok av=>
      if ok=true then An (Aj prog w) A (eval elt env) (fun x aV=>
       An (Aj prog w) A (call (.builtin "list.append") [acc,x]) (fun _ dh=>∃m,m<n/\J m dh) (Hk (Aj prog w) A env fun e s'=>R (.error e) s') aV) (Hk (Aj prog w) A env fun e s'=>R (.error e) s') av
      else ∃m,m<n/\J m av) (Hk (Aj prog w) A env fun e s'=>R (.error e) s') s₂) r aa) (Hk (Aj prog w) A env fun e s'=>R (.error e) s') s)
  (n:Nat) (h:J n s):
  Cs (Aj prog w) A (.compLoop (.ListComp elt [⟨target,iter,ifs,0⟩] scope pos) 0 (.ref I) acc env) R s:=by
 refine codeAny_loop rfl J (fun n s hI=>?_) n h
 refine(?_:An _ A ((compTurn (.ListComp elt [⟨target,iter,ifs,0⟩] scope pos) 0 (.ref I) acc env).onRaise (fun x=>do Lr x env;Hl x)) _ _ s)
 refine wpAny_noted ?_
 rw[compTurn_list]
 refine Ac (D1 (Ac (B2 (turn n s hI) (fun r aa ai=>?_) fun _ _ h'=>h')))
 rcases ai with⟨rfl,ai⟩|⟨v,rfl,ai⟩
 ·exact Aq ai
 ·refine Ac (B2 ai (fun _ pW fh=>?_) fun _ _ h'=>h')
  refine Ac (B2 fh (fun _ s₂ aj=>Ac (B2 aj (fun ok av aE=>?_) fun _ _ h'=>h')) fun _ _ h'=>h')
  cases ok with
  |false=>exact Aq ⟨rfl,aE⟩
  |true=>
   exact Ac (Ac (B2 aE (fun x aV aW=>Ac (B2 aW (fun _ dh eD=>Aq (Aq ⟨rfl,eD⟩)) fun _ _ h'=>h')) fun _ _ h'=>h'))
noncomputable def IK(prog:Program)(w:Cn)(A:Am)(elt target:Expr)(ifs:List Expr)(I:Addr)(acc:Value)(env:Ea)(R:Ez->Ab->Prop)(J:Nat->Ab->Prop)(n:Nat)(s:Ab):Prop:=
 An (Aj prog w) A (Iv (.ref I)) (fun r aa=>(r=none/\R (.ok .next) aa)\/ry prog w A target I env (Hk (Aj prog w) A env fun e s'=>R (.error e) s') (fun s₂=>
  An (Aj prog w) A (forIn ifs true fun c r=>if r=true then do let ok<-L7 c env (eval c env);pure (B0 ok)else pure (B0 r)) (fun ok av=>
   if ok=true then An (Aj prog w) A (eval elt env) (fun x aV=>
    An (Aj prog w) A (call (.builtin "list.append") [acc,x]) (fun _ dh=>∃m,m<n/\J m dh) (Hk (Aj prog w) A env fun e s'=>R (.error e) s') aV) (Hk (Aj prog w) A env fun e s'=>R (.error e) s') av
   else ∃m,m<n/\J m av) (Hk (Aj prog w) A env fun e s'=>R (.error e) s') s₂) r aa) (Hk (Aj prog w) A env fun e s'=>R (.error e) s') s
theorem Qh{elt target iter:Expr}{ifs:List Expr}{scope:Scope}{pos:B7}{I:Addr}{acc:Value}{env:Ea}(J:Nat->Ab->Prop)(turn:∀n s,J n s->IK prog w A elt target ifs I acc env R J n s)(n:Nat)(h:J n s):
  Cs (Aj prog w) A (.compLoop (.ListComp elt [⟨target,iter,ifs,0⟩] scope pos) 0 (.ref I) acc env) R s:=XO J turn n h
theorem CF{scope:Scope}{env:Ea}(h:∀y∈scope.names,y.2= .free->∃c,env.cells.lookup y.1=some c):
  ∃cl,Md scope env=pure cl/\∀x c,env.cells.lookup x=some c->(x,Cp)∈scope.names->cl.lookup x=some c:=by
 have key:∀(ns:List (Str×Cy)) (acc:List (Str×Addr)),(∀y∈ns,y.2= .free->∃c,env.cells.lookup y.1=some c)->(∀z∈acc,env.cells.lookup z.1=some z.2)->
   ∃cl,(forIn ns acc fun y cs=>if(y.2==Cp)=true then do let c<-cellOf env y.1;pure (B0 ((y.1,c)::cs))else pure (B0 cs))=(pure cl:Le _)/\
    (∀z∈cl,env.cells.lookup z.1=some z.2)/\(∀z∈acc,z∈cl)/\∀x c,env.cells.lookup x=some c->(x,Cp)∈ns->(x,c)∈cl:=by
  intro ns
  induction ns with
  |nil=>intro acc _ ha;exact⟨acc,rfl,ha,fun _ h=>h,fun _ _ _ h=>nomatch h⟩
  |cons y r ih=>
   intro acc hn ha
   refine af (Hm ..) ?_
   by_cases hy:(y.2==Cp)=true
   ·have IE:y.2= .free:=by exact eq_of_beq hy
    refine aK (hn y (Ag ..) IE) fun c hc=>?_
    obtain⟨cl,e1,e2,e3,e4⟩:=ih ((y.1,c)::acc) (fun z hz=>hn z (Ad _ hz)) (fun z hz=>by
     rcases Av.mp hz with rfl|hz
     ·exact hc
     ·exact ha z hz)
    refine vC cl ?_ e2 (fun z hz=>e3 z (Ad _ hz)) (fun x c' hx hm=>?_)
    ·refine af (if_pos hy) ?_
     have ij:cellOf env y.1=pure c:=by unfold cellOf;exact af hc rfl
     refine af ij ?_
     exact e1
    ·rcases Av.mp hm with rfl|hm
     ·rw[hc]at hx;obtain rfl:=Aa hx;exact e3 _ (Ag ..)
     ·exact e4 x c' hx hm
   ·refine iQ (ih acc (fun z hz=>hn z (Ad _ hz)) ha) fun cl e1 e2 e3 e4=>?_
    refine vC cl ?_ e2 e3 (fun x c' hx hm=>?_)
    ·refine af (if_neg hy) ?_;exact e1
    ·rcases Av.mp hm with rfl|hm
     ·exact absurd rfl hy
     ·exact e4 x c' hx hm
 refine iQ (key scope.names [] h (fun _ h=>nomatch h)) fun cl e1 e2 _ e4=>?_
 refine i12 cl ?_ (fun x c hx hm=>?_)
 ·show(forIn scope.names [] _>>=fun cs=>pure cs)=_
  have:(fun(y:Str×Cy) (cs:List (Str×Addr))=>if(y.2==Cp)=true then do let c<-cellOf env y.1;pure (B0 ((y.1,c)::cs))else(pure (B0 cs):Le _))=_:=rfl
  exact(congrArg (· >>=fun cs=>pure cs) e1)
 ·have hm:=e4 x c hx hm
  cases e:cl.lookup x with
  |none=>
   exfalso
   have:∀l:List (Str×Addr),(x,c)∈l->l.lookup x≠none:=by
    intro l
    induction l with
    |nil=>intro h;cases h
    |cons z r ih=>
     intro h
     refine af A8 ?_
     rcases Av.mp h with h|h
     ·subst h;simp
     ·split
      ·simp
      ·exact ih h
   exact this cl hm e
  |some c'=>
   have:∀l:List (Str×Addr),l.lookup x=some c'->(x,c')∈l:=by
    intro l
    induction l with
    |nil=>intro h;exact nn h
    |cons z r ih=>
     intro h
     rw[A8]at h
     split at h
     ·rename_i hz
      obtain rfl:=Aa h
      have:x=z.1:=by exact eq_of_beq hz
      refine af this ?_;exact Ag ..
     ·exact Ad _ (ih h)
   have h1:=e2 _ (this cl e)
   rw[hx]at h1
   exact h1.symm
end
noncomputable def gU(kn:List (Str×Cy))(sc:List (Str×Cy)):List (Str×Cy):=
 sc.map fun(n,k)=>if(k== .free&&kn.lookup n==some .cell)then(n, .cell)else(n,k)
noncomputable def lr:Nat->List Str->List (Str×Nat)
 |_,[]=> []
 |n,x::r=>(x,n)::lr (n+1) r
noncomputable def Cx.fj(C:Cx)(scope:Scope)(xs:List Str):Cx:=⟨gU C.kn scope.names,lr C.n xs++C.Γ,C.n+xs.length⟩
noncomputable def wR:List Str->Bool
 |[]=>true
 |x::r=>!r.contains x&&wR r
noncomputable def pX(C:Cx)(scope:Scope)(xs:List Str):Bool:=
 scope.kind== .function&&wR xs&&xs.all (fun x=>scope.names.lookup x==some .local)&&C.Γ.all (fun z=>decide (z.2<C.n))&&
 scope.names.all fun y=>y.2 != .cell&&(y.2 != .local||(scope.names.lookup y.1==some .local&&(xs.contains y.1||(C.Γ.lookup y.1).isNone)))&&
  (y.2 != .free||(C.kn.lookup y.1==some .cell||C.kn.lookup y.1==some .free))
section
variable(W:bP)(C:Cx)
noncomputable def iS(ifs:List Expr)(ts:ew):Prop:=∀env A E s σ b,Pre W C env A σ s->lj W.U ts σ=some b->
 An (Aj W.prog W.w) A (forIn ifs true fun c r=>if r=true then do let ok<-L7 c env (eval c env);pure (B0 ok)else pure (B0 r)) (fun b' s'=>b'=b/\KG s s') E s
inductive kr(A:Am)(s:Ab)(target:Expr)(xs:List Str)(its:List (List PV))(F:List Addr->Prop)(it:Value)(s₂:Ab):Prop
 |mk (I:Addr) (fp wr:List Addr) (St:Nat->As->Prop) (e:it= .ref I) (k:KG s s₂) (eJ:∀b∈wr,s.heap.get? b=none) (cg:∀b∈fp,∃o,s₂.heap.get? b=some o) (T:ef W.prog W.w A target xs I fp wr its St) (st:St 0 s₂.heap) (hF:F fp):kr A s target xs its F it s₂
noncomputable def i9(target:Expr)(xs:List Str)(iter:Expr)(src:nu):Prop:=∀env A E s σ its,Pre W C env A σ s->gz W.U src σ=some its->its.length<=ag->
 An (Aj W.prog W.w) A (eval iter env) (fun xv aa=>An (Aj W.prog W.w) A (Jf xv) (kr W A s target xs its fun _=>True) E aa) E s
end
section
variable{W:bP}{C:Cx}
theorem iS.nil:iS W C [] .nil:=fun env A E s σ b P e=>by obtain rfl:=Aa e;exact wpAny_tests_nil ⟨rfl,jY _⟩
theorem iS.one{c:Expr}{t:PT}(h:dB W C c t):iS W C [c] (.cons t .nil):=fun env A E s σ b P e=>by
 refine oB e fun b' e1 e2=>?_
 have:b'=b:=by cases b'<;>(simp[lj]at e2;exact e2.symm)
 subst this
 exact wpAny_tests_one (h env A E s σ b' P e1)
theorem pY{xs:List Str}:∀{n:Nat} {x:Str} {i:Nat},(lr n xs).lookup x=some i->∃j,i=n+j/\xs[j]?=some x:=by
 induction xs with
 |nil=>intro n x i h;exact nn h
 |cons y r ih=>
  intro n x i h
  unfold lr at h
  rw[A8]at h
  split at h
  ·rename_i hx
   obtain rfl:=Aa h
   refine i12 0 rfl ?_
   have:x=y:=by exact eq_of_beq hx
   rw[this];rfl
  ·refine aD (ih h) fun j e1 e2=>?_
   exact i12 (j+1) (by exact Eq.trans ‹_› (E9 _ _ _)) (by exact e2)
theorem XP{xs:List Str}:∀{n:Nat} {x:Str},(lr n xs).lookup x=none->x∉xs:=by
 induction xs with
 |nil=>intro n x _ h;cases h
 |cons y r ih=>
  intro n x h hm
  unfold lr at h
  rw[A8]at h
  split at h
  ·exact sn h
  ·rename_i hx
   rcases Av.mp hm with rfl|hm
   ·simp at hx
   ·exact ih h hm
theorem Qi{α:Type}{l m:List (Str×α)}{x:Str}:(l++m).lookup x=(l.lookup x).or (m.lookup x):=by
 induction l with
 |nil=>simp
 |cons z r ih=>
  refine af Dg ?_
  refine af A8 ?_
  refine af A8 ?_
  split
  ·simp
  ·exact ih
theorem yO{α:Type}{l:List (Str×α)}{x:Str}{a:α}(h:l.lookup x=some a):(x,a)∈l:=by
 induction l with
 |nil=>exact nn h
 |cons z r ih=>
  rw[A8]at h
  split at h
  ·rename_i hx
   obtain rfl:=Aa h
   have:x=z.1:=by exact eq_of_beq hx
   rw[this];exact Ag ..
  ·exact Ad _ (ih h)
theorem vR{kn:List (Str×Cy)}:∀{sc:List (Str×Cy)} {x:Str} {k:Cy},(gU kn sc).lookup x=some k->
  ∃aQ,sc.lookup x=some aQ/\(k=aQ\/(aQ= .free/\k= .cell))
 |[],_,_,h=>by exact nn h
 |(n,k₁)::r,x,k,h=>by
  have ih:= @vR kn r x k
  change E0 x ((if(k₁== .free&&kn.lookup n==some .cell)=true then(n,Cq)else(n,k₁))::gU kn r)=some k at h
  rw[A8]at h⊢
  by_cases hc:(k₁== .free&&kn.lookup n==some .cell)=true
  ·rw[if_pos hc]at h
   split at h
   ·rename_i hx
    obtain rfl:=Aa h
    simp only[Ao,beq_iff_eq]at hc
    refine af (show(x==n)=true from hx) ?_
    exact i12 k₁ rfl (.inr ⟨hc.1,rfl⟩)
   ·rename_i hx
    rw[show(x==n)=false by simpa using hx]
    exact ih h
  ·rw[if_neg hc]at h
   split at h
   ·rename_i hx
    obtain rfl:=Aa h
    refine af (show(x==n)=true from hx) ?_
    exact i12 _ rfl (.inl rfl)
   ·rename_i hx
    rw[show(x==n)=false by simpa using hx]
    exact ih h
inductive rB(m:Str->Option Value):List Str->List Value->Prop
 |nil:rB m [] []
 |cons {x v xs vs}:m x=some v->rB m xs vs->rB m (x::xs) (v::vs)
theorem rB.get{m:Str->Option Value}{xs:List Str}{vs:List Value}(b:rB m xs vs):∀{j:Nat} {x:Str} {v:Value},xs[j]?=some x->vs[j]?=some v->m x=some v:=by
 induction b with
 |nil=>intro j x v e;exact nn e
 |cons h _ ih=>
  intro j x v e1 e2
  cases j with
  |zero=>obtain rfl:=Aa e1;obtain rfl:=Aa e2;exact h
  |succ j=>exact ih (j:=j) e1 e2
theorem Qj{prog:Program}{w:Cn}{A:Am}{E:Value->Ab->Prop}{bF:Ea}{Q:Ab->Prop}(hp:(bF.scope.kind== .class||(bF.scope.kind== .module&&bF.locals !=bF.globals))=false):
  ∀(xs:List Str) (vs:List Value) (s:Ab) (m:Str->Option Value),xs.length=vs.length->wR xs=true->(∀x∈xs,bF.kindOf x=some .local)->s.heap.Ns bF.locals m->
   (∀h' tk m',h'.Ns bF.locals m'->Ci bF.locals s.heap h'->rB m' xs vs->(∀y,y∉xs->m' y=m y)->Q {s with heap:=h',toks:=tk})->ur prog w A bF E Q (xs.zip vs) s:=by
 intro xs
 induction xs with
 |nil=>
  intro vs s m hl _ _ hn h
  cases vs with
  |nil=>exact h s.heap s.toks m hn (fun _ _ _ e=>e) .nil fun _ _=>rfl
  |cons v vs=>cases hl
 |cons x xs ih=>
  intro vs s m hl hd hk hn h
  cases vs with
  |nil=>cases hl
  |cons v vs=>
  simp only[wR,Ao,Dk,C2,decide_eq_false_iff_not]at hd
  rw[Ho]
  refine wpAny_storeName_local (hk x (Ag ..)) hn (fun ai vS vT=>?_) hp
  refine ih vs _ _ (by simpa using hl) hd.2 (fun y hy=>hk y (Ad _ hy)) vS fun aj cz m₂ vU vV hb ho=>?_
  refine h aj cz m₂ vU (fun b o hb e=>vV b o hb (vT.extBut b o hb e)) (.cons ?_ hb) fun y hy=>?_
  ·rw[ho x hd.1];simp
  ·rw[ho y fun hm=>hy (Ad _ hm)]
   simp[show y≠x from fun q=>hy (q▸Ag ..)]
theorem bA{a b:Bool}(h:(a&&b)=true):a=true/\b=true:=B3.mp h
theorem Pre.kd{env:Ea}{A:Am}{σ:List (Option PV)}{s:Ab}{x:Str}{k:Cy}(P:Pre W C env A σ s)(e:C.kn.lookup x=some k):env.kindOf x=some k:=(congrArg (E0 x) P.names).trans e
theorem Pre.out{env:Ea}{A:Am}{σ:List (Option PV)}{s:Ab}{x:Str}{i:Nat}{p:PV}(P:Pre W C env A σ s)(h:C.kn.lookup x=some .cell\/C.kn.lookup x=some .free)(e3:C.Γ.lookup x=some i)(e4:σ[i]?=some (some p)):
  ∃c v n,env.cells.lookup x=some c/\s.heap.IsCell c (some v)/\VR s.heap p v n:=
 have key:∀q,vF q=true->q≠ .local->C.kn.lookup x=some q->_:=fun q e2 hn e1=>
  eu (P.rd x i p q e1 e2 e3 e4) fun v n a r=>a.elim (fun h=>absurd (Aa ((P.kd e1).symm.trans h.1)) hn) fun h=>aD h.2 fun c hc hv=>⟨c,v,n,hc,hv,r⟩
 h.elim (key _ rfl nofun) (key _ rfl nofun)
theorem Qk{scope:Scope}{xs:List Str}{env:Ea}{A:Am}{σ:List (Option PV)}{s s':Ab}{cl:List (Str×Addr)}{L:Addr}{it:List PV}
  (h1:(scope.kind== .function)=true) (P:Pre W C env A σ s) (k:KG s s') (h4:C.Γ.all (fun z=>decide (z.2<C.n))=true) (dm:∀x c,env.cells.lookup x=some c->scope.names.lookup x=some .free->cl.lookup x=some c) (hl:it.length=xs.length)
  (vW:∀(x:Str) (j:Nat) (p:PV) kk,xs[j]?=some x->it[j]?=some p->(gU C.kn scope.names).lookup x=some kk->(Dy scope cl L env).kindOf x=some kk->∃v ns,Acc (Dy scope cl L env) s'.heap x v/\VR s'.heap p v ns)
  (IL:∀x aQ i,scope.names.lookup x=some aQ->x∉xs->C.Γ.lookup x=some i->vF aQ=true->aQ= .free)
  (pZ:∀x,scope.names.lookup x=some .free->C.kn.lookup x=some .cell\/C.kn.lookup x=some .free)
  (XQ:∀x,scope.names.lookup x=some .cell->∃c,cl.lookup x=some c):Pre W (C.fj scope xs) (Dy scope cl L env) A (σ++it.map some) s':=by
 have dw:(Fz scope env).names=gU C.kn scope.names:=by
  refine Cj fun z _=>?_
  refine(?_:(if(z.2==Cp&&env.scope.kind== .function&&env.scope.names.lookup z.1==some .cell)=true then _ else _)=_)
  rw[P.kind,P.names,show(Hp==Hp)=true from rfl,Jz]
 refine⟨eq_of_beq h1,dw,P.gl,P.bl,P.room,?_,fun x i p kk e1 e2 e3 e4=>?_,W.mono P.wd (wC k),fun x kk e1 e2=>?_⟩
 ·refine(?_:(σ++it.map some).length=C.n+xs.length)
  rw[Ax,Az,P.len,hl]
 ·have ku:(Dy scope cl L env).kindOf x=some kk:=(congrArg (E0 x) dw).trans e1
  have e3:(lr C.n xs++C.Γ).lookup x=some i:=e3
  rw[Qi]at e3
  cases hx:(lr C.n xs).lookup x with
  |some i'=>
   rw[hx]at e3
   obtain rfl:=Aa e3
   refine aD (pY hx) fun j aH hj=>?_
   subst aH
   rw[C6 (P.len▸Du ..),P.len,J7,Ay]at e4
   refine aD (By.mp e4) fun q e q'=>?_
   exact vW x j p kk hj (Aa q'▸e) e1 ku
  |none=>
   rw[hx]at e3
   have e3:C.Γ.lookup x=some i:=e3
   rw[B9 (P.len▸of_decide_eq_true (Al.mp h4 _ (yO e3)))]at e4
   refine aD (vR e1) fun aQ e5 e6=>?_
   have hf:aQ= .free:=e6.elim (fun q=>IL x aQ i e5 (XP hx) e3 (q▸e2)) (·.1)
   subst hf
   obtain⟨c,v,n,hc,hv,r⟩:=P.out (pZ x e5) e3 e4
   exact nr v n (.inr ⟨e6.elim (fun q=> .inr (q▸ku)) (fun q=> .inl (q.2▸ku)),c,dm x c hc e5,hv.keeps (wC k)⟩) (r.sub (wC k))
 ·refine aD (vR (show(gU C.kn scope.names).lookup x=some kk from e1)) fun aQ e5 e6=>?_
  refine(e6.elim (fun q=>q▸e2) (fun q=> .inr q.1):aQ= .cell\/aQ= .free).elim (fun q=>XQ x (q▸e5)) fun q=>?_
  subst q
  exact aK ((pZ x e5).elim (fun e=>P.eI x _ e (.inl rfl)) (fun e=>P.eI x _ e (.inr rfl))) fun c hc=>bU c (dm x c hc e5)
theorem XR{scope:Scope}{xs:List Str}{env:Ea}{A:Am}{σ:List (Option PV)}{s s':Ab}{cl:List (Str×Addr)}{L:Addr}{m:Str->Option Value}{it:List PV}{vs:List Value}{ns:List Addr}
  (bM:pX C scope xs=true) (P:Pre W C env A σ s) (k:KG s s') (dm:∀x c,env.cells.lookup x=some c->(x,Cp)∈scope.names->cl.lookup x=some c)
  (hn:s'.heap.Ns L m) (hb:rB m xs vs) (hr:aq s'.heap it vs ns) (hl:it.length=xs.length):Pre W (C.fj scope xs) (Dy scope cl L env) A (σ++it.map some) s':=by
 refine ao (bA bM) fun bM h5=>?_
 refine ao (bA bM) fun bM h4=>?_
 refine ao (bA bM) fun bM h3=>?_
 have h5:=fun x k (e:scope.names.lookup x=some k)=>Al.mp h5 _ (yO e)
 refine Qk (bA bM).1 P k h4 (fun x c h e=>dm x c h (yO e)) hl (fun x j p kk hj hg e1 ku=>?_) (fun x aQ i e5 hx e3 e2=>?_) (fun x e5=>?_) fun x e5=>?_
 ·refine aD (vR e1) fun aQ e5 e6=>?_
  have e5:=Aa ((eq_of_beq (Al.mp h3 x (C7 hj))).symm.trans e5)
  have IM:kk= .local:=e6.elim (·.trans e5.symm) fun q=>nomatch e5.trans q.1
  refine cM (hr.get hg) fun v n e7 e8 _=>?_
  exact nr v n (.inl ⟨IM▸ku,m,hn,hb.get hj e7⟩) e8
 ·have hm:=h5 x aQ e5
  cases aQ with
  | «local» =>simp[e3,hx]at hm
  |cell=>exact ft hm
  |free=>rfl
  |globalImplicit=>exact ft e2
  |globalExplicit=>exact ft e2
 ·have hm:=(bA (h5 x _ e5)).2
  simpa using hm
 ·exact ft (h5 x _ e5)
end
theorem VR.nodes{h:As}{p:PV}{v:Value}{ns:List Addr}(x:VR h p v ns):∀a∈ns,∃items n,h.get? a=some {cls:= .type "list",data:= .seq items n}:=
 VR.rec (motive_1:=fun _ _ ns _=>∀a∈ns,∃items n,h.get? a=some {cls:= .type "list",data:= .seq items n}) (motive_2:=fun _ _ ns _=>∀a∈ns,∃items n,h.get? a=some {cls:= .type "list",data:= .seq items n})
  (fun _ h=>(Ar h).elim) (fun _ _ h=>(Ar h).elim) (fun _ _ _ h=>(Ar h).elim) (fun _ _ _ h=>(Ar h).elim) (fun _ _ h=>(Ar h).elim)
  (fun hl _ ih a ha=>(Av.mp ha).elim (fun q=>let⟨n,e⟩:=hl;⟨_,n,q▸e⟩) (ih a)) (fun _ h=>(Ar h).elim) (fun _ _ i1 i2 a ha=>(A9.mp ha).elim (i1 a) (i2 a)) x
theorem aq.nodes{h:As}{p:List PV}{v:List Value}{ns:List Addr}(x:aq h p v ns):∀a∈ns,∃items n,h.get? a=some {cls:= .type "list",data:= .seq items n}:=
 x.ind (M:=fun _ _ ns=>∀a∈ns,∃items n,h.get? a=some {cls:= .type "list",data:= .seq items n}) (fun _ h=>(Ar h).elim) fun hv _ ih a ha=>(A9.mp ha).elim (hv.nodes a) (ih a)
theorem aq.cg{h:As}{p:List PV}{v:List Value}{ns:List Addr}(r:aq h p v ns):∀a∈ns,∃o,h.get? a=some o:=fun a ha=>let⟨_,_,e⟩:=r.nodes a ha;⟨_,e⟩
theorem wY{h:As}{c:Addr}{m:Str->Option Value}(hn:h.Ns c m){items:Array Value}{n:Nat}(e:h.get? c=some {cls:= .type "list",data:= .seq items n}):False:=by
 refine nT hn fun o es ep ho hd _=>?_
 rw[ho]at e;obtain rfl:=Aa e;cases hd
theorem VR.lV{h:As}{p:PV}{v:Value}{ns:List Addr}(r:VR h p v ns){c:Addr}{m:Str->Option Value}(hn:h.Ns c m):c∉ns:=fun ha=>let⟨_,_,e⟩:=r.nodes c ha;wY hn e
theorem rC{s s':Ab}(k:KG s s')(h:As)(t:Nat)(e:Sub s.heap h):KG s {s' with heap:=h,toks:=t}:=by
 obtain⟨h',t',g,rfl,_,x⟩:=k
 exact⟨h,t,g,rfl,e,x⟩
section
variable{W:bP}{C:Cx}
noncomputable def lW(U:Uc)(elt:PE)(ifs:ew)(σ:List (Option PV))(it:List PV):Option (Option PV):=
 (lj U ifs (σ++it.map some)).bind fun ok=>if ok then(ev U elt (σ++it.map some)).bind fun y=>if fresh elt y then some (some y)else none else some none
theorem XS{U:Uc}{pe:PE}{ts:ew}{σ:List (Option PV)}{it:List PV}{y:PV}(e:lW U pe ts σ it=some (some y)):lj U ts (σ++it.map some)=some true/\ev U pe (σ++it.map some)=some y/\fresh pe y=true:=by
 refine oB e fun ok e1 e2=>?_
 cases ok with
 |false=>exact nn (Aa e2)
 |true=>
  refine oB e2 fun z e3 e4=>?_
  refine oI e4 fun hf e5=>?_
  obtain rfl:=Aa (Aa e5)
  exact lP e1 e3 hf
theorem XT{U:Uc}{pe:PE}{ts:ew}{σ:List (Option PV)}{it:List PV}(e:lW U pe ts σ it=some none):lj U ts (σ++it.map some)=some false:=by
 refine oB e fun ok e1 e2=>?_
 cases ok with
 |false=>exact e1
 |true=>
  refine oB e2 fun z e3 e4=>?_
  exact sn (Aa (rq e4).2)
theorem XU{f:List PV->Option (Option PV)}{it:List PV}{l:List (List PV)}{r:List PV}(e:wX f (it::l)=some r):(∃y r',f it=some (some y)/\wX f l=some r'/\r=y::r')\/(f it=some none/\wX f l=some r):=by
 unfold wX at e
 cases q:f it with
 |none=>rw[q]at e;exact nn e
 |some o=>
  rw[q]at e
  cases o with
  |none=>exact .inr ⟨rfl,e⟩
  |some y=>obtain⟨r',e1,rfl⟩:=dk e;exact .inl ⟨y,r',rfl,e1,rfl⟩
theorem XW{α:Type}{l:List α}{i:Nat}(h:i<l.length):∃x,l[i]?=some x/\l.drop i=x::l.drop (i+1):=⟨l[i],by simp[h],Bc h⟩
structure CS(s:Ab)(D:Addr)(fp:List Addr)(St:Nat->As->Prop)(J:As->Prop)(i:Nat)(ys:List Value)(qs:List PV)(ns:List Addr)(s':Ab):Prop where
 k:KG s s'
 st:St i s'.heap
 pl:s'.heap.PlainList D ys.toArray
 vs:aq s'.heap qs ys ns
 fr:eW s.heap ns
 dn:D∉ns
 nf:∀a∈ns,a∉fp
 j:J s'.heap
structure p8(W:bP)(C':Cx)(bF:Ea)(A:Am)(σ:List (Option PV))(s:Ab)(xs:List Str)(D Z:Addr)(fp wr:List Addr)(J:As->Prop):Prop where
 nD:s.heap.get? D=none
 nZ:s.heap.get? Z=none
 eJ:∀b∈wr,s.heap.get? b=none
 DZ:D≠Z
 Df:D∉fp
 Zf:Z∉fp
 rz:∀h,J h->∀items n,h.get? Z≠some {cls:= .type "list",data:= .seq items n}
 fr:∀h h',J h->(∀b o,b∉fp->b≠D->h.get? b=some o->h'.get? b=some o)->J h'
 store:∀(it:List PV) (us:List Value) (ms:List Addr) (s':Ab) (Q:Ab->Prop) (E:Value->Ab->Prop),J s'.heap->KG s s'->it.length=xs.length->aq s'.heap it us ms->Z∉ms->
  (∀h tk,J h->Ci Z s'.heap h->Pre W C' bF A (σ++it.map some) {s' with heap:=h,toks:=tk}->Q {s' with heap:=h,toks:=tk})->ur W.prog W.w A bF E Q (xs.zip us) s'
inductive CG(s:Ab)(D:Addr)(fp:List Addr)(St:Nat->As->Prop)(J:As->Prop)(its:List (List PV))(ps:List PV)(F:List PV->Option (Option PV))(n:Nat)(s':Ab):Prop
 |mk (i:Nat) (ys:List Value) (qs rest:List PV) (ns:List Addr) (hn:n=its.length+1-i) (hi:i<=its.length) (S:CS s D fp St J i ys qs ns s') (run:wX F (its.drop i)=some rest) (p9:ps=qs++rest) (CH:ys.length<=i):CG s D fp St J its ps F n s'
section
variable{C':Cx}{bF:Ea}{A:Am}{σ:List (Option PV)}{s s' bC:Ab}{xs:List Str}{D Z I:Addr}{fp wr:List Addr}{J:As->Prop}{target:Expr}{its:List (List PV)}{St:Nat->As->Prop}{i:Nat}{ys:List Value}{qs:List PV}{ns:List Addr}{h:As}{tk:Nat}
theorem CS.kp(B:p8 W C' bF A σ s xs D Z fp wr J)(T:ef W.prog W.w A target xs I fp wr its St)(S:CS s D fp St J i ys qs ns s')(k:KG s' bC):CS s D fp St J i ys qs ns bC:=
 ⟨zT S.k k,T.frame _ _ _ S.st fun b _ o e=>wC k b o e,S.pl.at fun o e=>wC k D o e,S.vs.sub (wC k),S.fr,S.dn,S.nf,B.fr _ _ S.j fun b o _ _ e=>wC k b o e⟩
theorem CS.fin(B:p8 W C' bF A σ s xs D Z fp wr J)(T:ef W.prog W.w A target xs I fp wr its St)(S:CS s D fp St J i ys qs ns s'){St':Nat->As->Prop}{i':Nat}(k:∀b o,b∉wr->s'.heap.get? b=some o->h.get? b=some o)(st:St' i' h):CS s D fp St' J i' ys qs ns {s' with heap:=h,toks:=tk}:=
 ⟨rC S.k _ _ fun b o e=>k b o (fun hb=>by rw[B.eJ b hb]at e;exact nn e) (wC S.k b o e),st,S.pl.at fun o e=>k D o (fun h=>B.Df (T.sub _ h)) e,S.vs.on fun a ha o e=>k a o (fun hw=>S.nf a ha (T.sub _ hw)) e,S.fr,S.dn,S.nf,B.fr _ _ S.j fun b o hb _ e=>k b o (fun h=>hb (T.sub _ h)) e⟩
theorem CS.stored(B:p8 W C' bF A σ s xs D Z fp wr J)(T:ef W.prog W.w A target xs I fp wr its St)(S:CS s D fp St J i ys qs ns s')(j:J h)(k:Ci Z s'.heap h):CS s D fp St J i ys qs ns {s' with heap:=h,toks:=tk}:=
 ⟨rC S.k _ _ fun b o e=>k b o (fun q=>by rw[q,B.nZ]at e;exact nn e) (wC S.k b o e),T.frame _ _ _ S.st fun b hb o e=>k b o (fun q=>B.Zf (q▸hb)) e,S.pl.at fun o e=>k D o B.DZ e,
  S.vs.on fun a ha o e=>k a o (fun q=>let⟨_,_,e'⟩:=S.vs.nodes a ha;B.rz _ S.j _ _ (q▸e')) e,S.fr,S.dn,S.nf,j⟩
theorem CS.add(B:p8 W C' bF A σ s xs D Z fp wr J)(T:ef W.prog W.w A target xs I fp wr its St)(S:CS s D fp St J i ys qs ns s'){ls:List Addr}{v:Value}{y:PV}(k:KG s' bC)(r:VR bC.heap y v ls)(f:eW s'.heap ls)(pl:h.PlainList D (ys.toArray.push v))(b:Heap.SameBut D bC.heap h):
  CS s D fp St J i (ys++[v]) (qs++[y]) (ns++ls) {bC with heap:=h}:=by
 have dl:D∉ls:=fun m=>by obtain⟨n,e⟩:=S.pl;rw[f.new D m]at e;exact nn e
 refine⟨rC (zT S.k k) h bC.toks fun a o e=>b.extBut a o (fun q=>by rw[q,B.nD]at e;exact nn e) (wC k a o (wC S.k a o e)),T.frame _ _ _ S.st fun a ha o e=>b.extBut a o (fun q=>B.Df (q▸ha)) (wC k a o e),by simpa using pl,
  .append ((S.vs.sub (wC k)).on fun a ha o e=>b.extBut a o (fun q=>S.dn (q▸ha)) e) (.one (r.on fun a ha o e=>b.extBut a o (fun q=>dl (q▸ha)) e)),
  ⟨Hx.mpr ⟨S.fr.nodup,f.nodup,fun a ha c hc q=>?_⟩,fun a ha=>(A9.mp ha).elim (S.fr.new a) fun h=>nv (wC S.k) (f.new a h)⟩,fun h=>(A9.mp h).elim S.dn dl,
  fun a ha=>(A9.mp ha).elim (S.nf a) fun h hf=>?_,B.fr _ _ S.j fun a o _ ha e=>b.extBut a o ha (wC k a o e)⟩
 ·refine aK (S.vs.cg a ha) fun o e=>?_
  rw[f.new a (q▸hc)]at e;exact nn e
 ·refine aK (T.cg _ _ S.st a hf) fun o e=>?_
  rw[f.new a h]at e;exact nn e
theorem XX{elt:Expr}{ifs:List Expr}{pe:PE}{ts:ew}{ps:List PV}{R:Ez->Ab->Prop}{n:Nat}(B:p8 W C' bF A σ s xs D Z fp wr J)(T:ef W.prog W.w A target xs I fp wr its St)(cb:ax W C' elt pe)(da:iS W C' ifs ts)(hsz:its.length<=ag)
  (gV:∀s' ns,KG s s'->J s'.heap->VR s'.heap (.list ps) (.ref D) ns->eW s.heap ns->R (.ok .next) s') (x:CG s D fp St J its ps (lW W.U pe ts σ) n s'):
  IK W.prog W.w A elt target ifs I (.ref D) bF R (CG s D fp St J its ps (lW W.U pe ts σ)) n s':=by
 obtain⟨i,ys,qs,rest,ns,rfl,hi,S,run,p9,CH⟩:=x
 by_cases aY:i<its.length
 ·refine aD (XW aY) fun it hit gj=>?_
  rw[gj]at run
  have less:its.length+1-(i+1)<its.length+1-i:=Nat.sub_lt_sub_left (Hy aY) (Bx i)
  refine zM (T.item i it s' _ _ _ hit S.st fun us ms aj cz ja oh hlen dJ bE=>?_) fun r aa h=> .inr h
  have eh:=S.fin (tk:=cz) B T bE dJ
  refine B.store it us ms _ _ _ eh.j eh.k hlen ja (fun h=>B.Zf (oh _ h)) fun aE gk hJ he rD=>?_
  have oi:=eh.stored (tk:=gk) B T hJ he
  rcases XU run with⟨y,r',e1,e2,rfl⟩|⟨e1,e2⟩
  ·refine cD (XS e1) fun e3 e4 e5=>?_
   refine zM (da _ A _ _ _ true rD e3) fun XY aV aW=>?_
   refine ao aW fun aI cY=>?_
   clear aW
   subst aI
   refine af (if_pos rfl) ?_
   refine zM (cb _ A _ _ _ y (rD.kp cY) e4) fun v dh eD=>?_
   obtain⟨gB,ls,i7,IP⟩:=eD
   have fY:=oi.kp B T cY
   refine Ge (hsz:=by(refine af A5 ?_;refine af Bt ?_);exact Ah CH (Ah hi hsz)) ((fY.kp B T gB).pl) fun gC jb gm=>?_
   exact i12 _ less (.mk (i+1) _ _ r' _ rfl aY (fY.add B T gB i7 (IP e5) jb gm) e2 (by(refine af p9 ?_;refine af (Br ..) ?_);rfl) (by refine af Ax ?_;exact Gb CH))
  ·refine zM (da _ A _ _ _ false rD (XT e1)) fun XY aV aW=>?_
   refine ao aW fun aI cY=>?_
   clear aW
   subst aI
   refine af (if_neg Ce) ?_
   exact i12 _ less (.mk (i+1) _ _ rest _ rfl aY (oi.kp B T cY) e2 p9 (Nat.le_succ_of_le CH))
 ·obtain rfl:i=its.length:=Fh hi (Fu.mp aY)
  rw[List.drop_length]at run
  obtain rfl:=Aa run
  rw[Dr]at p9
  subst p9
  refine T.done _ _ _ S.st fun aj cz bE=> .inl ⟨rfl,?_⟩
  have eh:=S.fin (St':=fun _ _=>True) (i':=0) (tk:=cz) B T bE trivial
  exact gV _ (D::ns) eh.k eh.j (.list eh.pl eh.vs) ⟨C9.mpr ⟨eh.dn,eh.fr.nodup⟩,Lj.mpr ⟨B.nD,eh.fr.new⟩⟩
theorem Ql{elt iter:Expr}{scope:Scope}{pos:B7}{ifs:List Expr}{pe:PE}{ts:ew}{ps:List PV}{R:Ez->Ab->Prop}(B:p8 W C' bF A σ s xs D Z fp wr J)(T:ef W.prog W.w A target xs I fp wr its St)(cb:ax W C' elt pe)(da:iS W C' ifs ts)(hsz:its.length<=ag)
  (run:wX (lW W.U pe ts σ) its=some ps) (gV:∀s' ns,KG s s'->J s'.heap->VR s'.heap (.list ps) (.ref D) ns->eW s.heap ns->R (.ok .next) s') (S:CS s D fp St J 0 [] [] [] s'):
  Cs (Aj W.prog W.w) A (.compStart (.ListComp elt [⟨target,iter,ifs,0⟩] scope pos) 0 (.ref I) (.ref D) bF) R s':=
 have loop:=Qh (CG s D fp St J its ps (lW W.U pe ts σ)) (fun _ _ h=>XX B T cb da hsz gV h) (its.length+1) (.mk 0 [] [] ps [] rfl (Dv _) S run rfl (B6 _))
 codeAny_compStart_list loop (T.self 0 _ _ _ S.st loop)
end
theorem Qm{scope:Scope}{xs:List Str}(h:pX C scope xs=true):scope.kind= .function/\wR xs=true/\(∀x∈xs,scope.names.lookup x=some .local)/\∀y∈scope.names,y.2≠ .cell:=by
 unfold pX at h
 refine ao (b2 h) fun h h5=>?_
 refine ao (b2 h) fun h _=>?_
 refine ao (b2 h) fun h h3=>?_
 refine ao (b2 h) fun h1 h2=>?_
 exact Pu (eq_of_beq h1) h2 (fun x hx=>eq_of_beq (Al.mp h3 x hx)) (fun y hy=>bne_iff_ne.mp (b2 (b2 (Al.mp h5 y hy)).1).1)
section
variable{elt iter target:Expr}{xs:List Str}{x:Str}{ifs:List Expr}{scope:Scope}{pos:B7}{pe:PE}{ts:ew}{env:Ea}{A:Am}{E:Value->Ab->Prop}{σ:List (Option PV)}{s s₂:Ab}{cl:List (Str×Addr)}
 {I:Addr} {fp wr:List Addr} {its:List (List PV)} {St:Nat->As->Prop} {ps:List PV} {RR:Value->Addr->Ez->Ab->Prop}
structure Qn(h ai:As)(D L Z:Addr):Prop where
 d:h.objs.size=D
 l:D<L
 z:L<=Z
 old:∀b o,h.get? b=some o->ai.get? b=some o
 acc:ai.PlainList D ([]:List Value).toArray
theorem XZ{D L:Addr}{ai:As}{tk:Nat}{m:Str->Option Value}(bM:pX C scope xs=true)(P:Pre W C env A σ s)(dm:∀x c,env.cells.lookup x=some c->(x,Cp)∈scope.names->cl.lookup x=some c)
  (cb:ax W (C.fj scope xs) elt pe) (da:iS W (C.fj scope xs) ifs ts)
  (aQ:KG s s₂) (eJ:∀b∈wr,s.heap.get? b=none) (cZ:∀b∈fp,∃o,s₂.heap.get? b=some o) (T:ef W.prog W.w A target xs I fp wr its St) (st:St 0 s₂.heap) (hsz:its.length<=ag)
  (run:wX (lW W.U pe ts σ) its=some ps)
  (gV:∀D L s' ns m',s.heap.get? L=none->KG s s'->s'.heap.Ns L m'->VR s'.heap (.list ps) (.ref D) ns->eW s.heap ns->L∉ns->RR (.ref D) L (.ok .next) s')
  (N:Qn s₂.heap ai D L L) (hn:ai.Ns L m):
  Cs (Aj W.prog W.w) A (.compStart (.ListComp elt [⟨target,iter,ifs,0⟩] scope pos) 0 (.ref I) (.ref D) (Dy scope cl L env)) (RR (.ref D) L) {s₂ with heap:=ai,toks:=tk}:=by
 refine ri (Qm bM) fun bu gW ba aS=>?_
 have nD:s₂.heap.get? D=none:=vH (Fi N.d)
 have nL:s₂.heap.get? L=none:=vH (Dc (N.d▸N.l))
 have off:∀{a:Addr},s₂.heap.get? a=none->a∉fp:=fun e hm=>by obtain⟨o,e'⟩:=cZ _ hm;rw[e]at e';exact nn e'
 have B:p8 W (C.fj scope xs) (Dy scope cl L env) A σ s xs D L fp wr (fun h=>∃m,h.Ns L m):=
  {nD:=nv (wC aQ) nD,nZ:=nv (wC aQ) nL,eJ:=eJ,DZ:=Bu N.l,Df:=off nD,Zf:=off nL
   rz:=fun h ⟨m,hn⟩ items n e=>wY hn e
   fr:=fun h h' ⟨m,hn⟩ k=>⟨m,hn.at' fun o e=>k L o (off nL) (G9 N.l) e⟩
   store:=fun it us ms s' Q E ⟨m,hn⟩ k hl hv hz hQ=>Qj (by simp[Dy,Fz,bu]) xs us _ m (by rw[<-hl];exact hv.length.symm) gW (fun x hx=>lookup_relabel_local (ba x hx)) hn fun aE gk oj ik eK qa _=>
    hQ aE gk ⟨oj,ik⟩ eK (XR bM P (rC k _ _ fun b o e=>eK b o (fun q=>by have e:s.heap.get? b=some o:=e;rw[show b=L from q,nv (wC aQ) nL]at e;exact nn e) (wC k b o e)) dm ik qa (hv.on fun a ha o e=>eK a o (fun q=>hz ((show a=L from q)▸ha)) e) hl)}
 exact Ql B T cb da hsz run (fun s' ns k ⟨m,hn⟩ r f=>gV D L s' ns m B.nZ k hn r f (r.lV hn))
  ⟨rC aQ _ _ fun b o e=>N.old b o (wC aQ b o e),T.frame _ _ _ st fun b _ o e=>N.old b o e,N.acc, .nil,eW.nil _,(fun h=>nomatch h),(fun _ h=>nomatch h),⟨m,hn⟩⟩
theorem X1(bM:pX C scope xs=true)(P:Pre W C env A σ s)(dm:∀x c,env.cells.lookup x=some c->(x,Cp)∈scope.names->cl.lookup x=some c)
  (cb:ax W (C.fj scope xs) elt pe) (da:iS W (C.fj scope xs) ifs ts)
  (aQ:KG s s₂) (eJ:∀b∈wr,s.heap.get? b=none) (cZ:∀b∈fp,∃o,s₂.heap.get? b=some o) (T:ef W.prog W.w A target xs I fp wr its St) (st:St 0 s₂.heap) (hsz:its.length<=ag)
  (run:wX (lW W.U pe ts σ) its=some ps)
  (gV:∀D L s' ns m',s.heap.get? L=none->KG s s'->s'.heap.Ns L m'->VR s'.heap (.list ps) (.ref D) ns->eW s.heap ns->L∉ns->RR (.ref D) L (.ok .next) s'):
  An (Aj W.prog W.w) A (newList []) (fun acc av=>An (Aj W.prog W.w) A (Hz scope env.globals cl [] env.qual none .none (some env)) (fun bF aV=>
   Cs (Aj W.prog W.w) A (.compStart (.ListComp elt [⟨target,iter,ifs,0⟩] scope pos) 0 (.ref I) acc {bF with scope:=Fz scope env}) (RR acc bF.locals) aV) E av) E s₂:=by
 refine ri (Qm bM) fun bu gW ba aS=>?_
 refine Co (G1 aS (by intro y hy;simp at hy) (fun ai jc jd=>?_) bu)
 have hL:(s₂.heap.push {cls:= .type "list",dict:=none,data:= .seq ([]:List Value).toArray}).objs.size=s₂.heap.objs.size+1:=Gf ..
 have up:∀b o,b≠s₂.heap.objs.size+1->(s₂.heap.push {cls:= .type "list",dict:=none,data:= .seq ([]:List Value).toArray}).get? b=some o->ai.get? b=some o:=fun b o hb e=>jd.extBut b o (fun q=>hb (q.trans hL)) (Ak _ e)
 exact XZ (s₂:=s₂) bM P dm cb da aQ eJ cZ T st hsz run gV ⟨rfl,by rw[hL];exact Bx _,B6 _,fun b o e=>up b o (Bu (Hy (Bo e))) (Ak _ e),
  ⟨_,up _ _ (Bu (Bx _)) (A0 _ rfl)⟩⟩ jc
end
noncomputable def rE(C:Cx)(scope:Scope)(xs:List Str):Bool:=match xs with
 |[x]=>scope.kind== .function&&scope.names.filter (fun y=>y.2== .cell)==[(x, .cell)]&&scope.names.lookup x==some .cell&&C.Γ.all (fun z=>decide (z.2<C.n))&&
  scope.names.all fun y=>(y.2 != .local||(scope.names.lookup y.1==some .local&&(C.Γ.lookup y.1).isNone))&&(y.2 != .free||(C.kn.lookup y.1==some .cell||C.kn.lookup y.1==some .free))&&(y.1 !=x||y.2== .cell)
 |_=>false
theorem Qo{C:Cx}{scope:Scope}{xs:List Str}(h:rE C scope xs=true):∃x,xs=[x]:=by
 cases xs with
 |nil=>exact ft h
 |cons x r=>
  cases r with
  |nil=>exact⟨x,rfl⟩
  |cons=>exact ft h
noncomputable def qb(C:Cx)(scope:Scope)(xs:List Str):Bool:=pX C scope xs||rE C scope xs
theorem Qp{scope:Scope}{xs:List Str}(h:qb C scope xs=true):scope.kind= .function/\(∀y∈scope.names,y.2= .local->scope.names.lookup y.1=some .local)/\∀y∈scope.names,y.2= .free->C.kn.lookup y.1=some .cell\/C.kn.lookup y.1=some .free:=by
 unfold qb at h
 simp only[El]at h
 rcases h with h|h
 ·unfold pX at h
  simp only[Ao,Al,beq_iff_eq,decide_eq_true_eq]at h
  refine ao h fun bq h5=>?_
  refine ao bq fun bq _=>?_
  obtain⟨⟨bu,gW⟩,ba⟩:=bq
  refine lP bu (fun y hy hl=>?_) (fun y hy hf=>?_)
  ·have:=(h5 y hy).1.2
   rw[hl]at this
   simp at this
   exact this.1
  ·have:=(h5 y hy).2
   rw[hf]at this
   simpa using this
 ·refine aK (Qo h) fun x aH=>?_
  subst aH
  unfold rE at h
  simp only[Ao,Al,beq_iff_eq,decide_eq_true_eq]at h
  refine ao h fun bq h5=>?_
  refine ao bq fun bq _=>?_
  obtain⟨⟨bu,_⟩,_⟩:=bq
  refine lP bu (fun y hy hl=>?_) (fun y hy hf=>?_)
  ·have:=(h5 y hy).1.1
   rw[hl]at this
   simp at this
   exact this.1
  ·have:=(h5 y hy).1.2
   rw[hf]at this
   simpa using this
theorem Qq{M:M0}{A:Am}{E:Value->Ab->Prop}:∀(names:List (Str×Cy)) (acc:List (Str×Addr)) (s:Ab) (Q:List (Str×Addr)->Ab->Prop),names.filter (fun y=>y.2== .cell)=[]->Q acc s->
  An M A (forIn names acc fun z cells=>if(z.2==Cq)=true then do let c<-alloc {cls:= .type "cell",data:= .cell none};pure (B0 ((z.1,c)::cells))else pure (B0 cells)) Q E s
 |[],acc,s,Q,_,h=>Aq h
 |z::r,acc,s,Q,hf,h=>by
  rw[Hm]
  rw[Ha]at hf
  by_cases hz:(z.2==Cq)=true
  ·rw[if_pos hz]at hf;cases hf
  ·rw[if_neg hz]at hf
   rw[if_neg hz]
   exact Ac (Aq (Qq r acc s Q hf h))
theorem Qr{M:M0}{A:Am}{E:Value->Ab->Prop}{x:Str}:∀(names:List (Str×Cy)) (acc:List (Str×Addr)) (s:Ab) (Q:List (Str×Addr)->Ab->Prop),names.filter (fun y=>y.2== .cell)=[(x, .cell)]->
  Q ((x,s.heap.objs.size)::acc) {s with heap:=s.heap.push {cls:= .type "cell",data:= .cell none} }->
  An M A (forIn names acc fun z cells=>if(z.2==Cq)=true then do let c<-alloc {cls:= .type "cell",data:= .cell none};pure (B0 ((z.1,c)::cells))else pure (B0 cells)) Q E s
 |[],acc,s,Q,hf,h=>by cases hf
 |z::r,acc,s,Q,hf,h=>by
  refine af (Hm ..) ?_
  rw[Ha]at hf
  by_cases hz:(z.2==Cq)=true
  ·rw[if_pos hz]at hf
   simp only[List.cons.injEq]at hf
   obtain⟨rfl,hf⟩:=hf
   refine af (if_pos hz) ?_
   exact Ac (Ac (wpAny_alloc (Aq (Qq r _ _ Q hf h))))
  ·rw[if_neg hz]at hf
   refine af (if_neg hz) ?_
   exact Ac (Aq (Qr r acc s Q hf h))
theorem X2{M:M0}{A:Am}{E:Value->Ab->Prop}{s:Ab}{scope:Scope}{g:Addr}{cl:List (Str×Addr)}{q:Str}{env:Ea}{x:Str}{Q:Ea->Ab->Prop}(hf:scope.names.filter (fun y=>y.2== .cell)=[(x, .cell)])
  (hQ:Q {scope,locals:=s.heap.objs.size,globals:=g,cells:=(x,s.heap.objs.size+1)::cl,qual:=q,func:=none,code:=env.code,frame:=env.frame,builtins:=env.builtins}
   {s with heap:=(s.heap.push {cls:= .type "dict",data:= .dict #[]}).push {cls:= .type "cell",data:= .cell none} }):
  An M A (Hz scope g cl [] q none .none (some env)) Q E s:=by
 refine Ac (wpAny_alloc ?_)
 refine Ac (Qr scope.names cl _ _ hf ?_)
 simp only[Gf]
 exact Ac (Aq (Aq hQ))
theorem X3{scope:Scope}{x:Str}{env:Ea}{A:Am}{σ:List (Option PV)}{s s':Ab}{cl:List (Str×Addr)}{L c:Addr}{p:PV}{v:Value}{ns:List Addr}
  (bM:rE C scope [x]=true) (P:Pre W C env A σ s) (k:KG s s') (dm:∀x c,env.cells.lookup x=some c->(x,Cp)∈scope.names->cl.lookup x=some c)
  (hc:s'.heap.IsCell c (some v)) (hr:VR s'.heap p v ns):Pre W (C.fj scope [x]) (Dy scope ((x,c)::cl) L env) A (σ++[some p]) s':=by
 refine ao (bA bM) fun bM h5=>?_
 refine ao (bA bM) fun bM h4=>?_
 refine ao (bA bM) fun bM h3=>?_
 refine ao (bA bM) fun h1 h2=>?_
 have h3:=eq_of_beq h3
 have h5:=fun y k (e:scope.names.lookup y=some k)=>Al.mp h5 _ (yO e)
 have hx:((x,c)::cl).lookup x=some c:=by rw[A8,beq_self_eq_true]
 refine Qk (xs:=[x]) (it:=[p]) h1 P k h4 (fun y d h e=>?_) rfl (fun y j q kk hj hg e1 ku=>?_) (fun y aQ i e5 hn e3 e2=>?_) (fun y e5=>?_) fun y e5=>?_
 ·have cN:(y==x)=false:=beq_eq_false_iff_ne.mpr fun q=>nomatch (Aa (h3.symm.trans (q▸e:scope.names.lookup x=some .free)))
  rw[A8,cN]
  exact dm y d h (yO e)
 ·cases j with
  |succ j=>exact nn hj
  |zero=>
   obtain rfl:=Aa hj
   obtain rfl:=Aa hg
   refine aD (vR e1) fun aQ e5 e6=>?_
   have e5:=Aa (h3.symm.trans e5)
   have IM:kk= .cell:=e6.elim (·.trans e5.symm) (·.2)
   exact nr v ns (.inr ⟨.inl (IM▸ku),c,hx,hc⟩) hr
 ·have hm:=h5 y aQ e5
  cases aQ with
  | «local» =>simp[e3]at hm
  |cell=>
   have:=(show(y,Cq)∈scope.names.filter (fun y=>y.2== .cell)from Iw.mpr ⟨yO e5,rfl⟩)
   rw[eq_of_beq h2]at this
   exact absurd (congrArg Prod.fst (Af.mp this)) fun q=>hn (Af.mpr q)
  |free=>rfl
  |globalImplicit=>exact ft e2
  |globalExplicit=>exact ft e2
 ·have hm:=(bA (bA (h5 y _ e5)).1).2
  simpa using hm
 ·have:=(show(y,Cq)∈scope.names.filter (fun y=>y.2== .cell)from Iw.mpr ⟨yO e5,rfl⟩)
  rw[eq_of_beq h2]at this
  have hy:y=x:=congrArg Prod.fst (Af.mp this)
  subst hy;exact bU c hx
theorem Qs{kn:List (Str×Cy)}:∀{sc:List (Str×Cy)} {x:Str},sc.lookup x=some .cell->(gU kn sc).lookup x=some .cell
 |[],_,h=>by exact nn h
 |(n,k₁)::r,x,h=>by
  have ih:= @Qs kn r x
  refine(?_:E0 x ((if(k₁== .free&&kn.lookup n==some .cell)=true then(n,Cq)else(n,k₁))::gU kn r)=_)
  rw[A8]at h⊢
  by_cases hc:(k₁== .free&&kn.lookup n==some .cell)=true
  ·refine af (if_pos hc) ?_
   split at h
   ·next hx=>rw[show(x==n)=true from hx]
   ·next hx=>
    rw[show(x==n)=false by simpa using hx]
    exact ih h
  ·refine af (if_neg hc) ?_
   split at h
   ·next hx=>rw[show(x==n)=true from hx];obtain rfl:=Aa h;rfl
   ·next hx=>
    rw[show(x==n)=false by simpa using hx]
    exact ih h
theorem Qt{scope:Scope}{x:Str}(h:rE C scope [x]=true):scope.kind= .function/\scope.names.filter (fun y=>y.2== .cell)=[(x, .cell)]/\scope.names.lookup x=some .cell:=by
 have h:=(b2 (b2 h).1).1
 exact lP (eq_of_beq (b2 (b2 h).1).1) (eq_of_beq (b2 (b2 h).1).2) (eq_of_beq (b2 h).2)
theorem X4{h:As}{c:Addr}{u:Option Value}(x:h.IsCell c u){items:Array Value}{n:Nat}(e:h.get? c=some {cls:= .type "list",data:= .seq items n}):False:=by
 refine aD x fun o e' ed=>?_
 rw[e]at e';obtain rfl:=Aa e';cases ed
theorem X5{scope:Scope}{env:Ea}{A:Am}{σ:List (Option PV)}{s:Ab}{x:Str}{cl:List (Str×Addr)}{L:Addr}(P:Pre W C env A σ s)(lu:scope.names.lookup x=some .cell):(Dy scope cl L env).kindOf x=some .cell:=by
 have dw:(Fz scope env).names=gU C.kn scope.names:=by
  unfold Fz gU
  refine(?_:scope.names.map _=_)
  refine Cj fun z _=>?_
  obtain⟨n,kk⟩:=z
  refine(?_:(if(kk==Cp&&env.scope.kind== .function&&env.kindOf n==some .cell)=true then _ else _)=_)
  have e1:(env.scope.kind==Hp)=true:=by refine af P.kind ?_;rfl
  refine af e1 ?_
  refine af (Jz ..) ?_
  unfold Be
  exact af P.names rfl
 refine(?_:(Fz scope env).names.lookup x=_)
 refine af dw ?_
 exact Qs lu
theorem Qu{α:Type}{l:List α}(h:l.length=1):∃a,l=[a]:=Kf.mp h
section
variable{elt iter target:Expr}{x:Str}{ifs:List Expr}{scope:Scope}{pos:B7}{pe:PE}{ts:ew}{env:Ea}{A:Am}{E:Value->Ab->Prop}{σ:List (Option PV)}{s s₂:Ab}{cl:List (Str×Addr)}
 {I:Addr} {fp wr:List Addr} {its:List (List PV)} {St:Nat->As->Prop} {ps:List PV} {RR:Value->Addr->Ez->Ab->Prop}
theorem X6{D L c:Addr}{ai:As}{tk:Nat}{m:Str->Option Value}(bM:rE C scope [x]=true)(P:Pre W C env A σ s)(dm:∀x c,env.cells.lookup x=some c->(x,Cp)∈scope.names->cl.lookup x=some c)
  (cb:ax W (C.fj scope [x]) elt pe) (da:iS W (C.fj scope [x]) ifs ts)
  (aQ:KG s s₂) (eJ:∀b∈wr,s.heap.get? b=none) (cZ:∀b∈fp,∃o,s₂.heap.get? b=some o) (T:ef W.prog W.w A target [x] I fp wr its St) (st:St 0 s₂.heap) (hsz:its.length<=ag)
  (run:wX (lW W.U pe ts σ) its=some ps)
  (gV:∀D L s' ns m',s.heap.get? L=none->KG s s'->s'.heap.Ns L m'->VR s'.heap (.list ps) (.ref D) ns->eW s.heap ns->L∉ns->RR (.ref D) L (.ok .next) s')
  (N:Qn s₂.heap ai D L c) (X7:L≠c) (hn:ai.Ns L m) (hc:ai.IsCell c none):
  Cs (Aj W.prog W.w) A (.compStart (.ListComp elt [⟨target,iter,ifs,0⟩] scope pos) 0 (.ref I) (.ref D) (Dy scope ((x,c)::cl) L env)) (RR (.ref D) L) {s₂ with heap:=ai,toks:=tk}:=by
 refine cD (Qt bM) fun bu Qv lu=>?_
 have nD:s₂.heap.get? D=none:=vH (Fi N.d)
 have nL:s₂.heap.get? L=none:=vH (Dc (N.d▸N.l))
 have nC:s₂.heap.get? c=none:=vH (Ah (Dc (N.d▸N.l)) N.z)
 have off:∀{a:Addr},s₂.heap.get? a=none->a∉fp:=fun e hm=>by obtain⟨o,e'⟩:=cZ _ hm;rw[e]at e';exact nn e'
 have Qw:D<c:=Ed N.l N.z
 have B:p8 W (C.fj scope [x]) (Dy scope ((x,c)::cl) L env) A σ s [x] D c fp wr (fun h=>(∃m,h.Ns L m)/\∃u,h.IsCell c u):=
  {nD:=nv (wC aQ) nD,nZ:=nv (wC aQ) nC,eJ:=eJ,DZ:=Bu Qw,Df:=off nD,Zf:=off nC
   rz:=fun h ⟨_,u,hu⟩ items n e=>X4 hu e
   fr:=fun h h' ⟨⟨m,hn⟩,u,o,e,d⟩ k=>⟨⟨m,hn.at' fun o e=>k L o (off nL) (G9 N.l) e⟩,u,o,k c o (off nC) (G9 Qw) e,d⟩
   store:=fun it us ms s' Q E ⟨⟨m,hn⟩,u,hu⟩ k hl hv hz hQ=>by
    refine aK (Qu hl) fun p aH=>?_
    subst aH
    refine aK (Qu hv.length) fun v aH=>?_
    subst aH
    refine wpAny_storeName_cell (show(Fz scope env).kind=_ from bu) (X5 P lu) (by refine(?_:((x,c)::cl).lookup x=_);simp) hu fun aE qc jF=>?_
    have ko:∀b o,s.heap.get? b=some o->aE.get? b=some o:=fun b o e=>jF.extBut b o (fun q=>by rw[q,nv (wC aQ) nC]at e;exact nn e) (wC k b o e)
    have vX:=hv.on fun a ha o e=>jF.extBut a o (fun q=>hz (q▸ha)) e
    refine cM (vX.get (i:=0) rfl) fun vv nn IQ IS _=>?_
    obtain rfl:=Aa IQ
    exact hQ aE s'.toks ⟨⟨m,hn.at' fun o e=>jF.extBut L o X7 e⟩,_,qc⟩ jF.extBut (X3 bM P (rC k aE s'.toks ko) dm qc IS)}
 exact Ql B T cb da hsz run (fun s' ns k ⟨⟨m,hn⟩,_⟩ r f=>gV D L s' ns m (nv (wC aQ) nL) k hn r f (r.lV hn))
  ⟨rC aQ _ _ fun b o e=>N.old b o (wC aQ b o e),T.frame _ _ _ st fun b _ o e=>N.old b o e,N.acc, .nil,eW.nil _,(fun h=>nomatch h),(fun _ h=>nomatch h),⟨⟨m,hn⟩,_,hc⟩⟩
theorem X8(bM:rE C scope [x]=true)(P:Pre W C env A σ s)(dm:∀x c,env.cells.lookup x=some c->(x,Cp)∈scope.names->cl.lookup x=some c)
  (cb:ax W (C.fj scope [x]) elt pe) (da:iS W (C.fj scope [x]) ifs ts)
  (aQ:KG s s₂) (eJ:∀b∈wr,s.heap.get? b=none) (cZ:∀b∈fp,∃o,s₂.heap.get? b=some o) (T:ef W.prog W.w A target [x] I fp wr its St) (st:St 0 s₂.heap) (hsz:its.length<=ag)
  (run:wX (lW W.U pe ts σ) its=some ps)
  (gV:∀D L s' ns m',s.heap.get? L=none->KG s s'->s'.heap.Ns L m'->VR s'.heap (.list ps) (.ref D) ns->eW s.heap ns->L∉ns->RR (.ref D) L (.ok .next) s'):
  An (Aj W.prog W.w) A (newList []) (fun acc av=>An (Aj W.prog W.w) A (Hz scope env.globals cl [] env.qual none .none (some env)) (fun bF aV=>
   Cs (Aj W.prog W.w) A (.compStart (.ListComp elt [⟨target,iter,ifs,0⟩] scope pos) 0 (.ref I) acc {bF with scope:=Fz scope env}) (RR acc bF.locals) aV) E av) E s₂:=by
 refine Co (X2 (Qt bM).2.1 ?_)
 have hL:(s₂.heap.push {cls:= .type "list",dict:=none,data:= .seq ([]:List Value).toArray}).objs.size=s₂.heap.objs.size+1:=Gf ..
 refine X6 (s₂:=s₂) bM P dm cb da aQ eJ cZ T st hsz run gV ⟨rfl,by refine af hL ?_;exact Bx _,Jr _,fun b o e=>Ak _ (Ak _ (Ak _ e)),
  ⟨_,Ak _ (Ak _ (A0 _ rfl))⟩⟩ (Bu (Bx _)) (Heap.Ns.keeps (Heap.Ns.new _ (.type "dict")) fun b o e=>Ak _ e) ⟨{cls:= .type "cell",data:= .cell none},?_,rfl⟩
 refine cu (Gf (o:={cls:= .type "dict",data:= .dict #[]}) ..) ?_;exact A0 _ rfl
end
theorem Qx{target elt iter:Expr}{xs:List Str}{ifs:List Expr}{scope:Scope}{pos:B7}{pe:PE}{ts:ew}{env:Ea}{A:Am}{E:Value->Ab->Prop}{σ:List (Option PV)}{s s₂:Ab}{cl:List (Str×Addr)}
  {I:Addr} {fp wr:List Addr} {its:List (List PV)} {St:Nat->As->Prop} {ps:List PV} {RR:Value->Addr->Ez->Ab->Prop}
  (bM:qb C scope xs=true) (P:Pre W C env A σ s) (dm:∀x c,env.cells.lookup x=some c->(x,Cp)∈scope.names->cl.lookup x=some c)
  (cb:ax W (C.fj scope xs) elt pe) (da:iS W (C.fj scope xs) ifs ts)
  (aQ:KG s s₂) (eJ:∀b∈wr,s.heap.get? b=none) (cZ:∀b∈fp,∃o,s₂.heap.get? b=some o) (T:ef W.prog W.w A target xs I fp wr its St) (st:St 0 s₂.heap) (hsz:its.length<=ag)
  (run:wX (lW W.U pe ts σ) its=some ps)
  (gV:∀D L s' ns m',s.heap.get? L=none->KG s s'->s'.heap.Ns L m'->VR s'.heap (.list ps) (.ref D) ns->eW s.heap ns->L∉ns->RR (.ref D) L (.ok .next) s'):
  An (Aj W.prog W.w) A (newList []) (fun acc av=>An (Aj W.prog W.w) A (Hz scope env.globals cl [] env.qual none .none (some env)) (fun bF aV=>
   Cs (Aj W.prog W.w) A (.compStart (.ListComp elt [⟨target,iter,ifs,0⟩] scope pos) 0 (.ref I) acc {bF with scope:=Fz scope env}) (RR acc bF.locals) aV) E av) E s₂:=by
 unfold qb at bM
 cases h:pX C scope xs with
 |true=>exact X1 h P dm cb da aQ eJ cZ T st hsz run gV
 |false=>
  rw[h,Bool.false_or]at bM
  refine aK (Qo bM) fun x aH=>?_
  subst aH
  exact X8 bM P dm cb da aQ eJ cZ T st hsz run gV
theorem ax.comp{target elt iter:Expr}{xs:List Str}{ifs:List Expr}{scope:Scope}{pos:B7}{pe:PE}{src:nu}{ts:ew}
  (bM:qb C scope xs=true) (jf:i9 W C target xs iter src) (cb:ax W (C.fj scope xs) elt pe) (da:iS W (C.fj scope xs) ifs ts)
  (hs:∀env x,Ej iter env x=pure x):ax W C (.ListComp elt [⟨target,iter,ifs,0⟩] scope pos) (.comp pe src ts):=fun env A E s σ p P e=>by
 refine oB e fun its e1 e2=>?_
 split at e2
 ·rename_i hsz
  obtain⟨ps,run,rfl⟩:=dk e2
  refine cD (Qp bM) fun bu dw pZ=>?_
  obtain⟨cl,fk,dm⟩:=CF (scope:=scope) (env:=env) fun y hy hf=>by
   rcases pZ y hy hf with e|e
   ·exact P.eI _ _ e (.inl rfl)
   ·exact P.eI _ _ e (.inr rfl)
  unfold PH;rw[L4]
  refine Fw (use:=none) rfl (hs env) fk bu dw (zM (jf env A E s σ its P e1 hsz) fun xv aa ai=>zM ai fun it s₂ aj=>?_)
  obtain⟨I,fp,wr,St,rfl,aQ,eJ,cZ,T,st,_⟩:=aj
  refine Qx (RR:=fun acc L=>compPost (Aj W.prog W.w) A E none (Got s (fresh (.comp pe src ts) (.list ps)) (.list ps)) acc L) bM P dm cb da aQ eJ cZ T st hsz run ?_
  intro D L s' ns m' hL k hn r hf vY
  refine i12 m' hn (fun h' dt=>?_)
  have kk:KG s {s' with heap:=h'}:=by
   obtain⟨h0,t0,g0,rfl,kk,x⟩:=k
   exact⟨h',t0,g0,rfl,fun b o e=>dt.extBut b o (by rintro rfl;rw[hL]at e;exact nn e) (kk b o e),x⟩
  exact⟨kk,ns,r.on fun a ha o e=>dt.extBut a o (fun q=>vY (q▸ha)) e,fun _=>hf⟩
 ·exact nn e2
end
section
variable{W:bP}{C:Cx}
theorem wD{h:As}(k:Nat):h.get? (h.objs.size+k)=none:=by
 cases e:h.get? (h.objs.size+k)with
 |none=>rfl
 |some o=>exact absurd (Bo e) (Fu.mpr (Du _ k))
theorem nB{s s':Ab}(k:KG s s'){a:Addr}(h:s'.heap.get? a=none):s.heap.get? a=none:=by
 cases e:s.heap.get? a with
 |none=>rfl
 |some o=>rw[wC k a o e]at h;exact sn h
theorem CI{h:As}{a l:Addr}{i:Nat}(x:h.IsListIter a l i)(items:Array Value)(n:Nat):h.get? a≠some {cls:= .type "list",data:= .seq items n}:=fun e=>by
 refine gT x fun o e1 e2 _=>?_
 rw[e1]at e;obtain rfl:=Aa e;simp at e2
theorem rF{h:As}{a l:Addr}{i:Nat}(x:h.IsListIter a l i):∃o,h.get? a=some o:=let⟨o,e,_⟩:=x;⟨o,e⟩
theorem CJ{h:As}{a:Addr}{xs:Array Value}(x:h.IsList a xs):∃o,h.get? a=some o:=let⟨o,e,_⟩:=x;⟨o,e⟩
theorem IT{x:Str}{px:B7}{A:Am}{E:Value->Ab->Prop}{s aa:Ab}{l:List PV}{v:Value}{ms:List Addr}(hh:A.handled=none)(k:KG s aa)(r:VR aa.heap (.list l) v ms):
  An (Aj W.prog W.w) A (Jf v) (kr W A s (.Name x px) [x] (l.map fun p=> [p]) fun fp=>∀b∈fp,s.heap.get? b=none\/b∈ms) E aa:=by
 refine r.cP fun a vs ns hl bg=>?_
 refine wpAny_pyIter_list hl.isList ?_
 generalize hI:aa.heap.objs.size=I
 have hIn:aa.heap.get? I=none:=hI▸wD 0
 have IU:a≠I:=fun q=>by obtain⟨n,e⟩:=hl;rw[q,hIn]at e;exact nn e
 have IV:I∉ns:=fun hm=>by obtain⟨o,e⟩:=bg.cg _ hm;rw[hIn]at e;exact nn e
 have up:Sub aa.heap (aa.heap.push {cls:= .type "list_iterator",data:= .fields #[.ref a, .int 0 0]}):=fun b o e=>Ak _ e
 have hlen:(l.map fun p=> [p]).length=vs.toArray.size:=by simp[bg.length]
 have IW:(aa.heap.push {cls:= .type "list_iterator",data:= .fields #[.ref a, .int 0 0]}).IsListIter I a 0:=⟨_,hI▸A0 _ rfl,rfl,rfl⟩
 have Wk:=Walks.list (prog:=W.prog) (w:=W.w) hh I a IU vs.toArray
 rw[<-hlen]at Wk
 refine⟨I,I::a::ns,[I],_,rfl,zT k (rm ..),?_,?_,ef.walks Wk (fun b hb=>?_) (fun h=>aq h l vs ns) (fun h h' e kk=>e.on fun b hb o e=>kk b (by simp[hb]) o e) (fun i h st ex b hb=>?_) (fun i h st b hb items n=>by rw[Af.mp hb];exact CI st.1 items n) (fun i it u h h' e1 e2 ex kk=>?_),⟨⟨IW,hl.isList.push _⟩,bg.sub up⟩,?_⟩
 ·intro b hb
  rw[Af.mp hb]
  exact nB k hIn
 ·intro b hb
  rcases Av.mp hb with rfl|hb
  ·exact bU _ (hI▸A0 _ rfl)
  ·rcases Av.mp hb with rfl|hb
   ·obtain⟨n,e⟩:=hl;exact⟨_,up _ _ e⟩
   ·obtain⟨o,e⟩:=bg.cg _ hb;exact⟨o,up _ _ e⟩
 ·simp at hb;rcases hb with rfl|rfl<;>simp
 ·rcases Av.mp hb with rfl|hb
  ·exact rF st.1
  ·rcases Av.mp hb with rfl|hb
   ·exact CJ st.2
   ·exact ex.cg _ hb
 ·have kq:aq h' l vs ns:=ex.on fun b hb o e=>kk b o (fun q=>IV (by rwa[Af.mp q]at hb)) e
  refine aZ kq ?_
  rw[Ay]at e1
  refine aD (By.mp e1) fun p e3 bL=>?_
  subst bL
  refine cM (kq.get e3) fun v' n e4 e5 e6=>?_
  have:v'=u:=by
   have e2:vs.toArray[i]?=some u:=e2
   rw[Dm,e4]at e2;obtain rfl:=Aa e2;rfl
  subst this
  exact i12 n (aq.one e5) (fun b hb=>by simp[e6 b hb])
 ·intro b hb
  rcases Av.mp hb with rfl|hb
  ·exact .inl (nB k hIn)
  ·exact .inr hb
theorem Qy{x:Str}{px:B7}{A:Am}{E:Value->Ab->Prop}{s aa:Ab}{l:List Nat}{v:Value}{ms:List Addr}(hh:A.handled=none)(k:KG s aa)(r:VR aa.heap (.str l) v ms):
  An (Aj W.prog W.w) A (Jf v) (kr W A s (.Name x px) [x] (l.map fun c=> [PV.str [c]]) fun fp=>∀b∈fp,s.heap.get? b=none) E aa:=by
 cases r
 rename_i t
 refine wpAny_pyIter_strU ?_
 generalize hI:aa.heap.objs.size=I
 have hIn:aa.heap.get? I=none:=hI▸wD 0
 have IW:(aa.heap.push {cls:= .type (G2 ⟨l.toArray⟩),data:= .fields #[.str ⟨l.toArray⟩ t, .int 0 0]}).IsStrIter I (G2 ⟨l.toArray⟩) ⟨l.toArray⟩ t 0:=⟨_,hI▸A0 _ rfl,rfl,rfl⟩
 have Wk:Walks W.prog W.w A I [I] [I] (l.map fun c=> [PV.str [c]]).length (SignAt ⟨l.toArray⟩) (fun i h=>h.IsStrIter I (G2 ⟨l.toArray⟩) ⟨l.toArray⟩ t i):=by
  have e:(l.map fun c=> [PV.str [c]]).length=(⟨l.toArray⟩:Str).cps.size:=by simp
  rw[e]
  unfold G2
  split
  ·exact Walks.strAscii hh I ⟨l.toArray⟩ t
  ·exact Walks.strWide hh I ⟨l.toArray⟩ t
 refine⟨I,[I],[I],_,rfl,zT k (rm ..),?_,?_,ef.walks Wk (fun b hb=>hb) (fun _=>True) (fun _ _ _ _=>trivial) (fun i h st ex b hb=>?_) (fun i h st b hb items n e=>by
  rw[Af.mp hb]at e
  refine gT st fun o e1 e2 e3=>?_
  rw[e1]at e;obtain rfl:=Aa e;simp at e3) (fun i it u h h' e1 e2 ex kk=>⟨trivial,?_⟩),⟨IW,trivial⟩,?_⟩
 ·intro b hb
  rw[Af.mp hb]
  exact nB k hIn
 ·intro b hb
  rw[Af.mp hb]
  exact bU _ (hI▸A0 _ rfl)
 ·rw[Af.mp hb]
  obtain⟨o,e,_⟩:=st;exact⟨o,e⟩
 ·rw[Ay]at e1
  refine aD (By.mp e1) fun c e3 bL=>?_
  subst bL
  refine eu e2 fun c' u' e4 fX=>?_
  clear e2
  subst fX
  have:c'=c:=by
   have e4:l.toArray[i]?=some c':=e4
   rw[Dm,e3]at e4;obtain rfl:=Aa e4;rfl
  subst this
  exact i12 ([]) (aq.one (.str [c'] u')) (fun _ h=>nomatch h)
 ·intro b hb
  rw[Af.mp hb]
  exact nB k hIn
theorem X9{x:Str}{px:B7}{A:Am}{E:Value->Ab->Prop}{s aa:Ab}{n:Int}{v:Value}{ms:List Addr}(hh:A.handled=none)(k:KG s aa)(r:VR aa.heap (.int n) v ms)(h1:wV n=true)(h2:n<=16777216):
  An (Aj W.prog W.w) A (call (.type "range") [v]) (fun xv s₂=>An (Aj W.prog W.w) A (Jf xv) (kr W A s (.Name x px) [x] ((pS n).map fun p=> [p]) fun fp=>∀b∈fp,s.heap.get? b=none) E s₂) E aa:=by
 cases r
 rename_i t
 unfold wV at h1
 simp only[Ao,decide_eq_true_eq]at h1
 refine call_range_1 ?_
 have hsz:J6 0 n 1=(n.toNat:Int):=by refine af (rangeSize_nat ..) ?_;lia
 refine wpAny_pyIter_range (A0 _ rfl) ?_ ?_
 ·unfold Lu
  refine af hsz ?_
  simp only[Jb,Ao,El,decide_eq_true_eq,beq_iff_eq,show(1:Int)>0 by decide,if_true]
  refine⟨⟨?_,?_⟩,?_⟩<;>lia
 ·refine af hsz ?_
  generalize hH:aa.heap.push {cls:= .type "range",data:= .fields #[.int 0 aa.toks, .int n t, .int 1 (aa.toks+1)]}=H
  have IX:Sub aa.heap H:=fun b o e=>hH▸Ak _ e
  generalize hI:H.objs.size=I
  have hIn:aa.heap.get? I=none:=by
   cases e:aa.heap.get? I with
   |none=>rfl
   |some o=>have:=Bo e;rw[<-hI,<-hH,Gf]at this;exact absurd this (Fu.mpr (Jr _))
  have Wk:=Walks.range (prog:=W.prog) (w:=W.w) hh I 0 1 n.toNat
  have hlen:((pS n).map fun p=> [p]).length=n.toNat:=by simp[pS]
  rw[<-hlen]at Wk
  refine⟨I,[I],[I],_,rfl,?_,?_,?_,ef.walks Wk (fun b hb=>hb) (fun _=>True) (fun _ _ _ _=>trivial) (fun i h st ex b hb=>?_) (fun i h st b hb items n e=>by
   rw[Af.mp hb]at e
   have st:=st
   rw[show h.get? I=some _ from st]at e;simp at e) (fun i it u h h' e1 e2 ex kk=>⟨trivial,?_⟩),⟨?_,trivial⟩,?_⟩
  ·exact zT k (jE _ _ _ fun b o e=>Ak _ (IX b o e))
  ·intro b hb
   refine af (Af.mp hb) ?_
   exact nB k hIn
  ·intro b hb
   refine af (Af.mp hb) ?_
   exact bU _ (hI▸A0 _ rfl)
  ·refine af (Af.mp hb) ?_
   exact bU _ st
  ·refine aK e2 fun tt aH=>?_
   clear e2
   subst aH
   have:it=[PV.int (i:Int)]:=by
    rw[Ay]at e1
    refine aD (By.mp e1) fun c e3 bL=>?_
    subst bL
    unfold pS at e3
    rw[Ay]at e3
    refine aD (By.mp e3) fun j e4 bL=>?_
    subst bL
    have:=Ba.mp e4
    obtain⟨_,h3⟩:=this
    rw[List.getElem_range]at h3
    exact af h3 rfl
   subst this
   refine i12 ([]) (aq.one ?_) (fun _ h=>nomatch h)
   rw[show(0:Int)+(i:Int)*1=i by lia]
   exact .int ..
  ·refine(?_:IsRangeIter _ I (0+((0:Nat):Int)*1) ((((pS n).map fun p=> [p]).length:Int)-((0:Nat):Int)) 1)
   rw[hlen,show(0:Int)+((0:Nat):Int)*1=0 by lia,show((n.toNat:Int)-((0:Nat):Int))=(n.toNat:Int)by lia]
   exact hI▸A0 _ rfl
  ·intro b hb
   refine af (Af.mp hb) ?_
   exact nB k hIn
theorem i9.items{x:Str}{px:B7}{iter:Expr}{pe:PE}(h:ax W C iter pe):i9 W C (.Name x px) [x] iter (.items pe):=fun env A E s σ its P e _=>by
 refine oB e fun p e1 e2=>?_
 refine zM (h env A E s σ p P e1) fun v aa ai=>?_
 obtain⟨k,ns,r,_⟩:=ai
 cases p with
 |list l=>
  have e2:some (l.map fun x=> [x])=some its:=e2
  obtain rfl:=Aa e2
  refine zM (IT (x:=x) (px:=px) P.room.hh k r) fun it s₂ aj=>?_
  obtain⟨I,fp,wr,St,h1,h2,h3,h4,h5,h6,_⟩:=aj
  exact⟨I,fp,wr,St,h1,h2,h3,h4,h5,h6,trivial⟩
 |str l=>
  have e2:some (l.map fun c=> [PV.str [c]])=some its:=e2
  obtain rfl:=Aa e2
  refine zM (Qy (x:=x) (px:=px) P.room.hh k r) fun it s₂ aj=>?_
  obtain⟨I,fp,wr,St,h1,h2,h3,h4,h5,h6,_⟩:=aj
  exact⟨I,fp,wr,St,h1,h2,h3,h4,h5,h6,trivial⟩
 |_=>exact nn e2
theorem Qz{x xr:Str}{px pr pos:B7}{iter:Expr}{pe:PE}(h:ax W C iter pe)(hx:xr= "range") (hk:C.kn.lookup xr=some .globalImplicit) (hg:W.mg "range" =none) (hb:W.mb "range" =some (.type "range")) (he:∀env,Bz [iter] env=[(false,eval iter env)])
  {env:Ea} {A:Am} {E:Value->Ab->Prop} {s:Ab} {σ:List (Option PV)} {its:List (List PV)} (P:Pre W C env A σ s) (e:gz W.U (.cv pe) σ=some its):
  An (Aj W.prog W.w) A (eval (.Call (.Name xr pr) [iter] [] pos) env) (fun xv s₂=>An (Aj W.prog W.w) A (Jf xv) (kr W A s (.Name x px) [x] its fun fp=>∀b∈fp,s.heap.get? b=none) E s₂) E s:=by
 subst hx
 refine oB e fun p e1 e2=>?_
 cases p with
 |int n=>
  have e2:(if wV n&&decide (n<=16777216)then some ((pS n).map fun x=> [x])else none)=some its:=e2
  split at e2
  ·rename_i hc
   obtain rfl:=Aa e2
   simp only[Ao,decide_eq_true_eq]at hc
   refine Fg rfl ?_
   refine Bb P.kind (by unfold Be;refine af P.names ?_;exact hk) (C4 (mg:=W.mg) (mb:=W.mb) ?_ hg ?_ hb ?_) (by decide)
   ·refine af P.gl ?_;exact W.g P.wd
   ·refine af P.bl ?_;exact W.b P.wd
   ·refine Cg ?_ (he env) rfl
    refine af (he env) ?_
    refine Bi ?_
    refine zM (h env A E s σ _ P e1) fun v aa ai=>?_
    obtain⟨k,ns,r,_⟩:=ai
    exact B4 (X9 P.room.hh k r hc.1 hc.2)
  ·exact nn e2
 |_=>exact nn e2
theorem i9.cv{x xr:Str}{px pr pos:B7}{iter:Expr}{pe:PE}(h:ax W C iter pe)(hx:xr= "range") (hk:C.kn.lookup xr=some .globalImplicit) (hg:W.mg "range" =none) (hb:W.mb "range" =some (.type "range")) (he:∀env,Bz [iter] env=[(false,eval iter env)]):
  i9 W C (.Name x px) [x] (.Call (.Name xr pr) [iter] [] pos) (.cv pe):=fun env A E s σ its P e _=>by
 refine zM (Qz (x:=x) (px:=px) h hx hk hg hb he P e) fun v aa ai=>zM ai fun it s₂ aj=>?_
 obtain⟨I,fp,wr,St,h1,h2,h3,h4,h5,h6,_⟩:=aj
 exact⟨I,fp,wr,St,h1,h2,h3,h4,h5,h6,trivial⟩
end
theorem fa{α:Type}{P:α->Prop}{a:α}{l:List α}(h:P a)(t:∀b∈l,P b):∀b∈a::l,P b:=Lj.mpr ⟨h,t⟩
theorem gD{α:Type}{P:α->Prop}:∀b∈([]:List α),P b:=fun _ h=>(Ar h).elim
theorem fap{α:Type}{P:α->Prop}{l m:List α}(h:∀b∈l,P b)(t:∀b∈m,P b):∀b∈l++m,P b:=fun b hb=>(A9.mp hb).elim (h b) (t b)
theorem IY:∀{l:List PV} {i k:Nat} {it:List PV},(j0 k l)[i]?=some it->∃p,l[i]?=some p/\it=[.int ((k+i:Nat):Int),p]
 |[],_,_,_,e=>nn e
 |a::r,0,k,it,e=>⟨a,rfl,(Aa e).symm⟩
 |a::r,i+1,k,it,e=>by
  refine aD (IY (l:=r) (i:=i) (k:=k+1) (it:=it) e) fun p e1 e2=>?_
  exact i12 p e1 (by(refine af e2 ?_;refine af (D0 ..) ?_;exact af (D3 1 ..) rfl))
theorem CK:∀(l:List PV) (k:Nat),(j0 k l).length=l.length
 |[],_=>rfl
 |_::r,k=>by simp[j0,CK r]
theorem Ya:∀{l m:List PV} {i:Nat} {it:List PV},(ro l m)[i]?=some it->∃p q,l[i]?=some p/\m[i]?=some q/\it=[p,q]:=by
 intro l
 induction l with
 |nil=>intro m i it e;exact nn e
 |cons a r ih=>
  intro m i it e
  cases m with
  |nil=>exact nn e
  |cons b t=>
   cases i with
   |zero=>exact⟨a,b,rfl,rfl,(Aa e).symm⟩
   |succ i=>exact ih (m:=t) (i:=i) e
theorem QA:∀(l m:List PV),(ro l m).length=min l.length m.length
 |[],_=>(Nat.zero_min _).symm
 |_::_,[]=>(Nat.min_zero _).symm
 |_::r,_::t=>(congrArg Nat.succ (QA r t)).trans (Nat.succ_min_succ _ _).symm
section
variable{W:bP}{C:Cx}
theorem wO{h:As}{a b:Addr}(ha:∃o,h.get? a=some o)(hb:h.get? b=none):a≠b:=fun q=>ha.elim fun o e=>nn (hb.symm.trans (q▸e))
theorem Yb{x y:Str}{px py pt:B7}{kk:Nat}{A:Am}{h₀:As}{l:List PV}{vs:List Value}{ns:List Addr}{I a:Addr}(hh:A.handled=none)(Yc:a≠I+1)(IU:a≠I)(bg:aq h₀ l vs ns)(o1:∀b∈ns,b≠I+1)(o0:∀b∈ns,b≠I):
  ef W.prog W.w A (.Tuple [.Name x px, .Name y py] kk pt) [x,y] (I+1) ((I+1)::I::a::ns) [I+1,I] (j0 0 l) (fun i h=>((∃old,IsEnum h (I+1) I i old)/\h.IsListIter I a i/\h.IsList a vs.toArray)/\aq h l vs ns):=by
 have Wk:=WalksT.enumerate (prog:=W.prog) (w:=W.w) hh (I+1) I a (Nat.succ_ne_self I) Yc IU vs.toArray
 rw[A5,bg.length,<-CK l 0]at Wk
 refine ef.i8 hh Wk (fa (.head _) (fa (.tail _ (.head _)) (fa (.tail _ (.tail _ (.head _))) gD))) (fun h=>aq h l vs ns) (fun h h' e kk=>e.on fun b hb o e=>kk b (.tail _ (.tail _ (.tail _ hb))) o e) (fun i h st ex=>fa (st.1.elim fun _ e=>⟨_,e⟩) (fa (rF st.2.1) (fa (CJ st.2.2) ex.cg)))
  (fun i h st=>fa (fun items n e=>st.1.elim fun _ e1=>by rw[e1]at e;simp at e) (fa (CI st.2.1) gD)) (fun i it us h h' e1 e2 ex kk=>?_)
 have kq:aq h' l vs ns:=ex.on fun b hb o e=>kk b o (fun q=>(Av.mp q).elim (o1 b hb) fun q=>o0 b hb (Af.mp q)) e
 refine aD (IY e1) fun p e3 bL=>?_
 subst bL
 refine eu e2 fun t u e4 fX=>?_
 clear e2
 subst fX
 refine cM (kq.get e3) fun v' n e5 e6 e7=>?_
 rw[Dm,e5]at e4
 obtain rfl:=Aa e4
 rw[C0]
 exact⟨kq,_,_,n,rfl, .cons (n:=[]) (.int ..) (aq.one e6),fun b hb=> .tail _ (.tail _ (.tail _ (e7 b hb)))⟩
theorem Yd{x y:Str}{px py pt:B7}{kk:Nat}{A:Am}{E:Value->Ab->Prop}{s aa:Ab}{l:List PV}{v:Value}{ms:List Addr}(hh:A.handled=none)(k:KG s aa)(r:VR aa.heap (.list l) v ms):
  An (Aj W.prog W.w) A (call (.type "enumerate") [v]) (fun xv s₂=>An (Aj W.prog W.w) A (Jf xv) (kr W A s (.Tuple [.Name x px, .Name y py] kk pt) [x,y] (j0 0 l) fun _=>True) E s₂) E aa:=by
 refine jD r.inv fun a vs ns hl bg lX oo=>?_
 subst lX
 subst oo
 have n0:aa.heap.get? aa.heap.objs.size=none:=wD 0
 have n1:aa.heap.get? (aa.heap.objs.size+1)=none:=wD 1
 have ha:∃o,aa.heap.get? a=some o:=by obtain⟨n,e⟩:=hl;exact⟨_,e⟩
 refine call_enumerate_list hl.isList fun h' he hi hsz up=>?_
 refine wpAny_pyIter_enum he ?_
 generalize aa.heap.objs.size=I at n0 n1 he hi
 exact⟨I+1,(I+1)::I::a::ns,[I+1,I],_,rfl,zT k (jE _ _ _ up),fa (nB k n1) (fa (nB k n0) gD),fa ⟨_,he⟩ (fa (rF hi) (fa (ha.elim fun o e=>⟨o,up _ _ e⟩) fun b hb=>(bg.cg b hb).elim fun o e=>⟨o,up _ _ e⟩)),
  Yb hh (wO ha n1) (wO ha n0) bg (fun b hb=>wO (bg.cg b hb) n1) (fun b hb=>wO (bg.cg b hb) n0),⟨⟨⟨_,he⟩,hi,hl.isList.at fun o e=>up _ o e⟩,bg.sub up⟩,trivial⟩
theorem i9.enum{x y xe:Str}{px py pt pe pos:B7}{kk:Nat}{iter:Expr}{a:PE}(h:ax W C iter a)(hx:xe= "enumerate") (hk:C.kn.lookup xe=some .globalImplicit) (hg:W.mg "enumerate" =none) (hb:W.mb "enumerate" =some (.type "enumerate")) (he:∀env,Bz [iter] env=[(false,eval iter env)]):
  i9 W C (.Tuple [.Name x px, .Name y py] kk pt) [x,y] (.Call (.Name xe pe) [iter] [] pos) (.enum a):=fun env A E s σ its P e _=>by
 subst hx
 refine oB e fun p e1 e2=>?_
 obtain⟨l,rfl,rfl⟩:∃l,p= .list l/\j0 0 l=its:=by
  cases p with
  |list l=>exact⟨l,rfl,Aa e2⟩
  |_=>exact nn e2
 refine Fg rfl ?_
 refine Bb P.kind (by unfold Be;refine af P.names ?_;exact hk) (C4 (mg:=W.mg) (mb:=W.mb) (P.gl▸W.g P.wd) hg (P.bl▸W.b P.wd) hb ?_) (by decide)
 refine Cg ?_ (he env) rfl
 refine af (he env) ?_
 refine Bi (zM (h env A E s σ _ P e1) fun v aa ai=>?_)
 obtain⟨k,ns,r,_⟩:=ai
 exact B4 (Yd P.room.hh k r)
theorem Ye{x y:Str}{px py pt:B7}{kk:Nat}{A:Am}{h₀:As}{l m:List PV}{vs us:List Value}{ns lY:List Addr}{z TI TO i1 i2 a a':Addr}(hh:A.handled=none)(D:ZipApart z TI TO i1 i2 a a')(bg:aq h₀ l vs ns)(ja:aq h₀ m us lY)(off:∀b∈[z,TO,i1,i2],h₀.get? b=none):
  ef W.prog W.w A (.Tuple [.Name x px, .Name y py] kk pt) [x,y] z (z::TI::TO::i1::i2::a::a'::(ns++lY)) [z,TO,i1,i2] (ro l m)
   (fun i h=>(IsZip h z TI TO .none/\IsPair h TI (.ref i1) (.ref i2)/\(∃a b,IsPair h TO a b)/\h.IsListIter i1 a i/\h.IsListIter i2 a' i/\h.IsList a vs.toArray/\h.IsList a' us.toArray)/\(aq h l vs ns/\aq h m us lY)):=by
 have Wk:=WalksT.zip2 (prog:=W.prog) (w:=W.w) hh _ _ _ _ _ _ _ D vs.toArray us.toArray
 rw[A5,A5,bg.length,ja.length,<-QA l m]at Wk
 refine ef.i8 (fp':=z::TI::TO::i1::i2::a::a'::(ns++lY)) hh Wk (fun b hb=>A6 (ns++lY) hb) (fun h=>aq h l vs ns/\aq h m us lY) (fun h h' e kk=>⟨e.1.on fun b hb o e=>kk b (A1 [z,TI,TO,i1,i2,a,a'] (A6 _ hb)) o e,e.2.on fun b hb o e=>kk b (A1 [z,TI,TO,i1,i2,a,a'] (A1 _ hb)) o e⟩)
  (fun i h st ex=>?_) (fun i h st=>?_) (fun i it ws h h' e1 e2 ex kk=>?_)
 ·refine Pr st fun q1 q2 jG q4 q5 q6 q7=>?_
  refine fU jG fun _ _ q3=>?_
  exact fa ⟨_,q1⟩ (fa ⟨_,q2⟩ (fa ⟨_,q3⟩ (fa (rF q4) (fa (rF q5) (fa (CJ q6) (fa (CJ q7) (fap ex.1.cg ex.2.cg)))))))
 ·refine Pr st fun q1 q2 jG q4 q5 q6 q7=>?_
  refine fU jG fun _ _ q3=>?_
  exact fa (fun items n e=>by rw[q1]at e;simp at e) (fa (fun items n e=>by rw[q3]at e;simp at e) (fa (CI q4) (fa (CI q5) gD)))
 ·have kq:aq h' l vs ns/\aq h' m us lY:=⟨ex.1.on fun b hb o e=>kk b o (fun q=>wO (bg.cg b hb) (off b q) rfl) e,ex.2.on fun b hb o e=>kk b o (fun q=>wO (ja.cg b hb) (off b q) rfl) e⟩
  refine cM (Ya e1) fun p q e3 e4 ig=>?_
  subst ig
  refine cM e2 fun z1 z2 e5 e6 ig=>?_
  clear e2
  subst ig
  refine cM (kq.1.get e3) fun v1 n1 g1 g2 g3=>?_
  refine cM (kq.2.get e4) fun v2 n2 f1 f2 f3=>?_
  rw[Dm,g1]at e5
  rw[Dm,f1]at e6
  obtain rfl:=Aa e5
  obtain rfl:=Aa e6
  exact⟨kq,_,_,n1++n2,rfl, .cons g2 (aq.one f2),fun b hb=>A1 [z,TI,TO,i1,i2,a,a'] ((A9.mp hb).elim (fun hb=>A6 _ (g3 b hb)) fun hb=>A1 _ (f3 b hb))⟩
theorem Yf{x y:Str}{px py pt:B7}{kk:Nat}{A:Am}{E:Value->Ab->Prop}{s aa:Ab}{l m:List PV}{v u:Value}{ms ls:List Addr}(hh:A.handled=none)(k:KG s aa)(r:VR aa.heap (.list l) v ms)(r':VR aa.heap (.list m) u ls):
  An (Aj W.prog W.w) A (call (.type "zip") [v,u]) (fun xv s₂=>An (Aj W.prog W.w) A (Jf xv) (kr W A s (.Tuple [.Name x px, .Name y py] kk pt) [x,y] (ro l m) fun _=>True) E s₂) E aa:=by
 refine jD r.inv fun a vs ns hl bg lX oo=>?_
 subst lX
 subst oo
 refine jD r'.inv fun a' us lY fg ja lX oo=>?_
 subst lX
 subst oo
 have hd:(∃o,aa.heap.get? a=some o)/\∃o,aa.heap.get? a'=some o:=by obtain⟨n,e⟩:=hl;obtain⟨n',e'⟩:=fg;exact⟨⟨_,e⟩,_,e'⟩
 have D:=zipApart_new (n:=aa.heap.objs.size) (l1:=a) (l2:=a') (hd.1.elim fun _ e=>Bo e) (hd.2.elim fun _ e=>Bo e)
 have off:∀b∈[aa.heap.objs.size+4,aa.heap.objs.size+3,aa.heap.objs.size,aa.heap.objs.size+1],aa.heap.get? b=none:=fa (wD 4) (fa (wD 3) (fa (wD 0) (fa (wD 1) gD)))
 refine call_zip_2 hl.isList fg.isList fun h' hz ny nz vZ QB hsz up=>?_
 refine wpAny_pyIter_zip hz ?_
 exact⟨_,_,_,_,rfl,zT k (jE _ _ _ up),fun b hb=>nB k (off b hb),
  fa ⟨_,hz⟩ (fa ⟨_,ny⟩ (fa ⟨_,nz⟩ (fa (rF vZ) (fa (rF QB) (fa (hd.1.elim fun o e=>⟨o,up _ _ e⟩) (fa (hd.2.elim fun o e=>⟨o,up _ _ e⟩) (fap (fun b hb=>(bg.cg b hb).elim fun o e=>⟨o,up _ _ e⟩) fun b hb=>(ja.cg b hb).elim fun o e=>⟨o,up _ _ e⟩))))))),
  Ye hh D bg ja off,⟨⟨hz,ny,⟨_,_,nz⟩,vZ,QB,hl.isList.at fun o e=>up _ o e,fg.isList.at fun o e=>up _ o e⟩,bg.sub up,ja.sub up⟩,trivial⟩
theorem i9.zip{x y xe:Str}{px py pt pe pos:B7}{kk:Nat}{i1 i2:Expr}{a b:PE}(h1:ax W C i1 a)(h2:ax W C i2 b)(hx:xe= "zip") (hk:C.kn.lookup xe=some .globalImplicit) (hg:W.mg "zip" =none) (hb:W.mb "zip" =some (.type "zip"))
  (he:∀env,Bz [i1,i2] env=(false,eval i1 env)::Bz [i2] env) (QC:∀env,Bz [i2] env=[(false,eval i2 env)]):
  i9 W C (.Tuple [.Name x px, .Name y py] kk pt) [x,y] (.Call (.Name xe pe) [i1,i2] [] pos) (.zip a b):=fun env A E s σ its P e _=>by
 subst hx
 refine oB e fun p e1 e2=>?_
 refine oB e2 fun q e3 e4=>?_
 obtain⟨l,m,rfl,rfl,rfl⟩:∃l m,p= .list l/\q= .list m/\ro l m=its:=by
  cases p with
  |list l=>
   cases q with
   |list m=>exact⟨l,m,rfl,rfl,Aa e4⟩
   |_=>exact nn e4
  |_=>exact nn e4
 refine Fg rfl ?_
 refine Bb P.kind (by unfold Be;refine af P.names ?_;exact hk) (C4 (mg:=W.mg) (mb:=W.mb) (P.gl▸W.g P.wd) hg (P.bl▸W.b P.wd) hb ?_) (by decide)
 refine Cg ?_ (he env) (by refine af (QC env) ?_;rfl)
 refine af (he env) ?_
 refine af (QC env) ?_
 refine Bi (zM (h1 env A E s σ _ P e1) fun v aa ai=>?_)
 obtain⟨k,ns,r,_⟩:=ai
 refine Bi (zM (h2 env A E aa σ _ (P.kp k) e3) fun u s₂ aj=>?_)
 obtain⟨k₂,ms,bt,_⟩:=aj
 exact B4 (Yf P.room.hh (zT k k₂) (r.sub (wC k₂)) bt)
end
set_option genSizeOf false
structure ak where
 chars:List Nat
 line:Int
 push:List (List Nat)
structure rG where
 is:Value->ak->List Addr->As->Prop
 frame:∀{v b F h h'},is v b F h->(∀a∈F,∀o,h.get? a=some o->h'.get? a=some o)->is v b F h'
 cg:∀{v b F h},is v b F h->∀a∈F,∃o,h.get? a=some o
structure Sg where
 σ:List (Option PV)
 β:Option (Value×ak)
noncomputable def Sg.set(g:Sg)(i:Nat)(p:PV):Sg:={g with σ:=g.σ.set i (some p)}
structure Ctx where
 W:bP
 BK:rG
 C:Cx
inductive wJ(s₀ s:Ab):Prop
 |mk (h:As) (t:Nat) (g:Array Hu) (e:s={s₀ with heap:=h,toks:=t,gens:=g}) (x:pQ s₀.gens g):wJ s₀ s
theorem wJ.refl(s:Ab):wJ s s:=⟨s.heap,s.toks,s.gens,rfl, .rfl' _⟩
theorem wJ.kg{s₀ s s':Ab}(x:wJ s₀ s)(k:KG s s'):wJ s₀ s':=by
 obtain⟨h,t,g,rfl,e⟩:=x
 obtain⟨h',t',g',rfl,_,e'⟩:=k
 exact⟨h',t',g',rfl,e.trans e'⟩
theorem wJ.heap{s₀ s:Ab}(x:wJ s₀ s)(h:As)(t:Nat):wJ s₀ {s with heap:=h,toks:=t}:=by
 obtain⟨h',t',g,rfl,e⟩:=x
 exact⟨h,t,g,rfl,e⟩
structure IZ(C:Cx):Prop where
 inj:∀x y i,C.Γ.lookup x=some i->C.Γ.lookup y=some i->x=y
 lt:∀x i,C.Γ.lookup x=some i->i<C.n
 kd:∀x i,C.Γ.lookup x=some i->C.kn.lookup x=some .local\/C.kn.lookup x=some .cell
inductive QD(env:Ea)(h:As)(x:Str)(p:PV)(ns:List Addr):Prop
 |mk (v:Value) (a:Acc env h x v) (r:VR h p v ns):QD env h x p ns
structure aw(X:Ctx)(tv dv:List Nat)(K:Addr->Option Obj)(env:Ea)(A:Am)(s₀:Ab)(g:Sg)(N:Nat->List Addr)(F:List Addr)(s:Ab):Prop where
 fF:IZ X.C
 kind:env.scope.kind= .function
 names:env.scope.names=X.C.kn
 gl:env.globals=mainGlobals
 bl:env.builtins=builtinsNs
 room:de X.W.D A
 eI:∀x k,X.C.kn.lookup x=some k->k= .cell\/k= .free->∃c,env.cells.lookup x=some c
 eE:∀x y c,env.cells.lookup x=some c->env.cells.lookup y=some c->x=y
 len:g.σ.length=X.C.n
 loc:∃m,s.heap.Ns env.locals m
 dy:K env.locals=none
 cls:∀x c,X.C.kn.lookup x=some .cell->env.cells.lookup x=some c->(∃v,s.heap.IsCell c v)/\K c=none
 rd:∀x i p,X.C.Γ.lookup x=some i->g.σ[i]?=some (some p)->QD env s.heap x p (N i)
 nd:∀j a,a∈N j->∃items n,s.heap.get? a=some {cls:= .type "list",data:= .seq items n}
 bQ:∀i∈tv,∀a r,N i=a::r->K a=none/\a∉r/\∀j,j≠i->a∉N j
 deep:∀i∈dv,(N i).Nodup/\∀a∈N i,K a=none/\∀j,j≠i->a∉N j
 kept:∀b o,K b=some o->s.heap.get? b=some o
 ei:∀h:As,(∀b o,K b=some o->h.get? b=some o)->X.W.Wd h
 same:wJ s₀ s
 book:∀v b,g.β=some (v,b)->X.BK.is v b F s.heap
 foot:∀a∈F,K a=none/\(∃o,s.heap.get? a=some o)/\(∀j,a∉N j)/\a≠env.locals/\∀x c,env.cells.lookup x=some c->a≠c
section
variable{X:Ctx}{tv dv:List Nat}{K:Addr->Option Obj}{env:Ea}{A:Am}{s₀ s s':Ab}{g:Sg}{N:Nat->List Addr}{F:List Addr}
theorem aw.pre(T:aw X tv dv K env A s₀ g N F s):Pre X.W X.C env A g.σ s where
 kind:=T.kind
 names:=T.names
 gl:=T.gl
 bl:=T.bl
 room:=T.room
 len:=T.len
 rd:=fun x i p k _ _ e1 e2=>by obtain⟨v,a,r⟩:=T.rd x i p e1 e2;exact⟨v,_,a,r⟩
 wd:=T.ei _ T.kept
 eI:=T.eI
theorem aw.kg(T:aw X tv dv K env A s₀ g N F s)(k:KG s s'):aw X tv dv K env A s₀ g N F s':=
 {T with
  loc:=by obtain⟨m,h⟩:=T.loc;exact⟨m,h.keeps (wC k)⟩
  cls:=fun x c e1 e2=>by obtain⟨⟨v,h⟩,h2⟩:=T.cls x c e1 e2;exact⟨⟨v,h.keeps (wC k)⟩,h2⟩
  rd:=fun x i p e1 e2=>by obtain⟨v,a,r⟩:=T.rd x i p e1 e2;exact⟨v,a.sub (wC k),r.sub (wC k)⟩
  nd:=fun j a ha=>by obtain⟨i,n,e⟩:=T.nd j a ha;exact⟨i,n,wC k _ _ e⟩
  kept:=fun b o e=>wC k b o (T.kept b o e)
  same:=T.same.kg k
  book:=fun v b e=>X.BK.frame (T.book v b e) fun a _ o e=>wC k a o e
  foot:=fun a ha=>by obtain⟨h1,⟨o,h2⟩,h3⟩:=T.foot a ha;exact⟨h1,⟨o,wC k a o h2⟩,h3⟩}
theorem aw.mono{tv' dv':List Nat}(T:aw X tv dv K env A s₀ g N F s)(h1:∀i∈tv',i∈tv)(h2:∀i∈dv',i∈dv):aw X tv' dv' K env A s₀ g N F s:=
 {T with
  bQ:=fun i hi=>T.bQ i (h1 i hi)
  deep:=fun i hi=>T.deep i (h2 i hi)}
structure ey(tv dv:List Nat)(K:Addr->Option Obj)(N:Nat->List Addr)(F:List Addr)(ms:List Addr)(own:Bool):Prop where
 t:∀j∈tv,∀a r,N j=a::r->a∉ms
 d:∀j∈dv,∀a∈N j,a∉ms
 f:∀a∈F,a∉ms
 o:own=true->ms.Nodup/\∀a∈ms,K a=none/\∀j,a∉N j
theorem ey.nil{own:Bool}:ey tv dv K N F [] own:=⟨fun _ _ _ _ _=>(fun h=>nomatch h),fun _ _ _ _=>(fun h=>nomatch h),fun _ _=>(fun h=>nomatch h),fun _=>⟨E5,fun _ h=>nomatch h⟩⟩
theorem aw.held(T:aw X tv dv K env A s₀ g N F s){ms:List Addr}(f:eW s.heap ms){own:Bool}:ey tv dv K N F ms own:=by
 have off:∀j,∀a∈N j,a∉ms:=fun j a ha hm=>by
  refine fU (T.nd j a ha) fun i n e=>?_
  rw[f.new a hm]at e;exact nn e
 refine⟨fun j _ a r e=>off j a (e▸Ag ..),fun j _ a ha=>off j a ha,fun a ha hm=>?_,fun _=>⟨f.nodup,fun a ha=>⟨?_,fun j hj=>off j a hj ha⟩⟩⟩
 ·refine cD (T.foot a ha) fun _ gE _=>?_
  refine aK gE fun o e=>?_
  rw[f.new a hm]at e;exact nn e
 ·cases e:K a with
  |none=>rfl
  |some o=>have:=T.kept a o e;rw[f.new a ha]at this;exact nn this
theorem Yg{h:As}{a:Addr}{m m':Str->Option Value}(x:h.Ns a m)(y:h.Ns a m')(n:Str):m n=m' n:=by
 refine jD x fun o es ep e1 e2 _ e3=>?_
 refine jD y fun o' es' ep' f1 f2 _ f3=>?_
 rw[e1]at f1;obtain rfl:=Aa f1
 rw[e2]at f2;cases f2
 rw[<-e3,f3]
theorem JA{h:As}{c:Addr}{m:Str->Option Value}{v:Option Value}(hn:h.Ns c m)(hc:h.IsCell c v):False:=by
 refine nT hn fun o es ep e1 e2 _=>?_
 refine aD hc fun o' f1 f2=>?_
 rw[e1]at f1;obtain rfl:=Aa f1
 rw[e2]at f2;cases f2
theorem uu{h:As}{c:Addr}{v:Option Value}{items:Array Value}{n:Nat}(hc:h.IsCell c v)(e:h.get? c=some {cls:= .type "list",data:= .seq items n}):False:=by
 refine aD hc fun o' f1 f2=>?_
 rw[f1]at e;obtain rfl:=Aa e;cases f2
noncomputable def fH(N:Nat->List Addr)(i:Nat)(ms:List Addr):Nat->List Addr:=fun j=>if j=i then ms else N j
theorem aw.eF{x:Str}{i:Nat}{p:PV}{v:Value}{ms:List Addr}{own:Bool}(T:aw X tv dv K env A s₀ g N F s)(hx:X.C.Γ.lookup x=some i)(r:VR s.heap p v ms)(H:ey tv dv K N F ms own)
  (ho:own=true\/(i∉tv/\i∉dv)) {E:Value->Ab->Prop}:
  An (Aj X.W.prog X.W.w) A (storeName env x v) (fun _ s'=>aw X tv dv K env A s₀ (g.set i p) (fH N i ms) F s'/\(∀a items n,s.heap.get? a=some {cls:= .type "list",data:= .seq items n}->s'.heap.get? a=some {cls:= .type "list",data:= .seq items n})/\∀b o,b≠env.locals->(∀y d,X.C.kn.lookup y=some .cell->env.cells.lookup y=some d->b≠d)->s.heap.get? b=some o->s'.heap.get? b=some o) E s:=by
 have hi:i<g.σ.length:=by refine af T.len ?_;exact T.fF.lt x i hx
 have key:∀(c:Addr) (h':As) (tk:Nat),(∀b o,b≠c->s.heap.get? b=some o->h'.get? b=some o)->(c=env.locals\/∃y,X.C.kn.lookup y=some .cell/\env.cells.lookup y=some c)->K c=none->(∀items n,s.heap.get? c≠some {cls:= .type "list",data:= .seq items n})->
   c∉F->(∃m,h'.Ns env.locals m)->(∀y d,X.C.kn.lookup y=some .cell->env.cells.lookup y=some d->∃v,h'.IsCell d v)->
   (∀y j q,y≠x->X.C.Γ.lookup y=some j->g.σ[j]?=some (some q)->∀u,Acc env s.heap y u->Acc env h' y u)->Acc env h' x v->
   aw X tv dv K env A s₀ (g.set i p) (fH N i ms) F {s with heap:=h',toks:=tk}/\(∀a items n,s.heap.get? a=some {cls:= .type "list",data:= .seq items n}->h'.get? a=some {cls:= .type "list",data:= .seq items n})/\∀b o,b≠env.locals->(∀y d,X.C.kn.lookup y=some .cell->env.cells.lookup y=some d->b≠d)->s.heap.get? b=some o->h'.get? b=some o:=by
  intro c h' tk up rH JB dm v5 ba bR cw Yh
  have nodes:∀a,(∃items n,s.heap.get? a=some {cls:= .type "list",data:= .seq items n})->∀o,s.heap.get? a=some o->h'.get? a=some o:=fun a ⟨it,n,e⟩ o e'=>up a o (fun q=>dm it n (q▸e)) e'
  have QE:=r.nodes
  refine⟨?_,fun a items n e=>nodes a ⟨items,n,e⟩ _ e,fun b o h1 h2 e=>up b o (fun q=>by
   rcases rH with rfl|⟨y,e1,e2⟩
   ·exact h1 q
   ·exact h2 y c e1 e2 q) e⟩
  exact
   {fF:=T.fF,kind:=T.kind,names:=T.names,gl:=T.gl,bl:=T.bl,room:=T.room,eI:=T.eI,eE:=T.eE
    len:=by refine(?_:(g.σ.set i (some p)).length=_);refine af Bd ?_;exact T.len
    loc:=ba,dy:=T.dy
    cls:=fun y d e1 e2=>⟨bR y d e1 e2,(T.cls y d e1 e2).2⟩
    rd:=fun y j q e1 e2=>by
     by_cases hj:j=i
     ·subst hj
      have:y=x:=T.fF.inj y x j e1 hx
      subst this
      have e2:(g.σ.set j (some p))[j]?=some (some q):=e2
      rw[Ct hi]at e2
      cases e2
      refine⟨v,Yh,?_⟩
      unfold fH;refine af (if_pos rfl) ?_
      exact r.on fun a ha o e=>nodes a (QE a ha) o e
     ·have e2:(g.σ.set i (some p))[j]?=some (some q):=e2
      rw[A7 (H0 hj)]at e2
      obtain⟨u,a,r'⟩:=T.rd y j q e1 e2
      have oq:y≠x:=fun q=>hj (by rw[q,hx]at e1;obtain rfl:=Aa e1;rfl)
      refine⟨u,cw y j q oq e1 e2 u a,?_⟩
      unfold fH;refine af (if_neg hj) ?_
      exact r'.on fun a ha o e=>nodes a (T.nd j a ha) o e
    nd:=fun j a ha=>by
     unfold fH at ha
     split at ha
     ·obtain⟨it,n,e⟩:=QE a ha;exact⟨it,n,nodes a ⟨it,n,e⟩ _ e⟩
     ·obtain⟨it,n,e⟩:=T.nd j a ha;exact⟨it,n,nodes a ⟨it,n,e⟩ _ e⟩
    bQ:=fun j hj a rr e=>by
     unfold fH at e
     by_cases ej:j=i
     ·rw[if_pos ej]at e
      subst ej
      rcases ho with ho|ho
      ·refine ao (H.o ho) fun h1 h2=>?_
       rw[e]at h1 h2
       refine ao (h2 a (Ag ..)) fun h3 h4=>?_
       refine lP h3 ((C9.mp h1).1) (fun k hk=>?_)
       unfold fH;refine af (if_neg hk) ?_;exact h4 k
      ·exact absurd hj ho.1
     ·rw[if_neg ej]at e
      refine cD (T.bQ j hj a rr e) fun h1 h2 h3=>?_
      refine lP h1 h2 (fun k hk=>?_)
      unfold fH
      split
      ·exact H.t j hj a rr e
      ·exact h3 k hk
    deep:=fun j hj=>by
     unfold fH
     by_cases ej:j=i
     ·refine af (if_pos ej) ?_
      subst ej
      rcases ho with ho|ho
      ·refine ao (H.o ho) fun h1 h2=>?_
       refine aZ h1 (fun a ha=>⟨(h2 a ha).1,fun k hk=>?_⟩)
       refine af (if_neg hk) ?_;exact(h2 a ha).2 k
      ·exact absurd hj ho.2
     ·refine af (if_neg ej) ?_
      refine ao (T.deep j hj) fun h1 h2=>?_
      refine aZ h1 (fun a ha=>⟨(h2 a ha).1,fun k hk=>?_⟩)
      split
      ·exact H.d j hj a ha
      ·exact(h2 a ha).2 k hk
    kept:=fun b o e=>up b o (fun q=>by rw[q,JB]at e;exact nn e) (T.kept b o e)
    ei:=T.ei
    same:=T.same.heap h' tk
    book:=fun u b e=>X.BK.frame (T.book u b e) fun a ha o e=>up a o (fun q=>v5 (q▸ha)) e
    foot:=fun a ha=>by
     refine BP (T.foot a ha) fun h1 gE h3 h4 h5=>?_
     refine aK gE fun o h2=>?_
     refine vB h1 ⟨o,up a o (fun q=>v5 (q▸ha)) h2⟩ (fun j=>?_) h4 h5
     unfold fH
     split
     ·exact H.f a ha
     ·exact h3 j}
 have kindOf:∀k,X.C.kn.lookup x=some k->env.kindOf x=some k:=fun k e=>by unfold Be;refine af T.names ?_;exact e
 rcases T.fF.kd x i hx with hk|hk
 ·refine aK T.loc fun m hm=>?_
  refine wpAny_storeName_local (kindOf _ hk) hm (fun h' uv dt=>?_) (by refine af T.kind ?_;rfl)
  refine key env.locals h' _ (fun b o hb e=>dt.extBut b o hb e) (.inl rfl) T.dy (fun items n e=>wY hm e) (fun hF=>(T.foot _ hF).2.2.2.1 rfl) ⟨_,uv⟩ (fun y d e1 e2=>?_) (fun y j q oq e1 e2 u a=>?_) ?_
  ·refine ao (T.cls y d e1 e2) fun bq _=>?_
   refine aK bq fun w h=>?_
   exact bU w (h.sameBut dt fun q=>JA hm (q▸h))
  ·rcases a with⟨hl,m',ot,hv⟩|⟨hl,c,hc,hv⟩
   ·refine .inl ⟨hl,_,uv,?_⟩
    (refine ea oq ?_;(refine af (Yg hm ot ..) ?_;exact af hv rfl))
   ·exact .inr ⟨hl,c,hc,hv.sameBut dt fun q=>JA hm (q▸hv)⟩
  ·exact .inl ⟨kindOf _ hk,_,uv,by simp⟩
 ·refine aK (T.eI x _ hk (.inl rfl)) fun c hc=>?_
  refine ao (T.cls x c hk hc) fun bq JB=>?_
  refine aK bq fun Yi lZ=>?_
  refine aK T.loc fun m hm=>?_
  refine wpAny_storeName_cell T.kind (kindOf _ hk) hc lZ fun h' aS dt=>?_
  have CL:env.locals≠c:=fun q=>JA hm (q▸lZ)
  refine key c h' s.toks (fun b o hb e=>dt.extBut b o hb e) (.inr ⟨x,hk,hc⟩) JB (fun items n e=>uu lZ e) (fun hF=>(T.foot _ hF).2.2.2.2 x c hc rfl) ⟨m,hm.sameBut dt CL⟩ (fun y d e1 e2=>?_) (fun y j q oq e1 e2 u a=>?_) ?_
  ·by_cases hd:d=c
   ·subst hd;exact⟨_,aS⟩
   ·refine ao (T.cls y d e1 e2) fun bq _=>?_
    refine aK bq fun w h=>?_
    exact bU w (h.sameBut dt hd)
  ·rcases a with⟨hl,m',ot,hv⟩|⟨hl,c',lq,hv⟩
   ·exact .inl ⟨hl,m',ot.sameBut dt CL,hv⟩
   ·refine .inr ⟨hl,c',lq,hv.sameBut dt fun q=>oq (T.eE y x c' lq (q▸hc))⟩
  ·exact .inr ⟨.inl (kindOf _ hk),c,hc,aS⟩
theorem aw.store{x:Str}{i:Nat}{p:PV}{v:Value}{ms:List Addr}{own:Bool}(T:aw X tv dv K env A s₀ g N F s)(hx:X.C.Γ.lookup x=some i)(r:VR s.heap p v ms)(H:ey tv dv K N F ms own)
  (ho:own=true\/(i∉tv/\i∉dv)) {E:Value->Ab->Prop}:
  An (Aj X.W.prog X.W.w) A (storeName env x v) (fun _ s'=>aw X tv dv K env A s₀ (g.set i p) (fH N i ms) F s') E s:=zM (T.eF hx r H ho) fun _ _ h=>h.1
end
set_option genSizeOf false
inductive Fl where
 |next|brk|cont
 |ret (p:PV)
noncomputable abbrev Den:=Sg->Option (Sg×Fl)
noncomputable abbrev dN:=Sg->Option (Sg×PV)
noncomputable def fm(U:Uc)(pe:PE):dN:=fun g=>(ev U pe g.σ).bind fun p=>if fresh pe p then some (g,p)else none
noncomputable def wQ(i:Nat)(f:dN):Den:=fun g=>(f g).bind fun r=>some (r.1.set i r.2, .next)
noncomputable def QF(i j:Nat)(f:dN):Den:=fun g=>(f g).bind fun r=>some ((r.1.set i r.2).set j r.2, .next)
noncomputable def QG(i j:Nat)(U:Uc)(a b:PE):Den:=fun g=>(ev U a g.σ).bind fun x=>(ev U b g.σ).bind fun y=>if x.bo&&y.bo then some ((g.set j y).set i x, .next)else none
noncomputable def QH(op:Il)(x y:PV):Option PV:=match op with
 | .Sub=>ue (fun a b=>some (a-b)) x y
 | .Add=>match x with
  | .int a=>y.int?.map fun b=> .int (a+b)
  | .str a=>y.dg.bind fun b=>if a.length+b.length<=ag then some (.str (a++b))else none
  |_=>none
 |_=>none
noncomputable def ou(U:Uc)(op:Il)(i:Nat)(pe:PE):Den:=fun g=>((g.σ[i]?).bind id).bind fun x=>(ev U pe g.σ).bind fun y=>(QH op x y).map fun z=>(g.set i z, .next)
noncomputable def CM(U:Uc)(c:PT)(f h:Den):Den:=fun g=>(aU U c g.σ).bind fun t=>if t then f g else h g
noncomputable def v7(f:dN):Den:=fun g=>(f g).bind fun r=>some (r.1, .ret r.2)
noncomputable def aA:Den:=fun g=>some (g, .next)
noncomputable def yT(f h:Den):Den:=fun g=>(f g).bind fun r=>match r with
 |(g', .next)=>h g'
 |r=>some r
section
variable(X:Ctx)(tv dv:List Nat)
inductive PX(K:Addr->Option Obj)(env:Ea)(A:Am)(s₀:Ab)(g':Sg)(p:PV)(own:Bool)(v:Value)(s':Ab):Prop
 |mk (N':Nat->List Addr) (F' ms:List Addr) (T:aw X tv dv K env A s₀ g' N' F' s') (r:VR s'.heap p v ms) (H:ey tv dv K N' F' ms own):PX K env A s₀ g' p own v s'
noncomputable def QI(K:Addr->Option Obj)(env:Ea)(A:Am)(E:Value->Ab->Prop)(s₀:Ab)(g':Sg)(p:PV)(own:Bool)(e:Expr)(s:Ab):Prop:=An (Aj X.W.prog X.W.w) A (eval e env) (PX X tv dv K env A s₀ g' p own) E s
noncomputable def dO(own:Bool)(e:Expr)(f:dN):Prop:=∀K env A E s₀ g N F s g' p,aw X tv dv K env A s₀ g N F s->f g=some (g',p)->QI X tv dv K env A E s₀ g' p own e s
noncomputable def Yj(K:Addr->Option Obj):Fl->Mp->Ab->Prop
 | .next,fw,_=>fw= .next
 | .brk,fw,_=>fw= .brk
 | .cont,fw,_=>fw= .cont
 | .ret p,fw,s=>∃v ms,fw= .ret v/\VR s.heap p v ms/\∀a∈ms,K a=none
inductive jg(K:Addr->Option Obj)(env:Ea)(A:Am)(s₀:Ab)(g':Sg)(fl:Fl)(fw:Mp)(s':Ab):Prop
 |mk (f:Yj K fl fw s') (N':Nat->List Addr) (F':List Addr) (T:aw X tv dv K env A s₀ g' N' F' s'):jg K env A s₀ g' fl fw s'
noncomputable def JC(K:Addr->Option Obj)(env:Ea)(A:Am)(E:Value->Ab->Prop)(s₀:Ab)(g':Sg)(fl:Fl)(st:Stmt)(s:Ab):Prop:=An (Aj X.W.prog X.W.w) A (exec st env) (jg X tv dv K env A s₀ g' fl) E s
noncomputable def QJ(K:Addr->Option Obj)(env:Ea)(A:Am)(E:Value->Ab->Prop)(s₀:Ab)(g':Sg)(fl:Fl)(b:List Stmt)(s:Ab):Prop:=An (Aj X.W.prog X.W.w) A (G3 b env) (jg X tv dv K env A s₀ g' fl) E s
noncomputable def yL(st:Stmt)(f:Den):Prop:=∀K env A E s₀ g N F s g' fl,aw X tv dv K env A s₀ g N F s->f g=some (g',fl)->JC X tv dv K env A E s₀ g' fl st s
noncomputable def yU(tv' dv':List Nat)(b:List Stmt)(f:Den):Prop:=∀K env A E s₀ g N F s g' fl,aw X tv dv K env A s₀ g N F s->f g=some (g',fl)->QJ X tv' dv' K env A E s₀ g' fl b s
end
noncomputable def jh(a b:List Nat):Bool:=a.all b.contains
theorem qd{a b:List Nat}(h:jh a b=true):∀i∈a,i∈b:=fun i hi=>by
 unfold jh at h
 have:=Al.mp h i hi
 simpa using this
section
variable{X:Ctx}{tv dv tv' dv':List Nat}
theorem dO.pure{e:Expr}{pe:PE}(h:ax X.W X.C e pe):dO X tv dv true e (fm X.W.U pe):=fun K env A E s₀ g N F s g' p T e=>by
 refine oB e fun q e1 e2=>?_
 refine oI e2 fun hf e2=>?_
 refine sp e2 (zM (h env A E s g.σ q T.pre e1) fun v aa ai=>?_)
 obtain⟨k,ns,r,f⟩:=ai
 exact⟨N,F,ns,T.kg k,r,T.held (f hf)⟩
theorem yL.assign{x:Str}{i:Nat}{px pos:B7}{value:Expr}{f:dN}{own:Bool}(hx:X.C.Γ.lookup x=some i)(ho:own=true\/(i∉tv/\i∉dv))(h:dO X tv dv own value f)
  (hs:∀env:Ea,env.scope.names=X.C.kn->Ie value (some (.Name x px)) pos.line env=pure false):yL X tv dv (.Assign [.Name x px] value pos) (wQ i f):=fun K env A E s₀ g N F s g' fl T e=>by
 obtain⟨⟨g₁,p⟩,e1,e2⟩:=fE e
 refine sp e2 ?_
 refine H6 (zM (h K env A E s₀ g N F s g₁ p T e1) fun v aa ai=>?_) (hs env T.names)
 obtain⟨N',F',ms,T',r,H⟩:=ai
 exact zM (T'.store hx r H ho) fun _ s₂ ay=>⟨rfl,_,_,ay⟩
theorem yL.dc{x y:Str}{i j:Nat}{px py pos:B7}{value:Expr}{pe:PE}(hx:X.C.Γ.lookup x=some i)(hy:X.C.Γ.lookup y=some j)(hi:i∉tv/\i∉dv)(hj:j∉tv/\j∉dv)
  (h:ax X.W X.C value pe):yL X tv dv (.Assign [.Name x px, .Name y py] value pos) (QF i j fun g=>(ev X.W.U pe g.σ).bind fun p=>if p.bo then some (g,p)else none):=fun K env A E s₀ g N F s g' fl T e=>by
 obtain⟨⟨g₁,p⟩,e1,e2⟩:=fE e
 refine oB e1 fun q e3 e4=>?_
 refine oI e4 fun kv e4=>?_
 refine ao (Bf (Aa e4)) fun aI aH=>?_
 subst aI
 subst aH
 refine sp e2 (wpAny_Assign_two (zM (h env A E s g.σ q T.pre e3) fun v aa ai=>?_))
 obtain⟨k,ns,r,f⟩:=ai
 refine Dj (zM ((T.kg k).store hx (r.bO kv) (ey.nil (own:=true)) (.inl rfl)) fun _ s₂ ay=>?_)
 exact Dj (zM (ay.store hy (r.bO kv) (ey.nil (own:=true)) (.inl rfl)) fun _ av aT=>⟨rfl,_,_,aT⟩)
theorem Yk{prog:Program}{w:Cn}{A:Am}{E:Value->Ab->Prop}{s:Ab}{h:As}{op:Il}{x y z:PV}{v u:Value}{ns ms:List Addr}{Q:Value->Ab->Prop}(e:QH op x y=some z)(hv:VR h x v ns)(hu:VR h y u ms)
  (k:∀v' tk,(∀h',VR h' z v' [])->Q v' {s with toks:=tk}):An (Aj prog w) A (J8 op v u) Q E s:=by
 cases op with
 |Sub=>exact vI hv hu e (M:=fun z v u=>(∀v' tk,(∀h',VR h' z v' [])->Q v' {s with toks:=tk})->An (Aj prog w) A (J8 .Sub v u) Q E s) (fun a b c t t' q k=>PyProof.Rows.isub_int (k _ _ fun h'=>Aa q▸ .int ..)) k
 |Add=>
  cases x with
  |int a=>
   obtain⟨b,e1,rfl⟩:=dk e
   exact VR.ec hv (M:=fun v _=>An (Aj prog w) A (J8 .Add v u) Q E s) fun t=>VR.dq hu e1 (M:=fun u _=>An (Aj prog w) A (J8 .Add _ u) Q E s) fun t'=>Ku (k _ _ fun h'=> .int ..)
  |str a=>
   refine oB e fun b e1 e=>?_
   refine oI e fun hsz e=>?_
   refine VR.eS hv (M:=fun v _=>An (Aj prog w) A (J8 .Add v u) Q E s) fun t=>VR.hW hu e1 (M:=fun u _=>An (Aj prog w) A (J8 .Add _ u) Q E s) fun t'=>SBL.iadd (fun t' kk _=>?_) (by rw[Bt];simp[B8];assumption)
   rw[HY]
   exact k _ _ fun h'=>Aa e▸ .str ..
  |_=>exact nn e
 |_=>exact nn e
theorem yL.aug{x:Str}{i:Nat}{px pos:B7}{op:Il}{value:Expr}{pe:PE}(hx:X.C.Γ.lookup x=some i)(h:ax X.W X.C value pe)(hn:(x==("__classdict__" :Str))=false):
  yL X tv dv (.AugAssign (.Name x px) op value pos) (ou X.W.U op i pe):=fun K env A E s₀ g N F s g' fl T e=>by
 refine oB e fun p e1 e=>?_
 refine oB e fun q e2 e=>?_
 obtain⟨z,ez,e⟩:=dk e
 refine oB e1 fun p' e3 e4=>?_
 obtain rfl:p'=some p:=e4
 obtain⟨v,a,r⟩:=T.rd x i p hx e3
 refine ao (Bf e) fun aI aH=>?_
 subst aI
 subst aH
 refine wpAny_AugAssign_Name (yP T.kind a ?_ hn)
 refine zM (h env A E s g.σ q T.pre e2) fun u aa ai=>?_
 obtain⟨k,ns,r',_⟩:=ai
 refine Yk (h:=aa.heap) ez (r.sub (wC k)) r' fun v' tk hz=>?_
 exact zM (((T.kg k).kg (dI aa tk)).store hx (hz _) (ey.nil (own:=true)) (.inl rfl)) fun _ av aT=>⟨rfl,_,_,aT⟩
theorem yL.QK{test:Expr}{body orelse:List Stmt}{pos:B7}{c:PT}{f h:Den}(ht:dB X.W X.C test c)(hb:yU X tv dv tv dv body f)(ho:yU X tv dv tv dv orelse h):
  yL X tv dv (.If test body orelse pos) (CM X.W.U c f h):=fun K env A E s₀ g N F s g' fl T e=>by
 refine oB e fun t e1 e2=>?_
 refine wpAny_If (zM (ht env A E s g.σ t T.pre e1) fun b aa ai=>?_)
 refine ao ai fun aI k=>?_
 clear ai
 subst aI
 cases b with
 |true=>exact hb K env A E s₀ g N F aa g' fl (T.kg k) e2
 |false=>exact ho K env A E s₀ g N F aa g' fl (T.kg k) e2
theorem yL.ret{e:Expr}{pos:B7}{f:dN}(h:dO X tv dv true e f):yL X tv dv (.Return (some e) pos) (v7 f):=fun K env A E s₀ g N F s g' fl T e=>by
 obtain⟨⟨g₁,p⟩,e1,e2⟩:=fE e
 refine ao (Bf (Aa e2)) fun aI aH=>?_
 subst aI
 subst aH
 refine Js (zM (h K env A E s₀ g N F s g₁ p T e1) fun v aa ai=>?_)
 obtain⟨N',F',ms,T',r,H⟩:=ai
 exact⟨⟨v,ms,rfl,r,fun a ha=>((H.o rfl).2 a ha).1⟩,N',F',T'⟩
theorem yL.brk{pos:B7}:yL X tv dv (.Break pos) (fun g=>some (g, .brk)):=fun K env A E s₀ g N F s g' fl T e=>by
 exact sp e (wpAny_Break ⟨rfl,N,F,T⟩)
theorem yL.cont{pos:B7}:yL X tv dv (.Continue pos) (fun g=>some (g, .cont)):=fun K env A E s₀ g N F s g' fl T e=>by
 exact sp e (wpAny_Continue ⟨rfl,N,F,T⟩)
theorem yL.pass{pos:B7}:yL X tv dv (.Pass pos) aA:=fun K env A E s₀ g N F s g' fl T e=>by
 exact sp e (wpAny_Pass ⟨rfl,N,F,T⟩)
theorem yU.nil(h1:jh tv' tv=true)(h2:jh dv' dv=true):yU X tv dv tv' dv' [] aA:=fun K env A E s₀ g N F s g' fl T e=>by
 exact sp e (Em ⟨rfl,N,F,T.mono (qd h1) (qd h2)⟩)
theorem yU.cons{tv₁ dv₁:List Nat}{st:Stmt}{rest:List Stmt}{f h:Den}(h1:yL X tv dv st f)(h2:yU X tv₁ dv₁ tv' dv' rest h)(m1:jh tv₁ tv=true)(m2:jh dv₁ dv=true)(m3:jh tv' tv=true)(m4:jh dv' dv=true):
  yU X tv dv tv' dv' (st::rest) (yT f h):=fun K env A E s₀ g N F s g' fl T e=>by
 obtain⟨⟨g₁,il⟩,e1,e2⟩:=fE e
 refine Bm (zM (h1 K env A E s₀ g N F s g₁ il T e1) fun fw aa ai=>?_)
 obtain⟨hf,N',F',T'⟩:=ai
 have aO:=T'.mono (qd m3) (qd m4)
 cases il with
 |next=>exact Gm hf▸h2 K env A E s₀ g₁ N' F' aa g' fl (T'.mono (qd m1) (qd m2)) e2
 |brk=>exact sp e2 (Gm hf▸⟨rfl,N',F',aO⟩)
 |cont=>exact sp e2 (Gm hf▸⟨rfl,N',F',aO⟩)
 |ret p=>exact sp e2 (let⟨v,ms,q,r,hn⟩:=hf;q.symm▸⟨⟨v,ms,rfl,r,hn⟩,N',F',aO⟩)
end
theorem aq.setAt{h:As}{ps:List PV}{vs:List Value}{ns:List Addr}(x:aq h ps vs ns){p:PV}{v:Value}(k:Nat)(r:VR h p v []):∃r,aq h (ps.set k p) (vs.set k v) r/\∀b∈r,b∈ns:=
 x.ind (M:=fun ps vs ns=>∀k:Nat,∃r,aq h (ps.set k p) (vs.set k v) r/\∀b∈r,b∈ns) (fun _=>⟨[], .nil,fun _ h=>h⟩) (fun hv hs ih k=>by
  cases k with
  |zero=>exact⟨_, .cons r hs,fun b hb=>A1 _ hb⟩
  |succ k=>
   refine aD (ih k) fun r' e1 e2=>?_
   exact⟨_, .cons hv e1,fun b hb=>A9.mpr ((A9.mp hb).imp id (e2 b))⟩) k
theorem aq.snoc{h:As}:∀{ps:List PV} {p:PV} {vs:List Value} {ns:List Addr},aq h (ps++[p]) vs ns->∃us v r n,vs=us++[v]/\aq h ps us r/\VR h p v n/\(∀b∈r,b∈ns)/\∀b∈n,b∈ns
 |[],p,_,_,x=>x.lS (M:=fun vs=>∃us v r n,vs=us++[v]/\aq h [] us r/\VR h p v n/\(∀b∈r,b∈_)/\∀b∈n,b∈_) fun v hv=>⟨[],v,[],_,rfl, .nil,hv,fun _ h=>(Ar h).elim,fun _ h=>h⟩
 |q::ps,p,vs,ns,x=>aq.ff (M:=fun vs ns=>∃us v r n,vs=us++[v]/\aq h (q::ps) us r/\VR h p v n/\(∀b∈r,b∈ns)/\∀b∈n,b∈ns) x fun w _ _ _ hv hs=>by
  refine vz (aq.snoc (ps:=ps) hs) fun us v r n ig e1 e2 e3 e4=>?_
  subst ig
  exact WH (w::us) v _ n rfl (.cons hv e1) e2 (fun b hb=>A9.mpr ((A9.mp hb).imp id (e3 b))) (fun b hb=>A1 _ (e4 b hb))
section
variable{X:Ctx}{tv dv:List Nat}{K:Addr->Option Obj}{env:Ea}{A:Am}{s₀ s:Ab}{g:Sg}{N:Nat->List Addr}{F:List Addr}
theorem v9{i j:Nat}{l:List Addr}{b:Addr}{P:Prop}(h:b∈fH N i l j)(h1:j=i->b∈l->P)(h2:j≠i->b∈N j->P):P:=by
 by_cases q:j=i
 ·exact h1 q (by rw[fH,if_pos q]at h;exact h)
 ·exact h2 q (by rw[fH,if_neg q]at h;exact h)
theorem ow{i j:Nat}{l:List Addr}(h:j≠i):fH N i l j=N j:=if_neg h
theorem JD{i:Nat}{l:List Addr}:fH N i l i=l:=if_pos rfl
inductive JE(env:Ea)(h:As)(x:Str)(l:List PV)(ns:List Addr):Prop
 |mk (a:Addr) (r:List Addr) (us:List Value) (hN:ns=a::r) (acc:Acc env h x (.ref a)) (pl:h.PlainList a (Eu us)) (vs:aq h l us r):JE env h x l ns
theorem aw.top{x:Str}{i:Nat}{l:List PV}(T:aw X tv dv K env A s₀ g N F s)(hx:X.C.Γ.lookup x=some i)(hl:g.σ[i]?=some (some (.list l))):JE env s.heap x l (N i):=by
 obtain⟨v,a,r⟩:=T.rd x i _ hx hl
 exact VR.cP r (M:=fun v ns=>Acc env s.heap x v->JE env s.heap x l ns) (fun b vs ms h1 h2 ac=>⟨b,ms,vs,rfl,ac,h1,h2⟩) a
theorem Acc.ox{h h':As}{a:Addr}{its:Array Value}{nn:Nat}{y:Str}{u:Value}(df:h.get? a=some {cls:= .type "list",data:= .seq its nn}) (hs:Ci a h h') (ac:Acc env h y u):Acc env h' y u:=by
 rcases ac with⟨hk,m,hn,hm⟩|⟨hk,c,hc,o,e1,e2⟩
 ·exact .inl ⟨hk,m,hn.at' fun o e=>hs _ o (fun q=>wY hn (q▸df)) e,hm⟩
 ·exact .inr ⟨hk,c,hc,o,hs c o (fun q=>uu ⟨o,e1,e2⟩ (q▸df)) e1,e2⟩
theorem aw.mut{x:Str}{i:Nat}{l l':List PV}{a:Addr}{r r':List Addr}{uw:List Value}{h':As}{tk:Nat}(T:aw X tv dv K env A s₀ g N F s)(hx:X.C.Γ.lookup x=some i)(hl:g.σ[i]?=some (some (.list l)))
  (hi:i∈tv) (hd:i∉dv) (hN:N i=a::r) (bX:h'.PlainList a uw.toArray) (bg:aq s.heap l' uw r') (rI:a∉r') (hs:Ci a s.heap h')
  (h1:∀j∈tv,j≠i->∀b q,N j=b::q->b∉r') (h2:∀j∈dv,∀b∈N j,b∉r') (h3:∀b∈F,b∉r'):
  aw X tv dv K env A s₀ (g.set i (.list l')) (fH N i (a::r')) F {s with heap:=h',toks:=tk}:=by
 refine cD (T.bQ i hi a r hN) fun rJ iu dP=>?_
 have jH:i<g.σ.length:=(Ba.mp hl).1
 have QL:a∈N i:=hN▸Ag ..
 refine fU (T.nd i a QL) fun its nn df=>?_
 have JF:a∉F:=fun h=>(T.foot a h).2.2.1 i QL
 have oy:aq h' l' uw r':=bg.on fun b hb o e=>hs b o (fun q=>rI (q▸hb)) e
 exact
  {fF:=T.fF,kind:=T.kind,names:=T.names,gl:=T.gl,bl:=T.bl,room:=T.room,eI:=T.eI,eE:=T.eE
   len:=by refine(?_:(g.σ.set i _).length=_);refine af Bd ?_;exact T.len
   loc:=by obtain⟨m,hm⟩:=T.loc;exact⟨m,hm.at' fun o e=>hs _ o (fun q=>wY hm (q▸df)) e⟩
   dy:=T.dy
   cls:=fun y c e1 e2=>by
    refine ao (T.cls y c e1 e2) fun bq h=>?_
    refine eu bq fun v o e3 e4=>?_
    exact aZ ⟨v,o,hs c o (fun q=>uu ⟨o,e3,e4⟩ (q▸df)) e3,e4⟩ h
   rd:=fun y j q e1 e2=>by
    by_cases hj:j=i
    ·have oq:y=x:=T.fF.inj y x i (hj▸e1) hx
     have e2:(g.σ.set i (some (.list l')))[i]?=some (some q):=hj▸e2
     rw[Ct jH]at e2
     obtain⟨a',r0,JG,e3,e4,_⟩:=T.top hx hl
     refine ao (E1 (hN.symm.trans e3)) fun aI _=>?_
     subst aI
     refine⟨.ref a,oq▸e4.ox df hs,?_⟩
     refine af hj ?_
     refine af JD ?_
     exact Aa (Aa e2)▸ .list bX oy
    ·have e2:(g.σ.set i (some (.list l')))[j]?=some (some q):=e2
     rw[A7 (H0 hj)]at e2
     obtain⟨u,ac,rr⟩:=T.rd y j q e1 e2
     refine⟨u,ac.ox df hs,?_⟩
     refine af (ow hj) ?_
     exact rr.on fun b hb o e=>hs b o (fun q=>dP j hj (q▸hb)) e
   nd:=fun j b hb=>v9 hb (fun _ hb=>(Av.mp hb).elim (fun q=>bX.elim fun n e=>⟨_,n,q▸e⟩) (oy.nodes b)) fun hj hb=>(T.nd j b hb).elim fun it e=>e.elim fun n e=>⟨it,n,hs b _ (fun q=>dP j hj (q▸hb)) e⟩
   bQ:=fun j hj b rr e=>by
    by_cases ej:j=i
    ·rw[ej,JD]at e
     refine ao (E1 e) fun aI aH=>?_
     subst aI
     subst aH
     exact lP rJ rI (fun k hk=>by refine af (ow (ej▸hk)) ?_;exact dP k (ej▸hk))
    ·rw[ow ej]at e
     refine cD (T.bQ j hj b rr e) fun g1 g2 g3=>?_
     exact lP g1 g2 (fun k hk hm=>v9 hm (fun _ hm=>(Av.mp hm).elim (fun q=>dP j ej (e▸q▸Ag ..)) (h1 j hj ej b rr e)) fun _=>g3 k hk)
   deep:=fun j hj=>by
    have ej:j≠i:=fun q=>hd (q▸hj)
    refine af (ow ej) ?_
    refine ao (T.deep j hj) fun g1 g2=>?_
    exact aZ g1 (fun b hb=>⟨(g2 b hb).1,fun k hk hm=>v9 hm (fun _ hm=>(Av.mp hm).elim (fun q=>dP j ej (q▸hb)) (h2 j hj b hb)) fun _=>(g2 b hb).2 k hk⟩)
   kept:=fun b o e=>hs b o (fun q=>by rw[q,rJ]at e;cases e) (T.kept b o e)
   ei:=T.ei
   same:=T.same.heap h' tk
   book:=fun u b e=>X.BK.frame (T.book u b e) fun c hc o e=>hs c o (fun q=>JF (q▸hc)) e
   foot:=fun b hb=>by
    refine BP (T.foot b hb) fun g1 gE g3 g4 g5=>?_
    refine aK gE fun o g2=>?_
    exact⟨g1,⟨o,hs b o (fun q=>JF (q▸hb)) g2⟩,fun j hm=>v9 hm (fun _ hm=>(Av.mp hm).elim (fun q=>JF (q▸hb)) (h3 b hb)) fun _=>g3 j,g4,g5⟩}
theorem QM{prog:Program}{w:Cn}{E:Value->Ab->Prop}{l:Addr}{us:List Value}{y:Value}{Q:Value->Ab->Prop}(hl:s.heap.PlainList l (us++[y]).toArray)(hsz:us.length+1<=ag)
  (hQ:∀h',h'.PlainList l us.toArray->Ci l s.heap h'->Q y {s with heap:=h'}):An (Aj prog w) A (call (.builtin "list.pop") [.ref l]) Q E s:=by
 refine aK hl fun n ho=>?_
 have hz:(us++[y]).toArray.size<=sizeLine:=by refine af Bt ?_;simp;exact Es ‹_›
 have hk:(us++[y]).toArray.size-1=us.length:=by(refine af A5 ?_;refine af Ax ?_);rfl
 have hy:(us++[y]).toArray[(us++[y]).toArray.size-1]?=some y:=by refine af hk ?_;simp
 refine Je Fd ⟨_,ho,rfl⟩ Kl (PySem.F.args_list_pop_1 _) (PySem.MeetsSeq.list_pop_last l _ n y hy hz) ⟨ho,hQ _ ?_ (Ep ..).extBut⟩
 have q:=Hb ho (fun xs=>xs.eraseIdxIfInBounds ((us++[y]).toArray.size-1))
 rw[hk,kl_erase,Dr]at q
 refine af hk ?_
 exact bU _ q
noncomputable def jI(g:Sg)(i:Nat):Option (List PV):=((g.σ[i]?).bind id).bind PV.dr
theorem wa{g:Sg}{i:Nat}{l:List PV}(h:jI g i=some l):g.σ[i]?=some (some (.list l)):=by
 refine oB h fun p e1 e2=>?_
 refine oB e1 fun q e3 e4=>?_
 rw[e3,show q=some p from e4,PV.cQ e2]
theorem wb{g:Sg}{i:Nat}{l:List PV}(h:g.σ[i]?=some (some (.list l))):jI g i=some l:=by
 rw[jI,h];rfl
noncomputable def rK(i:Nat):dN:=fun g=>(jI g i).bind fun l=>if l.length<=ag then(l.getLast?).map fun p=>(g.set i (.list l.dropLast),p)else none
inductive QN(i:Nat)(g g':Sg)(p:PV):Prop
 |mk (l:List PV) (hl:g.σ[i]?=some (some (.list (l++[p])))) (hsz:l.length+1<=ag) (hg:g.set i (.list l)=g'):QN i g g' p
theorem QO{i:Nat}{g g':Sg}{p:PV}(e:rK i g=some (g',p)):QN i g g' p:=by
 refine oB e fun l e1 e=>?_
 refine oI e fun hsz e=>?_
 obtain⟨q,e2,e3⟩:=dk e
 refine aK (List.getLast?_eq_some_iff.mp e2) fun l aH=>?_
 subst aH
 refine ao (Bf e3) fun e4 aH=>?_
 subst aH
 rw[List.dropLast_concat]at e4
 rw[Ax]at hsz
 exact⟨l,wa e1,hsz,e4⟩
inductive QP(X:Ctx)(tv dv:List Nat)(K:Addr->Option Obj)(env:Ea)(A:Am)(s₀:Ab)(g':Sg)(N:Nat->List Addr)(F:List Addr)(i:Nat)(p:PV)(v:Value)(s':Ab):Prop
 |mk (ms nn:List Addr) (T:aw X tv dv K env A s₀ g' (fH N i nn) F s') (r:VR s'.heap p v ms) (H:ey tv dv K (fH N i nn) F ms false):QP X tv dv K env A s₀ g' N F i p v s'
theorem CN{h:As}{a:Addr}{l:Array Value}(bX:h.PlainList a l):∀c,Ig a= .ref c->∃o,h.get? c=some o/\o.dict=none:=fun c e=>by
 refine aK bX fun n h=>?_
 exact i12 _ (Gr e▸h) rfl
theorem QQ{x:Str}{i:Nat}{apos pos px:B7}{E:Value->Ab->Prop}{g':Sg}{p:PV}(hx:X.C.Γ.lookup x=some i)(hi:i∈tv)(hd:i∉dv)(hn:(x==("__classdict__" :Str))=false) (jJ:(x==("__debug__" :Str))=false)
  (aF:(apos.endLine==pos.line)=true) (bD:∀env,C8 (.Name x px) "pop" env (eval (.Name x px) env)=eval (.Name x px) env) (T:aw X tv dv K env A s₀ g N F s) (e:rK i g=some (g',p)):
  An (Aj X.W.prog X.W.w) A (eval (.Call (.Attribute (.Name x px) "pop" apos) [] [] pos) env) (QP X tv dv K env A s₀ g' N F i p) E s:=by
 obtain⟨l,hl,hsz,rfl⟩:=QO e
 obtain⟨a,r,us,hN,cw,bX,bg⟩:=T.top hx hl
 refine vz bg.snoc fun uw y r' n ig e3 e4 e5 e6=>?_
 subst ig
 refine cD (T.bQ i hi a r hN) fun rJ iu dP=>?_
 refine Call_method0 (bD env) aF (Bp (yP T.kind cw ?_ hn) jJ)
 refine lg ("list") _ Dz Fd Ia bX.isList.typeIs (CN bX) (Cv rfl (I5 ?_))
 refine QM bX (e3.length▸hsz) fun h' eU eV=>?_
 have sub:∀b∈r,b∈N i:=fun b hb=>hN▸Ad _ hb
 have wc:∀j∈tv,j≠i->∀b q,N j=b::q->b∉r:=fun j hj ej b q e hm=>(T.bQ j hj b q e).2.2 i (H0 ej) (sub b hm)
 have we:∀j∈dv,∀b∈N j,b∉r:=fun j hj b hb hm=>((T.deep j hj).2 b hb).2 i (fun q=>hd (q▸hj)) (sub b hm)
 have fZ:∀b∈F,b∉r:=fun b hb hm=>(T.foot b hb).2.2.1 i (sub b hm)
 refine⟨n,_,T.mut (tk:=s.toks) hx hl hi hd hN eU e3 (fun h=>iu (e5 a h)) eV (fun j hj ej b q e hm=>wc j hj ej b q e (e5 b hm)) (fun j hj b hb hm=>we j hj b hb (e5 b hm)) (fun b hb hm=>fZ b hb (e5 b hm)),
  e4.on fun b hb o e=>eV b o (fun q=>iu (q▸e6 b hb)) e,fun j hj b q e hm=>?_,fun j hj b hb hm=>v9 hb (fun q _=>hd (q▸hj)) fun _ hb=>we j hj b hb (e6 b hm),fun b hb hm=>fZ b hb (e6 b hm),fun q=>ft q⟩
 by_cases ej:j=i
 ·rw[ej,JD]at e
  exact iu ((E1 e).1▸e6 b hm)
 ·rw[ow ej]at e
  exact wc j hj ej b q e (e6 b hm)
theorem dO.pop{x:Str}{i:Nat}{apos pos px:B7}(hx:X.C.Γ.lookup x=some i)(hi:i∈tv)(hd:i∉dv)(hn:(x==("__classdict__" :Str))=false) (jJ:(x==("__debug__" :Str))=false)
  (aF:(apos.endLine==pos.line)=true) (bD:∀env,C8 (.Name x px) "pop" env (eval (.Name x px) env)=eval (.Name x px) env):
  dO X tv dv false (.Call (.Attribute (.Name x px) "pop" apos) [] [] pos) (rK i):=fun K env A E s₀ g N F s g' p T e=>
 zM (QQ hx hi hd hn jJ aF bD T e) fun v s' ⟨ms,nn,T',r,H⟩=>⟨_,F,ms,T',r,H⟩
end
noncomputable def QR(i:Nat)(U:Uc)(pe:PE):Den:=fun g=>(jI g i).bind fun l=>(ev U pe g.σ).bind fun p=>if fresh pe p&&decide (l.length<=ag)then some (g.set i (.list (l++[p])), .next)else none
noncomputable def QS(i j:Nat)(U:Uc)(pe:PE):Den:=fun g=>(jI g i).bind fun l=>(rK j g).bind fun r=>(ev U pe r.1.σ).bind fun q=>(r.2.int?).bind fun a=>(q.int?).bind fun b=>
 if l.length<=ag then some (r.1.set i (.list (l++[.int (a+b)])), .next)else none
noncomputable def QT(i:Nat)(U:Uc)(ie ve:PE):Den:=fun g=>(ev U ve g.σ).bind fun p=>(jI g i).bind fun l=>(ev U ie g.σ).bind fun k=>(k.int?).bind fun k=>
 if p.bo&&decide (0<=k)&&decide (k<l.length)&&decide (l.length<=1000)then some (g.set i (.list (l.set k.toNat p)), .next)else none
noncomputable def QU(g:Sg)(i:Nat)(p:PV)(l:List PV)(a b:PV):Option (Sg×Fl):=(a.int?).bind fun a=>(b.int?).bind fun b=>((l[a.toNat]?).bind PV.dr).bind fun m=>
 if p.bo&&decide (0<=a)&&decide (a<l.length)&&decide (l.length<=1000)&&decide (0<=b)&&decide (b<m.length)&&decide (m.length<=1000)&&m.all PV.bo then some (g.set i (.list (l.set a.toNat (.list (m.set b.toNat p)))), .next)else none
noncomputable def QV(i:Nat)(U:Uc)(ie je ve:PE):Den:=fun g=>(ev U ve g.σ).bind fun p=>(jI g i).bind fun l=>(ev U ie g.σ).bind fun a=>(ev U je g.σ).bind fun b=>QU g i p l a b
inductive QW(g:Sg)(i:Nat)(p:PV)(l:List PV)(a b:PV)(r:Sg×Fl):Prop
 |mk (x y:Int) (m:List PV) (ha:a= .int x) (hb:b= .int y) (hm:l[x.toNat]?=some (.list m)) (hc:(p.bo&&decide (0<=x)&&decide (x<l.length)&&decide (l.length<=1000)&&decide (0<=y)&&decide (y<m.length)&&decide (m.length<=1000)&&m.all PV.bo)=true)
  (e:(g.set i (.list (l.set x.toNat (.list (m.set y.toNat p)))), .next)=r):QW g i p l a b r
theorem Yl{g:Sg}{i:Nat}{p:PV}{l:List PV}{a b:PV}{r:Sg×Fl}(e:QU g i p l a b=some r):QW g i p l a b r:=by
 refine oB e fun x e1 e=>?_
 refine oB e fun y e2 e=>?_
 refine oB e fun m e3 e=>?_
 refine oB e3 fun q e4 e5=>?_
 refine oI e fun hc e=>?_
 exact⟨x,y,m,PV.ee e1,PV.ee e2,PV.cQ e5▸e4,hc,Aa e⟩
section
variable{X:Ctx}{tv dv:List Nat}{K:Addr->Option Obj}{env:Ea}{A:Am}{s₀ s:Ab}{g:Sg}{N:Nat->List Addr}{F:List Addr}
inductive QX(env:Ea)(h:As)(x:Str)(l:List PV)(a:Addr)(r:List Addr):Prop
 |mk (us:List Value) (acc:Acc env h x (.ref a)) (pl:h.PlainList a (Eu us)) (vs:aq h l us r):QX env h x l a r
theorem QY{x:Str}{i:Nat}{l:List PV}{a:Addr}{r:List Addr}(T:aw X tv dv K env A s₀ g N F s)(hx:X.C.Γ.lookup x=some i)(hl:g.σ[i]?=some (some (.list l)))(hN:N i=a::r):QX env s.heap x l a r:=by
 obtain⟨a',r',us,h1,h2,h3,h4⟩:=T.top hx hl
 refine ao (E1 (h1.symm.trans hN)) fun aI aH=>?_
 subst aI
 subst aH
 exact⟨us,h2,h3,h4⟩
inductive QZ(X:Ctx)(tv dv:List Nat)(K:Addr->Option Obj)(env:Ea)(A:Am)(s₀:Ab)(g':Sg)(F:List Addr)(u:Value)(s':Ab):Prop
 |mk (h:u= .none) (N':Nat->List Addr) (T:aw X tv dv K env A s₀ g' N' F s'):QZ X tv dv K env A s₀ g' F u s'
theorem wg{l:List Nat}{i:Nat}(h:l.contains i=true):i∈l:=Dn.mp h
theorem rL{l:List Nat}{i:Nat}(h:l.contains i=false):i∉l:=fun q=>ft (h.symm.trans (Dn.mpr q))
theorem Q0{x:Str}{i:Nat}{l:List PV}{p:PV}{a:Addr}{r:List Addr}{v:Value}{ms:List Addr}{E:Value->Ab->Prop}(T:aw X tv dv K env A s₀ g N F s)(hx:X.C.Γ.lookup x=some i)(hl:g.σ[i]?=some (some (.list l)))(hi:i∈tv)(hd:i∉dv)
  (hN:N i=a::r) (rv:VR s.heap p v ms) (H:ey tv dv K N F ms true) (hsz:l.length<=ag):
  An (Aj X.W.prog X.W.w) A (call (.builtin "list.append") [.ref a,v]) (QZ X tv dv K env A s₀ (g.set i (.list (l++[p]))) F) E s:=by
 obtain⟨us,cw,bX,bg⟩:=QY T hx hl hN
 refine cD (T.bQ i hi a r hN) fun rJ iu dP=>?_
 refine Ge bX (fun h' eU dt=>⟨rfl,fH N i (a::(r++ms)),?_⟩) (by have:=bg.length;unfold ag at hsz;rw[Bt];simp;exact zJ)
 rw[Jt]at eU
 have sub:∀b∈r,b∈N i:=fun b hb=>hN▸Ad _ hb
 have bh:a∉ms:=H.t i hi a r hN
 exact T.mut (tk:=s.toks) hx hl hi hd hN eU (bg.append (aq.one rv)) (fun h=>(A9.mp h).elim iu bh) dt.extBut
  (fun j hj ej b q e hm=>(A9.mp hm).elim (fun h=>(T.bQ j hj b q e).2.2 i (H0 ej) (sub b h)) (H.t j hj b q e))
  (fun j hj b hb hm=>(A9.mp hm).elim (fun h=>((T.deep j hj).2 b hb).2 i (fun q=>hd (q▸hj)) (sub b h)) (H.d j hj b hb))
  (fun b hb hm=>(A9.mp hm).elim (fun h=>(T.foot b hb).2.2.1 i (sub b h)) (H.f b hb))
theorem yL.append{x:Str}{i:Nat}{px ap pos ji:B7}{arg:Expr}{pe:PE}(hx:X.C.Γ.lookup x=some i)(hi:tv.contains i=true)(hd:dv.contains i=false)(hn:(x==("__classdict__" :Str))=false) (jJ:(x==("__debug__" :Str))=false)
  (aF:(ap.endLine==pos.line)=true) (bD:∀env,C8 (.Name x px) "append" env (eval (.Name x px) env)=eval (.Name x px) env) (hs:∀env,Bz [arg] env=[(false,eval arg env)])
  (h:ax X.W X.C arg pe):yL X tv dv (.Expr (.Call (.Attribute (.Name x px) "append" ap) [arg] [] pos) ji) (QR i X.W.U pe):=fun K env A E s₀ g N F s g' fl T e=>by
 have hi:=wg hi
 have hd:=rL hd
 refine oB e fun l e1 e=>?_
 refine oB e fun p e2 e=>?_
 have hl:=wa e1
 refine oI e fun hc e=>?_
 refine ao (b2 hc) fun JH JI=>?_
 refine sp e ?_
 obtain⟨a,r,us,hN,cw,bX,bg⟩:=T.top hx hl
 refine Me ?_ (by unfold Ju;rw[T.kind];rfl) rfl
 refine Hv (bD env) (hs env) aF (Bp (yP T.kind cw ?_ hn) jJ)
 refine lg ("list") _ Dz Hi Hj bX.isList.typeIs (CN bX) (Cv rfl (evalArgs_plain (Bi (zM (h env A E s g.σ p T.pre e2) fun u s₂ aj=>B4 ?_))))
 obtain⟨k,ms,bt,rx⟩:=aj
 refine zM (Q0 (T.kg k) hx hl hi hd hN bt (T.held (rx JH)) (of_decide_eq_true JI)) fun u av aE=>?_
 obtain⟨rfl,N',T'⟩:=aE
 exact⟨rfl,N',F,T'⟩
theorem yL.bV{x y:Str}{i j:Nat}{px py ap dY pos kx bp ji:B7}{e2:Expr}{pe:PE}(hx:X.C.Γ.lookup x=some i)(hi:tv.contains i=true)(hd:dv.contains i=false)(hy:X.C.Γ.lookup y=some j)(hj:tv.contains j=true)(JJ:dv.contains j=false)(CO:(i==j)=false)
  (hn:(x==("__classdict__" :Str))=false) (jJ:(x==("__debug__" :Str))=false) (Ym:(y==("__classdict__" :Str))=false) (JK:(y==("__debug__" :Str))=false)
  (aF:(ap.endLine==pos.line)=true) (bD:∀env,C8 (.Name x px) "append" env (eval (.Name x px) env)=eval (.Name x px) env)
  (rM:(dY.endLine==kx.line)=true) (rN:∀env,C8 (.Name y py) "pop" env (eval (.Name y py) env)=eval (.Name y py) env)
  (hs:∀env,Bz [Expr.BinOp (.Call (.Attribute (.Name y py) "pop" dY) [] [] kx) .Add e2 bp] env=[(false,eval (Expr.BinOp (.Call (.Attribute (.Name y py) "pop" dY) [] [] kx) .Add e2 bp) env)])
  (h:ax X.W X.C e2 pe):yL X tv dv (.Expr (.Call (.Attribute (.Name x px) "append" ap) [.BinOp (.Call (.Attribute (.Name y py) "pop" dY) [] [] kx) .Add e2 bp] [] pos) ji) (QS i j X.W.U pe):=fun K env A E s₀ g N F s g' fl T e=>by
 have hi:=wg hi
 have hd:=rL hd
 have hj:=wg hj
 have JJ:=rL JJ
 have CO:i≠j:=ne_of_beq_false CO
 refine oB e fun l e1 e=>?_
 obtain⟨⟨g₁,w⟩,e3,e⟩:=fE e
 refine oB e fun q e4 e=>?_
 have hl:=wa e1
 refine oB e fun z ez e=>?_
 refine oB e fun b eb e=>?_
 refine oI e fun hc e=>?_
 have wh:g₁.σ[i]?=some (some (.list l)):=by
  obtain⟨l',_,_,rfl⟩:=QO e3
  refine(?_:(g.σ.set j _)[i]?=_)
  rw[A7 (H0 CO)];exact hl
 refine sp e ?_
 obtain⟨a,r,us,hN,cw,bX,bg⟩:=T.top hx hl
 refine Me ?_ (by unfold Ju;rw[T.kind];rfl) rfl
 refine Hv (bD env) (hs env) aF (Bp (yP T.kind cw ?_ hn) jJ)
 refine lg ("list") _ Dz Hi Hj bX.isList.typeIs (CN bX) (Cv rfl (evalArgs_plain (Bi (wpAny_BinOp (zM (QQ hy hj JJ Ym JK rM rN T e3) fun v aa ai=>?_)))))
 obtain⟨ms,nn,aO,rv,H⟩:=ai
 refine zM (h env A E aa g₁.σ _ aO.pre e4) fun u s₂ aj=>?_
 obtain⟨k,Q1,bt,_⟩:=aj
 refine VR.dq rv ez (M:=fun v _=>An _ _ (Lg .Add v u) _ _ s₂) fun t=>VR.dq bt eb (M:=fun u _=>An _ _ (Lg .Add _ u) _ _ s₂) fun t'=>PyProof.Rows.add_int (B4 ?_)
 refine zM (Q0 ((aO.kg k).kg (dI s₂ (s₂.toks+1))) hx wh hi hd ((ow CO).trans hN) (.int ..) ey.nil hc) fun u av aE=>?_
 obtain⟨rfl,N',T'⟩:=aE
 exact⟨rfl,N',F,T'⟩
theorem yL.setItem{x:Str}{i:Nat}{px sp pos:B7}{ie value:Expr}{pi pv:PE}(hx:X.C.Γ.lookup x=some i)(hi:tv.contains i=true)(hd:dv.contains i=false)(hn:(x==("__classdict__" :Str))=false) (jJ:(x==("__debug__" :Str))=false)
  (hs:∀env,Ie value (some (.Subscript (.Name x px) ie sp)) pos.line env=pure false) (h1:ax X.W X.C ie pi) (h2:ax X.W X.C value pv):
  yL X tv dv (.Assign [.Subscript (.Name x px) ie sp] value pos) (QT i X.W.U pi pv):=fun K env A E s₀ g N F s g' fl T e=>by
 have hi:=wg hi
 have hd:=rL hd
 refine oB e fun p e1 e=>?_
 refine oB e fun l e2 e=>?_
 refine oB e fun k e3 e=>?_
 refine oB e fun z ek e=>?_
 have hl:=wa e2
 refine oI e fun hc e=>?_
 refine ao (b2 hc) fun hc c4=>?_
 refine ao (b2 hc) fun hc c3=>?_
 refine ao (b2 hc) fun c1 c2=>?_
 have c2:=of_decide_eq_true c2
 have c3:=of_decide_eq_true c3
 have c4:=of_decide_eq_true c4
 refine Internal.sp e (wpAny_Assign_Subscript (zM (h2 env A E s g.σ p T.pre e1) fun v aa ai=>?_) (hs env))
 obtain⟨k₁,ns,aG,_⟩:=ai
 have aO:=T.kg k₁
 obtain⟨a,r,us,hN,cw,bX,bg⟩:=aO.top hx hl
 refine Bp (yP aO.kind cw ?_ hn) jJ
 refine zM (h1 env A E aa g.σ _ aO.pre e3) fun u s₂ aj=>?_
 obtain⟨k₂,ms,bt,_⟩:=aj
 have bt:VR s₂.heap (.int z) u ms:=PV.ee ek▸bt
 refine aD bt.inv fun t aH _=>?_
 subst aH
 have ay:=aO.kg k₂
 obtain⟨us,cw,bX,bg⟩:=QY ay hx hl hN
 refine cD (ay.bQ i hi a r hN) fun rJ iu dP=>?_
 refine aK (id bX) fun n ho=>?_
 have hlen:=bg.length
 refine ki_setAt ho c2 (Mq c3 (E4 (Er.mpr c4) (by decide))) (by(refine af A5 ?_;refine af hlen ?_);exact c3) ?_
 have gb:=Hb ho (fun xs=>xs.setIfInBounds z.toNat v)
 refine aD (bg.setAt z.toNat (aG.bO c1)) fun r' e4 e5=>?_
 have sub:∀b∈r',b∈N i:=fun b hb=>hN▸Ad _ (e5 b hb)
 have eU:(s₂.heap.update a (Mf fun xs=>xs.setIfInBounds z.toNat v)).PlainList a (us.set z.toNat v).toArray:=by
  refine cu (Jg ..) ?_
  exact bU _ gb
 exact⟨rfl,fH N i (a::r'),F,ay.mut (tk:=s₂.toks) hx hl hi hd hN eU e4 (fun h=>iu (e5 a h)) (Ep ..).extBut (fun j hj ej b q e hm=>(ay.bQ j hj b q e).2.2 i (H0 ej) (sub b hm))
  (fun j hj b hb hm=>((ay.deep j hj).2 b hb).2 i (fun q=>hd (q▸hj)) (sub b hm)) (fun b hb hm=>(ay.foot b hb).2.2.1 i (sub b hm))⟩
end
noncomputable def rO(U:Uc)(c:PT)(f:Den):Nat->Den
 |0=>fun _=>none
 |n+1=>fun g=>(aU U c g.σ).bind fun t=>if t then(f g).bind fun r=>match r with
   |(g', .next)=>rO U c f n g'
   |(g', .cont)=>rO U c f n g'
   |(g', .brk)=>some (g', .next)
   |(g', .ret p)=>some (g', .ret p)
  else some (g, .next)
noncomputable def JL:List Nat->List PV->Sg->Sg
 |i::r,p::ps,g=>JL r ps (g.set i p)
 |_,_,g=>g
noncomputable def wN(is:List Nat)(f:Den):List (List PV)->Den
 |[]=>aA
 |it::r=>fun g=>(f (JL is it g)).bind fun q=>match q with
   |(g', .next)=>wN is f r g'
   |(g', .cont)=>wN is f r g'
   |(g', .brk)=>some (g', .next)
   |(g', .ret p)=>some (g', .ret p)
noncomputable def nE(src:Sg->Option (List (List PV)))(is:List Nat)(f:Den):Den:=fun g=>(src g).bind fun its=>wN is f its g
section
variable{X:Ctx}{tv dv:List Nat}
inductive wi(X:Ctx)(tv dv:List Nat)(K:Addr->Option Obj)(env:Ea)(A:Am)(s₀:Ab)(d:Sg->Option (Sg×Fl))(r:Sg×Fl)(s':Ab):Prop
 |mk (g₁:Sg) (N':Nat->List Addr) (F':List Addr) (T:aw X tv dv K env A s₀ g₁ N' F' s') (e:d g₁=some r):wi X tv dv K env A s₀ d r s'
theorem yL.rP{test:Expr}{body:List Stmt}{pos:B7}{c:PT}{f:Den}(n:Nat)(ht:dB X.W X.C test c)(hb:yU X tv dv tv dv body f):
  yL X tv dv (.While test body [] pos) (rO X.W.U c f n):=fun K env A E s₀ g N F s g' fl T e=>by
 refine wpAny_While (codeAny_whileLoop (fun m s'=>wi X tv dv K env A s₀ (rO X.W.U c f m) (g',fl) s') ?_ n ⟨g,N,F,T,e⟩)
 intro m s' I
 obtain⟨g₁,N',F',T',e'⟩:=I
 cases m with
 |zero=>exact nn e'
 |succ m=>
  refine oB e' fun t e1 e2=>?_
  refine zM (ht env A _ s' g₁.σ t T'.pre e1) fun b s₂ aj=>?_
  refine ao aj fun aI k=>?_
  clear aj
  subst aI
  have ay:=T'.kg k
  cases b with
  |false=>exact Internal.sp e2 (Em ⟨rfl,N',F',ay⟩)
  |true=>
   obtain⟨⟨cj,ck⟩,e3,e4⟩:=fE e2
   refine zM (hb K env A _ s₀ g₁ N' F' s₂ cj ck ay e3) fun fw av aE=>?_
   obtain⟨hf,gc,ma,aT⟩:=aE
   cases ck with
   |next=>exact Gm hf▸⟨m,Bx m,cj,gc,ma,aT,e4⟩
   |cont=>exact Gm hf▸⟨m,Bx m,cj,gc,ma,aT,e4⟩
   |brk=>exact Gm hf▸Internal.sp e4 ⟨rfl,gc,ma,aT⟩
   |ret p=>
    refine cM hf fun v ms bL r hn=>?_
    clear hf
    subst bL
    exact Internal.sp e4 ⟨⟨v,ms,rfl,r,hn⟩,gc,ma,aT⟩
theorem JM{prog:Program}{w:Cn}{A:Am}{R:Ez->Ab->Prop}{s:Ab}{target:Expr}{I:Addr}{body:List Stmt}{env:Ea}(J:Nat->Ab->Prop)
  (turn:∀n s,J n s->An (Aj prog w) A (Iv (.ref I)) (fun r aa=>(r=none/\R (.ok .next) aa)\/ry prog w A target I env (Hk (Aj prog w) A env fun e s'=>R (.error e) s') (fun s₂=>
    An (Aj prog w) A (G3 body env) (fun f av=>match f with
     | .next| .cont=>∃m,m<n/\J m av
     | .brk=>R (.ok .next) av
     | .ret v=>R (.ok (.ret v)) av) (Hk (Aj prog w) A env fun e s'=>R (.error e) s') s₂) r aa) (Hk (Aj prog w) A env fun e s'=>R (.error e) s') s)
  (n:Nat) (h:J n s):Cs (Aj prog w) A (.forLoop target (.ref I) body [] env) R s:=by
 refine codeAny_loop' rfl J (fun n s hI=>?_) n h
 refine(?_:An _ _ ((forTurn target (.ref I) body [] env).onRaise (fun x=>do Lr x env;Hl x)) _ _ s)
 refine wpAny_noted ?_
 simp only[forTurn]
 refine Ac (D1 (Ac (L5 (B2 (turn n s hI) (fun r aa ai=>?_) fun _ _ h'=>D1 h'))))
 rcases ai with⟨rfl,ai⟩|⟨v,rfl,ai⟩
 ·exact Aq (.inr ⟨rfl,codeAny_block (Em ai)⟩)
 ·refine Ac (B2 ai (fun _ pW fh=>?_) fun _ _ h'=>h')
  refine Ac (B2 fh (fun _ s₂ aj=>Ac (B2 aj (fun f av aE=>?_) fun _ _ h'=>h')) fun _ _ h'=>h')
  cases f with
  |next=>exact Aq (.inl ⟨rfl,aE⟩)
  |cont=>exact Aq (.inl ⟨rfl,aE⟩)
  |brk=>exact Aq aE
  |ret v=>exact Aq aE
noncomputable def JN(tv dv:List Nat)(N:Nat->List Addr)(s:Ab)(fp:List Addr):Prop:=
 ∀b∈fp,s.heap.get? b=none\/((∃j,b∈N j)/\(∀j∈tv,∀a r,N j=a::r->b≠a)/\∀j∈dv,b∉N j)
noncomputable def iT(X:Ctx)(tv dv:List Nat)(target:Expr)(xs:List Str)(iter:Expr)(src:Sg->Option (List (List PV))):Prop:=∀K env A E s₀ g N F s its,aw X tv dv K env A s₀ g N F s->src g=some its->
 An (Aj X.W.prog X.W.w) A (eval iter env) (fun xv aa=>An (Aj X.W.prog X.W.w) A (Jf xv) (kr X.W A s target xs its (JN tv dv N s)) E aa) E s
inductive wj(C:Cx):List Str->List Nat->Prop
 |nil:wj C [] []
 |cons {x i xs is}:C.Γ.lookup x=some i->wj C xs is->wj C (x::xs) (i::is)
theorem Q2{K:Addr->Option Obj}{env:Ea}{A:Am}{E:Value->Ab->Prop}{s₀:Ab}{F:List Addr}{Q:Ab->Prop}:∀{xs:List Str} {is:List Nat},wj X.C xs is->∀{it:List PV} {vs:List Value} {ns:List Addr} {s:Ab} {g:Sg} {N:Nat->List Addr},
  aw X tv dv K env A s₀ g N F s->aq s.heap it vs ns->it.length=xs.length->(∀i∈is,i∉tv/\i∉dv)->ey tv dv K N F ns false->(∀N' s',aw X tv dv K env A s₀ (JL is it g) N' F s'->(∀j,j∉is->N' j=N j)->(∀b o,b≠env.locals->(∀y d,X.C.kn.lookup y=some .cell->env.cells.lookup y=some d->b≠d)->s.heap.get? b=some o->s'.heap.get? b=some o)->Q s')->
  ur X.W.prog X.W.w A env E Q (xs.zip vs) s:=by
 intro xs is S
 induction S with
 |nil=>
  intro it vs ns s g N T r hl _ _ h
  cases it with
  |nil=>exact r.lR (M:=fun vs _=>ur X.W.prog X.W.w A env E Q (([]:List Str).zip vs) s) (h N s T (fun _ _=>rfl) fun _ _ _ _ e=>e)
  |cons p q=>exact absurd hl (Nat.succ_ne_zero _)
 | @cons x i xs is hx S ih=>
  intro it vs ns s g N T r hl hi H h
  cases it with
  |nil=>exact absurd hl.symm (Nat.succ_ne_zero _)
  |cons p ps=>
   refine ub r.inv fun v n ux lY rv rs oo IG=>?_
   subst oo
   subst IG
   rw[Ho]
   have jH:=hi i (Ag ..)
   have H1:ey tv dv K N F n false:=⟨fun j hj a r e hm=>H.t j hj a r e (A6 _ hm),fun j hj a ha hm=>H.d j hj a ha (A6 _ hm),fun a ha hm=>H.f a ha (A6 _ hm),fun q=>ft q⟩
   refine zM (T.eF (E:=E) hx rv H1 (.inr jH)) fun _ aa ai=>?_
   refine cD ai fun aO wk wm=>?_
   have wo:aq aa.heap ps ux lY:=rs.on fun a ha o e=>by
    refine fU (rs.nodes a ha) fun its n e'=>?_
    exact Aa (e'.symm.trans e)▸wk a its n e'
   refine ih aO wo (Nat.succ.inj hl) (fun k hk=>hi k (Ad _ hk)) ⟨fun j hj a r e hm=>?_,fun j hj a ha hm=>?_,fun a ha hm=>H.f a ha (A1 _ hm),fun q=>ft q⟩ fun N' s' T' wq Yn=>h N' s' T' (fun j hj=>?_) fun b o h1 h2 e=>Yn b o h1 h2 (wm b o h1 h2 e)
   ·exact H.t j hj a r ((ow (N:=N) (i:=i) (j:=j) (l:=n) fun q=>jH.1 (q▸hj)).symm.trans e) (A1 _ hm)
   ·exact H.d j hj a ((ow (N:=N) (i:=i) (j:=j) (l:=n) fun q=>jH.2 (q▸hj))▸ha) (A1 _ hm)
   ·exact(wq j fun h=>hj (Ad _ h)).trans (ow fun q=>hj (q▸Ag ..))
end
section
variable{X:Ctx}{tv dv:List Nat}{K K':Addr->Option Obj}{env:Ea}{A:Am}{s₀ s:Ab}{g:Sg}{N:Nat->List Addr}{F:List Addr}
theorem aw.eL(T:aw X tv dv K' env A s₀ g N F s)(h:∀b o,K b=some o->K' b=some o)(wd:∀h:As,(∀b o,K b=some o->h.get? b=some o)->X.W.Wd h):aw X tv dv K env A s₀ g N F s:=by
 have no:∀a,K' a=none->K a=none:=fun a e=>by
  cases q:K a with
  |none=>rfl
  |some o=>rw[h a o q]at e;exact sn e
 exact
  {T with
   dy:=no _ T.dy
   cls:=fun x c e1 e2=>⟨(T.cls x c e1 e2).1,no c (T.cls x c e1 e2).2⟩
   bQ:=fun i hi a r e=>⟨no a (T.bQ i hi a r e).1,(T.bQ i hi a r e).2⟩
   deep:=fun i hi=>⟨(T.deep i hi).1,fun a ha=>⟨no a ((T.deep i hi).2 a ha).1,((T.deep i hi).2 a ha).2⟩⟩
   kept:=fun b o e=>T.kept b o (h b o e)
   ei:=wd
   foot:=fun a ha=>⟨no a (T.foot a ha).1,(T.foot a ha).2⟩}
structure oz(X:Ctx)(tv dv:List Nat)(env:Ea)(N:Nat->List Addr)(F:List Addr)(fp:List Addr):Prop where
 loc:env.locals∉fp
 cls:∀x c,X.C.kn.lookup x=some .cell->env.cells.lookup x=some c->c∉fp
 f:∀a∈F,a∉fp
 t:∀j∈tv,∀a r,N j=a::r->a∉fp
 d:∀j∈dv,∀a∈N j,a∉fp
noncomputable def oA(K:Addr->Option Obj)(fp:List Addr)(h:As):Addr->Option Obj:=fun b=>if fp.contains b then h.get? b else K b
theorem lz{fp:List Addr}{h:As}{b:Addr}(hb:b∈fp):oA K fp h b=h.get? b:=by
 exact wI (by simpa using hb) rfl
theorem jj{fp:List Addr}{h:As}{b:Addr}(hb:b∉fp):oA K fp h b=K b:=by
 exact ea (by simpa using hb) rfl
theorem aw.freeze{fp:List Addr}(T:aw X tv dv K env A s₀ g N F s)(I:oz X tv dv env N F fp):aw X tv dv (oA K fp s.heap) env A s₀ g N F s:=
 {T with
  dy:=by refine af (jj I.loc) ?_;exact T.dy
  cls:=fun x c e1 e2=>⟨(T.cls x c e1 e2).1,by refine af (jj (I.cls x c e1 e2)) ?_;exact(T.cls x c e1 e2).2⟩
  bQ:=fun i hi a r e=>⟨by refine af (jj (I.t i hi a r e)) ?_;exact(T.bQ i hi a r e).1,(T.bQ i hi a r e).2⟩
  deep:=fun i hi=>⟨(T.deep i hi).1,fun a ha=>⟨by refine af (jj (I.d i hi a ha)) ?_;exact((T.deep i hi).2 a ha).1,((T.deep i hi).2 a ha).2⟩⟩
  kept:=fun b o e=>by
   by_cases hb:b∈fp
   ·rw[lz hb]at e;exact e
   ·rw[jj hb]at e;exact T.kept b o e
  ei:=fun h hk=>T.ei h fun b o e=>by
   by_cases hb:b∈fp
   ·exact hk b o (by refine af (lz hb) ?_;exact T.kept b o e)
   ·exact hk b o (by refine af (jj hb) ?_;exact e)
  foot:=fun a ha=>⟨by refine af (jj (I.f a ha)) ?_;exact(T.foot a ha).1,(T.foot a ha).2⟩}
theorem aw.wt{fp:List Addr}{h:As}(T:aw X tv dv (oA K fp h) env A s₀ g N F s)(hd:∀b∈fp,∃o,h.get? b=some o):oz X tv dv env N F fp:=by
 have no:∀a,oA K fp h a=none->a∉fp:=fun a e hm=>by
  refine aK (hd a hm) fun o ho=>?_
  rw[lz hm,ho]at e;exact sn e
 exact⟨no _ T.dy,fun x c e1 e2=>no c (T.cls x c e1 e2).2,fun a ha=>no a (T.foot a ha).1,fun j hj a r e=>no a (T.bQ j hj a r e).1,fun j hj a ha=>no a ((T.deep j hj).2 a ha).1⟩
theorem aw.other{wr:List Addr}{h':As}{tk:Nat}(T:aw X tv dv K env A s₀ g N F s)(hk:∀b o,b∉wr->s.heap.get? b=some o->h'.get? b=some o)(h1:env.locals∉wr)(h2:∀x c,X.C.kn.lookup x=some .cell->env.cells.lookup x=some c->c∉wr)
  (h3:∀a∈F,a∉wr) (h4:∀j,∀a∈N j,a∉wr) (h5:∀b∈wr,K b=none) (h6:∀x c,X.C.kn.lookup x=some .free->env.cells.lookup x=some c->c∉wr):aw X tv dv K env A s₀ g N F {s with heap:=h',toks:=tk}:=
 {T with
  loc:=by obtain⟨m,h⟩:=T.loc;exact⟨m,h.at' fun o e=>hk _ o h1 e⟩
  cls:=fun x c e1 e2=>by
   refine ao (T.cls x c e1 e2) fun bq h=>?_
   refine eu bq fun v o e3 e4=>?_
   exact aZ ⟨v,o,hk c o (h2 x c e1 e2) e3,e4⟩ h
  rd:=fun x i p e1 e2=>by
   obtain⟨v,a,r⟩:=T.rd x i p e1 e2
   refine⟨v,?_,r.on fun a ha o e=>hk a o (h4 i a ha) e⟩
   rcases a with⟨hl,m,hn,hm⟩|⟨hl,c,hc,o,e3,e4⟩
   ·exact .inl ⟨hl,m,hn.at' fun o e=>hk _ o h1 e,hm⟩
   ·refine .inr ⟨hl,c,hc,o,hk c o ?_ e3,e4⟩
    rcases hl with hl|hl
    ·exact h2 x c (by unfold Be at hl;rw[T.names]at hl;exact hl) hc
    ·exact h6 x c (by unfold Be at hl;rw[T.names]at hl;exact hl) hc
  nd:=fun j a ha=>by obtain⟨i,n,e⟩:=T.nd j a ha;exact⟨i,n,hk a _ (h4 j a ha) e⟩
  kept:=fun b o e=>hk b o (fun hb=>by rw[h5 b hb]at e;exact nn e) (T.kept b o e)
  same:=T.same.heap h' tk
  book:=fun v b e=>X.BK.frame (T.book v b e) fun a ha o e=>hk a o (h3 a ha) e
  foot:=fun a ha=>by obtain⟨g1,⟨o,g2⟩,g3⟩:=T.foot a ha;exact⟨g1,⟨o,hk a o (h3 a ha) g2⟩,g3⟩}
theorem aw.jK{fp:List Addr}(T:aw X tv dv K env A s₀ g N F s)(h:JN tv dv N s fp):oz X tv dv env N F fp:=by
 have cg:∀a j,a∈N j->∃o,s.heap.get? a=some o:=fun a j ha=>(T.nd j a ha).elim fun _ h=>h.elim fun _ e=>⟨_,e⟩
 refine⟨fun hm=>?_,fun x c e1 e2 hm=>?_,fun a ha hm=>?_,fun j hj a r e hm=>?_,fun j hj a ha hm=>?_⟩
 ·refine aK T.loc fun m hn=>?_
  rcases h _ hm with h0|⟨⟨j,hj⟩,_⟩
  ·obtain⟨o,_,_,e,_⟩:=hn;rw[h0]at e;exact nn e
  ·obtain⟨_,_,e⟩:=T.nd j _ hj;exact wY hn e
 ·refine ao (T.cls x c e1 e2) fun bq _=>?_
  refine aK bq fun v hc=>?_
  rcases h _ hm with h0|⟨⟨j,hj⟩,_⟩
  ·obtain⟨o,e,_⟩:=hc;rw[h0]at e;exact nn e
  ·obtain⟨_,_,e⟩:=T.nd j _ hj;exact uu hc e
 ·refine ri (T.foot a ha) fun _ gE g3 _=>?_
  refine aK gE fun o e=>?_
  rcases h _ hm with h0|⟨⟨j,hj⟩,_⟩
  ·rw[h0]at e;exact nn e
  ·exact g3 j hj
 ·refine aK (cg a j (e▸Ag ..)) fun o e'=>?_
  rcases h _ hm with h0|⟨_,h1,_⟩
  ·rw[h0]at e';exact nn e'
  ·exact h1 j hj a r e rfl
 ·refine aK (cg a j ha) fun o e'=>?_
  rcases h _ hm with h0|⟨_,_,h2⟩
  ·rw[h0]at e';exact nn e'
  ·exact h2 j hj ha
end
section
variable{X:Ctx}{tv dv:List Nat}
inductive JO(X:Ctx)(tv dv:List Nat)(K:Addr->Option Obj)(env:Ea)(A:Am)(s₀:Ab)(fp:List Addr)(St:Nat->As->Prop)(its:List (List PV))(d:List (List PV)->Sg->Option (Sg×Fl))(r:Sg×Fl)(n:Nat)(s':Ab):Prop
 |mk (i:Nat) (g₁:Sg) (N':Nat->List Addr) (F':List Addr) (hn:n+i=its.length+1) (hi:i<=its.length) (T:aw X tv dv K env A s₀ g₁ N' F' s') (J:oz X tv dv env N' F' fp) (st:St i s'.heap) (e:d (its.drop i) g₁=some r):JO X tv dv K env A s₀ fp St its d r n s'
theorem aw.wr{I:Addr}{fp wr:List Addr}{its:List (List PV)}{St:Nat->As->Prop}{target:Expr}{xs:List Str}{K:Addr->Option Obj}{env:Ea}{A A':Am}{s₀ s:Ab}{g:Sg}{N:Nat->List Addr}{F:List Addr}(T:aw X tv dv K env A s₀ g N F s)(J:oz X tv dv env N F fp)(Y:ef X.W.prog X.W.w A' target xs I fp wr its St){i:Nat}(st:St i s.heap)
  (wK:∀b∈wr,K b=none) (iv:∀x,X.C.kn.lookup x≠some .free) {h':As} {tk:Nat} (hk:∀b o,b∉wr->s.heap.get? b=some o->h'.get? b=some o):aw X tv dv K env A s₀ g N F {s with heap:=h',toks:=tk}:=
 T.other hk (fun h=>J.loc (Y.sub _ h)) (fun x c e1 e2 h=>J.cls x c e1 e2 (Y.sub _ h)) (fun a ha h=>J.f a ha (Y.sub _ h)) (fun j a ha hw=>by obtain⟨items,n,e⟩:=T.nd j a ha;exact Y.rz i _ st a hw items n e) wK (fun x c e _=>absurd e (iv x))
theorem Q3{K:Addr->Option Obj}{fp:List Addr}{h:As}(k:∀b o,K b=some o->h.get? b=some o)(b:Addr)(o:Obj)(e:K b=some o):oA K fp h b=some o:=by
 by_cases hm:b∈fp
 ·rw[lz hm];exact k b o e
 ·rw[jj hm];exact e
theorem rQ{K K':Addr->Option Obj}(k:∀b o,K b=some o->K' b=some o){a:Addr}(h:K' a=none):K a=none:=by
 cases q:K a with
 |none=>rfl
 |some o=>exact nn (h.symm.trans (k a o q))
theorem yL.oC{target iter:Expr}{xs:List Str}{is:List Nat}{body:List Stmt}{pos:B7}{src:Sg->Option (List (List PV))}{f:Den}(jf:iT X tv dv target xs iter src)(S:wj X.C xs is)
  (hi:∀i∈is,i∉tv/\i∉dv) (hb:yU X tv dv tv dv body f) (hf:∀env x,Ej iter env x=pure x) (iv:∀x,X.C.kn.lookup x≠some .free):yL X tv dv (.For target iter body [] pos) (nE src is f):=fun K env A E s₀ g N F s g' fl T e=>by
 refine oB e fun its e1 e2=>?_
 refine wpAny_For (zM (jf K env A E s₀ g N F s its T e1) fun xv aa ai=>zM ai fun it s₂ aj=>?_) (hf env)
 obtain⟨I,fp,wr,St,rfl,k,eJ,cZ,Y,st,hF⟩:=aj
 have wK:∀b∈wr,K b=none:=fun b hb=>rQ T.kept (eJ b hb)
 refine JM (JO X tv dv K env A s₀ fp St its (wN is f) (g',fl)) (fun n s' I=>?_) (its.length+1) ⟨0,g,N,F,rfl,Dv _,T.kg k,T.jK hF,st,e2⟩
 obtain⟨i,g₁,N',F',hn,nF,T',J,nA,e'⟩:=I
 rcases Jh nF with aY|rfl
 ·rw[Bc aY]at e'
  obtain⟨⟨cj,ck⟩,e3,e4⟩:=fE e'
  refine zM (Y.item i _ s' env _ _ (Ap aY) nA fun us ms aj cz ja oh hlen dJ bE=>?_) fun r aa h=> .inr h
  have H:ey tv dv K N' F' ms false:=⟨fun j hj a r e hm=>J.t j hj a r e (oh a hm),fun j hj a ha hm=>J.d j hj a ha (oh a hm),fun a ha hm=>J.f a ha (oh a hm),fun q=>ft q⟩
  refine Q2 S (T'.wr (tk:=cz) J Y nA wK iv bE) ja hlen hi H fun gc av aT qe kp=>?_
  have JP:oz X tv dv env gc F' fp:=⟨J.loc,J.cls,J.f,fun j hj a r e=>J.t j hj a r (by rw[<-qe j fun h=>(hi j h).1 hj];exact e),fun j hj a ha=>J.d j hj a (by rw[<-qe j fun h=>(hi j h).2 hj];exact ha)⟩
  have qf:St (i+1) av.heap:=Y.frame _ _ _ dJ fun b hb o e=>kp b o (fun q=>J.loc (q▸hb)) (fun y d e1 e2 q=>J.cls y d e1 e2 (q▸hb)) e
  refine zM (hb _ env A _ s₀ _ gc F' av cj ck (aT.freeze JP) e3) fun fw aV aW=>?_
  obtain⟨iw,gF,ix,bT⟩:=aW
  have up:=Q3 (fp:=fp) aT.kept
  have go:wN is f (its.drop (i+1)) cj=some (g',fl)->∃m,m<n/\JO X tv dv K env A s₀ fp St its (wN is f) (g',fl) m aV:=fun e=>
   ⟨its.length-i,by(refine cu (Nat.add_sub_cancel (n:=n) (m:=i)) ?_;refine af hn ?_;refine af (Nat.succ_sub nF) ?_);exact Bx _,i+1,cj,gF,ix,by(refine cu (D0 ..) ?_;exact af (Nat.sub_add_cancel nF) rfl),aY,bT.eL up T.ei,bT.wt (Y.cg _ _ qf),Y.frame _ _ _ qf fun b hb o e=>bT.kept b o (by refine af (lz hb) ?_;exact e),e⟩
  cases ck with
  |next=>exact Gm iw▸go e4
  |cont=>exact Gm iw▸go e4
  |brk=>exact Gm iw▸Internal.sp e4 ⟨rfl,gF,ix,bT.eL up T.ei⟩
  |ret p=>
   refine cM iw fun v BZ bL r hn=>?_
   clear iw
   subst bL
   exact Internal.sp e4 ⟨⟨v,BZ,rfl,r,fun a ha=>rQ up (hn a ha)⟩,gF,ix,bT.eL up T.ei⟩
 ·rw[List.drop_length]at e'
  exact Internal.sp e' (Y.done _ _ _ nA fun aj cz bE=> .inl ⟨rfl,rfl,N',F',T'.wr J Y nA wK iv bE⟩)
theorem kr.mono{W:bP}{A:Am}{s:Ab}{target:Expr}{xs:List Str}{its:List (List PV)}{F F':List Addr->Prop}{it:Value}{s₂:Ab}(h:kr W A s target xs its F it s₂)(k:∀fp,F fp->F' fp):kr W A s target xs its F' it s₂:=by
 obtain⟨I,fp,wr,St,h1,h2,h3,h4,h5,h6,h7⟩:=h
 exact⟨I,fp,wr,St,h1,h2,h3,h4,h5,h6,k fp h7⟩
theorem iT.cv{x xr:Str}{px pr pos:B7}{iter:Expr}{pe:PE}(h:ax X.W X.C iter pe)(hx:xr= "range") (hk:X.C.kn.lookup xr=some .globalImplicit) (hg:X.W.mg "range" =none) (hb:X.W.mb "range" =some (.type "range")) (he:∀env,Bz [iter] env=[(false,eval iter env)]):
  iT X tv dv (.Name x px) [x] (.Call (.Name xr pr) [iter] [] pos) (fun g=>gz X.W.U (.cv pe) g.σ):=fun K env A E s₀ g N F s its T e=>
 zM (Qz (x:=x) (px:=px) h hx hk hg hb he T.pre e) fun xv aa ai=>zM ai fun it s₂ aj=>aj.mono fun fp hf b hb=> .inl (hf b hb)
theorem Q4{x:Str}{px:B7}{p:PV}{v:Value}{ns:List Addr}{its:List (List PV)}{K:Addr->Option Obj}{env:Ea}{A:Am}{E:Value->Ab->Prop}{s₀ s aa:Ab}{g:Sg}{N:Nat->List Addr}{F:List Addr}(T:aw X tv dv K env A s₀ g N F s)(k:KG s aa)(r:VR aa.heap p v ns)(e:j9 p=some its)
  (h:∀b∈ns,s.heap.get? b=none\/((∃j,b∈N j)/\(∀j∈tv,∀a r,N j=a::r->b≠a)/\∀j∈dv,b∉N j)):
  An (Aj X.W.prog X.W.w) A (Jf v) (kr X.W A s (.Name x px) [x] its (JN tv dv N s)) E aa:=by
 cases p with
 |list l=>exact so e (zM (IT (x:=x) (px:=px) T.room.hh k r) fun it s₂ aj=>aj.mono fun fp hq b hb=>(hq b hb).elim .inl (h b))
 |str l=>exact so e (zM (Qy (x:=x) (px:=px) T.room.hh k r) fun it s₂ aj=>aj.mono fun fp hq b hb=> .inl (hq b hb))
 |_=>exact nn e
theorem iT.items{x:Str}{px:B7}{iter:Expr}{pe:PE}(h:ax X.W X.C iter pe):
  iT X tv dv (.Name x px) [x] iter (fun g=>(ev X.W.U pe g.σ).bind fun p=>if fresh pe p then j9 p else none):=fun K env A E s₀ g N F s its T e=>by
 refine oB e fun p e1 e2=>?_
 refine oI e2 fun hf e2=>?_
 refine zM (h env A E s g.σ p T.pre e1) fun v aa ai=>?_
 obtain⟨k,ns,r,f⟩:=ai
 exact Q4 T k r e2 fun b hb=> .inl ((f hf).new b hb)
theorem iT.name{x y:Str}{j:Nat}{px py:B7}(hy:X.C.Γ.lookup y=some j)(ht:tv.contains j=false)(hd:dv.contains j=false)(hn:(y==("__classdict__" :Str))=false) (jJ:(y==("__debug__" :Str))=false):
  iT X tv dv (.Name x px) [x] (.Name y py) (fun g=>((g.σ[j]?).bind id).bind j9):=fun K env A E s₀ g N F s its T e=>by
 have ht:=rL ht
 have hd:=rL hd
 refine oB e fun p e1 e2=>?_
 refine oB e1 fun p' e3 e4=>?_
 obtain rfl:p'=some p:=e4
 obtain⟨v,a,r⟩:=T.rd y j p hy e3
 refine Bp (yP T.kind a ?_ hn) jJ
 exact Q4 T (jY s) r e2 fun b h=> .inr ⟨⟨j,h⟩,fun i hi a r e q=>(T.bQ i hi a r e).2.2 j (fun q'=>ht (q'▸hi)) (q▸h),fun i hi hm=>((T.deep i hi).2 b hm).2 j (fun q'=>hd (q'▸hi)) h⟩
end
inductive md(h:As)(a:Addr)(name:Str)(params:Arguments)(body:List Stmt)(scope:Scope):Prop
 |mk (o:Obj) (pm cd doc:Value) (e:h.get? a=some o) (d:o.data= .func (Hc name params body scope pm cd doc)) (c:h.CodeRec cd name):md h a name params body scope
theorem md.sub{h h':As}{a:Addr}{name:Str}{params:Arguments}{body:List Stmt}{scope:Scope}(x:md h a name params body scope)(k:Sub h h'):md h' a name params body scope:=by
 obtain⟨o,pm,cd,doc,e1,e2,e3⟩:=x
 exact⟨o,pm,cd,doc,k _ _ e1,e2,e3.keeps k⟩
noncomputable def wF(scope:Scope)(xs:List Str):List Str:=xs++(scope.names.filter fun y=>(y.2== .local||y.2== .cell)&&!xs.contains y.1).map (·.1)
noncomputable def wP(scope:Scope)(xs:List Str):Cx:=⟨scope.names,lr 0 (wF scope xs),(wF scope xs).length⟩
noncomputable def jl(scope:Scope)(xs:List Str):Bool:=
 scope.kind== .function&&!scope.isCoroutine&&!scope.isGenerator&&wR (wF scope xs)&&
 (wF scope xs).all (fun x=>scope.names.lookup x==some .local||scope.names.lookup x==some .cell)&&scope.names.all fun y=>y.2 != .free
theorem CP{scope:Scope}{xs:List Str}(h:jl scope xs=true):IZ (wP scope xs):=by
 unfold jl at h
 simp only[Ao,Al,beq_iff_eq,El]at h
 refine ao h fun bq _=>?_
 refine ao bq fun bq hk=>?_
 obtain⟨_,hn⟩:=bq
 refine⟨fun x y i h1 h2=>?_,fun x i h1=>?_,fun x i h1=>?_⟩
 ·refine aD (pY h1) fun j e1 e2=>?_
  refine aD (pY h2) fun k e3 e4=>?_
  have:j=k:=by lia
  subst this
  rw[e2]at e4;obtain rfl:=Aa e4;rfl
 ·refine aD (pY h1) fun j e1 e2=>?_
  obtain⟨h2,_⟩:=Ba.mp e2
  refine(?_:i<(wF scope xs).length)
  lia
 ·refine aD (pY h1) fun j e1 e2=>?_
  exact hk x (C7 e2)
theorem CQ{x:Str}:∀(names:List (Str×Cy)) (n:Nat) (acc:List (Str×Addr)),((x,Cq)∈names\/(acc.lookup x).isSome=true)->((Hd n names acc).lookup x).isSome=true
 |[],n,acc,h=>by
  rcases h with h|h
  ·cases h
  ·exact h
 |(y,k)::r,n,acc,h=>by
  unfold Hd
  split
  ·rename_i hk
   refine CQ r _ _ ?_
   rcases h with h|h
   ·rcases Av.mp h with h|h
    ·obtain⟨rfl,rfl⟩:=Bf h;right;simp
    ·exact .inl h
   ·right
    rw[A8]
    split
    ·rfl
    ·exact h
  ·rename_i hk
   refine CQ r _ _ ?_
   rcases h with h|h
   ·rcases Av.mp h with h|h
    ·obtain⟨rfl,rfl⟩:=Bf h;exact absurd rfl hk
    ·exact .inl h
   ·exact .inr h
theorem JQ{kindOf:Str->Option Cy}:∀{xs:List Str} {vs:List Value} (m cm:Str->Option Value),wR xs=true->(∀(j:Nat) (x:Str) (v:Value),xs[j]?=some x->vs[j]?=some v->
  (kindOf x=some .local->bindL kindOf (xs.zip vs) m x=some v)/\(kindOf x≠some .local->bindC kindOf (xs.zip vs) cm x=some v))/\
  (∀y,y∉xs->bindL kindOf (xs.zip vs) m y=m y/\bindC kindOf (xs.zip vs) cm y=cm y)
 |[],vs,m,cm,_=>⟨fun j x v h=>(by exact nn h),fun y _=>by simp[bindL,bindC]⟩
 |x::xs,[],m,cm,_=>⟨fun j y v _ h=>(by exact nn h),fun y _=>by simp[bindL,bindC]⟩
 |x::xs,v::vs,m,cm,hd=>by
  simp only[wR,Ao,Dk,C2,decide_eq_false_iff_not]at hd
  refine ao (@JQ kindOf xs vs (if kindOf x=some .local then fun y=>if y=x then some v else m y else m) (if kindOf x=some .local then cm else fun y=>if y=x then some v else cm y) hd.2) fun h1 h2=>?_
  refine af Ho ?_
  unfold bindL bindC
  refine aZ (fun j y u e1 e2=>?_) (fun y hy=>?_)
  ·cases j with
   |zero=>
    obtain rfl:=Aa e1;obtain rfl:=Aa e2
    refine ao (h2 x hd.1) fun h3 h4=>?_
    refine aZ (fun hk=>?_) (fun hk=>?_)
    ·(refine af h3 ?_;refine af (if_pos hk) ?_);simp
    ·(refine af h4 ?_;refine af (if_neg hk) ?_);simp
   |succ j=>exact h1 j y u (by exact e1) (by exact e2)
  ·refine ao (h2 y fun h=>hy (Ad _ h)) fun h3 h4=>?_
   have cN:y≠x:=fun q=>hy (q▸Ag ..)
   refine af h3 ?_
   refine af h4 ?_
   constructor
   ·split
    ·simp[cN]
    ·rfl
   ·split
    ·rfl
    ·simp[cN]
theorem aq.split{h:As}{ps:List PV}{vs:List Value}{ns:List Addr}(x:aq h ps vs ns):∃L:List (List Addr),(∀(i:Nat) (p:PV),ps[i]?=some p->∃v,vs[i]?=some v/\VR h p v (L.getD i []))/\∀(i:Nat),∀a∈L.getD i [],a∈ns:=by
 refine aq.ind (M:=fun ps vs ns=>∃L:List (List Addr),(∀(i:Nat) (p:PV),ps[i]?=some p->∃v,vs[i]?=some v/\VR h p v (L.getD i []))/\∀(i:Nat),∀a∈L.getD i [],a∈ns) ⟨[],fun i p e=>nn e,fun i a h=>(Ar h).elim⟩ (fun {p v n ps vs ns} hv _ g=>?_) x
 refine aD g fun L h1 h2=>?_
 refine i12 (n::L) (fun i p e=>?_) (fun i a h=>?_)
 ·cases i with
  |zero=>obtain rfl:=Aa e;exact⟨_,rfl,hv⟩
  |succ i=>exact h1 i p e
 ·cases i with
  |zero=>exact A6 _ h
  |succ i=>exact A1 _ (h2 i a h)
noncomputable def eB(C:Cx)(ps:List PV)(β:Option (Value×ak)):Sg:=⟨ps.map some++Ai (C.n-ps.length) none,β⟩
theorem de.deeper{D:Nat}{A:Am}(h:de (D+1) A)(env:Ea):de D (A.deeper env):=
 ⟨h.hh,by have:=h.depth;refine(?_:A.depth+1+D<_);exact xA,by have:=h.units;refine(?_:A.units+3+8*D+60<cLine);lia⟩
section
variable{X:Ctx}{tv dv:List Nat}
theorem Yo{name:Str}{params:Arguments}{body:List Stmt}{scope:Scope}{xs:List Str}{a:Addr}{A:Am}{s:Ab}{ps:List PV}{vs:List Value}{ns:List Addr}{f:Den}{R:Ez->Ab->Prop}{K:Addr->Option Obj}{F:List Addr}{β:Option (Value×ak)}{g':Sg}{r:PV}
  (hC:X.C=wP scope xs) (bM:jl scope xs=true) (dQ:md s.heap a name params body scope) (cq:s.heap.NoLimit) (aN:de (X.W.D+1) A)
  (hK:∀b o,K b=some o->s.heap.get? b=some o) (wd:∀h:As,(∀b o,K b=some o->h.get? b=some o)->X.W.Wd h)
  (di:∀v b,β=some (v,b)->X.BK.is v b F s.heap) (hF:∀b∈F,K b=none/\(∃o,s.heap.get? b=some o)/\b∉ns)
  (bw:∀pm cd doc,Fq (Hc name params body scope pm cd doc) ⟨vs,[]⟩=pure (xs.zip vs)) (hr:aq s.heap ps vs ns) (hlen:ps.length=xs.length)
  (rR:∀i,i∈tv\/i∈dv->xs.length<=i) (hb:yU X tv dv [] [] body f) (rS:f (eB X.C ps β)=some (g', .ret r))
  (hR:∀(v:Value) (ms:List Addr) (s':Ab) (N':Nat->List Addr) (F':List Addr),VR s'.heap r v ms->(∀b∈ms,K b=none)->(∀b o,K b=some o->s'.heap.get? b=some o)->wJ s s'->(∀u b,g'.β=some (u,b)->X.BK.is u b F' s'.heap)->(∀b∈F',K b=none/\(∃o,s'.heap.get? b=some o)/\∀j,b∉N' j)->R (.ok (.ret v)) s'):
  Cs (Aj X.W.prog X.W.w) A (.call (.ref a) ⟨vs,[]⟩) R s:=by
 obtain⟨o,pm,cd,doc,ho,dK,gG⟩:=dQ
 have fq:=bM
 unfold jl at fq
 simp only[Ao,Al,beq_iff_eq,El,Dk]at fq
 refine ao fq fun bq iy=>?_
 refine ao bq fun bq oE=>?_
 obtain⟨⟨⟨hk,ij⟩,gH⟩,gW⟩:=bq
 have wu:∀j x,xs[j]?=some x->(wF scope xs)[j]?=some x:=fun j x e=>by
  unfold wF
  rw[B9 (Ba.mp e).1];exact e
 have mf:wR xs=true:=by
  have:∀(l m:List Str),wR (l++m)=true->wR l=true:=by
   intro l
   induction l with
   |nil=>intro m _;rfl
   |cons y r ih=>
    intro m h
    simp only[Dg,wR,Ao,Dk,C2,decide_eq_false_iff_not]at h⊢
    exact aZ (fun hm=>h.1 (A6 _ hm)) (ih m h.2)
  exact this xs _ gW
 have dR:∀x,scope.names.lookup x=some .cell->∀n,((Hd n scope.names []).lookup x).isSome=true:=fun x e n=>CQ _ _ _ (.inl (yO e))
 have hsz:∀b o,s.heap.get? b=some o->b<s.heap.objs.size:=fun b o e=>Bo e
 have wx:xs.length<=(wF scope xs).length:=by unfold wF;simp
 have qg:X.C.kn=scope.names:=by refine af hC ?_;rfl
 have rT:X.C.Γ=lr 0 (wF scope xs):=by refine af hC ?_;rfl
 have hn:X.C.n=(wF scope xs).length:=by refine af hC ?_;rfl
 have qi:∀x∈xs,scope.names.lookup x=some .local\/scope.names.lookup x=some .cell:=fun x hx=>oE x (by exact A6 _ hx)
 refine call_cells_ret (by have:=aN.depth;exact zW) ho dK cq gG (bw pm cd doc) (fun y hy=>?_) (fun ai tk Fm Xc=>?_) ij gH hk
 ·have hx:y.1∈xs:=(Iy hy).1
  rcases qi y.1 hx with e|e
  ·exact .inl e
  ·exact .inr ⟨e,dR _ e _⟩
 ·refine aD hr.split fun LL wy JR=>?_
  have up:Sub s.heap ai:=Fm.keep
  have dz:∀c o,s.heap.get? c=some o->c<s.heap.objs.size:=fun c o e=>Bo e
  have Kn:∀c,s.heap.objs.size<=c->K c=none:=fun c hc=>by
   cases q:K c with
   |none=>rfl
   |some o=>exact absurd (dz c o (hK c o q)) (Fu.mpr hc)
  have above:∀x c,(Hd (s.heap.objs.size+1) scope.names []).lookup x=some c->s.heap.objs.size<c:=fun x c e=>Xc.above x c (D7 e)
  generalize bN:envOfC name scope s.heap.objs.size a cd=env at*
  have bR:env.cells=Hd (s.heap.objs.size+1) scope.names []:=by refine cu bN ?_;rfl
  have ba:env.locals=s.heap.objs.size:=by refine cu bN ?_;rfl
  have eG:env.scope=scope:=by refine cu bN ?_;rfl
  have T:aw X tv dv K env (A.deeper env) s (eB X.C ps β) (fun i=>if i<ps.length then LL.getD i []else []) F {s with heap:=ai,toks:=tk}:=
   {fF:=by refine af hC ?_;exact CP bM
    kind:=by refine af eG ?_;exact hk
    names:=by(refine af eG ?_;exact af qg rfl)
    gl:=by refine cu bN ?_;rfl
    bl:=by refine cu bN ?_;rfl
    room:=aN.deeper env
    eI:=fun x k e1 e2=>by
     rw[qg]at e1
     rcases e2 with rfl|rfl
     ·refine af bR ?_;exact Ef.mp (dR x e1 _)
     ·have:=iy _ (yO e1);simp at this
    eE:=fun x y c e1 e2=>by
     rw[bR]at e1 e2
     exact name_of_addr Xc.apart (D7 e1) (D7 e2)
    len:=by refine(?_:(ps.map some++Ai (X.C.n-ps.length) none).length=_);(refine af Ax ?_;refine af (Az ..) ?_;refine af Bq ?_;refine af hn ?_);lia
    loc:=⟨_,by refine af ba ?_;exact Fm.ns⟩
    dy:=by refine af ba ?_;exact Kn _ (B6 _)
    cls:=fun x c e1 e2=>by
     rw[bR]at e2
     exact aZ ⟨_,Xc.cell x c e2⟩ (Kn c (Dc (above x c e2)))
    rd:=fun x i p e1 e2=>by
     rw[rT]at e1
     refine aD (pY e1) fun j e3 e4=>?_
     have:i=j:=by refine af e3 ?_;exact C0 j
     subst this
     have e2:(ps.map some++Ai (X.C.n-ps.length) none)[i]?=some (some p):=e2
     have hi:i<ps.length:=by
      by_cases hi:i<ps.length
      ·exact hi
      ·rw[C6 (by simpa using hi)]at e2
       have:=C7 e2
       have:=Cf this
       exact sn this
     rw[B9 (by simpa using hi),Ay]at e2
     have e5:ps[i]?=some p:=by
      cases q:ps[i]? with
      |none=>rw[q]at e2;exact nn e2
      |some z=>rw[q]at e2;cases e2;rfl
     refine aD (wy i p e5) fun v e6 e7=>?_
     have e8:xs[i]?=some x:=by
      obtain⟨y,hy⟩:∃y,xs[i]?=some y:=⟨xs[i]'(by exact yV),by simp⟩
      have:=wu i y hy
      rw[e4]at this;obtain rfl:=Aa this;exact hy
     refine ao ((JQ (kindOf:=env.kindOf) (vs:=vs) (fun _=>none) (fun _=>none) mf).1 i x v e8 e6) fun b1 b2=>?_
     refine⟨v,?_,?_⟩
     ·have kk:∀k,scope.names.lookup x=some k->env.kindOf x=some k:=fun k e=>by unfold Be;refine af eG ?_;exact e
      rcases qi x (C7 e8)with e|e
      ·exact .inl ⟨kk _ e,_,by refine af ba ?_;exact Fm.ns,b1 (kk _ e)⟩
      ·refine aK (Ef.mp (dR x e (s.heap.objs.size+1))) fun c hc=>?_
       have:=Xc.cell x c hc
       rw[b2 (by rw[kk _ e];simp)]at this
       exact .inr ⟨.inl (kk _ e),c,by refine af bR ?_;exact hc,this⟩
     ·refine(?_:VR ai p v (if i<ps.length then LL.getD i []else []))
      refine af (if_pos hi) ?_;exact e7.sub up
    nd:=fun j b hb=>by
     split at hb
     ·rename_i hj
      refine aD (wy j ps[j] (by simp)) fun v e6 e7=>?_
      refine fU (e7.nodes b hb) fun items n e=>?_
      exact HQ items n (up _ _ e)
     ·cases hb
    bQ:=fun i hi b q e=>by
     have:=rR i (.inl hi)
     rw[if_neg (by lia)]at e;cases e
    deep:=fun i hi=>by
     have:=rR i (.inr hi)
     rw[if_neg (by lia)]
     exact aZ E5 (fun _ h=>nomatch h)
    kept:=fun b o e=>up b o (hK b o e)
    ei:=wd
    same:=⟨ai,tk,s.gens,rfl, .rfl' _⟩
    book:=fun v b e=>X.BK.frame (di v b e) fun c _ o e=>up c o e
    foot:=fun b hb=>by
     refine cD (hF b hb) fun h1 gE h3=>?_
     refine aK gE fun o h2=>?_
     have aY:=dz b o h2
     refine vB h1 ⟨o,up b o h2⟩ (fun j=>?_) ?_ (fun x c e=>?_)
     ·split
      ·exact fun hm=>h3 (JR j b hm)
      ·exact fun h=>nomatch h
     ·refine af ba ?_;exact Bu aY
     ·rw[bR]at e
      exact Bu (Jc aY (above x c e))}
  refine zM (hb K env _ _ s _ _ F _ g' (.ret r) T rS) fun fw s' h=>?_
  obtain⟨⟨v,ms,rfl,rv,oh⟩,N',F',T'⟩:=h
  exact hR v ms s' N' F' rv oh T'.kept T'.same T'.book fun b hb=>⟨(T'.foot b hb).1,(T'.foot b hb).2.1,(T'.foot b hb).2.2.1⟩
theorem wz{name:Str}{params:Arguments}{body:List Stmt}{scope:Scope}{xs:List Str}{a:Addr}{A:Am}{s:Ab}{ps:List PV}{vs:List Value}{ns:List Addr}{f:Den}{g':Sg}{r:PV}
  (hC:X.C=wP scope xs) (bM:jl scope xs=true) (dQ:md s.heap a name params body scope) (cq:s.heap.NoLimit) (aN:de (X.W.D+1) A) (wd:X.W.Wd s.heap)
  (bw:∀pm cd doc,Fq (Hc name params body scope pm cd doc) ⟨vs,[]⟩=pure (xs.zip vs)) (hr:aq s.heap ps vs ns) (hlen:ps.length=xs.length)
  (rR:∀i,i∈tv\/i∈dv->xs.length<=i) (hb:yU X tv dv [] [] body f) (rS:f (eB X.C ps none)=some (g', .ret r)):
  Cs (Aj X.W.prog X.W.w) A (.call (.ref a) ⟨vs,[]⟩) (fun res s'=>∃v ms,res= .ok (.ret v)/\KG s s'/\VR s'.heap r v ms) s:=
 Yo (K:=fun b=>s.heap.get? b) (F:=[]) (β:=none) hC bM dQ cq aN (fun _ _ e=>e) (fun h k=>X.W.mono wd k) (fun _ _ e=>by exact nn e) (fun _ h=>nomatch h) bw hr hlen rR hb rS
  fun v ms s' N' F' rv _ kept same _ _=>by
   obtain⟨h,t,g,rfl,x⟩:=same
   exact nt v ms rfl ⟨h,t,g,rfl,kept,x⟩ rv
end
set_option genSizeOf false
set_option genInjectivity false
inductive GK where
 |int (i:Int)
 |fn (k:Nat)
 |bi (f:Nat)
 |ty (T:String)
noncomputable def Q5(W:bP)(x:Str):GK->Prop
 | .int i=>∃t,W.mg x=some (.int i t)
 | .fn k=>W.mg x=some (.ref (W.i5 k))
 | .bi f=>W.mg x=none/\W.mb x=some (.builtin (n8 f))
 | .ty T=>W.mg x=none/\W.mb x=some (.type T)
noncomputable abbrev Tab:=List (Str×GK)
noncomputable def cR(W:bP)(tab:Tab):Prop:=∀x k,tab.lookup x=some k->Q5 W x k
noncomputable abbrev Q6(tab:Tab)(C:Cx)(e:Expr):={pe:PE//∀W,cR W tab->ax W C e pe}
noncomputable abbrev RE(tab:Tab)(C:Cx)(e:Expr):=Option (Q6 tab C e)
noncomputable abbrev fu(tab:Tab):=∀(C:Cx) (e:Expr),RE tab C e
noncomputable def wM(e:Expr):Bool:=e.ctorIdx !=22
theorem zI{x:Expr}(h:wM x=true)(es:List Expr)(env:Ea):Bz (x::es) env=(false,eval x env)::Bz es env:=by
 cases x<;>first|rfl|exact ft h
theorem JS:∀(es:List Expr),es.all wM=true->∀pos env,(Ke pos (Bz es env)).any (·.1)=false
 |[],_,_,_=>rfl
 |x::es,h,pos,env=>by
  simp only[Ly,Ao]at h
  rw[zI h.1]
  have:=JS es h.2 pos env
  refine(?_:(false||(Ke pos (Bz es env)).any (·.1))=false)
  rw[this];rfl
noncomputable def w0(e:Expr):Bool:=e.ctorIdx !=7
theorem mh{e:Expr}(h:w0 e=true)(env:Ea)(x:Value):Ej e env x=pure x:=by
 cases e<;>first|rfl|exact ft h
noncomputable def Q7(e:Expr):Bool:=e.ctorIdx !=16
theorem wU{o:Expr}(h:Q7 o=true)(m:Str)(env:Ea)(t:Le Value):C8 o m env t=t:=by
 cases o<;>first|rfl|exact ft h
noncomputable def Q8(e:Expr):Bool:=!([0,3,5,15].contains e.ctorIdx)
theorem Q9{e:Expr}(h:Q8 e=true)(env:Ea)(whole:Le Value):L7 e env whole=(do let v<-whole;standAt e.pos;holding [v] (truthy v)):=by
 cases e<;>first|rfl|exact ft h
noncomputable def bad(x:Str):Bool:=x==("__debug__" :Str)||x==("__classdict__" :Str)
theorem wW{x:Str}(h:bad x=false):(x==("__debug__" :Str))=false:=by unfold bad at h;simp only[Fo]at h;exact h.1
theorem cU{x:Str}(h:bad x=false):(x==("__classdict__" :Str))=false:=by unfold bad at h;simp only[Fo]at h;exact h.2
theorem ax.w8{W:bP}{C:Cx}{x:Str}{k:Nat}{pos:B7}:ax W C (.Constant (.str x) k pos) (.lit (.str x.cps.toList)):=ax.cStr (by cases x;simp[mkStr])
section
variable{α β:Type}
noncomputable def bK(c:Prop)[Decidable c](k:c->Option β):Option β:=if h:c then k h else none
noncomputable def gX(o:Option α)(k:∀a,o=some a->Option β):Option β:=match o,k with
 |some a,k=>k a rfl
 |none,_=>none
@[elab_as_elim] noncomputable def CR {M:α->Type} [DecidableEq α] (a b:α) (d:M a) (k:M b):M a:=if h:a=b then h▸k else d
@[elab_as_elim] noncomputable def qj {M:List α->Type} (l:List α) (d:M l) (k:M []):M l:=match l,d with
 |[],_=>k
 |_::_,d=>d
@[elab_as_elim] noncomputable def CT {M:List α->Type} (l:List α) (d:M l) (k:∀a r,M (a::r)->M (a::r)):M l:=match l,d with
 |a::r,d=>k a r d
 |[],d=>d
@[elab_as_elim] noncomputable def ky {M:List α->Type} (l:List α) (d:M l) (k:∀a,M [a]):M l:=CT l d fun a r d=>qj r d (k a)
@[elab_as_elim] noncomputable def qm {M:List α->Type} (l:List α) (d:M l) (k:∀a b,M [a,b]):M l:=CT l d fun a r d=>ky r d (k a)
noncomputable def alt(a b:Option α):Option α:=match a with
 |some x=>some x
 |none=>b
end
section
variable{M:Expr->Type}
@[elab_as_elim] noncomputable def sN (e:Expr) (d:M e) (k:∀x p,M (.Name x p)):M e:=if h:e.ctorIdx=23 then Expr.Name.elim e h k else d
@[elab_as_elim] noncomputable def sC (e:Expr) (d:M e) (k:∀f a p,M (.Call f a [] p)):M e:=if h:e.ctorIdx=16 then Expr.Call.elim (motive_1:=fun e=>M e->M e) e h (fun f a q p d=>qj q d (k f a p)) d else d
@[elab_as_elim] noncomputable def sA (e:Expr) (d:M e) (k:∀o m p,M (.Attribute o m p)):M e:=if h:e.ctorIdx=20 then Expr.Attribute.elim e h k else d
@[elab_as_elim] noncomputable def sS (e:Expr) (d:M e) (k:∀o i p,M (.Subscript o i p)):M e:=if h:e.ctorIdx=21 then Expr.Subscript.elim e h k else d
@[elab_as_elim] noncomputable def sB (e:Expr) (d:M e) (k:∀l o r p,M (.BinOp l o r p)):M e:=if h:e.ctorIdx=2 then Expr.BinOp.elim e h k else d
@[elab_as_elim] noncomputable def sT (e:Expr) (d:M e) (k:∀es q p,M (.Tuple es q p)):M e:=if h:e.ctorIdx=25 then Expr.Tuple.elim e h k else d
@[elab_as_elim] noncomputable def sU (o:UnaryOp) (e:Expr) (d:M e) (k:∀x p,M (.UnaryOp o x p)):M e:=if h:e.ctorIdx=3 then Expr.UnaryOp.elim (motive_1:=fun e=>M e->M e) e h (fun q x p d=>CR q o d (k x p)) d else d
@[elab_as_elim] noncomputable def sO (o:BoolOp) (e:Expr) (d:M e) (k:∀es p,M (.BoolOp o es p)):M e:=if h:e.ctorIdx=0 then Expr.BoolOp.elim (motive_1:=fun e=>M e->M e) e h (fun q x p d=>CR q o d (k x p)) d else d
@[elab_as_elim] noncomputable def sP (e:Expr) (d:M e) (k:∀l o r p,Lz o r=false->M (.Compare l [o] [r] p)):M e:=if h:e.ctorIdx=15 then Expr.Compare.elim (motive_1:=fun e=>M e->M e) e h (fun l os rs p d=>ky (M:=fun os=>M (.Compare l os rs p)->M (.Compare l os rs p)) os id (fun o d=>ky (M:=fun rs=>M (.Compare l [o] rs p)->M (.Compare l [o] rs p)) rs id (fun r d=>if h:_ then k l o r p h else d) d) d) d else d
@[elab_as_elim] noncomputable def sG (e:Expr) (d:M e) (k:∀elt t i ifs sc p,M (.ListComp elt [⟨t,i,ifs,0⟩] sc p)):M e:=if h:e.ctorIdx=8 then Expr.ListComp.elim (motive_1:=fun e=>M e->M e) e h (fun elt gs sc p d=>ky (M:=fun gs=>M (.ListComp elt gs sc p)->M (.ListComp elt gs sc p)) gs id (fun⟨t,i,ifs,z⟩ d=>CR z 0 d (k elt t i ifs sc p)) d) d else d
end
noncomputable def tyB(o:Option GK)(T:String):Bool:=match o with
 |some (.ty S)=>S==T
 |_=>false
section
variable{tab:Tab}
theorem cR.ty{W:bP}(ok:cR W tab){x:Str}{T:String}(h:tyB (tab.lookup x) T=true):W.mg x=none/\W.mb x=some (.type T):=by
 have o:=ok x
 revert o h
 cases tab.lookup x with
 |none=>exact fun h=>ft h
 |some k=>
  cases k with
  |ty S=>exact fun h o=>(eq_of_beq (show(S==T)=true from h))▸o _ rfl
  |_=>exact fun h=>ft h
noncomputable def cL(R:fu tab)(C:Cx):∀es:List Expr,Option {ps:jZ//∀W,cR W tab->ll W C es ps}
 |[]=>some ⟨.nil,fun _ _=>ll.nil⟩
 |x::es=>bK (wM x=true) fun hs=>(R C x).bind fun a=>(cL R C es).bind fun r=>some ⟨.cons a.1 r.1,fun W ok=>ll.cons (a.2 W ok) (r.2 W ok) (fun env=>zI hs es env)⟩
noncomputable def cO(R:fu tab)(C:Cx):∀e:Option Expr,Option {o:PO//∀W,cR W tab->kb W C e o}
 |none=>some ⟨.no,fun _ _=>kb.no⟩
 |some x=>(R C x).bind fun a=>some ⟨.yes a.1,fun W ok=>kb.yes (a.2 W ok)⟩
noncomputable abbrev Yp(tab:Tab)(C:Cx)(e:Expr):={t:PT//∀W,cR W tab->dB W C e t}
noncomputable abbrev RT(tab:Tab)(C:Cx)(e:Expr):=Option (Yp tab C e)
noncomputable def Ra{C:Cx}(f:∀e,RT tab C e):∀es:List Expr,Option {ts:ew//∀W,cR W tab->nY W C es ts}
 |[]=>some ⟨.nil,fun _ _=>nY.nil⟩
 |x::es=>(f x).bind fun a=>(Ra f es).bind fun r=>some ⟨.cons a.1 r.1,fun W ok=>nY.cons (a.2 W ok) (r.2 W ok)⟩
noncomputable def Rb{C:Cx}(f:∀e,RT tab C e):∀es:List Expr,Option {ts:ew//∀W,cR W tab->n5 W C es ts}
 |[]=>some ⟨.nil,fun _ _=>n5.nil⟩
 |x::es=>(f x).bind fun a=>(Rb f es).bind fun r=>some ⟨.cons a.1 r.1,fun W ok=>n5.cons (a.2 W ok) (r.2 W ok)⟩
noncomputable def cT(R:fu tab)(C:Cx):Nat->∀e:Expr,RT tab C e
 |0,_=>none
 |n+1,e=>alt (sU .Not e none fun x _=>(cT R C n x).bind fun t=>some ⟨.not t.1,fun W ok=>dB.not (t.2 W ok)⟩)
  (alt (sO .And e none fun es _=>(Ra (cT R C n) es).bind fun t=>some ⟨.and t.1,fun W ok=>dB.and (t.2 W ok)⟩)
  (alt (sO .Or e none fun es _=>(Rb (cT R C n) es).bind fun t=>some ⟨.or t.1,fun W ok=>dB.or (t.2 W ok)⟩)
  (alt (sP e none fun l op r _ hm=>(R C l).bind fun a=>(R C r).bind fun b=>some ⟨.cmp op a.1 b.1,fun W ok=>dB.cmp (a.2 W ok) (b.2 W ok) hm⟩)
  (bK (Q8 e=true) fun h=>(R C e).bind fun a=>some ⟨.eT a.1,fun W ok=>dB.eT (a.2 W ok) fun env whole=>Q9 h env whole⟩))))
noncomputable def cI(R:fu tab)(C:Cx)(es:List Expr):Option {ts:ew//∀W,cR W tab->iS W C es ts}:=alt
 (qj es none (some ⟨.nil,fun _ _=>iS.nil⟩))
 (ky es none fun c=>(cT R C 5 c).bind fun t=>some ⟨.cons t.1 .nil,fun W ok=>iS.one (t.2 W ok)⟩)
structure JT(tab:Tab)(C:Cx)(target iter:Expr) where
 xs:List Str
 src:nu
 ok:∀W,cR W tab->i9 W C target xs iter src
noncomputable def uy(C:Cx)(xr:Str)(T:String){β:Type}(k:xr=((T:String):Str)->C.kn.lookup xr=some .globalImplicit->(∀W,cR W tab->W.mg (T:String)=none/\W.mb (T:String)=some (.type T))->Option β):Option β:=
 bK (xr=((T:String):Str)/\C.kn.lookup xr=some .globalImplicit/\tyB (tab.lookup xr) T=true) fun h=>k h.1 h.2.1 fun _ ok=>h.1▸ok.ty h.2.2
noncomputable def Yq(R:fu tab)(C:Cx)(x:Str)(px:B7)(iter:Expr):Option (JT tab C (.Name x px) iter):=
 sC iter none fun f as pos=>sN f none fun xr pr=>ky as none fun a=>
  uy (tab:=tab) C xr "range" fun hx hk ht=>bK (wM a=true) fun hs=>(R C a).bind fun r=>some ⟨[x], .cv r.1,fun W ok=>i9.cv (r.2 W ok) hx hk (ht W ok).1 (ht W ok).2 fun env=>zI hs [] env⟩
noncomputable def Yr(R:fu tab)(C:Cx)(x y:Str)(px py pt:B7)(k:Nat)(iter:Expr):Option (JT tab C (.Tuple [.Name x px, .Name y py] k pt) iter):=
 sC iter none fun f as pos=>sN f none fun xe pe=>alt
  (ky as none fun a=>
   uy (tab:=tab) C xe "enumerate" fun hx hk ht=>bK (wM a=true) fun hs=>(R C a).bind fun r=>some ⟨[x,y], .enum r.1,fun W ok=>i9.enum (r.2 W ok) hx hk (ht W ok).1 (ht W ok).2 fun env=>zI hs [] env⟩)
  (qm as none fun a b=>
   uy (tab:=tab) C xe "zip" fun hx hk ht=>bK (wM a=true/\wM b=true) fun hs=>(R C a).bind fun r=>(R C b).bind fun q=>some ⟨[x,y], .zip r.1 q.1,fun W ok=>i9.zip (r.2 W ok) (q.2 W ok) hx hk (ht W ok).1 (ht W ok).2 (fun env=>zI hs.1 [b] env) fun env=>zI hs.2 [] env⟩)
noncomputable def Rc(R:fu tab)(C:Cx)(target iter:Expr):Option (JT tab C target iter):=alt
 (sN target none fun x px=>alt (Yq R C x px iter) ((R C iter).bind fun a=>some ⟨[x], .items a.1,fun W ok=>i9.items (a.2 W ok)⟩))
 (sT target none fun es k pt=>qm es none fun a b=>sN a none fun x px=>sN b none fun y py=>Yr R C x y px py pt k iter)
noncomputable def Ys(C:Cx)(x:Str)(pos:B7):RE tab C (.Name x pos):=
 bK (bad x=false) fun hb=>gX (C.kn.lookup x) fun k hk=>alt
  (bK (vF k=true) fun hi=>gX (C.Γ.lookup x) fun i hg=>some ⟨.var i,fun W _=>ax.var hk hi hg (wW hb) (cU hb)⟩)
  (bK (k= .globalImplicit) fun JU=>gX (tab.lookup x) fun q ht=>match q,ht with
   | .int i,ht=>some ⟨.lit (.int i),fun W ok=>(ok x _ ht).elim fun t h=>ax.dq (JU▸hk) h (wW hb)⟩
   |_,_=>none)
noncomputable def Yu(R:fu tab)(C:Cx)(x:Str)(p:B7)(args:List Expr)(pos:B7):RE tab C (.Call (.Name x p) args [] pos):=
 bK (bad x=false/\C.kn.lookup x=some .globalImplicit) fun⟨hb,hk⟩=>gX (tab.lookup x) fun q ht=>CT args none fun a r _=>bK (wM a=true) fun hs=>(cL R C (a::r)).bind fun es=>match q,ht with
  | .bi f,ht=>bK (r.all wM=true/\(if f=2/\r.length=1 then 3 else f)<5/\n8 (if f=2/\r.length=1 then 3 else f)=n8 f) fun⟨hr,hf⟩=>
   some ⟨.bi (if f=2/\r.length=1 then 3 else f) es.1,fun W ok=>ax.bi hf.1 hk (ok x _ ht).1 (hf.2▸(ok x _ ht).2) (wW hb) (es.2 W ok) (fun env=>zI hs r env) fun env=>JS r hr pos env⟩
  | .fn k,ht=>some ⟨.uc k es.1,fun W ok=>ax.uc hk (ok x _ ht) (wW hb) (es.2 W ok) fun env=>zI hs r env⟩
  |_,_=>none
noncomputable def Yv(R:fu tab)(C:Cx)(xl:Str)(p1:B7)(pos:B7)(args:List Expr):RE tab C (.Call (.Name xl p1) args [] pos):=
 ky args none fun arg=>sC arg none fun f as p2=>sN f none fun xr p3=>
 CT as none fun a Yw _=>qm Yw none fun b c=>
 uy (tab:=tab) C xl "list" fun hx hk ht=>uy (tab:=tab) C xr "range" fun Yx II hr=>bK (wM a=true/\[b,c].all wM=true) fun hs=>(cL R C [a,b,c]).bind fun es=>some ⟨.bi 5 es.1,fun W ok=>by
  cases hx
  cases Yx
  exact ax.kj hk (ht W ok).1 (ht W ok).2 II (hr W ok).1 (hr W ok).2 (es.2 W ok) (fun env=>zI hs.1 [b,c] env) fun env=>JS [b,c] hs.2 p2 env⟩
noncomputable def Yy(R:fu tab)(C:Cx)(o:Expr)(m:Str)(ap:B7)(args:List Expr)(pos:B7):RE tab C (.Call (.Attribute o m ap) args [] pos):=
 bK (Q7 o=true/\(ap.endLine==pos.line)=true) fun hb=>(R C o).bind fun a=>alt
  (qj args none (bK (m=("lower" :Str)) fun hm=>some ⟨.me 1 a.1 .nil,fun W ok=>hm▸ax.lower (a.2 W ok) (fun env=>wU hb.1 _ env _) hb.2⟩))
  (ky args none fun x=>bK (wM x=true) fun hs=>(R C x).bind fun b=>alt
   (bK (m=("join" :Str)) fun hm=>some ⟨.me 0 a.1 (.cons b.1 .nil),fun W ok=>hm▸ax.join (a.2 W ok) (b.2 W ok) (fun env=>wU hb.1 _ env _) (fun env=>zI hs [] env) hb.2⟩) (alt
   (bK (m=("count" :Str)) fun hm=>some ⟨.me 2 a.1 (.cons b.1 .nil),fun W ok=>hm▸ax.count (a.2 W ok) (b.2 W ok) (fun env=>wU hb.1 _ env _) (fun env=>zI hs [] env) hb.2⟩)
   (bK (m=("index" :Str)) fun hm=>some ⟨.me 3 a.1 (.cons b.1 .nil),fun W ok=>hm▸ax.index (a.2 W ok) (b.2 W ok) (fun env=>wU hb.1 _ env _) (fun env=>zI hs [] env) hb.2⟩)))
noncomputable def JV(e:Expr):Bool:=e.ctorIdx==26
theorem Rd{i:Expr}(h:JV i=false)(o v:Value):Fp i false o v=Jp [o,v] (Ja o v):=by
 cases i<;>first|rfl|exact ft h.symm
noncomputable def Yz(R:fu tab)(C:Cx)(x i:Expr)(pos:B7):RE tab C (.Subscript x i pos):=(R C x).bind fun a=>alt
 (bK (i.ctorIdx=26) fun h=>M1 (motive_1:=fun i=>Option (Q6 tab C (.Subscript x i pos))) i h fun lo hi st _=>(cO R C lo).bind fun b=>(cO R C hi).bind fun c=>(cO R C st).bind fun d=>some ⟨.bS a.1 b.1 c.1 d.1,fun W ok=>ax.bS (a.2 W ok) (b.2 W ok) (c.2 W ok) (d.2 W ok)⟩)
 (bK (JV i=false) fun hs=>(R C i).bind fun b=>some ⟨.idx a.1 b.1,fun W ok=>ax.idx (a.2 W ok) (b.2 W ok) fun o v=>Rd hs o v⟩)
noncomputable def cK{C:Cx}(k:Nat)(p:B7):∀c:Const,RE tab C (.Constant c k p)
 | .int i=>some ⟨.lit (.int i),fun _ _=>ax.cInt⟩
 | .str x=>some ⟨.lit (.str x.cps.toList),fun _ _=>ax.w8⟩
 | .bool b=>some ⟨.lit (.bool b),fun _ _=>ax.cBool⟩
 | .none=>some ⟨.lit .none,fun _ _=>ax.vG⟩
 |_=>none
noncomputable def YA(R:fu tab):fu tab:=fun C e=>
 alt (bK (e.ctorIdx=19) fun h=>Mg (motive_1:=fun e=>RE tab C e) e h fun c k p=>cK k p c)
 (alt (sN e none (Ys C))
 (alt (sB e none fun l op r _=>(R C l).bind fun a=>(R C r).bind fun b=>some ⟨.bin op a.1 b.1,fun W ok=>ax.bin (a.2 W ok) (b.2 W ok)⟩)
 (alt (sU .USub e none fun x _=>(R C x).bind fun a=>some ⟨.neg a.1,fun W ok=>ax.neg (a.2 W ok)⟩)
 (alt (sP e none fun l op r _ hm=>(R C l).bind fun a=>(R C r).bind fun b=>some ⟨.cmp op a.1 b.1,fun W ok=>ax.cmp (a.2 W ok) (b.2 W ok) hm⟩)
 (alt (sO .And e none fun es p=>qm es none fun l r=>(R C l).bind fun a=>(R C r).bind fun b=>some ⟨.ia a.1 b.1,fun W ok=>ax.ia (a.2 W ok) (b.2 W ok)⟩)
 (alt (sO .Or e none fun es p=>qm es none fun l r=>(R C l).bind fun a=>(R C r).bind fun b=>some ⟨.gy a.1 b.1,fun W ok=>ax.gy (a.2 W ok) (b.2 W ok)⟩)
 (alt (bK (e.ctorIdx=5) fun h=>Expr.IfExp.elim (motive_1:=fun e=>RE tab C e) e h fun t x y _=>(cT R C 5 t).bind fun c=>(R C x).bind fun a=>(R C y).bind fun b=>some ⟨.ite c.1 a.1 b.1,fun W ok=>ax.ite (c.2 W ok) (a.2 W ok) (b.2 W ok)⟩)
 (alt (sS e none (Yz R C))
 (alt (bK (e.ctorIdx=24) fun h=>Expr.List.elim (motive_1:=fun e=>RE tab C e) e h fun es _=>(cL R C es).bind fun l=>some ⟨.list l.1,fun W ok=>ax.list (l.2 W ok)⟩)
 (alt (sG e none fun elt target iter ifs scope _=>(Rc R C target iter).bind fun S=>bK (qb C scope S.xs=true/\w0 iter=true) fun hc=>(R (C.fj scope S.xs) elt).bind fun a=>(cI R (C.fj scope S.xs) ifs).bind fun t=>some ⟨.comp a.1 S.src t.1,fun W ok=>ax.comp hc.1 (S.ok W ok) (a.2 W ok) (t.2 W ok) fun env x=>mh hc.2 env x⟩)
 (sC e none fun f args pos=>alt
  (sN f none fun x p=>alt (Yu R C x p args pos) (Yv R C x p pos args))
  (sA f none fun o m ap=>Yy R C o m ap args pos))))))))))))
noncomputable def cE:Nat->fu tab
 |0=>fun _ _=>none
 |n+1=>YA (cE n)
end
set_option genInjectivity true
theorem YB{env:Ea}{x:Str}{px pos:B7}{elt:Expr}{gens:List Comprehension}{scope:Scope}{line:Nat}(hk:env.scope.kind= .function)(hl:env.kindOf x=some .local)(h1:(px.line==pos.line)=true)
  (h2:(scope.names.any fun y=>y.1==x&&(y.2== .local||y.2== .cell))=false):Ie (.ListComp elt gens scope pos) (some (.Name x px)) line env=pure true:=by
 unfold Ie
 have hb:env.blockKind= .function:=by unfold Env.blockKind;refine af hk ?_;rfl
 have w9:(scope.names.any fun(n,k)=>n==x&&(k== .local||k== .cell))=false:=h2
 refine(?_:(pure _:Le Bool)=_)
 have e:(env.blockKind== .function&&env.kindOf x==some .local&&px.line==pos.line&&!(scope.names.any fun(n,k)=>n==x&&(k== .local||k== .cell)))=true:=by
  (refine af hb ?_;refine af hl ?_;refine af w9 ?_;refine af (show(px.line==pos.line)=true from h1) ?_);rfl
 exact congrArg pure e
theorem Rf{env:Ea}{x:Str}{px pos:B7}{elt:Expr}{gens:List Comprehension}{scope:Scope}{line:Nat}(hl:env.kindOf x=some .cell):Ie (.ListComp elt gens scope pos) (some (.Name x px)) line env=pure false:=by
 unfold Ie
 dsimp only
 refine af hl ?_
 have:((some Cq:Option Cy)==some .local)=false:=rfl
 rw[this,Bool.and_false,G4,G4]
noncomputable def JW(e:Expr):Bool:=!([8,9,10].contains e.ctorIdx)
theorem JX{value:Expr}(h:JW value=true)(target:Option Expr)(line:Nat)(env:Ea):Ie value target line env=pure false:=by
 cases value<;>first|rfl|exact ft h
section
variable{X:Ctx}{tv dv:List Nat}
theorem yL.kA{x:Str}{i:Nat}{px oF:B7}{target elt iter:Expr}{xs:List Str}{ifs:List Expr}{scope:Scope}{pos:B7}{pe:PE}{src:nu}{ts:ew}(hx:X.C.Γ.lookup x=some i)(pV:X.C.kn.lookup x=some .local)
  (h1:(px.line==pos.line)=true) (h2:(scope.names.any fun y=>y.1==x&&(y.2== .local||y.2== .cell))=false)
  (bM:qb X.C scope xs=true) (jf:i9 X.W X.C target xs iter src) (cb:ax X.W (X.C.fj scope xs) elt pe) (da:iS X.W (X.C.fj scope xs) ifs ts)
  (hs:∀env x,Ej iter env x=pure x) (iv:∀x,X.C.kn.lookup x≠some .free):yL X tv dv (.Assign [.Name x px] (.ListComp elt [⟨target,iter,ifs,0⟩] scope pos) oF) (wQ i (fm X.W.U (.comp pe src ts))):=fun K env A E s₀ g N F s g' fl T e=>by
 obtain⟨⟨g₁,p⟩,e1,e2⟩:=fE e
 refine oB e1 fun q e3 e4=>?_
 refine oI e4 fun _ e4=>?_
 refine ao (Bf (Aa e4)) fun aI aH=>?_
 subst aI
 subst aH
 refine oB e3 fun its e5 e6=>?_
 refine oI e6 fun hsz e6=>?_
 obtain⟨ps,run,rfl⟩:=dk e6
 refine Internal.sp e2 ?_
 have P:=T.pre
 refine cD (Qp bM) fun bu dw pZ=>?_
 obtain⟨cl,fk,dm⟩:=CF (scope:=scope) (env:=env) fun y hy hf=>by
  rcases pZ y hy hf with e|e
  ·exact P.eI _ _ e (.inl rfl)
  ·exact P.eI _ _ e (.inr rfl)
 have ku:env.kindOf x=some .local:=by unfold Be;refine af T.names ?_;exact pV
 unfold JC;refine af (exec_Assign_Name_used _ _ _ _ (YB (line:=oF.line) T.kind ku h1 h2)) ?_
 refine Ac (D1 (Ac ?_))
 refine(?_:An _ A (do let _<-comprehension (.ListComp elt [⟨target,iter,ifs,0⟩] scope pos) scope env _ (newList []) false (eval iter env) (some (Km (.Name x px) env))) _ _ s)
 refine Ac (B2 (Fw (use:=some (Km (.Name x px) env)) (Q:=fun _ s'=>jg X tv dv K env A s₀ (g.set i (.list ps)) .next .next s') rfl (hs env) fk bu dw
  (zM (jf env A E s g.σ its P e5 hsz) fun xv aa ai=>zM ai fun it s₂ aj=>?_)) (fun _ s' hq=>Aq (Aq hq)) fun _ _ e=>e)
 obtain⟨I,fp,wr,St,rfl,aQ,eJ,cZ,Y,st,_⟩:=aj
 refine Qx (RR:=fun acc L=>compPost (Aj X.W.prog X.W.w) A E (some (Km (.Name x px) env)) (fun _ s'=>jg X tv dv K env A s₀ (g.set i (.list ps)) .next .next s') acc L) bM P dm cb da aQ eJ cZ Y st hsz run ?_
 intro D L s' ns m' hL k hn r hf vY
 have aO:=T.kg k
 refine(?_:An _ A (Km (.Name x px) env (.ref D)) _ _ _)
 have qn:∀a,(∃o,s.heap.get? a=some o)->a≠L:=fun a ⟨o,e⟩ q=>by rw[q,hL]at e;exact nn e
 have Rg:env.locals≠L:=qn _ (by obtain⟨m,o,_,_,e,_⟩:=T.loc;exact⟨o,e⟩)
 have CU:∀y d,X.C.kn.lookup y=some .cell->env.cells.lookup y=some d->d≠L:=fun y d e1 e2=>qn d (by obtain⟨⟨_,o,e,_⟩,_⟩:=T.cls y d e1 e2;exact⟨o,e⟩)
 refine Dj (zM (aO.eF hx r (T.held hf) (own:=true) (.inl rfl)) fun _ aV aW=>?_)
 refine cD aW fun ay _ kp=>?_
 refine i12 m' (hn.at' fun o e=>kp L o (H0 Rg) (fun y d e1 e2 q=>CU y d e1 e2 q.symm) e) (fun h' dt=>⟨rfl,_,_,ay.other (wr:=[L]) (tk:=aV.toks) (fun b o hb e=>dt.extBut b o (fun q=>hb (by refine af q ?_;exact Bn L)) e) ?_ ?_ ?_ ?_ ?_ ?_⟩)
 ·exact fun h=>Rg (Af.mp h)
 ·exact fun y d e1 e2 h=>CU y d e1 e2 (Af.mp h)
 ·exact fun a ha h=>qn a (T.foot a ha).2.1 (Af.mp h)
 ·intro j a ha h
  have CV:=Af.mp h
  unfold fH at ha
  split at ha
  ·exact vY (CV▸ha)
  ·refine fU (T.nd j a ha) fun _ _ e=>?_
   exact qn a ⟨_,e⟩ CV
 ·intro b hb
  refine af (Af.mp hb) ?_
  cases q:K L with
  |none=>rfl
  |some o=>have:=T.kept L o q;rw[hL]at this;exact nn this
 ·intro y c e1 e2 h
  exact absurd e1 (iv y)
end
inductive JY(h:As)(ps:List PV)(vs:List Value)(ns:List Addr)(u:Nat)(p:PV):Prop
 |mk (w:Value) (n:List Addr) (e:vs[u]?=some w) (r:VR h p w n) (m:∀x∈n,x∈ns) (k:∀(h':As) (p':PV),(∀x o,x∉n->h.get? x=some o->h'.get? x=some o)->VR h' p' w n->aq h' (ps.set u p') vs ns):JY h ps vs ns u p
theorem aq.JZ{h:As}{ps:List PV}{vs:List Value}{ns:List Addr}(x:aq h ps vs ns):ns.Nodup->∀{u:Nat} {p:PV},ps[u]?=some p->JY h ps vs ns u p:=
 x.ind (M:=fun ps vs ns=>ns.Nodup->∀{u:Nat} {p:PV},ps[u]?=some p->JY h ps vs ns u p) (fun _ _ _ e=>nn e) fun hv hs ih hd u p e=>by
  have hd:=Hx.mp hd
  cases u with
  |zero=>exact Aa e▸⟨_,_,rfl,hv,fun x hx=>A6 _ hx,fun h' p' ext r=> .cons r (hs.on fun a ha o e=>ext a o (fun hm=>hd.2.2 a hm a ha rfl) e)⟩
  |succ u=>
   obtain⟨w,n',e1,e2,e3,e4⟩:=ih hd.2.1 (u:=u) e
   exact⟨w,n',e1,e2,fun x hx=>A1 _ (e3 x hx),fun h' p' ext r=> .cons (hv.on fun a ha o e=>ext a o (fun hm=>hd.2.2 a ha a (e3 a hm) rfl) e) (e4 h' p' ext r)⟩
section
variable{X:Ctx}{tv dv:List Nat}{K:Addr->Option Obj}{env:Ea}{A:Am}{s₀ s:Ab}{g:Sg}{N:Nat->List Addr}{F:List Addr}
theorem aw.KA{x:Str}{i:Nat}{l':List PV}{b:Addr}{v:Value}{h':As}{tk:Nat}(T:aw X tv dv K env A s₀ g N F s)(hx:X.C.Γ.lookup x=some i)(hi:i∈dv)(ht:i∉tv)(hb:b∈N i)(cw:Acc env s.heap x v)
  (hs:Ci b s.heap h') (hv:VR h' (.list l') v (N i)) (jH:i<g.σ.length):aw X tv dv K env A s₀ (g.set i (.list l')) N F {s with heap:=h',toks:=tk}:=by
 refine ao (T.deep i hi) fun gW rU=>?_
 refine ao (rU b hb) fun YC dP=>?_
 refine fU (T.nd i b hb) fun its nn df=>?_
 have Rh:b∉F:=fun h=>(T.foot b h).2.2.1 i hb
 exact
  {fF:=T.fF,kind:=T.kind,names:=T.names,gl:=T.gl,bl:=T.bl,room:=T.room,eI:=T.eI,eE:=T.eE
   len:=by refine(?_:(g.σ.set i _).length=_);rw[Bd];exact T.len
   loc:=by obtain⟨m,hm⟩:=T.loc;exact⟨m,hm.at' fun o e=>hs _ o (fun q=>wY hm (q▸df)) e⟩
   dy:=T.dy
   cls:=fun y c e1 e2=>by
    refine ao (T.cls y c e1 e2) fun bq h=>?_
    refine eu bq fun v o e3 e4=>?_
    exact aZ ⟨v,o,hs c o (fun q=>uu ⟨o,e3,e4⟩ (q▸df)) e3,e4⟩ h
   rd:=fun y j q e1 e2=>by
    by_cases hj:j=i
    ·have oq:y=x:=T.fF.inj y x i (hj▸e1) hx
     have e2:(g.σ.set i (some (.list l')))[i]?=some (some q):=hj▸e2
     rw[Ct jH]at e2
     exact⟨v,oq▸cw.ox df hs,hj▸Aa (Aa e2)▸hv⟩
    ·have e2:(g.σ.set i (some (.list l')))[j]?=some (some q):=e2
     rw[A7 (H0 hj)]at e2
     obtain⟨u,ac,rr⟩:=T.rd y j q e1 e2
     exact⟨u,ac.ox df hs,rr.on fun c hc o e=>hs c o (fun q=>dP j hj (q▸hc)) e⟩
   nd:=fun j c hc=>by
    by_cases hj:j=i
    ·exact hv.nodes c (hj▸hc)
    ·refine fU (T.nd j c hc) fun it n e=>?_
     exact HQ it n (hs c _ (fun q=>dP j hj (q▸hc)) e)
   bQ:=T.bQ
   deep:=T.deep
   kept:=fun c o e=>hs c o (fun q=>by rw[q,YC]at e;cases e) (T.kept c o e)
   ei:=T.ei
   same:=T.same.heap h' tk
   book:=fun u c e=>X.BK.frame (T.book u c e) fun d hd o e=>hs d o (fun q=>Rh (q▸hd)) e
   foot:=fun c hc=>by
    refine cD (T.foot c hc) fun g1 gE g3=>?_
    refine aK gE fun o g2=>?_
    exact⟨g1,⟨o,hs c o (fun q=>Rh (q▸hc)) g2⟩,g3⟩}
end
section
variable{X:Ctx}{tv dv:List Nat}
inductive Ri(h:As)(m:List PV)(w:Value)(n:List Addr):Prop
 |mk (b:Addr) (us:List Value) (e:w= .ref b) (en:n=[b]) (pl:h.PlainList b (Eu us)) (vs:aq h m us []):Ri h m w n
theorem VR.row{h:As}{m:List PV}{w:Value}{n:List Addr}(r:VR h (.list m) w n)(hm:m.all PV.bo=true):Ri h m w n:=by
 refine jD r.inv fun a vs ms h1 h2 lX oo=>?_
 subst lX
 subst oo
 obtain rfl:=h2.aM hm
 exact⟨a,vs,rfl,rfl,h1,h2⟩
theorem KC{r:List Addr}(h:∀b∈r,b∈([]:List Addr)):r=[]:=Ih.mpr fun a ha=>Ar (h a ha)
theorem yL.fv{x:Str}{i:Nat}{px sp Rj pos:B7}{ie je value:Expr}{pi pj pv:PE}(hx:X.C.Γ.lookup x=some i)(hi:dv.contains i=true)(ht:tv.contains i=false)(hn:(x==("__classdict__" :Str))=false) (jJ:(x==("__debug__" :Str))=false)
  (hs:∀env,Ie value (some (.Subscript (.Subscript (.Name x px) ie sp) je Rj)) pos.line env=pure false) (gY:∀o v,Fp ie false o v=Jp [o,v] (Ja o v))
  (h1:ax X.W X.C ie pi) (h2:ax X.W X.C je pj) (h3:ax X.W X.C value pv):
  yL X tv dv (.Assign [.Subscript (.Subscript (.Name x px) ie sp) je Rj] value pos) (QV i X.W.U pi pj pv):=fun K env A E s₀ g N F s g' fl T e=>by
 have hi:=wg hi
 have ht:=rL ht
 refine oB e fun p e1 e=>?_
 refine oB e fun l e2 e=>?_
 refine oB e fun a e3 e=>?_
 refine oB e fun b e4 e=>?_
 have hl:=wa e2
 obtain⟨a,b,m,rfl,rfl,hm,hc,e7⟩:=Yl e
 refine ao (b2 hc) fun hc c8=>?_
 refine ao (b2 hc) fun hc c7=>?_
 refine ao (b2 hc) fun hc c6=>?_
 refine ao (b2 hc) fun hc c5=>?_
 refine ao (b2 hc) fun hc c4=>?_
 refine ao (b2 hc) fun hc c3=>?_
 refine ao (b2 hc) fun c1 c2=>?_
 have c5:=of_decide_eq_true c5
 have c6:=of_decide_eq_true c6
 refine Internal.sp (congrArg some e7) (wpAny_Assign_Subscript (zM (h3 env A E s g.σ p T.pre e1) fun w aa ai=>?_) (hs env))
 obtain⟨k₁,ns,aG,_⟩:=ai
 have aO:=T.kg k₁
 obtain⟨v,cw,rv⟩:=aO.rd x i _ hx hl
 refine Ma (Bp (yP aO.kind cw ?_ hn) jJ)
 refine zM (h1 env A E aa g.σ _ aO.pre e3) fun u s₂ aj=>?_
 obtain⟨k₂,ms,bt,_⟩:=aj
 refine aD bt.inv fun t aH _=>?_
 subst aH
 have ay:=aO.kg k₂
 have KD:=(ay.deep i hi).1
 refine jD ((rv.sub (wC k₂)).inv) fun q vs lY bX bg lX hN=>?_
 subst lX
 rw[hN]at KD
 obtain⟨w',n,f1,f2,f3,f4⟩:=bg.JZ (C9.mp KD).2 hm
 refine uq bX.isList.typeIs I2 ?_ ⟨_,gY _ _⟩
 refine wpAny_getItem_list bX.isList (of_decide_eq_true c2) (Mq (of_decide_eq_true c3) (E4 (Er.mpr (of_decide_eq_true c4)) (by decide))) (by rw[Dm];exact f1) ?_
 obtain⟨b',us,rfl,rfl,g1,g2⟩:=f2.row c8
 have YD:b'∈N i:=hN▸Ad _ (f3 b' (Bn _))
 refine zM (h2 env A E s₂ g.σ _ ay.pre e4) fun u av aE=>?_
 obtain⟨bZ,ms,KH,_⟩:=aE
 refine aD KH.inv fun t' aH _=>?_
 subst aH
 refine aK (g1.at fun o e=>wC bZ _ o e) fun nb ho=>?_
 refine ki_setAt ho c5 (Mq c6 (E4 (Er.mpr (of_decide_eq_true c7)) (by decide))) (by(refine af A5 ?_;refine af g2.length ?_);exact c6) ?_
 have gb:=Hb ho (fun xs=>xs.setIfInBounds b.toNat w)
 rw[Jg]at gb
 have eV:Ci b' av.heap (av.heap.update b' (Mf fun xs=>xs.setIfInBounds b.toNat w)):=(Ep ..).extBut
 refine aD ((g2.on fun _ h=>(Ar h).elim:aq (av.heap.update b' (Mf fun xs=>xs.setIfInBounds b.toNat w)) m us []).setAt b.toNat (aG.bO c1)) fun r' d1 d2=>?_
 have d1:=KC d2▸d1
 refine⟨rfl,N,F,(ay.kg bZ).KA (tk:=av.toks) hx hi ht YD ((cw.sub (wC k₂)).sub (wC bZ)) eV ?_ (by refine af T.len ?_;exact T.fF.lt x i hx)⟩
 refine af hN ?_
 exact .list (bX.at fun o e=>eV _ o (fun z=>(C9.mp KD).1 (z▸f3 b' (Bn _))) (wC bZ _ o e)) (f4 _ _ (fun x o hx e=>eV x o (fun z=>hx (z▸Bn _)) (wC bZ x o e)) (.list ⟨_,gb⟩ d1))
end
set_option genSizeOf false
set_option genInjectivity false
theorem YE{env:Ea}{x y a1 a2:Str}{px py tp q1 q2 p2:B7}{k k2:Nat}(hk:env.scope.kind= .function)(hx:env.kindOf x=some .local)(hy:env.kindOf y=some .local)(hl:(py.line==px.line)=true)(cN:(y==x)=false)(hb:bad a1=false):
  swappedStores [.Tuple [.Name x px, .Name y py] k tp] (.Tuple [.Name a1 q1, .Name a2 q2] k2 p2) env=pure (some [x,y]):=by
 have di:env.blockKind= .function:=by unfold Env.blockKind;rw[hk];rfl
 have KI:=wW hb
 have fg:py.line=px.line:=by exact eq_of_beq hl
 have xb:y≠x:=by simpa using cN
 unfold swappedStores
 have f1:foldedForSure 8 (.Name a1 q1)=false:=rfl
 have c1:constantsAlone 8 (.Name a1 q1)=false:=KI
 have ep:∀x p,(Expr.Name x p).pos=p:=fun _ _=>rfl
 dsimp only[List.any,List.filterMap,B1,List.head?]
 simp[di,hx,hy,fg,ep,f1,c1,List.eraseDups_cons,xb,H0 xb]
section
variable{X:Ctx}{tv dv:List Nat}
theorem yL.swap{x y a1 a2:Str}{i j:Nat}{px py tp q1 q2 p2 oF:B7}{k k2:Nat}{pa pb:PE}(hx:X.C.Γ.lookup x=some i)(hy:X.C.Γ.lookup y=some j)(ku:X.C.kn.lookup x=some .local)(YF:X.C.kn.lookup y=some .local)
  (hl:(py.line==px.line)=true) (cN:(y==x)=false) (hb:bad a1=false) (h1:ax X.W X.C (.Name a1 q1) pa) (h2:ax X.W X.C (.Name a2 q2) pb):
  yL X tv dv (.Assign [.Tuple [.Name x px, .Name y py] k tp] (.Tuple [.Name a1 q1, .Name a2 q2] k2 p2) oF) (QG i j X.W.U pa pb):=fun K env A E s₀ g N F s g' fl T e=>by
 refine oB e fun p e1 e=>?_
 refine oB e fun q e2 e=>?_
 refine oI e fun kv e=>?_
 refine ao (b2 kv) fun ip iq=>?_
 have kk:∀z,X.C.kn.lookup z=some .local->env.kindOf z=some .local:=fun z e=>by unfold Be;rw[T.names];exact e
 refine Internal.sp e (Assign_Tuple_swapped (names:=[x,y]) ?_ rfl (YE T.kind (kk x ku) (kk y YF) hl cN hb))
 refine wpAny_Tuple ?_
 refine Bi (zM (h1 env A E s g.σ p T.pre e1) fun v aa ai=>?_)
 obtain⟨k₁,ns,aG,_⟩:=ai
 refine Bi (zM (h2 env A E aa g.σ q (T.kg k₁).pre e2) fun u s₂ aj=>?_)
 obtain⟨k₂,ms,bt,_⟩:=aj
 refine B4 ⟨by rw[Bt];refine(?_:2<=16777216);decide,?_⟩
 have ay:=((T.kg k₁).kg k₂).kg (rm s₂ {cls:= .type "tuple",data:= .seq [v,u].toArray} s₂.toks)
 refine unpackItems_tuple (items:=[v,u].toArray) T.room.hh ⟨_,A0 _ rfl,rfl,_,rfl⟩ fun h' he=>?_
 have aT:=ay.kg (jE _ h' s₂.toks fun b o e=>he b o (Bu (Bo e)) e)
 refine E8 (wpAny_bindName (zM (aT.store hy (bt.bO iq) (ey.nil (own:=true)) (.inl rfl)) fun _ dh dA=>?_))
 refine E8 (wpAny_bindName (zM (dA.store hx (aG.bO ip) (ey.nil (own:=true)) (.inl rfl)) fun _ s₆ dS=>?_))
 exact Jq ⟨rfl,_,_,dS⟩
end
mutual
inductive PS where
 |assign (i:Nat) (e:PE)
 |dc (i j:Nat) (e:PE)
 |swap (i j:Nat) (a b:PE)
 |aug (op:Il) (i:Nat) (e:PE)
 |append (i:Nat) (e:PE)
 |bV (i j:Nat) (e:PE)
 |qo (i j:Nat)
 |set (i:Nat) (a b:PE)
 |fv (i:Nat) (a b c:PE)
 |ifs (c:PT) (a b:dD)
 |qp (c:PT) (b:dD)
 |forR (i:Nat) (e:PE) (b:dD)
 |rV (i:Nat) (e:PE) (b:dD)
 |kB (i j:Nat) (b:dD)
 |ret (e:PE)
 |brk
 |cont
 |pass
inductive dD where
 |nil
 |cons (s:PS) (r:dD)
end
noncomputable def KJ(U:Uc)(pe:PE):dN:=fun g=>(ev U pe g.σ).bind fun p=>if p.bo then some (g,p)else none
mutual
noncomputable def den(U:Uc):PS->Den
 | .assign i e=>wQ i (fm U e)
 | .dc i j e=>QF i j (KJ U e)
 | .swap i j a b=>QG i j U a b
 | .aug op i e=>ou U op i e
 | .append i e=>QR i U e
 | .bV i j e=>QS i j U e
 | .qo i j=>wQ i (rK j)
 | .set i a b=>QT i U a b
 | .fv i a b c=>QV i U a b c
 | .ifs c a b=>CM U c (yN U a) (yN U b)
 | .qp c b=>rO U c (yN U b) 64
 | .forR i e b=>nE (fun g=>gz U (.cv e) g.σ) [i] (yN U b)
 | .rV i e b=>nE (fun g=>(ev U e g.σ).bind fun p=>if fresh e p then j9 p else none) [i] (yN U b)
 | .kB i j b=>nE (fun g=>((g.σ[j]?).bind id).bind j9) [i] (yN U b)
 | .ret e=>v7 (fm U e)
 | .brk=>fun g=>some (g, .brk)
 | .cont=>fun g=>some (g, .cont)
 | .pass=>aA
noncomputable def yN(U:Uc):dD->Den
 | .nil=>aA
 | .cons s r=>yT (den U s) (yN U r)
end
section
variable{tab:Tab}
noncomputable abbrev YG(tab:Tab)(C:Cx)(tv dv:List Nat)(st:Stmt):={p:PS//∀X:Ctx,X.C=C->cR X.W tab->yL X tv dv st (den X.W.U p)}
noncomputable abbrev RS(tab:Tab)(C:Cx)(tv dv:List Nat)(st:Stmt):=Option (YG tab C tv dv st)
noncomputable abbrev RB(tab:Tab)(C:Cx)(tv dv:List Nat)(b:List Stmt):=Option {p:dD//∀X:Ctx,X.C=C->cR X.W tab->yU X tv dv tv dv b (yN X.W.U p)}
theorem KL{C:Cx}(h:C.kn.all (fun y=>y.2 != .free)=true)(x:Str):C.kn.lookup x≠some .free:=fun e=>by
 have:=Al.mp h _ (yO e)
 simp at this
theorem oG{i:Nat}{l:List Nat}(h:l.contains i=false):i∉l:=by simpa using h
theorem mi(l:List Nat):jh l l=true:=by unfold jh;simp
noncomputable def KN{C:Cx}{tv dv:List Nat}(f:∀st,RS tab C tv dv st):∀b:List Stmt,RB tab C tv dv b
 |[]=>some ⟨.nil,fun _ _ _=>yU.nil (mi _) (mi _)⟩
 |st::r=>(f st).bind fun a=>(KN f r).bind fun q=>some ⟨.cons a.1 q.1,fun X hX ok=>yU.cons (a.2 X hX ok) (q.2 X hX ok) (mi _) (mi _) (mi _) (mi _)⟩
noncomputable def YH(R:fu tab)(C:Cx)(tv dv:List Nat)(x:Str)(px:B7)(value:Expr)(pos:B7):RS tab C tv dv (.Assign [.Name x px] value pos):=
 gX (C.Γ.lookup x) fun i hx=>alt
  (bK (JW value=true) fun hc=>(R C value).bind fun a=>some ⟨.assign i a.1,fun X hX ok=>by subst hX;exact yL.assign hx (.inl rfl) (dO.pure (a.2 X.W ok)) fun env _=>JX hc _ _ env⟩)
  (sG value none fun elt target iter ifs scope cp=>alt
   (bK (C.kn.lookup x=some .cell) fun hk=>(R C (.ListComp elt [⟨target,iter,ifs,0⟩] scope cp)).bind fun a=>some ⟨.assign i a.1,fun X hX ok=>by subst hX;exact yL.assign hx (.inl rfl) (dO.pure (a.2 X.W ok)) fun env hn=>Rf (by unfold Be;rw[hn];exact hk)⟩)
   (bK (C.kn.lookup x=some .local/\C.kn.all (fun y=>y.2 != .free)=true) fun pV=>(Rc R C target iter).bind fun S=>bK (qb C scope S.xs=true/\w0 iter=true/\(px.line==cp.line)=true/\(scope.names.any fun y=>y.1==x&&(y.2== .local||y.2== .cell))=false) fun hc=>(R (C.fj scope S.xs) elt).bind fun a=>(cI R (C.fj scope S.xs) ifs).bind fun t=>some ⟨.assign i (.comp a.1 S.src t.1),fun X hX ok=>by
    subst hX
    exact yL.kA hx pV.1 hc.2.2.1 hc.2.2.2 hc.1 (S.ok X.W ok) (a.2 X.W ok) (t.2 X.W ok) (fun env x=>mh hc.2.1 env x) (KL pV.2)⟩))
noncomputable def YI(C:Cx)(tv dv:List Nat)(x y m:Str)(px py ap cp pos:B7):RS tab C tv dv (.Assign [.Name x px] (.Call (.Attribute (.Name y py) m ap) [] [] cp) pos):=
 bK (m=("pop" :Str)) fun hm=>gX (C.Γ.lookup x) fun i hx=>gX (C.Γ.lookup y) fun j hy=>bK (tv.contains i=false/\dv.contains i=false/\tv.contains j=true/\dv.contains j=false/\bad y=false/\(ap.endLine==cp.line)=true) fun hc=>
   some ⟨.qo i j,fun X hX ok=>by
    subst hX hm
    exact yL.assign hx (.inr ⟨oG hc.1,oG hc.2.1⟩) (dO.pop hy (Dn.mp hc.2.2.1) (oG hc.2.2.2.1) (cU hc.2.2.2.2.1) (wW hc.2.2.2.2.1) hc.2.2.2.2.2 fun env=>wU rfl _ env _) fun env _=>rfl⟩
theorem KO{C:Cx}{tv dv:List Nat}{x:Str}{px:B7}{i:Nat}{iter:Expr}{body:List Stmt}{pos:B7}{X:Ctx}{f:Sg->Option (List (List PV))}{b:Den}(hC:X.C=C)(hx:C.Γ.lookup x=some i)(hi:tv.contains i=false/\dv.contains i=false)(hn:C.kn.all (fun y=>y.2 != .free)=true)
  (h:iT X tv dv (.Name x px) [x] iter f) (hb:yU X tv dv tv dv body b) (hf:w0 iter=true):yL X tv dv (.For (.Name x px) iter body [] pos) (nE f [i] b):=by
 subst hC
 exact yL.oC h (.cons hx .nil) (fun k hk=>by rw[Af.mp hk];exact⟨oG hi.1,oG hi.2⟩) hb (fun env x=>mh hf env x) (KL hn)
noncomputable def YJ(R:fu tab)(C:Cx)(tv dv:List Nat)(x:Str)(px:B7)(i:Nat)(body:List Stmt)(pos:B7)(hx:C.Γ.lookup x=some i)(hi:tv.contains i=false/\dv.contains i=false)(hn:C.kn.all (fun y=>y.2 != .free)=true)
  (b:{p:dD//∀X:Ctx,X.C=C->cR X.W tab->yU X tv dv tv dv body (yN X.W.U p)}) (iter:Expr):RS tab C tv dv (.For (.Name x px) iter body [] pos):=alt
 (sC iter none fun f as cp=>sN f none fun xr pr=>ky as none fun a=>
  uy (tab:=tab) C xr "range" fun hr hk ht=>bK (wM a=true) fun hs=>(R C a).bind fun e=>some ⟨.forR i e.1 b.1,fun X hX ok=>KO hX hx hi hn (iT.cv (by subst hX;exact e.2 X.W ok) hr (by subst hX;exact hk) (ht X.W ok).1 (ht X.W ok).2 fun env=>zI hs [] env) (b.2 X hX ok) rfl⟩) (alt
 (sN iter none fun y py=>gX (C.Γ.lookup y) fun j hy=>bK (tv.contains j=false/\dv.contains j=false/\bad y=false) fun hc=>
  some ⟨.kB i j b.1,fun X hX ok=>KO hX hx hi hn (iT.name (hX▸hy) hc.1 hc.2.1 (cU hc.2.2) (wW hc.2.2)) (b.2 X hX ok) rfl⟩)
 (bK (w0 iter=true) fun hf=>(R C iter).bind fun e=>some ⟨.rV i e.1 b.1,fun X hX ok=>KO hX hx hi hn (iT.items (by subst hX;exact e.2 X.W ok)) (b.2 X hX ok) hf⟩))
end
set_option genInjectivity true
section
variable{tab:Tab}
noncomputable def YK(R:fu tab)(C:Cx)(tv dv:List Nat)(x m:Str)(px ap:B7)(pos ji:B7)(arg:Expr):RS tab C tv dv (.Expr (.Call (.Attribute (.Name x px) m ap) [arg] [] pos) ji):=
 bK (m=("append" :Str)) fun hm=>gX (C.Γ.lookup x) fun i hx=>bK (tv.contains i=true/\dv.contains i=false/\bad x=false/\(ap.endLine==pos.line)=true) fun hc=>alt
  (sB arg none fun l op e2 bp=>CR op .Add none<|
   sC l none fun f as kx=>qj as none<|
   sA f none fun o m2 dY=>sN o none fun y py=>
   bK (m2=("pop" :Str)) fun KP=>gX (C.Γ.lookup y) fun j hy=>bK ((tv.contains j=true/\dv.contains j=false/\bad y=false/\(dY.endLine==kx.line)=true)/\(i==j)=false) fun hd=>(R C e2).bind fun a=>some ⟨.bV i j a.1,fun X hX ok=>by
    subst hX hm KP
    exact yL.bV hx hc.1 hc.2.1 hy hd.1.1 hd.1.2.1 hd.2 (cU hc.2.2.1) (wW hc.2.2.1) (cU hd.1.2.2.1) (wW hd.1.2.2.1) hc.2.2.2 (fun env=>wU rfl _ env _) hd.1.2.2.2 (fun env=>wU rfl _ env _) (fun env=>zI rfl [] env) (a.2 X.W ok)⟩)
  (bK (wM arg=true) fun hs=>(R C arg).bind fun a=>some ⟨.append i a.1,fun X hX ok=>by
   subst hX hm
   exact yL.append hx hc.1 hc.2.1 (cU hc.2.2.1) (wW hc.2.2.1) hc.2.2.2 (fun env=>wU rfl _ env _) (fun env=>zI hs [] env) (a.2 X.W ok)⟩)
noncomputable def YL(R:fu tab)(C:Cx)(tv dv:List Nat)(x:Str)(px:B7)(value:Expr)(pos:B7):RS tab C tv dv (.Assign [.Name x px] value pos):=alt
 (YH R C tv dv x px value pos)
 (sC value none fun f as cp=>qj as none<|sA f none fun o m ap=>sN o none fun y py=>
  YI (tab:=tab) C tv dv x y m px py ap cp pos)
noncomputable def YM(R:fu tab)(C:Cx)(tv dv:List Nat)(t1 t2 value:Expr)(pos:B7):RS tab C tv dv (.Assign [t1,t2] value pos):=
 sN t1 none fun x px=>sN t2 none fun y py=>
  gX (C.Γ.lookup x) fun i hx=>gX (C.Γ.lookup y) fun j hy=>(R C value).bind fun a=>bK (tv.contains i=false/\dv.contains i=false/\tv.contains j=false/\dv.contains j=false) fun hc=>some ⟨.dc i j a.1,fun X hX ok=>by
   subst hX
   exact yL.dc hx hy ⟨oG hc.1,oG hc.2.1⟩ ⟨oG hc.2.2.1,oG hc.2.2.2⟩ (a.2 X.W ok)⟩
noncomputable def YN(R:fu tab)(C:Cx)(tv dv:List Nat)(es:List Expr)(k:Nat)(tp:B7)(value:Expr)(pos:B7):RS tab C tv dv (.Assign [.Tuple es k tp] value pos):=
 qm es none fun t1 t2=>sN t1 none fun x px=>sN t2 none fun y py=>
 sT value none fun vs k2 p2=>qm vs none fun v1 v2=>
 sN v1 none fun a1 q1=>sN v2 none fun a2 q2=>
  gX (C.Γ.lookup x) fun i hx=>gX (C.Γ.lookup y) fun j hy=>(R C (.Name a1 q1)).bind fun a=>(R C (.Name a2 q2)).bind fun b=>bK (C.kn.lookup x=some .local/\C.kn.lookup y=some .local/\(py.line==px.line)=true/\(y==x)=false/\bad a1=false) fun hc=>some ⟨.swap i j a.1 b.1,fun X hX ok=>by
   subst hX
   exact yL.swap hx hy hc.1 hc.2.1 hc.2.2.1 hc.2.2.2.1 hc.2.2.2.2 (a.2 X.W ok) (b.2 X.W ok)⟩
noncomputable def YO(R:fu tab)(C:Cx)(tv dv:List Nat)(t ie:Expr)(sp:B7)(value:Expr)(pos:B7):RS tab C tv dv (.Assign [.Subscript t ie sp] value pos):=bK (JW value=true) fun hv=>alt
 (sN t none fun x px=>gX (C.Γ.lookup x) fun i hx=>bK (tv.contains i=true/\dv.contains i=false/\bad x=false) fun hc=>(R C ie).bind fun a=>(R C value).bind fun b=>some ⟨.set i a.1 b.1,fun X hX ok=>by
  subst hX
  exact yL.setItem hx hc.1 hc.2.1 (cU hc.2.2) (wW hc.2.2) (fun env=>JX hv _ _ env) (a.2 X.W ok) (b.2 X.W ok)⟩)
 (sS t none fun o i1 sp1=>sN o none fun x px=>gX (C.Γ.lookup x) fun i hx=>bK (dv.contains i=true/\tv.contains i=false/\bad x=false/\JV i1=false) fun hc=>(R C i1).bind fun a=>(R C ie).bind fun b=>(R C value).bind fun c=>some ⟨.fv i a.1 b.1 c.1,fun X hX ok=>by
  subst hX
  exact yL.fv hx hc.1 hc.2.1 (cU hc.2.2.1) (wW hc.2.2.1) (fun env=>JX hv _ _ env) (fun o v=>Rd hc.2.2.2 o v) (a.2 X.W ok) (b.2 X.W ok) (c.2 X.W ok)⟩)
noncomputable def YP(R:fu tab)(C:Cx)(tv dv:List Nat)(CW:∀b,RB tab C tv dv b)(st:Stmt):RS tab C tv dv st:=
 alt (bK (st.ctorIdx=5) fun h=>Mx (motive_2:=RS tab C tv dv) st h fun ts value pos=>alt
  (ky ts none fun t=>alt
   (sN t none fun x px=>YL R C tv dv x px value pos) (alt
   (sT t none fun es k tp=>YN R C tv dv es k tp value pos)
   (sS t none fun t ie sp=>YO R C tv dv t ie sp value pos)))
  (qm ts none fun t1 t2=>YM R C tv dv t1 t2 value pos))
 (alt (bK (st.ctorIdx=7) fun h=>Stmt.AugAssign.elim (motive_2:=RS tab C tv dv) st h fun t op value pos=>sN t none fun x px=>gX (C.Γ.lookup x) fun i hx=>bK (bad x=false) fun hb=>(R C value).bind fun a=>some ⟨.aug op i a.1,fun X hX ok=>by subst hX;exact yL.aug hx (a.2 X.W ok) (cU hb)⟩)
 (alt (bK (st.ctorIdx=24) fun h=>Stmt.Expr.elim (motive_2:=RS tab C tv dv) st h fun e ji=>sC e none fun f as pos=>ky as none fun arg=>sA f none fun o m ap=>sN o none fun x px=>YK R C tv dv x m px ap pos ji arg)
 (alt (bK (st.ctorIdx=12) fun h=>Stmt.If.elim (motive_2:=RS tab C tv dv) st h fun test body orelse pos=>(cT R C 5 test).bind fun t=>(CW body).bind fun a=>(CW orelse).bind fun b=>some ⟨.ifs t.1 a.1 b.1,fun X hX ok=>yL.QK (hX▸t.2 X.W ok) (a.2 X hX ok) (b.2 X hX ok)⟩)
 (alt (bK (st.ctorIdx=11) fun h=>Stmt.While.elim (motive_2:=RS tab C tv dv) st h fun test body KQ pos=>qj KQ none ((cT R C 5 test).bind fun t=>(CW body).bind fun a=>some ⟨.qp t.1 a.1,fun X hX ok=>yL.rP 64 (hX▸t.2 X.W ok) (a.2 X hX ok)⟩))
 (alt (bK (st.ctorIdx=9) fun h=>Stmt.For.elim (motive_2:=RS tab C tv dv) st h fun t iter body KQ pos=>qj KQ none (sN t none fun x px=>gX (C.Γ.lookup x) fun i hx=>(CW body).bind fun b=>bK ((tv.contains i=false/\dv.contains i=false)/\C.kn.all (fun y=>y.2 != .free)=true) fun hc=>YJ R C tv dv x px i body pos hx hc.1 hc.2 b iter))
 (alt (bK (st.ctorIdx=3) fun h=>Stmt.Return.elim (motive_2:=RS tab C tv dv) st h fun o pos=>match o with
  |some e=>(R C e).bind fun a=>some ⟨.ret a.1,fun X hX ok=>by subst hX;exact yL.ret (dO.pure (a.2 X.W ok))⟩
  |none=>none)
 (alt (bK (st.ctorIdx=26) fun h=>Stmt.Break.elim (motive_2:=RS tab C tv dv) st h fun pos=>some ⟨.brk,fun X _ _=>yL.brk⟩)
 (alt (bK (st.ctorIdx=27) fun h=>Stmt.Continue.elim (motive_2:=RS tab C tv dv) st h fun pos=>some ⟨.cont,fun X _ _=>yL.cont⟩)
 (bK (st.ctorIdx=25) fun h=>Stmt.Pass.elim (motive_2:=RS tab C tv dv) st h fun pos=>some ⟨.pass,fun X _ _=>yL.pass⟩)))))))))
noncomputable def cS(R:fu tab)(C:Cx)(tv dv:List Nat):Nat->∀st:Stmt,RS tab C tv dv st
 |0=>fun _=>none
 |n+1=>YP R C tv dv (KN (cS R C tv dv n))
noncomputable def cB(C:Cx)(tv dv:List Nat)(b:List Stmt):RB tab C tv dv b:=KN (cS (cE 24) C tv dv 12) b
noncomputable def Rk(C:Cx)(dv tv':List Nat):∀(b:List Stmt) (l:List (List Nat)) (tv:List Nat),Option {p:dD//∀X:Ctx,X.C=C->cR X.W tab->yU X tv dv tv' dv b (yN X.W.U p)}
 |[],_,tv=>bK (jh tv' tv=true) fun h=>some ⟨.nil,fun _ _ _=>yU.nil h (mi _)⟩
 |st::r,l,tv=>(cS (cE 24) C tv dv 12 st).bind fun a=>(Rk C dv tv' r l.tail (l.headD [])).bind fun q=>bK (jh (l.headD []) tv=true/\jh tv' tv=true) fun h=>some ⟨.cons a.1 q.1,fun X hX ok=>yU.cons (a.2 X hX ok) (q.2 X hX ok) h.1 (mi _) h.2 (mi _)⟩
theorem xd{α:Type}{P:α->Prop}{d q:α}{r:Option {p//P p}}(h:r.isSome=true)(e:r.elim d (·.1)=q):P q:=by
 cases r with
 |none=>exact ft h
 |some x=>exact e▸x.2
theorem yU.weak{X:Ctx}{tv dv tv' dv':List Nat}{b:List Stmt}{f:Den}(h:yU X tv dv tv dv b f)(m1:jh tv' tv=true)(m2:jh dv' dv=true):yU X tv dv tv' dv' b f:=fun K env A E s₀ g N F s g' fl T e=>
 zM (h K env A E s₀ g N F s g' fl T e) fun fw s' ⟨h1,N',F',T'⟩=>⟨h1,N',F',T'.mono (qd m1) (qd m2)⟩
end
noncomputable def xf(p:Program)(i:Nat):Option Stmt:=p.main.body[i]?
noncomputable def qq{α:Type}(o:Option Stmt)(d:α)(k:Str->Arguments->List Stmt->Scope->α):α:=(o.bind fun st=>bK (st.ctorIdx=0) fun h=>Stmt.FunctionDef.elim (motive_2:=fun _=>Option α) st h fun n a b _ _ _ s _ _ _=>some (k n a b s)).getD d
noncomputable def xZ(p:Program)(i:Nat):List Stmt:=qq (xf p i) [] fun _ _ b _=>b
noncomputable def mj(p:Program)(i:Nat):Scope:=qq (xf p i) default fun _ _ _ s=>s
noncomputable def CX(p:Program)(i:Nat):Arguments:=qq (xf p i) ⟨[],[],none,[],[],none,[]⟩ fun _ a _ _=>a
noncomputable def CY(p:Program)(i:Nat):Str:=qq (xf p i) "" fun n _ _ _=>n
noncomputable def Rl(p:Program)(i:Nat):List Str:=(CX p i).args.map (·.arg)
noncomputable def Rm(env:Ea)(K:Mp->Le Fin)(H:Value->Le Fin)(gd:Bool->Bool)(lv:List Value->List Value):Ez->Le Fin:=fun r=>((match r with| .ok f=>(.pure f:Le Mp)| .error e=> .raise e).onRaise fun(x:Value)=>do
    if(<-field x 1)==Ii then unsupported "frame.own-activation:exception-without-traceback"
    setFlight x env.frame).wrap K H gd lv
section
variable{M:M0}{A:Am}{R:GenEnd}{Y:Protocol}{n:Nat}{s₀:Ab}{c:Code}{fs:List Frame}{s:Ab}{env:Ea}{K:Mp->Le Fin}{H:Value->Le Fin}{gd:Bool->Bool}{lv:List Value->List Value}
theorem YQ{target iter:Expr}{body:List Stmt}{pos:B7}(hf:∀x,Ej iter env x=pure x)
  (h:An M (A.over c fs) (eval iter env) (fun x aa=>An M (A.over c fs) (Jf x) (fun it s₂=>∀p,Mw M A R Y n s₀ (.forLoop target it body [] env) (M.den (.forLoop target it body [] env))
   (.ret (Rm env K H gd lv) none (gd false) (lv []) c p []::fs) s₂) (fun x s'=>Mw M A R Y n s₀ c (H x) fs s') aa) (fun x s'=>Mw M A R Y n s₀ c (H x) fs s') s):
  Mw M A R Y n s₀ c ((exec (.For target iter body [] pos) env).wrap K H gd lv) fs s:=by
 rw[exec_For]
 refine D2 (D1 ?_)
 refine D2 (B2 h (fun x aa ai=>?_) fun _ _ e=>e)
 refine D2 (B5 (hf x) ?_)
 refine D2 (D1 ?_)
 refine D2 (E2 (B2 ai (fun it s₂ aj=>?_) fun _ _ e=>e))
 exact seg_call aj
theorem KR{test:Expr}{body orelse:List Stmt}{pos:B7}
  (h:An M (A.over c fs) (L7 test env (eval test env)) (fun b s'=>if b=true then Mw M A R Y n s₀ c ((G3 body env).wrap K H gd lv) fs s' else Mw M A R Y n s₀ c ((G3 orelse env).wrap K H gd lv) fs s') (fun x s'=>Mw M A R Y n s₀ c (H x) fs s') s):
  Mw M A R Y n s₀ c ((exec (.If test body orelse pos) env).wrap K H gd lv) fs s:=by
 rw[exec_If]
 refine D2 (D1 ?_)
 refine D2 (B2 h (fun b aa ai=>?_) fun _ _ e=>e)
 cases b with
 |true=>exact ai
 |false=>exact ai
end
section
variable{prog:Program}{w:Cn}{A:Am}{R:GenEnd}{Y:Protocol}{n:Nat}{s₀:Ab}{fs:List Frame}{s:Ab}{env:Ea}
noncomputable def Rn(c:Code):Mp->Le Fin
 | .next=> .pure (.again c)
 | .cont=> .pure (.again c)
 | .brk=> .pure (.done .next)
 | .ret v=> .pure (.done (.ret v))
noncomputable def CZ(env:Ea):Value->Le Fin:=fun e=>(do Lr e env;Hl e:Le Unit).bind fun _=> .raise e
theorem Ro{target:Expr}{I:Addr}{body:List Stmt}
  (h:An (Aj prog w) (A.over (.forLoop target (.ref I) body [] env) fs) (Iv (.ref I)) (fun r aa=>
    (r=none/\Mw (Aj prog w) A R Y n s₀ (.block [] env) ((Aj prog w).den (.block [] env)) fs aa)\/
    ry prog w (A.over (.forLoop target (.ref I) body [] env) fs) target I env (fun x s'=>Mw (Aj prog w) A R Y n s₀ (.forLoop target (.ref I) body [] env) (CZ env x) fs s') (fun s₂=>
     Mw (Aj prog w) A R Y n s₀ (.forLoop target (.ref I) body [] env) ((G3 body env).wrap (Rn (.forLoop target (.ref I) body [] env)) (CZ env) id id) fs s₂) r aa)
   (fun x s'=>Mw (Aj prog w) A R Y n s₀ (.forLoop target (.ref I) body [] env) (CZ env x) fs s') s):
  Mw (Aj prog w) A R Y n s₀ (.forLoop target (.ref I) body [] env) ((Aj prog w).den (.forLoop target (.ref I) body [] env)) fs s:=by
 refine(?_:Mw _ A R Y n s₀ _ ((forTurn target (.ref I) body [] env).onRaise (fun x=>do Lr x env;Hl x)) fs s)
 refine af (Sem.onRaise_eq_wrap ..) ?_
 refine D2 (D1 ?_)
 refine D2 (L5 (B2 h (fun r aa ai=>?_) fun _ _ e=>D1 e))
 rcases ai with⟨rfl,ai⟩|⟨v,rfl,ai⟩
 ·exact seg_again rfl ai
 ·refine D2 (B2 ai (fun _ pW fh=>?_) fun _ _ h'=>h')
  refine D2 (B2 fh (fun _ s₂ aj=>?_) fun _ _ h'=>h')
  refine af (Sem.bind_eq_wrap' ..) ?_
  refine af (Sem.wrap_wrap ..) ?_
  rw[Sem.wrap_congr (G3 body env) _ _ (K':=Rn (.forLoop target (.ref I) body [] env)) (H':=CZ env) (fun f=>by cases f<;>rfl) (fun e=>by rfl)]
  exact aj
theorem YR(h:Mw (Aj prog w) A R Y n s₀ (.block [] env) (.pure (.done .next)) fs s):Mw (Aj prog w) A R Y n s₀ (.block [] env) ((Aj prog w).den (.block [] env)) fs s:=by
 refine(?_:Mw _ A R Y n s₀ _ (do return Fin.done (<-(G3 [] env).onRaise (fun x=>do Lr x env;Hl x))) fs s)
 exact h
end
section
variable{X:Ctx}{tv dv:List Nat}
theorem KS{A:Am}{R:GenEnd}{Y:Protocol}{n:Nat}{eM:Ab}{c:Code}{fs:List Frame}{s s₀:Ab}{env:Ea}{K:Mp->Le Fin}{H:Value->Le Fin}{gd:Bool->Bool}{lv:List Value->List Value}{st:Stmt}{rest:List Stmt}{f:Den}{KK:Addr->Option Obj}{g g':Sg}{N:Nat->List Addr}{F:List Addr}
  (hs:yL X tv dv st f) (T:aw X tv dv KK env (A.over c fs) s₀ g N F s) (hd:f g=some (g', .next))
  (h:∀N' F' s',aw X tv dv KK env (A.over c fs) s₀ g' N' F' s'->Mw (Aj X.W.prog X.W.w) A R Y n eM c ((G3 rest env).wrap K H gd lv) fs s'):
  Mw (Aj X.W.prog X.W.w) A R Y n eM c ((G3 (st::rest) env).wrap K H gd lv) fs s:=by
 refine Fb (seg_wrap (B2 (hs KK env (A.over c fs) (fun _ _=>False) s₀ g N F s g' .next T hd) (fun fw s' h'=>?_) fun _ _ e=>e.elim))
 obtain⟨rfl,N',F',T'⟩:=h'
 exact h N' F' s' T'
theorem Rp{A:Am}{R:GenEnd}{Y:Protocol}{n:Nat}{eM:Ab}{c:Code}{fs:List Frame}{s s₀:Ab}{env:Ea}{K:Mp->Le Fin}{H:Value->Le Fin}{gd:Bool->Bool}{lv:List Value->List Value}{st:Stmt}{rest:List Stmt}{f:Den}{KK:Addr->Option Obj}{g g':Sg}{N:Nat->List Addr}{F fp:List Addr}
  (hs:yL X tv dv st f) (T:aw X tv dv KK env (A.over c fs) s₀ g N F s) (I:oz X tv dv env N F fp) (cZ:∀b∈fp,∃o,s.heap.get? b=some o) (hd:f g=some (g', .next))
  (h:∀N' F' s',aw X tv dv KK env (A.over c fs) s₀ g' N' F' s'->(∀b∈fp,∀o,s.heap.get? b=some o->s'.heap.get? b=some o)->Mw (Aj X.W.prog X.W.w) A R Y n eM c ((G3 rest env).wrap K H gd lv) fs s'):
  Mw (Aj X.W.prog X.W.w) A R Y n eM c ((G3 (st::rest) env).wrap K H gd lv) fs s:=by
 refine KS hs (T.freeze I) hd fun N' F' s' T'=>h N' F' s' (T'.eL (fun b o e=>?_) T.ei) fun b hb o e=>T'.kept b o (by rw[lz hb];exact e)
 by_cases hm:b∈fp
 ·rw[lz hm];exact T.kept b o e
 ·rw[jj hm];exact e
end
section
variable{prog:Program}{w:Cn}{A:Am}{E:Value->Ab->Prop}{s:Ab}
theorem Rq{a:Addr}{g n:Nat}{gs:Hu}{P:Nat->Ab->Ab->Prop}{Y:Protocol}{Q:Option Value->Ab->Prop}(hh:A.handled=none)
  (hl:s.heap.NoLimit) (aN:A.depth<recursionLimit)
  (hg:s.heap.IsGen a g) (rW:s.gens[g]?=some gs)
  (rX:gs.Goes (Aj prog w) A.in1 (fun n s₀ r aa=>r= .ok (.ret .none)/\P n s₀ aa) Y n (.send .none) (s.setGen g .running))
  (hY:∀v aa oH,oH.bare=true->Y (n-1) (s.setGen g .running) v aa (fun r' bC=>match n with
    |0=>False
    |m+1=>oH.Goes (Aj prog w) A.in1 (fun n s₀ r aa=>r= .ok (.ret .none)/\P n s₀ aa) Y m r' bC)->Q (some v) (aa.setGen g oH))
  (hP:∀aa,P n (s.setGen g .running) aa->∀h',(∀b o,aa.heap.get? b=some o->h'.get? b=some o)->Q none {aa.setGen g .finished with heap:=h'}):
  An (Aj prog w) A (Iv (.ref a)) Q E s:=by
 refine Ac (J0 (Hr (name:=Str.ofString "__next__") hg.typeIs slot_gen_next
  (Gg slot_gen_next hg.typeIs entry_gen_next ?_ (args_gen_next _))))
 refine(?_:An _ A.in1 (Builtin.Generator.genWake (.ref a) (.send .none)) _ _ s)
 refine Ac (E2 (wpAny_genNumber hg (Ac (wpAny_genState rW ?_))))
 cases gs with
 |running=>exact rX.elim
 |finished=>exact rX.elim
 |_=>
  refine Ac (wpAny_roomToWake hl aN ?_)
  refine(?_:An _ A.in1 (.resume g (.send .none) [] _) _ _ s)
  refine wpAny_resumeQ rW rX (fun x aa hx=>?_) (fun v aa oH hb hv=>?_)
  ·refine ao hx fun aI hp=>?_
   clear hx
   subst aI
   refine(?_:An _ A.in1 (newExc (.type "StopIteration") []>>=_) _ _ _)
   refine Ac ?_
   simp only[newExc,newTuple]
   refine Ac (Co ?_ (by size_fits))
   refine Ac (m:=Ji _ _) (B5 (a:=Ii) (by first|rfl|(simp only[Ji];rfl)) ?_)
   refine Co ?_ (by size_fits)
   simp only[raiseNew]
   refine Ac (Ac (wpAny_handled ?_))
   first|refine af (show A.in1.handled=none from hh) ?_|rw[hh]
   refine wpAny_throw ?_
   refine Ac (wpAny_isInstance (T:= "StopIteration") (b:=true) ⟨_,A0 _ rfl,rfl⟩ isSubtype_stop ?_)
   exact Aq (hP aa hp _ fun b o hb=>Ak _ (Ak _ hb))
  ·exact Aq ⟨v,rfl,Aq (hY v aa oH hb hv)⟩
end
noncomputable def dE:Nat->Bool->List Nat->Int->List (Int×List Nat)
 |_,e,[],p=>if e then [(p,[92])]else []
 |i,e,c::r,_=>if e then((i:Int),[92,c])::dE (i+1) false r i else if c==92 then dE (i+1) true r i else((i:Int),[c])::dE (i+1) false r i
noncomputable def wT(o:Obj):Bool:=match o.data with
 | .fields _=>true
 |_=>false
noncomputable def gI(L:Addr)(Ka:Addr->Option Obj)(h:As):Addr->Option Obj:=fun b=>if b=L then none else match Ka b with
 |some o=>some o
 |none=>match h.get? b with
  |some o=>if wT o then none else some o
  |none=>none
structure Sn(L:Addr)(Ka:Addr->Option Obj)(s₀ s:Ab):Prop where
 same:wJ s₀ s
 old:∀b o,b≠L->wT o=false->s₀.heap.get? b=some o->s.heap.get? b=some o
 ka:∀b o,Ka b=some o->s.heap.get? b=some o
noncomputable def mm(L:Addr)(Ka:Addr->Option Obj)(cW:List (Int×List Nat)):Protocol:=fun m s₀ v s Rt=>∃(x:Int×List Nat) (T:Addr) (t1 t2:J3) (fp:List Addr),cW.reverse[m]?=some x/\v= .ref T/\IsTup s.heap T #[.int x.1 t1, .str ⟨x.2.toArray⟩ t2]/\Sn L Ka s₀ s/\T∉fp/\(L∈fp/\∃mL,s.heap.Ns L mL)/\
 (∀b∈fp,Ka b=none/\∃o,s.heap.get? b=some o/\(b=L\/wT o=true))/\
 ∀bC:Ab,(∀b∈fp,∀o,s.heap.get? b=some o->bC.heap.get? b=some o)->(∀b o,Ka b=some o->bC.heap.get? b=some o)->Rt (.send .none) bC
noncomputable def oJ(L:Addr)(Ka:Addr->Option Obj):GenEnd:=fun n s₀ r aa=>r= .ok (.ret .none)/\(n=0/\Sn L Ka s₀ aa)
theorem Ru{α:Type}(pre:List α)(x:α)(t:List α):(pre++x::t).reverse[t.length]?=some x:=by
 rw[List.reverse_append,List.reverse_cons,Br,C6 (by simp)]
 simp
section
variable{X:Ctx}{L:Addr}{Ka:Addr->Option Obj}{env:Ea}{A:Am}{s₀ s:Ab}{g:Sg}{N:Nat->List Addr}{F:List Addr}
theorem aw.around{tv dv:List Nat}{K:Addr->Option Obj}{A':Am}(T:aw X tv dv K env A s₀ g N F s)(h:de X.W.D A'):aw X tv dv K env A' s₀ g N F s:={T with room:=h}
theorem aw.sn(T:aw X [] [] (gI L Ka s₀.heap) env A s₀ g N F s)(hL:Ka L=none)(h0:∀b o,Ka b=some o->s₀.heap.get? b=some o):Sn L Ka s₀ s where
 same:=T.same
 old:=fun b o hb hf e=>by
  cases q:Ka b with
  |some o'=>
   have h1:=T.kept b o' (by(refine ea hb ?_;exact af q rfl))
   rw[h0 b o' q]at e;obtain rfl:=Aa e;exact h1
  |none=>exact T.kept b o (by(refine ea hb ?_;(refine af q ?_;refine af e ?_));simp[hf])
 ka:=fun b o e=>T.kept b o (by(refine ea (fun q=>by rw[q,hL]at e;exact nn e) ?_;exact af e rfl))
theorem DA{h h':As}{p:PV}{v:Value}{ns:List Addr}(r:VR h p v ns)(hp:p.bo=true):VR h' p v []:=by
 cases r<;>first|constructor|exact ft hp
theorem aw.again{K K':Addr->Option Obj}{bC:Ab}{A':Am}(T:aw X [] [] K env A s₀ g N F s)(bY:g.β=none)(kv:∀(i:Nat) (p:PV),g.σ[i]?=some (some p)->p.bo=true)(gZ:∀x,X.C.kn.lookup x≠some .cell)
  (hk:∀o,s.heap.get? env.locals=some o->bC.heap.get? env.locals=some o) (hL:K' env.locals=none) (hK:∀b o,K' b=some o->bC.heap.get? b=some o)
  (wd:∀h:As,(∀b o,K' b=some o->h.get? b=some o)->X.W.Wd h) (hr:de X.W.D A'):aw X [] [] K' env A' bC g (fun _=> []) [] bC where
 fF:=T.fF
 kind:=T.kind
 names:=T.names
 gl:=T.gl
 bl:=T.bl
 room:=hr
 eI:=T.eI
 eE:=T.eE
 len:=T.len
 loc:=by obtain⟨m,h⟩:=T.loc;exact⟨m,h.at' hk⟩
 dy:=hL
 cls:=fun x c e _=>absurd e (gZ x)
 rd:=fun x i p e1 e2=>by
  obtain⟨v,a,r⟩:=T.rd x i p e1 e2
  refine⟨v,?_,DA r (kv i p e2)⟩
  have oE:=(T.fF.kd x i e1).resolve_right (gZ x)
  have ku:env.kindOf x=some .local:=by unfold Be;rw[T.names];exact oE
  rcases a with⟨hl,m,hn,hm⟩|⟨hl,_⟩
  ·exact .inl ⟨hl,m,hn.at' hk,hm⟩
  ·rw[ku]at hl;rcases hl with hl|hl<;>cases hl
 nd:=fun j a h=>nomatch h
 bQ:=fun i h=>nomatch h
 deep:=fun i h=>nomatch h
 kept:=hK
 ei:=wd
 same:= .refl _
 book:=fun v b e=>by rw[bY]at e;exact nn e
 foot:=fun a h=>nomatch h
end
section
variable{X:Ctx}{L:Addr}{Ka:Addr->Option Obj}{env:Ea}{A:Am}{s₀ s:Ab}{g:Sg}{N:Nat->List Addr}{F:List Addr}
theorem YS{prog:Program}{w:Cn}{x y:Str}{px py pt:B7}{kk:Nat}{l:List Nat}{t:J3}{e it:Addr}(cN:e≠it)(A:Am)(hh:A.handled=none):
  ef prog w A (.Tuple [.Name x px, .Name y py] kk pt) [x,y] e [e,it] [e,it] (j0 0 (l.map fun c=>PV.str [c])) (fun i h=>((∃old,IsEnum h e it i old)/\h.IsStrIter it (G2 ⟨l.toArray⟩) ⟨l.toArray⟩ t i)/\True):=by
 have hlen:(j0 0 (l.map fun c=>PV.str [c])).length=(⟨l.toArray⟩:Str).cps.size:=by simp[CK]
 have D:Draws prog w A.in1 it [it] (j0 0 (l.map fun c=>PV.str [c])).length (SignAt ⟨l.toArray⟩) (fun i h=>h.IsStrIter it (G2 ⟨l.toArray⟩) ⟨l.toArray⟩ t i):=by
  refine af hlen ?_
  unfold G2
  split
  ·exact Draws.strAscii (A:=A.in1) hh it ⟨l.toArray⟩ t
  ·exact Draws.strWide (A:=A.in1) hh it ⟨l.toArray⟩ t
 have Wk:=WalksT.enumerateD D e cN (by simpa using cN) (by exact Bn _)
 refine ef.i8 hh Wk (fun b hb=>hb) (fun _=>True) (fun _ _ _ _=>trivial) (fun i h st _ b hb=>?_) (fun i h st b hb items n e'=>?_) (fun i it us h h' e1 e2 _ _=>⟨trivial,?_⟩)
 ·obtain⟨⟨old,h1⟩,o,h2,_⟩:=st
  rcases Av.mp hb with rfl|hb
  ·exact bU _ h1
  ·refine af (Af.mp hb) ?_;exact⟨o,h2⟩
 ·obtain⟨⟨old,h1⟩,o,h2,h3,h4⟩:=st
  rcases Av.mp hb with rfl|hb
  ·rw[h1]at e';simp at e'
  ·rw[Af.mp hb,h2]at e'
   obtain rfl:=Aa e';simp at h4
 ·refine aD (IY e1) fun p e3 bL=>?_
  subst bL
  refine eu e2 fun tk v jG fX=>?_
  clear e2
  refine eu jG fun c u e4 fX=>?_
  clear jG
  subst fX
  subst fX
  rw[Ay]at e3
  refine aD (By.mp e3) fun c' e5 bL=>?_
  subst bL
  have:c=c':=by
   have e4:l.toArray[i]?=some c:=e4
   rw[Dm,e5]at e4;obtain rfl:=Aa e4;rfl
  subst this
  refine af (C0 ..) ?_
  exact WE _ _ ([]) rfl (.cons (n:=[]) (.int ..) (aq.one (.str [c] u))) (fun _ h=>nomatch h)
theorem KU{c:Code}{fs:List Frame}{K:Mp->Le Fin}{H:Value->Le Fin}{gd:Bool->Bool}{lv:List Value->List Value}{p v:Expr}{pp pv:PE}{k:Nat}{q yq ep:B7}{z:Int}{l:List Nat}{pre t cW:List (Int×List Nat)}{fp:List Addr}
  (hp:ax X.W X.C p pp) (hv:ax X.W X.C v pv) (rY:wM p=true) (YT:wM v=true) (T:aw X [] [] (gI L Ka s₀.heap) env (A.over c fs) s₀ g N F s) (hL:Ka L=none) (h0:∀b o,Ka b=some o->s₀.heap.get? b=some o)
  (e1:ev X.W.U pp g.σ=some (.int z)) (e2:ev X.W.U pv g.σ=some (.str l)) (dT:cW=pre++(z,l)::t) (rZ:splitAtGen fs=none) (KV:gd false=false) (DB:fs.any Frame.guarded=false) (ij:env.scope.isCoroutine=false)
  (ba:env.locals=L) (KW:L∈fp) (cZ:∀b∈fp,Ka b=none/\∃o,s.heap.get? b=some o/\(b=L\/wT o=true))
  (hn:∀s' bC:Ab,KG s s'->(∀b∈fp,∀o,s'.heap.get? b=some o->bC.heap.get? b=some o)->(∀b o,Ka b=some o->bC.heap.get? b=some o)->Mw (Aj X.W.prog X.W.w) A (oJ L Ka) (mm L Ka cW) t.length bC c (K .next) fs bC):
  Mw (Aj X.W.prog X.W.w) A (oJ L Ka) (mm L Ka cW) (t.length+1) s₀ c ((exec (.Expr (.Yield (some (.Tuple [p,v] k q)) yq) ep) env).wrap K H gd lv) fs s:=by
 refine seg_Expr_Yield rZ KV DB ?_ ij (by unfold Ju;refine af T.kind ?_;rfl)
 refine wpAny_Tuple ?_
 refine af (zI rY ..) ?_
 refine af (zI YT ..) ?_
 refine Bi (zM (hp env _ _ s g.σ _ T.pre e1) fun u aa ai=>?_)
 obtain⟨k₁,ns,aG,_⟩:=ai
 refine Bi (zM (hv env _ _ aa g.σ _ (T.kg k₁).pre e2) fun u' s₂ aj=>?_)
 obtain⟨k₂,ms,bt,_⟩:=aj
 refine B4 ⟨by refine af Bt ?_;refine(?_:2<=16777216);decide,fun Rt KY=>?_⟩
 obtain⟨t1,rfl⟩:∃t,u= .int z t:=by cases aG;exact⟨_,rfl⟩
 obtain⟨t2,rfl⟩:∃t,u'= .str ⟨l.toArray⟩ t:=by cases bt;exact⟨_,rfl⟩
 have bZ:=zT (zT k₁ k₂) (rm s₂ {cls:= .type "tuple",data:= .seq #[.int z t1, .str ⟨l.toArray⟩ t2]} s₂.toks)
 have aT:=T.kg bZ
 refine⟨(z,l),s₂.heap.objs.size,t1,t2,fp,by refine af dT ?_;exact Ru pre _ t,rfl,⟨_,A0 _ rfl,rfl,_,rfl⟩,aT.sn hL h0,fun hm=>?_,⟨KW,by obtain⟨m,hm⟩:=aT.loc;rw[ba]at hm;exact⟨m,hm⟩⟩,fun b hb=>?_,fun bC hk iz=>?_⟩
 ·obtain⟨_,o,e,_⟩:=cZ _ hm
  have:=wC (zT k₁ k₂) _ o e
  exact absurd (Bo this) (Hg _)
 ·obtain⟨h1,o,e,h2⟩:=cZ b hb
  exact⟨h1,o,wC bZ b o e,h2⟩
 ·exact KY .none bC (hn _ bC bZ hk iz)
end
theorem aw.r3{X:Ctx}{tv dv:List Nat}{K:Addr->Option Obj}{env:Ea}{A:Am}{s₀ s:Ab}{g:Sg}{N:Nat->List Addr}{F:List Addr}(T:aw X tv dv K env A s₀ g N F s)(h:g.β=none):aw X tv dv K env A s₀ g N [] s:=
 {T with
  book:=fun v b e=>by rw[h]at e;exact nn e
  foot:=fun a ha=>nomatch ha}
noncomputable def kD(al:List Nat)(p:Int)(e:Bool)(o:Option PV):Sg:=⟨[some (.str al),some (.int p),some (.bool e),o],none⟩
section
variable{X:Ctx}{L eA dj:Addr}{Ka:Addr->Option Obj}{env:Ea}{A:Am}{al:List Nat}{tA:J3}{cW:List (Int×List Nat)}
set_option genSizeOf false in
set_option genInjectivity false in
structure EP where
 xp:Str
 xc:Str
 xa:Str
 Rv:B7
 DC:B7
 pt:B7
 kt:Nat
 e1:Expr
 e2:Expr
 e3:Expr
 p1:Expr
 v1:Expr
 p2:Expr
 v2:Expr
 p3:Expr
 v3:Expr
 a1:Stmt
 a2:Stmt
 a0:Stmt
 b0:Stmt
 k1:Nat
 k2:Nat
 k3:Nat
 q1:B7
 YU:B7
 YV:B7
 q2:B7
 YW:B7
 YX:B7
 q3:B7
 KZ:B7
 LA:B7
 YY:B7
 YZ:B7
 LB:B7
 Y0:B7
 Y1:B7
 Y2:B7
 fp:B7
noncomputable abbrev LC(P:EP):Expr:= .Tuple [.Name P.xp P.Rv, .Name P.xc P.DC] P.kt P.pt
noncomputable abbrev DD(P:EP):List Stmt:=
 [.If P.e1 [.Expr (.Yield (some (.Tuple [P.p1,P.v1] P.k1 P.q1)) P.YU) P.YV,P.a1] [.If P.e2 [P.a2] [.Expr (.Yield (some (.Tuple [P.p2,P.v2] P.k2 P.q2)) P.YW) P.YX] P.YZ] P.YY]
structure EscOk(X:Ctx)(L:Addr)(Ka:Addr->Option Obj)(env:Ea)(P:EP):Prop where
 gJ:X.C.Γ.lookup P.xp=some 1
 bS:X.C.Γ.lookup P.xc=some 3
 nc:∀x,X.C.kn.lookup x≠some .cell
 nf:∀x,X.C.kn.lookup x≠some .free
 loc:env.locals=L
 co:env.scope.isCoroutine=false
 qr:Ka L=none
 xh:∀h:As,(∀b o,Ka b=some o->h.get? b=some o)->X.W.Wd h
 t1:dB X.W X.C P.e1 (.eT (.var 2))
 t2:dB X.W X.C P.e2 (.cmp .Eq (.var 3) (.lit (.str [92])))
 ny:ax X.W X.C P.p1 (.var 1)
 um:ax X.W X.C P.v1 (.bin .Add (.lit (.str [92])) (.var 3))
 nz:ax X.W X.C P.p2 (.var 1)
 uo:ax X.W X.C P.v2 (.var 3)
 s1:wM P.p1=true/\wM P.v1=true/\wM P.p2=true/\wM P.v2=true
 Rw:yL X [] [] P.a1 (den X.W.U (.assign 2 (.lit (.bool false))))
 Rx:yL X [] [] P.a2 (den X.W.U (.assign 2 (.lit (.bool true))))
variable{P:EP}
theorem Y3{al:List Nat}{p:Int}{e:Bool}{o:Option PV}(ho:∀q,o=some q->q.bo=true):∀(i:Nat) (q:PV),(kD al p e o).σ[i]?=some (some q)->q.bo=true:=by
 intro i q h
 unfold kD at h
 match i,h with
 |0,h=>cases h;rfl
 |1,h=>cases h;rfl
 |2,h=>cases h;rfl
 |3,h=>exact ho q (by simpa using h)
 |_+4,h=>simp at h
theorem Y4{h:As}{e it:Addr}{i:Int}{old:Value}(x:IsEnum h e it i old):∃o,h.get? e=some o/\wT o=true:=⟨_,x,rfl⟩
theorem Y5{h:As}{it:Addr}{T:String}{x:Str}{t:J3}{i:Nat}(y:h.IsStrIter it T x t i):∃o,h.get? it=some o/\wT o=true:=by
 refine gT y fun o h1 h2 h3=>?_
 refine i12 o h1 ?_
 unfold wT
 first|rw[h3]|rw[h2]
theorem Y6{s:As}{b:Addr}(h1:Ka b=none)(h2:s.get? b=none\/∃o,s.get? b=some o/\wT o=true):gI L Ka s b=none:=by
 unfold gI
 split
 ·rfl
 ·rw[h1]
  rcases h2 with h2|⟨o,h2,h3⟩
  ·rw[h2]
  ·rw[h2];simp[h3]
theorem Ry{s:As}(h0:∀b o,Ka b=some o->s.get? b=some o):∀b o,gI L Ka s b=some o->s.get? b=some o:=by
 intro b o h
 unfold gI at h
 split at h
 ·exact nn h
 ·split at h
  ·rename_i o' e;obtain rfl:=Aa h;exact h0 b _ e
  ·split at h
   ·rename_i o' e
    split at h
    ·exact nn h
    ·obtain rfl:=Aa h;exact e
   ·exact nn h
theorem Rz{s:As}(hL:Ka L=none)(h:∀h:As,(∀b o,Ka b=some o->h.get? b=some o)->X.W.Wd h):∀h:As,(∀b o,gI L Ka s b=some o->h.get? b=some o)->X.W.Wd h:=fun h' k=>h h' fun b o e=>k b o (by
 (refine ea (fun q=>by rw[q,hL]at e;exact nn e) ?_;rw[e]))
inductive iA(h:As)(al:List Nat)(tA:J3)(eA dj:Addr)(i:Nat):Prop
 |mk (old:Value) (e:IsEnum h eA dj i old) (s:h.IsStrIter dj (G2 ⟨al.toArray⟩) ⟨al.toArray⟩ tA i):iA h al tA eA dj i
theorem iA.up{h h':As}{i:Nat}(x:iA h al tA eA dj i)(k:∀b∈[eA,dj],∀o,h.get? b=some o->h'.get? b=some o):iA h' al tA eA dj i:=by
 obtain⟨old,e,o,g1,g2⟩:=x
 exact⟨old,k _ (.head _) _ e,o,k _ (.tail _ (.head _)) _ g1,g2⟩
theorem iA.fld{h:As}{i:Nat}(x:iA h al tA eA dj i):∀b∈[eA,dj],∃o,h.get? b=some o/\wT o=true:=by
 obtain⟨old,e,s⟩:=x
 exact fa (Y4 e) (fa (Y5 s) gD)
noncomputable abbrev xi(h:As)(l:List Addr):Prop:=∀b∈l,h.get? b=none\/∃o,h.get? b=some o/\wT o=true
theorem iA.loose{h:As}{i:Nat}(x:iA h al tA eA dj i):xi h [eA,dj]:=fun b hb=> .inr (x.fld b hb)
theorem Y7{o:Obj}{items:Array Value}{n:Nat}(hf:wT o=true)(e:o={cls:= .type "list",data:= .seq items n}):False:=by
 rw[e]at hf;exact ft hf
theorem iA.off{A':Am}{K':Addr->Option Obj}{s₀ s:Ab}{g:Sg}{N:Nat->List Addr}{F:List Addr}{i:Nat}(x:iA s.heap al tA eA dj i)(T:aw X [] [] K' env A' s₀ g N F s):env.locals∉ [eA,dj]/\∀j,∀a∈N j,a∉ [eA,dj]:=by
 refine aZ (fun hm=>?_) (fun j a ha hm=>?_)
 ·refine aD (x.fld _ hm) fun o e hf=>?_
  refine rl T.loc fun m o' es ep e' hd _=>?_
  rw[<-Aa (e'.symm.trans e),wT,hd]at hf;exact ft hf
 ·refine aD (x.fld _ hm) fun o e hf=>?_
  refine fU (T.nd j a ha) fun items n e'=>?_
  exact Y7 hf (Aa (e.symm.trans e'))
theorem RA{A':Am}{s₀ s:Ab}{g:Sg}{N:Nat->List Addr}{h':As}{tk i:Nat}(nc:∀x,X.C.kn.lookup x≠some .cell)(nf:∀x,X.C.kn.lookup x≠some .free)(hK:∀b∈[eA,dj],Ka b=none)(T:aw X [] [] (gI L Ka s₀.heap) env A' s₀ g N [] s)(fl:xi s₀.heap [eA,dj])(x:iA s.heap al tA eA dj i)
  (hk:∀b o,b∉ [eA,dj]->s.heap.get? b=some o->h'.get? b=some o):aw X [] [] (gI L Ka s₀.heap) env A' s₀ g N [] {s with heap:=h',toks:=tk}:=
 T.other hk (x.off T).1 (fun x c e=>absurd e (nc x)) (fun _ h=>(Ar h).elim) (x.off T).2 (fun b hb=>Y6 (hK b hb) (fl b hb)) (fun x c e=>absurd e (nf x))
theorem RC{A':Am}{K':Addr->Option Obj}{s₀ s:Ab}{g:Sg}{N:Nat->List Addr}{i:Nat}(nc:∀x,X.C.kn.lookup x≠some .cell)(x:iA s.heap al tA eA dj i)(T:aw X [] [] K' env A' s₀ g N [] s):oz X [] [] env N [] [eA,dj]:=
 ⟨(x.off T).1,fun x c e _=>absurd e (nc x),fun _ h=>(Ar h).elim,fun _ h=>(Ar h).elim,fun _ h=>(Ar h).elim⟩
theorem RD{h:As}{l:List Addr}(x:∀b∈l,∃o,h.get? b=some o/\wT o=true):∀b∈l,∃o,h.get? b=some o:=fun b hb=>(x b hb).elim fun o e=>⟨o,e.1⟩
theorem Y8{i:Int}{e:Bool}{c:Nat}:∀(j:Nat) (q:PV),(kD al i e (some (.str [c]))).σ[j]?=some (some q)->q.bo=true:=Y3 fun q h=>by rw[<-Aa h];rfl
theorem Y9(H:EscOk X L Ka env P)(hK:∀b∈[eA,dj],Ka b=none){cd:Code}{fs:List Frame}{K':Mp->Le Fin}{Hh:Value->Le Fin}(rZ:splitAtGen fs=none)(DB:fs.any Frame.guarded=false){c:Nat}{r:List Nat}{i:Nat}{p:Int}{e:Bool}{pre:List (Int×List Nat)}{s₀ av:Ab}{N:Nat->List Addr}
  (dT:cW=pre++dE i e (c::r) p) (aT:aw X [] [] (gI L Ka s₀.heap) env (A.over cd fs) s₀ (kD al i e (some (.str [c]))) N [] av) (h0:∀b o,Ka b=some o->s₀.heap.get? b=some o) (fl:xi s₀.heap [eA,dj]) (x:iA av.heap al tA eA dj (i+1))
  (back:∀(e':Bool) (fy:List (Int×List Nat)) (aa s':Ab) (N':Nat->List Addr) (F':List Addr),cW=fy++dE (i+1) e' r i->aw X [] [] (gI L Ka aa.heap) env (A.over cd fs) aa (kD al i e' (some (.str [c]))) N' F' s'->(∀b o,Ka b=some o->aa.heap.get? b=some o)->xi aa.heap [eA,dj]->iA s'.heap al tA eA dj (i+1)->
   Mw (Aj X.W.prog X.W.w) A (oJ L Ka) (mm L Ka cW) (dE (i+1) e' r i).length aa cd (K' .next) fs s'):
  Mw (Aj X.W.prog X.W.w) A (oJ L Ka) (mm L Ka cW) (dE i e (c::r) p).length s₀ cd ((G3 (DD P) env).wrap K' Hh id id) fs av:=by
 have ba:∃o,av.heap.get? L=some o:=by
  refine ua aT.loc fun m o' _ _ e' _=>?_
  exact bU o' (H.loc▸e')
 have cZ:∀{s':Ab},KG av s'->∀b∈[L,eA,dj],Ka b=none/\∃o,s'.heap.get? b=some o/\(b=L\/wT o=true):=fun k=>fa (ba.elim fun o e=>⟨H.qr,o,wC k _ _ e, .inl rfl⟩) fun b hb=>(x.fld b hb).elim fun o e=>⟨hK b hb,o,wC k _ _ e.1, .inr e.2⟩
 have again:∀{e':Bool} {s' bC:Ab},aw X [] [] (gI L Ka s₀.heap) env (A.over cd fs) s₀ (kD al i e' (some (.str [c]))) N [] av->KG av s'->(∀b∈[L,eA,dj],∀o,s'.heap.get? b=some o->bC.heap.get? b=some o)->(∀b o,Ka b=some o->bC.heap.get? b=some o)->
   aw X [] [] (gI L Ka bC.heap) env (A.over cd fs) bC (kD al i e' (some (.str [c]))) (fun _=> []) [] bC/\iA bC.heap al tA eA dj (i+1):=fun {e' s' bC} T' k hk iz=>by
  refine aZ (aw.again T' rfl Y8 H.nc (fun o e=>hk _ (by rw[H.loc];exact Ag ..) o (wC k _ o e)) ?_ (Ry iz) (Rz H.qr H.xh) T'.room) (x.up fun b hb o e=>hk b (.tail _ hb) o (wC k _ _ e))
  rw[H.loc];exact wI rfl rfl
 refine Fb (KR ?_)
 refine zM (H.t1 env _ _ av _ e aT.pre rfl) fun b aV aW=>?_
 refine ao aW fun aI cY=>?_
 clear aW
 subst aI
 have bT:=aT.kg cY
 cases b with
 |true=>
  rw[if_pos rfl]
  have he:dE i true (c::r) p=((i:Int),[92,c])::dE (i+1) false r i:=rfl
  rw[he]at dT⊢
  refine Fb (KU (pre:=pre) (t:=dE (i+1) false r i) (fp:=[L,eA,dj]) H.ny H.um H.s1.1 H.s1.2.1 bT H.qr h0 (z:=i) (l:=[92,c]) rfl ?_ dT rZ rfl DB H.co H.loc (.head _) (cZ cY) fun s' bC k hk iz=>?_)
  ·refine(?_:(if [92].length+[c].length<=ag then some (PV.str ([92]++[c]))else none)=_)
   refine wI (by refine(?_:2<=16777216);decide) ?_;rfl
  ·refine ao (again aT (zT cY k) hk iz) fun dA iB=>?_
   refine Rp (fp:=[eA,dj]) H.Rw dA (RC H.nc iB dA) (RD iB.fld) (g':=kD al i false (some (.str [c]))) rfl fun LD LH s₆ dS kf=>?_
   exact Dp (Dp (back false (pre++[((i:Int),[92,c])]) _ _ _ _ (by rw[dT,Br];rfl) dS iz iB.loose (iB.up kf)))
 |false=>
  rw[if_neg Ce]
  refine Fb (KR ?_)
  refine zM (H.t2 env _ _ aV _ (c==92) bT.pre (by refine(?_:some ([c]==[92])=_);simp)) fun b dh eD=>?_
  refine ao eD fun aI gB=>?_
  clear eD
  subst aI
  have DE:=zT cY gB
  have dA:=aT.kg DE
  have iB:=x.up fun b _ o e=>wC DE b o e
  have he:dE i false (c::r) p=if c==92 then dE (i+1) true r i else((i:Int),[c])::dE (i+1) false r i:=rfl
  rw[he]at dT⊢
  cases hc:(c==92)with
  |true=>
   rw[if_pos rfl]
   rw[hc,if_pos rfl]at dT
   rw[if_pos rfl]
   refine Rp (fp:=[eA,dj]) H.Rx dA (RC H.nc iB dA) (RD iB.fld) (g':=kD al i true (some (.str [c]))) rfl fun LD LH s₆ dS kf=>?_
   exact Dp (Dp (Dp (back true pre _ _ _ _ dT dS h0 fl (iB.up kf))))
  |false=>
   rw[if_neg Ce]
   rw[hc,if_neg Ce]at dT
   rw[if_neg Ce]
   refine Fb (KU (pre:=pre) (t:=dE (i+1) false r i) (fp:=[L,eA,dj]) H.nz H.uo H.s1.2.2.1 H.s1.2.2.2 dA H.qr h0 (z:=i) (l:=[c]) rfl rfl dT rZ rfl DB H.co H.loc (.head _) (cZ DE) fun s' bC k hk iz=>?_)
   refine ao (again aT (zT DE k) hk iz) fun dS xj=>?_
   exact Dp (Dp (Dp (back false (pre++[((i:Int),[c])]) _ _ _ _ (by rw[dT,Br];rfl) dS iz xj.loose xj)))
theorem Za{l:List PV}{k i:Nat}{q:PV}(h:l[i]?=some q):(j0 k l)[i]?=some [.int ((k+i:Nat):Int),q]:=by
 induction l generalizing k i with
 |nil=>exact nn h
 |cons a l ih=>
  cases i with
  |zero=>rw[<-Aa h];rfl
  |succ i=>
   have:=ih (k:=k+1) (i:=i) h
   rw[D0,D3 1]at this
   exact this
theorem Zb(H:EscOk X L Ka env P)(cN:eA≠dj)(hK:∀b∈[eA,dj],Ka b=none){k:Ez->Le Fin}{l0:List Value}{cF cL:Code}{pF:B7}(hh:A.handled=none)
  (CU:cL= .forLoop (LC P) (.ref eA) (DD P) [] env) (aN:de X.W.D (A.over cL [.ret k none false l0 cF pF []]))
  (jm:∀(p:Int) (e:Bool) (o:Option PV) (pre:List (Int×List Nat)) (s₀ s:Ab) (N:Nat->List Addr),(∀q,o=some q->q.bo=true)->cW=pre++(if e then [(p,[92])]else [])->
   (∀A',de X.W.D A'->aw X [] [] (gI L Ka s₀.heap) env A' s₀ (kD al p e o) N [] s)->(∀b o,Ka b=some o->s₀.heap.get? b=some o)->
   Mw (Aj X.W.prog X.W.w) A (oJ L Ka) (mm L Ka cW) (if e then [(p,[92])]else([]:List (Int×List Nat))).length s₀ cF (k (.ok .next)) [] s):
  ∀(r:List Nat) (i:Nat) (p:Int) (e:Bool) (o:Option PV) (pre:List (Int×List Nat)) (s₀ s:Ab) (N:Nat->List Addr) (F:List Addr),al.drop i=r->i<=al.length->(∀q,o=some q->q.bo=true)->cW=pre++dE i e r p->
   aw X [] [] (gI L Ka s₀.heap) env (A.over cL [.ret k none false l0 cF pF []]) s₀ (kD al p e o) N F s->(∀b o,Ka b=some o->s₀.heap.get? b=some o)->xi s₀.heap [eA,dj]->iA s.heap al tA eA dj i->
   Mw (Aj X.W.prog X.W.w) A (oJ L Ka) (mm L Ka cW) (dE i e r p).length s₀ cL ((Aj X.W.prog X.W.w).den cL) [.ret k none false l0 cF pF []] s:=by
 subst CU
 intro r
 have Y:=YS (prog:=X.W.prog) (w:=X.W.w) (x:=P.xp) (y:=P.xc) (px:=P.Rv) (py:=P.DC) (pt:=P.pt) (kk:=P.kt) (l:=al) (t:=tA) cN _ aN.hh
 induction r with
 |nil=>
  intro i p e o pre s₀ s N F gj hi ho dT T h0 fl x
  have T:=T.r3 rfl
  have nF:(j0 0 (al.map fun c=>PV.str [c])).length=i:=by
   rw[CK,Az];exact Fh (Ei.mp gj) hi
  refine Ro (Y.done s _ _ (by rw[nF];exact x.casesOn fun _ hE hS=>⟨⟨⟨_,hE⟩,hS⟩,trivial⟩) fun h' tk hk=> .inl ⟨rfl,?_⟩)
  exact YR (seg_leaf (.ok .next) (jm p e o pre s₀ _ N ho dT (fun A' hr=>(RA H.nc H.nf hK T fl x hk).around hr) h0))
 |cons c r ih=>
  intro i p e o pre s₀ s N F gj hi ho dT T h0 fl x
  have T:=T.r3 rfl
  have RF:al[i]?=some c:=by rw[<-List.head?_drop,gj];rfl
  have r4:al.drop (i+1)=r:=by rw[<-Jj,gj];rfl
  have hit:=Za (k:=0) (l:=al.map fun c=>PV.str [c]) (i:=i) (q:= .str [c]) (by rw[Ay,RF];rfl)
  rw[C0]at hit
  refine Ro (zM (Y.item i _ s env _ _ hit (x.casesOn fun _ hE hS=>⟨⟨⟨_,hE⟩,hS⟩,trivial⟩) fun us ms aj cz ja oh hlen dJ bE=>?_) fun r aa h=> .inr h)
  have ay:=RA (tk:=cz) H.nc H.nf hK T fl x bE
  obtain rfl:=ja.aM rfl
  have oK:iA aj al tA eA dj (i+1):=dJ.1.1.elim fun _ e=>⟨_,e,dJ.1.2⟩
  refine Q2 (is:=[1,3]) (.cons H.gJ (.cons H.bS .nil)) ay ja hlen (fun _ _=>⟨fun h=>(Ar h).elim,fun h=>(Ar h).elim⟩) ey.nil fun gc av aT _ kp=>?_
  have aT:aw X [] [] (gI L Ka s₀.heap) env _ s₀ (kD al i e (some (.str [c]))) gc [] av:=aT.r3 rfl
  exact Y9 H hK rfl rfl dT aT h0 fl (oK.up fun b hb o e=>kp b o (fun q=>(oK.off ay).1 (q▸hb)) (fun y d e1 _=>absurd e1 (H.nc y)) e) fun e' fy aa s' N' F' hl T' DH Zc x'=>
   seg_again rfl (ih (i+1) i e' (some (.str [c])) fy aa s' N' F' r4 (Ba.mp RF).1 (fun q h=>by rw[<-Aa h];rfl) hl T' DH Zc x')
end
theorem Sn.xk{L:Addr}{Ka:Addr->Option Obj}{s:Ab}(h:∀b o,Ka b=some o->s.heap.get? b=some o):Sn L Ka s s:=⟨.refl _,fun _ _ _ _ e=>e,h⟩
section
variable{X:Ctx}{L:Addr}{Ka:Addr->Option Obj}{env:Ea}{A:Am}{al:List Nat}
variable{P:EP}
noncomputable abbrev oM(P:EP):List Stmt:=
 [P.a0,P.b0, .For (LC P) (.Call (.Name ("enumerate" :Str) P.Y0) [.Name P.xa P.Y1] [] P.Y2) (DD P) [] P.fp,
  .If P.e3 [.Expr (.Yield (some (.Tuple [P.p3,P.v3] P.k3 P.q3)) P.KZ) P.LA] [] P.LB]
structure RG(X:Ctx)(L:Addr)(Ka:Addr->Option Obj)(env:Ea)(P:EP):Prop extends EscOk X L Ka env P where
 hx:X.C.Γ.lookup P.xa=some 0
 bad:bad P.xa=false
 ke:X.C.kn.lookup ("enumerate" :Str)=some .globalImplicit
 ge:X.W.mg "enumerate" =none
 be:X.W.mb "enumerate" =some (.type "enumerate")
 t3:dB X.W X.C P.e3 (.eT (.var 2))
 RH:ax X.W X.C P.p3 (.var 1)
 RI:ax X.W X.C P.v3 (.lit (.str [92]))
 s3:wM P.p3=true/\wM P.v3=true
 RJ:yL X [] [] P.a0 (den X.W.U (.assign 1 (.lit (.int 0))))
 uz:yL X [] [] P.b0 (den X.W.U (.assign 2 (.lit (.bool false))))
theorem Zd{h:As}{a:Addr}(cN:a≠L)(h1:gI L Ka h a=none):Ka a=none/\(h.get? a=none\/∃o,h.get? a=some o/\wT o=true):=by
 unfold gI at h1
 rw[if_neg cN]at h1
 cases q:Ka a with
 |some o=>rw[q]at h1;exact sn h1
 |none=>
  rw[q]at h1
  refine aZ rfl ?_
  cases q2:h.get? a with
  |none=>exact .inl rfl
  |some o=>
   rw[q2]at h1
   by_cases hf:wT o=true
   ·exact .inr ⟨o,rfl,hf⟩
   ·exact sn ((if_neg hf).symm.trans h1)
theorem Ze(H:RG X L Ka env P)(hh:A.handled=none){s₀ s:Ab}{N:Nat->List Addr}{F:List Addr}
  (r5:de X.W.D (A.over (.func (oM P) env) []))
  (r6:∀eA k p,de X.W.D (A.over (.forLoop (LC P) (.ref eA) (DD P) [] env) [.ret k none false [] (.func (oM P) env) p []]))
  (T:aw X [] [] (gI L Ka s₀.heap) env (A.over (.func (oM P) env) []) s₀ ⟨[some (.str al),none,none,none],none⟩ N F s)
  (h0:∀b o,Ka b=some o->s₀.heap.get? b=some o):
  Mw (Aj X.W.prog X.W.w) A (oJ L Ka) (mm L Ka (dE 0 false al 0)) (dE 0 false al 0).length s₀ (.func (oM P) env)
   ((Aj X.W.prog X.W.w).den (.func (oM P) env)) [] s:=by
 refine seg_func ?_
 generalize v5:Code.func (oM P) env=cF at*
 refine KS H.RJ T (g':=⟨[some (.str al),some (.int 0),none,none],none⟩) rfl fun xm r7 aa aO=>?_
 refine KS H.uz aO (g':=kD al 0 false none) rfl fun r8 kE s₂ ay=>?_
 have ay:=ay.r3 rfl
 refine Fb (YQ (fun x=>mh rfl env x) ?_)
 obtain⟨v,cw,rv⟩:=ay.rd P.xa 0 (.str al) H.hx rfl
 have Zg:VR s₂.heap (.str al) v []:=DA rv rfl
 obtain⟨tA,rfl⟩:∃t,v= .str ⟨al.toArray⟩ t:=Zg.inv.elim fun t e=>⟨t,e.1⟩
 refine Fg rfl ?_
 refine Bb ay.kind (by unfold Be;rw[ay.names];exact H.ke) (C4 (mg:=X.W.mg) (mb:=X.W.mb) ?_ H.ge ?_ H.be ?_) (by decide)
 ·rw[ay.gl];exact X.W.g ay.pre.wd
 ·rw[ay.bl];exact X.W.b ay.pre.wd
 refine Cg ?_ (zI rfl [] env) rfl
 rw[zI rfl [] env]
 refine Bi (Bp (yP ay.kind cw ?_ (cU H.bad)) (wW H.bad))
 refine B4 ?_
 refine call_enumerate_str fun h' hE hS hsz up=>?_
 refine wpAny_pyIter_enum hE fun p=>?_
 have aT:=ay.kg (jE _ h' s₂.toks up)
 have kN:∀j,Ka (s₂.heap.objs.size+j)=none/\(s₀.heap.get? (s₂.heap.objs.size+j)=none\/∃o,s₀.heap.get? (s₂.heap.objs.size+j)=some o/\wT o=true):=fun j=>Zd (fun q=>by
   refine ua ay.loc fun m o _ _ e _=>?_
   rw[H.loc,<-q,wD]at e;exact nn e) (rQ ay.kept (wD j))
 have k0:=kN 0
 rw[Mr]at k0
 have RK:=r6 (s₂.heap.objs.size+1) (Rm env (fun f=>match f with
   | .next=>(G3 [.If P.e3 [.Expr (.Yield (some (.Tuple [P.p3,P.v3] P.k3 P.q3)) P.KZ) P.LA] [] P.LB] env).wrap (fun f=> .pure (.done (.ret (match f with| .ret v=>v|_=> .none)))) (fun e=>(leaving env e).wrap (fun _=> .raise e) .raise id id) id id
   |f=> .pure (.done (.ret (match f with| .ret v=>v|_=> .none)))) (fun e=>(leaving env e).wrap (fun _=> .raise e) .raise id id) id id) p
 refine Zb (tA:=tA) H.toEscOk (Nat.succ_ne_self _) (fa (kN 1).1 (fa k0.1 gD)) (al:=al) hh rfl RK ?_ al 0 0 false none [] s₀ _ _ _ (C3) (Dv _) (fun q h=>nn h) rfl (aT.around RK) h0 (fa (kN 1).2 (fa k0.2 gD)) ⟨_,hE,hS⟩
 intro p' e o pre eM s' N' ho hL hT DH
 refine(?_:Mw _ _ _ _ _ _ _ ((G3 [.If P.e3 [.Expr (.Yield (some (.Tuple [P.p3,P.v3] P.k3 P.q3)) P.KZ) P.LA] [] P.LB] env).wrap _ _ id id) [] s')
 have T':=hT _ r5
 refine Fb (KR ?_)
 refine zM (H.t3 env _ _ s' _ e T'.pre rfl) fun b aV aW=>?_
 refine ao aW fun aI cY=>?_
 clear aW
 subst aI
 have bT:=T'.kg cY
 cases b with
 |true=>
  rw[if_pos rfl]
  have CV:dE 0 false al 0=pre++(p',[92])::[]:=hL
  refine Fb (KU (pre:=pre) (t:=[]) (fp:=[L]) H.RH H.RI H.s3.1 H.s3.2 bT H.qr DH (z:=p') (l:=[92]) rfl rfl CV rfl rfl rfl H.co H.loc (by exact Bn _) (fun b hb=>?_) fun s5 s6 k hk iz=>?_)
  ·rw[Af.mp hb]
   refine ua bT.loc fun m o' _ _ e' _=>?_
   rw[H.loc]at e'
   exact⟨H.qr,o',e', .inl rfl⟩
  ·refine Dp (Dp ?_)
   exact seg_end (.ok (.ret .none)) ⟨rfl,rfl,Sn.xk iz⟩
 |false=>
  rw[if_neg Ce]
  refine Dp (Dp ?_)
  exact seg_end (.ok (.ret .none)) ⟨rfl,rfl,bT.sn H.qr DH⟩
end
structure GS(prog:Program)(w:Cn)(A':Am)(L a:Addr)(g:Nat)(Ka:Addr->Option Obj)(cW rem:List (Int×List Nat))(fp:List Addr)(s:Ab):Prop where
 gn:s.heap.IsGen a g
 xn:∃o,Ka a=some o
 pre:∃pre,cW=pre++rem
 uA:L∈fp/\∃mL,s.heap.Ns L mL
 r9:∀b∈fp,Ka b=none/\∃o,s.heap.get? b=some o/\(b=L\/wT o=true)
 ka:∀b o,Ka b=some o->s.heap.get? b=some o
 DI:∃gs,s.gens[g]?=some gs/\gs.bare=true/\∀bC:Ab,(∀b∈fp,∀o,s.heap.get? b=some o->bC.heap.get? b=some o)->(∀b o,Ka b=some o->bC.heap.get? b=some o)->
  gs.Goes (Aj prog w) A' (oJ L Ka) (mm L Ka cW) rem.length (.send .none) bC
theorem RL{s:Ab}{g:Nat}{x:Hu}(h:∃y,s.gens[g]?=some y):(s.setGen g x).gens[g]?=some x:=by
 refine aK h fun y h=>?_
 have aY:=(G5.mp h).1
 refine(?_:(s.gens.setIfInBounds g x)[g]?=some x)
 simp[aY]
theorem RM{s:Ab}{g i:Nat}{x:Hu}(h:i≠g):(s.setGen g x).gens[i]?=s.gens[i]?:=by
 refine(?_:(s.gens.setIfInBounds g x)[i]?=_)
 rw[Array.getElem?_setIfInBounds_ne (H0 h)]
theorem RN{s:Ab}{g:Nat}{x:Hu}(h:Ml s.gens)(hx:x.bare=true):Ml (s.setGen g x).gens:=fun y hy=>by
 change y∈s.gens.setIfInBounds g x at hy
 rcases Array.mem_or_eq_of_mem_setIfInBounds hy with h1|h1
 ·exact h y h1
 ·exact h1▸hx
structure Tn(L:Addr)(g:Nat)(Ka:Addr->Option Obj)(s aa:Ab):Prop where
 eq:∃h t gs,aa={s with heap:=h,toks:=t,gens:=gs}
 old:∀b o,b≠L->wT o=false->s.heap.get? b=some o->aa.heap.get? b=some o
 ka:∀b o,Ka b=some o->aa.heap.get? b=some o
 gens:∀(i:Nat) x,i≠g->s.gens[i]?=some x->aa.gens[i]?=some x
 bare:Ml s.gens->Ml aa.gens
theorem Tn.of{L:Addr}{g:Nat}{Ka:Addr->Option Obj}{s aa:Ab}{x:Hu}(hx:x.bare=true)(h:Sn L Ka (s.setGen g .running) aa):Tn L g Ka s (aa.setGen g x):=by
 obtain⟨⟨h',t,gs,rfl,e⟩,h2,h3⟩:=h
 refine⟨⟨h',t,_,rfl⟩,h2,h3,fun i y hi hy=>?_,fun hb=>?_⟩
 ·rw[RM hi]
  exact e.get i y (by rw[RM hi];exact hy)
 ·exact RN (e.bare (RN hb rfl)) hx
theorem Zh{prog:Program}{w:Cn}{A:Am}{L a:Addr}{g:Nat}{Ka:Addr->Option Obj}{cW rem:List (Int×List Nat)}{x:Int×List Nat}{fp:List Addr}{s:Ab}{E:Value->Ab->Prop}(G:GS prog w A.in1 L a g Ka cW (x::rem) fp s)(hh:A.handled=none)(hl:s.heap.NoLimit)(hd:A.depth<recursionLimit):
  An (Aj prog w) A (Iv (.ref a)) (fun r aa=>∃T t1 t2 fp',r=some (.ref T)/\IsTup aa.heap T #[.int x.1 t1, .str ⟨x.2.toArray⟩ t2]/\GS prog w A.in1 L a g Ka cW rem fp' aa/\Tn L g Ka s aa) E s:=by
 refine aK G.pre fun pre oN=>?_
 refine gT G.DI fun gs rW hb rX=>?_
 refine Rq hh hl hd G.gn rW (rX (s.setGen g .running) (fun _ _ _ e=>e) G.ka) (fun v aa oH lT hY=>?_) (fun aa hP=>?_)
 ·have hY:mm L Ka cW rem.length (s.setGen g .running) v aa (fun r' bC=>oH.Goes (Aj prog w) A.in1 (oJ L Ka) (mm L Ka cW) rem.length r' bC):=hY
  obtain⟨x',T,t1,t2,fp',h1,rfl,h3,h4,h5,h6,h7,h8⟩:=hY
  have hx:x'=x:=by
   rw[oN,Ru]at h1;obtain rfl:=Aa h1;rfl
  subst hx
  have vW:∃y,aa.gens[g]?=some y:=by
   obtain⟨_,_,_,rfl,e⟩:=h4.same
   exact bU _ (e.get g .running (RL ⟨gs,rW⟩))
  refine WG T t1 t2 fp' rfl h3 ⟨?_,G.xn,⟨pre++[x'],by rw[oN,Br];rfl⟩,h6,h7,h4.ka,oH,RL vW,lT,fun bC k1 k2=>h8 bC k1 k2⟩ (Tn.of lT h4)
  refine rk G.gn fun o i vs e1 e2=>?_
  refine aK G.xn fun o' e3=>?_
  have e4:=G.ka a o' e3
  rw[e1]at e4;obtain rfl:=Aa e4
  exact Px o i vs (h4.ka a o e3) e2
 ·refine ao hP fun h1 _=>?_
  cases h1
theorem Zi{prog:Program}{w:Cn}{A:Am}{L a:Addr}{g:Nat}{Ka:Addr->Option Obj}{cW:List (Int×List Nat)}{fp:List Addr}{s:Ab}{E:Value->Ab->Prop}(G:GS prog w A.in1 L a g Ka cW [] fp s)(hh:A.handled=none)(hl:s.heap.NoLimit)(hd:A.depth<recursionLimit):
  An (Aj prog w) A (Iv (.ref a)) (fun r aa=>r=none/\Tn L g Ka s aa) E s:=by
 refine gT G.DI fun gs rW hb rX=>?_
 refine Rq hh hl hd G.gn rW (rX (s.setGen g .running) (fun _ _ _ e=>e) G.ka) (fun v aa oH lT hY=>?_) (fun aa hP h' hk=>?_)
 ·have hY:mm L Ka cW 0 (s.setGen g .running) v aa (fun r' bC=>False):=hY
  obtain⟨x',T,t1,t2,fp',h1,rfl,h3,h4,h5,h6,h7,h8⟩:=hY
  exact(h8 aa (fun _ _ _ e=>e) h4.ka).elim
 ·refine ao hP fun _ h2=>?_
  have t:=Tn.of (x:= .finished) rfl h2
  refine aZ rfl ?_
  obtain⟨⟨hh',tt,gg,e⟩,t2,t3,t4,t5⟩:=t
  refine⟨⟨h',aa.toks,(aa.setGen g .finished).gens,?_⟩,fun b o h1 h2 e=>hk b o (t2 b o h1 h2 e),fun b o e=>hk b o (t3 b o e),t4,t5⟩
  refine af e ?_
  have:aa.toks=tt:=congrArg Shared.toks e
  exact af this rfl
theorem Zj{prog:Program}{w:Cn}{A:Am}{E:Value->Ab->Prop}{s:Ab}{elts:List Expr}{x1:Nat}{pos:B7}{I T:Addr}{g:Nat}{Q:Unit->Ab->Prop}(hit:s.heap.IsGen I g)(hQ:Q () s):
  An (Aj prog w) A (Iu (.Tuple elts x1 pos) (.ref I) (.ref T)) Q E s:=by
 refine nT hit fun o nm q ho hc hd=>?_
 refine Ac (Mh ho ?_)
 refine af hc ?_
 refine af hd.1 ?_
 refine(?_:An _ A (if(["enumerate", "zip", "dict_itemiterator", "dict_reverseitemiterator", "odict_iterator", "itertools.zip_longest", "itertools.pairwise"].contains "generator" &&_)=true then _ else _) Q E s)
 rw[if_neg (by
  intro h
  rw[show(["enumerate", "zip", "dict_itemiterator", "dict_reverseitemiterator", "odict_iterator", "itertools.zip_longest", "itertools.pairwise"].contains "generator")=false from by decide,G4]at h
  exact ft h)]
 exact Aq hQ
theorem wJ.trans{a b c:Ab}(x:wJ a b)(y:wJ b c):wJ a c:=by
 obtain⟨h,t,g,rfl,e⟩:=x
 obtain⟨h',t',g',rfl,e'⟩:=y
 exact⟨h',t',g',rfl,e.trans e'⟩
section
variable{X:Ctx}{tv dv:List Nat}{K Ka:Addr->Option Obj}{env:Ea}{A:Am}{s₀ s aa:Ab}{g:Sg}{N:Nat->List Addr}{L a:Addr}{gi:Nat}
theorem aw.rebase{F:List Addr}(T:aw X tv dv K env A s₀ g N F s):aw X tv dv K env A s g N F s:={T with same:= .refl s}
theorem aw.sd{F:List Addr}(T:aw X tv dv K env A aa g N F s)(x:wJ s₀ aa):aw X tv dv K env A s₀ g N F s:={T with same:=x.trans T.same}
theorem aw.tn(T:aw X tv dv K env A s₀ g N [] s)(t:Tn L gi Ka s aa)(hK:∀b o,K b=some o->Ka b=some o)(hL:env.locals≠L)(hc:∀x c,X.C.kn.lookup x=some .cell->env.cells.lookup x=some c->c≠L)(iv:∀x,X.C.kn.lookup x≠some .free)
  (hg:s₀.gens[gi]?=none) (Zk:∀items n,s.heap.get? L≠some {cls:= .type "list",data:= .seq items n}) (bY:g.β=none):aw X tv dv K env A s₀ g N [] aa:=by
 have lst:∀b items n,s.heap.get? b=some {cls:= .type "list",data:= .seq items n}->aa.heap.get? b=some {cls:= .type "list",data:= .seq items n}:=fun b items n e=>t.old b _ (fun q=>Zk items n (q▸e)) rfl e
 exact
  {T with
   loc:=by obtain⟨m,h⟩:=T.loc;exact⟨m,h.at' fun o e=>t.old _ o hL (by obtain⟨o',_,_,e',hd,_⟩:=h;rw[e]at e';obtain rfl:=Aa e';unfold wT;exact af hd rfl) e⟩
   cls:=fun x c e1 e2=>by
    refine ao (T.cls x c e1 e2) fun bq h=>?_
    refine eu bq fun v o e3 e4=>?_
    exact aZ ⟨v,o,t.old c o (hc x c e1 e2) (by unfold wT;exact af e4 rfl) e3,e4⟩ h
   rd:=fun x i p e1 e2=>by
    obtain⟨v,ac,r⟩:=T.rd x i p e1 e2
    refine⟨v,?_,r.on fun b hb o e=>by obtain⟨items,n,e'⟩:=T.nd i b hb;rw[e']at e;obtain rfl:=Aa e;exact lst b items n e'⟩
    rcases ac with⟨hl,m,hn,hm⟩|⟨hl,c,lq,o,e3,e4⟩
    ·exact .inl ⟨hl,m,hn.at' fun o e=>t.old _ o hL (by obtain⟨o',_,_,e',hd,_⟩:=hn;rw[e]at e';obtain rfl:=Aa e';unfold wT;exact af hd rfl) e,hm⟩
    ·refine .inr ⟨hl,c,lq,o,t.old c o ?_ (by unfold wT;exact af e4 rfl) e3,e4⟩
     rcases hl with hl|hl
     ·exact hc x c (by unfold Be at hl;rw[T.names]at hl;exact hl) lq
     ·exact absurd (by unfold Be at hl;rw[T.names]at hl;exact hl) (iv x)
   nd:=fun j b hb=>by obtain⟨items,n,e⟩:=T.nd j b hb;exact⟨items,n,lst b items n e⟩
   kept:=fun b o e=>t.ka b o (hK b o e)
   same:=by
    refine vx t.eq fun h tk gs e=>?_
    obtain⟨h0,t0,g0,e0,x0⟩:=T.same
    refine⟨h,tk,gs,by(refine af e ?_;exact af e0 rfl),⟨fun i x hx=>?_,fun hb=>?_⟩⟩
    ·have h1:=x0.get i x hx
     have h2:s.gens[i]?=some x:=by refine af e0 ?_;exact h1
     have h3:=t.gens i x (fun q=>by rw[q,hg]at hx;exact nn hx) h2
     rw[e]at h3;exact h3
    ·have h1:=t.bare (by refine af e0 ?_;exact x0.bare hb)
     rw[e]at h1;exact h1
   book:=fun v b e=>by rw[bY]at e;exact nn e
   foot:=fun a ha=>nomatch ha}
theorem GS.frame{prog:Program}{w:Cn}{A':Am}{cW rem:List (Int×List Nat)}{fp:List Addr}(G:GS prog w A' L a gi Ka cW rem fp s)(h1:∀b∈fp,∀o,s.heap.get? b=some o->aa.heap.get? b=some o)(h2:∀b o,Ka b=some o->aa.heap.get? b=some o)(h3:∀(i:Nat) x,s.gens[i]?=some x->aa.gens[i]?=some x):
  GS prog w A' L a gi Ka cW rem fp aa where
 gn:=by
  refine rk G.gn fun o nm q e1 e2=>?_
  refine aK G.xn fun o' e3=>?_
  have e4:=G.ka a o' e3
  rw[e1]at e4;obtain rfl:=Aa e4
  exact Px o nm q (h2 a o e3) e2
 xn:=G.xn
 pre:=G.pre
 uA:=⟨G.uA.1,by obtain⟨m,hm⟩:=G.uA.2;exact⟨m,hm.at' fun o e=>h1 L G.uA.1 o e⟩⟩
 r9:=fun b hb=>by obtain⟨g1,o,g2,g3⟩:=G.r9 b hb;exact⟨g1,o,h1 b hb o g2,g3⟩
 ka:=h2
 DI:=by
  refine gT G.DI fun gs g1 g2 g3=>?_
  exact nU gs (h3 _ _ g1) g2 (fun bC k1 k2=>g3 bC (fun b hb o e=>k1 b hb o (h1 b hb o e)) k2)
end
inductive RO(prog:Program)(w:Cn)(Wd:As->Prop)(D:Nat)(al:List Nat)(s:Ab)(res:Ez)(s':Ab):Prop
 |mk (a L:Addr) (g:Nat) (e:res= .ok (.ret (.ref a))) (k:KG s s') (ha:s.heap.get? a=none) (hL:s.heap.get? L=none) (RP:a≠L) (hg:s.gens[g]?=none) (ho:∃o,s'.heap.get? a=some o/\wT o=true) (hi:s'.heap.IsGen a g)
  (G:∀(A2:Am) (Ka:Addr->Option Obj),de D A2->(∀b o,Ka b=some o->s'.heap.get? b=some o)->Ka L=none->(∃o,Ka a=some o)->(∀h:As,(∀b o,Ka b=some o->h.get? b=some o)->Wd h)->GS prog w A2.in1 L a g Ka (dE 0 false al 0) (dE 0 false al 0) [L] s'):RO prog w Wd D al s res s'
noncomputable def xo(prog:Program)(w:Cn)(Wd:As->Prop)(D:Nat)(fa:Addr):Prop:=∀(A:Am) (s:Ab) (u:Value) (al:List Nat),de D A->Wd s.heap->VR s.heap (.str al) u []->
 Cs (Aj prog w) A (.call (.ref fa) ⟨[u],[]⟩) (RO prog w Wd D al s) s
noncomputable def kF(x:Int×List Nat):List PV:=[.int x.1, .str x.2]
noncomputable def se(U:Uc)(pa:PE)(is:List Nat)(f:Den):Den:=fun g=>((ev U pa g.σ).bind PV.dg).bind fun al=>wN is f ((dE 0 false al 0).map kF) g
structure qt(X:Ctx)(env:Ea)(K Kg:Addr->Option Obj)(s₀:Ab)(L a:Addr)(gi:Nat)(oa:Obj):Prop where
 up:∀b o,K b=some o->Kg b=some o
 out:∀b o,b≠a->Kg b=some o->K b=some o
 ka:Kg a=some oa
 fa:wT oa=true
 loc:env.locals≠L
 cls:∀x c,X.C.kn.lookup x=some .cell->env.cells.lookup x=some c->c≠L
 g0:s₀.gens[gi]?=none
section
variable{X:Ctx}{tv dv:List Nat}{K K' Kg:Addr->Option Obj}{env:Ea}{A A':Am}{s₀ s aa s' eM:Ab}{g g₁:Sg}{N N':Nat->List Addr}{L a:Addr}{gi:Nat}{oa:Obj}{cW rem:List (Int×List Nat)}{fp:List Addr}{prog:Program}{w:Cn}
theorem Zl{o:Obj}{items:Array Value}{n:Nat}{P:Prop}(e:some o=some {cls:= .type "list",data:= .seq items n}) (h:wT o=true):P:=by
 rw[Aa e]at h;exact ft h
theorem qt.inv(B:qt X env K Kg s₀ L a gi oa)(T':aw X tv dv K' env A eM g₁ N' [] s')(G:GS prog w A' L a gi Kg cW rem fp s'):oz X tv dv env N' [] (a::fp)/\(∀b∈a::fp,∃o,s'.heap.get? b=some o):=by
 have kind:∀b∈a::fp,∃o,s'.heap.get? b=some o/\(b=L\/wT o=true):=Internal.fa ⟨oa,G.ka a oa B.ka, .inr B.fa⟩ fun b hb=>(G.r9 b hb).2
 refine aK G.uA.2 fun mL LI=>?_
 have off:∀j,∀b∈N' j,b∉a::fp:=fun j b hb hm=>by
  refine fU (T'.nd j b hb) fun items n e=>?_
  refine aD (kind b hm) fun o e' h=>?_
  exact h.elim (fun h=>wY LI (h▸e)) fun h=>Zl (e'.symm.trans e) h
 refine aZ ⟨fun hm=>?_,fun z c e1 e2 hm=>?_,fun _ h=>(Ar h).elim,fun j hj b q e=>off j b (e▸Ag ..),fun j hj b lT=>off j b lT⟩ (fun b hb=>(kind b hb).elim fun o e=>⟨o,e.1⟩)
 ·refine aD (kind _ hm) fun o e' h=>?_
  refine rl T'.loc fun m o' _ _ IH hd _=>?_
  refine h.elim B.loc fun h=>?_
  rw[<-Aa (IH.symm.trans e'),wT,hd]at h;exact ft h
 ·refine aD (kind _ hm) fun o e' h=>?_
  refine ao (T'.cls z c e1 e2) fun bq _=>?_
  refine eu bq fun v o' e3 e4=>?_
  refine h.elim (B.cls z c e1 e2) fun h=>?_
  rw[<-Aa (e3.symm.trans e'),wT,e4]at h;exact ft h
theorem qt.xq(B:qt X env K Kg s₀ L a gi oa){h h':As}(e:h.get? a=some oa)(k1:∀b o,K b=some o->h'.get? b=some o)(k2:∀o,h.get? a=some o->h'.get? a=some o)(b:Addr)(o:Obj)(q:Kg b=some o):h'.get? b=some o:=by
 by_cases hm:b=a
 ·rw[hm,B.ka]at q
  exact hm▸Aa q▸k2 _ e
 ·exact k1 b o (B.out b o hm q)
theorem LJ(x:wJ s s'):∀(i:Nat) x,s.gens[i]?=some x->s'.gens[i]?=some x:=by
 obtain⟨_,_,_,rfl,e⟩:=x;exact e.get
theorem qt.tn(B:qt X env K Kg s₀ L a gi oa)(T':aw X tv dv K env A s₀ g₁ N' [] s')(G:GS prog w A' L a gi Kg cW rem fp s')(t:Tn L gi Kg s' aa)(iv:∀x,X.C.kn.lookup x≠some .free)(bY:g₁.β=none):aw X tv dv K env A s₀ g₁ N' [] aa:=
 T'.tn t B.up B.loc B.cls iv B.g0 (fun items n e=>by obtain⟨mL,LI⟩:=G.uA.2;exact wY LI e) bY
end
inductive xt(X:Ctx)(tv dv:List Nat)(K Kg:Addr->Option Obj)(env:Ea)(A:Am)(s₀:Ab)(L a:Addr)(gi:Nat)(cW:List (Int×List Nat))(is:List Nat)(fb:Den)(r:Sg×Fl)(n:Nat)(s':Ab):Prop
 |mk (g₁:Sg) (N':Nat->List Addr) (rem:List (Int×List Nat)) (fp:List Addr) (hn:n=rem.length+1) (T:aw X tv dv K env A s₀ g₁ N' [] s') (G:GS X.W.prog X.W.w A.in1 L a gi Kg cW rem fp s') (e:wN is fb (rem.map kF) g₁=some r):xt X tv dv K Kg env A s₀ L a gi cW is fb r n s'
section
variable{X:Ctx}{tv dv:List Nat}
theorem DJ{K':Addr->Option Obj}{env:Ea}{A':Am}{s0 s':Ab}{g₁:Sg}{N':Nat->List Addr}{F':List Addr}(di:∀v b F h,¬X.BK.is v b F h)(T':aw X tv dv K' env A' s0 g₁ N' F' s'):g₁.β=none:=by
 cases q:g₁.β with
 |none=>rfl
 |some p=>exact(di _ _ _ _ (T'.book p.1 p.2 q)).elim
theorem Zm{x y:Str}{i j:Nat}{px py pt:B7}{kt:Nat}{body:List Stmt}{fb:Den}{K Kg:Addr->Option Obj}{env:Ea}{A:Am}{s₀ s':Ab}{L a:Addr}{gi n:Nat}{oa:Obj}{cW:List (Int×List Nat)}{g':Sg}{fl:Fl}{E:Value->Ab->Prop}
  (di:∀v b F h,¬X.BK.is v b F h) (hx:X.C.Γ.lookup x=some i) (hy:X.C.Γ.lookup y=some j) (hb:yU X tv dv tv dv body fb) (iv:∀x,X.C.kn.lookup x≠some .free) (cq:∀h,X.W.Wd h->h.NoLimit)
  (B:qt X env K Kg s₀ L a gi oa) (ei:∀h:As,(∀b o,K b=some o->h.get? b=some o)->X.W.Wd h) (I:xt X tv dv K Kg env A s₀ L a gi cW [i,j] fb (g',fl) n s'):
  An (Aj X.W.prog X.W.w) A (Iv (.ref a)) (fun r aa=>(r=none/\jg X tv dv K env A s₀ g' fl .next aa)\/ry X.W.prog X.W.w A (.Tuple [.Name x px, .Name y py] kt pt) a env E (fun s₂=>
    An (Aj X.W.prog X.W.w) A (G3 body env) (fun f av=>match f with
     | .next| .cont=>∃m,m<n/\xt X tv dv K Kg env A s₀ L a gi cW [i,j] fb (g',fl) m av
     | .brk=>jg X tv dv K env A s₀ g' fl .next av
     | .ret v=>jg X tv dv K env A s₀ g' fl (.ret v) av) E s₂) r aa) E s':=by
 obtain⟨g₁,N',rem,fp,rfl,T',G,e'⟩:=I
 have oO:A.depth<recursionLimit:=Ds (Du ..) T'.room.depth
 cases rem with
 |nil=>
  refine zM (Zi G T'.room.hh (cq _ T'.pre.wd) oO) fun r av aE=> .inl ?_
  exact aZ aE.1 (Internal.sp e' ⟨rfl,N',[],B.tn T' G aE.2 iv (DJ di T')⟩)
 |cons z rem=>
  obtain⟨⟨cj,ck⟩,e3,e4⟩:=fE e'
  refine zM (Zh G T'.room.hh (cq _ T'.pre.wd) oO) fun r av aE=> .inr ?_
  refine ub aE fun Tp t1 t2 fp' ig LK sf t=>?_
  clear aE
  subst ig
  have aT:=B.tn T' G t iv (DJ di T')
  refine i12 (.ref Tp) rfl (Zj sf.gn ?_)
  refine assign_Tuple_tuple T'.room.hh LK rfl rfl fun aW he=>?_
  have up:Sub av.heap aW:=fun b o e=>he b o (Bu (Bo e)) e
  have bT:=aT.kg (jE _ aW av.toks up)
  have oP:GS X.W.prog X.W.w A.in1 L a gi Kg cW rem fp' {av with heap:=aW}:=sf.frame (fun b _ o e=>up b o e) (fun b o e=>up b o (sf.ka b o e)) (fun _ _ e=>e)
  refine E8 (Dj (zM (bT.rebase.eF hx (.int z.1 t1) (ey.nil (own:=true)) (.inl rfl)) fun _ dh eD=>?_))
  refine cD eD fun dA _ xu=>?_
  refine E8 (Dj (zM (dA.eF hy (.str z.2 t2) (ey.nil (own:=true)) (.inl rfl)) fun _ s₆ gC=>?_))
  refine cD gC fun dS _ xw=>?_
  refine Jq ?_
  have oQ:=(B.inv bT oP).1
  have kp:∀b∈a::fp',∀o,aW.get? b=some o->s₆.heap.get? b=some o:=fun b hb o e=>
   xw b o (fun q=>oQ.loc (q▸hb)) (fun y d e1 e2 q=>oQ.cls y d e1 e2 (q▸hb)) (xu b o (fun q=>oQ.loc (q▸hb)) (fun y d e1 e2 q=>oQ.cls y d e1 e2 (q▸hb)) e)
  have ga:aW.get? a=some oa:=oP.ka a oa B.ka
  have LM:GS X.W.prog X.W.w A.in1 L a gi Kg cW rem fp' s₆:=oP.frame (fun b hb o e=>kp b (Ad _ hb) o e) (B.xq ga dS.kept fun o e=>kp a (Ag ..) o e) (LJ dS.same)
  refine zM (hb _ env A _ _ _ _ [] s₆ cj ck (dS.freeze (B.inv dS LM).1) e3) fun fw xx LN=>?_
  obtain⟨iw,sh,Zn,sj⟩:=LN
  have RQ:=Q3 (fp:=a::fp') dS.kept
  have fz:∀b∈a::fp',∀o,s₆.heap.get? b=some o->xx.heap.get? b=some o:=fun b hb o e=>sj.kept b o (by rw[lz hb];exact e)
  have sk:=(sj.r3 (DJ di sj)).eL RQ ei
  have sq:=sk.sd bT.same
  have go:wN [i,j] fb (rem.map kF) cj=some (g',fl)->∃m,m<rem.length+1+1/\xt X tv dv K Kg env A s₀ L a gi cW [i,j] fb (g',fl) m xx:=fun e=>
   ⟨rem.length+1,Bx _,cj,sh,rem,fp',rfl,sq,oP.frame (fun b hb o e=>fz b (Ad _ hb) o (kp b (Ad _ hb) o e)) (B.xq ga sk.kept fun o e=>fz a (Ag ..) o (kp a (Ag ..) o e)) (LJ sk.same),e⟩
  cases ck with
  |next=>exact Gm iw▸go e4
  |cont=>exact Gm iw▸go e4
  |brk=>exact Gm iw▸Internal.sp e4 ⟨rfl,sh,[],sq⟩
  |ret p=>
   refine cM iw fun v BZ bL r hn=>?_
   clear iw
   subst bL
   exact Internal.sp e4 ⟨⟨v,BZ,rfl,r,fun b lT=>rQ RQ (hn b lT)⟩,sh,[],sq⟩
theorem yL.mn{x y f:Str}{i j:Nat}{px py pt pf pc pos:B7}{kt:Nat}{arg:Expr}{body:List Stmt}{pa:PE}{fb:Den}{fa:Addr}(di:∀v b F h,¬X.BK.is v b F h)(mq:xo X.W.prog X.W.w X.W.Wd X.W.D fa)
  (hk:X.C.kn.lookup f=some .globalImplicit) (Zo:X.W.mg f=some (.ref fa)) (DK:bad f=false) (Zp:∀h,X.W.Wd h->∃o fd,h.get? fa=some o/\o.data= .func fd) (sr:ax X.W X.C arg pa) (cn:wM arg=true)
  (hx:X.C.Γ.lookup x=some i) (hy:X.C.Γ.lookup y=some j) (hi:(i∉tv/\i∉dv)/\(j∉tv/\j∉dv)) (hb:yU X tv dv tv dv body fb) (iv:∀x,X.C.kn.lookup x≠some .free) (cq:∀h,X.W.Wd h->h.NoLimit):
  yL X tv dv (.For (.Tuple [.Name x px, .Name y py] kt pt) (.Call (.Name f pf) [arg] [] pc) body [] pos) (se X.W.U pa [i,j] fb):=fun K env A E s₀ g N F s g' fl T e=>by
 have T:=T.r3 (DJ di T)
 refine oB e fun al e1 e2=>?_
 refine oB e1 fun p e1 ep=>?_
 obtain rfl:=PV.bJ ep
 refine wpAny_For ?_ (fun x=>mh rfl env x)
 refine Fg rfl ?_
 refine Bb T.kind (by unfold Be;refine af T.names ?_;exact hk) (D4 (mg:=X.W.mg) (T.gl▸X.W.g T.pre.wd) Zo ?_) (wW DK)
 refine eu (Zp _ T.pre.wd) fun o fd ho fW=>?_
 refine callWith_def fW ?_ (zI cn [] env)
 refine af (zI cn [] env) ?_
 refine Bi (zM (sr env A E s g.σ _ T.pre e1) fun u aa ai=>B4 ?_)
 obtain⟨k₁,ns,aG,_⟩:=ai
 have aO:=T.kg k₁
 refine aZ (wC k₁ _ _ ho) (Gl (Ey (mq A aa u al aO.room aO.pre.wd (aG.bO rfl)) fun res s₂ aj=>?_))
 obtain⟨a,L,gi,rfl,k₂,ha,hL,RP,JU,⟨oa,nG,dQ⟩,LO,Zq⟩:=aj
 refine wpAny_pyIter_gen LO ?_
 have ay:=aO.kg k₂
 have rJ:K a=none:=rQ aO.kept ha
 have B:qt X env K (oA K [a] s₂.heap) s₀ L a gi oa:=
  {up:=fun b o e=>by rw[jj fun hm=>nn (rJ.symm.trans (Af.mp hm▸e))];exact e
   out:=fun b o hb e=>by rw[jj fun hm=>hb (Af.mp hm)]at e;exact e
   ka:=by refine af (lz (Bn a)) ?_;exact nG
   fa:=dQ
   loc:=fun q=>by obtain⟨m,o,_,_,e,_⟩:=aO.loc;exact nn (hL.symm.trans (q▸e))
   cls:=fun x c h1 h2 q=>by obtain⟨⟨v,o,e,_⟩,_⟩:=aO.cls x c h1 h2;exact nn (hL.symm.trans (q▸e))
   g0:=by
    cases q:s₀.gens[gi]? with
    |none=>rfl
    |some z=>exact nn (JU.symm.trans (LJ aO.same gi z q))}
 refine JM (xt X tv dv K (oA K [a] s₂.heap) env A s₀ L a gi (dE 0 false al 0) [i,j] fb (g',fl)) (fun n s' I=>Zm di hx hy hb iv cq B T.ei I) ((dE 0 false al 0).length+1)
  ⟨g,N,_,[L],rfl,ay,Zq A _ aO.room (fun b o e=>?_) ?_ ⟨oa,B.ka⟩ (fun h hk=>T.ei h fun b o e=>hk b o (B.up b o e)),e2⟩
 ·by_cases hm:b=a
  ·rw[hm,B.ka]at e;exact hm▸e▸nG
  ·exact ay.kept b o (B.out b o hm e)
 ·rw[jj fun hm=>RP (Af.mp hm).symm];exact rQ aO.kept hL
end
theorem RU{D:Nat}{A:Am}{body:List Stmt}{env:Ea}(h:de (D+1) A):de D (A.in1.over (.func body env) []):=
 ⟨h.hh,by have:=h.depth;refine(?_:A.depth+Mi []+1+D<_);simp[Mi];exact xA,by
  have:=h.units
  refine(?_:A.units+1+0+3+8*D+60<cLine)
  lia⟩
theorem Zr{D:Nat}{A:Am}{body lb:List Stmt}{env:Ea}{t:Expr}{I:Value}{k:Ez->Le Fin}{p:B7}(h:de (D+1) A):de D (A.in1.over (.forLoop t I lb [] env) [.ret k none false [] (.func body env) p []]):=
 ⟨h.hh,by have:=h.depth;refine(?_:A.depth+Mi [(.func body env,p)]+0+D<_);have e:Mi [(Code.func body env,p)]=1:=rfl;rw[e];lia,by
  have:=h.units
  refine(?_:A.units+1+3+0+8*D+60<cLine)
  lia⟩
theorem Zs{X:Ctx}{name:Str}{params:Arguments}{scope:Scope}{fa:Addr}{P:EP}
  (hC:X.C.kn=scope.names) (fF:IZ X.C) (qu:X.C.n=4) (bu:scope.kind= .function) (ij:scope.isCoroutine=false) (gH:scope.isGenerator=true) (gZ:∀y∈scope.names,y.2≠ .cell) (iv:∀y∈scope.names,y.2≠ .free)
  (uB:scope.names.lookup P.xa=some .local)
  (dQ:∀h,X.W.Wd h->md h fa name params (oM P) scope)
  (cq:∀h,X.W.Wd h->h.NoLimit)
  (bw:∀pm cd doc u,Fq (Hc name params (oM P) scope pm cd doc) ⟨[u],[]⟩=pure [(P.xa,u)])
  (hE:∀(L:Addr) (Ka:Addr->Option Obj) (env:Ea),env.locals=L->env.scope=scope->Ka L=none->(∀h:As,(∀b o,Ka b=some o->h.get? b=some o)->X.W.Wd h)->RG X L Ka env P):
  xo X.W.prog X.W.w X.W.Wd (X.W.D+1) fa:=by
 intro A s u al aN fJ hu
 obtain⟨o,pm,cd,doc,ho,dK,gG⟩:=dQ _ fJ
 refine codeAny_call_generator (by have:=aN.depth;exact zW) ho dK ij gH rfl gG ?_
 rw[bw pm cd doc u]
 refine Aq (G1 (binds:=[(P.xa,u)]) gZ (fun y hy=>by rw[Af.mp hy];exact uB) (fun ai cn iC=>?_) bu)
 have up:Sub s.heap ai:=fun b o e=>iC.extBut b o (Bu (Bo e)) (Ak _ e)
 refine aZ ((cq _ fJ).keeps up) ?_
 generalize hL:s.heap.objs.size=L at*
 have vY:s.heap.get? L=none:=hL▸wD 0
 have ba:(envOf name scope L fa cd).locals=L:=rfl
 have eG:(envOf name scope L fa cd).scope=scope:=rfl
 have rt:(envOf name scope L fa cd).globals=mainGlobals:=rfl
 have n9:(envOf name scope L fa cd).builtins=builtinsNs:=rfl
 have LP:L<ai.objs.size:=cn.lt
 have n0:s.heap.get? ai.objs.size=none:=by
  cases e:s.heap.get? ai.objs.size with
  |none=>rfl
  |some o=>exact absurd (Bo (up _ _ e)) (Hg _)
 have LQ:∀(o':Obj),o'.isFreed=false->(ai.push o').get? ai.objs.size=some o':=fun o' h=>A0 _ h
 refine⟨ai.objs.size,L,s.gens.size,rfl,?_,n0,vY,(Bu LP).symm,by simp,?_,?_,?_⟩
 ·refine⟨_,_,_,rfl,fun b o e=>Ak _ (up b o e),fun i x hx=>?_,fun hb=>AllBare.push hb rfl⟩
  have hi:=(G5.mp hx).1
  rw[Array.getElem?_push_lt hi]
  exact(G5.mp hx).2▸rfl
 ·exact i12 _ (LQ _ rfl) rfl
 ·exact Py _ _ _ (LQ _ rfl) rfl rfl rfl
 ·intro A2 Ka uC iz su LR xy
  refine⟨?_,LR,⟨[],rfl⟩,⟨Bn L,?_⟩,fun b hb=>?_,iz,⟨.fresh (.func (oM P) (envOf name scope L fa cd)),?_,rfl,fun bC k1 k2=>⟨rfl,?_⟩⟩⟩
  ·exact Py _ _ _ (LQ _ rfl) rfl rfl rfl
  ·exact bU _ (cn.keeps fun b o e=>Ak _ e)
  ·rw[Af.mp hb]
   refine rk cn fun o' _ _ e' _=>?_
   exact⟨su,o',Ak _ e', .inl rfl⟩
  ·refine(?_:(s.gens.push _)[s.gens.size]?=_)
   simp
   rfl
  ·have H:=hE L Ka (envOf name scope L fa cd) ba eG su xy
   refine Ze (A:=A2.in1) (Ka:=Ka) (s₀:=bC) (s:=bC) (N:=fun _=> []) (F:=[]) H uC.hh (RU uC) (fun eA k p=>Zr uC) ?_ k2
   have qv:bC.heap.Ns L _:=(cn.keeps fun b o e=>Ak _ e).at' fun o e=>k1 L (Bn L) o e
   exact
    {fF:=fF
     kind:=by rw[eG];exact bu
     names:=by rw[eG];exact hC.symm
     gl:=rt
     bl:=n9
     room:=RU uC
     eI:=fun x k e1 e2=>by
      rw[hC]at e1
      rcases e2 with rfl|rfl
      ·exact absurd rfl (gZ _ (yO e1))
      ·exact absurd rfl (iv _ (yO e1))
     eE:=fun x y c e1 _=>by
      exfalso
      exact nn e1
     len:=by rw[qu];rfl
     loc:=⟨_,by rw[ba];exact qv⟩
     dy:=by rw[ba];exact wI rfl rfl
     cls:=fun x c e1 _=>by
      rw[hC]at e1
      exact absurd rfl (gZ _ (yO e1))
     rd:=fun x i p e1 e2=>by
      have hi:i=0/\p= .str al:=by
       match i,e2 with
       |0,e2=>cases e2;exact⟨rfl,rfl⟩
       |1,e2=>simp at e2
       |2,e2=>simp at e2
       |3,e2=>simp at e2
       |_+4,e2=>simp at e2
      refine ao hi fun aI aH=>?_
      clear hi
      subst aI
      subst aH
      have hx:x=P.xa:=fF.inj x P.xa 0 e1 H.hx
      subst hx
      refine⟨u, .inl ⟨by unfold Be;rw[eG];exact uB,_,by rw[ba];exact qv,by simp⟩,DA hu rfl⟩
     nd:=fun j a h=>nomatch h
     bQ:=fun i h=>nomatch h
     deep:=fun i h=>nomatch h
     kept:=Ry k2
     ei:=Rz su xy
     same:= .refl _
     book:=fun v b e=>by exact nn e
     foot:=fun a h=>nomatch h}
end Internal
namespace Internal
open PySem PySem.W PySem.Calls PyProof.Rows Builtin Builtin.ObjectAttr
theorem RV:Slot "function" "__setattr__" "object.__setattr__" := .of (owner:= "object") (n:= "__setattr__") (by rw[Bh,A4];kernel_rfl) (by decide+kernel) (by decide+kernel) (by decide+kernel)
  (by first|exact .inl (by decide+kernel)|exact .inr (by decide+kernel)) (by rw[Gh];kernel_rfl)
theorem Zt(a b c:Value):My "object.__setattr__" ⟨[a,b,c],[]⟩:=by kernel_rfl
theorem Zu:typeHasDict (.type "function")=true:=by decide+kernel
theorem Zv:finalisedInACycleAlone "function" =false:=by decide+kernel
section
variable{prog:Program}{w:Cn}{A:Am}{E:Value->Ab->Prop}{s:Ab}{name:Str}{v:Value}
set_option maxHeartbeats 1000000 in
theorem Zw{f:Addr}{fd:FuncData}{o:Obj}{Q:Unit->Ab->Prop}(ho:s.heap.get? f=some o)(hc:o.cls= .type "function") (DM:o.dict=none) (mr:o.data= .func fd) (hB:Cm (.type "function") name=pure none)
  (hq:∀h' tk,(∀b ob,b≠f->s.heap.get? b=some ob->h'.get? b=some ob)->h'.get? f=some {o with dict:=some s.heap.objs.size}->h'.Ns1 s.heap.objs.size (fun y=>if y=name then some v else none)->Q () {s with heap:=h',toks:=tk}):
  An (Aj prog w) A (setAttr (.ref f) name v) Q E s:=by
 obtain⟨h,g,d,t,os⟩:=s
 have hT:(⟨h,g,d,t+1,os⟩:Ab).TypeIs (.ref f) "function" :=⟨o,ho,hc⟩
 refine Ac (wpAny_mkText ?_)
 refine Ac (Hr hT RV (Gg RV hT F.entry_object_sa ?_ (Zt _ _ _)))
 have hd0:∀T:String,T= "function" ->Cm (.type T) name=pure none:=fun T h=>h▸hB
 unfold Builtin.«object.__setattr__»
 repeat (first|rewrite [refuse_eq]|wp_step)
 have mu:h.get? f=some o:=ho
 have rZ:f≠h.objs.size:=Bu (Bo mu)
 have qw:(h.push {cls:= .type "dict",data:= .dict #[]}).get? f=some o:=Ak _ mu
 rw[hc]
 rw[DM]
 (refine iR (by rw[Zu];decide) ?_;rw[mr])
 refine Ac (wpAny_alloc' ?_)
 refine Ac (wpAny_update' qw ?_)
 unfold dictMade
 refine iR (by rw[Zv];decide) ?_
 refine Ac (Aq (Aq ?_))
 have KV:((h.push {cls:= .type "dict",data:= .dict #[]}).update f fun o=>{cls:=o.cls,dict:=some h.objs.size,data:=o.data,slots:=o.slots}).get? h.objs.size
   =some {cls:= .type "dict",data:= .dict #[]}:=(Lv _ _ _ _ rZ.symm).trans (Heap.get?_push_at rfl rfl)
 have gW:((h.push {cls:= .type "dict",data:= .dict #[]}).update f fun o=>{cls:=o.cls,dict:=some h.objs.size,data:=o.data,slots:=o.slots}).Ns h.objs.size (fun _=>none):=
  ⟨_, #[],_,KV,rfl,fun e he=>absurd he (by simp),fun _=>rfl⟩
 refine(?_:An _ _ (storeInDict h.objs.size (.str name t) name v) _ _ _)
 unfold storeInDict newKeyGuard
 refine Ac (Aq (Ac (wpAny_nsSet1 (Heap.Ns1.of_empty gW) fun h' uv hs=>?_)))
 refine nT (uv.count (Ht name v Within.nil)) fun oD esD epD Zx Zy Zz=>?_
 refine Ac (wpAny_lookBehind Zx (by rw[Zy];exact pastItsLine_dict (Ah Zz (by rw[Bl,Kq,Bt];exact Dq _ _))) ?_)
 wp_walk
 have ZA:h'.get? f=some {cls:=o.cls,dict:=some h.objs.size,data:=o.data,slots:=o.slots}:=by
  refine(hs.2 f rZ).trans (Kv _ qw ?_)
  have pZ:=(Heap.get?_some_iff.mp mu).2
  obtain⟨oc,od,DN,osl⟩:=o
  cases DN<;>first|rfl|exact pZ
 exact i12 .none rfl (Aq (hq h' _ (fun b ob hb e=>(hs.2 b (Bu (Bo e))).trans ((Lv _ _ _ _ hb).trans (Ak _ e))) ZA uv))
end
theorem DO:Slot "function" "__getattribute__" "object.__getattribute__" := .of (owner:= "object") (n:= "__getattribute__") (by rw[Bh,A4];kernel_rfl) (by decide+kernel) (by decide+kernel) (by decide+kernel)
  (by first|exact .inl (by decide+kernel)|exact .inr (by decide+kernel)) (by rw[Gh];kernel_rfl)
theorem RW:Cm (.type "function") "__getattr__" =pure none:=by rw[Bh,A4];kernel_rfl
theorem ZC:J9 table "object.__getattribute__" =some Builtin.«object.__getattribute__» :=Gi (by kernel_rfl)
theorem ZD(a b:Value):My "object.__getattribute__" ⟨[a,b],[]⟩:=by kernel_rfl
section
variable{prog:Program}{w:Cn}{A:Am}{E:Value->Ab->Prop}{s:Ab}{name:Str}{v:Value}
theorem ZE{f d:Addr}{fd:FuncData}{o:Obj}{m:Str->Option Value}{pl:Le Bool}{Q:Value×List Value->Ab->Prop}(ho:s.heap.get? f=some o)(hc:o.cls= .type "function") (DM:o.dict=some d) (mr:o.data= .func fd) (hB:Cm (.type "function") name=pure none)
  (cn:s.heap.Ns d m) (hv:m name=some v) (hh:handedOut v=pure v) (hq:Q (v,[]) {s with toks:=s.toks+1}):
  An (Aj prog w) A (getMethod (.ref f) name pl) Q E s:=by
 obtain⟨h,g,d',t,os⟩:=s
 have hT:∀t',(⟨h,g,d',t',os⟩:Ab).TypeIs (.ref f) "function" :=fun t'=>⟨o,ho,hc⟩
 have f1:=hT t
 have f2:=hT (t+1)
 have f3:=DO.lookup
 have f4:=RW
 have LS:=F.canon_object_ga
 refine Ac (D8 f1 DO.lookup ?_)
 refine iR (by refine af LS ?_;decide) ?_
 refine Ac (D8 f1 RW ?_)
 refine iR (by decide) ?_
 refine Ac (D8 f1 hB ?_)
 refine Ac (m:=Ko (.ref f) name) ?_
 refine Ac (wpAny_mkText ?_)
 refine E2 (Ac (wpAny_typeOf f2 (Ac (B5 f3 ?_))))
 refine iR (by decide) ?_
 refine Ac (B5 (show hookBefore (.type "function")=pure none from rfl) ?_)
 unfold callGetattribute boundAndCalled
 rw[if_neg (by decide)]
 refine Ac (J0 (E2 ?_))
 refine af (DO.bind ..) ?_
 refine Ac (Aq (Gg DO f2 ZC ?_ (ZD _ _)))
 unfold Builtin.«object.__getattribute__»
 have mu:h.get? f=some o:=ho
 have LU:h.Ns d m:=cn
 refine Ac (B5 (show slotArgs "__getattribute__" 1 ⟨.ref f::[.str name t],[]⟩=pure (.ref f,[.str name t])from rfl) ?_)
 refine Ac (B5 (show attrName (.str name t)=pure name from rfl) ?_)
 refine Ac (wpAny_typeOf f2 ?_)
 refine Ac ?_
 refine Ac (B5 hB ?_)
 refine Ac (B5 (show getOf none=pure none from rfl) ?_)
 refine Ac (B5 (show dataDescriptor? none none=pure none from rfl) ?_)
 unfold ownThenClass inOwnDict Jk
 refine Ac (Ac (Ac (Ek mu ?_)))
 refine af mr ?_
 refine Ac (Ek mu ?_)
 refine af hc ?_
 refine af DM ?_
 refine Aq ?_
 refine wpAny_nsGet LU ?_
 refine af hv ?_
 refine Ac (Jl (Aq ?_))
 refine Aq ⟨v,rfl,?_⟩
 refine(?_:An _ _ (handedOut v) _ _ _)
 refine af hh ?_
 exact Aq (Aq hq)
end
theorem RX:Slot "function" "__get__" "function.__get__" := .of (owner:= "function") (n:= "__get__") (by rw[Bh,A4];kernel_rfl) (by decide+kernel) (by decide+kernel) (by decide+kernel)
  (by first|exact .inl (by decide+kernel)|exact .inr (by decide+kernel)) (by rw[Gh];kernel_rfl)
theorem ZF:Cm (.type "function") "__set__" =pure none:=by rw[Bh,A4];kernel_rfl
theorem ZG:Cm (.type "function") "__delete__" =pure none:=by rw[Bh,A4];kernel_rfl
theorem ZH:J9 table "function.__get__" =some Builtin.«function.__get__» :=Gi (by kernel_rfl)
theorem ZI(a b c:Value):My "function.__get__" ⟨[a,b,c],[]⟩:=by kernel_rfl
section
variable{prog:Program}{w:Cn}{A:Am}{E:Value->Ab->Prop}{s:Ab}{name:Str}{v:Value}
variable{nm q:Str}{C N x:Addr}{bs:List Value}{sn:List Str}{sub:List Value}{ab:Bool}{col:Option Bool}{dd:Option Addr}{k0 k1 k2 k3 k5:Option Value}{newId:String}
 {mN mA:Str->Option Value}
noncomputable abbrev nH(f x:Addr):Obj:={cls:= .type "method",data:= .fields #[.ref f, .ref x]}
theorem ZJ{f:Addr}{of:Obj}{Q:Value->Ab->Prop}{expr:Bool}
  (hC:s.heap.get? C=some (excClassObj nm q C N bs [.type "object"] true sn sub ab col dd k0 k1 k2 k3 k5 newId)) (hn:s.heap.Ns N mN) (ZK:mN "__getattribute__" =none) (ZL:mN "__getattr__" =none) (hf:mN name=some (.ref f)) (ZM:s.heap.get? f=some of) (jL:of.cls= .type "function")
  {y:Option Value} (hB:Cm (.type "object") name=pure y) (I:s.heap.Inst x C mA) (ZN:mA name=none) (LW:∃z,mA z≠none) (gZ:(["__module__", "__name__", "__qualname__", "__doc__", "__annotations__"]:List Str).contains name=false)
  (hq:Q (.ref s.heap.objs.size) {s with heap:=s.heap.push (nH f x),toks:=s.toks+1}):
  An (Aj prog w) A (Ko (.ref x) name expr) Q E s:=by
 obtain⟨h,g,d,t,os⟩:=s
 refine iQ (id I) fun o hx hc LX hd=>?_
 have DP:(⟨h,g,d,t+1,os⟩:Ab).TypeIs (.ref f) "function" :=⟨of,ZM,jL⟩
 unfold Ko getAttrBy
 repeat (first|(with_reducible refine Ek hx ?_;refine af hc ?_)|(with_reducible refine Io hC hn Ms F.lk_object_ga ?_;refine af ZK ?_)|wp_step)
 refine(?_:An _ _ ((runValue (.builtin "proto.getattr_hooked" ⟨[.ref x, .str name t],[]⟩)).onRaise (noteIf true (.ref x) (.str name t))) _ _ _)
 refine L5 (wpAny_runValue (codeAny_builtin F.plainObj_entry_getattr_hooked ?_))
 unfold Builtin.«proto.getattr_hooked»
 have DQ:h.get? x=some o:=hx
 refine Ac (B5 (show attrName (.str name t)=pure name from rfl) ?_)
 refine Ac ?_
 refine(?_:An _ _ (loadPart x (some headPart)>>=fun o=>pure o.cls) _ _ _)
 refine Ac (Ek DQ (Aq ?_))
 refine af hc ?_
 refine Ac (Ac (Io hC hn Ms hB ?_))
 refine af hf ?_
 refine Ac (D8 DP RX.lookup ?_)
 unfold dataDescriptor? takesStores
 refine Ac (Ac (Ac (D8 DP ZF ?_)))
 refine iR (by decide) ?_
 refine Ac (D8 DP ZG (Aq ?_))
 refine iR (by decide) ?_
 refine Aq ?_
 unfold ownThenClass inOwnDict Jk
 refine Ac (Ac (Ac (Ek DQ ?_)))
 split
 ·rename_i c gG
  exact absurd gG (LX c)
 repeat (first|(with_reducible refine Ek hx ?_;refine af hc ?_)|with_reducible refine Ek hC ?_|wp_step)
 rcases hd with⟨DM,hz⟩|⟨dx,jn,_,cn⟩
 ·refine aK LW fun z LW=>?_
  exact absurd (hz z) LW
 refine af jn ?_
 refine Aq ?_
 refine wpAny_nsGet cn.ns ?_
 refine af ZN ?_
 unfold copiedAttributeGuard
 dsimp only
 rw[if_neg (by rw[gZ];decide)]
 refine Ac (Aq ?_)
 refine Ac (Jl (Aq ?_))
 refine Ac (Io hC hn Ms F.lk_object_getattr ?_)
 refine af ZL ?_
 unfold bindWithHook bindTo
 refine Ac (E2 (Gg RX DP ZH ?_ (ZI _ _ _)))
 unfold Builtin.«function.__get__»
 repeat k_node
 refine i12 _ rfl (Aq ?_)
 refine(?_:An _ _ (handedOut _) _ _ _)
 exact Aq hq
end
end Internal
namespace Internal
open PySem PySem.W PySem.Calls PyProof.Rows Builtin
theorem ZO{M:M0}{A:Am}{E:Value->Ab->Prop}{s:Ab}{f:Value}{pos:List Value}{Q:Value->Ab->Prop}
  (hc:Cs M A (.call f ⟨pos,[]⟩) (fun r s'=>match r with| .ok (.ret v)=>Q v s'| .ok _=>False| .error e=>E e s') s):
  An M A (callBorrowed f pos) Q E s:=fun Γ p rT=>by
 have:=hc _ p rfl (rT.enter (.call f ⟨pos,[]⟩) none p (by intro x;exact nn x))
 refine Eq.mp ?_ this
 refine(?_:_=wpCode M _ _ _ _)
 congr 1
 funext r s'
 cases r with
 |error e=>rfl
 |ok f=>cases f<;>rfl
theorem ZP{prog:Program}{w:Cn}{A:Am}{m f:Addr}{x:Addr}{a:Args}{R:Ez->Ab->Prop}{s:Ab}(hb:s.heap.get? m=some (nH f x))
  (hq:Cs (Aj prog w) A (.call (.ref f) {a with pos:= .ref x::a.pos}) R s):Cs (Aj prog w) A (.call (.ref m) a) R s:=by
 refine codeAny_of_tree ?_
 refine(?_:An _ A.in1 (callAny (.ref m) a) _ _ _)
 refine Ac (Mh hb ?_)
 exact Aq ⟨rfl,hq⟩
noncomputable def DR(h:As)(it m:Addr):Prop:=∃o t,h.get? it=some o/\o.cls= .type "callable_iterator" /\o.data= .fields #[.ref m, .str ⟨#[]⟩ t, .bool false]
theorem LY:Slot "callable_iterator" "__next__" "callable_iterator.__next__" := .of (owner:= "callable_iterator") (n:= "__next__") (by rw[Bh,A4];kernel_rfl) (by decide+kernel) (by decide+kernel) (by decide+kernel)
  (by first|exact .inl (by decide+kernel)|exact .inr (by decide+kernel)) (by rw[Gh];kernel_rfl)
theorem ZQ:J9 table "callable_iterator.__next__" =some Builtin.«callable_iterator.__next__» :=Gi (by kernel_rfl)
theorem ZR(a:Value):My "callable_iterator.__next__" ⟨[a],[]⟩:=by kernel_rfl
theorem RY:Slot "callable_iterator" "__iter__" "callable_iterator.__iter__" := .of (owner:= "callable_iterator") (n:= "__iter__") (by rw[Bh,A4];kernel_rfl) (by decide+kernel) (by decide+kernel) (by decide+kernel)
  (by first|exact .inl (by decide+kernel)|exact .inr (by decide+kernel)) (by rw[Gh];kernel_rfl)
theorem ZS:J9 table "callable_iterator.__iter__" =some Builtin.«dict_keyiterator.__iter__» :=
 entryFor_alias (id':= "dict_keyiterator.__iter__") (by kernel_rfl) rfl (by decide+kernel) (by kernel_rfl)
theorem ZT(a:Value):My "callable_iterator.__iter__" ⟨[a],[]⟩:=by kernel_rfl
theorem ZU:Slot "method" "__call__" "method.__call__" := .of (owner:= "method") (n:= "__call__") (by rw[Bh,A4];kernel_rfl) (by decide+kernel) (by decide+kernel) (by decide+kernel)
  (by first|exact .inl (by decide+kernel)|exact .inr (by decide+kernel)) (by rw[Gh];kernel_rfl)
theorem ZV:builtinKind "iter" =none:=by decide+kernel
theorem ZW:plainId "iter" =true:=by decide+kernel
theorem ZX:J9 table "iter" =some Builtin.«iter» :=Gi (by kernel_rfl)
theorem ZY(a b:Value):My "iter" ⟨[a,b],[]⟩:=by kernel_rfl
section
variable{prog:Program}{w:Cn}{A:Am}{E:Value->Ab->Prop}{s:Ab}
theorem DR.typeIs{it m:Addr}(h:DR s.heap it m):s.TypeIs (.ref it) "callable_iterator" :=by obtain⟨o,t,h1,h2,_⟩:=h;exact⟨o,h1,h2⟩
theorem ZZ{it m:Addr}{Q:Value->Ab->Prop}(hit:DR s.heap it m)(h:Q (.ref it) s):An (Aj prog w) A (Jf (.ref it)) Q E s:=by
 refine wpAny_pyIter_slot hit.typeIs RY (Gg RY hit.typeIs ZS ?_ (ZT _))
 refine(?_:An _ _ (ret (.ref it)) _ _ s)
 exact Aq ⟨_,rfl, "callable_iterator",_,hit.typeIs,LY.lookup,h⟩
theorem Z0{m f x:Addr}{t:J3}{Q:Value->Ab->Prop}(hm:s.heap.get? m=some (nH f x))
  (hq:Q (.ref s.heap.objs.size) {s with heap:=s.heap.push {cls:= .type "callable_iterator",data:= .fields #[.ref m, .str ⟨#[]⟩ t, .bool false]} }):
  An (Aj prog w) A (call (.builtin "iter") [.ref m, .str ⟨#[]⟩ t]) Q E s:=by
 have hT:s.TypeIs (.ref m) "method" :=⟨_,hm,rfl⟩
 refine call_function_entry ZV ZW ZX (ZY _ _) ?_
 unfold Builtin.«iter»
 refine Ac (B5 (a:=[.ref m, .str ⟨#[]⟩ t]) (by first|rfl|kernel_rfl) ?_)
 refine Ac (D8 hT ZU.lookup ?_)
 refine iR (by decide) ?_
 refine Ac (Jl (Ac (Co (Aq ⟨_,rfl,hq⟩))))
theorem LZ{it:Addr}{o:Obj}{vs:Array Value}{i:Nat}{v:Value}{Q:Unit->Ab->Prop}(ho:s.heap.get? it=some o)(hd:o.data= .fields vs)(hi:i<vs.size)
  (hq:∀h' o' ux,Ci it s.heap h'->h'.get? it=some o'->o'.data= .fields ux->ux.size=vs.size->Q () {s with heap:=h'}):An (Aj prog w) A (setField (.ref it) i v) Q E s:=
 wpAny_setField ho hd hi (hq _ _ _ (Ep ..).extBut (Kv _ ho (Obj.isFreed_of_fields (Obj.data_mapFields hd _))) (Obj.data_mapFields hd _) (by simp))
theorem Z1{it m f x:Addr}{of:Obj}{fd:FuncData}{Q:Option Value->Ab->Prop}(hh:A.handled=none)(hit:DR s.heap it m)(hm:s.heap.get? m=some (nH f x))(hf:s.heap.get? f=some of)(fW:of.data= .func fd)
  (mv:Cs (Aj prog w) A.in1 (.call (.ref f) ⟨[.ref x],[]⟩) (fun res s'=>∃(c:List Nat) (t:J3),res= .ok (.ret (.str ⟨c.toArray⟩ t))/\(∀o,s.heap.get? it=some o->s'.heap.get? it=some o)/\s'.heap.get? m=some (nH f x)/\(∃qx sv,s'.heap.get? f=some qx/\qx.data= .func sv)/\
   (c=[]->∀h',Ci it s'.heap h'->Q none {s' with heap:=h'})/\(c≠ []->Q (some (.str ⟨c.toArray⟩ t)) s')) s):
  An (Aj prog w) A (Iv (.ref it)) Q E s:=by
 refine cM (id hit) fun o t0 ho hc hd=>?_
 refine Ac (J0 (Hr (name:=Str.ofString "__next__") hit.typeIs LY
  (Gg LY hit.typeIs ZQ ?_ (ZR _))))
 unfold Builtin.«callable_iterator.__next__»
 refine Ac (B5 (show slotArgs "__next__" 0 ⟨.ref it::[],[]⟩=pure (.ref it,[])from rfl) ?_)
 refine Ac (Jv ho hd (x:= .bool false) rfl ?_)
 refine iR (by decide) ?_
 refine Ac (Jv ho hd (x:= .ref m) rfl ?_)
 have bor:∀{A':Am} {E':Value->Ab->Prop} {s':Ab} {Q':Bool->Ab->Prop},s'.heap.get? m=some (nH f x)->(∃qx sv,s'.heap.get? f=some qx/\qx.data= .func sv)->Q' true s'->An (Aj prog w) A' (borrowsExactly (.ref m)) Q' E' s':=fun {A' E' s' Q'} h1 h2 hq=>by
  refine eu h2 fun qx sv h2 h3=>?_
  refine Ac (Mh h1 ?_)
  dsimp only
  refine ud (by decide) ?_
  refine(?_:An _ _ (load f>>=_) _ _ _)
  refine Ac (Mh h2 ?_)
  refine af h3 ?_
  exact Aq hq
 refine Ac (J0 ?_)
 refine Ac (bor hm ⟨of,fd,hf,fW⟩ ?_)
 refine ud rfl ?_
 refine ZO ?_
 refine ZP hm (Ey mv fun res s' h=>?_)
 refine BQ h fun c t bL k1 k2 k3 q1 q2=>?_
 clear h
 subst bL
 have mu:=k1 o ho
 refine Ac (Jv mu hd (x:= .bool false) rfl ?_)
 refine iR (by decide) ?_
 refine Ac (Jv mu hd (x:= .str ⟨#[]⟩ t0) rfl ?_)
 refine Ac (E2 (eqBool_str ?_))
 by_cases x4:c=[]
 ·subst x4
  refine iR (by decide) ?_
  refine Ac (Jl (Ac ?_))
  refine(?_:An _ _ (field (.ref it) 0>>=fun v=>slotLetsGo "callable_iterator.__next__" v _>>=fun _=>setField (.ref it) 0 .none>>=fun _=>setField (.ref it) 1 .none>>=fun _=>setField (.ref it) 2 (.bool true)) _ _ _)
  refine Ac (Jv mu hd (x:= .ref m) rfl (Ac ?_))
  unfold slotLetsGo
  refine Ac (bor k2 k3 ?_)
  refine ud rfl ?_
  refine Aq ?_
  refine Ac (LZ mu hd (by simp) fun ai jo Z2 MA g₁ MB x5=>?_)
  refine Ac (LZ (s:={s' with heap:=ai}) g₁ MB (by refine af x5 ?_;simp) fun aj Z3 MC oK cj MD ME=>?_)
  refine LZ (s:={s' with heap:=aj}) cj MD (by(refine af ME ?_;refine af x5 ?_);simp) fun aE Z4 MF MG Z5 Z6 Z7=>?_
  have x:Ci it s'.heap aE:=fun b ob hb e=>MG b ob hb (oK b ob hb (MA b ob hb e))
  refine(?_:An _ _ (newExc (.type "StopIteration") []>>=_) _ _ _)
  refine Ac ?_
  simp only[newExc,newTuple]
  refine Ac (Co ?_ (by size_fits))
  refine Ac (m:=Ji _ _) (B5 (a:=Ii) (by first|rfl|(simp only[Ji];rfl)) ?_)
  refine Co ?_ (by size_fits)
  simp only[raiseNew]
  refine Ac (wpAny_handled ?_)
  refine af (show A.in1.handled=none from hh) ?_
  refine Ac (Aq (wpAny_throw ?_))
  refine Ac (wpAny_isInstance (T:= "StopIteration") (b:=true) ⟨_,A0 _ rfl,rfl⟩ isSubtype_stop ?_)
  exact Aq (q1 rfl _ ((x.push _).push _))
 ·have cN:((⟨#[]⟩:Str)==⟨c.toArray⟩)=false:=by
   cases e:((⟨#[]⟩:Str)==⟨c.toArray⟩)with
   |false=>rfl
   |true=>
    have:=eq_of_beq e
    injection this with this
    exact absurd (by exact congrArg Array.toList this.symm) x4
  rw[cN,if_pos (by decide)]
  exact Aq ⟨_,rfl,Aq (q2 x4)⟩
end
end Internal
namespace Internal
open PySem PySem.W PySem.Calls PyProof.Rows
theorem wJ.toks{s₀ s:Ab}(x:wJ s₀ s)(h:As)(t:Nat):wJ s₀ {s with heap:=h,toks:=t}:=x.heap h t
structure RZ(s₂:Ab)(D L:Addr)(fp G F wr:List Addr):Prop where
 newD:s₂.heap.get? D=none
 dz:s₂.heap.get? L=none
 DL:D≠L
 Df:D∉fp
 Lf:L∉fp
 DG:D∉G
 LG:L∉G
 DF:D∉F
 LF:L∉F
 Dw:D∉wr
 Lw:L∉wr
inductive DS(s₂:Ab)(D L:Addr)(F wr:List Addr)(St J:Nat->As->Prop)(its:List (List PV))(ps:List PV)(n:Nat)(s':Ab):Prop
 |mk (i:Nat) (ys:List Value) (m':Str->Option Value) (hn:n+i=its.length+1) (hi:i<=its.length) (sm:wJ s₂ s') (k:∀b o,b∉F->b∉wr->s₂.heap.get? b=some o->s'.heap.get? b=some o) (st:St i s'.heap) (pl:s'.heap.PlainList D (Eu ys)) (vs:aq s'.heap (ps.take i) ys [])
  (ns:s'.heap.Ns L m') (j:J i s'.heap):DS s₂ D L F wr St J its ps n s'
inductive uD(F:List Addr)(J:Nat->As->Prop)(i:Nat)(p:PV)(s':Ab)(v:Value)(bC:Ab):Prop
 |mk (r:VR bC.heap p v []) (sm:wJ s' bC) (k:∀b o,b∉F->s'.heap.get? b=some o->bC.heap.get? b=some o) (j:J (i+1) bC.heap):uD F J i p s' v bC
theorem aq.bO{h h':As}{q:List PV}{u:List Value}(x:aq h q u []):aq h' q u []:=x.on fun a ha=>(Ar ha).elim
section
variable{prog:Program}{w:Cn}{target elt iter:Expr}{xs:List Str}{scope:Scope}{pos:B7}{env:Ea}{A:Am}{E:Value->Ab->Prop}{s₂:Ab}{cl:List (Str×Addr)}
  {I:Addr} {fp wr G F:List Addr} {its:List (List PV)} {St:Nat->As->Prop} {J:Nat->As->Prop} {ps:List PV}
theorem Z8{D L n:Nat}{s':Ab}{R:Ez->Ab->Prop}(B:RZ s₂ D L fp G F wr)(bu:scope.kind= .function)(gW:wR xs=true)(ba:∀x∈xs,scope.names.lookup x=some .local)(T:ef prog w A target xs I fp wr its St)(hsz:its.length<=ag)
  (uE:∀a∈wr,a∉G) (x6:∀a∈F,a∉fp) (qy:∀i h h',J i h->(∀a∈G,∀o,h.get? a=some o->h'.get? a=some o)->J i h') (hlen:ps.length=its.length)
  (cb:∀(i:Nat) (it:List PV) (p:PV) (L:Addr) (s':Ab) (m':Str->Option Value) (E':Value->Ab->Prop),its[i]?=some it->ps[i]?=some p->J i s'.heap->s'.heap.Ns L m'->An (Aj prog w) A (eval elt (Dy scope cl L env)) (uD F J i p s') E' s')
  (hR:∀s' m',wJ s₂ s'->(∀b o,b∉F->b∉wr->s₂.heap.get? b=some o->s'.heap.get? b=some o)->s'.heap.Ns L m'->VR s'.heap (.list ps) (.ref D) [D]->J its.length s'.heap->R (.ok .next) s') (x:DS s₂ D L F wr St J its ps n s'):
  IK prog w A elt target [] I (.ref D) (Dy scope cl L env) R (DS s₂ D L F wr St J its ps) n s':=by
 obtain⟨i,ys,m',hn,hi,dM,k,nA,bX,bg,cn,hJ⟩:=x
 rcases Jh hi with aY|rfl
 ·have R0:i<ps.length:=hlen▸aY
  refine zM (T.item i _ s' _ _ _ (Ap aY) nA fun us ms aj cz ja oh x7 dJ bE=>?_) fun r aa h=> .inr h
  refine Qj (by simp[Dy,Fz,bu]) xs us _ _ (by refine cu x7 ?_;exact ja.length.symm) gW (fun x hx=>lookup_relabel_local (ba x hx)) (cn.at' fun o e=>bE _ o B.Lw e) fun aE gk oj ik eK qa _=>?_
  have eK:Ci L aj aE:=eK
  refine wpAny_tests_nil ?_
  refine af (if_pos rfl) ?_
  have MH:∀b o,b∉wr->b≠L->s'.heap.get? b=some o->aE.get? b=some o:=fun b o h1 h2 e=>eK b o h2 (bE b o h1 e)
  refine zM (cb i _ _ L _ oj _ (Ap aY) (Ap R0) (qy _ _ _ hJ fun a ha o e=>MH a o (fun q=>uE a q ha) (fun q=>B.LG (q▸ha)) e) ik) fun v dh eD=>?_
  obtain⟨i7,x8,gB,MI⟩:=eD
  refine Ge (hsz:=by(refine af A5 ?_;refine af bg.length ?_;refine af Ca ?_;refine af Bt ?_);exact Ah (Gp ..) (Ah hi hsz)) (bX.at fun o e=>gB D o B.DF (MH D o B.Dw B.DL e)) fun gC jb gm=>?_
  refine⟨its.length-i,by(refine cu (Nat.add_sub_cancel (n:=n) (m:=i)) ?_;refine af hn ?_;refine af (Nat.succ_sub hi) ?_);exact Bx _,i+1,ys++[v],oj,by(refine cu (D0 ..) ?_;exact af (Nat.sub_add_cancel hi) rfl),aY,((dM.toks aE gk).trans x8).heap gC dh.toks,fun b o h1 h2 e=>?_,?_,Jt ..▸jb,?_,(ik.at' fun o e=>gB L o B.LF e).sameBut gm (H0 B.DL),qy _ _ _ MI fun a ha o e=>gm.extBut a o (fun q=>B.DG (q▸ha)) e⟩
  ·exact gm.extBut b o (fun q=>nn (B.newD.symm.trans (q▸e))) (gB b o h1 (MH b o h2 (fun q=>nn (B.dz.symm.trans (q▸e))) (k b o h1 h2 e)))
  ·exact T.frame _ _ _ dJ fun b hb o e=>gm.extBut b o (fun q=>B.Df (q▸hb)) (gB b o (fun q=>x6 b q hb) (eK b o (fun q=>B.Lf (q▸hb)) e))
  ·rw[List.take_add_one,Ap R0]
   exact aq.append (bg.bO (h':=gC)) (aq.one (i7.on fun a ha=>(Ar ha).elim))
 ·refine T.done _ _ _ nA fun aj cz bE=> .inl ⟨rfl,?_⟩
  rw[<-hlen,Ib]at bg
  exact hR _ m' (dM.heap aj cz) (fun b o h1 h2 e=>bE b o h2 (k b o h1 h2 e)) (cn.at' fun o e=>bE _ o B.Lw e) (.list (bX.at fun o e=>bE D o B.Dw e) bg.bO) (qy _ _ _ hJ fun a ha o e=>bE a o (fun q=>uE a q ha) e)
theorem Z9{RR:Value->Addr->Ez->Ab->Prop}{iD ai:As}{D tk:Nat}{m:Str->Option Value}{oL:Obj}(hL:iD.objs.size=D+1)(MJ:iD.get? D=some {cls:= .type "list",dict:=none,data:= .seq ([]:List Value).toArray}) (gb:∀b o,s₂.heap.get? b=some o->iD.get? b=some o) (newD:s₂.heap.get? D=none) (dz:s₂.heap.get? (D+1)=none)
  (bu:scope.kind= .function) (gW:wR xs=true) (ba:∀x∈xs,scope.names.lookup x=some .local)
  (cZ:∀b∈fp,∃o,s₂.heap.get? b=some o) (T:ef prog w A target xs I fp wr its St) (st:St 0 s₂.heap) (hsz:its.length<=ag)
  (hG:∀a∈G,∃o,s₂.heap.get? a=some o) (DT:∀a∈F,a∈G) (uE:∀a∈wr,a∉G) (x6:∀a∈F,a∉fp)
  (qy:∀i h h',J i h->(∀a∈G,∀o,h.get? a=some o->h'.get? a=some o)->J i h') (MK:J 0 s₂.heap) (hlen:ps.length=its.length)
  (cb:∀(i:Nat) (it:List PV) (p:PV) (L:Addr) (s':Ab) (m':Str->Option Value) (E':Value->Ab->Prop),its[i]?=some it->ps[i]?=some p->J i s'.heap->s'.heap.Ns L m'->
   An (Aj prog w) A (eval elt (Dy scope cl L env)) (uD F J i p s') E' s')
  (gV:∀D L s' m',s₂.heap.get? L=none->s₂.heap.get? D=none->D≠L->wJ s₂ s'->(∀b o,b∉F->b∉wr->s₂.heap.get? b=some o->s'.heap.get? b=some o)->s'.heap.Ns L m'->VR s'.heap (.list ps) (.ref D) [D]->J its.length s'.heap->RR (.ref D) L (.ok .next) s')
  (cn:ai.Ns iD.objs.size m) (iC:Heap.SameBut iD.objs.size (iD.push oL) ai):
  Cs (Aj prog w) A (.compStart (.ListComp elt [⟨target,iter,[],0⟩] scope pos) 0 (.ref I) (.ref D) (Dy scope cl iD.objs.size env)) (RR (.ref D) iD.objs.size) {s₂ with heap:=ai,toks:=tk}:=by
 rw[hL]at cn iC⊢
 have old:∀b o,s₂.heap.get? b=some o->ai.get? b=some o:=fun b o e=>iC.extBut b o (fun q=>nn (dz.symm.trans (q▸e))) (Ak _ (gb b o e))
 have off:∀{l:List Addr} {a:Addr},(∀b∈l,∃o,s₂.heap.get? b=some o)->s₂.heap.get? a=none->a∉l:=fun h e hm=>wO (h _ hm) e rfl
 have B:RZ s₂ D (D+1) fp G F wr:=⟨newD,dz,Bu (Bx _),off cZ newD,off cZ dz,off hG newD,off hG dz,fun h=>off hG newD (DT _ h),fun h=>off hG dz (DT _ h),fun h=>off cZ newD (T.sub _ h),fun h=>off cZ dz (T.sub _ h)⟩
 have qz:=T.frame _ _ _ st fun b _ o e=>old b o e
 have loop:=Qh (iter:=iter) (scope:=scope) (pos:=pos) (R:=RR (.ref D) (D+1)) (DS s₂ D (D+1) F wr St J its ps) (fun n s' x=>Z8 B bu gW ba T hsz uE x6 qy hlen cb (fun s' m'=>gV D (D+1) s' m' dz newD B.DL) x) (its.length+1) (s:={s₂ with heap:=ai,toks:=tk})
  ⟨0,[],_,rfl,Dv _,⟨ai,_,s₂.gens,rfl, .rfl' _⟩,fun b o _ _ e=>old b o e,qz,⟨_,iC.extBut _ _ B.DL (Ak _ MJ)⟩, .nil,cn,qy _ _ _ MK fun b _ o e=>old b o e⟩
 exact codeAny_compStart_list loop (T.self 0 _ _ _ qz loop)
theorem R1{RR:Value->Addr->Ez->Ab->Prop}
  (bu:scope.kind= .function) (gW:wR xs=true) (ba:∀x∈xs,scope.names.lookup x=some .local) (aS:∀y∈scope.names,y.2≠ .cell)
  (cZ:∀b∈fp,∃o,s₂.heap.get? b=some o) (T:ef prog w A target xs I fp wr its St) (st:St 0 s₂.heap) (hsz:its.length<=ag)
  (hG:∀a∈G,∃o,s₂.heap.get? a=some o) (DT:∀a∈F,a∈G) (uE:∀a∈wr,a∉G) (x6:∀a∈F,a∉fp)
  (qy:∀i h h',J i h->(∀a∈G,∀o,h.get? a=some o->h'.get? a=some o)->J i h') (MK:J 0 s₂.heap) (hlen:ps.length=its.length)
  (cb:∀(i:Nat) (it:List PV) (p:PV) (L:Addr) (s':Ab) (m':Str->Option Value) (E':Value->Ab->Prop),its[i]?=some it->ps[i]?=some p->J i s'.heap->s'.heap.Ns L m'->
   An (Aj prog w) A (eval elt (Dy scope cl L env)) (uD F J i p s') E' s')
  (gV:∀D L s' m',s₂.heap.get? L=none->s₂.heap.get? D=none->D≠L->wJ s₂ s'->(∀b o,b∉F->b∉wr->s₂.heap.get? b=some o->s'.heap.get? b=some o)->s'.heap.Ns L m'->VR s'.heap (.list ps) (.ref D) [D]->J its.length s'.heap->RR (.ref D) L (.ok .next) s'):
  An (Aj prog w) A (newList []) (fun acc av=>An (Aj prog w) A (Hz scope env.globals cl [] env.qual none .none (some env)) (fun bF aV=>
   Cs (Aj prog w) A (.compStart (.ListComp elt [⟨target,iter,[],0⟩] scope pos) 0 (.ref I) acc {bF with scope:=Fz scope env}) (RR acc bF.locals) aV) E av) E s₂:=by
 refine Co (G1 aS (by intro y hy;simp at hy) (fun ai jc jd=>?_) bu)
 have hL:(s₂.heap.push {cls:= .type "list",dict:=none,data:= .seq ([]:List Value).toArray}).objs.size=s₂.heap.objs.size+1:=Gf ..
 have MJ:=A0 (h:=s₂.heap) (o:={cls:= .type "list",dict:=none,data:= .seq ([]:List Value).toArray}) rfl
 have gb:∀b o,s₂.heap.get? b=some o->(s₂.heap.push {cls:= .type "list",dict:=none,data:= .seq ([]:List Value).toArray}).get? b=some o:=fun b o e=>Ak _ e
 have newD:s₂.heap.get? s₂.heap.objs.size=none:=wD 0
 have dz:s₂.heap.get? (s₂.heap.objs.size+1)=none:=wD 1
 exact Z9 (s₂:=s₂) hL MJ gb newD dz bu gW ba cZ T st hsz hG DT uE x6 qy MK hlen cb gV jc jd
end
noncomputable abbrev R2(sg:Str)(p1 dY gK:B7):Expr:= .Call (.Attribute (.Name sg p1) "pop" dY) [] [] gK
noncomputable abbrev ML(sg si sz:Str)(jk:Nat)(jp ap p1 dY gK px p2 p3 gJ sp lp cp:B7)(aJ:Scope):Expr:=
 .Call (.Attribute (.Constant (.str "") jk jp) "join" ap) [.ListComp (R2 sg p1 dY gK) [⟨.Name si px, .Subscript (.Name sg p2) (.Slice none (some (.Name sz p3)) none gJ) sp,[],0⟩] aJ lp] [] cp
noncomputable def dC(cs:List Nat):List PV:=cs.map fun c=>PV.str [c]
theorem R3:∀cs:List Nat,PV.strs (dC cs)=some (cs.map fun c=> [c])
 |[]=>rfl
 |c::r=>by refine(?_:(PV.strs (dC r)).map _=_);rw[R3 r];rfl
theorem MN:∀cs:List Nat,(dC cs).all PV.bo=true
 |[]=>rfl
 |c::r=>by refine(?_:(PV.bo (.str [c])&&(dC r).all PV.bo)=true);rw[MN r];rfl
theorem R4:∀cs:List Nat,lh [] (cs.map fun c=> [c])=cs
 |[]=>rfl
 |[c]=>rfl
 |c::d::r=>by
  refine(?_:[c]++[]++lh [] ((d::r).map fun c=> [c])=_)
  rw[R4 (d::r)];rfl
theorem zTn{kn:List (Str×Cy)}{sc:List (Str×Cy)}{x:Str}(h:sc.lookup x=some .free)(hc:kn.lookup x≠some .cell):(gU kn sc).lookup x=some .free:=by
 induction sc with
 |nil=>exact nn h
 |cons z r ih=>
  obtain⟨n,k₁⟩:=z
  refine(?_:E0 x ((if(k₁== .free&&kn.lookup n==some .cell)=true then(n,Cq)else(n,k₁))::gU kn r)=_)
  rw[A8]at h
  cases hx:x==n with
  |true=>
   rw[hx]at h
   have lq:(kn.lookup n==some .cell)=false:=eq_of_beq hx▸beq_false_of_ne hc
   (refine af lq ?_;refine af (Bool.and_false ..) ?_;refine af (if_neg Ce) ?_;refine af A8 ?_;refine af hx ?_);exact h
  |false=>
   rw[hx]at h
   cases hq:(k₁== .free&&kn.lookup n==some .cell)with
   |true=>rw[if_pos rfl,A8,hx];exact ih h
   |false=>rw[if_neg Ce,A8,hx];exact ih h
theorem R5{scope:Scope}{env:Ea}(hk:env.scope.kind= .function):(Fz scope env).names=gU env.scope.names scope.names:=by
 unfold Fz gU
 refine(?_:scope.names.map _=_)
 refine Cj fun z _=>?_
 obtain⟨n,kk⟩:=z
 refine(?_:(if(kk==Cp&&env.scope.kind== .function&&env.kindOf n==some .cell)=true then _ else _)=_)
 have e1:(env.scope.kind==Hp)=true:=by refine af hk ?_;rfl
 refine af e1 ?_
 refine af (Jz ..) ?_
 rfl
structure yEd(h:As)(lam cell:Addr)(sg si sz:Str)(jk:Nat)(jp ap p1 dY gK px p2 p3 gJ sp lp cp:B7)(aJ az:Scope)(params:Arguments):Prop where
 obj:∃o name qual pm sD fK,h.get? lam=some o/\o.data= .func (kla_fn name qual params (ML sg si sz jk jp ap p1 dY gK px p2 p3 gJ sp lp cp aJ) az [(sg,cell)] pm sD fK)/\h.CodeRec sD qual
structure DU(W:bP)(sg si sz:Str)(ap p1 dY gK px p2 p3 gJ sp lp cp:B7)(aJ az:Scope)(params:Arguments):Prop where
 k1:az.kind= .function
 co:az.isCoroutine=false
 gen:az.isGenerator=false
 n1:az.names=[(sz, .local),(sg, .free)]
 k2:aJ.kind= .function
 l2:aJ.names.lookup si=some .local
 f2:aJ.names.lookup sg=some .free
 c2:aJ.names.all (fun y=>y.2 != .cell&&(y.2 != .local||aJ.names.lookup y.1==some .local)&&(y.2 != .free||y.1==sg))=true
 bad:bad sg=false
 ne:sz≠sg
 line:(ap.endLine==cp.line)=true/\(dY.endLine==gK.line)=true
 bind:∀name qual body pm sD fK cl v,Fq (kla_fn name qual params body az cl pm sD fK) ⟨[v],[]⟩=pure [(sz,v)]
 it:ax W ⟨az.names,[(sg,0),(sz,1)],2⟩ (.Subscript (.Name sg p2) (.Slice none (some (.Name sz p3)) none gJ) sp) (.bS (.var 0) .no (.yes (.var 1)) .no)
inductive kG(h:As)(l:Addr)(cs:List Nat):Prop
 |mk (us:List Value) (e:h.PlainList l (Eu us)) (r:aq h (dC cs.reverse) us []):kG h l cs
theorem kG.at'{h h':As}{l:Addr}{cs:List Nat}(x:kG h l cs)(k:∀o,h.get? l=some o->h'.get? l=some o):kG h' l cs:=by
 obtain⟨us,h1,h2⟩:=x
 exact⟨us,h1.at k,h2.bO⟩
noncomputable def oR(cell l:Addr)(cs:List Nat)(i:Nat)(h:As):Prop:=h.IsCell cell (some (.ref l))/\kG h l (cs.drop i)
theorem oR.up{h h':As}{cell l:Addr}{cs:List Nat}{i:Nat}(j:oR cell l cs i h)(k:∀a∈[cell,l],∀o,h.get? a=some o->h'.get? a=some o):oR cell l cs i h':=
 ⟨j.1.elim fun o e=>⟨o,k _ (.head _) _ e.1,e.2⟩,j.2.at' fun o e=>k _ (.tail _ (.head _)) o e⟩
inductive MO(l:Addr)(cs:List Nat)(s:Ab)(v:Value)(s':Ab):Prop
 |mk (D:Addr) (e:v= .ref D) (r:VR s'.heap (.list (dC (cs.take 1))) (.ref D) [D]) (sm:wJ s s') (k:∀b o,b≠l->s.heap.get? b=some o->s'.heap.get? b=some o) (j:kG s'.heap l (cs.drop 1)):MO l cs s v s'
inductive R6(l:Addr)(cs:List Nat)(s:Ab)(res:Ez)(s':Ab):Prop
 |mk (t:J3) (e:res= .ok (.ret (.str ⟨(cs.take 1).toArray⟩ t))) (sm:wJ s s') (k:∀b o,b≠l->s.heap.get? b=some o->s'.heap.get? b=some o) (j:kG s'.heap l (cs.drop 1)):R6 l cs s res s'
section
variable{W:bP}{sg si sz:Str}{jk:Nat}{jp ap p1 dY gK px p2 p3 gJ sp lp cp:B7}{aJ az:Scope}{params:Arguments}
theorem zYu{A:Am}{E:Value->Ab->Prop}{s:Ab}{env:Ea}{cell l:Addr}{c:Nat}{cs:List Nat}(H:DU W sg si sz ap p1 dY gK px p2 p3 gJ sp lp cp aJ az params)
  (hk:env.scope.kind= .function) (hf:env.kindOf sg=some .free) (hc:env.cells.lookup sg=some cell) (j:oR cell l (c::cs) 0 s.heap) (hsz:cs.length+1<=ag) (cN:cell≠l):
  An (Aj W.prog W.w) A (eval (R2 sg p1 dY gK) env) (uD [l] (oR cell l (c::cs)) 0 (.str [c]) s) E s:=by
 obtain⟨aS,us,bX,bg⟩:=j
 rw[C3,show dC (c::cs).reverse=dC cs.reverse++[.str [c]]by simp[dC]]at bg
 refine vz bg.snoc fun uw y r' n ig e3 e4 e5 e6=>?_
 subst ig
 refine Call_method0 (wU rfl _ env _) H.line.2 (Bp (yP hk (.inr ⟨.inr hf,cell,hc,aS⟩) ?_ (cU H.bad)) (wW H.bad))
 refine lg ("list") _ Dz Fd Ia bX.isList.typeIs (CN bX) (Cv rfl (I5 ?_))
 refine QM bX (by have:=e3.length;simp[dC]at this;lia) fun h' eU eV=>?_
 obtain rfl:=KC e5
 obtain rfl:=KC e6
 exact⟨e4.bO rfl,⟨h',_,s.gens,rfl, .rfl' _⟩,fun b o hb e=>eV b o (fun q=>hb (q▸ .head _)) e,aS.elim fun o e=>⟨o,eV _ _ cN e.1,e.2⟩,uw,eU,e3.bO⟩
theorem MP{β:Type}{x a:Str}{i k:β}{l:List (Str×β)}(e:E0 x ((a,i)::l)=some k):(a=x/\i=k)\/((x==a)=false/\l.lookup x=some k):=by
 rw[A8]at e
 cases h:x==a with
 |true=>rw[h]at e;exact .inl ⟨(eq_of_beq h).symm,Aa e⟩
 |false=>rw[h]at e;exact .inr ⟨rfl,e⟩
theorem zSw(cs:List Nat):cs.drop (min 1 cs.length)=cs.drop 1:=by
 cases cs with
 |nil=>rfl
 |cons c r=>rw[show min 1 (c::r).length=1 by simp]
theorem R7{β:Type}{x a:Str}{i k:β}(e:E0 x [(a,i)]=some k):a=x/\i=k:=(MP e).elim id fun h=>nn h.2
theorem yDv{A:Am}{env:Ea}{s:Ab}{ai:As}{tk:Nat}{cell l:Addr}{cs:List Nat}{t:J3}{m:Str->Option Value}(H:DU W sg si sz ap p1 dY gK px p2 p3 gJ sp lp cp aJ az params)(aN:de W.D A)(wd:W.Wd ai)(eG:env.scope=az)(rt:env.globals=mainGlobals)(n9:env.builtins=builtinsNs)
  (lu:env.cells.lookup sg=some cell) (kf:env.kindOf sg=some .free) (cn:ai.Ns env.locals m) (hm:m sz=some (.int 1 t)) (aS:ai.IsCell cell (some (.ref l))) (hs:kG ai l cs):
  Pre W ⟨az.names,[(sg,0),(sz,1)],2⟩ env A [some (.list (dC cs.reverse)),some (.int 1)] {s with heap:=ai,toks:=tk} where
 kind:=by refine af eG ?_;exact H.k1
 names:=by exact af eG rfl
 gl:=rt
 bl:=n9
 room:=aN
 len:=rfl
 rd:=fun x i p k e1 e2 e3 e4=>by
  obtain⟨us,bX,bg⟩:=hs
  rcases MP e3 with⟨rfl,rfl⟩|⟨_,e3⟩
  ·obtain rfl:=Aa (Aa e4)
   exact nr (.ref l) (l::[]) (.inr ⟨.inr kf,cell,lu,aS⟩) (.list bX bg)
  ·refine ao (R7 e3) fun aI aH=>?_
   subst aI
   subst aH
   obtain rfl:=Aa (Aa e4)
   exact nr (.int 1 t) ([]) (.inl ⟨by unfold Be;(refine af eG ?_;refine af H.n1 ?_);simp,_,cn,hm⟩) (.int ..)
 wd:=wd
 eI:=fun x k e1 e2=>by
  have e1:az.names.lookup x=some k:=e1
  rw[H.n1]at e1
  rcases MP e1 with⟨rfl,rfl⟩|⟨_,e1⟩
  ·rcases e2 with h|h<;>cases h
  ·refine ao (R7 e1) fun aI aH=>?_
   subst aI
   subst aH
   exact bU cell lu
theorem yEv{U:Uc}{cs:List Nat}(hsz:cs.length<=ag):ev U (.bS (.var 0) .no (.yes (.var 1)) .no) [some (.list (dC cs.reverse)),some (.int 1)]=some (.list (dC (cs.reverse.take 1))):=by
 have x9:(dC cs.reverse).length=cs.length:=by rw[dC,Az,F0]
 refine(?_:(if(dC cs.reverse).length<=ag then some _ else none)=_)
 refine wI (by rw[x9];exact hsz) ?_
 refine congrArg some (congrArg PV.list ?_)
 refine(?_:((dC cs.reverse).drop 0).take (min 1 (dC cs.reverse).length-0)=_)
 rw[C3,x9,dC,<-List.map_take]
 refine congrArg (Bv _) ?_
 cases cs with
 |nil=>rfl
 |cons c r=>rw[show min 1 (c::r).length-0=1 by simp]
theorem zZ5{A:Am}{E:Value->Ab->Prop}{env:Ea}{s:Ab}{kn:List (Str×Cy)}{cell l:Addr}{cs:List Nat}{elt it:Expr}(MQ:aJ.kind= .function)(l2:aJ.names.lookup si=some .local)(f2:aJ.names.lookup sg=some .free)
  (c2:aJ.names.all (fun y=>y.2 != .cell&&(y.2 != .local||aJ.names.lookup y.1==some .local)&&(y.2 != .free||y.1==sg))=true)
  (cb:∀(env:Ea) (E:Value->Ab->Prop) (s:Ab) (c:Nat) (r:List Nat),env.scope.kind= .function->env.kindOf sg=some .free->env.cells.lookup sg=some cell->oR cell l (c::r) 0 s.heap->r.length+1<=ag->An (Aj W.prog W.w) A (eval elt env) (uD [l] (oR cell l (c::r)) 0 (.str [c]) s) E s)
  (hit:ax W ⟨kn,[(sg,0),(sz,1)],2⟩ it (.bS (.var 0) .no (.yes (.var 1)) .no)) (ya:∀x,Ej it env x=pure x) (P:Pre W ⟨kn,[(sg,0),(sz,1)],2⟩ env A [some (.list (dC cs.reverse)),some (.int 1)] s)
  (kf:env.kindOf sg=some .free) (lu:env.cells.lookup sg=some cell) (hj:oR cell l cs 0 s.heap) (hsz:cs.length<=ag):
  An (Aj W.prog W.w) A (eval (.ListComp elt [⟨.Name si px,it,[],0⟩] aJ lp) env) (MO l cs s) E s:=by
 refine af (L4 ..) ?_
 have h2:=fun y hy=>b2 (Al.mp c2 y hy)
 obtain⟨cl,fk,MR⟩:=CF (scope:=aJ) (env:=env) fun y hy hf=>by
  have h:=(h2 y hy).2
  rw[hf]at h
  exact bU cell ((show y.1=sg from eq_of_beq h)▸lu)
 have gA:∀a∈[cell,l],∃o,s.heap.get? a=some o:=fa (hj.1.elim fun o e=>⟨o,e.1⟩) (fa (by obtain⟨_,⟨_,e⟩,_⟩:=hj.2;exact⟨_,e⟩) gD)
 refine Fw (use:=none) rfl ya fk MQ (fun y hy hl=>by
  have h:=(b2 (h2 y hy).1).2
  rw[hl]at h
  exact eq_of_beq h) (zM (hit env _ _ _ _ _ P (yEv hsz)) fun xv aa fh=>?_)
 obtain⟨k₁,ns,rv,fr⟩:=fh
 have fr:=fr (MN _)
 refine zM (IT (x:=si) (px:=px) P.room.hh k₁ rv) fun it s₂ yb=>?_
 obtain⟨I,fp,wr,St,rfl,aQ,eJ,cZ,T,st,kI⟩:=yb
 have nF:((dC (cs.reverse.take 1)).map fun p=> [p]).length=min 1 cs.length:=by simp[dC]
 have up:=wC aQ
 refine R1 (RR:=fun acc L=>compPost (Aj W.prog W.w) A _ none (MO l cs s) acc L) (G:=[cell,l]) (F:=[l]) (J:=oR cell l cs) (ps:=dC (cs.take 1)) MQ rfl (fa l2 gD) (fun y hy q=>by
   have h:=(b2 (h2 y hy).1).1
   rw[q]at h;exact ft h) cZ T st (by refine af nF ?_;exact Ah (Gp ..) (by decide)) (fun a ha=>(gA a ha).elim fun o e=>⟨o,up _ _ e⟩) (fun a ha=> .tail _ ha) (fun a ha hg=>wO (gA a hg) (eJ a ha) rfl) (fun a ha hf=>?_) (fun i h h' hj hk=>hj.up hk) (hj.up fun a _ o e=>up a o e) (by refine af nF ?_;simp[dC]) (fun i it p L s' m' E' hi hp yc hn=>?_) (fun D L s' m' nL nD MS dM yd hn hv yc=>?_)
 ·exact(kI a hf).elim (fun h=>wO (gA a (.tail _ ha)) h rfl) fun h=>wO (gA a (.tail _ ha)) (fr.new a h) rfl
 ·have vZ:i<min 1 cs.length:=nF▸(Ba.mp hi).1
  cases cs with
  |nil=>exact absurd vZ (by simp)
  |cons c r=>
   obtain rfl:i=0:=Nat.lt_one_iff.mp (Ed vZ (Gp ..))
   obtain rfl:PV.str [c]=p:=Aa hp
   refine cb _ _ _ c r MQ ?_ (MR sg cell lu (yO f2)) yc hsz
   refine(?_:(Fz aJ env).names.lookup sg=_)
   refine af (R5 P.kind) ?_
   exact zTn f2 (by refine af (show env.scope.names.lookup sg=some .free from kf) ?_;exact fun q=>Ip (Aa q))
 ·refine i12 m' hn (fun h' dt=>⟨D,rfl,hv.on fun a ha o e=>dt.extBut a o (by refine af (Af.mp ha) ?_;exact MS) e,(((wJ.refl s).kg aQ).trans dM).heap h' _,fun b o hb e=>?_,?_⟩)
  ·exact dt.extBut b o (fun q=>nn (nL.symm.trans (q▸up b o e))) (yd b o (fun h=>hb (Af.mp h)) (fun hw=>nn ((eJ b hw).symm.trans e)) (up b o e))
  ·have CC:=yc.2
   rw[nF,zSw]at CC
   exact CC.at' fun o e=>dt.extBut l o (fun q=>(gA l (.tail _ (.head _))).elim fun o e=>nn (nL.symm.trans (q▸up l o e))) e
theorem zS0{A:Am}{s:Ab}{lam cell l:Addr}{cs:List Nat}{t:J3}(H:DU W sg si sz ap p1 dY gK px p2 p3 gJ sp lp cp aJ az params)
  (aN:de (W.D+1) A) (wd:W.Wd s.heap) (cq:s.heap.NoLimit) (F:yEd s.heap lam cell sg si sz jk jp ap p1 dY gK px p2 p3 gJ sp lp cp aJ az params)
  (aS:s.heap.IsCell cell (some (.ref l))) (hs:kG s.heap l cs) (hsz:cs.length<=ag):
  Cs (Aj W.prog W.w) A (.call (.ref lam) ⟨[.int 1 t],[]⟩) (R6 l cs s) s:=by
 refine HO F.obj fun o name qual pm sD fK ho hd gG=>?_
 have x7:cell≠l:=fun q=>by
  obtain⟨us,⟨n,e⟩,_⟩:=hs
  rw[<-q]at e;exact uu aS e
 have cN:(sg==sz)=false:=beq_false_of_ne H.ne.symm
 refine kla_callFunE (Ds (Du ..) aN.depth) ho hd H.co H.gen rfl gG ?_
 refine af (H.bind ..) ?_
 refine Aq (G1 (by refine(?_:∀x∈az.names,x.2≠ .cell);refine af H.n1 ?_;exact fa (fun h=>Ip h) (fa (fun h=>Ip h) gD)) (by intro x hx;refine af (Af.mp hx) ?_;refine(?_:az.names.lookup sz=_);refine af H.n1 ?_;simp) (fun ai cn iC=>?_) H.k1)
 have up:Sub s.heap ai:=fun b o e=>iC.extBut b o (Bu (Bo e)) (Ak _ e)
 refine aZ (cq.keeps up) ?_
 generalize bN:newEnv (kla_fn name qual params (ML sg si sz jk jp ap p1 dY gK px p2 p3 gJ sp lp cp aJ) az [(sg,cell)] pm sD fK).scope _ _ _ _ _ _ _ _=env
 have eG:env.scope=az:=bN▸rfl
 have CL:env.locals=s.heap.objs.size:=bN▸rfl
 have kf:env.kindOf sg=some .free:=by
  unfold Be;(refine af eG ?_;refine af H.n1 ?_;refine af A8 ?_;refine af cN ?_);simp
 have lu:env.cells.lookup sg=some cell:=by refine af (show env.cells=[(sg,cell)]from bN▸rfl) ?_;simp
 have P:=yDv (s:=s) (t:=t) (tk:=s.toks+[(sz,Value.int 1 t)].length) H (aN.deeper env) (W.mono wd up) eG (bN▸rfl) (bN▸rfl) lu kf (CL▸cn) (by simp) (aS.keeps up) (hs.at' fun o e=>up l o e)
 clear bN
 refine kla_codeExpr ?_
 refine Hv (wU rfl _ env _) (zI rfl [] env) H.line.1 (E7 ?_)
 refine lg ("str") _ PySem.F.plainAttrs_str PySem.F.slot_str_join PySem.F.type_str_join (Ic _ _ _) (fun _ e=>Value.noConfusion e) (Cv rfl (Fc (Bi ?_)))
 refine zM (zZ5 (px:=px) (lp:=lp) H.k2 H.l2 H.f2 H.c2 (fun env E s c r h1 h2 h3 h4 h5=>zYu H h1 h2 h3 h4 h5 x7) H.it (fun x=>mh rfl env x) (P.kp (dI _ _)) kf lu ⟨aS.keeps up,hs.at' fun o e=>up l o e⟩ hsz) fun v s' h=>B4 ?_
 obtain⟨D,rfl,hv,sm,k,j⟩:=h
 refine jD hv.inv fun _ vs _ hl oy e _=>?_
 obtain rfl:=Gr e
 refine Hw (s:=s') (x:=mkStr []) hl.isList (oy.strs (R3 _)) ?_ fun t' k'=>?_
 ·have h1:∀z:List Nat,(mkStr z).length=z.length:=fun z=>by simp[mkStr,B8]
  refine af A3 ?_
  refine af (Az ..) ?_
  refine af (h1 ..) ?_
  cases cs with
  |nil=>simp
  |cons c r=>simp[h1,Bt]
 ·refine af (IC ..) ?_
  refine af (R4 ..) ?_
  exact⟨t',rfl,((⟨ai,_,s.gens,rfl, .rfl' _⟩:wJ s {s with heap:=ai,toks:=s.toks+[(sz,Value.int 1 t)].length+1}).trans sm).heap s'.heap k',fun b o hb e=>k b o hb (up b o e),j⟩
end
set_option genSizeOf false
set_option genInjectivity false
section
variable{prog:Program}{w:Cn}{A:Am}{E:Value->Ab->Prop}{s:Ab}{env:Ea}
theorem MT{o:Expr}{name:Str}{apos pos:B7}{Q:Value->Ab->Prop}(bD:C8 o name env (eval o env)=eval o env)(aF:(apos.endLine==pos.line)=true)
  (h:An (Aj prog w) A (eval o env) (fun ov aa=>∀pl,An (Aj prog w) A (getMethod ov name pl) (fun fx s₂=>An (Aj prog w) A (callWith pos fx.1 fx.2 (Ke pos (Bz [] env)) []) Q E s₂) E aa) E s):
  An (Aj prog w) A (eval (.Call (.Attribute o name apos) [] [] pos) env) Q E s:=by
 refine af (arm_eval_Call ..) ?_
 refine af bD ?_
 refine Ac (B2 h (fun ov aa ai=>?_) fun _ _ e=>e)
 refine Ac (D1 ?_)
 have mw:methodCallForm (([]:List Expr).length+([]:List Keyword).length) (Ke pos (Bz [] env)) (backToKw pos (keywordEach [] env))=true:=rfl
 have kJ:J1 true o env apos pos=pure pos:=by unfold J1;simp[aF]
 unfold methodCall
 refine af mw ?_
 refine Ac (E2 (B2 (ai _) (fun fx s₂ aj=>?_) fun _ _ e=>e))
 exact Ac (B5 kJ aj)
theorem R8{o x:Expr}{name:Str}{apos pos:B7}{Q:Value->Ab->Prop}(bD:C8 o name env (eval o env)=eval o env)(aF:(apos.endLine==pos.line)=true)(hs:Bz [x] env=[(false,eval x env)])
  (h:An (Aj prog w) A (eval o env) (fun ov aa=>∀pl,An (Aj prog w) A (getMethod ov name pl) (fun fx s₂=>An (Aj prog w) A (callWith pos fx.1 fx.2 (Ke pos (Bz [x] env)) []) Q E s₂) E aa) E s):
  An (Aj prog w) A (eval (.Call (.Attribute o name apos) [x] [] pos) env) Q E s:=by
 refine af (arm_eval_Call ..) ?_
 refine af bD ?_
 refine Ac (B2 h (fun ov aa ai=>?_) fun _ _ e=>e)
 refine Ac (D1 ?_)
 have mw:methodCallForm (([x]:List Expr).length+([]:List Keyword).length) (Ke pos (Bz [x] env)) (backToKw pos (keywordEach [] env))=true:=by refine af hs ?_;rfl
 have kJ:J1 true o env apos pos=pure pos:=by unfold J1;simp[aF]
 unfold methodCall
 refine af mw ?_
 refine Ac (E2 (B2 (ai _) (fun fx s₂ aj=>?_) fun _ _ e=>e))
 exact Ac (B5 kJ aj)
theorem R9{pos:B7}{f:Addr}{o:Obj}{fd:FuncData}{first:List Value}{x:Expr}{Q:Value->Ab->Prop}(hs:Bz [x] env=[(false,eval x env)])(mr:o.data= .func fd)
  (h:An (Aj prog w) A (eval x env) (fun v aa=>aa.heap.get? f=some o/\An (Aj prog w) A (call (.ref f) (first++[v])) Q E aa) E s):
  An (Aj prog w) A (callWith pos (.ref f) first (Ke pos (Bz [x] env)) []) Q E s:=by
 rw[hs]
 exact Calls.callWith_function (o:=o) (fd:=fd) (Calls.evalArgs_plain (Bi (B2 h (fun v aa ai=>B4 ⟨⟨ai.1,mr⟩,ai.2⟩) fun _ _ e=>e)))
end
structure ct where
 sg:Str
 si:Str
 sz:Str
 jk:Nat
 jp:B7
 ap:B7
 p1:B7
 dY:B7
 gK:B7
 px:B7
 p2:B7
 p3:B7
 gJ:B7
 sp:B7
 lp:B7
 cp:B7
 aJ:Scope
 az:Scope
 params:Arguments
noncomputable def ct.Ok(R:ct)(W:bP):Prop:=DU W R.sg R.si R.sz R.ap R.p1 R.dY R.gK R.px R.p2 R.p3 R.gJ R.sp R.lp R.cp R.aJ R.az R.params
noncomputable def ct.body(R:ct):Expr:=ML R.sg R.si R.sz R.jk R.jp R.ap R.p1 R.dY R.gK R.px R.p2 R.p3 R.gJ R.sp R.lp R.cp R.aJ
inductive Sa(h:As)(C N:Addr):Prop
 |mk (nm q:Str) (bs:List Value) (sn:List Str) (sub:List Value) (col:Option Bool) (dd:Option Addr) (k0 k1 k2 k3 k5:Option Value) (e:h.get? C=some (excClassObj nm q C N bs [.type "object"] true sn sub false col dd k0 k1 k2 k3 k5 "object.__new__")):Sa h C N
inductive Sb(h:As)(N fI fR fG fP:Addr):Prop
 |mk (mN:Str->Option Value) (hN:h.Ns N mN) (i:mN "__init__" =some (.ref fI)) (r:mN "_read_char" =some (.ref fR)) (g:mN "get_token" =some (.ref fG)) (p:mN "push_token" =some (.ref fP)) (ga:mN "__getattribute__" =none) (gh:mN "__getattr__" =none) (sa:mN "__setattr__" =none)
  (n1:mN "lineno" =none) (n2:mN "instream" =none) (n3:mN "whitespace" =none) (n4:mN "pushback" =none):Sb h N fI fR fG fP
structure fO(h:As)(C N fI fR fG fP:Addr):Prop where
 cls:Sa h C N
 ns:Sb h N fI fR fG fP
theorem fO.at'{h h':As}{C N fI fR fG fP:Addr}(x:fO h C N fI fR fG fP)(kC:∀o,h.get? C=some o->h'.get? C=some o)(kN:∀o,h.get? N=some o->h'.get? N=some o):fO h' C N fI fR fG fP:=by
 obtain⟨nm,q,bs,sn,sub,col,dd,k0,k1,k2,k3,k5,e⟩:=x.cls
 obtain⟨mN,hN,i,r,g,p,ga,gh,sa,n1,n2,n3,n4⟩:=x.ns
 exact⟨⟨nm,q,bs,sn,sub,col,dd,k0,k1,k2,k3,k5,kC _ e⟩,mN,hN.at' kN,i,r,g,p,ga,gh,sa,n1,n2,n3,n4⟩
theorem fO.keeps{h h':As}{C N fI fR fG fP:Addr}(x:fO h C N fI fR fG fP)(k:Sub h h'):fO h' C N fI fR fG fP:=x.at' (k C) (k N)
inductive kK(h:As)(a:Addr)(name qual:Str)(params:Arguments)(body:List Stmt)(scope:Scope):Prop
 |mk (o:Obj) (pm cd doc:Value) (e:h.get? a=some o) (c:o.cls= .type "function") (d:o.data= .func (H7 name qual params body scope pm cd doc .none)) (r:h.CodeRec cd qual):kK h a name qual params body scope
noncomputable abbrev XF(h:As)(x C dx:Addr):Prop:=∃o,h.get? x=some o/\o.cls= .ref C/\(∀c,o.data≠ .cls c)/\o.dict=some dx
noncomputable abbrev sE(h:As)(dx st pb:Addr)(l:Int):Prop:=∃mA,h.Ns1 dx mA/\(∃t,mA "lineno" =some (.int l t))/\mA "instream" =some (.ref st)/\(∃t,mA "whitespace" =some (.str ⟨#[10,9,13,32]⟩ t))/\mA "pushback" =some (.ref pb)/\∀n:Str,n∉(["lineno", "instream", "whitespace", "pushback"]:List Str)->mA n=none
noncomputable abbrev oS(h:As)(st ds:Addr):Prop:=∃o fd,h.get? st=some o/\o.cls= .type "function" /\o.data= .func fd/\o.dict=some ds
noncomputable abbrev nI(h:As)(ds lam:Addr):Prop:=∃m,h.Ns ds m/\m "read" =some (.ref lam)
noncomputable abbrev mx(R:ct)(h:As)(lam cc cell:Addr):Prop:=∃o name qual pm fK,h.get? lam=some o/\o.data= .func (kla_fn name qual R.params R.body R.az [(R.sg,cell)] pm (.ref cc) fK)/\h.CodeRec (.ref cc) qual
noncomputable abbrev qA(h:As)(pb:Addr)(ws:List (List Nat)):Prop:=∃us,h.PlainList pb (Eu us)/\aq h (ws.map PV.str) us []
section
variable{h h':As}{x C dx st pb ds lam cc cell:Addr}{l:Int}{R:ct}{ws:List (List Nat)}
noncomputable abbrev lB(h h':As)(a:Addr):Prop:=∀o,h.get? a=some o->h'.get? a=some o
theorem XF.up(f:XF h x C dx)(k:lB h h' x):XF h' x C dx:=by obtain⟨o,e,r⟩:=f;exact⟨o,k _ e,r⟩
theorem sE.up(f:sE h dx st pb l)(k:lB h h' dx):sE h' dx st pb l:=by obtain⟨mA,⟨o,es,ep,e,r0⟩,r⟩:=f;exact⟨mA,⟨o,es,ep,k o e,r0⟩,r⟩
theorem oS.up(f:oS h st ds)(k:lB h h' st):oS h' st ds:=by obtain⟨o,fd,e,r⟩:=f;exact⟨o,fd,k _ e,r⟩
theorem nI.up(f:nI h ds lam)(k:lB h h' ds):nI h' ds lam:=by obtain⟨m,e,r⟩:=f;exact⟨m,e.at' fun o e=>k o e,r⟩
theorem mx.up(f:mx R h lam cc cell)(k:lB h h' lam)(k':lB h h' cc):mx R h' lam cc cell:=by
 obtain⟨o,name,qual,pm,fK,e,e2,c,oc,vs,t,e3,e4,r⟩:=f
 exact⟨o,name,qual,pm,fK,k _ e,e2,c,oc,vs,t,e3,Gr e3▸k' _ (Gr e3▸e4),r⟩
theorem qA.up(f:qA h pb ws)(k:lB h h' pb):qA h' pb ws:=by obtain⟨us,e,r⟩:=f;exact⟨us,e.at fun o e=>k o e,r.on fun a ha=>(Ar ha).elim⟩
theorem XF.cg(f:XF h x C dx):∃o,h.get? x=some o:=f.elim fun o e=>⟨o,e.1⟩
theorem sE.cg(f:sE h dx st pb l):∃o,h.get? dx=some o:=by obtain⟨_,⟨o,_,_,e,_⟩,_⟩:=f;exact⟨o,e⟩
theorem oS.cg(f:oS h st ds):∃o,h.get? st=some o:=f.elim fun o e=>e.elim fun _ e=>⟨o,e.1⟩
theorem nI.cg(f:nI h ds lam):∃o,h.get? ds=some o:=by obtain⟨_,⟨o,_,_,e,_⟩,_⟩:=f;exact⟨o,e⟩
theorem mx.cg(f:mx R h lam cc cell):∃o,h.get? lam=some o:=by obtain⟨o,_,_,_,_,e,_⟩:=f;exact⟨o,e⟩
theorem mx.MU(f:mx R h lam cc cell):∃o,h.get? cc=some o:=by
 obtain⟨_,_,_,_,_,_,_,c,oc,_,_,e3,e4,_⟩:=f
 exact bU oc (Gr e3▸e4)
theorem qA.cg(f:qA h pb ws):∃o,h.get? pb=some o:=by obtain⟨_,⟨_,e⟩,_⟩:=f;exact⟨_,e⟩
end
structure wS(R:ct)(C:Addr)(h:As)(b:ak)(x dx st ds lam cc cell sg pb:Addr):Prop where
 hx:XF h x C dx
 jn:sE h dx st pb b.line
 eX:oS h st ds
 MV:nI h ds lam
 oT:mx R h lam cc cell
 aS:h.IsCell cell (some (.ref sg))
 iU:kG h sg b.chars
 my:qA h pb b.push
 nd:[x,dx,st,ds,lam,cc,cell,sg,pb].Nodup
 sz:b.chars.length<=ag
section
variable{R:ct}{C:Addr}{h h':As}{b:ak}{x dx st ds lam cc cell sg pb:Addr}
theorem IsCell.up{v:Option Value}(f:h.IsCell cell v)(k:lB h h' cell):h'.IsCell cell v:=by obtain⟨o,e,r⟩:=f;exact⟨o,k _ e,r⟩
theorem wS.upd{b':ak}(L:wS R C h b x dx st ds lam cc cell sg pb)(k:∀a∈[st,ds,lam,cc,cell],lB h h' a)(hx:XF h' x C dx)(jn:sE h' dx st pb b'.line)(iU:kG h' sg b'.chars)(my:qA h' pb b'.push)(sz:b'.chars.length<=ag):wS R C h' b' x dx st ds lam cc cell sg pb:=
 ⟨hx,jn,L.eX.up (k _ (.head _)),L.MV.up (k _ (.tail _ (.head _))),L.oT.up (k _ (.tail _ (.tail _ (.head _)))) (k _ (.tail _ (.tail _ (.tail _ (.head _))))),IsCell.up L.aS (k _ (.tail _ (.tail _ (.tail _ (.tail _ (.head _)))))),iU,my,L.nd,sz⟩
theorem wS.keep(L:wS R C h b x dx st ds lam cc cell sg pb)(k:∀a∈[x,dx,st,ds,lam,cc,cell,sg,pb],∀o,h.get? a=some o->h'.get? a=some o):wS R C h' b x dx st ds lam cc cell sg pb:=
 L.upd (fun a ha=>k a (.tail _ (.tail _ (A6 [sg,pb] ha)))) (L.hx.up (k _ (.head _))) (L.jn.up (k _ (.tail _ (.head _)))) (L.iU.at' fun o e=>k _ (A1 [x,dx,st,ds,lam,cc,cell] (.head _)) o e) (L.my.up (k _ (A1 [x,dx,st,ds,lam,cc,cell] (.tail _ (.head _))))) L.sz
theorem wS.cg(L:wS R C h b x dx st ds lam cc cell sg pb):∀a∈[x,dx,st,ds,lam,cc,cell,sg,pb],∃o,h.get? a=some o:=
 fa L.hx.cg (fa L.jn.cg (fa L.eX.cg (fa L.MV.cg (fa L.oT.cg (fa L.oT.MU (fa (L.aS.elim fun o e=>⟨o,e.1⟩) (fa (by obtain⟨_,⟨_,e⟩,_⟩:=L.iU;exact⟨_,e⟩) (fa L.my.cg gD))))))))
end
set_option genInjectivity true
inductive kL(R:ct)(C:Addr)(v:Value)(b:ak)(F:List Addr)(h:As):Prop
 |mk (x dx st ds lam cc cell sg pb:Addr) (e:v= .ref x) (hF:F=[x,dx,st,ds,lam,cc,cell,sg,pb]) (L:wS R C h b x dx st ds lam cc cell sg pb):kL R C v b F h
theorem kL.frame{R:ct}{C:Addr}{v:Value}{b:ak}{F:List Addr}{h h':As}(x:kL R C v b F h)(k:∀a∈F,∀o,h.get? a=some o->h'.get? a=some o):kL R C v b F h':=by
 obtain⟨x,dx,st,ds,lam,cc,cell,sg,pb,rfl,rfl,L⟩:=x
 exact⟨x,dx,st,ds,lam,cc,cell,sg,pb,rfl,rfl,L.keep k⟩
theorem kL.cg{R:ct}{C:Addr}{v:Value}{b:ak}{F:List Addr}{h:As}(x:kL R C v b F h):∀a∈F,∃o,h.get? a=some o:=by
 obtain⟨x,dx,st,ds,lam,cc,cell,sg,pb,rfl,rfl,L⟩:=x
 exact L.cg
noncomputable def fA(R:ct)(C:Addr)(au:List Addr):rG where
 is v b F h:=F=au/\kL R C v b F h
 frame:=fun h k=>⟨h.1,h.2.frame k⟩
 cg:=fun h=>h.2.cg
section
variable{X:Ctx}{tv dv:List Nat}{K:Addr->Option Obj}{env:Ea}{A:Am}{s₀ s s':Ab}{g:Sg}{N:Nat->List Addr}{F:List Addr}
theorem aw.sF(T:aw X tv dv K env A s₀ g N F s)(hs:wJ s s')(hk:∀a o,a∉F->s.heap.get? a=some o->s'.heap.get? a=some o){v:Value}{b':ak}(hb:X.BK.is v b' F s'.heap):
  aw X tv dv K env A s₀ {g with β:=some (v,b')} N F s':=by
 have hl:env.locals∉F:=fun h=>(T.foot _ h).2.2.2.1 rfl
 have hc:∀x c,env.cells.lookup x=some c->c∉F:=fun x c e h=>(T.foot _ h).2.2.2.2 x c e rfl
 have hn:∀j a,a∈N j->a∉F:=fun j a ha h=>(T.foot a h).2.2.1 j ha
 have up:∀j a,a∈N j->∀o,s.heap.get? a=some o->s'.heap.get? a=some o:=fun j a ha o e=>hk a o (hn j a ha) e
 have acc:∀x u,Acc env s.heap x u->Acc env s'.heap x u:=fun x u h=>by
  rcases h with⟨h1,m,h2,h3⟩|⟨h1,c,h2,o,h3,h4⟩
  ·exact .inl ⟨h1,m,h2.at' fun o e=>hk _ o hl e,h3⟩
  ·exact .inr ⟨h1,c,h2,o,hk c o (hc x c h2) h3,h4⟩
 exact
  {T with
   len:=T.len
   loc:=by obtain⟨m,h⟩:=T.loc;exact⟨m,h.at' fun o e=>hk _ o hl e⟩
   cls:=fun x c e1 e2=>by
    refine ao (T.cls x c e1 e2) fun bq h5=>?_
    refine eu bq fun u o h3 h4=>?_
    exact aZ ⟨u,o,hk c o (hc x c e2) h3,h4⟩ h5
   rd:=fun x i p e1 e2=>by
    obtain⟨u,a,r⟩:=T.rd x i p e1 e2
    exact⟨u,acc x u a,r.on fun a ha o e=>up i a ha o e⟩
   nd:=fun j a ha=>by obtain⟨items,n,e⟩:=T.nd j a ha;exact⟨items,n,up j a ha _ e⟩
   kept:=fun a o e=>hk a o (fun h=>by rw[(T.foot a h).1]at e;exact nn e) (T.kept a o e)
   same:=T.same.trans hs
   book:=fun u b e=>by obtain⟨rfl,rfl⟩:=Bf (Aa e);exact hb
   foot:=fun a ha=>by
    refine cD (T.foot a ha) fun h1 _ h3=>?_
    exact⟨h1,X.BK.cg hb a ha,h3⟩}
theorem MW:∀(names:List (Str×Cy)) (n:Nat) (acc:List (Str×Addr)) (x:Str) (c:Addr),(x,c)∈Hd n names acc->(x,Cq)∈names\/(x,c)∈acc
 |[],n,acc,x,c,h=> .inr h
 |(y,k)::r,n,acc,x,c,h=>by
  unfold Hd at h
  split at h
  ·next hk=>
   have hk:k= .cell:=by exact eq_of_beq hk
   subst hk
   rcases MW r _ _ x c h with h|h
   ·exact .inl (Ad _ h)
   ·rcases Av.mp h with h|h
    ·obtain⟨rfl,rfl⟩:=Bf h;exact .inl (Ag ..)
    ·exact .inr h
  ·rcases MW r _ _ x c h with h|h
   ·exact .inl (Ad _ h)
   ·exact .inr h
theorem Sd{name:Str}{params:Arguments}{body:List Stmt}{scope:Scope}{xs:List Str}{a:Addr}{ps:List PV}{vs:List Value}{ns:List Addr}{R:Ez->Ab->Prop}{β:Option (Value×ak)}
  (hC:X.C=wP scope xs) (bM:jl scope xs=true) (dQ:md s.heap a name params body scope) (cq:s.heap.NoLimit) (aN:de (X.W.D+1) A)
  (hK:∀b o,K b=some o->s.heap.get? b=some o) (wd:∀h:As,(∀b o,K b=some o->h.get? b=some o)->X.W.Wd h)
  (di:∀v b,β=some (v,b)->X.BK.is v b F s.heap) (hF:∀b∈F,K b=none/\(∃o,s.heap.get? b=some o)/\b∉ns)
  (bw:∀pm cd doc,Fq (Hc name params body scope pm cd doc) ⟨vs,[]⟩=pure (xs.zip vs)) (hr:aq s.heap ps vs ns) (hlen:ps.length=xs.length)
  (rR:∀i,i∈tv\/i∈dv->xs.length<=i)
  (sH:∀(env:Ea) (cd:Value) (aa:Ab) (N:Nat->List Addr),env.code=cd->env.qual=name++ ".<locals>." ->(∃o fd,s.heap.get? a=some o/\o.data= .func fd/\fd.code=cd)->(∀x c,env.cells.lookup x=some c->(x,Cq)∈scope.names)->aw X tv dv K env (A.deeper env) s (eB X.C ps β) N F aa->An (Aj X.W.prog X.W.w) (A.deeper env) (G3 body env) (fun fw s'=>R (.ok (.ret (match fw with| .ret v=>v|_=> .none))) s') (fun _ _=>False) aa):
  Cs (Aj X.W.prog X.W.w) A (.call (.ref a) ⟨vs,[]⟩) R s:=by
 obtain⟨o,pm,cd,doc,ho,dK,gG⟩:=dQ
 have fq:=bM
 unfold jl at fq
 simp only[Ao,Al,beq_iff_eq,El,Dk]at fq
 refine ao fq fun bq iy=>?_
 refine ao bq fun bq oE=>?_
 obtain⟨⟨⟨hk,ij⟩,gH⟩,gW⟩:=bq
 have wu:∀j x,xs[j]?=some x->(wF scope xs)[j]?=some x:=fun j x e=>by
  unfold wF
  rw[B9 (Ba.mp e).1];exact e
 have mf:wR xs=true:=by
  have:∀(l m:List Str),wR (l++m)=true->wR l=true:=by
   intro l
   induction l with
   |nil=>intro m _;rfl
   |cons y r ih=>
    intro m h
    simp only[Dg,wR,Ao,Dk,C2,decide_eq_false_iff_not]at h⊢
    exact aZ (fun hm=>h.1 (A6 _ hm)) (ih m h.2)
  exact this xs _ gW
 have dR:∀x,scope.names.lookup x=some .cell->∀n,((Hd n scope.names []).lookup x).isSome=true:=fun x e n=>CQ _ _ _ (.inl (yO e))
 have hsz:∀b o,s.heap.get? b=some o->b<s.heap.objs.size:=fun b o e=>Bo e
 have wx:xs.length<=(wF scope xs).length:=by unfold wF;simp
 have qg:X.C.kn=scope.names:=by refine af hC ?_;rfl
 have rT:X.C.Γ=lr 0 (wF scope xs):=by refine af hC ?_;rfl
 have hn:X.C.n=(wF scope xs).length:=by refine af hC ?_;rfl
 have qi:∀x∈xs,scope.names.lookup x=some .local\/scope.names.lookup x=some .cell:=fun x hx=>oE x (by exact A6 _ hx)
 refine call_cells_ret (by have:=aN.depth;omega) ho dK cq gG (bw pm cd doc) (fun y hy=>?_) (fun ai tk Fm Xc=>?_) ij gH hk
 ·have hx:y.1∈xs:=(Iy hy).1
  rcases qi y.1 hx with e|e
  ·exact .inl e
  ·exact .inr ⟨e,dR _ e _⟩
 ·refine aD hr.split fun LL wy JR=>?_
  have up:Sub s.heap ai:=Fm.keep
  have dz:∀c o,s.heap.get? c=some o->c<s.heap.objs.size:=fun c o e=>Bo e
  have Kn:∀c,s.heap.objs.size<=c->K c=none:=fun c hc=>by
   cases q:K c with
   |none=>rfl
   |some o=>exact absurd (dz c o (hK c o q)) (Fu.mpr hc)
  have above:∀x c,(Hd (s.heap.objs.size+1) scope.names []).lookup x=some c->s.heap.objs.size<c:=fun x c e=>Xc.above x c (D7 e)
  generalize bN:envOfC name scope s.heap.objs.size a cd=env at*
  have bR:env.cells=Hd (s.heap.objs.size+1) scope.names []:=by refine cu bN ?_;rfl
  have ba:env.locals=s.heap.objs.size:=by refine cu bN ?_;rfl
  have eG:env.scope=scope:=by refine cu bN ?_;rfl
  have T:aw X tv dv K env (A.deeper env) s (eB X.C ps β) (fun i=>if i<ps.length then LL.getD i []else []) F {s with heap:=ai,toks:=tk}:=
   {fF:=by refine af hC ?_;exact CP bM
    kind:=by refine af eG ?_;exact hk
    names:=by(refine af eG ?_;exact af qg rfl)
    gl:=by refine cu bN ?_;rfl
    bl:=by refine cu bN ?_;rfl
    room:=aN.deeper env
    eI:=fun x k e1 e2=>by
     rw[qg]at e1
     rcases e2 with rfl|rfl
     ·refine af bR ?_;exact Ef.mp (dR x e1 _)
     ·have:=iy _ (yO e1);simp at this
    eE:=fun x y c e1 e2=>by
     rw[bR]at e1 e2
     exact name_of_addr Xc.apart (D7 e1) (D7 e2)
    len:=by refine(?_:(ps.map some++Ai (X.C.n-ps.length) none).length=_);(refine af Ax ?_;refine af (Az ..) ?_;refine af Bq ?_;refine af hn ?_);omega
    loc:=⟨_,by refine af ba ?_;exact Fm.ns⟩
    dy:=by refine af ba ?_;exact Kn _ (B6 _)
    cls:=fun x c e1 e2=>by
     rw[bR]at e2
     exact aZ ⟨_,Xc.cell x c e2⟩ (Kn c (Dc (above x c e2)))
    rd:=fun x i p e1 e2=>by
     rw[rT]at e1
     refine aD (pY e1) fun j e3 e4=>?_
     have:i=j:=by refine af e3 ?_;exact C0 j
     subst this
     have e2:(ps.map some++Ai (X.C.n-ps.length) none)[i]?=some (some p):=e2
     have hi:i<ps.length:=by
      by_cases hi:i<ps.length
      ·exact hi
      ·rw[C6 (by simpa using hi)]at e2
       have:=C7 e2
       have:=Cf this
       exact sn this
     rw[B9 (by simpa using hi),Ay]at e2
     have e5:ps[i]?=some p:=by
      cases q:ps[i]? with
      |none=>rw[q]at e2;exact nn e2
      |some z=>rw[q]at e2;cases e2;rfl
     refine aD (wy i p e5) fun v e6 e7=>?_
     have e8:xs[i]?=some x:=by
      obtain⟨y,hy⟩:∃y,xs[i]?=some y:=⟨xs[i]'(by omega),by simp⟩
      have:=wu i y hy
      rw[e4]at this;obtain rfl:=Aa this;exact hy
     refine ao ((JQ (kindOf:=env.kindOf) (vs:=vs) (fun _=>none) (fun _=>none) mf).1 i x v e8 e6) fun b1 b2=>?_
     refine⟨v,?_,?_⟩
     ·have kk:∀k,scope.names.lookup x=some k->env.kindOf x=some k:=fun k e=>by unfold Be;refine af eG ?_;exact e
      rcases qi x (C7 e8)with e|e
      ·exact .inl ⟨kk _ e,_,by refine af ba ?_;exact Fm.ns,b1 (kk _ e)⟩
      ·refine aK (Ef.mp (dR x e (s.heap.objs.size+1))) fun c hc=>?_
       have:=Xc.cell x c hc
       rw[b2 (by rw[kk _ e];simp)]at this
       exact .inr ⟨.inl (kk _ e),c,by refine af bR ?_;exact hc,this⟩
     ·refine(?_:VR ai p v (if i<ps.length then LL.getD i []else []))
      refine af (if_pos hi) ?_;exact e7.sub up
    nd:=fun j b hb=>by
     split at hb
     ·rename_i hj
      refine aD (wy j ps[j] (by simp)) fun v e6 e7=>?_
      refine fU (e7.nodes b hb) fun items n e=>?_
      exact HQ items n (up _ _ e)
     ·cases hb
    bQ:=fun i hi b q e=>by
     have:=rR i (.inl hi)
     rw[if_neg (by omega)]at e;cases e
    deep:=fun i hi=>by
     have:=rR i (.inr hi)
     rw[if_neg (by omega)]
     exact aZ E5 (fun _ h=>nomatch h)
    kept:=fun b o e=>up b o (hK b o e)
    ei:=wd
    same:=⟨ai,tk,s.gens,rfl, .rfl' _⟩
    book:=fun v b e=>X.BK.frame (di v b e) fun c _ o e=>up c o e
    foot:=fun b hb=>by
     refine cD (hF b hb) fun h1 gE h3=>?_
     refine aK gE fun o h2=>?_
     have aY:=dz b o h2
     refine vB h1 ⟨o,up b o h2⟩ (fun j=>?_) ?_ (fun x c e=>?_)
     ·split
      ·exact fun hm=>h3 (JR j b hm)
      ·exact fun h=>nomatch h
     ·refine af ba ?_;exact Bu aY
     ·rw[bR]at e
      exact Bu (Jc aY (above x c e))}
  exact sH env cd _ _ (by refine cu bN ?_;rfl) (by refine cu bN ?_;rfl) ⟨o,_,ho,dK,rfl⟩ (fun x c e=>by
   rw[bR]at e
   exact(MW _ _ _ _ _ (D7 e)).resolve_right fun h=>nomatch h) T
theorem MX{name qual:Str}{params:Arguments}{body:List Stmt}{scope:Scope}{xs:List Str}{a:Addr}{ps:List PV}{vs:List Value}{R:Ez->Ab->Prop}{β:Option (Value×ak)}
  (hC:X.C=wP scope xs) (bM:jl scope xs=true) (gZ:scope.names.all (fun y=>y.2 != .cell)=true) (dQ:kK s.heap a name qual params body scope) (cq:s.heap.NoLimit) (aN:de (X.W.D+1) A)
  (hK:∀b o,K b=some o->s.heap.get? b=some o) (wd:∀h:As,(∀b o,K b=some o->h.get? b=some o)->X.W.Wd h)
  (di:∀v b,β=some (v,b)->X.BK.is v b F s.heap) (hF:∀b∈F,K b=none/\(∃o,s.heap.get? b=some o))
  (bw:∀pm cd doc,Fq (H7 name qual params body scope pm cd doc .none) ⟨vs,[]⟩=pure (xs.zip vs)) (hr:aq s.heap ps vs []) (hlen:ps.length=xs.length)
  (sH:∀(env:Ea) (aa:Ab),aw X [] [] K env (A.deeper env) s (eB X.C ps β) (fun _=> []) F aa->An (Aj X.W.prog X.W.w) (A.deeper env) (G3 body env) (fun fw s'=>R (.ok (.ret (match fw with| .ret v=>v|_=> .none))) s') (fun _ _=>False) aa):
  Cs (Aj X.W.prog X.W.w) A (.call (.ref a) ⟨vs,[]⟩) R s:=by
 obtain⟨o,pm,cd,doc,ho,mB,dK,gG⟩:=dQ
 have fq:=bM
 unfold jl at fq
 simp only[Ao,Al,beq_iff_eq,El,Dk]at fq
 refine ao fq fun bq iy=>?_
 refine ao bq fun bq oE=>?_
 obtain⟨⟨⟨hk,ij⟩,gH⟩,gW⟩:=bq
 have sI:∀y∈scope.names,y.2≠ .cell:=fun y hy q=>by
  have:=Al.mp gZ y hy
  rw[q]at this;exact ft this
 have wu:∀j x,xs[j]?=some x->(wF scope xs)[j]?=some x:=fun j x e=>by
  unfold wF
  rw[B9 (Ba.mp e).1];exact e
 have mf:wR xs=true:=by
  have:∀(l m:List Str),wR (l++m)=true->wR l=true:=by
   intro l
   induction l with
   |nil=>intro m _;rfl
   |cons y r ih=>
    intro m h
    simp only[Dg,wR,Ao,Dk,C2,decide_eq_false_iff_not]at h⊢
    exact aZ (fun hm=>h.1 (A6 _ hm)) (ih m h.2)
  exact this xs _ gW
 have wx:xs.length<=(wF scope xs).length:=by unfold wF;simp
 have qg:X.C.kn=scope.names:=by refine af hC ?_;rfl
 have rT:X.C.Γ=lr 0 (wF scope xs):=by refine af hC ?_;rfl
 have hn:X.C.n=(wF scope xs).length:=by refine af hC ?_;rfl
 have qi:∀x∈xs,scope.names.lookup x=some .local:=fun x hx=>by
  rcases oE x (by exact A6 _ hx)with h|h
  ·exact h
  ·exact absurd rfl (sI _ (yO h))
 refine call_methW_ret (by have:=aN.depth;omega) ho dK cq gG (.of_eq (bw pm cd doc)) (fun y hy=>qi y.1 (Iy hy).1) (fun ai Fm=>?_) ij gH hk sI
 have up:Sub s.heap ai:=Fm.keep
 generalize bN:envOf qual scope s.heap.objs.size a cd=env at*
 have ba:env.locals=s.heap.objs.size:=by refine cu bN ?_;rfl
 have eG:env.scope=scope:=by refine cu bN ?_;rfl
 have MY:env.cells=[]:=by refine cu bN ?_;rfl
 have Kn:∀c,s.heap.objs.size<=c->K c=none:=fun c hc=>by
  cases q:K c with
  |none=>rfl
  |some o=>exact absurd (Bo (hK c o q)) (Fu.mpr hc)
 have MZ:∀{xs:List Str} {vs:List Value},wR xs=true->∀(j:Nat) (x:Str) (v:Value),xs[j]?=some x->vs[j]?=some v->(xs.zip vs).reverse.lookup x=some v:=by
  intro xs
  induction xs with
  |nil=>intro vs _ j x v e1 _;exact nn e1
  |cons y r ih=>
   intro vs hd j x v e1 e2
   simp only[wR,Ao,Dk,C2,decide_eq_false_iff_not]at hd
   cases vs with
   |nil=>exact nn e2
   |cons u us=>
    refine af Ho ?_
    refine af List.reverse_cons ?_
    refine af Qi ?_
    cases j with
    |zero=>
     obtain rfl:=Aa e1;obtain rfl:=Aa e2
     have:(r.zip us).reverse.lookup y=none:=by
      cases q:(r.zip us).reverse.lookup y with
      |none=>rfl
      |some z=>
       have hm:=yO q
       rw[List.mem_reverse]at hm
       exact absurd (Iy hm).1 hd.1
     refine af this ?_;simp
    |succ j=>
     rw[ih hd.2 j x v (by simpa using e1) (by simpa using e2)];simp
 refine sH env _ ?_
 exact
   {fF:=by refine af hC ?_;exact CP bM
    kind:=by refine af eG ?_;exact hk
    names:=by(refine af eG ?_;exact af qg rfl)
    gl:=by refine cu bN ?_;rfl
    bl:=by refine cu bN ?_;rfl
    room:=aN.deeper env
    eI:=fun x k e1 e2=>by
     rw[qg]at e1
     rcases e2 with rfl|rfl
     ·exact absurd rfl (sI _ (yO e1))
     ·have:=iy _ (yO e1);simp at this
    eE:=fun x y c e1 e2=>by rw[MY]at e1;exact nn e1
    len:=by refine(?_:(ps.map some++Ai (X.C.n-ps.length) none).length=_);(refine af Ax ?_;refine af (Az ..) ?_;refine af Bq ?_;refine af hn ?_);omega
    loc:=⟨_,by refine af ba ?_;exact Fm.ns⟩
    dy:=by refine af ba ?_;exact Kn _ (B6 _)
    cls:=fun x c e1 e2=>by rw[MY]at e2;exact nn e2
    rd:=fun x i p e1 e2=>by
     rw[rT]at e1
     refine aD (pY e1) fun j e3 e4=>?_
     have:i=j:=by refine af e3 ?_;exact C0 j
     subst this
     have e2:(ps.map some++Ai (X.C.n-ps.length) none)[i]?=some (some p):=e2
     have hi:i<ps.length:=by
      by_cases hi:i<ps.length
      ·exact hi
      ·rw[C6 (by simpa using hi)]at e2
       have:=C7 e2
       have:=Cf this
       exact sn this
     rw[B9 (by simpa using hi),Ay]at e2
     have e5:ps[i]?=some p:=by
      cases q:ps[i]? with
      |none=>rw[q]at e2;exact nn e2
      |some z=>rw[q]at e2;cases e2;rfl
     refine cM (hr.get e5) fun v n e6 e7 e77=>?_
     have:n=[]:=Ih.mpr fun a ha=>nomatch e77 a ha
     subst this
     have e8:xs[i]?=some x:=by
      obtain⟨y,hy⟩:∃y,xs[i]?=some y:=⟨xs[i]'(by omega),by simp⟩
      have:=wu i y hy
      rw[e4]at this;obtain rfl:=Aa this;exact hy
     refine⟨v, .inl ⟨?_,_,by refine af ba ?_;exact Fm.ns,MZ mf i x v e8 e6⟩,e7.sub up⟩
     unfold Be;refine af eG ?_;exact qi x (C7 e8)
    nd:=fun j b hb=>nomatch hb
    bQ:=fun i hi=>nomatch hi
    deep:=fun i hi=>nomatch hi
    kept:=fun b o e=>up b o (hK b o e)
    ei:=wd
    same:=⟨ai,_,s.gens,rfl, .rfl' _⟩
    book:=fun v b e=>X.BK.frame (di v b e) fun c _ o e=>up c o e
    foot:=fun b hb=>by
     refine ao (hF b hb) fun h1 gE=>?_
     refine aK gE fun o h2=>?_
     refine vB h1 ⟨o,up b o h2⟩ (fun j h=>nomatch h) ?_ (fun x c e=>?_)
     ·refine af ba ?_;exact Bu (Bo h2)
     ·rw[MY]at e;cases e}
end
theorem M6:Cm (.type "object") "lineno" =pure none:=by rw[Bh,A4];kernel_rfl
theorem Se:Cm (.type "object") "instream" =pure none:=by rw[Bh,A4];kernel_rfl
theorem Sf:Cm (.type "object") "whitespace" =pure none:=by rw[Bh,A4];kernel_rfl
theorem Sh:Cm (.type "object") "pushback" =pure none:=by rw[Bh,A4];kernel_rfl
theorem Si:Cm (.type "object") "_read_char" =pure none:=by rw[Bh,A4];kernel_rfl
theorem Sj:Cm (.type "object") "get_token" =pure none:=by rw[Bh,A4];kernel_rfl
theorem zJd:Cm (.type "object") "push_token" =pure none:=by rw[Bh,A4];kernel_rfl
theorem Sk:Cm (.type "function") "read" =pure none:=by rw[Bh,A4];kernel_rfl
section
variable{prog:Program}{w:Cn}{A:Am}{E:Value->Ab->Prop}{s:Ab}{R:ct}{C N fI fR fG fP:Addr}{b:ak}{x dx st ds lam cc cell sg pb:Addr}
theorem wS.inst{h:As}(L:wS R C h b x dx st ds lam cc cell sg pb):∃mA,h.Inst x C mA/\(∃t,mA "lineno" =some (.int b.line t))/\mA "instream" =some (.ref st)/\(∃t,mA "whitespace" =some (.str ⟨#[10,9,13,32]⟩ t))/\mA "pushback" =some (.ref pb)/\∀n:Str,n∉(["lineno", "instream", "whitespace", "pushback"]:List Str)->mA n=none:=by
 refine iQ L.hx fun o e h1 h2 h3=>?_
 refine aD L.jn fun mA hn r=>?_
 have cN:dx≠x:=fun q=>(C9.mp L.nd).1 (q▸ .head _)
 exact i12 mA ⟨o,e,h1,h2, .inr ⟨dx,h3,cN,hn⟩⟩ r
theorem DV{name:Str}{u:Value}{expr:Bool}{Q:Value->Ab->Prop}{mA:Str->Option Value}(c:fO s.heap C N fI fR fG fP)(iE:∀mN:Str->Option Value,mN "lineno" =none->mN "instream" =none->mN "whitespace" =none->mN "pushback" =none->mN name=none)
  (hB:Cm (.type "object") name=pure none) (I:s.heap.Inst x C mA) (hv:mA name=some u) (hh:handedOut u=pure u) (hq:Q u {s with toks:=s.toks+1}):An (Aj prog w) A (Ko (.ref x) name expr) Q E s:=by
 obtain⟨⟨nm,q,bs,sn,sub,col,dd,k0,k1,k2,k3,k5,hC⟩,mN,hN,_,_,_,_,ye,_,_,h1,h2,h3,h4⟩:=c
 obtain⟨h,g,d,t,os⟩:=s
 exact load_attr hC hN ye (iE mN h1 h2 h3 h4) hB I hv hh hq
theorem DW{name:Str}{f:Addr}{of:Obj}{pl:Le Bool}{Q:Value×List Value->Ab->Prop}(c:fO s.heap C N fI fR fG fP)(hf:∀mN:Str->Option Value,mN "_read_char" =some (.ref fR)->mN "get_token" =some (.ref fG)->mN "push_token" =some (.ref fP)->mN name=some (.ref f))
  (ho:s.heap.get? f=some of) (jL:of.cls= .type "function") (hB:Cm (.type "object") name=pure none) (L:wS R C s.heap b x dx st ds lam cc cell sg pb) (hn:name∉(["lineno", "instream", "whitespace", "pushback"]:List Str)) (hq:Q (.ref f,[.ref x]) s):An (Aj prog w) A (getMethod (.ref x) name pl) Q E s:=by
 obtain⟨⟨nm,q,bs,sn,sub,col,dd,k0,k1,k2,k3,k5,hC⟩,mN,hN,_,hR,hG,hP,ye,M7,_⟩:=c
 refine rj L.inst fun mA I _ _ _ _ dP=>?_
 obtain⟨h,g,d,t,os⟩:=s
 exact method_of hC hN ye M7 (hf mN hR hG hP) ho jL hB I (dP _ hn) hq
theorem Sl{expr:Bool}{Q:Value->Ab->Prop}(L:wS R C s.heap b x dx st ds lam cc cell sg pb)(c:fO s.heap C N fI fR fG fP)(hq:∀t,Q (.int b.line t) {s with toks:=s.toks+1}):
  An (Aj prog w) A (Ko (.ref x) "lineno" expr) Q E s:=by
 refine gT L.inst fun mA I jG _=>?_
 refine aK jG fun t h1=>?_
 exact DV c (fun _ h _ _ _=>h) M6 I h1 rfl (hq t)
theorem zNa{expr:Bool}{Q:Value->Ab->Prop}(L:wS R C s.heap b x dx st ds lam cc cell sg pb)(c:fO s.heap C N fI fR fG fP)(hq:Q (.ref st) {s with toks:=s.toks+1}):
  An (Aj prog w) A (Ko (.ref x) "instream" expr) Q E s:=by
 refine iQ L.inst fun mA I _ h1 _=>?_
 exact DV c (fun _ _ h _ _=>h) Se I h1 rfl hq
theorem zY7{expr:Bool}{Q:Value->Ab->Prop}(L:wS R C s.heap b x dx st ds lam cc cell sg pb)(c:fO s.heap C N fI fR fG fP)(hq:∀t,Q (.str ⟨#[10,9,13,32]⟩ t) {s with toks:=s.toks+1}):
  An (Aj prog w) A (Ko (.ref x) "whitespace" expr) Q E s:=by
 refine pO L.inst fun mA I _ _ ns4 _=>?_
 refine aK ns4 fun t h1=>?_
 exact DV c (fun _ _ _ h _=>h) Sf I h1 rfl (hq t)
theorem M8{expr:Bool}{Q:Value->Ab->Prop}(L:wS R C s.heap b x dx st ds lam cc cell sg pb)(c:fO s.heap C N fI fR fG fP)(hq:Q (.ref pb) {s with toks:=s.toks+1}):
  An (Aj prog w) A (Ko (.ref x) "pushback" expr) Q E s:=by
 refine rj L.inst fun mA I _ _ _ h1 _=>?_
 exact DV c (fun _ _ _ _ h=>h) Sh I h1 rfl hq
theorem zO6{mA:Str->Option Value}(h:∀n:Str,n∉(["lineno", "instream", "whitespace", "pushback"]:List Str)->mA n=none):Within mA ["lineno", "instream", "whitespace", "pushback"]:=fun y hy=>Dh fun hn=>hy (h y hn)
structure lC(h:As)(C x dx:Addr)(mA:Str->Option Value):Prop where
 o:XF h x C dx
 d:h.Ns1 dx mA
 ne:dx≠x
theorem lC.up{h h':As}{x dx:Addr}{mA:Str->Option Value}(I:lC h C x dx mA)(k:Sub h h'):lC h' C x dx mA:=by
 refine rk I.d fun o' es ep e2 r2=>?_
 exact⟨I.o.up (k _),⟨o',es,ep,k _ _ e2,r2⟩,I.ne⟩
theorem zUp{h:As}{m:Str->Option Value}{o:Obj}(I:h.Inst x C m)(e:h.get? x=some o)(hd:o.dict=some dx):h.Ns1 dx m:=by
 refine iQ I fun o' e' _ _ hI=>?_
 obtain rfl:=Aa (e.symm.trans e')
 rcases hI with⟨hn,_⟩|⟨d',yf,_,cn⟩
 ·exact nn (hn.symm.trans hd)
 ·exact Aa (yf.symm.trans hd)▸cn
theorem XF.Sm(f:XF s.heap x C dx)(c:fO s.heap C N fI fR fG fP):x≠C:=by
 rintro rfl
 refine iQ f fun o e _ hd _=>?_
 obtain⟨_,_,_,_,_,_,_,_,_,_,_,_,hC⟩:=c.cls
 exact hd _ (congrArg Obj.data (Aa (e.symm.trans hC)))
theorem So{x dx:Addr}{mA:Str->Option Value}{ns:List Str}{name:Str}{v:Value}{Q:Unit->Ab->Prop}(I:lC s.heap C x dx mA)(c:fO s.heap C N fI fR fG fP)(iE:∀mN:Str->Option Value,mN "lineno" =none->mN "instream" =none->mN "whitespace" =none->mN "pushback" =none->mN name=none)
  (hB:Cm (.type "object") name=pure none) (hw:Within mA ns) (cn:ns.length<=100)
  (hq:∀h' tk,lC h' C x dx (fun y=>if y=name then some v else mA y)->(∀a o,a≠x->a≠dx->s.heap.get? a=some o->h'.get? a=some o)->Q () {s with heap:=h',toks:=tk}):
  An (Aj prog w) A (setAttr (.ref x) name v) Q E s:=by
 have kM:=I.o.Sm c
 obtain⟨⟨nm,q,bs,sn,sub,col,dd,k0,k1,k2,k3,k5,hC⟩,mN,hN,_,_,_,_,_,_,qB,h1,h2,h3,h4⟩:=c
 refine iQ I.o fun o hx hc hd jn=>?_
 obtain⟨h,g,d,t,os⟩:=s
 refine store_attr PySem.F.store_object hC hN qB (iE mN h1 h2 h3 h4) hB kM ⟨o,hx,hc,hd, .inr ⟨dx,jn,I.ne,I.d⟩⟩ (fun h' tk I' hk dM=>?_) hw (by rw[Bt];exact zB)
 refine pO (dM o hx) fun jo e1 c1 d1 _ Sq=>?_
 exact hq h' tk ⟨⟨jo,e1,c1.trans hc,fun c q=>hd c (d1▸q),Sq dx jn⟩,zUp I' e1 (Sq dx jn),I.ne⟩ fun a oa h1 h2 e=>hk a oa h1 (fun aaa d' e0 e1 q=>h2 (q.trans (Aa (e1.symm.trans (Aa (Eq.trans (Gm e0) hx)▸jn))))) e
theorem wS.sep(L:wS R C s.heap b x dx st ds lam cc cell sg pb){l m:List Addr}(e:l++m=[x,dx,st,ds,lam,cc,cell,sg,pb]){a c:Addr}(ha:a∈l)(hc:c∈m):a≠c:=(Hx.mp (e.symm▸L.nd)).2.2 a ha c hc
theorem zVc{Q:Unit->Ab->Prop}{n:Int}{tn:J3}(L:wS R C s.heap b x dx st ds lam cc cell sg pb)(c:fO s.heap C N fI fR fG fP)
  (hq:∀h' tk,wS R C h' {b with line:=n} x dx st ds lam cc cell sg pb->(∀a o,a≠x->a≠dx->s.heap.get? a=some o->h'.get? a=some o)->Q () {s with heap:=h',toks:=tk}):
  An (Aj prog w) A (setAttr (.ref x) "lineno" (.int n tn)) Q E s:=by
 refine rj L.jn fun mA cn hl hi hw hp ho=>?_
 refine So ⟨L.hx,cn,(L.sep (l:=[x]) rfl (.head _) (.head _)).symm⟩ c (fun _ h _ _ _=>h) M6 (zO6 ho) (by decide) fun h' tk I k=>hq h' tk ?_ k
 have kk:∀a∈[st,ds,lam,cc,cell,sg,pb],lB s.heap h' a:=fun a ha o=>k a o (L.sep (l:=[x,dx]) rfl (.head _) ha).symm (L.sep (l:=[x,dx]) rfl (.tail _ (.head _)) ha).symm
 exact L.upd (fun a ha=>kk a (A6 [sg,pb] ha)) I.o ⟨_,I.d,⟨tn,if_pos rfl⟩,hi,hw,hp,fun n hn=>(if_neg (c:=n= "lineno") fun q=>hn (q▸Ag ..)).trans (ho n hn)⟩
  (L.iU.at' fun o e=>kk _ (A1 [st,ds,lam,cc,cell] (.head _)) o e) (L.my.up (kk _ (A1 [st,ds,lam,cc,cell] (.tail _ (.head _))))) L.sz
theorem wS.chars{h':As}{cs:List Nat}(L:wS R C s.heap b x dx st ds lam cc cell sg pb)(k:∀a o,a≠sg->s.heap.get? a=some o->h'.get? a=some o)(hs:kG h' sg cs)(hsz:cs.length<=ag):
  wS R C h' {b with chars:=cs} x dx st ds lam cc cell sg pb:=by
 have kk:∀a∈[x,dx,st,ds,lam,cc,cell],lB s.heap h' a:=fun a ha o=>k a o (L.sep (l:=[x,dx,st,ds,lam,cc,cell]) rfl ha (.head _))
 exact L.upd (fun a ha=>kk a (.tail _ (.tail _ ha))) (L.hx.up (kk _ (.head _))) (L.jn.up (kk _ (.tail _ (.head _)))) hs (L.my.up fun o=>k pb o (L.sep (l:=[x,dx,st,ds,lam,cc,cell,sg]) rfl (A1 [x,dx,st,ds,lam,cc,cell] (.head _)) (.head _)).symm) hsz
theorem wS.push{h':As}{ws:List (List Nat)}(L:wS R C s.heap b x dx st ds lam cc cell sg pb)(k:∀a o,a≠pb->s.heap.get? a=some o->h'.get? a=some o)(hs:qA h' pb ws):
  wS R C h' {b with push:=ws} x dx st ds lam cc cell sg pb:=by
 have kk:∀a∈[x,dx,st,ds,lam,cc,cell,sg],lB s.heap h' a:=fun a ha o=>k a o (L.sep (l:=[x,dx,st,ds,lam,cc,cell,sg]) rfl ha (.head _))
 exact L.upd (fun a ha=>kk a (.tail _ (.tail _ (A6 [sg] ha)))) (L.hx.up (kk _ (.head _))) (L.jn.up (kk _ (.tail _ (.head _)))) (L.iU.at' fun o e=>kk _ (A1 [x,dx,st,ds,lam,cc,cell] (.head _)) o e) hs L.sz
end
structure eN(R:ct)(C N fI fR fG fP:Addr)(X:Ctx):Prop where
 bk:∃au,X.BK=fA R C au
 cls:∀h,X.W.Wd h->fO h C N fI fR fG fP
 lim:∀h,X.W.Wd h->h.NoLimit
noncomputable def iF(g:Sg)(i:Nat):Option (Value×ak):=match g.σ[i]?,g.β with
 |some (some (.obj u)),some (v,b)=>if u==v then some (v,b)else none
 |_,_=>none
theorem oU{g:Sg}{i:Nat}{v:Value}{b:ak}(h:iF g i=some (v,b)):g.σ[i]?=some (some (.obj v))/\g.β=some (v,b):=by
 unfold iF at h
 cases hs:g.σ[i]? with
 |none=>rw[hs]at h;exact nn h
 |some o=>
  rw[hs]at h
  cases o with
  |none=>exact nn h
  |some p=>
   cases p with
   |obj u=>
    cases hb:g.β with
    |none=>rw[hb]at h;exact nn h
    |some vb=>
     rw[hb]at h
     refine oI h fun hu h=>?_
     refine ao (Bf (Aa h)) fun aI aH=>?_
     subst aI
     subst aH
     exact aZ (congrArg (fun u=>some (some (PV.obj u))) (eq_of_beq hu)) rfl
   |_=>exact nn h
section
variable{R:ct}{C N₀ fI fR fG fP:Addr}{X:Ctx}{tv dv:List Nat}{K:Addr->Option Obj}{env:Ea}{A:Am}{s₀ s s':Ab}{g:Sg}{N:Nat->List Addr}{F:List Addr}
inductive Sr(R:ct)(C:Addr)(v:Value)(b:ak)(F:List Addr)(h:As):Prop
 |mk (x dx st ds lam cc cell sg pb:Addr) (e:v= .ref x) (hF:F=[x,dx,st,ds,lam,cc,cell,sg,pb]) (L:wS R C h b x dx st ds lam cc cell sg pb) (n:x≠C):Sr R C v b F h
theorem aw.lex(Y:eN R C N₀ fI fR fG fP X)(T:aw X tv dv K env A s₀ g N F s){v:Value}{b:ak}(bY:g.β=some (v,b)):Sr R C v b F s.heap:=by
 have:=T.book v b bY
 refine aK Y.bk fun au hb=>?_
 rw[hb]at this
 obtain⟨_,x,dx,st,ds,lam,cc,cell,sg,pb,rfl,rfl,L⟩:=this
 exact⟨x,dx,st,ds,lam,cc,cell,sg,pb,rfl,rfl,L,L.hx.Sm (Y.cls _ T.pre.wd)⟩
theorem aw.self(T:aw X tv dv K env A s₀ g N F s){z:Str}{i:Nat}{v:Value}(hz:X.C.Γ.lookup z=some i)(bW:g.σ[i]?=some (some (.obj v))):Acc env s.heap z v:=by
 obtain⟨u,a,r⟩:=T.rd z i _ hz bW
 refine ao r.inv fun aI _=>?_
 subst aI
 exact a
theorem aw.oV(Y:eN R C N₀ fI fR fG fP X)(T:aw X tv dv K env A s₀ g N F s){x dx st ds lam cc cell sg pb:Addr}{b b':ak}(bY:g.β=some (.ref x,b))(hF:F=[x,dx,st,ds,lam,cc,cell,sg,pb])(hs:wJ s s')(hk:∀a o,a∉F->s.heap.get? a=some o->s'.heap.get? a=some o)(L:wS R C s'.heap b' x dx st ds lam cc cell sg pb):
  aw X tv dv K env A s₀ {g with β:=some (.ref x,b')} N F s':=by
 refine aK Y.bk fun au hb=>?_
 have:=T.book _ b bY
 rw[hb]at this
 exact T.sF hs hk (by rw[hb];exact⟨this.1,x,dx,st,ds,lam,cc,cell,sg,pb,rfl,hF,L⟩)
noncomputable def DX(i:Nat):dN:=fun g=>(iF g i).map fun vb=>({g with β:=some (vb.1,{vb.2 with chars:=vb.2.chars.drop 1})}, .str (vb.2.chars.take 1))
theorem dO.jq(Y:eN R C N₀ fI fR fG fP X)(yg:∃W',R.Ok W'/\W'.prog=X.W.prog/\W'.w=X.W.w/\W'.D+1=X.W.D/\∀h,X.W.Wd h->W'.Wd h){z:Str}{i:Nat}{p0 p1 ap cp:B7}{k:Nat}{kp:B7}(hz:X.C.Γ.lookup z=some i)(bB:bad z=false)(aF:(ap.endLine==cp.line)=true):
  dO X tv dv true (.Call (.Attribute (.Attribute (.Name z p0) "instream" p1) "read" ap) [.Constant (.int 1) k kp] [] cp) (DX i):=fun K env A E s₀ g N F s g' p T e=>by
 obtain⟨⟨v,b⟩,e1,e2⟩:=dk e
 refine ao (Bf e2) fun aI aH=>?_
 subst aI
 subst aH
 refine ao (oU e1) fun bW bY=>?_
 obtain⟨x,dx,st,ds,lam,cc,cell,sg,pb,rfl,hF,L,kM⟩:=T.lex Y bY
 have c:=Y.cls _ T.pre.wd
 refine R8 (wU rfl _ env _) aF (zI rfl [] env) ?_
 refine Gj (Bp (yP T.kind (T.self hz bW) ?_ (cU bB)) (wW bB))
 refine zNa L c fun pl=>?_
 refine vw L.eX fun o fd h1 h2 h3 h4=>?_
 refine aD L.MV fun m h5 h6=>?_
 refine ZE (s:={s with toks:=s.toks+1}) h1 h2 h4 h3 Sk h5 h6 rfl ?_
 refine BR L.oT fun ol name qual pm fK h7 h8 h9=>?_
 refine R9 (zI rfl [] env) h8 (E6 ⟨h7,?_⟩)
 refine pO yg fun W' ok q1 q2 q3 q4=>?_
 obtain⟨Ss,w',Wd',yh,mg',mb',g',b',D',U',M9,yi,yj⟩:=W'
 dsimp only at q1 q2 q3 q4
 subst q1 q2
 have rc:=zS0 (W:=⟨X.W.prog,X.W.w,Wd',yh,mg',mb',g',b',D',U',M9,yi,yj⟩) (s:={s with toks:=s.toks+1+1+1}) (t:=s.toks+1+1) (lam:=lam) (cell:=cell) (l:=sg) (cs:=b.chars) (A:=A) (jk:=R.jk) (jp:=R.jp) ok (by refine af (show D'+1=X.W.D from q3) ?_;exact T.room) (q4 _ T.pre.wd) (Y.lim _ T.pre.wd) ⟨ol,name,qual,pm,_,fK,h7,h8,h9⟩ L.aS L.iU L.sz
 refine Gl (Ey rc fun res s' h=>?_)
 obtain⟨t',rfl,hs,hk,iU⟩:=h
 have L':wS R C s'.heap {b with chars:=b.chars.drop 1} x dx st ds lam cc cell sg pb:=L.chars (fun a o h e=>hk a o h e) iU (by have:=L.sz;refine af Bs ?_;omega)
 have rY:wJ s s':=(wJ.heap (.refl s) s.heap (s.toks+1+1+1)).trans hs
 have T':=T.oV Y bY hF rY (fun a o h e=>hk a o (fun q=>h (by(refine af hF ?_;refine af q ?_);simp)) e) L'
 exact⟨N,F,[],T', .str ..,ey.nil⟩
noncomputable def yk(i:Nat):Den:=fun g=>(iF g i).map fun vb=>({g with β:=some (vb.1,{vb.2 with line:=vb.2.line+1})}, .next)
theorem yL.oW(Y:eN R C N₀ fI fR fG fP X){z:Str}{i:Nat}{p0 ap cp:B7}{k:Nat}{kp:B7}(hz:X.C.Γ.lookup z=some i)(bB:bad z=false):
  yL X tv dv (.AugAssign (.Attribute (.Name z p0) "lineno" ap) .Add (.Constant (.int 1) k kp) cp) (yk i):=fun K env A E s₀ g N F s g' fl T e=>by
 obtain⟨⟨v,b⟩,e1,e2⟩:=dk e
 refine ao (Bf e2) fun aI aH=>?_
 subst aI
 subst aH
 refine ao (oU e1) fun bW bY=>?_
 obtain⟨x,dx,st,ds,lam,cc,cell,sg,pb,rfl,hF,L,kM⟩:=T.lex Y bY
 have c:=Y.cls _ T.pre.wd
 refine wpAny_AugAssign_AttributeAny (Bp (yP T.kind (T.self hz bW) ?_ (cU bB)) (wW bB))
 refine Sl L c fun t=>E6 (Ku ?_)
 refine zVc (s:={s with toks:=s.toks+1+1+1}) L c fun h' tk L' hk=>?_
 have T':=T.oV (s':={s with heap:=h',toks:=tk}) Y bY hF ((wJ.refl s).heap h' tk) (fun a o h e=>hk a o (fun q=>h (by rw[hF,q];simp)) (fun q=>h (by rw[hF,q];simp)) e) L'
 exact⟨rfl,N,F,T'⟩
end
inductive Na(R:ct)(C:Addr)(v:Value)(b':ak)(r:List Nat)(F:List Addr)(s:Ab)(res:Ez)(s':Ab):Prop
 |mk (t:J3) (e:res= .ok (.ret (.str ⟨r.toArray⟩ t))) (sm:wJ s s') (k:∀a o,a∉F->s.heap.get? a=some o->s'.heap.get? a=some o) (l:kL R C v b' F s'.heap):Na R C v b' r F s res s'
noncomputable def sJ(W:bP)(R:ct)(C:Addr)(D:Nat)(f:Addr)(op:ak->ak->List Nat->Prop):Prop:=∀(A:Am) (s:Ab) (v:Value) (b b':ak) (r:List Nat) (F:List Addr),de D A->kL R C v b F s.heap->
 (∀h:As,(∀a o,a∉F->s.heap.get? a=some o->h.get? a=some o)->W.Wd h)->op b b' r->
 Cs (Aj W.prog W.w) A (.call (.ref f) ⟨[v],[]⟩) (Na R C v b' r F s) s
noncomputable def gp(b:ak):ak×List Nat:=({b with chars:=b.chars.drop 1,line:=if b.chars.take 1==[10]then b.line+1 else b.line},b.chars.take 1)
noncomputable def sL(b b':ak)(r:List Nat):Prop:=gp b=(b',r)
noncomputable def fZ(h:As)(F:List Addr):Addr->Option Obj:=fun a=>if a∈F then none else h.get? a
theorem yl{h:As}{F:List Addr}{a:Addr}{o:Obj}(e:fZ h F a=some o):a∉F/\h.get? a=some o:=by
 unfold fZ at e
 split at e
 ·exact nn e
 ·rename_i q;exact⟨q,e⟩
theorem kO{h:As}{F:List Addr}{a:Addr}{o:Obj}(q:a∉F)(e:h.get? a=some o):fZ h F a=some o:=by
 refine ea q ?_;exact e
section
variable{R:ct}{C N₀ fI fR fG fP:Addr}{W:bP}
theorem zXb{scope:Scope}{params:Arguments}{name qual zs zc:Str}{DC p0 p1 ap cp asp tp1 dY aup ip rp1 rp kp kp2:B7}{k k2:Nat}{test:Expr}
  (hY:∀au,eN R C N₀ fI fR fG fP ⟨W,fA R C au,wP scope [zs]⟩) (yg:∃W',R.Ok W'/\W'.prog=W.prog/\W'.w=W.w/\W'.D+1=W.D/\∀h,W.Wd h->W'.Wd h)
  (hm:∀h,W.Wd h->kK h fR name qual params [.Assign [.Name zc DC] (.Call (.Attribute (.Attribute (.Name zs p0) "instream" p1) "read" ap) [.Constant (.int 1) k kp] [] cp) asp,
   .If test [.AugAssign (.Attribute (.Name zs tp1) "lineno" dY) .Add (.Constant (.int 1) k2 kp2) aup] [] ip, .Return (some (.Name zc rp1)) rp] scope)
  (bM:jl scope [zs]=true) (gZ:scope.names.all (fun y=>y.2 != .cell)=true) (hz:(wP scope [zs]).Γ.lookup zs=some 0) (hc:(wP scope [zs]).Γ.lookup zc=some 1) (ym:(wP scope [zs]).kn.lookup zc=some .local) (hn:(wP scope [zs]).n=2) (yn:bad zs=false) (gq:bad zc=false) (aF:(ap.endLine==cp.line)=true)
  (bw:∀pm cd doc u body,Fq (H7 name qual params body scope pm cd doc .none) ⟨[u],[]⟩=pure [(zs,u)])
  (ht:dB W (wP scope [zs]) test (.cmp .Eq (.var 1) (.lit (.str [10])))):sJ W R C (W.D+1) fR sL:=by
 intro A s v b b' r F aN di fJ eH
 refine ao (Bf eH) fun aI aH=>?_
 subst aI
 subst aH
 have jM:W.Wd s.heap:=fJ _ fun a o _ e=>e
 have cq:=(hY F).lim _ jM
 refine MX (X:=⟨W,fA R C F,wP scope [zs]⟩) (xs:=[zs]) (ps:=[.obj v]) (vs:=[v]) (β:=some (v,b)) (K:=fZ s.heap F) (F:=F) rfl bM gZ (hm _ jM) cq aN (fun a o e=>(yl e).2) (fun h k=>fJ h fun a o h1 h2=>k a o (kO h1 h2))
  (fun u c e=>sp e ⟨rfl,di⟩) (fun a ha=>⟨by exact wI ha rfl,di.cg a ha⟩) (fun pm cd doc=>bw pm cd doc v _) (aq.one (.obj v)) rfl fun env aa T=>?_
 have bW:(eB (wP scope [zs]) [.obj v] (some (v,b)))=⟨[some (.obj v),none],some (v,b)⟩:=by unfold eB;refine af hn ?_;rfl
 have vO:∀z b,iF ⟨[some (.obj v),z],some (v,b)⟩ 0=some (v,b):=fun z b=>by exact if_pos (beq_self_eq_true v)
 refine zM (yU.cons (tv₁:=[]) (dv₁:=[]) (tv':=[]) (dv':=[]) (yL.assign hc (.inl rfl) (dO.jq (hY F) yg hz yn aF) fun env _=>rfl)
   (yU.cons (tv₁:=[]) (dv₁:=[]) (yL.QK ht (yU.cons (tv₁:=[]) (dv₁:=[]) (yL.oW (hY F) hz yn) (yU.nil rfl rfl) rfl rfl rfl rfl) (yU.nil rfl rfl))
    (yU.cons (tv₁:=[]) (dv₁:=[]) (yL.ret (dO.pure (ax.var ym rfl hc (wW gq) (cU gq)))) (yU.nil rfl rfl) rfl rfl rfl rfl) rfl rfl rfl rfl) rfl rfl rfl rfl
   (fZ s.heap F) env _ _ s _ _ F _ ⟨[some (.obj v),some (.str (b.chars.take 1))],some (v,{b with chars:=b.chars.drop 1,line:=if b.chars.take 1==[10]then b.line+1 else b.line})⟩ (.ret (.str (b.chars.take 1))) T ?_) fun fw s' h=>?_
 ·refine af bW ?_
  have e1:wQ 1 (DX 0) ⟨[some (.obj v),none],some (v,b)⟩=some (⟨[some (.obj v),some (.str (b.chars.take 1))],some (v,{b with chars:=b.chars.drop 1})⟩, .next):=by
   unfold wQ DX;refine af (vO ..) ?_;rfl
  refine(?_:(wQ 1 (DX 0) _).bind _=_)
  refine zZ e1 ?_
  refine(?_:(CM W.U _ _ _ _).bind _=_)
  have e2:CM W.U (.cmp .Eq (.var 1) (.lit (.str [10]))) (yT (yk 0) aA) aA ⟨[some (.obj v),some (.str (b.chars.take 1))],some (v,{b with chars:=b.chars.drop 1})⟩=some (⟨[some (.obj v),some (.str (b.chars.take 1))],some (v,{b with chars:=b.chars.drop 1,line:=if b.chars.take 1==[10]then b.line+1 else b.line})⟩, .next):=by
   refine(?_:(if(b.chars.take 1==[10])=true then yT (yk 0) aA _ else aA _)=_)
   cases hq:(b.chars.take 1==[10])with
   |false=>rfl
   |true=>
    refine wI rfl ?_
    refine(?_:(yk 0 _).bind _=_)
    unfold yk
    refine af (vO ..) ?_;rfl
  refine af e2 ?_;rfl
 ·obtain⟨⟨u,ms,rfl,ru,_⟩,N',F',T'⟩:=h
  have hb:=T'.book _ _ rfl
  refine ao hb fun aI hl=>?_
  clear hb
  subst aI
  refine aD ru.inv fun t aH _=>?_
  subst aH
  exact⟨_,rfl,T'.same,fun a o h1 h2=>T'.kept a o (kO h1 h2),hl⟩
end
theorem aq.sM{h:As}{p:PV}{ps:List PV}{vs:List Value}{ns:List Addr}(x:aq h (p::ps) vs ns):∃v us n m,vs=v::us/\ns=n++m/\VR h p v n/\aq h ps us m:=by
 cases x with
 |cons a b=>exact⟨_,_,_,_,rfl,rfl,a,b⟩
theorem aq.oX{h:As}{p:PV}{ps:List PV}{vs:List Value}(x:aq h (p::ps) vs []):∃v us,vs=v::us/\VR h p v []/\aq h ps us []:=by
 refine ub x.sM fun v us n m e hn a b=>?_
 have:n=[]/\m=[]:=by simpa using hn.symm
 refine ao this fun aI aH=>?_
 clear this
 subst aI
 subst aH
 exact nt v us e a b
section
variable(X:Ctx)(tv dv:List Nat)
noncomputable def oY(test:Expr)(f:Sg->Option Bool):Prop:=∀K env A E s₀ g N F s b,aw X tv dv K env A s₀ g N F s->f g=some b->An (Aj X.W.prog X.W.w) A (L7 test env (eval test env)) (fun b' s'=>b'=b/\KG s s') E s
noncomputable def eY(P:(Addr->Option Obj)->Prop)(st:Stmt)(f:Den):Prop:=∀K env A E s₀ g N F s g' fl,P K->aw X tv dv K env A s₀ g N F s->f g=some (g',fl)->
 JC X tv dv K env A E s₀ g' fl st s
noncomputable def wG(P:(Addr->Option Obj)->Prop)(b:List Stmt)(f:Den):Prop:=∀K env A E s₀ g N F s g' fl,P K->aw X tv dv K env A s₀ g N F s->f g=some (g',fl)->
 QJ X tv dv K env A E s₀ g' fl b s
end
noncomputable def jN(c:Sg->Option Bool)(f h:Den):Den:=fun g=>(c g).bind fun t=>if t then f g else h g
section
variable{X:Ctx}{tv dv:List Nat}{P:(Addr->Option Obj)->Prop}
theorem oY.of{test:Expr}{c:PT}(h:dB X.W X.C test c):oY X tv dv test (fun g=>aU X.W.U c g.σ):=fun K env A E s₀ g N F s b T e=>h env A E s g.σ b T.pre e
theorem eY.of{st:Stmt}{f:Den}(h:yL X tv dv st f):eY X tv dv P st f:=fun K env A E s₀ g N F s g' fl _ T e=>h K env A E s₀ g N F s g' fl T e
theorem wG.nil:wG X tv dv P [] aA:=fun K env A E s₀ g N F s g' fl _ T e=>by obtain⟨rfl,rfl⟩:=Bf (Aa e);exact Em ⟨rfl,N,F,T⟩
theorem wG.cons{st:Stmt}{rest:List Stmt}{f h:Den}(h1:eY X tv dv P st f)(h2:wG X tv dv P rest h):wG X tv dv P (st::rest) (yT f h):=fun K env A E s₀ g N F s g' fl p T e=>by
 obtain⟨⟨g₁,il⟩,e1,e2⟩:=fE e
 refine Bm (zM (h1 K env A E s₀ g N F s g₁ il p T e1) fun fw aa ai=>?_)
 obtain⟨hf,N',F',T'⟩:=ai
 cases il with
 |next=>
  have hf:fw= .next:=hf
  subst hf
  exact h2 K env A E s₀ g₁ N' F' aa g' fl p T' e2
 |brk=>obtain⟨rfl,rfl⟩:=Bf (Aa e2);have hf:fw= .brk:=hf;subst hf;exact⟨rfl,N',F',T'⟩
 |cont=>obtain⟨rfl,rfl⟩:=Bf (Aa e2);have hf:fw= .cont:=hf;subst hf;exact⟨rfl,N',F',T'⟩
 |ret p=>
  refine ao (Bf (Aa e2)) fun aI aH=>?_
  subst aI
  subst aH
  refine cM hf fun v ms bL r hn=>?_
  clear hf
  subst bL
  exact⟨⟨v,ms,rfl,r,hn⟩,N',F',T'⟩
theorem eY.g7{test:Expr}{body orelse:List Stmt}{pos:B7}{c:Sg->Option Bool}{f h:Den}(ht:oY X tv dv test c)(hb:wG X tv dv P body f)(ho:wG X tv dv P orelse h):
  eY X tv dv P (.If test body orelse pos) (jN c f h):=fun K env A E s₀ g N F s g' fl p T e=>by
 refine oB e fun t e1 e2=>?_
 refine wpAny_If (zM (ht K env A E s₀ g N F s t T e1) fun b aa ai=>?_)
 refine ao ai fun aI k=>?_
 clear ai
 subst aI
 cases b with
 |true=>exact hb K env A E s₀ g N F aa g' fl p (T.kg k) e2
 |false=>exact ho K env A E s₀ g N F aa g' fl p (T.kg k) e2
end
section
variable{R:ct}{C N₀ fI fR fG fP:Addr}{X:Ctx}{tv dv:List Nat}{K:Addr->Option Obj}{env:Ea}{A:Am}{s₀ s s':Ab}{g:Sg}{N:Nat->List Addr}{F:List Addr}
theorem aw.yo(T:aw X tv dv K env A s₀ g N F s){a:Addr}(hK:K a=none)(hF:a∉F)(ho:∃o,s.heap.get? a=some o/\wT o=true)(hs:wJ s s')(hk:∀b o,b≠a->s.heap.get? b=some o->s'.heap.get? b=some o):aw X tv dv K env A s₀ g N F s':=by
 refine aD ho fun oa nG dQ=>?_
 have hl:env.locals≠a:=fun q=>by
  refine rl T.loc fun m o es ep e1 e2 _=>?_
  rw[q,nG]at e1;obtain rfl:=Aa e1;unfold wT at dQ;rw[e2]at dQ;exact ft dQ
 have aS:∀c v,s.heap.IsCell c v->c≠a:=fun c v h q=>by
  refine aD h fun o e1 e2=>?_
  rw[q,nG]at e1;obtain rfl:=Aa e1;unfold wT at dQ;rw[e2]at dQ;exact ft dQ
 have hn:∀j b,b∈N j->b≠a:=fun j b hb q=>by
  refine fU (T.nd j b hb) fun items n e=>?_
  rw[q,nG]at e;obtain rfl:=Aa e;exact ft dQ
 have up:∀j b,b∈N j->∀o,s.heap.get? b=some o->s'.heap.get? b=some o:=fun j b hb o e=>hk b o (hn j b hb) e
 exact
  {T with
   loc:=by obtain⟨m,h⟩:=T.loc;exact⟨m,h.at' fun o e=>hk _ o hl e⟩
   cls:=fun x c e1 e2=>by
    refine ao (T.cls x c e1 e2) fun bq h5=>?_
    refine eu bq fun u o h3 h4=>?_
    exact aZ ⟨u,o,hk c o (aS c _ ⟨o,h3,h4⟩) h3,h4⟩ h5
   rd:=fun x i p e1 e2=>by
    obtain⟨u,ac,r⟩:=T.rd x i p e1 e2
    refine⟨u,?_,r.on fun b hb o e=>up i b hb o e⟩
    rcases ac with⟨h1,m,h2,h3⟩|⟨h1,c,h2,o,h3,h4⟩
    ·exact .inl ⟨h1,m,h2.at' fun o e=>hk _ o hl e,h3⟩
    ·exact .inr ⟨h1,c,h2,o,hk c o (aS c _ ⟨o,h3,h4⟩) h3,h4⟩
   nd:=fun j b hb=>by obtain⟨items,n,e⟩:=T.nd j b hb;exact⟨items,n,up j b hb _ e⟩
   kept:=fun b o e=>hk b o (fun q=>by rw[q,hK]at e;exact nn e) (T.kept b o e)
   same:=T.same.trans hs
   book:=fun u b e=>X.BK.frame (T.book u b e) fun c hc o e=>hk c o (fun q=>hF (q▸hc)) e
   foot:=fun b hb=>by
    refine cD (T.foot b hb) fun h1 gE h3=>?_
    refine aK gE fun o h2=>?_
    exact⟨h1,⟨o,hk b o (fun q=>hF (q▸hb)) h2⟩,h3⟩}
noncomputable def uF(i:Nat):Den:=fun g=>(iF g i).bind fun vb=>match vb.2.push with
 |[]=>some (g, .next)
 |w::r=>if r.length<1000 then some ({g with β:=some (vb.1,{vb.2 with push:=r})}, .ret (.str w))else none
theorem zP6{prog:Program}{w:Cn}{A:Am}{E:Value->Ab->Prop}{s:Ab}{l:Addr}{us:List Value}{y:Value}{t:J3}{Q:Value->Ab->Prop}(hl:s.heap.PlainList l (y::us).toArray)(hsz:us.length+1<=ag)
  (hQ:∀h',h'.PlainList l us.toArray->Ci l s.heap h'->Q y {s with heap:=h'}):An (Aj prog w) A (call (.builtin "list.pop") [.ref l, .int 0 t]) Q E s:=by
 refine aK hl fun n ho=>?_
 have hz:(y::us).toArray.size<=sizeLine:=by rw[Bt];simp;exact Es ‹_›
 have hk:Gq 0 (y::us).toArray.size=some 0:=by unfold Gq;simp
 refine Je Fd ⟨_,ho,rfl⟩ Kl (PySem.F.args_list_pop_2 _ _) (PySem.MeetsSeq.list_pop_at l _ n 0 t 0 y (by decide) hk (by rfl) hz) ⟨ho,hQ _ ?_ (Ep ..).extBut⟩
 have q:=Hb ho (fun xs=>xs.eraseIdxIfInBounds 0)
 have:(y::us).toArray.eraseIdxIfInBounds 0=us.toArray:=by simp
 rw[this]at q
 exact bU _ q
theorem yL.sQ(Y:eN R C N₀ fI fR fG fP X){z:Str}{i:Nat}{p0 p1 p2 p3 ap cp rp ip:B7}{k:Nat}{kp:B7}(hz:X.C.Γ.lookup z=some i)(bB:bad z=false)(aF:(ap.endLine==cp.line)=true):
  yL X tv dv (.If (.Attribute (.Name z p0) "pushback" p1) [.Return (some (.Call (.Attribute (.Attribute (.Name z p2) "pushback" p3) "pop" ap) [.Constant (.int 0) k kp] [] cp)) rp] [] ip) (uF i):=fun K env A E s₀ g N F s g' fl T e=>by
 obtain⟨⟨v,b⟩,e1,e2⟩:=fE e
 refine ao (oU e1) fun bW bY=>?_
 obtain⟨x,dx,st,ds,lam,cc,cell,sg,pb,rfl,hF,L,kM⟩:=T.lex Y bY
 have c:=Y.cls _ T.pre.wd
 refine aD L.my fun us bX bg=>?_
 refine wpAny_If (wpAny_isTrue_value (Gj (Bp (yP T.kind (T.self hz bW) (M8 L c ?_) (cU bB)) (wW bB))) (Q9 rfl _ _))
 have Su:us.length=b.push.length:=by have:=bg.length;simpa using this
 cases hp:b.push with
 |nil=>
  have e2:some (g,Fl.next)=some (g',fl):=by refine cu e2 ?_;refine(?_:_=(match b.push with|[]=>_|w::r=>_));exact af hp rfl
  refine ao (Bf (Aa e2)) fun aI aH=>?_
  subst aI
  subst aH
  refine zM (vK (x:= .list (b.push.map PV.str)) (dI s (s.toks+1)) (.list bX bg) (b:=false) (by refine af hp ?_;rfl)) fun r aa ai=>?_
  refine ao ai fun aI k=>?_
  clear ai
  subst aI
  exact Em ⟨rfl,N,F,T.kg k⟩
 |cons w r=>
  have e2:(if r.length<1000 then some ({g with β:=some (Ig x,{b with push:=r})},Fl.ret (.str w))else none)=some (g',fl):=by refine cu e2 ?_;refine(?_:_=(match b.push with|[]=>_|w::r=>_));exact af hp rfl
  split at e2
  ·rename_i hsz
   refine ao (Bf (Aa e2)) fun aI aH=>?_
   subst aI
   subst aH
   refine zM (vK (x:= .list (b.push.map PV.str)) (dI s (s.toks+1)) (.list bX bg) (b:=true) (by
    refine af hp ?_;refine(?_:(if _<=ag then some _ else none)=_)
    refine wI (by unfold ag;simp;exact zC) ?_;rfl)) fun rr aa ai=>?_
   refine ao ai fun aI k=>?_
   clear ai
   subst aI
   have aO:=T.kg k
   have sR:wS R C aa.heap b x dx st ds lam cc cell sg pb:=L.keep fun a _ o e=>wC k a o e
   refine Bm (Js ?_)
   refine Hv (wU rfl _ env _) (zI rfl [] env) aF ?_
   refine Gj (Bp (yP aO.kind (aO.self hz bW) (M8 sR (Y.cls _ aO.pre.wd) ?_) (cU bB)) (wW bB))
   refine aD sR.my fun Sv jr mC=>?_
   rw[hp]at mC
   refine cM mC.oX fun v0 JG bL hv mD=>?_
   subst bL
   refine lg ("list") _ Dz Fd Ia jr.isList.typeIs (fun c e=>by cases e;obtain⟨n,h⟩:=jr;exact⟨_,h,rfl⟩) (Cv rfl (Fc (Bi (E6 (B4 ?_)))))
   have Nb:JG.length+1<=ag:=by have:=mD.length;simp at this;unfold ag;lia
   refine zP6 (s:={aa with toks:=aa.toks+1+1}) jr Nb fun h' eU eV=>?_
   have cN:=hv
   have L':wS R C h' {b with push:=r} x dx st ds lam cc cell sg pb:=sR.push (fun a o h e=>eV a o h e) ⟨JG,eU,mD.on fun a ha=>nomatch ha⟩
   have T':=aO.oV (s':={aa with heap:=h',toks:=aa.toks+1+1}) Y bY hF ((wJ.refl aa).heap h' _) (fun a o h e=>eV a o (fun q=>h (by(refine af hF ?_;refine af q ?_);simp)) e) L'
   refine⟨⟨v0,[],rfl,hv.on (fun a ha=>nomatch ha),(fun a ha=>nomatch ha)⟩,N,F,T'⟩
  ·exact nn e2
end
theorem de.less{D D':Nat}{A:Am}(h:de D A)(e:D'+1=D):de D' A:=⟨h.hh,by have:=h.depth;lia,by have:=h.units;lia⟩
theorem de.in1{D D':Nat}{A:Am}(h:de D A)(e:D'+1=D):de D' A.in1:=⟨h.hh,by have:=h.depth;refine(?_:A.depth+D'<_);lia,by have:=h.units;refine(?_:A.units+1+8*D'+60<cLine);lia⟩
section
variable{R:ct}{C N₀ fI fR fG fP:Addr}{X:Ctx}{tv dv:List Nat}{K:Addr->Option Obj}{env:Ea}{A:Am}{s₀ s s':Ab}{g:Sg}{N:Nat->List Addr}{F:List Addr}
structure mE(R:ct)(C fR:Addr)(X:Ctx):Prop where
 D:∃D,D+1=X.W.D/\sJ X.W R C D fR sL
 ob:∀h,X.W.Wd h->∃of fd,h.get? fR=some of/\of.cls= .type "function" /\of.data= .func fd
theorem aw.Nc(T:aw X tv dv K env A s₀ g N F s):∀h:As,(∀a o,a∉F->s.heap.get? a=some o->h.get? a=some o)->X.W.Wd h:=fun h k=>
 T.ei h fun a o e=>k a o (fun q=>by rw[(T.foot a q).1]at e;exact nn e) (T.kept a o e)
theorem Sw(Y:eN R C N₀ fI fR fG fP X)(Z:mE R C fR X)(T:aw X tv dv K env A s₀ g N F s){A':Am}(hA:∀D,D+1=X.W.D->de D A'){x:Addr}{b:ak}(bY:g.β=some (.ref x,b)){Rr:Ez->Ab->Prop}
  (h:∀s' t,wJ s s'->(∀a o,a∉F->s.heap.get? a=some o->s'.heap.get? a=some o)->aw X tv dv K env A s₀ {g with β:=some (.ref x,(gp b).1)} N F s'->Rr (.ok (.ret (.str ⟨(gp b).2.toArray⟩ t))) s'):
  Cs (Aj X.W.prog X.W.w) A' (.call (.ref fR) ⟨[.ref x],[]⟩) Rr s:=by
 refine aK Y.bk fun au di=>?_
 have hb:=T.book _ b bY
 rw[di]at hb
 refine ao hb fun aI hl=>?_
 clear hb
 subst aI
 refine aD Z.D fun D hD fn=>?_
 refine Ey (fn A' s (.ref x) b (gp b).1 (gp b).2 F (hA D hD) hl T.Nc rfl) fun res s' hr=>?_
 obtain⟨t,rfl,hs,hk,fg⟩:=hr
 exact h s' t hs hk (T.sF hs hk (by rw[di];exact⟨rfl,fg⟩))
noncomputable def yp(i:Nat):dN:=fun g=>(iF g i).map fun vb=>({g with β:=some (vb.1,(gp vb.2).1)}, .str (gp vb.2).2)
theorem dO.mF(Y:eN R C N₀ fI fR fG fP X)(Z:mE R C fR X){z:Str}{i:Nat}{p0 ap cp:B7}(hz:X.C.Γ.lookup z=some i)(bB:bad z=false)(aF:(ap.endLine==cp.line)=true):
  dO X tv dv true (.Call (.Attribute (.Name z p0) "_read_char" ap) [] [] cp) (yp i):=fun K env A E s₀ g N F s g' p T e=>by
 obtain⟨⟨v,b⟩,e1,e2⟩:=dk e
 refine ao (Bf e2) fun aI aH=>?_
 subst aI
 subst aH
 refine ao (oU e1) fun bW bY=>?_
 obtain⟨x,dx,st,ds,lam,cc,cell,sg,pb,rfl,hF,L,kM⟩:=T.lex Y bY
 refine cM (Z.ob _ T.pre.wd) fun of fd ho jL fW=>?_
 refine MT (wU rfl _ env _) aF (Bp (yP T.kind (T.self hz bW) (fun pl=>DW (Y.cls _ T.pre.wd) (fun _ h _ _=>h) ho jL Si L (by decide) ?_) (cU bB)) (wW bB))
 refine Lk fW ho (Gl (Sw Y Z T (fun D hD=>T.room.less hD) bY fun s' t hs hk T'=>?_))
 exact⟨N,F,[],T', .str ..,ey.nil⟩
noncomputable def sV(i c:Nat):Sg->Option Bool:=fun g=>(iF g i).bind fun _=>((((g.σ[c]?).bind id).bind PV.dg).bind one).map fun a=>([10,9,13,32]:List Nat).contains a
theorem oY.ws(Y:eN R C N₀ fI fR fG fP X){z y:Str}{i c:Nat}{p0 p1 py pos:B7}(hz:X.C.Γ.lookup z=some i)(bB:bad z=false)(hy:X.C.Γ.lookup y=some c)(Sx:bad y=false):
  oY X tv dv (.Compare (.Name y py) [.In] [.Attribute (.Name z p0) "whitespace" p1] pos) (sV i c):=fun K env A E s₀ g N F s b T e=>by
 obtain⟨⟨v,bk⟩,e1,e2⟩:=fE e
 refine ao (oU e1) fun bW bY=>?_
 obtain⟨x,dx,st,ds,lam,cc,cell,sg,pb,rfl,hF,L,kM⟩:=T.lex Y bY
 obtain⟨a,e2,hb⟩:=dk e2
 refine oB e2 fun l e2 el=>?_
 refine oB e2 fun q e2 eq=>?_
 refine oB e2 fun q' hc e4=>?_
 obtain rfl:q'=some q:=e4
 obtain rfl:=PV.bJ eq
 obtain rfl:=nX el
 obtain⟨u,acc,r⟩:=T.rd y c _ hy hc
 refine Gv (Bp (yP T.kind acc ?_ (cU Sx)) (wW Sx)) rfl
 refine Gj (Bp (yP T.kind (T.self hz bW) (zY7 L (Y.cls _ T.pre.wd) fun t=>?_) (cU bB)) (wW bB))
 refine zM (vJ (op:= .In) (x:= .str [a]) (y:= .str [10,9,13,32]) (b:=b) (dI s (s.toks+1)) (r.sub fun _ _ e=>e) (.str [10,9,13,32] t) (vM T.room) (congrArg some hb)) fun v av aE=>?_
 refine ao aE fun aI bZ=>?_
 clear aE
 subst aI
 exact Gw ⟨rfl,bZ⟩
end
noncomputable def lD(fR it m x:Addr)(K:Addr->Option Obj):Prop:=(∃o t,K it=some o/\o.cls= .type "callable_iterator" /\o.data= .fields #[.ref m, .str ⟨#[]⟩ t, .bool false])/\K m=some (nH fR x)
noncomputable def fQ(out:Bool)(x:Value)(ic:Nat)(f:Den):Nat->Den
 |0=>fun _=>none
 |n+1=>fun g=>match g.β with
  |some (v,b)=>if v==x then(match b.chars with
    |[]=>if out then some ({g with β:=some (v,(gp b).1)}, .next)else none
    |c::_=>(f ({g with β:=some (v,(gp b).1)}.set ic (.str [c]))).bind fun r=>match r with
     |(g', .next)=>fQ out x ic f n g'
     |(g', .cont)=>fQ out x ic f n g'
     |(g', .brk)=>some (g', .next)
     |(g', .ret p)=>some (g', .ret p))else none
  |none=>none
noncomputable def Sy(v:Value):Option (Option PV)->Bool
 |some (some (.obj u))=>u==v
 |_=>false
theorem zT1{v:Value}{z:Option (Option PV)}(h:Sy v z=true):z=some (some (.obj v)):=by
 cases z with
 |none=>exact ft h
 |some o=>
  cases o with
  |none=>exact ft h
  |some p=>
   cases p with
   |obj u=>exact congrArg (fun u=>some (some (PV.obj u))) (eq_of_beq h)
   |_=>exact ft h
noncomputable def Sz(g:Sg):Nat:=match g.β with
 |some (_,b)=>b.chars.length
 |none=>0
noncomputable def nJ(out:Bool)(x:Value)(fi:Nat)(it:Value)(ic:Nat)(f:Den):Den:=fun g=>if Sy it g.σ[fi]? then fQ out x ic f (Sz g+1) g else none
section
variable{R:ct}{C N₀ fI fR fG fP:Addr}{X:Ctx}{K:Addr->Option Obj}{env:Ea}{A:Am}{s₀ s s':Ab}{g:Sg}{N:Nat->List Addr}{F:List Addr}
noncomputable def yHb(k:Den):Sg×Fl->Option (Sg×Fl)
 |(g', .next)=>k g'
 |(g', .cont)=>k g'
 |(g', .brk)=>some (g', .next)
 |(g', .ret p)=>some (g', .ret p)
inductive Nd(out:Bool)(x:Value)(ic:Nat)(f k:Den)(g:Sg)(r:Sg×Fl):Prop
 |nil (b:ak) (bY:g.β=some (x,b)) (hc:b.chars=[]) (ho:out=true) (e:({g with β:=some (x,(gp b).1)},Fl.next)=r):Nd out x ic f k g r
 |cons (b:ak) (c:Nat) (l:List Nat) (bY:g.β=some (x,b)) (hc:b.chars=c::l) (cj:Sg) (ck:Fl) (e2:f ({g with β:=some (x,(gp b).1)}.set ic (.str [c]))=some (cj,ck)) (e3:yHb k (cj,ck)=some r):Nd out x ic f k g r
theorem zTz{out:Bool}{x:Value}{ic n:Nat}{f:Den}{g:Sg}{r:Sg×Fl}(e:fQ out x ic f (n+1) g=some r):Nd out x ic f (fQ out x ic f n) g r:=by
 unfold fQ at e
 cases bY:g.β with
 |none=>rw[bY]at e;exact nn e
 |some vb=>
  obtain⟨v,b⟩:=vb
  rw[bY]at e
  refine oI e fun hv e=>?_
  obtain rfl:=eq_of_beq hv
  cases hc:b.chars with
  |nil=>
   rw[hc]at e
   refine oI e fun ho e=>?_
   exact .nil b bY hc ho (Aa e)
  |cons c l=>
   rw[hc]at e
   obtain⟨⟨cj,ck⟩,e2,e3⟩:=fE e
   exact .cons b c l bY hc cj ck e2 e3
theorem yBx{b:ak}(h:b.chars=[]):(gp b).2=[]:=by unfold gp;rw[h];rfl
theorem SA{b:ak}{c:Nat}{r:List Nat}(h:b.chars=c::r):(gp b).2=[c]:=by unfold gp;rw[h];rfl
theorem SD(Y:eN R C N₀ fI fR fG fP X)(Z:mE R C fR X)(T:aw X [] [] K env A s₀ g N F s){it m x:Addr}{b:ak}(bY:g.β=some (.ref x,b))(hK:lD fR it m x K){Q:Option Value->Ab->Prop}{E:Value->Ab->Prop}
  (h1:∀c r,b.chars=c::r->∀s' t,aw X [] [] K env A s₀ {g with β:=some (.ref x,(gp b).1)} N F s'->Q (some (.str ⟨[c].toArray⟩ t)) s')
  (h0:b.chars=[]->∀s' h',aw X [] [] K env A s₀ {g with β:=some (.ref x,(gp b).1)} N F s'->Ci it s'.heap h'->Q none {s' with heap:=h'}):
  An (Aj X.W.prog X.W.w) A (Iv (.ref it)) Q E s:=by
 refine ao hK fun bq km=>?_
 refine cM bq fun o t ko hc hd=>?_
 have ho:=T.kept it o ko
 have hm:=T.kept m _ km
 refine cM (Z.ob _ T.pre.wd) fun of fd hf jL fW=>?_
 refine Z1 T.room.hh ⟨o,t,ho,hc,hd⟩ hm hf fW (Sw Y Z T (fun D hD=>T.room.in1 hD) bY fun s' t hs hk T'=>?_)
 refine lg ((gp b).2) t rfl (fun o' e=>Aa (ho.symm.trans e)▸T'.kept it o ko) (T'.kept m _ km) ?_ (fun hn h' hx=>?_) (fun hn=>?_)
 ·refine cM (Z.ob _ T'.pre.wd) fun qx sv h2 _ h3=>?_
  exact nr qx sv h2 h3
 ·cases hb:b.chars with
  |nil=>exact h0 hb s' h' T' hx
  |cons c r=>rw[SA hb]at hn;cases hn
 ·cases hb:b.chars with
  |nil=>exact absurd (yBx hb) hn
  |cons c r=>
   rw[SA hb]
   exact h1 c r hb s' t T'
theorem zU1(Y:eN R C N₀ fI fR fG fP X)(Z:mE R C fR X){it m x:Addr}{zc:Str}{ic n:Nat}{pc:B7}{body:List Stmt}{fb:Den}{E:Value->Ab->Prop}{cH:Addr->Option Obj}{g':Sg}{fl:Fl}{out:Bool}(hc:X.C.Γ.lookup zc=some ic)
  (hb:wG X [] [] (lD fR it m x) body fb) (p:lD fR it m x K) (gb:∀b o,cH b=some o->K b=some o) (oZ:out=true->cH it=none) (wd:∀h:As,(∀b o,cH b=some o->h.get? b=some o)->X.W.Wd h) (I:wi X [] [] K env A s₀ (fQ out (.ref x) ic fb n) (g',fl) s'):
  An (Aj X.W.prog X.W.w) A (Iv (.ref it)) (fun r aa=>(r=none/\jg X [] [] cH env A s₀ g' fl .next aa)\/ry X.W.prog X.W.w A (.Name zc pc) it env E (fun s₂=>
    An (Aj X.W.prog X.W.w) A (G3 body env) (fun f av=>match f with
     | .next| .cont=>∃m,m<n/\wi X [] [] K env A s₀ (fQ out (.ref x) ic fb m) (g',fl) av
     | .brk=>jg X [] [] cH env A s₀ g' fl .next av
     | .ret v=>jg X [] [] cH env A s₀ g' fl (.ret v) av) E s₂) r aa) E s':=by
 obtain⟨g₁,xm,r7,aO,dU⟩:=I
 cases n with
 |zero=>exact nn dU
 |succ n=>
  rcases zTz dU with⟨b,bY,gq,ho,e⟩|⟨b,c,l,bY,gq,cj,ck,dG,o4⟩
  ·refine SD Y Z aO bY p (fun c r h=>absurd (gq.symm.trans h) (List.cons_ne_nil c r).symm) fun _ s₂ aj ay hx=> .inl ⟨rfl,?_⟩
   refine ao p fun bq _=>?_
   refine cM bq fun o t ko _ hd=>?_
   exact Internal.sp (congrArg some e) ⟨rfl,xm,r7,(ay.eL gb wd).yo (s':={s₂ with heap:=aj}) (oZ ho) (fun hm=>nn ((ay.foot it hm).1.symm.trans ko)) ⟨o,ay.kept it o ko,by unfold wT;rw[hd]⟩ ((wJ.refl s₂).heap aj s₂.toks) (fun b ob hb e=>hx b ob hb e)⟩
  ·refine SD Y Z aO bY p (fun c' r' h s₂ sW ay=> .inr ?_) fun h=>absurd (h.symm.trans gq) (List.cons_ne_nil c l).symm
   refine ao (E1 (gq.symm.trans h)) fun aI _=>?_
   subst aI
   refine i12 _ rfl (B5 (show Iu (.Name zc pc) (.ref it) (.str ⟨[c].toArray⟩ sW)=pure ()from rfl) ?_)
   refine Dj (zM (ay.store hc (.str [c] sW) (ey.nil (own:=true)) (.inl rfl)) fun _ av aT=>?_)
   refine zM (hb K env A _ s₀ _ _ r7 av cj ck p aT dG) fun fw aV aW=>?_
   obtain⟨iw,gF,ix,bT⟩:=aW
   cases ck with
   |next=>exact Gm iw▸⟨n,Bx n,cj,gF,ix,bT,o4⟩
   |cont=>exact Gm iw▸⟨n,Bx n,cj,gF,ix,bT,o4⟩
   |brk=>exact Gm iw▸Internal.sp o4 ⟨rfl,gF,ix,bT.eL gb wd⟩
   |ret q=>
    refine cM iw fun u ms bL r' hn=>?_
    clear iw
    subst bL
    exact Internal.sp o4 ⟨⟨u,ms,rfl,r',fun a ha=>rQ gb (hn a ha)⟩,gF,ix,bT.eL gb wd⟩
theorem SE(Y:eN R C N₀ fI fR fG fP X)(Z:mE R C fR X){it m x:Addr}{zf zc:Str}{fi ic:Nat}{pc pf fp:B7}{body:List Stmt}{fb:Den}{E:Value->Ab->Prop}{cH:Addr->Option Obj}{g':Sg}{fl:Fl}{out:Bool}(hf:X.C.Γ.lookup zf=some fi)(uG:bad zf=false)(hc:X.C.Γ.lookup zc=some ic)
  (hb:wG X [] [] (lD fR it m x) body fb) (p:lD fR it m x K) (gb:∀b o,cH b=some o->K b=some o) (oZ:out=true->cH it=none) (wd:∀h:As,(∀b o,cH b=some o->h.get? b=some o)->X.W.Wd h)
  (T:aw X [] [] K env A s₀ g N F s) (e:nJ out (.ref x) fi (.ref it) ic fb g=some (g',fl)):
  An (Aj X.W.prog X.W.w) A (exec (.For (.Name zc pc) (.Name zf pf) body [] fp) env) (jg X [] [] cH env A s₀ g' fl) E s:=by
 refine oI e fun bW e=>?_
 refine wpAny_For ?_ (fun x=>mh rfl env x)
 refine Bp (yP T.kind (T.self hf (zT1 bW)) ?_ (cU uG)) (wW uG)
 refine ao (id p) fun bq km=>?_
 refine cM bq fun o t ko ij hd=>?_
 refine ZZ (m:=m) ⟨o,t,T.kept it o ko,ij,hd⟩ ?_
 exact JM (fun n s'=>wi X [] [] K env A s₀ (fQ out (.ref x) ic fb n) (g',fl) s') (fun n s' I=>zU1 Y Z hc hb p gb oZ wd I) (Sz g+1) ⟨g,N,F,T,e⟩
theorem eY.mG(Y:eN R C N₀ fI fR fG fP X)(Z:mE R C fR X){it m x:Addr}{zf zc:Str}{fi ic:Nat}{pc pf fp:B7}{body:List Stmt}{fb:Den}(hf:X.C.Γ.lookup zf=some fi)(uG:bad zf=false)(hc:X.C.Γ.lookup zc=some ic)
  (hb:wG X [] [] (lD fR it m x) body fb):eY X [] [] (lD fR it m x) (.For (.Name zc pc) (.Name zf pf) body [] fp) (nJ false (.ref x) fi (.ref it) ic fb):=fun K env A E s₀ g N F s g' fl p T e=>
 SE Y Z hf uG hc hb p (fun _ _ e=>e) (fun h=>ft h) T.ei T e
theorem zVi(Y:eN R C N₀ fI fR fG fP X)(Z:mE R C fR X){it m x:Addr}{zf zc:Str}{fi ic:Nat}{pc pf fp:B7}{body:List Stmt}{fb:Den}{E:Value->Ab->Prop}{cH:Addr->Option Obj}{g':Sg}{fl:Fl}(hf:X.C.Γ.lookup zf=some fi)(uG:bad zf=false)(hc:X.C.Γ.lookup zc=some ic)
  (hb:wG X [] [] (lD fR it m x) body fb) (p:lD fR it m x K) (gb:∀b o,cH b=some o->K b=some o) (oZ:cH it=none) (wd:∀h:As,(∀b o,cH b=some o->h.get? b=some o)->X.W.Wd h)
  (T:aw X [] [] K env A s₀ g N F s) (e:nJ true (.ref x) fi (.ref it) ic fb g=some (g',fl)):
  An (Aj X.W.prog X.W.w) A (exec (.For (.Name zc pc) (.Name zf pf) body [] fp) env) (jg X [] [] cH env A s₀ g' fl) E s:=
 SE Y Z hf uG hc hb p gb (fun _=>oZ) wd T e
end
section
variable{R:ct}{C N₀ fI fR fG fP:Addr}{X:Ctx}{K:Addr->Option Obj}{env:Ea}{A:Am}{s₀ s s':Ab}{g:Sg}{N:Nat->List Addr}{F:List Addr}
theorem zTt(Y:eN R C N₀ fI fR fG fP X)(Z:mE R C fR X){zs zf:Str}{i fi k:Nat}{pf pi pa ps kp cp ap:B7}(hz:X.C.Γ.lookup zs=some i)(bB:bad zs=false)(hf:X.C.Γ.lookup zf=some fi)(hk:X.C.kn.lookup ("iter" :Str)=some .globalImplicit) (hg:X.W.mg "iter" =none) (hb:X.W.mb "iter" =some (.builtin "iter"))
  (T:aw X [] [] K env A s₀ g N F s) {x:Addr} {b:ak} (bW:g.σ[i]?=some (some (.obj (.ref x)))) (bY:g.β=some (.ref x,b)) {Q:Mp->Ab->Prop} {E:Value->Ab->Prop}
  (h:∀it m iG N' s',aw X [] [] iG env A s₀ (g.set fi (.obj (.ref it))) N' F s'->lD fR it m x iG->(∀a o,K a=some o->iG a=some o)->K it=none->Q .next s'):
  An (Aj X.W.prog X.W.w) A (exec (.Assign [.Name zf pf] (.Call (.Name "iter" pi) [.Attribute (.Name zs ps) "_read_char" pa, .Constant (.str "") k kp] [] cp) ap) env) Q E s:=by
 obtain⟨x',dx,st,ds,lam,cc,cell,sg,pb,hx,hF,L,kM⟩:=T.lex Y bY
 cases hx
 obtain⟨⟨nm,q,bs,sn,sub,col,dd,k0,k1,k2,k3,k5,hC⟩,mN,hN,_,hR,_,_,ye,M7,_⟩:=Y.cls _ T.pre.wd
 refine rj L.inst fun mA I jG _ _ _ dP=>?_
 refine aK jG fun tl x7=>?_
 refine cM (Z.ob _ T.pre.wd) fun of fd ho jL fW=>?_
 refine H6 ?_ rfl
 refine Fg rfl ?_
 refine Bb T.kind (by unfold Be;refine af T.names ?_;exact hk) (C4 (mg:=X.W.mg) (mb:=X.W.mb) ?_ hg ?_ hb ?_) (by decide)
 ·refine af T.gl ?_;exact X.W.g T.pre.wd
 ·refine af T.bl ?_;exact X.W.b T.pre.wd
 refine callWith_builtin1 ?_ (zI rfl _ env) rfl
 refine af (zI rfl _ env) ?_
 refine af (zI rfl [] env) ?_
 refine Bi ?_
 refine Gj (Bp (yP T.kind (T.self hz bW) ?_ (cU bB)) (wW bB))
 refine ZJ hC hN ye M7 hR ho jL Si I (dP _ (by decide)) ⟨"lineno",by refine af x7 ?_;simp⟩ (by decide) ?_
 refine Bi (E7 (pos:=kp) (k:=k) (B4 ?_))
 have SF:(s.heap.push (nH fR x)).get? s.heap.objs.size=some (nH fR x):=A0 _ rfl
 refine Z0 (m:=s.heap.objs.size) (f:=fR) (x:=x) SF ?_
 generalize hH:(s.heap.push (nH fR x))=H at*
 have IX:Sub s.heap H:=fun a o e=>hH▸Ak _ e
 have SG:H.objs.size=s.heap.objs.size+1:=by(refine cu hH ?_;exact af (Gf ..) rfl)
 generalize hit:H.objs.size=it at*
 generalize hm:s.heap.objs.size=m at*
 have hmn:s.heap.get? m=none:=hm▸wD 0
 have yr:s.heap.get? it=none:=by
  have:=wD (h:=s.heap) 1
  rw[hm]at this;refine af SG ?_;exact this
 have cN:m≠it:=by refine af SG ?_;exact Bu (Bx _)
 have sX:(H.push {cls:= .type "callable_iterator",data:= .fields #[.ref m, .str ⟨#[]⟩ (s.toks+1), .bool false]}).get? it=some {cls:= .type "callable_iterator",data:= .fields #[.ref m, .str ⟨#[]⟩ (s.toks+1), .bool false]}:=hit▸A0 _ rfl
 have aO:=T.kg (jE s (H.push {cls:= .type "callable_iterator",data:= .fields #[.ref m, .str ⟨#[]⟩ (s.toks+1), .bool false]}) (s.toks+1+1) fun a o e=>Ak _ (IX a o e))
 have Kn:∀a,s.heap.get? a=none->K a=none:=fun a e=>by
  cases q:K a with
  |none=>rfl
  |some o=>rw[T.kept a o q]at e;cases e
 have off:∀a o,s.heap.get? a=some o->a∉ [it,m]:=fun a o e ot=>by
  simp only[Av,Ar,or_false]at ot
  rcases ot with rfl|rfl
  ·rw[yr]at e;exact nn e
  ·rw[hmn]at e;exact nn e
 have ay:=aO.freeze (fp:=[it,m])
  {loc:=by obtain⟨_,o,_,_,e,_⟩:=T.loc;exact off _ o e
   cls:=fun y c e1 e2=>by obtain⟨⟨v,o,e,_⟩,_⟩:=T.cls y c e1 e2;exact off _ o e
   f:=fun a ha=>by obtain⟨_,⟨o,e⟩,_⟩:=T.foot a ha;exact off _ o e
   t:=fun j hj=>nomatch hj
   d:=fun j hj=>nomatch hj}
 refine zM (ay.store hf (.obj (.ref it)) (ey.nil (own:=true)) (.inl rfl)) fun _ av aT=>?_
 refine h it m _ _ av aT ⟨⟨_,s.toks+1,(lz (Ag ..)).trans sX,rfl,rfl⟩,(lz (by simp)).trans (Ak _ SF)⟩ (fun a o e=>?_) (Kn _ yr)
 refine af (jj (off a o (T.kept a o e))) ?_;exact e
end
noncomputable def zZw(i c:Nat):Den:=yT (wQ c (yp i)) aA
noncomputable def uH(i c:Nat)(U:Uc):Den:=jN (fun g=>aU U (.cmp .Eq (.var c) (.lit (.str [92]))) g.σ) (zZw i c) aA
noncomputable def Nf(U:Uc)(t:Nat):Den:=yT (v7 (fm U (.var t))) aA
noncomputable def DY(U:Uc)(t c:Nat):Den:=yT (ou U .Add t (.var c)) aA
noncomputable def sY(U:Uc)(i t c:Nat):Den:=yT (jN (fun g=>aU U (.cmp .Eq (.var c) (.lit (.str [34]))) g.σ) (Nf U t) (yT (uH i c U) aA)) (DY U t c)
noncomputable def qC(U:Uc)(i t c:Nat):Den:=yT (jN (sV i c) (Nf U t) (yT (uH i c U) aA)) (DY U t c)
noncomputable def nK(U:Uc)(i t f c:Nat)(x it:Value):Den:=
 yT (jN (sV i c) (yT (fun g=>some (g, .cont)) aA) aA)
  (yT (jN (fun g=>aU U (.cmp .Eq (.var c) (.lit (.str [34]))) g.σ) (yT (nJ false x f it c (sY U i t c)) aA)
   (yT (uH i c U) (yT (ou U .Add t (.var c)) (yT (nJ false x f it c (qC U i t c)) aA)))) aA)
noncomputable def Ng(U:Uc)(x it:Value):Den:=yT (nJ true x 2 it 3 (nK U 0 1 2 3 x it)) (yT (v7 (fm U (.var 1))) aA)
noncomputable def iV(U:Uc)(b b':ak)(r:List Nat):Prop:=∀v:Value,
 uF 0 ⟨[some (.obj v),none,none,none],some (v,b)⟩=some (⟨[some (.obj v),none,none,none],some (v,b')⟩, .ret (.str r))\/
 (b.push=[]/\∀it:Value,∃aC,Ng U v it ⟨[some (.obj v),some (.str []),some (.obj it),none],some (v,b)⟩=some (⟨aC,some (v,b')⟩, .ret (.str r)))
section
variable{zs zt zf zc:Str}
noncomputable abbrev rcS(zs zc:Str)(p1 p ap cp q:B7):Stmt:= .Assign [.Name zc p1] (.Call (.Attribute (.Name zs p) "_read_char" ap) [] [] cp) q
noncomputable abbrev EA(zc x:Str)(k:Nat)(p1 p2 q:B7):Expr:= .Compare (.Name zc p1) [.Eq] [.Constant (.str x) k p2] q
noncomputable abbrev SH(zs zc:Str)(p1 p2 ap q:B7):Expr:= .Compare (.Name zc p1) [.In] [.Attribute (.Name zs p2) "whitespace" ap] q
noncomputable abbrev EB(zt zc:Str)(p1 p2 q:B7):Stmt:= .AugAssign (.Name zt p1) .Add (.Name zc p2) q
noncomputable abbrev EC(zt:Str)(p q:B7):Stmt:= .Return (some (.Name zt p)) q
noncomputable abbrev ED(zs zc:Str)(a1:Nat)(a2 a3 a4 a5 a6 a7 a8 a9 o5:B7):Stmt:= .If (EA zc "\\" a1 a2 a3 a4) [rcS zs zc a5 a6 a7 a8 a9] [] o5
structure uI(X:Ctx)(zs zt zf zc:Str):Prop where
 s:X.C.Γ.lookup zs=some 0/\bad zs=false/\X.C.kn.lookup zs=some .local
 t:X.C.Γ.lookup zt=some 1/\bad zt=false/\X.C.kn.lookup zt=some .local
 f:X.C.Γ.lookup zf=some 2/\bad zf=false/\X.C.kn.lookup zf=some .local
 c:X.C.Γ.lookup zc=some 3/\bad zc=false/\X.C.kn.lookup zc=some .local
 n:X.C.n=4
 ki:X.C.kn.lookup ("iter" :Str)=some .globalImplicit
 gi:X.W.mg "iter" =none
 bi:X.W.mb "iter" =some (.builtin "iter")
variable{R:ct}{C N₀ fI fR fG fP:Addr}{X:Ctx}{P:(Addr->Option Obj)->Prop}
theorem dB.eqc(O:uI X zs zt zf zc){x:Str}{k:Nat}{p1 p2 q:B7}{l:List Nat}(h:x=mkStr l):oY X [] [] (EA zc x k p1 p2 q) (fun g=>aU X.W.U (.cmp .Eq (.var 3) (.lit (.str l))) g.σ):=
 oY.of (dB.cmp (ax.var O.c.2.2 rfl O.c.1 (wW O.c.2.1) (cU O.c.2.1)) (ax.cStr h) rfl)
theorem eY.dE(Y:eN R C N₀ fI fR fG fP X)(Z:mE R C fR X)(O:uI X zs zt zf zc){a1:Nat}{a2 a3 a4 a5 a6 a7 a8 a9 o5:B7}(hl:(a7.endLine==a8.line)=true):eY X [] [] P (ED zs zc a1 a2 a3 a4 a5 a6 a7 a8 a9 o5) (uH 0 3 X.W.U):=
 eY.g7 (dB.eqc O rfl) (wG.cons (eY.of (yL.assign O.c.1 (.inl rfl) (dO.mF Y Z O.s.1 O.s.2.1 hl) fun env _=>rfl)) wG.nil) wG.nil
theorem wG.add(O:uI X zs zt zf zc){p1 p2 q:B7}:wG X [] [] P [EB zt zc p1 p2 q] (DY X.W.U 1 3):=
 wG.cons (eY.of (yL.aug O.t.1 (ax.var O.c.2.2 rfl O.c.1 (wW O.c.2.1) (cU O.c.2.1)) (cU O.t.2.1))) wG.nil
theorem wG.yt(O:uI X zs zt zf zc){p q:B7}:wG X [] [] P [EC zt p q] (Nf X.W.U 1):=
 wG.cons (eY.of (yL.ret (dO.pure (ax.var O.t.2.2 rfl O.t.1 (wW O.t.2.1) (cU O.t.2.1))))) wG.nil
end
noncomputable def yCu(X:Ctx)(fR:Addr)(fi:Nat)(st:Stmt):Prop:=∀{K:Addr->Option Obj} {env:Ea} {A:Am} {s₀ s:Ab} {g:Sg} {N:Nat->List Addr} {F:List Addr} {x:Addr} {b:ak},aw X [] [] K env A s₀ g N F s->g.σ[0]?=some (some (.obj (.ref x)))->g.β=some (.ref x,b)->∀{Q:Mp->Ab->Prop} {E:Value->Ab->Prop},
 (∀it m iG N' s',aw X [] [] iG env A s₀ (g.set fi (.obj (.ref it))) N' F s'->lD fR it m x iG->(∀a o,K a=some o->iG a=some o)->K it=none->Q .next s')->An (Aj X.W.prog X.W.w) A (exec st env) Q E s
noncomputable def yAc(X:Ctx)(fR:Addr)(st:Stmt)(D:Value->Value->Den):Prop:=∀{K cH:Addr->Option Obj} {env:Ea} {A:Am} {s₀ s:Ab} {g g':Sg} {fl:Fl} {N:Nat->List Addr} {F:List Addr} {it m x:Addr} {E:Value->Ab->Prop},lD fR it m x K->(∀b o,cH b=some o->K b=some o)->cH it=none->(∀h:As,(∀b o,cH b=some o->h.get? b=some o)->X.W.Wd h)->
 aw X [] [] K env A s₀ g N F s->D (.ref x) (.ref it) g=some (g',fl)->An (Aj X.W.prog X.W.w) A (exec st env) (jg X [] [] cH env A s₀ g' fl) E s
theorem Nh{R:ct}{C:Addr}{W:bP}{Cc:Cx}{F:List Addr}{s s':Ab}{env:Ea}{A:Am}{aC:List (Option PV)}{v:Value}{b':ak}{r:List Nat}{fw:Mp}(h:jg ⟨W,fA R C F,Cc⟩ [] [] (fZ s.heap F) env A s ⟨aC,some (v,b')⟩ (.ret (.str r)) fw s'):
  ∃u,fw= .ret u/\Na R C v b' r F s (.ok (.ret u)) s':=by
 obtain⟨⟨u,ms,rfl,ru,_⟩,N',F',T'⟩:=h
 refine aD ru.inv fun t aH _=>?_
 subst aH
 refine ao (T'.book _ _ rfl) fun aI fg=>?_
 subst aI
 exact⟨_,rfl,t,rfl,T'.same,fun a o h1 h2=>T'.kept a o (kO h1 h2),fg⟩
theorem zY1{R:ct}{C N₀ fI fR fG fP:Addr}{W:bP}{scope:Scope}{params:Arguments}{name qual zs:Str}{s1 s2 s3 s4 s5:Stmt}{D:Value->Value->Den}{d5:Den}
  (hY:∀au,eN R C N₀ fI fR fG fP ⟨W,fA R C au,wP scope [zs]⟩) (hn:(wP scope [zs]).n=4)
  (hm:∀h,W.Wd h->kK h fG name qual params [s1,s2,s3,s4,s5] scope) (h1:∀F,yL ⟨W,fA R C F,wP scope [zs]⟩ [] [] s1 (uF 0)) (h2:∀F,yL ⟨W,fA R C F,wP scope [zs]⟩ [] [] s2 (wQ 1 (fm W.U (.lit (.str [])))))
  (h3:∀F,yCu ⟨W,fA R C F,wP scope [zs]⟩ fR 2 s3) (h4:∀F,yAc ⟨W,fA R C F,wP scope [zs]⟩ fR s4 D) (h5:∀F,yU ⟨W,fA R C F,wP scope [zs]⟩ [] [] [] [] [s5] d5) (hD:∀v it,Ng W.U v it=yT (D v it) d5)
  (bM:jl scope [zs]=true) (gZ:scope.names.all (fun y=>y.2 != .cell)=true) (bw:∀pm cd doc u body,Fq (H7 name qual params body scope pm cd doc .none) ⟨[u],[]⟩=pure [(zs,u)]):sJ W R C (W.D+1) fG (iV W.U):=by
 intro A s v b b' r F aN di fJ eH
 have jM:W.Wd s.heap:=fJ _ fun a o _ e=>e
 refine MX (X:=⟨W,fA R C F,wP scope [zs]⟩) (xs:=[zs]) (ps:=[.obj v]) (vs:=[v]) (β:=some (v,b)) (K:=fZ s.heap F) (F:=F) rfl bM gZ (hm _ jM) ((hY F).lim _ jM) aN (fun a o e=>(yl e).2) (fun h k=>fJ h fun a o h1 h2=>k a o (kO h1 h2))
  (fun u c e=>sp e ⟨rfl,di⟩) (fun a ha=>⟨by exact wI ha rfl,di.cg a ha⟩) (fun pm cd doc=>bw pm cd doc v _) (aq.one (.obj v)) rfl fun env aa T=>?_
 rw[show eB (wP scope [zs]) [.obj v] (some (v,b))=⟨[some (.obj v),none,none,none],some (v,b)⟩by unfold eB;rw[hn];rfl]at T
 rcases eH v with e1|⟨hp,e2⟩
 ·refine Bm (zM (h1 F _ env _ _ _ _ _ F _ _ _ T e1) fun fw s₂ aj=>?_)
  refine aD (Nh aj) fun u aH h=>?_
  subst aH
  exact h
 ·refine Bm (zM (h1 F _ env _ _ _ _ _ F _ ⟨[some (.obj v),none,none,none],some (v,b)⟩ .next T ?_) fun fw s₂ aj=>?_)
  ·simp[uF,iF,hp]
  obtain⟨hf,r8,kE,ay⟩:=aj
  obtain rfl:fw= .next:=hf
  refine Bm (zM (h2 F _ env _ _ _ _ _ kE _ ⟨[some (.obj v),some (.str []),none,none],some (v,b)⟩ .next ay rfl) fun fw av aE=>?_)
  obtain⟨hf,gc,ma,aT⟩:=aE
  obtain rfl:fw= .next:=hf
  obtain⟨x,dx,st,ds,lam,cc,cell,sg,pb,rfl,hF,L,kM⟩:=aT.lex (hY F) rfl
  refine Bm (h3 F aT rfl rfl fun it m iG gF aV bT yu gb oZ=>?_)
  refine aK (e2 (.ref it)) fun aC e2=>?_
  rw[hD]at e2
  obtain⟨⟨aab,yv⟩,Ni,o6⟩:=fE e2
  refine Bm (zM (h4 F yu gb oZ (fun h k=>fJ h fun a o h1 h2=>k a o (kO h1 h2)) bT Ni) fun fw dh eD=>?_)
  cases yv with
  |next=>
   obtain⟨hf,aac,Nj,dA⟩:=eD
   obtain rfl:fw= .next:=hf
   refine zM (h5 F _ env _ _ _ _ _ Nj _ _ _ dA o6) fun fw s₆ gC=>?_
   refine aD (Nh gC) fun u aH h=>?_
   subst aH
   exact h
  |ret p=>
   refine ao (Bf (Aa o6)) fun aI q=>?_
   subst aI
   obtain rfl:=Fl.ret.inj q
   refine aD (Nh eD) fun u aH h=>?_
   subst aH
   exact h
  |brk=>exact Fl.noConfusion (Bf (Aa o6)).2
  |cont=>exact Fl.noConfusion (Bf (Aa o6)).2
section
variable{zs zt zf zc:Str}{j1 j2 j3 j4 j5 j6 j7 j8:Nat}{q1 q2 q3 q4 q5 q6 q7 q8 q9 q10 aK aD gT iQ pO rj q17 q18 q19 q20 fU eu cM vw HL BQ q27 q28 q29 q30 vx rk nT jD vy q36 q37 q38 q39 q40 HM ua rl ub vz SI SJ q48 q49 q50 HN q52 BR q54 q55 q56 q57 q58 q59 q60 q61 q62 HO q64 q65 q66 q67 q68 SK SM q71 q72 q73 q74 q75 q76 q77 q78 q79 q80 q81 q82 q83 q84 q85 q86 q87 q88 q89 q90 q91 q92 q93 q94 q95 q96:B7}
theorem yCs{R:ct}{C N₀ fI fR fG fP:Addr}{W:bP}{scope:Scope}{params:Arguments}{name qual:Str}
  (hY:∀au,eN R C N₀ fI fR fG fP ⟨W,fA R C au,wP scope [zs]⟩) (hZ:∀au,mE R C fR ⟨W,fA R C au,wP scope [zs]⟩) (hO:∀au,uI ⟨W,fA R C au,wP scope [zs]⟩ zs zt zf zc)
  (hm:∀h,W.Wd h->kK h fG name qual params [.If (.Attribute (.Name zs q78) "pushback" q79) [.Return (some (.Call (.Attribute (.Attribute (.Name zs q80) "pushback" q81) "pop" SK) [.Constant (.int 0) j6 q82] [] SM)) q83] [] q84,
   .Assign [.Name zt q85] (.Constant (.str "") j7 q86) q87,
   .Assign [.Name zf q88] (.Call (.Name "iter" q89) [.Attribute (.Name zs q90) "_read_char" q91, .Constant (.str "") j8 q92] [] q93) q94,
   .For (.Name zc q66) (.Name zf q67) [.If (SH zs zc q56 q57 q58 q59) [.Continue q60] [] q61, .If (EA zc "\"" j5 q62 HO q64) [.For (.Name zc q19) (.Name zf q20) [.If (EA zc "\"" j1 q1 q2 q3) [EC zt q4 q5] [ED zs zc j2 q6 q7 q8 q9 q10 aK aD gT iQ] pO,EB zt zc rj q17 q18] [] fU] [ED zs zc j4 HM ua rl ub vz SI SJ q48 q49,EB zt zc q50 HN q52, .For (.Name zc BR) (.Name zf q54) [.If (SH zs zc eu cM vw HL) [EC zt BQ q27] [ED zs zc j3 q28 q29 q30 vx rk nT jD vy q36] q37,EB zt zc q38 q39 q40] [] q55] q65] [] q68,
   EC zt q95 q96] scope)
  (hl:(SK.endLine==SM.line)=true/\(aK.endLine==aD.line)=true/\(nT.endLine==jD.line)=true/\(SI.endLine==SJ.line)=true)
  (bM:jl scope [zs]=true) (gZ:scope.names.all (fun y=>y.2 != .cell)=true)
  (bw:∀pm cd doc u body,Fq (H7 name qual params body scope pm cd doc .none) ⟨[u],[]⟩=pure [(zs,u)]):sJ W R C (W.D+1) fG (iV W.U):=by
 exact zY1 (D:=fun v it=>nJ true v 2 it 3 _) hY (hO []).n hm (fun F=>yL.sQ (hY F) (hO F).s.1 (hO F).s.2.1 hl.1) (fun F=>yL.assign (hO F).t.1 (.inl rfl) (dO.pure (ax.cStr (l:=[]) rfl)) (fun env _=>rfl))
  (fun F=>fun T bW bY _ _ h=>zTt (hY F) (hZ F) (hO F).s.1 (hO F).s.2.1 (hO F).f.1 (hO F).ki (hO F).gi (hO F).bi T bW bY h)
  (fun F=>fun p gb oZ wd T e=>zVi (hY F) (hZ F) (hO F).f.1 (hO F).f.2.1 (hO F).c.1
   (wG.cons (eY.g7 (oY.ws (hY F) (hO F).s.1 (hO F).s.2.1 (hO F).c.1 (hO F).c.2.1) (wG.cons (eY.of yL.cont) wG.nil) wG.nil)
    (wG.cons (eY.g7 (dB.eqc (hO F) (l:=[34]) rfl) (wG.cons (eY.mG (hY F) (hZ F) (hO F).f.1 (hO F).f.2.1 (hO F).c.1 (wG.cons (eY.g7 (dB.eqc (hO F) (l:=[34]) rfl) (wG.yt (hO F)) (wG.cons (eY.dE (hY F) (hZ F) (hO F) hl.2.1) wG.nil)) (wG.add (hO F)))) wG.nil)
     (wG.cons (eY.dE (hY F) (hZ F) (hO F) hl.2.2.2) (wG.cons (eY.of (yL.aug (hO F).t.1 (ax.var (hO F).c.2.2 rfl (hO F).c.1 (wW (hO F).c.2.1) (cU (hO F).c.2.1)) (cU (hO F).t.2.1))) (wG.cons (eY.mG (hY F) (hZ F) (hO F).f.1 (hO F).f.2.1 (hO F).c.1 (wG.cons (eY.g7 (oY.ws (hY F) (hO F).s.1 (hO F).s.2.1 (hO F).c.1 (hO F).c.2.1) (wG.yt (hO F)) (wG.cons (eY.dE (hY F) (hZ F) (hO F) hl.2.2.1) wG.nil)) (wG.add (hO F)))) wG.nil)))) wG.nil))
   p gb oZ wd T e)
  (fun F=>yU.cons (tv₁:=[]) (dv₁:=[]) (yL.ret (dO.pure (ax.var (hO F).t.2.2 rfl (hO F).t.1 (wW (hO F).t.2.1) (cU (hO F).t.2.1)))) (yU.nil rfl rfl) rfl rfl rfl rfl) (fun v it=>rfl) bM gZ bw
end
section
variable{R:ct}{C N₀ fI fR fG fP:Addr}{W:bP}
noncomputable def Nk(W:bP)(R:ct)(C:Addr)(D:Nat)(f:Addr):Prop:=∀(A:Am) (s:Ab) (v u:Value) (b:ak) (r:List Nat) (F:List Addr),de D A->kL R C v b F s.heap->VR s.heap (.str r) u []->
 (∀h:As,(∀a o,a∉F->s.heap.get? a=some o->h.get? a=some o)->W.Wd h)->b.push.length<1000->
 Cs (Aj W.prog W.w) A (.call (.ref f) ⟨[v,u],[]⟩) (fun res s'=>res= .ok (.ret .none)/\wJ s s'/\(∀a o,a∉F->s.heap.get? a=some o->s'.heap.get? a=some o)/\kL R C v {b with push:=b.push++[r]} F s'.heap) s
theorem zYq{scope:Scope}{params:Arguments}{name qual zs zt:Str}{p0 p1 ap pt cp ep:B7}
  (hY:∀au,eN R C N₀ fI fR fG fP ⟨W,fA R C au,wP scope [zs,zt]⟩)
  (hm:∀h,W.Wd h->kK h fP name qual params [.Expr (.Call (.Attribute (.Attribute (.Name zs p0) "pushback" p1) "append" ap) [.Name zt pt] [] cp) ep] scope)
  (bM:jl scope [zs,zt]=true) (gZ:scope.names.all (fun y=>y.2 != .cell)=true) (hz:(wP scope [zs,zt]).Γ.lookup zs=some 0) (ht:(wP scope [zs,zt]).Γ.lookup zt=some 1) (hn:(wP scope [zs,zt]).n=2) (yn:bad zs=false) (EE:bad zt=false) (aF:(ap.endLine==cp.line)=true)
  (bw:∀pm cd doc u v body,Fq (H7 name qual params body scope pm cd doc .none) ⟨[u,v],[]⟩=pure [(zs,u),(zt,v)]):Nk W R C (W.D+1) fP:=by
 intro A s v u b r F aN di hu fJ hlen
 have jM:W.Wd s.heap:=fJ _ fun a o _ e=>e
 have Y:=hY F
 have cq:=Y.lim _ jM
 refine MX (X:=⟨W,fA R C F,wP scope [zs,zt]⟩) (xs:=[zs,zt]) (ps:=[.obj v, .str r]) (vs:=[v,u]) (β:=some (v,b)) (K:=fZ s.heap F) (F:=F) rfl bM gZ (hm _ jM) cq aN (fun a o e=>(yl e).2) (fun h k=>fJ h fun a o h1 h2=>k a o (kO h1 h2))
  (fun u c e=>by obtain⟨rfl,rfl⟩:=Bf (Aa e);exact⟨rfl,di⟩) (fun a ha=>⟨by exact wI ha rfl,di.cg a ha⟩) (fun pm cd doc=>bw pm cd doc v u _) (aq.cons (n:=[]) (.obj v) (aq.one hu)) rfl fun env aa T=>?_
 have bW:(eB (wP scope [zs,zt]) [.obj v, .str r] (some (v,b)))=⟨[some (.obj v),some (.str r)],some (v,b)⟩:=by unfold eB;refine af hn ?_;rfl
 rw[bW]at T
 obtain⟨x,dx,st,ds,lam,cc,cell,sg,pb,rfl,hF,L,kM⟩:=T.lex Y rfl
 refine Bm (Me ?_ (by unfold Ju;refine af T.kind ?_;rfl) rfl)
 refine Hv (wU rfl _ env _) (zI rfl [] env) aF ?_
 refine Gj (Bp (yP T.kind (T.self hz rfl) (M8 L (Y.cls _ T.pre.wd) ?_) (cU yn)) (wW yn))
 refine aD L.my fun us bX bg=>?_
 obtain⟨u',acc,ru⟩:=T.rd zt 1 _ ht rfl
 refine lg ("list") _ Dz Hi Hj bX.isList.typeIs (fun c e=>by cases e;obtain⟨n,h⟩:=bX;exact⟨_,h,rfl⟩) (Cv rfl (evalArgs_plain (Bi (Bp (yP T.kind acc (B4 ?_) (cU EE)) (wW EE)))))
 have Su:us.toArray.size<=sizeLine:=by have:=bg.length;refine af Bt ?_;simp at this⊢;exact xD
 refine Ge (hsz:=Su) (s:={aa with toks:=aa.toks+1}) bX fun h' eU dt=>?_
 have L':wS R C h' {b with push:=b.push++[r]} x dx st ds lam cc cell sg pb:=L.push (fun a o h e=>dt.extBut a o h e) ⟨us++[u'],by simpa using eU,by
  have hv':aq h' (b.push.map PV.str) us []:=bg.on fun a ha=>nomatch ha
  have hu':VR h' (.str r) u' []:=by
   generalize(fun _:Nat=>([]:List Addr)) 1=nn at ru
   cases ru;exact .str ..
  have:=aq.append hv' (aq.one hu')
  simpa using this⟩
 have T':=T.oV (s':={aa with heap:=h',toks:=aa.toks+1}) Y rfl hF ((wJ.refl aa).heap h' _) (fun a o h e=>dt.extBut a o (fun q=>h (by(refine af hF ?_;refine af q ?_);simp)) e) L'
 refine ao (T'.book _ _ rfl) fun _ fg=>?_
 exact Em ⟨rfl,T'.same,fun a o h1 h2=>T'.kept a o (kO h1 h2),fg⟩
end
section
variable{prog:Program}{w:Cn}{A:Am}{E:Value->Ab->Prop}{s:Ab}{C N fI fR fG fP:Addr}
noncomputable def Nl(st pb:Addr)(t1 t3:J3):Str->Option Value:=fun y=>if y= "pushback" then some (.ref pb)else if y= "whitespace" then some (.str ⟨#[10,9,13,32]⟩ t3)else if y= "instream" then some (.ref st)else if y= "lineno" then some (.int 1 t1)else none
structure sZ(s:Ab)(L C N fI fR fG fP x dx:Addr)(m mA:Str->Option Value)(h:As):Prop where
 I:lC h C x dx mA
 c:fO h C N fI fR fG fP
 ns:h.Ns L m
 k:∀a o,a≠x->a≠dx->s.heap.get? a=some o->h.get? a=some o
theorem sZ.step{L x dx:Addr}{m mA SN:Str->Option Value}{h h':As}(S:sZ s L C N fI fR fG fP x dx m mA h)(qD:L≠x)(qE:L≠dx)(mH:x≠N/\dx≠N/\x≠C/\dx≠C)(I':lC h' C x dx SN)(hk:∀a o,a≠x->a≠dx->h.get? a=some o->h'.get? a=some o):sZ s L C N fI fR fG fP x dx m SN h':=
 ⟨I',S.c.at' (fun o=>hk C o mH.2.2.1.symm mH.2.2.2.symm) (fun o=>hk N o mH.1.symm mH.2.1.symm),S.ns.at' fun o e=>hk _ o qD qE e,fun a o h1 h2 e=>hk a o h1 h2 (S.k a o h1 h2 e)⟩
theorem EF{env:Ea}{x dx:Addr}{m mA:Str->Option Value}{h:As}{tk:Nat}{zs:Str}{p:B7}{ns:List Str}{name:Str}{v:Value}{Q:Unit->Ab->Prop}(S:sZ s env.locals C N fI fR fG fP x dx m mA h)(s7:env.scope.kind= .function)(kz:env.kindOf zs=some .local)(mz:m zs=some (.ref x))(mI:bad zs=false)
  (qD:env.locals≠x) (qE:env.locals≠dx) (mH:x≠N/\dx≠N/\x≠C/\dx≠C) (iE:∀mN:Str->Option Value,mN "lineno" =none->mN "instream" =none->mN "whitespace" =none->mN "pushback" =none->mN name=none) (hB:Cm (.type "object") name=pure none) (hw:Within mA ns) (cn:ns.length<=100)
  (hq:∀h' yw,sZ s env.locals C N fI fR fG fP x dx m (fun y=>if y=name then some v else mA y) h'->(∀a o,a≠x->a≠dx->h.get? a=some o->h'.get? a=some o)->Q () {s with heap:=h',toks:=yw}):
  An (Aj prog w) A (eval (.Name zs p) env) (fun o aa=>An (Aj prog w) A (setAttr o name v) Q E aa) E {s with heap:=h,toks:=tk}:=
 Bp (yP s7 (.inl ⟨kz,m,S.ns,mz⟩) (So (s:={s with heap:=h,toks:=tk}) S.I S.c iE hB hw cn fun h' yw I' qF=>hq h' yw (S.step qD qE mH I' qF) qF) (cU mI)) (wW mI)
theorem zTm{x dx st:Addr}{scope:Scope}{params:Arguments}{name qual zs zp:Str}{a1 a2 a3 a4 b1 b2 b3 b4 b5 c1 c2 c3 c4 c5 c6 d1:B7}{k1 k2:Nat}
  (hm:kK s.heap fI name qual params [.Assign [.Attribute (.Name zs a1) "lineno" a2] (.Constant (.int 1) k1 a3) a4, .Assign [.Attribute (.Name zs b1) "instream" b2] (.Name zp b3) b4,
   .Assign [.Attribute (.Name zs b5) "whitespace" c1] (.Constant (.str "\n\t\r ") k2 c2) c3, .Assign [.Attribute (.Name zs c4) "pushback" c5] (.List [] c6) d1] scope)
  (aN:A.depth<recursionLimit) (cq:s.heap.NoLimit) (c:fO s.heap C N fI fR fG fP) (I:lC s.heap C x dx (fun _=>none))
  (hn:scope.names=[(zs, .local),(zp, .local)]) (cN:(zp==zs)=false) (hk:scope.kind= .function) (ij:scope.isCoroutine=false) (gH:scope.isGenerator=false) (mI:bad zs=false) (uJ:bad zp=false)
  (mH:x≠N/\dx≠N/\x≠C/\dx≠C)
  (bw:∀pm cd doc u v body,Fq (H7 name qual params body scope pm cd doc .none) ⟨[u,v],[]⟩=pure [(zs,u),(zp,v)])
  {Rr:Ez->Ab->Prop}
  (h:∀s' pb t1 t3,s.heap.get? pb=none->wJ s s'->(∀a o,a≠x->a≠dx->s.heap.get? a=some o->s'.heap.get? a=some o)->lC s'.heap C x dx (Nl st pb t1 t3)->s'.heap.PlainList pb (Eu ([]:List Value))->Rr (.ok (.ret .none)) s'):
  Cs (Aj prog w) A (.call (.ref fI) ⟨[.ref x, .ref st],[]⟩) Rr s:=by
 obtain⟨o,pm,cd,doc,ho,mB,dK,gG⟩:=hm
 have kl:∀y∈([(zs,Ig x),(zp,Ig st)]:List (Str×Value)),scope.names.lookup y.1=some .local:=fun y hy=>by
  simp only[Av,Ar,or_false]at hy
  rcases hy with rfl|rfl
  ·refine af hn ?_;simp
  ·(refine af hn ?_;refine af A8 ?_;refine af cN ?_);simp
 refine call_methW_ret aN ho dK cq gG (.of_eq (bw pm cd doc _ _ _)) kl (fun ai Fm=>?_) ij gH hk (by refine af hn ?_;intro y hy;simp at hy;rcases hy with rfl|rfl<;>simp)
 have up:Sub s.heap ai:=Fm.keep
 generalize bN:envOf qual scope s.heap.objs.size fI cd=env
 have eG:env.scope=scope:=by refine cu bN ?_;rfl
 have ba:env.locals=s.heap.objs.size:=by refine cu bN ?_;rfl
 have s7:env.scope.kind= .function:=by refine af eG ?_;exact hk
 have kz:env.kindOf zs=some .local:=by unfold Be;refine af eG ?_;exact kl (zs, .ref x) (by simp)
 have kp:env.kindOf zp=some .local:=by unfold Be;refine af eG ?_;exact kl (zp, .ref st) (by simp)
 clear bN
 have hL:s.heap.get? env.locals=none:=by refine af ba ?_;exact wD 0
 obtain⟨m,cn,m1,m2⟩:∃m:Str->Option Value,ai.Ns env.locals m/\m zs=some (.ref x)/\m zp=some (.ref st):=by
  refine nU _ (by refine af ba ?_;exact Fm.ns) ?_ ?_
  ·have:(zs==zp)=false:=by
    cases q:(zs==zp)with
    |false=>rfl
    |true=>
     have:zs=zp:=by exact eq_of_beq q
     rw[this]at cN;simp at cN
   refine(?_:E0 zs [(zp,Ig st),(zs,Ig x)]=_)
   (refine af A8 ?_;refine af this ?_);simp
  ·refine(?_:E0 zp [(zp,Ig st),(zs,Ig x)]=_)
   simp
 have qD:env.locals≠x:=fun q=>I.o.cg.elim fun o e=>nn (hL.symm.trans (q▸e))
 have qE:env.locals≠dx:=fun q=>by obtain⟨o,_,_,e,_⟩:=I.d;exact nn (hL.symm.trans (q▸e))
 have Nm:sZ s env.locals C N fI fR fG fP x dx m (fun _=>none) ai:=⟨I.up up,c.keeps up,cn,fun a o _ _ e=>up a o e⟩
 refine Bm (C1 (E6 (EF (s:=s) (ns:=[]) Nm s7 kz m1 mI qD qE mH (fun _ h _ _ _=>h) M6 (Jm fun _=>rfl) (by decide) fun aj cz eh bE=>?_)) rfl)
 refine Bm (C1 (Bp (yP s7 (.inl ⟨kp,m,eh.ns,m2⟩) (EF (s:=s) (ns:=["lineno"]) eh s7 kz m1 mI qD qE mH (fun _ _ h _ _=>h) Se (Ht _ _ (Jm fun _=>rfl)) (by decide) fun aE gk oi SO=>?_) (cU uJ)) (wW uJ)) rfl)
 refine Bm (C1 (E7 (EF (s:=s) (ns:=["instream", "lineno"]) oi s7 kz m1 mI qD qE mH (fun _ _ _ h _=>h) Sf (Ht _ _ (Ht _ _ (Jm fun _=>rfl))) (by decide) fun aW SP fY SQ=>?_)) rfl)
 refine Bm (C1 ?_ rfl)
 refine List_ (B4 (Co ?_ (by refine(?_:(#[]:Array Value).size<=_);refine af Bt ?_;decide)))
 have sX:=A0 (h:=aW) (o:={cls:= .type "list",data:= .seq ([]:List Value).toArray}) rfl
 have yx:Sub aW (aW.push {cls:= .type "list",data:= .seq ([]:List Value).toArray}):=fun a o e=>Ak _ e
 have n4:aW.get? aW.objs.size=none:=wD 0
 generalize aW.push {cls:= .type "list",data:= .seq ([]:List Value).toArray}=Nn at sX yx⊢
 generalize aW.objs.size=pb at sX n4⊢
 have px:pb≠x:=(wO fY.I.o.cg n4).symm
 have pd:pb≠dx:=(wO (by obtain⟨o,_,_,e,_⟩:=fY.I.d;exact⟨o,e⟩) n4).symm
 have Np:sZ s env.locals C N fI fR fG fP x dx m _ Nn:=⟨fY.I.up yx,fY.c.keeps yx,fY.ns.keeps yx,fun a o h1 h2 e=>yx a o (fY.k a o h1 h2 e)⟩
 refine EF (s:=s) (ns:=["whitespace", "instream", "lineno"]) Np s7 kz m1 mI qD qE mH (fun _ _ _ _ h=>h) Sh (Ht _ _ (Ht _ _ (Ht _ _ (Jm fun _=>rfl)))) (by decide) fun gC SS yy yz=>?_
 have uK:s.heap.get? pb=none:=by
  cases e:s.heap.get? pb with
  |none=>rfl
  |some o=>exact nn (n4.symm.trans (fY.k pb o px pd e))
 exact Em (h _ pb _ _ uK ⟨gC,_,s.gens,rfl, .rfl' _⟩ yy.k yy.I ⟨_,yz pb _ px pd sX⟩)
end
noncomputable def uL(P:Addr)(ps:Array Value):rG where
 is _ _ F h:=F=[P]/\h.get? P=some (Hq ps)
 frame:=fun h k=>⟨h.1,k P (by rw[h.1];simp) _ h.2⟩
 cg:=fun h a ha=>by rw[h.1]at ha;rw[Af.mp ha];exact⟨_,h.2⟩
theorem SU{α:Type}(L:List α):∀n:Nat,(Ae n).filterMap (L[·]?)=L.take n
 |0=>by simp
 |n+1=>by(refine af List.range_succ ?_;refine af List.filterMap_append ?_;refine af (SU L n) ?_;refine af List.take_add_one ?_);cases h:L[n]?<;>simp[h]
theorem zMi(l:List Nat):(Cz none none (-1) l.length).filterMap (l[·]?)=l.reverse:=by
 have h1:Cz none none (-1) l.length=(Ae l.length).map fun k=>l.length-1-k:=by
  unfold Cz Hn
  have a1:¬((-1:Int)>0):=by decide
  simp only[if_neg a1]
  have hc:(if((l.length:Int)-1)> -1 then(((l.length:Int)-1)-(-1)-(-1)-1)/(-(-1))else 0).toNat=l.length:=by
   have e:((l.length:Int)-1-(-1)-(-1)-1)/(-(-1))=l.length:=by
    rw[show(-(-1:Int))=1 by decide,Int.ediv_one];lia
   refine af e ?_
   split<;>lia
  refine af hc ?_
  refine Cj fun k hk=>?_
  have:=Bg.mp hk
  lia
 refine af h1 ?_
 refine af List.filterMap_map ?_
 have h2:=SU l.reverse l.length
 rw[show l.reverse.take l.length=l.reverse by rw[<-F0,Ib]]at h2
 refine cu h2 ?_
 have key:∀ks:List Nat,(∀k∈ks,k<l.length)->ks.filterMap ((fun x=>l[x]?)∘fun k=>l.length-1-k)=ks.filterMap (l.reverse[·]?):=by
  intro ks
  induction ks with
  |nil=>intro _;rfl
  |cons k r ih=>
   intro h
   have hk:=h k (Ag ..)
   rw[Di,Di,ih fun a ha=>h a (Ad _ ha)]
   have e:((fun x=>l[x]?)∘fun k=>l.length-1-k) k=l.reverse[k]?:=by
    refine(?_:l[l.length-1-k]?=_)
    rw[List.getElem?_reverse hk]
   exact af e rfl
 exact key _ fun k hk=>Bg.mp hk
theorem SV{h:As}:∀{cs:List Nat} {vs:List Value},vs.length=cs.length->(∀(j:Nat) v,vs[j]?=some v->∃c u,cs[j]?=some c/\v= .str ⟨#[c]⟩ u)->aq h (dC cs) vs []
 |[],[],_,_=> .nil
 |[],_::_,h,_=>by cases h
 |_::_,[],h,_=>by cases h
 |c::cs,v::vs,hl,hg=>by
  refine eu (hg 0 v rfl) fun c' u e fX=>?_
  subst fX
  obtain rfl:=Aa e
  refine aq.cons (n:=[]) (.str [c] u) (SV (by simpa using hl) fun j v e=>?_)
  refine eu (hg (j+1) v (by exact e)) fun c' u' e1 e2=>?_
  exact nr c' u' (by exact e1) e2
section
variable{X:Ctx}{tv dv:List Nat}
noncomputable def s9(i:Nat):dN:=fun g=>match g.σ[i]? with
 |some (some (.str l))=>if l.length<=ag then some (g, .list (dC l.reverse))else none
 |_=>none
theorem zUv{i:Nat}{g g':Sg}{p:PV}(e:s9 i g=some (g',p)):∃l,g.σ[i]?=some (some (.str l))/\l.length<=ag/\g=g'/\PV.list (dC l.reverse)=p:=by
 unfold s9 at e
 cases h:g.σ[i]? with
 |none=>rw[h]at e;exact nn e
 |some o=>
  rw[h]at e
  cases o with
  |none=>exact nn e
  |some q=>
   cases q with
   |str l=>
    refine oI e fun hl e=>?_
    refine ao (Bf (Aa e)) fun aI aH=>?_
    subst aI
    subst aH
    exact vC l rfl hl rfl rfl
   |_=>exact nn e
theorem dO.listRev{zt:Str}{i k:Nat}{p1 p2 p3 p4 p5 p6 p7:B7}(hz:X.C.Γ.lookup zt=some i)(hb:bad zt=false)(hk:X.C.kn.lookup ("list" :Str)=some .globalImplicit) (hg:X.W.mg "list" =none) (n9:X.W.mb "list" =some (.type "list")):
  dO X tv dv true (.Call (.Name "list" p1) [.Subscript (.Name zt p2) (.Slice none none (some (.UnaryOp .USub (.Constant (.int 1) k p3) p4)) p5) p6] [] p7) (s9 i):=fun K env A E s₀ g N F s g' p T e=>by
 refine iQ (zUv e) fun l hl hsz fX ig=>?_
 subst fX
 subst ig
 obtain⟨v,acc,r⟩:=T.rd zt i _ hz hl
 generalize N i=nn at r
 cases r
 rename_i t
 refine Fg rfl ?_
 refine Bb T.kind (by unfold Be;refine af T.names ?_;exact hk) (C4 (mg:=X.W.mg) (mb:=X.W.mb) ?_ hg ?_ n9 ?_) (by decide)
 ·refine af T.gl ?_;exact X.W.g T.pre.wd
 ·refine af T.bl ?_;exact X.W.b T.pre.wd
 refine Cg ?_ (zI rfl [] env) rfl
 refine af (zI rfl [] env) ?_
 refine Bi (Ma (Bp (yP T.kind acc ?_ (cU hb)) (wW hb)))
 refine wpAny_Slice ?_
 refine zM (kb.no env A _ s g.σ none T.pre rfl) fun vl s₂ aj=>?_
 refine ao aj fun pl k₂=>?_
 refine zM (kb.no env A _ s₂ g.σ none (T.pre.kp k₂) rfl) fun vh av aE=>?_
 refine ao aE fun ph bZ=>?_
 refine zM (kb.yes (ax.neg ax.cInt) env A _ av g.σ (some (-1)) ((T.pre.kp k₂).kp bZ) rfl) fun vk aV aW=>?_
 refine ao aW fun pk cY=>?_
 have kk:KG s aV:=zT (zT k₂ bZ) cY
 refine aD (vL pl) fun ql aH hql=>?_
 subst aH
 refine aD (vL ph) fun qh aH hqh=>?_
 subst aH
 refine aD (vL pk) fun qk aH SW=>?_
 subst aH
 refine uq (Ic _ _ _) PySem.F.slot_str_getitem.lookup ?_ ⟨_,rfl⟩
 refine wpAny_getItem_str_slice (l:=ql) (u:=qh) (st:=qk) ⟨_,A0 _ rfl,rfl,rfl⟩ (by refine af SW ?_;rfl) ?_
 have y0:sliceMade ⟨l.toArray⟩ t ql qh qk= .str ⟨l.reverse.toArray⟩:=by
  unfold sliceMade Lh
  refine af hql ?_
  refine af hqh ?_
  refine af SW ?_
  refine ea (by simp) ?_
  refine congrArg Made.str (congrArg Str.mk (congrArg Eu ?_))
  refine(?_:List.filterMap (fun x=>l.toArray[x]?) (Cz none none (-1) (B8 ⟨l.toArray⟩))=_)
  have:B8 ⟨l.toArray⟩=l.length:=by simp[B8]
  refine af this ?_
  have h2:(fun x:Nat=>l.toArray[x]?)=(l[·]?):=by funext x;simp
  refine af h2 ?_
  exact zMi l
 refine af y0 ?_
 have hlen:B8 ⟨l.reverse.toArray⟩=l.length:=by simp[B8]
 refine aZ (by(refine af hlen ?_;refine af Bt ?_);exact hsz) (B4 ?_)
 generalize hH:aV.heap.push {cls:= .type "slice",data:= .fields #[partValue ql,partValue qh,partValue qk]}=H
 have kH:KG s {aV with heap:=H,toks:=aV.toks+1}:=zT kk (jE _ H _ fun a o e=>hH▸Ak _ e)
 refine call_list_str (s:={aV with heap:=H,toks:=aV.toks+1}) T.room.hh _ _ (fun h' tk lU c' hk hS hit=>?_) (by refine(?_:l.reverse.toArray.size<=_);refine af Bt ?_;unfold ag at hsz;simpa using hsz)
 have k':KG s {aV with heap:=h',toks:=tk}:=zT kH (jE _ h' tk hk)
 have hv:aq h' (dC l.reverse) lU.toList []:=SV (by have:=hit.1;exact this) fun j v e=>by
  refine eu (hit.2 j v (by simpa using e)) fun c u e1 e2=>?_
  exact nr c u (by simpa using e1) e2
 have hn:s.heap.get? H.objs.size=none:=nB kH (wD (h:=H) 0)
 exact⟨N,F,[H.objs.size],T.kg k', .list ⟨c',by simpa using hS⟩ hv,T.held ⟨by simp,fun a ha=>by refine af (Af.mp ha) ?_;exact hn⟩⟩
end
section
variable{X:Ctx}{tv dv:List Nat}{K:Addr->Option Obj}{env:Ea}{A:Am}{s₀ s s':Ab}{g:Sg}{N:Nat->List Addr}{F:List Addr}
theorem aw.js(T:aw X tv dv K env A s₀ g N F s){BK:rG}{β:Option (Value×ak)}(h:∀v b,β=some (v,b)->BK.is v b F s.heap):aw ⟨X.W,BK,X.C⟩ tv dv K env A s₀ {g with β:=β} N F s:=
 {T with book:=h}
noncomputable def odd(o:Obj):Bool:=match o.data with
 | .fields _=>true
 | .func _=>true
 |_=>false
theorem aw.tb(T:aw X tv dv K env A s₀ g N F s){a:Addr}(hK:K a=none)(hF:a∉F)(ho:∃o,s.heap.get? a=some o/\odd o=true)(hs:wJ s s')(hk:∀b o,b≠a->s.heap.get? b=some o->s'.heap.get? b=some o):aw X tv dv K env A s₀ g N F s':=by
 refine aD ho fun oa nG dQ=>?_
 have hl:env.locals≠a:=fun q=>by
  refine rl T.loc fun m o es ep e1 e2 _=>?_
  rw[q,nG]at e1;obtain rfl:=Aa e1;unfold odd at dQ;rw[e2]at dQ;exact ft dQ
 have aS:∀c v,s.heap.IsCell c v->c≠a:=fun c v h q=>by
  refine aD h fun o e1 e2=>?_
  rw[q,nG]at e1;obtain rfl:=Aa e1;unfold odd at dQ;rw[e2]at dQ;exact ft dQ
 have hn:∀j b,b∈N j->b≠a:=fun j b hb q=>by
  refine fU (T.nd j b hb) fun items n e=>?_
  rw[q,nG]at e;obtain rfl:=Aa e;exact ft dQ
 have up:∀j b,b∈N j->∀o,s.heap.get? b=some o->s'.heap.get? b=some o:=fun j b hb o e=>hk b o (hn j b hb) e
 exact
  {T with
   loc:=by obtain⟨m,h⟩:=T.loc;exact⟨m,h.at' fun o e=>hk _ o hl e⟩
   cls:=fun x c e1 e2=>by
    refine ao (T.cls x c e1 e2) fun bq h5=>?_
    refine eu bq fun u o h3 h4=>?_
    exact aZ ⟨u,o,hk c o (aS c _ ⟨o,h3,h4⟩) h3,h4⟩ h5
   rd:=fun x i p e1 e2=>by
    obtain⟨u,ac,r⟩:=T.rd x i p e1 e2
    refine⟨u,?_,r.on fun b hb o e=>up i b hb o e⟩
    rcases ac with⟨h1,m,h2,h3⟩|⟨h1,c,h2,o,h3,h4⟩
    ·exact .inl ⟨h1,m,h2.at' fun o e=>hk _ o hl e,h3⟩
    ·exact .inr ⟨h1,c,h2,o,hk c o (aS c _ ⟨o,h3,h4⟩) h3,h4⟩
   nd:=fun j b hb=>by obtain⟨items,n,e⟩:=T.nd j b hb;exact⟨items,n,up j b hb _ e⟩
   kept:=fun b o e=>hk b o (fun q=>by rw[q,hK]at e;exact nn e) (T.kept b o e)
   same:=T.same.trans hs
   book:=fun u b e=>X.BK.frame (T.book u b e) fun c hc o e=>hk c o (fun q=>hF (q▸hc)) e
   foot:=fun b hb=>by
    refine cD (T.foot b hb) fun h1 gE h3=>?_
    refine aK gE fun o h2=>?_
    exact⟨h1,⟨o,hk b o (fun q=>hF (q▸hb)) h2⟩,h3⟩}
theorem zH4{pos:B7}{a b:Int}{c:Value}(h:(a==(pos.line:Int)&&b==(pos.col:Int))=false):codeAmong pos [H8 a,H8 b,c]=none:=by
 unfold H8 codeAmong
 refine ea (by rw[h];decide) ?_
 rfl
end
noncomputable def gL:ak:=⟨[],0,[]⟩
noncomputable def o7(P:Addr):rG where
 is _ _ F h:=F=[P]/\∃o,h.get? P=some o
 frame:=fun h k=>⟨h.1,by obtain⟨o,e⟩:=h.2;exact⟨o,k P (by rw[h.1];simp) _ e⟩⟩
 cg:=fun h a ha=>by rw[h.1]at ha;rw[Af.mp ha];exact h.2
noncomputable def y6(o:Obj):Nat:=match o.data with
 | .func _=>if o.dict.isSome then 0 else 1
 | .fields _=>2
 | .cell _=>3
 | .seq _ _=>4
 | .dict _ _=>5
 |_=>6
structure EG(W:bP)(P c i5:Addr):Prop where
 code:∀h,W.Wd h->∃o fd,h.get? i5=some o/\o.data= .func fd/\fd.code= .ref c
 hd:∀h,W.Wd h->Mz h c P
 bm:∀h,W.Wd h->h.BuiltinsAt W.mg P
 gP:mainGlobals≠P
 lim:∀h,W.Wd h->h.NoLimit
inductive EH(R:ct)(C P:Addr)(text:List Nat)(s:Ab)(res:Ez)(s':Ab):Prop
 |mk (v:Value) (F:List Addr) (ps:Array Value) (e:res= .ok (.ret v)) (sm:wJ s s') (k:∀a o,a≠P->s.heap.get? a=some o->s'.heap.get? a=some o) (hP:s'.heap.get? P=some (Hq ps)) (l:kL R C v ⟨text,1,[]⟩ F s'.heap) (n:∀a∈F,s.heap.get? a=none):EH R C P text s res s'
noncomputable def EI(W:bP)(R:ct)(C:Addr)(D:Nat)(f P:Addr):Prop:=∀(A:Am) (s:Ab) (u:Value) (text:List Nat),de D A->VR s.heap (.str text) u []->s.heap.get? P=some (Hq #[])->text.length<=ag->
 (∀h:As,(∀a o,a∉ [P]->s.heap.get? a=some o->h.get? a=some o)->W.Wd h)->
 Cs (Aj W.prog W.w) A (.call (.ref f) ⟨[u],[]⟩) (EH R C P text s) s
inductive SX(s:Ab)(P:Addr)(tr:Array Value)(pos:B7)(ob:Addr->Value->Obj)(qual:Str)(f:Addr)(s':Ab):Prop
 |mk (c':Addr) (fK:Value) (sm:wJ s s') (k:∀a o,a≠P->s.heap.get? a=some o->s'.heap.get? a=some o) (ho:s'.heap.get? f=some (ob c' fK)) (hP:s'.heap.get? P=some (Hq (tr++ #[H8 pos.line,H8 pos.col, .ref c']))) (rc:s'.heap.CodeRec (.ref c') qual)
  (nf:s.heap.get? f=none) (nc:s.heap.get? c'=none):SX s P tr pos ob qual f s'
theorem SY{h:As}{a:Addr}(q:h.objs.size<=a):h.get? a=none:=by
 cases e:h.get? a with
 |none=>rfl
 |some o=>exact absurd (Bo e) (Fu.mpr q)
section
variable{R:ct}{C N₀ fI fR fG fP fM P c:Addr}{W:bP}{Cc:Cx}{tv dv:List Nat}{K:Addr->Option Obj}{env:Ea}{A:Am}{E:Value->Ab->Prop}{s₀ s s':Ab}{σ:List (Option PV)}{N:Nat->List Addr}
theorem S2{params:Arguments}{body:Expr}{scope:Scope}{pos:B7}{tr:Array Value}{cl:List (Str×Addr)}{Q:Value->Ab->Prop}(T:aw ⟨W,o7 P,Cc⟩ tv dv K env A s₀ ⟨σ,some (.none,gL)⟩ N [P] s)(hM:EG W P c fM)(gG:env.code= .ref c)(hP:s.heap.get? P=some (Hq tr))(ht:TriplesOk tr.toList)(uM:codeAmong pos tr.toList=none)
  (hd:Kp params env=([],[])) (hc:Md scope env=pure cl)
  (h:∀f s',SX s P tr pos (fun c' fK=>kla_obj "<lambda>" (env.qual++ "<lambda>") params body scope cl ((W.mg "__name__").getD .none) c' fK) (env.qual++ "<lambda>") f s'->aw ⟨W,o7 P,Cc⟩ tv dv K env A s₀ ⟨σ,some (.none,gL)⟩ N [P] s'->Q (.ref f) s'):
  An (Aj W.prog W.w) A (eval (.Lambda params body scope pos) env) Q E s:=by
 have wd:=T.pre.wd
 refine kla_eval hd (kla_makeFunction hc T.gl (W.g wd) gG (hM.hd _ wd) hP ht uM hM.gP (hM.bm _ wd) fun c' fK h' tk hx td aY Nq y7=>?_)
 have up:Sub h' (h'.push (kla_obj "<lambda>" (env.qual++ "<lambda>") params body scope cl ((W.mg "__name__").getD .none) c' fK)):=fun a o e=>Ak _ e
 have ho:=A0 (h:=h') (o:=kla_obj "<lambda>" (env.qual++ "<lambda>") params body scope cl ((W.mg "__name__").getD .none) c' fK) rfl
 generalize h'.push (kla_obj "<lambda>" (env.qual++ "<lambda>") params body scope cl ((W.mg "__name__").getD .none) c' fK)=H at up ho⊢
 have sm:=(wJ.refl s).heap H tk
 have kk:∀a o,a≠P->s.heap.get? a=some o->H.get? a=some o:=fun a o h e=>up a o (hx a o h e)
 exact h _ _ ⟨c',fK,sm,kk,ho,up _ _ y7,Nq.keeps up,SY (Ah td (Dc aY)),SY td⟩ (aw.sF T sm (fun a o h e=>kk a o (fun q=>h (q▸ .head _)) e) (v:= .none) (b':=gL) ⟨rfl,_,up _ _ y7⟩)
inductive jO(h:As):List Addr->List Nat->Prop
 |nil:jO h [] []
 |cons {a:Addr} {t:Nat} {l:List Addr} {ts:List Nat} (e:∃o,h.get? a=some o/\y6 o=t) (r:jO h l ts):jO h (a::l) (t::ts)
theorem jO.app{h:As}{l k:List Addr}{ts us:List Nat}(x:jO h l ts)(y:jO h k us):jO h (l++k) (ts++us):=by
 induction x with
 |nil=>exact y
 |cons e _ ih=>exact .cons e ih
theorem jO.mem{h:As}{l:List Addr}{ts:List Nat}(x:jO h l ts):∀a∈l,∃o,h.get? a=some o/\y6 o∈ts:=by
 induction x with
 |nil=>exact gD
 |cons e r ih=>exact fa (e.elim fun o q=>⟨o,q.1,q.2▸ .head _⟩) fun b hb=>(ih b hb).elim fun o q=>⟨o,q.1, .tail _ q.2⟩
theorem jO.nodup{h:As}{l:List Addr}{ts:List Nat}(x:jO h l ts)(n:ts.Nodup):l.Nodup:=by
 induction x with
 |nil=>exact E5
 |cons e r ih=>
  have n:=C9.mp n
  refine C9.mpr ⟨fun hm=>?_,ih n.2⟩
  refine aD (r.mem _ hm) fun o e1 e2=>?_
  refine aD e fun o' e3 e4=>?_
  obtain rfl:=Aa (e1.symm.trans e3)
  exact n.1 (e4▸e2)
structure S3(R:ct)(h:As)(f ds lam cc cell sg:Addr)(text:List Nat):Prop where
 Nr:oS h f ds
 y8:nI h ds lam
 te:mx R h lam cc cell
 y9:h.IsCell cell (some (.ref sg))
 ysg:kG h sg text
 tags:jO h [f,ds,lam,cc,cell,sg] [0,5,1,2,3,4]
theorem zXg{h6 h7 h8:As}{x dx f ds lam cc cell sg pb:Addr}{t1 t3:J3}{text:List Nat}(Y:S3 R h6 f ds lam cc cell sg text)(o8:Sub h6 h7)(keep:Sub h6 h8)(nx:h6.get? x=none)(nd:h6.get? dx=none)(I7:lC h7 C x dx fun _=>none)(I8:lC h8 C x dx (Nl f pb t1 t3))(uK:h7.get? pb=none)(my:h8.PlainList pb (Eu ([]:List Value)))(hsz:text.length<=ag):
  wS R C h8 ⟨text,1,[]⟩ x dx f ds lam cc cell sg pb:=by
 have Nt:∀a∈[x,dx,f,ds,lam,cc,cell,sg],∃o,h7.get? a=some o:=fa I7.o.cg (fa (by obtain⟨o,_,_,e,_⟩:=I7.d;exact⟨o,e⟩) fun a ha=>(Y.tags.mem a ha).elim fun o e=>⟨o,o8 _ _ e.1⟩)
 have n6:∀a∈[f,ds,lam,cc,cell,sg],∀b,h6.get? b=none->b≠a:=fun a ha b hb q=>(Y.tags.mem a ha).elim fun o e=>nn (hb.symm.trans (q▸e.1))
 refine⟨I8.o,⟨_,I8.d,⟨t1,by(refine ea (by decide) ?_;refine ea (by decide) ?_;refine ea (by decide) ?_;exact wI rfl rfl)⟩,by(refine ea (by decide) ?_;refine ea (by decide) ?_;exact wI rfl rfl),⟨t3,by(refine ea (by decide) ?_;exact wI rfl rfl)⟩,if_pos rfl,fun n hn=>?_⟩,Y.Nr.up (keep _),Y.y8.up (keep _),Y.te.up (keep _) (keep _),IsCell.up Y.y9 (keep _),Y.ysg.at' (keep _),⟨[],my, .nil⟩,?_,hsz⟩
 ·unfold Nl
  have ne:∀z∈(["lineno", "instream", "whitespace", "pushback"]:List Str),n≠z:=fun z hz q=>hn (q▸hz)
  (refine ea (ne _ (by decide)) ?_;refine ea (ne _ (by decide)) ?_;refine ea (ne _ (by decide)) ?_;exact ea (ne _ (by decide)) rfl)
 ·have m:=Y.tags.nodup (by decide)
  refine Hx (l₁:=[x,dx,f,ds,lam,cc,cell,sg]) (l₂:=[pb])|>.mpr ⟨C9.mpr ⟨fun h=>(Av.mp h).elim (fun q=>I7.ne q.symm) fun h=>n6 x h x nx rfl,C9.mpr ⟨fun h=>n6 dx h dx nd rfl,m⟩⟩,C9.mpr ⟨Ar,E5⟩,fun a ha b hb=>?_⟩
  exact Af.mp hb▸wO (Nt a ha) uK
end
section
variable{R:ct}{C N₀ fI fR fG fP fM P c:Addr}{W:bP}{Cc:Cx}{tv:List Nat}{env:Ea}{A:Am}{E:Value->Ab->Prop}{s s₆:Ab}{N:Nat->List Addr}{text:List Nat}{f:Addr}{p0:Option PV}
theorem Nu{a:Addr}(T:aw ⟨W,o7 P,Cc⟩ tv [] (fZ s.heap [P]) env A s ⟨[p0,some (.obj (.ref f)),some (.list (dC text.reverse))],some (.none,gL)⟩ N [P] s₆)(h:s₆.heap.get? a=none)(hP:a≠P):s.heap.get? a=none:=by
 cases e:s.heap.get? a with
 |none=>rfl
 |some o=>exact nn (h.symm.trans (T.kept a o (kO (fun q=>hP (Af.mp q)) e)))
theorem S4{a:Addr}(h:fZ s.heap [P] a=none)(hP:a≠P):s.heap.get? a=none:=by
 unfold fZ at h
 rwa[if_neg fun q=>hP (Af.mp q)]at h
set_option maxHeartbeats 1000000 in
theorem yD5{scopeI:Scope}{paramsI:Arguments}{nameI iH zs zp zst:Str}{d1 d2 d3 d4 e1 e2 e3 e4 e5 f1 f2 f3 f4 f5 f6 g1 c1 c2 c3:B7}{j1 j2:Nat}{ds lam cc cell:Addr}{ps:Array Value}{Q:Value->Ab->Prop}
  (mB:∀h,W.Wd h->fO h C N₀ fI fR fG fP) (cq:∀h,W.Wd h->h.NoLimit)
  (Nv:∀h,W.Wd h->kK h fI nameI iH paramsI [.Assign [.Attribute (.Name zs d1) "lineno" d2] (.Constant (.int 1) j1 d3) d4, .Assign [.Attribute (.Name zs e1) "instream" e2] (.Name zp e3) e4,
   .Assign [.Attribute (.Name zs e5) "whitespace" f1] (.Constant (.str "\n\t\r ") j2 f2) f3, .Assign [.Attribute (.Name zs f4) "pushback" f5] (.List [] f6) g1] scopeI)
  (Nw:scopeI.names=[(zs, .local),(zp, .local)]) (ti:(zp==zs)=false) (Nx:scopeI.kind= .function) (tj:scopeI.isCoroutine=false) (mJ:scopeI.isGenerator=false) (mI:bad zs=false) (uJ:bad zp=false)
  (jt:∀pm cd doc u v body,Fq (H7 nameI iH paramsI body scopeI pm cd doc .none) ⟨[u,v],[]⟩=pure [(zs,u),(zp,v)])
  (T:aw ⟨W,o7 P,Cc⟩ tv [] (fZ s.heap [P]) env A s ⟨[p0,some (.obj (.ref f)),some (.list (dC text.reverse))],some (.none,gL)⟩ N [P] s₆) (h2:2∈tv) (eX:Cc.Γ.lookup zst=some 1) (iU:Cc.Γ.lookup R.sg=some 2) (ju:Cc.kn.lookup R.sg=some .cell) (ym:Cc.kn.lookup ("_netrclex" :Str)=some .globalImplicit)
  (mq:W.mg "_netrclex" =some (.ref C)) (iI:bad zst=false) (oO:A.depth+1<recursionLimit) (hsz:text.length<=ag) (hP:s₆.heap.get? P=some (Hq ps)) (dm:env.cells.lookup R.sg=some cell)
  (Nr:oS s₆.heap f ds) (y8:nI s₆.heap ds lam) (te:mx R s₆.heap lam cc cell) (za:jO s₆.heap [f,ds,lam,cc] [0,5,1,2]) (fresh:∀a∈[f,ds,lam,cc],s.heap.get? a=none)
  (hQ:∀v s',EH R C P text s (.ok (.ret v)) s'->Q v s'):An (Aj W.prog W.w) A (eval (.Call (.Name "_netrclex" c1) [.Name zst c2] [] c3) env) Q E s₆:=by
 have wd:=T.pre.wd
 obtain⟨vst,ast,Ny⟩:=T.rd zst 1 (.obj (.ref f)) eX rfl
 refine ao Ny.inv fun aI _=>?_
 subst aI
 obtain⟨vsg,asg,rsg⟩:=T.rd R.sg 2 (.list (dC text.reverse)) iU rfl
 refine jD rsg.inv fun sg us ns bX bg lX hN=>?_
 subst lX
 obtain rfl:=bg.aM (MN _)
 have aS:s₆.heap.IsCell cell (some (.ref sg)):=by
  rcases asg with⟨h1,_⟩|⟨_,c0,h2,h3⟩
  ·rw[show env.kindOf R.sg=some .cell by unfold Be;rw[T.names];exact ju]at h1;cases h1
  ·exact Aa (h2.symm.trans dm)▸h3
 have Y:S3 R s₆.heap f ds lam cc cell sg text:=⟨Nr,y8,te,aS,⟨us,bX,bg⟩,by
  refine aD aS fun o e1 e2=>?_
  refine aK bX fun n e3=>?_
  exact za.app (.cons ⟨o,e1,by unfold y6;exact af e2 rfl⟩ (.cons ⟨_,e3,rfl⟩ .nil))⟩
 have Nz:sg≠P:=fun q=>(T.foot P (.head _)).2.2.1 2 (hN▸q▸ .head _)
 have tm:cell≠P:=fun q=>(T.foot P (.head _)).2.2.2.2 _ _ dm q.symm
 have fr6:∀a∈[f,ds,lam,cc,cell,sg],s.heap.get? a=none:=fa (fresh _ (.head _)) (fa (fresh _ (.tail _ (.head _))) (fa (fresh _ (.tail _ (.tail _ (.head _)))) (fa (fresh _ (.tail _ (.tail _ (.tail _ (.head _))))) (fa (S4 (T.cls _ _ ju dm).2 tm) (fa (S4 (T.bQ 2 h2 sg [] hN).1 Nz) gD)))))
 refine Fg rfl ?_
 refine Bb T.kind (by unfold Be;refine af T.names ?_;exact ym) (D4 (mg:=W.mg) (T.gl▸W.g wd) mq ?_) (by decide)
 have c6:fO s₆.heap C N₀ fI fR fG fP:=mB _ wd
 obtain⟨⟨nm,q,bs,sn,sub,col,dd,k0,k1,k2,k3,k5',hC⟩,mN,wq,hI,_⟩:=id c6
 refine callWith_cls (h₀:=s₆.heap) (N:=N₀) (mN:=mN) ⟨⟨nm,q,bs,sn,sub,col,dd,k0,k1,k2,k3,k5',hC⟩,wq⟩ ?_ (zI rfl [] env) rfl
 refine af (zI rfl [] env) ?_
 refine Bi (Bp (yP T.kind ast (B4 ⟨fun _ _ e=>e,?_⟩) (cU iI)) (wW iI))
 obtain⟨oI,pmI,cdI,NA,S5,S6,hdI,NB⟩:=Nv _ wd
 refine wpAny_call_obj_init PySem.F.objNew hC wq hI S5 S6 fun h7 x dx Mk=>?_
 have o8:Sub s₆.heap h7:=Mk.keeps
 have nx:s₆.heap.get? x=none:=Mk.newX
 have nd:s₆.heap.get? dx=none:=Mk.newD
 have I7:lC h7 C x dx (fun _=>none):=by
  refine iQ Mk.inst fun o e1 e2 e3 e4=>?_
  have hd:=Mk.dict o e1
  rcases e4 with⟨hn,_⟩|⟨d',yf,cN,cn⟩
  ·exact nn (hn.symm.trans hd)
  ·obtain rfl:=Aa (hd.symm.trans yf)
   exact⟨⟨o,e1,e2,e3,hd⟩,cn,cN⟩
 have S7:∃o,s₆.heap.get? C=some o:=⟨_,hC⟩
 have S8:∃o,s₆.heap.get? N₀=some o:=by obtain⟨o,_,_,e,_⟩:=wq;exact⟨o,e⟩
 have off:∀a,(∃o,s₆.heap.get? a=some o)->a≠x/\a≠dx:=fun a h=>⟨wO h nx,wO h nd⟩
 refine Gl (zTm (fI:=fI) (x:=x) (dx:=dx) (st:=f) (C:=C) (N:=N₀) (fR:=fR) (fG:=fG) (fP:=fP) ⟨oI,pmI,cdI,NA,o8 _ _ S5,S6,hdI,NB.keeps o8⟩ oO ((cq _ wd).keeps o8) (c6.keeps o8) I7 Nw ti Nx tj mJ mI uJ ⟨(off _ S8).1.symm,(off _ S8).2.symm,(off _ S7).1.symm,(off _ S7).2.symm⟩ jt fun s8 pb t1 t3 uK hs8 hk8 I8 NC=>?_)
 have keep:Sub s₆.heap s8.heap:=fun a o e=>hk8 a o (off a ⟨o,e⟩).1 (off a ⟨o,e⟩).2 (o8 a o e)
 have ze:s₆.heap.get? pb=none:=by
  cases e:s₆.heap.get? pb with
  |none=>rfl
  |some o=>exact nn ((show h7.get? pb=none from uK).symm.trans (o8 _ _ e))
 have ND:∃o,s₆.heap.get? P=some o:=⟨_,hP⟩
 exact⟨rfl,hQ _ _ ⟨.ref x,[x,dx,f,ds,lam,cc,cell,sg,pb],ps,rfl,(T.same.trans ((wJ.refl _).heap h7 _)).trans hs8,fun a o h e=>keep a o (T.kept a o (kO (fun q=>h (Af.mp q)) e)),keep _ _ hP,⟨x,dx,f,ds,lam,cc,cell,sg,pb,rfl,rfl,zXg Y o8 keep nx nd I7 I8 uK NC hsz⟩,
  fa (Nu T nx (off _ ND).1.symm) (fa (Nu T nd (off _ ND).2.symm) (fap (l:=[f,ds,lam,cc,cell,sg]) fr6 (fa (Nu T ze (wO ND ze).symm) gD)))⟩⟩
end
theorem yB2{text:List Nat}{β:Option (Value×ak)}(hsz:text.length<=ag):wQ 2 (s9 0) ⟨[some (.str text),none,none],β⟩=some (⟨[some (.str text),none,some (.list (dC text.reverse))],β⟩, .next):=by
 refine(?_:(s9 0 _).bind _=_)
 unfold s9
 refine af (show([some (PV.str text),none,none]:List (Option PV))[0]?=some (some (.str text))from rfl) ?_
 dsimp only
 refine af (if_pos hsz) ?_
 rfl
section
variable{R:ct}{C N₀ fI fR fG fP fM P c:Addr}{W:bP}
set_option maxHeartbeats 1000000 in
theorem yC8{scope az:Scope}{params er:Arguments}{name zt zst:Str}{zg:Expr}{b1 b3 b4 b5 b6 b7 b8 c4:B7}{s1:Stmt}{e4:Expr}
  (hM:EG W P c fM)
  (dQ:∀h,W.Wd h->md h fM name params [s1, .Assign [.Name zst b1] (.Lambda er zg az b3) b4, .Assign [.Attribute (.Name zst b5) "read" b6] (.Lambda R.params R.body R.az b7) b8, .Return (some e4) c4] scope)
  (h1:yL ⟨W,uL P #[],wP scope [zt]⟩ [2] [] s1 (wQ 2 (s9 0)))
  (bM:jl scope [zt]=true) (eX:(wP scope [zt]).Γ.lookup zst=some 1) (iU:(wP scope [zt]).Γ.lookup R.sg=some 2) (hn:(wP scope [zt]).n=3)
  (iI:bad zst=false) (ju:(wP scope [zt]).kn.lookup R.sg=some .cell)
  (rY:az.names=[]) (NF:∀env,Kp er env=([],[])) (NG:∀env,Kp R.params env=([],[])) (NH:R.az.names=[(R.sz, .local),(R.sg, .free)]) (jv:(((b3.line:Int))==(b7.line:Int)&&((b3.col:Int))==(b7.col:Int))=false)
  (bw:∀pm cd doc u body,Fq (Hc name params body scope pm cd doc) ⟨[u],[]⟩=pure [(zt,u)])
  (h4:∀{s s₆:Ab} {env:Ea} {A:Am} {E:Value->Ab->Prop} {N:Nat->List Addr} {text:List Nat} {f ds lam cc cell:Addr} {p0:Option PV} {ps:Array Value} {Q:Value->Ab->Prop},aw ⟨W,o7 P,wP scope [zt]⟩ [2] [] (fZ s.heap [P]) env A s ⟨[p0,some (.obj (.ref f)),some (.list (dC text.reverse))],some (.none,gL)⟩ N [P] s₆->text.length<=ag->s₆.heap.get? P=some (Hq ps)->env.cells.lookup R.sg=some cell->
   oS s₆.heap f ds->nI s₆.heap ds lam->mx R s₆.heap lam cc cell->jO s₆.heap [f,ds,lam,cc] [0,5,1,2]->(∀a∈[f,ds,lam,cc],s.heap.get? a=none)->(∀v s',EH R C P text s (.ok (.ret v)) s'->Q v s')->An (Aj W.prog W.w) A (eval e4 env) Q E s₆):EI W R C (W.D+1) fM P:=by
 intro A s u text aN hu hP hsz fJ
 have jM:W.Wd s.heap:=fJ _ fun a o _ e=>e
 refine Sd (X:=⟨W,uL P #[],wP scope [zt]⟩) (tv:=[2]) (dv:=[]) (xs:=[zt]) (ps:=[.str text]) (vs:=[u]) (ns:=[]) (β:=some (.none,gL)) (K:=fZ s.heap [P]) (F:=[P]) rfl bM (dQ _ jM) (hM.lim _ jM) aN (fun a o e=>(yl e).2) (fun h k=>fJ h fun a o h1 h2=>k a o (kO h1 h2))
  (fun v b e=>⟨rfl,hP⟩) (fun a ha=>⟨by exact wI ha rfl,by refine af (Af.mp ha) ?_;exact⟨_,hP⟩,(fun h=>(Ar h).elim)⟩) (fun pm cd doc=>bw pm cd doc u _) (aq.one hu) rfl (by intro i hi;simp at hi;subst hi;exact Dc (Ed Nat.one_lt_two (B6 _))) fun env cd aa N qG hq fW _ T=>?_
 have gG:env.code= .ref c:=by
  refine cM fW fun o fd e1 e2 e3=>?_
  refine cM (hM.code _ jM) fun o' sv e4 e5 e6=>?_
  obtain rfl:=Aa (e1.symm.trans e4)
  obtain rfl:=Data.func.inj (e2.symm.trans e5)
  refine af qG ?_
  refine cu e3 ?_
  exact af e6 rfl
 rw[show eB (wP scope [zt]) [.str text] (some (.none,gL))=⟨[some (.str text),none,none],some (.none,gL)⟩by unfold eB;rw[hn];rfl]at T
 refine Bm (zM (h1 _ env _ _ _ _ _ [P] _ ⟨[some (.str text),none,some (.list (dC text.reverse))],some (.none,gL)⟩ .next T (yB2 hsz)) fun fw s₂ aj=>?_)
 obtain⟨hf,r8,kE,ay⟩:=aj
 obtain rfl:fw= .next:=hf
 refine ao (ay.book _ _ rfl) fun aI jP=>?_
 subst aI
 have ay:=ay.js (BK:=o7 P) (β:=some (.none,gL)) fun v b e=>⟨rfl,_,jP⟩
 refine Bm (H6 (S2 ay hM gG jP trivial rfl (NF env) (cl:=[]) (by unfold Md;refine af rY ?_;rfl) fun f av I aT=>?_) rfl)
 refine zM (aT.eF eX (.obj (.ref f)) (ey.nil (own:=true)) (.inl rfl)) fun _ aV aW=>?_
 refine cD aW fun bT S9 cY=>?_
 obtain⟨c',fK,sm,kk,ho,zh,_,nf,nc⟩:=I
 have zi:∃o,s₂.heap.get? env.locals=some o:=by obtain⟨_,o,_,_,e,_⟩:=ay.loc;exact⟨o,e⟩
 have zj:∀y d,(wP scope [zt]).kn.lookup y=some .cell->env.cells.lookup y=some d->∃o,s₂.heap.get? d=some o:=fun y d e1 e2=>by obtain⟨⟨v,o,e,_⟩,_⟩:=ay.cls y d e1 e2;exact⟨o,e⟩
 have qH:=cY f _ (wO zi nf).symm (fun y d e1 e2=>(wO (zj y d e1 e2) nf).symm) ho
 have fP:=(aT.foot P (.head _)).2.2.2
 have mK:aV.heap.get? P=_:=cY P _ fP.1 (fun y d _ e2=>fP.2 y d e2) zh
 refine aK (bT.eI R.sg _ ju (.inl rfl)) fun cell dm=>?_
 refine Bm (C1 (S2 bT hM gG mK (by exact trivial) (zH4 jv) (NG env) (cl:=[(R.sg,cell)]) (by unfold Md;refine af NH ?_;simp only[Hm,List.forIn_nil,cellOf,dm];rfl) fun lam dh J dA=>?_) rfl)
 obtain⟨c5,aad,sm5,kk5,ho5,qI,rc5,Ta,Tb⟩:=J
 obtain⟨vst,ast,Ny⟩:=dA.rd zst 1 (.obj (.ref f)) eX rfl
 refine ao Ny.inv fun aI _=>?_
 subst aI
 refine Bp (yP dA.kind ast ?_ (cU iI)) (wW iI)
 have NI:f≠P:=(wO ⟨_,jP⟩ nf).symm
 have qJ:=kk5 f _ NI qH
 refine Zw (s:=dh) qJ rfl rfl rfl Sk fun h6 NJ EJ NK NL=>?_
 have Tc:dh.heap.get? dh.heap.objs.size=none:=wD 0
 generalize dh.heap.objs.size=ds at NK NL Tc
 have fr:∀{a:Addr} {σ:List (Option PV)} {N:Nat->List Addr} {s':Ab},aw ⟨W,o7 P,wP scope [zt]⟩ [2] [] (fZ s.heap [P]) env (A.deeper env) s ⟨σ,some (.none,gL)⟩ N [P] s'->(∃ps,s'.heap.get? P=some (Hq ps))->s'.heap.get? a=none->s.heap.get? a=none:=fun {a _ _ s'} T' mM h=>by
  cases e:s.heap.get? a with
  |none=>rfl
  |some o=>exact nn (h.symm.trans (T'.kept a o (kO (fun q=>mM.elim fun _ e=>nn (h.symm.trans (Af.mp q▸e))) e)))
 have hKf:fZ s.heap [P] f=none:=by
  cases q:fZ s.heap [P] f with
  |none=>rfl
  |some o=>exact nn (nf.symm.trans (ay.kept f o q))
 have dS:=dA.tb (s':={dh with heap:=h6,toks:=NJ}) hKf (fun h=>NI (Af.mp h)) ⟨_,qJ,rfl⟩ ((wJ.refl _).heap h6 NJ) EJ
 have Td:∃o,aV.heap.get? f=some o:=⟨_,qH⟩
 refine ub rc5 fun cc' occ vcc tcc rH NM zk NN=>?_
 obtain rfl:=Gr rH
 have qK:=EJ lam _ (wO Td Ta).symm ho5
 have zl:=EJ c5 _ (wO Td Tb).symm NM
 have y8:nI h6 ds lam:=⟨_,NL.ns,by simp⟩
 refine nT NL fun NO esd epd NP NQ _=>?_
 refine Bm (Js (h4 (s₆:={dh with heap:=h6,toks:=NJ}) dS hsz (EJ P _ NI.symm qI) dm ⟨_,_,NK,rfl,rfl,rfl⟩ y8 ⟨_,_,_,_,_,qK,rfl,c5,occ,vcc,tcc,rfl,zl,zk,NN⟩
  (.cons ⟨_,NK,rfl⟩ (.cons ⟨_,NP,by unfold y6;exact af NQ rfl⟩ (.cons ⟨_,qK,rfl⟩ (.cons ⟨_,zl,by unfold y6;exact af zk rfl⟩ .nil))))
  (fa (fr ay ⟨_,jP⟩ nf) (fa (fr dA ⟨_,qI⟩ Tc) (fa (fr bT ⟨_,mK⟩ Ta) (fa (fr bT ⟨_,mK⟩ Tb) gD)))) fun v s' h=>h))
end
section
variable{R:ct}{C N₀ fI fR fG fP fM P c:Addr}{W:bP}
set_option maxHeartbeats 1000000 in
theorem yGf{scope az:Scope}{params er:Arguments}{name zt zst:Str}{k1 k2:Nat}{a1 a2 a3 a4 a5 a6 a7 a8 a9 b1 b2 b3 b4 b5 b6 b7 b8 c1 c2 c3 c4:B7}
  {scopeI:Scope} {paramsI:Arguments} {nameI iH zs zp:Str} {d1 d2 d3 d4 e1 e2 e3 e4 e5 f1 f2 f3 f4 f5 f6 g1:B7} {j1 j2:Nat}
  (mB:∀h,W.Wd h->fO h C N₀ fI fR fG fP) (hM:EG W P c fM)
  (dQ:∀h,W.Wd h->md h fM name params [.Assign [.Name R.sg a1] (.Call (.Name "list" a2) [.Subscript (.Name zt a3) (.Slice none none (some (.UnaryOp .USub (.Constant (.int 1) k1 a4) a5)) a6) a7] [] a8) a9,
   .Assign [.Name zst b1] (.Lambda er (.Constant .none k2 b2) az b3) b4, .Assign [.Attribute (.Name zst b5) "read" b6] (.Lambda R.params R.body R.az b7) b8,
   .Return (some (.Call (.Name "_netrclex" c1) [.Name zst c2] [] c3)) c4] scope)
  (Nv:∀h,W.Wd h->kK h fI nameI iH paramsI [.Assign [.Attribute (.Name zs d1) "lineno" d2] (.Constant (.int 1) j1 d3) d4, .Assign [.Attribute (.Name zs e1) "instream" e2] (.Name zp e3) e4,
   .Assign [.Attribute (.Name zs e5) "whitespace" f1] (.Constant (.str "\n\t\r ") j2 f2) f3, .Assign [.Attribute (.Name zs f4) "pushback" f5] (.List [] f6) g1] scopeI)
  (Nw:scopeI.names=[(zs, .local),(zp, .local)]) (ti:(zp==zs)=false) (Nx:scopeI.kind= .function) (tj:scopeI.isCoroutine=false) (mJ:scopeI.isGenerator=false) (mI:bad zs=false) (uJ:bad zp=false)
  (jt:∀pm cd doc u v body,Fq (H7 nameI iH paramsI body scopeI pm cd doc .none) ⟨[u,v],[]⟩=pure [(zs,u),(zp,v)])
  (bM:jl scope [zt]=true) (ht:(wP scope [zt]).Γ.lookup zt=some 0) (eX:(wP scope [zt]).Γ.lookup zst=some 1) (iU:(wP scope [zt]).Γ.lookup R.sg=some 2) (hn:(wP scope [zt]).n=3)
  (EE:bad zt=false) (iI:bad zst=false) (aae:(wP scope [zt]).kn.lookup zst=some .local) (ju:(wP scope [zt]).kn.lookup R.sg=some .cell) (pV:(wP scope [zt]).kn.lookup ("list" :Str)=some .globalImplicit) (ym:(wP scope [zt]).kn.lookup ("_netrclex" :Str)=some .globalImplicit)
  (rt:W.mg "list" =none) (n9:W.mb "list" =some (.type "list")) (mq:W.mg "_netrclex" =some (.ref C))
  (rY:az.names=[]) (NF:∀env,Kp er env=([],[])) (NG:∀env,Kp R.params env=([],[])) (NH:R.az.names=[(R.sz, .local),(R.sg, .free)]) (jv:(((b3.line:Int))==(b7.line:Int)&&((b3.col:Int))==(b7.col:Int))=false)
  (hD:2<=W.D) (bw:∀pm cd doc u body,Fq (Hc name params body scope pm cd doc) ⟨[u],[]⟩=pure [(zt,u)]):EI W R C (W.D+1) fM P:=by
 exact yC8 hM dQ (yL.assign iU (.inl rfl) (dO.listRev ht EE pV rt n9) (fun env hnm=>rfl)) bM eX iU hn iI ju rY NF NG NH jv bw
  fun {s s₆ env A E N text f ds lam cc cell p0 ps Q} T hsz hP dm y1 y2 y3 y4 y5 hQ=>yD5 mB hM.lim Nv Nw ti Nx tj mJ mI uJ jt T (.head _) eX iU ju ym mq iI (by
   have:=T.room.depth
   have h2:W.D=(⟨W,o7 P,wP scope [zt]⟩:Ctx).W.D:=rfl
   lia) hsz hP dm y1 y2 y3 y4 y5 hQ
end
end Internal
namespace Internal
open PySem PySem.Sre
noncomputable def eC:Array Nat:= #[14,4,0,1,1,6,1,16,46,1]
noncomputable def cx:Array Nat:= #[14,9,4,1,2,16,10,16,13,0,7,7,16,13,16,10,15,18,5,16,10,15,13,11,16,13,5,5,0,16,10,1,15,2,0,1]
noncomputable def mk(cd t:Array Nat)(lim start ls pc pos handed:Nat)(om:Bool)(fr:List Jd)(w:Nat)(ans:Option Bool)(seen:Seen):M:=
 {code:=cd,text:=t,lim,start,lastStart:=ls,pc,pos,handed,outermost:=om,marks:= #[],frames:=fr,weight:=w,answer:=ans,seen}
noncomputable def fN(pc pos:Nat)(om:Bool):Jd:={wait:= .nextStart,pc,pos,outermost:=om}
noncomputable def fB(pc pos:Nat)(om:Bool):Jd:={wait:= .nextBranch,pc,pos,outermost:=om,kept:={lastmark:= -1,lastindex:= -1,whole:=false,marks:= #[]} }
noncomputable def fL(pc pos:Nat)(om:Bool):Jd:={wait:= .lookNot,pc,pos,outermost:=om,kept:={lastmark:= -1,lastindex:= -1,whole:=false,marks:= #[]} }
section
variable{t:Array Nat}{lim s ls p h:Nat}{om om':Bool}{fr:List Jd}{seen:Seen}
theorem NR:∃sn,(mk cx t lim s ls 10 p h om [fN 10 s om'] 1 none seen).step=mk cx t lim s ls 12 p p om [fB 11 p om,fN 10 s om'] 2 none sn:=⟨_,rfl⟩
theorem uN{cd:Array Nat}{pc w c:Nat}(eH:ops[cd.getD pc 0]?=some .LITERAL)(cw:∀c' sn,accepts cd pc c' sn= .ok (c'==c,sn))(NT:pc<cd.size)(uM:p>=lim\/(t.getD p 0==c)=false):
  ∃sn,(mk cd t lim s ls pc p h om fr w none seen).step=mk cd t lim s ls pc p h om fr w (some false) sn:=by
 unfold M.step
 rw[if_neg (by simp[mk])]
 refine(?_:∃sn,(if pc<cd.size then M.exec (mk cd t lim s ls pc p h om fr w none seen)else _)=_)
 refine af (if_pos NT) ?_
 unfold M.exec
 have:(mk cd t lim s ls pc p h om fr w none seen).word 0=cd.getD pc 0:=rfl
 refine af this ?_
 refine af eH ?_
 refine bU (seen.add (cd.getD pc 0)) ?_
 by_cases EK:lim<=p
 ·simp[mk,M.say,EK]
 ·rcases uM with hp|hp
  ·exact absurd hp EK
  ·simp only[mk,M.say,cw,hp]
   split
   ·rfl
   ·rfl
theorem uO{cd:Array Nat}{pc w c:Nat}(eH:ops[cd.getD pc 0]?=some .LITERAL)(cw:∀c' sn,accepts cd pc c' sn= .ok (c'==c,sn))(hw:itemWidth cd pc=2)(NT:pc<cd.size)(EK:p<lim)(hp:(t.getD p 0==c)=true):
  ∃sn,(mk cd t lim s ls pc p h om fr w none seen).step=mk cd t lim s ls (pc+2) (p+1) h om fr w none sn:=by
 unfold M.step
 rw[if_neg (by simp[mk])]
 refine(?_:∃sn,(if pc<cd.size then M.exec (mk cd t lim s ls pc p h om fr w none seen)else _)=_)
 refine af (if_pos NT) ?_
 unfold M.exec
 have:(mk cd t lim s ls pc p h om fr w none seen).word 0=cd.getD pc 0:=rfl
 refine af this ?_
 refine af eH ?_
 refine bU (seen.add (cd.getD pc 0)) ?_
 simp only[mk,M.say,cw,hp,hw]
 split
 ·rename_i h;exact absurd EK (Fu.mpr h)
 ·rfl
end
theorem NU:∀c' sn,accepts cx 12 c' sn= .ok (c'==13,sn):=fun _ _=>rfl
theorem Te:∀c' sn,accepts cx 14 c' sn= .ok (c'==10,sn):=fun _ _=>rfl
theorem Tf:∀c' sn,accepts cx 19 c' sn= .ok (c'==10,sn):=fun _ _=>rfl
theorem zYx:∀c' sn,accepts cx 24 c' sn= .ok (c'==13,sn):=fun _ _=>rfl
theorem yCc:∀c' sn,accepts cx 29 c' sn= .ok (c'==10,sn):=fun _ _=>rfl
theorem NV:∀c' sn,accepts eC 7 c' sn= .ok (c'==46,sn):=fun _ _=>rfl
section
variable{t:Array Nat}{lim s ls p h:Nat}{om om':Bool}{fr:List Jd}{seen:Seen}
theorem yDl{w:Nat}:∃sn,(mk cx t lim s ls 16 p h om fr w none seen).step=mk cx t lim s ls 35 p h om fr w none sn:=⟨_,rfl⟩
theorem yD0{w:Nat}:∃sn,(mk cx t lim s ls 21 p h om fr w none seen).step=mk cx t lim s ls 35 p h om fr w none sn:=⟨_,rfl⟩
theorem yEa{w:Nat}:∃sn,(mk cx t lim s ls 32 p h om fr w none seen).step=mk cx t lim s ls 35 p h om fr w none sn:=⟨_,rfl⟩
theorem yCw{w:Nat}:∃sn,(mk cx t lim s ls 35 p h om fr w none seen).step=mk cx t lim s ls 35 p p om fr w (some true) sn:=by
 cases om<;>exact⟨_,rfl⟩
theorem Tg{pc p' h':Nat}:(mk cx t lim s ls pc p' h' om [fB 11 p true,fN 10 s om'] 2 (some false) seen).step=mk cx t lim s ls 19 p p true [fB 18 p true,fN 10 s om'] 2 none seen:=rfl
theorem zUz{pc p' h':Nat}:(mk cx t lim s ls pc p' h' om [fB 18 p true,fN 10 s om'] 2 (some false) seen).step=mk cx t lim s ls 24 p p true [fB 23 p true,fN 10 s om'] 2 none seen:=rfl
theorem zXq{q pc p' h':Nat}:(mk cx t lim s ls pc p' h' om [fB q p true,fN 10 s om'] 2 (some true) seen).step=mk cx t lim s ls q p h' true [fN 10 s om'] 1 (some true) seen:=rfl
theorem zVw{pc p' h':Nat}:(mk cx t lim s ls pc p' h' om [fN 10 s om'] 1 (some true) seen).step=mk cx t lim s ls 10 s h' om' [] 0 (some true) seen:=rfl
theorem Th{cd:Array Nat}{pc w:Nat}:(mk cd t lim s ls pc p h om [] w (some true) seen).step={mk cd t lim s ls pc p h om [] w (some true) seen with outcome:=some .matched}:=rfl
theorem zX8{cd:Array Nat}{pc w:Nat}:(mk cd t lim s ls pc p h om [] w (some false) seen).step={mk cd t lim s ls pc p h om [] w (some false) seen with outcome:=some .failed}:=rfl
theorem yD9:∃sn,(mk cx t lim s ls 26 p h true [fB 23 s true,fN 10 s om'] 2 none seen).step=mk cx t lim s ls 29 p p false [fL 26 p true,fB 23 s true,fN 10 s om'] 3 none sn:=⟨_,rfl⟩
theorem zYo{pc p' h':Nat}:(mk cx t lim s ls pc p' h' om [fL 26 p true,fB 23 s true,fN 10 s om'] 3 (some false) seen).step=mk cx t lim s ls 32 p h' true [fB 23 s true,fN 10 s om'] 2 none seen:=rfl
end
noncomputable def cA:Nat->M->M
 |0,m=>m
 |n+1,m=>cA n m.step
theorem zSi{m:M}(h:m.outcome.isSome=true):m.step=m:=by exact wI h rfl
theorem zo{m:M}(h:m.outcome.isSome=true):∀n,cA n m=m
 |0=>rfl
 |n+1=>by unfold cA;rw[zSi h];exact zo h n
theorem EL(a b:Nat)(m:M):cA (a+b) m=cA b (cA a m):=by
 induction a generalizing m with
 |zero=>rw[C0];rfl
 |succ a ih=>rw[Nat.succ_add];exact ih m.step
theorem Ti:∀(n:Nat) (m:M),M.runFor n m=cA n m
 |0,_=>rfl
 |n+1,m=>by
  unfold M.runFor
  split
  ·rename_i h;exact(zo h _).symm
  ·exact Ti n m.step
theorem zVy{m:M}{a b:Nat}(ha:(cA a m).outcome.isSome=true)(hb:(cA b m).outcome.isSome=true):cA a m=cA b m:=by
 rcases Nat.le_total a b with h|h
 ·refine aK (Ll h) fun d aH=>?_
  subst aH
  refine af (EL ..) ?_
  exact af (zo ha ..) rfl
 ·refine aK (Ll h) fun d aH=>?_
  subst aH
  refine af (EL ..) ?_
  exact af (zo hb ..) rfl
open PySem.Builtin.Re in
theorem Tj{MM:M0}{A:Am}{E:Value->Ab->Prop}{s:Ab}{Q:M->Ab->Prop}:∀(turns:Nat) (m:M) (k:Nat),(cA k m).outcome.isSome=true->k<=4*turns->Q (cA k m) s->An MM A (reDrive (turns+1) m) Q E s
 |turns,m,k,hk,hle,hQ=>by
  unfold reDrive
  refine af (Ti ..) ?_
  refine(?_:An MM A (if(cA 4 m).outcome.isSome=true then _ else _) Q E s)
  split
  ·rename_i h4
   refine(?_:An MM A (pure (cA 4 m)) Q E s)
   refine af (zVy h4 hk) ?_;exact Aq hQ
  ·rename_i h4
   refine Ac (Jl ?_)
   have To:4<k:=by
    apply Dh
    intro hn
    refine aK (Ll (Bw hn)) fun d hd=>?_
    refine h4 ?_
    (refine cu hd ?_;refine af (EL ..) ?_;refine af (zo hk ..) ?_);exact hk
   refine aK (Ll (Dc To)) fun d aH=>?_
   subst aH
   rw[EL]at hk hQ
   cases turns with
   |zero=>lia
   |succ turns=>exact Tj turns _ d hk (by lia) hQ
open PySem.Builtin.Re in
theorem Tq{MM:M0}{A:Am}{E:Value->Ab->Prop}{s:Ab}{Q:Option M->Ab->Prop}{m:M}{k:Nat}(hle:k<=2^60)(ho:((cA k m).outcome=some .matched/\Q (some (cA k m)) s)\/((cA k m).outcome=some .failed/\Q none s)):An MM A (reRunToEnd m) Q E s:=by
 have hs:(cA k m).outcome.isSome=true:=by rcases ho with⟨h,_⟩|⟨h,_⟩<;>refine af h ?_<;>rfl
 refine Ac (Tj (2^64-1) m k hs (by exact zB) ?_)
 have loop:∀(l:List Nat) (Q':PUnit->Ab->Prop),Q' ⟨⟩ s->An MM A (forIn l M4 fun i _=>do
   if(cA k m).seen.has i=true then do
    rule (Sre.names.getD i "")
    pure (B0 M4)
   else pure (B0 M4)) Q' E s:=by
  intro l
  induction l with
  |nil=>intro Q' h;exact Aq h
  |cons i r ih=>
   intro Q' h
   refine af (Hm ..) ?_
   refine Ac ?_
   split
   ·exact Ac (Jl (Aq (ih Q' h)))
   ·exact Aq (ih Q' h)
 refine Ac (loop _ _ ?_)
 rcases ho with⟨h,hq⟩|⟨h,hq⟩
 ·refine af h ?_;exact Aq hq
 ·refine af h ?_;exact Aq hq
theorem wA{P:M->Prop}{m m':M}{k:Nat}(h:m.step=m')(h2:∃j≤k,P (cA j m')):∃j≤k+1,P (cA j m):=by
 refine aD h2 fun j hj hp=>?_
 exact i12 (j+1) (by lia) (by unfold cA;rw[h];exact hp)
theorem xY{P:M->Prop}{m:M}{f:Seen->M}{k:Nat}(h:∃sn,m.step=f sn)(h2:∀sn,∃j≤k,P (cA j (f sn))):∃j≤k+1,P (cA j m):=by
 refine aK h fun sn h=>?_
 exact wA h (h2 sn)
noncomputable def kP(s e:Nat)(m:M):Prop:=m.outcome=some .matched/\m.start=s/\m.handed=e
section
variable{t:Array Nat}{lim s ls:Nat}{om':Bool}{seen:Seen}
theorem NW{q p h:Nat}:∃j≤4,kP s p (cA j (mk cx t lim s ls 35 p h true [fB q s true,fN 10 s om'] 2 none seen)):=
 xY yCw fun _=>wA zXq (wA zVw (wA Th ⟨0,B6 _,rfl,rfl,rfl⟩))
theorem yBn(h0:s+1<lim)(h1:(t.getD s 0==13)=true)(h2:(t.getD (s+1) 0==10)=true){h:Nat}:∃j≤8,kP s (s+2) (cA j (mk cx t lim s ls 10 s h true [fN 10 s om'] 1 none seen)):=
 xY NR fun _=>xY (uO (pc:=12) (c:=13) rfl NU rfl (by decide) (by exact Nat.lt_of_succ_lt ‹_›) h1) fun _=>xY (uO (pc:=14) (c:=10) rfl Te rfl (by decide) h0 h2) fun _=>xY yDl fun _=>NW
theorem yD2(h0:s<lim)(h1:(t.getD s 0==13)=true)(iJ:(t.getD s 0==10)=false)(h2:s+1>=lim\/(t.getD (s+1) 0==10)=false){h:Nat}:∃j≤15,kP s (s+1) (cA j (mk cx t lim s ls 10 s h true [fN 10 s om'] 1 none seen)):=
 xY NR fun _=>xY (uO (pc:=12) (c:=13) rfl NU rfl (by decide) h0 h1) fun _=>xY (uN (pc:=14) (c:=10) rfl Te (by decide) h2) fun _=>wA Tg
  (xY (uN (pc:=19) (c:=10) rfl Tf (by decide) (.inr iJ)) fun _=>wA zUz (xY (uO (pc:=24) (c:=13) rfl zYx rfl (by decide) h0 h1) fun _=>xY yD9 fun _=>
   xY (uN (pc:=29) (c:=10) rfl yCc (by decide) h2) fun _=>wA zYo (xY yEa fun _=>NW)))
theorem yEp(h0:s<lim)(h1:(t.getD s 0==13)=false)(iJ:(t.getD s 0==10)=true){h:Nat}:∃j≤9,kP s (s+1) (cA j (mk cx t lim s ls 10 s h true [fN 10 s om'] 1 none seen)):=
 xY NR fun _=>xY (uN (pc:=12) (c:=13) rfl NU (by decide) (.inr h1)) fun _=>wA Tg (xY (uO (pc:=19) (c:=10) rfl Tf rfl (by decide) h0 iJ) fun _=>xY yD0 fun _=>NW)
noncomputable def iK(t:Array Nat)(lim:Nat):Nat->Nat->Option Nat
 |0,_=>none
 |n+1,i=>if i>=lim then none else if(t.getD i 0==10)||(t.getD i 0==13)then some i else iK t lim n (i+1)
noncomputable def s0(t:Array Nat)(lim start:Nat):M:=mk cx t lim start lim 10 start start true [] 0 none (({}:Seen).add 14)
theorem yD3(c:Nat)(sn:Seen):∃o9,inSet cx c cx.size 5 true sn= .ok ((c==10)||(c==13),o9):=by
 refine(?_:∃o9,inSet cx c (35+1) 5 true sn=_)
 refine(?_:∃o9,(if(c==10)=true then _ else inSet cx c (34+1) 7 true _)=_)
 by_cases h:(c==10)=true
 ·(refine af (if_pos h) ?_;refine af h ?_);exact⟨_,rfl⟩
 ·refine af (if_neg h) ?_
  have h':(c==10)=false:=by simpa using h
  refine(?_:∃o9,(if(c==13)=true then _ else inSet cx c (33+1) 9 true _)=_)
  by_cases h2:(c==13)=true
  ·(refine af (if_pos h2) ?_;refine af h2 ?_;refine af h' ?_);exact⟨_,rfl⟩
  ·refine af (if_neg h2) ?_
   have w9:(c==13)=false:=by simpa using h2
   refine af h' ?_
   refine af w9 ?_
   exact bU _ rfl
theorem NX{t:Array Nat}{lim:Nat}{m:M}(hc:m.code=cx)(ht:m.text=t)(hl:m.lim=lim):∀(n i:Nat) (sn:Seen),∃o9,M.admitted m n i sn= .ok (iK t lim n i,o9)
 |0,_,sn=>⟨sn,rfl⟩
 |n+1,i,sn=>by
  unfold M.admitted iK
  refine af hc ?_
  refine af ht ?_
  refine af hl ?_
  by_cases h:i>=lim
  ·(refine af (if_pos h) ?_;refine af (if_pos h) ?_);exact⟨_,rfl⟩
  ·refine af (if_neg h) ?_
   refine af (if_neg h) ?_
   refine aK (yD3 (t.getD i 0) sn) fun o9 e=>?_
   refine af e ?_
   cases hq:((t.getD i 0==10)||(t.getD i 0==13))with
   |true=>exact⟨o9,by simp⟩
   |false=>
    refine aK (NX hc ht hl n (i+1) o9) fun NY e2=>?_
    exact bU NY (by exact e2)
theorem zP8{t:Array Nat}{lim start:Nat}:E3 cx t 0 start lim false=if(decide (start>lim)||decide (lim-start<1))=true then M.say {s0 t lim start with lastStart:=0} false else(s0 t lim start).attemptFrom start true:=rfl
noncomputable def lE(t:Array Nat)(lim s:Nat):Nat:=if(t.getD s 0==13)&&decide (s+1<lim)&&(t.getD (s+1) 0==10)then s+2 else s+1
theorem EM{t:Array Nat}{lim:Nat}:∀{n i s:Nat},iK t lim n i=some s->s<lim/\((t.getD s 0==10)||(t.getD s 0==13))=true
 |0,_,_,h=>by exact nn h
 |n+1,i,s,h=>by
  unfold iK at h
  split at h
  ·exact nn h
  ·rename_i hl
   split at h
   ·rename_i hc;obtain rfl:=Aa h;exact⟨He hl,hc⟩
   ·exact EM h
theorem zYm{t:Array Nat}{lim start:Nat}:match iK t lim (lim+1-start) start with
  |some s=>∃j≤20,kP s (lE t lim s) (cA j (E3 cx t 0 start lim false))
  |none=>∃j≤20,(cA j (E3 cx t 0 start lim false)).outcome=some .failed:=by
 refine af zP8 ?_
 split
 ·rename_i s hs
  refine ao (EM hs) fun h1 h2=>?_
  have eX:start<=s/\start<lim:=by
   have:∀n i,iK t lim n i=some s->i<=s:=by
    intro n
    induction n with
    |zero=>intro i h;exact nn h
    |succ n ih=>
     intro i h
     unfold iK at h
     split at h
     ·exact nn h
     ·split at h
      ·obtain rfl:=Aa h;exact B6 _
      ·exact Fj (ih _ h)
   have:=this _ _ hs
   lia
  rw[if_neg (by simp;lia)]
  unfold M.attemptFrom
  have hf:(s0 t lim start).hasFirstSet=true:=rfl
  rw[if_neg (by rw[hf];decide)]
  refine aK (NX (t:=t) (lim:=lim) (m:=s0 t lim start) rfl rfl rfl ((s0 t lim start).lim+1-start) start (s0 t lim start).seen) fun sn e=>?_
  rw[show(s0 t lim start).admitted ((s0 t lim start).lim+1-start) start (s0 t lim start).seen= .ok (some s,sn)by rw[e];exact congrArg (fun z=>Except.ok (z,sn)) hs]
  refine(?_:∃j≤20,kP s (lE t lim s) (cA j (mk cx t lim s lim 10 s s true [fN 10 s true] 1 none sn)))
  unfold lE
  cases fC:(t.getD s 0==13)with
  |false=>
   have iJ:(t.getD s 0==10)=true:=by rw[fC,Bool.or_false]at h2;exact h2
   refine aD (yEp (t:=t) (lim:=lim) (ls:=lim) (om':=true) (seen:=sn) h1 fC iJ (h:=s)) fun j hj hh=>?_
   exact i12 j (by exact zB) (by exact hh)
  |true=>
   have iJ:(t.getD s 0==10)=false:=by
    have:t.getD s 0=13:=by exact eq_of_beq fC
    refine af this ?_;rfl
   by_cases hq:s+1<lim/\(t.getD (s+1) 0==10)=true
   ·refine aD (yBn (t:=t) (lim:=lim) (ls:=lim) (om':=true) (seen:=sn) hq.1 fC hq.2 (h:=s)) fun j hj hh=>?_
    exact i12 j (by exact zB) (by refine af hq.2 ?_;simpa[hq.1]using hh)
   ·have uM:s+1>=lim\/(t.getD (s+1) 0==10)=false:=by
     by_cases a:s+1<lim
     ·right
      cases b:(t.getD (s+1) 0==10)with
      |false=>rfl
      |true=>exact absurd ⟨a,b⟩ hq
     ·left;exact Bw ‹_›
    refine aD (yD2 (t:=t) (lim:=lim) (ls:=lim) (om':=true) (seen:=sn) h1 fC iJ uM (h:=s)) fun j hj hh=>?_
    refine i12 j (by exact zB) ?_
    have:(true&&decide (s+1<lim)&&(t.getD (s+1) 0==10))=false:=by
     rcases uM with a|a
     ·have:¬(s+1<lim):=by exact G7 ‹_›
      simp[this]
     ·refine af a ?_;simp
    refine af this ?_;exact hh
 ·rename_i hs
  split
  ·exact i12 1 (by exact Dq _ _) rfl
  ·unfold M.attemptFrom
   have hf:(s0 t lim start).hasFirstSet=true:=rfl
   rw[if_neg (by rw[hf];decide)]
   refine aK (NX (t:=t) (lim:=lim) (m:=s0 t lim start) rfl rfl rfl ((s0 t lim start).lim+1-start) start (s0 t lim start).seen) fun sn e=>?_
   rw[show(s0 t lim start).admitted ((s0 t lim start).lim+1-start) start (s0 t lim start).seen= .ok (none,sn)by rw[e];exact congrArg (fun z=>Except.ok (z,sn)) hs]
   exact i12 1 (by exact Dq _ _) rfl
end
section
variable{t:Array Nat}{lim s ls p h i:Nat}{om om':Bool}{fr:List Jd}{seen:Seen}{w:Nat}
noncomputable def bol(t:Array Nat)(i:Nat):Bool:=(i==0)||(t.getD (i-1) 0==10)
theorem Tr:∃sn,(mk eC t lim s ls 5 p h om fr w none seen).step=if bol t p then mk eC t lim s ls 7 p h om fr w none sn else mk eC t lim s ls 5 p h om fr w (some false) sn:=by
 refine bU ((seen.add 6).add 44) ?_
 refine(?_:(if bol t p=true then _ else _)=_)
 cases bol t p<;>rfl
theorem yFt:∃sn,(mk eC t lim s ls 9 p h om fr w none seen).step=mk eC t lim s ls 9 p p om fr w (some true) sn:=by
 cases om<;>exact⟨_,rfl⟩
theorem yHf{pc p' h':Nat}:(mk eC t lim s ls pc p' h' om [fN 5 s om'] 1 (some true) seen).step=mk eC t lim s ls 5 s h' om' [] 0 (some true) seen:=rfl
theorem Ts{pc p' h':Nat}(hi:i<lim):(mk eC t lim i lim pc p' h' om [fN 5 i om'] 1 (some false) seen).step=mk eC t lim (i+1) lim 5 (i+1) (i+1) false [fN 5 (i+1) false] 1 none seen:=by
 refine(?_:(if i<lim then _ else _)=_)
 refine wI hi ?_;rfl
theorem yGh{pc p' h':Nat}(hi:¬i<lim):(mk eC t lim i lim pc p' h' om [fN 5 i om'] 1 (some false) seen).step=mk eC t lim i lim 5 i h' om' [] 0 (some false) seen:=by
 refine(?_:(if i<lim then _ else _)=_)
 refine ea hi ?_;rfl
end
noncomputable def nM(m:M):Prop:=m.outcome=some .failed
noncomputable def jw(t:Array Nat)(lim:Nat):Nat->Nat->Option Nat
 |0,_=>none
 |n+1,i=>if i>=lim then none else if bol t i&&(t.getD i 0==46)then some i else jw t lim n (i+1)
theorem Tt{t:Array Nat}{lim:Nat}:∀(n i:Nat) (h:Nat) (om om':Bool) (seen:Seen),n=lim+1-i->i<=lim->match jw t lim n i with
  |some s=>∃j≤4*n+8,kP s (s+1) (cA j (mk eC t lim i lim 5 i h om [fN 5 i om'] 1 none seen))
  |none=>∃j≤4*n+8,nM (cA j (mk eC t lim i lim 5 i h om [fN 5 i om'] 1 none seen))
 |0,i,_,_,_,_,hn,hi=>absurd hn (Bu (Fs (D5 hi)))
 |n+1,i,h,om,om',seen,hn,hi=>by
  unfold jw
  by_cases hl:i>=lim
  ·refine af (if_pos hl) ?_
   have fin:∀{pc p' h':Nat} {sn:Seen},∃j≤3,nM (cA j (mk eC t lim i lim pc p' h' om [fN 5 i om'] 1 (some false) sn)):=fun {pc p' h' sn}=>
    by obtain⟨j,hj,hp⟩:=wA (P:=nM) (yGh (Fu.mpr hl)) (wA zX8 ⟨0,B6 0,rfl⟩);exact⟨j,by exact zB,hp⟩
   refine aK (Tr (t:=t) (lim:=lim) (s:=i) (ls:=lim) (p:=i) (h:=h) (om:=om) (fr:=[fN 5 i om']) (w:=1) (seen:=seen)) fun sn e=>?_
   cases hb:bol t i with
   |false=>
    rw[hb,if_neg (by decide)]at e
    refine aD (wA (P:=nM) e fin) fun j hj hp=>?_
    exact i12 j (by exact zB) hp
   |true=>
    rw[hb,if_pos rfl]at e
    refine aD (wA (P:=nM) e (xY (uN (pc:=7) (c:=46) rfl NV (by decide) (.inl hl)) fun _=>fin)) fun j hj hp=>?_
    exact i12 j (by exact zB) hp
  ·refine af (if_neg hl) ?_
   have aY:i<lim:=He hl
   refine aK (Tr (t:=t) (lim:=lim) (s:=i) (ls:=lim) (p:=i) (h:=h) (om:=om) (fr:=[fN 5 i om']) (w:=1) (seen:=seen)) fun sn e=>?_
   have Tu:∀{pc p' h':Nat} {sn:Seen},match jw t lim n (i+1)with
     |some s=>∃j≤4*n+9,kP s (s+1) (cA j (mk eC t lim i lim pc p' h' om [fN 5 i om'] 1 (some false) sn))
     |none=>∃j≤4*n+9,nM (cA j (mk eC t lim i lim pc p' h' om [fN 5 i om'] 1 (some false) sn)):=fun {pc p' h' sn}=>by
    have ih:=Tt (t:=t) (lim:=lim) n (i+1) (i+1) false false sn (congrArg M5 hn) aY
    split
    ·rename_i s hs
     rw[hs]at ih
     exact wA (Ts aY) ih
    ·rename_i hs
     rw[hs]at ih
     exact wA (P:=nM) (Ts aY) ih
   have go:∀(P:M->Prop),(∃j≤4*n+11,P (cA j (mk eC t lim i lim 5 i h om [fN 5 i om'] 1 none seen)))->∃j≤4*(n+1)+8,P (cA j (mk eC t lim i lim 5 i h om [fN 5 i om'] 1 none seen)):=fun P ⟨j,hj,hp⟩=>⟨j,by lia,hp⟩
   cases hb:bol t i with
   |false=>
    rw[hb,if_neg (by decide)]at e
    rw[G4,if_neg (by decide)]
    have nx:=Tu (pc:=5) (p':=i) (h':=h) (sn:=sn)
    split
    ·rename_i s hs
     rw[hs]at nx
     refine aD (wA e nx) fun j hj hp=>?_
     exact go _ ⟨j,by lia,hp⟩
    ·rename_i hs
     rw[hs]at nx
     refine aD (wA e nx) fun j hj hp=>?_
     exact go _ ⟨j,by lia,hp⟩
   |true=>
    rw[hb,if_pos rfl]at e
    refine af (Gs ..) ?_
    cases hc:(t.getD i 0==46)with
    |true=>
     refine af (if_pos rfl) ?_
     obtain⟨j,hj,hp⟩:=wA e (xY (P:=kP i (i+1)) (k:=4) (uO (pc:=7) (c:=46) (s:=i) (ls:=lim) (h:=h) (om:=om) (fr:=[fN 5 i om']) (w:=1) (seen:=sn) rfl NV rfl (by decide) aY hc) fun _=>by
      obtain⟨j,hj,hp⟩:=xY (P:=kP i (i+1)) (k:=3) (yFt (t:=t) (lim:=lim) (s:=i) (ls:=lim) (p:=i+1) (h:=h) (om:=om) (fr:=[fN 5 i om']) (w:=1)) fun _=>by
       obtain⟨j,hj,hp⟩:=wA (P:=kP i (i+1)) (yHf (t:=t) (lim:=lim)) (wA Th ⟨0,B6 0,rfl,rfl,rfl⟩)
       exact i12 j (by exact zB) hp
      exact⟨j,by assumption,hp⟩)
     exact go _ ⟨j,by exact zB,hp⟩
    |false=>
     rw[if_neg (by decide)]
     refine aK (uN (cd:=eC) (t:=t) (lim:=lim) (pc:=7) (c:=46) (s:=i) (ls:=lim) (p:=i) (h:=h) (om:=om) (fr:=[fN 5 i om']) (w:=1) (seen:=sn) rfl NV (by decide) (.inr hc)) fun NY e2=>?_
     have nx:=Tu (pc:=7) (p':=i) (h':=h) (sn:=NY)
     split
     ·rename_i s hs
      rw[hs]at nx
      refine aD (wA e (wA e2 nx)) fun j hj hp=>?_
      exact go _ ⟨j,by assumption,hp⟩
     ·rename_i hs
      rw[hs]at nx
      refine aD (wA (P:=nM) e (wA e2 nx)) fun j hj hp=>?_
      exact go _ ⟨j,by assumption,hp⟩
theorem zPb{t:Array Nat}{lim start:Nat}:E3 eC t 0 start lim false=if(decide (start>lim)||decide (lim-start<1))=true then M.say (mk eC t lim start 0 5 start start true [] 0 none (({}:Seen).add 14)) false else mk eC t lim start lim 5 start start true [fN 5 start true] 1 none (({}:Seen).add 14):=rfl
theorem yAy{t:Array Nat}{lim start:Nat}:match jw t lim (lim+1-start) start with
  |some s=>∃j≤4*lim+20,kP s (s+1) (cA j (E3 eC t 0 start lim false))
  |none=>∃j≤4*lim+20,nM (cA j (E3 eC t 0 start lim false)):=by
 rw[zPb]
 by_cases h:start<lim
 ·rw[if_neg (by simp;lia)]
  have r:=Tt (t:=t) (lim:=lim) (lim+1-start) start start true true (({}:Seen).add 14) rfl (by exact Dc ‹_›)
  split
  ·rename_i s hs
   rw[hs]at r
   refine aD r fun j hj hp=>?_
   exact i12 j (by lia) hp
  ·rename_i hs
   rw[hs]at r
   refine aD r fun j hj hp=>?_
   exact i12 j (by lia) hp
 ·rw[if_pos (by simp;lia)]
  have:jw t lim (lim+1-start) start=none:=by
   cases q:lim+1-start with
   |zero=>rfl
   |succ n=>exact wI (by exact Bw ‹_›) rfl
  rw[this]
  exact i12 1 (by exact Dq _ _) rfl
end Internal
namespace Internal
open PySem PySem.W PySem.Calls PyProof.Rows PySem.Builtin.Re
theorem zPg:J9 table "re.Pattern.sub.loop" =some Builtin.«re.Pattern.sub.loop» :=Gi (by kernel_rfl)
theorem Tv(a:Args):(Code.builtin "re.Pattern.sub.loop" a).quiet=true:=Code.quiet_builtin _ (by decide+kernel)
inductive mO(h:As)(a:Addr)(cd:Array Nat):Prop
 |mk (o:Obj) (ps:Array Value) (ta:Addr) (to:Obj) (items:Array Value) (n:Nat) (e1:h.get? a=some o) (e2:o.cls= .type "re.Pattern") (e3:o.dict=none) (e4:o.data= .fields ps) (e5:reRawNat (ps.getD 2 .none)=0) (e6:ps.getD 5 .none= .ref ta) (e7:reRawNat (ps.getD 6 .none)=0)
   (e8:h.get? ta=some to) (e9:to.data= .seq items n) (nN:(items.map reRawOf).map (·.toNat)=cd):mO h a cd
theorem mO.sub{h h':As}{a:Addr}{cd:Array Nat}(x:mO h a cd)(k:Sub h h'):mO h' a cd:=by
 obtain⟨o,ps,ta,to,items,n,e1,e2,e3,e4,e5,e6,e7,e8,e9,nN⟩:=x
 exact⟨o,ps,ta,to,items,n,k _ _ e1,e2,e3,e4,e5,e6,e7,k _ _ e8,e9,nN⟩
noncomputable def EN(pa:Addr)(cd:Array Nat)(t:Str)(tk:J3):ReTarget:={pattern:= .ref pa,string:= .str t tk,code:=cd,text:=t.cps,kind:=0,groups:=0,pos:=0,lim:=t.cps.size}
section
variable{prog:Program}{w:Cn}{A:Am}{E:Value->Ab->Prop}{s:Ab}
theorem Tw{pa:Addr}{cd:Array Nat}{t:Str}{tk:J3}{Q:ReTarget->Ab->Prop}(hp:mO s.heap pa cd)
  (hQ:Q (EN pa cd t tk) s):An (Aj prog w) A (reWholeTarget (.ref pa) (.str t tk)) Q E s:=by
 obtain⟨o,ps,ta,to,items,n,e1,e2,e3,e4,e5,e6,e7,e8,e9,nN⟩:=hp
 refine Ac (wpAny_fieldsOf e1 e4 ?_)
 refine Ac (B5 (show reTextOf (.str t tk)=pure (t.cps,0)from rfl) ?_)
 refine af e7 ?_
 refine Ac (B5 (show reNoCollectionInside (.str t tk) 0=pure ()from rfl) ?_)
 refine af e6 ?_
 refine Ac (Ac (wpAny_seqItems e8 e9 (Aq ?_)))
 refine af e5 ?_
 refine(?_:An _ _ (pure _) _ _ _)
 refine Aq ?_
 have:(((some items).getD #[]).map reRawOf).map (·.toNat)=cd:=nN
 refine af this ?_
 exact hQ
noncomputable def zq(cd:Array Nat)(t:Array Nat)(Sp:Nat->Option (Nat×Nat)):Prop:=∀start,start<=t.size->match Sp start with
 |some (a,e)=>start<=a/\a<e/\e<=t.size/\∃j≤2^60,kP a e (cA j (E3 cd t 0 start t.size false))
 |none=>∃j≤2^60,nM (cA j (E3 cd t 0 start t.size false))
theorem zQg{cd:Array Nat}{t:Str}{tk:J3}{pa:Addr}{Sp:Nat->Option (Nat×Nat)}(F:zq cd t.cps Sp){start:Nat}(hs:start<=t.cps.size){Q:Option Sre.M->Ab->Prop}
  (hS:∀m:Sre.M,Sp start=some (m.start,m.handed)->start<=m.start->m.start<m.handed->m.handed<=t.cps.size->Q (some m) s) (hN:Sp start=none->Q none s):
  An (Aj prog w) A (reNextFound (EN pa cd t tk) start false) Q E s:=by
 have f:=F start hs
 cases q:Sp start with
 |some ae=>
  rw[q]at f
  refine ri f fun f1 f2 f3 f4=>?_
  refine aD f4 fun j hj f5=>?_
  refine cD f5 fun h1 h2 h3=>?_
  have k:=hS (cA j (E3 cd t.cps 0 start t.cps.size false))
  rw[h2,h3]at k
  exact Tq hj (.inl ⟨h1,k q f1 f2 f3⟩)
 |none=>
  rw[q]at f
  exact aD f fun j hj h1=>Tq hj (.inr ⟨h1,hN q⟩)
noncomputable def pg(Sp:Nat->Option (Nat×Nat))(t rp:List Nat):Nat->Nat->List (List Nat)
 |0,_=> []
 |n+1,i=>match Sp i with
  |some (a,e)=>(if i<a then [(t.drop i).take (a-i)]else [])++[rp]++pg Sp t rp n e
  |none=>if i<t.length then [t.drop i]else []
theorem Tx(t:List Nat)(a b:Nat):t.toArray.extract a b=((t.drop a).take (b-a)).toArray:=by simp
structure uP(L:Addr)(h₀:As)(s s':Ab)(vs:List Value)(ps:List (List Nat)):Prop where
 pl:s'.heap.PlainList L vs.toArray
 vr:aq s'.heap (ps.map PV.str) vs []
 sm:wJ s s'
 kp:Ci L h₀ s'.heap
theorem Tz{s₀:Ab}{h₀:As}{L:Addr}{vs:List Value}{ps:List (List Nat)}{x:List Nat}{tx:J3}{Q:Unit->Ab->Prop}(P:uP L h₀ s₀ s vs ps)(hsz:ps.length<ag)
  (hQ:∀s',uP L h₀ s₀ s' (vs++[Value.str ⟨x.toArray⟩ tx]) (ps++[x])->Q () s'):
  An (Aj prog w) A (updateSeq L (·.push (.str ⟨x.toArray⟩ tx))) Q E s:=by
 refine aK P.pl fun n ho=>?_
 have hz:vs.length<ag:=by rw[P.vr.length,Az];exact hsz
 refine wpAny_updateSeq ho rfl ?_ (Bt▸Dc hz) (by rw[Array.size_push,Bt];exact Nat.le_succ_of_le hz)
 have hx:Ci L s.heap (s.heap.update L (Mf fun x_1=>x_1.push (Value.str ⟨x.toArray⟩ tx))):=(Ep ..).extBut
 refine hQ _ ⟨?_,?_,P.sm.trans ((wJ.refl _).heap _ _),fun b o h e=>hx b o h (P.kp b o h e)⟩
 ·have q:=Hb ho (fun xs=>xs.push (.str ⟨x.toArray⟩ tx))
  rw[Jt]at q
  exact bU _ q
 ·rw[Kr]
  exact aq.append (P.vr.on fun a ha=>nomatch ha) (aq.one (.str x tx))
theorem TF:∀ps:List (List Nat),PV.strs (ps.map PV.str)=some ps
 |[]=>rfl
 |p::r=>by refine(?_:(PV.strs (r.map PV.str)).map _=_);rw[TF r];rfl
theorem NZ:∀ps:List (List Nat),lh [] ps=ps.flatten
 |[]=>rfl
 |[x]=>by simp[lh]
 |x::y::r=>by
  refine(?_:x++[]++lh [] (y::r)=_)
  rw[NZ (y::r)];simp
noncomputable def N0(pa L:Addr)(t rp:Str)(tk tr:J3)(k e:Int)(b:Bool):Code:= .builtin "re.Pattern.sub.loop" ⟨[.ref pa, .str t tk, .str rp tr,H8 0,H8 0,H8 k,H8 e,H8 e, .bool b, .ref L, .bool false],[]⟩
noncomputable def TG(L:Addr)(g:ReTarget):Le Fin:=reSlice g.text g.kind 0 0>>=fun x=>seqItems? (.ref L)>>=fun v=>if(v.getD #[]).isEmpty=true then pure x>>=fun y=>ret y else call (.builtin (if(g.kind==0)=true then "str.join" else "bytes.join")) [x, .ref L]>>=fun y=>ret y
noncomputable def yD6(pa L:Addr)(t rp:Str)(tk tr:J3)(k:Int)(m:Sre.M):Le Fin:=pure (.str rp tr)>>=fun x=>if(x != .none)=true then updateSeq L (·.push x)>>=fun _=>again (N0 pa L t rp tk tr (k+1) m.handed (m.handed==m.start))else again (N0 pa L t rp tk tr (k+1) m.handed (m.handed==m.start))
noncomputable def N3(L:Addr)(g:ReTarget)(i b:Nat)(r:Le Fin):Le Fin:=if i<b then reSlice g.text g.kind i b>>=fun v=>updateSeq L (·.push v)>>=fun _=>r else r
noncomputable def yHa(pa L:Addr)(t rp:Str)(tk tr:J3)(k:Int)(i:Nat)(g:ReTarget):Le Fin:=reLiteralCannotBeTurned (.str rp tr)>>=fun _=>reNextFound g i false>>=fun r=>
 Option.casesOn (motive:=fun _=>Le Fin) r (N3 L g i g.lim (TG L g)) fun m=>N3 L g i m.start (yD6 pa L t rp tk tr k m)
theorem TH{s₀:Ab}{h₀:As}{L:Addr}{vs:List Value}{ps:List (List Nat)}{t:List Nat}{i b:Nat}{body:Le Fin}{pa:Addr}{cd:Array Nat}{tk:J3}{Q:Fin->Ab->Prop}(P:uP L h₀ s₀ s vs ps)(hsz:ps.length<ag)(qL:t.length<=1000000)
  (hQ:∀s' ux,uP L h₀ s₀ s' ux (ps++(if i<b then [(t.drop i).take (b-i)]else []))->An (Aj prog w) A body Q E s'):
  An (Aj prog w) A (N3 L (EN pa cd ⟨t.toArray⟩ tk) i b body) Q E s:=by
 by_cases EO:i<b
 ·rw[if_pos EO]at hQ
  refine ud EO (Ac ?_)
  refine(?_:An _ _ (PySem.mkStr ⟨t.toArray.extract i b⟩) _ _ _)
  rw[Tx]
  refine wpAny_mkStr (Ac ?_) (Bt▸Ah (List.length_take_le' ..) (Ah (Bs▸Gk ..) (Ah qL (by decide))))
  exact Tz (s:={s with toks:=s.toks+1}) ⟨P.pl,P.vr,P.sm.trans ((wJ.refl _).heap _ _),P.kp⟩ hsz fun s' P'=>hQ s' _ P'
 ·rw[if_neg EO,Dr]at hQ
  exact iR EO (hQ s vs P)
theorem TJ(t:List Nat)(ps:List (List Nat))(i b:Nat):(ps++if i<b then [(t.drop i).take (b-i)]else []).length<=ps.length+1:=by split<;>simp
theorem TK(t:List Nat)(ps:List (List Nat))(i b:Nat):((ps++if i<b then [(t.drop i).take (b-i)]else []).map B1).sum<=(ps.map B1).sum+(b-i):=by
 split
 ·simp;exact Gp _ _
 ·simp
theorem zWj{s₀:Ab}{h₀:As}{L:Addr}{vs:List Value}{ps:List (List Nat)}{t:List Nat}{pa:Addr}{cd:Array Nat}{tk:J3}{Q:Fin->Ab->Prop}(P:uP L h₀ s₀ s vs ps)(hs:(ps.map B1).sum<=16000000)
  (hQ:∀(s':Ab) (tx:J3),wJ s₀ s'->Ci L h₀ s'.heap->Q (.done (.ret (.str ⟨ps.flatten.toArray⟩ tx))) s'):
  An (Aj prog w) A (TG L (EN pa cd ⟨t.toArray⟩ tk)) Q E s:=by
 refine Ac ?_
 refine(?_:An _ _ (PySem.mkStr ⟨t.toArray.extract 0 0⟩) _ _ _)
 rw[Tx,Nat.sub_zero,List.take_zero]
 refine wpAny_mkStr ?_ (Dv _)
 refine aK P.pl fun n ho=>?_
 refine Ac (wpAny_seqItems ho rfl ?_)
 by_cases N6:vs.toArray.isEmpty=true
 ·refine ud N6 (Ac (Aq (Aq ?_)))
  have hv:vs.length=0:=by rw[Array.isEmpty_iff.mp N6|>fun e=>(show vs=[]by simpa using e)];rfl
  have e:=hQ {s with toks:=s.toks+1} (s.toks) (P.sm.trans ((wJ.refl _).heap _ _)) P.kp
  rw[List.map_eq_nil_iff.mp (Im (P.vr.length.symm.trans hv))]at e
  exact e
 ·refine iR N6 (Ac ?_)
  refine Hw (s:={s with toks:=s.toks+1}) (x:=mkStr []) P.pl.isList (P.vr.strs (TF _)) ?_ fun t' k'=>?_
  ·have h1:(B8∘mkStr)=B1:=funext fun z=>rfl
   refine(?_:_+_*0<=_)
   rw[A3]
   refine(?_:(Bv (B8∘mkStr) ps).sum<=_)
   rw[h1]
   exact Ah hs (by decide)
  ·rw[IC,NZ]
   exact Aq (hQ {s with toks:=k'} _ (P.sm.trans ((wJ.refl _).heap _ _)) P.kp)
theorem yE4{x y i a e r:Nat}(h:x<=y+(a-i))(k:y<=11*i)(f1:i<=a)(f2:a<e)(hr:r<=10):x+r<=11*e:=
 have q:11*i+(a-i)<=11*a:=Ah (I0 (Nat.le_mul_of_pos_left _ (Et 10)) _) (by rw[<-Nat.mul_add,Nat.add_sub_cancel' f1];exact B6 _)
 Ah (Eg (Ah h (Ah (Eh k _) q)) hr) (Ah (Jr (11*a+10)) (Eo 11 f2))
theorem yEo(pa L:Addr)(t rp:Str)(tk tr:J3)(k:Int)(i:Nat):
 (Builtin.«re.Pattern.sub.loop» <|⟨[.ref pa, .str t tk, .str rp tr,H8 0,H8 0,H8 k,H8 i,H8 i, .bool false, .ref L, .bool false],[]⟩)=(reWholeTarget (.ref pa) (.str t tk)>>=yHa pa L t rp tk tr k i):=by
 kernel_rfl
theorem zU7{cd:Array Nat}{t rp:List Nat}{tk tr:J3}{pa L:Addr}{Sp:Nat->Option (Nat×Nat)}{s₀:Ab}{h₀:As}(F:zq cd t.toArray Sp)(qL:t.length<=1000000)(N7:rp.length<=10)
  (hp:∀h:As,Ci L h₀ h->mO h pa cd) {R:Ez->Ab->Prop}:
  ∀(n:Nat) (s:Ab) (vs:List Value) (ps:List (List Nat)) (i:Nat) (k:Int) (b:Bool),b=false->i<=t.length->t.length<i+n->uP L h₀ s₀ s vs ps->ps.length<=2*i->(ps.map B1).sum<=11*i->
   (∀(s':Ab) (tx:J3),wJ s₀ s'->Ci L h₀ s'.heap->R (.ok (.ret (.str ⟨(ps++pg Sp t rp n i).flatten.toArray⟩ tx))) s')->
   Cs (Aj prog w) A (N0 pa L ⟨t.toArray⟩ ⟨rp.toArray⟩ tk tr k i b) R s:=by
 intro n
 induction n with
 |zero=>intro s vs ps i k b hb h1 h2;exact absurd h1 (Nat.not_le_of_lt h2)
 |succ n ih=>
  intro s vs ps i k b hb h1 h2 P p9 kQ hR
  subst hb
  have hi:i<=1000000:=Ah h1 qL
  have zr:ps.length<=2000000:=Ah p9 (Eo 2 hi)
  have bX:ps.length<ag:=Ds zr (by decide)
  refine codeAny_builtin zPg (af (yEo ..) ?_)
  refine Ac (Tw (hp _ P.kp) ?_)
  refine Ac (B5 (show reLiteralCannotBeTurned (.str ⟨rp.toArray⟩ tr)=pure ()from rfl) ?_)
  refine Ac (zQg (tk:=tk) F h1 (fun m q f1 f2 f3=>?_) fun q=>?_)
  ·refine TH P bX qL fun aa zu tu=>?_
   refine Ac (Aq ?_)
   refine ud rfl (Ac ?_)
   have f3:m.handed<=t.length:=f3
   have el:(ps++if i<m.start then [(t.drop i).take (m.start-i)]else []).length<=ps.length+1:=TJ ..
   have es:((ps++if i<m.start then [(t.drop i).take (m.start-i)]else []).map B1).sum<=(ps.map B1).sum+(m.start-i):=TK ..
   have jH:i+1<=m.handed:=Ds f1 f2
   refine Tz tu (Ds (Ah el (Gb zr)) (by decide)) fun s₂ N8=>?_
   refine Aq ⟨Tv _,ih s₂ _ _ m.handed (k+1) _ (beq_eq_false_iff_ne.mpr (G9 f2)) f3 (Ed h2 (Nat.succ_add_eq_add_succ i n▸Eh jH n)) N8 (Ax▸Ah (Gb (Ah el (Gb p9))) (Eo 2 jH)) (by rw[Kr,List.sum_append,List.map_singleton,List.sum_singleton];exact yE4 es kQ f1 f2 N7) fun s' tx h1 h2=>?_⟩
   have e:=hR s' tx h1 h2
   unfold pg at e
   rw[q,<-Br,<-Br]at e
   exact e
  ·refine TH (b:=t.length) P bX qL fun aa zu tu=>?_
   have el:(ps++if i<t.length then [(t.drop i).take (t.length-i)]else []).length<=ps.length+1:=TJ ..
   have es:((ps++if i<t.length then [(t.drop i).take (t.length-i)]else []).map B1).sum<=(ps.map B1).sum+(t.length-i):=TK ..
   refine zWj tu (Ah es (Ah (Eg (Ah kQ (Eo 11 hi)) (Ah (Gk ..) qL)) (by decide))) fun s' tx h1 h2=>?_
   have e:=hR s' tx h1 h2
   unfold pg at e
   rw[q]at e
   rw[Ew (Bs▸B6 _)]
   exact e
end
theorem ER:Slot "re.Pattern" "sub" "re.Pattern.sub" := .of (owner:= "re.Pattern") (n:= "sub") (by rw[Bh,A4];kernel_rfl) (by decide+kernel) (by decide+kernel) (by decide+kernel)
  (by first|exact .inl (by decide+kernel)|exact .inr (by decide+kernel)) (by rw[Gh];kernel_rfl)
theorem TL:typeOf (.builtin "re.Pattern.sub")=pure (.type "method_descriptor"):=by refine(?_:builtinType _=_);rw[builtinType_eq_fast];kernel_rfl
theorem zJ9:J9 table "re.Pattern.sub" =some Builtin.«re.Pattern.sub» :=Gi (by kernel_rfl)
theorem zLl(a b c:Value):My "re.Pattern.sub" ⟨[a,b,c],[]⟩:=by kernel_rfl
theorem TM:PlainAttrs "re.Pattern" :=⟨⟨"object.__getattribute__",by(refine af (Bh ..) ?_;refine af A4 ?_);kernel_rfl,by decide+kernel⟩,by(refine af (Bh ..) ?_;refine af A4 ?_);kernel_rfl⟩
theorem zMy:Cm (.type "str") "__call__" =pure none:=by rw[Bh,A4];kernel_rfl
section
variable{prog:Program}{w:Cn}{A:Am}{E:Value->Ab->Prop}{s:Ab}
theorem TN{cd:Array Nat}{t rp:List Nat}{tk tr:J3}{pa:Addr}{Sp:Nat->Option (Nat×Nat)}{Q:Value->Ab->Prop}(F:zq cd t.toArray Sp)(hp:mO s.heap pa cd)(qL:t.length<=1000000)(N7:rp.length<=10)(h92:rp.contains 92=false)
  (hQ:∀(s':Ab) (tx:J3),KG s s'->Q (.str ⟨((pg Sp t rp (t.length+1) 0).flatten).toArray⟩ tx) s'):
  An (Aj prog w) A (call (.builtin "re.Pattern.sub") [.ref pa, .str ⟨rp.toArray⟩ tr, .str ⟨t.toArray⟩ tk]) Q E s:=by
 obtain⟨o,ps,ta,to,items,n,e1,e2,e3⟩:=id hp
 have hT:s.TypeIs (.ref pa) "re.Pattern" :=⟨o,e1,e2⟩
 refine Gl (codeAny_call_builtin ER.plain zJ9 (ER.check _ _ _ _ _ _ _ _ hT (zLl _ _ _) ?_))
 unfold Builtin.«re.Pattern.sub»reSubstitute
 refine Ac (B5 (show reNamed "re.Pattern.sub" "sub" ["repl", "string", "count"] 2 [.str ⟨rp.toArray⟩ tr, .str ⟨t.toArray⟩ tk] []=pure [some (.str ⟨rp.toArray⟩ tr),some (.str ⟨t.toArray⟩ tk),none]by first|rfl|kernel_rfl) ?_)
 refine Ac (Aq ?_)
 refine Ac (D8 (Ic _ _ _) zMy ?_)
 refine iR (by decide) ?_
 refine Ac (B5 (show asStr? (.str ⟨rp.toArray⟩ tr)=pure (some ⟨rp.toArray⟩)from rfl) ?_)
 refine Ac (Aq ?_)
 refine iR (by decide) ?_
 have N9:(!(rp.toArray.contains 92))=true:=by simpa using h92
 refine af N9 ?_
 refine af (if_pos rfl) ?_
 refine Ac (Aq ?_)
 dsimp only
 refine Ac (E2 (Tw hp ?_))
 refine iR (by decide) ?_
 refine Ac (Co ?_ (by refine(?_:(#[]:Array Value).size<=_);refine af Bt ?_;decide))
 refine Aq ⟨Tv _,?_⟩
 have kI:s.heap.get? s.heap.objs.size=none:=wD (h:=s.heap) 0
 generalize hL:s.heap.objs.size=L at*
 have sX:(s.heap.push {cls:= .type "list",data:= .seq ([]:List Value).toArray}).get? L=some {cls:= .type "list",data:= .seq ([]:List Value).toArray}:=hL▸A0 _ rfl
 have up:Sub s.heap (s.heap.push {cls:= .type "list",data:= .seq ([]:List Value).toArray}):=fun b o e=>Ak _ e
 have old:∀{h:As},(∀b o,b≠L->s.heap.get? b=some o->h.get? b=some o)->Sub s.heap h:=fun {h} k b o e=>k b o (fun q=>by rw[q,kI]at e;exact nn e) e
 refine zU7 (h₀:=s.heap) (s₀:=s) F qL N7 (fun h k=>hp.sub (old k)) (t.length+1) {s with heap:=s.heap.push {cls:= .type "list",data:= .seq ([]:List Value).toArray} } [] [] 0 0 false rfl (Dv _) (C0 _▸Bx _) ⟨⟨_,sX⟩, .nil,(wJ.refl s).heap _ _,fun b o _ e=>up b o e⟩ (Dv _) (Dv _) fun s' tx h1 h2=>?_
 refine hQ s' tx ?_
 obtain⟨h',yw,g',e,xg⟩:=h1
 exact⟨h',yw,g',e,fun b o eb=>by
  have hb:b≠L:=fun q=>by rw[q,kI]at eb;exact nn eb
  have:=h2 b o hb eb
  rw[e]at this;exact this,xg⟩
end
end Internal
namespace Internal
open PySem
noncomputable def cC:Bool->List Nat->List Nat
 |_,[]=> []
 |cr,c::r=>if c==13 then 13::10::cC true r else if c==10 then(if cr then cC false r else 13::10::cC false r)else c::cC false r
noncomputable def dbl:Bool->List Nat->List Nat
 |_,[]=> []
 |b,c::r=>(if b&&c==46 then [46,46]else [c])++dbl (c==10) r
noncomputable def uQ(t:Array Nat)(start:Nat):Option (Nat×Nat):=(iK t t.size (t.size+1-start) start).map fun s=>(s,lE t t.size s)
noncomputable def uR(t:Array Nat)(start:Nat):Option (Nat×Nat):=(jw t t.size (t.size+1-start) start).map fun s=>(s,s+1)
theorem ES{t:Array Nat}{lim:Nat}:∀{n i s:Nat},iK t lim n i=some s->i<=s
 |0,_,_,h=>by exact nn h
 |n+1,i,s,h=>by
  unfold iK at h
  split at h
  ·exact nn h
  ·split at h
   ·obtain rfl:=Aa h;exact B6 _
   ·exact Fj (ES h)
theorem zv{t:Array Nat}{lim:Nat}:∀{n i s:Nat},jw t lim n i=some s->i<=s/\s<lim
 |0,_,_,h=>by exact nn h
 |n+1,i,s,h=>by
  unfold jw at h
  split at h
  ·exact nn h
  ·rename_i hl
   split at h
   ·obtain rfl:=Aa h;exact⟨B6 _,He hl⟩
   ·exact aZ (Fj (zv h).1) ((zv h).2)
theorem TP{t:Array Nat}{lim s:Nat}(h:s<lim):s<lE t lim s/\lE t lim s<=lim:=by
 unfold lE
 split
 ·rename_i h2
  simp only[Ao,decide_eq_true_eq]at h2
  lia
 ·lia
theorem yEb(t:Array Nat):zq cx t (uQ t):=fun start hs=>by
 have h:=zYm (t:=t) (lim:=t.size) (start:=start)
 unfold uQ
 cases q:iK t t.size (t.size+1-start) start with
 |some s=>
  rw[q]at h
  refine aD h fun j hj hh=>?_
  have h1:=EM q
  have h2:=TP (t:=t) h1.1
  exact⟨ES q,h2.1,h2.2,j,Ah hj (by decide),hh⟩
 |none=>
  rw[q]at h
  refine aD h fun j hj hh=>?_
  exact i12 j (Ah hj (by decide)) hh
theorem yEj(t:Array Nat)(ht:t.size<=1000000000):zq eC t (uR t):=fun start hs=>by
 have h:=yAy (t:=t) (lim:=t.size) (start:=start)
 unfold uR
 cases q:jw t t.size (t.size+1-start) start with
 |some s=>
  rw[q]at h
  refine aD h fun j hj hh=>?_
  have h1:=zv q
  exact⟨h1.1,Bx _,h1.2,j,by exact xX,hh⟩
 |none=>
  rw[q]at h
  refine aD h fun j hj hh=>?_
  exact i12 j (by exact xX) hh
theorem pq{l:List Nat}{i:Nat}(h:i<l.length):l.drop i=l.toArray.getD i 0::l.drop (i+1):=by
 rw[Bc h]
 congr 1
 simp[h]
theorem TQ{l:List Nat}:∀(n i:Nat),n=l.length+1-i->i<=l.length->match iK l.toArray l.length n i with
  |some a=>cC false (l.drop i)=(l.drop i).take (a-i)++cC false (l.drop a)
  |none=>cC false (l.drop i)=l.drop i
 |0,i,hn,hi=>absurd hn (Bu (Fs (D5 hi)))
 |n+1,i,hn,hi=>by
  unfold iK
  by_cases h:i>=l.length
  ·refine af (if_pos h) ?_
   have:l.drop i=[]:=Ei.mpr h
   refine af this ?_;rfl
  ·refine af (if_neg h) ?_
   have aY:i<l.length:=He h
   cases hc:((l.toArray.getD i 0==10)||(l.toArray.getD i 0==13))with
   |true=>rw[if_pos rfl];simp
   |false=>
    rw[if_neg (by decide)]
    have ih:=TQ (l:=l) n (i+1) (congrArg M5 hn) aY
    simp only[Fo]at hc
    have e:cC false (l.drop i)=l.toArray.getD i 0::cC false (l.drop (i+1)):=by
     refine af (pq aY) ?_
     conv=>lhs;unfold cC
     (refine ea (by refine af hc.2 ?_;decide) ?_;exact ea (by refine af hc.1 ?_;decide) rfl)
    split
    ·rename_i a ha
     rw[ha]at ih
     have td:=ES ha
     rw[e,ih,pq aY,show a-i=(a-(i+1))+1 by lia,Lx]
     rfl
    ·rename_i ha
     rw[ha]at ih
     refine af e ?_
     refine af ih ?_
     exact cu (pq aY) rfl
theorem yD8{r:List Nat}(h:r.head?≠some 10):cC true r=cC false r:=by
 cases r with
 |nil=>rfl
 |cons c r=>
  have hc:(c==10)=false:=by
   cases q:(c==10)with
   |false=>rfl
   |true=>exact absurd (by exact q) (by simpa using h)
  unfold cC
  rw[hc]
  rfl
theorem yEg{l:List Nat}{a:Nat}(h:a<l.length)(hc:((l.toArray.getD a 0==10)||(l.toArray.getD a 0==13))=true):cC false (l.drop a)=[13,10]++cC false (l.drop (lE l.toArray l.length a)):=by
 unfold lE
 refine af (pq h) ?_
 cases fC:(l.toArray.getD a 0==13)with
 |false=>
  rw[fC,Bool.or_false]at hc
  simp only[G4]
  refine af (if_neg Ce) ?_
  conv=>lhs;unfold cC
  (refine af fC ?_;refine af hc ?_);rfl
 |true=>
  have e:cC false (l.toArray.getD a 0::l.drop (a+1))=13::10::cC true (l.drop (a+1)):=by
   conv=>lhs;unfold cC
   refine af fC ?_;rfl
  refine af e ?_
  by_cases hq:a+1<l.length/\(l.toArray.getD (a+1) 0==10)=true
  ·refine af hq.2 ?_
   simp only[hq.1,decide_true,Bool.and_self,if_true]
   refine af (pq hq.1) ?_
   have:cC true (l.toArray.getD (a+1) 0::l.drop (a+1+1))=cC false (l.drop (a+2)):=by
    have iJ:l.toArray.getD (a+1) 0=10:=by exact eq_of_beq hq.2
    refine af iJ ?_;rfl
   refine af this ?_;rfl
  ·have hf:(true&&decide (a+1<l.length)&&(l.toArray.getD (a+1) 0==10))=false:=by
    cases q:(true&&decide (a+1<l.length)&&(l.toArray.getD (a+1) 0==10))with
    |false=>rfl
    |true=>
     simp only[Gs,Ao,decide_eq_true_eq]at q
     exact absurd q hq
   rw[hf,if_neg Ce,yD8]
   ·rfl
   ·intro hh
    by_cases hl:a+1<l.length
    ·rw[pq hl]at hh
     have:l.toArray.getD (a+1) 0=10:=by simpa using hh
     exact hq ⟨hl,by refine af this ?_;rfl⟩
    ·rw[Ei.mpr (by exact Bw ‹_›)]at hh;exact nn hh
theorem TR{l:List Nat}:∀(n i:Nat),i<=l.length->l.length<i+n->(pg (uQ l.toArray) l [13,10] n i).flatten=cC false (l.drop i)
 |0,i,h1,h2=>by lia
 |n+1,i,h1,h2=>by
  unfold pg
  have hsz:l.toArray.size=l.length:=by rfl
  have hf:=TQ (l:=l) (l.length+1-i) i rfl h1
  unfold uQ
  refine af hsz ?_
  cases q:iK l.toArray l.length (l.length+1-i) i with
  |none=>
   rw[q]at hf
   refine af hf ?_
   dsimp only[Option.map_none]
   split
   ·simp
   ·rename_i h
    refine af (Ei.mpr (Bw h)) ?_;rfl
  |some a=>
   rw[q]at hf
   have hs:=EM q
   have he:=TP (t:=l.toArray) hs.1
   have td:=ES q
   dsimp only[D9]
   have ih:=TR (l:=l) n (lE l.toArray l.length a) he.2 (by lia)
   unfold uQ at ih
   rw[hsz]at ih
   refine af hf ?_
   refine af (yEg hs.1 hs.2) ?_
   refine af Hf ?_
   refine af Hf ?_
   rw[show(fun start=>G6 (fun s=>(s,lE l.toArray l.length s)) (iK l.toArray l.length (l.length+1-start) start))=fun start=>G6 (fun s=>(s,lE l.toArray l.length s)) (iK l.toArray l.length (l.length+1-start) start)from rfl]
   refine af ih ?_
   split
   ·simp
   ·rename_i h
    have:a-i=0:=by lia
    refine af this ?_;simp
end Internal
namespace Internal
open PySem PySem.W PySem.Calls PyProof.Rows
theorem zVf{l:List Nat}{i:Nat}:bol l.toArray (i+1)=(l.toArray.getD i 0==10):=by
 unfold bol
 simp
theorem TS{l:List Nat}:∀(n i:Nat),n=l.length+1-i->i<=l.length->match jw l.toArray l.length n i with
  |some a=>dbl (bol l.toArray i) (l.drop i)=(l.drop i).take (a-i)++[46,46]++dbl (bol l.toArray (a+1)) (l.drop (a+1))
  |none=>dbl (bol l.toArray i) (l.drop i)=l.drop i
 |0,i,hn,hi=>absurd hn (Bu (Fs (D5 hi)))
 |n+1,i,hn,hi=>by
  unfold jw
  by_cases h:i>=l.length
  ·refine af (if_pos h) ?_
   have:l.drop i=[]:=Ei.mpr h
   refine af this ?_;rfl
  ·refine af (if_neg h) ?_
   have aY:i<l.length:=He h
   have e:dbl (bol l.toArray i) (l.drop i)=(if bol l.toArray i&&l.toArray.getD i 0==46 then [46,46]else [l.toArray.getD i 0])++dbl (bol l.toArray (i+1)) (l.drop (i+1)):=by
    refine af (pq aY) ?_
    refine af zVf ?_
    conv=>lhs;unfold dbl
   cases hc:(bol l.toArray i&&(l.toArray.getD i 0==46))with
   |true=>
    refine af (if_pos rfl) ?_
    refine af e ?_
    refine af hc ?_
    refine af (if_pos rfl) ?_
    simp
   |false=>
    rw[if_neg (by decide)]
    have ih:=TS (l:=l) n (i+1) (congrArg M5 hn) aY
    rw[hc,if_neg (by decide)]at e
    split
    ·rename_i a ha
     rw[ha]at ih
     have td:=(zv ha).1
     rw[e,ih,pq aY,show a-i=(a-(i+1))+1 by lia,Lx]
     simp
    ·rename_i ha
     rw[ha]at ih
     refine af e ?_
     refine af ih ?_
     conv=>rhs;rw[pq aY]
     rfl
theorem TU{l:List Nat}:∀(n i:Nat),i<=l.length->l.length<i+n->(pg (uR l.toArray) l [46,46] n i).flatten=dbl (bol l.toArray i) (l.drop i)
 |0,i,h1,h2=>by lia
 |n+1,i,h1,h2=>by
  unfold pg
  have hsz:l.toArray.size=l.length:=by rfl
  have hf:=TS (l:=l) (l.length+1-i) i rfl h1
  unfold uR
  refine af hsz ?_
  cases q:jw l.toArray l.length (l.length+1-i) i with
  |none=>
   rw[q]at hf
   refine af hf ?_
   dsimp only[Option.map_none]
   split
   ·simp
   ·rename_i h
    refine af (Ei.mpr (Bw h)) ?_;rfl
  |some a=>
   rw[q]at hf
   have hs:=zv q
   dsimp only[D9]
   have ih:=TU (l:=l) n (a+1) hs.2 (by lia)
   unfold uR at ih
   rw[hsz]at ih
   refine af hf ?_
   refine af Hf ?_
   refine af Hf ?_
   rw[show(fun start=>G6 (fun s=>(s,s+1)) (jw l.toArray l.length (l.length+1-start) start))=fun start=>G6 (fun s=>(s,s+1)) (jw l.toArray l.length (l.length+1-start) start)from rfl]
   refine af ih ?_
   split
   ·simp
   ·rename_i h
    have:a-i=0:=by lia
    refine af this ?_;simp
noncomputable def lF(l:List Nat):List Nat:=dbl true (cC false l)
theorem Oa:∀(cr:Bool) (l:List Nat),(cC cr l).length<=2*l.length
 |_,[]=>by simp[cC]
 |cr,c::r=>by
  have h1:=Oa true r
  have h2:=Oa false r
  unfold cC
  split
  ·simp;exact xK
  ·split
   ·split
    ·simp;exact xM
    ·simp;exact xK
   ·simp;exact xL
section
variable{W:bP}{C:Cx}
theorem zPq{env:Ea}{A:Am}{E:Value->Ab->Prop}{s:Ab}{σ:List (Option PV)}{p1 p2:Addr}{z1 z2 zc zd:Str}{i:Nat}{l:List Nat}{tc:J3}{a1 a2 a3 a4 a5 a6 a7 a8 a9:B7}{k:Nat}{Q:Value->Ab->Prop}(P:Pre W C env A σ s)
  (h1:mO s.heap p1 eC) (h2:mO s.heap p2 cx) (IQ:C.kn.lookup z1=some .globalImplicit) (IS:C.kn.lookup z2=some .globalImplicit) (hzc:C.kn.lookup zc=some .globalImplicit) (hg1:W.mg z1=some (.ref p1)) (hg2:W.mg z2=some (.ref p2)) (mq:W.mg zc=some (.str ⟨#[13,10]⟩ tc))
  (KI:bad z1=false) (hb2:bad z2=false) (gq:bad zc=false) (DK:bad zd=false) (oE:C.kn.lookup zd=some .local) (hid:C.Γ.lookup zd=some i) (bW:σ[i]?=some (some (.str l))) (hl:l.length<=100000) (zw:(a3.endLine==a8.line)=true) (BW:(a6.endLine==a7.line)=true)
  (hQ:∀s' t,KG s s'->Q (.str ⟨(lF l).toArray⟩ t) s'):
  An (Aj W.prog W.w) A (eval (.Call (.Attribute (.Name z1 a1) "sub" a3) [.Constant (.str "..") k a2, .Call (.Attribute (.Name z2 a4) "sub" a6) [.Name zc a5, .Name zd a9] [] a7] [] a8) env) Q E s:=by
 have kk:∀x k,C.kn.lookup x=some k->env.kindOf x=some k:=fun x k e=>by unfold Be;refine af P.names ?_;exact e
 refine Call_method2 (wU rfl _ env _) (by(refine af (zI rfl _ env) ?_;refine af (zI rfl [] env) ?_);rfl) zw ?_
 refine Bb P.kind (kk _ _ IQ) (D4 (mg:=W.mg) (by refine af P.gl ?_;exact W.g P.wd) hg1 ?_) (wW KI)
 obtain⟨o,ps,ta,to,items,n,e1,e2,e3,e4⟩:=id h1
 refine lg ("re.Pattern") _ TM ER TL ⟨o,e1,e2⟩ (fun c e=>by cases e;exact⟨o,e1,e3⟩) (Cv rfl (Fc (Bi (E7 (Bi ?_)))))
 refine Call_method2 (wU rfl _ env _) (by(refine af (zI rfl _ env) ?_;refine af (zI rfl [] env) ?_);rfl) BW ?_
 have P1:=P.kp (dI s (s.toks+1))
 refine Bb P.kind (kk _ _ IS) (D4 (mg:=W.mg) (by refine af P.gl ?_;exact W.g P1.wd) hg2 ?_) (wW hb2)
 obtain⟨o',ps',ta',to',Ob,n',f1,f2,f3,f4⟩:=id h2
 refine lg ("re.Pattern") _ TM ER TL ⟨o',f1,f2⟩ (fun c e=>by cases e;exact⟨o',f1,f3⟩) (Cv rfl (Fc (Bi ?_)))
 refine Bb P.kind (kk _ _ hzc) (D4 (mg:=W.mg) (by refine af P.gl ?_;exact W.g P1.wd) mq ?_) (wW gq)
 refine eu (P1.rd zd i _ _ oE rfl hid bW) fun v ns acc r=>?_
 refine Bi (Bp (yP P.kind acc (B4 ?_) (cU DK)) (wW DK))
 cases r
 have TV:=TR (l:=l) (l.length+1) 0 (Dv _) (by lia)
 rw[C3]at TV
 refine TN (s:={s with toks:=s.toks+1}) (rp:=[13,10]) (Sp:=uQ l.toArray) (yEb _) h2 (by exact zB) (by decide) (by decide) fun s₂ sW k₂=>?_
 refine af TV ?_
 refine B4 ?_
 have hlen:=Oa false l
 have Oc:=TU (l:=cC false l) ((cC false l).length+1) 0 (Dv _) (by lia)
 rw[C3]at Oc
 have uz:bol (cC false l).toArray 0=true:=rfl
 rw[uz]at Oc
 refine TN (rp:=[46,46]) (Sp:=uR (cC false l).toArray) (yEj _ (by simp;exact xN)) (h1.sub (wC (zT (dI s (s.toks+1)) k₂))) (by exact xN) (by decide) (by decide) fun av Od bZ=>?_
 refine af Oc ?_
 exact hQ av Od (zT (dI s (s.toks+1)) (zT k₂ bZ))
end
noncomputable abbrev PA:Program:=PySem.Challenge.pw_uc0011_01
noncomputable def br:Tab:=[("len", .bi 0),("sum", .bi 1),("min", .bi 2),("abs", .bi 4),("range", .ty "range"),("list", .ty "list"),("enumerate", .ty "enumerate"),("zip", .ty "zip"),("_MOVE_COST", .int 2),("_CASE_COST", .int 1),("_MAX_STRING_SIZE", .int 40),
 ("_substitution_cost", .fn 0),("_levenshtein_distance", .fn 1),("_strip_quoted_realnames", .fn 2),("_check_parenthesis", .fn 3),("quotedata", .fn 4)]
noncomputable def aR(i:Nat):Cx:=wP (mj PA i) (Rl PA i)
noncomputable def ET(p:Program)(i j:Nat):Option Stmt:=(xf p i).bind fun st=>bK (st.ctorIdx=2) fun h=>Stmt.ClassDef.elim (motive_2:=fun _=>Option Stmt) st h fun _ _ _ b _ _ _ _ _ _ _=>b[j]?
noncomputable def TX(p:Program)(i j:Nat):List Stmt:=qq (ET p i j) [] fun _ _ b _=>b
noncomputable def pw(p:Program)(i j:Nat):Scope:=qq (ET p i j) default fun _ _ _ s=>s
noncomputable def uS(p:Program)(i j:Nat):Arguments:=qq (ET p i j) ⟨[],[],none,[],[],none,[]⟩ fun _ a _ _=>a
noncomputable def uT(p:Program)(i j:Nat):Str:=qq (ET p i j) "" fun n _ _ _=>n
noncomputable def gr(p:Program)(h:As)(a:Addr)(i:Nat):Prop:=md h a (CY p i) (CX p i) (xZ p i) (mj p i)
noncomputable def zx(p:Program)(h:As)(a:Addr)(i j:Nat)(qual:Str):Prop:=kK h a (uT p i j) qual (uS p i j) (TX p i j) (pw p i j)
theorem kK.sub{h h':As}{a:Addr}{name qual:Str}{params:Arguments}{body:List Stmt}{scope:Scope}(x:kK h a name qual params body scope)(k:Sub h h'):kK h' a name qual params body scope:=by
 obtain⟨o,pm,cd,doc,e1,e2,e3,e4⟩:=x
 exact⟨o,pm,cd,doc,k _ _ e1,e2,e3,e4.keeps k⟩
structure fS(mg mb:Str->Option Value)(h:As):Prop where
 g:h.Ns mainGlobals mg
 b:h.Ns builtinsNs mb
 lim:h.NoLimit
 zy:gr PA h 38 5
 zz:gr PA h 45 6
 uU:gr PA h 52 8
 z3:gr PA h 59 9
 z4:gr PA h 66 10
 mP:gr PA h 125 17
 mQ:gr PA h 132 19
 cls:fO h 104 103 80 87 94 101
 EU:zx PA h 80 12 0 "_netrclex.__init__"
 z5:zx PA h 87 12 1 "_netrclex._read_char"
 z6:zx PA h 94 12 2 "_netrclex.get_token"
 mR:zx PA h 101 12 3 "_netrclex.push_token"
 pz:mO h 113 eC
 pA:mO h 118 cx
 code:∃o fd,h.get? 132=some o/\o.data= .func fd/\fd.code= .ref 131
 hd:Mz h 131 127
 bm:h.BuiltinsAt mg 127
theorem Mz.up{h h':As}{c P:Addr}(x:Mz h c P)(k:Sub h h'):Mz h' c P:=by
 obtain⟨o,vs,file,tf,flags,tg,Oe,text,tt,e,r⟩:=x
 exact⟨o,vs,file,tf,flags,tg,Oe,text,tt,k _ _ e,r⟩
theorem fS.sub{mg mb:Str->Option Value}{h h':As}(x:fS mg mb h)(k:Sub h h'):fS mg mb h' where
 g:=x.g.keeps k
 b:=x.b.keeps k
 lim:=x.lim.keeps k
 zy:=x.zy.sub k
 zz:=x.zz.sub k
 uU:=x.uU.sub k
 z3:=x.z3.sub k
 z4:=x.z4.sub k
 mP:=x.mP.sub k
 mQ:=x.mQ.sub k
 cls:=x.cls.keeps k
 EU:=x.EU.sub k
 z5:=x.z5.sub k
 z6:=x.z6.sub k
 mR:=x.mR.sub k
 pz:=x.pz.sub k
 pA:=x.pA.sub k
 code:=by obtain⟨o,fd,e,r⟩:=x.code;exact⟨o,fd,k _ _ e,r⟩
 hd:=Mz.up x.hd k
 bm:=by obtain⟨bm,o,e1,e2,e3,e4,e5,r⟩:=x.bm;exact⟨bm,o,e1,e2,e3,e4,k _ _ e5,r⟩
structure GA(mg mb:Str->Option Value):Prop where
 i1:∃t,mg "_MOVE_COST" =some (.int 2 t)
 i2:∃t,mg "_CASE_COST" =some (.int 1 t)
 i3:∃t,mg "_MAX_STRING_SIZE" =some (.int 40 t)
 f0:mg "_substitution_cost" =some (.ref 38)
 f1:mg "_levenshtein_distance" =some (.ref 45)
 f2:mg "_strip_quoted_realnames" =some (.ref 59)
 f3:mg "_check_parenthesis" =some (.ref 66)
 f4:mg "quotedata" =some (.ref 125)
 f5:mg "_iter_escaped_chars" =some (.ref 52)
 f6:mg "_law_lexer" =some (.ref 132)
 f7:mg "_netrclex" =some (.ref 104)
 r1:mg "_twin_re_1" =some (.ref 113)
 r2:mg "_twin_re_2" =some (.ref 118)
 crlf:∃t,mg "CRLF" =some (.str ⟨#[13,10]⟩ t)
 no:∀x∈(["len", "sum", "min", "abs", "range", "list", "enumerate", "zip", "iter"]:List Str),mg x=none
 z7:mb "len" =some (.builtin (n8 0))
 z8:mb "sum" =some (.builtin (n8 1))
 z9:mb "min" =some (.builtin (n8 2))
 AA:mb "abs" =some (.builtin (n8 4))
 gM:mb "range" =some (.type "range")
 mS:mb "list" =some (.type "list")
 mT:mb "enumerate" =some (.type "enumerate")
 AB:mb "zip" =some (.type "zip")
 qM:mb "iter" =some (.builtin "iter")
noncomputable def tw(k:Nat):Addr:=([38,45,59,66,125]:List Addr).getD k 0
noncomputable def EV(w:Cn){mg mb:Str->Option Value}:bP where
 prog:=PA
 w:=w
 Wd:=fS mg mb
 mono:=fun x k=>x.sub k
 mg:=mg
 mb:=mb
 g:=fun x=>x.g
 b:=fun x=>x.b
 D:=0
 U:=fun _ _=>none
 i5:=tw
 nW:=fun k h _=>by obtain⟨_,_,e⟩:=h;exact nn e
 call:=fun k A s ps vs ns r _ _ _ e=>by exact nn e
noncomputable def bP.add(W:bP)(n:Nat)(f:List PV->Option PV)(Of:∀{h:As},W.Wd h->∃o fd,h.get? (W.i5 n)=some o/\o.data= .func fd)
  (mv:∀(A:Am) (s:Ab) (ps:List PV) (vs:List Value) (ns:List Addr) (r:PV),de (W.D+1) A->W.Wd s.heap->aq s.heap ps vs ns->f ps=some r->
   Cs (Aj W.prog W.w) A (.call (.ref (W.i5 n)) ⟨vs,[]⟩) (fun res s'=>∃v ms,res= .ok (.ret v)/\KG s s'/\VR s'.heap r v ms) s):bP:=
 {W with
  D:=W.D+1
  U:=fun k ps=>if k=n then f ps else W.U k ps
  nW:=fun {h} k hu hw=>by
   refine fU hu fun ps r e=>?_
   by_cases hk:k=n
   ·subst hk;exact Of hw
   ·simp only[if_neg hk]at e
    exact W.nW k ⟨ps,r,e⟩ hw
  call:=fun k A s ps vs ns r hr hw hv e=>by
   by_cases hk:k=n
   ·subst hk
    simp only[if_true]at e
    exact mv A s ps vs ns r hr hw hv e
   ·simp only[if_neg hk]at e
    exact W.call k A s ps vs ns r (hr.less rfl) hw hv e}
noncomputable def pB(f:Den)(C:Cx)(n:Nat)(ps:List PV):Option PV:=if ps.length=n then(match f (eB C ps none)with
 |some (_, .ret r)=>some r
 |_=>none)else none
theorem EW{f:Den}{C:Cx}{n:Nat}{ps:List PV}{r:PV}(h:pB f C n ps=some r):ps.length=n/\∃g',f (eB C ps none)=some (g', .ret r):=by
 refine oI h fun hl h=>?_
 refine aZ hl ?_
 cases e:f (eB C ps none)with
 |none=>rw[e]at h;exact nn h
 |some q=>
  rw[e]at h
  obtain⟨g',fl⟩:=q
  cases fl with
  |ret r=>obtain rfl:=Aa h;exact⟨_,rfl⟩
  |_=>exact nn h
noncomputable def fD:rG:=⟨fun _ _ _ _=>False,fun h _=>h,fun h=>h.elim⟩
noncomputable def EX:dD:=(.cons (.ifs (.cmp .Eq (.var 0) (.var 1)) (.cons (.ret (.lit (.int 0))) .nil) .nil) (.cons (.ifs (.cmp .Eq (.me 1 (.var 0) .nil) (.me 1 (.var 1) .nil)) (.cons (.ret (.lit (.int 1))) .nil) .nil) (.cons (.ret (.lit (.int 2))) .nil)))
noncomputable def AD:dD:=(.cons (.ifs (.cmp .Eq (.var 0) (.var 1)) (.cons (.ret (.lit (.int 0))) .nil) .nil) (.cons (.assign 3 (.lit (.int 0))) (.cons (.qp (.and (.cons (.eT (.bS (.var 0) (.yes (.var 3)) .no .no)) (.cons (.eT (.bS (.var 1) (.yes (.var 3)) .no .no)) (.cons (.cmp .Eq (.idx (.var 0) (.var 3)) (.idx (.var 1) (.var 3))) .nil)))) (.cons (.aug .Add 3 (.lit (.int 1))) .nil)) (.cons (.assign 0 (.bS (.var 0) (.yes (.var 3)) .no .no)) (.cons (.assign 1 (.bS (.var 1) (.yes (.var 3)) .no .no)) (.cons (.assign 4 (.lit (.int 0))) (.cons (.qp (.and (.cons (.eT (.bS (.var 0) .no (.yes (.gy (.var 4) (.lit .none))) .no)) (.cons (.eT (.bS (.var 1) .no (.yes (.gy (.var 4) (.lit .none))) .no)) (.cons (.cmp .Eq (.idx (.var 0) (.bin .Sub (.var 4) (.lit (.int 1)))) (.idx (.var 1) (.bin .Sub (.var 4) (.lit (.int 1))))) .nil)))) (.cons (.aug .Sub 4 (.lit (.int 1))) .nil)) (.cons (.assign 0 (.bS (.var 0) .no (.yes (.gy (.var 4) (.lit .none))) .no)) (.cons (.assign 1 (.bS (.var 1) .no (.yes (.gy (.var 4) (.lit .none))) .no)) (.cons (.ifs (.or (.cons (.not (.eT (.var 0))) (.cons (.not (.eT (.var 1))) .nil))) (.cons (.ret (.bin .Mult (.lit (.int 2)) (.bin .Add (.bi 0 (.cons (.var 0) .nil)) (.bi 0 (.cons (.var 1) .nil))))) .nil) .nil) (.cons (.ifs (.or (.cons (.cmp .Gt (.bi 0 (.cons (.var 0) .nil)) (.lit (.int 40))) (.cons (.cmp .Gt (.bi 0 (.cons (.var 1) .nil)) (.lit (.int 40))) .nil))) (.cons (.ret (.bin .Add (.var 2) (.lit (.int 1)))) .nil) .nil) (.cons (.ifs (.cmp .Lt (.bi 0 (.cons (.var 1) .nil)) (.bi 0 (.cons (.var 0) .nil))) (.cons (.swap 0 1 (.var 1) (.var 0)) .nil) .nil) (.cons (.ifs (.cmp .Gt (.bin .Mult (.bin .Sub (.bi 0 (.cons (.var 1) .nil)) (.bi 0 (.cons (.var 0) .nil))) (.lit (.int 2))) (.var 2)) (.cons (.ret (.bin .Add (.var 2) (.lit (.int 1)))) .nil) .nil) (.cons (.assign 5 (.bi 5 (.cons (.lit (.int 2)) (.cons (.bin .Mult (.lit (.int 2)) (.bin .Add (.bi 0 (.cons (.var 0) .nil)) (.lit (.int 1)))) (.cons (.lit (.int 2)) .nil))))) (.cons (.assign 6 (.lit (.int 0))) (.cons (.forR 7 (.bi 0 (.cons (.var 1) .nil)) (.cons (.assign 8 (.idx (.var 1) (.var 7))) (.cons (.dc 9 6 (.bin .Mult (.var 7) (.lit (.int 2)))) (.cons (.assign 10 (.lit (.int 9223372036854775807))) (.cons (.forR 11 (.bi 0 (.cons (.var 0) .nil)) (.cons (.assign 12 (.bin .Add (.var 9) (.uc 0 (.cons (.var 8) (.cons (.idx (.var 0) (.var 11)) .nil))))) (.cons (.assign 9 (.idx (.var 5) (.var 11))) (.cons (.assign 13 (.bin .Add (.bi 3 (.cons (.var 6) (.cons (.var 9) .nil))) (.lit (.int 2)))) (.cons (.assign 6 (.bi 3 (.cons (.var 13) (.cons (.var 12) .nil)))) (.cons (.set 5 (.var 11) (.var 6)) (.cons (.ifs (.cmp .Lt (.var 6) (.var 10)) (.cons (.assign 10 (.var 6)) .nil) .nil) .nil))))))) (.cons (.ifs (.cmp .Gt (.var 10) (.var 2)) (.cons (.ret (.bin .Add (.var 2) (.lit (.int 1)))) .nil) .nil) .nil)))))) (.cons (.ret (.var 6)) .nil)))))))))))))))))
noncomputable def EY:PS:=(.ifs (.cmp .NotIn (.lit (.str [34])) (.var 0)) (.cons (.ret (.var 0)) .nil) .nil)
noncomputable def EZ:PS:=(.assign 1 (.lit (.int 0)))
noncomputable def FC:PS:=(.assign 2 (.lit .none))
noncomputable def FD:PS:=(.assign 3 (.list .nil))
noncomputable def AE:PS:=(.ifs (.cmp .Lt (.var 1) (.bi 0 (.cons (.var 0) .nil))) (.cons (.append 3 (.bS (.var 0) (.yes (.var 1)) .no .no)) .nil) .nil)
noncomputable def FE:PS:=(.ret (.me 0 (.lit (.str [])) (.cons (.var 3) .nil)))
noncomputable def qN:dD:=(.cons (.ifs (.cmp .Eq (.var 5) (.lit (.str [34]))) (.cons (.ifs (.cmp .Is (.var 2) (.lit .none)) (.cons (.assign 2 (.var 4)) .nil) (.cons (.ifs (.cmp .NotEq (.var 1) (.var 2)) (.cons (.append 3 (.bS (.var 0) (.yes (.var 1)) (.yes (.var 2)) .no)) .nil) .nil) (.cons (.assign 1 (.bin .Add (.var 4) (.lit (.int 1)))) (.cons (.assign 2 (.lit .none)) .nil)))) .nil) .nil) .nil)
noncomputable def FF:PS:=(.assign 0 (.uc 2 (.cons (.var 0) .nil)))
noncomputable def FG:PS:=(.assign 1 (.lit (.int 0)))
noncomputable def Og:PS:=(.ret (.cmp .Eq (.var 1) (.lit (.int 0))))
noncomputable def jx:dD:=(.cons (.ifs (.cmp .Eq (.var 3) (.lit (.str [40]))) (.cons (.aug .Add 1 (.lit (.int 1))) .nil) (.cons (.ifs (.cmp .Eq (.var 3) (.lit (.str [41]))) (.cons (.aug .Sub 1 (.lit (.int 1))) (.cons (.ifs (.cmp .Lt (.var 1) (.lit (.int 0))) (.cons (.ret (.lit (.bool false))) .nil) .nil) .nil)) .nil) .nil)) .nil)
noncomputable def l0:PS:=(.assign 2 (.comp (.bin .Mod (.bin .Add (.var 38) (.bi 1 (.cons (.bS (.var 0) (.yes (.var 37)) .no (.yes (.lit (.int 5)))) .nil))) (.lit (.int 1000000))) (.enum (.list (.cons (.lit (.int 792)) (.cons (.lit (.int 384)) (.cons (.lit (.int 12)) (.cons (.lit (.int 1238)) (.cons (.lit (.int 252)) .nil))))))) .nil))
noncomputable def l1:PS:=(.assign 3 (.bi 1 (.cons (.var 2) .nil)))
noncomputable def l2:PS:=(.assign 4 (.lit (.str [])))
noncomputable def l3:PS:=(.assign 5 (.list (.cons (.lit (.int 0)) .nil)))
noncomputable def l4:PS:=(.assign 6 (.list (.cons (.lit (.str [97,98,99,100])) .nil)))
noncomputable def l5:PS:=(.assign 7 (.list .nil))
noncomputable def l6:PS:=(.assign 8 (.list .nil))
noncomputable def l7:PS:=(.forR 1 (.lit (.int 4)) (.cons (.aug .Add 4 (.lit (.str [40]))) (.cons (.append 5 (.bi 0 (.cons (.var 4) .nil))) (.cons (.append 8 (.var 1)) (.cons (.append 6 (.me 0 (.lit (.str [])) (.cons (.comp (.ite (.cmp .In (.var 37) (.var 8)) (.idx (.lit (.str [65,66,67,68])) (.var 37)) (.idx (.lit (.str [97,98,99,100])) (.var 37))) (.cv (.lit (.int 4))) .nil) .nil))) (.cons (.forR 9 (.ite (.cmp .Eq (.var 1) (.lit (.int 3))) (.bi 0 (.cons (.var 8) .nil)) (.bin .Mod (.idx (.var 2) (.bin .Add (.var 1) (.lit (.int 1)))) (.bin .Add (.bi 0 (.cons (.var 8) .nil)) (.lit (.int 1))))) (.cons (.aug .Add 4 (.lit (.str [41]))) (.cons (.bV 7 8 (.lit (.int 1))) .nil))) .nil))))))
noncomputable def l8:PS:=(.append 7 (.lit (.int 0)))
noncomputable def l9:PS:=(.assign 10 (.idx (.list (.cons (.lit (.str [])) (.cons (.lit (.str [92,40])) (.cons (.lit (.str [92,41])) (.cons (.lit (.str [34,40,34])) (.cons (.lit (.str [34,41,34])) (.cons (.lit (.str [34,92,34,41,34])) (.cons (.lit (.str [92,92])) (.cons (.lit (.str [92,34])) (.cons (.lit (.str [34])) .nil)))))))))) (.bin .Mod (.var 3) (.lit (.int 9)))))
noncomputable def TY:PS:=(.assign 11 (.comp (.bin .Add (.idx (.var 4) (.var 37)) (.ite (.cmp .Eq (.var 37) (.bin .Mod (.bin .FloorDiv (.var 3) (.lit (.int 9))) (.lit (.int 8)))) (.var 10) (.lit (.str [])))) (.cv (.lit (.int 8))) .nil))
noncomputable def TZ:PS:=(.assign 12 (.comp (.bin .Mod (.bin .FloorDiv (.var 37) (.lit (.int 12))) (.lit (.int 4))) (.items (.var 2)) .nil))
noncomputable def T1:PS:=(.assign 13 (.list .nil))
noncomputable def tD:PS:=(.kB 14 7 (.cons (.assign 15 (.me 0 (.lit (.str [])) (.cons (.comp (.bin .Add (.ite (.cmp .Eq (.bin .Mod (.bin .FloorDiv (.bin .FloorDiv (.idx (.var 2) (.var 14)) (.lit (.int 144))) (.bin .Pow (.lit (.int 2)) (.var 37))) (.lit (.int 2))) (.lit (.int 1))) (.lit (.str [92])) (.lit (.str []))) (.idx (.idx (.var 6) (.var 14)) (.var 37))) (.cv (.lit (.int 4))) .nil) .nil))) (.cons (.append 13 (.ite (.cmp .Gt (.idx (.var 12) (.var 14)) (.lit (.int 0))) (.bin .Add (.bin .Mult (.lit (.str [46])) (.idx (.var 12) (.var 14))) (.var 15)) (.bin .Add (.bin .Add (.lit (.str [34])) (.var 15)) (.lit (.str [34]))))) .nil)))
noncomputable def T2:PS:=(.assign 16 (.uc 4 (.cons (.me 0 (.lit (.str [])) (.cons (.comp (.bin .Add (.idx (.var 13) (.var 37)) (.idx (.list (.cons (.lit (.str [10])) (.cons (.lit (.str [13])) (.cons (.lit (.str [13,10])) .nil)))) (.bin .Mod (.bin .FloorDiv (.idx (.var 2) (.idx (.var 7) (.var 37))) (.lit (.int 48))) (.lit (.int 3))))) (.cv (.lit (.int 5))) .nil) .nil)) .nil)))
noncomputable def T3:PS:=(.ifs (.cmp .NotEq (.var 16) (.me 0 (.lit (.str [])) (.cons (.comp (.bin .Add (.bin .Add (.ite (.cmp .Eq (.idx (.var 37) (.lit (.int 0))) (.lit (.str [46]))) (.lit (.str [46])) (.lit (.str []))) (.var 37)) (.lit (.str [13,10]))) (.items (.var 13)) .nil) .nil))) (.cons (.ret (.lit (.bool false))) .nil) .nil)
noncomputable def Oh:PS:=(.ifs (.cmp .NotEq (.var 18) (.comp (.bin .Add (.bin .Mult (.lit (.str [46])) (.ite (.cmp .Gt (.idx (.var 12) (.var 37)) (.lit (.int 0))) (.bin .Add (.idx (.var 12) (.var 37)) (.lit (.int 1))) (.lit (.int 0)))) (.idx (.var 6) (.var 37))) (.items (.var 7)) .nil)) (.cons (.ret (.lit (.bool false))) .nil) .nil)
noncomputable def Oi:PS:=(.assign 19 (.comp (.me 2 (.idx (.var 18) (.me 3 (.var 7) (.cons (.var 37) .nil))) (.cons (.lit (.str [46])) .nil)) (.cv (.lit (.int 5))) .nil))
noncomputable def Oj:PS:=(.assign 20 (.comp (.bin .Mult (.list (.cons (.lit (.int 0)) .nil)) (.lit (.int 5))) (.cv (.lit (.int 5))) .nil))
noncomputable def tE:PS:=(.forR 14 (.lit (.int 5)) (.cons (.forR 21 (.var 14) (.cons (.assign 22 (.bin .Mod (.bin .Add (.var 21) (.var 14)) (.lit (.int 2)))) (.cons (.assign 23 (.bin .FloorDiv (.bin .Add (.var 21) (.var 14)) (.lit (.int 7)))) (.cons (.assign 9 (.bin .Add (.bS (.idx (.var 18) (.me 3 (.var 7) (.cons (.var 21) .nil))) (.yes (.bin .Mult (.neg (.lit (.int 4))) (.var 22))) .no .no) (.bin .Mult (.lit (.str [46])) (.var 23)))) (.cons (.assign 24 (.bin .Add (.bin .Mult (.lit (.str [46])) (.var 23)) (.bS (.idx (.var 18) (.me 3 (.var 7) (.cons (.var 14) .nil))) (.yes (.bin .Mult (.neg (.lit (.int 4))) (.var 22))) .no .no))) (.cons (.assign 25 (.bin .Add (.bin .Mult (.lit (.int 2)) (.bi 4 (.cons (.bin .Sub (.bi 0 (.cons (.var 9) .nil)) (.bi 0 (.cons (.var 24) .nil))) .nil))) (.bin .Mult (.lit (.int 4)) (.var 23)))) (.cons (.assign 26 (.bin .Sub (.bin .Add (.var 25) (.bi 0 (.cons (.comp (.var 37) (.cv (.lit (.int 4))) (.cons (.cmp .NotEq (.idx (.idx (.var 6) (.var 21)) (.var 37)) (.idx (.idx (.var 6) (.var 14)) (.var 37))) .nil)) .nil))) (.bin .Mod (.bin .Add (.var 14) (.var 3)) (.lit (.int 2))))) (.cons (.assign 27 (.bin .Sub (.uc 1 (.cons (.var 9) (.cons (.var 24) (.cons (.var 26) .nil)))) (.var 25))) (.cons (.ifs (.and (.cons (.cmp .Eq (.var 23) (.lit (.int 1))) (.cons (.cmp .NotEq (.uc 1 (.cons (.var 9) (.cons (.var 24) (.cons (.lit (.int 1)) .nil)))) (.lit (.int 2))) .nil))) (.cons (.ret (.lit (.bool false))) .nil) .nil) (.cons (.fv 20 (.var 21) (.var 14) (.var 27)) (.cons (.fv 20 (.var 14) (.var 21) (.var 27)) (.cons (.assign 28 (.bin .FloorDiv (.bin .Sub (.bin .Add (.var 27) (.idx (.idx (.var 20) (.lit (.int 0))) (.var 21))) (.idx (.idx (.var 20) (.lit (.int 0))) (.var 14))) (.lit (.int 2)))) (.cons (.assign 29 (.me 0 (.lit (.str [])) (.cons (.bS (.var 11) (.yes (.idx (.var 5) (.var 21))) (.yes (.idx (.var 5) (.var 14))) .no) .nil))) (.cons (.ifs (.cmp .IsNot (.uc 3 (.cons (.bin .Add (.bin .Add (.bin .Mult (.lit (.str [40])) (.var 28)) (.var 29)) (.bin .Mult (.lit (.str [41])) (.bin .Sub (.var 27) (.var 28)))) .nil)) (.lit (.bool true))) (.cons (.ret (.lit (.bool false))) .nil) .nil) (.cons (.ifs (.and (.cons (.cmp .Gt (.var 21) (.lit (.int 0))) (.cons (.cmp .IsNot (.uc 3 (.cons (.bin .Add (.bin .Add (.bin .Mult (.lit (.str [40])) (.bin .Sub (.var 28) (.lit (.int 1)))) (.var 29)) (.bin .Mult (.lit (.str [41])) (.bin .Sub (.bin .Sub (.var 27) (.var 28)) (.lit (.int 1))))) .nil)) (.lit (.bool false))) .nil))) (.cons (.ret (.lit (.bool false))) .nil) .nil) .nil))))))))))))))) .nil))
noncomputable def Ol:PS:=(.assign 34 (.comp (.bi 1 (.cons (.comp (.bin .Mult (.idx (.var 19) (.var 38)) (.idx (.idx (.var 20) (.var 38)) (.var 37))) (.cv (.lit (.int 5))) .nil) .nil)) (.items (.var 7)) .nil))
noncomputable def Om:PS:=(.assign 35 (.comp (.bi 1 (.cons (.comp (.idx (.var 19) (.var 38)) (.cv (.lit (.int 5))) (.cons (.cmp .Eq (.idx (.idx (.var 6) (.var 38)) (.var 37)) (.idx (.lit (.str [65,66,67,68])) (.var 37))) .nil)) .nil)) (.cv (.lit (.int 4))) .nil))
noncomputable def Oo:PS:=(.assign 36 (.bi 1 (.cons (.comp (.bi 3 (.cons (.var 37) (.cons (.bin .Sub (.bi 1 (.cons (.var 19) .nil)) (.var 37)) .nil))) (.items (.var 35)) .nil) .nil)))
noncomputable def Oq:PS:=(.ret (.ia (.cmp .Eq (.bi 2 (.cons (.var 34) .nil)) (.var 36)) (.cmp .Eq (.idx (.var 7) (.me 3 (.var 34) (.cons (.var 36) .nil))) (.var 32))))
noncomputable def T4(o:Option Stmt):List Stmt:=(o.bind fun st=>bK (st.ctorIdx=9) fun h=>Stmt.For.elim (motive_2:=fun _=>Option (List Stmt)) st h fun _ _ b _ _=>some b).getD []
theorem FH{C:Cx}{tv dv:List Nat}{b:List Stmt}{q:dD}(h:(cB (tab:=br) C tv dv b).isSome=true)(e:(cB (tab:=br) C tv dv b).elim .nil (·.1)=q)(X:Ctx)(hX:X.C=C)(ok:cR X.W br):yU X tv dv tv dv b (yN X.W.U q):=xd h e X hX ok
theorem iL{C:Cx}{tv dv:List Nat}{st:Stmt}{q:PS}(h:(cS (tab:=br) (cE 24) C tv dv 12 st).isSome=true)(e:(cS (tab:=br) (cE 24) C tv dv 12 st).elim .pass (·.1)=q)(X:Ctx)(hX:X.C=C)(ok:cR X.W br):yL X tv dv st (den X.W.U q):=xd h e X hX ok
theorem yDe(X:Ctx)(hX:X.C=aR 5)(ok:cR X.W br):yU X [] [] [] [] (xZ PA 5) (yN X.W.U EX):=FH (by decide+kernel) rfl X hX ok
theorem yEc(X:Ctx)(hX:X.C=aR 6)(ok:cR X.W br):yU X [5] [] [5] [] (xZ PA 6) (yN X.W.U AD):=FH (by decide+kernel) rfl X hX ok
theorem zYi(X:Ctx)(hX:X.C=aR 9)(ok:cR X.W br):yL X [3] [] ((xZ PA 9)[0]) (den X.W.U EY):=iL (by decide+kernel) rfl X hX ok
theorem zZp(X:Ctx)(hX:X.C=aR 9)(ok:cR X.W br):yL X [3] [] ((xZ PA 9)[1]) (den X.W.U EZ):=iL (by decide+kernel) rfl X hX ok
theorem yAo(X:Ctx)(hX:X.C=aR 9)(ok:cR X.W br):yL X [3] [] ((xZ PA 9)[2]) (den X.W.U FC):=iL (by decide+kernel) rfl X hX ok
theorem zZt(X:Ctx)(hX:X.C=aR 9)(ok:cR X.W br):yL X [3] [] ((xZ PA 9)[3]) (den X.W.U FD):=iL (by decide+kernel) rfl X hX ok
theorem yAn(X:Ctx)(hX:X.C=aR 9)(ok:cR X.W br):yL X [3] [] ((xZ PA 9)[5]) (den X.W.U AE):=iL (by decide+kernel) rfl X hX ok
theorem yAl(X:Ctx)(hX:X.C=aR 9)(ok:cR X.W br):yL X [3] [] ((xZ PA 9)[6]) (den X.W.U FE):=iL (by decide+kernel) rfl X hX ok
theorem zZu(X:Ctx)(hX:X.C=aR 9)(ok:cR X.W br):yU X [3] [] [3] [] (T4 ((xZ PA 9)[4]?)) (yN X.W.U qN):=FH (by decide+kernel) rfl X hX ok
theorem yAv(X:Ctx)(hX:X.C=aR 10)(ok:cR X.W br):yL X [] [] ((xZ PA 10)[0]) (den X.W.U FF):=iL (by decide+kernel) rfl X hX ok
theorem zX9(X:Ctx)(hX:X.C=aR 10)(ok:cR X.W br):yL X [] [] ((xZ PA 10)[1]) (den X.W.U FG):=iL (by decide+kernel) rfl X hX ok
theorem zZi(X:Ctx)(hX:X.C=aR 10)(ok:cR X.W br):yL X [] [] ((xZ PA 10)[3]) (den X.W.U Og):=iL (by decide+kernel) rfl X hX ok
theorem yBf(X:Ctx)(hX:X.C=aR 10)(ok:cR X.W br):yU X [] [] [] [] (T4 ((xZ PA 10)[2]?)) (yN X.W.U jx):=FH (by decide+kernel) rfl X hX ok
theorem mU{W:bP}(G:GA W.mg W.mb)(hf:W.i5=tw):cR W br:=fun x k h=>
 have q:∀{n:Nat} {s:Str},W.mg s=some (.ref (tw n))->W.mg s=some (.ref (W.i5 n)):=fun e=>hf▸e
 (show ∀z∈br,Q5 W z.1 z.2 from
  fa (aZ (G.no _ (by decide)) G.z7) (fa (aZ (G.no _ (by decide)) G.z8) (fa (aZ (G.no _ (by decide)) G.z9) (fa (aZ (G.no _ (by decide)) G.AA) (fa (aZ (G.no _ (by decide)) G.gM) (fa (aZ (G.no _ (by decide)) G.mS) (fa (aZ (G.no _ (by decide)) G.mT) (fa (aZ (G.no _ (by decide)) G.AB)
  (fa G.i1 (fa G.i2 (fa G.i3 (fa (q G.f0) (fa (q G.f1) (fa (q G.f2) (fa (q G.f3) (fa (q G.f4) gD)))))))))))))))) (x,k) (yO h)
theorem gr.obj{p:Program}{h:As}{a:Addr}{i:Nat}(x:gr p h a i):∃o fd,h.get? a=some o/\o.data= .func fd:=let⟨o,_,_,_,e1,e2,_⟩:=x;⟨o,_,e1,e2⟩
section
variable(w:Cn){mg mb:Str->Option Value}(G:GA mg mb)
include G in
theorem yHe:cR (EV w (mg:=mg) (mb:=mb)) br:=mU G rfl
noncomputable def W1:bP:=(EV w (mg:=mg) (mb:=mb)).add 0 (pB (yN (fun _ _=>none) EX) (aR 5) 2) (fun {h} x=>gr.obj x.zy) fun A s ps vs ns r hr hw hv e=>by
 obtain⟨hl,g',hd⟩:=EW e
 refine fU (Pn (hv.length.trans hl)) fun v1 v2 bL=>?_
 subst bL
 exact wz (tv:=[]) (dv:=[]) (X:=⟨EV w (mg:=mg) (mb:=mb),fD,aR 5⟩) rfl (by decide+kernel) hw.zy hw.lim hr hw (fun pm cd doc=>rfl) hv (by rw[hl];rfl) (fun i hi=>by simp at hi) (yDe _ rfl (yHe w G)) hd
noncomputable def W2:bP:=(W1 w G).add 1 (pB (yN (W1 w G).U AD) (aR 6) 3) (fun {h} x=>gr.obj x.zz) fun A s ps vs ns r hr hw hv e=>by
 obtain⟨hl,g',hd⟩:=EW e
 refine vx (Po (hv.length.trans hl)) fun v1 v2 v3 fX=>?_
 subst fX
 exact wz (tv:=[5]) (dv:=[]) (X:=⟨W1 w G,fD,aR 6⟩) rfl (by decide+kernel) hw.zz hw.lim hr hw (fun pm cd doc=>rfl) hv (by rw[hl];rfl) (fun i hi=>by simp at hi;subst hi;decide) (yU.weak (yEc ⟨W1 w G,fD,aR 6⟩ rfl (mU G rfl)) rfl rfl) hd
end
theorem kR{C:Cx}{e:Expr}{q:PE}{r:RE br C e}(h:r.isSome=true)(k:r.elim (.lit .none) (·.1)=q)(W:bP)(ok:cR W br):ax W C e q:=xd h k W ok
theorem FI{C:Cx}{e:Expr}{q:PT}{r:RT br C e}(h:r.isSome=true)(k:r.elim (.eT (.lit .none)) (·.1)=q)(W:bP)(ok:cR W br):dB W C e q:=xd h k W ok
section
variable{w:Cn}{mg mb:Str->Option Value}
set_option maxHeartbeats 1000000 in
theorem T5{W:bP}(G:GA W.mg W.mb)(hf:W.i5=tw)(hw:∀h,W.Wd h->fS W.mg W.mb h):xo W.prog W.w W.Wd (W.D+1) 52:=by
 have ok:=mU G hf
 refine Zs (X:=⟨W,fD,aR 8⟩) (scope:=mj PA 8) (P:=⟨_,_, "addr",_,_,_,_,_,_,_,_,_,_,_,_,_,_,_,_,_,_,_,_,_,_,_,_,_,_,_,_,_,_,_,_,_,_,_,_⟩) rfl (CP (scope:={mj PA 8 with isGenerator:=false}) (by decide+kernel)) (by rfl) (by rfl) (by rfl) (by rfl) (fun y hy=>?_) (fun y hy=>?_) (by decide+kernel) (fun h hh=>(hw h hh).uU) (fun h hh=>(hw h hh).lim) (fun pm cd doc u=>rfl) ?_
 ·revert y;decide+kernel
 ·revert y;decide+kernel
 ·intro L Ka env hl hs hk wd
  exact
   {gJ:=rfl,bS:=rfl,
    nc:=fun x e=>(show ∀y∈(mj PA 8).names,y.2≠ .cell by decide+kernel) _ (yO e) rfl
    nf:=fun x e=>(show ∀y∈(mj PA 8).names,y.2≠ .free by decide+kernel) _ (yO e) rfl
    loc:=hl,co:=by rw[hs];rfl,qr:=hk,xh:=wd
    t1:=FI (r:=cT (cE 24) (aR 8) 5 _) (by decide+kernel) rfl W ok
    t2:=FI (r:=cT (cE 24) (aR 8) 5 _) (by decide+kernel) rfl W ok
    ny:=kR (r:=cE 24 (aR 8) _) (by decide+kernel) rfl W ok
    um:=kR (r:=cE 24 (aR 8) _) (by decide+kernel) rfl W ok
    nz:=kR (r:=cE 24 (aR 8) _) (by decide+kernel) rfl W ok
    uo:=kR (r:=cE 24 (aR 8) _) (by decide+kernel) rfl W ok
    s1:=⟨rfl,rfl,rfl,rfl⟩
    Rw:=iL (C:=aR 8) (by decide+kernel) rfl _ rfl ok
    Rx:=iL (C:=aR 8) (by decide+kernel) rfl _ rfl ok
    hx:=rfl,bad:=by decide+kernel,ke:=rfl
    ge:=G.no _ (by decide),be:=G.mT
    t3:=FI (r:=cT (cE 24) (aR 8) 5 _) (by decide+kernel) rfl W ok
    RH:=kR (r:=cE 24 (aR 8) _) (by decide+kernel) rfl W ok
    RI:=kR (r:=cE 24 (aR 8) _) (by decide+kernel) rfl W ok
    s3:=⟨rfl,rfl⟩
    RJ:=iL (C:=aR 8) (by decide+kernel) rfl _ rfl ok
    uz:=iL (C:=aR 8) (by decide+kernel) rfl _ rfl ok}
theorem Ot(i:Nat)(h:(mj PA i).names.all (fun y=>y.2 != .free)=true)(x:Str):(aR i).kn.lookup x≠some .free:=KL (C:=aR i) h x
theorem yU.cs{X:Ctx}{tv dv:List Nat}{st:Stmt}{rest:List Stmt}{f h:Den}(h1:yL X tv dv st f)(h2:yU X tv dv [] [] rest h):yU X tv dv [] [] (st::rest) (yT f h):=yU.cons h1 h2 (mi _) (mi _) rfl rfl
theorem yU.cd{X:Ctx}{tv dv:List Nat}{b:List Stmt}{i:Nat}{hi:i<b.length}{f h:Den}(h1:yL X tv dv b[i] f)(h2:yU X tv dv [] [] (b.drop (i+1)) h):yU X tv dv [] [] (b.drop i) (yT f h):=Bc hi▸yU.cs h1 h2
theorem zSe{W:bP}(G:GA W.mg W.mb)(hf:W.i5=tw)(hw:∀h,W.Wd h->fS W.mg W.mb h)(mq:xo W.prog W.w W.Wd W.D 52):
  yU ⟨W,fD,aR 9⟩ [3] [] [] [] (xZ PA 9) (yT (den W.U EY) (yT (den W.U EZ) (yT (den W.U FC) (yT (den W.U FD) (yT (se W.U (.var 0) [4,5] (yN W.U qN)) (yT (den W.U AE) (yT (den W.U FE) aA))))))):=by
 have ok:=mU G hf
 refine yU.cd (b:=xZ PA 9) (i:=0) (zYi ⟨W,fD,aR 9⟩ rfl ok) (yU.cd (zZp ⟨W,fD,aR 9⟩ rfl ok) (yU.cd (yAo ⟨W,fD,aR 9⟩ rfl ok) (yU.cd (zZt ⟨W,fD,aR 9⟩ rfl ok) (yU.cd (hi:=by decide+kernel) ?_ (yU.cd (yAn ⟨W,fD,aR 9⟩ rfl ok) (yU.cd (yAl ⟨W,fD,aR 9⟩ rfl ok)
  (yU.nil rfl rfl)))))))
 exact yL.mn (X:=⟨W,fD,aR 9⟩) (fun _ _ _ _ h=>h) mq (by rfl) G.f5 (by decide+kernel) (fun h hh=>gr.obj (hw h hh).uU) (kR (r:=cE 24 (aR 9) _) (by decide+kernel) rfl W ok) rfl (by rfl) (by rfl) (by decide)
  (zZu ⟨W,fD,aR 9⟩ rfl ok) (Ot 9 (by decide+kernel)) (fun h hh=>(hw h hh).lim)
theorem zTh{W:bP}(G:GA W.mg W.mb)(hf:W.i5=tw)(hw:∀h,W.Wd h->fS W.mg W.mb h)(mq:xo W.prog W.w W.Wd W.D 52):
  yU ⟨W,fD,aR 10⟩ [] [] [] [] (xZ PA 10) (yT (den W.U FF) (yT (den W.U FG) (yT (se W.U (.var 0) [2,3] (yN W.U jx)) (yT (den W.U Og) aA)))):=by
 have ok:=mU G hf
 refine yU.cd (b:=xZ PA 10) (i:=0) (yAv ⟨W,fD,aR 10⟩ rfl ok) (yU.cd (zX9 ⟨W,fD,aR 10⟩ rfl ok) (yU.cd (hi:=by decide+kernel) ?_ (yU.cd (zZi ⟨W,fD,aR 10⟩ rfl ok) (yU.nil rfl rfl))))
 exact yL.mn (X:=⟨W,fD,aR 10⟩) (fun _ _ _ _ h=>h) mq (by rfl) G.f5 (by decide+kernel) (fun h hh=>gr.obj (hw h hh).uU) (kR (r:=cE 24 (aR 10) _) (by decide+kernel) rfl W ok) rfl (by rfl) (by rfl) (by decide)
  (yBf ⟨W,fD,aR 10⟩ rfl ok) (Ot 10 (by decide+kernel)) (fun h hh=>(hw h hh).lim)
variable(w:Cn)(G:GA mg mb)
noncomputable def FJ(U:Uc):Den:=yT (den U EY) (yT (den U EZ) (yT (den U FC) (yT (den U FD) (yT (se U (.var 0) [4,5] (yN U qN)) (yT (den U AE) (yT (den U FE) aA))))))
noncomputable def FK(U:Uc):Den:=yT (den U FF) (yT (den U FG) (yT (se U (.var 0) [2,3] (yN U jx)) (yT (den U Og) aA)))
noncomputable def W3:bP:=(W2 w G).add 2 (pB (FJ (W2 w G).U) (aR 9) 1) (fun {h} x=>gr.obj x.z3) fun A s ps vs ns r hr hw hv e=>by
 obtain⟨hl,g',hd⟩:=EW e
 refine aK (BO (hv.length.trans hl)) fun v1 aH=>?_
 subst aH
 exact wz (tv:=[3]) (dv:=[]) (X:=⟨W2 w G,fD,aR 9⟩) rfl (by decide+kernel) hw.z3 hw.lim hr hw (fun pm cd doc=>rfl) hv (by rw[hl];rfl) (fun i hi=>by simp at hi;subst hi;decide) (zSe (W:=W2 w G) G rfl (fun _ x=>x) (T5 (W:=W1 w G) G rfl (fun _ x=>x))) hd
noncomputable def W4:bP:=(W3 w G).add 3 (pB (FK (W3 w G).U) (aR 10) 1) (fun {h} x=>gr.obj x.z4) fun A s ps vs ns r hr hw hv e=>by
 obtain⟨hl,g',hd⟩:=EW e
 refine aK (BO (hv.length.trans hl)) fun v1 aH=>?_
 subst aH
 exact wz (tv:=[]) (dv:=[]) (X:=⟨W3 w G,fD,aR 10⟩) rfl (by decide+kernel) hw.z4 hw.lim hr hw (fun pm cd doc=>rfl) hv (by rw[hl];rfl) (fun i hi=>by simp at hi) (zTh (W:=W3 w G) G rfl (fun _ x=>x) (T5 (W:=W2 w G) G rfl (fun _ x=>x))) hd
noncomputable def yCy(ps:List PV):Option PV:=(one ps).bind fun p=>p.dg.bind fun l=>if l.length<=100000 then some (.str (lF l))else none
noncomputable def yEh:dN:=fun g=>((g.σ[0]?).bind id).bind fun p=>p.dg.bind fun l=>if l.length<=100000 then some (g, .str (lF l))else none
theorem yDh{σ:List (Option PV)}{i:Nat}{p:PV}(h:(σ[i]?).bind id=some p):σ[i]?=some (some p):=by
 refine oB h fun o h1 h2=>?_
 rw[h1,show o=some p from h2]
theorem zS2{W:bP}(G:GA W.mg W.mb)(hw:∀h,W.Wd h->fS W.mg W.mb h):yU ⟨W,fD,aR 17⟩ [] [] [] [] (xZ PA 17) (yT (v7 yEh) aA):=by
 refine yU.cs (yL.ret ?_) (yU.nil rfl rfl)
 intro K env A E s₀ g N F s g' p T e
 refine oB e fun q e1 e=>?_
 refine oB e fun l e2 e=>?_
 refine oI e fun hl e=>?_
 refine ao (Bf (Aa e)) fun aI aH=>?_
 subst aI
 subst aH
 have bW:=yDh e1
 rw[PV.bJ e2]at bW
 refine aK G.crlf fun t ht=>?_
 have hh:=hw _ (T.ei _ T.kept)
 exact zPq (C:=aR 17) (W:=W) T.pre hh.pz hh.pA (by rfl) (by rfl) (by rfl) G.r1 G.r2 ht (by decide+kernel) (by decide+kernel) (by decide+kernel) (by decide+kernel) (by rfl) (by rfl) bW hl (by rfl) (by rfl) fun s' t k=>⟨N,F,[],T.kg k, .str _ _,ey.nil⟩
noncomputable def W5:bP:=(W4 w G).add 4 yCy (fun {h} x=>gr.obj x.mP) fun A s ps vs ns r hr hw hv e=>by
 refine oB e fun q e1 e=>?_
 refine oB e fun l e2 e=>?_
 refine oI e fun hl e=>?_
 obtain rfl:=Aa e
 obtain rfl:=nX e1
 obtain rfl:=PV.bJ e2
 refine aK (BO hv.length) fun v1 aH=>?_
 subst aH
 refine wz (tv:=[]) (dv:=[]) (X:=⟨W4 w G,fD,aR 17⟩) (g':=⟨[some (.str l)],none⟩) rfl (by decide+kernel) hw.mP hw.lim hr hw (fun pm cd doc=>rfl) hv rfl (fun i hi=>by simp at hi) (zS2 (W:=W4 w G) G fun _ x=>x) ?_
 refine(?_:((if l.length<=100000 then some ((⟨[some (.str l)],none⟩:Sg),PV.str (lF l))else none).bind _).bind _=_)
 rw[if_pos hl];rfl
end
noncomputable def rdO(o:Option Stmt):Option ct:=o.bind fun st=>bK (st.ctorIdx=5) fun h=>Mx (motive_2:=fun _=>Option ct) st h fun _ v _=>bK (v.ctorIdx=4) fun h=>Expr.Lambda.elim (motive_1:=fun _=>Option ct) v h fun params b az _=>
 sC b none fun f as cp=>sA f none fun c _ ap=>bK (c.ctorIdx=19) fun h=>Mg (motive_1:=fun _=>Option ct) c h fun _ jk jp=>ky as none fun a=>sG a none fun elt t it _ aJ lp=>sC elt none fun f2 _ gK=>sA f2 none fun o2 _ dY=>sN o2 none fun sg p1=>sN t none fun si px=>sS it none fun b2 sl sp=>sN b2 none fun _ p2=>
 bK (sl.ctorIdx=26) fun h=>M1 (motive_1:=fun _=>Option ct) sl h fun _ hi _ gJ=>hi.bind fun z=>sN z none fun sz p3=>some ⟨sg,si,sz,jk,jp,ap,p1,dY,gK,px,p2,p3,gJ,sp,lp,cp,aJ,az,params⟩
noncomputable def yG6(o:Option Stmt):ct:=(rdO o).getD ⟨"", "", "",0,default,default,default,default,default,default,default,default,default,default,default,default,default,default,default⟩
noncomputable def gN:ct:=yG6 ((xZ PA 19)[2]?)
section
variable{mg mb:Str->Option Value}(w:Cn)(G:GA mg mb)
noncomputable def cxM(j:Nat):Cx:=wP (pw PA 12 j) ["self"]
theorem FL{W:bP}(hw:∀h,W.Wd h->fS W.mg W.mb h)(C:Cx)(au:List Addr):eN gN 104 103 80 87 94 101 ⟨W,fA gN 104 au,C⟩:=⟨⟨au,rfl⟩,fun h hh=>(hw h hh).cls,fun h hh=>(hw h hh).lim⟩
theorem zZa{W:bP}(G:GA W.mg W.mb)(hf:W.i5=tw):gN.Ok W:=by
 have ok:=mU G hf
 exact
  {k1:=by rfl,co:=by rfl,gen:=by rfl,n1:=by rfl,k2:=by rfl,l2:=by rfl,f2:=by rfl,c2:=by decide+kernel,bad:=by decide+kernel,ne:=by decide+kernel,line:=by decide+kernel,
   bind:=fun name qual body pm sD fK cl v=>rfl
   it:=kR (r:=cE 24 ⟨gN.az.names,[(gN.sg,0),(gN.sz,1)],2⟩ _) (by decide+kernel) rfl W ok}
set_option maxHeartbeats 1000000 in
theorem yCt:sJ (W1 w G) gN 104 2 87 sL:=by
 have ok:cR (W1 w G) br:=mU G rfl
 refine zXb (W:=W1 w G) (scope:=pw PA 12 1) (params:=uS PA 12 1) (name:=uT PA 12 1) (zs:= "self") (zc:= "ch") (N₀:=103) (fI:=80) (fG:=94) (fP:=101) (fun au=>FL (fun h x=>x) _ au) ⟨EV w (mg:=mg) (mb:=mb),zZa G rfl,rfl,rfl,rfl,fun _ x=>x⟩ (fun h hh=>hh.z5) (by decide+kernel) (by decide+kernel) (by rfl) (by rfl) (by rfl) (by rfl) (by decide+kernel) (by decide+kernel) (by decide+kernel) (fun pm cd doc u body=>rfl) ?_
 exact FI (r:=cT (cE 24) (cxM 1) 5 _) (by decide+kernel) rfl (W1 w G) ok
set_option maxHeartbeats 2000000 in
theorem yHh:sJ (W3 w G) gN 104 4 94 (iV (W3 w G).U):=by
 have hZ:∀au,mE gN 104 87 ⟨W3 w G,fA gN 104 au,wP (pw PA 12 2) ["self"]⟩:=fun au=>⟨⟨2,rfl,yCt w G⟩,fun h (hh:fS mg mb h)=>by
  obtain⟨o,pm,cd,doc,e1,e2,e3,_⟩:=hh.z5
  exact⟨o,_,e1,e2,e3⟩⟩
 have hO:∀au,uI ⟨W3 w G,fA gN 104 au,wP (pw PA 12 2) ["self"]⟩ "self" "token" "fiter" "ch" :=fun au=>
  {s:=⟨by rfl,by decide+kernel,by rfl⟩,t:=⟨by rfl,by decide+kernel,by rfl⟩,f:=⟨by rfl,by decide+kernel,by rfl⟩,c:=⟨by rfl,by decide+kernel,by rfl⟩,n:=by rfl,ki:=by rfl
   gi:=G.no _ (by decide),bi:=G.qM}
 exact yCs (W:=W3 w G) (R:=gN) (C:=104) (N₀:=103) (fI:=80) (fR:=87) (fG:=94) (fP:=101) (scope:=pw PA 12 2) (params:=uS PA 12 2) (name:=uT PA 12 2) (zs:= "self") (zt:= "token") (zf:= "fiter") (zc:= "ch")
  (fun au=>FL (fun h x=>x) _ au) hZ hO (fun h hh=>hh.z6) (by decide+kernel) (by decide+kernel) (by decide+kernel) (fun pm cd doc u body=>rfl)
set_option maxHeartbeats 2000000 in
theorem yGu:Nk (W3 w G) gN 104 4 101:=by
 refine zYq (W:=W3 w G) (R:=gN) (C:=104) (N₀:=103) (fI:=80) (fR:=87) (fG:=94) (fP:=101) (scope:=pw PA 12 3) (params:=uS PA 12 3) (name:=uT PA 12 3) (zs:= "self") (zt:= "token")
  (fun au=>FL (fun h x=>x) _ au) (fun h hh=>hh.mR) (by decide+kernel) (by decide+kernel) (by rfl) (by rfl) (by rfl) (by decide+kernel) (by decide+kernel) (by decide+kernel) (fun pm cd doc u v body=>rfl)
set_option maxHeartbeats 2000000 in
theorem mkA:EI (W3 w G) gN 104 4 132 127:=by
 have hM:EG (W3 w G) 127 131 132:=⟨fun h (hh:fS mg mb h)=>hh.code,fun h (hh:fS mg mb h)=>hh.hd,fun h (hh:fS mg mb h)=>hh.bm,by decide,fun h (hh:fS mg mb h)=>hh.lim⟩
 refine yGf (W:=W3 w G) (R:=gN) (C:=104) (N₀:=103) (fI:=80) (fR:=87) (fG:=94) (fP:=101) (scope:=mj PA 19) (params:=CX PA 19) (name:=CY PA 19) (zt:= "text") (zst:= "stream") (nameI:=uT PA 12 0) (scopeI:=pw PA 12 0) (paramsI:=uS PA 12 0) (zs:= "self") (zp:= "fp")
  (fun h (hh:fS mg mb h)=>hh.cls) hM (fun h hh=>hh.mQ) (fun h hh=>hh.EU) (by rfl) (by decide+kernel) (by rfl) (by rfl) (by rfl) (by decide+kernel) (by decide+kernel) (fun pm cd doc u v body=>rfl) (by decide+kernel) (by rfl) (by rfl) (by rfl) (by rfl)
  (by decide+kernel) (by decide+kernel) (by rfl) (by rfl) (by rfl) (by rfl) (G.no _ (by decide)) G.mS G.f7 (by rfl) (fun env=>rfl) (fun env=>rfl) (by rfl) (by decide+kernel) (show 2<=3 by decide) (fun pm cd doc u body=>rfl)
end
structure uV(R:ct)(C fG fP:Addr)(X:Ctx)(fget:ak->Option (ak×List Nat)):Prop where
 D:∃D,D+1=X.W.D/\(∃op,sJ X.W R C D fG op/\∀b b' r,fget b=some (b',r)->op b b' r)/\Nk X.W R C D fP
 og:∀h,X.W.Wd h->∃of fd,h.get? fG=some of/\of.cls= .type "function" /\of.data= .func fd
 op:∀h,X.W.Wd h->∃of fd,h.get? fP=some of/\of.cls= .type "function" /\of.data= .func fd
section
variable{R:ct}{C N₀ fI fR fG fP:Addr}{X:Ctx}{tv dv:List Nat}{fget:ak->Option (ak×List Nat)}
noncomputable def pC(fget:ak->Option (ak×List Nat))(i:Nat):dN:=fun g=>(iF g i).bind fun vb=>(fget vb.2).map fun q=>({g with β:=some (vb.1,q.1)}, .str q.2)
theorem dO.jy(Y:eN R C N₀ fI fR fG fP X)(Z:uV R C fG fP X fget){z:Str}{i:Nat}{p0 ap cp:B7}(hz:X.C.Γ.lookup z=some i)(bB:bad z=false)(aF:(ap.endLine==cp.line)=true):
  dO X tv dv true (.Call (.Attribute (.Name z p0) "get_token" ap) [] [] cp) (pC fget i):=fun K env A E s₀ g N F s g' p T e=>by
 obtain⟨⟨v,b⟩,e1,e2⟩:=fE e
 obtain⟨⟨b',r⟩,e3,e4⟩:=dk e2
 refine ao (Bf e4) fun aI aH=>?_
 subst aI
 subst aH
 refine ao (oU e1) fun bW bY=>?_
 obtain⟨x,dx,st,ds,lam,cc,cell,sg,pb,rfl,hF,L,kM⟩:=T.lex Y bY
 refine cM (Z.og _ T.pre.wd) fun of fd ho jL fW=>?_
 refine aK Y.bk fun au di=>?_
 have hb:=T.book _ b bY
 rw[di]at hb
 refine gT Z.D fun D hD jG _=>?_
 refine aD jG fun op fn eH=>?_
 refine MT (wU rfl _ env _) aF (Bp (yP T.kind (T.self hz bW) (fun pl=>DW (Y.cls _ T.pre.wd) (fun _ _ h _=>h) ho jL Sj L (by decide) ?_) (cU bB)) (wW bB))
 refine Lk fW ho (Gl (Ey (fn A s (.ref x) b b' r F (T.room.less hD) hb.2 T.Nc (eH _ _ _ e3)) fun res s' hr=>?_))
 obtain⟨t,rfl,hs,hk,fg⟩:=hr
 exact⟨N,F,[],T.sF hs hk (by rw[di];exact⟨hb.1,fg⟩), .str ..,ey.nil⟩
noncomputable def tF(U:Uc)(i:Nat)(pa:PE):Den:=fun g=>(iF g i).bind fun vb=>((ev U pa g.σ).bind PV.dg).bind fun r=>if vb.2.push.length<1000 then some ({g with β:=some (vb.1,{vb.2 with push:=vb.2.push++[r]})}, .next)else none
theorem yL.jQ(Y:eN R C N₀ fI fR fG fP X)(Z:uV R C fG fP X fget){z:Str}{i:Nat}{p0 ap cp ep:B7}{arg:Expr}{pa:PE}(hz:X.C.Γ.lookup z=some i)(bB:bad z=false)(aF:(ap.endLine==cp.line)=true)(sr:ax X.W X.C arg pa)(cn:wM arg=true):
  yL X tv dv (.Expr (.Call (.Attribute (.Name z p0) "push_token" ap) [arg] [] cp) ep) (tF X.W.U i pa):=fun K env A E s₀ g N F s g' fl T e=>by
 obtain⟨⟨v,b⟩,e1,e⟩:=fE e
 refine oB e fun r e2 e=>?_
 refine oB e2 fun p e2 ep=>?_
 obtain rfl:=PV.bJ ep
 refine oI e fun hlen e=>?_
 refine Internal.sp e ?_
 refine ao (oU e1) fun bW bY=>?_
 obtain⟨x,dx,st,ds,lam,cc,cell,sg,pb,rfl,hF,L,kM⟩:=T.lex Y bY
 refine cM (Z.op _ T.pre.wd) fun of fd ho jL fW=>?_
 refine aK Y.bk fun au di=>?_
 refine gT Z.D fun D hD _ fn=>?_
 refine Me ?_ (by unfold Ju;rw[T.kind];rfl) rfl
 refine R8 (wU rfl _ env _) aF (zI cn [] env) (Bp (yP T.kind (T.self hz bW) (fun pl=>DW (Y.cls _ T.pre.wd) (fun _ _ _ h=>h) ho jL zJd L (by decide) ?_) (cU bB)) (wW bB))
 refine R9 (zI cn [] env) fW (zM (sr env A E s g.σ (.str r) T.pre e2) fun u aa ai=>?_)
 obtain⟨k₁,ns,aG,_⟩:=ai
 have aO:=T.kg k₁
 have hb:=aO.book _ b bY
 rw[di]at hb
 refine aZ (wC k₁ _ _ ho) (Gl (Ey (fn A aa (.ref x) u b r F (aO.room.less hD) hb.2 (aG.bO rfl) aO.Nc hlen) fun res s' hr=>?_))
 refine ri hr fun aI hs hk fg=>?_
 clear hr
 subst aI
 exact⟨rfl,N,F,aO.sF hs hk (by rw[di];exact⟨hb.1,fg⟩)⟩
noncomputable def pD(fget:ak->Option (ak×List Nat)):Nat->ak->Option (ak×List (List Nat))
 |0,b=>some (b,[])
 |n+1,b=>(fget b).bind fun q=>(pD fget n q.1).map fun t=>(t.1,q.2::t.2)
theorem T6:∀{n:Nat} {b b':ak} {ws:List (List Nat)},pD fget n b=some (b',ws)->∃bs:Nat->ak,bs 0=b/\bs n=b'/\ws.length=n/\∀i,i<n->∃r,ws[i]?=some r/\fget (bs i)=some (bs (i+1),r)
 |0,b,b',ws,e=>Internal.sp (M:=fun b' ws=>∃bs:Nat->ak,bs 0=b/\bs 0=b'/\ws.length=0/\∀i,i<0->∃r,ws[i]?=some r/\fget (bs i)=some (bs (i+1),r)) e ⟨fun _=>b,rfl,rfl,rfl,fun i h=>absurd h (Fe i)⟩
 |n+1,b,b',ws,e=>by
  obtain⟨⟨tG,r⟩,e1,e2⟩:=fE e
  obtain⟨⟨tH,t⟩,e3,e4⟩:=dk e2
  refine ao (Bf e4) fun aI aH=>?_
  subst aI
  subst aH
  refine iQ (T6 e3) fun bs h0 hn hl hs=>?_
  refine vC (fun i=>Nat.casesOn i b bs) rfl hn (congrArg (· +1) hl) (fun i hi=>?_)
  cases i with
  |zero=>exact⟨r,rfl,by refine(?_:fget b=some (bs 0,r));rw[h0];exact e1⟩
  |succ i=>exact hs i (De hi)
theorem zQi{kn:List (Str×Cy)}{sc:List (Str×Cy)}{x:Str}(h:sc.lookup x=some .free):(gU kn sc).lookup x=some .cell\/(gU kn sc).lookup x=some .free:=by
 induction sc with
 |nil=>exact nn h
 |cons z r ih=>
  obtain⟨n,k₁⟩:=z
  refine(?_:E0 x ((if(k₁== .free&&kn.lookup n==some .cell)=true then(n,Cq)else(n,k₁))::gU kn r)=_\/E0 x ((if(k₁== .free&&kn.lookup n==some .cell)=true then(n,Cq)else(n,k₁))::gU kn r)=_)
  rw[A8]at h
  cases hc:(k₁== .free&&kn.lookup n==some .cell)with
  |true=>
   refine af (if_pos rfl) ?_
   refine af A8 ?_
   cases hx:x==n with
   |true=>exact .inl rfl
   |false=>rw[hx]at h;exact ih h
  |false=>
   refine af (if_neg Ce) ?_
   refine af A8 ?_
   cases hx:x==n with
   |true=>rw[hx]at h;exact .inr h
   |false=>rw[hx]at h;exact ih h
noncomputable def FN(fget:ak->Option (ak×List Nat))(i:Nat)(src:Sg->Option (List (List PV))):dN:=fun g=>(src g).bind fun its=>if its.length<=ag then(iF g i).bind fun vb=>(pD fget its.length vb.2).map fun q=>({g with β:=some (vb.1,q.1)}, .list (q.2.map PV.str))else none
structure AF(R:ct)(C x:Addr)(F:List Addr)(s:Ab)(b:ak)(h:As):Prop where
 l:kL R C (.ref x) b F h
 k:∀a o,a∉F->s.heap.get? a=some o->h.get? a=some o
inductive T7(R:ct)(C x:Addr)(F:List Addr)(s:Ab)(b:ak)(r:List Nat)(s':Ab)(v:Value)(bC:Ab):Prop
 |mk (rv:VR bC.heap (.str r) v []) (sm:wJ s' bC) (k:∀b o,b∉F->s'.heap.get? b=some o->bC.heap.get? b=some o) (j:AF R C x F s b bC.heap):T7 R C x F s b r s' v bC
theorem AF.keep{K:Addr->Option Obj}{env:Ea}{A:Am}{s₀ s:Ab}{g:Sg}{N:Nat->List Addr}{F:List Addr}{x:Addr}{b:ak}{h:As}(T:aw X tv dv K env A s₀ g N F s)(J:AF R C x F s b h)(a:Addr)(o:Obj)(e:K a=some o):h.get? a=some o:=J.k a o (fun q=>nn ((T.foot a q).1.symm.trans e)) (T.kept a o e)
theorem yAp(Y:eN R C N₀ fI fR fG fP X)(Z:uV R C fG fP X fget){z:Str}{p0 ap cp:B7}{scope:Scope}{cl:List (Str×Addr)}{c x L':Addr}{K:Addr->Option Obj}{env:Ea}{A:Am}{E:Value->Ab->Prop}{s₀ s s':Ab}{g:Sg}{N:Nat->List Addr}{F:List Addr}{b b':ak}{r:List Nat}
  (T:aw X tv dv K env A s₀ g N F s) (bB:bad z=false) (aF:(ap.endLine==cp.line)=true) (hk:scope.kind= .function) (FO:scope.names.lookup z=some .free) (dm:cl.lookup z=some c) (Ou:s.heap.IsCell c (some (.ref x))) (v5:c∉F) (J:AF R C x F s b s'.heap) (hf:fget b=some (b',r)):
  An (Aj X.W.prog X.W.w) A (eval (.Call (.Attribute (.Name z p0) "get_token" ap) [] [] cp) (Dy scope cl L' env)) (T7 R C x F s b' r s') E s':=by
 have T8:X.W.Wd s'.heap:=T.ei _ (J.keep T)
 obtain⟨x',dx',nA,ds',aaf,cc',T9,sg',pb',DQ,Ua,La⟩:=id J.l
 obtain rfl:=Gr DQ
 refine cM (Z.og _ T8) fun of fd ho jL fW=>?_
 refine gT Z.D fun D hD jG _=>?_
 refine aD jG fun op fn eH=>?_
 have Ub:(Dy scope cl L' env).kindOf z=some .cell\/(Dy scope cl L' env).kindOf z=some .free:=by
  refine(?_:(Fz scope env).names.lookup z=_\/(Fz scope env).names.lookup z=_)
  rw[R5 T.kind]
  exact zQi FO
 refine MT (wU rfl _ _ _) aF (Bp (yP (show(Fz scope env).kind=_ from hk) (.inr ⟨Ub,c,dm,Ou.elim fun o e=>⟨o,J.k c o v5 e.1,e.2⟩⟩) (fun pl=>DW (Y.cls _ T8) (fun _ _ h _=>h) ho jL Sj La (by decide) ?_) (cU bB)) (wW bB))
 refine Lk fW ho (Gl (Ey (fn A s' (.ref x) b b' r F (T.room.less hD) J.l (fun h hh=>T.ei h fun b o e=>hh b o (fun q=>nn ((T.foot b q).1.symm.trans e)) (J.keep T b o e)) (eH _ _ _ hf)) fun res bC hr=>?_))
 obtain⟨t,rfl,dt,qF,fg⟩:=hr
 exact⟨.str _ _,dt,qF,fg,fun a o ha e=>qF a o ha (J.k a o ha e)⟩
noncomputable def qn(s:Ab):List Addr:=(Ae s.heap.objs.size).filter fun a=>(s.heap.get? a).isSome
theorem Ov{s:Ab}{a:Addr}{o:Obj}(e:s.heap.get? a=some o):a∈qn s:=Iw.mpr ⟨Bg.mpr (Bo e),by rw[e];rfl⟩
theorem Ud{s:Ab}{a:Addr}(h:a∈qn s):∃o,s.heap.get? a=some o:=Ef.mp (Iw.mp h).2
theorem dO.pE(Y:eN R C N₀ fI fR fG fP X)(Z:uV R C fG fP X fget){z xv:Str}{i:Nat}{p0 ap cp px pos:B7}{iter:Expr}{scope:Scope}{src:Sg->Option (List (List PV))}(jf:iT X tv dv (.Name xv px) [xv] iter src)
  (hz:X.C.Γ.lookup z=some i) (Ue:X.C.kn.lookup z=some .cell) (bB:bad z=false) (aF:(ap.endLine==cp.line)=true)
  (hk:scope.kind= .function) (hl:scope.names.lookup xv=some .local) (FO:scope.names.lookup z=some .free)
  (hc:scope.names.all (fun y=>y.2 != .cell&&(y.2 != .local||scope.names.lookup y.1==some .local)&&(y.2 != .free||X.C.kn.lookup y.1==some .cell))=true) (hs:∀env x,Ej iter env x=Pure.pure x):
  dO X tv dv true (.ListComp (.Call (.Attribute (.Name z p0) "get_token" ap) [] [] cp) [⟨.Name xv px,iter,[],0⟩] scope pos) (FN fget i src):=fun K env A E s₀ g N F s g' p T e=>by
 refine oB e fun its e1 e2=>?_
 refine oI e2 fun hsz e2=>?_
 obtain⟨⟨v,b⟩,e3,e4⟩:=fE e2
 obtain⟨⟨b',ws⟩,e5,e6⟩:=dk e4
 refine ao (Bf e6) fun aI aH=>?_
 subst aI
 subst aH
 refine ao (oU e3) fun bW bY=>?_
 refine iQ (T6 e5) fun bs uz hbn uW Ow=>?_
 obtain⟨x,dx,st,ds,lam,cc,cell,sg,pb,rfl,hF,L,kM⟩:=T.lex Y bY
 refine aK Y.bk fun au di=>?_
 have hb:=T.book _ b bY
 rw[di]at hb
 have hc:=fun y hy=>b2 (Al.mp hc y hy)
 obtain⟨cl,fk,dm⟩:=CF (scope:=scope) (env:=env) fun y hy hf=>by
  have h:=(hc y hy).2
  rw[hf]at h
  exact T.eI _ _ (eq_of_beq h) (.inl rfl)
 refine aK (T.eI z _ Ue (.inl rfl)) fun c rH=>?_
 have Ou:s.heap.IsCell c (some (.ref x)):=by
  rcases T.self hz bW with⟨h,_⟩|⟨_,d,hd,hv⟩
  ·rw[show env.kindOf z=some .cell by unfold Be;rw[T.names];exact Ue]at h;cases h
  ·exact Aa (hd.symm.trans rH)▸hv
 unfold QI;refine af (L4 ..) ?_
 refine Fw (use:=none) rfl (hs env) fk hk (fun y hy e=>by
   have h:=(b2 (hc y hy).1).2
   rw[e]at h
   exact eq_of_beq h) (zM (jf K env A E s₀ g N F s its T e1) fun xv' aa ai=>zM ai fun it s₂ aj=>?_)
 obtain⟨I,fp,wr,St,rfl,k,eJ,cZ,Yt,sti,hF'⟩:=aj
 have up:=wC k
 refine R1 (G:=qn s) (F:=F) (ps:=ws.map PV.str) (J:=fun i h=>AF R C x F s (bs i) h)
  (RR:=fun acc L=>compPost (Aj X.W.prog X.W.w) A E none (PX X tv dv K env A s₀ {g with β:=some (.ref x,b')} (.list (ws.map PV.str)) true) acc L)
  hk rfl (fa hl gD) (fun y hy q=>by
   have h:=(b2 (hc y hy).1).1
   rw[q]at h;exact ft h) cZ Yt sti hsz (fun a ha=>(Ud ha).elim fun o e=>⟨o,up a o e⟩) (fun a ha=>(T.foot a ha).2.1.elim fun o e=>Ov e) (fun a ha hm=>wO (Ud hm) (eJ a ha) rfl) (T.jK hF').f
  (fun i h h' j qF=>⟨j.l.frame fun a ha o e=>qF a ((T.foot a ha).2.1.elim fun o e=>Ov e) o e,fun a o ha e=>qF a (Ov e) o (j.k a o ha e)⟩) ⟨by refine af uz ?_;exact hb.2.frame fun a _ o e=>up a o e,fun a o _ e=>up a o e⟩ (by(refine af (Az ..) ?_;exact af uW rfl)) (fun i it p L' s' m' E' hit hp J hn=>?_) fun D' L' s' m' hL hDn MS dM Ug hn hr J=>?_
 ·refine aD (Ow i (Ba.mp hit).1) fun r hr1 uC=>?_
  rw[Ay,hr1]at hp
  refine zM (yAp Y Z T bB aF hk FO (dm z c rH (yO FO)) Ou (fun h=>(T.foot c h).2.2.2.2 z c rH rfl) J uC) fun v bC h=>?_
  obtain⟨h1,h2,h3,h4⟩:=h
  exact⟨so hp h1,h2,h3,h4⟩
 ·have hJ1:=hbn▸J.l
  have nL:∀a o,s.heap.get? a=some o->a≠L':=fun a o e q=>nn (hL.symm.trans (q▸up a o e))
  refine⟨m',hn,fun h' dt=>⟨N,F,[D'],T.sF (s':={s' with heap:=h'}) ((((wJ.refl s).kg k).trans dM).heap h' s'.toks) (fun a o ha e=>dt.extBut a o (nL a o e) (J.k a o ha e)) (v:= .ref x) (b':=b') (by
   refine af di ?_
   exact⟨hb.1,hJ1.frame fun a ha o e=>dt.extBut a o ((T.foot a ha).2.1.elim fun o e=>nL a o e) e⟩),hr.on fun a ha o e=>dt.extBut a o (fun q=>MS ((Af.mp ha).symm.trans q)) e,T.held ⟨C9.mpr ⟨Ar,E5⟩,fa (nv up hDn) gD⟩⟩⟩
end
section
variable{R:ct}{C N₀ fI fR fG fP:Addr}{X:Ctx}{tv dv:List Nat}{fget:ak->Option (ak×List Nat)}
noncomputable def FQ(fget:ak->Option (ak×List Nat))(i:Nat)(n:Int):Den:=fun g=>(iF g i).bind fun vb=>(fget vb.2).bind fun q=>if q.2.isEmpty&&q.1.line==n then some ({g with β:=some (vb.1,q.1)}, .next)else none
theorem yL.mV(Y:eN R C N₀ fI fR fG fP X)(Z:uV R C fG fP X fget){z:Str}{i:Nat}{n:Int}{k1 k2:Nat}{p0 ap cp p1 dY q1 q2 q3 q4 q5 q6:B7}{body:List Stmt}(hz:X.C.Γ.lookup z=some i)(bB:bad z=false)(aF:(ap.endLine==cp.line)=true):
  yL X tv dv (.If (.BoolOp .Or [.Compare (.Call (.Attribute (.Name z p0) "get_token" ap) [] [] cp) [.NotEq] [.Constant (.str "") k1 q1] q2, .Compare (.Attribute (.Name z p1) "lineno" dY) [.NotEq] [.Constant (.int n) k2 q3] q4] q5) body [] q6) (FQ fget i n):=fun K env A E s₀ g N F s g' fl T e=>by
 obtain⟨⟨v,b⟩,e1,e2⟩:=fE e
 obtain⟨⟨b',r⟩,e3,e4⟩:=fE e2
 dsimp only at e4
 split at e4
 ·next hc=>
  simp only[Ao,List.isEmpty_iff,beq_iff_eq]at hc
  refine ao hc fun aI aH=>?_
  clear hc
  subst aI
  subst aH
  refine ao (Bf (Aa e4)) fun aI aH=>?_
  subst aI
  subst aH
  refine ao (oU e1) fun bW bY=>?_
  have e0:pC fget i g=some ({g with β:=some (v,b')}, .str []):=by
   refine(?_:(iF g i).bind _=_)
   refine af e1 ?_
   refine(?_:(fget b).map _=_)
   refine af e3 ?_;rfl
  refine wpAny_If (I3 (H9 (Gv (zM (dO.jy (tv:=tv) (dv:=dv) Y Z hz bB aF K env A E s₀ g N F s _ _ T e0) fun u aa ai=>?_) rfl)))
  obtain⟨N',F',ms,aO,aG,_⟩:=ai
  refine E7 (zM (vJ (op:= .NotEq) (x:= .str []) (y:= .str []) (b:=false) (dI aa _) (aG.sub fun _ _ e=>e) (.str [] _) (vM aO.room) rfl) fun MC s₂ aj=>?_)
  refine ao aj fun aI k₂=>?_
  clear aj
  subst aI
  refine Gw ?_
  have ay:=aO.kg k₂
  have tI:({g with β:=some (v,b')}:Sg).β=some (v,b'):=rfl
  obtain⟨x,dx,st,ds,lam,cc,cell,sg,pb,rfl,hF,L,kM⟩:=ay.lex Y tI
  refine H9 (Gv (Gj (Bp (yP ay.kind (ay.self hz bW) (Sl L (Y.cls _ ay.pre.wd) fun t=>E6 ?_) (cU bB)) (wW bB))) rfl)
  refine zM (vJ (op:= .NotEq) (x:= .int b'.line) (y:= .int b'.line) (b:=false) (dI s₂ _) (.int _ _) (.int _ _) (vM ay.room) (by simp[ug,vEq,PV.int?])) fun MF av aE=>?_
  refine ao aE fun aI bZ=>?_
  clear aE
  subst aI
  refine Gw (wpAny_allTrue_Or_nil ?_)
  exact Em ⟨rfl,N',F',ay.kg bZ⟩
 ·exact nn e4
theorem yAa{K:Addr->Option Obj}{env:Ea}{A:Am}{s₀ s:Ab}{g:Sg}{N:Nat->List Addr}{F:List Addr}{P fM:Addr}{W:bP}{Cx₀:Cx}{E:Value->Ab->Prop}{Q:Mp->Ab->Prop}
  (T:aw ⟨W,uL P #[],Cx₀⟩ tv dv K env A s₀ g N F s) (bY:g.β=some (.none,gL)) {D:Nat} (hD:D+1=W.D) (fn:EI W R C D fM P) {zb zm zs:Str} {i j:Nat} {text:List Nat} {p1 p2 p3 cp ap:B7}
  (hb:Cx₀.Γ.lookup zb=some i) (hi:i∉tv/\i∉dv) (hm:Cx₀.kn.lookup zm=some .globalImplicit) (Ox:bad zm=false) (hg:W.mg zm=some (.ref fM)) (ho:∀h,W.Wd h->∃o fd,h.get? fM=some o/\o.data= .func fd)
  (hs:Cx₀.Γ.lookup zs=some j) (iC:bad zs=false) (bW:g.σ[j]?=some (some (.str text))) (hlen:text.length<=ag) (tJ:∀x c,env.cells.lookup x=some c->Cx₀.kn.lookup x=some .cell)
  (h:∀v F' ps K' N' s',aw ⟨W,fA R C F',Cx₀⟩ tv dv K' env A s₀ {g.set i (.obj v)with β:=some (v,⟨text,1,[]⟩)} N' F' s'->(∀b o,K b=some o->K' b=some o)->K' P=some (Hq ps)->Q .next s'):
  An (Aj W.prog W.w) A (exec (.Assign [.Name zb p1] (.Call (.Name zm p2) [.Name zs p3] [] cp) ap) env) Q E s:=by
 have T:=T
 refine ao (T.book _ _ bY) fun aI hP=>?_
 subst aI
 refine eu (ho _ T.pre.wd) fun o fd hof fW=>?_
 obtain⟨u,acc,ru⟩:=T.rd zs j _ hs bW
 refine H6 ?_ rfl
 refine Fg rfl ?_
 refine Bb T.kind (by unfold Be;refine af T.names ?_;exact hm) (D4 (mg:=W.mg) ?_ hg ?_) (wW Ox)
 ·refine af T.gl ?_;exact W.g T.pre.wd
 refine callWith_def fW ?_ (zI rfl [] env)
 refine af (zI rfl [] env) ?_
 refine Bi (Bp (yP T.kind acc (B4 ?_) (cU iC)) (wW iC))
 have aO:=T.kg (dI s (s.toks+1))
 refine aZ hof (Gl (Ey (fn A _ u text (T.room.less hD) (DA ru rfl) hP hlen (fun h hh=>T.ei h fun b o e=>hh b o (fun q=>by rw[(T.foot b q).1]at e;exact nn e) (T.kept b o e))) fun res s' hr=>?_))
 obtain⟨v,F',ps,rfl,dM,Ug,mM,AG,kI⟩:=hr
 have TA:=(T.js (BK:=o7 P) (β:=some (.none,gL)) fun v b e=>⟨rfl,_,hP⟩)
 have TB:=TA.sF (s':=s') (v:= .none) (b':=gL) (((wJ.refl s).heap s.heap _).trans dM) (fun a o ha e=>Ug a o (fun q=>ha (by refine af q ?_;exact Bn P)) e) ⟨rfl,_,mM⟩
 have foot:=T.foot P (Bn P)
 have TC:=(TB.js (BK:=fA R C F') (β:=none) fun v b e=>by exact nn e).r3 rfl
 have TD:=TC.freeze (fp:=[P])
  {loc:=fun hm=>foot.2.2.2.1 (Af.mp hm).symm
   cls:=fun x c e1 e2 hm=>foot.2.2.2.2 x c e2 (Af.mp hm).symm
   f:=fun a ha=>nomatch ha
   t:=fun k hk a r e hm=>foot.2.2.1 k (by(refine af e ?_;refine af (Af.mp hm) ?_);exact Ag ..)
   d:=fun k hk a ha hm=>foot.2.2.1 k (by refine cu (Af.mp hm) ?_;exact ha)}
 have old:∀a,(∃o,s.heap.get? a=some o)->a∉F':=fun a ⟨o,e⟩ hm=>by rw[kI a hm]at e;exact nn e
 have Oe:∀a∈F',a≠P:=fun a ha q=>old P ⟨_,hP⟩ (q▸ha)
 have TE:aw ⟨W,fA R C F',Cx₀⟩ tv dv (oA K [P] s'.heap) env A s₀ {g with β:=some (v,⟨text,1,[]⟩)} N F' s':=
  {TD with
   book:=fun u b e=>by obtain⟨rfl,rfl⟩:=Bf (Aa e);exact⟨rfl,AG⟩
   foot:=fun a ha=>by
    refine vB ?_ (AG.cg a ha) (fun k hk=>?_) (fun q=>?_) (fun x c e q=>?_)
    ·rw[jj (fun hm=>Oe a ha (Af.mp hm))]
     cases q:K a with
     |none=>rfl
     |some o=>exact absurd ha (old a ⟨o,T.kept a o q⟩)
    ·refine fU (T.nd k a hk) fun _ _ e=>?_
     exact old a ⟨_,e⟩ ha
    ·refine ua T.loc fun m o es ep e1 _=>?_
     exact old a ⟨o,q▸e1⟩ ha
    ·refine ao (T.cls x c (tJ x c e) e) fun bq _=>?_
     refine eu bq fun w' o e1 _=>?_
     exact old a ⟨o,q▸e1⟩ ha}
 refine zM (TE.store hb (.obj v) (ey.nil (own:=true)) (.inl rfl)) fun _ s₂ ay=>?_
 refine h v F' ps _ _ s₂ ay (fun b o e=>?_) ((lz (Bn P)).trans mM)
 rw[jj (fun hm=>by rw[Af.mp hm,foot.1]at e;exact nn e)];exact e
end
noncomputable def Oy:PS:=(.assign 32 (.me 3 (.var 6) (.cons (.bS (.var 30) (.yes (.neg (.lit (.int 4)))) .no .no) .nil)))
noncomputable def uX:PS:=(.ifs (.cmp .GtE (.bin .Mult (.lit (.int 2)) (.me 2 (.var 30) (.cons (.lit (.str [46])) .nil))) (.bi 1 (.cons (.var 19) .nil))) (.cons .brk .nil) .nil)
noncomputable def Oz:PS:=(.assign 33 (.cmp .Eq (.idx (.idx (.var 20) (.var 32)) (.me 3 (.var 6) (.cons (.bS (.var 24) (.yes (.neg (.lit (.int 4)))) .no .no) .nil))) (.lit (.int 1))))
noncomputable def FR:PE:=(.ite (.eT (.var 33)) (.bin .Add (.bin .Mult (.lit (.str [46])) (.me 2 (.var 30) (.cons (.lit (.str [46])) .nil))) (.var 24)) (.var 24))
noncomputable def OA:PE:=(.bin .Sub (.lit (.int 4)) (.var 31))
noncomputable def Hs(tv dv:List Nat)(st:Stmt)(q:PS):Prop:=∀X:Ctx,X.C=aR 20->cR X.W br->yL X tv dv st (den X.W.U q)
theorem Hs.mk{tv dv:List Nat}{st:Stmt}{q:PS}(h:(cS (tab:=br) (cE 24) (aR 20) tv dv 12 st).isSome=true)(e:(cS (tab:=br) (cE 24) (aR 20) tv dv 12 st).elim .pass (·.1)=q):Hs tv dv st q:=fun X hX ok=>iL h e X hX ok
theorem yAb:Hs [] [20] ((xZ PA 20)[18]) Oh:=Hs.mk (by decide+kernel) rfl
theorem yBz:Hs [] [20] ((xZ PA 20)[20]) Oi:=Hs.mk (by decide+kernel) rfl
theorem zZf:Hs [] [20] ((xZ PA 20)[21]) Oj:=Hs.mk (by decide+kernel) rfl
theorem yBy:Hs [] [20] ((xZ PA 20)[22]) tE:=Hs.mk (by decide+kernel) rfl
theorem zYt:Hs [] [] ((xZ PA 20)[25]) Ol:=Hs.mk (by decide+kernel) rfl
theorem zYh:Hs [] [] ((xZ PA 20)[26]) Om:=Hs.mk (by decide+kernel) rfl
theorem yBe:Hs [] [] ((xZ PA 20)[27]) Oo:=Hs.mk (by decide+kernel) rfl
theorem zYa:Hs [] [] ((xZ PA 20)[28]) Oq:=Hs.mk (by decide+kernel) rfl
noncomputable def lA:dD:= .cons l0 (.cons l1 (.cons l2 (.cons l3 (.cons l4 (.cons l5 (.cons l6 (.cons l7 (.cons l8 (.cons l9 (.cons TY (.cons TZ (.cons T1 (.cons tD (.cons T2 (.cons T3 (.nil))))))))))))))))
noncomputable def Uh(U:Uc):Den:=yN U lA
noncomputable def OC(fget:ak->Option (ak×List Nat)):Den:=wQ 18 (FN fget 17 fun g=>((g.σ[7]?).bind id).bind j9)
noncomputable def OD(U:Uc):Den:=nE (fun g=>((g.σ[18]?).bind id).bind j9) [30] (yT (tF U 17 (.var 30)) aA)
noncomputable def AH(U:Uc)(fget:ak->Option (ak×List Nat)):Den:=nE (fun g=>gz U (.cv OA) g.σ) [9] (yT (wQ 24 (pC fget 17)) (yT (den U Oz) (yT (tF U 17 FR) aA)))
noncomputable def FT(U:Uc)(fget:ak->Option (ak×List Nat)):Den:=nE (fun g=>gz U (.cv (.lit (.int 5))) g.σ) [31] (yT (wQ 30 (pC fget 17)) (yT (den U Oy) (yT (den U uX) (yT (AH U fget) aA))))
noncomputable def OE(U:Uc)(fget:ak->Option (ak×List Nat)):Den:=yT (OC fget) (yT (den U Oh) (yT (FQ fget 17 6) (yT (den U Oi) (yT (den U Oj) (yT (den U tE) (yT (OD U) (yT (FT U fget) (yT (den U Ol) (yT (den U Om) (yT (den U Oo) (yT (den U Oq) aA)))))))))))
theorem OF(x:Str):(aR 20).kn.lookup x≠some .free:=Ot 20 (by decide+kernel) x
section
variable{mg mb:Str->Option Value}(w:Cn)(G:GA mg mb)
theorem uY{fget:ak->Option (ak×List Nat)}(eH:∀b b' r,fget b=some (b',r)->iV (W3 w G).U b b' r)(BK:rG):uV gN 104 94 101 ⟨W5 w G,BK,aR 20⟩ fget where
 D:=⟨4,rfl,⟨_,yHh w G,eH⟩,yGu w G⟩
 og:=fun h (hh:fS mg mb h)=>by
  obtain⟨o,pm,cd,doc,e1,e2,e3,_⟩:=hh.z6
  exact nt o _ e1 e2 e3
 op:=fun h (hh:fS mg mb h)=>by
  obtain⟨o,pm,cd,doc,e1,e2,e3,_⟩:=hh.mR
  exact nt o _ e1 e2 e3
end
section
variable{mg mb:Str->Option Value}(w:Cn)(G:GA mg mb)
noncomputable abbrev XL(au:List Addr):Ctx:=⟨W5 w G,fA gN 104 au,aR 20⟩
theorem uZ(au:List Addr):eN gN 104 103 80 87 94 101 (XL w G au):=FL (W:=W5 w G) (fun _ x=>x) (aR 20) au
variable{fget:ak->Option (ak×List Nat)}(eH:∀b b' r,fget b=some (b',r)->iV (W3 w G).U b b' r)(au:List Addr)
include eH
theorem zZz:yL (XL w G au) [] [20] ((xZ PA 20)[17]) (OC fget):=by
 refine yL.assign (X:=XL w G au) (x:= "words") (by rfl) (.inl rfl) (dO.pE (X:=XL w G au) (xv:= "v") (z:= "book") (uZ w G au) (uY w G eH _) (iT.name (X:=XL w G au) (by rfl) (by rfl) (by rfl) (by decide+kernel) (by decide+kernel)) (by rfl) (by rfl) (by decide+kernel) (by rfl) (by rfl) (by rfl) (by rfl) (by rfl) (fun env x=>mh rfl env x)) (fun env hn=>Rf (by unfold Be;rw[hn];rfl))
theorem yBc:yL (XL w G au) [] [20] ((xZ PA 20)[19]) (FQ fget 17 6):=by
 exact yL.mV (X:=XL w G au) (z:= "book") (uZ w G au) (uY w G eH _) (by rfl) (by decide+kernel) (by rfl)
theorem zZc:yL (XL w G au) [] [] ((xZ PA 20)[23]) (OD (W5 w G).U):=by
 refine yL.oC (X:=XL w G au) (iT.name (X:=XL w G au) (x:= "word") (y:= "words") (by rfl) (by rfl) (by rfl) (by decide+kernel) (by decide+kernel)) (.cons (by rfl) .nil) (fun k hk=>by simp) (yU.cs ?_ (yU.nil rfl rfl)) (fun env x=>mh rfl env x) OF
 exact yL.jQ (X:=XL w G au) (z:= "book") (uZ w G au) (uY w G eH _) (by rfl) (by decide+kernel) (by rfl) (kR (r:=cE 24 (aR 20) _) (by decide+kernel) rfl _ (mU G rfl)) rfl
theorem yB8:yL (XL w G au) [] [] ((xZ PA 20)[24]) (FT (W5 w G).U fget):=by
 have ok:cR (W5 w G) br:=mU G rfl
 refine yL.oC (X:=XL w G au) (iT.cv (X:=XL w G au) (x:= "step") (kR (r:=cE 24 (aR 20) _) (by decide+kernel) rfl _ ok) rfl (by rfl) (G.no _ (by decide)) G.gM (fun env=>zI rfl [] env)) (.cons (by rfl) .nil) (fun k hk=>by simp) ?_ (fun env x=>mh rfl env x) OF
 refine yU.cs (yL.assign (X:=XL w G au) (x:= "word") (by rfl) (.inl rfl) (dO.jy (X:=XL w G au) (z:= "book") (uZ w G au) (uY w G eH _) (by rfl) (by decide+kernel) (by rfl)) (fun env hn=>rfl)) (yU.cs (iL (C:=aR 20) (by decide+kernel) rfl (XL w G au) rfl ok) (yU.cs (iL (C:=aR 20) (by decide+kernel) rfl (XL w G au) rfl ok) (yU.cs ?_ (yU.nil rfl rfl))))
 refine yL.oC (X:=XL w G au) (iT.cv (X:=XL w G au) (x:= "one") (kR (r:=cE 24 (aR 20) _) (by decide+kernel) rfl _ ok) rfl (by rfl) (G.no _ (by decide)) G.gM (fun env=>zI rfl [] env)) (.cons (by rfl) .nil) (fun k hk=>by simp) ?_ (fun env x=>mh rfl env x) OF
 refine yU.cs (yL.assign (X:=XL w G au) (x:= "other") (by rfl) (.inl rfl) (dO.jy (X:=XL w G au) (z:= "book") (uZ w G au) (uY w G eH _) (by rfl) (by decide+kernel) (by rfl)) (fun env hn=>rfl)) (yU.cs (iL (C:=aR 20) (by decide+kernel) rfl (XL w G au) rfl ok) (yU.cs ?_ (yU.nil rfl rfl)))
 exact yL.jQ (X:=XL w G au) (z:= "book") (uZ w G au) (uY w G eH _) (by rfl) (by decide+kernel) (by rfl) (kR (r:=cE 24 (aR 20) _) (by decide+kernel) rfl _ ok) rfl
theorem zV3:yU (XL w G au) [] [20] [] [] ((xZ PA 20).drop 17) (OE (W5 w G).U fget):=by
 have ok:cR (W5 w G) br:=mU G rfl
 refine yU.cd (zZz w G eH au) ?_
 refine yU.cd (yAb (XL w G au) rfl ok) ?_
 refine yU.cd (yBc w G eH au) ?_
 refine yU.cd (yBz (XL w G au) rfl ok) ?_
 refine yU.cd (zZf (XL w G au) rfl ok) ?_
 refine Bc (l:=xZ PA 20) (i:=22) (by decide+kernel)▸yU.cons (tv₁:=[]) (dv₁:=[]) (yBy (XL w G au) rfl ok) ?_ rfl rfl rfl rfl
 refine yU.cd (zZc w G eH au) ?_
 refine yU.cd (yB8 w G eH au) ?_
 refine yU.cd (zYt (XL w G au) rfl ok) ?_
 refine yU.cd (zYh (XL w G au) rfl ok) ?_
 refine yU.cd (yBe (XL w G au) rfl ok) ?_
 refine yU.cd (zYa (XL w G au) rfl ok) ?_
 exact yU.nil rfl rfl
end
theorem Ui(env:Ea):∀(a b:List Stmt),G3 (a++b) env=(G3 a env>>=fun fw=>match fw with| .next=>G3 b env|fw=>pure fw)
 |[],b=>by
  refine(?_:G3 b env=(pure Flow.next>>=_))
  rw[pure_bind]
 |st::a,b=>by
  rw[Dg,execs_cons,execs_cons,bind_assoc]
  refine bind_congr fun fw=>?_
  cases fw with
  |next=>exact Ui env a b
  |_=>rw[pure_bind]
theorem yB0{X:Ctx}{tv dv tv' dv':List Nat}{K:Addr->Option Obj}{env:Ea}{A:Am}{E:Value->Ab->Prop}{s₀ s:Ab}{g g₁:Sg}{N:Nat->List Addr}{F:List Addr}{a b:List Stmt}{f:Den}{Q:Mp->Ab->Prop}
  (h1:yU X tv dv tv' dv' a f) (T:aw X tv dv K env A s₀ g N F s) (e:f g=some (g₁, .next))
  (k:∀N' F' s',aw X tv' dv' K env A s₀ g₁ N' F' s'->An (Aj X.W.prog X.W.w) A (G3 b env) Q E s'):An (Aj X.W.prog X.W.w) A (G3 (a++b) env) Q E s:=by
 rw[Ui]
 refine Ac (zM (h1 K env A E s₀ g N F s g₁ .next T e) fun fw aa ai=>?_)
 obtain⟨hf,N',F',T'⟩:=ai
 have hf:fw= .next:=hf
 subst hf
 exact k N' F' aa T'
theorem zVt(X:Ctx)(hX:X.C=aR 20)(ok:cR X.W br):yU X [5,6,7,8,13] [20] [] [20] ((xZ PA 20).take 16) (yN X.W.U lA):=
 xd (q:=lA) (d:= .nil) (r:=Rk (tab:=br) (aR 20) [20] [] ((xZ PA 20).take 16) (Ai 12 [5,6,7,8,13]++[[13]]) [5,6,7,8,13]) (by decide+kernel) rfl X hX ok
section
variable{mg mb:Str->Option Value}(w:Cn)(G:GA mg mb)
set_option maxHeartbeats 1000000 in
theorem zYc{fget:ak->Option (ak×List Nat)}(eH:∀b b' r,fget b=some (b',r)->iV (W3 w G).U b b' r){A:Am}{s:Ab}{p:PV}{v:Value}{ns:List Addr}{bx:List (Option PV)}{jz:List Nat}
  (aN:de 6 A) (fJ:∀h:As,(∀a o,a∉ [127]->s.heap.get? a=some o->h.get? a=some o)->fS mg mb h) (hf:gr PA s.heap 137 20) (hP:s.heap.get? 127=some (Hq #[]))
  (hv:VR s.heap p v ns) (cn:127∉ns)
  (hA:Uh (W5 w G).U (eB (aR 20) [p] (some (.none,gL)))=some (⟨bx,some (.none,gL)⟩, .next)) (bW:bx[16]?=some (some (.str jz))) (hlen:jz.length<=ag)
  (hB:∀u,∃g',OE (W5 w G).U fget ⟨bx.set 17 (some (.obj u)),some (u,⟨jz,1,[]⟩)⟩=some (g', .ret (.bool true))):
  Cs (Aj PA w) A (.call (.ref 137) ⟨[v],[]⟩) (fun res s'=>res= .ok (.ret (.bool true))/\wJ s s'/\(∀a o,a≠127->s.heap.get? a=some o->s'.heap.get? a=some o)/\∃ps,s'.heap.get? 127=some (Hq ps)) s:=by
 have ok:cR (W5 w G) br:=mU G rfl
 have jM:fS mg mb s.heap:=fJ _ fun a o _ e=>e
 have X0:∀X:Ctx,X=⟨W5 w G,uL 127 #[],aR 20⟩->X.C=aR 20/\cR X.W br:=fun X e=>by subst e;exact⟨rfl,ok⟩
 refine Sd (X:=⟨W5 w G,uL 127 #[],aR 20⟩) (tv:=[5,6,7,8,13]) (dv:=[20]) (scope:=mj PA 20) (xs:=Rl PA 20) (ps:=[p]) (vs:=[v]) (ns:=ns) (β:=some (.none,gL)) (K:=fZ s.heap [127]) (F:=[127]) rfl (by decide+kernel) hf jM.lim aN (fun a o e=>(yl e).2) (fun h k=>fJ h fun a o h1 h2=>k a o (kO h1 h2))
  (fun v b e=>⟨rfl,hP⟩) (fun a ha=>⟨by exact wI ha rfl,by rw[Af.mp ha];exact⟨_,hP⟩,by rw[Af.mp ha];exact cn⟩) (fun pm cd doc=>rfl) (aq.one hv) rfl (by intro i hi;simp at hi;refine(?_:1<=i);lia) fun env cd aa N qG hq fW tJ T=>?_
 have AI:∀x c,env.cells.lookup x=some c->(aR 20).kn.lookup x=some .cell:=fun x c e=>by
  have h:∀y∈(mj PA 20).names,y.2= .cell->(aR 20).kn.lookup y.1=some .cell:=by decide+kernel
  exact h _ (tJ x c e) rfl
 have eb:xZ PA 20=(xZ PA 20).take 16++((xZ PA 20)[16]::(xZ PA 20).drop 17):=rfl
 rw[eb]
 refine yB0 (zVt ⟨W5 w G,uL 127 #[],aR 20⟩ rfl ok) T hA fun N F s T=>?_
 refine Bm ?_
 refine yAa (W:=W5 w G) (Cx₀:=aR 20) (zb:= "book") (zm:= "_law_lexer") (zs:= "sent") (i:=17) (j:=16) T rfl (D:=4) rfl (mkA w G) (by rfl) (by decide) (by rfl) (by decide+kernel) G.f6 (fun h hh=>gr.obj hh.mQ) (by rfl) (by decide+kernel) bW hlen AI fun u F' ps K' N' s' T' hKK mM=>?_
 refine aK (hB u) fun g' hB=>?_
 refine zM (zV3 w G eH F' K' env _ _ _ _ _ _ _ _ _ T' hB) fun fw s₂ aj=>?_
 obtain⟨⟨r,ms,rfl,rv,_⟩,r8,kE,ay⟩:=aj
 cases rv
 exact⟨rfl,ay.same,fun a o ha e=>ay.kept a o (hKK a o (kO (fun q=>ha (Af.mp q)) e)),ps,ay.kept _ _ mM⟩
end
noncomputable def enc:List (Bool×Nat)->List Nat
 |[]=> []
 |(b,c)::r=>(if b then [92,c]else [c])++enc r
noncomputable def iW(c:Nat):Bool:=([10,9,13,32]:List Nat).contains c
noncomputable def kS(c:Nat):Prop:=iW c=false/\c≠34/\c≠92
noncomputable def nl(c:Nat)(ln:Int):Int:=if c=10 then ln+1 else ln
section
variable{U:Uc}{v it:Value}
noncomputable abbrev gS(v it:Value)(tok:List Nat)(c:Option PV)(cs:List Nat)(ln:Int):Sg:=⟨[some (.obj v),some (.str tok),some (.obj it),c],some (v,⟨cs,ln,[]⟩)⟩
theorem Uj(c:Nat)(r:List Nat)(ln:Int):gp ⟨c::r,ln,[]⟩=(⟨r,nl c ln,[]⟩,[c]):=by
 unfold gp nl
 by_cases h:c=10
 ·subst h;rfl
 ·have:(([c]:List Nat)==[10])=false:=by simp[h]
  simp[h]
theorem tK{out:Bool}{f:Den}{n:Nat}{tok:List Nat}{p:Option PV}{c:Nat}{r:List Nat}{ln:Int}:fQ out v 3 f (n+1) (gS v it tok p (c::r) ln)=
  (f (gS v it tok (some (.str [c])) r (nl c ln))).bind fun q=>match q with
   |(g', .next)=>fQ out v 3 f n g'
   |(g', .cont)=>fQ out v 3 f n g'
   |(g', .brk)=>some (g', .next)
   |(g', .ret p)=>some (g', .ret p):=by
 refine(?_:(if v==v then _ else _)=_)
 refine wI (by simp) ?_
 refine(?_:(f _).bind _=_)
 rw[Uj];rfl
theorem tL{tok:List Nat}{c:Nat}{r:List Nat}{ln:Int}:sV 0 3 (gS v it tok (some (.str [c])) r ln)=some (iW c):=by
 refine(?_:(if v==v then _ else _:Option (Value×ak)).bind _=_)
 rw[if_pos (by simp)];rfl
theorem qO{tok:List Nat}{c k:Nat}{r:List Nat}{ln:Int}:aU U (.cmp .Eq (.var 3) (.lit (.str [k]))) (gS v it tok (some (.str [c])) r ln).σ=some (c==k):=by
 refine(?_:some (([c]:List Nat)==[k])=_)
 simp
theorem g7{c:Sg->Option Bool}{f h:Den}{g:Sg}{t:Bool}(e:c g=some t):jN c f h g=if t then f g else h g:=by unfold jN;rw[e];rfl
theorem OG{tok:List Nat}{c:Nat}{r:List Nat}{ln:Int}(h:c≠92):uH 0 3 U (gS v it tok (some (.str [c])) r ln)=some (gS v it tok (some (.str [c])) r ln, .next):=by
 refine(g7 (t:=false) (qO.trans (by simpa using h))).trans ?_
 rfl
theorem OH{tok:List Nat}{c:Nat}{r:List Nat}{ln:Int}:uH 0 3 U (gS v it tok (some (.str [92])) (c::r) ln)=some (gS v it tok (some (.str [c])) r (nl c ln), .next):=by
 refine(g7 (t:=true) qO).trans ?_
 refine(?_:(yT (wQ 3 (yp 0)) aA _)=_)
 have:yp 0 (gS v it tok (some (.str [92])) (c::r) ln)=some (gS v it tok (some (.str [92])) r (nl c ln), .str [c]):=by
  refine(?_:G6 _ (if v==v then _ else _:Option (Value×ak))=_)
  rw[if_pos (by simp)]
  simp only[D9]
  rw[Uj]
 refine(?_:((wQ 3 (yp 0) _).bind _)=_)
 unfold wQ
 rw[this];rfl
theorem Uk{g:Sg}{i:Nat}{e:PE}{a b:List Nat}(hx:g.σ[i]?=some (some (.str a)))(hy:ev U e g.σ=some (.str b))(hs:a.length+b.length<=ag):ou U .Add i e g=some (g.set i (.str (a++b)), .next):=by
 unfold ou
 rw[hx]
 refine(?_:(ev U e g.σ).bind _=_)
 rw[hy]
 refine(?_:(if a.length+b.length<=ag then some (PV.str (a++b))else none:Option PV).map _=_)
 rw[if_pos hs]
 rfl
theorem FU{tok:List Nat}{c:Nat}{r:List Nat}{ln:Int}(h:tok.length+1<=ag):DY U 1 3 (gS v it tok (some (.str [c])) r ln)=some (gS v it (tok++[c]) (some (.str [c])) r ln, .next):=by
 refine(?_:(ou U .Add 1 (.var 3) _).bind _=_)
 rw[Uk (a:=tok) (b:=[c]) rfl rfl h];rfl
theorem zN{f h:Den}{g g₁:Sg}(e:f g=some (g₁, .next)):yT f h g=h g₁:=by unfold yT;rw[e];rfl
theorem wE{f h:Den}{g g₁:Sg}{p:PV}(e:f g=some (g₁, .ret p)):yT f h g=some (g₁, .ret p):=by unfold yT;rw[e];rfl
theorem zU0{f h:Den}{g g₁:Sg}(e:f g=some (g₁, .cont)):yT f h g=some (g₁, .cont):=by unfold yT;rw[e];rfl
theorem zZd{f h:Den}{g g₁:Sg}(e:f g=some (g₁, .brk)):yT f h g=some (g₁, .brk):=by unfold yT;rw[e];rfl
theorem zXa{tok:List Nat}{b:Bool}{c:Nat}{r:List Nat}{ln:Int}(hc:kS c)(h:tok.length+1<=ag):
  ∃p,qC U 0 1 3 (gS v it tok (some (.str [if b then 92 else c])) (if b then c::r else r) ln)=some (gS v it (tok++[c]) p r ln, .next):=by
 have n0:∀ln,nl c ln=ln:=fun ln=>by unfold nl;rw[if_neg];rintro rfl;exact absurd hc.1 (by decide)
 refine bU (some (.str [c])) ?_
 unfold qC
 cases b with
 |false=>
  simp only[Cu,if_false]
  rw[zN (g₁:=gS v it tok (some (.str [c])) r ln)]
  ·exact FU h
  ·unfold jN
   rw[tL,hc.1]
   exact zN (OG hc.2.2)
 |true=>
  simp only[if_true]
  rw[zN (g₁:=gS v it tok (some (.str [c])) r ln)]
  ·exact FU h
  ·unfold jN
   rw[tL,show iW 92=false from rfl]
   refine(zN (OH)).trans ?_
   rw[n0];rfl
theorem zXj{tok:List Nat}{b:Bool}{c:Nat}{r:List Nat}{ln:Int}(hc:kS c)(h:tok.length+1<=ag):
  ∃p,sY U 0 1 3 (gS v it tok (some (.str [if b then 92 else c])) (if b then c::r else r) ln)=some (gS v it (tok++[c]) p r ln, .next):=by
 have n0:∀ln,nl c ln=ln:=fun ln=>by unfold nl;rw[if_neg];rintro rfl;exact absurd hc.1 (by decide)
 refine bU (some (.str [c])) ?_
 unfold sY
 cases b with
 |false=>
  simp only[Cu,if_false]
  rw[zN (g₁:=gS v it tok (some (.str [c])) r ln)]
  ·exact FU h
  ·refine(g7 (t:=false) (qO.trans (by simpa using hc.2.1))).trans ?_
   exact zN (OG hc.2.2)
 |true=>
  simp only[if_true]
  rw[zN (g₁:=gS v it tok (some (.str [c])) r ln)]
  ·exact FU h
  ·refine(g7 (t:=false) qO).trans ?_
   refine(zN (OH)).trans ?_
   rw[n0];rfl
theorem OI(b:Bool)(c:Nat)(l:List (Bool×Nat))(r:List Nat):enc ((b,c)::l)++r=(if b then 92 else c)::(if b then c::(enc l++r)else enc l++r):=by
 cases b<;>simp[enc]
theorem OJ(b:Bool){c:Nat}(hc:kS c)(ln:Int):nl (if b then 92 else c) ln=ln:=by
 unfold nl;rw[if_neg];cases b with
 |true=>simp
 |false=>simp only[Cu,if_false];rintro rfl;exact absurd hc.1 (by decide)
theorem Ul{w:Nat}(hw:iW w=true){rest:List Nat}:∀(l:List (Bool×Nat)) (tok:List Nat) (p:Option PV) (ln:Int) (n:Nat),(∀q∈l,kS q.2)->tok.length+l.length<=ag->l.length<n->
  ∃p',fQ false v 3 (qC U 0 1 3) n (gS v it tok p (enc l++w::rest) ln)=some (gS v it (tok++l.map (·.2)) p' rest (nl w ln), .ret (.str (tok++l.map (·.2))))
 |[],tok,p,ln,n+1,_,_,_=>by
  refine bU (some (.str [w])) ?_
  refine(?_:fQ false v 3 (qC U 0 1 3) (n+1) (gS v it tok p (w::rest) ln)=_)
  rw[tK]
  have:qC U 0 1 3 (gS v it tok (some (.str [w])) rest (nl w ln))=some (gS v it tok (some (.str [w])) rest (nl w ln), .ret (.str tok)):=by
   refine wE ?_
   unfold jN
   rw[tL,hw];rfl
  rw[this]
  simp
 |(b,c)::l,tok,p,ln,n+1,hg,hs,hn=>by
  have hc:=hg (b,c) (Ag ..)
  rw[OI,tK,OJ b hc]
  simp only[Bl]at hs hn
  refine aK (zXa (U:=U) (v:=v) (it:=it) (tok:=tok) (b:=b) (c:=c) (r:=enc l++w::rest) (ln:=ln) hc (by exact xO)) fun iM dU=>?_
  rw[dU]
  obtain⟨jA,dG⟩:=Ul hw l (tok++[c]) iM ln n (fun q hq=>hg q (Ad _ hq)) (by simp;exact zY) (by exact De ‹_›)
  refine bU jA ?_
  refine(?_:fQ false v 3 (qC U 0 1 3) n _=_)
  rw[dG];simp
theorem Um{rest:List Nat}:∀(l:List (Bool×Nat)) (tok:List Nat) (p:Option PV) (ln:Int) (n:Nat),(∀q∈l,kS q.2)->tok.length+l.length<=ag->l.length<n->
  ∃p',fQ false v 3 (sY U 0 1 3) n (gS v it tok p (enc l++34::rest) ln)=some (gS v it (tok++l.map (·.2)) p' rest ln, .ret (.str (tok++l.map (·.2))))
 |[],tok,p,ln,n+1,_,_,_=>by
  refine bU (some (.str [34])) ?_
  refine(?_:fQ false v 3 (sY U 0 1 3) (n+1) (gS v it tok p (34::rest) ln)=_)
  rw[tK]
  have:sY U 0 1 3 (gS v it tok (some (.str [34])) rest (nl 34 ln))=some (gS v it tok (some (.str [34])) rest (nl 34 ln), .ret (.str tok)):=by
   refine wE ?_
   exact(g7 (t:=true) qO).trans rfl
  rw[this]
  simp[nl]
 |(b,c)::l,tok,p,ln,n+1,hg,hs,hn=>by
  have hc:=hg (b,c) (Ag ..)
  rw[OI,tK,OJ b hc]
  simp only[Bl]at hs hn
  refine aK (zXj (U:=U) (v:=v) (it:=it) (tok:=tok) (b:=b) (c:=c) (r:=enc l++34::rest) (ln:=ln) hc (by exact xO)) fun iM dU=>?_
  rw[dU]
  obtain⟨jA,dG⟩:=Um l (tok++[c]) iM ln n (fun q hq=>hg q (Ad _ hq)) (by simp;exact zY) (by exact De ‹_›)
  refine bU jA ?_
  refine(?_:fQ false v 3 (sY U 0 1 3) n _=_)
  rw[dG];simp
theorem FV{out:Bool}{f:Den}{tok:List Nat}{p:Option PV}{cs:List Nat}{ln:Int}:nJ out v 2 it 3 f (gS v it tok p cs ln)=fQ out v 3 f (cs.length+1) (gS v it tok p cs ln):=by
 refine(?_:(if(it==it)=true then _ else _)=_)
 refine wI (by simp) ?_;rfl
theorem yD4{tok:List Nat}{c:Nat}{r:List Nat}{ln:Int}(hc:iW c=true):nK U 0 1 2 3 v it (gS v it tok (some (.str [c])) r ln)=some (gS v it tok (some (.str [c])) r ln, .cont):=by
 refine zU0 ?_
 exact(g7 (t:=true) (tL.trans (by rw[hc]))).trans rfl
theorem zVe{b:Bool}{c w:Nat}{l:List (Bool×Nat)}{rest:List Nat}{ln:Int}(hc:kS c)(hw:iW w=true)(hg:∀q∈l,kS q.2)(hs:l.length+1<=ag):
  ∃p',nK U 0 1 2 3 v it (gS v it [] (some (.str [if b then 92 else c])) (if b then c::(enc l++w::rest)else enc l++w::rest) ln)=some (gS v it (c::l.map (·.2)) p' rest (nl w ln), .ret (.str (c::l.map (·.2)))):=by
 have n0:∀ln,nl c ln=ln:=fun ln=>by unfold nl;rw[if_neg];rintro rfl;exact absurd hc.1 (by decide)
 obtain⟨p',e⟩:=Ul (U:=U) (v:=v) (it:=it) hw (rest:=rest) l [c] (some (.str [c])) ln ((enc l++w::rest).length+1) hg (by simp;exact xB) (by
  have:∀l:List (Bool×Nat),l.length<=(enc l).length:=by
   intro l
   induction l with
   |nil=>exact B6 _
   |cons q l ih=>
    obtain⟨b,c⟩:=q
    refine(?_:l.length+1<=((if b then [92,c]else [c])++enc l).length)
    cases b<;>simp<;>lia
  have:=this l
  simp;lia)
 refine bU p' ?_
 have tail:∀g,g=gS v it [] (some (.str [c])) (enc l++w::rest) ln->yT (ou U .Add 1 (.var 3)) (yT (nJ false v 2 it 3 (qC U 0 1 3)) aA) g=some (gS v it (c::l.map (·.2)) p' rest (nl w ln), .ret (.str (c::l.map (·.2)))):=by
  rintro g rfl
  have e1:ou U .Add 1 (.var 3) (gS v it [] (some (.str [c])) (enc l++w::rest) ln)=some (gS v it [c] (some (.str [c])) (enc l++w::rest) ln, .next):=by
   exact Uk (a:=[]) (b:=[c]) rfl rfl (by simp[ag])
  rw[zN e1]
  refine wE ?_
  rw[FV,e];simp
 unfold nK
 cases b with
 |false=>
  simp only[Cu,if_false]
  have e1:jN (sV 0 3) (yT (fun g=>some (g, .cont)) aA) aA (gS v it [] (some (.str [c])) (enc l++w::rest) ln)=some (gS v it [] (some (.str [c])) (enc l++w::rest) ln, .next):=(g7 (t:=false) (tL.trans (by rw[hc.1]))).trans rfl
  rw[zN e1]
  refine wE ?_
  refine(g7 (t:=false) (qO.trans (by simpa using hc.2.1))).trans ?_
  refine(zN (OG hc.2.2)).trans (tail _ rfl)
 |true=>
  simp only[if_true]
  have e1:jN (sV 0 3) (yT (fun g=>some (g, .cont)) aA) aA (gS v it [] (some (.str [92])) (c::(enc l++w::rest)) ln)=some (gS v it [] (some (.str [92])) (c::(enc l++w::rest)) ln, .next):=(g7 (t:=false) (tL.trans rfl)).trans rfl
  rw[zN e1]
  refine wE ?_
  refine(g7 (t:=false) qO).trans ?_
  refine(zN OH).trans ?_
  rw[n0]
  exact tail _ rfl
theorem zQr{l:List (Bool×Nat)}{rest:List Nat}{ln:Int}(hg:∀q∈l,kS q.2)(hs:l.length<=ag):
  ∃p',nK U 0 1 2 3 v it (gS v it [] (some (.str [34])) (enc l++34::rest) ln)=some (gS v it (l.map (·.2)) p' rest ln, .ret (.str (l.map (·.2)))):=by
 obtain⟨p',e⟩:=Um (U:=U) (v:=v) (it:=it) (rest:=rest) l [] (some (.str [34])) ln ((enc l++34::rest).length+1) hg (by simpa using hs) (by
  have:∀l:List (Bool×Nat),l.length<=(enc l).length:=by
   intro l
   induction l with
   |nil=>exact B6 _
   |cons q l ih=>
    obtain⟨b,c⟩:=q
    refine(?_:l.length+1<=((if b then [92,c]else [c])++enc l).length)
    cases b<;>simp<;>lia
  have:=this l
  simp;lia)
 refine bU p' ?_
 unfold nK
 have e1:jN (sV 0 3) (yT (fun g=>some (g, .cont)) aA) aA (gS v it [] (some (.str [34])) (enc l++34::rest) ln)=some (gS v it [] (some (.str [34])) (enc l++34::rest) ln, .next):=(g7 (t:=false) (tL.trans rfl)).trans rfl
 rw[zN e1]
 refine wE ?_
 refine(g7 (t:=true) qO).trans ?_
 refine wE ?_
 rw[FV,e];simp
noncomputable def gu:List Nat->Int->Int
 |[],ln=>ln
 |c::r,ln=>gu r (nl c ln)
theorem FW{rest:List Nat}{n:Nat}:∀(pre:List Nat) (p:Option PV) (ln:Int),pre.all iW=true->∃p',fQ true v 3 (nK U 0 1 2 3 v it) (pre.length+n) (gS v it [] p (pre++rest) ln)=fQ true v 3 (nK U 0 1 2 3 v it) n (gS v it [] p' rest (gu pre ln))
 |[],p,ln,_=>⟨p,by rw[Kq,C0];rfl⟩
 |c::r,p,ln,h=>by
  simp only[Ly,Ao]at h
  obtain⟨p',e⟩:=FW r (some (.str [c])) (nl c ln) h.2
  refine bU p' ?_
  rw[show(c::r).length+n=(r.length+n)+1 by simp;exact E9 _ _ _,Dg,tK,yD4 h.1]
  exact e
theorem Un{cs:List Nat}{ln:Int}{p':Option PV}{b':ak}{r:List Nat}{tok:List Nat}
  (h:fQ true v 3 (nK U 0 1 2 3 v it) (cs.length+1) (gS v it [] none cs ln)=some (⟨[some (.obj v),some (.str tok),some (.obj it),p'],some (v,b')⟩, .ret (.str r))):
  Ng U v it (gS v it [] none cs ln)=some (⟨[some (.obj v),some (.str tok),some (.obj it),p'],some (v,b')⟩, .ret (.str r)):=by
 refine wE ?_
 rw[FV];exact h
end
section
variable{U:Uc}
theorem zQe{cs w:List Nat}{ln:Int}{r:List (List Nat)}(h:r.length<1000):iV U ⟨cs,ln,w::r⟩ ⟨cs,ln,r⟩ w:=fun v=>by
 refine .inl ?_
 refine(?_:((if v==v then _ else _:Option (Value×ak)).bind _)=_)
 rw[if_pos (by simp)]
 refine(?_:(if r.length<1000 then _ else _)=_)
 exact wI h rfl
theorem zO5{pre:List Nat}{b:Bool}{c w:Nat}{l:List (Bool×Nat)}{rest:List Nat}{ln:Int}(hp:pre.all iW=true)(hc:kS c)(hw:iW w=true)(hg:∀q∈l,kS q.2)(hs:l.length+1<=ag):
  iV U ⟨pre++(enc ((b,c)::l)++w::rest),ln,[]⟩ ⟨rest,nl w (gu pre ln),[]⟩ (c::l.map (·.2)):=fun v=>by
 refine .inr ⟨rfl,fun it=>?_⟩
 refine aK (FW (U:=U) (v:=v) (it:=it) (rest:=enc ((b,c)::l)++w::rest) (n:=(enc ((b,c)::l)++w::rest).length+1) pre none ln hp) fun iM dU=>?_
 refine aK (zVe (U:=U) (v:=v) (it:=it) (b:=b) (rest:=rest) (ln:=gu pre ln) hc hw hg hs) fun jA dG=>?_
 refine bU ([some (.obj v),some (.str (c::l.map (·.2))),some (.obj it),jA]) (Un ?_)
 rw[Ax,D0,dU]
 rw[OI,tK,OJ b hc]
 rw[dG];rfl
theorem zLm{pre:List Nat}{l:List (Bool×Nat)}{rest:List Nat}{ln:Int}(hp:pre.all iW=true)(hg:∀q∈l,kS q.2)(hs:l.length<=ag):
  iV U ⟨pre++(34::(enc l++34::rest)),ln,[]⟩ ⟨rest,gu pre ln,[]⟩ (l.map (·.2)):=fun v=>by
 refine .inr ⟨rfl,fun it=>?_⟩
 refine aK (FW (U:=U) (v:=v) (it:=it) (rest:=34::(enc l++34::rest)) (n:=(34::(enc l++34::rest)).length+1) pre none ln hp) fun iM dU=>?_
 refine aK (zQr (U:=U) (v:=v) (it:=it) (rest:=rest) (ln:=gu pre ln) hg hs) fun jA dG=>?_
 refine bU ([some (.obj v),some (.str (l.map (·.2))),some (.obj it),jA]) (Un ?_)
 rw[Ax,D0,dU,tK]
 rw[show nl 34 (gu pre ln)=gu pre ln from rfl,dG];rfl
theorem zT6{pre:List Nat}{ln:Int}(hp:pre.all iW=true):iV U ⟨pre,ln,[]⟩ ⟨[],gu pre ln,[]⟩ []:=fun v=>by
 refine .inr ⟨rfl,fun it=>?_⟩
 refine aK (FW (U:=U) (v:=v) (it:=it) (rest:=[]) (n:=1) pre none ln hp) fun iM dU=>?_
 rw[Dr]at dU
 refine bU ([some (.obj v),some (.str []),some (.obj it),iM]) ?_
 have dG:nJ true v 2 it 3 (nK U 0 1 2 3 v it) (gS v it [] none pre ln)=some (gS v it [] iM [] (gu pre ln), .next):=by
  rw[FV,dU]
  refine(?_:(if(v==v)=true then _ else _)=_)
  refine wI (by simp) ?_;rfl
 exact(zN dG).trans rfl
noncomputable def eO(U:Uc)(b:ak):Option (ak×List Nat):=open Classical in if h:∃q:ak×List Nat,iV U b q.1 q.2 then some (choose h)else none
theorem zY2{b b':ak}{r:List Nat}(h:eO U b=some (b',r)):iV U b b' r:=by
 unfold eO at h
 split at h
 ·next h'=>
  have:=Kw h'
  rw[Aa h]at this
  exact this
 ·exact nn h
theorem zR7{b tG tH:ak}{aG bt:List Nat}(ai:iV U b tG aG)(aj:iV U b tH bt):tG=tH/\aG=bt:=by
 rcases ai .none with ai|⟨mW,ai⟩
 ·rcases aj .none with aj|⟨jR,aj⟩
  ·rw[ai]at aj
   simp only[Mt,Prod.mk.injEq,Sg.mk.injEq,Fl.ret.injEq,PV.str.injEq,true_and]at aj
   exact aj
  ·exfalso
   have:uF 0 ⟨[some (.obj .none),none,none,none],some (Ii,b)⟩=some (⟨[some (.obj .none),none,none,none],some (Ii,b)⟩, .next):=by
    obtain⟨a,c,d⟩:=b
    have jR:d=[]:=jR
    subst jR;rfl
   rw[this]at ai;cases ai
 ·rcases aj .none with aj|⟨jR,aj⟩
  ·exfalso
   have:uF 0 ⟨[some (.obj .none),none,none,none],some (Ii,b)⟩=some (⟨[some (.obj .none),none,none,none],some (Ii,b)⟩, .next):=by
    obtain⟨a,c,d⟩:=b
    have mW:d=[]:=mW
    subst mW;rfl
   rw[this]at aj;cases aj
  ·refine aK (ai .none) fun bx dU=>?_
   refine aK (aj .none) fun et dG=>?_
   rw[dU]at dG
   simp only[Mt,Prod.mk.injEq,Sg.mk.injEq,Fl.ret.injEq,PV.str.injEq,true_and]at dG
   exact aZ dG.1.2 dG.2
theorem FX{b b':ak}{r:List Nat}(h:iV U b b' r):eO U b=some (b',r):=by
 unfold eO
 have h':∃q:ak×List Nat,iV U b q.1 q.2:=⟨(b',r),h⟩
 rw[dif_pos h']
 refine ao (zR7 (Kw h') h) fun e1 e2=>?_
 exact congrArg some (Prod.ext e1 e2)
end
noncomputable def pG(r:List Nat):Prop:=∀c∈r,c≠13/\c≠10
theorem Uo(cr:Bool)(c:Nat)(r:List Nat):cC cr (c::r)=if c==13 then 13::10::cC true r else if c==10 then(if cr then cC false r else 13::10::cC false r)else c::cC false r:=rfl
theorem Up(b:Bool)(c:Nat)(r:List Nat):dbl b (c::r)=(if b&&c==46 then [46,46]else [c])++dbl (c==10) r:=rfl
theorem Uq:∀{row:List Nat} {t:List Nat},pG row->cC false (row++t)=row++cC false t
 |[],t,_=>rfl
 |c::r,t,h=>by
  have hc:=h c (Ag ..)
  have e1:(c==13)=false:=by simpa using hc.1
  have e2:(c==10)=false:=by simpa using hc.2
  rw[Dg]
  rw[Uo,e1,e2]
  simp only[Cu,if_false]
  rw[Uq fun d hd=>h d (Ad _ hd)];rfl
theorem zU3{cr:Bool}{row:List Nat}{t:List Nat}(h:pG row)(cN:row≠ []):cC cr (row++t)=row++cC false t:=by
 match row,cN with
 |c::r,_=>
  have hc:=h c (Ag ..)
  have e1:(c==13)=false:=by simpa using hc.1
  have e2:(c==10)=false:=by simpa using hc.2
  rw[Dg]
  rw[Uo,e1,e2]
  simp only[Cu,if_false]
  rw[Uq fun d hd=>h d (Ad _ hd)];rfl
theorem Ur:∀{row:List Nat} {t:List Nat},pG row->dbl false (row++13::10::t)=row++13::10::dbl true t
 |[],t,_=>rfl
 |c::r,t,h=>by
  have hc:=h c (Ag ..)
  have e2:(c==10)=false:=by simpa using hc.2
  rw[Dg]
  rw[Up,e2]
  simp only[G4,Cu,if_false]
  rw[Ur fun d hd=>h d (Ad _ hd)];rfl
noncomputable def wL(row:List Nat):List Nat:=(if row.head?=some 46 then [46]else [])++row++[13,10]
theorem zUi{row:List Nat}{t:List Nat}(h:pG row)(cN:row≠ []):dbl true (row++13::10::t)=wL row++dbl true t:=by
 match row,cN with
 |c::r,_=>
  have hc:=h c (Ag ..)
  have e2:(c==10)=false:=by simpa using hc.2
  rw[Dg]
  rw[Up,e2,Ur fun d hd=>h d (Ad _ hd)]
  unfold wL
  by_cases OK:c=46
  ·subst OK;simp
  ·have:(c==46)=false:=by simpa using OK
   simp[OK]
noncomputable def mX:List (List Nat):=[[10],[13],[13,10]]
theorem Us:∀(cr:Bool) (L:List (List Nat×List Nat)),(∀q∈L,q.1≠ []/\pG q.1/\q.2∈mX)->cC cr (L.flatMap fun q=>q.1++q.2)=L.flatMap fun q=>q.1++[13,10]
 |_,[],_=>by simp[cC]
 |cr,q::L,h=>by
  refine cD (h q (Ag ..)) fun h1 h2 h3=>?_
  have ih:=fun cr=>Us cr L fun q hq=>h q (Ad _ hq)
  rw[Gy,Br,zU3 h2 h1,Gy]
  simp only[mX,Av,Ar,or_false]at h3
  rcases h3 with h3|h3|h3<;>rw[h3]
  ·refine(?_:q.1++(13::10::cC false (L.flatMap fun q=>q.1++q.2))=_)
   rw[ih];simp
  ·refine(?_:q.1++(13::10::cC true (L.flatMap fun q=>q.1++q.2))=_)
   rw[ih];simp
  ·refine(?_:q.1++(13::10::cC false (L.flatMap fun q=>q.1++q.2))=_)
   rw[ih];simp
theorem Ut:∀(L:List (List Nat×List Nat)),(∀q∈L,q.1≠ []/\pG q.1/\q.2∈mX)->dbl true (L.flatMap fun q=>q.1++[13,10])=L.flatMap fun q=>wL q.1
 |[],_=>rfl
 |q::L,h=>by
  refine cD (h q (Ag ..)) fun h1 h2 h3=>?_
  rw[Gy,Gy,Br]
  refine(?_:dbl true (q.1++13::10::(L.flatMap fun q=>q.1++[13,10]))=_)
  rw[zUi h2 h1,Ut L fun q hq=>h q (Ad _ hq)]
theorem zM3(L:List (List Nat×List Nat))(h:∀q∈L,q.1≠ []/\pG q.1/\q.2∈mX):lF (L.flatMap fun q=>q.1++q.2)=L.flatMap fun q=>wL q.1:=by
 unfold lF
 rw[Us false L h,Ut L h]
noncomputable def wB(q:Nat×List (Bool×Nat)):List Nat:=if 0<q.1 then Ai q.1 46++enc q.2 else 34::(enc q.2++[34])
noncomputable def u0(q:Nat×List (Bool×Nat)):List Nat:=Ai (if 0<q.1 then q.1+1 else 0) 46++q.2.map (·.2)
theorem Uu:∀(l m:List (Bool×Nat)),enc (l++m)=enc l++enc m
 |[],m=>rfl
 |(b,c)::l,m=>by
  refine(?_:(if b then [92,c]else [c])++enc (l++m)=(if b then [92,c]else [c])++enc l++enc m)
  rw[Uu l m,Br]
theorem zVj(n:Nat):enc (Ai n (false,46))=Ai n 46:=by
 induction n with
 |zero=>rfl
 |succ n ih=>rw[Bk,Bk];refine(?_:[46]++enc _=_);rw[ih];rfl
theorem OL{U:Uc}:∀(L:List (Nat×List (Bool×Nat))) (pre:List Nat) (ln:Int),pre.all iW=true->(∀q∈L,q.1+q.2.length+1<=ag/\∀p∈q.2,kS p.2)->
  ∃fy u1,pD (eO U) L.length ⟨pre++L.flatMap (fun q=>wL (wB q)),ln,[]⟩=some (⟨fy,u1,[]⟩,L.map u0)/\fy.all iW=true/\gu fy u1=gu pre ln+L.length
 |[],pre,ln,hp,_=>⟨pre,ln,by simp[pD],hp,by simp⟩
 |(D,l)::L,pre,ln,hp,h=>by
  refine ao (h _ (Ag ..)) fun hs hg=>?_
  dsimp only at hs hg
  have hL:=fun q hq=>h q (Ad _ hq)
  rw[Gy]
  by_cases hD:0<D
  ·have e1:wL (wB (D,l))=enc ((false,46)::(Ai D (false,46)++l))++13::[10]:=by
    refine(?_:wL (if 0<D then _ else _)=[46]++enc (Ai D (false,46)++l)++13::[10])
    rw[if_pos hD,Uu,zVj]
    unfold wL
    obtain⟨k,rfl⟩:∃k,D=k+1:=⟨D-1,by lia⟩
    simp[Bk]
   have op:=zO5 (U:=U) (pre:=pre) (b:=false) (c:=46) (w:=13) (l:=Ai D (false,46)++l) (rest:=10::L.flatMap (fun q=>wL (wB q))) (ln:=ln) hp ⟨rfl,by decide,by decide⟩ rfl
    (fun q hq=>by
     rcases A9.mp hq with hq|hq
     ·rw[Cf hq];exact⟨rfl,by decide,by decide⟩
     ·exact hg q hq) (by simp;assumption)
   refine cM (OL (U:=U) L [10] (nl 13 (gu pre ln)) rfl hL) fun fy u1 e2 e3 e4=>?_
   refine nt fy u1 ?_ e3 ?_
   ·rw[e1]
    refine(?_:(eO U _).bind _=_)
    rw[show pre++(enc ((false,46)::(Ai D (false,46)++l))++[13,10]++L.flatMap (fun q=>wL (wB q)))=pre++(enc ((false,46)::(Ai D (false,46)++l))++13::10::L.flatMap (fun q=>wL (wB q)))by simp]
    rw[FX op]
    refine(?_:(pD (eO U) L.length ⟨[10]++L.flatMap (fun q=>wL (wB q)),nl 13 (gu pre ln),[]⟩).map _=_)
    rw[e2]
    have:u0 (D,l)=46::(Ai D ((false,46):Bool×Nat)++l).map (fun p=>p.2):=by
     unfold u0
     rw[if_pos hD]
     simp[Bk]
    rw[Bj,this];rfl
   ·rw[e4];simp only[gu,nl];simp only[Bl];simp;lia
  ·have hD0:D=0:=by exact Nat.eq_zero_of_not_pos ‹_›
   subst hD0
   have e1:wL (wB (0,l))=34::(enc l++34::[13,10]):=by
    refine(?_:wL (34::(enc l++[34]))=_)
    unfold wL
    simp
   have op:=zLm (U:=U) (pre:=pre) (l:=l) (rest:=[13,10]++L.flatMap (fun q=>wL (wB q))) (ln:=ln) hp hg (by lia)
   refine cM (OL (U:=U) L [13,10] (gu pre ln) rfl hL) fun fy u1 e2 e3 e4=>?_
   refine nt fy u1 ?_ e3 ?_
   ·rw[e1]
    refine(?_:(eO U _).bind _=_)
    rw[show pre++(34::(enc l++[34,13,10])++L.flatMap (fun q=>wL (wB q)))=pre++(34::(enc l++34::([13,10]++L.flatMap (fun q=>wL (wB q)))))by simp]
    rw[FX op]
    refine(?_:(pD (eO U) L.length ⟨[13,10]++L.flatMap (fun q=>wL (wB q)),gu pre ln,[]⟩).map _=_)
    rw[e2]
    rw[Bj];rfl
   ·rw[e4];simp only[gu,nl];simp only[Bl];simp;lia
noncomputable abbrev pn(n:Nat):PV:= .int (n:Int)
noncomputable abbrev At(σ:List (Option PV))(i:Nat)(p:PV):Prop:=σ[i]?=some (some p)
theorem At.lt{σ:List (Option PV)}{i:Nat}{p:PV}(h:At σ i p):i<σ.length:=(Ba.mp h).1
theorem At.set{σ:List (Option PV)}{i j:Nat}{p q:PV}(h:At σ j q)(cN:i≠j):At (σ.set i (some p)) j q:=by unfold At;rw[A7 cN];exact h
theorem zG{σ:List (Option PV)}{i:Nat}{p:PV}(h:i<σ.length):At (σ.set i (some p)) i p:=by unfold At;rw[Ct h]
theorem At.app{σ τ:List (Option PV)}{i:Nat}{p:PV}(h:At σ i p):At (σ++τ) i p:=by unfold At;rw[B9 h.lt];exact h
theorem g8{σ:List (Option PV)}{n:Nat}{p:PV}{τ:List (Option PV)}(h:σ.length=n):At (σ++some p::τ) n p:=by unfold At;rw[C6 (by exact Fi ‹_›),h,Nat.sub_self];rfl
section
variable{U:Uc}{σ:List (Option PV)}{β:Option (Value×ak)}
theorem zA{i:Nat}{p:PV}(h:At σ i p):ev U (.var i) σ=some p:=by refine(?_:(σ[i]?).bind id=_);rw[h];rfl
theorem yX{e:PE}{l:List Nat}:fresh e (.str l)=true:=by cases e<;>rfl
theorem zX{e:PE}{n:Int}:fresh e (.int n)=true:=by cases e<;>rfl
theorem ON{e:PE}{b:Bool}:fresh e (.bool b)=true:=by cases e<;>rfl
theorem zD{i:Nat}{e:PE}{p:PV}(h:ev U e σ=some p)(hf:fresh e p=true):den U (.assign i e) ⟨σ,β⟩=some (⟨σ.set i (some p),β⟩, .next):=by
 refine(?_:(fm U e ⟨σ,β⟩).bind _=_)
 unfold fm
 rw[h]
 refine(?_:(if fresh e p=true then _ else _:Option (Sg×PV)).bind _=_)
 rw[if_pos hf];rfl
theorem tM{i:Nat}{e:PE}{p:PV}{l:List PV}(hl:At σ i (.list l))(h:ev U e σ=some p)(hf:fresh e p=true)(hs:l.length<=ag):den U (.append i e) ⟨σ,β⟩=some (⟨σ.set i (some (.list (l++[p]))),β⟩, .next):=by
 have e1:jI ⟨σ,β⟩ i=some l:=wb hl
 refine(?_:(jI ⟨σ,β⟩ i).bind _=_)
 rw[e1]
 refine(?_:(ev U e σ).bind _=_)
 rw[h]
 refine(?_:(if(fresh e p&&decide (l.length<=ag))=true then _ else _)=_)
 refine wI (by rw[hf];simpa using hs) ?_;rfl
theorem Uv{i:Nat}{e:PE}{a b:List Nat}(ha:At σ i (.str a))(h:ev U e σ=some (.str b))(hs:a.length+b.length<=ag):den U (.aug .Add i e) ⟨σ,β⟩=some (⟨σ.set i (some (.str (a++b))),β⟩, .next):=by
 refine(?_:((σ[i]?).bind id).bind _=_)
 rw[ha]
 refine(?_:(ev U e σ).bind _=_)
 rw[h]
 refine(?_:(if a.length+b.length<=ag then some (PV.str (a++b))else none:Option PV).map _=_)
 rw[if_pos hs];rfl
theorem OO{c:PT}{a b:dD}{t:Bool}(h:aU U c σ=some t):den U (.ifs c a b) ⟨σ,β⟩=if t then yN U a ⟨σ,β⟩else yN U b ⟨σ,β⟩:=by
 refine(?_:(aU U c σ).bind _=_)
 rw[h];rfl
theorem u2{n:Nat}(h:n<=16777216):wV (n:Int)=true:=by
 exact B3.mpr ⟨decide_eq_true (by exact yC),decide_eq_true (by exact yA)⟩
theorem Uw{n m:Nat}(h:n<m):Gq (n:Int) m=some n:=by
 unfold Gq
 simp only[L9.mpr (Dt n),if_false]
 refine wI (B3.mpr ⟨decide_eq_true (Dt n),decide_eq_true (Mj.mpr h)⟩) ?_;rfl
theorem Ux{f:List PV->Option (Option PV)}{α:Type}{l:List α}{it:α->List PV}{b:α->Bool}{g:α->PV}(h:∀x∈l,f (it x)=if b x then some (some (g x))else some none):wX f (l.map it)=some ((l.filter b).map g):=by
 induction l with
 |nil=>rfl
 |cons x l ih=>
  have hx:=h x (Ag ..)
  have ih:=ih fun y hy=>h y (Ad _ hy)
  rw[Bj]
  unfold wX
  rw[hx]
  cases hb:b x with
  |true=>simp only[if_true];rw[ih,Ha,if_pos hb];rfl
  |false=>simp only[Cu,if_false];rw[ih,Ha,if_neg (by rw[hb];decide)]
theorem kT{elt:PE}{src:nu}{α:Type}{l:List α}{it:α->List PV}{g:α->PV}(hs:gz U src σ=some (l.map it))(hl:l.length<=ag)(h:∀x∈l,ev U elt (σ++(it x).map some)=some (g x)/\fresh elt (g x)=true):
  ev U (.comp elt src .nil) σ=some (.list (l.map g)):=by
 refine(?_:(gz U src σ).bind _=_)
 rw[hs]
 refine(?_:(if(l.map it).length<=ag then _ else _:Option PV)=_)
 (refine wI (by simpa using hl) ?_;rw[Ux (it:=it) (b:=fun _=>true) (g:=g) fun x hx=>?_])
 ·rw[List.filter_eq_self.mpr fun _ _=>rfl];rfl
 ·refine ao (h x hx) fun h1 h2=>?_
  refine(?_:((some true:Option Bool).bind fun ok=>if ok then _ else _)=_)
  simp only[Au,if_true]
  rw[h1]
  refine(?_:(if fresh elt (g x)=true then _ else _)=_)
  exact wI h2 rfl
theorem Uy{elt:PE}{src:nu}{ts:ew}{α:Type}{l:List α}{it:α->List PV}{b:α->Bool}{g:α->PV}(hs:gz U src σ=some (l.map it))(hl:l.length<=ag)(hb:∀x∈l,lj U ts (σ++(it x).map some)=some (b x))
  (h:∀x∈l,b x=true->ev U elt (σ++(it x).map some)=some (g x)/\fresh elt (g x)=true):ev U (.comp elt src ts) σ=some (.list ((l.filter b).map g)):=by
 refine(?_:(gz U src σ).bind _=_)
 rw[hs]
 refine(?_:(if(l.map it).length<=ag then _ else _:Option PV)=_)
 (refine wI (by simpa using hl) ?_;rw[Ux (it:=it) (b:=b) (g:=g) fun x hx=>?_])
 ·rfl
 ·refine(?_:(lj U ts _).bind _=_)
  rw[hb x hx]
  cases hbx:b x with
  |false=>rfl
  |true=>
   refine ao (h x hx hbx) fun h1 h2=>?_
   simp only[Au,if_true]
   rw[h1]
   refine(?_:(if fresh elt (g x)=true then _ else _)=_)
   exact wI h2 rfl
theorem u3{elt:PE}{src:nu}{ts:ew}{α:Type}{l:List α}{g:α->PV}(h:∀x∈l,fresh elt (g x)=true):fresh (.comp elt src ts) (.list (l.map g))=true:=by
 refine(?_:(l.map g).all (fresh elt)=true)
 rw[Kj,Al]
 exact h
theorem jS{e:PE}{n:Nat}(h:ev U e σ=some (pn n))(hn:n<=16777216):gz U (.cv e) σ=some ((Ae n).map fun i=> [pn i]):=by
 refine(?_:(ev U e σ).bind _=_)
 refine zZ h ?_
 refine(if_pos (B3.mpr ⟨u2 hn,decide_eq_true (by exact yD)⟩)).trans ?_
 unfold pS
 simp
theorem AJ{e:PE}{l:List PV}(h:ev U e σ=some (.list l)):gz U (.items e) σ=some (l.map fun x=> [x]):=by
 refine(?_:(ev U e σ).bind _=_)
 rw[h];rfl
theorem u4:∀(l:List Nat),PV.ints (l.map pn)=some (l.map fun n:Nat=>(n:Int))
 |[]=>rfl
 |n::l=>by
  refine(?_:(PV.ints (l.map pn)).map _=_)
  rw[u4 l];rfl
theorem OP:∀(l:List (List Nat)),PV.strs (l.map PV.str)=some l
 |[]=>rfl
 |n::l=>by
  refine(?_:(PV.strs (l.map PV.str)).map _=_)
  rw[OP l];rfl
theorem u5{e:PE}{l:List (List Nat)}(h:ev U e σ=some (.list (l.map PV.str)))(hs:(l.map B1).sum<=ag):ev U (.me 0 (.lit (.str [])) (.cons e .nil)) σ=some (.str l.flatten):=by
 refine(?_:((ev U e σ).bind fun x=>(some []).map (x:: ·)).bind _=_)
 rw[h]
 refine(?_:(PV.strs (l.map PV.str)).bind _=_)
 rw[OP]
 refine(?_:(if(l.map B1).sum+l.length*([]:List Nat).length<=ag then _ else _:Option PV)=_)
 (refine wI (by simpa using hs) ?_;rw[NZ])
theorem zSn{l:List PV}{i:Int}{k:Nat}{p:PV}(hf:wV i=true)(hk:Gq i l.length=some k)(hp:l[k]?=some p):uh (.list l) (.int i)=some p:=by
 unfold uh
 (refine wI hf ?_;rw[hk])
 exact hp
theorem Uz{l:List Nat}{i:Int}{k c:Nat}(hf:wV i=true)(hk:Gq i l.length=some k)(hp:l[k]?=some c):uh (.str l) (.int i)=some (.str [c]):=by
 unfold uh
 dsimp only
 rw[if_pos hf,hk,Au,hp]
 rfl
theorem wH{e:PE}{l:List PV}{p:PV}{j:PE}{n:Nat}(h:ev U e σ=some (.list l))(hj:ev U j σ=some (pn n))(hn:l[n]?=some p)(hs:l.length<=ag):ev U (.idx e j) σ=some p:=by
 have aY:n<l.length:=(Ba.mp hn).1
 refine(?_:(ev U e σ).bind _=_)
 (refine zZ h ?_;refine zZ hj ?_)
 exact zSn (u2 (by unfold ag at hs;exact yS)) (Uw aY) hn
theorem lG{e:PE}{l:List Nat}{c:Nat}{j:PE}{n:Nat}(h:ev U e σ=some (.str l))(hj:ev U j σ=some (pn n))(hn:l[n]?=some c)(hs:l.length<=ag):ev U (.idx e j) σ=some (.str [c]):=by
 have aY:n<l.length:=(Ba.mp hn).1
 refine(?_:(ev U e σ).bind _=_)
 (refine zZ h ?_;refine zZ hj ?_)
 exact Uz (u2 (by unfold ag at hs;exact yS)) (Uw aY) hn
theorem qP{a b:PE}{m n:Nat}(ha:ev U a σ=some (pn m))(hb:ev U b σ=some (pn n))(hn:0<n):ev U (.bin .Mod a b) σ=some (pn (m%n)):=by
 refine(?_:(ev U a σ).bind _=_)
 rw[ha]
 refine(?_:(ev U b σ).bind _=_)
 rw[hb]
 refine(?_:G6 PV.int (if decide (0<(n:Int))=true then some ((m:Int)%(n:Int))else none)=_)
 rw[if_pos (by simp;assumption)]
 rfl
theorem tN{a b:PE}{m n:Nat}(ha:ev U a σ=some (pn m))(hb:ev U b σ=some (pn n))(hn:0<n/\n<1073741824):ev U (.bin .FloorDiv a b) σ=some (pn (m/n)):=by
 refine(?_:(ev U a σ).bind _=_)
 rw[ha]
 refine(?_:(ev U b σ).bind _=_)
 rw[hb]
 refine(?_:G6 PV.int (if(decide (0<(n:Int))&&decide ((n:Int)<1073741824))=true then some ((m:Int)/(n:Int))else none)=_)
 rw[if_pos (by simp;lia)]
 rfl
theorem iX{a b:PE}{m n:Nat}(ha:ev U a σ=some (pn m))(hb:ev U b σ=some (pn n)):ev U (.bin .Add a b) σ=some (pn (m+n)):=by
 refine(?_:(ev U a σ).bind _=_)
 rw[ha]
 refine(?_:(ev U b σ).bind _=_)
 rw[hb];rfl
theorem jT{a b:PE}{m n:List Nat}(ha:ev U a σ=some (.str m))(hb:ev U b σ=some (.str n))(hs:m.length+n.length<=ag):ev U (.bin .Add a b) σ=some (.str (m++n)):=by
 refine(?_:(ev U a σ).bind _=_)
 rw[ha]
 refine(?_:(ev U b σ).bind _=_)
 rw[hb]
 refine(?_:(if m.length+n.length<=ag then _ else _)=_)
 exact wI hs rfl
theorem UA{a:PE}{m:List PV}(ha:ev U a σ=some (.list m))(hs:m.length<=ag):ev U (.bi 0 (.cons a .nil)) σ=some (pn m.length):=by
 refine(?_:((ev U a σ).bind fun x=>(some []).map (x:: ·)).bind _=_)
 rw[ha]
 refine(?_:(if m.length<=ag then _ else _)=_)
 exact wI hs rfl
theorem nO{a:PE}{m:List Nat}(ha:ev U a σ=some (.str m))(hs:m.length<=ag):ev U (.bi 0 (.cons a .nil)) σ=some (pn m.length):=by
 refine(?_:((ev U a σ).bind fun x=>(some []).map (x:: ·)).bind _=_)
 rw[ha]
 refine(?_:(if m.length<=ag then _ else _)=_)
 exact wI hs rfl
theorem qQ{c:PT}{a b:PE}{t:Bool}(h:aU U c σ=some t):ev U (.ite c a b) σ=if t then ev U a σ else ev U b σ:=by
 refine(?_:(aU U c σ).bind _=_)
 rw[h];rfl
theorem AK{a b:PE}{m n:Nat}(ha:ev U a σ=some (pn m))(hb:ev U b σ=some (pn n)):aU U (.cmp .Eq a b) σ=some (m==n):=by
 refine(?_:(ev U a σ).bind _=_)
 rw[ha]
 refine(?_:(ev U b σ).bind _=_)
 rw[hb]
 refine(?_:some ((m:Int)==(n:Int))=_)
 congr 1
 by_cases h:m=n
 ·subst h;simp
 ·have:((m:Int)==(n:Int))=false:=by simp;exact xF ‹_›
  rw[this];simp[h]
theorem tO{a b:PE}{m n:Nat}(ha:ev U a σ=some (pn m))(hb:ev U b σ=some (pn n)):aU U (.cmp .Gt a b) σ=some (decide (n<m)):=by
 refine(?_:(ev U a σ).bind _=_)
 rw[ha]
 refine(?_:(ev U b σ).bind _=_)
 rw[hb]
 refine(?_:some (decide ((n:Int)<(m:Int)))=_)
 congr 1
 simp
end
set_option genSizeOf false
set_option genInjectivity false
structure eP where
 m:List Nat
 sp:List Nat
 nm:List (List Nat)
 od:List Nat
 ar:List Nat
noncomputable def cV:eP:=⟨[],[0],[[97,98,99,100]],[],[]⟩
noncomputable def lH(ar:List Nat):List Nat:=(Ae 4).map fun j=>if ar.contains j then 65+j else 97+j
noncomputable def wZ(k:Nat)(s:eP):eP:=⟨s.m++[40],s.sp++[s.m.length+1],s.nm++[lH (s.ar++[k])],s.od,s.ar++[k]⟩
noncomputable def gv(s:eP):eP:=⟨s.m++[41],s.sp,s.nm,s.od++[s.ar.getLastD 0+1],s.ar.dropLast⟩
noncomputable def mY(f:eP->eP):Nat->eP->eP
 |0,s=>s
 |n+1,s=>mY f n (f s)
noncomputable def eP.sz(s:eP):Nat:=s.m.length+s.sp.length+s.nm.length+s.od.length+s.ar.length
noncomputable def cnt(xs:List Nat)(k:Nat)(ar:List Nat):Nat:=if k=3 then ar.length else xs.getD (k+1) 0%(ar.length+1)
noncomputable def mZ(xs:List Nat)(k:Nat)(s:eP):eP:=mY gv (cnt xs k (wZ k s).ar) (wZ k s)
noncomputable def gw:PS->dD
 | .forR _ _ b=>b
 | .rV _ _ b=>b
 | .kB _ _ b=>b
 |_=> .nil
noncomputable def AL:dD->PS
 | .cons s _=>s
 | .nil=> .pass
noncomputable def qR:dD->dD
 | .cons _ r=>r
 | .nil=> .nil
structure NS(σ:List (Option PV))(xs:List Nat)(aB:Nat)(s:eP):Prop where
 len:σ.length=37
 xs:At σ 2 (.list (xs.map pn))
 aB:At σ 3 (pn aB)
 m:At σ 4 (.str s.m)
 sp:At σ 5 (.list (s.sp.map pn))
 nm:At σ 6 (.list (s.nm.map .str))
 od:At σ 7 (.list (s.od.map pn))
 ar:At σ 8 (.list (s.ar.map pn))
section
variable{U:Uc}{σ:List (Option PV)}{β:Option (Value×ak)}{xs:List Nat}{aB:Nat}{s:eP}
theorem NS.m7(h:NS σ xs aB s){i:Nat}{p:PV}(hi:i=1\/9<=i):NS (σ.set i (some p)) xs aB s:=by
 refine⟨by rw[Bd];exact h.len,h.xs.set ?_,h.aB.set ?_,h.m.set ?_,h.sp.set ?_,h.nm.set ?_,h.od.set ?_,h.ar.set ?_⟩<;>exact xG ‹_› rfl
theorem zK{q:PS}{r:dD}{g g₁:Sg}(e:den U q g=some (g₁, .next)):yN U (.cons q r) g=yN U r g₁:=zN e
theorem zSs(h:NS σ xs aB s)(hs:s.sz<=1000)(ha:s.ar≠ []):∃aC,yN U (gw (AL (qR (qR (qR (qR (gw l7))))))) ⟨σ,β⟩=some (⟨aC,β⟩, .next)/\NS aC xs aB (gv s)/\aC[1]?=σ[1]?:=by
 have hz:s.m.length+s.sp.length+s.nm.length+s.od.length+s.ar.length<=1000:=hs
 have e1:den U (.aug .Add 4 (.lit (.str [41]))) ⟨σ,β⟩=some (⟨σ.set 4 (some (.str (s.m++[41]))),β⟩, .next):=Uv h.m rfl (by simp[ag];exact HK)
 have aY:∀i,i<37->i<σ.length:=fun i hi=>by rw[h.len];exact hi
 have a7:At (σ.set 4 (some (.str (s.m++[41])))) 7 (.list (s.od.map pn)):=h.od.set (by decide)
 have a8:At (σ.set 4 (some (.str (s.m++[41])))) 8 (.list (s.ar.map pn)):=h.ar.set (by decide)
 obtain⟨AM,a,rI⟩:∃AM a,s.ar=AM++[a]:=⟨s.ar.dropLast,s.ar.getLast ha,(List.dropLast_concat_getLast ha).symm⟩
 have e2:den U (.bV 7 8 (.lit (.int 1))) ⟨σ.set 4 (some (.str (s.m++[41]))),β⟩=some (⟨((σ.set 4 (some (.str (s.m++[41])))).set 8 (some (.list (AM.map pn)))).set 7 (some (.list (s.od.map pn++[.int ((a:Int)+1)]))),β⟩, .next):=by
  have q1:jI ⟨σ.set 4 (some (.str (s.m++[41]))),β⟩ 7=some (s.od.map pn):=wb a7
  have q2:rK 8 ⟨σ.set 4 (some (.str (s.m++[41]))),β⟩=some (⟨(σ.set 4 (some (.str (s.m++[41])))).set 8 (some (.list (AM.map pn))),β⟩,pn a):=by
   refine zZ (wb (g:=⟨σ.set 4 (some (.str (s.m++[41]))),β⟩) a8) ?_
   (refine wI (by simp[ag];exact zS) ?_;rw[rI])
   simp[Sg.set]
  refine(?_:(jI _ 7).bind _=_)
  rw[q1]
  refine(?_:(rK 8 _).bind _=_)
  rw[q2]
  refine(?_:(if(s.od.map pn).length<=ag then _ else _)=_)
  refine wI (by simp[ag];exact WC) ?_
  rfl
 refine nU _ ((zK (r:= .cons (.bV 7 8 (.lit (.int 1))) .nil) e1).trans (zK (r:= .nil) e2)) ?_ ?_
 ·have c:gv s=⟨s.m++[41],s.sp,s.nm,s.od++[a+1],AM⟩:=by
   unfold gv
   rw[rI];simp
  rw[c]
  refine⟨by simp[h.len],((h.xs.set (by decide)).set (by decide)).set (by decide),((h.aB.set (by decide)).set (by decide)).set (by decide),((zG (aY 4 (by decide))).set (by decide)).set (by decide),((h.sp.set (by decide)).set (by decide)).set (by decide),((h.nm.set (by decide)).set (by decide)).set (by decide),?_,?_⟩
  ·have:((s.od++[a+1]).map pn)=s.od.map pn++[.int ((a:Int)+1)]:=by simp
   rw[this]
   exact zG (by simp[h.len])
  ·exact(zG (by simp[h.len])).set (by decide)
 ·rw[A7 (by decide),A7 (by decide),A7 (by decide)]
theorem zTw(s:eP)(ha:s.ar≠ []):(gv s).sz<=s.sz+1/\(gv s).ar.length=s.ar.length-1:=by
 have:0<s.ar.length:=List.length_pos_iff.mpr ha
 have h1:(s.m++[41]).length=s.m.length+1:=by simp
 have h2:(s.od++[s.ar.getLastD 0+1]).length=s.od.length+1:=by simp
 have h3:s.ar.dropLast.length=s.ar.length-1:=Lm
 refine aZ ?_ h3
 refine(?_:(s.m++[41]).length+s.sp.length+s.nm.length+(s.od++[s.ar.getLastD 0+1]).length+s.ar.dropLast.length<=s.m.length+s.sp.length+s.nm.length+s.od.length+s.ar.length+1)
 rw[h1,h2,h3]
 lia
theorem UB:∀(its:List (List PV)) (σ:List (Option PV)) (s:eP),(∀it∈its,∃p,it=[p])->NS σ xs aB s->s.sz+its.length<=1000->its.length<=s.ar.length->
  ∃aC,wN [9] (yN U (gw (AL (qR (qR (qR (qR (gw l7)))))))) its ⟨σ,β⟩=some (⟨aC,β⟩, .next)/\NS aC xs aB (mY gv its.length s)/\aC[1]?=σ[1]?
 |[],σ,s,_,h,_,_=>⟨σ,rfl,h,rfl⟩
 |it::its,σ,s,hi,h,hs,ha=>by
  refine aK (hi it (Ag ..)) fun p aH=>?_
  subst aH
  simp only[Bl]at hs ha
  have cN:s.ar≠ []:=by intro q;rw[q]at ha;simp at ha
  refine gT (zSs (U:=U) (β:=β) (h.m7 (i:=9) (p:=p) (.inr (by decide))) (by exact zR) cN) fun bx e1 h1 k1=>?_
  refine ao (zTw s cN) fun z1 z2=>?_
  refine gT (UB its bx (gv s) (fun q hq=>hi q (Ad _ hq)) h1 (by lia) (by lia)) fun et e2 h2 k2=>?_
  refine nU et ?_ h2 ?_
  ·refine(?_:((yN U _ ⟨σ.set 9 (some p),β⟩).bind _)=_)
   rw[e1];exact e2
  ·rw[k2,k1,A7 (by decide)]
theorem yAh(rI:At σ 8 (.list ((s.ar).map pn)))(hl:σ.length=37)(hb:s.ar.length<=1000):
  ev U (.comp (.ite (.cmp .In (.var 37) (.var 8)) (.idx (.lit (.str [65,66,67,68])) (.var 37)) (.idx (.lit (.str [97,98,99,100])) (.var 37))) (.cv (.lit (.int 4))) .nil) σ=some (.list ((lH s.ar).map fun c=> .str [c])):=by
 have:=kT (U:=U) (σ:=σ) (elt:= .ite (.cmp .In (.var 37) (.var 8)) (.idx (.lit (.str [65,66,67,68])) (.var 37)) (.idx (.lit (.str [97,98,99,100])) (.var 37))) (src:= .cv (.lit (.int 4))) (l:=Ae 4) (it:=fun i=> [pn i])
  (g:=fun j=> .str [if s.ar.contains j then 65+j else 97+j]) (jS (n:=4) rfl (by decide)) (by decide) fun j hj=>?_
 ·rw[this];unfold lH;rw[A3];rfl
 ·refine aZ ?_ yX
  have hj:j<4:=Bg.mp hj
  have dW:ev U (.var 37) (σ++Bv some [pn j])=some (pn j):=zA (g8 hl)
  have v8:ev U (.var 8) (σ++Bv some [pn j])=some (.list (s.ar.map pn)):=zA rI.app
  have t:aU U (.cmp .In (.var 37) (.var 8)) (σ++Bv some [pn j])=some (s.ar.contains j):=by
   refine(?_:(ev U (.var 37) _).bind _=_)
   (refine zZ dW ?_;refine zZ v8 ?_)
   refine(?_:(PV.ints (s.ar.map pn)).map _=_)
   rw[u4,D9]
   congr 1
   rw[List.any_map,List.contains_eq_any_beq]
   congr 1
   funext x
   refine(?_:((x:Int)==(j:Int))=(j==x))
   by_cases h:x=j
   ·subst h;simp
   ·have e1:((x:Int)==(j:Int))=false:=by simp;exact xF ‹_›
    have e2:(j==x)=false:=by simp;exact H0 ‹_›
    rw[e1,e2]
  rw[qQ t]
  cases s.ar.contains j with
  |true=>exact lG (l:=[65,66,67,68]) rfl dW (rh hj rfl rfl rfl rfl) (by decide)
  |false=>exact lG (l:=[97,98,99,100]) rfl dW (rh hj rfl rfl rfl rfl) (by decide)
theorem yEz{k:Nat}{ar:List Nat}(hk:At σ 1 (pn k))(hx:At σ 2 (.list (xs.map pn)))(ha:At σ 8 (.list (ar.map pn)))(hl:ar.length<=1000)(hxl:xs.length=5)(To:k<4):
  ev U (.ite (.cmp .Eq (.var 1) (.lit (.int 3))) (.bi 0 (.cons (.var 8) .nil)) (.bin .Mod (.idx (.var 2) (.bin .Add (.var 1) (.lit (.int 1)))) (.bin .Add (.bi 0 (.cons (.var 8) .nil)) (.lit (.int 1))))) σ=some (pn (cnt xs k ar)):=by
 have hlen:ev U (.bi 0 (.cons (.var 8) .nil)) σ=some (pn ar.length):=by
  rw[UA (zA ha) (by simp[ag];exact zB)];simp
 rw[qQ (AK (n:=3) (zA hk) rfl)]
 unfold cnt
 by_cases h3:k=3
 ·rw[if_pos (by simpa using h3),if_pos h3];exact hlen
 ·rw[if_neg (by simpa using h3),if_neg h3]
  refine qP (wH (zA hx) (iX (n:=1) (zA hk) rfl) ?_ (by simp[ag];exact zF)) (iX (n:=1) hlen rfl) (by exact Et _)
  rw[Ay]
  have:k+1<xs.length:=by lia
  rw[Aw,Ap this];rfl
theorem FY(k:Nat)(hk:k<4)(hx:xs.length=5)(h:NS σ xs aB s)(h1:At σ 1 (pn k))(hs:s.sz<=400)(hc:cnt xs k (wZ k s).ar<=(wZ k s).ar.length):
  ∃aC,yN U (gw l7) ⟨σ,β⟩=some (⟨aC,β⟩, .next)/\NS aC xs aB (mZ xs k s):=by
 have hz:s.m.length+s.sp.length+s.nm.length+s.od.length+s.ar.length<=400:=hs
 have lt:∀{τ:List (Option PV)} {i:Nat},τ.length=37->i<37->i<τ.length:=fun e hi=>by rw[e];exact hi
 have e1:den U (.aug .Add 4 (.lit (.str [40]))) ⟨σ,β⟩=some (⟨σ.set 4 (some (.str (s.m++[40]))),β⟩, .next):=Uv h.m rfl (by simp[ag];exact HK)
 generalize cf:σ.set 4 (some (.str (s.m++[40])))=cJ at e1
 have L1:cJ.length=37:=by rw[<-cf,Bd];exact h.len
 have m1:At cJ 4 (.str (s.m++[40])):=by rw[<-cf];exact zG (lt h.len (by decide))
 have x1:At cJ 2 (.list (xs.map pn)):=by rw[<-cf];exact h.xs.set (by decide)
 have t1:At cJ 3 (pn aB):=by rw[<-cf];exact h.aB.set (by decide)
 have s1:At cJ 5 (.list (s.sp.map pn)):=by rw[<-cf];exact h.sp.set (by decide)
 have n1:At cJ 6 (.list (s.nm.map .str)):=by rw[<-cf];exact h.nm.set (by decide)
 have o1:At cJ 7 (.list (s.od.map pn)):=by rw[<-cf];exact h.od.set (by decide)
 have a1:At cJ 8 (.list (s.ar.map pn)):=by rw[<-cf];exact h.ar.set (by decide)
 have k1:At cJ 1 (pn k):=by rw[<-cf];exact h1.set (by decide)
 have v2:ev U (.bi 0 (.cons (.var 4) .nil)) cJ=some (pn (s.m.length+1)):=by
  rw[nO (zA m1) (by simp[ag];exact HK)];simp
 have e2:den U (.append 5 (.bi 0 (.cons (.var 4) .nil))) ⟨cJ,β⟩=some (⟨cJ.set 5 (some (.list (s.sp.map pn++[pn (s.m.length+1)]))),β⟩, .next):=tM s1 v2 zX (by simp[ag];exact WA)
 have q2:s.sp.map pn++[pn (s.m.length+1)]=(s.sp++[s.m.length+1]).map pn:=by simp
 rw[q2]at e2
 generalize bG:cJ.set 5 (some (.list ((s.sp++[s.m.length+1]).map pn)))=bj at e2
 have L2:bj.length=37:=by rw[<-bG,Bd];exact L1
 have m2:At bj 4 (.str (s.m++[40])):=by rw[<-bG];exact m1.set (by decide)
 have x2:At bj 2 (.list (xs.map pn)):=by rw[<-bG];exact x1.set (by decide)
 have t2:At bj 3 (pn aB):=by rw[<-bG];exact t1.set (by decide)
 have s2:At bj 5 (.list ((s.sp++[s.m.length+1]).map pn)):=by rw[<-bG];exact zG (lt L1 (by decide))
 have n2:At bj 6 (.list (s.nm.map .str)):=by rw[<-bG];exact n1.set (by decide)
 have o2:At bj 7 (.list (s.od.map pn)):=by rw[<-bG];exact o1.set (by decide)
 have a2:At bj 8 (.list (s.ar.map pn)):=by rw[<-bG];exact a1.set (by decide)
 have k2:At bj 1 (pn k):=by rw[<-bG];exact k1.set (by decide)
 have e3:den U (.append 8 (.var 1)) ⟨bj,β⟩=some (⟨bj.set 8 (some (.list (s.ar.map pn++[pn k]))),β⟩, .next):=tM a2 (zA k2) zX (by simp[ag];exact zS)
 have q3:s.ar.map pn++[pn k]=(s.ar++[k]).map pn:=by simp
 rw[q3]at e3
 generalize bf:bj.set 8 (some (.list ((s.ar++[k]).map pn)))=aX at e3
 have L3:aX.length=37:=by rw[<-bf,Bd];exact L2
 have m3:At aX 4 (.str (s.m++[40])):=by rw[<-bf];exact m2.set (by decide)
 have x3:At aX 2 (.list (xs.map pn)):=by rw[<-bf];exact x2.set (by decide)
 have t3:At aX 3 (pn aB):=by rw[<-bf];exact t2.set (by decide)
 have s3:At aX 5 (.list ((s.sp++[s.m.length+1]).map pn)):=by rw[<-bf];exact s2.set (by decide)
 have n3:At aX 6 (.list (s.nm.map .str)):=by rw[<-bf];exact n2.set (by decide)
 have o3:At aX 7 (.list (s.od.map pn)):=by rw[<-bf];exact o2.set (by decide)
 have a3:At aX 8 (.list ((s.ar++[k]).map pn)):=by rw[<-bf];exact zG (lt L2 (by decide))
 have k3:At aX 1 (pn k):=by rw[<-bf];exact k2.set (by decide)
 have vn:=yAh (U:=U) (σ:=aX) (s:=⟨[],[],[],[],s.ar++[k]⟩) a3 L3 (by simp;exact zS)
 have e4:den U (.append 6 (.me 0 (.lit (.str [])) (.cons (.comp (.ite (.cmp .In (.var 37) (.var 8)) (.idx (.lit (.str [65,66,67,68])) (.var 37)) (.idx (.lit (.str [97,98,99,100])) (.var 37))) (.cv (.lit (.int 4))) .nil) .nil))) ⟨aX,β⟩=some (⟨aX.set 6 (some (.list (s.nm.map .str++[.str (lH (s.ar++[k]))]))),β⟩, .next):=by
  refine tM n3 ?_ yX (by simp[ag];exact WB)
  have hz:((lH (s.ar++[k])).map fun c=>PV.str [c])=((lH (s.ar++[k])).map fun c=> [c]).map PV.str:=by rw[A3];rfl
  rw[u5 (l:=(lH (s.ar++[k])).map fun c=> [c]) (by rw[<-hz];exact vn) (by
   rw[A3]
   have:∀l:List Nat,(l.map (B1∘fun c=> [c])).sum=l.length:=by
    intro l;induction l with
    |nil=>rfl
    |cons x l ih=>simp only[Bj,Fx,ih,Bl];simp;lia
   rw[this];simp[lH,ag])]
  have:∀l:List Nat,(l.map fun c=> [c]).flatten=l:=by
   intro l;induction l with
   |nil=>rfl
   |cons x l ih=>simp only[Bj,Fn,ih];rfl
  rw[this]
 have q4:s.nm.map PV.str++[PV.str (lH (s.ar++[k]))]=(s.nm++[lH (s.ar++[k])]).map PV.str:=by simp
 rw[q4]at e4
 generalize dX:aX.set 6 (some (.list ((s.nm++[lH (s.ar++[k])]).map PV.str)))=dH at e4
 have N4:NS dH xs aB (wZ k s):=by
  refine⟨by rw[<-dX,Bd];exact L3,?_,?_,?_,?_,?_,?_,?_⟩<;>rw[<-dX]
  ·exact x3.set (by decide)
  ·exact t3.set (by decide)
  ·exact m3.set (by decide)
  ·exact s3.set (by decide)
  ·exact zG (lt L3 (by decide))
  ·exact o3.set (by decide)
  ·exact a3.set (by decide)
 have k4:At dH 1 (pn k):=by rw[<-dX];exact k3.set (by decide)
 have ce:=yEz (U:=U) k4 N4.xs N4.ar (show(s.ar++[k]).length<=1000 by simp;exact zS) hx hk
 have Ub:cnt xs k (wZ k s).ar<=600:=Ah hc (show(s.ar++[k]).length<=600 by simp;exact zS)
 have hsz:(wZ k s).sz<=420:=by
  refine(?_:(s.m++[40]).length+(s.sp++[_]).length+(s.nm++[_]).length+s.od.length+(s.ar++[k]).length<=420)
  simp;lia
 obtain⟨iY,e5,N5,_⟩:=UB (U:=U) (β:=β) ((Ae (cnt xs k (wZ k s).ar)).map fun i=> [pn i]) dH (wZ k s) (fun it hit=>by obtain⟨i,_,rfl⟩:=D6.mp hit;exact⟨_,rfl⟩) N4 (by
  have:(wZ k s).ar.length<=480\/True:= .inr trivial
  have h2:(s.ar++[k]).length=s.ar.length+1:=by simp
  have h3:cnt xs k (wZ k s).ar<=s.ar.length+1:=Ah hc (Fi h2)
  simp;lia) (by simpa using hc)
 refine i12 iY ?_ ?_
 ·refine(?_:yN U (.cons _ (.cons _ (.cons _ (.cons _ (.cons _ .nil))))) _=_)
  rw[zK e1,zK e2,zK e3,zK e4]
  refine zK (r:= .nil) ?_
  refine(?_:((gz U (.cv _) dH).bind _)=_)
  refine zZ (jS ce (by exact zB)) ?_
  exact e5
 ·have:=N5
  rw[Az,Gx]at this
  exact this
end
set_option genInjectivity true
noncomputable def FZ(xs:List Nat):eP:=mZ xs 3 (mZ xs 2 (mZ xs 1 (mZ xs 0 cV)))
theorem zPv(s:eP):(gv s).sz<=s.sz+2/\(gv s).ar.length<=s.ar.length:=by
 have h1:(s.m++[41]).length=s.m.length+1:=by simp
 have h2:(s.od++[s.ar.getLastD 0+1]).length=s.od.length+1:=by simp
 have h3:s.ar.dropLast.length=s.ar.length-1:=Lm
 have h4:(gv s).ar.length=s.ar.length-1:=h3
 refine aZ ?_ (by lia)
 refine(?_:(s.m++[41]).length+s.sp.length+s.nm.length+(s.od++[s.ar.getLastD 0+1]).length+s.ar.dropLast.length<=s.m.length+s.sp.length+s.nm.length+s.od.length+s.ar.length+2)
 lia
theorem UC:∀(c:Nat) (s:eP),(mY gv c s).sz<=s.sz+2*c/\(mY gv c s).ar.length<=s.ar.length
 |0,s=>⟨by simp[mY],by simp[mY]⟩
 |c+1,s=>by
  refine ao (UC c (gv s)) fun h1 h2=>?_
  refine ao (zPv s) fun h3 h4=>?_
  exact aZ (by refine(?_:(mY gv c (gv s)).sz<=_);lia) (by refine(?_:(mY gv c (gv s)).ar.length<=_);exact Ah ‹_› ‹_›)
theorem AN(xs:List Nat)(k:Nat)(ar:List Nat):cnt xs k ar<=ar.length:=by
 unfold cnt
 split
 ·exact B6 _
 ·exact Ft (Cw _ (by exact Et _))
theorem zZ4(k:Nat)(s:eP):(wZ k s).sz=s.sz+4/\(wZ k s).ar.length=s.ar.length+1:=by
 refine aZ ?_ (by refine(?_:(s.ar++[k]).length=_);simp)
 refine(?_:(s.m++[40]).length+(s.sp++[s.m.length+1]).length+(s.nm++[lH (s.ar++[k])]).length+s.od.length+(s.ar++[k]).length=s.m.length+s.sp.length+s.nm.length+s.od.length+s.ar.length+4)
 simp;lia
theorem OQ(xs:List Nat)(k:Nat)(s:eP):(mZ xs k s).sz<=s.sz+6+2*s.ar.length/\(mZ xs k s).ar.length<=s.ar.length+1:=by
 refine ao (zZ4 k s) fun h1 h2=>?_
 have h3:=AN xs k (wZ k s).ar
 refine ao (UC (cnt xs k (wZ k s).ar) (wZ k s)) fun h4 h5=>?_
 unfold mZ
 exact aZ (by lia) (by exact yW)
section
variable{U:Uc}{σ:List (Option PV)}{β:Option (Value×ak)}{xs:List Nat}{aB:Nat}
theorem AO{i n:Nat}{e:PE}{b:dD}(h:ev U e σ=some (pn n))(hn:n<=16777216):den U (.forR i e b) ⟨σ,β⟩=wN [i] (yN U b) ((Ae n).map fun k=> [pn k]) ⟨σ,β⟩:=by
 refine(?_:((gz U (.cv e) σ).bind _)=_)
 exact zZ (jS h hn) rfl
theorem zUq{i j:Nat}{b:dD}{l:List PV}(h:At σ j (.list l)):den U (.kB i j b) ⟨σ,β⟩=wN [i] (yN U b) (l.map fun x=> [x]) ⟨σ,β⟩:=by
 refine(?_:((((σ[j]?).bind id).bind j9).bind _)=_)
 rw[h];rfl
theorem yDu(hx:xs.length=5)(h:NS σ xs aB cV):∃aC,den U l7 ⟨σ,β⟩=some (⟨aC,β⟩, .next)/\NS aC xs aB (FZ xs):=by
 have z0:cV.sz=2/\cV.ar.length=0:=⟨rfl,rfl⟩
 refine ao (OQ xs 0 cV) fun a1 b1=>?_
 refine ao (OQ xs 1 (mZ xs 0 cV)) fun a2 b2=>?_
 refine ao (OQ xs 2 (mZ xs 1 (mZ xs 0 cV))) fun a3 b3=>?_
 have GC:∀{τ:List (Option PV)} {s:eP} (k:Nat),NS τ xs aB s->At (τ.set 1 (some (pn k))) 1 (pn k):=fun k h=>zG (by rw[h.len];decide)
 refine aD (FY (U:=U) (β:=β) 0 (by decide) hx (h.m7 (i:=1) (p:=pn 0) (.inl rfl)) (GC 0 h) (by lia) (AN _ _ _)) fun cJ e1 h1=>?_
 refine aD (FY (U:=U) (β:=β) 1 (by decide) hx (h1.m7 (i:=1) (p:=pn 1) (.inl rfl)) (GC 1 h1) (by exact zB) (AN _ _ _)) fun bj e2 h2=>?_
 refine aD (FY (U:=U) (β:=β) 2 (by decide) hx (h2.m7 (i:=1) (p:=pn 2) (.inl rfl)) (GC 2 h2) (by lia) (AN _ _ _)) fun aX e3 h3=>?_
 refine aD (FY (U:=U) (β:=β) 3 (by decide) hx (h3.m7 (i:=1) (p:=pn 3) (.inl rfl)) (GC 3 h3) (by lia) (AN _ _ _)) fun dH e4 h4=>?_
 refine i12 dH ?_ h4
 have el:l7= .forR 1 (.lit (.int 4)) (gw l7):=rfl
 rw[el]
 rw[AO (n:=4) rfl (by decide)]
 refine(?_:((yN U (gw l7) ⟨σ.set 1 (some (pn 0)),β⟩).bind _)=_)
 rw[e1]
 refine(?_:((yN U (gw l7) ⟨cJ.set 1 (some (pn 1)),β⟩).bind _)=_)
 rw[e2]
 refine(?_:((yN U (gw l7) ⟨bj.set 1 (some (pn 2)),β⟩).bind _)=_)
 rw[e3]
 refine(?_:((yN U (gw l7) ⟨aX.set 1 (some (pn 3)),β⟩).bind _)=_)
 rw[e4]
 rfl
end
noncomputable def gf(c k:Nat)(s:eP):eP:=mY gv c (wZ k s)
noncomputable def yZ(t:Nat×Nat×Nat):eP:=mY gv (wZ 3 (gf t.2.2 2 (gf t.2.1 1 (gf t.1 0 cV)))).ar.length (wZ 3 (gf t.2.2 2 (gf t.2.1 1 (gf t.1 0 cV))))
noncomputable def eQ:List (Nat×Nat×Nat):=[(0,0,0),(0,0,1),(0,0,2),(0,0,3),(0,1,0),(0,1,1),(0,1,2),(0,2,0),(0,2,1),(1,0,0),(1,0,1),(1,0,2),(1,1,0),(1,1,1)]
theorem zVl(n0 n1 n2 n3 n4:Nat):∃t∈eQ,FZ [n0,n1,n2,n3,n4]=yZ t:=by
 have h0:∀c0:Nat,c0=n1%2->∀c1,c1=n2%((wZ 1 (gf c0 0 cV)).ar.length+1)->∀c2,c2=n3%((wZ 2 (gf c1 1 (gf c0 0 cV))).ar.length+1)->FZ [n0,n1,n2,n3,n4]=yZ (c0,c1,c2):=by
  rintro c0 rfl c1 rfl c2 rfl
  rfl
 have l0:n1%2<2:=Cw _ (by decide)
 generalize x4:n1%2=c0 at l0
 have l1:n2%((wZ 1 (gf c0 0 cV)).ar.length+1)<(wZ 1 (gf c0 0 cV)).ar.length+1:=Cw _ (Et _)
 generalize JH:n2%((wZ 1 (gf c0 0 cV)).ar.length+1)=c1 at l1
 have l2:n3%((wZ 2 (gf c1 1 (gf c0 0 cV))).ar.length+1)<(wZ 2 (gf c1 1 (gf c0 0 cV))).ar.length+1:=Cw _ (Et _)
 generalize JI:n3%((wZ 2 (gf c1 1 (gf c0 0 cV))).ar.length+1)=c2 at l2
 refine i12 (c0,c1,c2) ?_ (h0 c0 x4.symm c1 JH.symm c2 JI.symm)
 have key:((Ae 2).all fun c0=>(Ae ((wZ 1 (gf c0 0 cV)).ar.length+1)).all fun c1=>(Ae ((wZ 2 (gf c1 1 (gf c0 0 cV))).ar.length+1)).all fun c2=>eQ.contains (c0,c1,c2))=true:=by decide+kernel
 have k0:=Al.mp key c0 (Bg.mpr l0)
 have k1:=Al.mp k0 c1 (Bg.mpr l1)
 have k2:=Al.mp k1 c2 (Bg.mpr l2)
 simpa using k2
section
variable{U:Uc}{σ:List (Option PV)}{β:Option (Value×ak)}
theorem OR:∀(is:List Int) (idx:List Nat),PV.ints (idx.filterMap ((is.map PV.int)[·]?))=some (idx.filterMap (is[·]?))
 |is,[]=>rfl
 |is,j::idx=>by
  rw[Di,Di,Ay]
  cases is[j]? with
  |none=>exact OR is idx
  |some x=>
   refine(?_:(PV.ints (idx.filterMap _)).map _=_)
   rw[OR is idx];rfl
theorem yDb{is:List Int}{k:Nat}{st:Int}(h0:At σ 0 (.list (is.map .int)))(hl:is.length<=1000)(hk:At σ 37 (pn k))(hs:At σ 38 (.int st)):
  ∃n:Nat,ev U (.bin .Mod (.bin .Add (.var 38) (.bi 1 (.cons (.bS (.var 0) (.yes (.var 37)) .no (.yes (.lit (.int 5)))) .nil))) (.lit (.int 1000000))) σ=some (pn n):=by
 have e1:ev U (.bS (.var 0) (.yes (.var 37)) .no (.yes (.lit (.int 5)))) σ=some (.list ((Hn (Cd (some (k:Int)) none (some 5) is.length).1 (Cd (some (k:Int)) none (some 5) is.length).2.1 (Cd (some (k:Int)) none (some 5) is.length).2.2).filterMap ((is.map PV.int)[·]?))):=by
  refine(?_:(ev U (.var 0) σ).bind _=_)
  refine zZ (zA h0) ?_
  refine(?_:((ev U (.var 37) σ).bind _).bind _=_)
  rw[zA hk,Au]
  refine(?_:BU (.list (is.map PV.int)) (some (k:Int)) none (some 5)=_)
  have:((5:Int)==0||decide (ag<(is.map PV.int).length))=false:=by simp[ag];exact zB
  unfold BU
  dsimp only
  rw[this]
  simp
 have e2:ev U (.bi 1 (.cons (.bS (.var 0) (.yes (.var 37)) .no (.yes (.lit (.int 5)))) .nil)) σ=some (.int ((Hn (Cd (some (k:Int)) none (some 5) is.length).1 (Cd (some (k:Int)) none (some 5) is.length).2.1 (Cd (some (k:Int)) none (some 5) is.length).2.2).filterMap (is[·]?)).sum):=by
  refine(?_:((ev U _ σ).bind fun x=>(some []).map (x:: ·)).bind _=_)
  rw[e1]
  refine(?_:(PV.ints _).bind _=_)
  rw[OR];rfl
 generalize((Hn (Cd (some (k:Int)) none (some 5) is.length).1 (Cd (some (k:Int)) none (some 5) is.length).2.1 (Cd (some (k:Int)) none (some 5) is.length).2.2).filterMap (is[·]?)).sum=S at e2
 have e3:ev U (.bin .Add (.var 38) (.bi 1 (.cons (.bS (.var 0) (.yes (.var 37)) .no (.yes (.lit (.int 5)))) .nil))) σ=some (.int (st+S)):=by
  refine(?_:(ev U (.var 38) σ).bind _=_)
  (refine zZ (zA hs) ?_;rw[e2]);rfl
 refine bU (((st+S)%1000000).toNat) ?_
 refine(?_:(ev U (.bin .Add _ _) σ).bind _=_)
 rw[e3]
 refine(?_:some (PV.int ((st+S)%1000000))=_)
 have:0<=(st+S)%1000000:=Int.emod_nonneg _ (by decide)
 refine(?_:_=some (PV.int (((st+S)%1000000).toNat:Int)))
 rw[I1 this]
theorem yBb{elt:PE}{src:nu}:∀{its:List (List PV)},gz U src σ=some its->its.length<=ag->(∀it∈its,∃n:Nat,ev U elt (σ++it.map some)=some (pn n))->∃ns:List Nat,ns.length=its.length/\ev U (.comp elt src .nil) σ=some (.list (ns.map pn)):=by
 intro its hs hl h
 have:∀its:List (List PV),(∀it∈its,∃n:Nat,ev U elt (σ++it.map some)=some (pn n))->∃ns:List Nat,ns.length=its.length/\wX (fun it=>(lj U .nil (σ++it.map some)).bind fun ok=>if ok then(ev U elt (σ++it.map some)).bind fun y=>if fresh elt y then some (some y)else none else some none) its=some (ns.map pn):=by
  intro its
  induction its with
  |nil=>exact fun _=>⟨[],rfl,rfl⟩
  |cons it its ih=>
   intro h
   refine aK (h it (Ag ..)) fun n hn=>?_
   refine aD (ih fun q hq=>h q (Ad _ hq)) fun ns h1 h2=>?_
   refine i12 (n::ns) (by simp[h1]) ?_
   unfold wX
   have e1:(lj U .nil (σ++it.map some)).bind (fun ok=>if ok then(ev U elt (σ++it.map some)).bind fun y=>if fresh elt y then some (some y)else none else some none)=some (some (pn n)):=by
    refine(?_:((some true:Option Bool).bind fun ok=>if ok then _ else _)=_)
    simp only[Au,if_true]
    (refine zZ hn ?_;exact wI zX rfl)
   rw[e1]
   rw[h2];rfl
 refine aD (this its h) fun ns h1 h2=>?_
 refine i12 ns h1 ?_
 refine(?_:(gz U src σ).bind _=_)
 (refine zZ hs ?_;refine wI hl ?_;rw[h2]);rfl
theorem yDd{is:List Int}(h0:At σ 0 (.list (is.map .int)))(hl:is.length<=1000)(bW:σ.length=37):∃xs:List Nat,xs.length=5/\den U l0 ⟨σ,β⟩=some (⟨σ.set 2 (some (.list (xs.map pn))),β⟩, .next):=by
 obtain⟨xs,h1,h2⟩:=yBb (U:=U) (σ:=σ) (elt:= .bin .Mod (.bin .Add (.var 38) (.bi 1 (.cons (.bS (.var 0) (.yes (.var 37)) .no (.yes (.lit (.int 5)))) .nil))) (.lit (.int 1000000)))
  (src:= .enum (.list (.cons (.lit (.int 792)) (.cons (.lit (.int 384)) (.cons (.lit (.int 12)) (.cons (.lit (.int 1238)) (.cons (.lit (.int 252)) .nil))))))) (its:=[[pn 0,pn 792],[pn 1,pn 384],[pn 2,pn 12],[pn 3,pn 1238],[pn 4,pn 252]]) rfl (by decide) (fun it hit=>by
   have key:∀(k:Nat) (st:Int),∃n:Nat,ev U (.bin .Mod (.bin .Add (.var 38) (.bi 1 (.cons (.bS (.var 0) (.yes (.var 37)) .no (.yes (.lit (.int 5)))) .nil))) (.lit (.int 1000000))) (σ++[some (pn k),some (.int st)])=some (pn n):=fun k st=>by
    refine yDb (st:=st) (h0.app (τ:=[some (pn k),some (.int st)])) hl (g8 bW) ?_
    refine(?_:At (σ++([some (pn k)]++[some (.int st)])) 38 _)
    rw[<-Br]
    exact g8 (by simp[bW])
   simp only[Av,Ar,or_false]at hit
   rcases hit with rfl|rfl|rfl|rfl|rfl<;>exact key _ _)
 refine i12 xs h1 (zD h2 (u3 fun x _=>zX))
theorem GD{i:Nat}{xs:List Nat}(h:At σ i (.list (xs.map pn))):ev U (.bi 1 (.cons (.var i) .nil)) σ=some (pn xs.sum):=by
 refine(?_:((ev U (.var i) σ).bind fun x=>(some []).map (x:: ·)).bind _=_)
 rw[zA h]
 refine(?_:(PV.ints (xs.map pn)).bind _=_)
 rw[u4]
 refine(?_:some (PV.int ((xs.map fun n:Nat=>(n:Int)).sum))=_)
 have:∀l:List Nat,((l.map fun n:Nat=>(n:Int)).sum)=(l.sum:Int):=by
  intro l
  induction l with
  |nil=>rfl
  |cons x l ih=>simp only[Bj,Fx,ih];lia
 rw[this]
end
noncomputable def g9:List (List Nat):=[[],[92,40],[92,41],[34,40,34],[34,41,34],[34,92,34,41,34],[92,92],[92,34],[34]]
noncomputable def lI(m th:List Nat)(pl:Nat):List (List Nat):=(Ae 8).map fun k=> [m.getD k 0]++if k==pl then th else []
noncomputable def iN(x:Nat):Nat:=x/12%4
noncomputable def iO(xs:List Nat)(nm:List (List Nat))(v:Nat):List (Bool×Nat):=(Ae 4).map fun j=>(xs.getD v 0/144/2^j%2==1,(nm.getD v []).getD j 0)
noncomputable def yQ(xs:List Nat)(nm:List (List Nat))(v:Nat):Nat×List (Bool×Nat):=(iN (xs.getD v 0),iO xs nm v)
section
variable{U:Uc}{σ:List (Option PV)}{β:Option (Value×ak)}{xs:List Nat}
theorem yDz{aB:Nat}(h3:At σ 3 (pn aB)):den U l9 ⟨σ,β⟩=some (⟨σ.set 10 (some (.str (g9.getD (aB%9) []))),β⟩, .next):=by
 refine zD (e:= .idx (.list _) (.bin .Mod (.var 3) (.lit (.int 9)))) ?_ yX
 have aY:aB%9<9:=Cw _ (by decide)
 refine wH (l:=g9.map PV.str) (n:=aB%9) rfl (qP (n:=9) (zA h3) rfl (by decide)) ?_ (by decide)
 rw[Ay,Aw,Ap (show aB%9<g9.length from aY)];rfl
theorem zX6{aB:Nat}{m th:List Nat}(bW:σ.length=37)(h3:At σ 3 (pn aB))(h4:At σ 4 (.str m))(hm:m.length=8)(iJ:At σ 10 (.str th))(ht:th.length<=100):
  den U TY ⟨σ,β⟩=some (⟨σ.set 11 (some (.list ((lI m th (aB/9%8)).map .str))),β⟩, .next):=by
 have:=kT (U:=U) (σ:=σ) (elt:= .bin .Add (.idx (.var 4) (.var 37)) (.ite (.cmp .Eq (.var 37) (.bin .Mod (.bin .FloorDiv (.var 3) (.lit (.int 9))) (.lit (.int 8)))) (.var 10) (.lit (.str [])))) (src:= .cv (.lit (.int 8))) (l:=Ae 8) (it:=fun i=> [pn i])
  (g:=fun k=> .str ([m.getD k 0]++if k==aB/9%8 then th else [])) (jS (n:=8) rfl (by decide)) (by decide) fun k hk=>?_
 ·refine zD (e:= .comp _ _ _) (this.trans ?_) (show fresh (.comp _ _ _) (.list ((lI m th (aB/9%8)).map .str))=true from u3 fun x _=>yX)
  unfold lI
  rw[A3];rfl
 ·have hk:k<8:=Bg.mp hk
  have dW:ev U (.var 37) (σ++Bv some [pn k])=some (pn k):=zA (g8 bW)
  refine aZ (jT (lG (zA h4.app) dW (c:=m.getD k 0) ?_ (by rw[hm];decide)) ?_ ?_) yX
  ·rw[Aw,Ap (by exact zH)];rfl
  ·rw[qQ (AK dW (qP (n:=8) (tN (n:=9) (zA h3.app) rfl (by decide)) rfl (by decide)))]
   cases k==aB/9%8 with
   |true=>exact zA (U:=U) (p:= .str th) iJ.app
   |false=>rfl
  ·split<;>simp[ag];exact zQ
theorem yB6(bW:σ.length=37)(h2:At σ 2 (.list (xs.map pn)))(hx:xs.length=5):den U TZ ⟨σ,β⟩=some (⟨σ.set 12 (some (.list ((xs.map iN).map pn))),β⟩, .next):=by
 have:=kT (U:=U) (σ:=σ) (elt:= .bin .Mod (.bin .FloorDiv (.var 37) (.lit (.int 12))) (.lit (.int 4))) (src:= .items (.var 2)) (l:=xs) (it:=fun i=> [pn i])
  (g:=fun x=>pn (iN x)) (by rw[AJ (zA h2),A3];rfl) (by rw[hx];decide) fun x _=>?_
 ·refine zD (e:= .comp _ _ _) (this.trans ?_) (show fresh (.comp _ _ _) (.list ((xs.map iN).map pn))=true from u3 fun x _=>zX)
  rw[A3];rfl
 ·exact aZ (qP (n:=4) (tN (n:=12) (zA (g8 bW)) rfl (by decide)) rfl (by decide)) zX
theorem yC6{j:Nat}(hj:j<=60){e:PE}(h:ev U e σ=some (pn j)):ev U (.bin .Pow (.lit (.int 2)) e) σ=some (pn (2^j)):=by
 refine(?_:(some (PV.int 2)).bind _=_)
 rw[Au,h,Au]
 refine(?_:G6 PV.int (if(decide ((2:Int)=2)&&decide ((0:Int)<=(j:Int))&&decide ((j:Int)<=60))=true then some ((2:Int)^((j:Int).toNat))else none)=_)
 rw[if_pos (by simp;exact yD)]
 refine(?_:some (PV.int (2^j))=_)
 rw[show((2:Int)^j)=((2^j:Nat):Int)by push_cast;rfl]
theorem UD(a:List Nat)(n:Int):BS .Mult (.str a) (.int n)=if(wV n&&decide (a.length*n.toNat<=ag))=true then some (.str (Ai n.toNat a).flatten)else none:=rfl
theorem AP{e:PE}{c n:Nat}(h:ev U e σ=some (pn n))(hn:n<=1000):ev U (.bin .Mult (.lit (.str [c])) e) σ=some (.str (Ai n c)):=by
 refine(?_:(some (PV.str [c])).bind _=_)
 rw[Au,h,Au]
 rw[UD]
 refine wI (by rw[u2 (by exact zB),Gs];exact decide_eq_true (by simp[ag];exact zB)) ?_
 have:∀n:Nat,(Ai n [c]).flatten=Ai n c:=by
  intro n
  induction n with
  |zero=>rfl
  |succ n ih=>rw[Bk,Fn,ih,Bk];rfl
 refine(?_:some (PV.str (Ai n [c]).flatten)=_)
 rw[this]
theorem zV6(l:List (Bool×Nat)):(l.map fun q=>(if q.1 then [92]else [])++[q.2]).flatten=enc l:=by
 induction l with
 |nil=>rfl
 |cons q l ih=>
  obtain⟨b,c⟩:=q
  rw[Bj,Fn,ih]
  cases b<;>rfl
theorem UE(l:List (Bool×Nat)):(enc l).length<=2*l.length:=by
 induction l with
 |nil=>exact B6 _
 |cons q l ih=>
  obtain⟨b,c⟩:=q
  refine(?_:((if b then [92,c]else [c])++enc l).length<=_)
  cases b<;>simp<;>lia
theorem kU{α β:Type}(f:α->β){l:List α}{i:Nat}(d:α)(h:i<l.length):(l.map f)[i]?=some (f (l.getD i d)):=by
 rw[Ay,Aw,Ap h];rfl
theorem tP{α:Type}{l:List α}{i:Nat}(d:α)(h:i<l.length):l[i]?=some (l.getD i d):=by
 rw[Aw,Ap h];rfl
theorem zZk{nm:List (List Nat)}{rows:List (List Nat)}{v:Nat}(bW:σ.length=37)(h2:At σ 2 (.list (xs.map pn)))(hx:xs.length=5)(h6:At σ 6 (.list (nm.map .str)))(hn:nm.length=5)(qu:∀l∈nm,l.length=4)
  (h12:At σ 12 (.list ((xs.map iN).map pn))) (fC:At σ 13 (.list (rows.map .str))) (hr:rows.length<=100) (AQ:At σ 14 (pn v)) (hv:v<5):
  ∃q,yN U (gw tD) ⟨σ,β⟩=some (⟨(σ.set 15 (some q)).set 13 (some (.list ((rows++[wB (yQ xs nm v)]).map .str))),β⟩, .next):=by
 have hnv:(nm.getD v []).length=4:=by
  rw[Aw,Ap (by exact zH)]
  exact qu _ (Ee _)
 have e1:=kT (U:=U) (σ:=σ) (elt:= .bin .Add (.ite (.cmp .Eq (.bin .Mod (.bin .FloorDiv (.bin .FloorDiv (.idx (.var 2) (.var 14)) (.lit (.int 144))) (.bin .Pow (.lit (.int 2)) (.var 37))) (.lit (.int 2))) (.lit (.int 1))) (.lit (.str [92])) (.lit (.str []))) (.idx (.idx (.var 6) (.var 14)) (.var 37)))
  (src:= .cv (.lit (.int 4))) (l:=Ae 4) (it:=fun i=> [pn i]) (g:=fun j=> .str ((if xs.getD v 0/144/2^j%2==1 then [92]else [])++[(nm.getD v []).getD j 0])) (jS (n:=4) rfl (by decide)) (by decide) fun j hj=>?_
 ·have e2:ev U (.me 0 (.lit (.str [])) (.cons (.comp (.bin .Add (.ite (.cmp .Eq (.bin .Mod (.bin .FloorDiv (.bin .FloorDiv (.idx (.var 2) (.var 14)) (.lit (.int 144))) (.bin .Pow (.lit (.int 2)) (.var 37))) (.lit (.int 2))) (.lit (.int 1))) (.lit (.str [92])) (.lit (.str []))) (.idx (.idx (.var 6) (.var 14)) (.var 37))) (.cv (.lit (.int 4))) .nil) .nil)) σ=some (.str (enc (iO xs nm v))):=by
   have q:((Ae 4).map fun j=>PV.str ((if xs.getD v 0/144/2^j%2==1 then [92]else [])++[(nm.getD v []).getD j 0]))=((iO xs nm v).map fun q=>(if q.1 then [92]else [])++[q.2]).map PV.str:=by
    unfold iO
    rw[A3,A3];rfl
   rw[q]at e1
   rw[u5 e1 ?_,zV6]
   have:∀l:List (Bool×Nat),((l.map fun q=>(if q.1 then [92]else [])++[q.2]).map B1).sum<=2*l.length:=by
    intro l
    induction l with
    |nil=>exact B6 _
    |cons q l ih=>
     obtain⟨b,c⟩:=q
     simp only[Bj,Fx,Bl]
     cases b<;>simp at ih⊢ <;>lia
   refine Ah (this _) ?_
   simp[iO,ag]
  have hel:(enc (iO xs nm v)).length<=8:=Ah (UE _) (by simp[iO])
  refine bU (.str (enc (iO xs nm v))) ?_
  have s1:den U (.assign 15 _) ⟨σ,β⟩=some (⟨σ.set 15 (some (.str (enc (iO xs nm v)))),β⟩, .next):=zD e2 yX
  refine(zK s1).trans (zK (r:= .nil) ?_)
  have UG:At (σ.set 15 (some (.str (enc (iO xs nm v))))) 15 (.str (enc (iO xs nm v))):=zG (by rw[bW];decide)
  have hm:ev U (.idx (.var 12) (.var 14)) (σ.set 15 (some (.str (enc (iO xs nm v)))))=some (pn (iN (xs.getD v 0))):=by
   refine wH (zA (h12.set (by decide))) (zA (AQ.set (by decide))) ?_ (by simp[hx,ag])
   rw[A3]
   exact kU _ 0 (by exact zH)
  have Ox:iN (xs.getD v 0)<4:=Cw _ (by decide)
  rw[show(rows++[wB (yQ xs nm v)]).map PV.str=rows.map .str++[.str (wB (yQ xs nm v))]by simp]
  refine tM (fC.set (by decide)) ?_ yX (by simp[ag];exact zB)
  rw[qQ (tO (n:=0) hm rfl)]
  unfold wB yQ
  by_cases h0:0<iN (xs.getD v 0)
  ·rw[if_pos (decide_eq_true h0),if_pos h0]
   exact jT (AP hm (by exact zC)) (zA UG) (by rw[Bq];unfold ag;lia)
  ·rw[if_neg (by simpa using h0),if_neg h0]
   have:=jT (U:=U) (σ:=σ.set 15 (some (.str (enc (iO xs nm v))))) (a:= .bin .Add (.lit (.str [34])) (.var 15)) (b:= .lit (.str [34])) (jT (a:= .lit (.str [34])) rfl (zA UG) (by simp[ag];exact zQ)) rfl (by simp[ag];exact zB)
   rw[this];simp
 ·have hj:j<4:=Bg.mp hj
  have dW:ev U (.var 37) (σ++Bv some [pn j])=some (pn j):=zA (g8 bW)
  have UH:ev U (.var 14) (σ++Bv some [pn j])=some (pn v):=zA AQ.app
  refine aZ (jT ?_ (lG (wH (p:= .str (nm.getD v [])) (zA h6.app) UH (kU _ [] (by exact zH)) (by simp[hn,ag])) dW (tP 0 (by exact zH)) (by rw[hnv];decide)) ?_) yX
  ·have hp:2^j<=8:=by
    have:2^j<=2^3:=Ln (by decide) (by exact Ft ‹_›)
    exact this
   have hp0:0<2^j:=Nat.pos_of_ne_zero (by simp)
   rw[qQ (AK (n:=1) (qP (n:=2) (tN (tN (n:=144) (wH (p:=pn (xs.getD v 0)) (zA h2.app) UH (kU _ 0 (by exact zH)) (by simp[hx,ag])) rfl (by decide)) (yC6 (by exact zC) dW) ⟨hp0,by exact zE⟩) rfl (by decide)) rfl)]
   split<;>rfl
  ·split<;>simp[ag]
end
structure FA(σ:List (Option PV))(xs:List Nat)(aB:Nat)(sp:List Nat)(nm:List (List Nat))(od:List Nat)(pc:List (List Nat)):Prop where
 len:σ.length=37
 x:At σ 2 (.list (xs.map pn))
 t:At σ 3 (pn aB)
 sp:At σ 5 (.list (sp.map pn))
 nm:At σ 6 (.list (nm.map .str))
 od:At σ 7 (.list (od.map pn))
 pc:At σ 11 (.list (pc.map .str))
 ml:At σ 12 (.list ((xs.map iN).map pn))
theorem FA.set{σ:List (Option PV)}{xs:List Nat}{aB:Nat}{sp:List Nat}{nm:List (List Nat)}{od:List Nat}{pc:List (List Nat)}(h:FA σ xs aB sp nm od pc){i:Nat}{p:PV}(hi:i=1\/i=9\/13<=i):FA (σ.set i (some p)) xs aB sp nm od pc:=by
 refine⟨by rw[Bd];exact h.len,h.x.set ?_,h.t.set ?_,h.sp.set ?_,h.nm.set ?_,h.od.set ?_,h.pc.set ?_,h.ml.set ?_⟩<;>exact xH ‹_› rfl
theorem UI{α β:Type}(f:α->β)(l:List α)(d:α):(Ae l.length).map (fun k=>f (l.getD k d))=l.map f:=by
 apply List.ext_getElem
 ·simp
 ·intro i h1 h2
  simp at h1 h2
  simp[Aw,Ap h1]
section
variable{U:Uc}{σ:List (Option PV)}{β:Option (Value×ak)}{xs:List Nat}{aB:Nat}{sp:List Nat}{nm:List (List Nat)}{od:List Nat}{pc:List (List Nat)}
theorem UJ(hx:xs.length=5)(hn:nm.length=5)(qu:∀l∈nm,l.length=4):∀(vs:List Nat) (σ:List (Option PV)) (rows:List (List Nat)),(∀v∈vs,v<5)->FA σ xs aB sp nm od pc->At σ 13 (.list (rows.map .str))->rows.length+vs.length<=100->
  ∃aC,wN [14] (yN U (gw tD)) (vs.map fun v=> [pn v]) ⟨σ,β⟩=some (⟨aC,β⟩, .next)/\FA aC xs aB sp nm od pc/\At aC 13 (.list ((rows++vs.map fun v=>wB (yQ xs nm v)).map .str))
 |[],σ,rows,_,F,fC,_=>⟨σ,rfl,F,by simpa using fC⟩
 |v::vs,σ,rows,hv,F,fC,hl=>by
  simp only[Bl]at hl
  have F1:=F.set (i:=14) (p:=pn v) (.inr (.inr (by decide)))
  obtain⟨q,e1⟩:=zZk (U:=U) (β:=β) F1.len F1.x hx F1.nm hn qu F1.ml (rows:=rows) (fC.set (by decide)) (by exact zR) (v:=v) (zG (by rw[F.len];decide)) (hv v (Ag ..))
  have F2:=(F1.set (i:=15) (p:=q) (.inr (.inr (by decide)))).set (i:=13) (p:= .list ((rows++[wB (yQ xs nm v)]).map .str)) (.inr (.inr (by decide)))
  obtain⟨aC,e2,F3,h3⟩:=UJ hx hn qu vs _ (rows++[wB (yQ xs nm v)]) (fun u hu=>hv u (Ad _ hu)) F2 (zG (by rw[Bd,F1.len];decide)) (by simp;exact zY)
  refine nU aC ?_ F3 (by simpa using h3)
  refine(?_:((yN U (gw tD) ⟨σ.set 14 (some (pn v)),β⟩).bind _)=_)
  rw[e1];exact e2
theorem zX3(hx:xs.length=5)(hn:nm.length=5)(qu:∀l∈nm,l.length=4)(hv:∀v∈od,v<5)(ho:od.length=5)(F:FA σ xs aB sp nm od pc)(fC:At σ 13 (.list [])):
  ∃aC,den U tD ⟨σ,β⟩=some (⟨aC,β⟩, .next)/\FA aC xs aB sp nm od pc/\At aC 13 (.list ((od.map fun v=>wB (yQ xs nm v)).map .str)):=by
 obtain⟨aC,e,F',h'⟩:=UJ (U:=U) (β:=β) hx hn qu od σ [] hv F fC (by simp;exact zF)
 refine nU aC ?_ F' (by exact h')
 have el:tD= .kB 14 7 (gw tD):=rfl
 rw[el,zUq F.od,A3]
 exact e
noncomputable def jU(xs:List Nat)(nm:List (List Nat))(v:Nat):List Nat×List Nat:=(wB (yQ xs nm v),mX.getD (xs.getD v 0/48%3) [])
theorem zT0(q:Nat×List (Bool×Nat)):(wB q).length<=q.1+2*q.2.length+2:=by
 unfold wB
 have:=UE q.2
 split<;>simp<;>lia
theorem u6{α:Type}(f:α->Nat)(b:Nat):∀l:List α,(∀x∈l,f x<=b)->(l.map f).sum<=l.length*b
 |[],_=>by simp
 |x::l,h=>by
  have:=u6 f b l fun y hy=>h y (Ad _ hy)
  have:=h x (Ag ..)
  simp only[Bj,Fx,Bl,Nat.add_mul]
  lia
theorem UK(i:Nat):(mX.getD (i%3) []).length<=2:=by
 have:i%3<3:=Cw _ (by decide)
 generalize i%3=k at this
 exact Pp this (by decide) (by decide) (by decide)
theorem zY5(i:Nat):mX.getD (i%3) []∈mX:=by
 have:i%3<3:=Cw _ (by decide)
 generalize i%3=k at this
 match k,this with
 |0,_=>decide
 |1,_=>decide
 |2,_=>decide
theorem AR(v:Nat):(wB (yQ xs nm v)).length<=20:=by
 have:=zT0 (yQ xs nm v)
 have h1:(yQ xs nm v).1<4:=Cw _ (by decide)
 have h2:(yQ xs nm v).2.length=4:=by simp[yQ,iO]
 lia
theorem zZ8(hU:∀l:List Nat,l.length<=100000->U 4 [.str l]=some (.str (lF l)))(hx:xs.length=5)(hv:∀v∈od,v<5)(ho:od.length=5)(F:FA σ xs aB sp nm od pc)(fC:At σ 13 (.list ((od.map fun v=>wB (yQ xs nm v)).map .str))):
  den U T2 ⟨σ,β⟩=some (⟨σ.set 16 (some (.str (lF ((od.map (jU xs nm)).flatMap fun q=>q.1++q.2)))),β⟩, .next):=by
 have e1:=kT (U:=U) (σ:=σ) (elt:= .bin .Add (.idx (.var 13) (.var 37)) (.idx (.list (.cons (.lit (.str [10])) (.cons (.lit (.str [13])) (.cons (.lit (.str [13,10])) .nil)))) (.bin .Mod (.bin .FloorDiv (.idx (.var 2) (.idx (.var 7) (.var 37))) (.lit (.int 48))) (.lit (.int 3)))))
  (src:= .cv (.lit (.int 5))) (l:=Ae 5) (it:=fun i=> [pn i]) (g:=fun k=> .str ((jU xs nm (od.getD k 0)).1++(jU xs nm (od.getD k 0)).2)) (jS (n:=5) rfl (by decide)) (by decide) fun k hk=>?_
 ·have q1:((Ae 5).map fun k=>PV.str ((jU xs nm (od.getD k 0)).1++(jU xs nm (od.getD k 0)).2))=((od.map (jU xs nm)).map fun q=>q.1++q.2).map PV.str:=by
   rw[<-ho,UI (fun v=>PV.str ((jU xs nm v).1++(jU xs nm v).2)) od 0,A3,A3];rfl
  rw[q1]at e1
  have kQ:(((od.map (jU xs nm)).map fun q=>q.1++q.2).map B1).sum<=5*22:=by
   have:=u6 (fun v=>((jU xs nm v).1++(jU xs nm v).2).length) 22 od fun v _=>by
    have h1:=AR (xs:=xs) (nm:=nm) v
    have h2:=UK (xs.getD v 0/48)
    refine(?_:((wB (yQ xs nm v))++mX.getD (xs.getD v 0/48%3) []).length<=22)
    rw[Ax];exact zO
   rw[ho]at this
   rw[A3,A3];exact this
  have e2:=u5 e1 (Ah kQ (by simp[ag]))
  refine zD (e:= .uc 4 (.cons _ .nil)) ?_ yX
  refine(?_:((ev U _ σ).bind fun x=>(some []).map (x:: ·)).bind (U 4)=_)
  rw[e2]
  refine(?_:U 4 [.str _]=_)
  rw[hU _ (by rw[I6];exact zB)]
  rw[List.flatMap_def]
 ·have hk:k<5:=Bg.mp hk
  have dW:ev U (.var 37) (σ++Bv some [pn k])=some (pn k):=zA (g8 F.len)
  have hvk:od.getD k 0<5:=by
   rw[Aw,Ap (by exact zH)]
   exact hv _ (Ee _)
  refine aZ (jT (m:=(jU xs nm (od.getD k 0)).1) (n:=(jU xs nm (od.getD k 0)).2) (wH (zA fC.app) dW ?_ (by simp[ho,ag])) ?_ ?_) yX
  ·rw[A3]
   exact kU _ 0 (by exact zH)
  ·refine wH (l:=mX.map PV.str) (n:=xs.getD (od.getD k 0) 0/48%3) rfl (qP (n:=3) (tN (n:=48) (wH (zA F.x.app) (wH (zA F.od.app) dW (kU _ 0 (by exact zH)) (by simp[ho,ag])) (kU _ 0 (by exact zH)) (by simp[hx,ag])) rfl (by decide)) rfl (by decide)) ?_ (by decide)
   exact kU PV.str [] (Cw _ (by decide))
  ·have h1:=AR (xs:=xs) (nm:=nm) (od.getD k 0)
   have h2:=UK (xs.getD (od.getD k 0) 0/48)
   refine(?_:(wB (yQ xs nm (od.getD k 0))).length+(mX.getD (xs.getD (od.getD k 0) 0/48%3) []).length<=ag)
   exact zO
theorem UL(q:Nat×List (Bool×Nat)):wB q≠ []:=by
 unfold wB
 split
 ·next h=>
  obtain⟨n,hn⟩:∃n,q.1=n+1:=⟨q.1-1,by lia⟩
  rw[hn,Bk];simp
 ·simp
theorem yA5{jz:List Nat}(hl:od.length=5)(F:FA σ xs aB sp nm od pc)(fC:At σ 13 (.list ((od.map fun v=>wB (yQ xs nm v)).map .str)))(u7:At σ 16 (.str jz))(hs:jz=od.flatMap fun v=>wL (wB (yQ xs nm v))):
  den U T3 ⟨σ,β⟩=some (⟨σ,β⟩, .next):=by
 have e1:=kT (U:=U) (σ:=σ) (elt:= .bin .Add (.bin .Add (.ite (.cmp .Eq (.idx (.var 37) (.lit (.int 0))) (.lit (.str [46]))) (.lit (.str [46])) (.lit (.str []))) (.var 37)) (.lit (.str [13,10])))
  (src:= .items (.var 13)) (l:=od) (it:=fun v=> [.str (wB (yQ xs nm v))]) (g:=fun v=> .str (wL (wB (yQ xs nm v)))) (by rw[AJ (zA fC),A3,A3];rfl) (by rw[hl];decide) fun v _=>?_
 ·have q1:(od.map fun v=>PV.str (wL (wB (yQ xs nm v))))=(od.map fun v=>wL (wB (yQ xs nm v))).map PV.str:=by rw[A3];rfl
  rw[q1]at e1
  have kQ:((od.map fun v=>wL (wB (yQ xs nm v))).map B1).sum<=5*30:=by
   have:=u6 (fun v=>(wL (wB (yQ xs nm v))).length) 30 od fun v _=>by
    have h1:=AR (xs:=xs) (nm:=nm) v
    unfold wL
    split<;>simp<;>exact zB
   rw[hl]at this
   rw[A3];exact this
  have e2:=u5 e1 (Ah kQ (by simp[ag]))
  have t:aU U (.cmp .NotEq (.var 16) (.me 0 (.lit (.str [])) (.cons (.comp (.bin .Add (.bin .Add (.ite (.cmp .Eq (.idx (.var 37) (.lit (.int 0))) (.lit (.str [46]))) (.lit (.str [46])) (.lit (.str []))) (.var 37)) (.lit (.str [13,10]))) (.items (.var 13)) .nil) .nil))) σ=some false:=by
   refine(?_:(ev U (.var 16) σ).bind _=_)
   (refine zZ (zA u7) ?_;refine zZ e2 ?_)
   refine(?_:some (!(jz==(od.map fun v=>wL (wB (yQ xs nm v))).flatten))=_)
   rw[hs,List.flatMap_def];simp
  exact(OO t).trans rfl
 ·have dW:ev U (.var 37) (σ++Bv some [.str (wB (yQ xs nm v))])=some (.str (wB (yQ xs nm v))):=zA (g8 F.len)
  have hlen:=AR (xs:=xs) (nm:=nm) v
  have cN:=UL (yQ xs nm v)
  generalize wB (yQ xs nm v)=row at*
  match row,cN with
  |c::r,_=>
  refine aZ ?_ yX
  have i0:ev U (.idx (.var 37) (.lit (.int 0))) (σ++Bv some [.str (c::r)])=some (.str [c]):=lG (n:=0) dW rfl rfl (by exact zB)
  have t:aU U (.cmp .Eq (.idx (.var 37) (.lit (.int 0))) (.lit (.str [46]))) (σ++Bv some [.str (c::r)])=some (c==46):=by
   refine(?_:(ev U (.idx (.var 37) (.lit (.int 0))) _).bind _=_)
   rw[i0]
   refine(?_:some (([c]:List Nat)==[46])=_)
   simp
  have hh:wL (c::r)=(if c==46 then [46]else [])++(c::r)++[13,10]:=by
   unfold wL
   by_cases h:c=46
   ·simp[h]
   ·simp[h]
  rw[hh]
  refine jT (jT ?_ dW ?_) rfl ?_
  ·rw[qQ t];split<;>rfl
  ·unfold ag;split<;>simp at hlen⊢ <;>lia
  ·unfold ag;split<;>simp at hlen⊢ <;>exact zB
end
noncomputable def yY(t:Nat×Nat×Nat):List Nat:=(yZ t).od++[0]
noncomputable def dp(t:Nat×Nat×Nat):List (List Nat):=(yZ t).nm
noncomputable def nP(c:Nat):Bool:=decide (65<=c)&&decide (c<=100)&&c !=92
noncomputable def UM(t:Nat×Nat×Nat):Bool:=(yZ t).m.length==8&&(dp t).length==5&&(dp t).all (fun l=>l.length==4&&l.all nP)&&(yY t).length==5&&(yY t).all (fun v=>decide (v<5))&&(yZ t).sp.length==5
theorem zZv:(eQ.all UM)=true:=by decide+kernel
structure lJ(t:Nat×Nat×Nat):Prop where
 m:(yZ t).m.length=8
 nm:(dp t).length=5
 GF:∀l∈dp t,l.length=4
 kW:∀l∈dp t,∀c∈l,nP c=true
 od:(yY t).length=5
 lt:∀v∈yY t,v<5
 sp:(yZ t).sp.length=5
theorem lK{t:Nat×Nat×Nat}(h:t∈eQ):lJ t:=by
 have:=Al.mp zZv t h
 unfold UM at this
 simp only[Ao,beq_iff_eq,Al,decide_eq_true_eq]at this
 refine ao this fun bq h6=>?_
 refine ao bq fun bq h5=>?_
 obtain⟨⟨⟨h1,h2⟩,h3⟩,h4⟩:=bq
 exact⟨h1,h2,fun l hl=>(h3 l hl).1,fun l hl=>(h3 l hl).2,h4,h5,h6⟩
theorem UN{c:Nat}(h:nP c=true):kS c/\c≠13/\c≠10:=by
 unfold nP at h
 simp only[Ao,decide_eq_true_eq,bne_iff_ne]at h
 refine lP ⟨?_,by exact xT ‹_› rfl,h.2⟩ (by exact xT ‹_› rfl) (by exact xT ‹_› rfl)
 unfold iW
 simp only[C2,Av,Ar,or_false,decide_eq_false_iff_not]
 lia
theorem UO{xs:List Nat}{nm:List (List Nat)}(hn:nm.length=5)(h4:∀l∈nm,l.length=4)(hl:∀l∈nm,∀c∈l,nP c=true){v:Nat}(hv:v<5):∀p∈iO xs nm v,nP p.2=true:=by
 intro p hp
 refine aD (D6.mp hp) fun j hj bL=>?_
 subst bL
 have hj:j<4:=Bg.mp hj
 have hm:nm.getD v []∈nm:=by
  rw[Aw,Ap (by exact zH)]
  exact Ee _
 have h4:=h4 _ hm
 have hl:=hl _ hm
 refine(?_:nP ((nm.getD v []).getD j 0)=true)
 generalize nm.getD v []=l at h4 hl
 refine hl _ ?_
 rw[Aw,Ap (by exact zH)]
 exact Ee _
theorem zW3{l:List (Bool×Nat)}(h:∀p∈l,p.2≠13/\p.2≠10):pG (enc l):=by
 induction l with
 |nil=>intro c hc;cases hc
 |cons q l ih=>
  obtain⟨b,c⟩:=q
  intro d hd
  have hd:d∈(if b then [92,c]else [c])++enc l:=hd
  have hc:=h (b,c) (Ag ..)
  rcases A9.mp hd with hd|hd
  ·cases b with
   |true=>
    simp only[if_true,Av,Ar,or_false]at hd
    rcases hd with rfl|rfl
    ·exact aZ (by decide) (by decide)
    ·exact hc
   |false=>
    simp only[Cu,if_false,Av,Ar,or_false]at hd
    rw[hd];exact hc
  ·exact ih (fun p hp=>h p (Ad _ hp)) d hd
theorem zVu{q:Nat×List (Bool×Nat)}(h:∀p∈q.2,p.2≠13/\p.2≠10):pG (wB q):=by
 have he:=zW3 h
 unfold wB
 split
 ·intro c hc
  rcases A9.mp hc with hc|hc
  ·rw[Cf hc];exact⟨by decide,by decide⟩
  ·exact he c hc
 ·intro c hc
  rcases Av.mp hc with rfl|hc
  ·exact aZ (by decide) (by decide)
  ·rcases A9.mp hc with hc|hc
   ·exact he c hc
   ·rw[Af.mp hc];exact⟨by decide,by decide⟩
theorem OS{xs:List Nat}{t:Nat×Nat×Nat}(N:lJ t):lF (((yY t).map (jU xs (dp t))).flatMap fun q=>q.1++q.2)=(yY t).flatMap fun v=>wL (wB (yQ xs (dp t) v)):=by
 rw[zM3 _ fun q hq=>?_]
 ·rw[List.flatMap_map];rfl
 ·refine aD (D6.mp hq) fun v hv bL=>?_
  subst bL
  exact lP (UL _) (zVu fun p hp=>(UN (UO N.nm N.GF N.kW (N.lt v hv) p hp)).2) (zY5 _)
section
variable{U:Uc}{β:Option (Value×ak)}
noncomputable def gO(t:Nat×Nat×Nat)(aB:Nat):List (List Nat):=lI (yZ t).m (g9.getD (aB%9) []) (aB/9%8)
theorem UP(i:Nat):(g9.getD (i%9) []).length<=100:=by
 have:i%9<9:=Cw _ (by decide)
 generalize i%9=k at this
 have key:∀k<9,(g9.getD k []).length<=100:=by decide
 exact key k this
theorem iZ{U:Uc}{s:PS}{r:dD}{g g₁:Sg}(e:den U s g=some (g₁, .next)):yN U (.cons s r) g=yN U r g₁:=zN e
theorem zWp(hU:∀l:List Nat,l.length<=100000->U 4 [.str l]=some (.str (lF l))){is:List Int}(hl:is.length<=1000):∃(xs:List Nat) (t:Nat×Nat×Nat) (bx:List (Option PV)),xs.length=5/\t∈eQ/\
  Uh U (eB (aR 20) [.list (is.map .int)] β)=some (⟨bx,β⟩, .next)/\FA bx xs xs.sum (yZ t).sp (dp t) (yY t) (gO t xs.sum)/\At bx 16 (.str ((yY t).flatMap fun v=>wL (wB (yQ xs (dp t) v)))):=by
 have eX:eB (aR 20) [.list (is.map .int)] β=⟨some (.list (is.map .int))::Ai 36 none,β⟩:=rfl
 have L0:(some (PV.list (is.map .int))::Ai 36 none).length=37:=rfl
 have a0:At (some (PV.list (is.map .int))::Ai 36 none) 0 (.list (is.map .int)):=rfl
 refine aD (yDd (U:=U) (β:=β) a0 hl L0) fun xs hx e0=>?_
 generalize AS:(some (PV.list (is.map .int))::Ai 36 none).set 2 (some (.list (xs.map pn)))=AU at e0
 have L1:AU.length=37:=by rw[<-AS,Bd];exact L0
 have x1:At AU 2 (.list (xs.map pn)):=by rw[<-AS];exact zG (by rw[L0];decide)
 have e1:den U l1 ⟨AU,β⟩=some (⟨AU.set 3 (some (pn xs.sum)),β⟩, .next):=zD (GD x1) zX
 have e2:∀σ,den U l2 ⟨σ,β⟩=some (⟨σ.set 4 (some (.str [])),β⟩, .next):=fun σ=>zD (e:= .lit (.str [])) rfl rfl
 have e3:∀σ,den U l3 ⟨σ,β⟩=some (⟨σ.set 5 (some (.list [pn 0])),β⟩, .next):=fun σ=>zD (e:= .list _) rfl rfl
 have e4:∀σ,den U l4 ⟨σ,β⟩=some (⟨σ.set 6 (some (.list [.str [97,98,99,100]])),β⟩, .next):=fun σ=>zD (e:= .list _) rfl rfl
 have e5:∀σ,den U l5 ⟨σ,β⟩=some (⟨σ.set 7 (some (.list [])),β⟩, .next):=fun σ=>zD (e:= .list _) rfl rfl
 have e6:∀σ,den U l6 ⟨σ,β⟩=some (⟨σ.set 8 (some (.list [])),β⟩, .next):=fun σ=>zD (e:= .list _) rfl rfl
 generalize cf:(((((AU.set 3 (some (pn xs.sum))).set 4 (some (.str []))).set 5 (some (.list [pn 0]))).set 6 (some (.list [.str [97,98,99,100]]))).set 7 (some (.list []))).set 8 (some (.list []))=cJ
 have N1:NS cJ xs xs.sum cV:=by
  rw[<-cf]
  refine⟨by simp[L1],?_,?_,?_,?_,?_,?_,?_⟩
  ·exact(((((x1.set (by decide)).set (by decide)).set (by decide)).set (by decide)).set (by decide)).set (by decide)
  ·exact(((((zG (by rw[L1];decide)).set (by decide)).set (by decide)).set (by decide)).set (by decide)).set (by decide)
  ·exact((((zG (by simp[L1])).set (by decide)).set (by decide)).set (by decide)).set (by decide)
  ·exact(((zG (by simp[L1])).set (by decide)).set (by decide)).set (by decide)
  ·exact((zG (by simp[L1])).set (by decide)).set (by decide)
  ·exact(zG (by simp[L1])).set (by decide)
  ·exact zG (by simp[L1])
 refine aD (yDu (U:=U) (β:=β) hx N1) fun bj e7 N2=>?_
 obtain⟨t,ht,AV⟩:∃t∈eQ,FZ xs=yZ t:=by
  refine HN (Wz hx) fun n0 n1 n2 n3 n4 e=>?_
  exact e▸zVl n0 n1 n2 n3 n4
 rw[AV]at N2
 have N:=lK ht
 have hod:(yZ t).od.length=4:=by
  have:=N.od
  unfold yY at this
  simp at this;exact this
 have e8:den U l8 ⟨bj,β⟩=some (⟨bj.set 7 (some (.list ((yZ t).od.map pn++[pn 0]))),β⟩, .next):=tM (e:= .lit (.int 0)) N2.od rfl rfl (by simp[hod,ag])
 rw[show(yZ t).od.map pn++[pn 0]=(yY t).map pn by simp[yY]]at e8
 generalize bf:bj.set 7 (some (.list ((yY t).map pn)))=aX at e8
 have L3:aX.length=37:=by rw[<-bf,Bd];exact N2.len
 have b2:At aX 2 (.list (xs.map pn)):=by rw[<-bf];exact N2.xs.set (by decide)
 have b3:At aX 3 (pn xs.sum):=by rw[<-bf];exact N2.aB.set (by decide)
 have b4:At aX 4 (.str (yZ t).m):=by rw[<-bf];exact N2.m.set (by decide)
 have b5:At aX 5 (.list ((yZ t).sp.map pn)):=by rw[<-bf];exact N2.sp.set (by decide)
 have b6:At aX 6 (.list ((dp t).map .str)):=by rw[<-bf];exact N2.nm.set (by decide)
 have b7:At aX 7 (.list ((yY t).map pn)):=by rw[<-bf];exact zG (by rw[N2.len];decide)
 have e9:=yDz (U:=U) (β:=β) b3
 have nN:=zX6 (U:=U) (β:=β) (σ:=aX.set 10 (some (.str (g9.getD (xs.sum%9) [])))) (by rw[Bd];exact L3) (b3.set (by decide)) (b4.set (by decide)) N.m (zG (by rw[L3];decide)) (UP _)
 have AW:=yB6 (U:=U) (β:=β) (σ:=(aX.set 10 (some (.str (g9.getD (xs.sum%9) [])))).set 11 (some (.list ((lI (yZ t).m (g9.getD (xs.sum%9) []) (xs.sum/9%8)).map .str)))) (by simp[L3]) ((b2.set (by decide)).set (by decide)) hx
 have OT:∀σ,den U T1 ⟨σ,β⟩=some (⟨σ.set 13 (some (.list [])),β⟩, .next):=fun σ=>zD (e:= .list _) rfl rfl
 generalize dX:(((aX.set 10 (some (.str (g9.getD (xs.sum%9) [])))).set 11 (some (.list ((lI (yZ t).m (g9.getD (xs.sum%9) []) (xs.sum/9%8)).map .str)))).set 12 (some (.list ((xs.map iN).map pn)))).set 13 (some (.list []))=dH
 have F4:FA dH xs xs.sum (yZ t).sp (dp t) (yY t) (gO t xs.sum):=by
  rw[<-dX]
  refine⟨by simp[L3],?_,?_,?_,?_,?_,?_,?_⟩
  ·exact(((b2.set (by decide)).set (by decide)).set (by decide)).set (by decide)
  ·exact(((b3.set (by decide)).set (by decide)).set (by decide)).set (by decide)
  ·exact(((b5.set (by decide)).set (by decide)).set (by decide)).set (by decide)
  ·exact(((b6.set (by decide)).set (by decide)).set (by decide)).set (by decide)
  ·exact(((b7.set (by decide)).set (by decide)).set (by decide)).set (by decide)
  ·exact((zG (by simp[L3])).set (by decide)).set (by decide)
  ·exact(zG (by simp[L3])).set (by decide)
 have fC:At dH 13 (.list []):=by rw[<-dX];exact zG (by simp[L3])
 refine gT (zX3 (U:=U) (β:=β) hx N.nm N.GF N.lt N.od F4 fC) fun iY e13 F5 h5=>?_
 have UQ:=zZ8 (U:=U) (β:=β) hU hx N.lt N.od F5 h5
 rw[OS N]at UQ
 have F6:=F5.set (i:=16) (p:= .str ((yY t).flatMap fun v=>wL (wB (yQ xs (dp t) v)))) (.inr (.inr (by decide)))
 have u7:=zG (σ:=iY) (i:=16) (p:= .str ((yY t).flatMap fun v=>wL (wB (yQ xs (dp t) v)))) (by rw[F5.len];decide)
 have e15:=yA5 (U:=U) (β:=β) N.od F6 (h5.set (by decide)) u7 rfl
 refine Pz xs t _ hx ht ?_ F6 u7
 rw[eX]
 refine(iZ e0).trans<|(iZ e1).trans<|(iZ (e2 _)).trans<|(iZ (e3 _)).trans<|(iZ (e4 _)).trans<|(iZ (e5 _)).trans<|(iZ (e6 _)).trans ?_
 rw[cf]
 refine(iZ e7).trans<|(iZ e8).trans<|(iZ e9).trans<|(iZ nN).trans<|(iZ AW).trans<|(iZ (OT _)).trans ?_
 rw[dX]
 exact(iZ e13).trans<|(iZ UQ).trans<|(iZ e15).trans rfl
end
set_option genSizeOf false
noncomputable def gx:Nat->Bool->List Nat->Nat->List (Nat×List Nat)
 |_,e,[],p=>if e then [(p,[92])]else []
 |i,e,c::r,_=>if e then(i,[92,c])::gx (i+1) false r i else if c==92 then gx (i+1) true r i else(i,[c])::gx (i+1) false r i
theorem GG:∀(al:List Nat) (i:Nat) (e:Bool) (p:Nat),dE i e al (p:Int)=(gx i e al p).map fun x=>((x.1:Int),x.2)
 |[],i,e,p=>by cases e<;>rfl
 |c::r,i,e,p=>by
  refine(?_:(if e then((i:Int),[92,c])::dE (i+1) false r i else if c==92 then dE (i+1) true r i else((i:Int),[c])::dE (i+1) false r i)=(if e then(i,[92,c])::gx (i+1) false r i else if c==92 then gx (i+1) true r i else(i,[c])::gx (i+1) false r i).map fun x=>((x.1:Int),x.2))
  rw[GG r (i+1) false i,GG r (i+1) true i]
  cases e with
  |true=>rfl
  |false=>
   cases h:(c==92)with
   |true=>rfl
   |false=>rfl
noncomputable def i4(s:List Nat)(a b:Nat):List Nat:=(s.drop (min a s.length)).take (min b s.length-min a s.length)
theorem UR(s:List Nat)(a b:Nat):(i4 s a b).length<=s.length:=by
 unfold i4
 rw[Ca,Bs];exact Ah (Kb _ _) (Gk _ _)
structure nQ where
 st:Nat
 op:Option Nat
 rs:List (List Nat)
noncomputable def pH(addr:List Nat)(x:Nat×List Nat)(s:nQ):nQ:=if x.2==[34]then(match s.op with
 |none=>⟨s.st,some x.1,s.rs⟩
 |some o=>⟨x.1+1,none,if s.st==o then s.rs else s.rs++[i4 addr s.st o]⟩)else s
noncomputable def pI(addr:List Nat):List (Nat×List Nat)->nQ->nQ
 |[],s=>s
 |x::r,s=>pI addr r (pH addr x s)
noncomputable def jV(addr:List Nat):List Nat:=if addr.contains 34 then
 (let s:=pI addr (gx 0 false addr 0) ⟨0,none,[]⟩;
  (if s.st<addr.length then s.rs++[i4 addr s.st addr.length]else s.rs).flatten)else addr
noncomputable def jW:List (Nat×List Nat)->Nat->Bool
 |[],o=>o==0
 |x::r,o=>if x.2==[40]then jW r (o+1)else if x.2==[41]then(match o with|0=>false|o+1=>jW r o)else jW r o
noncomputable def jB(s:List Nat):Bool:=jW (gx 0 false (jV s) 0) 0
noncomputable def US:Option Nat->PV
 |none=> .none
 |some o=>pn o
structure SR(addr:List Nat)(σ:List (Option PV))(s:nQ):Prop where
 len:σ.length=6
 a:At σ 0 (.str addr)
 st:At σ 1 (pn s.st)
 op:At σ 2 (US s.op)
 rs:At σ 3 (.list (s.rs.map .str))
section
variable{U:Uc}{σ:List (Option PV)}{β:Option (Value×ak)}{addr:List Nat}{s:nQ}
theorem eq_str{i:Nat}{a b:List Nat}(h:At σ i (.str a)):aU U (.cmp .Eq (.var i) (.lit (.str b))) σ=some (a==b):=by
 refine(?_:(ev U (.var i) σ).bind _=_)
 rw[zA h];rfl
theorem OU(a n:Nat):Cr (some (a:Int)) n=min a n:=by
 unfold Cr
 refine ea (L9.mpr (Dt a)) ?_;rfl
theorem UT(a n:Nat):Gu (some (a:Int)) n=min a n:=by
 unfold Gu
 refine ea (L9.mpr (Dt a)) ?_;rfl
theorem gQ{c:PT}{a b:dD}{r:Option (Sg×Fl)}(h:aU U c σ=some true)(e:yN U a ⟨σ,β⟩=r):den U (.ifs c a b) ⟨σ,β⟩=r:=(OO h).trans e
theorem fT{c:PT}{a b:dD}{r:Option (Sg×Fl)}(h:aU U c σ=some false)(e:yN U b ⟨σ,β⟩=r):den U (.ifs c a b) ⟨σ,β⟩=r:=(OO h).trans e
theorem eZ{q:PS}{g g₁:Sg}(e:den U q g=some (g₁, .next)):yN U (.cons q .nil) g=some (g₁, .next):=(zK (r:= .nil) e).trans rfl
theorem zW0{i j:Nat}{e:PE}{a b:Nat}{s:List Nat}(hs:At σ i (.str s))(hl:s.length<=ag)(ha:At σ j (pn a))(hb:ev U e σ=some (pn b)):ev U (.bS (.var i) (.yes (.var j)) (.yes e) .no) σ=some (.str (i4 s a b)):=by
 refine(?_:(ev U (.var i) σ).bind _=_)
 refine zZ (zA hs) ?_
 refine(?_:((ev U (.var j) σ).bind _).bind _=_)
 rw[zA ha,Au]
 refine(?_:Option.bind (some (some (a:Int))) (fun l=>((ev U e σ).bind _).bind _)=_)
 rw[Au,hb,Au]
 refine(?_:(if s.length<=ag then some (PV.str ((s.drop (Cr (some (a:Int)) s.length)).take (Gu (some (b:Int)) s.length-Cr (some (a:Int)) s.length)))else none)=_)
 refine wI hl ?_
 rw[OU,UT];rfl
theorem UU{i j:Nat}{a:Nat}{s:List Nat}(hs:At σ i (.str s))(hl:s.length<=ag)(ha:At σ j (pn a)):ev U (.bS (.var i) (.yes (.var j)) .no .no) σ=some (.str (i4 s a s.length)):=by
 refine(?_:(ev U (.var i) σ).bind _=_)
 refine zZ (zA hs) ?_
 refine(?_:((ev U (.var j) σ).bind _).bind _=_)
 rw[zA ha,Au]
 refine(?_:(if s.length<=ag then some (PV.str ((s.drop (Cr (some (a:Int)) s.length)).take (s.length-Cr (some (a:Int)) s.length)))else none)=_)
 refine wI hl ?_
 rw[OU]
 unfold i4
 rw[Mu]
theorem zT5(h:SR addr σ s)(hl:addr.length<=1000)(hr:s.rs.length<=1000){p:Nat}{ch:List Nat}:∃aC,yN U qN ⟨(σ.set 4 (some (pn p))).set 5 (some (.str ch)),β⟩=some (⟨aC,β⟩, .next)/\SR addr aC (pH addr (p,ch) s):=by
 have sz:addr.length<=ag:=by exact zB
 generalize lL:(σ.set 4 (some (pn p))).set 5 (some (.str ch))=τ
 have L:τ.length=6:=by rw[<-lL];simp[h.len]
 have a0:At τ 0 (.str addr):=by rw[<-lL];exact(h.a.set (by decide)).set (by decide)
 have a1:At τ 1 (pn s.st):=by rw[<-lL];exact(h.st.set (by decide)).set (by decide)
 have a2:At τ 2 (US s.op):=by rw[<-lL];exact(h.op.set (by decide)).set (by decide)
 have a3:At τ 3 (.list (s.rs.map .str)):=by rw[<-lL];exact(h.rs.set (by decide)).set (by decide)
 have a4:At τ 4 (pn p):=by rw[<-lL];exact(zG (by rw[h.len];decide)).set (by decide)
 have a5:At τ 5 (.str ch):=by rw[<-lL];exact zG (by simp[h.len])
 unfold pH
 by_cases hq:ch==[34]
 ·rw[if_pos hq]
  have t1:aU U (.cmp .Eq (.var 5) (.lit (.str [34]))) τ=some true:=by rw[eq_str a5,hq]
  obtain⟨st,op,rs⟩:=s
  cases op with
  |none=>
   have t2:aU U (.cmp .Is (.var 2) (.lit .none)) τ=some true:=by
    refine(?_:(ev U (.var 2) τ).bind _=_)
    rw[zA a2];rfl
   refine i12 (τ.set 2 (some (pn p))) ?_ ⟨by rw[Bd];exact L,a0.set (by decide),a1.set (by decide),zG (by rw[L];decide),a3.set (by decide)⟩
   exact eZ (gQ t1 (eZ (gQ t2 (eZ (zD (zA a4) zX)))))
  |some o=>
   have t2:aU U (.cmp .Is (.var 2) (.lit .none)) τ=some false:=by
    refine(?_:(ev U (.var 2) τ).bind _=_)
    rw[zA a2];rfl
   have t3:aU U (.cmp .NotEq (.var 1) (.var 2)) τ=some (!(st==o)):=by
    refine(?_:(ev U (.var 1) τ).bind _=_)
    (refine zZ (zA a1) ?_;rw[zA a2])
    refine(?_:some ((st:Int) !=(o:Int))=_)
    by_cases h:st=o
    ·subst h;simp
    ·have e1:((st:Int) !=(o:Int))=true:=by simp;exact xF ‹_›
     have e2:(st==o)=false:=by simpa using h
     rw[e1,e2];rfl
   have fin:∀(ρ:List (Option PV)) (OV:List (List Nat)),ρ.length=6->At ρ 0 (.str addr)->At ρ 4 (pn p)->At ρ 3 (.list (OV.map .str))->∃aC,yN U (.cons (.assign 1 (.bin .Add (.var 4) (.lit (.int 1)))) (.cons (.assign 2 (.lit .none)) .nil)) ⟨ρ,β⟩=some (⟨aC,β⟩, .next)/\SR addr aC ⟨p+1,none,OV⟩:=fun ρ OV hL h0 h4 h3=>by
    refine i12 ((ρ.set 1 (some (pn (p+1)))).set 2 (some .none)) ?_ ⟨by simp[hL],(h0.set (by decide)).set (by decide),(zG (by rw[hL];decide)).set (by decide),zG (by simp[hL]),(h3.set (by decide)).set (by decide)⟩
    exact(zK (zD (iX (n:=1) (zA h4) rfl) zX)).trans (eZ (zD (e:= .lit .none) rfl rfl))
   have step:∃ρ,den U (.ifs (.cmp .NotEq (.var 1) (.var 2)) (.cons (.append 3 (.bS (.var 0) (.yes (.var 1)) (.yes (.var 2)) .no)) .nil) .nil) ⟨τ,β⟩=some (⟨ρ,β⟩, .next)/\ρ.length=6/\At ρ 0 (.str addr)/\At ρ 4 (pn p)/\At ρ 3 (.list ((if st==o then rs else rs++[i4 addr st o]).map .str)):=by
    by_cases h:st==o
    ·refine HP τ (fT (t3.trans (by rw[h];rfl)) rfl) L a0 a4 (by rw[if_pos h];exact a3)
    ·have h':(st==o)=false:=by simpa using h
     refine HP (τ.set 3 (some (.list (rs.map .str++[.str (i4 addr st o)])))) ?_ (by rw[Bd];exact L) (a0.set (by decide)) (a4.set (by decide)) ?_
     ·exact gQ (t3.trans (by rw[h'];rfl)) (eZ (tM a3 (zW0 a0 sz a1 (zA a2)) yX (by have hr:rs.length<=1000:=hr;rw[Az];exact zB)))
     ·rw[if_neg h,show(rs++[i4 addr st o]).map PV.str=rs.map .str++[.str (i4 addr st o)]by simp]
      exact zG (by rw[L];decide)
   refine pO step fun ρ e1 hL h0 h4 h3=>?_
   refine aD (fin ρ _ hL h0 h4 h3) fun aC e2 hS=>?_
   refine i12 aC ?_ hS
   exact eZ (gQ t1 (eZ (fT t2 ((zK e1).trans e2))))
 ·rw[if_neg hq]
  have hq':(ch==[34])=false:=by simpa using hq
  have t1:aU U (.cmp .Eq (.var 5) (.lit (.str [34]))) τ=some false:=by rw[eq_str a5,hq']
  exact i12 τ (eZ (fT t1 rfl)) ⟨L,a0,a1,a2,a3⟩
theorem UW(addr:List Nat)(x:Nat×List Nat)(s:nQ):(pH addr x s).rs.length<=s.rs.length+1:=by
 unfold pH
 split
 ·split
  ·exact Jr _
  ·dsimp only
   split<;>simp
 ·exact Jr _
theorem UX(hl:addr.length<=1000):∀(its:List (Nat×List Nat)) (σ:List (Option PV)) (s:nQ),SR addr σ s->s.rs.length+its.length<=1000->
  ∃aC,wN [4,5] (yN U qN) ((its.map fun x=>((x.1:Int),x.2)).map kF) ⟨σ,β⟩=some (⟨aC,β⟩, .next)/\SR addr aC (pI addr its s)
 |[],σ,s,h,_=>⟨σ,rfl,h⟩
 |(p,ch)::its,σ,s,h,hr=>by
  simp only[Bl]at hr
  refine aD (zT5 (U:=U) (β:=β) h hl (by exact zR) (p:=p) (ch:=ch)) fun bx e1 h1=>?_
  have:=UW addr (p,ch) s
  refine aD (UX hl its bx _ h1 (by lia)) fun et e2 h2=>?_
  refine i12 et ?_ h2
  refine(?_:((yN U qN ⟨(σ.set 4 (some (pn p))).set 5 (some (.str ch)),β⟩).bind _)=_)
  rw[e1];exact e2
theorem OW:∀(al:List Nat) (i:Nat) (e:Bool) (p:Nat),(gx i e al p).length<=al.length+1
 |[],i,e,p=>by cases e<;>simp[gx]
 |c::r,i,e,p=>by
  have h1:=OW r (i+1) false i
  have h2:=OW r (i+1) true i
  unfold gx
  split
  ·simp;assumption
  ·split
   ·simp;exact Nat.le_add_right_of_le ‹_›
   ·simp;assumption
theorem zSb(hl:addr.length<=900):pB (FJ U) (aR 9) 1 [.str addr]=some (.str (jV addr)):=by
 have sz:addr.length<=ag:=by exact zB
 have eX:eB (aR 9) [.str addr] none=⟨[some (.str addr),none,none,none,none,none],none⟩:=rfl
 have key:∃g',FJ U (eB (aR 9) [.str addr] none)=some (g', .ret (.str (jV addr))):=by
  rw[eX]
  unfold FJ
  have t0:aU U (.cmp .NotIn (.lit (.str [34])) (.var 0)) [some (.str addr),none,none,none,none,none]=some (!addr.contains 34):=rfl
  unfold jV
  by_cases hc:addr.contains 34
  ·rw[if_pos hc]
   have e0:den U EY ⟨[some (.str addr),none,none,none,none,none],none⟩=some (⟨[some (.str addr),none,none,none,none,none],none⟩, .next):=fT (t0.trans (by rw[hc];rfl)) rfl
   rw[zN e0]
   have e1:∀σ,den U EZ ⟨σ,none⟩=some (⟨σ.set 1 (some (pn 0)),none⟩, .next):=fun σ=>zD (e:= .lit _) rfl rfl
   have e2:∀σ,den U FC ⟨σ,none⟩=some (⟨σ.set 2 (some .none),none⟩, .next):=fun σ=>zD (e:= .lit _) rfl rfl
   have e3:∀σ,den U FD ⟨σ,none⟩=some (⟨σ.set 3 (some (.list [])),none⟩, .next):=fun σ=>zD (e:= .list _) rfl rfl
   rw[zN (e1 _),zN (e2 _),zN (e3 _)]
   have S0:SR addr [some (.str addr),some (pn 0),some .none,some (.list []),none,none] ⟨0,none,[]⟩:=⟨rfl,rfl,rfl,rfl,rfl⟩
   have hel:=OW addr 0 false 0
   obtain⟨aC,e4,S1⟩:=UX (U:=U) (β:=none) (by lia) (gx 0 false addr 0) _ _ S0 (by simp;lia)
   have e5:se U (.var 0) [4,5] (yN U qN) ⟨[some (.str addr),some (pn 0),some .none,some (.list []),none,none],none⟩=some (⟨aC,none⟩, .next):=by
    refine(?_:wN [4,5] (yN U qN) ((dE 0 false addr ((0:Nat):Int)).map kF) _=_)
    rw[GG];exact e4
   have OX:(([some (PV.str addr),none,none,none,none,none].set 1 (some (pn 0))).set 2 (some PV.none)).set 3 (some (PV.list []))=[some (.str addr),some (pn 0),some .none,some (.list []),none,none]:=rfl
   rw[OX,zN e5]
   have UY:(pI addr (gx 0 false addr 0) ⟨0,none,[]⟩).rs.length<=1000:=by
    have:∀(its:List (Nat×List Nat)) (s:nQ),(pI addr its s).rs.length<=s.rs.length+its.length:=by
     intro its
     induction its with
     |nil=>intro s;exact B6 _
     |cons x its ih=>
      intro s
      have h1:=ih (pH addr x s)
      have h2:=UW addr x s
      refine(?_:(pI addr its (pH addr x s)).rs.length<=_)
      simp only[Bl];lia
    have:=this (gx 0 false addr 0) ⟨0,none,[]⟩
    simp at this;lia
   have OY:((pI addr (gx 0 false addr 0) ⟨0,none,[]⟩).rs.map B1).sum<=1000*900:=by
    have:∀(its:List (Nat×List Nat)) (s:nQ),(∀l∈s.rs,l.length<=900)->∀l∈(pI addr its s).rs,l.length<=900:=by
     intro its
     induction its with
     |nil=>intro s h;exact h
     |cons x its ih=>
      intro s h
      refine ih (pH addr x s) fun l hm=>?_
      unfold pH at hm
      split at hm
      ·split at hm
       ·exact h l hm
       ·dsimp only at hm
        split at hm
        ·exact h l hm
        ·rcases A9.mp hm with hm|hm
         ·exact h l hm
         ·rw[Af.mp hm]
          exact Ah (UR _ _ _) hl
      ·exact h l hm
    have:=u6 B1 900 _ (this (gx 0 false addr 0) ⟨0,none,[]⟩ fun l h=>nomatch h)
    refine Ah this (Lo _ UY)
   generalize pI addr (gx 0 false addr 0) ⟨0,none,[]⟩=s at S1 UY OY⊢
   dsimp only
   have hlen:ev U (.bi 0 (.cons (.var 0) .nil)) aC=some (pn addr.length):=nO (zA S1.a) sz
   have t5:aU U (.cmp .Lt (.var 1) (.bi 0 (.cons (.var 0) .nil))) aC=some (decide (s.st<addr.length)):=by
    refine(?_:(ev U (.var 1) aC).bind _=_)
    (refine zZ (zA S1.st) ?_;refine zZ hlen ?_)
    refine(?_:some (decide ((s.st:Int)<(addr.length:Int)))=_)
    congr 1
    simp
   have fin:∀(ρ:List (Option PV)) (rs:List (List Nat)),At ρ 3 (.list (rs.map .str))->(rs.map B1).sum<=2000000->yT (den U FE) aA ⟨ρ,none⟩=some (⟨ρ,none⟩, .ret (.str rs.flatten)):=fun ρ rs h3 hs=>by
    refine wE ?_
    refine(?_:((fm U _ ⟨ρ,none⟩).bind _)=_)
    unfold fm
    rw[u5 (zA h3) (by exact zB),Au,if_pos yX];rfl
   by_cases h5:s.st<addr.length
   ·rw[if_pos h5]
    have e6:den U AE ⟨aC,none⟩=some (⟨aC.set 3 (some (.list (s.rs.map .str++[.str (i4 addr s.st addr.length)]))),none⟩, .next):=gQ (t5.trans (by rw[decide_eq_true h5])) (eZ (tM S1.rs (UU S1.a sz S1.st) yX (by rw[Az];exact zB)))
    rw[zN e6]
    refine bU _ (fin _ _ ?_ ?_)
    ·rw[show(s.rs++[i4 addr s.st addr.length]).map PV.str=s.rs.map .str++[.str (i4 addr s.st addr.length)]by simp]
     exact zG (by rw[S1.len];decide)
    ·have:(i4 addr s.st addr.length).length<=addr.length:=UR _ _ _
     simp only[Kr,List.sum_append,Bj,List.map_nil,Fx,List.sum_nil];lia
   ·rw[if_neg h5]
    have e6:den U AE ⟨aC,none⟩=some (⟨aC,none⟩, .next):=fT (t5.trans (by rw[decide_eq_false h5])) rfl
    rw[zN e6]
    exact bU _ (fin _ _ S1.rs (by exact zB))
  ·rw[if_neg hc]
   have lq:addr.contains 34=false:=by simpa using hc
   refine bU _ (wE (g₁:=⟨[some (.str addr),none,none,none,none,none],none⟩) (gQ (t0.trans (by rw[lq];rfl)) rfl))
 refine aK key fun g' e=>?_
 exact(if_pos rfl).trans (by rw[e])
theorem zOy(x:Nat×List Nat)(r:List (Nat×List Nat))(o:Nat):jW (x::r) o=if x.2==[40]then jW r (o+1)else if x.2==[41]then(match o with|0=>false|o+1=>jW r o)else jW r o:=rfl
theorem UZ:∀(its:List (Nat×List Nat)) (σ:List (Option PV)) (o:Nat),σ.length=4->At σ 1 (pn o)->
  (∃aC o',wN [2,3] (yN U jx) ((its.map fun x=>((x.1:Int),x.2)).map kF) ⟨σ,β⟩=some (⟨aC,β⟩, .next)/\At aC 1 (pn o')/\jW its o=(o'==0))\/
  (∃g',wN [2,3] (yN U jx) ((its.map fun x=>((x.1:Int),x.2)).map kF) ⟨σ,β⟩=some (g', .ret (.bool false))/\jW its o=false)
 |[],σ,o,_,h=> .inl ⟨σ,o,rfl,h,rfl⟩
 |(p,ch)::its,σ,o,hL,h=>by
  generalize lL:(σ.set 2 (some (pn p))).set 3 (some (.str ch))=τ
  have L:τ.length=4:=by rw[<-lL];simp[hL]
  have a1:At τ 1 (pn o):=by rw[<-lL];exact(h.set (by decide)).set (by decide)
  have a3:At τ 3 (.str ch):=by rw[<-lL];exact zG (by simp[hL])
  have run:∀r,wN [2,3] (yN U jx) ((((p,ch)::its).map fun x=>((x.1:Int),x.2)).map kF) ⟨σ,β⟩=r↔((yN U jx ⟨τ,β⟩).bind fun q=>match q with
   |(g', .next)=>wN [2,3] (yN U jx) ((its.map fun x=>((x.1:Int),x.2)).map kF) g'
   |(g', .cont)=>wN [2,3] (yN U jx) ((its.map fun x=>((x.1:Int),x.2)).map kF) g'
   |(g', .brk)=>some (g', .next)
   |(g', .ret p)=>some (g', .ret p))=r:=fun r=>by rw[<-lL];exact Iff.rfl
  have go:∀bx jo,yN U jx ⟨τ,β⟩=some (⟨bx,β⟩, .next)->bx.length=4->At bx 1 (pn jo)->jW ((p,ch)::its) o=jW its jo->
    (∃aC o',wN [2,3] (yN U jx) ((((p,ch)::its).map fun x=>((x.1:Int),x.2)).map kF) ⟨σ,β⟩=some (⟨aC,β⟩, .next)/\At aC 1 (pn o')/\jW ((p,ch)::its) o=(o'==0))\/
    (∃g',wN [2,3] (yN U jx) ((((p,ch)::its).map fun x=>((x.1:Int),x.2)).map kF) ⟨σ,β⟩=some (g', .ret (.bool false))/\jW ((p,ch)::its) o=false):=fun bx jo e AX ai hc=>by
   rcases UZ its bx jo AX ai with⟨aC,o',e',h',c'⟩|⟨g',e',c'⟩
   ·exact .inl ⟨aC,o',(run _).mpr (by rw[e];exact e'),h',hc.trans c'⟩
   ·exact .inr ⟨g',(run _).mpr (by rw[e];exact e'),hc.trans c'⟩
  by_cases U0:ch=[40]
  ·subst U0
   refine go (τ.set 1 (some (pn (o+1)))) (o+1) ?_ (by rw[Bd];exact L) (zG (by rw[L];decide)) rfl
   refine eZ (gQ (eq_str a3) (eZ ?_))
   refine(?_:((τ[1]?).bind id).bind _=_)
   rw[a1];rfl
  ·have U1:(ch==[40])=false:=by simpa using U0
   by_cases U2:ch=[41]
   ·subst U2
    have sub:den U (.aug .Sub 1 (.lit (.int 1))) ⟨τ,β⟩=some (⟨τ.set 1 (some (.int ((o:Int)-1))),β⟩, .next):=by
     refine(?_:((τ[1]?).bind id).bind _=_)
     rw[a1];rfl
    have hb:At (τ.set 1 (some (.int ((o:Int)-1)))) 1 (.int ((o:Int)-1)):=zG (by rw[L];decide)
    have t:aU U (.cmp .Lt (.var 1) (.lit (.int 0))) (τ.set 1 (some (.int ((o:Int)-1))))=some (decide ((o:Int)-1<0)):=by
     refine(?_:(ev U (.var 1) _).bind _=_)
     rw[zA hb];rfl
    cases o with
    |zero=>
     refine .inr ⟨⟨τ.set 1 (some (.int (((0:Nat):Int)-1))),β⟩,(run _).mpr ?_,rfl⟩
     have e:yN U jx ⟨τ,β⟩=some (⟨τ.set 1 (some (.int (((0:Nat):Int)-1))),β⟩, .ret (.bool false)):=by
      refine wE (fT ((eq_str a3).trans rfl) ?_)
      refine wE (gQ ((eq_str a3).trans rfl) ?_)
      refine(zK sub).trans ?_
      refine wE (gQ (t.trans rfl) ?_)
      rfl
     rw[e];rfl
    |succ o=>
     have e1:((o+1:Nat):Int)-1=(o:Int):=by lia
     rw[e1]at sub hb t
     refine go (τ.set 1 (some (pn o))) o ?_ (by rw[Bd];exact L) hb rfl
     refine eZ (fT ((eq_str a3).trans rfl) (eZ (gQ ((eq_str a3).trans rfl) ?_)))
     refine(zK sub).trans (eZ (fT (t.trans (by rw[decide_eq_false (by lia)])) rfl))
   ·have U3:(ch==[41])=false:=by simpa using U2
    refine go τ o ?_ L a1 (by rw[zOy,U1,U3];rfl)
    exact eZ (fT ((eq_str a3).trans (by rw[U1])) (eZ (fT ((eq_str a3).trans (by rw[U3])) rfl)))
theorem zTg{a:List Nat}(hU:U 2 [.str a]=some (.str (jV a))):pB (FK U) (aR 10) 1 [.str a]=some (.bool (jB a)):=by
 have eX:eB (aR 10) [.str a] none=⟨[some (.str a),none,none,none],none⟩:=rfl
 have key:∃g',FK U (eB (aR 10) [.str a] none)=some (g', .ret (.bool (jB a))):=by
  rw[eX]
  unfold FK
  have e0:den U FF ⟨[some (.str a),none,none,none],none⟩=some (⟨[some (.str (jV a)),none,none,none],none⟩, .next):=by
   refine zD (e:= .uc 2 _) (p:= .str (jV a)) ?_ yX
   exact hU
  have e1:den U FG ⟨[some (.str (jV a)),none,none,none],none⟩=some (⟨[some (.str (jV a)),some (pn 0),none,none],none⟩, .next):=zD (e:= .lit _) rfl rfl
  rw[zN e0,zN e1]
  have hG:∀r,se U (.var 0) [2,3] (yN U jx) ⟨[some (.str (jV a)),some (pn 0),none,none],none⟩=r↔wN [2,3] (yN U jx) (((gx 0 false (jV a) 0).map fun x=>((x.1:Int),x.2)).map kF) ⟨[some (.str (jV a)),some (pn 0),none,none],none⟩=r:=fun r=>by
   rw[<-GG];exact Iff.rfl
  rcases UZ (U:=U) (β:=none) (gx 0 false (jV a) 0) [some (.str (jV a)),some (pn 0),none,none] 0 rfl rfl with⟨aC,o',e,h,c⟩|⟨g',e,c⟩
  ·rw[zN ((hG _).mpr e)]
   refine bU ⟨aC,none⟩ (wE ?_)
   refine(?_:((fm U _ ⟨aC,none⟩).bind _)=_)
   have t:ev U (.cmp .Eq (.var 1) (.lit (.int 0))) aC=some (.bool (jB a)):=by
    refine(?_:(ev U (.var 1) aC).bind _=_)
    refine zZ (zA h) ?_
    refine(?_:some (PV.bool ((o':Int)==0))=_)
    unfold jB
    rw[c]
    congr 2
    by_cases h0:o'=0
    ·subst h0;rfl
    ·have e1:((o':Int)==0)=false:=by simp;assumption
     have e2:(o'==0)=false:=by simpa using h0
     rw[e1,e2]
   unfold fm
   rw[t,Au,if_pos ON];rfl
  ·refine bU g' (wE ?_)
   rw[(hG _).mpr e]
   unfold jB
   rw[c]
 refine aK key fun g' e=>?_
 exact(if_pos rfl).trans (by rw[e])
end
set_option genSizeOf false
noncomputable def m8(c:Nat):Nat:=if 65<=c&&c<=90 then c+32 else c
noncomputable def hV(x y:Nat):Nat:=if x==y then 0 else if m8 x==m8 y then 1 else 2
noncomputable def gR:List Nat->List Nat->Nat
 |x::a,y::b=>if x==y then gR a b+1 else 0
 |_,_=>0
structure tQ where
 d:Nat
 r:Nat
 m:Nat
 row:List Nat
noncomputable def u9:Nat:=9223372036854775807
noncomputable def ng(a b:Nat):Nat:=if b<a then b else a
noncomputable def kX(s:List Nat)(bc:Nat)(q:tQ)(i:Nat):tQ:=
 let r':=ng (ng q.r (q.row.getD i 0)+2) (q.d+hV bc (s.getD i 0))
 ⟨q.row.getD i 0,r',if r'<q.m then r' else q.m,q.row.set i r'⟩
noncomputable def kY(s:List Nat)(bc bi:Nat)(row:List Nat):tQ:=(Ae s.length).foldl (kX s bc) ⟨bi*2,bi*2,u9,row⟩
noncomputable def va(s:List Nat)(c:Nat):List Nat->Nat->List Nat->Nat->Nat
 |[],_,_,res=>res
 |bc::l,bi,row,_=>let q:=kY s bc bi row;if c<q.m then c+1 else va s c l (bi+1) q.row q.r
noncomputable def GH(s l:List Nat)(c:Nat):Nat:=if c<(l.length-s.length)*2 then c+1 else va s c l 0 ((Ae s.length).map fun i=>2+2*i) 0
noncomputable def OZ(a b:List Nat)(c:Nat):Nat:=if a.isEmpty||b.isEmpty then 2*(a.length+b.length)else if b.length<a.length then GH b a c else GH a b c
noncomputable def U4(a b:List Nat):List Nat×List Nat:=
 let q:=gR a.reverse b.reverse
 (a.take (a.length-q),b.take (b.length-q))
noncomputable def lM(a b:List Nat)(c:Nat):Nat:=if a==b then 0 else
 let p:=gR a b
 let x:=U4 (a.drop p) (b.drop p)
 OZ x.1 x.2 c
noncomputable def tS:dD:=(.cons (.assign 12 (.bin .Add (.var 9) (.uc 0 (.cons (.var 8) (.cons (.idx (.var 0) (.var 11)) .nil))))) (.cons (.assign 9 (.idx (.var 5) (.var 11))) (.cons (.assign 13 (.bin .Add (.bi 3 (.cons (.var 6) (.cons (.var 9) .nil))) (.lit (.int 2)))) (.cons (.assign 6 (.bi 3 (.cons (.var 13) (.cons (.var 12) .nil)))) (.cons (.set 5 (.var 11) (.var 6)) (.cons (.ifs (.cmp .Lt (.var 6) (.var 10)) (.cons (.assign 10 (.var 6)) .nil) .nil) .nil))))))
noncomputable def jC:dD:=(.cons (.assign 8 (.idx (.var 1) (.var 7))) (.cons (.dc 9 6 (.bin .Mult (.var 7) (.lit (.int 2)))) (.cons (.assign 10 (.lit (.int 9223372036854775807))) (.cons (.forR 11 (.bi 0 (.cons (.var 0) .nil)) tS) (.cons (.ifs (.cmp .Gt (.var 10) (.var 2)) (.cons (.ret (.bin .Add (.var 2) (.lit (.int 1)))) .nil) .nil) .nil)))))
noncomputable def O0:dD:=(.cons (.ifs (.or (.cons (.not (.eT (.var 0))) (.cons (.not (.eT (.var 1))) .nil))) (.cons (.ret (.bin .Mult (.lit (.int 2)) (.bin .Add (.bi 0 (.cons (.var 0) .nil)) (.bi 0 (.cons (.var 1) .nil))))) .nil) .nil) (.cons (.ifs (.or (.cons (.cmp .Gt (.bi 0 (.cons (.var 0) .nil)) (.lit (.int 40))) (.cons (.cmp .Gt (.bi 0 (.cons (.var 1) .nil)) (.lit (.int 40))) .nil))) (.cons (.ret (.bin .Add (.var 2) (.lit (.int 1)))) .nil) .nil) (.cons (.ifs (.cmp .Lt (.bi 0 (.cons (.var 1) .nil)) (.bi 0 (.cons (.var 0) .nil))) (.cons (.swap 0 1 (.var 1) (.var 0)) .nil) .nil) (.cons (.ifs (.cmp .Gt (.bin .Mult (.bin .Sub (.bi 0 (.cons (.var 1) .nil)) (.bi 0 (.cons (.var 0) .nil))) (.lit (.int 2))) (.var 2)) (.cons (.ret (.bin .Add (.var 2) (.lit (.int 1)))) .nil) .nil) (.cons (.assign 5 (.bi 5 (.cons (.lit (.int 2)) (.cons (.bin .Mult (.lit (.int 2)) (.bin .Add (.bi 0 (.cons (.var 0) .nil)) (.lit (.int 1)))) (.cons (.lit (.int 2)) .nil))))) (.cons (.assign 6 (.lit (.int 0))) (.cons (.forR 7 (.bi 0 (.cons (.var 1) .nil)) jC) (.cons (.ret (.var 6)) .nil))))))))
noncomputable def AY:PT:=(.and (.cons (.eT (.bS (.var 0) (.yes (.var 3)) .no .no)) (.cons (.eT (.bS (.var 1) (.yes (.var 3)) .no .no)) (.cons (.cmp .Eq (.idx (.var 0) (.var 3)) (.idx (.var 1) (.var 3))) .nil))))
noncomputable def AZ:PT:=(.and (.cons (.eT (.bS (.var 0) .no (.yes (.gy (.var 4) (.lit .none))) .no)) (.cons (.eT (.bS (.var 1) .no (.yes (.gy (.var 4) (.lit .none))) .no)) (.cons (.cmp .Eq (.idx (.var 0) (.bin .Sub (.var 4) (.lit (.int 1)))) (.idx (.var 1) (.bin .Sub (.var 4) (.lit (.int 1))))) .nil))))
theorem yDc:AD=(.cons (.ifs (.cmp .Eq (.var 0) (.var 1)) (.cons (.ret (.lit (.int 0))) .nil) .nil) (.cons (.assign 3 (.lit (.int 0))) (.cons (.qp AY (.cons (.aug .Add 3 (.lit (.int 1))) .nil)) (.cons (.assign 0 (.bS (.var 0) (.yes (.var 3)) .no .no)) (.cons (.assign 1 (.bS (.var 1) (.yes (.var 3)) .no .no)) (.cons (.assign 4 (.lit (.int 0))) (.cons (.qp AZ (.cons (.aug .Sub 4 (.lit (.int 1))) .nil)) (.cons (.assign 0 (.bS (.var 0) .no (.yes (.gy (.var 4) (.lit .none))) .no)) (.cons (.assign 1 (.bS (.var 1) .no (.yes (.gy (.var 4) (.lit .none))) .no)) O0))))))))):=rfl
theorem yEi(U:Uc){x y:Nat}(hx:x<128)(hy:y<128):pB (yN U EX) (aR 5) 2 [.str [x], .str [y]]=some (pn (hV x y)):=by
 have eX:eB (aR 5) [.str [x], .str [y]] none=⟨[some (.str [x]),some (.str [y])],none⟩:=rfl
 have key:∃g',yN U EX (eB (aR 5) [.str [x], .str [y]] none)=some (g', .ret (pn (hV x y))):=by
  rw[eX]
  refine bU ⟨[some (.str [x]),some (.str [y])],none⟩ ?_
  have t1:aU U (.cmp .Eq (.var 0) (.var 1)) [some (.str [x]),some (.str [y])]=some (x==y):=by
   refine(?_:some (([x]:List Nat)==[y])=_)
   simp
  have m:∀(i c:Nat),c<128->At [some (.str [x]),some (.str [y])] i (.str [c])->ev U (.me 1 (.var i) .nil) [some (.str [x]),some (.str [y])]=some (.str [m8 c]):=fun i c hc h=>by
   refine(?_:(ev U (.var i) _).bind _=_)
   refine zZ (zA h) ?_
   refine(?_:(if c<128 then some (PV.str [if 65<=c&&c<=90 then c+32 else c])else none)=_)
   refine wI hc ?_;rfl
  have t2:aU U (.cmp .Eq (.me 1 (.var 0) .nil) (.me 1 (.var 1) .nil)) [some (.str [x]),some (.str [y])]=some (m8 x==m8 y):=by
   refine(?_:(ev U (.me 1 (.var 0) .nil) _).bind _=_)
   (refine zZ (m 0 x hx rfl) ?_;refine zZ (m 1 y hy rfl) ?_)
   refine(?_:some (([m8 x]:List Nat)==[m8 y])=_)
   simp
  unfold hV
  by_cases h1:x==y
  ·rw[if_pos h1]
   exact wE (gQ (t1.trans (by rw[h1])) rfl)
  ·have h1':(x==y)=false:=by simpa using h1
   rw[if_neg h1]
   refine(zK (fT (t1.trans (by rw[h1'])) rfl)).trans ?_
   by_cases h2:m8 x==m8 y
   ·rw[if_pos h2]
    exact wE (gQ (t2.trans (by rw[h2])) rfl)
   ·have w9:(m8 x==m8 y)=false:=by simpa using h2
    rw[if_neg h2]
    refine(zK (fT (t2.trans (by rw[w9])) rfl)).trans ?_
    exact wE rfl
 refine aK key fun g' e=>?_
 exact(if_pos rfl).trans (by rw[e])
noncomputable def small(l:List Nat):Prop:=∀c∈l,c<128
structure LV(σ:List (Option PV))(s l:List Nat)(c:Nat)(row:List Nat):Prop where
 len:σ.length=14
 s:At σ 0 (.str s)
 l:At σ 1 (.str l)
 c:At σ 2 (pn c)
 row:At σ 5 (.list (row.map pn))
section
variable{U:Uc}{σ:List (Option PV)}{β:Option (Value×ak)}{s l:List Nat}{c:Nat}{row:List Nat}
theorem LV.set(h:LV σ s l c row){i:Nat}{p:PV}(hi:6<=i\/i=3\/i=4):LV (σ.set i (some p)) s l c row:=by
 refine⟨by rw[Bd];exact h.len,h.s.set ?_,h.l.set ?_,h.c.set ?_,h.row.set ?_⟩<;>exact xJ ‹_› rfl
theorem O1{a b:PE}{m n:Nat}(ha:ev U a σ=some (pn m))(hb:ev U b σ=some (pn n)):ev U (.bi 3 (.cons a (.cons b .nil))) σ=some (pn (ng m n)):=by
 refine(?_:((ev U a σ).bind fun x=>((ev U b σ).bind fun y=>(some []).map (y:: ·)).map (x:: ·)).bind (ui 3)=_)
 rw[ha,Au,hb]
 refine(?_:some (PV.int (if(n:Int)<(m:Int)then(n:Int)else(m:Int)))=_)
 unfold ng
 by_cases h:n<m
 ·rw[if_pos (by exact Mj.mpr ‹_›),if_pos h]
 ·rw[if_neg (by lia),if_neg h]
theorem yA0{i n:Nat}{a b:PE}{l:List Nat}{m:Nat}(hl:At σ i (.list (l.map pn)))(ha:ev U a σ=some (pn n))(hb:ev U b σ=some (pn m))(hn:n<l.length)(hs:l.length<=1000):den U (.set i a b) ⟨σ,β⟩=some (⟨σ.set i (some (.list ((l.set n m).map pn))),β⟩, .next):=by
 have e1:jI ⟨σ,β⟩ i=some (l.map pn):=wb hl
 refine(?_:(ev U b σ).bind _=_)
 (refine zZ hb ?_;refine zZ e1 ?_)
 refine(?_:(ev U a σ).bind _=_)
 refine zZ ha ?_
 refine(?_:(if(true&&decide ((0:Int)<=(n:Int))&&decide ((n:Int)<((l.map pn).length:Int))&&decide ((l.map pn).length<=1000))=true then some ((⟨σ,β⟩:Sg).set i (.list ((l.map pn).set ((n:Int)).toNat (pn m))),Fl.next)else none)=_)
 refine wI (by simp;exact And.intro ‹_› ‹_›) ?_
 rw[List.map_set];rfl
theorem zYr(hU:∀x y:Nat,x<128->y<128->U 0 [.str [x], .str [y]]=some (pn (hV x y)))(hs:small s)(gY:s.length<=40){bc:Nat}(gq:bc<128){q:tQ}{i:Nat}(hi:i<s.length)(hr:q.row.length=s.length)
  (h:LV σ s l c q.row) (h8:At σ 8 (.str [bc])) (h9:At σ 9 (pn q.d)) (h6:At σ 6 (pn q.r)) (iJ:At σ 10 (pn q.m)) (U5:At σ 11 (pn i)):
  ∃aC,yN U tS ⟨σ,β⟩=some (⟨aC,β⟩, .next)/\LV aC s l c (kX s bc q i).row/\At aC 8 (.str [bc])/\At aC 9 (pn (kX s bc q i).d)/\At aC 6 (pn (kX s bc q i).r)/\At aC 10 (pn (kX s bc q i).m)/\aC[7]?=σ[7]?:=by
 have hsi:s.getD i 0<128:=by
  rw[Aw,Ap hi]
  exact hs _ (Ee _)
 have v1:ev U (.bin .Add (.var 9) (.uc 0 (.cons (.var 8) (.cons (.idx (.var 0) (.var 11)) .nil)))) σ=some (pn (q.d+hV bc (s.getD i 0))):=by
  refine iX (zA h9) ?_
  refine(?_:((ev U (.var 8) σ).bind fun x=>((ev U (.idx (.var 0) (.var 11)) σ).bind fun y=>(some []).map (y:: ·)).map (x:: ·)).bind (U 0)=_)
  rw[zA h8,Au,lG (zA h.s) (zA U5) (tP 0 hi) (by exact zB)]
  exact hU _ _ gq hsi
 have e1:den U (.assign 12 _) ⟨σ,β⟩=some (⟨σ.set 12 (some (pn (q.d+hV bc (s.getD i 0)))),β⟩, .next):=zD v1 zX
 generalize cf:σ.set 12 (some (pn (q.d+hV bc (s.getD i 0))))=cJ at e1
 have H1:LV cJ s l c q.row:=by rw[<-cf];exact h.set (.inl (by decide))
 have a8:At cJ 8 (.str [bc]):=by rw[<-cf];exact h8.set (by decide)
 have a6:At cJ 6 (pn q.r):=by rw[<-cf];exact h6.set (by decide)
 have o5:At cJ 10 (pn q.m):=by rw[<-cf];exact iJ.set (by decide)
 have U6:At cJ 11 (pn i):=by rw[<-cf];exact U5.set (by decide)
 have a12:At cJ 12 (pn (q.d+hV bc (s.getD i 0))):=by rw[<-cf];exact zG (by rw[h.len];decide)
 have a7:cJ[7]?=σ[7]?:=by rw[<-cf,A7 (by decide)]
 have e2:den U (.assign 9 _) ⟨cJ,β⟩=some (⟨cJ.set 9 (some (pn (q.row.getD i 0))),β⟩, .next):=zD (wH (zA H1.row) (zA U6) (kU pn 0 (by exact zH)) (by rw[Az];exact xE)) zX
 generalize bG:cJ.set 9 (some (pn (q.row.getD i 0)))=bj at e2
 have H2:LV bj s l c q.row:=by rw[<-bG];exact H1.set (.inl (by decide))
 have b8:At bj 8 (.str [bc]):=by rw[<-bG];exact a8.set (by decide)
 have b6:At bj 6 (pn q.r):=by rw[<-bG];exact a6.set (by decide)
 have vc:At bj 10 (pn q.m):=by rw[<-bG];exact o5.set (by decide)
 have b11:At bj 11 (pn i):=by rw[<-bG];exact U6.set (by decide)
 have b12:At bj 12 (pn (q.d+hV bc (s.getD i 0))):=by rw[<-bG];exact a12.set (by decide)
 have b9:At bj 9 (pn (q.row.getD i 0)):=by rw[<-bG];exact zG (by rw[H1.len];decide)
 have b7:bj[7]?=σ[7]?:=by rw[<-bG,A7 (by decide),a7]
 have e3:den U (.assign 13 (.bin .Add (.bi 3 (.cons (.var 6) (.cons (.var 9) .nil))) (.lit (.int 2)))) ⟨bj,β⟩=some (⟨bj.set 13 (some (pn (ng q.r (q.row.getD i 0)+2))),β⟩, .next):=zD (iX (n:=2) (O1 (zA b6) (zA b9)) rfl) zX
 generalize bf:bj.set 13 (some (pn (ng q.r (q.row.getD i 0)+2)))=aX at e3
 have H3:LV aX s l c q.row:=by rw[<-bf];exact H2.set (.inl (by decide))
 have c8:At aX 8 (.str [bc]):=by rw[<-bf];exact b8.set (by decide)
 have c10:At aX 10 (pn q.m):=by rw[<-bf];exact vc.set (by decide)
 have c11:At aX 11 (pn i):=by rw[<-bf];exact b11.set (by decide)
 have c12:At aX 12 (pn (q.d+hV bc (s.getD i 0))):=by rw[<-bf];exact b12.set (by decide)
 have c9:At aX 9 (pn (q.row.getD i 0)):=by rw[<-bf];exact b9.set (by decide)
 have c13:At aX 13 (pn (ng q.r (q.row.getD i 0)+2)):=by rw[<-bf];exact zG (by rw[H2.len];decide)
 have c7:aX[7]?=σ[7]?:=by rw[<-bf,A7 (by decide),b7]
 generalize GI:ng (ng q.r (q.row.getD i 0)+2) (q.d+hV bc (s.getD i 0))=r'
 have e4:den U (.assign 6 _) ⟨aX,β⟩=some (⟨aX.set 6 (some (pn r')),β⟩, .next):=zD (by rw[<-GI];exact O1 (zA c13) (zA c12)) zX
 generalize dX:aX.set 6 (some (pn r'))=dH at e4
 have H4:LV dH s l c q.row:=by rw[<-dX];exact H3.set (.inl (by decide))
 have d8:At dH 8 (.str [bc]):=by rw[<-dX];exact c8.set (by decide)
 have d10:At dH 10 (pn q.m):=by rw[<-dX];exact c10.set (by decide)
 have d11:At dH 11 (pn i):=by rw[<-dX];exact c11.set (by decide)
 have d9:At dH 9 (pn (q.row.getD i 0)):=by rw[<-dX];exact c9.set (by decide)
 have d6:At dH 6 (pn r'):=by rw[<-dX];exact zG (by rw[H3.len];decide)
 have d7:dH[7]?=σ[7]?:=by rw[<-dX,A7 (by decide),c7]
 have e5:den U (.set 5 (.var 11) (.var 6)) ⟨dH,β⟩=some (⟨dH.set 5 (some (.list ((q.row.set i r').map pn))),β⟩, .next):=yA0 H4.row (zA d11) (zA d6) (by exact zH) (by exact xE)
 generalize kZ:dH.set 5 (some (.list ((q.row.set i r').map pn)))=iY at e5
 have H5:LV iY s l c (q.row.set i r'):=by
  rw[<-kZ]
  exact⟨by rw[Bd];exact H4.len,H4.s.set (by decide),H4.l.set (by decide),H4.c.set (by decide),zG (by rw[H4.len];decide)⟩
 have f8:At iY 8 (.str [bc]):=by rw[<-kZ];exact d8.set (by decide)
 have U7:At iY 10 (pn q.m):=by rw[<-kZ];exact d10.set (by decide)
 have f9:At iY 9 (pn (q.row.getD i 0)):=by rw[<-kZ];exact d9.set (by decide)
 have f6:At iY 6 (pn r'):=by rw[<-kZ];exact d6.set (by decide)
 have f7:iY[7]?=σ[7]?:=by rw[<-kZ,A7 (by decide),d7]
 have t:aU U (.cmp .Lt (.var 6) (.var 10)) iY=some (decide (r'<q.m)):=by
  refine(?_:(ev U (.var 6) iY).bind _=_)
  (refine zZ (zA f6) ?_;refine zZ (zA U7) ?_)
  refine(?_:some (decide ((r':Int)<(q.m:Int)))=_)
  congr 1
  simp
 have st:kX s bc q i=⟨q.row.getD i 0,r',if r'<q.m then r' else q.m,q.row.set i r'⟩:=by rw[<-GI];rfl
 rw[st]
 by_cases hm:r'<q.m
 ·rw[if_pos hm]
  refine Pw (iY.set 10 (some (pn r'))) ?_ (H5.set (.inl (by decide))) (f8.set (by decide)) (f9.set (by decide)) (f6.set (by decide)) (zG (by rw[H5.len];decide)) (by rw[A7 (by decide),f7])
  unfold tS
  rw[zK e1,zK e2,zK e3,zK e4,zK e5]
  exact eZ (gQ (t.trans (by rw[decide_eq_true hm])) (eZ (zD (zA f6) zX)))
 ·rw[if_neg hm]
  refine Pw iY ?_ H5 f8 f9 f6 U7 f7
  unfold tS
  rw[zK e1,zK e2,zK e3,zK e4,zK e5]
  exact eZ (fT (t.trans (by rw[decide_eq_false hm])) rfl)
end
section
variable{U:Uc}{β:Option (Value×ak)}{s l:List Nat}{c:Nat}
theorem U8{a b:Int}(ha:wV a=true)(hb:wV b=true):BS .Mult (.int a) (.int b)=some (.int (a*b)):=by
 refine(?_:(if(wV a&&wV b)=true then some (PV.int (a*b))else none)=_)
 exact wI (by rw[ha,hb];rfl) rfl
theorem qS{σ:List (Option PV)}{a b:PE}{m n:Nat}(ha:ev U a σ=some (pn m))(hb:ev U b σ=some (pn n))(hm:m<=16777216)(hn:n<=16777216):ev U (.bin .Mult a b) σ=some (pn (m*n)):=by
 refine(?_:(ev U a σ).bind _=_)
 (refine zZ ha ?_;refine zZ hb ?_)
 refine(U8 (u2 hm) (u2 hn)).trans ?_
 refine(?_:some (PV.int ((m:Int)*(n:Int)))=some (PV.int ((m*n:Nat):Int)))
 rw[Int.natCast_mul]
theorem U9(s:List Nat)(bc:Nat)(q:tQ)(i:Nat):(kX s bc q i).row.length=q.row.length:=by
 refine(?_:(q.row.set i _).length=_)
 simp
theorem Va(s:List Nat)(bc:Nat):∀(is:List Nat) (q:tQ),(is.foldl (kX s bc) q).row.length=q.row.length
 |[],q=>rfl
 |i::is,q=>by rw[Ff,Va s bc is,U9]
theorem Vb(hU:∀x y:Nat,x<128->y<128->U 0 [.str [x], .str [y]]=some (pn (hV x y)))(hs:small s)(gY:s.length<=40){bc:Nat}(gq:bc<128):∀(is:List Nat) (σ:List (Option PV)) (q:tQ),(∀i∈is,i<s.length)->q.row.length=s.length->
  LV σ s l c q.row->At σ 8 (.str [bc])->At σ 9 (pn q.d)->At σ 6 (pn q.r)->At σ 10 (pn q.m)->
  ∃aC,wN [11] (yN U tS) (is.map fun i=> [pn i]) ⟨σ,β⟩=some (⟨aC,β⟩, .next)/\LV aC s l c (is.foldl (kX s bc) q).row/\At aC 6 (pn (is.foldl (kX s bc) q).r)/\At aC 10 (pn (is.foldl (kX s bc) q).m)/\aC[7]?=σ[7]?
 |[],σ,q,_,_,h,_,_,h6,iJ=>⟨σ,rfl,h,h6,iJ,rfl⟩
 |i::is,σ,q,hi,hr,h,h8,h9,h6,iJ=>by
  obtain⟨bx,e1,H1,a8,a9,a6,o5,a7⟩:=zYr (U:=U) (β:=β) hU hs gY gq (hi i (Ag ..)) hr (h.set (i:=11) (p:=pn i) (.inl (by decide))) (h8.set (by decide)) (h9.set (by decide)) (h6.set (by decide)) (iJ.set (by decide)) (zG (by rw[h.len];decide))
  obtain⟨et,e2,H2,b6,vc,b7⟩:=Vb hU hs gY gq is bx (kX s bc q i) (fun j hj=>hi j (Ad _ hj)) (by rw[U9];exact hr) H1 a8 a9 a6 o5
  refine HP et ?_ H2 b6 vc (by rw[b7,a7,A7 (by decide)])
  refine(?_:((yN U tS ⟨σ.set 11 (some (pn i)),β⟩).bind _)=_)
  rw[e1];exact e2
theorem zSr(hU:∀x y:Nat,x<128->y<128->U 0 [.str [x], .str [y]]=some (pn (hV x y)))(hs:small s)(gY:s.length<=40)(hl:small l)(BA:l.length<=40){σ:List (Option PV)}{row:List Nat}{bi:Nat}(tT:bi<l.length)(hr:row.length=s.length)
  (h:LV σ s l c row) (h7:At σ 7 (pn bi)):
  (c<(kY s (l.getD bi 0) bi row).m/\∃g',yN U jC ⟨σ,β⟩=some (g', .ret (pn (c+1))))\/
  (¬c<(kY s (l.getD bi 0) bi row).m/\∃aC,yN U jC ⟨σ,β⟩=some (⟨aC,β⟩, .next)/\LV aC s l c (kY s (l.getD bi 0) bi row).row/\At aC 6 (pn (kY s (l.getD bi 0) bi row).r)):=by
 have gq:l.getD bi 0<128:=by
  rw[Aw,Ap tT]
  exact hl _ (Ee _)
 generalize O2:l.getD bi 0=bc at gq
 have e1:den U (.assign 8 (.idx (.var 1) (.var 7))) ⟨σ,β⟩=some (⟨σ.set 8 (some (.str [bc])),β⟩, .next):=zD (lG (zA h.l) (zA h7) (by rw[<-O2];exact tP 0 tT) (by exact zB)) yX
 have H1:LV (σ.set 8 (some (.str [bc]))) s l c row:=h.set (.inl (by decide))
 have e2:den U (.dc 9 6 (.bin .Mult (.var 7) (.lit (.int 2)))) ⟨σ.set 8 (some (.str [bc])),β⟩=some (⟨((σ.set 8 (some (.str [bc]))).set 9 (some (pn (bi*2)))).set 6 (some (pn (bi*2))),β⟩, .next):=by
  have v:ev U (.bin .Mult (.var 7) (.lit (.int 2))) (σ.set 8 (some (.str [bc])))=some (pn (bi*2)):=qS (n:=2) (zA (h7.set (by decide))) rfl (by exact xP) (by decide)
  refine(?_:((KJ U _ _).bind _)=_)
  unfold KJ
  rw[v,Au,if_pos (show(pn (bi*2)).bo=true from rfl)];rfl
 generalize bG:((σ.set 8 (some (.str [bc]))).set 9 (some (pn (bi*2)))).set 6 (some (pn (bi*2)))=bj at e2
 have H2:LV bj s l c row:=by rw[<-bG];exact(H1.set (.inl (by decide))).set (.inl (by decide))
 have e3:den U (.assign 10 (.lit (.int 9223372036854775807))) ⟨bj,β⟩=some (⟨bj.set 10 (some (pn u9)),β⟩, .next):=zD (e:= .lit _) rfl rfl
 generalize bf:bj.set 10 (some (pn u9))=aX at e3
 have L2:bj.length=14:=H2.len
 have H3:LV aX s l c row:=by rw[<-bf];exact H2.set (.inl (by decide))
 have a8:At aX 8 (.str [bc]):=by rw[<-bf,<-bG];exact(((zG (by rw[h.len];decide)).set (by decide)).set (by decide)).set (by decide)
 have a9:At aX 9 (pn (bi*2)):=by rw[<-bf,<-bG];exact((zG (by simp[h.len])).set (by decide)).set (by decide)
 have a6:At aX 6 (pn (bi*2)):=by rw[<-bf,<-bG];exact(zG (by simp[h.len])).set (by decide)
 have o5:At aX 10 (pn u9):=by rw[<-bf];exact zG (by rw[L2];decide)
 refine pO (Vb (U:=U) (β:=β) (c:=c) (l:=l) hU hs gY gq (Ae s.length) aX ⟨bi*2,bi*2,u9,row⟩ (fun i hi=>Bg.mp hi) hr H3 a8 a9 a6 o5) fun dH e4 H4 b6 vc _=>?_
 have O3:den U (.forR 11 (.bi 0 (.cons (.var 0) .nil)) tS) ⟨aX,β⟩=some (⟨dH,β⟩, .next):=by
  rw[AO (n:=s.length) (nO (zA H3.s) (by exact zB)) (by exact zB)]
  exact e4
 have vW:kY s bc bi row=(Ae s.length).foldl (kX s bc) ⟨bi*2,bi*2,u9,row⟩:=rfl
 rw[<-vW]at H4 b6 vc
 have t:aU U (.cmp .Gt (.var 10) (.var 2)) dH=some (decide (c<(kY s bc bi row).m)):=tO (zA vc) (zA H4.c)
 have run:yN U jC ⟨σ,β⟩=yN U (.cons (.ifs (.cmp .Gt (.var 10) (.var 2)) (.cons (.ret (.bin .Add (.var 2) (.lit (.int 1)))) .nil) .nil) .nil) ⟨dH,β⟩:=by
  unfold jC
  rw[zK e1,zK e2,zK e3,zK O3]
 by_cases hm:c<(kY s bc bi row).m
 ·refine .inl ⟨hm,⟨dH,β⟩,?_⟩
  rw[run]
  refine wE (gQ (t.trans (by rw[decide_eq_true hm])) (wE ?_))
  refine(?_:((fm U _ ⟨dH,β⟩).bind _)=_)
  unfold fm
  rw[iX (n:=1) (zA H4.c) rfl,Au,if_pos zX];rfl
 ·refine .inr ⟨hm,dH,?_,H4,b6⟩
  rw[run]
  exact eZ (fT (t.trans (by rw[decide_eq_false hm])) rfl)
theorem zTo(s:List Nat)(bc bi:Nat)(row:List Nat):(kY s bc bi row).row.length=row.length:=Va ..
theorem Vc(hU:∀x y:Nat,x<128->y<128->U 0 [.str [x], .str [y]]=some (pn (hV x y)))(hs:small s)(gY:s.length<=40)(hl:small l)(BA:l.length<=40):∀(r:List Nat) (bi:Nat) (σ:List (Option PV)) (row:List Nat) (res:Nat),l.drop bi=r->row.length=s.length->LV σ s l c row->At σ 6 (pn res)->
  (∃aC v,wN [7] (yN U jC) ((C5 bi r.length).map fun i=> [pn i]) ⟨σ,β⟩=some (⟨aC,β⟩, .next)/\At aC 6 (pn v)/\va s c r bi row res=v)\/(∃g',wN [7] (yN U jC) ((C5 bi r.length).map fun i=> [pn i]) ⟨σ,β⟩=some (g', .ret (pn (va s c r bi row res))))
 |[],bi,σ,row,res,_,_,_,h6=> .inl ⟨σ,res,rfl,h6,rfl⟩
 |bc::r,bi,σ,row,res,hd,hr,h,h6=>by
  have tT:bi<l.length:=by
   have:(l.drop bi).length=r.length+1:=by rw[hd];rfl
   rw[Bs]at this;lia
  have gq:l.getD bi 0=bc:=by
   have:=Bc tT
   rw[hd]at this
   rw[Aw,Ap tT]
   exact(E1 this).1.symm
  have yf:l.drop (bi+1)=r:=by
   have:=Bc tT
   rw[hd]at this
   exact(E1 this).2.symm
  have run:∀x,((yN U jC ⟨σ.set 7 (some (pn bi)),β⟩).bind fun q=>match q with
   |(g', .next)=>wN [7] (yN U jC) ((C5 (bi+1) r.length).map fun i=> [pn i]) g'
   |(g', .cont)=>wN [7] (yN U jC) ((C5 (bi+1) r.length).map fun i=> [pn i]) g'
   |(g', .brk)=>some (g', .next)
   |(g', .ret p)=>some (g', .ret p))=x->wN [7] (yN U jC) ((C5 bi (bc::r).length).map fun i=> [pn i]) ⟨σ,β⟩=x:=fun x e=>e
  rcases zSr (U:=U) (β:=β) hU hs gY hl BA tT hr (h.set (i:=7) (p:=pn bi) (.inl (by decide))) (zG (by rw[h.len];decide))with⟨hm,g',e⟩|⟨hm,bx,e,H1,b6⟩
  ·rw[gq]at hm
   refine .inr ⟨g',run _ ?_⟩
   rw[e]
   refine(?_:some (g',Fl.ret (pn (c+1)))=some (g',Fl.ret (pn (if c<(kY s bc bi row).m then c+1 else _))))
   rw[if_pos hm]
  ·rw[gq]at hm H1 b6
   have rr:va s c (bc::r) bi row res=va s c r (bi+1) (kY s bc bi row).row (kY s bc bi row).r:=by
    refine(?_:(if c<(kY s bc bi row).m then c+1 else _)=_)
    exact ea hm rfl
   rw[rr]
   rcases Vc hU hs gY hl BA r (bi+1) bx _ _ yf (by rw[zTo];exact hr) H1 b6 with⟨aC,v,e',h',c'⟩|⟨g',e'⟩
   ·exact .inl ⟨aC,v,run _ (by rw[e];exact e'),h',c'⟩
   ·exact .inr ⟨g',run _ (by rw[e];exact e')⟩
noncomputable def GJ:dD:=(.cons (.ifs (.cmp .Gt (.bin .Mult (.bin .Sub (.bi 0 (.cons (.var 1) .nil)) (.bi 0 (.cons (.var 0) .nil))) (.lit (.int 2))) (.var 2)) (.cons (.ret (.bin .Add (.var 2) (.lit (.int 1)))) .nil) .nil) (.cons (.assign 5 (.bi 5 (.cons (.lit (.int 2)) (.cons (.bin .Mult (.lit (.int 2)) (.bin .Add (.bi 0 (.cons (.var 0) .nil)) (.lit (.int 1)))) (.cons (.lit (.int 2)) .nil))))) (.cons (.assign 6 (.lit (.int 0))) (.cons (.forR 7 (.bi 0 (.cons (.var 1) .nil)) jC) (.cons (.ret (.var 6)) .nil)))))
theorem zO7(n:Nat):rn 2 (2*((n:Int)+1)) 2=((Ae n).map fun i=>2+2*i).map pn:=by
 unfold rn
 have hc:(if(2:Int)<2*((n:Int)+1)then((2*((n:Int)+1)-2-1)/2+1).toNat else 0)=n:=by
  split<;>lia
 rw[hc,A3]
 refine Cj fun i _=>?_
 refine(?_:PV.int (2+(i:Int)*2)=PV.int ((2+2*i:Nat):Int))
 congr 1
 lia
theorem Vd(hU:∀x y:Nat,x<128->y<128->U 0 [.str [x], .str [y]]=some (pn (hV x y)))(hs:small s)(gY:s.length<=40)(hl:small l)(BA:l.length<=40)(hle:s.length<=l.length){σ:List (Option PV)}
  (hL:σ.length=14) (h0:At σ 0 (.str s)) (h1:At σ 1 (.str l)) (h2:At σ 2 (pn c)):∃g',yN U GJ ⟨σ,β⟩=some (g', .ret (pn (GH s l c))):=by
 have n0:ev U (.bi 0 (.cons (.var 0) .nil)) σ=some (pn s.length):=nO (zA h0) (by exact xQ)
 have n1:ev U (.bi 0 (.cons (.var 1) .nil)) σ=some (pn l.length):=nO (zA h1) (by exact zB)
 have v:ev U (.bin .Mult (.bin .Sub (.bi 0 (.cons (.var 1) .nil)) (.bi 0 (.cons (.var 0) .nil))) (.lit (.int 2))) σ=some (pn ((l.length-s.length)*2)):=by
  have v0:ev U (.bin .Sub (.bi 0 (.cons (.var 1) .nil)) (.bi 0 (.cons (.var 0) .nil))) σ=some (pn (l.length-s.length)):=by
   refine(?_:(ev U (.bi 0 (.cons (.var 1) .nil)) σ).bind _=_)
   (refine zZ n1 ?_;refine zZ n0 ?_)
   refine(?_:some (PV.int ((l.length:Int)-(s.length:Int)))=some (PV.int ((l.length-s.length:Nat):Int)))
   congr 2
   lia
  exact qS (n:=2) v0 rfl (by exact zL) (by decide)
 have t:aU U (.cmp .Gt (.bin .Mult (.bin .Sub (.bi 0 (.cons (.var 1) .nil)) (.bi 0 (.cons (.var 0) .nil))) (.lit (.int 2))) (.var 2)) σ=some (decide (c<(l.length-s.length)*2)):=tO v (zA h2)
 unfold GH
 by_cases hb:c<(l.length-s.length)*2
 ·rw[if_pos hb]
  refine bU ⟨σ,β⟩ (wE (gQ (t.trans (by rw[decide_eq_true hb])) (wE ?_)))
  refine(?_:((fm U _ ⟨σ,β⟩).bind _)=_)
  unfold fm
  rw[iX (n:=1) (zA h2) rfl,Au,if_pos zX];rfl
 ·rw[if_neg hb]
  have e0:=fT (U:=U) (β:=β) (a:= .cons (.ret (.bin .Add (.var 2) (.lit (.int 1)))) .nil) (b:= .nil) (t.trans (by rw[decide_eq_false hb])) rfl
  have e1:den U (.assign 5 (.bi 5 (.cons (.lit (.int 2)) (.cons (.bin .Mult (.lit (.int 2)) (.bin .Add (.bi 0 (.cons (.var 0) .nil)) (.lit (.int 1)))) (.cons (.lit (.int 2)) .nil))))) ⟨σ,β⟩=some (⟨σ.set 5 (some (.list (((Ae s.length).map fun i=>2+2*i).map pn))),β⟩, .next):=by
   refine zD (p:= .list _) ?_ (by
    refine(?_:(List.all _ PV.bo)=true)
    rw[Kj,Al]
    exact fun _ _=>rfl)
   have m:ev U (.bin .Mult (.lit (.int 2)) (.bin .Add (.bi 0 (.cons (.var 0) .nil)) (.lit (.int 1)))) σ=some (.int (2*((s.length:Int)+1))):=by
    rw[qS (m:=2) rfl (iX (n:=1) n0 rfl) (by decide) (by lia)]
    refine(?_:some (PV.int ((2*(s.length+1):Nat):Int))=_)
    congr 2
   refine(?_:((some (PV.int 2)).bind fun x=>((ev U (.bin .Mult _ _) σ).bind fun y=>((some (PV.int 2)).bind fun z=>(some []).map (z:: ·)).map (y:: ·)).map (x:: ·)).bind (ui 5)=_)
   rw[m]
   refine(?_:(if(decide ((0:Int)<=2)&&decide ((2:Int)<=1000)&&decide (0<=2*((s.length:Int)+1))&&decide (2*((s.length:Int)+1)<=1000)&&decide ((0:Int)<2)&&decide ((2:Int)<=1000))=true then some (PV.list (rn 2 (2*((s.length:Int)+1)) 2))else none)=_)
   (refine wI (by simp;lia) ?_;rw[zO7])
  have e2:∀σ,den U (.assign 6 (.lit (.int 0))) ⟨σ,β⟩=some (⟨σ.set 6 (some (pn 0)),β⟩, .next):=fun σ=>zD (e:= .lit _) rfl rfl
  generalize bG:(σ.set 5 (some (.list (((Ae s.length).map fun i=>2+2*i).map pn)))).set 6 (some (pn 0))=bj
  have H2:LV bj s l c ((Ae s.length).map fun i=>2+2*i):=by
   rw[<-bG]
   exact⟨by simp[hL],(h0.set (by decide)).set (by decide),(h1.set (by decide)).set (by decide),(h2.set (by decide)).set (by decide),(zG (by rw[hL];decide)).set (by decide)⟩
  have a6:At bj 6 (pn 0):=by rw[<-bG];exact zG (by simp[hL])
  have run:yN U GJ ⟨σ,β⟩=yN U (.cons (.forR 7 (.bi 0 (.cons (.var 1) .nil)) jC) (.cons (.ret (.var 6)) .nil)) ⟨bj,β⟩:=by
   unfold GJ
   rw[zK e0,zK e1,zK (e2 _),bG]
  rw[run]
  have fr:den U (.forR 7 (.bi 0 (.cons (.var 1) .nil)) jC) ⟨bj,β⟩=wN [7] (yN U jC) ((C5 0 l.length).map fun i=> [pn i]) ⟨bj,β⟩:=by
   rw[AO (n:=l.length) (nO (zA H2.l) (by exact zB)) (by exact zB),Dx]
  rcases Vc (U:=U) (β:=β) hU hs gY hl BA l 0 bj _ 0 (by rfl) (by simp) H2 a6 with⟨aC,v,e,h',c'⟩|⟨g',e⟩
  ·refine bU ⟨aC,β⟩ ((zK (fr.trans e)).trans (wE ?_))
   rw[c']
   refine(?_:((fm U _ ⟨aC,β⟩).bind _)=_)
   unfold fm
   rw[zA h',Au,if_pos zX];rfl
  ·exact bU g' (wE (fr.trans e))
end
noncomputable def lN(a b:List Nat)(k:Nat):Bool:=match a.drop k,b.drop k with
 |x::_,y::_=>x==y
 |_,_=>false
theorem Ve(a b:List Nat)(k:Nat):gR (a.drop k) (b.drop k)=if lN a b k then gR (a.drop (k+1)) (b.drop (k+1))+1 else 0:=by
 have h1:a.drop (k+1)=(a.drop k).drop 1:=by rw[Jj,D3]
 have h2:b.drop (k+1)=(b.drop k).drop 1:=by rw[Jj,D3]
 unfold lN
 rw[h1,h2]
 generalize a.drop k=x
 generalize b.drop k=y
 match x,y with
 |[],_=>rfl
 |_::_,[]=>rfl
 |x::a,y::b=>rfl
theorem GL{a b:List Nat}{k:Nat}(h:lN a b k=true):k<a.length/\k<b.length/\a[k]?=b[k]?:=by
 unfold lN at h
 split at h
 ·next x r y t e1 e2=>
  have l1:k<a.length:=by
   have:(a.drop k).length=r.length+1:=by rw[e1];rfl
   rw[Bs]at this;exact Nat.lt_of_sub_pos (this▸Et _)
  have l2:k<b.length:=by
   have:(b.drop k).length=t.length+1:=by rw[e2];rfl
   rw[Bs]at this;exact Nat.lt_of_sub_pos (this▸Et _)
  refine lP l1 l2 ?_
  rw[Bc l1]at e1
  rw[Bc l2]at e2
  rw[Ap l1,Ap l2,(E1 e1).1,(E1 e2).1]
  exact eq_of_beq h
 ·exact ft h
theorem Vf{a b:List Nat}{k:Nat}(h1:k<a.length)(h2:k<b.length):lN a b k=(a.getD k 0==b.getD k 0):=by
 unfold lN
 rw[Bc h1,Bc h2]
 rw[Aw,Ap h1,Aw,Ap h2];rfl
theorem Vg{a b:List Nat}{k:Nat}(h:¬(k<a.length/\k<b.length)):lN a b k=false:=by
 cases e:lN a b k with
 |false=>rfl
 |true=>exact absurd ⟨(GL e).1,(GL e).2.1⟩ h
theorem zY4(a b:List Nat):gR a b<=a.length/\gR a b<=b.length:=by
 induction a generalizing b with
 |nil=>cases b<;>simp[gR]
 |cons x a ih=>
  cases b with
  |nil=>simp[gR]
  |cons y b=>
   have:=ih b
   refine(?_:(if x==y then gR a b+1 else 0)<=_/\(if x==y then gR a b+1 else 0)<=_)
   split<;>simp<;>lia
section
variable{U:Uc}{σ:List (Option PV)}{β:Option (Value×ak)}{a b:List Nat}
theorem vd{e:PE}{s:List Nat}(h:ev U e σ=some (.str s))(hs:s.length<=ag):aU U (.eT e) σ=some (!s.isEmpty):=by
 refine(?_:(ev U e σ).bind pR=_)
 refine zZ h ?_
 refine(?_:(if s.length<=ag then some (!s.isEmpty)else none)=_)
 exact wI hs rfl
theorem GN{t1 t2 t3:PT}{b1 b2 b3:Bool}(h1:aU U t1 σ=some b1)(h2:b1=true->aU U t2 σ=some b2)(h3:b1=true->b2=true->aU U t3 σ=some b3):aU U (.and (.cons t1 (.cons t2 (.cons t3 .nil)))) σ=some (b1&&b2&&b3):=by
 refine(?_:((aU U t1 σ).bind fun b=>if b==true then(aU U t2 σ).bind fun b=>if b==true then(aU U t3 σ).bind fun b=>if b==true then some true else some (!true)else some (!true)else some (!true))=_)
 refine zZ h1 ?_
 cases b1 with
 |false=>rfl
 |true=>
  (refine wI (show(true==true)=true from rfl) ?_;refine zZ (h2 rfl) ?_)
  cases b2 with
  |false=>rfl
  |true=>
   (refine wI (show(true==true)=true from rfl) ?_;refine zZ (h3 rfl rfl) ?_)
   cases b3<;>rfl
theorem GO{e f:PE}{x y:List Nat}(h1:ev U e σ=some (.str x))(h2:ev U f σ=some (.str y)):aU U (.cmp .Eq e f) σ=some (x==y):=by
 refine(?_:(ev U e σ).bind _=_)
 (refine zZ h1 ?_;rw[h2]);rfl
theorem GP{i j k:Nat}{s:List Nat}(hs:At σ i (.str s))(hl:s.length<=ag)(hk:k<=s.length)(ha:At σ j (pn k)):ev U (.bS (.var i) (.yes (.var j)) .no .no) σ=some (.str (s.drop k)):=by
 rw[UU hs hl ha]
 unfold i4
 rw[En hk,Mu,Ew (by rw[Bs];lia)]
theorem zUh{k:Nat}(h0:At σ 0 (.str a))(h1:At σ 1 (.str b))(h3:At σ 3 (pn k))(ha:a.length<=60)(hb:b.length<=60)(hk:k<=a.length/\k<=b.length):aU U AY σ=some (lN a b k):=by
 have sa:a.length<=ag:=by unfold ag;lia
 have sb:b.length<=ag:=by unfold ag;lia
 have t1:=vd (GP (U:=U) h0 sa hk.1 h3) (by rw[Bs];lia)
 have t2:=vd (GP (U:=U) h1 sb hk.2 h3) (by rw[Bs];lia)
 by_cases aY:k<a.length/\k<b.length
 ·have t3:=GO (U:=U) (lG (zA h0) (zA h3) (tP 0 aY.1) sa) (lG (zA h1) (zA h3) (tP 0 aY.2) sb)
  refine(GN t1 (fun _=>t2) (fun _ _=>t3)).trans ?_
  rw[Vf aY.1 aY.2]
  have e1:(a.drop k).isEmpty=false:=by rw[Bc aY.1];rfl
  have e2:(b.drop k).isEmpty=false:=by rw[Bc aY.2];rfl
  rw[e1,e2]
  simp
 ·refine(GN (b3:=false) t1 (fun _=>t2) (fun q1 q2=>?_)).trans ?_
  ·exfalso
   apply aY
   constructor
   ·apply Dh;intro h
    rw[Gn (by lia)]at q1;exact ft q1
   ·apply Dh;intro h
    rw[Gn (by lia)]at q2;exact ft q2
  ·rw[Vg aY];simp
theorem Vh(ha:a.length<=60)(hb:b.length<=60):∀(n k:Nat) (σ:List (Option PV)),σ.length=14->At σ 0 (.str a)->At σ 1 (.str b)->At σ 3 (pn k)->k<=a.length->k<=b.length->a.length<n+k->
  rO U AY (yN U (.cons (.aug .Add 3 (.lit (.int 1))) .nil)) n ⟨σ,β⟩=some (⟨σ.set 3 (some (pn (k+gR (a.drop k) (b.drop k)))),β⟩, .next)
 |0,k,σ,_,_,_,_,h1,_,h2=>by lia
 |n+1,k,σ,hL,h0,h1,h3,iz,hkb,hn=>by
  refine(?_:((aU U AY σ).bind _)=_)
  (refine zZ (zUh h0 h1 h3 ha hb ⟨iz,hkb⟩) ?_;rw[Ve])
  cases hs:lN a b k with
  |true=>
   refine cD (GL hs) fun l1 l2 _=>?_
   rw[if_pos rfl,if_pos rfl]
   have e:yN U (.cons (.aug .Add 3 (.lit (.int 1))) .nil) ⟨σ,β⟩=some (⟨σ.set 3 (some (pn (k+1))),β⟩, .next):=by
    refine eZ ?_
    refine(?_:((σ[3]?).bind id).bind _=_)
    rw[h3];rfl
   refine zZ e ?_
   dsimp only
   rw[Vh ha hb n (k+1) _ (by rw[Bd];exact hL) (h0.set (by decide)) (h1.set (by decide)) (zG (by rw[hL];decide)) l1 l2 (by lia)]
   rw[Mv,show k+(gR (a.drop (k+1)) (b.drop (k+1))+1)=k+1+gR (a.drop (k+1)) (b.drop (k+1))from by rw[D0,D3 1]]
  |false=>
   rw[if_neg (by decide),if_neg (by decide)]
   congr 3
   apply Gz
   intro j
   by_cases hj:3=j
   ·subst hj
    rw[Ct (by rw[hL];decide),h3];rfl
   ·rw[A7 hj]
theorem yEt(k n:Nat)(hk:0<k):Gu (some (-(k:Int))) n=n-k:=by
 unfold Gu
 refine wI (by lia) ?_
 congr 1
 lia
theorem GQ{i k:Nat}{s:List Nat}(hs:At σ i (.str s))(hl:s.length<=ag)(h4:At σ 4 (.int (-(k:Int)))):ev U (.bS (.var i) .no (.yes (.gy (.var 4) (.lit .none))) .no) σ=some (.str (s.take (s.length-k))):=by
 have ho:uj U (.yes (.gy (.var 4) (.lit .none))) σ=some (if k=0 then none else some (-(k:Int))):=by
  refine(?_:((ev U (.var 4) σ).bind fun x=>(pR x).bind fun t=>if t then some x else some PV.none).bind (fun x=>HV (some x))=_)
  rw[zA h4,Au]
  refine(?_:((some ((-(k:Int)) !=0)).bind fun t=>if t then some (PV.int (-(k:Int)))else some PV.none).bind (fun x=>HV (some x))=_)
  rw[Au]
  by_cases h:k=0
  ·subst h;rfl
  ·have e1:((-(k:Int)) !=0)=true:=by simp;lia
   rw[e1,if_pos rfl,if_neg h];rfl
 refine(?_:(ev U (.var i) σ).bind _=_)
 refine zZ (zA hs) ?_
 refine(?_:(uj U (.yes (.gy (.var 4) (.lit .none))) σ).bind _=_)
 refine zZ ho ?_
 refine(?_:(if s.length<=ag then some (PV.str ((s.drop 0).take (Gu (if k=0 then none else some (-(k:Int))) s.length-0)))else none)=_)
 refine wI hl ?_
 by_cases h:k=0
 ·subst h
  rw[if_pos rfl];rfl
 ·rw[if_neg h,yEt k _ (by lia)];rfl
theorem Vi{i k:Nat}{s:List Nat}(hs:At σ i (.str s))(hl:s.length<=60)(h4:At σ 4 (.int (-(k:Int))))(hk:k<s.length):ev U (.idx (.var i) (.bin .Sub (.var 4) (.lit (.int 1)))) σ=some (.str [s.reverse.getD k 0]):=by
 have v:ev U (.bin .Sub (.var 4) (.lit (.int 1))) σ=some (.int (-(k:Int)-1)):=by
  refine(?_:(ev U (.var 4) σ).bind _=_)
  refine zZ (zA h4) ?_;rfl
 refine(?_:(ev U (.var i) σ).bind _=_)
 (refine zZ (zA hs) ?_;refine zZ v ?_)
 refine Uz (k:=s.length-1-k) ?_ ?_ ?_
 ·unfold wV
  exact B3.mpr ⟨decide_eq_true (by lia),decide_eq_true (by lia)⟩
 ·have hj:(if(-(k:Int)-1)<0 then(-(k:Int)-1)+(s.length:Int)else(-(k:Int)-1))=((s.length-1-k:Nat):Int):=by
   refine wI (by lia) ?_;lia
  unfold Gq
  rw[hj,if_pos (by simp;lia)];rfl
 ·have hr:k<s.reverse.length:=by simpa using hk
  rw[Aw,Ap hr,List.getElem_reverse]
  rw[Ap (Ds (Gk _ _) (Nat.sub_lt (Nat.zero_lt_of_lt hk) Nat.one_pos))];rfl
theorem zXf{k:Nat}(h0:At σ 0 (.str a))(h1:At σ 1 (.str b))(h4:At σ 4 (.int (-(k:Int))))(ha:a.length<=60)(hb:b.length<=60):aU U AZ σ=some (lN a.reverse b.reverse k):=by
 have sa:a.length<=ag:=by unfold ag;lia
 have sb:b.length<=ag:=by unfold ag;lia
 have t1:=vd (GQ (U:=U) h0 sa h4) (by rw[Ca];exact Ah (Kb _ _) sa)
 have t2:=vd (GQ (U:=U) h1 sb h4) (by rw[Ca];exact Ah (Kb _ _) sb)
 by_cases aY:k<a.reverse.length/\k<b.reverse.length
 ·have l1:k<a.length:=by simpa using aY.1
  have l2:k<b.length:=by simpa using aY.2
  have t3:=GO (U:=U) (Vi h0 ha h4 l1) (Vi h1 hb h4 l2)
  refine(GN t1 (fun _=>t2) (fun _ _=>t3)).trans ?_
  rw[Vf aY.1 aY.2]
  have e1:(a.take (a.length-k)).isEmpty=false:=by
   cases h:(a.take (a.length-k))with
   |nil=>
    have:(a.take (a.length-k)).length=0:=by rw[h];rfl
    rw[Ca,En (Gk _ _)]at this;exact absurd this (G9 (Fs l1))
   |cons _ _=>rfl
  have e2:(b.take (b.length-k)).isEmpty=false:=by
   cases h:(b.take (b.length-k))with
   |nil=>
    have:(b.take (b.length-k)).length=0:=by rw[h];rfl
    rw[Ca,En (Gk _ _)]at this;exact absurd this (G9 (Fs l2))
   |cons _ _=>rfl
  rw[e1,e2]
  simp
 ·refine(GN (b3:=false) t1 (fun _=>t2) (fun q1 q2=>?_)).trans ?_
  ·exfalso
   apply aY
   rw[F0,F0]
   constructor
   ·apply Dh;intro h
    rw[Kx (Bw h)]at q1;exact ft q1
   ·apply Dh;intro h
    rw[Kx (Bw h)]at q2;exact ft q2
  ·rw[Vg aY];simp
theorem Vj(ha:a.length<=60)(hb:b.length<=60):∀(n k:Nat) (σ:List (Option PV)),σ.length=14->At σ 0 (.str a)->At σ 1 (.str b)->At σ 4 (.int (-(k:Int)))->k<=a.length->a.length<n+k->
  rO U AZ (yN U (.cons (.aug .Sub 4 (.lit (.int 1))) .nil)) n ⟨σ,β⟩=some (⟨σ.set 4 (some (.int (-((k+gR (a.reverse.drop k) (b.reverse.drop k):Nat):Int)))),β⟩, .next)
 |0,k,σ,_,h0,h1,h4,iz,hn=>by lia
 |n+1,k,σ,hL,h0,h1,h4,iz,hn=>by
  refine(?_:((aU U AZ σ).bind _)=_)
  (refine zZ (zXf h0 h1 h4 ha hb) ?_;rw[Ve])
  cases hs:lN a.reverse b.reverse k with
  |true=>
   refine cD (GL hs) fun l1 l2 _=>?_
   rw[if_pos rfl,if_pos rfl]
   have e:yN U (.cons (.aug .Sub 4 (.lit (.int 1))) .nil) ⟨σ,β⟩=some (⟨σ.set 4 (some (.int (-((k+1:Nat):Int)))),β⟩, .next):=by
    refine eZ ?_
    refine(?_:((σ[4]?).bind id).bind _=_)
    rw[h4]
    refine(?_:some ((⟨σ,β⟩:Sg).set 4 (.int (-(k:Int)-1)),Fl.next)=_)
    rw[show(-(k:Int)-1)= -((k+1:Nat):Int)by lia];rfl
   refine zZ e ?_
   dsimp only
   rw[Vj ha hb n (k+1) _ (by rw[Bd];exact hL) (h0.set (by decide)) (h1.set (by decide)) (zG (by rw[hL];decide)) (by rw[F0]at l1;exact l1) (by lia)]
   rw[Mv,show k+(gR (a.reverse.drop (k+1)) (b.reverse.drop (k+1))+1)=k+1+gR (a.reverse.drop (k+1)) (b.reverse.drop (k+1))from by rw[D0,D3 1]]
  |false=>
   rw[if_neg (by decide),if_neg (by decide)]
   congr 3
   apply Gz
   intro j
   by_cases hj:4=j
   ·subst hj
    rw[Ct (by rw[hL];decide),h4];rfl
   ·rw[A7 hj]
theorem Vk{t1 t2:PT}{b1 b2:Bool}(h1:aU U t1 σ=some b1)(h2:aU U t2 σ=some b2):aU U (.or (.cons t1 (.cons t2 .nil))) σ=some (b1||b2):=by
 refine(?_:((aU U t1 σ).bind fun b=>if b==false then(aU U t2 σ).bind fun b=>if b==false then some false else some (!false)else some (!false))=_)
 refine zZ h1 ?_
 cases b1 with
 |true=>rfl
 |false=>
  (refine wI (show(false==false)=true from rfl) ?_;refine zZ h2 ?_)
  cases b2<;>rfl
theorem Vl{t:PT}{b:Bool}(h:aU U t σ=some b):aU U (.not t) σ=some (!b):=by
 refine(?_:(aU U t σ).map _=_)
 rw[h];rfl
theorem zUe(hU:∀x y:Nat,x<128->y<128->U 0 [.str [x], .str [y]]=some (pn (hV x y))){c:Nat}(qB:small a)(ha:a.length<=40)(iC:small b)(hb:b.length<=40)
  (hL:σ.length=14) (h0:At σ 0 (.str a)) (h1:At σ 1 (.str b)) (h2:At σ 2 (pn c)):∃g',yN U O0 ⟨σ,β⟩=some (g', .ret (pn (OZ a b c))):=by
 have sa:a.length<=ag:=by unfold ag;lia
 have sb:b.length<=ag:=by unfold ag;lia
 have n0:ev U (.bi 0 (.cons (.var 0) .nil)) σ=some (pn a.length):=nO (zA h0) sa
 have n1:ev U (.bi 0 (.cons (.var 1) .nil)) σ=some (pn b.length):=nO (zA h1) sb
 have tA:aU U (.or (.cons (.not (.eT (.var 0))) (.cons (.not (.eT (.var 1))) .nil))) σ=some (a.isEmpty||b.isEmpty):=by
  rw[Vk (Vl (vd (zA h0) sa)) (Vl (vd (zA h1) sb))]
  simp
 unfold OZ
 by_cases he:(a.isEmpty||b.isEmpty)=true
 ·rw[if_pos he]
  refine bU ⟨σ,β⟩ (wE (gQ (tA.trans (by rw[he])) (wE ?_)))
  refine(?_:((fm U _ ⟨σ,β⟩).bind _)=_)
  unfold fm
  rw[qS (m:=2) rfl (iX n0 n1) (by decide) (by lia),Au,if_pos zX];rfl
 ·have he':(a.isEmpty||b.isEmpty)=false:=by simpa using he
  rw[if_neg he]
  have e1:=fT (U:=U) (β:=β) (a:= .cons (.ret (.bin .Mult (.lit (.int 2)) (.bin .Add (.bi 0 (.cons (.var 0) .nil)) (.bi 0 (.cons (.var 1) .nil))))) .nil) (b:= .nil) (tA.trans (by rw[he'])) rfl
  have tB:aU U (.or (.cons (.cmp .Gt (.bi 0 (.cons (.var 0) .nil)) (.lit (.int 40))) (.cons (.cmp .Gt (.bi 0 (.cons (.var 1) .nil)) (.lit (.int 40))) .nil))) σ=some false:=by
   rw[Vk (tO (n:=40) n0 rfl) (tO (n:=40) n1 rfl),decide_eq_false (by lia),decide_eq_false (by lia)];rfl
  have e2:=fT (U:=U) (β:=β) (a:= .cons (.ret (.bin .Add (.var 2) (.lit (.int 1)))) .nil) (b:= .nil) tB rfl
  have tC:aU U (.cmp .Lt (.bi 0 (.cons (.var 1) .nil)) (.bi 0 (.cons (.var 0) .nil))) σ=some (decide (b.length<a.length)):=by
   refine(?_:(ev U (.bi 0 (.cons (.var 1) .nil)) σ).bind _=_)
   (refine zZ n1 ?_;refine zZ n0 ?_)
   refine(?_:some (decide ((b.length:Int)<(a.length:Int)))=_)
   congr 1
   simp
  have n7:yN U O0 ⟨σ,β⟩=yN U (.cons (.ifs (.cmp .Lt (.bi 0 (.cons (.var 1) .nil)) (.bi 0 (.cons (.var 0) .nil))) (.cons (.swap 0 1 (.var 1) (.var 0)) .nil) .nil) GJ) ⟨σ,β⟩:=(zK e1).trans (zK e2)
  rw[n7]
  by_cases aY:b.length<a.length
  ·rw[if_pos aY]
   have sw:den U (.swap 0 1 (.var 1) (.var 0)) ⟨σ,β⟩=some (⟨(σ.set 1 (some (.str a))).set 0 (some (.str b)),β⟩, .next):=by
    refine(?_:((ev U (.var 1) σ).bind _)=_)
    (refine zZ (zA h1) ?_;rw[zA h0]);rfl
   have e3:=gQ (U:=U) (β:=β) (a:= .cons (.swap 0 1 (.var 1) (.var 0)) .nil) (b:= .nil) (tC.trans (by rw[decide_eq_true aY])) (eZ sw)
   obtain⟨g',e4⟩:=Vd (U:=U) (β:=β) (c:=c) (σ:=(σ.set 1 (some (.str a))).set 0 (some (.str b))) hU iC hb qB ha (by lia) (by simp[hL]) (zG (by simp[hL])) ((zG (by rw[hL];decide)).set (by decide)) ((h2.set (by decide)).set (by decide))
   exact bU g' ((zK e3).trans e4)
  ·rw[if_neg aY]
   have e3:=fT (U:=U) (β:=β) (a:= .cons (.swap 0 1 (.var 1) (.var 0)) .nil) (b:= .nil) (tC.trans (by rw[decide_eq_false aY])) rfl
   refine aK (Vd (U:=U) (β:=β) (c:=c) hU qB ha iC hb (by lia) hL h0 h1 h2) fun g' e4=>?_
   exact bU g' ((zK e3).trans e4)
theorem zY0(hU:∀x y:Nat,x<128->y<128->U 0 [.str [x], .str [y]]=some (pn (hV x y))){c:Nat}(qB:small a)(ha:a.length<=40)(iC:small b)(hb:b.length<=40):
  pB (yN U AD) (aR 6) 3 [.str a, .str b,pn c]=some (pn (lM a b c)):=by
 have eX:eB (aR 6) [.str a, .str b,pn c] none=⟨[some (.str a),some (.str b),some (pn c),none,none,none,none,none,none,none,none,none,none,none],none⟩:=rfl
 have key:∃g',yN U AD (eB (aR 6) [.str a, .str b,pn c] none)=some (g', .ret (pn (lM a b c))):=by
  rw[eX,yDc]
  generalize bW:[some (PV.str a),some (.str b),some (pn c),none,none,none,none,none,none,none,none,none,none,none]=σ
  have hL:σ.length=14:=by rw[<-bW];rfl
  have h0:At σ 0 (.str a):=by rw[<-bW];rfl
  have h1:At σ 1 (.str b):=by rw[<-bW];rfl
  have h2:At σ 2 (pn c):=by rw[<-bW];rfl
  have sa:a.length<=ag:=by unfold ag;lia
  have sb:b.length<=ag:=by unfold ag;lia
  have t1:=GO (U:=U) (zA h0) (zA h1)
  unfold lM
  by_cases BB:(a==b)=true
  ·rw[if_pos BB]
   exact bU ⟨σ,none⟩ (wE (gQ (t1.trans (by rw[BB])) rfl))
  ·have O4:(a==b)=false:=by simpa using BB
   rw[if_neg BB]
   dsimp only
   have e1:=fT (U:=U) (β:=none) (a:= .cons (.ret (.lit (.int 0))) .nil) (b:= .nil) (t1.trans (by rw[O4])) rfl
   rw[zK e1]
   have e2:den U (.assign 3 (.lit (.int 0))) ⟨σ,none⟩=some (⟨σ.set 3 (some (pn 0)),none⟩, .next):=zD (e:= .lit _) rfl rfl
   rw[zK e2]
   have e3:=Vh (U:=U) (β:=none) (a:=a) (b:=b) (by lia) (by lia) 64 0 (σ.set 3 (some (pn 0))) (by simp[hL]) (h0.set (by decide)) (h1.set (by decide)) (zG (by rw[hL];decide)) (Dv _) (Dv _) (by lia)
   rw[C3,C3,C0,Mv]at e3
   refine ao (zY4 a b) fun ny nz=>?_
   generalize gR a b=p at e3 ny nz⊢
   rw[zK (q:= .qp AY (.cons (.aug .Add 3 (.lit (.int 1))) .nil)) e3]
   generalize cf:σ.set 3 (some (pn p))=cJ
   have L1:cJ.length=14:=by rw[<-cf];simp[hL]
   have a0:At cJ 0 (.str a):=by rw[<-cf];exact h0.set (by decide)
   have a1:At cJ 1 (.str b):=by rw[<-cf];exact h1.set (by decide)
   have a2:At cJ 2 (pn c):=by rw[<-cf];exact h2.set (by decide)
   have a3:At cJ 3 (pn p):=by rw[<-cf];exact zG (by rw[hL];decide)
   have e4:den U (.assign 0 (.bS (.var 0) (.yes (.var 3)) .no .no)) ⟨cJ,none⟩=some (⟨cJ.set 0 (some (.str (a.drop p))),none⟩, .next):=zD (GP a0 sa ny a3) yX
   rw[zK e4]
   have e5:den U (.assign 1 (.bS (.var 1) (.yes (.var 3)) .no .no)) ⟨cJ.set 0 (some (.str (a.drop p))),none⟩=some (⟨(cJ.set 0 (some (.str (a.drop p)))).set 1 (some (.str (b.drop p))),none⟩, .next):=zD (GP (a1.set (by decide)) sb nz (a3.set (by decide))) yX
   rw[zK e5]
   have e6:∀σ,den U (.assign 4 (.lit (.int 0))) ⟨σ,none⟩=some (⟨σ.set 4 (some (.int (-((0:Nat):Int)))),none⟩, .next):=fun σ=>zD (e:= .lit _) rfl rfl
   rw[zK (e6 _)]
   generalize bG:((cJ.set 0 (some (.str (a.drop p)))).set 1 (some (.str (b.drop p)))).set 4 (some (.int (-((0:Nat):Int))))=bj
   have L2:bj.length=14:=by rw[<-bG];simp[L1]
   have b0:At bj 0 (.str (a.drop p)):=by rw[<-bG];exact((zG (by rw[L1];decide)).set (by decide)).set (by decide)
   have b1:At bj 1 (.str (b.drop p)):=by rw[<-bG];exact(zG (by simp[L1])).set (by decide)
   have b2:At bj 2 (pn c):=by rw[<-bG];exact((a2.set (by decide)).set (by decide)).set (by decide)
   have b4:At bj 4 (.int (-((0:Nat):Int))):=by rw[<-bG];exact zG (by simp[L1])
   have lx:(a.drop p).length<=40:=by rw[Bs];lia
   have ly:(b.drop p).length<=40:=by rw[Bs];lia
   have sx:small (a.drop p):=fun c hc=>qB c (Iq hc)
   have sy:small (b.drop p):=fun c hc=>iC c (Iq hc)
   generalize a.drop p=x at b0 lx sx⊢
   generalize b.drop p=y at b1 ly sy⊢
   have e7:=Vj (U:=U) (β:=none) (a:=x) (b:=y) (by lia) (by lia) 64 0 bj L2 b0 b1 b4 (Dv _) (by lia)
   rw[C3,C3,C0]at e7
   rw[zK (q:= .qp AZ (.cons (.aug .Sub 4 (.lit (.int 1))) .nil)) e7]
   unfold U4
   generalize gR x.reverse y.reverse=q at e7⊢
   generalize bf:bj.set 4 (some (.int (-(q:Int))))=aX
   have L3:aX.length=14:=by rw[<-bf];simp[L2]
   have c0:At aX 0 (.str x):=by rw[<-bf];exact b0.set (by decide)
   have c1:At aX 1 (.str y):=by rw[<-bf];exact b1.set (by decide)
   have c2:At aX 2 (pn c):=by rw[<-bf];exact b2.set (by decide)
   have c4:At aX 4 (.int (-(q:Int))):=by rw[<-bf];exact zG (by rw[L2];decide)
   have e8:den U (.assign 0 (.bS (.var 0) .no (.yes (.gy (.var 4) (.lit .none))) .no)) ⟨aX,none⟩=some (⟨aX.set 0 (some (.str (x.take (x.length-q)))),none⟩, .next):=zD (GQ c0 (by unfold ag;lia) c4) yX
   rw[zK e8]
   have e9:den U (.assign 1 (.bS (.var 1) .no (.yes (.gy (.var 4) (.lit .none))) .no)) ⟨aX.set 0 (some (.str (x.take (x.length-q)))),none⟩=some (⟨(aX.set 0 (some (.str (x.take (x.length-q))))).set 1 (some (.str (y.take (y.length-q)))),none⟩, .next):=zD (GQ (c1.set (by decide)) (by unfold ag;lia) (c4.set (by decide))) yX
   rw[zK e9]
   exact zUe hU (fun c hc=>sx c (Ir hc)) (by rw[Ca];lia) (fun c hc=>sy c (Ir hc)) (by rw[Ca];lia) (by simp[L3]) ((zG (by rw[L3];decide)).set (by decide)) (zG (by simp[L3])) ((c2.set (by decide)).set (by decide))
 refine aK key fun g' e=>?_
 exact(if_pos rfl).trans (by rw[e])
end
noncomputable def qT(a b:List Nat):Nat:=((Ae 4).filter fun j=>a.getD j 0 !=b.getD j 0).length
noncomputable def bH(t:Nat×Nat×Nat)(v:Nat):List Nat:=(dp t).getD v []
noncomputable def bh(t:Nat×Nat×Nat)(u v:Nat):Nat:=qT (bH t u) (bH t v)
noncomputable def bI(t:Nat×Nat×Nat)(d v:Nat):List Nat:=Ai d 46++bH t v
noncomputable def k6(t:Nat×Nat×Nat)(d u v:Nat):List Nat:=(if(u+v)%2=1 then bH t u else bI t d u)++Ai ((u+v)/7) 46
noncomputable def k7(t:Nat×Nat×Nat)(d u v:Nat):List Nat:=Ai ((u+v)/7) 46++(if(u+v)%2=1 then bH t v else bI t d v)
noncomputable def pJ(a b:List Nat)(turn:Nat):Nat:=2*((a.length-b.length)+(b.length-a.length))+4*turn
noncomputable def pairs:List (Nat×Nat):=[(0,1),(0,2),(1,2),(0,3),(1,3),(2,3),(0,4),(1,4),(2,4),(3,4)]
noncomputable def ds:List Nat:=[0,2,3,4]
noncomputable def vf(a b:List Nat)(m h:Nat):Bool:=Jw (lM a b (m+h)) (m+h)&&Jw (lM a b (m+h-1)) (m+h)
noncomputable def qU(a b:List Nat):Bool:=ds.all fun du=>ds.all fun dv=>vf (Ai du 46++a) (Ai dv 46++b) (2*((du-dv)+(dv-du))) (qT a b)
noncomputable def O5(a b:List Nat):Bool:=vf a b 0 (qT a b)
noncomputable def GR(a b:List Nat):Bool:=vf (a++[46]) (46::b) 4 (qT a b)&&Jw (lM (a++[46]) (46::b) 1) 2
noncomputable def qV(t:Nat×Nat×Nat)(u v:Nat):Nat:=(bh t u v+bh t 0 u-bh t 0 v)/2
noncomputable def tU(t:Nat×Nat×Nat)(th:List Nat)(pl u v:Nat):List Nat:=(((lI (yZ t).m th pl).drop ((yZ t).sp.getD u 0)).take ((yZ t).sp.getD v 0-(yZ t).sp.getD u 0)).flatten
noncomputable def dot:List Nat->List Nat->Nat
 |a::r,b::s=>a*b+dot r s
 |_,_=>0
noncomputable def qW:List Nat->Nat->Nat
 |[],_=>0
 |a::_,0=>a
 |_::r,n+1=>qW r n
noncomputable def eR:List (List Nat)->Nat->List Nat
 |[],_=> []
 |a::_,0=>a
 |_::r,n+1=>eR r n
noncomputable def pass(row:List Nat)(c:Nat):List (Nat×Nat)->List (Nat×Nat)
 |[]=> []
 |(o,co)::q=>(o,match Jw (qW row o) 1 with|true=>c+co|false=>co)::pass row c q
noncomputable def nh(H:List (List Nat))(S:Nat):Nat->List (Nat×Nat)->Nat->Nat
 |0,_,h=>h
 |n+1,(w,c)::q,_=>match Cb S (2*c)with
  |true=>w
  |false=>nh H S n (pass (eR H w) c q) w
 |_+1,[],h=>h
noncomputable def qX(a b:Nat):Nat:=match Cb a b with|true=>a|false=>b
noncomputable def pK(S:Nat):List (List Nat)->List Nat->Nat
 |[],_=>0
 |g::r,d=>qX (dot d g) (S-dot d g)+pK S r d
noncomputable def vg(H:List (List Nat))(l:Nat)(d:List Nat):List Nat->Nat
 |[]=>9
 |v::r=>match Jw (dot d (eR H v)) l with
  |true=>v
  |false=>vg H l d r
noncomputable def GU(H:List (List Nat))(l:Nat)(d:List Nat):List Nat->Bool
 |[]=>true
 |v::r=>match Cb l (dot d (eR H v))with
  |true=>GU H l d r
  |false=>false
noncomputable def tV:List Nat->List Nat->List (Nat×Nat)
 |[],_=> []
 |v::r,d=>(v,qW d v)::tV r d
noncomputable def vi(H G:List (List Nat))(O d:List Nat):Bool:=
 let S:=d.sum
 let l:=pK S G d
 match GU H l d O with
 |true=>Jw (vg H l d O) (nh H S 5 (tV O d) 0)
 |false=>false
noncomputable def cX(t:Nat×Nat×Nat):List (List Nat):=(Ae 5).map fun v=>(Ae 5).map fun u=>bh t u v
noncomputable def fc(t:Nat×Nat×Nat):List (List Nat):=(Ae 4).map fun j=>(Ae 5).map fun v=>if(bH t v).getD j 0==65+j then 1 else 0
noncomputable def yI(H G:List (List Nat))(O:List Nat)(d0:Nat):Bool:=ds.all fun d1=>ds.all fun d2=>ds.all fun d3=>ds.all fun d4=>vi H G O [d0,d1,d2,d3,d4]
noncomputable def vj(th:List Nat):Nat->List Nat->List Nat
 |_,[]=> []
 |0,c::r=>c::(th++r)
 |n+1,c::r=>c::vj th n r
noncomputable def BC(s:List Nat)(a w:Nat)(out:Bool):Bool:=match jB (Ai a 40++s++Ai (w-a) 41)with
 |true=>(match out with
  |true=>true
  |false=>!jB (Ai (a-1) 40++s++Ai (w-a-1) 41))
 |false=>false
noncomputable def ni(s:List Nat)(a w:Nat)(out:Bool):Bool:=BC s a w out&&(Ae s.length).all fun p=>g9.all fun th=>BC (vj th p s) a w out
noncomputable def BD(t:Nat×Nat×Nat)(u v:Nat):List Nat:=((yZ t).m.drop ((yZ t).sp.getD u 0)).take ((yZ t).sp.getD v 0-(yZ t).sp.getD u 0)
noncomputable def pL:List (List Nat×Nat×Nat×Bool):=[([40],0,1,true),([40,40],0,2,true),([40],0,1,false),([40,40,40],0,3,true),([40,40],0,2,false),([40,40,40,40],0,4,true),([40,40,40],0,3,false),([40,40,40,41,40],0,3,true),([40,40,41,40],0,2,false),([40,41,40],0,1,false),([41,40],1,2,false),([40,40,40,41,41,40],0,2,true),([40,40,41,41,40],0,1,false),([40,41,41,40],1,2,false),([41,41,40],2,3,false),([40,40,40,41,41,41,40],0,1,true),([40,40,41,41,41,40],1,2,false),([40,41,41,41,40],2,3,false),([41,41,41,40],3,4,false),([40,40,41,40],0,2,true),([40,40,41,40,40],0,3,true),([40,41,40,40],0,2,false),([41,40,40],1,3,false),([40,40,41,40,41,40],0,2,true),([40,41,40,41,40],0,1,false),([41,40,41,40],1,2,false),([40,40,41,40,41,41,40],0,1,true),([40,41,40,41,41,40],1,2,false),([41,40,41,41,40],2,3,false),([40,40,41,41,40],0,1,true),([40,40,41,41,40,40],0,2,true),([40,41,41,40,40],1,3,false),([41,41,40,40],2,4,false),([40,40,41,41,40,41,40],0,1,true),([40,41,41,40,41,40],1,2,false),([41,41,40,41,40],2,3,false),([40,41,40],0,1,true),([40,41,40,40],0,2,true),([40,41,40,40,40],0,3,true),([41,40,40,40],1,4,false),([40,41,40,40,41,40],0,2,true),([41,40,40,41,40],1,3,false),([40,41,40,40,41,41,40],0,1,true),([41,40,40,41,41,40],1,2,false),([40,41,40,41,40],0,1,true),([40,41,40,41,40,40],0,2,true),([41,40,41,40,40],1,3,false),([40,41,40,41,40,41,40],0,1,true),([41,40,41,40,41,40],1,2,false)]
noncomputable def vm:List (List Nat×List Nat):=[([97,98,99,100],[65,66,99,100]),([97,98,99,100],[65,66,67,68]),([65,98,99,100],[65,66,67,100]),([65,66,99,100],[65,66,67,68]),([97,98,99,100],[65,66,99,68]),([65,66,99,100],[65,66,99,68]),([97,98,99,100],[65,98,99,68]),([65,66,99,100],[65,98,99,68]),([97,98,99,100],[97,98,99,68]),([65,66,99,100],[97,98,99,68]),([97,98,99,100],[65,98,67,68]),([65,98,99,100],[65,98,67,100]),([65,66,99,100],[65,98,67,68]),([97,98,99,100],[97,98,67,68]),([65,98,99,100],[97,98,67,100]),([65,66,99,100],[97,98,67,68]),([97,98,99,100],[97,66,99,100]),([97,98,99,100],[97,66,67,68]),([65,98,99,100],[97,66,67,100]),([97,66,99,100],[97,66,67,68]),([97,98,99,100],[97,66,99,68]),([97,66,99,100],[97,66,99,68]),([97,66,99,100],[97,98,99,68]),([97,66,99,100],[97,98,67,68])]
noncomputable def NO:List (List Nat×List Nat):=[([97,98,99,100],[65,98,99,100]),([65,98,99,100],[65,66,99,100]),([97,98,99,100],[65,66,67,100]),([65,66,99,100],[65,66,67,100]),([65,98,99,100],[65,66,67,68]),([65,98,99,100],[65,66,99,68]),([65,98,99,100],[65,98,99,68]),([65,98,99,100],[97,98,99,68]),([97,98,99,100],[65,98,67,100]),([65,66,99,100],[65,98,67,100]),([65,98,99,100],[65,98,67,68]),([97,98,99,100],[97,98,67,100]),([65,66,99,100],[97,98,67,100]),([65,98,99,100],[97,98,67,68]),([65,98,99,100],[97,66,99,100]),([97,98,99,100],[97,66,67,100]),([97,66,99,100],[97,66,67,100]),([65,98,99,100],[97,66,67,68]),([65,98,99,100],[97,66,99,68]),([97,66,99,100],[97,98,67,100])]
noncomputable def Vm:List (List Nat×List Nat):=[([65,66,67,100],[65,66,67,68]),([65,66,67,100],[65,66,99,68]),([65,66,67,100],[65,98,99,68]),([65,66,67,100],[97,98,99,68]),([65,98,67,100],[65,98,67,68]),([65,98,67,100],[65,98,99,68]),([65,98,67,100],[97,98,99,68]),([97,98,67,100],[97,98,67,68]),([97,98,67,100],[97,98,99,68]),([97,66,67,100],[97,66,67,68]),([97,66,67,100],[97,66,99,68]),([97,66,67,100],[97,98,99,68])]
theorem yFf:((pL.drop 0).take 7).all (fun q=>ni q.1 q.2.1 q.2.2.1 q.2.2.2)=true:=by decide+kernel
theorem yFx:((pL.drop 7).take 7).all (fun q=>ni q.1 q.2.1 q.2.2.1 q.2.2.2)=true:=by decide+kernel
theorem yF6:((pL.drop 14).take 7).all (fun q=>ni q.1 q.2.1 q.2.2.1 q.2.2.2)=true:=by decide+kernel
theorem yGa:((pL.drop 21).take 7).all (fun q=>ni q.1 q.2.1 q.2.2.1 q.2.2.2)=true:=by decide+kernel
theorem yF0:((pL.drop 28).take 7).all (fun q=>ni q.1 q.2.1 q.2.2.1 q.2.2.2)=true:=by decide+kernel
theorem yFp:((pL.drop 35).take 7).all (fun q=>ni q.1 q.2.1 q.2.2.1 q.2.2.2)=true:=by decide+kernel
theorem yFm:((pL.drop 42).take 7).all (fun q=>ni q.1 q.2.1 q.2.2.1 q.2.2.2)=true:=by decide+kernel
theorem yF1:((vm.drop 0).take 6).all (fun q=>qU q.1 q.2)=true:=by decide+kernel
theorem yGs:((vm.drop 6).take 6).all (fun q=>qU q.1 q.2)=true:=by decide+kernel
theorem yFc:((vm.drop 12).take 6).all (fun q=>qU q.1 q.2)=true:=by decide+kernel
theorem yFa:((vm.drop 18).take 6).all (fun q=>qU q.1 q.2)=true:=by decide+kernel
theorem yC3:NO.all (fun q=>O5 q.1 q.2)=true:=by decide+kernel
theorem yDr:Vm.all (fun q=>GR q.1 q.2)=true:=by decide+kernel
theorem yFu:cX (0,0,0)=[[0,1,2,3,4],[1,0,1,2,3],[2,1,0,1,2],[3,2,1,0,1],[4,3,2,1,0]]/\fc (0,0,0)=[[0,1,1,1,1],[0,0,1,1,1],[0,0,0,1,1],[0,0,0,0,1]]/\yY (0,0,0)=[4,3,2,1,0]:=by decide+kernel
theorem yAr:yI [[0,1,2,3,4],[1,0,1,2,3],[2,1,0,1,2],[3,2,1,0,1],[4,3,2,1,0]] [[0,1,1,1,1],[0,0,1,1,1],[0,0,0,1,1],[0,0,0,0,1]] [4,3,2,1,0] 0=true:=by decide+kernel
theorem zY9:yI [[0,1,2,3,4],[1,0,1,2,3],[2,1,0,1,2],[3,2,1,0,1],[4,3,2,1,0]] [[0,1,1,1,1],[0,0,1,1,1],[0,0,0,1,1],[0,0,0,0,1]] [4,3,2,1,0] 2=true:=by decide+kernel
theorem yAi:yI [[0,1,2,3,4],[1,0,1,2,3],[2,1,0,1,2],[3,2,1,0,1],[4,3,2,1,0]] [[0,1,1,1,1],[0,0,1,1,1],[0,0,0,1,1],[0,0,0,0,1]] [4,3,2,1,0] 3=true:=by decide+kernel
theorem yB7:yI [[0,1,2,3,4],[1,0,1,2,3],[2,1,0,1,2],[3,2,1,0,1],[4,3,2,1,0]] [[0,1,1,1,1],[0,0,1,1,1],[0,0,0,1,1],[0,0,0,0,1]] [4,3,2,1,0] 4=true:=by decide+kernel
theorem yGw:cX (0,0,1)=[[0,1,2,3,3],[1,0,1,2,2],[2,1,0,1,1],[3,2,1,0,2],[3,2,1,2,0]]/\fc (0,0,1)=[[0,1,1,1,1],[0,0,1,1,1],[0,0,0,1,0],[0,0,0,0,1]]/\yY (0,0,1)=[3,4,2,1,0]:=by decide+kernel
theorem yAq:yI [[0,1,2,3,3],[1,0,1,2,2],[2,1,0,1,1],[3,2,1,0,2],[3,2,1,2,0]] [[0,1,1,1,1],[0,0,1,1,1],[0,0,0,1,0],[0,0,0,0,1]] [3,4,2,1,0] 0=true:=by decide+kernel
theorem zY3:yI [[0,1,2,3,3],[1,0,1,2,2],[2,1,0,1,1],[3,2,1,0,2],[3,2,1,2,0]] [[0,1,1,1,1],[0,0,1,1,1],[0,0,0,1,0],[0,0,0,0,1]] [3,4,2,1,0] 2=true:=by decide+kernel
theorem zZj:yI [[0,1,2,3,3],[1,0,1,2,2],[2,1,0,1,1],[3,2,1,0,2],[3,2,1,2,0]] [[0,1,1,1,1],[0,0,1,1,1],[0,0,0,1,0],[0,0,0,0,1]] [3,4,2,1,0] 3=true:=by decide+kernel
theorem zYz:yI [[0,1,2,3,3],[1,0,1,2,2],[2,1,0,1,1],[3,2,1,0,2],[3,2,1,2,0]] [[0,1,1,1,1],[0,0,1,1,1],[0,0,0,1,0],[0,0,0,0,1]] [3,4,2,1,0] 4=true:=by decide+kernel
theorem yFe:cX (0,0,2)=[[0,1,2,3,2],[1,0,1,2,1],[2,1,0,1,2],[3,2,1,0,3],[2,1,2,3,0]]/\fc (0,0,2)=[[0,1,1,1,1],[0,0,1,1,0],[0,0,0,1,0],[0,0,0,0,1]]/\yY (0,0,2)=[3,2,4,1,0]:=by decide+kernel
theorem zZr:yI [[0,1,2,3,2],[1,0,1,2,1],[2,1,0,1,2],[3,2,1,0,3],[2,1,2,3,0]] [[0,1,1,1,1],[0,0,1,1,0],[0,0,0,1,0],[0,0,0,0,1]] [3,2,4,1,0] 0=true:=by decide+kernel
theorem yBl:yI [[0,1,2,3,2],[1,0,1,2,1],[2,1,0,1,2],[3,2,1,0,3],[2,1,2,3,0]] [[0,1,1,1,1],[0,0,1,1,0],[0,0,0,1,0],[0,0,0,0,1]] [3,2,4,1,0] 2=true:=by decide+kernel
theorem zZb:yI [[0,1,2,3,2],[1,0,1,2,1],[2,1,0,1,2],[3,2,1,0,3],[2,1,2,3,0]] [[0,1,1,1,1],[0,0,1,1,0],[0,0,0,1,0],[0,0,0,0,1]] [3,2,4,1,0] 3=true:=by decide+kernel
theorem zZq:yI [[0,1,2,3,2],[1,0,1,2,1],[2,1,0,1,2],[3,2,1,0,3],[2,1,2,3,0]] [[0,1,1,1,1],[0,0,1,1,0],[0,0,0,1,0],[0,0,0,0,1]] [3,2,4,1,0] 4=true:=by decide+kernel
theorem yGn:cX (0,0,3)=[[0,1,2,3,1],[1,0,1,2,2],[2,1,0,1,3],[3,2,1,0,4],[1,2,3,4,0]]/\fc (0,0,3)=[[0,1,1,1,0],[0,0,1,1,0],[0,0,0,1,0],[0,0,0,0,1]]/\yY (0,0,3)=[3,2,1,4,0]:=by decide+kernel
theorem yBj:yI [[0,1,2,3,1],[1,0,1,2,2],[2,1,0,1,3],[3,2,1,0,4],[1,2,3,4,0]] [[0,1,1,1,0],[0,0,1,1,0],[0,0,0,1,0],[0,0,0,0,1]] [3,2,1,4,0] 0=true:=by decide+kernel
theorem zY6:yI [[0,1,2,3,1],[1,0,1,2,2],[2,1,0,1,3],[3,2,1,0,4],[1,2,3,4,0]] [[0,1,1,1,0],[0,0,1,1,0],[0,0,0,1,0],[0,0,0,0,1]] [3,2,1,4,0] 2=true:=by decide+kernel
theorem yB5:yI [[0,1,2,3,1],[1,0,1,2,2],[2,1,0,1,3],[3,2,1,0,4],[1,2,3,4,0]] [[0,1,1,1,0],[0,0,1,1,0],[0,0,0,1,0],[0,0,0,0,1]] [3,2,1,4,0] 3=true:=by decide+kernel
theorem yBg:yI [[0,1,2,3,1],[1,0,1,2,2],[2,1,0,1,3],[3,2,1,0,4],[1,2,3,4,0]] [[0,1,1,1,0],[0,0,1,1,0],[0,0,0,1,0],[0,0,0,0,1]] [3,2,1,4,0] 4=true:=by decide+kernel
theorem yGd:cX (0,1,0)=[[0,1,2,2,3],[1,0,1,1,2],[2,1,0,2,3],[2,1,2,0,1],[3,2,3,1,0]]/\fc (0,1,0)=[[0,1,1,1,1],[0,0,1,0,0],[0,0,0,1,1],[0,0,0,0,1]]/\yY (0,1,0)=[2,4,3,1,0]:=by decide+kernel
theorem yA8:yI [[0,1,2,2,3],[1,0,1,1,2],[2,1,0,2,3],[2,1,2,0,1],[3,2,3,1,0]] [[0,1,1,1,1],[0,0,1,0,0],[0,0,0,1,1],[0,0,0,0,1]] [2,4,3,1,0] 0=true:=by decide+kernel
theorem zZ7:yI [[0,1,2,2,3],[1,0,1,1,2],[2,1,0,2,3],[2,1,2,0,1],[3,2,3,1,0]] [[0,1,1,1,1],[0,0,1,0,0],[0,0,0,1,1],[0,0,0,0,1]] [2,4,3,1,0] 2=true:=by decide+kernel
theorem zYw:yI [[0,1,2,2,3],[1,0,1,1,2],[2,1,0,2,3],[2,1,2,0,1],[3,2,3,1,0]] [[0,1,1,1,1],[0,0,1,0,0],[0,0,0,1,1],[0,0,0,0,1]] [2,4,3,1,0] 3=true:=by decide+kernel
theorem yBt:yI [[0,1,2,2,3],[1,0,1,1,2],[2,1,0,2,3],[2,1,2,0,1],[3,2,3,1,0]] [[0,1,1,1,1],[0,0,1,0,0],[0,0,0,1,1],[0,0,0,0,1]] [2,4,3,1,0] 4=true:=by decide+kernel
theorem yG2:cX (0,1,1)=[[0,1,2,2,2],[1,0,1,1,1],[2,1,0,2,2],[2,1,2,0,2],[2,1,2,2,0]]/\fc (0,1,1)=[[0,1,1,1,1],[0,0,1,0,0],[0,0,0,1,0],[0,0,0,0,1]]/\yY (0,1,1)=[2,3,4,1,0]:=by decide+kernel
theorem yAk:yI [[0,1,2,2,2],[1,0,1,1,1],[2,1,0,2,2],[2,1,2,0,2],[2,1,2,2,0]] [[0,1,1,1,1],[0,0,1,0,0],[0,0,0,1,0],[0,0,0,0,1]] [2,3,4,1,0] 0=true:=by decide+kernel
theorem zZh:yI [[0,1,2,2,2],[1,0,1,1,1],[2,1,0,2,2],[2,1,2,0,2],[2,1,2,2,0]] [[0,1,1,1,1],[0,0,1,0,0],[0,0,0,1,0],[0,0,0,0,1]] [2,3,4,1,0] 2=true:=by decide+kernel
theorem zZo:yI [[0,1,2,2,2],[1,0,1,1,1],[2,1,0,2,2],[2,1,2,0,2],[2,1,2,2,0]] [[0,1,1,1,1],[0,0,1,0,0],[0,0,0,1,0],[0,0,0,0,1]] [2,3,4,1,0] 3=true:=by decide+kernel
theorem zYb:yI [[0,1,2,2,2],[1,0,1,1,1],[2,1,0,2,2],[2,1,2,0,2],[2,1,2,2,0]] [[0,1,1,1,1],[0,0,1,0,0],[0,0,0,1,0],[0,0,0,0,1]] [2,3,4,1,0] 4=true:=by decide+kernel
theorem yFb:cX (0,1,2)=[[0,1,2,2,1],[1,0,1,1,2],[2,1,0,2,3],[2,1,2,0,3],[1,2,3,3,0]]/\fc (0,1,2)=[[0,1,1,1,0],[0,0,1,0,0],[0,0,0,1,0],[0,0,0,0,1]]/\yY (0,1,2)=[2,3,1,4,0]:=by decide+kernel
theorem yCb:yI [[0,1,2,2,1],[1,0,1,1,2],[2,1,0,2,3],[2,1,2,0,3],[1,2,3,3,0]] [[0,1,1,1,0],[0,0,1,0,0],[0,0,0,1,0],[0,0,0,0,1]] [2,3,1,4,0] 0=true:=by decide+kernel
theorem yBp:yI [[0,1,2,2,1],[1,0,1,1,2],[2,1,0,2,3],[2,1,2,0,3],[1,2,3,3,0]] [[0,1,1,1,0],[0,0,1,0,0],[0,0,0,1,0],[0,0,0,0,1]] [2,3,1,4,0] 2=true:=by decide+kernel
theorem zX5:yI [[0,1,2,2,1],[1,0,1,1,2],[2,1,0,2,3],[2,1,2,0,3],[1,2,3,3,0]] [[0,1,1,1,0],[0,0,1,0,0],[0,0,0,1,0],[0,0,0,0,1]] [2,3,1,4,0] 3=true:=by decide+kernel
theorem yA6:yI [[0,1,2,2,1],[1,0,1,1,2],[2,1,0,2,3],[2,1,2,0,3],[1,2,3,3,0]] [[0,1,1,1,0],[0,0,1,0,0],[0,0,0,1,0],[0,0,0,0,1]] [2,3,1,4,0] 4=true:=by decide+kernel
theorem yG0:cX (0,2,0)=[[0,1,2,1,2],[1,0,1,2,3],[2,1,0,3,4],[1,2,3,0,1],[2,3,4,1,0]]/\fc (0,2,0)=[[0,1,1,0,0],[0,0,1,0,0],[0,0,0,1,1],[0,0,0,0,1]]/\yY (0,2,0)=[2,1,4,3,0]:=by decide+kernel
theorem zZ2:yI [[0,1,2,1,2],[1,0,1,2,3],[2,1,0,3,4],[1,2,3,0,1],[2,3,4,1,0]] [[0,1,1,0,0],[0,0,1,0,0],[0,0,0,1,1],[0,0,0,0,1]] [2,1,4,3,0] 0=true:=by decide+kernel
theorem yA9:yI [[0,1,2,1,2],[1,0,1,2,3],[2,1,0,3,4],[1,2,3,0,1],[2,3,4,1,0]] [[0,1,1,0,0],[0,0,1,0,0],[0,0,0,1,1],[0,0,0,0,1]] [2,1,4,3,0] 2=true:=by decide+kernel
theorem yA2:yI [[0,1,2,1,2],[1,0,1,2,3],[2,1,0,3,4],[1,2,3,0,1],[2,3,4,1,0]] [[0,1,1,0,0],[0,0,1,0,0],[0,0,0,1,1],[0,0,0,0,1]] [2,1,4,3,0] 3=true:=by decide+kernel
theorem zXy:yI [[0,1,2,1,2],[1,0,1,2,3],[2,1,0,3,4],[1,2,3,0,1],[2,3,4,1,0]] [[0,1,1,0,0],[0,0,1,0,0],[0,0,0,1,1],[0,0,0,0,1]] [2,1,4,3,0] 4=true:=by decide+kernel
theorem yFk:cX (0,2,1)=[[0,1,2,1,1],[1,0,1,2,2],[2,1,0,3,3],[1,2,3,0,2],[1,2,3,2,0]]/\fc (0,2,1)=[[0,1,1,0,0],[0,0,1,0,0],[0,0,0,1,0],[0,0,0,0,1]]/\yY (0,2,1)=[2,1,3,4,0]:=by decide+kernel
theorem yAd:yI [[0,1,2,1,1],[1,0,1,2,2],[2,1,0,3,3],[1,2,3,0,2],[1,2,3,2,0]] [[0,1,1,0,0],[0,0,1,0,0],[0,0,0,1,0],[0,0,0,0,1]] [2,1,3,4,0] 0=true:=by decide+kernel
theorem yBi:yI [[0,1,2,1,1],[1,0,1,2,2],[2,1,0,3,3],[1,2,3,0,2],[1,2,3,2,0]] [[0,1,1,0,0],[0,0,1,0,0],[0,0,0,1,0],[0,0,0,0,1]] [2,1,3,4,0] 2=true:=by decide+kernel
theorem zZg:yI [[0,1,2,1,1],[1,0,1,2,2],[2,1,0,3,3],[1,2,3,0,2],[1,2,3,2,0]] [[0,1,1,0,0],[0,0,1,0,0],[0,0,0,1,0],[0,0,0,0,1]] [2,1,3,4,0] 3=true:=by decide+kernel
theorem zZ1:yI [[0,1,2,1,1],[1,0,1,2,2],[2,1,0,3,3],[1,2,3,0,2],[1,2,3,2,0]] [[0,1,1,0,0],[0,0,1,0,0],[0,0,0,1,0],[0,0,0,0,1]] [2,1,3,4,0] 4=true:=by decide+kernel
theorem yG3:cX (1,0,0)=[[0,1,1,2,3],[1,0,2,3,4],[1,2,0,1,2],[2,3,1,0,1],[3,4,2,1,0]]/\fc (1,0,0)=[[0,1,0,0,0],[0,0,1,1,1],[0,0,0,1,1],[0,0,0,0,1]]/\yY (1,0,0)=[1,4,3,2,0]:=by decide+kernel
theorem yAz:yI [[0,1,1,2,3],[1,0,2,3,4],[1,2,0,1,2],[2,3,1,0,1],[3,4,2,1,0]] [[0,1,0,0,0],[0,0,1,1,1],[0,0,0,1,1],[0,0,0,0,1]] [1,4,3,2,0] 0=true:=by decide+kernel
theorem zZx:yI [[0,1,1,2,3],[1,0,2,3,4],[1,2,0,1,2],[2,3,1,0,1],[3,4,2,1,0]] [[0,1,0,0,0],[0,0,1,1,1],[0,0,0,1,1],[0,0,0,0,1]] [1,4,3,2,0] 2=true:=by decide+kernel
theorem yB9:yI [[0,1,1,2,3],[1,0,2,3,4],[1,2,0,1,2],[2,3,1,0,1],[3,4,2,1,0]] [[0,1,0,0,0],[0,0,1,1,1],[0,0,0,1,1],[0,0,0,0,1]] [1,4,3,2,0] 3=true:=by decide+kernel
theorem zX7:yI [[0,1,1,2,3],[1,0,2,3,4],[1,2,0,1,2],[2,3,1,0,1],[3,4,2,1,0]] [[0,1,0,0,0],[0,0,1,1,1],[0,0,0,1,1],[0,0,0,0,1]] [1,4,3,2,0] 4=true:=by decide+kernel
theorem yCz:cX (1,0,1)=[[0,1,1,2,2],[1,0,2,3,3],[1,2,0,1,1],[2,3,1,0,2],[2,3,1,2,0]]/\fc (1,0,1)=[[0,1,0,0,0],[0,0,1,1,1],[0,0,0,1,0],[0,0,0,0,1]]/\yY (1,0,1)=[1,3,4,2,0]:=by decide+kernel
theorem zVd:yI [[0,1,1,2,2],[1,0,2,3,3],[1,2,0,1,1],[2,3,1,0,2],[2,3,1,2,0]] [[0,1,0,0,0],[0,0,1,1,1],[0,0,0,1,0],[0,0,0,0,1]] [1,3,4,2,0] 0=true:=by decide+kernel
theorem zWs:yI [[0,1,1,2,2],[1,0,2,3,3],[1,2,0,1,1],[2,3,1,0,2],[2,3,1,2,0]] [[0,1,0,0,0],[0,0,1,1,1],[0,0,0,1,0],[0,0,0,0,1]] [1,3,4,2,0] 2=true:=by decide+kernel
theorem zWg:yI [[0,1,1,2,2],[1,0,2,3,3],[1,2,0,1,1],[2,3,1,0,2],[2,3,1,2,0]] [[0,1,0,0,0],[0,0,1,1,1],[0,0,0,1,0],[0,0,0,0,1]] [1,3,4,2,0] 3=true:=by decide+kernel
theorem zXs:yI [[0,1,1,2,2],[1,0,2,3,3],[1,2,0,1,1],[2,3,1,0,2],[2,3,1,2,0]] [[0,1,0,0,0],[0,0,1,1,1],[0,0,0,1,0],[0,0,0,0,1]] [1,3,4,2,0] 4=true:=by decide+kernel
theorem yDa:cX (1,0,2)=[[0,1,1,2,1],[1,0,2,3,2],[1,2,0,1,2],[2,3,1,0,3],[1,2,2,3,0]]/\fc (1,0,2)=[[0,1,0,0,0],[0,0,1,1,0],[0,0,0,1,0],[0,0,0,0,1]]/\yY (1,0,2)=[1,3,2,4,0]:=by decide+kernel
theorem zUx:yI [[0,1,1,2,1],[1,0,2,3,2],[1,2,0,1,2],[2,3,1,0,3],[1,2,2,3,0]] [[0,1,0,0,0],[0,0,1,1,0],[0,0,0,1,0],[0,0,0,0,1]] [1,3,2,4,0] 0=true:=by decide+kernel
theorem zWa:yI [[0,1,1,2,1],[1,0,2,3,2],[1,2,0,1,2],[2,3,1,0,3],[1,2,2,3,0]] [[0,1,0,0,0],[0,0,1,1,0],[0,0,0,1,0],[0,0,0,0,1]] [1,3,2,4,0] 2=true:=by decide+kernel
theorem zWw:yI [[0,1,1,2,1],[1,0,2,3,2],[1,2,0,1,2],[2,3,1,0,3],[1,2,2,3,0]] [[0,1,0,0,0],[0,0,1,1,0],[0,0,0,1,0],[0,0,0,0,1]] [1,3,2,4,0] 3=true:=by decide+kernel
theorem zWx:yI [[0,1,1,2,1],[1,0,2,3,2],[1,2,0,1,2],[2,3,1,0,3],[1,2,2,3,0]] [[0,1,0,0,0],[0,0,1,1,0],[0,0,0,1,0],[0,0,0,0,1]] [1,3,2,4,0] 4=true:=by decide+kernel
theorem yE2:cX (1,1,0)=[[0,1,1,1,2],[1,0,2,2,3],[1,2,0,2,3],[1,2,2,0,1],[2,3,3,1,0]]/\fc (1,1,0)=[[0,1,0,0,0],[0,0,1,0,0],[0,0,0,1,1],[0,0,0,0,1]]/\yY (1,1,0)=[1,2,4,3,0]:=by decide+kernel
theorem zXt:yI [[0,1,1,1,2],[1,0,2,2,3],[1,2,0,2,3],[1,2,2,0,1],[2,3,3,1,0]] [[0,1,0,0,0],[0,0,1,0,0],[0,0,0,1,1],[0,0,0,0,1]] [1,2,4,3,0] 0=true:=by decide+kernel
theorem zUa:yI [[0,1,1,1,2],[1,0,2,2,3],[1,2,0,2,3],[1,2,2,0,1],[2,3,3,1,0]] [[0,1,0,0,0],[0,0,1,0,0],[0,0,0,1,1],[0,0,0,0,1]] [1,2,4,3,0] 2=true:=by decide+kernel
theorem zUt:yI [[0,1,1,1,2],[1,0,2,2,3],[1,2,0,2,3],[1,2,2,0,1],[2,3,3,1,0]] [[0,1,0,0,0],[0,0,1,0,0],[0,0,0,1,1],[0,0,0,0,1]] [1,2,4,3,0] 3=true:=by decide+kernel
theorem zVn:yI [[0,1,1,1,2],[1,0,2,2,3],[1,2,0,2,3],[1,2,2,0,1],[2,3,3,1,0]] [[0,1,0,0,0],[0,0,1,0,0],[0,0,0,1,1],[0,0,0,0,1]] [1,2,4,3,0] 4=true:=by decide+kernel
theorem yE0:cX (1,1,1)=[[0,1,1,1,1],[1,0,2,2,2],[1,2,0,2,2],[1,2,2,0,2],[1,2,2,2,0]]/\fc (1,1,1)=[[0,1,0,0,0],[0,0,1,0,0],[0,0,0,1,0],[0,0,0,0,1]]/\yY (1,1,1)=[1,2,3,4,0]:=by decide+kernel
theorem zWc:yI [[0,1,1,1,1],[1,0,2,2,2],[1,2,0,2,2],[1,2,2,0,2],[1,2,2,2,0]] [[0,1,0,0,0],[0,0,1,0,0],[0,0,0,1,0],[0,0,0,0,1]] [1,2,3,4,0] 0=true:=by decide+kernel
theorem zVb:yI [[0,1,1,1,1],[1,0,2,2,2],[1,2,0,2,2],[1,2,2,0,2],[1,2,2,2,0]] [[0,1,0,0,0],[0,0,1,0,0],[0,0,0,1,0],[0,0,0,0,1]] [1,2,3,4,0] 2=true:=by decide+kernel
theorem zXn:yI [[0,1,1,1,1],[1,0,2,2,2],[1,2,0,2,2],[1,2,2,0,2],[1,2,2,2,0]] [[0,1,0,0,0],[0,0,1,0,0],[0,0,0,1,0],[0,0,0,0,1]] [1,2,3,4,0] 3=true:=by decide+kernel
theorem zWo:yI [[0,1,1,1,1],[1,0,2,2,2],[1,2,0,2,2],[1,2,2,0,2],[1,2,2,2,0]] [[0,1,0,0,0],[0,0,1,0,0],[0,0,0,1,0],[0,0,0,0,1]] [1,2,3,4,0] 4=true:=by decide+kernel
noncomputable def Vn(t:Nat×Nat×Nat):Bool:=(pairs.all fun q=>pL.contains (BD t q.1 q.2,qV t q.1 q.2,bh t q.1 q.2,q.1==0)&&decide (0<bh t q.1 q.2)&&decide (qV t q.1 q.2<=bh t q.1 q.2))&&([(0,2),(0,4),(1,3),(2,4)].all fun q=>vm.contains (bH t q.1,bH t q.2))&&([(0,1),(1,2),(0,3),(2,3),(1,4)].all fun q=>NO.contains (bH t q.1,bH t q.2))&&Vm.contains (bH t 3,bH t 4)
theorem zUo:eQ.all Vn=true:=by decide+kernel
noncomputable def yFq(t:Nat×Nat×Nat):Bool:=(Ae 5).all fun v=>(yY t).contains v&&(yY t)[(yY t).idxOf v]?==some v
theorem yCr:eQ.all yFq=true:=by decide+kernel
noncomputable def dF(xs:List Nat)(v:Nat):Nat:=if 0<iN (xs.getD v 0)then iN (xs.getD v 0)+1 else 0
theorem lO(xs:List Nat)(v:Nat):dF xs v∈ds:=by
 unfold dF
 have h:iN (xs.getD v 0)<4:=Cw _ (by decide)
 generalize iN (xs.getD v 0)=m at h
 exact rh h (by decide) (by decide) (by decide) (by decide)
theorem BE{x:Nat}(h:x∈ds):x<=4:=by
 simp only[ds,Av,Ar,or_false]at h
 lia
theorem Vo(l:List Nat)(v:Nat):(l.map fun n:Nat=>(n:Int)).idxOf (v:Int)=l.idxOf v:=by
 induction l with
 |nil=>rfl
 |cons x l ih=>
  rw[Bj,Ks,Ks,ih]
  by_cases h:x=v
  ·subst h;simp
  ·have e1:((x:Int)==(v:Int))=false:=by simp;exact xF ‹_›
   have e2:(x==v)=false:=by simpa using h
   rw[e1,e2]
theorem Vp(l:List Nat)(v:Nat):(l.map fun n:Nat=>(n:Int)).contains (v:Int)=l.contains v:=by
 induction l with
 |nil=>rfl
 |cons x l ih=>
  rw[Bj,List.contains_cons,List.contains_cons,ih]
  congr 1
  by_cases h:v=x
  ·subst h;simp
  ·have e1:((v:Int)==(x:Int))=false:=by simp;exact xF ‹_›
   have e2:(v==x)=false:=by simpa using h
   rw[e1,e2]
structure k8(t:Nat×Nat×Nat):Prop where
 len:∀v,v<5->(bH t v).length=4
 kW:∀v,v<5->∀c∈bH t v,nP c=true
 ord:∀v,v<5->(yY t).contains v=true/\(yY t)[(yY t).idxOf v]?=some v
theorem BF{t:Nat×Nat×Nat}(h:t∈eQ):k8 t:=by
 have N:=lK h
 have hm:∀v,v<5->bH t v∈dp t:=fun v hv=>by
  unfold bH
  rw[Aw,Ap (by rw[N.nm];exact hv)]
  exact Ee _
 refine⟨fun v hv=>N.GF _ (hm v hv),fun v hv=>N.kW _ (hm v hv),fun v hv=>?_⟩
 have:=Al.mp (Al.mp yCr t h) v (Bg.mpr hv)
 simpa using this
theorem Vq{c:Nat}(h:nP c=true):c≠46/\c<128:=by
 unfold nP at h
 simp only[Ao,decide_eq_true_eq]at h
 lia
theorem Vr{t:Nat×Nat×Nat}(N:k8 t){d v:Nat}(hv:v<5):(bI t d v).count 46=d:=by
 unfold bI
 rw[List.count_append,List.count_replicate]
 have:(bH t v).count 46=0:=List.count_eq_zero.mpr fun h=>(Vq (N.kW v hv _ h)).1 rfl
 rw[this];simp
theorem GV{t:Nat×Nat×Nat}(N:k8 t){d v:Nat}(hv:v<5):(bI t d v).length=d+4:=by
 unfold bI
 rw[Ax,Bq,N.len v hv]
theorem zS1{t:Nat×Nat×Nat}(N:k8 t){xs:List Nat}{v:Nat}(hv:v<5):u0 (yQ xs (dp t) v)=bI t (dF xs v) v:=by
 unfold u0 yQ bI dF
 congr 1
 unfold iO
 rw[A3]
 have:=UI (fun c:Nat=>c) (bH t v) 0
 rw[N.len v hv]at this
 rw[show(bH t v).map (fun c=>c)=bH t v by simp]at this
 exact this
structure FB(σ:List (Option PV))(xs:List Nat)(aB:Nat)(t:Nat×Nat×Nat)(u:Value):Prop where
 fa:FA σ xs aB (yZ t).sp (dp t) (yY t) (gO t aB)
 o:At σ 17 (.obj u)
 w:At σ 18 (.list (((yY t).map fun v=>bI t (dF xs v) v).map .str))
theorem FB.set{σ:List (Option PV)}{xs:List Nat}{aB:Nat}{t:Nat×Nat×Nat}{u:Value}(h:FB σ xs aB t u){i:Nat}{p:PV}(hi:i=1\/i=9\/i=14\/19<=i):FB (σ.set i (some p)) xs aB t u:=
 ⟨h.fa.set (by lia),h.o.set (by exact xI ‹_› rfl),h.w.set (by exact xI ‹_› rfl)⟩
section
variable{U U₃:Uc}{σ:List (Option PV)}{xs:List Nat}{aB:Nat}{t:Nat×Nat×Nat}{u:Value}{β:Option (Value×ak)}
theorem GW{b:ak}(h:At σ 17 (.obj u)):iF ⟨σ,some (u,b)⟩ 17=some (u,b):=by
 unfold iF
 rw[show(⟨σ,some (u,b)⟩:Sg).σ[17]?=some (some (.obj u))from h]
 exact wI (by simp) rfl
theorem zZ9(ht:t∈eQ)(hx:xs.length=5)(F:FA σ xs aB (yZ t).sp (dp t) (yY t) (gO t aB))(ho:At σ 17 (.obj u)):
  ∃pre ln,OC (eO U₃) ⟨σ,some (u,⟨(yY t).flatMap fun v=>wL (wB (yQ xs (dp t) v)),1,[]⟩)⟩=some (⟨σ.set 18 (some (.list (((yY t).map fun v=>bI t (dF xs v) v).map .str))),some (u,⟨pre,ln,[]⟩)⟩, .next)/\pre.all iW=true/\gu pre ln=6:=by
 have N:=lK ht
 have M:=BF ht
 obtain⟨pre,ln,e1,e2,e3⟩:=OL (U:=U₃) ((yY t).map (yQ xs (dp t))) [] 1 rfl fun q hq=>by
  refine aD (D6.mp hq) fun v hv bL=>?_
  subst bL
  have h1:(yQ xs (dp t) v).1<4:=Cw _ (by decide)
  have h2:(yQ xs (dp t) v).2.length=4:=by simp[yQ,iO]
  refine aZ (by unfold ag;lia) (fun p hp=>(UN (UO N.nm N.GF N.kW (N.lt v hv) p hp)).1)
 rw[Az,N.od,List.flatMap_map]at e1
 rw[Az,N.od]at e3
 refine nt pre ln ?_ e2 e3
 have hw:((yY t).map (yQ xs (dp t))).map u0=(yY t).map fun v=>bI t (dF xs v) v:=by
  rw[A3]
  exact Cj fun v hv=>zS1 M (N.lt v hv)
 rw[hw]at e1
 have e4:FN (eO U₃) 17 (fun g=>((g.σ[7]?).bind id).bind j9) ⟨σ,some (u,⟨(yY t).flatMap fun v=>wL (wB (yQ xs (dp t) v)),1,[]⟩)⟩=some (⟨σ,some (u,⟨pre,ln,[]⟩)⟩, .list (((yY t).map fun v=>bI t (dF xs v) v).map .str)):=by
  have s1:((σ[7]?).bind id).bind j9=some (((yY t).map pn).map fun x=> [x]):=by rw[F.od];rfl
  refine(?_:(((σ[7]?).bind id).bind j9).bind _=_)
  refine zZ s1 ?_
  have hl:(((yY t).map pn).map fun x=> [x]).length=5:=by simp[N.od]
  rw[hl,if_pos (by decide),GW ho,Au]
  refine(?_:(pD (eO U₃) 5 ⟨(yY t).flatMap fun v=>wL (wB (yQ xs (dp t) v)),1,[]⟩).map _=_)
  have e1':pD (eO U₃) 5 ⟨(yY t).flatMap fun v=>wL (wB (yQ xs (dp t) v)),1,[]⟩=some (⟨pre,ln,[]⟩,(yY t).map fun v=>bI t (dF xs v) v):=e1
  rw[e1'];rfl
 refine(?_:((FN _ 17 _ _).bind _)=_)
 rw[e4];rfl
theorem Vs{e:PE}{v:Nat}(M:k8 t)(N:lJ t)(h7:At σ 7 (.list ((yY t).map pn)))(he:ev U e σ=some (pn v))(hv:v<5):ev U (.me 3 (.var 7) (.cons e .nil)) σ=some (pn ((yY t).idxOf v)):=by
 refine(?_:(ev U (.var 7) σ).bind (fun x=>((ev U e σ).bind fun y=>(some []).map (y:: ·)).bind (nV 3 x))=_)
 (refine zZ (zA h7) ?_;rw[he])
 refine(?_:(PV.ints ((yY t).map pn)).bind _=_)
 rw[u4,Au]
 refine(?_:(if(((yY t).map fun n:Nat=>(n:Int)).contains (v:Int)&&decide (((yY t).map fun n:Nat=>(n:Int)).length<=ag))=true then some (PV.int ((((yY t).map fun n:Nat=>(n:Int)).idxOf (v:Int):Nat):Int))else none)=_)
 rw[Vp,Vo,(M.ord v hv).1,if_pos (by rw[Az,N.od,Gs];exact decide_eq_true (by decide))]
theorem Vt{e:PE}{v:Nat}(M:k8 t)(N:lJ t)(F:FB σ xs aB t u)(he:ev U e σ=some (pn v))(hv:v<5):ev U (.idx (.var 18) (.me 3 (.var 7) (.cons e .nil))) σ=some (.str (bI t (dF xs v) v)):=by
 refine wH (zA F.w) (Vs M N F.fa.od he hv) ?_ (by simp[N.od,ag])
 rw[Ay,Ay,(M.ord v hv).2];rfl
theorem Vu:∀l:List (List Nat),uf (l.map PV.str) (l.map PV.str)=some true
 |[]=>rfl
 |x::l=>by
  refine(?_:((some (x==x)).bind fun a=>(uf (l.map PV.str) (l.map PV.str)).map fun b=>a&&b)=_)
  rw[Vu l];simp
theorem zV1(l:List (List Nat)):vEq (.list (l.map PV.str)) (.list (l.map PV.str))=some true:=by
 refine(?_:(if((l.map PV.str).length==(l.map PV.str).length)=true then uf (l.map PV.str) (l.map PV.str)else some false)=_)
 (refine wI (by simp) ?_;rw[Vu])
theorem yB1(M:k8 t)(N:lJ t)(hx:xs.length=5)(F:FB σ xs aB t u):den U Oh ⟨σ,β⟩=some (⟨σ,β⟩, .next):=by
 have e1:=kT (U:=U) (σ:=σ) (elt:= .bin .Add (.bin .Mult (.lit (.str [46])) (.ite (.cmp .Gt (.idx (.var 12) (.var 37)) (.lit (.int 0))) (.bin .Add (.idx (.var 12) (.var 37)) (.lit (.int 1))) (.lit (.int 0)))) (.idx (.var 6) (.var 37)))
  (src:= .items (.var 7)) (l:=yY t) (it:=fun v=> [pn v]) (g:=fun v=> .str (bI t (dF xs v) v)) (by rw[AJ (zA F.fa.od),A3];rfl) (by rw[N.od];decide) fun v hv=>?_
 ·have q:((yY t).map fun v=>PV.str (bI t (dF xs v) v))=((yY t).map fun v=>bI t (dF xs v) v).map PV.str:=by rw[A3];rfl
  rw[q]at e1
  refine fT ?_ rfl
  refine(?_:(ev U (.var 18) σ).bind _=_)
  (refine zZ (zA F.w) ?_;refine zZ e1 ?_)
  refine(?_:G6 (fun b=>!b) (vEq (.list (((yY t).map fun v=>bI t (dF xs v) v).map PV.str)) (.list (((yY t).map fun v=>bI t (dF xs v) v).map PV.str)))=_)
  rw[zV1];rfl
 ·have BG:=N.lt v hv
  have dW:ev U (.var 37) (σ++Bv some [pn v])=some (pn v):=zA (g8 F.fa.len)
  have hm:ev U (.idx (.var 12) (.var 37)) (σ++Bv some [pn v])=some (pn (iN (xs.getD v 0))):=by
   refine wH (zA F.fa.ml.app) dW ?_ (by simp[hx,ag])
   rw[A3]
   exact kU _ 0 (by exact zH)
  have Ox:iN (xs.getD v 0)<4:=Cw _ (by decide)
  have hd:ev U (.ite (.cmp .Gt (.idx (.var 12) (.var 37)) (.lit (.int 0))) (.bin .Add (.idx (.var 12) (.var 37)) (.lit (.int 1))) (.lit (.int 0))) (σ++Bv some [pn v])=some (pn (dF xs v)):=by
   rw[qQ (tO (n:=0) hm rfl)]
   unfold dF
   by_cases h0:0<iN (xs.getD v 0)
   ·rw[if_pos (decide_eq_true h0),if_pos h0]
    exact iX (n:=1) hm rfl
   ·rw[if_neg (by simpa using h0),if_neg h0];rfl
  have jJ:=BE (lO xs v)
  have nm:ev U (.idx (.var 6) (.var 37)) (σ++Bv some [pn v])=some (.str (bH t v)):=wH (zA F.fa.nm.app) dW (kU PV.str [] (by rw[N.nm];exact BG)) (by simp[N.nm,ag])
  exact aZ (jT (AP hd (by exact zB)) nm (by rw[Bq,M.len v BG];exact zP)) yX
theorem zW8{pre:List Nat}{ln:Int}(hp:pre.all iW=true)(hl:gu pre ln=6)(ho:At σ 17 (.obj u)):FQ (eO U₃) 17 6 ⟨σ,some (u,⟨pre,ln,[]⟩)⟩=some (⟨σ,some (u,⟨[],6,[]⟩)⟩, .next):=by
 refine(?_:(iF _ 17).bind _=_)
 (refine zZ (GW ho) ?_;rw[FX (zT6 (ln:=ln) hp),hl,Au])
 rfl
theorem zYs(M:k8 t)(N:lJ t)(F:FB σ xs aB t u):den U Oi ⟨σ,β⟩=some (⟨σ.set 19 (some (.list (((Ae 5).map (dF xs)).map pn))),β⟩, .next):=by
 have e1:=kT (U:=U) (σ:=σ) (elt:= .me 2 (.idx (.var 18) (.me 3 (.var 7) (.cons (.var 37) .nil))) (.cons (.lit (.str [46])) .nil)) (src:= .cv (.lit (.int 5))) (l:=Ae 5) (it:=fun i=> [pn i]) (g:=fun v=>pn (dF xs v)) (jS (n:=5) rfl (by decide)) (by decide) fun v hv=>?_
 ·have q:((Ae 5).map fun v=>pn (dF xs v))=((Ae 5).map (dF xs)).map pn:=by rw[A3];rfl
  rw[q]at e1
  refine zD e1 ?_
  rw[<-q]
  exact u3 fun x _=>zX
 ·have hv:v<5:=Bg.mp hv
  refine aZ ?_ zX
  have F':FB (σ++Bv some [pn v]) xs aB t u->True:=fun _=>trivial
  have dW:ev U (.var 37) (σ++Bv some [pn v])=some (pn v):=zA (g8 F.fa.len)
  have hw:ev U (.idx (.var 18) (.me 3 (.var 7) (.cons (.var 37) .nil))) (σ++Bv some [pn v])=some (.str (bI t (dF xs v) v)):=by
   refine wH (zA F.w.app) (Vs M N F.fa.od.app dW hv) ?_ (by simp[N.od,ag])
   rw[Ay,Ay,(M.ord v hv).2];rfl
  refine(?_:(ev U (.idx _ _) _).bind _=_)
  refine zZ hw ?_
  refine(?_:some (PV.int ((bI t (dF xs v) v).count 46:Nat))=_)
  rw[Vr M hv]
noncomputable def dZ(f:Nat->Nat->Nat):PV:= .list ((Ae 5).map fun a=> .list ((Ae 5).map fun b=>pn (f a b)))
theorem zZy(bW:σ.length=37):den U Oj ⟨σ,β⟩=some (⟨σ.set 20 (some (dZ fun _ _=>0)),β⟩, .next):=by
 have e1:=kT (U:=U) (σ:=σ) (elt:= .bin .Mult (.list (.cons (.lit (.int 0)) .nil)) (.lit (.int 5))) (src:= .cv (.lit (.int 5))) (l:=Ae 5) (it:=fun i=> [pn i]) (g:=fun _=> .list ((Ae 5).map fun _=>pn 0)) (jS (n:=5) rfl (by decide)) (by decide) fun v _=>⟨rfl,rfl⟩
 exact zD e1 rfl
end
theorem Vv{α:Type}{l:List α}{f:α->Bool}{k:Nat}(hk:0<k):∀(n:Nat),l.length<=n*k->(∀i,i<n->((l.drop (i*k)).take k).all f=true)->l.all f=true:=by
 intro n
 induction n generalizing l with
 |zero=>intro hl _;have:l=[]:=Ga.mp (by lia);rw[this];rfl
 |succ n ih=>
  intro hl h
  have h0:=h 0 (Et _)
  rw[Nat.zero_mul,C3]at h0
  have hr:(l.drop k).all f=true:=by
   refine ih ?_ fun i hi=>?_
   ·rw[Bs]
    have:(n+1)*k=n*k+k:=Nat.succ_mul n k
    lia
   ·have:=h (i+1) (by exact Nat.succ_lt_succ ‹_›)
    rw[Jj]
    have e:(i+1)*k=k+i*k:=by rw[Nat.succ_mul];exact D3 _ _
    rw[e]at this
    exact this
  rw[<-List.take_append_drop k l,List.all_append,h0,hr];rfl
theorem zOr:pL.all (fun q=>ni q.1 q.2.1 q.2.2.1 q.2.2.2)=true:=Vv (k:=7) (by decide) 7 (by decide) fun i hi=>by
 exact pN hi yFm fun hi=>pN hi yFp fun hi=>pN hi yF0 fun hi=>rh hi yFf yFx yF6 yGa
theorem yBs:vm.all (fun q=>qU q.1 q.2)=true:=Vv (k:=6) (by decide) 4 (by decide) fun i hi=>by
 exact rh hi yF1 yGs yFc yFa
noncomputable def yGy(t:Nat×Nat×Nat):Bool:=pairs.all fun q=>decide (bh t 0 q.2<=bh t q.1 q.2+bh t 0 q.1)&&decide ((yZ t).sp.getD q.1 0<=(yZ t).sp.getD q.2 0)&&decide ((yZ t).sp.getD q.2 0<=8)&&bh t 0 0==0&&decide (bh t q.1 q.2<=4)&&(bh t q.1 q.2==bh t q.2 q.1)
theorem yEx:eQ.all yGy=true:=by decide+kernel
theorem zW4{u v:Nat}(hu:u<v)(hv:v<5):(u,v)∈pairs:=(by decide+kernel:∀v<5,∀u<v,(u,v)∈pairs) v hv u hu
structure GX(t:Nat×Nat×Nat)(u v:Nat):Prop where
 chk:ni (BD t u v) (qV t u v) (bh t u v) (u==0)=true
 pos:0<bh t u v
 ah:qV t u v<=bh t u v
 tri:bh t 0 v<=bh t u v+bh t 0 u
 sp:(yZ t).sp.getD u 0<=(yZ t).sp.getD v 0/\(yZ t).sp.getD v 0<=8
 z:bh t 0 0=0
 le:bh t u v<=4
 sym:bh t u v=bh t v u
 O6:(u+v)%2=0->qU (bH t u) (bH t v)=true
 odd:(u+v)%2=1->(u+v)/7=0->O5 (bH t u) (bH t v)=true
 turn:(u+v)/7=1->(u+v)%2=1/\GR (bH t u) (bH t v)=true
 small:(u+v)/7<=1
theorem GY{α:Type}[BEq α][LawfulBEq α]{l:List α}{f:α->Bool}{x:α}(h:l.all f=true)(hx:l.contains x=true):f x=true:=Al.mp h x (Dn.mp hx)
theorem yDs:∀v<5,∀u<v,(u+v)%2=0->List.contains [(0,2),(0,4),(1,3),(2,4)] (u,v)=true:=by decide
theorem yEq:∀v<5,∀u<v,(u+v)%2=1->(u+v)/7=0->List.contains [(0,1),(1,2),(0,3),(2,3),(1,4)] (u,v)=true:=by decide
theorem yCx:∀v<5,∀u<v,(u+v)/7=1->u=3/\v=4:=by decide
theorem Vw:∀v<5,∀u<v,(u+v)/7<=1:=by decide
theorem yEs{t:Nat×Nat×Nat}(ht:t∈eQ){u v:Nat}(hu:u<v)(hv:v<5):GX t u v:=by
 have h1:=Al.mp zUo t ht
 unfold Vn at h1
 simp only[Ao]at h1
 refine ao h1 fun bq h4=>?_
 refine ao bq fun bq h3=>?_
 obtain⟨h1,h2⟩:=bq
 have hp:=zW4 hu hv
 have h1:=Al.mp h1 _ hp
 simp only[Ao,decide_eq_true_eq]at h1
 refine ao h1 fun bq h7=>?_
 refine ao bq fun h5 h6=>?_
 have h8:=Al.mp (Al.mp yEx t ht) _ hp
 simp only[Ao,decide_eq_true_eq,beq_iff_eq]at h8
 refine ao h8 fun bq g6=>?_
 refine ao bq fun bq g5=>?_
 obtain⟨⟨⟨g1,g2⟩,g3⟩,g4⟩:=bq
 refine⟨GY (f:=fun q:List Nat×Nat×Nat×Bool=>ni q.1 q.2.1 q.2.2.1 q.2.2.2) (x:=(BD t u v,qV t u v,bh t u v,u==0)) zOr h5,h6,h7,g1,⟨g2,g3⟩,g4,g5,g6,fun he=>?_,fun ho nR=>?_,fun hq=>?_,Vw v hv u hu⟩
 ·exact GY (f:=fun q:List Nat×List Nat=>qU q.1 q.2) (x:=(bH t u,bH t v)) yBs (Al.mp h2 _ (Dn.mp (yDs v hv u hu he)))
 ·exact GY (f:=fun q:List Nat×List Nat=>O5 q.1 q.2) (x:=(bH t u,bH t v)) yC3 (Al.mp h3 _ (Dn.mp (yEq v hv u hu ho nR)))
 ·refine ao (yCx v hv u hu hq) fun aI aH=>?_
  subst aI
  subst aH
  exact aZ rfl (GY (f:=fun q:List Nat×List Nat=>GR q.1 q.2) (x:=(bH t 3,bH t 4)) yDr h4)
theorem Vx(th:List Nat)(pl:Nat):∀(l:List Nat) (i:Nat),((Ae l.length).map fun k=> [l.getD k 0]++if k+i==pl then th else []).flatten=if i<=pl/\pl<i+l.length then vj th (pl-i) l else l
 |[],i=>by rw[if_neg (by rw[Kq];lia)];rfl
 |c::l,i=>by
  have ih:=Vx th pl l (i+1)
  rw[Bl,Ki,Bj,Fn,A3]
  have e:((Ae l.length).map ((fun k=> [(c::l).getD k 0]++if k+i==pl then th else [])∘Nat.succ))=(Ae l.length).map fun k=> [l.getD k 0]++if k+(i+1)==pl then th else []:=by
   refine Cj fun k _=>?_
   refine(?_:[(c::l).getD (k+1) 0]++(if k+1+i==pl then th else [])=_)
   rw[show k+1+i=k+(i+1)from E9 k 1 i];rfl
  rw[e,ih]
  refine(?_:[c]++(if 0+i==pl then th else [])++_=_)
  by_cases h:i=pl
  ·subst h
   have q:(0+i==i)=true:=by simp
   rw[if_pos q,if_neg (show ¬(i+1<=i/\i<i+1+l.length)by lia),if_pos (show i<=i/\i<i+(l.length+1)by lia),Nat.sub_self]
   refine(?_:[c]++th++l=c::(th++l))
   simp
  ·have q:(0+i==pl)=false:=by simp;assumption
   simp only[q,Cu,if_false]
   by_cases h2:i+1<=pl/\pl<i+1+l.length
   ·rw[if_pos h2,if_pos ⟨Fj h2.1,Nat.lt_of_lt_of_eq h2.2 (E9 i 1 l.length)⟩]
    obtain⟨m,hm⟩:∃m,pl-i=m+1:=⟨pl-i-1,(Nat.succ_pred_eq_of_pos (Fs h2.1)).symm⟩
    have KP:pl-(i+1)=m:=congrArg M5 hm
    rw[hm,KP]
    refine(?_:[c]++[]++vj th m l=c::vj th m l)
    simp
   ·rw[if_neg h2,if_neg (show ¬(i<=pl/\pl<i+(l.length+1))by lia)]
    refine(?_:[c]++[]++l=c::l)
    simp
theorem zQo{m th:List Nat}{pl a b:Nat}(hm:m.length=8)(BB:a<=b)(hb:b<=8):(((lI m th pl).drop a).take (b-a)).flatten=if a<=pl/\pl<b then vj th (pl-a) ((m.drop a).take (b-a))else(m.drop a).take (b-a):=by
 have hl:((m.drop a).take (b-a)).length=b-a:=by rw[Ca,Bs,hm];exact En (Lp hb a)
 have key:=Vx th pl ((m.drop a).take (b-a)) a
 rw[hl,show a+(b-a)=b by exact Nat.add_sub_cancel' ‹_›]at key
 rw[<-key]
 congr 1
 apply Gz
 intro k
 by_cases hk:k<b-a
 ·rw[J2 hk,List.getElem?_drop]
  unfold lI
  rw[Ay,Ay,Ck (Ed (Nat.add_lt_of_lt_sub' hk) hb),Ck hk]
  simp only[D9]
  rw[D3 k a]
  congr 3
  rw[Aw,Aw,J2 hk,List.getElem?_drop]
 ·rw[Eb (by rw[Ca];exact Ah (Gp _ _) (Bw hk)),Eb (by rw[Az,Gx];exact Bw ‹_›)]
theorem yDx{t:Nat×Nat×Nat}(N:lJ t){u v:Nat}(P:GX t u v)(aB:Nat):BC (tU t (g9.getD (aB%9) []) (aB/9%8) u v) (qV t u v) (bh t u v) (u==0)=true:=by
 have hc:=P.chk
 unfold ni at hc
 simp only[Ao]at hc
 refine ao hc fun h1 h2=>?_
 unfold tU
 rw[zQo N.m P.sp.1 P.sp.2]
 split
 ·next h=>
  have hl:(BD t u v).length=(yZ t).sp.getD v 0-(yZ t).sp.getD u 0:=by
   unfold BD
   rw[Ca,Bs,N.m]
   exact En (Lp P.sp.2 _)
  have h3:=Al.mp h2 (aB/9%8-(yZ t).sp.getD u 0) (Bg.mpr (hl▸Nat.sub_lt_sub_right h.1 h.2))
  refine Al.mp h3 (g9.getD (aB%9) []) ?_
  have:aB%9<g9.length:=Cw _ (by decide)
  rw[Aw,Ap this]
  exact Ee _
 ·exact h1
structure Kn(n:Nat)(σ:List (Option PV))(K:List (Nat×PV)):Prop where
 len:σ.length=n
 get:∀i p,K.lookup i=some p->At σ i p
theorem Kn.set{n:Nat}{σ:List (Option PV)}{K:List (Nat×PV)}(h:Kn n σ K){i:Nat}(hi:i<n)(p:PV):Kn n (σ.set i (some p)) ((i,p)::K):=by
 refine⟨by rw[Bd];exact h.len,fun j q e=>?_⟩
 rw[A8]at e
 by_cases hj:j=i
 ·subst hj
  rw[show(j==j)=true by simp]at e
  obtain rfl:=Aa e
  exact zG (by rw[h.len];exact hi)
 ·rw[show(j==i)=false by simpa using hj]at e
  exact(h.get j q e).set (fun q=>hj q.symm)
section
variable{U:Uc}{σ:List (Option PV)}{β:Option (Value×ak)}{n:Nat}{K:List (Nat×PV)}
theorem O7{c:PT}{a r:dD}(h:aU U c σ=some false):yN U (.cons (.ifs c a .nil) r) ⟨σ,β⟩=yN U r ⟨σ,β⟩:=zK (fT h rfl)
theorem vo{a b:PE}{m n:Nat}(ha:ev U a σ=some (pn m))(hb:ev U b σ=some (pn n))(hle:n<=m):ev U (.bin .Sub a b) σ=some (pn (m-n)):=by
 refine(?_:(ev U a σ).bind _=_)
 rw[ha]
 refine(?_:(ev U b σ).bind _=_)
 rw[hb]
 refine(?_:some (PV.int ((m:Int)-(n:Int)))=_)
 rw[(Int.ofNat_sub hle).symm]
theorem GZ{a b:PE}{m n:Int}(ha:ev U a σ=some (.int m))(hb:ev U b σ=some (.int n)):ev U (.bin .Sub a b) σ=some (.int (m-n)):=by
 refine(?_:(ev U a σ).bind _=_)
 rw[ha]
 refine(?_:(ev U b σ).bind _=_)
 rw[hb];rfl
theorem yC0{a:PE}{m n:Nat}(ha:ev U a σ=some (.int ((m:Int)-(n:Int)))):ev U (.bi 4 (.cons a .nil)) σ=some (pn ((m-n)+(n-m))):=by
 refine(?_:((ev U a σ).bind fun x=>(some []).map (x:: ·)).bind _=_)
 rw[ha]
 refine(?_:some (PV.int (if(m:Int)-(n:Int)<0 then -((m:Int)-(n:Int))else(m:Int)-(n:Int)))=_)
 congr 2
 split<;>lia
theorem zP0{a b:PE}{x y:Nat}(ha:ev U a σ=some (.str [x]))(hb:ev U b σ=some (.str [y])):aU U (.cmp .NotEq a b) σ=some (x !=y):=by
 refine(?_:(ev U a σ).bind _=_)
 (refine zZ ha ?_;rw[hb])
 refine(?_:some (!(([x]:List Nat)==[y]))=_)
 congr 1
 by_cases h:x=y
 ·subst h;simp
 ·have e1:(([x]:List Nat)==[y])=false:=by simpa using h
  have e2:(x !=y)=true:=by simpa using h
  rw[e1,e2];rfl
theorem yAe{a b:PE}{m n:Nat}(ha:ev U a σ=some (pn m))(hb:ev U b σ=some (pn n)):aU U (.cmp .NotEq a b) σ=some (m !=n):=by
 refine(?_:(ev U a σ).bind _=_)
 (refine zZ ha ?_;rw[hb])
 refine(?_:some ((m:Int) !=(n:Int))=_)
 congr 1
 by_cases h:m=n
 ·subst h;simp
 ·have e1:((m:Int) !=(n:Int))=true:=by simp;exact xF ‹_›
  rw[e1];simp[h]
theorem Vy{t:PT}{b:Bool}(h:aU U t σ=some b):lj U (.cons t .nil) σ=some b:=by
 refine(?_:(aU U t σ).bind _=_)
 rw[h]
 cases b<;>rfl
theorem Vz{t1 t2:PT}{b1 b2:Bool}(h1:aU U t1 σ=some b1)(h2:b1=true->aU U t2 σ=some b2):aU U (.and (.cons t1 (.cons t2 .nil))) σ=some (b1&&b2):=by
 refine(?_:((aU U t1 σ).bind fun b=>if b==true then(aU U t2 σ).bind fun b=>if b==true then some true else some (!true)else some (!true))=_)
 refine zZ h1 ?_
 cases b1 with
 |false=>rfl
 |true=>
  (refine wI (show(true==true)=true from rfl) ?_;refine zZ (h2 rfl) ?_)
  cases b2<;>rfl
theorem yDf{k:Nat}{a:PE}{x r:PV}(ha:ev U a σ=some x)(h:U k [x]=some r):ev U (.uc k (.cons a .nil)) σ=some r:=by
 refine(?_:((ev U a σ).bind fun x=>(some []).map (x:: ·)).bind _=_)
 rw[ha];exact h
theorem VA{k:Nat}{a b c:PE}{x y z r:PV}(ha:ev U a σ=some x)(hb:ev U b σ=some y)(hc:ev U c σ=some z)(h:U k [x,y,z]=some r):ev U (.uc k (.cons a (.cons b (.cons c .nil)))) σ=some r:=by
 refine(?_:((ev U a σ).bind fun x=>((ev U b σ).bind fun y=>((ev U c σ).bind fun z=>(some []).map (z:: ·)).map (y:: ·)).map (x:: ·)).bind _=_)
 rw[ha,hb,hc];exact h
theorem VB{a b:PE}{x y:Bool}(ha:ev U a σ=some (.bool x))(hb:ev U b σ=some (.bool y)):aU U (.cmp .IsNot a b) σ=some (!(x==y)):=by
 refine(?_:(ev U a σ).bind _=_)
 (refine zZ ha ?_;rw[hb]);rfl
theorem VC{e:PE}{c:Nat}{k:Int}(h:ev U e σ=some (.int k))(hk: -1000<=k/\k<=1000):ev U (.bin .Mult (.lit (.str [c])) e) σ=some (.str (Ai k.toNat c)):=by
 refine(?_:(ev U e σ).bind _=_)
 refine zZ h ?_
 have hf:wV k=true:=by
  exact B3.mpr ⟨decide_eq_true (by exact xW),decide_eq_true (by exact xU)⟩
 rw[UD]
 refine wI (by rw[hf,Gs];exact decide_eq_true (by simp[ag];exact xV)) ?_
 congr 2
 generalize k.toNat=m
 induction m with
 |zero=>rfl
 |succ m ih=>rw[Bk,Fn,ih,Bk];rfl
end
theorem zZ6{t:Nat×Nat×Nat}{u v:Nat}(P:GX t u v)(M:k8 t)(hu:u<v)(hv:v<5)(xs:List Nat):
  vf (k6 t (dF xs u) u v) (k7 t (dF xs v) u v) (pJ (k6 t (dF xs u) u v) (k7 t (dF xs v) u v) ((u+v)/7)) (bh t u v)=true/\((u+v)/7=1->lM (k6 t (dF xs u) u v) (k7 t (dF xs v) u v) 1=2):=by
 have VD:=M.len u (Jc hu hv)
 have n7:=M.len v hv
 have O8:=P.small
 by_cases ho:(u+v)%2=1
 ·by_cases ht:(u+v)/7=1
  ·refine ao (P.turn ht) fun _ h=>?_
   unfold GR at h
   simp only[Ao]at h
   have e1:k6 t (dF xs u) u v=bH t u++[46]:=by unfold k6;rw[if_pos ho,ht];rfl
   have e2:k7 t (dF xs v) u v=46::bH t v:=by unfold k7;rw[if_pos ho,ht];rfl
   have e3:pJ (bH t u++[46]) (46::bH t v) 1=4:=by
    unfold pJ;simp[VD,n7]
   rw[e1,e2,ht,e3]
   exact aZ h.1 (fun _=>Ec h.2)
  ·have nR:(u+v)/7=0:=Nat.eq_zero_of_le_zero (Ft (Nat.lt_of_le_of_ne O8 ht))
   have h:=P.odd ho nR
   have e1:k6 t (dF xs u) u v=bH t u:=by unfold k6;rw[if_pos ho,nR];simp
   have e2:k7 t (dF xs v) u v=bH t v:=by unfold k7;rw[if_pos ho,nR];simp
   have e3:pJ (bH t u) (bH t v) 0=0:=by unfold pJ;simp[VD,n7]
   rw[e1,e2,nR,e3]
   exact aZ h (fun h=>by cases h)
 ·have he:(u+v)%2=0:=(Nat.mod_two_eq_zero_or_one _).resolve_right ho
  have nR:(u+v)/7=0:=by
   rcases Nat.eq_zero_or_pos ((u+v)/7)with h|h
   ·exact h
   ·exact absurd (P.turn (Fh O8 h)).1 ho
  have h:=P.O6 he
  unfold qU at h
  have h:=Al.mp (Al.mp h _ (lO xs u)) _ (lO xs v)
  have e1:k6 t (dF xs u) u v=bI t (dF xs u) u:=by unfold k6;rw[if_neg ho,nR];simp
  have e2:k7 t (dF xs v) u v=bI t (dF xs v) v:=by unfold k7;rw[if_neg ho,nR];simp
  have e3:pJ (bI t (dF xs u) u) (bI t (dF xs v) v) 0=2*((dF xs u-dF xs v)+(dF xs v-dF xs u)):=by
   unfold pJ;rw[GV M (Jc hu hv),GV M hv,Ky,Ky,Nat.mul_zero,Mr]
  rw[e1,e2,nR,e3]
  exact aZ h (fun h=>by cases h)
theorem yBw{a b:List Nat}{m h:Nat}(hl:vf a b m h=true)(hh:0<h)(k:Nat)(hk:k<2):lM a b (m+h-k)=m+h:=by
 unfold vf at hl
 simp only[Ao]at hl
 match k,hk with
 |0,_=>exact Ec hl.1
 |1,_=>exact Ec hl.2
noncomputable def fe(t:Nat×Nat×Nat)(v u:Nat)(a b:Nat):Nat:=if max a b<v\/(max a b=v/\min a b<u)then bh t a b else 0
theorem HA{f g:Nat->Nat->Nat}(h:∀a b,a<5->b<5->f a b=g a b):dZ f=dZ g:=by
 unfold dZ
 congr 1
 refine Cj fun a ha=>?_
 congr 1
 refine Cj fun b hb=>?_
 rw[h a b (Bg.mp ha) (Bg.mp hb)]
section
variable{U:Uc}{σ:List (Option PV)}{β:Option (Value×ak)}
theorem HB{f:Nat->Nat->Nat}{i:Nat}{p q:PE}{a b:Nat}(h:At σ i (dZ f))(hp:ev U p σ=some (pn a))(hq:ev U q σ=some (pn b))(ha:a<5)(hb:b<5):ev U (.idx (.idx (.var i) p) q) σ=some (pn (f a b)):=by
 refine wH (l:=(Ae 5).map fun b=>pn (f a b)) (wH (zA h) hp ?_ (by simp[ag])) hq ?_ (by simp[ag])
 ·rw[Ay,Ck ha];rfl
 ·rw[Ay,Ck hb];rfl
theorem zVz{f:Nat->Nat->Nat}{i:Nat}{p q e:PE}{a b k:Nat}(h:At σ i (dZ f))(hp:ev U p σ=some (pn a))(hq:ev U q σ=some (pn b))(he:ev U e σ=some (pn k))(ha:a<5)(hb:b<5):
  den U (.fv i p q e) ⟨σ,β⟩=some (⟨σ.set i (some (dZ fun x y=>if x=a/\y=b then k else f x y)),β⟩, .next):=by
 have e1:jI ⟨σ,β⟩ i=some ((Ae 5).map fun a=> .list ((Ae 5).map fun b=>pn (f a b))):=wb h
 refine(?_:(ev U e σ).bind _=_)
 (refine zZ he ?_;refine zZ e1 ?_;refine zZ hp ?_;refine zZ hq ?_)
 have hg:((Ae 5).map fun a=>PV.list ((Ae 5).map fun b=>pn (f a b)))[((a:Nat):Int).toNat]?=some (.list ((Ae 5).map fun b=>pn (f a b))):=by
  rw[G0,Ay,Ck ha];rfl
 refine(?_:((((Ae 5).map fun a=>PV.list ((Ae 5).map fun b=>pn (f a b)))[((a:Nat):Int).toNat]?).bind PV.dr).bind _=_)
 rw[hg]
 show(if _ then _ else _)=_
 rw[if_pos ?_]
 ·refine(?_:some ((⟨σ,β⟩:Sg).set i _,Fl.next)=_)
  unfold Sg.set
  congr 3
  congr 2
  congr 1
  apply Gz
  intro x
  rw[G0,G0]
  by_cases hx:x<5
  ·rw[Ay,Ck hx,D9]
   by_cases uB:a=x
   ·subst uB
    rw[Ct (by simp;assumption)]
    congr 2
    apply Gz
    intro y
    by_cases hy:y<5
    ·rw[Ay,Ck hy,D9]
     by_cases O9:b=y
     ·subst O9
      rw[Ct (by simp;assumption)]
      dsimp only
      rw[if_pos ⟨rfl,rfl⟩]
     ·rw[A7 O9,Ay,Ck hy,D9]
      dsimp only
      rw[if_neg (fun q=>O9 q.2.symm)]
    ·rw[Eb (by simp;exact Bw ‹_›),Eb (by simp;exact Bw ‹_›)]
   ·rw[A7 uB,Ay,Ck hx,D9]
    congr 2
    refine Cj fun y _=>?_
    dsimp only
    rw[if_neg (fun q=>uB q.1.symm)]
  ·rw[Eb (by simp;exact Bw ‹_›),Eb (by simp;exact Bw ‹_›)]
 ·have rU:((Ae 5).map fun b=>pn (f a b)).all PV.bo=true:=by rw[Kj,Al];intro x _;rfl
  rw[rU]
  simp only[Az,Gx,Jz,Ao,decide_eq_true_eq]
  exact aZ ⟨⟨⟨⟨⟨rfl,by exact Dt _⟩,by exact yB⟩,by exact Dq _ _⟩,by exact Dt _⟩,by exact yB⟩ (by exact Dq _ _)
end
theorem VE{Inv:Nat->Sg->Prop}{i n:Nat}{f:Den}(step:∀k g,k<n->Inv k g->∃g',f (g.set i (pn k))=some (g', .next)/\Inv (k+1) g'):∀(m k:Nat) (g:Sg),k+m=n->Inv k g->∃g',wN [i] f ((C5 k m).map fun k=> [pn k]) g=some (g', .next)/\Inv n g'
 |0,k,g,hk,h=>⟨g,rfl,by rw[Mr]at hk;rw[<-hk];exact h⟩
 |m+1,k,g,hk,h=>by
  refine aD (step k g (by exact xS) h) fun g₁ e1 h1=>?_
  refine aD (VE step m (k+1) g₁ (by lia) h1) fun cj e2 h2=>?_
  refine i12 cj ?_ h2
  rw[G8,Bj]
  refine(?_:((f (g.set i (pn k))).bind _)=_)
  rw[e1];exact e2
theorem VF{Inv:Nat->Sg->Prop}{i n:Nat}{f:Den}{g:Sg}(h:Inv 0 g)(step:∀k g,k<n->Inv k g->∃g',f (g.set i (pn k))=some (g', .next)/\Inv (k+1) g'):∃g',wN [i] f ((Ae n).map fun k=> [pn k]) g=some (g', .next)/\Inv n g':=by
 rw[Dx]
 exact VE step n 0 g (C0 n) h
section
variable{U:Uc}{σ:List (Option PV)}{β:Option (Value×ak)}{xs:List Nat}{aB:Nat}{t:Nat×Nat×Nat}{w:Value}{K:List (Nat×PV)}
theorem tW{p:PV}:ev U (.lit p) σ=some p:=rfl
inductive Pa(U:Uc)(β:Option (Value×ak))(st:PS)(σ:List (Option PV))(xs:List Nat)(aB:Nat)(t:Nat×Nat×Nat)(w:Value)(K:List (Nat×PV)):Prop
 |mk (aC:List (Option PV)) (e:∀r,yN U (.cons st r) ⟨σ,β⟩=yN U r ⟨aC,β⟩) (F:FB aC xs aB t w) (k:Kn 37 aC K):Pa U β st σ xs aB t w K
theorem FB.asg(F:FB σ xs aB t w)(h:Kn 37 σ K){i:Nat}(hi:(i=1\/i=9\/i=14\/19<=i)/\i<37){e:PE}{p:PV}(he:ev U e σ=some p)(hf:fresh e p=true):Pa U β (.assign i e) σ xs aB t w ((i,p)::K):=
 ⟨_,fun _=>zK (zD he hf),F.set hi.1,h.set hi.2 p⟩
theorem FB.fv(F:FB σ xs aB t w)(h:Kn 37 σ K){f:Nat->Nat->Nat}{p q e:PE}{a b k:Nat}(hk:K.lookup 20=some (dZ f))(hp:ev U p σ=some (pn a))(hq:ev U q σ=some (pn b))(he:ev U e σ=some (pn k))(ha:a<5)(hb:b<5):
  Pa U β (.fv 20 p q e) σ xs aB t w ((20,dZ fun x y=>if x=a/\y=b then k else f x y)::K):=
 ⟨_,fun _=>zK (zVz (h.get 20 _ hk) hp hq he ha hb),F.set (by decide),h.set (by decide) _⟩
theorem VG{e k:PE}{d v o:Nat}(he:ev U e σ=some (.str (bI t d v)))(hk:ev U k σ=some (pn o))(ho:o<2)(h4:(bH t v).length=4)(hd:d<=100):ev U (.bS e (.yes (.bin .Mult (.neg (.lit (.int 4))) k)) .no .no) σ=some (.str (if o=1 then bH t v else bI t d v)):=by
 have hl:(bI t d v).length=d+4:=by unfold bI;rw[Ax,Bq,h4]
 have hm:ev U (.bin .Mult (.neg (.lit (.int 4))) k) σ=some (.int (-4*(o:Int))):=by
  refine(?_:(ev U (.neg (.lit (.int 4))) σ).bind _=_)
  (refine zZ (show ev U (.neg (.lit (.int 4))) σ=some (.int (-4))from rfl) ?_;refine zZ hk ?_)
  exact U8 (by decide) (by exact B3.mpr ⟨decide_eq_true (by exact yC),decide_eq_true (by exact yB)⟩)
 refine(?_:(ev U e σ).bind _=_)
 refine zZ he ?_
 refine(?_:((ev U (.bin .Mult (.neg (.lit (.int 4))) k) σ).bind _).bind _=_)
 rw[hm,Au]
 refine(?_:(if(bI t d v).length<=ag then some (PV.str (((bI t d v).drop (Cr (some (-4*(o:Int))) (bI t d v).length)).take ((bI t d v).length-Cr (some (-4*(o:Int))) (bI t d v).length)))else none)=_)
 refine wI (by rw[hl];exact zP) ?_
 match o,ho with
 |0,_=>
  have:Cr (some (-4*((0:Nat):Int))) (bI t d v).length=0:=by
   unfold Cr;refine ea (by decide) ?_;simp
  rw[this,Nat.sub_zero,C3,Ib]
  rfl
 |1,_=>
  have:Cr (some (-4*((1:Nat):Int))) (bI t d v).length=d:=by
   unfold Cr;(refine wI (by decide) ?_;rw[hl]);lia
  rw[this,hl,if_pos rfl]
  unfold bI
  rw[It (by simp),Gn (by simp),Iz,Ew (by lia)]
theorem zVx{s:List Nat}{a w:Nat}{out:Bool}(h:BC s a w out=true):jB (Ai a 40++s++Ai (w-a) 41)=true/\(out=false->jB (Ai (a-1) 40++s++Ai (w-a-1) 41)=false):=by
 unfold BC at h
 split at h
 ·next e=>
  refine aZ e (fun ho=>?_)
  subst ho
  simpa using h
 ·exact ft h
theorem zTv(t:Nat×Nat×Nat)(aB:Nat):∀x∈gO t aB,x.length<=101:=by
 intro x hx
 unfold gO lI at hx
 refine aD (D6.mp hx) fun k _ bL=>?_
 subst bL
 have:=UP aB
 split
 ·rw[Ax];refine(?_:1+_<=101);exact zQ
 ·simp
theorem VH(t:Nat×Nat×Nat)(aB:Nat)(u v:Nat):(tU t (g9.getD (aB%9) []) (aB/9%8) u v).length<=808:=by
 unfold tU
 rw[I6]
 have h:=u6 B1 101 ((((gO t aB).drop ((yZ t).sp.getD u 0))).take ((yZ t).sp.getD v 0-(yZ t).sp.getD u 0)) fun x hx=>zTv t aB x (Iq (Ir hx))
 have h2:((((gO t aB).drop ((yZ t).sp.getD u 0))).take ((yZ t).sp.getD v 0-(yZ t).sp.getD u 0)).length<=8:=by
  have:(gO t aB).length=8:=by unfold gO lI;simp
  rw[Ca,Bs];lia
 have h3:=Lo 101 h2
 exact Ah h (Ah h3 (by decide))
theorem zP7(N:lJ t)(F:FB σ xs aB t w){p q:PE}{u v:Nat}(hp:ev U p σ=some (pn u))(hq:ev U q σ=some (pn v))(hu:u<5)(hv:v<5)(hsp:(yZ t).sp.getD u 0<=(yZ t).sp.getD v 0/\(yZ t).sp.getD v 0<=8):
  ev U (.me 0 (.lit (.str [])) (.cons (.bS (.var 11) (.yes (.idx (.var 5) p)) (.yes (.idx (.var 5) q)) .no) .nil)) σ=some (.str (tU t (g9.getD (aB%9) []) (aB/9%8) u v)):=by
 have bX:(gO t aB).length=8:=by unfold gO lI;simp
 have sp:∀{e:PE} {x:Nat},ev U e σ=some (pn x)->x<5->ev U (.idx (.var 5) e) σ=some (pn ((yZ t).sp.getD x 0)):=fun he hx=>wH (zA F.fa.sp) he (kU pn 0 (by rw[N.sp];exact hx)) (by simp[N.sp,ag])
 refine u5 (l:=((gO t aB).drop ((yZ t).sp.getD u 0)).take ((yZ t).sp.getD v 0-(yZ t).sp.getD u 0)) ?_ ?_
 ·refine(?_:(ev U (.var 11) σ).bind _=_)
  refine zZ (zA F.fa.pc) ?_
  refine(?_:((ev U (.idx (.var 5) p) σ).bind _).bind _=_)
  rw[sp hp hu,Au]
  refine(?_:Option.bind (some (some (((yZ t).sp.getD u 0:Nat):Int))) (fun l=>((ev U (.idx (.var 5) q) σ).bind _).bind _)=_)
  rw[Au,sp hq hv,Au]
  refine(?_:(if((gO t aB).map PV.str).length<=ag then some (PV.list ((((gO t aB).map PV.str).drop (Cr (some (((yZ t).sp.getD u 0:Nat):Int)) ((gO t aB).map PV.str).length)).take (Gu (some (((yZ t).sp.getD v 0:Nat):Int)) ((gO t aB).map PV.str).length-Cr (some (((yZ t).sp.getD u 0:Nat):Int)) ((gO t aB).map PV.str).length)))else none)=_)
  rw[Az,bX,if_pos (by decide),OU,UT,En (by exact And.right ‹_›),En (by lia),<-List.map_drop,<-List.map_take]
 ·have h:=VH t aB u v
  unfold tU at h
  rw[I6]at h
  exact Ah h (by decide)
theorem yD7(N:lJ t)(M:k8 t)(F:FB σ xs aB t w){i j u v:Nat}(hi:At σ i (pn u))(hj:At σ j (pn v))(hu:u<5)(hv:v<5):
  ev U (.bi 0 (.cons (.comp (.var 37) (.cv (.lit (.int 4))) (.cons (.cmp .NotEq (.idx (.idx (.var 6) (.var i)) (.var 37)) (.idx (.idx (.var 6) (.var j)) (.var 37))) .nil)) .nil)) σ=some (pn (bh t u v)):=by
 have e1:=Uy (U:=U) (σ:=σ) (elt:= .var 37) (src:= .cv (.lit (.int 4))) (ts:= .cons (.cmp .NotEq (.idx (.idx (.var 6) (.var i)) (.var 37)) (.idx (.idx (.var 6) (.var j)) (.var 37))) .nil) (l:=Ae 4) (it:=fun i=> [pn i]) (b:=fun j=>(bH t u).getD j 0 !=(bH t v).getD j 0) (g:=pn)
  (jS (n:=4) rfl (by decide)) (by decide) (fun k hk=>?_) (fun k hk _=>⟨zA (g8 F.fa.len),zX⟩)
 ·have hle:((Ae 4).filter fun j=>(bH t u).getD j 0 !=(bH t v).getD j 0).length<=4:=Ah (Kz ..) (by decide)
  rw[UA e1 (by rw[Az];exact zB),Az];rfl
 ·have hk:k<4:=Bg.mp hk
  have dW:ev U (.var 37) (σ++Bv some [pn k])=some (pn k):=zA (g8 F.fa.len)
  have nm:∀{i x:Nat},At σ i (pn x)->x<5->ev U (.idx (.idx (.var 6) (.var i)) (.var 37)) (σ++Bv some [pn k])=some (.str [(bH t x).getD k 0]):=fun {i x} hi hx=>by
   refine lG (l:=bH t x) (wH (zA F.fa.nm.app) (zA hi.app) (kU PV.str [] (by rw[N.nm];exact hx)) (by simp[N.nm,ag])) dW (tP 0 (by rw[M.len x hx];exact hk)) (by rw[M.len x hx];decide)
  exact Vy (zP0 (nm hi hu) (nm hj hv))
theorem yA1{u v:Nat}(hu:u<v)(hv:v<5):(u+v)/7<=1:=Vw v hv u hu
theorem VI(M:k8 t){v d o:Nat}(hv:v<5)(hd:d<=4):(if o=1 then bH t v else bI t d v).length<=8/\small (if o=1 then bH t v else bI t d v):=by
 have h1:small (bH t v):=fun c hc=>(Vq (M.kW v hv c hc)).2
 have h3:=M.len v hv
 by_cases h:o=1
 ·rw[if_pos h];exact⟨by rw[h3];decide,h1⟩
 ·rw[if_neg h]
  refine aZ (by rw[GV M hv];exact Eh hd 4) (fun c hc=>(A9.mp hc).elim (fun hc=>?_) (h1 c))
  rw[Cf hc];decide
theorem yDg{a:List Nat}{k:Nat}(h:a.length<=8/\small a)(hk:k<=1):(a++Ai k 46).length<=20/\small (a++Ai k 46):=
 ⟨by rw[Ax,Bq];exact Ah (Eg h.1 hk) (by decide),fun c hc=>(A9.mp hc).elim (h.2 c) fun hc=>by rw[Cf hc];decide⟩
theorem yE3{a:List Nat}{k:Nat}(h:a.length<=8/\small a)(hk:k<=1):(Ai k 46++a).length<=20/\small (Ai k 46++a):=
 ⟨by rw[Ax,Bq];exact Ah (Eg hk h.1) (by decide),fun c hc=>(A9.mp hc).elim (fun hc=>by rw[Cf hc];decide) (h.2 c)⟩
theorem VJ{a b:List Nat}(h:(a++b).length<=20):a.length+b.length<=ag:=by
 rw[<-Ax];exact Ah h (by decide)
theorem yEm{a b:Nat}(ha:a<=20)(hb:b<=20):(a-b)+(b-a)<=16777216:=Ah (Eg (Gk a b) (Gk b a)) (Ah (Eg ha hb) (by decide))
theorem VK{a b u v:Nat}(hu:u<=v):(max a b=v/\min a b=u)↔(a=v/\b=u)\/(a=u/\b=v):=by
 rcases Nat.le_total a b with h|h
 ·rw[Nat.max_eq_right h,En h]
  exact⟨fun⟨x,y⟩=> .inr ⟨y,x⟩,fun q=>q.elim (fun⟨x,y⟩=>⟨y.trans (Fh hu (x▸y▸h)),x.trans (Fh (x▸y▸h) hu)⟩) fun⟨x,y⟩=>⟨y,x⟩⟩
 ·rw[Nat.max_eq_left h,Nat.min_eq_right h]
  exact⟨.inl,fun q=>q.elim id fun⟨x,y⟩=>⟨x.trans (Fh hu (x▸y▸h)),y.trans (Fh (x▸y▸h) hu)⟩⟩
theorem VL(t:Nat×Nat×Nat)(v u a b:Nat):fe t v (u+1) a b=if max a b=v/\min a b=u then bh t a b else fe t v u a b:=by
 unfold fe
 by_cases h:max a b=v/\min a b=u
 ·rw[if_pos h,if_pos (.inr ⟨h.1,D5 (Fi h.2)⟩)]
 ·rw[if_neg h]
  have:(max a b<v\/(max a b=v/\min a b<u+1))↔(max a b<v\/(max a b=v/\min a b<u)):=
   or_congr_right ⟨fun q=>⟨q.1,Nat.lt_of_le_of_ne (Ft q.2) fun e=>h ⟨q.1,e⟩⟩,fun q=>⟨q.1,Hy q.2⟩⟩
  simp only[this]
theorem zV0{u v:Nat}(P:GX t u v)(hu:u<v)(a b:Nat):(if a=v/\b=u then bh t u v else if a=u/\b=v then bh t u v else fe t v u a b)=fe t v (u+1) a b:=by
 rw[VL]
 have q:=VK (a:=a) (b:=b) (Dc hu)
 by_cases h1:a=v/\b=u
 ·rw[if_pos h1,if_pos (q.mpr (.inl h1)),h1.1,h1.2,P.sym]
 ·refine ea h1 ?_
  by_cases h2:a=u/\b=v
  ·rw[if_pos h2,if_pos (q.mpr (.inr h2)),h2.1,h2.2]
  ·rw[if_neg h2,if_neg fun h=>(q.mp h).elim h1 h2]
theorem yGt{u v:Nat}(hu:u<v):fe t v (u+1) 0 u=bh t 0 u:=by exact wI (.inl (by rw[Nat.zero_max];exact hu)) rfl
theorem yF4{u v:Nat}:fe t v (u+1) 0 v=bh t 0 v:=by exact wI (.inr ⟨Nat.zero_max v,by rw[Nat.zero_min];exact Et u⟩) rfl
theorem VM(qY:∀s:List Nat,s.length<=900->U 3 [.str s]=some (.bool (jB s))){s:List Nat}(gY:s.length<=808)(hs:ev U (.var 29) σ=some (.str s)){x y:PE}{i j:Int}(hx:ev U x σ=some (.int i))(hy:ev U y σ=some (.int j))(hi: -10<=i/\i<=10)(hj: -10<=j/\j<=10):
  ev U (.uc 3 (.cons (.bin .Add (.bin .Add (.bin .Mult (.lit (.str [40])) x) (.var 29)) (.bin .Mult (.lit (.str [41])) y)) .nil)) σ=some (.bool (jB (Ai i.toNat 40++s++Ai j.toNat 41))):=by
 have jH:i.toNat<=10:=by lia
 have yc:j.toNat<=10:=by lia
 have l1:(Ai i.toNat 40++s).length<=818:=by rw[Ax,Bq];exact Eg jH gY
 have l2:(Ai i.toNat 40++s++Ai j.toNat 41).length<=828:=by rw[Ax,Bq];exact Eg l1 yc
 have rg:∀{k:Int},-10<=k/\k<=10->-1000<=k/\k<=1000:=fun h=>⟨Dd (by decide) h.1,Dd h.2 (by decide)⟩
 exact yDf (jT (jT (VC hx (rg hi)) hs (by rw[<-Ax];exact Ah l1 (by decide))) (VC hy (rg hj)) (by rw[<-Ax];exact Ah l2 (by decide))) (qY _ (Ah l2 (by decide)))
theorem VN{n:Nat}(h:n<=10): -10<=(n:Int)/\(n:Int)<=10:=by lia
theorem zXo:∀h:Nat,h<11->∀a:Nat,a<h+1->(-10<=(a:Int)-1/\(a:Int)-1<=10)/\(-10<=(h:Int)-a-1/\(h:Int)-a-1<=10)/\((a:Int)-1).toNat=a-1/\((h:Int)-a-1).toNat=h-a-1:=by decide+kernel
theorem HC{a h:Nat}(ha:a<=h)(hh:h<=10):(-10<=(a:Int)-1/\(a:Int)-1<=10)/\(-10<=(h:Int)-a-1/\(h:Int)-a-1<=10)/\((a:Int)-1).toNat=a-1/\((h:Int)-a-1).toNat=h-a-1:=zXo h (D5 hh) a (D5 ha)
inductive VO(U:Uc)(β:Option (Value×ak))(b:dD)(σ:List (Option PV))(xs:List Nat)(aB:Nat)(t:Nat×Nat×Nat)(w:Value)(u v:Nat)(D:PV):Prop
 |mk (aC:List (Option PV)) (e:yN U b ⟨σ,β⟩=some (⟨aC,β⟩, .next)) (F:FB aC xs aB t w) (a:At aC 14 (pn v)) (m:At aC 20 (dZ (fe t v (u+1)))) (d:At aC 19 D):VO U β b σ xs aB t w u v D
theorem zWm(vp:∀(a b:List Nat) (c:Nat),small a->a.length<=40->small b->b.length<=40->U 1 [.str a, .str b,pn c]=some (pn (lM a b c)))(qY:∀s:List Nat,s.length<=900->U 3 [.str s]=some (.bool (jB s)))
  (ht:t∈eQ) {u v:Nat} (hu:u<v) (hv:v<5) (F:FB σ xs aB t w) {D:PV} (K0:Kn 37 σ [(21,pn u),(14,pn v),(20,dZ (fe t v u)),(19,D)]):
  VO U β (gw (AL (gw tE))) σ xs aB t w u v D:=by
 have N:=lK ht
 have M:=BF ht
 have P:=yEs ht hu hv
 have iP:u<5:=Jc hu hv
 have h7:=yA1 hu hv
 have VP:=BE (lO xs u)
 have VQ:=BE (lO xs v)
 have O8:=P.small
 refine ao (zZ6 P M hu hv xs) fun hl zw=>?_
 have la:(k6 t (dF xs u) u v).length<=20/\small (k6 t (dF xs u) u v):=yDg (VI M iP VP) h7
 have lb:(k7 t (dF xs v) u v).length<=20/\small (k7 t (dF xs v) u v):=yE3 (VI M hv VQ) h7
 obtain⟨cJ,e1,F1,K1⟩:=F.asg (U:=U) (β:=β) K0 (i:=22) (by decide) (qP (n:=2) (iX (zA (K0.get 21 _ rfl)) (zA (K0.get 14 _ rfl))) (tW (p:=pn 2)) (by decide)) zX
 obtain⟨bj,e2,F2,K2⟩:=F1.asg (U:=U) (β:=β) K1 (i:=23) (by decide) (tN (n:=7) (iX (zA (K1.get 21 _ rfl)) (zA (K1.get 14 _ rfl))) (tW (p:=pn 7)) (by decide)) zX
 have w1:ev U (.bin .Add (.bS (.idx (.var 18) (.me 3 (.var 7) (.cons (.var 21) .nil))) (.yes (.bin .Mult (.neg (.lit (.int 4))) (.var 22))) .no .no) (.bin .Mult (.lit (.str [46])) (.var 23))) bj=some (.str (k6 t (dF xs u) u v)):=
  jT (VG (Vt M N F2 (zA (K2.get 21 _ rfl)) iP) (zA (K2.get 22 _ rfl)) (Cw _ (by decide)) (M.len u iP) (Ah VP (by decide))) (AP (zA (K2.get 23 _ rfl)) (Ah h7 (by decide))) (VJ la.1)
 obtain⟨aX,e3,F3,K3⟩:=F2.asg (U:=U) (β:=β) K2 (i:=9) (by decide) w1 yX
 have w2:ev U (.bin .Add (.bin .Mult (.lit (.str [46])) (.var 23)) (.bS (.idx (.var 18) (.me 3 (.var 7) (.cons (.var 14) .nil))) (.yes (.bin .Mult (.neg (.lit (.int 4))) (.var 22))) .no .no)) aX=some (.str (k7 t (dF xs v) u v)):=
  jT (AP (zA (K3.get 23 _ rfl)) (Ah h7 (by decide))) (VG (Vt M N F3 (zA (K3.get 14 _ rfl)) hv) (zA (K3.get 22 _ rfl)) (Cw _ (by decide)) (M.len v hv) (Ah VQ (by decide))) (VJ lb.1)
 obtain⟨dH,e4,F4,K4⟩:=F3.asg (U:=U) (β:=β) K3 (i:=24) (by decide) w2 yX
 generalize k6 t (dF xs u) u v=a at hl zw K3 K4 la
 generalize k7 t (dF xs v) u v=b at hl zw K4 lb
 have sa:a.length<=ag:=Ah la.1 (by decide)
 have sb:b.length<=ag:=Ah lb.1 (by decide)
 have a4:a.length<=40:=Ah la.1 (by decide)
 have b4:b.length<=40:=Ah lb.1 (by decide)
 have w3:ev U (.bin .Add (.bin .Mult (.lit (.int 2)) (.bi 4 (.cons (.bin .Sub (.bi 0 (.cons (.var 9) .nil)) (.bi 0 (.cons (.var 24) .nil))) .nil))) (.bin .Mult (.lit (.int 4)) (.var 23))) dH=some (pn (pJ a b ((u+v)/7))):=
  iX (qS (m:=2) rfl (yC0 (GZ (nO (zA (K4.get 9 _ rfl)) sa) (nO (zA (K4.get 24 _ rfl)) sb))) (by decide) (yEm la.1 lb.1)) (qS (m:=4) rfl (zA (K4.get 23 _ rfl)) (by decide) (Ah h7 (by decide)))
 obtain⟨iY,e5,F5,K5⟩:=F4.asg (U:=U) (β:=β) K4 (i:=25) (by decide) w3 zX
 generalize pJ a b ((u+v)/7)=m at hl K5
 have kJ:=P.pos
 have w4:=vo (iX (zA (U:=U) (K5.get 25 _ rfl)) (yD7 N M F5 (K5.get 21 _ rfl) (K5.get 14 _ rfl) iP hv)) (qP (n:=2) (iX (zA (K5.get 14 _ rfl)) (zA F5.fa.t)) (tW (p:=pn 2)) (by decide)) (Ah (Ft (Cw _ (by decide))) (Ah kJ (Dq _ _)))
 obtain⟨Pb,e6,F6,K6⟩:=F5.asg (U:=U) (β:=β) K5 (i:=26) (by decide) w4 zX
 have BH:=yBw hl kJ ((v+aB)%2) (Cw _ (by decide))
 have w5:ev U (.bin .Sub (.uc 1 (.cons (.var 9) (.cons (.var 24) (.cons (.var 26) .nil)))) (.var 25)) Pb=some (pn (bh t u v)):=by
  rw[vo (VA (zA (K6.get 9 _ rfl)) (zA (K6.get 24 _ rfl)) (zA (K6.get 26 _ rfl)) (vp _ _ _ la.2 a4 lb.2 b4)) (zA (K6.get 25 _ rfl)) (by rw[BH];exact Du ..),BH,J7]
 obtain⟨σ7,e7,F7,K7⟩:=F6.asg (U:=U) (β:=β) K6 (i:=27) (by decide) w5 zX
 have t8:aU U (.and (.cons (.cmp .Eq (.var 23) (.lit (.int 1))) (.cons (.cmp .NotEq (.uc 1 (.cons (.var 9) (.cons (.var 24) (.cons (.lit (.int 1)) .nil)))) (.lit (.int 2))) .nil))) σ7=some false:=by
  rw[Vz (b2:=false) (AK (n:=1) (zA (K7.get 23 _ rfl)) rfl) fun h=>?_]
  ·simp
  ·have h1:(u+v)/7=1:=by exact eq_of_beq h
   refine(yAe (n:=2) (VA (zA (K7.get 9 _ rfl)) (zA (K7.get 24 _ rfl)) (z:=pn 1) rfl (vp _ _ _ la.2 a4 lb.2 b4)) rfl).trans ?_
   rw[zw h1];rfl
 obtain⟨σ8,e8,F8,K8⟩:=F7.fv (U:=U) (β:=β) K7 rfl (zA (K7.get 21 _ rfl)) (zA (K7.get 14 _ rfl)) (zA (K7.get 27 _ rfl)) iP hv
 obtain⟨VS,e9,F9,K9⟩:=F8.fv (U:=U) (β:=β) K8 rfl (zA (K8.get 14 _ rfl)) (zA (K8.get 21 _ rfl)) (zA (K8.get 27 _ rfl)) hv iP
 have BI:(dZ fun x y=>if x=v/\y=u then bh t u v else if x=u/\y=v then bh t u v else fe t v u x y)=dZ (fe t v (u+1)):=HA fun a b _ _=>zV0 P hu a b
 have m9:At VS 20 (dZ (fe t v (u+1))):=by rw[<-BI];exact K9.get 20 _ rfl
 have w6:ev U (.bin .FloorDiv (.bin .Sub (.bin .Add (.var 27) (.idx (.idx (.var 20) (.lit (.int 0))) (.var 21))) (.idx (.idx (.var 20) (.lit (.int 0))) (.var 14))) (.lit (.int 2))) VS=some (pn (qV t u v)):=by
  have g1:=HB (U:=U) (p:= .lit (.int 0)) (a:=0) m9 rfl (zA (K9.get 21 _ rfl)) (by decide) iP
  have g2:=HB (U:=U) (p:= .lit (.int 0)) (a:=0) m9 rfl (zA (K9.get 14 _ rfl)) (by decide) hv
  rw[yGt hu]at g1
  rw[yF4]at g2
  exact tN (n:=2) (vo (iX (zA (K9.get 27 _ rfl)) g1) g2 P.tri) rfl (by decide)
 obtain⟨aag,nN,VT,HD⟩:=F9.asg (U:=U) (β:=β) K9 (i:=28) (by decide) w6 zX
 have w7:=zP7 (U:=U) N VT (zA (HD.get 21 _ rfl)) (zA (HD.get 14 _ rfl)) iP hv P.sp
 obtain⟨tX,AW,F11,k9⟩:=VT.asg (U:=U) (β:=β) HD (i:=29) (by decide) w7 yX
 refine ao (zVx (yDx N P aB)) fun c1 c2=>?_
 have gY:=VH t aB u v
 have tY:=P.ah
 have hle:bh t u v<=10:=Ah P.le (by decide)
 generalize tU t (g9.getD (aB%9) []) (aB/9%8) u v=s at c1 c2 gY k9
 generalize qV t u v=ah at c1 c2 tY HD k9
 have VU:=zA (U:=U) (k9.get 29 _ rfl)
 have t13:aU U (.cmp .IsNot (.uc 3 (.cons (.bin .Add (.bin .Add (.bin .Mult (.lit (.str [40])) (.var 28)) (.var 29)) (.bin .Mult (.lit (.str [41])) (.bin .Sub (.var 27) (.var 28)))) .nil)) (.lit (.bool true))) tX=some false:=by
  have h:=VM qY gY VU (zA (k9.get 28 _ rfl)) (vo (zA (k9.get 27 _ rfl)) (zA (k9.get 28 _ rfl)) tY) (VN (Ah tY hle)) (VN (Ah (Gk ..) hle))
  rw[G0,G0,c1]at h
  exact VB h (tW (p:= .bool true))
 have t14:aU U (.and (.cons (.cmp .Gt (.var 21) (.lit (.int 0))) (.cons (.cmp .IsNot (.uc 3 (.cons (.bin .Add (.bin .Add (.bin .Mult (.lit (.str [40])) (.bin .Sub (.var 28) (.lit (.int 1)))) (.var 29)) (.bin .Mult (.lit (.str [41])) (.bin .Sub (.bin .Sub (.var 27) (.var 28)) (.lit (.int 1))))) .nil)) (.lit (.bool false))) .nil))) tX=some false:=by
  rw[Vz (b2:=false) (tO (n:=0) (zA (k9.get 21 _ rfl)) rfl) fun h=>?_]
  ·simp
  ·have h0:0<u:=by exact of_decide_eq_true h
   have h:=VM (x:= .bin .Sub (.var 28) (.lit (.int 1))) (y:= .bin .Sub (.bin .Sub (.var 27) (.var 28)) (.lit (.int 1))) qY gY VU (GZ (zA (k9.get 28 _ rfl)) rfl) (GZ (GZ (zA (k9.get 27 _ rfl)) (zA (k9.get 28 _ rfl))) rfl) (HC tY hle).1 (HC tY hle).2.1
   rw[(HC tY hle).2.2.1,(HC tY hle).2.2.2,c2 (beq_false_of_ne (G9 h0))]at h
   exact VB h (tW (p:= .bool false))
 refine⟨tX,?_,F11,k9.get 14 _ rfl,?_,k9.get 19 _ rfl⟩
 ·refine(e1 _).trans ((e2 _).trans ((e3 _).trans ((e4 _).trans ((e5 _).trans ((e6 _).trans ((e7 _).trans ((O7 t8).trans ((e8 _).trans ((e9 _).trans ((nN _).trans ((AW _).trans ((O7 t13).trans ((O7 t14).trans ?_)))))))))))))
  rfl
 ·rw[<-BI];exact k9.get 20 _ rfl
theorem Kn.nil{n:Nat}(h:σ.length=n):Kn n σ []:=⟨h,fun _ _ e=>nn e⟩
theorem Kn.cons{n i:Nat}{p:PV}(h:At σ i p)(k:Kn n σ K):Kn n σ ((i,p)::K):=⟨k.len,fun j q e=>by
 rw[A8]at e
 by_cases hj:(j==i)=true
 ·rw[hj]at e
  obtain rfl:=Aa e
  rw[eq_of_beq hj];exact h
 ·rw[Bool.eq_false_iff.mpr hj]at e
  exact k.get j q e⟩
theorem yBm(t:Nat×Nat×Nat)(v:Nat):dZ (fe t (v+1) 0)=dZ (fe t v v):=HA fun a b _ _=>by
 have zero:bh t v v=0:=by unfold bh qT;rw[List.filter_eq_nil_iff.mpr fun j _=>by simp];rfl
 have e:fe t v (v+1) a b=fe t (v+1) 0 a b:=by
  unfold fe
  have:(max a b<v\/(max a b=v/\min a b<v+1))↔(max a b<v+1\/(max a b=v+1/\min a b<0)):=
   ⟨fun q=> .inl (q.elim Hy fun q=>D5 (Fi q.1)),fun q=>q.elim (fun q=>(Jh (Ft q)).imp id fun e=>⟨e,D5 (e▸Ah (Gp ..) (Nat.le_max_left ..))⟩) fun q=>absurd q.2 (Fe _)⟩
  simp only[this]
 rw[<-e,VL]
 by_cases h:max a b=v/\min a b=v
 ·have:=(VK (B6 v)).mp h
  have h4:a=v/\b=v:=this.elim id id
  (refine wI h ?_;rw[h4.1,h4.2,zero])
  unfold fe
  rw[if_neg fun q=>q.elim (fun q=>Hg v (by rw[Nat.max_self]at q;exact q)) fun q=>Hg v (by rw[Mu]at q;exact q.2)]
 ·exact ea h rfl
theorem yAw(vp:∀(a b:List Nat) (c:Nat),small a->a.length<=40->small b->b.length<=40->U 1 [.str a, .str b,pn c]=some (pn (lM a b c)))(qY:∀s:List Nat,s.length<=900->U 3 [.str s]=some (.bool (jB s)))
  (ht:t∈eQ) (F:FB σ xs aB t w) (qZ:At σ 20 (dZ fun _ _=>0)) {D:PV} (q0:At σ 19 D):∃aC,den U tE ⟨σ,β⟩=some (⟨aC,β⟩, .next)/\FB aC xs aB t w/\At aC 20 (dZ (bh t))/\At aC 19 D:=by
 obtain⟨g',e,⟨aC,rfl,F',h',d'⟩⟩:=VF (i:=14) (n:=5) (f:=yN U (gw tE)) (Inv:=fun v g=>∃σ,g=⟨σ,β⟩/\FB σ xs aB t w/\At σ 20 (dZ (fe t v 0))/\At σ 19 D) (g:=⟨σ,β⟩) ⟨σ,rfl,F,by
   rw[show dZ (fe t 0 0)=dZ fun _ _=>0 from HA fun a b _ _=>by unfold fe;rw[if_neg (by lia)]];exact qZ,q0⟩ fun v g hv ⟨σ,hg,F,qZ,q0⟩=>by
  subst hg
  have Fv:=F.set (i:=14) (p:=pn v) (by decide)
  obtain⟨cj,e2,⟨et,rfl,kE,AQ,h2,d2⟩⟩:=VF (i:=21) (n:=v) (f:=yN U (gw (AL (gw tE)))) (Inv:=fun u g=>∃σ,g=⟨σ,β⟩/\FB σ xs aB t w/\At σ 14 (pn v)/\At σ 20 (dZ (fe t v u))/\At σ 19 D) (g:=⟨σ.set 14 (some (pn v)),β⟩) ⟨_,rfl,Fv,zG (by rw[F.fa.len];decide),qZ.set (by decide),q0.set (by decide)⟩ fun u g hu ⟨σ,hg,F,AQ,qZ,q0⟩=>by
   subst hg
   obtain⟨aC,e',F',h1,h2,d2⟩:=zWm (U:=U) (β:=β) (σ:=σ.set 21 (some (pn u))) vp qY ht hu hv (F.set (by decide)) (.cons (zG (by rw[F.fa.len];decide)) (.cons (AQ.set (by decide)) (.cons (qZ.set (by decide)) (.cons (q0.set (by decide)) (.nil (by rw[Bd];exact F.fa.len))))))
   exact⟨_,e',aC,rfl,F',h1,h2,d2⟩
  refine⟨⟨et,β⟩,?_,et,rfl,kE,?_,d2⟩
  ·refine(?_:yN U (.cons (AL (gw tE)) .nil) ⟨σ.set 14 (some (pn v)),β⟩=_)
   refine eZ ?_
   refine(AO (zA (zG (by rw[F.fa.len];decide))) (by exact zC)).trans ?_
   exact e2
  ·rw[yBm]
   exact h2
 refine vC aC ((AO (n:=5) rfl (by decide)).trans e) F' ?_ d'
 rw[show dZ (bh t)=dZ (fe t 5 0)from HA fun a b ha hb=>by unfold fe;rw[if_pos (by lia)]]
 exact h'
end
noncomputable def yG5(t:Nat×Nat×Nat):Bool:=(Ae 5).all fun v=>(dp t).contains (bH t v)&&(dp t).idxOf (bH t v)==v
theorem yFy:eQ.all yG5=true:=by decide+kernel
theorem yBd{t:Nat×Nat×Nat}(ht:t∈eQ){v:Nat}(hv:v<5):(dp t).contains (bH t v)=true/\(dp t).idxOf (bH t v)=v:=by
 have:=Al.mp (Al.mp yFy t ht) v (Bg.mpr hv)
 simpa using this
theorem VV(a b:Nat):Jw a b=(a==b):=Bool.eq_iff_iff.mpr ⟨fun h=>by exact decide_eq_true (Ec h),fun h=>by rw[eq_of_beq h];exact Kc _⟩
noncomputable def cy(t:Nat×Nat×Nat)(q:Nat×Nat):List Nat:=bI t q.2 q.1
theorem zSk(a b:List Nat):qT a b=qT b a:=by
 unfold qT
 congr 1
 refine List.filter_congr fun j _=>?_
 exact bne_comm
theorem VW(f:Nat->List Nat):∀(n k i:Nat),i<n->eR ((C5 k n).map f) i=f (k+i)
 |0,_,_,h=>absurd h (Fe _)
 |n+1,k,0,_=>rfl
 |n+1,k,i+1,h=>by
  rw[G8,Bj]
  refine(?_:eR ((C5 (k+1) n).map f) i=_)
  rw[VW f n (k+1) i (by exact De ‹_›),show k+1+i=k+(i+1)from E9 k 1 i]
theorem Pc(f:Nat->Nat):∀(n k i:Nat),i<n->qW ((C5 k n).map f) i=f (k+i)
 |0,_,_,h=>absurd h (Fe _)
 |n+1,k,0,_=>rfl
 |n+1,k,i+1,h=>by
  rw[G8,Bj]
  refine(?_:qW ((C5 (k+1) n).map f) i=_)
  rw[Pc f n (k+1) i (by exact De ‹_›),show k+1+i=k+(i+1)from E9 k 1 i]
theorem VX{t:Nat×Nat×Nat}{v:Nat}(hv:v<5):eR (cX t) v=(Ae 5).map fun u=>bh t u v:=by
 unfold cX
 rw[Dx,VW _ 5 0 v hv,C0]
theorem yCa{t:Nat×Nat×Nat}{v u:Nat}(hv:v<5)(hu:u<5):qW (eR (cX t) v) u=bh t v u:=by
 rw[VX hv,Dx,Pc _ 5 0 u hu,C0]
 exact zSk _ _
section
variable{U U₃:Uc}{σ:List (Option PV)}{xs:List Nat}{aB:Nat}{t:Nat×Nat×Nat}{w:Value}
theorem VY{i d v:Nat}(hi:At σ i (.str (bI t d v)))(h4:(bH t v).length=4)(hd:d<=1000):ev U (.bS (.var i) (.yes (.neg (.lit (.int 4)))) .no .no) σ=some (.str (bH t v)):=by
 have hl:(bI t d v).length=d+4:=by unfold bI;rw[Ax,Bq,h4]
 refine(?_:(ev U (.var i) σ).bind _=_)
 refine zZ (zA hi) ?_
 refine(?_:(if(bI t d v).length<=ag then some (PV.str (((bI t d v).drop (Cr (some (-4)) (bI t d v).length)).take ((bI t d v).length-Cr (some (-4)) (bI t d v).length)))else none)=_)
 refine wI (by rw[hl];exact zP) ?_
 have:Cr (some (-4)) (bI t d v).length=d:=by
  unfold Cr;(refine wI (by decide) ?_;rw[hl]);lia
 rw[this,hl]
 unfold bI
 rw[It (by simp),Gn (by simp),Iz,Ew (by lia)]
theorem VZ(ht:t∈eQ)(F:FB σ xs aB t w){e:PE}{v:Nat}(he:ev U e σ=some (.str (bH t v)))(hv:v<5):ev U (.me 3 (.var 6) (.cons e .nil)) σ=some (pn v):=by
 have N:=lK ht
 refine ao (yBd ht hv) fun h1 h2=>?_
 refine(?_:(ev U (.var 6) σ).bind (fun x=>((ev U e σ).bind fun y=>(some []).map (y:: ·)).bind (nV 3 x))=_)
 (refine zZ (zA F.fa.nm) ?_;rw[he])
 refine(?_:(PV.strs ((dp t).map PV.str)).bind _=_)
 rw[OP,Au,h1,if_pos (by rw[N.nm,Gs];exact decide_eq_true (by decide)),h2]
theorem V0(M:k8 t){i d v:Nat}(hi:At σ i (.str (bI t d v)))(hv:v<5):ev U (.me 2 (.var i) (.cons (.lit (.str [46])) .nil)) σ=some (pn d):=by
 refine(?_:(ev U (.var i) σ).bind _=_)
 refine zZ (zA hi) ?_
 refine(?_:some (PV.int ((bI t d v).count 46:Nat))=_)
 rw[Vr M hv]
structure FP(σ:List (Option PV))(xs:List Nat)(aB:Nat)(t:Nat×Nat×Nat)(w:Value):Prop where
 fb:FB σ xs aB t w
 pM:At σ 19 (.list (((Ae 5).map (dF xs)).map pn))
 Pd:At σ 20 (dZ (bh t))
theorem FP.set(h:FP σ xs aB t w){i:Nat}{p:PV}(hi:i=9\/21<=i):FP (σ.set i (some p)) xs aB t w:=⟨h.fb.set (by lia),h.pM.set (by exact xG ‹_› rfl),h.Pd.set (by exact xG ‹_› rfl)⟩
theorem V1{ws:List Nat}{r:List (List Nat)}(ho:At σ 17 (.obj w))(hr:r.length<1000)(i:Nat):wQ i (pC (eO U₃) 17) ⟨σ,some (w,⟨[],6,ws::r⟩)⟩=some (⟨σ.set i (some (.str ws)),some (w,⟨[],6,r⟩)⟩, .next):=by
 refine(?_:((pC (eO U₃) 17 _).bind _)=_)
 unfold pC
 rw[GW ho,Au]
 rw[FX (zQe (U:=U₃) hr)];rfl
theorem V2{ws:List Nat}{r:List (List Nat)}{e:PE}(ho:At σ 17 (.obj w))(he:ev U e σ=some (.str ws))(hr:r.length<1000):tF U 17 e ⟨σ,some (w,⟨[],6,r⟩)⟩=some (⟨σ,some (w,⟨[],6,r++[ws]⟩)⟩, .next):=by
 (refine zZ (GW ho) ?_;rw[he])
 refine(?_:(if r.length<1000 then _ else _)=_)
 exact wI hr rfl
theorem V3:∀(ws r:List (List Nat)) (σ:List (Option PV)),FP σ xs aB t w->r.length+ws.length<=100->∃aC,wN [30] (yT (tF U 17 (.var 30)) aA) (ws.map fun x=> [PV.str x]) ⟨σ,some (w,⟨[],6,r⟩)⟩=some (⟨aC,some (w,⟨[],6,r++ws⟩)⟩, .next)/\FP aC xs aB t w
 |[],r,σ,F,_=>⟨σ,by rw[Dr];rfl,F⟩
 |x::ws,r,σ,F,h=>by
  simp only[Bl]at h
  have F1:=F.set (i:=30) (p:= .str x) (by decide)
  obtain⟨aC,e,F'⟩:=V3 ws (r++[x]) _ F1 (by rw[Ax];refine(?_:r.length+1+_<=100);exact zY)
  refine i12 aC ?_ F'
  refine(?_:((yT (tF U 17 (.var 30)) aA ⟨σ.set 30 (some (.str x)),some (w,⟨[],6,r⟩)⟩).bind _)=_)
  rw[zN (V2 F1.fb.o (zA (zG (by rw[F.fb.fa.len];decide))) (by lia))]
  rw[Br]at e
  exact e
theorem zYn(ht:t∈eQ)(F:FP σ xs aB t w):∃aC,OD U ⟨σ,some (w,⟨[],6,[]⟩)⟩=some (⟨aC,some (w,⟨[],6,(yY t).map fun v=>bI t (dF xs v) v⟩)⟩, .next)/\FP aC xs aB t w:=by
 have N:=lK ht
 obtain⟨aC,e,F'⟩:=V3 (U:=U) ((yY t).map fun v=>bI t (dF xs v) v) [] σ F (by rw[Az,N.od];decide)
 refine i12 aC ?_ F'
 refine(?_:((((σ[18]?).bind id).bind j9).bind _)=_)
 rw[F.fb.w]
 refine(?_:wN [30] _ ((((yY t).map fun v=>bI t (dF xs v) v).map PV.str).map fun x=> [x]) _=_)
 rw[A3]
 exact e
noncomputable def HE(U U₃:Uc):Den:=yT (wQ 24 (pC (eO U₃) 17)) (yT (den U Oz) (yT (tF U 17 FR) aA))
theorem V4(row:List Nat)(c:Nat):∀q:List (Nat×Nat),(pass row c q).length=q.length
 |[]=>rfl
 |(o,co)::q=>by refine(?_:(pass row c q).length+1=_);rw[V4 row c q];rfl
theorem V5{row:List Nat}{c b:Nat}:∀{q:List (Nat×Nat)},(∀x∈q,x.1<5/\x.2<=b)->c<=b->∀x∈pass row c q,x.1<5/\x.2<=2*b
 |[],_,_,x,hx=>nomatch hx
 |(o,co)::q,h,hc,x,hx=>by
  have h0:=h (o,co) (Ag ..)
  dsimp only at h0
  rcases Av.mp hx with rfl|hx
  ·refine aZ h0.1 ?_
   split<;>lia
  ·exact V5 (fun y hy=>h y (Ad _ hy)) hc x hx
theorem V6(ht:t∈eQ){v c:Nat}(hv:v<5)(hc:c<=400):∀(todo dn:List (Nat×Nat)) (its:List (List PV)) (σ:List (Option PV)),(∀it∈its,∃p,it=[p])->its.length=todo.length->FP σ xs aB t w->At σ 30 (.str (bI t c v))->At σ 32 (pn v)->
  (∀x∈todo,x.1<5/\x.2<=400)->todo.length+dn.length<=100->
  ∃aC,wN [9] (HE U U₃) its ⟨σ,some (w,⟨[],6,(todo++dn).map (cy t)⟩)⟩=some (⟨aC,some (w,⟨[],6,(dn++pass (eR (cX t) v) c todo).map (cy t)⟩)⟩, .next)/\FP aC xs aB t w/\At aC 32 (pn v)
 |[],dn,its,σ,_,hl,F,_,tZ,_,_=>by
  have:its=[]:=Ga.mp hl
  subst this
  exact nU σ (by refine(?_:some _=_);rw[Iz];refine(?_:_=some ((⟨σ,some (w,⟨[],6,(dn++[]).map (cy t)⟩)⟩:Sg),Fl.next));rw[Dr]) F tZ
 |(o,co)::todo,dn,[],σ,_,hl,_,_,_,_,_=>by cases hl
 |(o,co)::todo,dn,it::its,σ,hi,hl,F,BJ,tZ,hq,hs=>by
  have M:=BF ht
  refine aK (hi it (Ag ..)) fun p aH=>?_
  subst aH
  refine ao (hq (o,co) (Ag ..)) fun ho ij=>?_
  dsimp only at ho ij
  simp only[Bl]at hl hs
  have L:=F.fb.fa.len
  have F1:=F.set (i:=9) (p:=p) (by decide)
  have e1:=V1 (U₃:=U₃) (ws:=cy t (o,co)) (r:=(todo++dn).map (cy t)) F1.fb.o (by rw[Az,Ax];lia) 24
  have F2:=F1.set (i:=24) (p:= .str (cy t (o,co))) (by decide)
  have Pe:At ((σ.set 9 (some p)).set 24 (some (.str (cy t (o,co))))) 24 (.str (bI t co o)):=zG (by simp[L])
  have BL:At ((σ.set 9 (some p)).set 24 (some (.str (cy t (o,co))))) 30 (.str (bI t c v)):=(BJ.set (by decide)).set (by decide)
  have t6:At ((σ.set 9 (some p)).set 24 (some (.str (cy t (o,co))))) 32 (pn v):=(tZ.set (by decide)).set (by decide)
  generalize(σ.set 9 (some p)).set 24 (some (.str (cy t (o,co))))=bj at e1 F2 Pe BL t6
  have w1:ev U (.cmp .Eq (.idx (.idx (.var 20) (.var 32)) (.me 3 (.var 6) (.cons (.bS (.var 24) (.yes (.neg (.lit (.int 4)))) .no .no) .nil))) (.lit (.int 1))) bj=some (.bool (bh t v o==1)):=by
   have g:=HB (U:=U) F2.Pd (zA t6) (VZ ht F2.fb (VY Pe (M.len o ho) (by exact zB)) ho) hv ho
   have:=AK (n:=1) g (tW (U:=U) (σ:=bj) (p:=pn 1))
   refine(?_:(ev U _ bj).bind _=_)
   refine zZ g ?_
   refine(?_:((ug .Eq (pn (bh t v o)) (.int 1)).map PV.bool)=_)
   have e2:ug .Eq (pn (bh t v o)) (.int 1)=some (bh t v o==1):=by
    have:=this
    change (ev U _ bj).bind _=_ at this
    rw[g,Au]at this
    exact this
   rw[e2];rfl
  have e2:den U Oz ⟨bj,some (w,⟨[],6,(todo++dn).map (cy t)⟩)⟩=some (⟨bj.set 33 (some (.bool (bh t v o==1))),some (w,⟨[],6,(todo++dn).map (cy t)⟩)⟩, .next):=zD w1 ON
  have F3:=F2.set (i:=33) (p:= .bool (bh t v o==1)) (by decide)
  have Pf:At (bj.set 33 (some (.bool (bh t v o==1)))) 24 (.str (bI t co o)):=Pe.set (by decide)
  have t7:At (bj.set 33 (some (.bool (bh t v o==1)))) 30 (.str (bI t c v)):=BL.set (by decide)
  have vq:At (bj.set 33 (some (.bool (bh t v o==1)))) 32 (pn v):=t6.set (by decide)
  have V7:At (bj.set 33 (some (.bool (bh t v o==1)))) 33 (.bool (bh t v o==1)):=zG (by rw[F2.fb.fa.len];decide)
  generalize bj.set 33 (some (.bool (bh t v o==1)))=aX at e2 F3 Pf t7 vq V7
  have hx:(pass (eR (cX t) v) c ((o,co)::todo))=(o,if bh t v o==1 then c+co else co)::pass (eR (cX t) v) c todo:=by
   refine(?_:(o,match Jw (qW (eR (cX t) v) o) 1 with|true=>c+co|false=>co)::_=_)
   rw[yCa hv ho]
   have:Jw (bh t v o) 1=(bh t v o==1):=VV _ _
   rw[this]
   cases(bh t v o==1)<;>rfl
  have w3:ev U FR aX=some (.str (cy t (o,if bh t v o==1 then c+co else co))):=by
   have tt:aU U (.eT (.var 33)) aX=some (bh t v o==1):=by
    refine(?_:(ev U (.var 33) aX).bind pR=_)
    rw[zA V7];rfl
   unfold FR
   rw[qQ tt]
   cases hb:(bh t v o==1)with
   |false=>rw[if_neg (by decide),if_neg (by decide)];exact zA Pf
   |true=>
    rw[if_pos rfl,if_pos rfl]
    have Pg:=jT (AP (c:=46) (V0 (U:=U) M t7 hv) (by exact zB)) (zA Pf) (by rw[Bq,GV M ho];unfold ag;lia)
    rw[Pg]
    unfold cy bI
    rw[<-Br,List.replicate_append_replicate]
  have e3:=V2 (U:=U) (r:=(todo++dn).map (cy t)) F3.fb.o w3 (by rw[Az,Ax];lia)
  obtain⟨aC,e4,F4,vt⟩:=V6 ht hv hc todo (dn++[(o,if bh t v o==1 then c+co else co)]) its aX (fun it h=>hi it (Ad _ h)) (by lia) F3 t7 vq (fun x hx=>hq x (Ad _ hx)) (by rw[Ax];refine(?_:todo.length+(dn.length+1)<=100);exact yM)
  refine nU aC ?_ F4 vt
  refine(?_:((HE U U₃ ⟨σ.set 9 (some p),some (w,⟨[],6,cy t (o,co)::(todo++dn).map (cy t)⟩)⟩).bind _)=_)
  unfold HE
  rw[zN e1,zN e2,zN e3]
  rw[hx]
  refine(?_:wN [9] (HE U U₃) its ⟨aX,some (w,⟨[],6,(todo++dn).map (cy t)++[cy t (o,if bh t v o==1 then c+co else co)]⟩)⟩=_)
  rw[show(todo++dn).map (cy t)++[cy t (o,if bh t v o==1 then c+co else co)]=(todo++(dn++[(o,if bh t v o==1 then c+co else co)])).map (cy t)by simp,e4]
  rw[show dn++[(o,if bh t v o==1 then c+co else co)]++pass (eR (cX t) v) c todo=dn++(o,if bh t v o==1 then c+co else co)::pass (eR (cX t) v) c todo by simp]
theorem yA7{a b:PE}{m n:Nat}(ha:ev U a σ=some (pn m))(hb:ev U b σ=some (pn n)):aU U (.cmp .GtE a b) σ=some (decide (n<=m)):=by
 refine(?_:(ev U a σ).bind _=_)
 (refine zZ ha ?_;rw[hb])
 refine(?_:some (decide ((n:Int)<=(m:Int)))=_)
 congr 1
 simp
noncomputable def t9(U U₃:Uc):Den:=yT (wQ 30 (pC (eO U₃) 17)) (yT (den U Oy) (yT (den U uX) (yT (AH U (eO U₃)) aA)))
theorem V8(ht:t∈eQ):∀(n s:Nat) (line:List (Nat×Nat)) (h:Nat) (σ:List (Option PV)),s+n=5->line.length=n->(∀x∈line,x.1<5/\x.2<=4*2^s)->FP σ xs aB t w->(n=0->At σ 32 (pn h))->
  ∃g' aC,wN [31] (t9 U U₃) ((C5 s n).map fun k=> [pn k]) ⟨σ,some (w,⟨[],6,line.map (cy t)⟩)⟩=some (g', .next)/\g'.σ=aC/\FP aC xs aB t w/\At aC 32 (pn (nh (cX t) ((Ae 5).map (dF xs)).sum n line h))
 |0,s,line,h,σ,_,hl,_,F,tZ=>by
  have:line=[]:=Ga.mp hl
  subst this
  exact HR _ σ rfl rfl F (tZ rfl)
 |n+1,s,[],h,σ,_,hl,_,_,_=>by cases hl
 |n+1,s,(v,c)::q,h,σ,hs,hl,hm,F,_=>by
  have M:=BF ht
  refine ao (hm (v,c) (Ag ..)) fun hv hc=>?_
  dsimp only at hv hc
  simp only[Bl]at hl
  have h2s:2^s<=2^5:=Ln (by decide) (by exact xR)
  have hc4:c<=128:=by exact xN
  have L:=F.fb.fa.len
  have F1:=F.set (i:=31) (p:=pn s) (by decide)
  have e1:=V1 (U₃:=U₃) (ws:=cy t (v,c)) (r:=q.map (cy t)) F1.fb.o (by rw[Az];lia) 30
  have F2:=F1.set (i:=30) (p:= .str (cy t (v,c))) (by decide)
  have BJ:At ((σ.set 31 (some (pn s))).set 30 (some (.str (cy t (v,c))))) 30 (.str (bI t c v)):=zG (by simp[L])
  have V9:At ((σ.set 31 (some (pn s))).set 30 (some (.str (cy t (v,c))))) 31 (pn s):=(zG (by rw[L];decide)).set (by decide)
  generalize(σ.set 31 (some (pn s))).set 30 (some (.str (cy t (v,c))))=bj at e1 F2 BJ V9
  have e2:den U Oy ⟨bj,some (w,⟨[],6,q.map (cy t)⟩)⟩=some (⟨bj.set 32 (some (pn v)),some (w,⟨[],6,q.map (cy t)⟩)⟩, .next):=zD (VZ ht F2.fb (VY BJ (M.len v hv) (by exact zB)) hv) zX
  have F3:=F2.set (i:=32) (p:=pn v) (by decide)
  have t7:At (bj.set 32 (some (pn v))) 30 (.str (bI t c v)):=BJ.set (by decide)
  have Wa:At (bj.set 32 (some (pn v))) 31 (pn s):=V9.set (by decide)
  have vq:At (bj.set 32 (some (pn v))) 32 (pn v):=zG (by rw[F2.fb.fa.len];decide)
  generalize bj.set 32 (some (pn v))=aX at e2 F3 t7 Wa vq
  have tc:aU U (.cmp .GtE (.bin .Mult (.lit (.int 2)) (.me 2 (.var 30) (.cons (.lit (.str [46])) .nil))) (.bi 1 (.cons (.var 19) .nil))) aX=some (decide (((Ae 5).map (dF xs)).sum<=2*c)):=
   yA7 (qS (m:=2) rfl (V0 M t7 hv) (by decide) (by exact zB)) (GD F3.pM)
  have bind1:∀r,wN [31] (t9 U U₃) ((C5 s (n+1)).map fun k=> [pn k]) ⟨σ,some (w,⟨[],6,((v,c)::q).map (cy t)⟩)⟩=r↔((yT (den U uX) (yT (AH U (eO U₃)) aA) ⟨aX,some (w,⟨[],6,q.map (cy t)⟩)⟩).bind fun z=>match z with
   |(g', .next)=>wN [31] (t9 U U₃) ((C5 (s+1) n).map fun k=> [pn k]) g'
   |(g', .cont)=>wN [31] (t9 U U₃) ((C5 (s+1) n).map fun k=> [pn k]) g'
   |(g', .brk)=>some (g', .next)
   |(g', .ret p)=>some (g', .ret p))=r:=fun r=>by
   rw[G8,Bj]
   refine(?_:((t9 U U₃ ⟨σ.set 31 (some (pn s)),some (w,⟨[],6,cy t (v,c)::q.map (cy t)⟩)⟩).bind _)=r↔_)
   rw[show t9 U U₃ ⟨σ.set 31 (some (pn s)),some (w,⟨[],6,cy t (v,c)::q.map (cy t)⟩)⟩=yT (den U uX) (yT (AH U (eO U₃)) aA) ⟨aX,some (w,⟨[],6,q.map (cy t)⟩)⟩from(zN e1).trans (zN e2)]
   all_goals exact Iff.rfl
  have hp:nh (cX t) ((Ae 5).map (dF xs)).sum (n+1) ((v,c)::q) h=if((Ae 5).map (dF xs)).sum<=2*c then v else nh (cX t) ((Ae 5).map (dF xs)).sum n (pass (eR (cX t) v) c q) v:=by
   refine(?_:(match Cb ((Ae 5).map (dF xs)).sum (2*c)with|true=>v|false=>nh (cX t) ((Ae 5).map (dF xs)).sum n (pass (eR (cX t) v) c q) v)=_)
   by_cases hS:((Ae 5).map (dF xs)).sum<=2*c
   ·rw[if_pos hS,Lb hS]
   ·rw[if_neg hS]
    have:Cb ((Ae 5).map (dF xs)).sum (2*c)=false:=by
     cases hb:Cb ((Ae 5).map (dF xs)).sum (2*c)with
     |false=>rfl
     |true=>exact absurd (Dl hb) hS
    rw[this]
  rw[hp]
  by_cases hS:((Ae 5).map (dF xs)).sum<=2*c
  ·rw[if_pos hS]
   have e3:den U uX ⟨aX,some (w,⟨[],6,q.map (cy t)⟩)⟩=some (⟨aX,some (w,⟨[],6,q.map (cy t)⟩)⟩, .brk):=gQ (tc.trans (by rw[decide_eq_true hS])) rfl
   exact HR ⟨aX,some (w,⟨[],6,q.map (cy t)⟩)⟩ aX ((bind1 _).mpr (by rw[zZd e3];rfl)) rfl F3 vq
  ·rw[if_neg hS]
   have e3:den U uX ⟨aX,some (w,⟨[],6,q.map (cy t)⟩)⟩=some (⟨aX,some (w,⟨[],6,q.map (cy t)⟩)⟩, .next):=fT (tc.trans (by rw[decide_eq_false hS])) rfl
   have Ph:∀x∈q,x.1<5/\x.2<=4*2^s:=fun x hx=>hm x (Ad _ hx)
   obtain⟨dH,e4,F4,vt⟩:=V6 (U:=U) (U₃:=U₃) ht hv (c:=c) (by exact zB) q [] ((Ae (4-s)).map fun k=> [pn k]) aX (fun it h=>by obtain⟨k,_,rfl⟩:=D6.mp h;exact⟨_,rfl⟩) (by rw[Az,Gx];lia) F3 t7 vq (fun x hx=>⟨(Ph x hx).1,by have:=(Ph x hx).2;exact xN⟩) (by simp;lia)
   rw[Dr,Iz]at e4
   have O3:AH U (eO U₃) ⟨aX,some (w,⟨[],6,q.map (cy t)⟩)⟩=some (⟨dH,some (w,⟨[],6,(pass (eR (cX t) v) c q).map (cy t)⟩)⟩, .next):=by
    refine(?_:(gz U (.cv OA) aX).bind _=_)
    have hh:ev U OA aX=some (pn (4-s)):=vo (m:=4) (tW (p:=pn 4)) (zA Wa) (by exact xR)
    refine zZ (jS hh (by lia)) ?_
    exact e4
   obtain⟨g',aC,e5,h5,F5,k5⟩:=V8 ht n (s+1) (pass (eR (cX t) v) c q) v dH (by lia) (by rw[V4];lia) (fun x hx=>by
    have:=V5 Ph hc x hx
    rw[Nat.pow_succ]
    exact⟨this.1,by lia⟩) F4 (fun _=>vt)
   refine HR g' aC ((bind1 _).mpr ?_) h5 F5 k5
   rw[zN e3,zN O3]
   exact e5
theorem Pj(xs:List Nat):∀O:List Nat,(∀v∈O,v<5)->tV O ((Ae 5).map (dF xs))=O.map fun v=>(v,dF xs v)
 |[],_=>rfl
 |v::r,h=>by
  refine(?_:(v,qW _ v)::tV r _=_)
  rw[Pj xs r fun x hx=>h x (Ad _ hx),Dx,Pc _ 5 0 v (h v (Ag ..)),C0];rfl
theorem zZm(ht:t∈eQ)(F:FP σ xs aB t w):∃g' aC,FT U (eO U₃) ⟨σ,some (w,⟨[],6,(yY t).map fun v=>bI t (dF xs v) v⟩)⟩=some (g', .next)/\g'.σ=aC/\FP aC xs aB t w/\At aC 32 (pn (nh (cX t) ((Ae 5).map (dF xs)).sum 5 (tV (yY t) ((Ae 5).map (dF xs))) 0)):=by
 have N:=lK ht
 rw[Pj xs (yY t) N.lt]
 obtain⟨g',aC,e,h⟩:=V8 (U:=U) (U₃:=U₃) ht 5 0 ((yY t).map fun v=>(v,dF xs v)) 0 σ rfl (by rw[Az,N.od]) (fun x hx=>by
  refine aD (D6.mp hx) fun v hv bL=>?_
  subst bL
  exact⟨N.lt v hv,by have:=BE (lO xs v);exact this⟩) F (fun h=>by cases h)
 refine nr g' aC ?_ h
 rw[A3]at e
 have hd:FT U (eO U₃)=nE (fun g=>gz U (.cv (.lit (.int 5))) g.σ) [31] (t9 U U₃):=rfl
 rw[hd]
 unfold nE
 (refine zZ (jS (e:= .lit (.int 5)) (n:=5) rfl (by decide)) ?_;rw[Dx])
 exact e
end
theorem jX{H G:List (List Nat)}{O:List Nat}(h0:yI H G O 0=true)(h2:yI H G O 2=true)(h3:yI H G O 3=true)(h4:yI H G O 4=true){d0 d1 d2 d3 d4:Nat}(m0:d0∈ds)(m1:d1∈ds)(m2:d2∈ds)(m3:d3∈ds)(m4:d4∈ds):vi H G O [d0,d1,d2,d3,d4]=true:=by
 have key:∀x,yI H G O x=true->vi H G O [x,d1,d2,d3,d4]=true:=fun x h=>by
  unfold yI at h
  exact Al.mp (Al.mp (Al.mp (Al.mp h d1 m1) d2 m2) d3 m3) d4 m4
 simp only[ds,Av,Ar,or_false]at m0
 rcases m0 with rfl|rfl|rfl|rfl
 ·exact key _ h0
 ·exact key _ h2
 ·exact key _ h3
 ·exact key _ h4
theorem yDp{t:Nat×Nat×Nat}(ht:t∈eQ){d0 d1 d2 d3 d4:Nat}(m0:d0∈ds)(m1:d1∈ds)(m2:d2∈ds)(m3:d3∈ds)(m4:d4∈ds):vi (cX t) (fc t) (yY t) [d0,d1,d2,d3,d4]=true:=by
 simp only[eQ,Av,Ar,or_false]at ht
 rcases ht with rfl|rfl|rfl|rfl|rfl|rfl|rfl|rfl|rfl|rfl|rfl|rfl|rfl|rfl
 ·refine cD yFu fun a b c=>?_
  rw[a,b,c]
  exact jX yAr zY9 yAi yB7 m0 m1 m2 m3 m4
 ·refine cD yGw fun a b c=>?_
  rw[a,b,c]
  exact jX yAq zY3 zZj zYz m0 m1 m2 m3 m4
 ·refine cD yFe fun a b c=>?_
  rw[a,b,c]
  exact jX zZr yBl zZb zZq m0 m1 m2 m3 m4
 ·refine cD yGn fun a b c=>?_
  rw[a,b,c]
  exact jX yBj zY6 yB5 yBg m0 m1 m2 m3 m4
 ·refine cD yGd fun a b c=>?_
  rw[a,b,c]
  exact jX yA8 zZ7 zYw yBt m0 m1 m2 m3 m4
 ·refine cD yG2 fun a b c=>?_
  rw[a,b,c]
  exact jX yAk zZh zZo zYb m0 m1 m2 m3 m4
 ·refine cD yFb fun a b c=>?_
  rw[a,b,c]
  exact jX yCb yBp zX5 yA6 m0 m1 m2 m3 m4
 ·refine cD yG0 fun a b c=>?_
  rw[a,b,c]
  exact jX zZ2 yA9 yA2 zXy m0 m1 m2 m3 m4
 ·refine cD yFk fun a b c=>?_
  rw[a,b,c]
  exact jX yAd yBi zZg zZ1 m0 m1 m2 m3 m4
 ·refine cD yG3 fun a b c=>?_
  rw[a,b,c]
  exact jX yAz zZx yB9 zX7 m0 m1 m2 m3 m4
 ·refine cD yCz fun a b c=>?_
  rw[a,b,c]
  exact jX zVd zWs zWg zXs m0 m1 m2 m3 m4
 ·refine cD yDa fun a b c=>?_
  rw[a,b,c]
  exact jX zUx zWa zWw zWx m0 m1 m2 m3 m4
 ·refine cD yE2 fun a b c=>?_
  rw[a,b,c]
  exact jX zXt zUa zUt zVn m0 m1 m2 m3 m4
 ·refine cD yE0 fun a b c=>?_
  rw[a,b,c]
  exact jX zWc zVb zXn zWo m0 m1 m2 m3 m4
theorem yDj{t:Nat×Nat×Nat}(ht:t∈eQ)(xs:List Nat):vi (cX t) (fc t) (yY t) ((Ae 5).map (dF xs))=true:=
 yDp ht (lO xs 0) (lO xs 1) (lO xs 2) (lO xs 3) (lO xs 4)
theorem HF(f g:Nat->Nat):∀l:List Nat,dot (l.map f) (l.map g)=(l.map fun u=>f u*g u).sum
 |[]=>rfl
 |x::l=>by
  refine(?_:f x*g x+dot (l.map f) (l.map g)=_)
  rw[HF f g l];rfl
theorem Wb(f:Nat->Nat)(b:Nat->Bool):∀l:List Nat,((l.filter b).map f).sum=(l.map fun u=>f u*if b u then 1 else 0).sum
 |[]=>rfl
 |x::l=>by
  have ih:=Wb f b l
  rw[Ha,Bj,Fx,<-ih]
  cases hb:b x with
  |true=>simp
  |false=>simp
theorem Wc(f:Nat->Nat)(b:Nat->Bool):∀l:List Nat,(l.map fun u=>f u*if b u then 1 else 0).sum<=(l.map f).sum
 |[]=>B6 _
 |x::l=>by
  have ih:=Wc f b l
  rw[Bj,Fx,Bj,Fx]
  cases hb:b x with
  |true=>simp;assumption
  |false=>simp;lia
theorem We{l:Int}:∀(r:List Int) (a:Int),(∀x∈a::r,l<=x)->l∈a::r->r.foldl min a=l
 |[],a,_,h=>by
  rcases Av.mp h with h|h
  ·exact h.symm
  ·cases h
 |b::r,a,h1,h2=>by
  rw[Ff]
  have ha:=h1 a (Ag ..)
  have hb:=h1 b (Ad _ (Ag ..))
  refine We r (min a b) (fun x hx=>?_) ?_
  ·rcases Av.mp hx with rfl|hx
   ·lia
   ·exact h1 x (Ad _ (Ad _ hx))
  ·rcases Av.mp h2 with h|h
   ·rw[show min a b=l by lia];exact Ag ..
   ·rcases Av.mp h with h|h
    ·rw[show min a b=l by lia];exact Ag ..
    ·exact Ad _ h
theorem yAf(a b:Nat):ng a b=qX a b:=by
 unfold ng qX
 by_cases h:b<a
 ·refine wI h ?_
  have:Cb a b=false:=by
   cases hb:Cb a b with
   |false=>rfl
   |true=>exact absurd (Dl hb) (by exact Nat.not_le_of_lt ‹_›)
  rw[this]
 ·(refine ea h ?_;rw[Lb (by exact Bw ‹_›)])
theorem Wf{H:List (List Nat)}{l:Nat}{d:List Nat}:∀{O:List Nat},GU H l d O=true->∀v∈O,l<=dot d (eR H v)
 |[],_,v,hv=>nomatch hv
 |x::O,h,v,hv=>by
  unfold GU at h
  split at h
  ·next hb=>
   rcases Av.mp hv with rfl|hv
   ·exact Dl hb
   ·exact Wf h v hv
  ·exact ft h
theorem Wg{H:List (List Nat)}{l:Nat}{d:List Nat}:∀{O:List Nat},(∀v∈O,v<5)->vg H l d O<5->l∈(O.map fun v=>dot d (eR H v))/\O[(O.map fun v=>dot d (eR H v)).idxOf l]?=some (vg H l d O)
 |[],_,h=>by have h:(9:Nat)<5:=h;lia
 |x::O,hO,h=>by
  unfold vg at h⊢
  rw[Bj,Ks]
  split at h
  ·next hb=>
   have e:=Ec hb
   refine aZ (by rw[e];exact Ag ..) ?_
   rw[show(dot d (eR H x)==l)=true by simpa using e];rfl
  ·next hb=>
   refine ao (Wg (O:=O) (fun v hv=>hO v (Ad _ hv)) h) fun h1 h2=>?_
   refine aZ (Ad _ h1) ?_
   have:(dot d (eR H x)==l)=false:=by rw[<-VV];exact hb
   rw[this]
   exact h2
theorem Wh{row:List Nat}{c:Nat}:∀{q:List (Nat×Nat)},(∀x∈q,x.1<5)->∀x∈pass row c q,x.1<5
 |[],_,x,hx=>nomatch hx
 |(o,co)::q,h,x,hx=>by
  rcases Av.mp hx with rfl|hx
  ·exact h (o,co) (Ag ..)
  ·exact Wh (fun y hy=>h y (Ad _ hy)) x hx
theorem Wi{H:List (List Nat)}{S:Nat}:∀(n:Nat) (line:List (Nat×Nat)) (h:Nat),(∀x∈line,x.1<5)->h<5->nh H S n line h<5
 |0,_,_,_,hh=>hh
 |n+1,[],_,_,hh=>hh
 |n+1,(w,c)::q,h,hl,hh=>by
  have hw:=hl (w,c) (Ag ..)
  unfold nh
  split
  ·exact hw
  ·exact Wi n _ w (Wh fun x hx=>hl x (Ad _ hx)) hw
section
variable{U U₃:Uc}{σ:List (Option PV)}{β:Option (Value×ak)}{xs:List Nat}{aB:Nat}{t:Nat×Nat×Nat}{w:Value}
theorem Pk{e:PE}{l:List Nat}(h:ev U e σ=some (.list (l.map pn))):ev U (.bi 1 (.cons e .nil)) σ=some (pn l.sum):=by
 have h2:=GD (U:=U) (σ:=[some (.list (l.map pn))]) (i:=0) (xs:=l) rfl
 have h3:ui 1 [.list (l.map pn)]=some (pn l.sum):=h2
 refine(?_:((ev U e σ).bind fun x=>(some []).map (x:: ·)).bind _=_)
 rw[h];exact h3
theorem Wj(F:FP σ xs aB t w){τ:List (Option PV)}{e:PE}{u:Nat}(he:ev U e (σ++τ)=some (pn u))(hu:u<5):ev U (.idx (.var 19) e) (σ++τ)=some (pn (dF xs u)):=by
 refine wH (zA F.pM.app) he ?_ (by simp[ag])
 rw[A3,Ay,Ck hu];rfl
noncomputable def nj(t:Nat×Nat×Nat)(xs:List Nat):List Nat:=(yY t).map fun v=>dot ((Ae 5).map (dF xs)) (eR (cX t) v)
theorem yA3(N:lJ t)(F:FP σ xs aB t w):den U Ol ⟨σ,β⟩=some (⟨σ.set 34 (some (.list ((nj t xs).map pn))),β⟩, .next):=by
 have L:=F.fb.fa.len
 have e1:=kT (U:=U) (σ:=σ) (elt:= .bi 1 (.cons (.comp (.bin .Mult (.idx (.var 19) (.var 38)) (.idx (.idx (.var 20) (.var 38)) (.var 37))) (.cv (.lit (.int 5))) .nil) .nil)) (src:= .items (.var 7)) (l:=yY t) (it:=fun v=> [pn v]) (g:=fun v=>pn (dot ((Ae 5).map (dF xs)) (eR (cX t) v)))
  (by rw[AJ (zA F.fb.fa.od),A3];rfl) (by rw[N.od];decide) fun v hv=>⟨?_,zX⟩
 ·have q:((yY t).map fun v=>pn (dot ((Ae 5).map (dF xs)) (eR (cX t) v)))=(nj t xs).map pn:=by unfold nj;rw[A3];rfl
  rw[q]at e1
  refine zD e1 ?_
  rw[<-q]
  exact u3 fun x _=>zX
 ·have BG:=N.lt v hv
  have e2:=kT (U:=U) (σ:=σ++Bv some [pn v]) (elt:= .bin .Mult (.idx (.var 19) (.var 38)) (.idx (.idx (.var 20) (.var 38)) (.var 37))) (src:= .cv (.lit (.int 5))) (l:=Ae 5) (it:=fun i=> [pn i]) (g:=fun u=>pn (dF xs u*bh t u v)) (jS (n:=5) rfl (by decide)) (by decide) fun u hu=>⟨?_,zX⟩
  ·have q:((Ae 5).map fun u=>pn (dF xs u*bh t u v))=((Ae 5).map fun u=>dF xs u*bh t u v).map pn:=by rw[A3];rfl
   rw[q]at e2
   rw[Pk e2,VX BG,HF]
  ·have iP:u<5:=Bg.mp hu
   have ra:ev U (.var 38) (σ++Bv some [pn v]++Bv some [pn u])=some (pn u):=zA (g8 (by simp[L]))
   have dW:ev U (.var 37) (σ++Bv some [pn v]++Bv some [pn u])=some (pn v):=zA (At.app (g8 L))
   rw[Br]at ra dW⊢
   have hb:=BE (lO xs u)
   have hm:bh t u v<=4:=Ah (Kz ..) (by decide)
   exact qS (Wj F ra iP) (HB F.Pd.app ra dW iP BG) (by exact zB) (by exact zB)
noncomputable def nS(t:Nat×Nat×Nat)(xs:List Nat):List Nat:=(fc t).map fun g=>dot ((Ae 5).map (dF xs)) g
theorem Wl:nS t xs=(Ae 4).map fun j=>dot ((Ae 5).map (dF xs)) ((Ae 5).map fun v=>if(bH t v).getD j 0==65+j then 1 else 0):=by
 unfold nS fc
 rw[A3];rfl
theorem zYp(N:lJ t)(M:k8 t)(F:FP σ xs aB t w):den U Om ⟨σ,β⟩=some (⟨σ.set 35 (some (.list ((nS t xs).map pn))),β⟩, .next):=by
 have L:=F.fb.fa.len
 have e1:=kT (U:=U) (σ:=σ) (elt:= .bi 1 (.cons (.comp (.idx (.var 19) (.var 38)) (.cv (.lit (.int 5))) (.cons (.cmp .Eq (.idx (.idx (.var 6) (.var 38)) (.var 37)) (.idx (.lit (.str [65,66,67,68])) (.var 37))) .nil)) .nil)) (src:= .cv (.lit (.int 4))) (l:=Ae 4) (it:=fun v=> [pn v])
  (g:=fun j=>pn (dot ((Ae 5).map (dF xs)) ((Ae 5).map fun v=>if(bH t v).getD j 0==65+j then 1 else 0)))
  (jS (n:=4) rfl (by decide)) (by decide) fun j hj=>⟨?_,zX⟩
 ·have q:((Ae 4).map fun j=>pn (dot ((Ae 5).map (dF xs)) ((Ae 5).map fun v=>if(bH t v).getD j 0==65+j then 1 else 0)))=(nS t xs).map pn:=by rw[Wl,A3];rfl
  rw[q]at e1
  refine zD e1 ?_
  rw[<-q]
  exact u3 fun x _=>zX
 ·have Wm:j<4:=Bg.mp hj
  have e2:=Uy (U:=U) (σ:=σ++Bv some [pn j]) (elt:= .idx (.var 19) (.var 38)) (src:= .cv (.lit (.int 5))) (ts:= .cons (.cmp .Eq (.idx (.idx (.var 6) (.var 38)) (.var 37)) (.idx (.lit (.str [65,66,67,68])) (.var 37))) .nil) (l:=Ae 5) (it:=fun i=> [pn i]) (b:=fun v=>(bH t v).getD j 0==65+j) (g:=fun u=>pn (dF xs u)) (jS (n:=5) rfl (by decide)) (by decide) (fun u hu=>?_) fun u hu _=>⟨?_,zX⟩
  ·have q:(((Ae 5).filter fun v=>(bH t v).getD j 0==65+j).map fun u=>pn (dF xs u))=(((Ae 5).filter fun v=>(bH t v).getD j 0==65+j).map (dF xs)).map pn:=by rw[A3];rfl
   rw[q]at e2
   rw[Pk e2,Wb,HF]
  ·have iP:u<5:=Bg.mp hu
   have ra:ev U (.var 38) (σ++Bv some [pn j]++Bv some [pn u])=some (pn u):=zA (g8 (by simp[L]))
   have dW:ev U (.var 37) (σ++Bv some [pn j]++Bv some [pn u])=some (pn j):=zA (At.app (g8 L))
   have a:=lG (l:=bH t u) (c:=(bH t u).getD j 0) (wH (zA (U:=U) (F.fb.fa.nm.app (τ:=Bv some [pn j])).app) ra (kU PV.str [] (by rw[N.nm];exact iP)) (by simp[N.nm,ag])) dW (tP 0 (by rw[M.len u iP];exact Wm)) (by rw[M.len u iP];decide)
   have b:ev U (.idx (.lit (.str [65,66,67,68])) (.var 37)) (σ++Bv some [pn j]++Bv some [pn u])=some (.str [65+j]):=lG (l:=[65,66,67,68]) rfl dW (rh Wm rfl rfl rfl rfl) (by decide)
   rw[Vy (GO a b)]
   congr 1
   simp
  ·have iP:u<5:=Bg.mp hu
   have ra:ev U (.var 38) (σ++Bv some [pn j]++Bv some [pn u])=some (pn u):=zA (g8 (by simp[L]))
   rw[Br]at ra⊢
   exact Wj F ra iP
theorem Wn(S:Nat)(d:List Nat):∀G:List (List Nat),pK S G d=((G.map fun g=>dot d g).map fun x=>qX x (S-x)).sum
 |[]=>rfl
 |g::G=>by
  refine(?_:qX (dot d g) (S-dot d g)+pK S G d=_)
  rw[Wn S d G];rfl
theorem yBu(F:FP σ xs aB t w)(h35:At σ 35 (.list ((nS t xs).map pn))):den U Oo ⟨σ,β⟩=some (⟨σ.set 36 (some (pn (pK ((Ae 5).map (dF xs)).sum (fc t) ((Ae 5).map (dF xs))))),β⟩, .next):=by
 have L:=F.fb.fa.len
 have e1:=kT (U:=U) (σ:=σ) (elt:= .bi 3 (.cons (.var 37) (.cons (.bin .Sub (.bi 1 (.cons (.var 19) .nil)) (.var 37)) .nil))) (src:= .items (.var 35)) (l:=nS t xs) (it:=fun v=> [pn v])
  (g:=fun x=>pn (qX x (((Ae 5).map (dF xs)).sum-x))) (by rw[AJ (zA h35),A3];rfl) (by simp[nS,fc,ag]) fun x hx=>⟨?_,zX⟩
 ·have q:((nS t xs).map fun x=>pn (qX x (((Ae 5).map (dF xs)).sum-x)))=((nS t xs).map fun x=>qX x (((Ae 5).map (dF xs)).sum-x)).map pn:=by rw[A3];rfl
  rw[q]at e1
  rw[Wn]
  exact zD (Pk e1) zX
 ·have dW:ev U (.var 37) (σ++Bv some [pn x])=some (pn x):=zA (g8 L)
  have hle:x<=((Ae 5).map (dF xs)).sum:=by
   rw[Wl]at hx
   refine aD (D6.mp hx) fun j _ bL=>?_
   subst bL
   rw[HF]
   exact Wc _ _ _
  rw[O1 dW (vo (GD F.pM.app) dW hle),yAf]
theorem zZl{a b:PE}{y:PV}(ha:ev U a σ=some (.bool true))(hb:ev U b σ=some y):ev U (.ia a b) σ=some y:=by
 refine(?_:((ev U a σ).bind fun x=>(pR x).bind fun t=>if t then ev U b σ else some x)=_)
 refine zZ ha ?_
 exact hb
theorem Wo{a b:PE}{n:Nat}(ha:ev U a σ=some (pn n))(hb:ev U b σ=some (pn n)):ev U (.cmp .Eq a b) σ=some (.bool true):=by
 refine(?_:(ev U a σ).bind _=_)
 (refine zZ ha ?_;rw[hb])
 refine(?_:some (PV.bool ((n:Int)==(n:Int)))=_)
 simp
theorem zYj(ht:t∈eQ)(F:FP σ xs aB t w)(Wq:At σ 34 (.list ((nj t xs).map pn)))(Wr:At σ 36 (pn (pK ((Ae 5).map (dF xs)).sum (fc t) ((Ae 5).map (dF xs)))))
  (tZ:At σ 32 (pn (nh (cX t) ((Ae 5).map (dF xs)).sum 5 (tV (yY t) ((Ae 5).map (dF xs))) 0))):den U Oq ⟨σ,β⟩=some (⟨σ,β⟩, .ret (.bool true)):=by
 have N:=lK ht
 have jm:=yDj ht xs
 unfold vi at jm
 dsimp only at jm
 split at jm
 ·next td=>
  have heq:=Ec jm
  have aY:vg (cX t) (pK ((Ae 5).map (dF xs)).sum (fc t) ((Ae 5).map (dF xs))) ((Ae 5).map (dF xs)) (yY t)<5:=by
   rw[heq]
   refine Wi 5 _ 0 (fun x hx=>?_) (by decide)
   rw[Pj xs (yY t) N.lt]at hx
   refine aD (D6.mp hx) fun v hv bL=>?_
   subst bL
   exact N.lt v hv
  refine ao (Wg N.lt aY) fun hm hi=>?_
  have hg:=Wf td
  generalize pK ((Ae 5).map (dF xs)).sum (fc t) ((Ae 5).map (dF xs))=l at*
  rw[heq]at hi
  generalize nh (cX t) ((Ae 5).map (dF xs)).sum 5 (tV (yY t) ((Ae 5).map (dF xs))) 0=h at*
  have uW:(nj t xs).length=5:=by unfold nj;rw[Az,N.od]
  have ot:l∈nj t xs:=hm
  have jH:(yY t)[(nj t xs).idxOf l]?=some h:=hi
  have Ws:∀x∈nj t xs,l<=x:=fun x hx=>by
   refine aD (D6.mp hx) fun v hv bL=>?_
   subst bL
   exact hg v hv
  generalize nj t xs=W at*
  have m1:ev U (.bi 2 (.cons (.var 34) .nil)) σ=some (pn l):=by
   refine(?_:((ev U (.var 34) σ).bind fun x=>(some []).map (x:: ·)).bind _=_)
   rw[zA Wq]
   refine(?_:(PV.ints (W.map pn)).bind (fun is=>(HW is).map PV.int)=_)
   rw[u4,Au]
   match W,uW with
   |a::r,_=>
   refine(?_:some (PV.int ((r.map fun n:Nat=>(n:Int)).foldl min (a:Int)))=_)
   have q1:∀x∈(a:Int)::r.map (fun n:Nat=>(n:Int)),(l:Int)<=x:=fun x hx=>by
    rcases Av.mp hx with rfl|hx
    ·exact Er.mpr (Ws a (Ag ..))
    ·refine aD (D6.mp hx) fun y hy bL=>?_
     subst bL
     exact Er.mpr (Ws y (Ad _ hy))
   have q2:(l:Int)∈(a:Int)::r.map (fun n:Nat=>(n:Int)):=by
    rcases Av.mp ot with h|hx
    ·rw[h];exact Ag ..
    ·exact Ad _ (D6.mpr ⟨l,hx,rfl⟩)
   rw[We _ _ q1 q2]
  have m2:ev U (.me 3 (.var 34) (.cons (.var 36) .nil)) σ=some (pn (W.idxOf l)):=by
   refine(?_:(ev U (.var 34) σ).bind (fun x=>((ev U (.var 36) σ).bind fun y=>(some []).map (y:: ·)).bind (nV 3 x))=_)
   (refine zZ (zA Wq) ?_;rw[zA Wr])
   refine(?_:(PV.ints (W.map pn)).bind _=_)
   rw[u4,Au]
   refine(?_:(if((W.map fun n:Nat=>(n:Int)).contains (l:Int)&&decide ((W.map fun n:Nat=>(n:Int)).length<=ag))=true then some (PV.int (((W.map fun n:Nat=>(n:Int)).idxOf (l:Int):Nat):Int))else none)=_)
   rw[Vp,Vo,Dn.mpr ot,if_pos (by rw[Az,uW,Gs];exact decide_eq_true (by decide))]
  have m3:ev U (.idx (.var 7) (.me 3 (.var 34) (.cons (.var 36) .nil))) σ=some (pn h):=by
   refine wH (zA F.fb.fa.od) m2 ?_ (by simp[N.od,ag])
   rw[Ay,jH];rfl
  have m4:=zZl (Wo m1 (zA Wr)) (Wo m3 (zA tZ))
  refine(?_:((fm U _ ⟨σ,β⟩).bind _)=_)
  unfold fm
  rw[m4,Au,if_pos ON];rfl
 ·exact ft jm
theorem zUg(vp:∀(a b:List Nat) (c:Nat),small a->a.length<=40->small b->b.length<=40->U 1 [.str a, .str b,pn c]=some (pn (lM a b c)))(qY:∀s:List Nat,s.length<=900->U 3 [.str s]=some (.bool (jB s)))
  (ht:t∈eQ) (hx:xs.length=5) (F:FA σ xs aB (yZ t).sp (dp t) (yY t) (gO t aB)) (ho:At σ 17 (.obj w)):
  ∃g',OE U (eO U₃) ⟨σ,some (w,⟨(yY t).flatMap fun v=>wL (wB (yQ xs (dp t) v)),1,[]⟩)⟩=some (g', .ret (.bool true)):=by
 have N:=lK ht
 have M:=BF ht
 refine cM (zZ9 (U₃:=U₃) ht hx F ho) fun pre ln e1 hp hl=>?_
 have F1:FB (σ.set 18 (some (.list (((yY t).map fun v=>bI t (dF xs v) v).map .str)))) xs aB t w:=⟨F.set (by decide),ho.set (by decide),zG (by rw[F.len];decide)⟩
 generalize σ.set 18 (some (.list (((yY t).map fun v=>bI t (dF xs v) v).map .str)))=cJ at e1 F1
 have e2:=yB1 (U:=U) (β:=some (w,⟨pre,ln,[]⟩)) M N hx F1
 have e3:=zW8 (U₃:=U₃) hp hl F1.o
 have e4:=zYs (U:=U) (β:=some (w,⟨[],6,[]⟩)) M N F1
 have F2:=F1.set (i:=19) (p:= .list (((Ae 5).map (dF xs)).map pn)) (by decide)
 have q0:At (cJ.set 19 (some (.list (((Ae 5).map (dF xs)).map pn)))) 19 (.list (((Ae 5).map (dF xs)).map pn)):=zG (by rw[F1.fa.len];decide)
 generalize cJ.set 19 (some (.list (((Ae 5).map (dF xs)).map pn)))=bj at e4 F2 q0
 have e5:=zZy (U:=U) (β:=some (w,⟨[],6,[]⟩)) F2.fa.len
 have F3:=F2.set (i:=20) (p:=dZ fun _ _=>0) (by decide)
 have BM:At (bj.set 20 (some (dZ fun _ _=>0))) 19 (.list (((Ae 5).map (dF xs)).map pn)):=q0.set (by decide)
 have qZ:At (bj.set 20 (some (dZ fun _ _=>0))) 20 (dZ fun _ _=>0):=zG (by rw[F2.fa.len];decide)
 generalize bj.set 20 (some (dZ fun _ _=>0))=aX at e5 F3 BM qZ
 refine iQ (yAw (U:=U) (β:=some (w,⟨[],6,[]⟩)) vp qY ht F3 qZ BM) fun dH e6 F4 k20 k19=>?_
 refine aD (zYn (U:=U) ht ⟨F4,k19,k20⟩) fun iY e7 P5=>?_
 refine vw (zZm (U:=U) (U₃:=U₃) ht P5) fun g6 Pb e8 fX P6 vt=>?_
 subst fX
 obtain⟨Pb,HG⟩:=g6
 dsimp only at P6 vt
 have e9:=yA3 (U:=U) (β:=HG) (w:=w) N P6
 have P7:=P6.set (i:=34) (p:= .list ((nj t xs).map pn)) (by decide)
 have nN:=zYp (U:=U) (β:=HG) (w:=w) N M P7
 have P8:=P7.set (i:=35) (p:= .list ((nS t xs).map pn)) (by decide)
 have AW:=yBu (U:=U) (β:=HG) (w:=w) P8 (zG (by rw[P7.fb.fa.len];decide))
 have P9:=P8.set (i:=36) (p:=pn (pK ((Ae 5).map (dF xs)).sum (fc t) ((Ae 5).map (dF xs)))) (by decide)
 have OT:=zYj (U:=U) (β:=HG) ht P9 (((zG (by rw[P6.fb.fa.len];decide)).set (by decide)).set (by decide)) (zG (by rw[P8.fb.fa.len];decide)) (((vt.set (by decide)).set (by decide)).set (by decide))
 exact bU _ ((zN e1).trans ((zN e2).trans ((zN e3).trans ((zN e4).trans ((zN e5).trans ((zN e6).trans ((zN e7).trans ((zN e8).trans ((zN e9).trans ((zN nN).trans ((zN AW).trans (wE OT))))))))))))
end
theorem Pl{h h':As}{a:Addr}{m:Str->Option Value}(hn:h.Ns a m)(k:∀o,h.get? a=some o->h'.get? a=some o):h'.Ns a m:=
 let⟨o,es,ep,e,r⟩:=hn;⟨o,es,ep,k o e,r⟩
theorem zPd{h h':As}(x:h.NoLimit)(k:∀o,h.get? cStatics=some o->h'.get? cStatics=some o):h'.NoLimit:=
 let⟨mc,a,b⟩:=x;⟨mc,Pl a k,b⟩
noncomputable def HH:Option Obj->Array DictEntry
 |some ⟨_,_, .dict es _,_⟩=>es
 |_=> #[]
noncomputable def Wt(es:Array DictEntry):Bool:=es.toList.all fun e=>match e.key with| .str _ _=>true|_=>false
theorem zQa{es:Array DictEntry}(h:Wt es=true):StrKeys es:=fun e he=>by
 have:=Al.mp h e (Array.mem_toList_iff.mpr he)
 split at this
 ·next n t q=>exact⟨n,t,q⟩
 ·exact ft this
theorem rb{h:As}{a:Addr}{m:Str->Option Value}{o:Obj}(hn:h.Ns a m)(e:h.get? a=some o)(x:Str):m x=nsFind (HH (some o)) x:=by
 refine jD hn fun o' es ep e' hd _ hm=>?_
 rw[e]at e';obtain rfl:=Aa e'
 obtain⟨oc,od,DN,sl⟩:=o
 dsimp only at hd
 subst hd
 exact(hm x).symm
noncomputable def yDn:Option Obj->Bool
 |some ⟨_,_, .dict _ _,_⟩=>true
 |_=>false
theorem yFi{K:Frag}{h:As}{a:Addr}(X:K.In h)(hd:yDn (K.lookup a)=true)(hk:Wt (HH (K.lookup a))=true):h.Ns a (nsFind (HH (K.lookup a))):=by
 cases hl:K.lookup a with
 |none=>rw[hl]at hd;exact ft hd
 |some o=>
  rw[hl]at hd hk
  obtain⟨oc,od,DN,sl⟩:=o
  cases DN with
  |dict es ep=>exact⟨_,es,ep,X _ _ hl,rfl,zQa hk,fun _=>rfl⟩
  |_=>exact ft hd
noncomputable def Wu:Option Obj->Value
 |some ⟨_,_, .func fd,_⟩=>fd.pyModule
 |_=> .none
noncomputable def Wv:Option Obj->Value
 |some ⟨_,_, .func fd,_⟩=>fd.doc
 |_=> .none
noncomputable def HI:Option Obj->Option Str
 |some ⟨_,_, .fields vs,_⟩=>match(vs[1]?:Option Value)with
  |some (.str q _)=>some q
  |_=>none
 |_=>none
theorem Ww{K:Frag}{h:As}{c:Addr}{q:Str}(X:K.In h)(hc:HI (K.lookup c)=some q):h.CodeRec (.ref c) q:=by
 cases hl:K.lookup c with
 |none=>rw[hl]at hc;exact nn hc
 |some o=>
  rw[hl]at hc
  unfold HI at hc
  split at hc
  ·next vs _ q1=>
   obtain rfl:=Aa q1
   split at hc
   ·next q2 t e=>obtain rfl:=Aa hc;exact⟨c,_,vs,t,rfl,X _ _ hl,rfl,e⟩
   ·exact nn hc
  ·exact nn hc
theorem rf{K:Frag}{h:As}(X:K.In h){p:Program}{a c:Addr}{i:Nat}(hs:(K.lookup a).map (·.data)=some (.func (docDef (CY p i) (CX p i) (xZ p i) (mj p i) (Wu (K.lookup a)) (.ref c) (Wv (K.lookup a)))))
  (hc:HI (K.lookup c)=some (CY p i)):gr p h a i:=by
 refine aD (By.mp hs) fun o e1 e2=>?_
 exact⟨o,_,_,_,X _ _ e1,e2,Ww X hc⟩
noncomputable def yF3:Option Obj->Value
 |some o=>o.cls
 |_=> .none
theorem HJ{K:Frag}{h:As}(X:K.In h){p:Program}{a c:Addr}{i j:Nat}{qual:Str}(hs:(K.lookup a).map (·.data)=some (.func (H7 (uT p i j) qual (uS p i j) (TX p i j) (pw p i j) (Wu (K.lookup a)) (.ref c) (Wv (K.lookup a)) .none)))
  (hf:yF3 (K.lookup a)= .type "function") (hc:HI (K.lookup c)=some qual):zx p h a i j qual:=by
 refine aD (By.mp hs) fun o e1 e2=>?_
 rw[e1]at hf
 exact⟨o,_,_,_,X _ _ e1,hf,e2,Ww X hc⟩
theorem zR6{K:Frag}{h h':As}{P:Addr}(X:K.In h)(hP:K.lookup P=none)(k:∀a o,a∉ [P]->h.get? a=some o->h'.get? a=some o):K.In h':=fun a o e=>k a o (fun q=>by rw[Af.mp q,hP]at e;exact nn e) (X a o e)
end Internal
section
open PySem PySem.W PyProof.Rows
set_option maxHeartbeats 8000000
theorem Internal.okA:OpenLaw.wellSaid PySem.Challenge.rw_uc0011_01=true:=by decide+kernel
local macro_rules | `(tactic|o_law)=> `(tactic|refine holds_law Internal.okA fun said=>?_)
open_top Internal.hdA for PySem.Challenge.rw_uc0011_01
end
namespace Internal
open PySem PySem.W PySem.Calls PyProof.Rows
theorem hfA{mg mb:Str->Option Value}{w:Cn}{h:As}(X:(hdA.heap_1 w.params).In h)(hg:h.Ns mainGlobals mg)(hb:h.Ns builtinsNs mb)(hl:h.NoLimit)(hbm:h.BuiltinsAt mg 127):fS mg mb h where
 g:=hg
 b:=hb
 lim:=hl
 zy:=rf (c:=37) X (by kernel_rfl) (by kernel_rfl)
 zz:=rf (c:=44) X (by kernel_rfl) (by kernel_rfl)
 uU:=rf (c:=51) X (by kernel_rfl) (by kernel_rfl)
 z3:=rf (c:=58) X (by kernel_rfl) (by kernel_rfl)
 z4:=rf (c:=65) X (by kernel_rfl) (by kernel_rfl)
 mP:=rf (c:=124) X (by kernel_rfl) (by kernel_rfl)
 mQ:=rf (c:=131) X (by kernel_rfl) (by kernel_rfl)
 cls:=⟨⟨_,_,_,_,_,_,_,_,_,_,_,_,X 104 _ rfl⟩,⟨_,yFi X (a:=103) (by kernel_rfl) (by kernel_rfl),by kernel_rfl,by kernel_rfl,by kernel_rfl,by kernel_rfl,by kernel_rfl,by kernel_rfl,by kernel_rfl,by kernel_rfl,by kernel_rfl,by kernel_rfl,by kernel_rfl⟩⟩
 EU:=HJ (c:=79) X (by kernel_rfl) (by kernel_rfl) (by kernel_rfl)
 z5:=HJ (c:=86) X (by kernel_rfl) (by kernel_rfl) (by kernel_rfl)
 z6:=HJ (c:=93) X (by kernel_rfl) (by kernel_rfl) (by kernel_rfl)
 mR:=HJ (c:=100) X (by kernel_rfl) (by kernel_rfl) (by kernel_rfl)
 pz:=⟨_,_,_,_,_,_,X 113 _ rfl,rfl,rfl,rfl,rfl,rfl,rfl,X 112 _ rfl,rfl,by decide+kernel⟩
 pA:=⟨_,_,_,_,_,_,X 118 _ rfl,rfl,rfl,rfl,rfl,rfl,rfl,X 117 _ rfl,rfl,by decide+kernel⟩
 code:=⟨_,_,X 132 _ rfl,rfl,rfl⟩
 hd:=codeHd_of_K X (by kernel_rfl)
 bm:=hbm
theorem gaA{mg mb:Str->Option Value}{w:Cn}{h:As}{loose:List Str}{nk:ExcName->Option Value}(X:(hdA.heap_1 w.params).In h)(T:Top hdA.view_1 loose nk mg mb h):GA mg mb:=by
 have m:∀x,mg x=nsFind (HH ((hdA.heap_1 w.params).lookup 3)) x:=fun x=>rb T.g (X 3 _ rfl) x
 have nb:∀x:Str,x≠ "__name__" ->mb x=bootBuiltins x:=T.builtins
 have ci:∀{x:Str} {i:Int},valOf hdA.view_1 x=some (.int i)->∃t,mg x=some (.int i t):=fun e=>by
  refine aD (T.const _ _ e) fun v e1 r=>?_
  cases r h with
  |int _ t=>exact⟨t,e1⟩
 have cs:∀{x u:Str},valOf hdA.view_1 x=some (.str u)->∃t,mg x=some (.str u t):=fun e=>by
  refine aD (T.const _ _ e) fun v e1 r=>?_
  cases r h with
  |str _ t=>exact⟨t,e1⟩
 exact {
  i1:=ci (by kernel_rfl)
  i2:=ci (by kernel_rfl)
  i3:=ci (by kernel_rfl)
  f0:=(m _).trans (by kernel_rfl)
  f1:=(m _).trans (by kernel_rfl)
  f2:=(m _).trans (by kernel_rfl)
  f3:=(m _).trans (by kernel_rfl)
  f4:=(m _).trans (by kernel_rfl)
  f5:=(m _).trans (by kernel_rfl)
  f6:=(m _).trans (by kernel_rfl)
  f7:=(m _).trans (by kernel_rfl)
  r1:=(m _).trans (by kernel_rfl)
  r2:=(m _).trans (by kernel_rfl)
  crlf:=cs (by kernel_rfl)
  no:=fun x hx=>by
   rw[m]
   simp only[Av,Ar,or_false]at hx
   rcases hx with rfl|rfl|rfl|rfl|rfl|rfl|rfl|rfl|rfl<;>kernel_rfl
  z7:=(nb _ (by decide+kernel)).trans (by kernel_rfl)
  z8:=(nb _ (by decide+kernel)).trans (by kernel_rfl)
  z9:=(nb _ (by decide+kernel)).trans (by kernel_rfl)
  AA:=(nb _ (by decide+kernel)).trans (by kernel_rfl)
  gM:=(nb _ (by decide+kernel)).trans (by kernel_rfl)
  mS:=(nb _ (by decide+kernel)).trans (by kernel_rfl)
  mT:=(nb _ (by decide+kernel)).trans (by kernel_rfl)
  AB:=(nb _ (by decide+kernel)).trans (by kernel_rfl)
  qM:=(nb _ (by decide+kernel)).trans (by kernel_rfl)}
theorem Wx{h:As}:∀{vs:List Value} {is:List Int},Ij vs is->aq h (is.map .int) vs []
 |_,_, .nil=> .nil
 |_,_, .cons i t r=>by
  have:=aq.cons (h:=h) (VR.int i t) (Wx r)
  exact this
section
variable{mg mb:Str->Option Value}(w:Cn)(G:GA mg mb)
theorem uA1(a b:List Nat)(c:Nat)(qB:small a)(ha:a.length<=40)(iC:small b)(hb:b.length<=40):(W5 w G).U 1 [.str a, .str b,pn c]=some (pn (lM a b c)):=
 zY0 (U:=(W1 w G).U) (fun x y hx hy=>yEi (fun _ _=>none) hx hy) qB ha iC hb
theorem uA3(s:List Nat)(hs:s.length<=900):(W5 w G).U 3 [.str s]=some (.bool (jB s)):=
 zTg (U:=(W3 w G).U) (zSb (U:=(W2 w G).U) hs)
theorem uA4(l:List Nat)(hl:l.length<=100000):(W5 w G).U 4 [.str l]=some (.str (lF l)):=by
 refine(?_:(if l.length<=100000 then some (PV.str (lF l))else none)=_)
 exact wI hl rfl
include G in
theorem yAj{s:Ab}{v:Value}{ns:List Addr}{is:List Int}(hlen:is.length<=1000)(A:Am)(aN:de 6 A)(fJ:∀h:As,(∀a o,a∉ [127]->s.heap.get? a=some o->h.get? a=some o)->fS mg mb h)(hf:gr PA s.heap 137 20)(hP:s.heap.get? 127=some (Hq #[]))
  (hv:VR s.heap (.list (is.map .int)) v ns) (cn:127∉ns):
  Cs (Aj PA w) A (.call (.ref 137) ⟨[v],[]⟩) (fun res s'=>res= .ok (.ret (.bool true))/\wJ s s'/\(∀a o,a≠127->s.heap.get? a=some o->s'.heap.get? a=some o)/\∃ps,s'.heap.get? 127=some (Hq ps)) s:=by
 refine vy (zWp (U:=(W5 w G).U) (β:=some (.none,gL)) (uA4 w G) hlen) fun xs t bx hx ht hA F u7=>?_
 refine zYc w G (fget:=eO (W3 w G).U) (fun b b' r h=>zY2 h) aN fJ hf hP hv cn hA u7 ?_ fun u=>?_
 ·rw[<-OS (lK ht)]
  have h:∀(N:lJ t),((yY t).flatMap fun v=>wL (wB (yQ xs (dp t) v))).length<=200:=fun N=>by
   rw[List.length_flatMap]
   have:=u6 (fun v=>(wL (wB (yQ xs (dp t) v))).length) 40 (yY t) fun v _=>by
    have:=AR (xs:=xs) (nm:=dp t) v
    unfold wL
    rw[Ax,Ax]
    split<;>simp<;>lia
   rw[N.od]at this
   exact this
  rw[OS (lK ht)]
  exact Ah (h (lK ht)) (by decide)
 ·have F':=F.set (i:=17) (p:= .obj u) (by decide)
  exact zUg (U:=(W5 w G).U) (U₃:=(W3 w G).U) (uA1 w G) (uA3 w G) ht hx F' (zG (by rw[F.len];decide))
end
theorem yAs{aa s':Ab}{c:ClaimW}{cl:Str->Option Addr}{nk:ExcName->Option Value}{args:List WData}{cc P:Addr}{ps:Array Value}(hr:∀x,c.raises args x=false)(hp:c.post args (.bool true) args=true)
  (hS:wJ aa s') (hk:∀a o,a≠P->aa.heap.get? a=some o->s'.heap.get? a=some o) (hc:Mz aa.heap cc P) (hP:aa.heap.get? P=some (Hq #[])) (mM:s'.heap.get? P=some (Hq ps)) (hg:aa.gens= #[]):
  GoodWG c cl nk args aa (.ok (.ret (.bool true))) s':=by
 obtain⟨h,t,g,rfl,hx⟩:=hS
 refine Pu (.inl ⟨_,_,_,rfl,hr, .bool true,hp,fun _=>⟨E5,fun a ha=>nomatch ha⟩⟩) ⟨fun b o e=>?_,fun b o e=>?_⟩ rfl (hx.bare (.of_eq hg))
 ·by_cases hb:b=P
  ·subst hb
   rw[hP]at e;obtain rfl:=Aa e
   exact .inr (.inl ⟨(hc.tab hP).isCodeTable,rfl, #[],ps,rfl,by rw[Array.empty_append];exact mM⟩)
  ·exact .inl (hk b o hb e)
 ·by_cases hb:b=P
  ·subst hb;exact⟨_,mM⟩
  ·exact bU o (hk b o hb e)
theorem zWb{P:Params}{h:As}{a:Addr}{vs:List Value}{xs:List WData}(hL:h.IsList a vs.toArray)(w1:Well P h (.ref a) (.list xs)):h.PlainList a vs.toArray:=by
 cases w1 with
 |list e _=>
  obtain⟨o,e2,_,n,e3⟩:=hL
  rw[e]at e2;obtain rfl:=Aa e2
  cases e3
  exact bU _ e
theorem nq{w:Cn}{aa:Ab}{mg mb:Str->Option Value}{loose:List Str}{nk:ExcName->Option Value}{c:ClaimW}{cl:Str->Option Addr}{BN:ExcName->Option Value}{args:List WData}{a:Addr}{vs:List Value}{is:List Int}{xs:List WData}
  (KX:(hdA.heap_1 w.params).In aa.heap) (hP:aa.heap.get? 127=some (Hq #[])) (T:Top hdA.view_1 loose nk mg mb aa.heap) (hg:aa.gens= #[]) (hL:aa.heap.IsList a vs.toArray) (w1:Well w.params aa.heap (.ref a) (.list xs)) (hI:Ij vs is) (hlen:is.length<=1000)
  (hr:∀x,c.raises args x=false) (hp:c.post args (.bool true) args=true):
  Cs (Aj PA w) callerA (.call (.ref 137) ⟨[.ref a],[]⟩) (GoodWG c cl BN args aa) aa:=by
 have bX:=zWb hL w1
 have ne:∀{b:Addr} {o:Obj},aa.heap.get? b=some o->o.cls≠ .none->b≠127:=fun e hc q=>by
  rw[q,hP]at e;obtain rfl:=Aa e;exact hc rfl
 have fJ:∀h:As,(∀b o,b∉ [127]->aa.heap.get? b=some o->h.get? b=some o)->fS mg mb h:=fun h k=>by
  have X':=zR6 KX (P:=127) (by kernel_rfl) k
  refine BQ T.bmain fun bm ob m1 m2 m3 m4 m5 m6=>?_
  refine hfA X' (Pl T.g fun o e=>k _ _ (by decide) e) (Pl T.b fun o e=>k _ _ (by decide) e) (zPd T.nolimit fun o e=>k _ _ (by decide) e) ⟨bm,ob,m1,m2,?_,?_,k _ _ ?_ m3,m4,m5,m6⟩
  ·intro q
   have e3:=KX 3 _ rfl
   rw[q]at m3
   have:aa.heap.get? 3=some ob:=m3
   rw[e3]at this
   obtain rfl:=Aa this
   injection m4 with q2
   exact absurd q2 (by decide)
  ·exact ne m3 (by rw[m4];nofun)
  ·intro q
   exact ne m3 (by rw[m4];nofun) (Af.mp q)
 refine Ey (yAj w (gaA KX T) hlen callerA ⟨rfl,by decide+kernel,by decide+kernel⟩ fJ (rf (c:=136) KX (by kernel_rfl) (by kernel_rfl)) hP (.list bX (Wx hI)) ?_) fun res s' GI=>?_
 ·intro q
  refine aK bX fun n e=>?_
  exact ne e nofun (Af.mp q).symm
 ·obtain⟨rfl,hS,hk,ps,mM⟩:=GI
  exact yAs hr hp hS hk (codeHd_of_K (c:=131) (P:=127) KX (by kernel_rfl)) hP mM hg
end Internal
open PySem PySem.W PyProof.Rows
set_option maxRecDepth 100000 in
set_option maxHeartbeats 8000000 in
theorem PySem.Challenge.cw_uc0011_01_holds : PySem.Challenge.rw_uc0011_01.Holds := by
 refine Internal.hdA ?_
 k_fill
 intro w s₀ aa mg mb G Y fa o pm cd doc dV kV ho hd gG hD hmg hg args vals as oN Pm yg uW PJ
 have KX:=km_in_of Y
 have hT8:=km_tabs_of Y
 refine Ground.open G ?_
 intro T B D TE TW
 wrow_args oN Pm yg uW PJ
 rename_i is _ _ _ _ _ _ _ aL vs _ hL _ w1 _ hI _ hlen _
 have e1:mg "law" =some (.ref 137):=(Internal.rb T.g (KX 3 _ rfl) _).trans (by kernel_rfl)
 have e2:fa=137:=by
  have e3:mg "law" =some (.ref fa):=hmg
  rw[e1]at e3
  cases e3;rfl
 subst e2
 refine enter_call ?_
 exact Internal.nq KX (hT8 127 (.head _)) T hg hL w1 hI (by omega) (fun _=>rfl) (by wrow_post)
