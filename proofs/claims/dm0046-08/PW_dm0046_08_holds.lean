import PyProof.Rows.All
import Wide.All
import OpenK.AllK
import Wide.FinOn
import Lean
import PySem.Challenge.RW_dm0046_08
set_option Elab.async false
set_option maxRecDepth 1000000
set_option maxHeartbeats 0
set_option linter.all false
set_option genSizeOf false
set_option genInjectivity false
set_option bootstrap.genMatcherCode false
set_option compiler.extract_closed false
open PySem PySem.W PyProof.Rows
open PySem.Str renaming ofString → S9
namespace Mine.Internal
noncomputable section
open Option renaming some->Na, none->Nb
open Bool renaming true->Nc, false->Nd
open Decidable renaming decide->Nf
open _root_.PySem renaming wpAny_bind → A0, Value → A3, Shared → A6, wpAny_pure → A7, wpAny_mono → B7, sizeLine → B9, starEach → C0, sizeLine_eq → C5, Drawn → D8, Addr → E3, compareOp → E6, assignEach → E7, World → E9, Stmt → F9, keywordEach → G5, wpAny_holding → G9, GenState → H9, FuncData → I8, backTo → I9, typeLookup → J7, swappedStores → J8, foldedSetIterable → K0, wpAny_callSpecial?_slot → K3, backToKw → K4, Builtin → K7, wpAny_call_entry → L4, sliceBounds → L7, letOwnedTupleGo → M0, Around → M2, wpAny → M8, callEnvC → N7, wpAny_seqItems → O4, methodCallForm → O5, assignInOrder → O6, Heap → O7, wpAny_of_eq → P0, seqIndex? → P1, wpAny_standAt → P8, wpAny_field → Q5, builtinLookup_eq_fast → S6, OsState → U1, Flow → U4, codeAny_builtin → V5, wpAny_newObj_type → V6, attributeBase → V9, valueAt → W1, recursionLimit → W4, pyNext → W5, typeLookup_type → X6, binaryOp → X7, swapsWithSole → X9, pyIter → Y1, slot_list_setitem → Y2, getMethod → Y7, callWith → Z9, behindInMarks → AA0, callEnv → AA1, Keyword → AA6, sysModules → AA8, codeAny_mono → AB5
open _root_.List renaming length_map → A1, getElem?_eq_some_iff → A4, length_append → A5, mem_cons → A8, getElem?_eq_getElem → B1, getElem?_map → B3, map_append → B4, append_assoc → B5, nodup_cons → B6, range → B8, mem_map → C1, mem_singleton → C6, mem_map_of_mem → C9, append_nil → D0, length_cons → D1, mem_of_getElem? → D5, getD_eq_getElem?_getD → D7, getElem?_concat_length → D9, mem_append_left → E0, flatMap_cons → E1, mem_append → E4, length_range → E8, length_drop → F5, map_map → F7, take_append_drop → G3, length_take → G4, replicate → G6, map_cons → H5, length_filter_le → H6, nil_append → I1, take_length → I4, getElem?_drop → I5, mem_flatMap → J0, mem_append_right → J2, filter_eq_self → J4, all_eq_true → J6, mem_range → J9, take_add_one → K9, getElem?_append_left → L5, cons_append → L8, flatMap_append → L9, prefix_append → M3, mem_cons_self → M4, getElem?_set_ne → M5, getElem?_append_right → M6, foldl_cons → M7, take_of_length_le → N5, filter_cons → N6, drop_eq_getElem_cons → N9, foldl_append → O0, getElem?_eq_none → O1, range_succ → O3, getElem?_of_mem → O8, flatMap_nil → O9, nodup_append → P2, set_append_right → Q1, prefix_refl → Q6, perm_middle → Q7, mem_filterMap → Q8, map_take → R9, casesOn → S5, ext_getElem? → T5, mem_filter → T7, length_set → T8, getElem?_range → U0, any_eq_true → U3, length_nil → U6, size_toArray → U9, mem_cons_of_mem → V0, getElem?_set → V1, drop_length → V8, pairwise_cons → W2, getElem?_set_self → W3, perm_append_comm → W9, length → Y0, map_drop → Y6, filter_append → Z5, reverse_cons → AA2, getElem?_inj → AA3, filter_eq_nil_iff → AA4, drop_drop → AA5, not_mem_nil → AB4
open _root_.Exists renaming elim → A2
open _root_.Nat renaming le_trans → A9, le_refl → C4, zero_le → C8, le_of_ble_eq_true → F1, eq_of_beq_eq_true → H7, lt_succ_self → I0, le_of_lt → I2, le_of_lt_succ → I3, lt_of_lt_of_le → I6, le_add_right → K5, succ_le_succ → K8, not_lt_zero → N4, sub_self → N8, add_sub_cancel' → P6, le_succ → P9, lt_of_le_of_lt → Q9, beq → T6, min_eq_left → T9, zero_add → V4, add_le_add_left → V7, ne_of_lt → W6, lt_succ_of_le → X3, lt_of_succ_lt → X4, le_of_succ_le → X5, add_assoc → Y8, rec → Y9, lt_or_eq_of_le → Z6, add_sub_cancel_left → Z8, succ_pos → AA9, lt_or_ge → AB0, le_succ_of_le → AB1, le_of_not_lt → AB6
open _root_.Option renaming map_eq_some_iff → B0, bind_eq_some_iff → M1, isSome_iff_exists → U8, map_some → Y5
open _root_.Int renaming le_refl → C2, natCast_nonneg → E2, le_trans → E5, le_add_of_nonneg_right → G7, sub_nonneg_of_le → J5, add_zero → K1, eq_ofNat_of_zero_le → K2, toNat_natCast → L3, toNat_of_nonneg → P7, zero_add → S7, fmod_nonneg_of_pos → U2, natCast_add → V2, not_le → W7, le_of_lt → W8, ofNat → X0, add_assoc → X1, not_lt → Z7, ofNat_le → AB2, add_comm → AB3
open _root_.PySem.Heap renaming get?_push_size → C7, get?_push_of_some → I7, get?_update_self → J3, lt_size → L6, size_push → P4, SameBut → P5, get?_none_of_le → AB7
open _root_.PySem.Str renaming empty → D6
open _root_.LawfulBEq renaming eq_of_beq → F6
open _root_.Bool renaming and_eq_true_iff → F8, not_eq_true' → J1, and_eq_true → Y3
open _root_.PySem.Heap.SameBut renaming update → G8
open _root_.ToString renaming toString → H3
open _root_.Option.some renaming inj → H8
open _root_.PySem.Obj renaming mapSeq → K6
open _root_.PySem.Sem renaming bind_eq_wrap' → L2, wrap_wrap → M9
open _root_.PySem.W renaming emptyDict → S8
open _root_.PySem.Builtin.Str renaming strSliceIndices → T4
open _root_.PySem.F renaming slot_tuple_iterator_next → U5
open _root_.PySem.Txt renaming slice → U7
open _root_.PySem.Value renaming none → V3, type → X8
open _root_.PySem.Builtin.List renaming listSubscript? → W0
open _root_.Array renaming getElem?_eq_getElem → Y4
open _root_.PyProof.Rows renaming AllBare → AA7
variable{w:E9}{cs:List<|Str×Nat}{x y name ff tf:Str}{u:List<|E3×Obj}{i j aa ac aq af lo hi i1 j1 c1 i2 j2 c2 start size la lb su:Int}{a b ns a8 ms kn rp:List Str}{A:M2}{d dr d':D8}{e av target ah b9 ca tg t' dl bn e1 e2:Expr}{B C n N d8 k0 N1 N2 nt:Nat}{E Q:A3->A6->Prop}{α β Gh γ:Type}{h h' bw h4:O7}{env:Env}{rest ba cn es ifs:List Expr}{body orelse b1 b2:List F9}{pos fk cy cw pp ap px pf d9 pt:Pos}{op:Operator}{az vs us dv:List A3}{d1:List AA6}{g:Array H9}{os:U1}{p:Array Nat}{m' mA mg:Str->Option A3}{I dx M gv l9 p1 a0 TI TO:E3}{R:Result->A6->Prop}{kw bx:List<|Str×A3}{ao dflt:A3}{c' code:Code}{ti tj t1 t2 t3 u1 u2 u3:Tok}{tc is td:List Nat}{bc:List<|Int×A3}{items:Array A3}{ts:List<|Int×Int×Int}{kd:Str->Option NameKind}{fs:List Frame}{gs cj:List Comprehension}{gd:Bool->Bool}{b':Bool}{Y:List E3}{Post:Unit->A6->Prop}{oL:Obj}{scope:Scope}{cl:List<|Str×E3}{ll:Option<|A3->Sem Unit}{Gp:Array H9->Prop}{pr:List<|Int×Int}{V:List Int}
set_option tactic.hygienic false
set_option genCtorIdx false
abbrev Vc:=List Int
def ev(w:List Int)(v:Vc):Int:=List.rec (motive:=λO=>List Int->Int) (λO=>0) (λh O r w=>h*w.headD 0+r w.tail) v w
def ad(x:Vc):Vc->Vc:=List.rec (motive:=λO=>Vc->Vc) (λy=>y) (λh t r y=>match y with
 | []=>h::t
 | g::u=>(h+g)::r u) x
noncomputable def sc(z:Int)(v:Vc):Vc:=v.map (z*·)
theorem aBb(w:List Int)(x y:Vc):ev w (ad x y)=ev w x+ev w y:=by
 induction x generalizing w y with
 | nil=>exact(S7 _).symm
 | cons h t a=>
  cases y with
  | nil=>exact(K1 _).symm
  | cons g u=>
   show(h+g)*w.headD 0+ev w.tail (ad t u)=(h*w.headD 0+ev w.tail t)+(g*w.headD 0+ev w.tail u);rw[a,Int.add_mul,X1,X1,Int.add_left_comm<|ev w.tail t]
theorem pU(w:List Int)(z:Int)(x:Vc):ev w (sc z x)=z*ev w x:=by
 induction x generalizing w with
 | nil=>exact(Int.mul_zero z).symm
 | cons h t a=>
  show z*h*w.headD 0+ev w.tail (sc z t)=z*(h*w.headD 0+ev w.tail t);rw[a,Int.mul_add,Int.mul_assoc]
def sgn{α:Sort _}(z:Int)(n o p:α):α:=Int.rec (motive:=λO=>α) (λk=>Y9 (motive:=λO=>α) o (λO O=>p) k) (λO=>n) z
def fmE(cs:List Vc):List Vc:=cs.flatMap λp=>sgn (p.headD 0) [] [p.tail] (cs.flatMap λn=>sgn (n.headD 0) [ad (sc (p.headD 0) n.tail)<|sc (-n.headD 0) p.tail] [] [])
def fm(n:Nat):List Vc->Bool:=Y9 (motive:=λO=>List Vc->Bool) (λa=>a.any λv=>sgn (v.headD 0) Nc Nd Nd) (λO r a=>r<|fmE a) n
abbrev nY(w:List Int)(cs:List Vc):Prop:=∀v∈cs,0<=ev w v
theorem aEu(w:List Int)(v:Vc):ev w v=v.headD 0*w.headD 0+ev w.tail v.tail:=by
 cases v with
 | nil=>show(0:Int)=0*_+0;rw[Int.zero_mul];rfl
 | cons=>rfl
theorem oE{z:Int}:z<0/\(∀{α:Type}(n o p:α),sgn z n o p=n)\/z=0/\(∀{α:Type}(n o p:α),sgn z n o p=o)\/0<z/\(∀{α:Type}(n o p:α),sgn z n o p=p):=by
 cases z with
 | ofNat k=>
  cases k with
  | zero=>exact .inr<|.inl ⟨rfl,λO O O=>rfl⟩
  | succ k=>exact .inr<|.inr ⟨Int.natCast_pos.mpr<|AA9 k,λO O O=>rfl⟩
 | negSucc k=>exact .inl ⟨Int.negSucc_lt_zero k,λO O O=>rfl⟩
theorem aMM{w:List Int}{cs:List Vc}(h:nY w cs):nY w.tail<|fmE cs:=by
 intro v a;obtain⟨p,hp,a⟩:=J0.mp a;have d:=h p hp;rw[aEu] at d;obtain⟨s,e⟩|⟨s,e⟩|⟨s,e⟩:=oE (z:=p.headD 0)
 .rw[e] at a;cases a
 .rw[e] at a;obtain rfl:=C6.mp a;rw[s,Int.zero_mul,S7] at d;exact d
 .rw[e] at a;obtain⟨n,j,a⟩:=J0.mp a;have en:=h n j;rw[aEu] at en;obtain⟨t,b⟩|⟨t,b⟩|⟨t,b⟩:=oE (z:=n.headD 0)
  .rw[b] at a;obtain rfl:=C6.mp a;rw[aBb,pU,pU];have a1:=Int.mul_nonneg (W8 s) en;have i:=Int.mul_nonneg (W8<|Int.neg_pos_of_neg t) d;have g:=Int.add_nonneg a1 i;rw[Int.mul_add,Int.mul_add,X1,Int.add_left_comm<|p.headD 0*ev w.tail n.tail,← X1,← Int.mul_assoc,← Int.mul_assoc,← Int.add_mul,Int.neg_mul,Int.mul_comm (p.headD 0)<|n.headD 0,Int.add_right_neg,Int.zero_mul,S7] at g;exact g
  .rw[b] at a;cases a
  .rw[b] at a;cases a
theorem aPD:∀(n:Nat){w:List Int}{cs:List Vc},fm n cs=Nc->nY w cs->(List.drop n w).headD 0=1->(List.drop n w).tail=[]->False:=by
 intro n;induction n with
 | zero=>
  intro w cs e h b d;obtain⟨v,j,e⟩:=U3.mp e;have q:=h v j;rw[aEu] at q
  change w.headD 0=1 at b
  change w.tail=[] at d
  have z:∀u:Vc,ev [] u=0:=λu=>by
   induction u with
   | nil=>rfl
   | cons a u i=>show a*0+ev [] u=0;rw[i,Int.mul_zero];rfl
  rw[b,d,z,Int.mul_one,K1] at q;obtain⟨s,g⟩|⟨s,g⟩|⟨s,g⟩:=oE (z:=v.headD 0)
  .exact absurd s (Z7.mpr q)
  .rw[g] at e;cases e
  .rw[g] at e;cases e
 | succ n i=>
  intro w cs e h b d;rw[← List.drop_tail] at b d;exact i e (aMM h) b d
inductive L where
 | a | b | c | d | e | f
 | k (n:Nat)
 | p (x y:L)
 | m (x y:L)
 | g (x:L)
 | u (n:Nat) (x:L)
 | j (x:L)
 | t (x:L)
 | n (x y:L)
 | x (x y:L)
 | z (x:L)
abbrev Alt:=List<|List Vc×Vc
noncomputable def un(f:Vc->Vc)(x:Alt):Alt:=x.map λp=>(p.1,f p.2)
noncomputable def bi(f:Vc->Vc->Vc)(x y:Alt):Alt:=x.flatMap λp=>y.map λq=>(p.1++q.1,f p.2 q.2)
def tn(x:Alt):Alt:=x.flatMap λp=>[(p.2::p.1,p.2),(sc (-1) p.2::p.1,[])]
def sb(p q:Vc):Vc:=ad p<|sc (-1) q
def mn(x y:Alt):Alt:=x.flatMap λp=>y.flatMap λq=>[(sb p.2 q.2::(p.1++q.1),q.2),(sb q.2 p.2::(p.1++q.1),p.2)]
def mx(x y:Alt):Alt:=x.flatMap λp=>y.flatMap λq=>[(sb p.2 q.2::(p.1++q.1),p.2),(sb q.2 p.2::(p.1++q.1),q.2)]
noncomputable def vr(i:Nat):Alt×Alt:=([([],G6 (2*i) 0++[1])],[([G6 (2*i+1) 0++[1]],G6 (2*i+1) 0++[1])])
noncomputable def kst(n:Nat):Vc:=G6 12 0++[X0 n]
def L.s(x:L):Alt×Alt:=L.rec (motive:=λO=>Alt×Alt) (vr 0) (vr 1) (vr 2) (vr 3) (vr 4) (vr 5) (λn=>([([],kst n)],[([],kst n)])) (λO O x y=>(bi ad x.1 y.1,bi ad x.2 y.2)) (λO O x y=>(bi sb x.1 y.1,tn<|bi sb x.2 y.2))
 (λO x=>(un (sc<|-1) x.1,[([],[])])) (λn O x=>(un (sc<|X0 n) x.1,un (sc<|X0 n) x.2)) (λO x=>(x.2,x.2)) (λO x=>(x.1,tn x.1)) (λO O x y=>(mn x.1 y.1,mn x.2 y.2)) (λO O x y=>(mx x.1 y.1,mx x.2 y.2)) (λO x=>(x.1,mx x.1<|un (sc<|-1) x.1)) x
section
variable(a b c d e f:Int)(A B C D E F:Nat)
def L.v(x:L):Int×Nat:=L.rec (motive:=λO=>Int×Nat) (a,A) (b,B) (c,C) (d,D) (e,E) (f,F) (λn=>(X0 n,n)) (λO O x y=>(x.1+y.1,x.2+y.2)) (λO O x y=>(x.1-y.1,x.2-y.2))
 (λO x=>(-x.1,0)) (λn O x=>(X0 n*x.1,n*x.2)) (λO x=>(Nat.cast x.2,x.2)) (λO x=>(x.1,x.1.toNat)) (λO O x y=>(min x.1 y.1,min x.2 y.2)) (λO O x y=>(max x.1 y.1,max x.2 y.2)) (λO x=>(x.1,x.1.natAbs)) x
end
inductive Ok(w:List Int)(x:Alt)(z:Int):Prop | mk (p:List Vc×Vc) (i:p∈x) (h:nY w p.1) (e:ev w p.2=z):Ok w x z
section
variable{w:List Int}{x y:Alt}{u z:Int}
theorem dF{v:Vc}{cs:List Vc}(a:0<=ev w v)(h:nY w cs):nY w<|v::cs:=λq i=>by
 obtain rfl|i:=A8.mp i
 .exact a
 .exact h q i
theorem eQ{cs ds:List Vc}(a:nY w cs)(h:nY w ds):nY w<|cs++ds:=λq i=>(E4.mp i).elim (a q)<|h q
theorem rE{v:Vc}{cs:List Vc}(h:nY w cs)(e:ev w v=z):Ok w [(cs,v)] z:=⟨(cs,v),.head _,h,e⟩
theorem aAG{f:Vc->Vc}{g:Int->Int}(hf:∀v,ev w (f v)=g (ev w v))(h:Ok w x z):Ok w (un f x)<|g z:=by
 obtain⟨p,i,h,rfl⟩:=h;exact⟨_,C9 i,h,hf _⟩
theorem aAH{f:Vc->Vc->Vc}{g:Int->Int->Int}(hf:∀p q,ev w (f p q)=g (ev w p) (ev w q))(h:Ok w x z)(h':Ok w y u):Ok w (bi f x y)<|g z u:=by
 obtain⟨p,i,h,rfl⟩:=h;obtain⟨q,j,h',rfl⟩:=h';exact⟨_,J0.mpr ⟨p,i,C9 j⟩,eQ h h',hf _ _⟩
theorem nE(p q:Vc):ev w (sb p q)=ev w p-ev w q:=by
 unfold sb;rw[aBb,pU,Int.neg_mul,Int.one_mul];rfl
theorem aIK(h:Ok w x z):Ok w (tn x) (z.toNat:Int):=by
 obtain⟨p,i,h,rfl⟩:=h;obtain q|q:=Int.le_total 0 (ev w p.2)
 .exact⟨_,J0.mpr ⟨p,i,.head _⟩,dF q h,(P7 q).symm⟩
 .exact⟨_,J0.mpr ⟨p,i,.tail _<|.head _⟩,dF (by rw[pU,Int.neg_mul,Int.one_mul];exact Int.neg_nonneg_of_nonpos q) h,by rw[Int.toNat_of_nonpos q];rfl⟩
theorem aIL(h:Ok w x z)(h':Ok w y u):Ok w (mn x y)<|min z u:=by
 obtain⟨p,i,h,rfl⟩:=h;obtain⟨q,j,h',rfl⟩:=h';obtain l|l:=Int.le_total (ev w q.2) (ev w p.2)
 .exact⟨_,J0.mpr ⟨p,i,J0.mpr ⟨q,j,.head _⟩⟩,dF (by rw[nE];exact J5 l)<|eQ h h',(Int.min_eq_right l).symm⟩
 .exact⟨_,J0.mpr ⟨p,i,J0.mpr ⟨q,j,.tail _<|.head _⟩⟩,dF (by rw[nE];exact J5 l)<|eQ h h',(Int.min_eq_left l).symm⟩
theorem aDo(h:Ok w x z)(h':Ok w y u):Ok w (mx x y)<|max z u:=by
 obtain⟨p,i,h,rfl⟩:=h;obtain⟨q,j,h',rfl⟩:=h';obtain l|l:=Int.le_total (ev w q.2) (ev w p.2)
 .exact⟨_,J0.mpr ⟨p,i,J0.mpr ⟨q,j,.head _⟩⟩,dF (by rw[nE];exact J5 l)<|eQ h h',(Int.max_eq_left l).symm⟩
 .exact⟨_,J0.mpr ⟨p,i,J0.mpr ⟨q,j,.tail _<|.head _⟩⟩,dF (by rw[nE];exact J5 l)<|eQ h h',(Int.max_eq_right l).symm⟩
theorem aBa(n:Nat):∀w:List Int,ev w (G6 n 0++[z])=z*(w.drop n).headD 0:=by
 induction n with
 | zero=>intro w;show z*_+0=_;rw[K1];rfl
 | succ n a=>intro w;show 0*_+ev w.tail (G6 n 0++[z])=_;rw[a,Int.zero_mul,S7,List.drop_tail]
theorem sY(ha:(w.drop<|2*B).headD 0=j)(hA:(w.drop<|2*B+1).headD 0=(C:Int)):Ok w (vr B).1 j/\Ok w (vr B).2 C:=by
 have a:ev w (G6 (2*B+1) 0++[1])=(C:Int):=by rw[aBa,hA,Int.one_mul]
 exact⟨rE (λO B=>nomatch B)<|by rw[aBa,ha,Int.one_mul],rE (dF (by rw[a];exact E2 _) λO B=>nomatch B) a⟩
end
section
variable(a b c d e f:Int)(A B C D E F:Nat)
theorem aON(m n:Nat):((min m n:Nat):Int)=min (m:Int) n:=(Nat.le_total m n).elim (λh=>by rw[T9 h,Int.min_eq_left<|AB2.mpr h]) λh=>by rw[Nat.min_eq_right h,Int.min_eq_right<|AB2.mpr h]
theorem aOO(m n:Nat):((max m n:Nat):Int)=max (m:Int) n:=(Nat.le_total m n).elim (λh=>by rw[Nat.max_eq_right h,Int.max_eq_right<|AB2.mpr h]) λh=>by rw[Nat.max_eq_left h,Int.max_eq_left<|AB2.mpr h]
theorem yZ(z:Int):max z (-z)=z.natAbs:=(Int.le_total 0 z).elim (λh=>by rw[Int.natAbs_of_nonneg h,Int.max_eq_left<|E5 (Int.neg_nonpos_of_nonneg h) h]) λh=>by rw[Int.ofNat_natAbs_of_nonpos h,Int.max_eq_right<|E5 h<|Int.neg_nonneg_of_nonpos h]
noncomputable abbrev wL:List Int:=[a,A,b,B,c,C,d,D,e,E,f,F,1]
theorem L.ok(x:L):Ok (wL a b c d e f A B C D E F) x.s.1 (x.v a b c d e f A B C D E F).1/\Ok (wL a b c d e f A B C D E F) x.s.2 (x.v a b c d e f A B C D E F).2:=by
 induction x with
 | a=>exact sY rfl rfl
 | b=>exact sY rfl rfl
 | c=>exact sY rfl rfl
 | d=>exact sY rfl rfl
 | e=>exact sY rfl rfl
 | f=>exact sY rfl rfl
 | k n=>
  have h:ev (wL a b c d e f A B C D E F) (kst n)=X0 n:=(aBa _ _).trans<|Int.mul_one _;exact⟨rE (λO i=>nomatch i) h,rE (λO i=>nomatch i) h⟩
 | p x y h g=>exact⟨aAH (g:=(·+·)) (aBb _) h.1 g.1,aAH (g:=(·+·)) (aBb _) h.2 g.2⟩
 | m x y h g=>exact⟨aAH (g:=(· - ·)) nE h.1 g.1,show Ok _ _ (((x.v a b c d e f A B C D E F).2-(y.v a b c d e f A B C D E F).2:Nat):Int) from by rw[← Int.toNat_sub];exact aIK<|aAH (g:=(· - ·)) nE h.2 g.2⟩
 | g x h=>exact⟨aAG (g:=λz=>-z) (λv=>by rw[pU,Int.neg_mul,Int.one_mul]) h.1,rE (λO i=>nomatch i) rfl⟩
 | u n x h=>exact⟨aAG (g:=(X0 n*·)) (pU _ _) h.1,aAG (g:=(X0 n*·)) (pU _ _) h.2⟩
 | j x h=>exact⟨h.2,h.2⟩
 | t x h=>exact⟨h.1,aIK h.1⟩
 | n x y h g=>exact⟨aIL h.1 g.1,show Ok _ _ ((min (x.v a b c d e f A B C D E F).2 (y.v a b c d e f A B C D E F).2:Nat):Int) from by rw[aON];exact aIL h.2 g.2⟩
 | x x y h g=>exact⟨aDo h.1 g.1,show Ok _ _ ((max (x.v a b c d e f A B C D E F).2 (y.v a b c d e f A B C D E F).2:Nat):Int) from by rw[aOO];exact aDo h.2 g.2⟩
 | z x h=>exact⟨h.1,yZ _▸aDo h.1 (aAG (g:=λz=>-z) (λv=>by rw[pU,Int.neg_mul,Int.one_mul]) h.1)⟩
end
inductive H where
 | f
 | l (x y:L)
 | s (x y:L)
 | q (x y:L)
 | L (x y:L)
 | S (x y:L)
 | Q (x y:L)
 | n (h:H)
 | o (h g:H)
 | w (h g:H)
 | i (h g:H)
abbrev Dn:=List<|List Vc
noncomputable def a1(f:Vc->Vc->List Vc)(x y:Alt):Dn:=x.flatMap λp=>y.map λq=>f p.2 q.2++(p.1++q.1)
noncomputable def prd(x y:Dn):Dn:=x.flatMap λp=>y.map λq=>p++q
def m1:Vc:=kst 1
def leV(p q:Vc):List Vc:=[sb q p]
def ltV(p q:Vc):List Vc:=[sb (sb q p) m1]
noncomputable def fl(f:Vc->Vc->List Vc)(p q:Vc):List Vc:=f q p
def lea(x y:Alt):Dn×Dn:=(a1 leV x y,a1 (fl ltV) x y)
def lta(x y:Alt):Dn×Dn:=(a1 ltV x y,a1 (fl leV) x y)
def eqa(x y:Alt):Dn×Dn:=(a1 (λp q=>leV p q++leV q p) x y,a1 ltV x y++a1 (fl ltV) x y)
def H.z(h:H):Dn×Dn:=H.rec (motive:=λO=>Dn×Dn) ([],[[]]) (λx y=>lea x.s.1 y.s.1) (λx y=>lta x.s.1 y.s.1) (λx y=>eqa x.s.1 y.s.1) (λx y=>lea x.s.2 y.s.2) (λx y=>lta x.s.2 y.s.2) (λx y=>eqa x.s.2 y.s.2)
 (λO h=>(h.2,h.1)) (λO O h g=>(prd h.1 g.1,h.2++g.2)) (λO O h g=>(h.1++g.1,prd h.2 g.2)) (λO O h g=>(h.2++g.1,prd h.1 g.2)) h
def H.v(a b c d e f:Int)(A B C D E F:Nat)(h:H):Prop:=H.rec (motive:=λO=>Prop) False (λx y=>(x.v a b c d e f A B C D E F).1<=(y.v a b c d e f A B C D E F).1) (λx y=>(x.v a b c d e f A B C D E F).1<(y.v a b c d e f A B C D E F).1) (λx y=>(x.v a b c d e f A B C D E F).1=(y.v a b c d e f A B C D E F).1)
 (λx y=>(x.v a b c d e f A B C D E F).2<=(y.v a b c d e f A B C D E F).2) (λx y=>(x.v a b c d e f A B C D E F).2<(y.v a b c d e f A B C D E F).2) (λx y=>(x.v a b c d e f A B C D E F).2=(y.v a b c d e f A B C D E F).2) (λO h=>¬h) (λO O h g=>h/\g) (λO O h g=>h\/g) (λO O h g=>h->g) h
inductive Od(w:List Int)(x:Dn):Prop | mk (p:List Vc) (i:p∈x) (h:nY w p):Od w x
section
variable{w:List Int}{x y:Alt}{u z:Int}{m n:Dn}
theorem aGI(h:Od w m):Od w<|m++n:=by obtain⟨p,i,h⟩:=h;exact⟨p,E0 _ i,h⟩
theorem aGH(h:Od w n):Od w<|m++n:=by obtain⟨p,i,h⟩:=h;exact⟨p,J2 _ i,h⟩
theorem aLP(h:Od w m)(g:Od w n):Od w<|prd m n:=by
 obtain⟨p,i,h⟩:=h;obtain⟨q,j,g⟩:=g;exact⟨_,J0.mpr ⟨p,i,C9 j⟩,eQ h g⟩
theorem yV{f:Vc->Vc->List Vc}(h:Ok w x z)(g:Ok w y u)(k:∀p q,ev w p=z->ev w q=u->nY w (f p q)):Od w<|a1 f x y:=by
 obtain⟨p,i,h,e⟩:=h;obtain⟨q,j,g,a⟩:=g;exact⟨_,J0.mpr ⟨p,i,C9 j⟩,eQ (k _ _ e a)<|eQ h g⟩
theorem hle(l:z<=u):∀p q,ev w p=z->ev w q=u->nY w (leV p q):=λp q e a=>dF (by rw[nE,e,a];exact J5 l) λO i=>nomatch i
theorem hlt(w1:ev w m1=1)(l:z<u):∀p q,ev w p=z->ev w q=u->nY w (ltV p q):=λp q e a=>dF (by rw[nE,nE,e,a,w1];exact J5<|Int.le_sub_left_of_add_le l) λO i=>nomatch i
theorem aDP(w1:ev w m1=1)(h:Ok w x z)(g:Ok w y u):(z<=u->Od w (lea x y).1)/\(¬z<=u->Od w (lea x y).2):=
 ⟨λl=>yV h g<|hle l,λl=>yV h g λp q e a=>hlt w1 (W7.mp l) q p a e⟩
theorem aDB(w1:ev w m1=1)(h:Ok w x z)(g:Ok w y u):(z<u->Od w (lta x y).1)/\(¬z<u->Od w (lta x y).2):=
 ⟨λl=>yV h g<|hlt w1 l,λl=>yV h g λp q e a=>hle (Z7.mp l) q p a e⟩
theorem aEy(w1:ev w m1=1)(h:Ok w x z)(g:Ok w y u):(z=u->Od w (eqa x y).1)/\(¬z=u->Od w (eqa x y).2):=
 ⟨λl=>yV h g λp q e a=>eQ (hle (Int.le_of_eq l) p q e a)<|hle (Int.le_of_eq l.symm) q p a e,λl=>(Int.lt_or_gt_of_ne l).elim (λl=>aGI<|yV h g<|hlt w1 l) λl=>aGH<|yV h g λp q e a=>hlt w1 l q p a e⟩
theorem aMn{P P' Q R:Prop}(i:P'↔P)(h:(P->Q)/\(¬P->R)):(P'->Q)/\(¬P'->R):=⟨λp=>h.1<|i.mp p,λp=>h.2 λq=>p<|i.mpr q⟩
end
section
variable{a b c d e f:Int}{A D E F:Nat}
theorem H.ok(h:H):(h.v a b c d e f A B C D E F->Od (wL a b c d e f A B C D E F) h.z.1)/\(¬h.v a b c d e f A B C D E F->Od (wL a b c d e f A B C D E F) h.z.2):=by
 have p:ev (wL a b c d e f A B C D E F) m1=1:=aBa _ _;have ok:=L.ok a b c d e f A B C D E F;induction h with
 | f=>exact⟨λx=>x.elim,λO=>⟨[],.head _,λO i=>nomatch i⟩⟩
 | l x y=>exact aDP p (ok x).1 (ok y).1
 | s x y=>exact aDB p (ok x).1 (ok y).1
 | q x y=>exact aEy p (ok x).1 (ok y).1
 | L x y=>exact aMn AB2.symm<|aDP p (ok x).2 (ok y).2
 | S x y=>exact aMn Int.ofNat_lt.symm<|aDB p (ok x).2 (ok y).2
 | Q x y=>exact aMn Int.ofNat_inj.symm<|aEy p (ok x).2 (ok y).2
 | n h i=>exact⟨i.2,λx=>i.1<|Classical.not_not.mp x⟩
 | o h g i j=>exact⟨λx=>aLP (i.1 x.1)<|j.1 x.2,λx=>(Classical.em<|h.v a b c d e f A B C D E F).elim (λy=>aGH<|j.2 λz=>x ⟨y,z⟩) λy=>aGI<|i.2 y⟩
 | w h g i j=>exact⟨λx=>x.elim (λx=>aGI<|i.1 x) λx=>aGH<|j.1 x,λx=>aLP (i.2 λy=>x<|.inl y)<|j.2 λy=>x<|.inr y⟩
 | i h g i j=>exact⟨λx=>(Classical.em<|h.v a b c d e f A B C D E F).elim (λy=>aGH<|j.1<|x y) λy=>aGI<|i.2 y,λx=>(Classical.em<|h.v a b c d e f A B C D E F).elim (λy=>aLP (i.1 y)<|j.2 λz=>x λO=>z) λy=>(x λz=>(y z).elim).elim⟩
def ck(h:H):Bool:=h.z.2.all<|fm 12
theorem lin(h:H)(k:ck h=Nc):h.v a b c d e f A B C D E F:=Classical.byContradiction λx=>by
 obtain⟨p,i,q⟩:=(H.ok h).2 x;exact aPD 12 (J6.mp k p i) q rfl rfl
end
def sq(t:Lean.Syntax):Lean.Syntax:=.node .none `Lean.Parser.Tactic.tacticSeq #[.node .none `Lean.Parser.Tactic.tacticSeq1Indented #[.node .none `null #[t]]]
def kr:Lean.Syntax:=sq<|.node .none `tacticKernel_rfl #[.atom .none "kernel_rfl"]
def rf:Lean.Syntax:=sq<|.node .none `Lean.Parser.Tactic.tacticRfl #[.atom .none "rfl"]
def as1:Lean.Syntax:=sq<|.node .none `Lean.Parser.Tactic.assumption #[.atom .none "assumption"]
def ra:Lean.Syntax:=sq<|.node .none `Lean.Parser.Tactic.first #[.atom .none "first",.node .none `null #[.node .none `group #[.atom .none "|",rf],.node .none `group #[.atom .none "|",as1]]]
noncomputable abbrev aC:L:=.k 1
noncomputable abbrev aE:L:=.k 0
abbrev aR:L:=.p .a aC
noncomputable abbrev aF:L:=.j .a
noncomputable abbrev bB:L:=.p .a .b
abbrev bJ:L:=.p .b aC
noncomputable abbrev bG:L:=.m .a .b
abbrev bE:H:=.l aE .a
noncomputable abbrev dA:L:=.k 1000
noncomputable abbrev gJ:L:=.k 9223372036854775808
noncomputable abbrev cH:L:=.k 16777216
noncomputable abbrev aN:L:=.j .b
noncomputable abbrev cY:L:=.p .b .c
noncomputable abbrev cD:L:=.p .c aC
abbrev bF:H:=.l .a .b
noncomputable abbrev bH:H:=.Q .a .b
abbrev cL:L:=.k 1000000
noncomputable abbrev bU:H:=.l aE .b
abbrev cR:L:=.j aR
abbrev dL:L:=.p aF aC
noncomputable abbrev cK:L:=.p .a aF
abbrev aAW:L:=.k 4611686018427387904
abbrev cW:L:=.m .a aC
noncomputable abbrev cC:H:=.s .a .b
noncomputable abbrev aDO:L:=.k 1000000000
abbrev eF:H:=.L .a dA
noncomputable abbrev bK:L:=.t .a
abbrev mV:L:=.p aE aF
noncomputable abbrev iZ:L:=.m bB aC
abbrev dT:H:=.S .a .b
noncomputable abbrev fA:H:=.L .b dA
abbrev dK:L:=.m .b .c
abbrev cV:L:=.t bG
abbrev gP:L:=.p aE aC
noncomputable abbrev bX:L:=.k 2
noncomputable abbrev eP:L:=.k 9900
abbrev eO:H:=.l .b .a
noncomputable abbrev eM:L:=.m .b .a
noncomputable abbrev gO:L:=.p .a cR
abbrev gF:H:=.l .a aF
abbrev gE:H:=.q .a aE
abbrev gN:H:=.l aC .b
abbrev gM:L:=.p .a bJ
noncomputable abbrev fF:H:=.L .a .b
noncomputable abbrev dB:L:=.k 3
abbrev mU:L:=.t<|.m .a cY
abbrev wT:L:=.m (.p (.p bG aC) .b) aC
abbrev gD:H:=.s .b .a
abbrev iY:H:=.l aE .c
abbrev iX:H:=.l bB .c
abbrev jQ:H:=.L .a cH
noncomputable abbrev iW:L:=.p aR .b
abbrev jP:L:=.p bB .c
noncomputable abbrev pR:L:=.p mV aN
noncomputable abbrev iF:L:=.m .c .a
noncomputable abbrev iE:L:=.m .d .e
noncomputable abbrev iD:H:=.q .a .b
abbrev pQ:L:=.k 4294967296
abbrev lD:H:=.s bB .c
abbrev lC:H:=.l aC .a
abbrev mT:H:=.L .a cL
abbrev iV:L:=.p .a .c
abbrev mS:H:=.S .a aAW
noncomputable abbrev aIX:H:=.w (.s iZ<|.p .c aF)<|.o (.q iZ<|.p .c aF)<|.l (.m (.p .d .b) aC) .e
noncomputable abbrev aAV:H:=.S (.p .a<|.u 8 bJ) eP
noncomputable abbrev dJ:L:=.k 4
abbrev jO:L:=.p .c .b
abbrev mR:L:=.m .a aE
abbrev mQ:H:=.l aE .d
abbrev mP:H:=.l aC .c
abbrev pP:L:=.p .b cD
noncomputable abbrev pM:H:=.s .b aDO
abbrev pJ:H:=.s .a aDO
abbrev iU:L:=.k 4000
noncomputable abbrev pI:L:=.p .b bX
abbrev pH:H:=.L .a cY
noncomputable abbrev wS:H:=.S .a<|.m dB .b
noncomputable abbrev wR:H:=.L .a<|.k 10000000
noncomputable abbrev fU:L:=.j .c
noncomputable abbrev rK:H:=.l bB aF
noncomputable abbrev lB:L:=.p .d .c
abbrev lA:L:=.m .c .b
noncomputable abbrev kZ:L:=.p .c .d
abbrev kY:L:=.m .c .d
abbrev iB:L:=.k 190
abbrev aDN:H:=.w dT<|.o bH<|.s iZ .c
noncomputable abbrev rJ:L:=.m dB .a
noncomputable abbrev tE:L:=.m cY aC
noncomputable abbrev mO:L:=.p .b .b
noncomputable abbrev mN:H:=.l .c .b
section
variable(h:H){A D E F:Nat}{a b c d e f:Int}(kqz:autoParam (ck h=Nc) kr)
include kqz
theorem l00:h.v 0 0 0 0 0 0 0 0 0 0 0 0:=lin h kqz
theorem l01:h.v 0 0 0 0 0 0 A 0 0 0 0 0:=lin h kqz
theorem l02:h.v 0 0 0 0 0 0 A B 0 0 0 0:=lin h kqz
theorem l03:h.v 0 0 0 0 0 0 A B C 0 0 0:=lin h kqz
theorem l04:h.v 0 0 0 0 0 0 A B C D 0 0:=lin h kqz
theorem l05:h.v 0 0 0 0 0 0 A B C D E 0:=lin h kqz
theorem l06:h.v 0 0 0 0 0 0 A B C D E F:=lin h kqz
theorem l10:h.v a 0 0 0 0 0 0 0 0 0 0 0:=lin h kqz
theorem l11:h.v a 0 0 0 0 0 A 0 0 0 0 0:=lin h kqz
theorem l12:h.v a 0 0 0 0 0 A B 0 0 0 0:=lin h kqz
theorem l13:h.v a 0 0 0 0 0 A B C 0 0 0:=lin h kqz
theorem l14:h.v a 0 0 0 0 0 A B C D 0 0:=lin h kqz
theorem l15:h.v a 0 0 0 0 0 A B C D E 0:=lin h kqz
theorem l20:h.v a b 0 0 0 0 0 0 0 0 0 0:=lin h kqz
theorem l21:h.v a b 0 0 0 0 A 0 0 0 0 0:=lin h kqz
theorem l22:h.v a b 0 0 0 0 A B 0 0 0 0:=lin h kqz
theorem l23:h.v a b 0 0 0 0 A B C 0 0 0:=lin h kqz
theorem l24:h.v a b 0 0 0 0 A B C D 0 0:=lin h kqz
theorem l30:h.v a b c 0 0 0 0 0 0 0 0 0:=lin h kqz
theorem l31:h.v a b c 0 0 0 A 0 0 0 0 0:=lin h kqz
theorem l32:h.v a b c 0 0 0 A B 0 0 0 0:=lin h kqz
theorem l33:h.v a b c 0 0 0 A B C 0 0 0:=lin h kqz
theorem l40:h.v a b c d 0 0 0 0 0 0 0 0:=lin h kqz
theorem l41:h.v a b c d 0 0 A 0 0 0 0 0:=lin h kqz
theorem l42:h.v a b c d 0 0 A B 0 0 0 0:=lin h kqz
theorem l43:h.v a b c d 0 0 A B C 0 0 0:=lin h kqz
theorem l50:h.v a b c d e 0 0 0 0 0 0 0:=lin h kqz
theorem l51:h.v a b c d e 0 A 0 0 0 0 0:=lin h kqz
theorem l52:h.v a b c d e 0 A B 0 0 0 0:=lin h kqz
theorem l60:h.v a b c d e f 0 0 0 0 0 0:=lin h kqz
theorem l61:h.v a b c d e f A 0 0 0 0 0:=lin h kqz
end
theorem ar1{a b:Int}:0<=b->a<=a+b:=l20<|.i bU<|.l .a bB
def ar2{a:Int}:=l10 (a:=a)<|.l .a .a
theorem ar3{A:Nat}:0<=(A:Int):=l01<|.l aE aF
theorem ar4{a:Int}:0<=a->0<=a+1:=l10<|.i bE<|.l aE aR
def ar5{A:Nat}:=l01 (A:=A)<|.i (.L .a<|.k 100000) mT
theorem ar6{a b:Int}:0<=b->b<=a->0<=a:=l20<|.i bU<|.i eO bE
theorem ar7{a b c:Int}:0<=c->0<=b->c<=a->0<=a+b:=l30<|.i iY<|.i bU<|.i (.l .c .a)<|.l aE bB
theorem ar8{a b:Int}:0<=b->a-b<=a:=l20<|.i bU<|.l bG .a
theorem ar9{a b:Int}:1<=b->a<=a+b:=l20<|.i gN<|.l .a bB
theorem aCf{a b c:Int}{A:Nat}:b<=(A:Int)->0<=c->a+c<=b->a-1<(A:Int):=l31<|.i (.l .b aF)<|.i iY<|.i (.l iV .b)<|.s cW aF
theorem aTg:(0:Int)<=0:=l00<|.l aE aE
theorem aCe{a b c:Int}:¬((c-a)<=b)->a+b<=c:=l30<|.i (.n<|.l iF .b) iX
theorem aTf{A:Nat}:A<=B->A<=B+1:=l02<|.i fF<|.L .a bJ
theorem xO{A:Nat}:C=B->A<C->A<B:=l03<|.i (.Q .c .b)<|.i (.S .a .c) dT
def aQY{a b:Int}:=l20 (a:=a) (b:=b)<|.i eO<|.i bU bE
theorem aIk{a b:Int}:a<=b->¬(b=a)->a+1<=b:=l20<|.i bF<|.i (.n<|.q .b .a)<|.l aR .b
def aQX{a b:Int}:=l20 (a:=a) (b:=b)<|.q (.p (.m .a bJ) aC) bG
def aIj{a b:Int}:=l20 (a:=a) (b:=b)<|.i cC<|.l .a<|.m .b aC
def aIi{a b c:Int}:=l30 (a:=a) (b:=b) (c:=c)<|.i iX<|.l (.p cW bJ) .c
def aIh{a b c:Int}:=l30 (a:=a) (b:=b) (c:=c)<|.i lD<|.l gM .c
def aQW{A:Nat}:=l02 (A:=A) (B:=B)<|.i (.S .b aAW)<|.i bH mS
def aIg{a:Int}:=l10 (a:=a)<|.i bE<|.i (.s .a cL)<|.S (.z .a) pQ
theorem aIf{a:Int}{A:Nat}:0<=a->(a+(A:Int)).toNat=((a).toNat+A):=l11<|.i bE<|.Q (.t cK)<|.p bK .a
theorem aQT{A:Nat}:A<=1000000->A<4611686018427387904:=l01<|.i mT mS
def aIe{a b c d e:Int}:=l50 (a:=a) (b:=b) (c:=c) (d:=d) (e:=e)<|.i (.q iE iF)<|.i (.n<|.l iE .b) iX
def aId{a b c:Int}:=l30 (a:=a) (b:=b) (c:=c)<|.q (.m bB .a)<|.m jO .c
theorem aCd{a:Int}:a<=a+1:=l10<|.l .a aR
theorem aIc{a b:Int}{A:Nat}:1<=b->a+b<=(A:Int)->a<=(A:Int):=l21<|.i gN<|.i rK gF
def aIb{a b c:Int}:=l30 (a:=a) (b:=b) (c:=c)<|.i iY<|.i (.l .c .a)<|.i bU<|.l aE bB
theorem aQS{A:Nat}:(0+(A:Int))=(A:Int):=l01<|.q mV aF
theorem aQR{a:Int}{A:Nat}:((a+(A:Int))+1)=(a+((A+1:Nat):Int)):=l11<|.q (.p cK aC) gO
def aNK{a:Int}:=l10 (a:=a)<|.i bE<|.i (.n gE) lC
def aNJ{A D E:Nat}:=l05 (A:=A) (B:=B) (C:=C) (D:=D) (E:=E)<|.i (.L .c bJ)<|.i (.o (.S .a .c)<|.L .d<|.p .e aC) fF
def aQQ{A:Nat}:=l01 (A:=A)<|.i (.S (.p .a<|.u 8 aE) eP)<|.S .a eP
theorem aTe{A:Nat}:A<=1000000->A<=16777216:=l01<|.i mT jQ
theorem aTd{A:Nat}:B<=100000->A=1->A+B<=16777216:=l02<|.i (.L .b<|.k 100000)<|.i (.Q .a aC)<|.L bB cH
def aNI{a:Int}{A:Nat}:=l11 (a:=a) (A:=A)<|.q (.p aR aF) gO
theorem aNH{a b:Int}:¬(a<=b)->0<=a-b:=l20<|.i (.n bF)<|.l aE bG
def aNG{a b:Int}:=l20 (a:=a) (b:=b)<|.i bF<|.i (.n cC) iD
def aQP{a b:Int}{A:Nat}:=l21 (a:=a) (b:=b) (A:=A)<|.i (.s .a<|.p .b cR)<|.s .a<|.p bJ aF
def aQO{A:Nat}:=l01 (A:=A)<|.i mS<|.s aF gJ
def aTc:=l00<|.L aE aC
def aTb{A:Nat}:=l02 (A:=A) (B:=B)<|.i (.S .b .a)<|.S (.m .a bJ) bG
def aTa{A:Nat}:=l02 (A:=A) (B:=B)<|.i fF<|.i (.L .b .a) bH
def aT9{A:Nat}:=l01 (A:=A)<|.L .a aR
def aQN{a b c:Int}:=l30 (a:=a) (b:=b) (c:=c)<|.i (.l .c eM)<|.l .a dK
def aQM{a b c:Int}:=l30 (a:=a) (b:=b) (c:=c)<|.i (.s .a .c)<|.l (.p bG bJ) .c
theorem aQL{a b:Int}:a<=b->a<=b+1:=l20<|.i bF<|.l .a bJ
theorem aQK{a b:Int}{A:Nat}:(a+((A+1:Nat):Int))<=b->((a+1)+(A:Int))<=b:=l21<|.i (.l gO .b)<|.l (.p aR aF) .b
def aQJ{A:Nat}:=l01 (A:=A)<|.n<|.S aR .a
theorem aQI{A:Nat}:A<=9->A<=16777216:=l01<|.i (.L .a<|.k 9) jQ
def aQH{A D E:Nat}:=l05 (A:=A) (B:=B) (C:=C) (D:=D) (E:=E)<|.i (.L (.p .d .e) .c)<|.i (.Q .a .d)<|.i (.Q .b .e)<|.L bB .c
theorem aQG{A:Nat}:A<2->A<=16777216:=l01<|.i (.S .a bX) jQ
def aQF{A:Nat}:=l01 (A:=A)<|.i (.n<|.S .a bX)<|.L bX .a
theorem aCc{a b:Int}:b<a->0<=b->0<=a-1:=l20<|.i gD<|.i bU<|.l aE cW
theorem aCb{a b c:Int}{A:Nat}:a+b<c->c<=(A:Int)->a+b<(A:Int):=l31<|.i lD<|.i (.l .c aF)<|.s bB aF
def aT8{a:Int}{A:Nat}:=l12 (a:=a) (A:=A) (B:=B)<|.i bH<|.i (.l (.g aN) .a)<|.l (.g aF) .a
def aQE{a:Int}:=l10 (a:=a)<|.i bE<|.i (.s .a cL)<|.S (.z aR) pQ
def aQD{a:Int}{A:Nat}:=l11 (a:=a) (A:=A)<|.l .a cK
def aT7{A:Nat}:=l01 (A:=A)<|.l (.g gJ) aF
def aT6{A:Nat}:=l02 (A:=A) (B:=B)<|.i dT<|.i (.L .b cL)<|.s aF gJ
theorem aT5{A:Nat}:A<B->(A:Int)<(B:Int):=l02<|.i dT<|.s aF aN
def aNF{A D:Nat}:=l04 (A:=A) (B:=B) (C:=C) (D:=D)<|.i (.Q .a .c)<|.i (.Q .b .d)<|.i (.Q .c .d) bH
def aNE{A D:Nat}:=l04 (A:=A) (B:=B) (C:=C) (D:=D)<|.i (.Q .a .c)<|.i (.Q .b .d)<|.i (.n<|.Q .c .d)<|.n bH
theorem aT4{A D:Nat}:A<=D+C->D<=B+1->A<=(B+(C+1)):=l04<|.i (.L .a lB)<|.i (.L .d bJ)<|.L .a pP
def aQC{A:Nat}:=l01 (A:=A)<|.n<|.s aF aE
def aQB{A:Nat}:=l01 (A:=A)<|.i eF mT
def aQA{a b:Int}:=l20 (a:=a) (b:=b)<|.i bF<|.i pM pJ
def aQz{A:Nat}:=l01 (A:=A)<|.i (.L .a iU) mT
theorem aQy{a b c:Int}:b<a->a-b<=c->(0+(((a-b).toNat:Nat):Int))<=c:=l30<|.i gD<|.i (.l bG .c)<|.l (.p aE<|.j cV) .c
def aQx{a b c d e:Int}:=l50 (a:=a) (b:=b) (c:=c) (d:=d) (e:=e)<|.i (.q bG iE)<|.q (.m .a cY)<|.m .d<|.p .e .c
theorem aQw{a b:Int}:0<=b->(0+((((a+b)-a).toNat:Nat):Int))<=b:=l20<|.i bU<|.l (.p aE<|.j<|.t<|.m bB .a) .b
theorem aQv{a b:Int}:a<=(0+((((b+a)-b).toNat:Nat):Int)):=l20<|.l .a<|.p aE<|.j<|.t<|.m (.p .b .a) .b
theorem aQu{a b c:Int}:a<c->b+b<c-a->a+b<=c:=l30<|.i (.s .a .c)<|.i (.s mO iF) iX
theorem aQt{a b c:Int}:b+b<c-a->a+b<=c-b:=l30<|.i (.s mO iF)<|.l bB lA
def aQs{a b c:Int}:=l30 (a:=a) (b:=b) (c:=c)<|.q (.m .a bG)<|.m .c lA
theorem aJY{a b:Int}:a<=(0+(((b-(b-a)).toNat:Nat):Int)):=l20<|.l .a<|.p aE<|.j<|.t<|.m .b eM
theorem aJX{a b:Int}:0<=b->(0+(((a-(a-b)).toNat:Nat):Int))<=b:=l20<|.i bU<|.l (.p aE<|.j<|.t<|.m .a bG) .b
theorem aJW{a b c d:Int}{A:Nat}:c=d->(B:Int)=b-c->(a+(A:Int))=d->(a+((A+B:Nat):Int))=b:=l42<|.i (.q .c .d)<|.i (.q aN dK)<|.i (.q cK .d)<|.q (.p .a<|.j bB) .b
def aJV{a b:Int}{A:Nat}:=l21 (a:=a) (b:=b) (A:=A)<|.i (.q (.p .b aF) .a)<|.q aF bG
def aJU{a b c:Int}:=l30 (a:=a) (b:=b) (c:=c)<|.i (.q (.m .c aE) mR)<|.i (.n mN)<|.l aE bG
def aJT{a b:Int}{A:Nat}:=l21 (a:=a) (b:=b) (A:=A)<|.i bU<|.i gF<|.l bG aF
theorem aJS{a b c d:Int}:0<=d->a=d->c=b->d<=b->(0<=a)/\((a<=b)/\(c=b)):=l40<|.i mQ<|.i (.q .a .d)<|.i (.q .c .b)<|.i (.l .d .b)<|.o bE<|.o bF<|.q .c .b
theorem aJR{a b c d e:Int}:c=b->d<=b->(0<=a)/\((a<=d)/\(e=d))->(0<=a)/\((a<=b)/\(c=b)):=l50<|.i (.q .c .b)<|.i (.l .d .b)<|.i (.o bE<|.o (.l .a .d)<|.q .e .d)<|.o bE<|.o bF<|.q .c .b
def aJQ{a b c:Int}:=l30 (a:=a) (b:=b) (c:=c)<|.i (.o bE<|.o (.l .a .c)<|.q .b .c) bF
def aJP{a b c:Int}:=l30 (a:=a) (b:=b) (c:=c)<|.i pM<|.i (.o iY<|.o mN iD) pJ
def aJO{a b:Int}:=l20 (a:=a) (b:=b)<|.i pM<|.i bF pJ
def aJN{a b c d:Int}:=l40 (a:=a) (b:=b) (c:=c) (d:=d)<|.i pM<|.i mN<|.i (.o (.l .d .a)<|.l .a .c) pJ
def aJM{a b c:Int}:=l30 (a:=a) (b:=b) (c:=c)<|.i bU<|.i (.o eO<|.l .a .c) bE
def aJL{a b c:Int}:=l30 (a:=a) (b:=b) (c:=c)<|.i (.o (.l .c .a) bF) bF
def aJK{A:Nat}:=l01 (A:=A)<|.i mT<|.s aF aDO
theorem aJJ{a b c d e f:Int}:((a+b)=d)/\((e+b)=f)->(a+(b+c))=d+c:=l60<|.i (.o (.q bB .d)<|.q (.p .e .b) .f)<|.q (.p .a cY) lB
theorem aJI{a b c d e f:Int}:((e+b)=f)/\((a+b)=d)->(a+(b+c))=d+c:=l60<|.i (.o (.q (.p .e .b) .f)<|.q bB .d)<|.q (.p .a cY) lB
theorem tS{a:Int}:1<=a->0<=a:=l10<|.i lC bE
def aJH{a b:Int}:=l20 (a:=a) (b:=b)<|.i (.l aR .b) bF
def aJG{a b:Int}{A:Nat}:=l21 (a:=a) (b:=b) (A:=A)<|.i (.s .a<|.p bJ aF)<|.s .a<|.p .b cR
theorem aJF{a b:Int}:((a-1)+b)=(a+(b-1)):=l20<|.q (.p cW .b)<|.p .a<|.m .b aC
theorem aJE{a b c:Int}{A:Nat}:b<=(A:Int)->0<=c->a+c<=b->a<=(A:Int):=l31<|.i (.l .b aF)<|.i iY<|.i (.l iV .b) gF
theorem aFg{a:Int}:1<=a->¬(a=0):=l10<|.i lC<|.n gE
def aJD{a b c d e:Int}:=l50 (a:=a) (b:=b) (c:=c) (d:=d) (e:=e)<|.i (.l aC .d)<|.i (.l (.p .e .d) .c)<|.i (.l bB .e) iX
def aJC{a b c d:Int}:=l40 (a:=a) (b:=b) (c:=c) (d:=d)<|.i mP<|.i (.l .a .d)<|.i (.l lB .b) bF
def aJB{a b c d e:Int}:=l50 (a:=a) (b:=b) (c:=c) (d:=d) (e:=e)<|.i (.q bB .d)<|.i (.l (.p .d .e) .c)<|.i (.l aC .e) lD
def aR5{a:Int}:=l10 (a:=a)<|.i lC<|.s aE .a
def aJA{a b c d:Int}:=l40 (a:=a) (b:=b) (c:=c) (d:=d)<|.i (.l .a .c)<|.i (.l kZ .b)<|.i (.l aC .d) cC
theorem aJz{a b c:Int}:a+b=c->(a+(b-1))=c-1:=l30<|.i (.q bB .c)<|.q (.p .a<|.m .b aC)<|.m .c aC
theorem rY{a b c:Int}:0<=c->c<=a->1<=b->0<=a+b:=l30<|.i iY<|.i (.l .c .a)<|.i gN<|.l aE bB
theorem xP{a b:Int}:¬(b<a)->a<=b:=l20<|.i (.n gD) bF
def tR{A:Nat}:=l02 (A:=A) (B:=B)<|.i fA<|.i bH mS
theorem dW{A:Nat}:A<=1000->A<=16777216:=l01<|.i eF jQ
def aR4{a b:Int}:=l20 (a:=a) (b:=b)<|.i (.s .a bJ)<|.i (.n iD) cC
def aFf{a b c d e:Int}{A:Nat}:=l51 (a:=a) (b:=b) (c:=c) (d:=d) (e:=e) (A:=A)<|.i (.q aE .b)<|.i gN aIX
def aR3{a b:Int}:=l20 (a:=a) (b:=b)<|.i cC<|.s cW .b
def aJy{a b:Int}{A:Nat}:=l21 (a:=a) (b:=b) (A:=A)<|.i (.S .a<|.t eM)<|.s cK .b
theorem aR2{a:Int}:a<a+1:=l10<|.s .a aR
def aR1{a b c:Int}:=l30 (a:=a) (b:=b) (c:=c)<|.i (.s .c .b)<|.i (.l .a .c) bF
def aR0{a b:Int}:=l20 (a:=a) (b:=b)<|.i gN<|.i (.q .b .a) lC
theorem aQZ{a b:Int}:a<=b->(a+(((b-a).toNat:Nat):Int))=b:=l20<|.i bF<|.q (.p .a<|.j<|.t eM) .b
def aJx{a b:Int}{A:Nat}:=l22 (a:=a) (b:=b) (A:=A) (B:=B)<|.i (.w dT<|.o bH<|.s .a bJ)<|.i (.n<|.w dT<|.o bH cC)<|.o bH iD
theorem aJw{a b:Int}:¬(b<=a)->a<b:=l20<|.i (.n eO) cC
theorem aJv{A:Nat}:(A+(B+1))=((A+1)+B):=l02<|.Q gM iW
theorem aBo{a b:Int}:((a-1)-b)=(a-(b+1)):=l20<|.q (.m cW .b)<|.m .a bJ
def aQV{a:Int}:=l10 (a:=a)<|.i bE<|.i (.n gE)<|.l aE cW
def aQU{a b:Int}:=l20 (a:=a) (b:=b)<|.i (.s .a bJ)<|.s cW .b
theorem aJu{a b:Int}:((a+1)+b)=(a+(b+1)):=l20<|.q iW gM
def aJt{a b:Int}:=l20 (a:=a) (b:=b)<|.i cC<|.l aR .b
section
variable{M:Expr->Type}
noncomputable def eC(bo:∀op vs p,M<|.BoolOp op vs p)(mo:∀l op r p,M<|.BinOp l op r p)(un:∀op x p,M<|.UnaryOp op x p)(sw:∀t a b p,M<|.IfExp t a b p)(lu:∀l dz rs p,M<|.Compare l dz rs p)(call:∀f as ks p,M<|.Call f as ks p)(jb:∀k n p,M<|.Constant k n p)(h9:∀v x p,M<|.Attribute v x p)(sub:∀v s p,M<|.Subscript v s p)(i7:∀x p,M<|.Name x p)(lst:∀es p,M<|.List es p)(tup:∀es n p,M<|.Tuple es n p)(jc:∀a b c p,M<|.Slice a b c p)(lc:∀e gs s p,M<|.ListComp e gs s p)(yld:∀v p,M<|.Yield v p)(t7:∀ks vs p,M<|.Dict ks vs p)(au:∀e,M e)(e:Expr):M e:=
 Expr.casesOn (motive_1:=M) e bo (λO O O=>au _) mo un (λO O O O=>au _) sw t7 (λO O O=>au _) lc (λO O O O=>au _) (λO O O O O=>au _) (λO O O O=>au _) (λO O=>au _) yld (λO O=>au _) lu call (λO O O O=>au _) (λO O=>au _) jb h9 sub (λO O=>au _) i7 lst tup jc
abbrev eX(au:∀e,M e)(call:∀f as ks p,M<|.Call f as ks p)(jb:∀k n p,M<|.Constant k n p)(h9:∀v x p,M<|.Attribute v x p)(sub:∀v s p,M<|.Subscript v s p)(i7:∀x p,M<|.Name x p)(tup:∀es n p,M<|.Tuple es n p)(jc:∀a b c p,M<|.Slice a b c p):(e:Expr)->M e:=
 eC (λO O O=>au _) (λO O O O=>au _) (λO O O=>au _) (λO O O O=>au _) (λO O O O=>au _) call jb h9 sub i7 (λO O=>au _) tup jc (λO O O O=>au _) (λO O=>au _) (λO O O=>au _) au
def eN(au:∀e,M e)(i7:∀x p,M<|.Name x p):(e:Expr)->M e:=eX au (λO O O O=>au _) (λO O O=>au _) (λO O O=>au _) (λO O O=>au _) i7 (λO O O=>au _)<|λO O O O=>au _
def eNA(au:∀e,M e)(i7:∀x p,M<|.Name x p)(h9:∀v x p,M<|.Attribute v x p):(e:Expr)->M e:=eX au (λO O O O=>au _) (λO O O=>au _) h9 (λO O O=>au _) i7 (λO O O=>au _)<|λO O O O=>au _
def eSl(au:∀e,M e)(jc:∀a b c p,M<|.Slice a b c p):(e:Expr)->M e:=eX au (λO O O O=>au _) (λO O O=>au _) (λO O O=>au _) (λO O O=>au _) (λO O=>au _) (λO O O=>au _) jc
def eTS(au:∀e,M e)(tup:∀es n p,M<|.Tuple es n p)(sub:∀v s p,M<|.Subscript v s p):(e:Expr)->M e:=eX au (λO O O O=>au _) (λO O O=>au _) (λO O O=>au _) sub (λO O=>au _) tup<|λO O O O=>au _
def eCC(au:∀e,M e)(call:∀f as ks p,M<|.Call f as ks p)(jb:∀k n p,M<|.Constant k n p):(e:Expr)->M e:=eX au call jb (λO O O=>au _) (λO O O=>au _) (λO O=>au _) (λO O O=>au _)<|λO O O O=>au _
def eLB(au:∀e,M e)(mo:∀l op r p,M<|.BinOp l op r p)(sub:∀v s p,M<|.Subscript v s p)(lst:∀es p,M<|.List es p):(e:Expr)->M e:=eC (λO O O=>au _) mo (λO O O=>au _) (λO O O O=>au _) (λO O O O=>au _) (λO O O O=>au _) (λO O O=>au _) (λO O O=>au _) sub (λO O=>au _) lst (λO O O=>au _) (λO O O O=>au _) (λO O O O=>au _) (λO O=>au _) (λO O O=>au _) au
def eLY(au:∀e,M e)(lc:∀e gs s p,M<|.ListComp e gs s p)(yld:∀v p,M<|.Yield v p):(e:Expr)->M e:=eC (λO O O=>au _) (λO O O O=>au _) (λO O O=>au _) (λO O O O=>au _) (λO O O O=>au _) (λO O O O=>au _) (λO O O=>au _) (λO O O=>au _) (λO O O=>au _) (λO O=>au _) (λO O=>au _) (λO O O=>au _) (λO O O O=>au _) lc yld (λO O O=>au _) au
end
section
variable{M:F9->Type}
noncomputable def sC(t8:∀ts v p,M<|.Assign ts v p)(t9:∀t op v p,M<|.AugAssign t op v p)(jd:∀e p,M<|.Expr e p)(ret:∀v p,M<|.Return v p)(cnt:∀p,M<|.Continue p)(brk:∀p,M<|.Break p)(iff:∀t a b p,M<|.If t a b p)(i8:∀t i b o p,M<|.For t i b o p)(mr:∀t b o p,M<|.While t b o p)(fn:∀n a b x1 x2 x3 s x4 x5 p,M<|.FunctionDef n a b x1 x2 x3 s x4 x5 p)(cls:∀n bs ks b x1 x2 x3 x4 x5 x6 p,M<|.ClassDef n bs ks b x1 x2 x3 x4 x5 x6 p)(au:∀s,M s)(s:F9):M s:=
 F9.casesOn (motive_2:=M) s fn (λO O O O O O O O O O=>au _) cls ret (λO O=>au _) t8 (λO O O O O O O=>au _) t9 (λO O O O O=>au _) i8 (λO O O O O=>au _) mr iff (λO O O=>au _) (λO O O=>au _) (λO O O=>au _) (λO O O=>au _) (λO O O O O=>au _) (λO O O O O=>au _) (λO O O=>au _) (λO O=>au _) (λO O O O=>au _) (λO O=>au _) (λO O=>au _) jd (λO=>au _) brk cnt
def sFW(au:∀s,M s)(iff:∀t a b p,M<|.If t a b p)(i8:∀t i b o p,M<|.For t i b o p)(mr:∀t b o p,M<|.While t b o p)(jd:∀e p,M<|.Expr e p):(s:F9)->M s:=sC (λO O O=>au _) (λO O O O=>au _) jd (λO O=>au _) (λO=>au _) (λO=>au _) iff i8 mr (λO O O O O O O O O O=>au _) (λO O O O O O O O O O O=>au _) au
def sFC(au:∀s,M s)(fn:∀n a b x1 x2 x3 s x4 x5 p,M<|.FunctionDef n a b x1 x2 x3 s x4 x5 p)(cls:∀n bs ks b x1 x2 x3 x4 x5 x6 p,M<|.ClassDef n bs ks b x1 x2 x3 x4 x5 x6 p)(jd:∀e p,M<|.Expr e p):(s:F9)->M s:=sC (λO O O=>au _) (λO O O O=>au _) jd (λO O=>au _) (λO=>au _) (λO=>au _) (λO O O O=>au _) (λO O O O O=>au _) (λO O O O=>au _) fn cls au
end
section
variable{M:List α->Type}
noncomputable def l1(au:∀l,M l)(one:∀x,M [x])(l:List α):M l:=S5 l (au []) λx t=>S5 (motive:=λt=>M<|x::t) t (one x) λy u=>au<|x::y::u
end
noncomputable def lN{α:Type}{M:List α->Type}(z:M [])(au:∀l,M l)(l:List α):M l:=S5 l z λx t=>au<|x::t
noncomputable def lH{α:Type}{M:List α->Type}(z:M [])(f:∀x l,M<|x::l)(l:List α):M l:=S5 l z f
def chs:Expr->List Expr:=eC (M:=λO=>List Expr) (λO e O=>e) (λl O r O=>[l,r]) (λO x O=>[x]) (λt a b O=>[t,a,b]) (λl O g O=>l::g) (λf as O O=>f::as) (λO O O=>[]) (λv O O=>[v]) (λv s O=>[v,s]) (λO O=>[]) (λd O=>d) (λd O O=>d) (λO O O O=>[]) (λO O O O=>[]) (λv O=>v.toList) (λO e O=>e) λO=>[]
def che(i:Nat)(e:Expr):Expr:=((chs e)[i]?).getD default
def shs:F9->List Expr×List F9×List F9:=sC (M:=λO=>List Expr×List F9×List F9) (λd v O=>(v::d,[],[])) (λt O v O=>([v,t],[],[])) (λe O=>([e],[],[])) (λv O=>(v.toList,[],[])) (λO=>([],[],[])) (λO=>([],[],[])) (λt a b O=>([t],a,b)) (λt i b o O=>([t,i],b,o)) (λt b o O=>([t],b,o)) (λO O b O O O O O O O=>([],b,[])) (λO O O b O O O O O O O=>([],b,[])) λO=>([],[],[])
def she(i:Nat)(b:List F9):Expr:=((b.head?.elim [] λs=>(shs s).1)[i]?).getD default
def shb(b:List F9):List F9:=b.head?.elim [] λs=>(shs s).2.1
def sur(s:Str):Bool:=PySem.W.R.anyR s.cps.toList<|λc=>Nf (55296<=c)&&Nf (c<=57343)
theorem aIn(s:Str):(s.cps.any λc=>Nf (55296<=c)&&Nf (c<=57343))=sur s:=by
 unfold sur;rw[← PySem.W.R.anyR_eq,Array.any_toList]
noncomputable def aFk(s:Str):Bool:=s.cps.any λc=>Nf (55296<=c)&&Nf (c<=57343)
theorem aFi(s:Str):(s.cps.any λc=>Nf (55296<=c)&&Nf (c<=57343))=aFk s:=rfl
theorem aFh:aFk=sur:=funext aIn
def aBr(_ _:K7):Type:=Unit
noncomputable def aBr.same(b:K7):aBr b b:=()
def qP:(f:(Str->Bool)->K7)×aBr PySem.W.Fast.tw4202317264376624991 (f aFk):=by
 refine⟨?f,?e⟩
 rotate_left
 .delta PySem.W.Fast.tw4202317264376624991
  dsimp +instances -zeta -zetaDelta -beta -eta -iota -proj only[aFi];generalize aFk=g;exact aBr.same _
def vT:K7:=qP.1 sur
theorem vS:PySem.W.Fast.tw4202317264376624991=vT:=
 Eq.trans (b:=qP.1 aFk) (by kernel_rfl) (congrArg qP.1 aFh)
noncomputable abbrev P:=PySem.Challenge.pw_dm0046_08
noncomputable def kS(k:Const):Str:=match k with
 | .str s=>s
 | _=>D6
def ex1:Expr->Str:=eCC (M:=λO=>Str) (λO=>D6) (λO O O O=>D6) λk O O=>kS k
def st1(f:Expr->Expr):F9->F9:=sFW (M:=λO=>F9) (λs=>s) .If .For .While λe p=>.Expr (f e) p
def st2(f:List F9->List F9):F9->F9:=sFC (M:=λO=>F9) (λs=>s) .FunctionDef (λn a d b e g h i j o p=>.ClassDef n a d (f b) e g h i j o p) .Expr
def aJj(p:Program):Str:=ex1<|she 0<|shb [p.main.body.getD 5<|.Pass ⟨0,0,0,0⟩]
def ex2(s:Str):Expr->Expr:=eCC (M:=λO=>Expr) (λe=>e) .Call λO k p=>.Constant (.str s) k p
def aCN(p:Program)(s:Str):Program:={p with main:={p.main with body:=p.main.body.modify 5 (st2 λb=>b.modify 0<|st1<|ex2 s)} }
def vM(_ _:Str):Type:=Unit
noncomputable def vM.list(l:List Char):vM (S9<|String.ofList l) ⟨(l.map Char.toNat).toArray⟩:=()
def aHR:(l:List Char)×vM (aJj P) ⟨(l.map Char.toNat).toArray⟩:=by
 refine⟨?l,?e⟩
 rotate_left
 .with_unfolding_all exact vM.list _
theorem aNg:aJj P=⟨(aHR.1.map Char.toNat).toArray⟩:=Fast.ofString_ofList aHR.1
theorem aTm:P=aCN P ⟨(aHR.1.map Char.toNat).toArray⟩:=by
 rw[← aNg];kernel_rfl
def qT(id:String):Option K7:=
 @Bool.rec (λO=>Option K7) (PySem.W.Fast.tw1115789885857029328.find<|PySem.W.Fast.tw13482112738370960269 id) (Na vT)
  (T6 (PySem.W.Fast.tw13482112738370960269 id)<|PySem.W.Fast.tw13482112738370960269 "type.__new__")
theorem aHB:PySem.W.Fast.tw1115789885857029328.find (PySem.W.Fast.tw13482112738370960269 "type.__new__")=Na PySem.W.Fast.tw4202317264376624991:=by kernel_rfl
theorem aCE:treeTable=qT:=by
 rw[PySem.W.Fast.te14364793385576792824]
 funext id
 show PySem.W.Fast.tw1115789885857029328.find (PySem.W.Fast.tw13482112738370960269 id)=_;unfold qT;cases h:T6 (PySem.W.Fast.tw13482112738370960269 id) (PySem.W.Fast.tw13482112738370960269 "type.__new__") with
 | true=>rw[H7 h,aHB,vS]
 | false=>rfl
def aQ4:Str:=⟨(aHR.1.map Char.toNat).toArray⟩
def PQ:Program:=aCN P aQ4
def dC(i:Nat):F9:=P.main.body.getD i<|.Pass ⟨0,0,0,0⟩
def fG(i j:Nat):F9:=(shb [dC i]).getD j<|.Pass ⟨0,0,0,0⟩
def fnP(d:α)(f:Str->Arguments->Scope->α):F9->α:=sFC (M:=λO=>α) (λO=>d) (λn a O O O O s O O O=>f n a s) (λO O O O O O O O O O O=>d) λO O=>d
def aIP:F9->Str:=fnP D6 λn O O=>n
def aJp:F9->Arguments:=fnP ⟨[],[],Nb,[],[],Nb,[]⟩ λO a O=>a
def gR(s:F9):List F9:=shb [s]
def aCO:F9->Scope:=fnP ⟨.function,[],Nd,Nd,[]⟩ λO O s=>s
noncomputable def aSN(b:List F9):Option Tok->A3
 | some t=>(match docOf b with
  | some s=>.str s t
  | none=>.none)
 | none=>.none
def fd(st:F9)(qual:Str)(dV:A3)(dt:Option Tok)(pm cd:A3)(an:Option E3):I8:=
 {name:=aIP st,qualname:=qual,params:=aJp st,body:=.stmts<|gR st,scope:=aCO st,globals:=3,closure:=[],defaults:=dV,kwdefaults:=.none,doc:=aSN (gR st) dt,pyModule:=pm,annotations:=an,code:=cd,closureTuple:=.none,builtins:=0}
def fn(st:F9)(qual:Str)(dV:A3)(dt:Option Tok)(pm cd:A3)(an:Option E3):Obj:=⟨.type "function",Nb,.func<|fd st qual dV dt pm cd an,#[]⟩
noncomputable def en(W:Params)(x:Str)(t:Tok)(v:A3):DictEntry:=⟨PyData.keyHash W x,.str x t,v⟩
noncomputable def e0:Obj:=⟨.none,Nb,.fields #[],#[]⟩
noncomputable def mD:A3:=.str (S9 "cpy313.difflib") 194
noncomputable def mL:A3:=.str (S9 "law_dm0046_08") 648
noncomputable def cO(r:E3)(x q:String)(t:Nat)(l n f:Int)(t2:Nat)(b:Bool):Obj:=
 have d (t:Nat):A3:=.str (S9 "/claim/cut.py") t;have a (k:Nat):A3:=cond b (.ref<|r+k) .none
 ⟨.type "code",Nb,.fields #[.str (S9 x) t,.str (S9 q)<|t+1,d<|t+2,.int l 0,.int n 0,.int 0 0,.int 0 0,.int f 0,.ref<|r-1,.bool Nc,.int 181 0,.ref r,.none,a 1,a 2,.ref<|r+cond b 3 1,.int t2 0,.int l 0,d<|t2+1],#[]⟩
def fO(m:A3)(st:F9)(q:String)(dV:A3)(dt:Option Tok)(cd:E3)(an:Option E3):Obj:=fn st (S9 q) dV dt m (.ref cd) an
def enR(f:String->A3)(W:Params)(l:List String):Nat->List DictEntry:=List.rec (motive:=λO=>Nat->List DictEntry) (λO=>[]) (λx O r t=>en W (S9 x) t (f x)::r (t+1)) l
def K(W:Params):Frag:=
 [(0,⟨.type "dict",Nb,.dict ([en W (S9 "__name__") 1<|.str (S9 "builtins") 160,en W (S9 "__doc__") 2<|.builtin "builtins.__doc__:str#opaque",en W (S9 "__package__") 3<|.builtin "builtins.__package__:str#opaque",en W (S9 "__loader__") 4<|.builtin "builtins.__loader__:shared#opaque",en W (S9 "__spec__") 5<|.builtin "builtins.__spec__#opaque"]++(enR .builtin W ["__build_class__","__import__","abs","all","any","ascii","bin","breakpoint","callable","chr","compile","delattr","dir","divmod","eval","exec","format","getattr","globals","hasattr","hash","hex","id","input","isinstance","issubclass","iter","aiter","len","locals","max","min","next","anext","oct","ord","pow","print","repr","round","setattr","sorted","sum","vars"] 6++([en W (S9 "None") 50 .none,en W (S9 "Ellipsis") 51 .ellipsis,en W (S9 "NotImplemented") 52 .notImplemented,en W (S9 "False") 53<|.bool Nd,en W (S9 "True") 54<|.bool Nc]++(enR .type W ["bool","memoryview","bytearray","bytes","classmethod","complex","dict","enumerate","filter","float","frozenset","property","int","list","map","object","range","reversed","set","slice","staticmethod","str","super","tuple","type","zip"] 55++([en W (S9 "__debug__") 81<|.bool Nc]++(enR .type W ["BaseException","BaseExceptionGroup","Exception","GeneratorExit","KeyboardInterrupt","SystemExit","ArithmeticError","AssertionError","AttributeError","BufferError","EOFError","ImportError","LookupError","MemoryError","NameError","OSError","ReferenceError","RuntimeError","StopAsyncIteration","StopIteration","SyntaxError","SystemError","TypeError","ValueError","Warning","FloatingPointError","OverflowError","ZeroDivisionError","BytesWarning","DeprecationWarning","EncodingWarning","FutureWarning","ImportWarning","PendingDeprecationWarning","ResourceWarning","RuntimeWarning","SyntaxWarning","UnicodeWarning","UserWarning","BlockingIOError","ChildProcessError","ConnectionError","FileExistsError","FileNotFoundError","InterruptedError","IsADirectoryError","NotADirectoryError","PermissionError","ProcessLookupError","TimeoutError","IndentationError","_IncompleteInputError","IndexError","KeyError","ModuleNotFoundError","NotImplementedError","PythonFinalizationError","RecursionError","UnboundLocalError","UnicodeError","BrokenPipeError","ConnectionAbortedError","ConnectionRefusedError","ConnectionResetError","TabError","UnicodeDecodeError","UnicodeEncodeError","UnicodeTranslateError","ExceptionGroup"] 82++([en W (S9 "EnvironmentError") 151<|.type "OSError",en W (S9 "IOError") 152<|.type "OSError",en W (S9 "open") 153<|.builtin "open",en W (S9 "quit") 154<|.builtin "builtins.quit#opaque",en W (S9 "exit") 155<|.builtin "builtins.exit#opaque",en W (S9 "copyright") 156<|.builtin "builtins.copyright#opaque",en W (S9 "credits") 157<|.builtin "builtins.credits#opaque",en W (S9 "license") 158<|.builtin "builtins.license#opaque",en W (S9 "help") 159<|.builtin "builtins.help#opaque"]))))))).toArray 159,#[]⟩),
  (1,⟨.type "dict",Nb,.dict #[en W (S9 "builtins") 162<|.ref 4,en W (S9 "__main__") 163<|.ref 5] 2,#[]⟩),
  (2,⟨.none,Nb,.dict #[] 0,#[]⟩),
  (3,⟨.type "dict",Nb,.dict #[en W (S9 "__name__") 165<|.str (S9 "law_dm0046_08") 648,en W (S9 "__doc__") 166 .none,en W (S9 "__package__") 167 .none,en W (S9 "__loader__") 168<|.builtin "__main__.__loader__#opaque",en W (S9 "__spec__") 169 .none,en W (S9 "__annotations__") 170<|.ref 6,en W (S9 "__builtins__") 171<|.ref 4,en W (S9 "__file__") 173<|.str (S9 "/claim/cut.py") 172,en W (S9 "__cached__") 174 .none,en W (S9 "_wall") 193<|.ref 21,en W (S9 "_tuplegetter") 252<|.ref 60,en W (S9 "Match") 380<|.ref 135,en W (S9 "_calculate_ratio") 388<|.ref 145,en W (S9 "SequenceMatcher") 591<|.ref 242,en W (S9 "_format_range_unified") 602<|.ref 253,en W (S9 "unified_diff") 637<|.ref 261,en W (S9 "_check_types") 647<|.ref 268,en W (S9 "_law_versions") 665<|.ref 275,en W (S9 "_law_range") 673<|.ref 282,en W (S9 "_law_head") 684<|.ref 289,en W (S9 "_law_steps") 690<|.ref 294,en W (S9 "_law_run_kept") 696<|.ref 299,en W (S9 "_law_read") 702<|.ref 304,en W (S9 "law") 708<|.ref 309] 24,#[]⟩),
  (77,e0),
  (81,cO 77 "__new__" "Match.__new__" 274 29 4 3 281 Nc),
  (82,fO mD (fG 3 4) "Match.__new__" .none (Na 283) 81 Nb),
  (84,e0),
  (88,cO 84 "_make" "Match._make" 285 33 2 3 291 Nc),
  (89,fO mD (fG 3 5) "Match._make" .none (Na 293) 88<|Na 92),
  (91,⟨.type "classmethod",Na 90,.fields #[.ref 89,.bool Nd],#[]⟩),
  (134,⟨.type "dict",Nb,.dict #[en W (S9 "__module__") 260<|.str (S9 "cpy313.difflib") 194,en W (S9 "__firstlineno__") 264<|.int 23 263,en W (S9 "__doc__") 266<|.str (S9 "Match(a, b, size)") 265,en W (S9 "__slots__") 268<|.ref 73,en W (S9 "_fields") 272<|.ref 74,en W (S9 "_field_defaults") 273<|.ref 75,en W (S9 "__new__") 284<|.ref 136,en W (S9 "_make") 306<|.ref 91,en W (S9 "_replace") 317<|.ref 100,en W (S9 "__replace__") 318<|.ref 100,en W (S9 "__repr__") 326<|.ref 107,en W (S9 "_asdict") 333<|.ref 114,en W (S9 "__getnewargs__") 341<|.ref 121,en W (S9 "__match_args__") 345<|.ref 122,en W (S9 "a") 355<|.ref 124,en W (S9 "b") 365<|.ref 127,en W (S9 "size") 375<|.ref 130,en W (S9 "__static_attributes__") 376<|.ref 132] 2,#[]⟩),
  (135,⟨.type "type",Nb,.cls {name:=S9 "Match",bases:=[.type "tuple"],mro:=[.ref 135,.type "tuple",.type "object"],ns:=134,qualname:=S9 "Match",hasDict:=Nd,slotNames:=[],subclasses:=[],abstract:=Nd,collection:=Nb,hasDel:=Nd},#[Na<|.ref 65,Nb,Na<|.str (S9 "Match") 253,Na<|.str (S9 "Match") 261,Na .none,Na<|.bool Nd]⟩),
  (136,⟨.type "staticmethod",Nb,.fields #[.ref 82],#[]⟩),
  (153,⟨.type "tuple",Nb,.seq #[.none,.str (S9 "") 404,.str (S9 "") 405,.bool Nc] 0,#[]⟩),
  (155,e0),
  (159,cO 155 "__init__" "SequenceMatcher.__init__" 406 145 5 3 414 Nc),
  (160,fO mD (fG 5 1) "SequenceMatcher.__init__" (.ref 153) (Na 416) 159 Nb),
  (162,e0),
  (166,cO 162 "set_seqs" "SequenceMatcher.set_seqs" 418 173 3 3 424 Nc),
  (167,fO mD (fG 5 2) "SequenceMatcher.set_seqs" .none (Na 426) 166 Nb),
  (169,e0),
  (173,cO 169 "set_seq1" "SequenceMatcher.set_seq1" 428 184 2 3 433 Nc),
  (174,fO mD (fG 5 3) "SequenceMatcher.set_seq1" .none (Na 435) 173 Nb),
  (176,e0),
  (180,cO 176 "set_seq2" "SequenceMatcher.set_seq2" 437 209 2 3 442 Nc),
  (181,fO mD (fG 5 4) "SequenceMatcher.set_seq2" .none (Na 444) 180 Nb),
  (183,e0),
  (187,cO 183 "__chain_b" "SequenceMatcher.__chain_b" 446 236 1 3 461 Nc),
  (188,fO mD (fG 5 5) "SequenceMatcher.__chain_b" .none Nb 187 Nb),
  (189,⟨.type "tuple",Nb,.seq #[.int 0 464,.none,.int 0 465,.none] 0,#[]⟩),
  (191,e0),
  (195,cO 191 "find_longest_match" "SequenceMatcher.find_longest_match" 466 260 5 3 488 Nc),
  (196,fO mD (fG 5 6) "SequenceMatcher.find_longest_match" (.ref 189) (Na 490) 195 Nb),
  (198,e0),
  (202,cO 198 "get_matching_blocks" "SequenceMatcher.get_matching_blocks" 492 335 1 3 515 Nc),
  (203,fO mD (fG 5 7) "SequenceMatcher.get_matching_blocks" .none (Na 517) 202 Nb),
  (205,e0),
  (209,cO 205 "get_opcodes" "SequenceMatcher.get_opcodes" 519 383 1 3 530 Nc),
  (210,fO mD (fG 5 8) "SequenceMatcher.get_opcodes" .none (Na 532) 209 Nb),
  (211,⟨.type "tuple",Nb,.seq #[.int 3 534] 0,#[]⟩),
  (213,e0),
  (217,cO 213 "get_grouped_opcodes" "SequenceMatcher.get_grouped_opcodes" 535 430 2 35 548 Nc),
  (218,fO mD (fG 5 9) "SequenceMatcher.get_grouped_opcodes" (.ref 211) (Na 550) 217 Nb),
  (241,⟨.type "dict",Nb,.dict #[en W (S9 "__module__") 396<|.str (S9 "cpy313.difflib") 194,en W (S9 "__firstlineno__") 400<|.int 70 399,en W (S9 "__doc__") 402<|.str aQ4 401,en W (S9 "__init__") 417<|.ref 160,en W (S9 "set_seqs") 427<|.ref 167,en W (S9 "set_seq1") 436<|.ref 174,en W (S9 "set_seq2") 445<|.ref 181,en W (S9 "_SequenceMatcher__chain_b") 463<|.ref 188,en W (S9 "find_longest_match") 491<|.ref 196,en W (S9 "get_matching_blocks") 518<|.ref 203,en W (S9 "get_opcodes") 533<|.ref 210,en W (S9 "get_grouped_opcodes") 551<|.ref 218,en W (S9 "ratio") 560<|.ref 225,en W (S9 "quick_ratio") 567<|.ref 232,en W (S9 "real_quick_ratio") 574<|.ref 239,en W (S9 "__static_attributes__") 585<|.ref 240,en W (S9 "__dict__") 587<|.ref 243,en W (S9 "__weakref__") 589<|.ref 244] 3,#[]⟩),
  (242,⟨.type "type",Nb,.cls {name:=S9 "SequenceMatcher",bases:=[.type "object"],mro:=[.ref 242,.type "object"],ns:=241,qualname:=S9 "SequenceMatcher",hasDict:=Nc,slotNames:=[],subclasses:=[],abstract:=Nd,collection:=Nb,hasDel:=Nd},#[Nb,Nb,Na<|.str (S9 "SequenceMatcher") 389,Na<|.str (S9 "SequenceMatcher") 397,Na<|.builtin "object.__new__",Na<|.bool Nc]⟩),
  (248,e0),
  (252,cO 248 "_format_range_unified" "_format_range_unified" 592 504 2 3 599 Nc),
  (253,fO mD (dC 6) "_format_range_unified" .none (Na 601) 252 Nb),
  (254,⟨.type "tuple",Nb,.seq #[.str (S9 "") 603,.str (S9 "") 604,.str (S9 "") 605,.str (S9 "") 606,.int 3 607,.str (S9 "\n") 608] 0,#[]⟩),
  (256,e0),
  (260,cO 256 "unified_diff" "unified_diff" 609 513 8 35 634 Nc),
  (261,fO mD (dC 7) "unified_diff" (.ref 254) (Na 636) 260 Nb),
  (263,e0),
  (267,cO 263 "_check_types" "_check_types" 638 576 2 7 645 Nc),
  (268,fO mD (dC 8) "_check_types" .none Nb 267 Nb),
  (270,e0),
  (274,cO 270 "_law_versions" "_law_versions" 650 585 1 3 663 Nc),
  (275,fO mL (dC 10) "_law_versions" .none Nb 274 Nb),
  (277,e0),
  (281,cO 277 "_law_range" "_law_range" 666 599 2 3 671 Nc),
  (282,fO mL (dC 11) "_law_range" .none Nb 281 Nb),
  (284,e0),
  (288,cO 284 "_law_head" "_law_head" 674 603 4 3 682 Nc),
  (289,fO mL (dC 12) "_law_head" .none Nb 288 Nb),
  (291,e0),
  (293,cO 291 "_law_steps" "_law_steps" 685 606 2 3 688 Nd),
  (294,fO mL (dC 13) "_law_steps" .none Nb 293 Nb),
  (296,e0),
  (298,cO 296 "_law_run_kept" "_law_run_kept" 691 630 1 3 694 Nd),
  (299,fO mL (dC 14) "_law_run_kept" .none Nb 298 Nb),
  (301,e0),
  (303,cO 301 "_law_read" "_law_read" 697 647 3 3 700 Nd),
  (304,fO mL (dC 15) "_law_read" .none Nb 303 Nb),
  (306,e0),
  (308,cO 306 "law" "law" 703 674 1 3 706 Nd),
  (309,fO mL (dC 16) "law" .none Nb 308 Nb)]
open PySem.Calls
inductive Ex2.{u0,u1}{fa:Sort u0}{fe:Sort u1}(P:fa->fe->Prop):Prop | mk (a:fa) (b:fe) (h:P a b):Ex2 P
inductive Ex3.{u0,u1,u2}{fa:Sort u0}{fe:Sort u1}{g4:Sort u2}(P:fa->fe->g4->Prop):Prop | mk (a:fa) (b:fe) (c:g4) (h:P a b c):Ex3 P
inductive Ex4.{u0,u1,u2,u3}{fa:Sort u0}{fe:Sort u1}{g4:Sort u2}{gf:Sort u3}(P:fa->fe->g4->gf->Prop):Prop | mk (a:fa) (b:fe) (c:g4) (d:gf) (h:P a b c d):Ex4 P
inductive Ex5.{u0,u1,u2,u3,u4}{fa:Sort u0}{fe:Sort u1}{g4:Sort u2}{gf:Sort u3}{jf:Sort u4}(P:fa->fe->g4->gf->jf->Prop):Prop | mk (a:fa) (b:fe) (c:g4) (d:gf) (e:jf) (h:P a b c d e):Ex5 P
inductive Ex7.{u0,u1,u2,u3,u4,u5,u6}{fa:Sort u0}{fe:Sort u1}{g4:Sort u2}{gf:Sort u3}{jf:Sort u4}{qa:Sort u5}{qf:Sort u6}(P:fa->fe->g4->gf->jf->qa->qf->Prop):Prop | mk (a:fa) (b:fe) (c:g4) (d:gf) (e:jf) (f:qa) (g:qf) (h:P a b c d e f g):Ex7 P
inductive dH(a0 a1 a2:Prop):Prop | mk (f0:a0) (f1:a1) (f2:a2):dH a0 a1 a2
inductive lY(a0 a1 a2 a3:Prop):Prop | mk (f0:a0) (f1:a1) (f2:a2) (f3:a3):lY a0 a1 a2 a3
inductive xV(a0 a1 a2 a3 a4:Prop):Prop | mk (f0:a0) (f1:a1) (f2:a2) (f3:a3) (f4:a4):xV a0 a1 a2 a3 a4
inductive aFI(a0 a1 a2 a3 a4 a5:Prop):Prop | mk (f0:a0) (f1:a1) (f2:a2) (f3:a3) (f4:a4) (f5:a5):aFI a0 a1 a2 a3 a4 a5
abbrev aM(h h':O7):Prop:=∀b o,h.get? b=Na o->h'.get? b=Na o
theorem aM.refl(h:O7):aM h h:=λO O e=>e
theorem aM.trans{a b c:O7}(x:aM a b)(y:aM b c):aM a c:=λO O e=>y _ _<|x _ _ e
structure Gr(w:E9)(h:O7):Prop where
 k:(K w.params).In h
 nolimit:h.NoLimit
 nodigits:∃mc,h.Ns cStatics mc/\mc "sys.int_max_str_digits"=Nb
 b:∃mb,h.Ns builtinsNs mb/\∀x:Str,x≠"__name__"->mb x=bootBuiltins x
theorem Gr.keeps(g:Gr w h)(k:aM h h'):Gr w h':=
 ⟨Frag.In.keeps g.k k,g.nolimit.keeps k,(by obtain⟨e,a,b⟩:=g.nodigits;exact⟨e,a.keeps k,b⟩),(by obtain⟨d,a,b⟩:=g.b;exact⟨d,a.keeps k,b⟩)⟩
noncomputable def lk(l:List<|Str×A3)(x:Str):Option A3:=l.lookup x
noncomputable def sT:U4->A3
 | .ret v=>v
 | _=>.none
noncomputable def mp(l:List<|Str×A3)(m:Str->Option A3):Str->Option A3:=λx=>match l.lookup x with
 | some v=>Na v
 | none=>m x
def put(n:Str)(v:A3):List (Str×A3)->List (Str×A3)
 | []=>[(n,v)]
 | (k,u)::l=>if n=k then (n,v)::l else (k,u)::put n v l
theorem lkc(x k:Str)(u:A3)(l:List<|Str×A3):((k,u)::l).lookup x=if x=k then Na u else l.lookup x:=by
 rw[List.lookup_cons];by_cases h:x=k
 .rw[if_pos h,beq_iff_eq.mpr h]
 .rw[if_neg h,beq_eq_false_iff_ne.mpr h]
theorem aOB(n:Str)(v:A3)(k:Str)(u:A3)(l:List<|Str×A3):put n v ((k,u)::l)=if n=k then (n,v)::l else (k,u)::put n v l:=rfl
theorem yQ(n:Str)(v:A3)(l:List<|Str×A3)(x:Str):(put n v l).lookup x=if x=n then Na v else l.lookup x:=by
 induction l with
 | nil=>exact lkc x n v []
 | cons p l a=>
  obtain⟨k,u⟩:=p;rw[aOB,lkc];by_cases h:n=k
  .subst h;rw[if_pos rfl,lkc];by_cases q:x=n
   .rw[if_pos q,if_pos q]
   .rw[if_neg q,if_neg q,if_neg q]
  .rw[if_neg h,lkc,a];by_cases q:x=k
   .rw[if_pos q,if_neg λz=>h<|z.symm.trans q,if_pos q]
   .rw[if_neg q,if_neg q]
theorem uM(l:List<|Str×A3)(m:Str->Option A3)(n:Str)(v:A3):(λx=>if x=n then Na v else mp l m x)=mp (put n v l) m:=by
 funext x
 unfold mp;rw[yQ];by_cases h:x=n
 .simp[h]
 .simp[h]
theorem aIW(l:List<|Str×A3):lk l=mp l (λO=>Nb):=by
 funext x
 unfold lk mp;cases l.lookup x <;> rfl
structure WP(w:E9)(A:M2){α:Type}(t:Sem α)(Q:α->A6->Prop)(E:A3->A6->Prop)(s:A6):Prop where
 of::run:M8 (model P w) A t Q E s
section
variable(w:E9)(A:M2)
abbrev Ke{α β:Type}(f:α->Sem β)(Q:β->A6->Prop)(E:A3->A6->Prop):α->A6->Prop:=λa s=>WP w A (f a) Q E s
abbrev Kx(rest:List F9)(env:Env)(Q:U4->A6->Prop)(E:A3->A6->Prop):U4->A6->Prop:=λf s'=>match f with
 | .next=>WP w A (execs rest env) Q E s'
 | f=>Q f s'
abbrev Kb(r:Expr)(env:Env)(op:A3->A3->Sem A3)(Q:A3->A6->Prop)(E:A3->A6->Prop):A3->A6->Prop:=λa s=>WP w A (eval r env) (Ke w A (op a) Q E) E s
abbrev Kq(Q:U4->A6->Prop):Unit->A6->Prop:=λO s=>Q .next s
abbrev Kr(Q:U4->A6->Prop):A3->A6->Prop:=λv s=>Q (.ret v) s
abbrev Ki(body orelse:List F9)(env:Env)(Q:U4->A6->Prop)(E:A3->A6->Prop):Bool->A6->Prop:=λb s=>(b=Nc->WP w A (execs body env) Q E s)/\(b=Nd->WP w A (execs orelse env) Q E s)
abbrev Km(n:Str)(pos:Pos)(az:List Expr)(d1:List AA6)(env:Env)(Q:A3->A6->Prop)(E:A3->A6->Prop):A3->A6->Prop:=λov s=>∀pl,WP w A (Y7 ov n pl) (λfx ay=>WP w A (Z9 pos fx.1 fx.2 (I9 pos<|C0 az env)<|K4 pos<|G5 d1 env) Q E ay) E s
abbrev Kw(f:A3)(first:List A3)(Q:A3->A6->Prop)(E:A3->A6->Prop):List A3->A6->Prop:=λvs s=>WP w A (PySem.call f (first++vs)) Q E s
abbrev Kac(pos:Pos)(rest:List Expr)(env:Env)(Q:List A3->A6->Prop)(E:A3->A6->Prop):A3->A6->Prop:=λv s=>WP w A (spliced<|I9 pos<|C0 rest env) (λvs ay=>Q (v::vs) ay) E s
end
section
variable{s:A6}{k:Nat}
theorem WP.mono{α:Type}{t:Sem α}{Q Q':α->A6->Prop}(x:WP w A t Q E s)(q:∀a s',Q a s'->Q' a s'):WP w A t Q' E s:=⟨B7 x.run q λO O e=>e⟩
theorem WP.bind{α β:Type}{t:Sem α}{f:α->Sem β}{Q:β->A6->Prop}(x:WP w A t (λa aj=>WP w A (f a) Q E aj) E s):WP w A (t >>= f) Q E s:=⟨A0<|B7 x.run (λO O y=>y.run) λO O e=>e⟩
theorem WP.in{α:Type}{t:Sem α}{Q:α->A6->Prop}(x:WP w A t Q (λO O=>False) s):WP w A t Q E s:=⟨B7 x.run (λO O y=>y) λO O e=>e.elim⟩
theorem qN{Q:U4->A6->Prop}(q:Q .next s):WP w A (execs [] env) Q E s:=⟨wpAny_execs_nil q⟩
theorem fH{st:F9}{rest:List F9}{Q:U4->A6->Prop}
  (q:WP w A (exec st env) (Kx w A rest env Q E) E s):WP w A (execs (st::rest) env) Q E s:=
 ⟨wpAny_execs_cons<|B7 q.run (λf a y=>by cases f <;> first | exact y.run | exact y) λO O e=>e⟩
theorem aO5{Q:U4->A6->Prop}
  (q:WP w A (isTrue ah env<|eval ah env) (Ki w A body orelse env Q E) E s):WP w A (exec (.If ah body orelse pos) env) Q E s:=
 ⟨wpAny_If<|B7 q.run (λb a y=>by cases b;exact(y.2 rfl).run;exact(y.1 rfl).run) λO O e=>e⟩
theorem aCo{Q:U4->A6->Prop}(q:WP w A (eval e env) (Kr Q) E s):WP w A (exec (.Return (Na e) pos) env) Q E s:=⟨wpAny_Return_some q.run⟩
theorem aO7{Q:U4->A6->Prop}
  (q:WP w A (loadName env x) (λold aj=>WP w A (eval av env) (λv ay=>WP w A (inplaceOp op old v) (λr bl=>WP w A (storeName env x r) (λO c8=>Q .next c8) E bl) E ay) E aj) E s) :
  WP w A (exec (.AugAssign (.Name x pp) op av pos) env) Q E s:=
 ⟨wpAny_AugAssign_Name<|B7 q.run (λO O y=>B7 y.run (λO O z=>B7 z.run (λO O u=>u.run) λO O e=>e) λO O e=>e) λO O e=>e⟩
theorem aQ2(q:WP w A (eval ah env) (Kb w A b9 env (X7 op) Q E) E s):
  WP w A (eval (.BinOp ah op b9 pos) env) Q E s:=⟨wpAny_BinOp<|B7 q.run (λO O y=>B7 y.run (λO O z=>z.run) λO O e=>e) λO O e=>e⟩
theorem aQ1{op:CmpOp}(hm:AA0 op b9=Nd)(q:WP w A (eval ah env) (Kb w A b9 env (E6 op) Q E) E s):
  WP w A (eval (.Compare ah [op] [b9] pos) env) Q E s:=⟨wpAny_Compare1 (B7 q.run (λO O y=>B7 y.run (λO O z=>z.run) λO O e=>e) λO O e=>e) hm⟩
theorem aJo{op:CmpOp}{Q:Bool->A6->Prop}(hm:AA0 op b9=Nd)
  (q:WP w A (eval ah env) (Kb w A b9 env (E6 op) (Ke w A truthy Q E) E) E s) :
  WP w A (isTrue (.Compare ah [op] [b9] pos) env<|eval (.Compare ah [op] [b9] pos) env) Q E s:=
 ⟨wpAny_isTrue_Compare1 (B7 q.run (λO O y=>B7 y.run (λO O z=>B7 z.run (λO O u=>u.run) λO O e=>e) λO O e=>e) λO O e=>e) hm⟩
theorem aQl{t:Sem A3}{Q:Bool->A6->Prop}(q:WP w A (isTrue e env<|eval e env) (λc s'=>Q (!c) s') E s):WP w A (isTrue (.UnaryOp .Not e pos) env t) Q E s:=⟨isTrue_not q.run⟩
theorem fN{o:Expr}{n:Str}(hb:∀t,V9 o n env t=t)
  (hf:O5 (es.length+d1.length) (I9 pos<|C0 es env) (K4 pos<|G5 d1 env)=Nc) (hl:(fk.endLine==pos.line)=Nc)
  (q:WP w A (eval o env) (Km w A n pos es d1 env Q E) E s) :
  WP w A (eval (.Call (.Attribute o n fk) es d1 pos) env) Q E s:=by
 refine⟨?_⟩;rw[arm_eval_Call,hb _];refine A0<|B7 q.run (λj g a=>?_) λO O e=>e;refine A0<|P8 ?_;have d:methodCallPos Nc o env fk pos=pure pos:=by unfold methodCallPos;simp[hl]
 unfold methodCall;rw[hf];exact A0<|G9<|B7 (a _).run (λi h b=>A0<|P0 d b.run) λO O e=>e
theorem aF4{id:String}(he:C0 (e::rest) env=(Nd,eval e env)::C0 rest env)
  (hp:(I9 pos<|C0 rest env).any (·.1)=Nd) (q:WP w A (spliced<|I9 pos<|C0 (e::rest) env) (Kw w A (.builtin id) vs Q E) E s) :
  WP w A (Z9 pos (.builtin id) vs (I9 pos<|C0 (e::rest) env)<|K4 pos<|G5 [] env) Q E s:=
 ⟨callWith_method1 (B7 q.run (λO O y=>y.run) λO O e=>e) he hp⟩
theorem dZ{Q:List A3->A6->Prop}(he:C0 (e::rest) env=(Nd,eval e env)::C0 rest env)
  (q:WP w A (eval e env) (Kac w A pos rest env Q E) E s):WP w A (spliced<|I9 pos<|C0 (e::rest) env) Q E s:=
 ⟨args_cons (B7 q.run (λO O y=>y.run) λO O e=>e) he⟩
theorem lG{Q:List A3->A6->Prop}(q:Q [] s):WP w A (spliced<|I9 pos<|C0 [] env) Q E s:=⟨args_nil q⟩
theorem qA{Q:Bool->A6->Prop}(q:Q b' s):WP w A (truthy<|.bool b') Q E s:=⟨wpAny_truthy_bool q⟩
theorem aJi(q:∀t k',Q (.int i t) ⟨h,g,d,k',os⟩):WP w A (eval (.Constant (.int i) B pos) env) Q E ⟨h,g,d,k,os⟩:=⟨wpAny_Constant_int<|q _ _⟩
theorem aEF(q:∀t k',Q (.str x t) ⟨h,g,d,k',os⟩):WP w A (eval (.Constant (.str x) B pos) env) Q E ⟨h,g,d,k,os⟩:=⟨wpAny_Constant_str<|q _ _⟩
theorem aOR(q:∀t' k',Q (.int (i+j) t') ⟨h,g,d,k',os⟩):WP w A (X7 .Add (.int i ti)<|.int j tj) Q E ⟨h,g,d,k,os⟩:=⟨add_int<|q _ _⟩
theorem aOQ(q:∀t' k',Q (.int (i-j) t') ⟨h,g,d,k',os⟩):WP w A (X7 .Sub (.int i ti)<|.int j tj) Q E ⟨h,g,d,k,os⟩:=⟨sub_int'<|q _ _⟩
theorem aSU(q:Q (.bool<|i==j) ⟨h,g,d,k,os⟩):WP w A (E6 .Eq (.int i ti)<|.int j tj) Q E ⟨h,g,d,k,os⟩:=⟨eq_int q⟩
theorem aIA{Q:U4->A6->Prop}(hi:interactive env=Nd)(hs:swapsWith (.Constant (.str x) B pp) Nb pos.line env=pure Nd)(q:∀k',Q .next ⟨h,g,d,k',os⟩):
  WP w A (exec (.Expr (.Constant (.str x) B pp) pos) env) Q E ⟨h,g,d,k,os⟩:=⟨wpAny_Expr (wpAny_Constant_str<|q _) hi hs⟩
end
abbrev OD:=Obj->Prop
variable{σ:List<|E3×OD}{D':OD}
def At(h:O7)(a:E3)(D:OD):Prop:=∃o,h.get? a=Na o/\D o
theorem At.keep{D:OD}(x:At h I D)(k:aM h h'):At h' I D:=(by obtain⟨o,e,q⟩:=x;exact⟨o,k _ _ e,q⟩)
theorem At.same(x:At h I D')(k:P5 M h h')(n:I≠M):At h' I D':=(by obtain⟨o,e,q⟩:=x;exact⟨o,(k.2 I n).trans e,q⟩)
def aY(vs:List A3):OD:=λo=>∃n,o={cls:=.type "list",data:=.seq vs.toArray n}
def gI(vs:List A3):OD:=λo=>∃n,o={cls:=.type "tuple",data:=.seq vs.toArray n}
theorem At.isPlain(x:At h I<|aY vs):h.PlainList I vs.toArray:=(by obtain⟨_,e,n,q⟩:=x;exact⟨n,q▸e⟩)
theorem At.ofPlain(x:h.PlainList I vs.toArray):At h I<|aY vs:=(by obtain⟨n,e⟩:=x;exact⟨_,e,n,rfl⟩)
theorem At.isList{a:E3}(x:At h a<|aY vs):h.IsList a vs.toArray:=x.isPlain.isList
theorem At.isTuple(x:At h I<|gI vs):h.IsTuple I vs.toArray:=(by obtain⟨_,e,n,q⟩:=x;exact⟨_,e,by rw[q],n,by rw[q]⟩)
theorem At.isTup(x:At h I<|gI vs):IsTup h I vs.toArray:=x.isTuple
theorem aG(h:O7):h.get? h.objs.size=none:=by
 cases e:h.get? h.objs.size with
 | none=>rfl
 | some o=>exact absurd (L6 e)<|Nat.lt_irrefl _
theorem aJ(h:O7)(o:Obj):aM h<|h.push o:=λO O e=>I7 o e
section
variable{s:A6}
theorem aNd
  (q:WP w A (spliced<|I9 pos<|C0 ba env) (λvs aj=>vs.length<=B9/\∀a h',aj.heap.get? a=Nb->aM aj.heap h'->At h' a (aY vs)->Q (.ref a) {aj with heap:=h'}) E s) :
  WP w A (eval (.List ba pos) env) Q E s:=
 ⟨wpAny_List<|B7 q.run (λvs aj y=>⟨y.1,y.2 _ _ (aG _) (aJ _ _) ⟨_,C7 _ rfl,0,rfl⟩⟩) λO O e=>e⟩
theorem aBh 
  (q:WP w A (spliced<|I9 pos<|C0 ba env) (λvs aj=>vs.length<=B9/\∀a h',aj.heap.get? a=Nb->aM aj.heap h'->At h' a (gI vs)->Q (.ref a) {aj with heap:=h'}) E s) :
  WP w A (eval (.Tuple ba B pos) env) Q E s:=
 ⟨wpAny_Tuple<|B7 q.run (λvs aj y=>⟨y.1,y.2 _ _ (aG _) (aJ _ _) ⟨_,C7 _ rfl,0,rfl⟩⟩) λO O e=>e⟩
theorem aBV{pl:Sem Bool}{Q:A3×List A3->A6->Prop}(x:At s.heap I<|aY vs)(q:Q (.builtin "list.append",[.ref I]) s) :
  WP w A (Y7 (.ref I) (S9 "append") pl) Q E s:=
 ⟨getMethod_builtin x.isList.typeIs F.plainAttrs_list F.slot_list_append F.type_list_append (λb e=>by cases e;obtain⟨o,e,n,q⟩:=x;exact⟨o,e,by rw[q]⟩) q⟩
theorem aDU(x:At s.heap I<|aY vs)(hz:vs.length<=B9)
  (q:∀h',At h' I (aY<|vs++[ao])->P5 I s.heap h'->Q .none {s with heap:=h'}):WP w A (PySem.call (.builtin "list.append") [.ref I,ao]) Q E s:=
 ⟨wpAny_list_append_plain x.isPlain (λh' p a=>q h' (.ofPlain<|by simpa using p) a)<|by simpa using hz⟩
def vL(Q:U4->A6->Prop)(J:A6->Prop):U4->A6->Prop
 | .next,s=>J s
 | .cont,s=>J s
 | .brk,s=>Q .next s
 | .ret v,s=>Q (.ret v) s
theorem aFQ{Q:U4->A6->Prop}(I:Nat->A6->Prop)(n:Nat)(h:I n s)
  (turn:∀n s,I n s->WP w A (isTrue ah env<|eval ah env) (λb ay=>
   (b=Nc->WP w A (execs body env) (vL Q λbl=>∃j,j<n/\I j bl) (λO O=>False) ay)/\(b=Nd->WP w A (execs orelse env) Q (λO O=>False) ay)) (λO O=>False) s) :
  WP w A (exec (.While ah body orelse pos) env) Q E s:=by
 refine⟨wpAny_While<|codeAny_whileLoop I (λn s a=>?_) n h⟩;refine B7 (turn n s a).run (λb ay y=>?_) λO O e=>e.elim;cases b with
 | true=>
  refine B7 (y.1 rfl).run (λf bl z=>?_) λO O e=>e.elim;cases f <;> exact z
 | false=>
  exact B7 (y.2 rfl).run (λf bl z=>z) λO O e=>e.elim
theorem aDG{Q:U4->A6->Prop}(I:Nat->A6->Prop)
  (turn:∀n s,I n s->WP w A (W5 ao) (λr aj=>match r with
   | none=>WP w A (execs orelse env) Q (λO O=>False) aj
   | some v=>WP w A (M0 target ao v) (λO ay=>WP w A (assign target env v) (λO bl=>WP w A (execs body env) (vL Q λc8=>∃j,j<n/\I j c8) (λO O=>False) bl) (λO O=>False) ay) (λO O=>False) aj) (λO O=>False) s)
  (n:Nat) (h:I n s):codeAny (model P w) A (.forLoop target ao body orelse env) (λr s'=>match r with | .ok f=>Q f s' | .error _=>False) s:=by
 refine codeAny_loop' rfl I (λn s o=>?_) n h;refine wpAny_noted ?_;refine A0<|P8<|A0<|wpAny_onRaise<|B7 (turn n s o).run (λr aj d=>?_) λO O a=>a.elim;cases r with
 | none=>exact A7<|.inr ⟨rfl,codeAny_block<|B7 d.run (λO O z=>z) λO O e=>e.elim⟩
 | some v=>
  refine A0<|B7 d.run (λO ay g=>?_) λO O e=>e.elim;refine A0<|B7 g.run (λO bl i=>A0<|B7 i.run (λf c8 b=>?_) λO O a=>a.elim) λO O a=>a.elim;cases f with
  | next=>exact A7<|.inl ⟨rfl,b⟩
  | cont=>exact A7<|.inl ⟨rfl,b⟩
  | brk=>exact A7 b
  | ret v=>exact A7 b
theorem aIz{Q:U4->A6->Prop}(hs:∀x,K0 ah env x=pure x)
  (q:WP w A (eval ah env) (λx aj=>WP w A (Y1 x) (λit ay=>Ex2 fun(I:Nat->A6->Prop) (n:Nat)=>I n ay /\
   ∀n s,I n s->WP w A (W5 it) (λr aj=>match r with
   | none=>WP w A (execs orelse env) Q (λO O=>False) aj
   | some v=>WP w A (M0 target it v) (λO ay=>WP w A (assign target env v) (λO bl=>WP w A (execs body env) (vL Q λc8=>∃j,j<n/\I j c8) (λO O=>False) bl) (λO O=>False) ay) (λO O=>False) aj) (λO O=>False) s) E aj) E s) :
  WP w A (exec (.For target ah body orelse pos) env) Q E s:=by
 refine⟨wpAny_For (B7 q.run (λx aj b=>B7 b.run (λit ay d=>?_) λO O e=>e) λO O e=>e) hs⟩;obtain⟨I,n,g,a⟩:=d;refine AB5 (aDG I a n g) λr h z=>?_;obtain e|f:=r
 .exact z.elim
 .exact z
theorem aBn{v:A3}(q:WP w A (storeName env x v) Post E s):WP w A (assign (.Name x pos) env v) Post E s:=⟨wpAny_assign_Name q.run⟩
theorem mJ{it:A3}(q:Post () s):WP w A (M0 (.Name x pos) it ao) Post E s:=⟨A7 q⟩
def gX(l:E3)(i:Nat):OD:=λo=>o.cls=.type "list_iterator"/\o.data=.fields #[.ref l,.int i 0]
theorem aHb(x:At s.heap I<|aY vs)(q:∀a h',s.heap.get? a=Nb->aM s.heap h'->At h' a (gX I 0)->Q (.ref a) {s with heap:=h'}):
  WP w A (Y1<|.ref I) Q E s:=
 ⟨wpAny_pyIter_list x.isList<|q _ _ (aG _) (aJ _ _) ⟨_,C7 _ rfl,rfl,rfl⟩⟩
theorem aAK{Q:Option A3->A6->Prop}(hh:A.handled=Nb)(y:At s.heap I<|gX M B)(x:At s.heap M<|aY vs)
  (q:∀v h',vs[B]?=Na v->At h' I (gX M<|B+1)->P5 I s.heap h'->Q (Na v) {s with heap:=h'})
  (qe:∀h',vs[B]?=Nb->O7.ExtBut I s.heap h'->Q Nb {s with heap:=h'}):WP w A (W5<|.ref I) Q E s:=by
 cases e:vs[B]? with
 | some v=>exact⟨wpAny_pyNext_list_item y x.isList (by simpa using e) λh' z a=>q v h' e z a⟩
 | none=>exact⟨wpAny_pyNext_list_end hh y x.isList (by simpa using e) λh' a=>qe h' e a⟩
theorem yA{Q:U4->A6->Prop}(hi:interactive env=Nd)(hs:swapsWith e Nb pos.line env=pure Nd)(q:WP w A (eval e env) (λO aj=>Q .next aj) E s):WP w A (exec (.Expr e pos) env) Q E s:=
 ⟨wpAny_Expr_any q.run hi hs⟩
theorem aQ0 
  (q:WP w A (isTrue ah env<|eval ah env) (λc ay=>(c=Nc->WP w A (eval b9 env) Q E ay)/\(c=Nd->WP w A (eval tg env) Q E ay)) E s):WP w A (eval (.IfExp ah b9 tg pos) env) Q E s:=
 ⟨IfExp_<|B7 q.run (λc ay y=>by cases c;exact(y.2 rfl).run;exact(y.1 rfl).run) λO O e=>e⟩
theorem aQh(q:Q (.bool<|x==y) s):WP w A (E6 .Eq (.str x ti)<|.str y tj) Q E s:=⟨PyProof.Rows.eq_str q⟩
theorem aAB(y:At s.heap I<|gX M C)(q:Post () s):WP w A (M0 (.Tuple ba B pos) (.ref I)<|.ref dx) Post E s:=
 ⟨wpAny_letOwnedTupleGo_listiter y q⟩
theorem aNB(hh:A.handled=Nb)(x:At s.heap I<|gI vs)(hn:(E7 ba env).length=vs.length)
  (hs:(E7 ba env).findIdx? (·.1)=Nb) (q:∀h',aM s.heap h'->WP w A (O6 ((E7 ba env).map (·.2)) vs) Post E {s with heap:=h'}):WP w A (assign (.Tuple ba B pos) env<|.ref I) Post E s:=
 ⟨wpAny_assign_Tuple hh x.isTuple (by simpa using hn) hs λh' a=>(q h' λb o e=>a b o (W6<|L6 e) e).run⟩
theorem aNL(q:Post () s):WP w A (O6 [] []) Post E s:=⟨wpAny_assignInOrder_none q⟩
theorem aIm(q:WP w A (storeName env x ao) (λO aj=>WP w A (O6 ((E7 rest env).map (·.2)) vs) Post E aj) E s):
  WP w A (O6 ((E7 (.Name x pos::rest) env).map (·.2))<|ao::vs) Post E s:=
 ⟨wpAny_assignInOrder_more<|B7 (wpAny_assign_Name q.run) (λO O y=>y.run) λO O e=>e⟩
end
inductive vO{α β:Type}(R:α->β->Prop):List α->List β->Prop
 | nil:vO R [] []
 | cons {a b as bs}:R a b->vO R as bs->vO R (a::as) (b::bs)
theorem vO.len{α β:Type}{R:α->β->Prop}{as:List α}{bs:List β}(x:vO R as bs):as.length=bs.length:=by
 induction x with
 | nil=>rfl
 | cons _ _ a=>simp[a]
theorem vO.at{α β:Type}{R:α->β->Prop}{as:List α}{bs:List β}(x:vO R as bs){i:Nat}{a:α}(e:as[i]?=Na a):∃b,dH (bs[i]?=Na b) (R a b)<|bs.drop i=b::bs.drop (i+1):=by
 induction x generalizing i with
 | nil=>simp at e
 | cons h t n=>
  cases i with
  | zero=>simp at e;subst e;exact⟨_,rfl,h,rfl⟩
  | succ i=>simp at e;obtain⟨b,d,g,j⟩:=n e;exact⟨b,by simpa using d,g,by simpa using j⟩
theorem aA1(w:E9)(c:Code):(model P w).den c=denote qT c:=by
 show denote table c=_;rw[table_eq_tree,aCE]
inductive Ora where
 | kk
 | old (o:Obj)
 | stop
variable{ol:List Ora}
structure YS where
 k:Nat
 os:List Ora
 used:List (E3×Obj)
 news:List Obj
def Met(h:O7)(u:List<|E3×Obj):Prop:=∀p∈u,h.get? p.1=Na p.2
structure HI(h:O7)(l:List Obj)(h':O7):Prop where
 keep:aM h h'
 size:h'.objs.size=h.objs.size+l.length
 at_:∀(i:Nat)(o:Obj),l[i]?=Na o->h'.get? (h.objs.size+i)=Na o
 same:l=[]->h'=h
theorem HI.nil(h:O7):HI h [] h:=⟨aM.refl _,rfl,(λi o e=>by rw[List.getElem?_nil] at e;cases e),λO=>rfl⟩
theorem HI.push{l:List Obj}(x:HI h l h'){o:Obj}(f:o.isFreed=Nd):HI h (l++[o])<|h'.push o:=by
 refine⟨x.keep.trans<|aJ _ _,?_,λi p e=>?_,λz=>absurd z<|List.append_ne_nil_of_right_ne_nil _<|List.cons_ne_nil _ _⟩
 .rw[P4,x.size,A5];rfl
 .obtain q|rfl|q:=Nat.lt_trichotomy i l.length
  .rw[L5 q] at e;exact aJ _ _ _ _ (x.at_ i p e)
  .rw[D9] at e;cases e
   rw[← x.size];exact C7 _ f
  .rw[M6<|I2 q,O1<|Nat.sub_pos_of_lt q] at e;cases e
inductive SV(α:Type) where
 | nx (t:Sem α)
 | pu (a:α)
 | fr (f:Tok->Sem α)
 | al (o:Obj) (f:E3->Sem α)
 | ld (a:E3) (f:Obj->Sem α)
 | cl (c:Code) (hd:Option A3) (f:Result->Sem α)
 | no
noncomputable def stp(st:Setting){α:Type}(t:Sem α):SV α:=
 @Sem.casesOn α (λO=>SV α) t (λa=>.pu a) (λO=>.no) (λO=>.no) (λO=>.no) (λO f=>.nx<|f ()) (λO f=>.nx<|f ()) (λa O f=>.ld a f) (λO O O O=>.no) (λo f=>.al o f) (λO O=>.no) (λO f=>.nx<|f ())
  (λO O=>.no) (λf=>.fr f) (λf=>.nx<|f st) (λO O O=>.no) (λO O O=>.no) (λc b O O f=>.cl c b f) (λO O=>.no) (λO O=>.no) (λO O=>.no) (λO O O O=>.no) (λO O O O=>.no) (λO=>.no) (λO O=>.no) (λO=>.no) (λO O O O O=>.no)
noncomputable def puO{α:Type}:SV α->Option α
 | .pu a=>Na a
 | _=>Nb
noncomputable def clO{α:Type}:SV α->Option (Code×(Result->Sem α))
 | .cl c Nb f=>Na (c,f)
 | _=>Nb
noncomputable def eyB(F:Frag)(d8:Nat)(S:∀α:Type,YS->Sem α->Sem α×YS)(C:Code->YS->Option (U4×YS))(α:Type)(x:YS)(t:Sem α)(v:SV α):Sem α×YS:=
 match v with
 | .nx t'=>S α x t'
 | .fr f=>S α ⟨x.k+1,x.os,x.used,x.news⟩<|f x.k
 | .al o f=>match o.isFreed with
  | false=>S α ⟨x.k,x.os,x.used,x.news++[o]⟩<|f<|d8+x.news.length
  | true=>(t,x)
 | .ld a f=>match x.os.headD .kk with
  | .old o=>S α ⟨x.k,x.os.tail,(a,o)::x.used,x.news⟩<|f o
  | _=>match F.lookup a with
   | some o=>S α ⟨x.k,x.os.tail,x.used,x.news⟩<|f o
   | none=>(t,x)
 | .cl c _ f=>match x.os.headD .kk with
  | .stop=>(t,⟨x.k,x.os.tail,x.used,x.news⟩)
  | _=>match C c x with
   | some (r,b)=>S α b<|f<|.ok r
   | none=>(t,x)
 | _=>(t,x)
noncomputable def ecF(C:Code->YS->Option (U4×YS))(x':YS):Option Fin->Option (U4×YS)
 | some (.done f)=>Na (f,x')
 | some (.again a)=>cond a.quiet (C a x') Nb
 | none=>Nb
def ecB(st:Setting)(C:Code->YS->Option (U4×YS))(r:Sem Fin×YS):Option<|U4×YS:=
 match r with
 | (t,x')=>ecF C x'<|puO<|stp st t
def ey(F:Frag)(st:Setting)(d8 n:Nat):(∀α:Type,YS->Sem α->Sem α×YS)×(Code->YS->Option (U4×YS)):=
 Y9 (motive:=λO=>(∀α:Type,YS->Sem α->Sem α×YS)×(Code->YS->Option (U4×YS))) (λO x t=>(t,x),λO O=>Nb)
  (λO S=>(λα x t=>eyB F d8 S.1 S.2 α x t<|stp st t,λc x=>ecB st S.2<|S.1 Fin x<|denote qT c)) n
section
variable(w:E9)(h:O7)(g:Array H9)(d:D8)(os:U1)
noncomputable def aNO(α:Type)(x:YS)(t:Sem α)(r:Sem α×YS):Prop:=Met h r.2.used->∀(Γ:Ctx)(p:Pos)(Q:α->Pos->A6->Prop)(E:A3->Pos->A6->Prop)(h1:O7),HI h x.news h1 ->
  (∀p' h2,HI h r.2.news h2->Sem.wp (model P w) Γ r.1 Q E p' ⟨h2,g,d,r.2.k,os⟩)->Sem.wp (model P w) Γ t Q E p ⟨h1,g,d,x.k,os⟩
structure YO{α:Type}(x:YS)(t:Sem α)(r:Sem α×YS):Prop where
 le:∀p∈x.used,p∈r.2.used
 run:aNO w h g d os α x t r
noncomputable def aNP(c:Code)(x:YS)(f:U4)(x':YS):Prop:=Met h x'.used->∀(Γ:Ctx)(p:Pos)(R:Result->A6->Prop)(h1:O7),HI h x.news h1->Γ.code=c->(∀h2,HI h x'.news h2->R (.ok f) ⟨h2,g,d,x'.k,os⟩)->wpCode (model P w) Γ R p ⟨h1,g,d,x.k,os⟩
structure YC(c:Code)(x:YS)(f:U4)(x':YS):Prop where
 le:∀p∈x.used,p∈x'.used
 run:aNP w h g d os c x f x'
def aNT{α:Type}(t:Sem α):SV α->Prop
 | .nx t'=>∀Γ p Q E s,(∀p',Sem.wp (model P w) Γ t' Q E p' s)->Sem.wp (model P w) Γ t Q E p s
 | .pu a=>t=.pure a
 | .fr f=>∀Γ p Q E s,Sem.wp (model P w) Γ (f s.toks) Q E p {s with toks:=s.toks+1}->Sem.wp (model P w) Γ t Q E p s
 | .al o f=>∀Γ p Q E s,Sem.wp (model P w) Γ (f s.heap.objs.size) Q E p {s with heap:=s.heap.push o}->Sem.wp (model P w) Γ t Q E p s
 | .ld a f=>∀o Γ p Q E s,s.heap.get? a=Na o->Sem.wp (model P w) Γ (f o) Q E p s->Sem.wp (model P w) Γ t Q E p s
 | .cl c hd f=>∀Γ p Q E s,wpCode (model P w) (Ctx.enter Γ c hd p) (λr b=>Sem.wp (model P w) Γ (f r) Q E p b) p s->Sem.wp (model P w) Γ t Q E p s
 | .no=>True
theorem yE(t:Sem α):aNT w t<|stp ⟨P,w.params⟩ t:=by
 cases t with
 | pure a=>exact rfl
 | rule _ f=>exact λO p O O O q=>q p
 | «at» p' f=>exact λO O O O O q=>q p'
 | point _ f=>exact λO p O O O q=>q p
 | ask f=>exact λO p O O O q=>q p
 | fresh f=>exact λO O O O O q=>q
 | alloc o f=>exact λO O O O O q=>q
 | load a _ f=>exact λo O O O O O e q=>⟨o,e,q⟩
 | call c b _ _ f=>exact λi p Q E s q=>q
 | _=>trivial
def aRa{α:Type}(t:Sem α):Option α->Prop
 | some a=>t=.pure a
 | none=>True
def aTn{α:Type}(t:Sem α):Option (Code×(Result->Sem α))->Prop
 | some c=>aNT w t<|.cl c.1 Nb c.2
 | none=>True
theorem aDa(t:Sem α):aRa t<|puO<|stp ⟨P,w.params⟩ t:=by
 have z:=yE w t;generalize stp ⟨P,w.params⟩ t=v at z;cases v with
 | pu b=>exact z
 | _=>trivial
theorem aQ8(t:Sem α):aTn w t<|clO<|stp ⟨P,w.params⟩ t:=by
 have z:=yE w t;generalize stp ⟨P,w.params⟩ t=v at z;cases v with
 | cl c a f=>cases a with
  | none=>exact z
  | some _=>trivial
 | _=>trivial
variable{w h g d os}
theorem YO.refl(x:YS)(t:Sem α)(te:List Ora):YO w h g d os x t (t,⟨x.k,te,x.used,x.news⟩):=⟨λO z=>z,λO O p O O a H q=>q p a H⟩
theorem aMU{F:Frag}(X:F.In h){S:∀α:Type,YS->Sem α->Sem α×YS}{C:Code->YS->Option (U4×YS)}(iS:∀α x t,YO w h g d os x t<|S α x t)(iC:∀c x f x',C c x=Na (f,x')->YC w h g d os c x f x')(x:YS)(t:Sem α):
  ∀v,aNT w t v->YO w h g d os x t (eyB F h.objs.size S C α x t v)
 | .nx t',e=>⟨(iS α x t').le,λm b p Q E j H q=>e b p Q E _ λA=>(iS α x t').run m b A Q E j H q⟩
 | .pu a,e=>YO.refl x t _
 | .no,e=>YO.refl x t _
 | .fr f,e=>⟨(iS α ⟨x.k+1,x.os,x.used,x.news⟩ _).le,λm b p Q E j H q=>e b p Q E _<|(iS α ⟨x.k+1,x.os,x.used,x.news⟩ _).run m b p Q E j H q⟩
 | .al o f,e=>by
  show YO w h g d os x t (match o.isFreed with | false=>_ | true=>_);cases hf:o.isFreed with
  | true=>exact YO.refl x t _
  | false=>exact⟨(iS α ⟨x.k,x.os,x.used,x.news++[o]⟩ _).le,λm b p Q E j H q=>e b p Q E _<|H.size▸(iS α ⟨x.k,x.os,x.used,x.news++[o]⟩<|f<|h.objs.size+x.news.length).run m b p Q E _ (H.push hf) q⟩
 | .ld a f,e=>by
  have lk:YO w h g d os x t (match F.lookup a with | some o=>S α ⟨x.k,x.os.tail,x.used,x.news⟩ (f o) | none=>(t,x)):=by
   cases el:F.lookup a with
   | none=>exact YO.refl x t _
   | some o=>exact⟨(iS α ⟨x.k,x.os.tail,x.used,x.news⟩ _).le,λm b p Q E j H q=>e o b p Q E _ (H.keep _ _<|X _ _ el)<|(iS α ⟨x.k,x.os.tail,x.used,x.news⟩ _).run m b p Q E j H q⟩
  show YO w h g d os x t (match x.os.headD .kk with | .old o=>_ | _=>_);cases x.os.headD .kk with
  | old o=>
   have i:=iS α ⟨x.k,x.os.tail,(a,o)::x.used,x.news⟩<|f o;exact⟨λp hp=>i.le p<|.tail _ hp,λm b p Q E j H q=>e o b p Q E _ (H.keep _ _<|m _<|i.le _<|.head _)<|i.run m b p Q E j H q⟩
  | _=>exact lk
 | .cl c hd f,e=>by
  have lk:YO w h g d os x t (match C c x with | some (r,x')=>S α x' (f<|.ok r) | none=>(t,x)):=by
   cases ec:C c x with
   | none=>exact YO.refl x t _
   | some z=>
    have y:=iC c x z.1 z.2 ec;have i:=iS α z.2<|f<|.ok z.1;exact⟨λp hp=>i.le p<|y.le p hp,λm b p Q E j H q=>e b p Q E _<|y.run (λp hp=>m p<|i.le p hp) _ p _ j H rfl λu n=>i.run m b p Q E u n q⟩
  show YO w h g d os x t (match x.os.headD .kk with | .stop=>_ | _=>_);cases x.os.headD .kk with
  | stop=>exact YO.refl x t _
  | _=>exact lk
theorem aNa{C:Code->YS->Option (U4×YS)}(iC:∀c x f x',C c x=Na (f,x')->YC w h g d os c x f x'){c:Code}{x x1:YS}{t:Sem Fin}(i:YO w h g d os x (denote qT c) (t,x1)){f:U4}{x':YS}:
  ∀o,aRa t o->ecF C x1 o=Na (f,x')->YC w h g d os c x f x'
 | none,_,e=>nomatch e
 | some (.done B),z,e=>by
  cases e;cases z
  exact⟨i.le,λm b p R n H u q=>(wpCode_iff_wp ..).mpr<|u▸aA1 w _▸i.run m b p _ _ n H λA r j=>q r j⟩
 | some (.again a),z,e=>by
  cases z
  change cond a.quiet _ _=_ at e
  cases hq:a.quiet with
  | false=>rw[hq] at e;cases e
  | true=>
   rw[hq] at e;have y:=iC a x1 f x' e;exact⟨λp hp=>y.le p<|i.le p hp,λm b p R n H u q=>(wpCode_iff_wp ..).mpr<|u▸aA1 w _▸i.run (λp hp=>m p<|y.le p hp) b p _ _ n H λA r j=>⟨hq,y.run m (b.goto a) A R r j rfl q⟩⟩
theorem aJd{F:Frag}(X:F.In h)(n:Nat):(∀(α:Type)(x:YS)(t:Sem α),YO w h g d os x t<|(ey F ⟨P,w.params⟩ h.objs.size n).1 α x t)/\∀c x f x',(ey F ⟨P,w.params⟩ h.objs.size n).2 c x=Na (f,x')->YC w h g d os c x f x':=by
 induction n with
 | zero=>exact⟨λα x t=>YO.refl x t _,λO O O O e=>nomatch e⟩
 | succ n a=>exact⟨λα x t=>aMU X a.1 a.2 x t _<|yE w t,λc x f x' e=>aNa a.2 (a.1 Fin x _) _ (aDa w _) e⟩
def eyV(st:Setting){α:Type}(r:Sem α×YS):Option<|α×List (E3×Obj)×List Obj:=match r with
 | (t,x)=>(puO<|stp st t).map λa=>(a,x.used,x.news)
def eyK(st:Setting){α:Type}(r:Sem α×YS):Option<|Code×List (E3×Obj)×List Obj:=match r with
 | (t,x)=>(clO<|stp st t).map λc=>(c.1,x.used,x.news)
def aD9(st:Setting){α:Type}(t:Sem α):Result->Sem α:=match clO (stp st t) with
 | some c=>c.2
 | none=>λO=>.unsupported ""
theorem aSK{α:Type}{Q:α->A6->Prop}{t:Sem α}{r:Sem α×YS}(i:YO w h g d os ⟨B,ol,[],[]⟩ t r)
  {v:α} {l:List Obj} (e:eyV ⟨P,w.params⟩ r=Na (v,u,l)) (m:Met h u) (q:∀h' k',HI h l h'->Q v ⟨h',g,d,k',os⟩):WP w A t Q E ⟨h,g,d,B,os⟩:=by
 obtain⟨o,x⟩:=r;obtain⟨a,b,j⟩:=B0.mp e;cases j
 have z:=aDa w o;rw[b] at z;cases z
 exact⟨λy p O=>i.run m y p _ _ h (HI.nil h) λC n H=>q n _ H⟩
theorem eyr{F:Frag}{Q:α->A6->Prop}{t:Sem α}(n:Nat)(ol:List Ora)(X:F.In h)
  {v:α} {l:List Obj} (e:eyV ⟨P,w.params⟩ ((ey F ⟨P,w.params⟩ h.objs.size n).1 α ⟨B,ol,[],[]⟩ t)=Na (v,u,l)) (m:Met h u) (q:∀h' k',HI h l h'->Q v ⟨h',g,d,k',os⟩):WP w A t Q E ⟨h,g,d,B,os⟩:=
 aSK ((aJd X n).1 _ _ _) e m q
theorem evv{F:Frag}{Q:α->A6->Prop}{t:Sem α}{v:α}(n:Nat)(X:F.In h)
  (e:eyV ⟨P,w.params⟩ ((ey F ⟨P,w.params⟩ h.objs.size n).1 α ⟨B,[],[],[]⟩ t)=Na (v,[],[])) (q:∀k',Q v ⟨h,g,d,k',os⟩):WP w A t Q E ⟨h,g,d,B,os⟩:=
 eyr n [] X e (λO z=>nomatch z) λa k' H=>H.same rfl▸q k'
structure CD(w:E9)(A:M2)(c:Code)(R:Result->A6->Prop)(s:A6):Prop where
 of::run:codeAny (model P w) A c R s
theorem vG{c:Code}{s:A6}
  (q:WP w (A.under c) (denote qT c) (λbh s'=>match bh with | .done f=>R (.ok f) s' | .again c'=>c'.quiet=Nc/\CD w A c' R s') (λe s'=>R (.error e) s') s):CD w A c R s:=
 ⟨codeAny_of_tree (by rw[aA1];exact B7 q.run (λbh s' y=>by cases bh;exact y;exact⟨y.1,y.2.run⟩) λO O e=>e)⟩
theorem aSL{α:Type}{Q:α->A6->Prop}{t:Sem α}{r:Sem α×YS}(i:YO w h g d os ⟨B,ol,[],[]⟩ t r)
  {c:Code} {l:List Obj} (e:eyK ⟨P,w.params⟩ r=Na (c,u,l)) (m:Met h u)
  (q:∀h' k',HI h l h'->CD w A c (λz s'=>WP w A (aD9 ⟨P,w.params⟩ r.1 z) Q E s') ⟨h',g,d,k',os⟩):WP w A t Q E ⟨h,g,d,B,os⟩:=by
 obtain⟨I,x⟩:=r;obtain⟨⟨J,f⟩,j,o⟩:=B0.mp e;cases o
 have z:=aQ8 w I;unfold aD9 at q;rw[j] at z;simp only[j] at q;exact⟨λb p n=>i.run m b p _ _ h (HI.nil h) λa C H=>z b a _ _ _<|wpCode_mono (λr s' y=>y.run b a n)<|(q C _ H).run _ a rfl<|n.enter _ Nb a (by intro x;cases x)⟩
theorem eyk{F:Frag}{Q:α->A6->Prop}{t:Sem α}(n:Nat)(ol:List Ora)(X:F.In h)
  {c:Code} {l:List Obj} (e:eyK ⟨P,w.params⟩ ((ey F ⟨P,w.params⟩ h.objs.size n).1 α ⟨B,ol,[],[]⟩ t)=Na (c,u,l)) (m:Met h u)
  (q:∀h' k',HI h l h'->CD w A c (λr s'=>WP w A (aD9 ⟨P,w.params⟩ ((ey F ⟨P,w.params⟩ h.objs.size n).1 α ⟨B,ol,[],[]⟩ t).1 r) Q E s') ⟨h',g,d,k',os⟩):WP w A t Q E ⟨h,g,d,B,os⟩:=
 aSL ((aJd X n).1 _ _ _) e m q
end
theorem kK{s:A6}(q:CD w A (.call ao ⟨vs,kw⟩) (λr s'=>match r with | .ok (.ret v)=>Q v s' | .ok _=>False | .error e=>E e s') s):
  WP w A (PySem.call ao vs kw) Q E s:=⟨wpAny_call q.run⟩
abbrev aPK:I8:=fd (fG 3 4) (S9 "Match.__new__") .none (Na 283) (.str (S9 "cpy313.difflib") 194) (.ref 81) Nb
abbrev HP:=E3->Option Obj
variable{Z Z':HP}
def Sub(Z:HP)(h:O7):Prop:=∀b o,Z b=Na o->h.get? b=Na o
theorem Sub.keeps(x:Sub Z h)(k:aM h h'):Sub Z h':=λb o e=>k _ _<|x b o e
def aK(X:List E3)(h h':O7):Prop:=∀b o,b∉X->h.get? b=Na o->h'.get? b=Na o
theorem aK.of(k:aM h h'):aK Y h h':=λb o O e=>k b o e
theorem aK.same(k:P5 I h h'):aK [I] h h':=λb o n e=>(k.2 b<|by simpa using n).trans e
theorem aK.ext(k:O7.ExtBut I h h'):aK [I] h h':=λb o n e=>k b o (by simpa using n) e
theorem aK.trans{a b c:O7}(x:aK Y a b)(y:aK Y b c):aK Y a c:=λO O n e=>y _ _ n<|x _ _ n e
noncomputable def wO(h:O7)(X:List E3):HP:=λb=>if b∈X then Nb else h.get? b
theorem aBI(h:O7)(X:List E3):Sub (wO h X) h:=λb o e=>by unfold wO at e;split at e;cases e;exact e
def AtZ(Z:HP)(a:E3)(D:OD):Prop:=∃o,Z a=Na o/\D o
theorem AtZ.up{a:E3}{D:OD}(x:AtZ Z a D)(k:Sub Z h):At h a D:=(by obtain⟨o,e,q⟩:=x;exact⟨o,k _ _ e,q⟩)
theorem At.keepX{a:E3}(x:At h a D')(k:aK Y h h')(n:a∉Y):At h' a D':=(by obtain⟨o,e,q⟩:=x;exact⟨o,k _ _ n e,q⟩)
def eqD(o:Obj):OD:=λx=>x=o
theorem At.get{a:E3}{o:Obj}(x:At h a<|eqD o):h.get? a=Na o:=(by obtain⟨_,e,q⟩:=x;exact(q)▸e)
theorem At.of{o:Obj}(x:h.get? I=Na o):At h I<|eqD o:=⟨o,x,rfl⟩
structure FZ(Z:HP)(L:E3)(m:Str->Option A3)(σ:List<|E3×OD)(h:O7):Prop where
 ns:h.Ns L m
 own:∀p∈σ,At h p.1 p.2
 keep:Sub Z h
 nd:(L::σ.map (·.1)).Nodup
 new:∀a∈L::σ.map (·.1),Z a=Nb
section
variable{L:E3}{m:Str->Option A3}
theorem FZ.store(F:FZ Z L m σ h)(hn:h'.Ns L m')(hs:P5 L h h'):FZ Z L m' σ h':=by
 refine⟨hn,λp hp=>(F.own p hp).same hs ?_,λb o e=>?_,F.nd,F.new⟩
 .intro q;exact(B6.mp F.nd).1 (q▸C9 hp)
 .have a:b≠L:=by
   rintro rfl;have q:=F.new b<|.head _;rw[q] at e;cases e
  exact(hs.2 b a).trans<|F.keep b o e
theorem FZ.keeps(F:FZ Z L m σ h)(k:aM h h'):FZ Z L m σ h':=
 ⟨F.ns.keeps k,λp hp=>(F.own p hp).keep k,F.keep.keeps k,F.nd,F.new⟩
theorem FZ.zna{i:Nat}(F:FZ Z L m σ h)(hi:σ[i]?=Na (I,D')):Z I=none:=F.new I<|.tail _<|C1.mpr ⟨_,D5 hi,rfl⟩
theorem FZ.adds(F:FZ Z L m σ h)(hz:Z I=Nb)(na:I∉L::σ.map (·.1))(x:At h I D'):FZ Z L m ((I,D')::σ) h:=by
 refine⟨F.ns,λp hp=>?_,F.keep,?_,λb a=>?_⟩
 .obtain rfl|hp:=A8.mp hp
  .exact x
  .exact F.own p hp
 .have d:=B6.mp F.nd;refine B6.mpr ⟨?_,B6.mpr ⟨λq=>na<|.tail _ q,d.2⟩⟩;intro q;obtain q|q:=A8.mp q
  .exact na (by rw[show L=I from q];exact .head _)
  .exact d.1 q
 .obtain rfl|a:=A8.mp a
  .exact F.new _ (.head _)
  .rw[H5] at a;obtain q|q:=A8.mp a
   .subst q;exact hz
   .exact F.new _<|.tail _ q
theorem FZ.fresh(F:FZ Z L m σ h){a:E3}(hn:h.get? a=Nb):Z a=Nb/\a∉L::σ.map (·.1):=by
 constructor
 .cases e:Z a with
  | none=>rfl
  | some o=>rw[F.keep _ _ e] at hn;cases hn
 .intro q;obtain rfl|q:=A8.mp q
  .obtain⟨o,_,_,e,_⟩:=F.ns;rw[hn] at e;cases e
  .obtain⟨p,hp,rfl⟩:=C1.mp q;obtain⟨o,e,_⟩:=F.own p hp;rw[hn] at e;cases e
theorem FZ.add(F:FZ Z L m σ h){a:E3}(hn:h.get? a=Nb)(k:aM h h')(x:At h' a D'):FZ Z L m ((a,D')::σ) h':=
 (F.keeps k).adds (F.fresh hn).1 (F.fresh hn).2 x
theorem FZ.startX(hn:h.Ns bw.objs.size m)(k:aM bw h)(own:∀p∈σ,At bw p.1 p.2)(nd:(σ.map (·.1)).Nodup):FZ (wO bw<|σ.map (·.1)) bw.objs.size m σ h:=
 ⟨hn,λp hp=>(own p hp).keep k,λb o e=>k b o<|aBI _ _ b o e,B6.mpr (And.intro (λq=>(by
   obtain⟨p,hp,z⟩:=C1.mp q;obtain⟨o,e,_⟩:=own p hp;rw[show p.1=bw.objs.size from z,aG] at e;cases e)) nd),λa d=>by
  unfold wO;split
  .rfl
  .next nn=>
   obtain rfl|d:=A8.mp d
   .exact aG bw
   .exact absurd d nn⟩
theorem FZ.at(F:FZ Z L m σ h)(i:Nat){a:E3}{D:OD}(hi:σ[i]?=Na (a,D)):At h a D:=F.own (a,D)<|D5 hi
end
section
variable{l:List<|Str×A3}{m:Str->Option A3}{k:Nat}
theorem zst(F:FZ Z env.locals (mp l m) σ h)(hl:env.kindOf x=Na .local)
  (hp:(env.scope.kind == .class||(env.scope.kind == .module&&env.locals != env.globals))=Nd)
  (q:∀h' k',FZ Z env.locals (mp (put x ao l) m) σ h'->Post () ⟨h',g,d,k',os⟩):WP w A (storeName env x ao) Post E ⟨h,g,d,k,os⟩:=
 ⟨wpAny_storeName_local hl F.ns (λh' a b=>q h' _ (by rw[uM] at a;exact F.store a b)) hp⟩
theorem zld(F:FZ Z env.locals m σ h)(hv:m x=Na ao)(hl:env.kindOf x=Na .local)(hk:env.scope.kind=.function)
  (hd:(x==("__debug__" : Str))=Nd) (q:Q ao ⟨h,g,d,k,os⟩):WP w A (eval (.Name x pos) env) Q E ⟨h,g,d,k,os⟩:=
 ⟨wpAny_Name (wpAny_loadName_local hk hl F.ns hv q) hd⟩
noncomputable def aDJ(env:Env)(n:Str):Bool:=env.kindOf n==Na .local&&(env.scope.kind == .function&&!(n==("__debug__" : Str)))
theorem aDH(h:aDJ env x=Nc):env.kindOf x=Na .local:=F6 (F8.mp h).1
theorem aDI(h:aDJ env x=Nc):env.scope.kind=.function:=F6 (F8.mp (F8.mp h).2).1
theorem aMb(h:aDJ env x=Nc):(x==("__debug__" : Str))=false:=J1 _▸(F8.mp (F8.mp h).2).2
theorem zn{n:Str}{v:A3}(F:autoParam (FZ Z env.locals m σ h) as1)(hv:autoParam (m n=Na v) ra)(ok:autoParam (aDJ env n=Nc) kr)(q:Q v ⟨h,g,d,k,os⟩):WP w A (eval (.Name n pos) env) Q E ⟨h,g,d,k,os⟩:=zld F hv (aDH ok) (aDI ok) (aMb ok) q
theorem zs{v:A3}(F:autoParam (FZ Z env.locals (mp l m) σ h) as1)(ok:autoParam (aDJ env x=Nc) kr)
  (q:∀h' k',FZ Z env.locals (mp (put x v l) m) σ h'->Post () ⟨h',g,d,k',os⟩):WP w A (storeName env x v) Post E ⟨h,g,d,k,os⟩:=zst F (aDH ok) (by rw[aDI ok];rfl) q
theorem zcd(σ:List<|E3×OD){f:I8}{l:List<|Str×A3}(G:Gr w h)
  (own:∀p∈σ,At h p.1 p.2) (nd:(σ.map (·.1)).Nodup)
  (ho:(K w.params).lookup I=Na ⟨.type "function",Nb,.func f,#[]⟩) (j6:codeIn (K w.params) f.code f.qualname=Nc) (d4:A.depth<W4)
  (bf:f.body=.stmts body) (bg:BindsTo ⟨h,g,d,k,os⟩ f ⟨az,kw⟩ bx) (hl:bx.reverse=l) (hcell:(f.scope.names.all λx=>x.2 != .cell)=Nc)
  (ig:((bx.map (·.1)).all λx=>f.scope.names.lookup x==Na .local)=Nc) (fp:f.scope.isCoroutine=Nd) (g8:f.scope.isGenerator=Nd) (hk:f.scope.kind=.function)
  (q:∀L env h' k',env=AA1 f L I->FZ (wO h<|σ.map (·.1)) env.locals (mp l λO=>Nb) σ h' ->
   WP w (A.deeper env) (execs body env) (λfl s'=>R (.ok<|.ret<|sT fl) s') (λO O=>False) ⟨h',g,d,k',os⟩) :
  CD w A (.call (.ref I) ⟨az,kw⟩) R ⟨h,g,d,k,os⟩:=by
 refine⟨codeAny_call_def d4 (G.k _ _ ho) rfl G.nolimit (codeRec_of G.k j6) bf bg (λx a=>?_) (λx a=>?_) (λh' b e=>?_) fp g8 hk⟩
 .simpa using J6.mp hcell x a
 .have:=J6.mp ig x.1<|C9 a;simpa using this
 .refine B7 (q h.objs.size _ h' _ rfl<|FZ.startX ?_ e own nd).run (λf s' y=>by cases f <;> exact y) λO O x=>x.elim;rw[← aIW,← hl];exact b
end
section
variable(w:E9)(A:M2)
abbrev Kn(pos:Pos)(az:List Expr)(d1:List AA6)(env:Env)(Q:A3->A6->Prop)(E:A3->A6->Prop):A3->A6->Prop:=λf s=>WP w A (Z9 pos f [] (I9 pos<|C0 az env) (K4 pos<|G5 d1 env)) Q E s
abbrev KwK(f:A3)(first:List A3)(Q:A3->A6->Prop)(E:A3->A6->Prop):List A3->A6->Prop:=λvs s=>Gr w s.heap/\WP w A (PySem.call f (first++vs)) Q E s
abbrev Ka2(ah b9:Expr)(env:Env)(Q:U4->A6->Prop)(E:A3->A6->Prop):A3->A6->Prop:=λv aj=>WP w A (assign ah env v) (λO ay=>WP w A (assign b9 env v) (Kq Q) E ay) E aj
abbrev Ky(body orelse:List F9)(env:Env)(Q:U4->A6->Prop)(E:A3->A6->Prop):Bool->A6->Prop:=λb s=>match b with
 | true=>WP w A (execs body env) Q E s
 | false=>WP w A (execs orelse env) Q E s
end
section
variable{s:A6}
theorem aMG(G:Gr w s.heap)(hk:env.scope.kind=.function)(hx:env.kindOf x=Na .globalImplicit)(hg:env.globals=3)
  (hd:(x==("__debug__" : Str))=Nd) (e:nsIn (K w.params) 3 x=Na (Na ao)) (q:Q ao s):WP w A (eval (.Name x pos) env) Q E s:=by
 refine⟨wpAny_Name ?_ hd⟩;rw[loadName_read hk hx];unfold loadGlobal;rw[hg];refine A0<|(looks_nsIn G.k e).here ?_;exact A7 q
theorem aSA(G:Gr w s.heap)(hk:env.scope.kind=.function)(hx:env.kindOf x=Na .globalImplicit)(hg:env.globals=3)(hb:env.builtins=0)
  (hd:(x==("__debug__" : Str))=Nd) (e:nsIn (K w.params) 3 x=Na Nb) (e2:nsIn (K w.params) 0 x=Na (Na ao)) (q:Q ao s):WP w A (eval (.Name x pos) env) Q E s:=by
 refine⟨wpAny_Name ?_ hd⟩;rw[loadName_read hk hx];unfold loadGlobal;rw[hg,hb];refine A0<|(looks_nsIn G.k e).here ?_;refine A0<|(looks_nsIn G.k e2).here ?_;exact A7 q
theorem gC 
  (q:WP w A (eval (.Name x pp) env) (Kn w A pos es d1 env Q E) E s):WP w A (eval (.Call (.Name x pp) es d1 pos) env) Q E s:=
 ⟨wpAny_Call_Name_kw<|B7 q.run (λO O y=>y.run) λO O e=>e⟩
theorem aNh{f:A3}(hk:keepIn (K w.params) f=Nc)(he:C0 (e::rest) env=(Nd,eval e env)::C0 rest env)(hp:(I9 pos<|C0 rest env).any (·.1)=Nd)
  (q:WP w A (spliced<|I9 pos<|C0 (e::rest) env) (KwK w A f us Q E) E s):WP w A (Z9 pos f us (I9 pos<|C0 (e::rest) env)<|K4 pos<|G5 [] env) Q E s:=by
 refine⟨?_⟩;have h:=q.run;rw[he] at h ⊢;exact callWith_of (P:=(K w.params).In) (by show((Nd||(I9 pos<|C0 rest env).any (·.1))||false)=Nd;rw[hp];rfl) (keeps_K hk)<|evalArgs_plain<|B7 h (λb a y=>⟨y.1.k,y.2.run⟩) λO O e=>e
theorem aJm{f:A3}(G:Gr w s.heap)(hk:keepIn (K w.params) f=Nc)(q:WP w A (PySem.call f<|vs++[]) Q E s):
  WP w A (Z9 pos f vs (I9 pos<|C0 [] env)<|K4 pos<|G5 [] env) Q E s:=⟨callWith_K0 G.k hk q.run⟩
theorem aQ6{f:A3}(hk:keepIn (K w.params) f=Nc)(he:C0 (e::rest) env=(Nd,eval e env)::C0 rest env)
  (dn:(K4 pos<|G5 d1 env).all (·.1.isSome)=Nc) (hp:((I9 pos<|C0 (e::rest) env).any (·.1)||(K4 pos<|G5 d1 env).any (·.1.isNone))=Nd)
  (q:WP w A (spliced<|I9 pos<|C0 (e::rest) env) (λvs aj=>WP w A (evalAll<|(K4 pos<|G5 d1 env).map (·.2))
   (λks ay=>Gr w ay.heap/\WP w A (PySem.call f (us++vs)<|((K4 pos<|G5 d1 env).filterMap (·.1)).zip ks) Q E ay) E aj) E s) :
  WP w A (Z9 pos f us (I9 pos<|C0 (e::rest) env)<|K4 pos<|G5 d1 env) Q E s:=
 ⟨callWith_of (P:=(K w.params).In) hp (keeps_K hk)<|evalArgs_kw2 dn (B7 q.run (λvs aj y=>B7 y.run (λks ay z=>⟨z.1.k,z.2.run⟩) λO O e=>e) λO O e=>e) he⟩
theorem tN{id:String}(he:C0 (e::rest) env=(Nd,eval e env)::C0 rest env)(hp:(I9 pos<|C0 rest env).any (·.1)=Nd)
  (q:WP w A (spliced<|I9 pos<|C0 (e::rest) env) (Kw w A (.builtin id) vs Q E) E s):WP w A (Z9 pos (.builtin id) vs (I9 pos<|C0 (e::rest) env)<|K4 pos<|G5 [] env) Q E s:=
 ⟨callWith_method1 (B7 q.run (λO O y=>y.run) λO O e=>e) he hp⟩
theorem aEL{id:String}(q:WP w A (PySem.call (.builtin id) vs) Q E s):WP w A (Z9 pos (.builtin id) vs (I9 pos<|C0 [] env)<|K4 pos<|G5 [] env) Q E s:=
 ⟨callWith_method0 q.run⟩
theorem tM{T:String}(he:C0 (e::rest) env=(Nd,eval e env)::C0 rest env)(hp:(I9 pos<|C0 rest env).any (·.1)=Nd)
  (q:WP w A (spliced<|I9 pos<|C0 (e::rest) env) (Ke w A (λvs=>PySem.call (.type T) vs) Q E) E s):WP w A (Z9 pos (.type T) [] (I9 pos<|C0 (e::rest) env) (K4 pos<|G5 [] env)) Q E s:=
 ⟨PyProof.Rows.callWith_type1 (B7 q.run (λO O y=>y.run) λO O e=>e) he hp⟩
theorem aEK{T:String}(q:WP w A (PySem.call (.type T) []) Q E s):WP w A (Z9 pos (.type T) [] (I9 pos<|C0 [] env) (K4 pos<|G5 [] env)) Q E s:=
 ⟨PyProof.Rows.callWith_type0 q.run⟩
theorem vE{o:Expr}(hb:eval (.Attribute o x pos) env=(do
   let ov ← eval o env
   standAt pos.atName
   let r ← holding [ov] (getAttr ov x Nc)
   letTemporaryGo o ov r
   pure r)) (q:WP w A (eval o env) (Ke w A (λov=>getAttr ov x Nc) Q E) E s):WP w A (eval (.Attribute o x pos) env) Q E s:=
 ⟨Attribute_any_ (B7 q.run (λO O y=>y.run) λO O e=>e) hb⟩
theorem aI8(q:WP w A (eval ah env) (Ke w A (λov=>setAttr ov x ao) Post E) E s):WP w A (assign (.Attribute ah x pos) env ao) Post E s:=
 ⟨kas_attr<|B7 q.run (λO O y=>y.run) λO O e=>e⟩
theorem aA8(q:WP w A (eval ah env) (λov ay=>WP w A (eval b9 env) (λiv bl=>WP w A (setItem ov iv ao) Post E bl) E ay) E s):WP w A (assign (.Subscript ah b9 pos) env ao) Post E s:=
 ⟨kas_sub<|B7 q.run (λO O y=>B7 y.run (λO O z=>z.run) λO O e=>e) λO O e=>e⟩
theorem vQ{t:Expr}{Q:U4->A6->Prop}(hs:X9 [t] av pos.line env=pure Nd)(hw:J8 [t] av env=pure Nb)(he:(E7 [t] env).map (·.2)=[assign t env])
  (q:WP w A (eval av env) (Ke w A (assign t env) (Kq Q) E) E s):WP w A (exec (.Assign [t] av pos) env) Q E s:=by
 refine⟨wpAny_Assign_stores (B7 q.run (λv a y=>?_) λO O e=>e) hs hw⟩;rw[he];exact y.run
theorem aKG{Q:U4->A6->Prop}(hw:J8 [ah,b9] av env=pure Nb)(he:(E7 [ah,b9] env).map (·.2)=[assign ah env,assign b9 env])
  (q:WP w A (eval av env) (Ka2 w A ah b9 env Q E) E s):WP w A (exec (.Assign [ah,b9] av pos) env) Q E s:=
 ⟨wpAny_Assign_two (B7 q.run (λO O y=>B7 y.run (λO O z=>z.run) λO O e=>e) λO O e=>e) he hw⟩
theorem aKF{Q:U4->A6->Prop}(hw:J8 [ah,b9,tg] av env=pure Nb)(he:(E7 [ah,b9,tg] env).map (·.2)=[assign ah env,assign b9 env,assign tg env])
  (q:WP w A (eval av env) (λv aj=>WP w A (assign ah env v) (λO ay=>WP w A (assign b9 env v) (λO bl=>WP w A (assign tg env v) (λO c8=>Q .next c8) E bl) E ay) E aj) E s):WP w A (exec (.Assign [ah,b9,tg] av pos) env) Q E s:=
 ⟨wpAny_Assign_three (B7 q.run (λO O y=>B7 y.run (λO O z=>B7 z.run (λO O u=>u.run) λO O e=>e) λO O e=>e) λO O e=>e) he hw⟩
theorem aNA{t:Sem A3}{Q:Bool->A6->Prop}(q:Q Nc s):WP w A (isTrue (.BoolOp .And [] pos) env t) Q E s:=⟨isTrue_and_nil q⟩
theorem aQk{t:Sem A3}{Q:Bool->A6->Prop}(q:Q Nd s):WP w A (isTrue (.BoolOp .Or [] pos) env t) Q E s:=⟨isTrue_or_nil q⟩
theorem aQm{t:Sem A3}{Q:Bool->A6->Prop}(q:WP w A (isTrue ah env<|eval ah env) (λc s'=>(c=Nc->WP w A (isTrue (.BoolOp .And rest pos) env t) Q E s')/\(c=Nd->Q Nd s')) E s):
  WP w A (isTrue (.BoolOp .And (ah::rest) pos) env t) Q E s:=⟨isTrue_and<|B7 q.run (λc s' y=>by cases c;exact y.2 rfl;exact(y.1 rfl).run) λO O e=>e⟩
theorem aSX{t:Sem A3}{Q:Bool->A6->Prop}(q:WP w A (isTrue ah env<|eval ah env) (λc s'=>(c=Nc->Q Nc s')/\(c=Nd->WP w A (isTrue (.BoolOp .Or rest pos) env t) Q E s')) E s):
  WP w A (isTrue (.BoolOp .Or (ah::rest) pos) env t) Q E s:=⟨isTrue_or<|B7 q.run (λc s' y=>by cases c;exact(y.2 rfl).run;exact y.1 rfl) λO O e=>e⟩
theorem aRp{Q:U4->A6->Prop}
  (q:WP w A (isTrue ah env<|eval ah env) (Ky w A body orelse env Q E) E s):WP w A (exec (.If ah body orelse pos) env) Q E s:=
 aO5 (q.mono λb a y=>by cases b;exact⟨(λe=>by cases e),λO=>y⟩;exact⟨λO=>y,(λe=>by cases e)⟩)
theorem aOd{Q:Bool->A6->Prop}(e:b'=Nd)(q:Q Nd s):WP w A (truthy<|.bool b') Q E s:=by subst e;exact qA q
theorem aFX{Q:Bool->A6->Prop}(q:Q Nd s):WP w A (truthy .none) Q E s:=⟨A7 q⟩
theorem aNc(q:Q .none s):WP w A (eval (.Constant .none B pos) env) Q E s:=⟨A7 q⟩
theorem aNe(q:Q (.bool b') s):WP w A (eval (.Constant (.bool b') B pos) env) Q E s:=⟨A7 q⟩
theorem aKE{Q:U4->A6->Prop}(q:Q .cont s):WP w A (exec (.Continue pos) env) Q E s:=⟨wpAny_Continue q⟩
theorem aO6{Q:U4->A6->Prop}(q:Q .brk s):WP w A (exec (.Break pos) env) Q E s:=⟨wpAny_Break q⟩
end
theorem vW{s:A6}{Q:α->A6->Prop}(hh:A.handled=Nb)
  (q:∀o1 o2:Obj,((s.heap.push o1).push o2).get? (s.heap.push o1).objs.size=Na o2->o2.cls=.type "StopIteration"->E (.ref (s.heap.push o1).objs.size) {s with heap:=(s.heap.push o1).push o2}) :
  M8 (model P w) A (newExc (.type "StopIteration") [] >>= λe=>(raiseNew e:Sem α)) Q E s:=by
 refine A0 ?_;refine A0 (V6 ?_<|by size_fits);refine A0 (m:=firstArgMember _ _) (P0 (a:=V3) (by first | rfl | (simp only[firstArgMember];rfl)) ?_);refine V6 ?_ (by size_fits)
 delta raiseNew
 refine A0<|wpAny_handled ?_;rw[hh];refine A0<|A7<|wpAny_throw ?_;exact q _ _ (C7 _ rfl) rfl
def nsD(mA:Str->Option A3):OD:=λo=>Ex2 λa b=>o.data=.dict a b/\StrKeys a/\UniqKeys a/\∀name,nsFind a name=mA name
theorem At.ns1(x:At h I<|nsD mA):h.Ns1 I mA:=(by obtain⟨o,e,b,a,r⟩:=x;exact⟨o,b,a,e,r⟩)
theorem At.ofNs1(x:h.Ns1 I mA):At h I<|nsD mA:=(by obtain⟨o,b,a,e,r⟩:=x;exact⟨o,e,b,a,r⟩)
noncomputable abbrev smO(dx:E3):Obj:=instObj 242 dx
theorem tX(I:At h M<|eqD<|smO dx)(ne:dx≠M)(D:At h dx<|nsD mA):h.Inst M 242 mA:=
 ⟨_,I.get,rfl,(λO e=>by cases e),.inr ⟨dx,rfl,ne,D.ns1⟩⟩
theorem rF{K:Frag}{n:Str}{v:A3}(X:K.In h)(G:h.Ns I mg)(e:nsIn K I n=Na (Na v)):mg n=Na v:=by
 obtain⟨o,a,p,g,d,_,b⟩:=G;obtain⟨c,j,i,sl⟩:=o;cases d
 unfold nsIn at e;cases q:K.lookup I with
 | none=>rw[q] at e;cases e
 | some r=>
  have:=X _ _ q;rw[g] at this;cases this
  rw[q] at e
  change (match a.toList.find? (·.key.isStr n) with | some e=>Na (Na e.val) | none=>if a.toList.any (·.refKey) then Nb else Na Nb)=_ at e
  unfold nsFind findBy at b;rw[← b,← Array.find?_toList];cases he:a.toList.find? (·.key.isStr n) with
  | some en=>rw[he] at e;cases e;rfl
  | none=>
   rw[he] at e
   change (if _ then Nb else Na Nb)=_ at e
   cases ha:a.toList.any (·.refKey) with
   | true=>rw[ha] at e;cases e
   | false=>rw[ha] at e;cases e
section
variable{k:Nat}
theorem kU(G:Gr w h):h.Ns 241<|h.nsMap 241:=.of_isNs<|isNs_of_in G.k<|by kernel_rfl
theorem vF(G:Gr w h):h.get? 242=Na (excClassObj (S9 "SequenceMatcher") (S9 "SequenceMatcher") 242 241 [.type "object"] [.type "object"] Nc [] [] Nd Nb Nb Nb Nb (Na<|.str (S9 "SequenceMatcher") 389) (Na<|.str (S9 "SequenceMatcher") 397) (Na<|.bool Nc) "object.__new__"):=
 G.k 242 _ (by kernel_rfl)
theorem aB3:nsIn (K w.params) 241 (S9 "__getattribute__")=Na none:=by kernel_rfl
theorem aHp:nsIn (K w.params) 241 (S9 "__getattr__")=Na none:=by kernel_rfl
theorem aGf:nsIn (K w.params) 241 (S9 "__setattr__")=Na none:=by kernel_rfl
theorem aKZ{v:A3}(G:Gr w h)(I:At h M<|eqD<|smO dx)(ne:dx≠M)(D:At h dx<|nsD mA)(hv:mA y=Na v)
  (c1:nsIn (K w.params) 241 y=Na Nb) (c2:J7 (.type "object") y=pure Nb) (hh:handedOut v=pure v) (q:∀k',Q v ⟨h,g,d,k',os⟩):WP w A (getAttr (.ref M) y b') Q E ⟨h,g,d,k,os⟩:=
 ⟨load_attr (vF G) (kU G) (ns_none_of G.k (kU G) aB3) (ns_none_of G.k (kU G) c1) c2 (tX I ne D) hv hh<|q _⟩
theorem aG6{y:Option A3}{pl:Sem Bool}{Q:A3×List A3->A6->Prop}(G:Gr w h)(I:At h M<|eqD<|smO dx)(ne:dx≠M)(D:At h dx<|nsD mA)(hv:mA ff=Nb)
  (c1:nsIn (K w.params) 241 ff=Na (Na<|.ref p1)) (c2:(K w.params).lookup p1=Na oL) (c3:oL.cls=.type "function") (c4:J7 (.type "object") ff=pure y) (q:Q (.ref p1,[.ref M]) ⟨h,g,d,k,os⟩):WP w A (Y7 (.ref M) ff pl) Q E ⟨h,g,d,k,os⟩:=
 ⟨method_of (vF G) (kU G) (ns_none_of G.k (kU G) aB3) (ns_none_of G.k (kU G) aHp) (rF G.k (kU G) c1) (G.k _ _ c2) c3 c4 (tX I ne D) hv q⟩
theorem aKX{l:List<|Str×A3}(G:Gr w h)(I:At h M<|eqD<|smO dx)(ne:dx≠M)(D:At h dx<|nsD<|mp l mA)
  (hw:Within (mp l mA) ns) (hz:ns.length<=B9)
  (c1:nsIn (K w.params) 241 y=Na Nb) (c2:J7 (.type "object") y=pure Nb)
  (q:∀h' k',At h' dx (nsD<|mp (put y ao l) mA)->aK [dx] h h'->Post () ⟨h',g,d,k',os⟩):WP w A (setAttr (.ref M) y ao) Post E ⟨h,g,d,k,os⟩:=by
 have S:M≠242:=by
  intro e;have a:=I.get;rw[e,vF G] at a;cases a
 refine⟨store_attr F.store_object (vF G) (kU G) (ns_none_of G.k (kU G) aGf) (ns_none_of G.k (kU G) c1) c2 S (tX I ne D) (λh' ye O R st=>?_) hw hz⟩;obtain⟨N,j,n,p,r,u⟩:=st _ I.get;obtain⟨o2,x,Y,Z,B⟩:=O;have same:N=smO dx:=by
  obtain⟨oc,od,U,qg⟩:=N;simp only at n p r u;have:=u dx rfl;subst n p r this;rfl
 rw[j] at x;cases x
 rw[same] at B;obtain⟨z,_⟩|⟨V,z,_,i⟩:=B
 .cases z
 .cases z
  refine q h' _ (.ofNs1 ?_) (λb o T e=>?_)
  .rw[uM] at i;exact i
  .by_cases C:b=M
   .subst C;rw[I.get] at e;cases e
    rw[j,same]
   .exact R b o C (λtw yf J Q=>by
     rw[I.get] at J;cases J
     cases Q
     simpa using T) e
end
theorem Gr.keepX(G:Gr w h)(k:aK Y h h')(hx:∀a∈Y,(K w.params).lookup a=Nb):Gr w h':=by
 have g:∀a o,(K w.params).lookup a=Na o->a∉Y:=λa o e q=>by rw[hx a q] at e;cases e
 have i:cStatics∉Y:=by
  have e:((K w.params).lookup cStatics).isSome=true:=by kernel_rfl
  obtain⟨o,e⟩:=U8.mp e;exact g _ _ e
 have j:builtinsNs∉Y:=by
  have e:((K w.params).lookup builtinsNs).isSome=true:=by kernel_rfl
  obtain⟨o,e⟩:=U8.mp e;exact g _ _ e
 refine⟨λa o e=>k a o (g a o e)<|G.k a o e,?_,?_,?_⟩
 .obtain⟨d,a,b⟩:=G.nolimit;exact⟨d,a.at' λo e=>k _ o i e,b⟩
 .obtain⟨d,a,b⟩:=G.nodigits;exact⟨d,a.at' λo e=>k _ o i e,b⟩
 .obtain⟨n,a,b⟩:=G.b;exact⟨n,a.at' λo e=>k _ o j e,b⟩
def GZ(w:E9)(Z:HP):Prop:=∀h,Sub Z h->Gr w h
theorem GZ.at{L:E3}{m:Str->Option A3}(z:GZ w Z)(F:FZ Z L m σ h):Gr w h:=z h F.keep
theorem GZ.whole(G:Gr w h):GZ w h.get?:=λO s=>G.keeps s
section
variable{s:A6}
theorem aF5(q:Q (.bool<|ao == .none) s):WP w A (E6 .Is ao .none) Q E s:=⟨is_none_gen q⟩
end
def fOk(W:Params)(f:I8)(xs:List Str):Bool:=codeIn (K W) f.code f.qualname&&((f.scope.names.all λx=>x.2 != .cell)&&((xs.all λx=>f.scope.names.lookup x==Na .local)&&(!f.scope.isCoroutine&&(!f.scope.isGenerator&&f.scope.kind == .function))))
inductive FOk(W:Params)(f:I8)(xs:List Str):Prop | mk (cd:codeIn (K W) f.code f.qualname=Nc) (ce:(f.scope.names.all λx=>x.2 != .cell)=Nc) (lo:(xs.all λx=>f.scope.names.lookup x==Na .local)=Nc) (co:f.scope.isCoroutine=Nd) (ge:f.scope.isGenerator=Nd) (k:f.scope.kind=.function):FOk W f xs
theorem aMT{W:Params}{f:I8}(h:fOk W f ns=Nc):FOk W f ns:=by
 have a:=F8.mp h;have b:=F8.mp a.2;have c:=F8.mp b.2;have d:=F8.mp c.2;have e:=F8.mp d.2;exact⟨a.1,b.1,c.1,J1 _▸d.1,J1 _▸e.1,F6 e.2⟩
section
variable{k:Nat}{a:E3}{f:I8}{l:List<|Str×A3}
theorem zd0(G:Gr w h)(d4:A.depth<W4)(bf:f.body=.stmts body)(bg:BindsTo ⟨h,g,d,k,os⟩ f ⟨az,kw⟩ bx)(hl:bx.reverse=l)
  (ho:autoParam ((K w.params).lookup a=Na ⟨.type "function",Nb,.func f,#[]⟩) kr) (ok:autoParam (fOk w.params f (bx.map (·.1))=Nc) kr)
  (q:∀L h' k',GZ w h.get?->FZ h.get? (AA1 f L a).locals (mp l λO=>Nb) [] h'->WP w (A.deeper<|AA1 f L a) (execs body<|AA1 f L a) (λfl s'=>R (.ok<|.ret<|sT fl) s') (λO O=>False) ⟨h',g,d,k',os⟩) :
  CD w A (.call (.ref a) ⟨az,kw⟩) R ⟨h,g,d,k,os⟩:=by
 obtain⟨b,e,c3,j,n,o⟩:=aMT ok;refine zcd [] G (λO i=>nomatch i) .nil ho b d4 bf bg hl e c3 j n o λL p h' k' r F=>?_;subst r;exact q L h' k' (GZ.whole G) F
end
abbrev FF:A3->A6->Prop:=λO O=>False
def rgD(a b:Int):OD:=λo=>Ex3 λt u v=>o={cls:=.type "range",data:=.fields #[.int a t,.int b u,.int 1 v]}
def aBx(x left:Int):OD:=λo=>o={cls:=.type "range_iterator",data:=.fields #[rawInt x,rawInt left,rawInt 1]}
def enD(it:E3)(i:Int):OD:=λo=>∃old,o={cls:=.type "enumerate",data:=.fields #[.none,.bool Nd,.ref it,rawInt i,.none,old]}
def dcD{w:E9}{α:Type}[DecidableEq α](knd:KeyKind P w α)(bc:List<|α×A3):OD:=λo=>o.IsDictOf knd bc
theorem At.dictOf{w:E9}[DecidableEq α]{knd:KeyKind P w α}{bc:List<|α×A3}(x:At h I<|dcD knd bc):h.DictOf knd I bc:=O7.dictOf_iff.mpr x
theorem At.ofDict{w:E9}[DecidableEq α]{knd:KeyKind P w α}{bc:List<|α×A3}(x:h.DictOf knd I bc):At h I<|dcD knd bc:=O7.dictOf_iff.mp x
def oF:OD:=λo=>∃led,o={cls:=.type "set",dict:=Nb,data:=.set #[] 0 (.fresh 0 0 led)}
section
variable{k:Nat}{s:A6}[DecidableEq α]{knd:KeyKind P w α}
theorem aBi(q:∀a h',a=s.heap.objs.size->s.heap.get? a=Nb->aM s.heap h'->(∀{α:Type}[DecidableEq α](knd:KeyKind P w α),At h' a<|dcD knd [])->Q (.ref a) {s with heap:=h'}):WP w A (eval (.Dict [] [] pos) env) Q E s:=
 ⟨wpAny_Dict_empty<|q _ _ rfl (aG _) (aJ _ _) λknd=>.ofDict<|O7.DictOf.new _⟩
theorem aNn(q:∀a h',s.heap.get? a=Nb->aM s.heap h'->At h' a oF->Q (.ref a) {s with heap:=h'}):WP w A (PySem.call (.type "set") []) Q E s:=
 ⟨call_set_0 λb=>q _ _ (aG _) (aJ _ _) ⟨_,C7 _ rfl,b,rfl⟩⟩
theorem aB2{a:E3}{bc:List<|α×A3}{id:String}{pl:Sem Bool}{Q:A3×List A3->A6->Prop}(g9:Slot "dict" name id)(ty:typeOf (.builtin id)=pure (.type "method_descriptor"))(x:At s.heap a<|dcD knd bc)(q:Q (.builtin id,[.ref a]) s) :
  WP w A (Y7 (.ref a) name pl) Q E s:=⟨getMethod_builtin x.dictOf.typeIs PySem.F.plainAttrs_dict g9 ty x.dictOf.mapOf.noDict q⟩
theorem aF3{a:E3}{bc:List<|α×A3}{x:α}(hs:(a==AA8)=Nd)(D:At h a<|dcD knd bc)(hk:knd.is x ao=Nc)(hz:bc.length<=B9)
  (q1:∀v k',W1 bc x=Na v->Q v ⟨h,g,d,k',os⟩)
  (q2:∀h' k',W1 bc x=Nb->At h' a (dcD knd<|stored bc x dflt)->aK [a] h h'->Q dflt ⟨h',g,d,k',os⟩):WP w A (PySem.call (.builtin "dict.setdefault") [.ref a,ao,dflt]) Q E ⟨h,g,d,k,os⟩:=
 ⟨call_meetsIn PySem.F.slot_dict_setdefault D.dictOf.typeIs PySem.F.entry_dict_setdefault (PySem.F.args_dict_setdefault_3 _ _ _) (kt_meets_setdefault knd a hk hs dflt)
  ⟨bc,D.dictOf,hz,(λv e=>q1 v _ e),λe h' b sb=>q2 h' _ e (.ofDict b)<|aK.same sb⟩⟩
theorem aNo{bc:List<|α×A3}{x:α}(hs:(I==AA8)=Nd)(D:At h I<|dcD knd bc)(hk:knd.is x ao=Nc)
  (q:∀k',Q ((W1 bc x).getD dflt) ⟨h,g,d,k',os⟩):WP w A (PySem.call (.builtin "dict.get") [.ref I,ao,dflt]) Q E ⟨h,g,d,k,os⟩:=
 ⟨call_meetsIn PySem.F.slot_dict_get D.dictOf.typeIs PySem.F.entry_dict_get (PySem.F.args_dict_get_3 _ _ _) (meets_dict_get_default knd I hk hs dflt) ⟨_,D.dictOf.mapOf,q _⟩⟩
theorem aL6{bc:List<|α×A3}{x:α}{v:A3}(D:At h I<|dcD knd bc)(hk:knd.is x ao=Nc)(hz:bc.length<=B9)
  (q:∀h' k',At h' I (dcD knd<|stored bc x v)->aK [I] h h'->Post () ⟨h',g,d,k',os⟩):WP w A (setItem (.ref I) ao v) Post E ⟨h,g,d,k,os⟩:=
 ⟨wpAny_setItem_pairs hk D.dictOf (λh' a sb=>q h' _ (.ofDict a)<|aK.same sb) hz⟩
theorem aQg(x:At h I<|aY vs)(hz:vs.length<4611686018427387904)(q:∀t k',Q (.int vs.length t) ⟨h,g,d,k',os⟩):WP w A (PySem.call (.builtin "len") [.ref I]) Q E ⟨h,g,d,k,os⟩:=
 ⟨len_list x.isList (by simp;exact aQO hz)<|by simpa using q _ _⟩
theorem aS7(q:Q (.bool<|Nf<|i>=j) s):WP w A (E6 .GtE (.int i ti)<|.int j tj) Q E s:=⟨ge_int q⟩
theorem aS6(q:Q (.bool<|Nf<|i>j) s):WP w A (E6 .Gt (.int i ti)<|.int j tj) Q E s:=⟨gt_int q⟩
theorem aS4(q:Q (.bool<|Nf<|i<j) s):WP w A (E6 .Lt (.int i ti)<|.int j tj) Q E s:=⟨lt_int q⟩
theorem aS5(q:Q (.bool<|Nf<|i<=j) s):WP w A (E6 .LtE (.int i ti)<|.int j tj) Q E s:=⟨le_int q⟩
end
def oQ(x0:Int)(x1:List Str)(x2:Str):List Int:=
 List.rec (motive:=λO=>Int->Str->List Int) (λO O=>[]) (λy b a k x=>if y=x then k::(a (k+1) x) else (a (k+1) x)) x1 x0 x2
theorem zJ(x0:Int)(x2:Str):oQ x0 [] x2=([]):=rfl
theorem oP(k:Int){y}(ys:List Str)(x:Str):oQ k (y::ys) x=(if y=x then k::oQ (k+1) ys x else oQ (k+1) ys x):=rfl
theorem tH(xs:List Str)(y x:Str):∀k,oQ k (xs++[y]) x=oQ k xs x++(if y=x then [k+xs.length] else []):=by
 induction xs with
 | nil=>intro k;simp[zJ,oP]
 | cons z zs b=>
  intro k;have e:k+1+(zs.length:Int)=k+((zs.length:Int)+1):=l11<|.q (.p aR aF)<|.p .a dL;simp only[L8,oP,b];split
  .simp[e]
  .simp[e]
abbrev Tab:=List<|Str×E3×List A3
noncomputable def kvT(T:Tab):List<|Str×A3:=T.map λt=>(t.1,.ref t.2.1)
noncomputable def obT(T:Tab):List<|E3×OD:=T.map λt=>(t.2.1,aY t.2.2)
structure TOk(T:Tab)(xs:List Str):Prop where
 nd:(T.map (·.1)).Nodup
 at_:∀t∈T,IntsAre t.2.2 (oQ 0 xs t.1)
 all:∀x∈xs,x∈T.map (·.1)
 sub:∀x∈T.map (·.1),x∈xs
 len:T.length<=xs.length
theorem TOk.nil:TOk [] []:=⟨by simp,by simp,by simp,by simp,by simp⟩
theorem nZ(T:Tab)(x:Str):(W1 (kvT T) x=Nb/\x∉T.map (·.1))\/Ex3 fun(i:Nat) (a:E3) (us:List A3)=>T[i]?=Na (x,a,us)/\W1 (kvT T) x=Na (.ref a):=by
 induction T with
 | nil=>left;exact⟨rfl,by simp⟩
 | cons t T h=>
  obtain⟨y,a,us⟩:=t;by_cases e:y=x
  .right
   refine⟨0,a,us,by simp[e],?_⟩;simp[W1,kvT,e]
  .have q:W1 (kvT<|(y,a,us)::T) x=W1 (kvT T) x:=by
    simp[W1,kvT,e]
   rw[q];obtain⟨b,d⟩|⟨i,g,j,b,d⟩:=h
   .left;exact⟨b,by simp[d];exact λz=>e z.symm⟩
   .right;exact⟨i+1,g,j,by simpa using b,d⟩
theorem aCG{T:Tab}{a:E3}(h:x∉T.map (·.1)):stored (kvT T) x (.ref a)=kvT (T++[(x,a,[])]):=by
 unfold stored;rw[if_neg]
 .simp[kvT]
 .rw[U3];rintro⟨kv,hkv,e⟩;simp only[kvT,C1] at hkv;obtain⟨t,b,rfl⟩:=hkv;exact h<|C1.mpr ⟨t,b,by simpa using e⟩
theorem TOk.more{T:Tab}{xs:List Str}(K:TOk T xs){a:E3}(hi:T[B]?=Na (x,a,us)){t:Tok}:TOk (T.set B (x,a,us++[.int xs.length t]))<|xs++[x]:=by
 have e:(T.set B (x,a,us++[.int xs.length t])).map (·.1)=T.map (·.1):=by
  rw[List.map_set];apply T5;intro j;rw[V1];split
  .next q=>subst q;rw[B3,hi];split <;> simp_all
  .rfl
 refine⟨by rw[e];exact K.nd,λr i=>?_,λy b=>?_,λy b=>?_,by have:=K.len;simp;exact aTf this⟩
 .rw[tH];obtain⟨j,d⟩:=O8 i;rw[V1] at d;split at d
  .next q=>
   split at d
   .cases d
    have:=K.at_ _<|D5 hi;simp only[if_true];refine this.append ?_;rw[show(0:Int)+(xs.length:Int)=xs.length by exact aQS];exact .cons _ _ .nil
   .cases d
  .next q=>
   have n:x≠r.1:=by
    intro z;have g:(T.map (·.1))[B]?=Na x:=by rw[B3,hi];rfl
    have h:(T.map (·.1))[j]?=Na x:=by rw[B3,d,z];rfl
    have hlt:=(A4.mp g).1;exact q<|(AA3 hlt K.nd).mp<|g.trans h.symm
   rw[if_neg n,D0];exact K.at_ r (D5 d)
 .rw[e];obtain b|b:=E4.mp b
  .exact K.all y b
  .simp at b;subst b;exact C1.mpr ⟨_,D5 hi,rfl⟩
 .rw[e] at b;exact E0 _<|K.sub y b
theorem tI(h:x∉a):∀k,oQ k a x=[]:=by
 induction a with
 | nil=>intro k;rfl
 | cons y d b=>
  intro k;simp only[A8,not_or] at h;simp only[oP];rw[if_neg<|λz=>h.1 z.symm,b h.2]
theorem TOk.new{T:Tab}{xs:List Str}(K:TOk T xs){a:E3}(hx:x∉T.map (·.1)){t:Tok}:TOk (T++[(x,a,[.int xs.length t])])<|xs++[x]:=by
 have g:=λq=>hx<|K.all x q;refine⟨?_,λr d=>?_,λy b=>?_,λy b=>?_,by have:=K.len;simp;exact this⟩
 .rw[B4,P2];refine⟨K.nd,by simp,λp hp q e z=>?_⟩;simp at e;subst e;subst z;exact hx hp
 .rw[tH];obtain d|d:=E4.mp d
  .have h:x≠r.1:=λz=>hx<|z▸C9 d;rw[if_neg h,D0];exact K.at_ r d
  .simp at d;subst d;rw[tI g,if_pos rfl,show(0:Int)+(xs.length:Int)=xs.length by exact aQS];exact .cons _ _ .nil
 .rw[B4];obtain b|b:=E4.mp b
  .exact E0 _ (K.all y b)
  .simp at b;subst b;simp
 .rw[B4] at b;obtain b|b:=E4.mp b
  .exact E0 _ (K.sub y b)
  .simp at b;subst b;simp
def oJ(b:List Str)(y:Str):Bool:=Nf (200<=b.length)&&Nf ((b.length:Int).fdiv 100+1<((oQ 0 b y).length:Int))
def bix(b:List Str)(y:Str):List Int:=if oJ b y=Nc then [] else oQ 0 b y
structure TB(T:Tab)(b:List Str):Prop where
 at_:∀t∈T,IntsAre t.2.2 (bix b t.1)
 all:∀y,bix b y≠[]->y∈T.map (·.1)
theorem TOk.tb{T:Tab}(K:TOk T b):TB (T.filter λt=>!oJ b t.1) b:=by
 refine⟨λt d=>?_,λy a=>?_⟩
 .obtain⟨e,g⟩:=T7.mp d;unfold bix;rw[if_neg<|by simpa using g];exact K.at_ t e
 .unfold bix at a;by_cases p:oJ b y=Nc
  .rw[if_pos p] at a;exact absurd rfl a
  .rw[if_neg p] at a;by_cases m:y∈b
   .obtain⟨t,d,rfl⟩:=C1.mp<|K.all y m;exact C1.mpr ⟨t,T7.mpr ⟨d,by simpa using p⟩,rfl⟩
   .exact absurd (tI m 0) a
def B2J(w:E9)(N:E3->Prop)(Z:HP)(dd:E3)(b:List Str):Prop:=
 ∃T:Tab,aFI (AtZ Z dd<|dcD (strKind P w)<|kvT T) ((dd==AA8)=Nd) ((∀t∈T,AtZ Z t.2.1<|aY t.2.2)) (TB T b) (N dd)<|∀t∈T,N t.2.1
structure BI(n:Str)(v:A3):Prop where
 d:(n==("__debug__" : Str))=Nd
 g:∀w:E9,nsIn (K w.params) 3 n=Na Nb
 b:∀w:E9,nsIn (K w.params) 0 n=Na (Na v)
structure GN(n:Str)(v:A3):Prop where
 d:(n==("__debug__" : Str))=Nd
 g:∀w:E9,nsIn (K w.params) 3 n=Na (Na v)
theorem aFa:BI (S9 "len")<|.builtin "len":=⟨by kernel_rfl,λw=>by kernel_rfl,λw=>by kernel_rfl⟩
theorem vJ:BI (S9 "enumerate")<|.type "enumerate":=⟨by kernel_rfl,λw=>by kernel_rfl,λw=>by kernel_rfl⟩
theorem aF8:BI (S9 "set")<|.type "set":=⟨by kernel_rfl,λw=>by kernel_rfl,λw=>by kernel_rfl⟩
theorem aF9:BI (S9 "range")<|.type "range":=⟨by kernel_rfl,λw=>by kernel_rfl,λw=>by kernel_rfl⟩
theorem vI:BI (S9 "list")<|.type "list":=⟨by kernel_rfl,λw=>by kernel_rfl,λw=>by kernel_rfl⟩
theorem aNv:BI (S9 "min")<|.builtin "min":=⟨by kernel_rfl,λw=>by kernel_rfl,λw=>by kernel_rfl⟩
theorem aNw:BI (S9 "max")<|.builtin "max":=⟨by kernel_rfl,λw=>by kernel_rfl,λw=>by kernel_rfl⟩
theorem aNx:BI (S9 "map")<|.type "map":=⟨by kernel_rfl,λw=>by kernel_rfl,λw=>by kernel_rfl⟩
theorem sL:BI (S9 "isinstance")<|.builtin "isinstance":=⟨by kernel_rfl,λw=>by kernel_rfl,λw=>by kernel_rfl⟩
theorem aF7:BI (S9 "str")<|.type "str":=⟨by kernel_rfl,λw=>by kernel_rfl,λw=>by kernel_rfl⟩
theorem xM:BI (S9 "tuple")<|.type "tuple":=⟨by kernel_rfl,λw=>by kernel_rfl,λw=>by kernel_rfl⟩
theorem aNy:BI (S9 "chr")<|.builtin "chr":=⟨by kernel_rfl,λw=>by kernel_rfl,λw=>by kernel_rfl⟩
theorem aNz:BI (S9 "abs")<|.builtin "abs":=⟨by kernel_rfl,λw=>by kernel_rfl,λw=>by kernel_rfl⟩
theorem aCa:BI (S9 "divmod")<|.builtin "divmod":=⟨by kernel_rfl,λw=>by kernel_rfl,λw=>by kernel_rfl⟩
theorem wZ:GN (S9 "Match")<|.ref 135:=⟨by kernel_rfl,λw=>by kernel_rfl⟩
theorem aPp:GN (S9 "SequenceMatcher")<|.ref 242:=⟨by kernel_rfl,λw=>by kernel_rfl⟩
theorem aE8:GN (S9 "_format_range_unified")<|.ref 253:=⟨by kernel_rfl,λw=>by kernel_rfl⟩
theorem aMA:GN (S9 "_check_types")<|.ref 268:=⟨by kernel_rfl,λw=>by kernel_rfl⟩
theorem aE5:GN (S9 "unified_diff")<|.ref 261:=⟨by kernel_rfl,λw=>by kernel_rfl⟩
theorem aNt:BI (S9 "zip")<|.type "zip":=⟨by kernel_rfl,λw=>by kernel_rfl,λw=>by kernel_rfl⟩
theorem aNu:BI (S9 "sum")<|.builtin "sum":=⟨by kernel_rfl,λw=>by kernel_rfl,λw=>by kernel_rfl⟩
theorem aHk:GN (S9 "_law_versions")<|.ref 275:=⟨by kernel_rfl,λw=>by kernel_rfl⟩
theorem aBT:GN (S9 "_law_range")<|.ref 282:=⟨by kernel_rfl,λw=>by kernel_rfl⟩
theorem aE7:GN (S9 "_law_head")<|.ref 289:=⟨by kernel_rfl,λw=>by kernel_rfl⟩
theorem aBS:GN (S9 "_law_steps")<|.ref 294:=⟨by kernel_rfl,λw=>by kernel_rfl⟩
theorem aHl:GN (S9 "_law_run_kept")<|.ref 299:=⟨by kernel_rfl,λw=>by kernel_rfl⟩
theorem aE6:GN (S9 "_law_read")<|.ref 304:=⟨by kernel_rfl,λw=>by kernel_rfl⟩
section
variable{s:A6}{k:Nat}
theorem g_b(G:Gr w s.heap)(hk:env.scope.kind=.function)(hx:env.kindOf x=Na .globalImplicit)(hg:env.globals=3)(hb:env.builtins=0)
  (B:BI x ao) (q:Q ao s):WP w A (eval (.Name x pos) env) Q E s:=aSA G hk hx hg hb B.d (B.g w) (B.b w) q
noncomputable def glE(env:Env)(n:Str):Bool:=env.kindOf n==Na .globalImplicit&&(env.scope.kind == .function&&(env.globals==3&&env.builtins==0))
theorem g_B{v:A3}(B:BI x v)(gz:autoParam (GZ w Z) as1)(F:autoParam (FZ Z env.locals m' σ s.heap) as1)(ok:autoParam (glE env x=Nc) kr)(q:Q v s):WP w A (eval (.Name x pos) env) Q E s:=by
 have h:=F8.mp ok;have a:=F8.mp h.2;have b:=F8.mp a.2;exact g_b (GZ.at gz F) (F6 a.1) (F6 h.1) (F6 b.1) (F6 b.2) B q
theorem g_g(G:Gr w s.heap)(hk:env.scope.kind=.function)(hx:env.kindOf x=Na .globalImplicit)(hg:env.globals=3)
  (B:GN x ao) (q:Q ao s):WP w A (eval (.Name x pos) env) Q E s:=aMG G hk hx hg B.d (B.g w) q
noncomputable def bt(w:E9):Bool:=w.params.followText "set-order"
def aRv(es:Array<|Int×A3)(ep:Nat)(t:SetTable):OD:=λo=>o={cls:=.type "set",dict:=Nb,data:=.set es ep t}
structure aR7(w:E9)(es:Array<|Int×A3)(t:SetTable)(xs:List Str):Prop where
 els:∃l:List<|Str×Tok,(l.map (·.1)).Perm xs/\es.toList=l.map λp=>((strKind P w).hash p.1,A3.str p.1 p.2)
 fits:t.fits es.size=Nc
 led:t.led=!bt w
 pl:xs=[]\/t.plain=Nd
def wB(w:E9)(xs:List Str):OD:=λo=>Ex3 λa b t=>aRv a b t o/\aR7 w a t xs
theorem aC5{gw:A3->A6->Prop}(q:gw (.ref h.objs.size) ⟨h.push {cls:=.type "set",dict:=Nb,data:=.set #[] 0 (.fresh 0 0<|!bt w)},g,d,k,os⟩) :
  codeAny (model P w) A (.call (.builtin "set.__new__") ⟨[.type "set"],[]⟩) (wants gw E) ⟨h,g,d,k,os⟩:=by
 refine codeAny_of_tree ?_;refine A0<|P0 PySem.F.newCall_set_0<|A7 ⟨plainId_quiet PySem.F.plain_set_new _,V5 PySem.F.entry_set_new ?_⟩;have sub:=sub_set_self
 wp_walk
 refine wpAny_askSetting<|A7 ?_;exact A0<|wpAny_alloc<|A7<|A7 q
theorem aNm(q:∀a h',s.heap.get? a=Nb->aM s.heap h'->At h' a (wB w [])->Q (.ref a) {s with heap:=h'}):WP w A (PySem.call (.type "set") []) Q E s:=
 ⟨by
  obtain⟨h,g,d,k,os⟩:=s;obtain⟨c,tl,x⟩:=PySem.F.called_set.mro;have o:=PySem.F.called_set.made;have sub:=PySem.F.called_set.sub;refine wpAny_call<|codeAny_of_tree ?_;refine A7 ⟨Code.quiet_builtin _<|by decide +kernel,V5 PySem.F.entry_type_call ?_⟩;have J:=PySem.F.typeCall_set_0
  repeat (any_goals (first | assumption | wp_step))
  refine AB5 (aC5 (E:=E) (gw:=λv i=>v=.ref h.objs.size/\i=⟨h.push {cls:=.type "set",dict:=Nb,data:=.set #[] 0 (.fresh 0 0<|!bt w)},g,d,k,os⟩) ⟨rfl,rfl⟩) λr i y=>?_;cases r with
  | error e=>exact y
  | ok fl=>
   cases fl with
   | ret v=>
    obtain⟨rfl,rfl⟩:=y;have n:(h.push {cls:=.type "set",dict:=Nb,data:=.set #[] 0 (.fresh 0 0<|!bt w)}).get? h.objs.size=Na {cls:=.type "set",dict:=Nb,data:=.set #[] 0 (.fresh 0 0<|!bt w)}:=C7 _ rfl;have p:A6.TypeIs ⟨h.push {cls:=.type "set",dict:=Nb,data:=.set #[] 0 (.fresh 0 0<|!bt w)},g,d,k,os⟩ (.ref h.objs.size) "set":=⟨_,n,rfl⟩
    have I:=PySem.F.called_set.init.lookup;have C:=PySem.F.called_set.init.bind (.ref h.objs.size)
    repeat (any_goals (first | assumption | wp_step))
    refine AB5 (codeAny_call_builtin (R:=wants (λr j=>r=.none/\Q (.ref h.objs.size) j) E) PySem.F.called_set.init.plain PySem.F.entry_set_init<|check_set_init p ?_) λB j b=>?_
    .unfold K7.«set.__init__» noKeywords
     wp_walk
     refine⟨rfl,q _ _ (aG _) (aJ _ _) ⟨_,n,_,_,_,rfl,⟨[],.rfl,rfl⟩,by cases bt w <;> rfl,rfl,.inl rfl⟩⟩
    .cases B with
     | error e=>exact b
     | ok u=>
      cases u with
      | ret r=>
       obtain⟨rfl,z⟩:=b
       repeat (any_goals (first | assumption | wp_step))
      | _=>exact b.elim
   | _=>exact y.elim⟩
end
theorem aMf:J7 (.type "object") (S9 "b2j")=pure none:=by rw[X6,S6];kernel_rfl
theorem aDL:J7 (.type "object") (S9 "bjunk")=pure none:=by rw[X6,S6];kernel_rfl
abbrev nsL(l:List<|Str×A3):OD:=nsD<|mp l λO=>Nb
theorem wY(xs:List Str)(x:Str):∀k,(oQ k xs x).length<=xs.length:=by
 induction xs with
 | nil=>intro k;simp[zJ]
 | cons y b a=>
  intro k;have:=a<|k+1;simp only[oP];split
  .rw[D1,D1];exact K8 this
  .rw[D1];exact AB1 this
theorem aH6{T:Tab}(hj:T[B]?=Na (x,I,us)):kvT (T.set B (x,I,vs))=kvT T:=by
 unfold kvT;rw[List.map_set];apply T5;intro i;rw[V1];split
 .next q=>subst q;rw[B3,hj];split <;> simp_all
 .rfl
section
variable{k:Nat}
theorem aSW{s:A6}{t:Sem A3}{Q:Bool->A6->Prop}(hp:isTrue ah env t=(do let v ← t;standAt ah.pos;holding [v] (truthy v)))(q:WP w A t (Ke w A truthy Q E) E s):WP w A (isTrue ah env t) Q E s:=
 ⟨isTrue_plain (B7 q.run (λO O y=>y.run) λO O e=>e) hp⟩
theorem aNp(x:At h I<|aY vs)(q:∀e it h',h.get? e=Nb->h.get? it=Nb->e≠it->aM h h'->At h' e (enD it 0)->At h' it (gX I 0)->Q (.ref e) ⟨h',g,d,k,os⟩):WP w A (PySem.call (.type "enumerate") [.ref I]) Q E ⟨h,g,d,k,os⟩:=by
 refine⟨call_enumerate_list x.isList λh' b i o j=>?_⟩;refine q _ h.objs.size h' (AB7 (by show h.objs.size<=h.objs.size+1;exact aT9)) (aG _) (by show h.objs.size+1≠h.objs.size;exact l01<|.n<|.Q aR .a) j ⟨_,b,_,rfl⟩ i
abbrev aB6:I8:=fd (fG 5 5) (S9 "SequenceMatcher.__chain_b") .none Nb (.str (S9 "cpy313.difflib") 194) (.ref 187) Nb
structure Rm(A:M2)(n:Nat):Prop where
 hh:A.handled=Nb
 dp:A.depth+n<1000
 un:A.units+8*n<9900
theorem Rm.room(r:Rm A n):A.depth<W4:=by have:=r.dp;show A.depth<1000;exact(l02<|.i (.S bB dA)<|.S .a dA) this
theorem Rm.deeper(r:Rm A<|n+1):Rm (A.deeper env) n:=⟨r.hh,by have:=r.dp;show A.depth+1+n<1000;exact(l02<|.i (.S gM dA)<|.S iW dA) this,by have:=r.un;show A.units+3+8*n<9900;exact(l02<|.i aAV<|.S (.p (.p .a dB)<|.u 8 .b) eP) this⟩
theorem Rm.in1(r:Rm A<|n+1):Rm A.in1 n:=⟨r.hh,by have:=r.dp;show A.depth+n<1000;exact(l02<|.i (.S gM dA)<|.S bB dA) this,by have:=r.un;show A.units+1+8*n<9900;exact(l02<|.i aAV<|.S (.p aR<|.u 8 .b) eP) this⟩
theorem Rm.less(r:Rm A n)(h:B<=n):Rm A B:=⟨r.hh,by have:=r.dp;exact(l03<|.i (.L .b .c)<|.i (.S iV dA)<|.S bB dA) h this,by have:=r.un;exact(l03<|.i (.L .b .c)<|.i (.S (.p .a<|.u 8 .c) eP)<|.S (.p .a<|.u 8 .b) eP) h this⟩
theorem Rm.under{c:Code}(r:Rm A<|n+1)(h1:c.weight<=1)(h2:c.cUnits<=8):Rm (A.under c) n:=⟨r.hh,by have:=r.dp;show A.depth+c.weight+n<1000;exact(l03<|.i (.L .b aC)<|.i (.S (.p .a cD) dA)<|.S jP dA) h1 this,by have:=r.un;show A.units+c.cUnits+8*n<9900;exact(l03<|.i (.L .b<|.k 8)<|.i (.S (.p .a<|.u 8 cD) eP)<|.S (.p bB<|.u 8 .c) eP) h2 this⟩
theorem aDK:J7 (.type "object") (S9 "_SequenceMatcher__chain_b")=pure none:=by rw[X6,S6];kernel_rfl
theorem aH0:J7 (.type "object") (S9 "set_seq1")=pure none:=by rw[X6,S6];kernel_rfl
theorem aGZ:J7 (.type "object") (S9 "set_seq2")=pure none:=by rw[X6,S6];kernel_rfl
theorem aGY:J7 (.type "object") (S9 "set_seqs")=pure none:=by rw[X6,S6];kernel_rfl
def bdD(id:String)(self:A3):OD:=eqD {cls:=.type "builtin_function_or_method",data:=.fields #[.builtin id,self]}
theorem kC(e:h.get? I=Na oL)(n:Nat):Met h<|G6 n (I,oL):=λp hp=>by rw[(List.mem_replicate.mp hp).2];exact e
theorem HI.one{o:Obj}(x:HI h [o] h'):At h' h.objs.size<|eqD o:=.of<|x.at_ 0 o rfl
theorem zQ[DecidableEq α]{knd:KeyKind P w α}{bc:List<|α×A3}(G:Gr w h)(D:At h I<|dcD knd bc)(q:∀b h' k',h.get? b=Nb->aM h h'->At h' b (bdD "dict.get"<|.ref I)->Q (.ref b) ⟨h',g,d,k',os⟩) :
  WP w A (getAttr (.ref I) (S9 "get") Nc) Q E ⟨h,g,d,k,os⟩:=by
 obtain⟨o,r,p,n,⟨a,e,j⟩,i,_⟩:=D;obtain⟨c,y,x,sl⟩:=o;simp only at a e i j;subst a e i j;refine eyr 600 (G6 6<|.old {cls:=.type "dict",dict:=Nb,data:=.dict p n,slots:=#[]}) G.k (v:=.ref h.objs.size) (u:=G6 6 (I,{cls:=.type "dict",dict:=Nb,data:=.dict p n,slots:=#[]}))
  (l:=[{cls:=.type "builtin_function_or_method",data:=.fields #[.builtin "dict.get",.ref I]}]) (by kernel_rfl) (kC r 6) ?_
 intro h' k' H;exact q _ _ _ (aG _) H.keep H.one
theorem aEd(G:Gr w h)(D:At h I oF)(q:∀b h' k',h.get? b=Nb->aM h h'->At h' b (bdD "set.__contains__"<|.ref I)->Q (.ref b) ⟨h',g,d,k',os⟩) :
  WP w A (getAttr (.ref I) (S9 "__contains__") Nc) Q E ⟨h,g,d,k,os⟩:=by
 obtain⟨o,e,a,rfl⟩:=D;refine eyr 600 (G6 6<|.old {cls:=.type "set",dict:=Nb,data:=.set #[] 0 (.fresh 0 0 a)}) G.k (v:=.ref h.objs.size) (u:=G6 6 (I,{cls:=.type "set",dict:=Nb,data:=.set #[] 0 (.fresh 0 0 a)}))
  (l:=[{cls:=.type "builtin_function_or_method",data:=.fields #[.builtin "set.__contains__",.ref I]}]) (by kernel_rfl) (kC e 6) ?_
 intro h' k' H;exact q _ _ _ (aG _) H.keep H.one
theorem aF0{id:String}{az:Args}{B:K7}{S:PySem.Spec}{s:A6}(plain:plainId id=Nc)(ji:entryFor table id=Na B)(m:MeetsIn P w (B az) S)(q:S A R s):CD w A (.builtin id az) R s:=
 ⟨V5 ji (by rw[M2.under_plainId plain];exact m A R s q)⟩
theorem eyc{c:Code}(n:Nat)(ol:List Ora)(X:(K w.params).In h)
  {l:List Obj} (e:eyV ⟨P,w.params⟩ ((ey (K w.params) ⟨P,w.params⟩ h.objs.size n).1 Fin ⟨k,ol,[],[]⟩<|denote qT c)=Na (.again c',u,l)) (m:Met h u) (hq:c'.quiet=Nc) (q:∀h' k',HI h l h'->CD w A c' R ⟨h',g,d,k',os⟩):CD w A c R ⟨h,g,d,k,os⟩:=
 vG (eyr n ol X e m λh' k' H=>⟨hq,q h' k' H⟩)
theorem vH[DecidableEq α]{knd:KeyKind P w α}{bc:List<|α×A3}{x:α}(G:Gr w h)(hs:(I==AA8)=Nd)(D:At h I<|dcD knd bc)(B:At h M<|bdD "dict.get"<|.ref I)(hk:knd.is x ao=Nc)
  (q:∀k',Q ((W1 bc x).getD dflt) ⟨h,g,d,k',os⟩):WP w A (PySem.call (.ref M) [ao,dflt]) Q E ⟨h,g,d,k,os⟩:=by
 have e:=D;obtain⟨o,C,b,a,⟨i,j,r⟩,n,_⟩:=D;obtain⟨c,N,J,sl⟩:=o;subst i j n r;have y:=B.get;refine kK (eyc (c':=.builtin "dict.get" ⟨[.ref I,ao,dflt],[]⟩) 300 (.old {cls:=.type "builtin_function_or_method",data:=.fields #[.builtin "dict.get",.ref I]}::G6 3 (.old {cls:=.type "dict",dict:=Nb,data:=.dict b a,slots:=#[]})) G.k
  (u:=G6 3 (I,{cls:=.type "dict",dict:=Nb,data:=.dict b a,slots:=#[]})++[(M,{cls:=.type "builtin_function_or_method",data:=.fields #[.builtin "dict.get",.ref I]})]) (l:=[]) (by kernel_rfl) ?_ (by kernel_rfl) ?_)
 .intro p hp;obtain hp|hp:=E4.mp hp
  .exact kC C 3 p hp
  .simp at hp;subst hp;exact y
 .intro O k' H;have:=H.same rfl;subst this;exact aF0 (by decide +kernel) PySem.F.entry_dict_get (meets_dict_get_default knd I hk hs dflt) ⟨_,e.dictOf.mapOf,q _⟩
theorem aGd(D:At h I oF):h.SetOf (strKind P w) I (λO=>Nd) 0:=by
 obtain⟨o,d,a,rfl⟩:=D;exact⟨_,#[],0,.fresh 0 0 a,d,⟨rfl,rfl,rfl⟩,rfl,(λe b=>by simp at b),(λk=>by simp),by decide,rfl,rfl⟩
theorem aA5(G:Gr w h)(D:At h I oF)(B:At h M<|bdD "set.__contains__"<|.ref I)(q:∀k',Q (.bool Nd) ⟨h,g,d,k',os⟩) :
  WP w A (PySem.call (.ref M) [.str x ti]) Q E ⟨h,g,d,k,os⟩:=by
 have b:=D;obtain⟨o,i,a,rfl⟩:=D;have e:=B.get;refine kK (eyc (c':=.builtin "set.__contains__" ⟨[.ref I,.str x ti],[]⟩) 300 (.old {cls:=.type "builtin_function_or_method",data:=.fields #[.builtin "set.__contains__",.ref I]}::G6 3 (.old {cls:=.type "set",dict:=Nb,data:=.set #[] 0 (.fresh 0 0 a)})) G.k
  (u:=G6 3 (I,{cls:=.type "set",dict:=Nb,data:=.set #[] 0 (.fresh 0 0 a)})++[(M,{cls:=.type "builtin_function_or_method",data:=.fields #[.builtin "set.__contains__",.ref I]})]) (l:=[]) (by kernel_rfl) ?_ (by kernel_rfl) ?_)
 .intro p hp;obtain hp|hp:=E4.mp hp
  .exact kC i 3 p hp
  .simp at hp;subst hp;exact e
 .intro n k' H;have:=H.same rfl;subst this;refine⟨V5 entry_set_contains ?_⟩;unfold K7.«frozenset.__contains__» K7.Frozenset.oneOther;simp only[List.isEmpty_nil,bind_assoc];refine A0 (A7 ?_)
  try dsimp only
  refine A0 (A7 ?_)
  try dsimp only
  refine A0<|wpAny_tryCatch ?_;refine G9 ?_;refine A0<|(strKind P w).pyHash (strKind_is P w x ti) ?_;refine A0<|wpAny_setFind_of (strKind_is P w x ti) rfl (aGd b) λr j=>?_;refine A7 ?_;rw[j];exact A7<|q _
theorem aQ5{s:A6}{id:String}(he:C0 (e::rest) env=(Nd,eval e env)::C0 rest env)(hp:(I9 pos<|C0 rest env).any (·.1)=Nd)
  (q:WP w A (spliced<|I9 pos<|C0 (e::rest) env) (λvs aj=>At aj.heap I (bdD id ao)/\WP w A (PySem.call (.ref I) vs) Q E aj) E s):WP w A (Z9 pos (.ref I) [] (I9 pos<|C0 (e::rest) env) (K4 pos<|G5 [] env)) Q E s:=by
 refine⟨?_⟩;have h:=q.run;rw[he] at h ⊢;refine callWith_of (P:=λh=>At h I<|bdD id ao) (by show((Nd||(I9 pos<|C0 rest env).any (·.1))||false)=Nd;rw[hp];rfl) (λh x=>⟨.machine,.inr<|.inl rfl,?_⟩)<|evalArgs_plain<|B7 h (λvs aj y=>⟨y.1,y.2.run⟩) λO O e=>e;refine(Looks.ld x.get).andThen ?_;exact Looks.of_pure<|by kernel_rfl
def mtD(i j c:Int):OD:=λo=>Ex4 λa d e b=>o={cls:=.ref 135,dict:=Na a,data:=.seq #[.int i d,.int j e,.int c b]}
theorem aA4(x:At h I<|gI vs)(hz:vs.length<=B9)(mz:vs≠[])
  (q:∀S h',h.get? S=Nb->aM h h'->h'.get? S=Na {cls:=.type "list",data:=.seq vs.toArray 1}->R (.ok<|.ret<|.ref S) ⟨h',g,d,k,os⟩):CD w A (.builtin "proto.collect" ⟨[.ref I],[]⟩) R ⟨h,g,d,k,os⟩:=by
 obtain⟨o,j,n,rfl⟩:=x;refine⟨V5 F.entry_proto_collect ?_⟩;refine A0<|V6 ?_;refine A7 ⟨plainId_quiet F.plain_list_iadd _,V5 F.entry_list_iadd ?_⟩;have a:(h.push {cls:=.type "list",data:=.seq ([]:List A3).toArray}).get? h.objs.size=Na {cls:=.type "list",data:=.seq #[] 0}:=C7 _ rfl;have i:=J3 (K6 (·++vs.toArray)) a rfl;refine wpAny_extend_seq _ I _ 0 (.inr rfl) a (I7 _ j) rfl rfl ?_;refine q h.objs.size _ (aG _) (λb p e=>?_) ?_
 .exact(O7.get?_update_other _ _<|Nat.ne_of_gt<|L6 e).trans (I7 _ e)
 .simpa[K6,mz] using i
theorem aAi{c:Int}(G:Gr w h)(x:At h I<|gI [.int i ti,.int j tj,.int c t1])
  (q:∀a dd h' k',h.get? a=Nb->aM h h'->h'.get? a=Na {cls:=.ref 135,dict:=Na dd,data:=.seq #[.int i ti,.int j tj,.int c t1]}->Q (.ref a) ⟨h',g,d,k',os⟩):WP w A (PySem.call (.builtin "tuple.__new__") [.ref 135,.ref I]) Q E ⟨h,g,d,k,os⟩:=by
 refine kK (eyc (c':=.builtin "tuple.__new__" ⟨[.ref 135,.ref I],[]⟩) 300 [] G.k (u:=[]) (l:=[]) (by kernel_rfl) (λp hp=>by cases hp) (by kernel_rfl) ?_);intro N O r;have:=r.same rfl;subst this;refine vG (eyk 1000 (G6 9 .kk++[.stop]) G.k (c:=.builtin "proto.collect" ⟨[.ref I],[]⟩) (u:=[]) (l:=[]) (by kernel_rfl) (λp hp=>by cases hp) ?_);intro C R y;have:=y.same rfl;subst this;refine aA4 x (by simp[C5]) (by simp) ?_;intro S b T e B;refine eyr 1000 [.old {cls:=.type "list",data:=.seq [.int i ti,.int j tj,.int c t1].toArray 1}] (G.keeps e).k (v:=.done<|.ret<|.ref<|b.objs.size+1) (u:=[(S,{cls:=.type "list",data:=.seq [.int i ti,.int j tj,.int c t1].toArray 1})])
  (l:=[{cls:=.type "dict",data:=.dict #[] 0},{cls:=.ref 135,dict:=Na<|b.objs.size,data:=.seq #[.int i ti,.int j tj,.int c t1]}]) (by kernel_rfl) (λp hp=>by simp at hp;subst hp;exact B) ?_
 intro J M n;refine q _ _ J M (by cases z:C.get? (b.objs.size+1) with | none=>rfl | some o=>have:=L6<|e _ _ z;exact absurd this (by show ¬(b.objs.size+1<b.objs.size);exact aQJ)) (e.trans n.keep) (n.at_ 1 _ rfl)
theorem aLY{c:Int}(G:Gr w h)(r:Rm A 0)
  (q:∀a dd h' k',h.get? a=Nb->aM h h'->h'.get? a=Na {cls:=.ref 135,dict:=Na dd,data:=.seq #[.int i ti,.int j tj,.int c t1]}->R (.ok<|.ret<|.ref a) ⟨h',g,d,k',os⟩):CD w A (.call (.ref 82) ⟨[.ref 135,.int i ti,.int j tj,.int c t1],[]⟩) R ⟨h,g,d,k,os⟩:=by
 refine zd0 (f:=aPK) (bx:=[(S9 "_cls",.ref 135),(S9 "a",.int i ti),(S9 "b",.int j tj),(S9 "size",.int c t1)]) G r.room rfl (BindsTo.of_eq<|by kernel_rfl) rfl (q:=?_);intro L M Q u F;refine fH (aIA (by kernel_rfl) (by kernel_rfl) ?_);intro S;refine fH (aCo<|fN (λO=>rfl) (by kernel_rfl) (by kernel_rfl) ?_);refine g_B xM (q:=?_);intro pl;refine evv 300 (u.at F).k (v:=(.builtin "tuple.__new__",[])) (by kernel_rfl) ?_;intro U;refine tN rfl rfl<|dZ rfl ?_;refine zn (q:=?_);refine dZ rfl<|aBh<|dZ rfl ?_;refine zn (q:=?_);refine dZ rfl ?_;refine zn (q:=?_);refine dZ rfl ?_;refine zn (q:=?_);refine lG ⟨by simp[C5],?_⟩;intro T N J E p;have n:=F.add J E p;refine lG<|aAi (u.at n) p ?_;intro a dd y C x I B;refine q a dd y C ?_ (λb o e=>I _ _<|n.keep b o e) B;cases z:h.get? a with
 | none=>rfl
 | some o=>rw[n.keep a o z] at x;cases x
theorem zD{c:Int}(G:Gr w h)(r:Rm A 2)
  (q:∀a h' k',h.get? a=Nb->aM h h'->At h' a (mtD i j c)->Q (.ref a) ⟨h',g,d,k',os⟩):WP w A (PySem.call (.ref 135) [.int i ti,.int j tj,.int c t1]) Q E ⟨h,g,d,k,os⟩:=by
 refine kK (eyc (c':=.call (.builtin "type.__call__") ⟨[.ref 135,.int i ti,.int j tj,.int c t1],[]⟩) 300 [] G.k (u:=[]) (l:=[]) (by kernel_rfl) (λp hp=>by cases hp) (by kernel_rfl) ?_);intro B C e;have:=e.same rfl;subst this;refine eyc (c':=.builtin "type.__call__" ⟨[.ref 135,.int i ti,.int j tj,.int c t1],[]⟩) 300 [] G.k (u:=[]) (l:=[]) (by kernel_rfl) (λp hp=>by cases hp) (by kernel_rfl) ?_;intro B C e;have:=e.same rfl;subst this;refine vG (eyk 2000 (G6 14 .kk++[.stop]) G.k (c:=.call (.ref 82) ⟨[.ref 135,.int i ti,.int j tj,.int c t1],[]⟩) (u:=[]) (l:=[]) (by kernel_rfl) (λp hp=>by cases hp) ?_);intro J O x;have:=x.same rfl;subst this;refine aLY G ((r.under (F1<|by kernel_rfl)<|F1<|by kernel_rfl).less<|aTc) ?_;intro a b M R I o n;refine eyr 2000 [.old {cls:=.ref 135,dict:=Na b,data:=.seq #[.int i ti,.int j tj,.int c t1]},.kk,.old {cls:=.ref 135,dict:=Na b,data:=.seq #[.int i ti,.int j tj,.int c t1]},.kk,.kk,.kk,.old {cls:=.ref 135,dict:=Na b,data:=.seq #[.int i ti,.int j tj,.int c t1]},.kk,.old {cls:=.ref 135,dict:=Na b,data:=.seq #[.int i ti,.int j tj,.int c t1]}] (G.keeps o).k (v:=.done<|.ret<|.ref a)
  (l:=[]) (by kernel_rfl) (kC n 4) ?_
 intro N S y;have:=y.same rfl;subst this;exact q a _ _ I o ⟨_,n,b,ti,tj,t1,rfl⟩
end
section
variable{s:A6}
theorem aEE(q:WP w A (eval av env) (λo aj=>WP w A (eval ca env) (λi ay=>WP w A (subscriptTail av ca o i) Q E ay) E aj) E s):WP w A (eval (.Subscript av ca pos) env) Q E s:=
 ⟨Subscript_<|B7 q.run (λO O y=>B7 y.run (λO O z=>z.run) λO O e=>e) λO O e=>e⟩
theorem aTh{rest:List<|A3->Sem Unit}{v:A3}(q:WP w A (storeName env x v) (λO aj=>WP w A (O6 rest vs) Post E aj) E s):WP w A (O6 ((λv=>bindName env x v)::rest)<|v::vs) Post E s:=
 ⟨wpAny_assignInOrder_more<|B7 (wpAny_bindName q.run) (λO O y=>y.run) λO O e=>e⟩
theorem aKD{Q:U4->A6->Prop}(a8:List Str)(hs:X9 [.Tuple ba B cy] (.Tuple cn C cw) pos.line env=pure Nd)(hw:J8 [.Tuple ba B cy] (.Tuple cn C cw) env=pure (Na a8))(hh:A.handled=Nb)
  (q:WP w A (spliced<|I9 cw<|C0 cn env) (λvs aj=>vs.length=a8.length/\vs.length<=B9/\∀h',aM aj.heap h'->WP w A (O6 (a8.reverse.map λn=>λv=>bindName env n v) vs.reverse) (λO ay=>Q .next ay) E {aj with heap:=h'}) E s) :
  WP w A (exec (.Assign [.Tuple ba B cy] (.Tuple cn C cw) pos) env) Q E s:=by
 refine⟨Assign_Tuple_swapped (names:=a8) ?_ hs hw⟩;refine(aBh (q.mono λvs aj y=>⟨y.2.1,λa h' j i at_=>?_⟩):WP w A (eval (.Tuple cn C cw) env) _ E s).run;rw[← y.1];have z:=at_.isTup;have:=unpackItems_tuple (prog:=P) (w:=w) (E:=E) (s:={aj with heap:=h'}) (Q:=λd ay=>M8 (model P w) A (O6 (a8.reverse.map λn=>bindName env n) d.reverse) (λO=>Q .next) E ay) hh z<|λg h=>(y.2.2 g<|i.trans λb o e=>h b o (W6<|L6 e) e).run;simpa using this
theorem aI2(q:Q (.bool Nd) s):WP w A (E6 .Is (.int i ti) .none) Q E s:=⟨is_int_none q⟩
theorem aI1(q:Q (.bool<|!(ao == .none)) s):WP w A (E6 .IsNot ao .none) Q E s:=⟨isnot_none_gen q⟩
end
abbrev Jm:=Int->Option Int
variable{old:Jm}
abbrev T3:=Int×Int×Int
variable{aw:List T3}{b8:T3}
noncomputable def kP(i:Int)(old:Jm)(j:Int)(st:Jm×T3):Jm×T3:=
 let k:=(old<|j-1).getD 0+1
 (λx=>if x=j then Na k else st.1 x,if k>st.2.2.2 then (i-k+1,j-k+1,k) else st.2)
def bS(i ac af:Int)(old:Jm)(x0:List Int)(x1:Jm×T3):Jm×T3:=
 List.rec (motive:=λO=>Jm×T3->Jm×T3) (λst=>st) (λj b a st=>if j<ac then (a st) else if j>=af then st else (a<|kP i old j st)) x0 x1
theorem wV(i ac af:Int)(old:Jm)(st:Jm×T3):bS i ac af old [] st=st:=rfl
theorem iG(i ac af:Int)(old:Jm){j}(js:List Int)(st:Jm×T3):bS i ac af old (j::js) st=(if j<ac then bS i ac af old js st else if j>=af then st else bS i ac af old js (kP i old j st)):=rfl
def gW(ix:Str->List Int)(ac af:Int)(x0:Int)(x1:List Str)(x2:Jm)(x3:T3):T3:=
 List.rec (motive:=λO=>Int->Jm->T3->T3) (λO O b=>b) (λx e d i a b=>(d (i+1) (bS i ac af a (ix x) (λO=>Nb,b)).1 (bS i ac af a (ix x) (λO=>Nb,b)).2)) x1 x0 x2 x3
theorem aDj(ix:Str->List Int)(ac af:Int)(i:Int){x}(xs:List Str)(old:Jm)(b8:T3):gW ix ac af i (x::xs) old b8=(gW ix ac af (i+1) xs (bS i ac af old (ix x) (λO=>Nb,b8)).1 (bS i ac af old (ix x) (λO=>Nb,b8)).2):=rfl
noncomputable def oW(a b:List Str)(aa ac:Int)(n:Nat):T3->T3:=
 Y9 (motive:=λO=>T3->T3) (λt=>t) (λO d t=>if t.1>aa/\t.2.1>ac/\a[(t.1-1).toNat]?=b[(t.2.1-1).toNat]? then d (t.1-1,t.2.1-1,t.2.2+1) else t) n
theorem oV:oW a b aa ac (n+1) (i,j,lo)=if i>aa/\j>ac/\a[(i-1).toNat]?=b[(j-1).toNat]? then oW a b aa ac n (i-1,j-1,lo+1) else (i,j,lo):=rfl
noncomputable def mZ(a b:List Str)(aq af:Int)(n:Nat):T3->T3:=
 Y9 (motive:=λO=>T3->T3) (λt=>t) (λO d t=>if t.1+t.2.2<aq/\t.2.1+t.2.2<af/\a[(t.1+t.2.2).toNat]?=b[(t.2.1+t.2.2).toNat]? then d (t.1,t.2.1,t.2.2+1) else t) n
theorem jU{k:Int}:mZ a b aq af (n+1) (i,j,k)=if i+k<aq/\j+k<af/\a[(i+k).toNat]?=b[(j+k).toNat]? then mZ a b aq af n (i,j,k+1) else (i,j,k):=rfl
def flm(a b:List Str)(aa aq ac af:Int):T3:=
 let t:=gW (bix b) ac af aa ((a.drop aa.toNat).take (aq-aa).toNat) (λO=>Nb) (aa,ac,0)
 let t:=oW a b aa ac (t.1-aa).toNat t
 mZ a b aq af (aq-t.1).toNat t
theorem qB(h0:0<=aa)(h1:aa<=aq)(h2:aq<=a.length):(((a.drop aa.toNat).take (aq-aa).toNat).length:Int)=aq-aa:=by
 obtain⟨n,rfl⟩:=K2 h0;obtain⟨m,rfl⟩:=Int.le.dest h1;rw[AB3,Int.add_sub_cancel,L3,G4,F5,T9<|Nat.le_sub_of_add_le<|AB2.mp (by rw[V2,AB3];exact h2)]
structure BB(aa aq ac af:Int)(t:T3):Prop where
 k0:0<=t.2.2
 i0:aa<=t.1
 i1:t.1+t.2.2<=aq
 j0:ac<=t.2.1
 j1:t.2.1+t.2.2<=af
def JB(aa ac af i:Int)(m:Jm):Prop:=∀j n,m j=Na n->1<=n/\n<=i-aa/\n<=j-ac+1/\j<af
theorem aCI{st:Jm×T3}(hi:aa<=i)(dm:i<aq)(hj:ac<=j)(fv:j<af)(ho:JB aa ac af i old)(hn:JB aa ac af (i+1) st.1)(hb:BB aa aq ac af st.2):
  JB aa ac af (i+1) (kP i old j st).1/\BB aa aq ac af (kP i old j st).2:=by
 have hk:0<=(old<|j-1).getD 0/\(old<|j-1).getD 0<=i-aa/\(old<|j-1).getD 0<=j-ac:=by
  cases e:old (j-1) with
  | none=>exact⟨C2 _,J5 hi,J5 hj⟩
  | some n=>have:=ho _ _ e;rw[Option.getD_some];exact(l60<|.i (.o lC<|.o (.l .a dK)<|.o (.l .a<|.p (.m (.m .d aC) .e) aC)<|.s (.m .d aC) .f)<|.o bE<|.o (.l .a dK)<|.l .a iE) this
 rw[show kP i old j st=(λx=>if x=j then Na ((old<|j-1).getD 0+1) else st.1 x,if (old<|j-1).getD 0+1>st.2.2.2 then (i-((old<|j-1).getD 0+1)+1,j-((old<|j-1).getD 0+1)+1,(old<|j-1).getD 0+1) else st.2) from rfl];generalize (old<|j-1).getD 0=k at hk ⊢;obtain⟨b,g,h⟩:=hk;constructor
 .intro x n e;by_cases q:x=j
  .subst q;have e:(if x=x then Na (k+1) else st.1 x)=Na n:=e;rw[if_pos rfl] at e;cases e
   exact(l60<|.i bE<|.i (.l .a dK)<|.i (.s .d .f)<|.i (.l .a iE)<|.o (.l aC aR)<|.o (.l aR<|.m bJ .c)<|.o (.l aR<|.p iE aC)<|.s .d .f) b g fv h
  .have e:(if x=j then Na (k+1) else st.1 x)=Na n:=e;rw[if_neg q] at e;exact hn x n e
 .simp only;split
  .have r:i-(k+1)+1=i-k:=aQX;have u:j-(k+1)+1=j-k:=aQX;rw[r,u];exact⟨by simp only;exact ar4 b,by simp only;exact aQN g,by simp only;exact aQM dm,by simp only;exact aQN h,by simp only;exact aQM fv⟩
  .exact hb
theorem aBQ(hi:aa<=i)(dm:i<aq)(ho:JB aa ac af i old):∀(js:List Int)(st:Jm×T3),JB aa ac af (i+1) st.1->BB aa aq ac af st.2 ->
  JB aa ac af (i+1) (bS i ac af old js st).1/\BB aa aq ac af (bS i ac af old js st).2:=by
 intro js;induction js with
 | nil=>
  intro st b a;exact⟨b,a⟩
 | cons j js d=>
  intro st b a;simp only[iG];split
  .exact d st b a
  .split
   .exact⟨b,a⟩
   .have:=aCI hi dm ((l20<|.i (.n gD) bF)<|by assumption) ((l20<|.i (.n eO) cC)<|by assumption) ho b a;exact d _ this.1 this.2
theorem JB.nil(aa ac af i:Int):JB aa ac af i<|λO=>Nb:=λO O e=>by cases e
theorem vA:∀(n:Nat)(t:T3),BB aa aq ac af t->BB aa aq ac af (oW a b aa ac n t):=by
 intro n;induction n with
 | zero=>exact λt h=>h
 | succ n d=>
  rintro⟨i,j,k⟩ h;rw[oV];split
  .next q=>exact d _ ⟨by have:=h.k0;simp at *;exact ar4 this,by have:=h.i0;simp at *;exact aIj q.1,by have:=h.i1;simp at *;exact aIi this,by have:=h.j0;simp at *;exact aIj q.2.1,by have:=h.j1;simp at *;exact aIi this⟩
  .exact h
theorem uZ:∀(n:Nat)(t:T3),BB aa aq ac af t->BB aa aq ac af (mZ a b aq af n t):=by
 intro n;induction n with
 | zero=>exact λt h=>h
 | succ n d=>
  rintro⟨i,j,k⟩ h;rw[jU];split
  .next q=>exact d _ ⟨by have:=h.k0;simp at *;exact ar4 this,by have:=h.i0;simp at *;exact this,by have:=h.i1;simp at *;exact aIh q.1,by have:=h.j0;simp at *;exact this,by have:=h.j1;simp at *;exact aIh q.2.1⟩
  .exact h
theorem sV{ix:Str->List Int}:∀(xs:List Str)(i:Int)(old:Jm)(b8:T3),aa<=i->i+xs.length<=aq->JB aa ac af i old->BB aa aq ac af b8->BB aa aq ac af (gW ix ac af i xs old b8)
 :=by
 intro xs;induction xs with
 | nil=>
  rintro i old b8 a d g e;exact e
 | cons x xs h=>
  rintro i old b8 a d g e;have:=aBQ a ((l21<|.i (.l gO .b) cC) d) g (ix x) (λO=>Nb,b8) (JB.nil _ _ _ _) e;exact h (i+1) _ _ (aQL a) (aQK d) this.1 this.2
def IV(bc:List<|Int×A3)(f:Jm):Prop:=∀j,match f j with
 | none=>W1 bc j=Nb
 | some n=>∃t,W1 bc j=Na (.int n t)
theorem IV.nil:IV [] (λO=>Nb):=λj=>rfl
theorem qO[DecidableEq α](bc:List<|α×A3)(x y:α)(v:A3):W1 (stored bc x v) y=if y=x then Na v else W1 bc y:=by
 unfold stored;split
 .next h=>
  unfold W1;induction bc with
  | nil=>simp at h
  | cons p l i=>
   obtain⟨k,u⟩:=p;by_cases e:k=x
   .subst e;by_cases z:y=k
    .subst z;simp
    .have b:¬k=y:=λq=>z q.symm;simp only[H5,if_true,List.find?_cons,b,decide_false,z,if_false];by_cases g:(l.any λa=>Nf<|a.1=k)=Nc
     .have:=i g;simp only[z,if_false] at this;exact this
     .have:l.map (λa=>if a.1=k then (a.1,v) else a)=l:=by
       refine(List.map_congr_left λq d=>?_).trans<|List.map_id l;rw[if_neg];rfl;intro e;exact g<|U3.mpr ⟨q,d,by simpa using e⟩
      rw[this]
   .have g:(l.any λa=>Nf<|a.1=x)=true:=by simpa[e] using h
    have:=i g;by_cases z:y=k
    .subst z;simp[e]
    .have b:¬k=y:=λq=>z q.symm;simp only[H5,e,if_false,List.find?_cons,b,decide_false];exact this
 .next h=>
  unfold W1;rw[List.find?_append];by_cases z:y=x
  .subst z;have:bc.find? (λa=>Nf<|a.1=y)=none:=by
    rw[List.find?_eq_none];intro q d e;exact h<|U3.mpr ⟨q,d,e⟩
   rw[this];simp
  .have b:¬x=y:=λq=>z q.symm;cases bc.find? (λa=>Nf<|a.1=y) <;> simp[z,b]
theorem yF[DecidableEq α](bc:List<|α×A3)(x:α)(v:A3):(stored bc x v).length<=bc.length+1:=by
 unfold stored;split <;> simp
theorem IV.put{f:Jm}(h:IV bc f)(j n:Int)(t:Tok):IV (stored bc j<|.int n t) (λx=>if x=j then Na n else f x):=by
 intro x;rw[qO];by_cases e:x=j
 .subst e;simp
 .simp only[e,if_false];exact h x
theorem IV.get{f:Jm}(h:IV bc f)(j:Int)(t:Tok):∃u,(W1 bc j).getD (.int 0 t)=.int ((f j).getD 0) u:=by
 have:=h j;cases e:f j with
 | none=>rw[e] at this;rw[this];exact⟨t,rfl⟩
 | some n=>rw[e] at this;obtain⟨u,this⟩:=this;rw[this];exact⟨u,rfl⟩
theorem aI4(b:List Str)(y:Str):(bix b y).length<=b.length:=by
 unfold bix;split
 .exact C8 _
 .exact wY _ _ _
theorem TB.look{T:Tab}(K:TB T b)(at_:∀t∈T,AtZ Z t.2.1<|aY t.2.2)(y:Str)(sub:Sub Z h)(nn:At h I<|aY []):
  Ex2 λa us=>lY ((W1 (kvT T) y).getD (.ref I)=.ref a) (At h a<|aY us) (IntsAre us<|bix b y)<|((AtZ Z a<|aY us)\/(a=I/\us=[])):=by
 obtain⟨z,n⟩|⟨i,a,us,g,z⟩:=nZ T y
 .refine⟨I,[],by rw[z];rfl,nn,?_,.inr ⟨rfl,rfl⟩⟩;rw[show bix b y=[] from Classical.byContradiction λe=>n<|K.all y e];exact .nil
 .have d:=D5 g;exact⟨a,us,by rw[z];rfl,(at_ _ d).up sub,K.at_ _ d,.inl<|at_ _ d⟩
section
variable{k:Nat}
theorem aID(hh:A.handled=Nb)(x:At h I<|gI vs)(hn:(E7 ba env).length=vs.length)
  (hs:(E7 ba env).findIdx? (·.1)=Nb) (q:∀h',aM h h'->WP w A (O6 ((E7 ba env).map (·.2)) vs) Post E ⟨h',g,d,k,os⟩):WP w A (assign (.Tuple ba B pos) env<|.ref I) Post E ⟨h,g,d,k,os⟩:=aNB hh x hn hs q
theorem vV{v:A3}(x:At h I<|aY vs)(hz:vs.length<=B9)
  (q:∀h',At h' I (aY<|vs++[v])->aK [I] h h'->Q .none ⟨h',g,d,k,os⟩):WP w A (PySem.call (.builtin "list.append") [.ref I,v]) Q E ⟨h,g,d,k,os⟩:=aDU x hz λh' y z=>q h' y<|aK.same z
abbrev aJc:I8:=fd (fG 5 6) (S9 "SequenceMatcher.find_longest_match") (.ref 189) (Na 490) (.str (S9 "cpy313.difflib") 194) (.ref 195) Nb
theorem rs1{a b:Int}(h:a<=b):K7.Range.rangeSize a b 1=b-a:=by
 unfold K7.Range.rangeSize;simp;exact(l20<|.i eO<|.i bF<|.q aE bG) h
theorem aKW(h0:0<=j)(h:j<=lo)(hb:lo<=1000000):K7.Range.small j lo 1=true:=by
 unfold K7.Range.small;simp only[rs1 h];simp[K7.Range.rangeFitsLong];exact(l20<|.i bE<|.i bF<|.i (.l .b cL)<|.o (.o (.o (.o (.l (.g gJ) .a)<|.s .a gJ)<|.o (.l (.g gJ) .b)<|.s .b gJ)<|.o (.l (.g gJ) eM)<|.s eM gJ)<|.w (.q eM aE)<|.o (.l (.g gJ) .b)<|.s .b gJ) h0 h hb
theorem aI0(q:∀r h' k',h.get? r=Nb->aM h h'->At h' r (rgD i j)->Q (.ref r) ⟨h',g,d,k',os⟩):WP w A (PySem.call (.type "range") [.int i ti,.int j tj]) Q E ⟨h,g,d,k,os⟩:=
 ⟨call_range_2<|q _ _ _ (aG _) (aJ _ _) ⟨_,C7 _ rfl,_,_,_,rfl⟩⟩
theorem aFY{Q:Bool->A6->Prop}(x:At h I<|aY vs)(hz:vs.length<4611686018427387904)(q:∀k',Q (!vs.isEmpty) ⟨h,g,d,k',os⟩):WP w A (truthy<|.ref I) Q E ⟨h,g,d,k,os⟩:=
 ⟨wpAny_truthy_list x.isList (by simp;exact aQO hz)<|by simpa using q _⟩
theorem uX{s:A6}{id:String}{pl:Sem Bool}{Q:A3×List A3->A6->Prop}(g9:Slot "list" name id)(ty:typeOf (.builtin id)=pure (.type "method_descriptor"))(x:At s.heap I<|aY vs)(q:Q (.builtin id,[.ref I]) s) :
  WP w A (Y7 (.ref I) name pl) Q E s:=
 ⟨getMethod_builtin x.isList.typeIs F.plainAttrs_list g9 ty (λb e=>by cases e;obtain⟨o,e,n,q⟩:=x;exact⟨o,e,by rw[q]⟩) q⟩
theorem aQe{y:A3}(x:At h I<|aY<|vs++[y])(hz:vs.length<16777216)
  (q:∀h',At h' I (aY vs)->aK [I] h h'->Q y ⟨h',g,d,k,os⟩):WP w A (PySem.call (.builtin "list.pop") [.ref I]) Q E ⟨h,g,d,k,os⟩:=by
 obtain⟨o,b,n,rfl⟩:=x;refine⟨call_meets PySem.F.slot_list_pop ⟨_,b,rfl⟩ PySem.F.entry_list_pop (PySem.F.args_list_pop_1 _) (PySem.MeetsSeq.list_pop_last I _ n y (by simp) (by simp[C5];exact(l01<|.i (.S .a cH)<|.L .a<|.k 16777215) hz)) ⟨b,?_⟩⟩;refine q _ ?_<|aK.same<|G8 ..;have:=J3 (K6 λp=>p.eraseIdxIfInBounds<|(vs++[y]).toArray.size-1) b rfl;refine⟨_,this,?_⟩;have e:=kl_erase vs [] y;have j:(vs++[y]).toArray.size-1=vs.length:=by simp
 rw[j];rw[D0] at e;unfold aY;simp only[K6,e];exact⟨_,rfl⟩
end
abbrev Q4:=Int×Int×Int×Int
variable{q:Q4}
def cG(a b:List Str)(q:Q4)(st:List Q4)(aw:List T3):List Q4×List T3:=
 let t:=flm a b q.1 q.2.1 q.2.2.1 q.2.2.2
 if t.2.2=0 then (st,aw) else
  let st1:=if q.1<t.1/\q.2.2.1<t.2.1 then (q.1,t.1,q.2.2.1,t.2.1)::st else st
  let st2:=if t.1+t.2.2<q.2.1/\t.2.1+t.2.2<q.2.2.2 then (t.1+t.2.2,q.2.1,t.2.1+t.2.2,q.2.2.2)::st1 else st1
  (st2,aw++[t])
def jA(a b:List Str)(n:Nat):List Q4->List T3->List T3:=
 Y9 (motive:=λO=>List Q4->List T3->List T3) (λO d=>d) (λO e st=>List.rec (motive:=λO=>List T3->List T3) (λd=>d) (λq st O d=>e (cG a b q st d).1 (cG a b q st d).2) st) n
noncomputable def qm(st:List Q4):Nat:=(st.map λq=>2*(q.2.1-q.1).toNat+1).sum
structure QOK(a b:List Str)(q:Q4):Prop where
 a0:0<=q.1
 a1:q.1<=q.2.1
 a2:q.2.1<=a.length
 b0:0<=q.2.2.1
 b1:q.2.2.1<=q.2.2.2
 b2:q.2.2.2<=b.length
theorem aEk(ok:QOK a b q):BB q.1 q.2.1 q.2.2.1 q.2.2.2<|flm a b q.1 q.2.1 q.2.2.1 q.2.2.2:=by
 obtain⟨d,a1,e,h,g,i⟩:=ok;refine uZ _ _ (vA _ _<|sV _ _ _ _ (C2 _) ?_ (JB.nil _ _ _ _) ⟨by simp,by simp,by simpa using a1,by simp,by simpa using g⟩);rw[qB d a1 e,AB3,Int.sub_add_cancel];exact C2 _
theorem lQ{st:List Q4}(ok:∀p∈q::st,QOK a b p):(∀p∈(cG a b q st aw).1,QOK a b p)/\qm (cG a b q st aw).1<qm (q::st)/\(cG a b q st aw).2.length<=aw.length+1:=by
 have N:=aEk<|ok q<|.head _;obtain⟨r,a1,w,y,Y,A⟩:=ok q<|.head _;have h:=λp hp=>ok p<|.tail _ hp;obtain⟨g,j,o,I,J⟩:=N;unfold cG;simp only;generalize flm a b q.1 q.2.1 q.2.2.1 q.2.2.2=t at *;split
 .refine⟨h,?_,by simp⟩;simp[qm]
 .next hk=>
  have B:QOK a b (q.1,t.1,q.2.2.1,t.2.1):=⟨r,j,E5 (G7 g)<|E5 o w,y,I,E5 (G7 g)<|E5 J A⟩
  have C:QOK a b (t.1+t.2.2,q.2.1,t.2.1+t.2.2,q.2.2.2):=⟨E5 r<|E5 j<|G7 g,o,w,E5 y<|E5 I<|G7 g,J,A⟩
  have e:∀(c:Prop)[Decidable c](x:Q4)(l:List Q4),QOK a b x->(∀p∈l,QOK a b p)->∀p∈(if c then x::l else l),QOK a b p:=λc O x l R E p hp=>by
   split at hp
   .obtain rfl|hp:=A8.mp hp
    .exact R
    .exact E p hp
   .exact E p hp
  refine⟨e _ _ _ C<|e _ _ _ B h,?_,by simp⟩;have Q:(t.1-q.1).toNat+(q.2.1-(t.1+t.2.2)).toNat+1<=(q.2.1-q.1).toNat:=by clear B C e h ok;exact(l40<|.i mQ<|.i eO<|.i (.l (.p .a .d) .c)<|.i (.n<|.q .d aE)<|.L (.p (.p cV<|.t<|.m .c<|.p .a .d) aC)<|.t lA) g j o hk
  have V:∀(x:Q4)(l:List Q4),qm (x::l)=2*(x.2.1-x.1).toNat+1+qm l:=λx l=>by simp only[qm,H5,List.sum_cons]
  have M:∀(c:Prop)[Decidable c](x:Q4)(l:List Q4),qm (if c then x::l else l)<=2*(x.2.1-x.1).toNat+1+qm l:=λc O x l=>by
   split
   .exact Nat.le_of_eq (V x l)
   .exact Nat.le_add_left _ _
  have T:=M (t.1+t.2.2<q.2.1/\t.2.1+t.2.2<q.2.2.2) (t.1+t.2.2,q.2.1,t.2.1+t.2.2,q.2.2.2) (if q.1<t.1/\q.2.2.1<t.2.1 then (q.1,t.1,q.2.2.1,t.2.1)::st else st);have U:=M (q.1<t.1/\q.2.2.1<t.2.1) (q.1,t.1,q.2.2.1,t.2.1) st;refine Q9 T<|Q9 (V7 U _) ?_;exact(l04<|.i (.L (.p (.p .b .a) aC) .d)<|.S (.p (.p (.u 2 .a) aC)<|.p (.p (.u 2 .b) aC) .c)<|.p (.p (.u 2 .d) aC) .c) Q
theorem zO:∀(n m:Nat)(st:List Q4)(aw:List T3),(∀p∈st,QOK a b p)->qm st<=n->qm st<=m->jA a b n st aw=jA a b m st aw
 :=by
 have nl:∀{st:List Q4},qm st<=0->st=[]:=λ{st} h=>by
  cases st with
  | nil=>rfl
  | cons q st=>simp[qm] at h
 intro n;induction n with
 | zero=>
  intro m st aw ok d e;cases nl d
  cases m <;> rfl
 | succ n g=>
  intro m st aw ok d e;cases m with
  | zero=>cases nl e;rfl
  | succ m=>
  cases st with
  | nil=>rfl
  | cons q st=>
  have:=lQ (aw:=aw) ok;exact g m _ _ this.1 (aNJ d this.2)<|aNJ e this.2
noncomputable abbrev mtO(dd:E3)(i j c:Int)(ti tj tc:Tok):Obj:={cls:=.ref 135,dict:=Na dd,data:=.seq #[.int i ti,.int j tj,.int c tc]}
section
variable{k:Nat}
theorem zG(G:Gr w h)(x:h.get? M=Na (mtO dx i j lo ti tj t1))
  (q:∀I h' k',h.get? I=Nb->aM h h'->h'.get? I=Na {cls:=.type "tuple_iterator",data:=.fields #[.ref M,.int 0 0]}->Q (.ref I) ⟨h',g,d,k',os⟩):WP w A (Y1<|.ref M) Q E ⟨h,g,d,k,os⟩:=by
 refine⟨?_⟩;have b:Looks (model P w) h (typeOf<|.ref M)<|.ref 135:=(Looks.ld x).andThen .now;have J:findIn (K w.params) (.ref 135) "__iter__"=Na (Na<|.builtin "tuple.__iter__"):=by kernel_rfl
 have n:=looks_findIn (M:=model P w) G.k J;refine A0<|A0<|b.at<|n.at ?_;have C:∀(R:Option (A3×List A3)->A6->Prop)(s:A6),aM h s.heap->R (Na (.builtin "tuple.__iter__",[.ref M])) s->M8 (model P w) A (bindSpecialIfBound? (.ref M) "__iter__") R E s:=by
  intro R s a r;refine A0<|A0<|(b.keeps a).here<|(n.keeps a).here ?_;refine A0<|wpAny_askSetting<|wpAny_ite ?_;split
  .exact A0 (A7<|A7 r)
  .exact wpAny_tryCatch<|A0<|A7<|A7 r
 refine A0<|G9<|A0<|C _ _ (aM.refl _) ?_;have wc:WP w A (PySem.call (.builtin "tuple.__iter__") [.ref M]) (λv B=>Ex3 λI h' k'=>xV (v=.ref I) (B=⟨h',g,d,k',os⟩) (h.get? I=Nb) (aM h h')<|h'.get? I=Na {cls:=.type "tuple_iterator",data:=.fields #[.ref M,.int 0 0]}) E ⟨h,g,d,k,os⟩:=by
  refine eyr 1000 [.old<|mtO dx i j lo ti tj t1,.kk] G.k (v:=.ref h.objs.size) (u:=[(M,mtO dx i j lo ti tj t1)]) (l:=[{cls:=.type "tuple_iterator",data:=.fields #[.ref M,.int 0 0]}]) (by kernel_rfl) (λp hp=>by simp at hp;subst hp;exact x) ?_;intro h' k' H;exact⟨_,h',k',rfl,rfl,aG _,H.keep,H.at_ 0 _ rfl⟩
 refine A0<|B7 wc.run (λv B y=>?_) λO O e=>e;obtain⟨I,h',k',rfl,rfl,nI,a,o⟩:=y;refine A7 ?_;refine A0<|wpAny_specialOf ⟨_,o,rfl⟩ U5.lookup ?_;exact A7<|q I h' k' nI a o
end
section
variable{s:A6}
theorem eH{x:A3}{Q:Option A3->A6->Prop}(y:s.heap.IsTupleIter I M B)(ho:s.heap.get? M=Na oL)(hd:oL.data=.seq items n)(hx:items[B]?=Na x)
  (q:∀h',h'.IsTupleIter I M (B+1)->P5 I s.heap h'->Q (Na x) {s with heap:=h'}):WP w A (W5<|.ref I) Q E s:=by
 obtain⟨e,b,d,a⟩:=id y;refine⟨?_⟩;refine A0<|wpAny_attempt<|K3 (name:=S9 "__next__") y.typeIs U5<|L4 U5 y.typeIs F.entry_tuple_iterator_next ?_<|F.args_tuple_iterator_next_1 _;show M8 _ _ (field (.ref I) 0 >>= _) _ _ s;refine A0<|Q5 b a (x:=.ref M) rfl ?_;refine A0<|Q5 b a (x:=.int B 0) rfl ?_;refine A0<|O4 ho hd ?_;simp only[L3,hx];refine A0 (wpAny_setField b a (by simp)<|A7 ⟨x,rfl,A7<|q _ ?_<|G8 ..⟩);exact⟨_,J3 _ b<|Obj.isFreed_of_fields<|Obj.data_mapFields a _,(Obj.cls_mapFields ..).trans d,by rw[Obj.data_mapFields a];simp[rawInt]⟩
theorem kR{Q:Option A3->A6->Prop}(hh:A.handled=Nb)(y:s.heap.IsTupleIter I M B)(ho:s.heap.get? M=Na oL)(hd:oL.data=.seq items n)(hx:items[B]?=Nb)
  (q:∀h',O7.ExtBut I s.heap h'->Q Nb {s with heap:=h'}):WP w A (W5<|.ref I) Q E s:=by
 obtain⟨o,d,i,a⟩:=id y;refine⟨?_⟩;refine A0<|wpAny_attempt<|K3 (name:=S9 "__next__") y.typeIs U5<|L4 U5 y.typeIs F.entry_tuple_iterator_next ?_<|F.args_tuple_iterator_next_1 _;show M8 _ _ (field (.ref I) 0 >>= _) _ _ s;refine A0<|Q5 d a (x:=.ref M) rfl ?_;refine A0<|Q5 d a (x:=.int B 0) rfl ?_;refine A0<|O4 ho hd ?_;simp only[L3,hx];refine A0 (wpAny_rule<|A0<|wpAny_setField d a (by simp) ?_);refine vW hh λj h e g=>?_;refine A0<|wpAny_isInstance (T:="StopIteration") (b:=Nc) ⟨h,e,g⟩ isSubtype_stop ?_;exact A7<|q _<|((G8 ..).extBut.push _).push _
end
section
variable{k:Nat}
theorem tW{Q:List A3->A6->Prop}(hh:A.handled=Nb)(G:Gr w h)(x:At h M<|mtD i j lo)(q:∀ti tj tc h' k',aM h h'->Q [.int i ti,.int j tj,.int lo tc] ⟨h',g,d,k',os⟩):
  WP w A (unpackItems (.ref M) 3 Nb) Q E ⟨h,g,d,k,os⟩:=by
 obtain⟨o,a,dd,ti,tj,tc,rfl⟩:=x;have R:Looks (model P w) h (typeOf<|.ref M)<|.ref 135:=(Looks.ld (part:=Nb) a).andThen .now;have hs:findIn (K w.params) (.ref 135) "__iter__"=Na (Na<|.builtin "tuple.__iter__"):=by kernel_rfl
 have S:=looks_findIn (M:=model P w) G.k hs;refine⟨A0 ?_⟩;refine A0<|A0<|R.at<|S.at ?_;refine A7 ?_;refine A0<|G9 (zG (g:=g) (d:=d) (k:=k) (os:=os) G a ?_).run;intro I u n nI y T;have r:M≠I:=by rintro rfl;rw[nI] at a;cases a
 have y0:u.IsTupleIter I M 0:=⟨_,T,rfl,rfl⟩
 have m1:=y _ _ a;refine A0<|G9 ?_;refine A0 (eH (w:=w) (s:=⟨u,g,d,n,os⟩) (x:=.int i ti) y0 m1 rfl rfl ?_).run;intro U y2 N;have B:=(N.2 M r).trans m1;refine A0<|G9<|A0 (eH (w:=w) (s:=⟨U,g,d,n,os⟩) (x:=.int j tj) y2 B rfl rfl ?_).run;intro V y3 O;have C:=(O.2 M r).trans B;refine A0<|G9<|A0 (eH (w:=w) (s:=⟨V,g,d,n,os⟩) (x:=.int lo tc) y3 C rfl rfl ?_).run;intro Y y4 s4;have m4:=(s4.2 M r).trans C;refine A0<|G9<|A7<|A7<|A7<|A7 ?_;refine A0<|G9 (kR (w:=w) (s:=⟨Y,g,d,n,os⟩) hh y4 m4 rfl rfl ?_).run;intro Z x5;refine A7<|q ti tj tc Z n λb J e=>?_;have p:b≠I:=by rintro rfl;rw[nI] at e;cases e
 exact x5 b J p<|(s4.2 b p).trans<|(O.2 b p).trans<|(N.2 b p).trans<|y b J e
theorem aFd(hh:A.handled=Nb)(G:Gr w h)(x:At h M<|mtD i j lo)(hn:(E7 ba env).length=3)
  (hs:(E7 ba env).findIdx? (·.1)=Nb) (q:∀ti tj tc h' k',aM h h'->WP w A (O6 ((E7 ba env).map (·.2)) [.int i ti,.int j tj,.int lo tc]) Post E ⟨h',g,d,k',os⟩):WP w A (assign (.Tuple ba B pos) env<|.ref M) Post E ⟨h,g,d,k,os⟩:=by
 refine⟨?_⟩;refine A0<|P8 ?_;unfold unpack;rw[hn,hs];exact A0<|G9 (tW hh G x λti tj tc h' k' a=>(q ti tj tc h' k' a).run).run
end
inductive Dt where
 | none
 | bool (b:Bool)
 | int (i:Int)
 | str (x:Str)
 | tup (l:List Dt)
 | lst (l:List Dt)
 | mt (i j k:Int)
 | rng (a b:Int)
 | ob (D:(E3->Option Obj)->A3->Prop)
 | raw (v:A3)
variable{xs dd ds l2 outs l' cq al ys cu:List Dt}{oc dj dp:Dt}
noncomputable def Dt.ctorIdx(x:Dt):Nat:=Dt.casesOn (motive_1:=λO=>Nat) x 0 (λO=>1) (λO=>2) (λO=>3) (λO=>4) (λO=>5) (λO O O=>6) (λO O=>7) (λO=>8) λO=>9
abbrev HP.le(Z Z':HP):Prop:=∀b o,Z b=Na o->Z' b=Na o
theorem HP.le.refl(Z:HP):HP.le Z Z:=λO O e=>e
theorem HP.le.trans{a b c:HP}(x:HP.le a b)(y:HP.le b c):HP.le a c:=λO O e=>y _ _<|x _ _ e
theorem AtZ.le{a:E3}{D:OD}(x:AtZ Z a D)(l:HP.le Z Z'):AtZ Z' a D:=(by obtain⟨o,e,q⟩:=x;exact⟨o,l _ _ e,q⟩)
theorem GZ.le(G:GZ w Z)(l:HP.le Z Z'):GZ w Z':=λh s=>G h λb o e=>s b o<|l b o e
mutual
inductive Rp(Z:HP):Dt->A3->Prop
 | none:Rp Z .none .none
 | bool (b:Bool):Rp Z (.bool b)<|.bool b
 | int (i:Int) (t:Tok):Rp Z (.int i)<|.int i t
 | str (x:Str) (t:Tok):Rp Z (.str x)<|.str x t
 | tup {a:E3} {ds:List Dt} {vs:List A3}:AtZ Z a (gI vs)->Rps Z ds vs->Rp Z (.tup ds) (.ref a)
 | lst {a:E3} {ds:List Dt} {vs:List A3}:AtZ Z a (aY vs)->Rps Z ds vs->Rp Z (.lst ds) (.ref a)
 | mt {a:E3} {i j k:Int}:AtZ Z a (mtD i j k)->Rp Z (.mt i j k) (.ref a)
 | rng {a:E3} {x y:Int}:AtZ Z a (rgD x y)->Rp Z (.rng x y) (.ref a)
 | ob {D:HP->A3->Prop} {v:A3}:(∀(Z Z':HP) v,HP.le Z Z'->D Z v->D Z' v)->D Z v->Rp Z (.ob D) v
 | raw (v:A3):Rp Z (.raw v) v
inductive Rps(Z:HP):List Dt->List A3->Prop
 | nil:Rps Z [] []
 | cons {d:Dt} {v:A3} {ds:List Dt} {vs:List A3}:Rp Z d v->Rps Z ds vs->Rps Z (d::ds) (v::vs)
end
def RpI(Z:HP):Dt->A3->Prop
 | .none,v=>v=.none
 | .bool b,v=>v=.bool b
 | .int i,v=>∃t,v=.int i t
 | .str x,v=>∃t,v=.str x t
 | .tup ds,v=>Ex2 λa d=>dH (v=.ref a) (AtZ Z a<|gI d)<|Rps Z ds d
 | .lst ds,v=>Ex2 λa d=>dH (v=.ref a) (AtZ Z a<|aY d)<|Rps Z ds d
 | .mt i j k,v=>∃a,v=.ref a/\AtZ Z a (mtD i j k)
 | .rng x y,v=>∃a,v=.ref a/\AtZ Z a (rgD x y)
 | .ob D,v=>(∀(Z Z':HP) v,HP.le Z Z'->D Z v->D Z' v)/\D Z v
 | .raw u,v=>v=u
def aTl(Z:HP):List Dt->List A3->Prop
 | [],vs=>vs=[]
 | d::ds,vs=>Ex2 λv a=>dH (vs=v::a) (Rp Z d v)<|Rps Z ds a
theorem Rp.inv{v:A3}(r:Rp Z oc v):RpI Z oc v:=
 Rp.rec (motive_2:=λO O O=>True) rfl (λO=>rfl) (λO t=>⟨t,rfl⟩) (λO t=>⟨t,rfl⟩) (λa r O=>⟨_,_,rfl,a,r⟩) (λa r O=>⟨_,_,rfl,a,r⟩) (λa=>⟨_,rfl,a⟩) (λa=>⟨_,rfl,a⟩) (λm x=>⟨m,x⟩) (λO=>rfl) trivial (λO O O O=>trivial) r
theorem Rps.inv(r:Rps Z ds vs):aTl Z ds vs:=
 Rps.rec (motive_1:=λO O O=>True) trivial (λO=>trivial) (λO O=>trivial) (λO O=>trivial) (λO O O=>trivial) (λO O O=>trivial) (λO=>trivial) (λO=>trivial) (λO O=>trivial) (λO=>trivial) rfl (λa r O O=>⟨_,_,rfl,a,r⟩) r
theorem Rp.obI{D:HP->A3->Prop}(r:Rp Z (.ob D) ao):D Z ao:=(r.inv).2
theorem Rps.one(r:Rps Z [oc] vs):∃v,vs=[v]/\Rp Z oc v:=by
 obtain⟨v,b,rfl,a,q⟩:=r.inv;obtain rfl:=q.inv;exact⟨v,rfl,a⟩
theorem Rps.two(r:Rps Z [oc,dj] vs):Ex2 λu v=>dH (vs=[u,v]) (Rp Z oc u)<|Rp Z dj v:=by
 obtain⟨u,d,rfl,a,q⟩:=r.inv;obtain⟨v,rfl,b⟩:=q.one;exact⟨u,v,rfl,a,b⟩
theorem Rp.up(l:HP.le Z Z'){d:Dt}{v:A3}(r:Rp Z d v):Rp Z' d v:=
 Rp.rec .none .bool .int .str (λa O r=>.tup (a.le l) r) (λa O r=>.lst (a.le l) r) (λa=>.mt<|a.le l) (λa=>.rng<|a.le l) (λm x=>.ob m<|m _ _ _ l x) .raw .nil (λO O a r=>.cons a r) r
theorem Rps.ind{P:List Dt->List A3->Prop}(nil:P [] [])(cons:∀{d:Dt}{v:A3}{ds:List Dt}{vs:List A3},Rp Z d v->Rps Z ds vs->P ds vs->P (d::ds) (v::vs))(r:Rps Z ds vs):P ds vs:=
 Rps.rec (motive_1:=λO O O=>True) trivial (λO=>trivial) (λO O=>trivial) (λO O=>trivial) (λO O O=>trivial) (λO O O=>trivial) (λO=>trivial) (λO=>trivial) (λO O=>trivial) (λO=>trivial) nil (λa b O r=>cons a b r) r
theorem Rps.up(l:HP.le Z Z')(r:Rps Z ds vs):Rps Z' ds vs:=Rps.ind .nil (λa O r=>.cons (a.up l) r) r
theorem Rps.len(r:Rps Z ds vs):vs.length=ds.length:=Rps.ind (P:=λds vs=>vs.length=ds.length) rfl (λO O r=>congrArg (·+1) r) r
theorem Rps.append(r:Rps Z ds vs)(q:Rps Z xs us):Rps Z (ds++xs)<|vs++us:=Rps.ind (P:=λds vs=>Rps Z (ds++xs)<|vs++us) q (λa O r=>.cons a r) r
theorem Rps.at(r:Rps Z ds vs):∀{i:Nat}{d:Dt},ds[i]?=Na d->∃v,vs[i]?=Na v/\Rp Z d v:=
 Rps.ind (P:=λds vs=>∀{i:Nat}{d:Dt},ds[i]?=Na d->∃v,vs[i]?=Na v/\Rp Z d v) (λe=>by simp at e) (λa O b i d e=>by
  cases i with
  | zero=>cases e;exact⟨_,rfl,a⟩
  | succ i=>exact b e) r
theorem Rps.ta(r:Rps Z ds vs):∀{i:Nat}{v:A3},vs[i]?=Na v->∃d,ds[i]?=Na d/\Rp Z d v:=
 Rps.ind (P:=λds vs=>∀{i:Nat}{v:A3},vs[i]?=Na v->∃d,ds[i]?=Na d/\Rp Z d v) (λe=>by simp at e) (λa O b i d e=>by
  cases i with
  | zero=>cases e;exact⟨_,rfl,a⟩
  | succ i=>exact b e) r
theorem Rps.drop(n:Nat)(r:Rps Z ds vs):Rps Z (ds.drop n)<|vs.drop n:=by
 induction n generalizing ds vs with
 | zero=>exact r
 | succ n a=>
  cases ds with
  | nil=>obtain rfl:=r.inv;exact .nil
  | cons=>obtain⟨_,_,rfl,_,q⟩:=r.inv;exact a q
theorem Rps.take(n:Nat)(r:Rps Z ds vs):Rps Z (ds.take n)<|vs.take n:=by
 induction n generalizing ds vs with
 | zero=>exact .nil
 | succ n b=>
  cases ds with
  | nil=>obtain rfl:=r.inv;exact .nil
  | cons=>obtain⟨_,_,rfl,a,q⟩:=r.inv;exact .cons a<|b q
noncomputable def dE(Z:HP)(h h':O7):HP:=λb=>match h.get? b with
 | none=>h'.get? b
 | some _=>Z b
theorem kB(s:Sub Z h):HP.le Z<|dE Z h h':=λb o e=>by unfold dE;rw[s b o e];exact e
theorem wK{a:E3}(n:h.get? a=Nb)(e:h'.get? a=Na oL):dE Z h h' a=Na oL:=by unfold dE;rw[n];exact e
theorem cF{a:E3}{D:OD}(n:h.get? a=Nb)(x:At h' a D):AtZ (dE Z h h') a D:=(by obtain⟨o,e,q⟩:=x;exact⟨o,wK n e,q⟩)
theorem wJ(s:Sub Z h)(k:aM h h'):Sub (dE Z h h') h':=λb o e=>by
 unfold dE at e;split at e
 .exact e
 .exact k _ _<|s b o e
theorem yX(k:aM h h')(k2:aM h' bw):HP.le (dE (dE Z h h') h' bw)<|dE Z h bw:=λb o e=>by
 unfold dE at e ⊢;cases q:h.get? b with
 | none=>
  rw[q] at e;cases q1:h'.get? b with
  | none=>rw[q1] at e;exact e
  | some d=>rw[q1] at e;simp only at e;rw[k2 _ _ q1];exact e
 | some a=>
  rw[q] at e;rw[k _ _ q] at e;exact e
abbrev TT:=List<|E3×OD
variable{T X' H' R':TT}{XX:Nat->TT}
inductive lX(Z:HP)(h:O7)(g:Array H9)(d:D8)(os:U1)(dt:Dt)(v:A3)(s:A6):Prop | mk (h':O7) (g':Array H9) (k':Nat) (e:s=⟨h',g,d,k',os⟩) (kp:aM h h') (r:Rp (dE Z h h') dt v):lX Z h g d os dt v s
inductive aRc(h:O7)(g:Array H9)(d:D8)(os:U1)(b:Bool)(v:Bool)(s:A6):Prop | mk (h':O7) (g':Array H9) (k':Nat) (e:s=⟨h',g,d,k',os⟩) (kp:aM h h') (r:v=b):aRc h g d os b v s
inductive aNU(F:O7->E3->HP)(h:O7)(g:Array H9)(d:D8)(os:U1)(l:List Dt)(v:A3)(s:A6):Prop | mk (h':O7) (g':Array H9) (k':Nat) (a:E3) (us:List A3) (e:s=⟨h',g,d,k',os⟩) (kp:aM h h') (ev:v=.ref a) (na:h.get? a=Nb) (at_:At h' a<|aY us) (r:Rps (F h' a) l us):aNU F h g d os l v s
structure OpV(w:E9)(n:Nat)(t:List A3->Sem A3)(ds:List Dt)(dt:Dt):Prop where
 of::run:∀(A:M2)(Z:HP) h g d k os vs,GZ w Z->Rm A n->Sub Z h->Rps Z ds vs->WP w A (t vs) (lX Z h g d os dt) FF ⟨h,g,d,k,os⟩
noncomputable def aIr(w:E9)(n:Nat)(t:A3->Sem Bool)(dt:Dt)(b:Bool):Prop:=∀(A:M2)(Z:HP) h g d k os v,GZ w Z->Rm A n->Sub Z h->Rp Z dt v->WP w A (t v) (aRc h g d os b) FF ⟨h,g,d,k,os⟩
structure OpB(w:E9)(n:Nat)(t:A3->Sem Bool)(dt:Dt)(b:Bool):Prop where
 of::run:aIr w n t dt b
noncomputable def aIq(w:E9)(n:Nat)(t:List A3->Sem A3)(ds:List Dt)(l:List Dt):Prop:=∀(A:M2)(Z:HP) h g d k os vs,GZ w Z->Rm A n->Sub Z h->Rps Z ds vs->WP w A (t vs) (aNU (λe a b=>if b=a then Nb else dE Z h e b) h g d os l) FF ⟨h,g,d,k,os⟩
structure OpL(w:E9)(n:Nat)(t:List A3->Sem A3)(ds:List Dt)(l:List Dt):Prop where
 of::run:aIq w n t ds l
noncomputable def op2(f:A3->A3->Sem A3):List A3->Sem A3
 | [a,b]=>f a b
 | _=>.unsupported ""
noncomputable abbrev cal(f:A3):List A3->Sem A3:=λvs=>PySem.call f vs
theorem OpL.v{t:List A3->Sem A3}(x:OpL w n t ds xs):OpV w n t ds<|.lst xs:=
 ⟨λA Z h g d k os I j r s C=>(x.run A Z h g d k os I j r s C).mono λv J y=>by
  obtain⟨p,i,q,a,M,rfl,u,rfl,B,at_,E⟩:=y;refine⟨p,i,q,rfl,u,.lst (cF B at_)<|E.up λb o e=>?_⟩;split at e
  .cases e
  .exact e⟩
noncomputable def aFF(w:E9)(dr:D8)(os:U1)(tg:Expr)(Z:HP)(l:List Dt)(I:E3)(D:Nat->OD):Prop:=∀A' h1 (g1:Array H9) k1 i x,Rm A' 0->Sub Z h1->At h1 I (D i)->l[i]?=Na x->WP w A' (W5<|.ref I) (λr b=>Ex3 λu a d=>aFI (r=Na u) (b=⟨a,g1,dr,d,os⟩) (Rp Z x u) (At a I<|D<|i+1) (aK [I] h1 a)<|WP w A' (M0 tg (.ref I) u) (λO e=>e=b) FF b) FF ⟨h1,g1,dr,k1,os⟩
noncomputable def aFD(w:E9)(dr:D8)(os:U1)(tg:Expr)(Z:HP)(l:List Dt)(I:E3)(D:Nat->OD):Prop:=∀A' h1 (g1:Array H9) k1,Rm A' 0->Sub Z h1->At h1 I (D l.length)->WP w A' (W5<|.ref I) (λr d=>Ex2 λa b=>dH (r=Nb) (d=⟨a,g1,dr,b,os⟩)<|aK [I] h1 a) FF ⟨h1,g1,dr,k1,os⟩
noncomputable def aFE(w:E9)(dr:D8)(os:U1)(tg:Expr)(Z:HP)(l:List Dt)(I:E3)(D:Nat->OD):Prop:=∀A' h1 (g1:Array H9) k1 i,At h1 I (D i)->WP w A' (Y1<|.ref I) (λa b=>a=.ref I/\b=⟨h1,g1,dr,k1,os⟩) FF ⟨h1,g1,dr,k1,os⟩
structure ItO(w:E9)(dr:D8)(os:U1)(tg:Expr)(Z:HP)(l:List Dt)(I:E3)(D:Nat->OD):Prop where
 next:aFF w dr os tg Z l I D
 stop:aFD w dr os tg Z l I D
 self:aFE w dr os tg Z l I D
noncomputable def aIt(w:E9)(d:Dt)(l:List Dt)(tg:Expr):Prop:=∀(A:M2)(Z:HP) h (g:Array H9) dr k os v,GZ w Z->Rm A 0->Sub Z h->Rp Z d v->WP w A (Y1 v) (λb i=>Ex3 λI a e=>∃D:Nat->OD,aFI (b=.ref I) (i=⟨a,g,dr,e,os⟩) (h.get? I=Nb) (aM h a) (At a I<|D 0)<|ItO w dr os tg Z l I D) FF ⟨h,g,dr,k,os⟩
structure Itr(w:E9)(d:Dt)(l:List Dt)(tg:Expr):Prop where
 of::run:aIt w d l tg
theorem aGe(x:At h I<|gX M C):WP w A (Y1<|.ref I) (λit s'=>it=.ref I/\s'=⟨h,g,dr,B,os⟩) FF ⟨h,g,dr,B,os⟩:=by
 obtain⟨o,e,c,d⟩:=x;exact⟨wpAny_pyIter_listiter ⟨o,e,c,d⟩ ⟨rfl,rfl⟩⟩
theorem aAr(y:At h I<|aBx i j):WP w A (Y1<|.ref I) (λit s'=>it=.ref I/\s'=⟨h,g,dr,B,os⟩) FF ⟨h,g,dr,B,os⟩:=by
 obtain⟨o,e,rfl⟩:=y;exact⟨wpAny_pyIter_rangeiter e ⟨rfl,rfl⟩⟩
theorem bM{l:List Dt}(ht:(Ex2 λx p=>tg=.Name x p)\/((Ex3 λes n p=>tg=.Tuple es n p)/\∀d∈l,(∃ds,d=.tup ds)\/(Ex3 λi j k=>d=.mt i j k))):Itr w (.lst l) l tg:=by
 refine⟨λA Z h g dr k os v gz y s r=>?_⟩;obtain⟨a,vs,rfl,at_,Q⟩:=r.inv;refine aHb (at_.up s) λI S nI U R=>⟨I,S,k,λi=>gX a i,rfl,rfl,nI,U,R,λJ O N q i x y E a1 e=>?_,λJ O N q y E a1=>?_,λJ O N q i a1=>aGe a1⟩
 .obtain⟨u,M,C⟩:=Q.at e;refine aAK y.hh a1 (at_.up E) (λV o b B sb=>?_) (λo b=>by rw[M] at b;cases b);rw[M] at b;cases b
  refine⟨u,o,q,rfl,rfl,C,B,aK.same sb,?_⟩;obtain⟨x,p,rfl⟩|⟨⟨es,n,p,rfl⟩,T⟩:=ht
  .exact mJ rfl
  .obtain⟨ds,rfl⟩|⟨i,j,k,rfl⟩:=T x (D5 e)
   .obtain⟨_,_,rfl,_,_⟩:=C.inv;exact aAB B rfl
   .obtain⟨_,rfl,_⟩:=C.inv;exact aAB B rfl
 .refine aAK y.hh a1 (at_.up E) (λV o b=>?_)<|λo b Y=>⟨o,q,rfl,rfl,aK.ext Y⟩;rw[← Q.len,O1<|C4 _] at b;cases b
theorem aH9:Itr w (.tup xs) xs<|.Name x pp:=by
 refine⟨λA Z h g R k os v S y s r=>?_⟩;obtain⟨a,T,rfl,at_,J⟩:=r.inv;refine⟨wpAny_pyIter_tuple (at_.up s).isTuple ?_⟩;refine⟨h.objs.size,_,k,λi o=>o.cls=.type "tuple_iterator"/\o.data=.fields #[.ref a,.int i 0],rfl,rfl,aG _,aJ _ _,⟨_,C7 _ rfl,rfl,rfl⟩,λC I E b i x y B a1 e=>?_,λC I E b y B a1=>?_,λC I E b i a1=>(by obtain⟨o,e,c,d⟩:=a1;exact⟨wpAny_pyIter_tupleiter ⟨o,e,c,d⟩ ⟨rfl,rfl⟩⟩)⟩
 .obtain⟨u,M,N⟩:=J.at e;obtain⟨o,p,n,q⟩:=at_.up B;refine eH a1 p (by rw[q]) (by simpa using M) λj Q sb=>⟨u,j,b,rfl,rfl,N,Q,aK.same sb,mJ rfl⟩
 .obtain⟨o,p,n,q⟩:=at_.up B;refine kR y.hh a1 p (by rw[q]) ?_ λj O=>⟨j,b,rfl,rfl,aK.ext O⟩
  rw[← J.len];simp
theorem qH{p:Pos}(h0:0<=lo)(h1:lo<=hi)(h2:hi<=1000000):Itr w (.rng lo hi) ((B8 (hi-lo).toNat).map λk=>.int<|lo+(k:Nat))<|.Name x p:=by
 refine⟨λA Z h g Y k os v gz B s r=>?_⟩;obtain⟨a,rfl,at_⟩:=r.inv;obtain⟨o,b,t,u,v,rfl⟩:=at_.up s;have R:=rs1 h1;refine⟨wpAny_pyIter_range b (aKW h0 h1 h2) ?_⟩;refine⟨h.objs.size,_,k,λi=>aBx (lo+i)<|(hi-lo)-i,rfl,rfl,aG _,aJ _ _,⟨_,C7 _ rfl,?_⟩,λC Q E I i y B T a1 e=>?_,λC Q E I B T a1=>?_,λC h1 E I i a1=>aAr a1⟩
 .unfold aBx;rw[R];simp
 .rw[B3] at e;obtain⟨j,M,ey⟩:=B0.mp e;have O:=A4.mp M;obtain⟨J,d⟩:=O;simp only[E8] at J;simp only[List.getElem_range] at d;subst d ey;obtain⟨o,b,e⟩:=a1;refine⟨wpAny_pyNext_range_item (by rw[show o=_ from e] at b;exact b) (by exact(l21<|.i (.S .a cV)<|.s aE<|.m bG aF) J) λn N U=>?_⟩;refine⟨_,n,_,rfl,rfl,.int _ _,⟨_,N,?_⟩,aK.same U,mJ rfl⟩;simp only[aBx];rw[show lo+(i:Int)+1=lo+((i+1:Nat):Int) by exact aQR,show hi-lo-(i:Int)-1=hi-lo-((i+1:Nat):Int) by exact l21<|.q (.m (.m bG aF) aC)<|.m bG cR]
 .obtain⟨o,b,e⟩:=a1;simp only[A1,E8] at e;refine⟨wpAny_pyNext_range_end B.hh (by rw[show o=_ from e] at b;exact b) (l20<|.l (.m bG<|.j cV) aE) λn V=>?_⟩;exact⟨n,_,rfl,rfl,aK.ext V⟩
theorem ov1{t:List A3->Sem A3}(q:∀(A:M2)(Z:HP) h g dr k os v,GZ w Z->Rm A n->Sub Z h->Rp Z oc v->WP w A (t [v]) (lX Z h g dr os dj) FF ⟨h,g,dr,k,os⟩):OpV w n t [oc] dj:=
 ⟨λA Z h g dr k os e a d s r=>by
  obtain⟨v,rfl,b⟩:=r.one;exact q A Z h g dr k os _ a d s b⟩
theorem ov2{t:List A3->Sem A3}(q:∀(A:M2)(Z:HP) h g dr k os u v,GZ w Z->Rm A n->Sub Z h->Rp Z oc u->Rp Z dj v->WP w A (t [u,v]) (lX Z h g dr os dp) FF ⟨h,g,dr,k,os⟩):OpV w n t [oc,dj] dp:=
 ⟨λA Z h g dr k os i a e s r=>by
  obtain⟨u,v,rfl,b,d⟩:=r.two;exact q A Z h g dr k os _ _ a e s b d⟩
theorem eY{t:List A3->Sem A3}(q:∀(A:M2)(Z:HP) h g dr k os u v,Rm A n->Sub Z h->WP w A (t [.int i u,.int j v]) (lX Z h g dr os oc) FF ⟨h,g,dr,k,os⟩):OpV w n t [.int i,.int j] oc:=
 ov2 λA Z h g dr k os u v O d s a b=>by
  obtain⟨_,rfl⟩:=a.inv;obtain⟨_,rfl⟩:=b.inv;exact q A Z h g dr k os _ _ d s
theorem aAC{t:List A3->Sem A3}(q:∀(A:M2)(Z:HP) h g dr k os u v,Rm A n->Sub Z h->WP w A (t [.str x u,.str y v]) (lX Z h g dr os oc) FF ⟨h,g,dr,k,os⟩):OpV w n t [.str x,.str y] oc:=
 ov2 λA Z h g dr k os u v O d s a b=>by
  obtain⟨_,rfl⟩:=a.inv;obtain⟨_,rfl⟩:=b.inv;exact q A Z h g dr k os _ _ d s
theorem aGA{t:List A3->Sem A3}(q:∀(A:M2)(Z:HP) h g dr k os u,Rm A n->Sub Z h->WP w A (t [.int i u]) (lX Z h g dr os oc) FF ⟨h,g,dr,k,os⟩):OpV w n t [.int i] oc:=
 ov1 λA Z h g dr k os v O a s r=>by
  obtain⟨_,rfl⟩:=r.inv;exact q A Z h g dr k os _ a s
theorem aAD{t:List A3->Sem A3}(q:∀(A:M2)(Z:HP) h g dr k os x1 x2 dg db,Rm A n->Sub Z h->AtZ Z x1 (aY dg)->Rps Z xs dg->AtZ Z x2 (aY db)->Rps Z l2 db->WP w A (t [.ref x1,.ref x2]) (lX Z h g dr os oc) FF ⟨h,g,dr,k,os⟩):OpV w n t [.lst xs,.lst l2] oc:=
 ov2 λA Z h g dr k os u v O i s d e=>by
  obtain⟨x1,dg,rfl,a1,rs1⟩:=d.inv;obtain⟨x2,db,rfl,a,b⟩:=e.inv;exact q A Z h g dr k os _ _ _ _ i s a1 rs1 a b
theorem ol2{t:List A3->Sem A3}(q:∀(A:M2)(Z:HP) h g dr k os u v,GZ w Z->Rm A n->Sub Z h->Rp Z oc u->Rp Z dj v->WP w A (t [u,v]) (aNU (λO O=>Z) h g dr os xs) FF ⟨h,g,dr,k,os⟩):OpL w n t [oc,dj] xs:=
 ⟨λA Z h g dr k os S x M s r=>by
  obtain⟨u,v,rfl,I,J⟩:=r.two;refine(q A Z h g dr k os _ _ x M s I J).mono λv R y=>?_;obtain⟨B,p,C,a,Q,i,E,j,d,at_,N⟩:=y;refine⟨B,p,C,a,Q,i,E,j,d,at_,N.up λb o e=>?_⟩;rw[if_neg]
  .exact kB s b o e
  .rintro rfl;rw[s b o e] at d;cases d⟩
theorem bZ{A:M2}(s:Sub Z h)(r:Rp Z oc ao):lX Z h g dr os oc ao ⟨h,g,dr,B,os⟩:=
 ⟨h,g,B,rfl,aM.refl _,r.up<|kB s⟩
theorem aLJ(a b:Int):OpV w 0 (op2<|X7 .Add) [.int a,.int b] (.int<|a+b):=eY λA Z h g e k os u v i s=>aOR λj d=>⟨h,g,d,rfl,aM.refl _,.int _ _⟩
theorem aLw(a b:Int):OpV w 0 (op2<|X7 .Sub) [.int a,.int b] (.int<|a-b):=eY λA Z h g e k os u v i s=>aOQ λj d=>⟨h,g,d,rfl,aM.refl _,.int _ _⟩
theorem aGz(a b:Int):OpV w 0 (op2<|inplaceOp .Add) [.int a,.int b] (.int<|a+b):=eY λA Z h g d k os u v e s=>⟨PySem.P.iadd_int ⟨h,g,_,rfl,aM.refl _,.int _ _⟩⟩
theorem aGy(a b:Int):OpV w 0 (op2<|inplaceOp .Sub) [.int a,.int b] (.int<|a-b):=eY λA Z h g d k os u v e s=>⟨PySem.P.isub_int ⟨h,g,_,rfl,aM.refl _,.int _ _⟩⟩
theorem aGD(x y:Str)(hz:x.length+y.length<=B9):OpV w 0 (op2<|X7 .Add) [.str x,.str y] (.str<|x++y):=aAC λA Z h g a k os u v b s=>⟨PyProof.Rows.add_str (λd tk=>⟨h,g,tk,rfl,aM.refl _,.str _ _⟩) hz⟩
theorem aDh(x y:Str)(hz:x.length+y.length<=B9):OpV w 0 (op2<|inplaceOp .Add) [.str x,.str y] (.str<|x++y):=aAC λA Z h g a k os u v b s=>⟨PyProof.Rows.iadd_str (λd tk=>⟨h,g,tk,rfl,aM.refl _,.str _ _⟩) hz⟩
theorem aOK(a b:Int):OpV w 0 (op2<|E6 .Eq) [.int a,.int b] (.bool<|a==b):=eY λA Z h g d k os u v e s=>aSU<|bZ (A:=A) s<|.bool _
theorem aOF(a b:Int):OpV w 0 (op2<|E6 .NotEq) [.int a,.int b] (.bool<|a != b):=eY λA Z h g d k os u v e s=>⟨PySem.P.ne_int<|bZ (A:=A) s<|.bool _⟩
theorem aOG(a b:Int):OpV w 0 (op2<|E6 .Lt) [.int a,.int b] (.bool<|Nf<|a<b):=eY λA Z h g d k os u v e s=>aS4<|bZ (A:=A) s<|.bool _
theorem aOH(a b:Int):OpV w 0 (op2<|E6 .LtE) [.int a,.int b] (.bool<|Nf<|a<=b):=eY λA Z h g d k os u v e s=>aS5<|bZ (A:=A) s<|.bool _
theorem aOI(a b:Int):OpV w 0 (op2<|E6 .Gt) [.int a,.int b] (.bool<|Nf<|a>b):=eY λA Z h g d k os u v e s=>aS6<|bZ (A:=A) s<|.bool _
theorem aOJ(a b:Int):OpV w 0 (op2<|E6 .GtE) [.int a,.int b] (.bool<|Nf<|a>=b):=eY λA Z h g d k os u v e s=>aS7<|bZ (A:=A) s<|.bool _
theorem aLG(x y:Str):OpV w 0 (op2<|E6 .Eq) [.str x,.str y] (.bool<|x==y):=aAC λA Z h g a k os u v b s=>aQh<|bZ (A:=A) s<|.bool _
theorem aLz(x y:Str):OpV w 0 (op2<|E6 .NotEq) [.str x,.str y] (.bool<|x != y):=aAC λA Z h g a k os u v b s=>⟨PyProof.Rows.ne_str<|bZ (A:=A) s<|.bool _⟩
theorem aLT(a:Int):OpB w 0 truthy (.int a)<|a != 0:=⟨λA Z h g b k os v d e s r=>by obtain⟨_,rfl⟩:=r.inv;exact⟨PySem.P.truthy_int ⟨h,g,_,rfl,aM.refl _,rfl⟩⟩⟩
theorem aGK(b:Bool):OpB w 0 truthy (.bool b) b:=⟨λA Z h g a k os v d e s r=>by obtain rfl:=r.inv;exact qA ⟨h,g,_,rfl,aM.refl _,rfl⟩⟩
theorem aGJ:OpB w 0 truthy .none false:=⟨λA Z h g a k os v b d s r=>by obtain rfl:=r.inv;exact aFX ⟨h,g,_,rfl,aM.refl _,rfl⟩⟩
theorem aLR(x:Str)(hz:x.length<4611686018427387904):OpB w 0 truthy (.str x)<|(x.length:Int) != 0:=⟨λA Z h g a k os v b d s r=>by obtain⟨_,rfl⟩:=r.inv;exact⟨PySem.P.truthy_str (by lia) ⟨h,g,_,rfl,aM.refl _,rfl⟩⟩⟩
theorem aLS(l:List Dt)(hz:l.length<4611686018427387904):OpB w 0 truthy (.lst l)<|!l.isEmpty:=⟨λA Z h g i k os v j n s r=>by
 obtain⟨_,d,rfl,a,b⟩:=r.inv;have:=b.len;refine aFY (a.up s) (aQW hz this) λe=>⟨h,g,e,rfl,aM.refl _,?_⟩
 exact Rps.ind (P:=λl d=>(!d.isEmpty)=!l.isEmpty) rfl (λO O O=>rfl) b⟩
theorem aLF(l:List Dt)(hz:l.length<4611686018427387904):OpV w 0 (cal<|.builtin "len") [.lst l] (.int l.length):=ov1 λA Z h g e k os v i j s r=>by
 obtain⟨_,n,rfl,a,d⟩:=r.inv;have:=d.len;refine aQg (a.up s) (aQW hz this) λt b=>⟨h,g,b,rfl,aM.refl _,?_⟩
 rw[this];exact .int _ _
theorem aGw(l:List Dt)(hz:l.length<4611686018427387904):OpV w 0 (cal<|.builtin "len") [.tup l] (.int l.length):=ov1 λA Z h g e k os v j n s r=>by
 obtain⟨_,o,rfl,a,d⟩:=r.inv;have:=d.len
 .refine⟨PyProof.Rows.len_tuple (a.up s).isTup (by simp;exact(l02<|.i (.S .b aAW)<|.i bH<|.s aF gJ) hz this) ⟨h,g,_,rfl,aM.refl _,?_⟩⟩;simp only[U9];rw[this];exact .int _ _
theorem aGx(x:Str)(hz:x.length<4611686018427387904):OpV w 0 (cal<|.builtin "len") [.str x] (.int x.length):=ov1 λA Z h g a k os v b d s r=>by
 obtain⟨_,rfl⟩:=r.inv;exact⟨PyProof.Rows.len_str (by lia) ⟨h,g,_,rfl,aM.refl _,.int _ _⟩⟩
theorem aLK(a:Int):OpV w 0 (cal<|.builtin "abs") [.int a] (.int (if a<0 then -a else a)):=aGA λA Z h g b k os v d s=>⟨PyProof.Rows.call_abs_int λu tk=>⟨h,g,tk,rfl,aM.refl _,.int _ _⟩⟩
theorem aLD(a b:Int):OpV w 0 (cal<|.builtin "min") [.int a,.int b] (.int (if b<a then b else a)):=eY λA Z h g j k os u v i s=>by
 refine⟨min_two_ints i.hh λd tk e=>⟨d,g,tk,rfl,e,?_⟩⟩;split <;> exact .int _ _
theorem aLE(a b:Int):OpV w 0 (cal<|.builtin "max") [.int a,.int b] (.int (if b>a then b else a)):=eY λA Z h g j k os u v i s=>by
 refine⟨max_two_ints i.hh λd tk e=>⟨d,g,tk,rfl,e,?_⟩⟩;split <;> exact .int _ _
theorem aBD(a b:Int)(hb:b≠0)(hs:b.natAbs<1073741824):OpV w 0 (cal<|.builtin "divmod") [.int a,.int b] (.tup [.int<|a.fdiv b,.int<|a.fmod b]):=eY λA Z h g d k os u v e s=>by
 refine⟨PyProof.Rows.divmod_int hb ⟨_,g,_,rfl,aJ _ _,?_⟩<|.inl<|PyProof.noPylong_small hs⟩;exact .tup (cF (aG _) ⟨_,C7 _ rfl,0,rfl⟩)<|.cons (.int _ _)<|.cons (.int _ _) .nil
theorem aLC(a b:Int)(hb:b≠0):OpV w 0 (op2<|X7 .Mod) [.int a,.int b] (.int<|a.fmod b):=eY λA Z h g d k os u v e s=>⟨PyProof.Rows.mod_int' hb ⟨h,g,_,rfl,aM.refl _,.int _ _⟩⟩
theorem aLy(a b:Int)(h0:0<=b)(h1:(K7.Int.intBits a:Int)*b<=2^27):OpV w 0 (op2<|X7 .Pow) [.int a,.int b] (.int<|a^b.toNat):=eY λA Z h g d k os u v e s=>⟨PyProof.Rows.pow_int h0 h1 ⟨h,g,_,rfl,aM.refl _,.int _ _⟩⟩
theorem aGB(a b:Int)(hb:b≠0)(hs:b.natAbs.log2<9000):OpV w 0 (op2<|X7 .FloorDiv) [.int a,.int b] (.int<|a.fdiv b):=eY λA Z h g d k os u v e s=>⟨PyProof.Rows.floordiv_int hb ⟨h,g,_,rfl,aM.refl _,.int _ _⟩<|.inl<|PyProof.noPylong_of_log2 hs⟩
theorem aLI(i:Int)(h0:0<=i)(h1:i<=1114111):OpV w 0 (cal<|.builtin "chr") [.int i] (.str ⟨#[i.toNat]⟩):=aGA λA Z h g b k os v d s=>⟨PySem.P.chr_of_int (by simp;exact(l10<|.i bE<|.i (.l .a<|.k 1114111)<|.o bE<|.l .a<|.k 1114111) h0 h1) ⟨h,g,_,rfl,aM.refl _,.str _ _⟩⟩
theorem aLx(i:Int)(h0:i.natAbs.log2<1920):OpV w 0 (cal<|.type "str") [.int i] (.str<|S9<|H3 i):=aGA λA Z h g a k os v b s=>⟨PySem.P.str_of_int h0 ⟨h,g,_,rfl,aM.refl _,.str _ _⟩⟩
theorem aBC(a b:Int):OpV w 0 (cal<|.type "range") [.int a,.int b] (.rng a b):=eY λA Z h g n k os u v o s=>aI0 λr d e j i at_=>⟨d,g,e,rfl,i,.rng<|cF j at_⟩
theorem aDe(b:Int):OpV w 0 (cal<|.type "range") [.int b] (.rng 0 b):=aGA λA Z h g a k os v d s=>⟨call_range_1 ⟨_,g,_,rfl,aJ _ _,.rng<|cF (aG _) ⟨_,C7 _ rfl,_,_,_,rfl⟩⟩⟩
theorem aLO(l l2:List Dt)(hz:l.length+l2.length<=B9):OpL w 0 (op2<|X7 .Add) [.lst l,.lst l2] (l++l2):=ol2 λA Z h g I k os u v J O s r x=>by
 obtain⟨y,i,rfl,a1,rs1⟩:=r.inv;obtain⟨B,e,rfl,j,d⟩:=x.inv;obtain⟨M,a,p,n⟩:=a1.up s;obtain⟨N,b,q,o⟩:=j.up s;subst n o;have C:=rs1.len;have E:=d.len;refine⟨concat_meets ⟨_,a,rfl⟩ ⟨_,b,rfl⟩ noFill_list_add seq_list_add PySem.F.slot_list_add PySem.F.entry_list_add (PySem.F.args_list_add_2 _ _) (list_addW y B i.toArray e.toArray p q Nb Nb #[] #[] (by simp;exact aQH hz C E)) ⟨a,b,?_⟩⟩;exact⟨_,g,_,_,i++e,rfl,aJ _ _,rfl,aG _,⟨_,C7 _ rfl,0,by simp⟩,rs1.append d⟩
theorem aBz[BEq α][LawfulBEq α](xs ys:List α)(h:xs.length=ys.length):(B8 xs.length).all (λj=>xs[j]?==ys[j]?)=(xs==ys):=by
 rw[Bool.eq_iff_iff];simp only[J6,J9,beq_iff_eq];constructor
 .intro q;apply T5;intro i;obtain z|z:=AB0 i xs.length
  .exact q i z
  .rw[O1 z,O1<|by exact(l03<|.i (.Q .c .a)<|.i (.L .c .b) fF) h z]
 .intro e i _;rw[e]
theorem aAw(r:Rps Z (a.map .str) vs):∀(i:Nat)(x:Str),a[i]?=Na x->∃t,vs[i]?=Na (.str x t):=λi x e=>by
 obtain⟨v,ev,b⟩:=r.at (by rw[B3,e];rfl);obtain⟨_,rfl⟩:=b.inv;exact⟨_,ev⟩
theorem aC1{s:A6}(r1:Rps Z (a.map .str) vs)(r2:Rps Z (b.map .str) us):∀j(h1:j<vs.toArray.size)(h2:j<us.toArray.size),PySem.SeqAt.EqAt A s vs.toArray[j] us.toArray[j] (a[j]?==b[j]?):=λj h1 h2=>by
 have h:=r1.len;have i:=r2.len;simp only[A1] at h i;simp only[U9] at h1 h2;obtain⟨x,g⟩:∃x,a[j]?=Na x:=⟨a[j],by simp[show j<a.length by exact xO h h1]⟩
 obtain⟨y,ey⟩:∃y,b[j]?=Na y:=⟨b[j],by simp[show j<b.length by exact xO i h2]⟩
 obtain⟨t,d⟩:=aAw r1 j x g;obtain⟨u,e⟩:=aAw r2 j y ey;have n:vs.toArray[j]=.str x t:=by
  rw[B1 h1] at d;simpa using d
 have o:us.toArray[j]=.str y u:=by
  rw[B1 h2] at e;simpa using e
 rw[n,o,g,ey];have:=PySem.SeqAt.EqAt.str_str (A:=A) (s:=s) x t y u;have q:(Na x==Na y)=(x==y):=rfl;exact this
theorem aLH(xs ys:List Str):OpV w 0 (op2<|E6 .Eq) [.lst<|xs.map .str,.lst<|ys.map .str] (.bool<|xs==ys):=aAD λA Z h g q k os r u n p o s a1 rs1 i j=>by
 have b:=rs1.len;have d:=j.len;simp only[A1] at b d;have un:A.units<cLine:=by have:=o.un;show A.units<9900;exact aQQ this
 by_cases a:xs.length=ys.length
 .refine⟨PySem.SeqAt.eq_listAt (a1.up s).isList (i.up s).isList (by simp;exact aNF b d a) un (aC1 rs1 j) ?_⟩;have e:n.toArray.size=xs.length:=by simp[b]
  rw[e,aBz xs ys a];exact bZ (A:=A) s (.bool _)
 .refine⟨PySem.SeqAt.eq_list_lengthsAt (a1.up s).isList (i.up s).isList (by simp;exact aNE b d a) un ?_⟩;have:(xs==ys)=false:=by
   simp only[beq_eq_false_iff_ne,ne_eq];rintro rfl;exact a rfl
  rw[this];exact bZ (A:=A) s<|.bool _
theorem aLA(l:List Dt):OpV w 0 (op2<|E6 .NotEq) [.lst l,.lst []] (.bool<|!l.isEmpty):=aAD λA Z h g p k os q r o n i s a1 rs1 a b=>by
 have un:A.units<cLine:=by have:=i.un;show A.units<9900;exact aQQ this
 obtain rfl:=b.inv;cases l with
 | nil=>
  obtain rfl:=rs1.inv;refine⟨cmp_ofNotEq<|PySem.SeqAt.RcNeAt.lists (e:=λj=>Nc) (a1.up s).isList (a.up s).isList rfl un (λj d=>by simp at d) _ _ _ _ ?_⟩;exact bZ (A:=A) s<|.bool _
 | cons=>
  obtain⟨_,_,rfl,_,_⟩:=rs1.inv;refine⟨cmp_ofNotEq<|PySem.SeqAt.RcNeAt.lists_lengths (a1.up s).isList (a.up s).isList (by simp) un _ _ _ _ ?_⟩;exact bZ (A:=A) s<|.bool _
section
variable{s:A6}
theorem mE{o i:A3}{T id:String}(hT:s.TypeIs o T)(hl:J7 (.type T) "__getitem__"=pure (Na<|.builtin id))(hs:subscripted ca Nd o i=operate vs (getItem o i))
  (q:WP w A (getItem o i) Q E s):WP w A (subscriptTail av ca o i) Q E s:=by
 refine⟨?_⟩;refine A0 ?_;refine A0<|wpAny_specialOf hT hl ?_;have b:M8 (model P w) A (subscripted ca Nd o i) (λr a=>M8 (model P w) A (letTemporaryGo av o r >>= λO=>pure r) Q E a) E s:=by
  rw[hs];exact wpAny_operating<|B7 q.run (λr a d=>A0<|wpAny_letTemporaryGo<|A7 d) λO O x=>x
 exact A7<|A0 b
end
inductive aO:Dt->Int->Dt->Prop
 | lst {l:List Dt} {i:Int} {x:Dt} {j:Nat}:-9223372036854775808<=i->i<9223372036854775808->P1 i l.length=Na j->l[j]?=Na x->aO (.lst l) i x
 | tup {l:List Dt} {i:Int} {x:Dt} {j:Nat}:-9223372036854775808<=i->i<9223372036854775808->P1 i l.length=Na j->l[j]?=Na x->aO (.tup l) i x
theorem jH(h:P1 i n=Na B):(0<=i/\B=i.toNat/\B<n)\/(i<0 /\ -(n:Int)<=i/\B=(i+n).toNat/\B<n):=by
 unfold P1 at h;by_cases d:i<0
 .simp only[if_pos d] at h;by_cases q:(Nf (0<=i+(n:Int))&&Nf (i+(n:Int)<n))=Nc
  .rw[if_pos q] at h;simp only[Y3,decide_eq_true_eq] at q
   injection h with h
   right;exact(l12<|.i (.o (.l aE cK)<|.s cK aF)<|.i (.Q (.t cK) .b)<|.o (.s .a aE)<|.o (.l (.g aF) .a)<|.o (.Q .b<|.t cK)<|.S .b .a) q h
  .rw[if_neg q] at h;cases h
 .simp only[if_neg d] at h;by_cases q:(Nf (0<=i)&&Nf (i<(n:Int)))=Nc
  .rw[if_pos q] at h;simp only[Y3,decide_eq_true_eq] at q
   injection h with h
   left;exact(l12<|.i (.o bE<|.s .a aN)<|.i (.Q bK .a)<|.o bE<|.o (.Q .a bK) dT) q h
  .rw[if_neg q] at h;cases h
theorem pD(h0:0<=i)(h1:i<n):P1 i n=Na i.toNat:=by
 unfold P1;rw[if_neg<|show ¬i<0 by exact(l10<|.i bE<|.n<|.s .a aE) h0,if_pos];simp only[Y3,decide_eq_true_eq];exact⟨h0,h1⟩
noncomputable def bA{α:Type}(l:List α)(lo hi st:Option Int):List α:=(sliceRange (L7 lo hi st l.length).1 (L7 lo hi st l.length).2.1 (L7 lo hi st l.length).2.2).filterMap (l[·]?)
theorem Rps.places(r:Rps Z ds vs):∀js:List Nat,Rps Z (js.filterMap (ds[·]?))<|js.filterMap (vs[·]?):=by
 intro js;induction js with
 | nil=>
  exact .nil
 | cons j js b=>
  cases hd:ds[j]? with
  | some d=>
   obtain⟨v,a,e⟩:=r.at hd;simp only[List.filterMap_cons,hd,a];exact .cons e b
  | none=>
   have a:vs[j]?=none:=by
    rw[List.getElem?_eq_none_iff] at hd ⊢;rw[r.len];exact hd
   simp only[List.filterMap_cons,hd,a];exact b
noncomputable def gB(Z:HP)(h:O7):TT:=(B8 h.objs.size).filterMap λb=>match Z b,h.get? b with
 | none,Na o=>Na (b,eqD o)
 | _,_=>Nb
theorem eE{p:E3×OD}(i:p∈gB Z h):Z p.1=Nb/\∃o,h.get? p.1=Na o/\p=(p.1,eqD o):=by
 unfold gB at i;rw[Q8] at i;obtain⟨b,_,e⟩:=i
 set_option tactic.hygienic true in split at e
 .next o d a=>cases e;exact⟨d,o,a,rfl⟩
 .cases e
theorem oK(n:Z I=Nb)(e:h.get? I=Na oL):(I,eqD oL)∈gB Z h:=by
 unfold gB;rw[Q8];refine⟨I,J9.mpr<|L6 e,?_⟩;rw[n,e]
theorem qZ(Z:HP)(h:O7):((gB Z h).map (·.1)).Nodup:=by
 have j:∀(l:List Nat),l.Nodup->((l.filterMap λb=>match Z b,h.get? b with
   | none,Na o=>Na (b,eqD o)
   | _,_=>Nb).map (·.1)).Nodup:=by
  intro l;induction l with
  | nil=>intro _;simp
  | cons a l i=>
   intro d;have d:=B6.mp d;rw[List.filterMap_cons];split
   .exact i d.2
   .next y ey=>
    set_option tactic.hygienic true in split at ey
    .next o u r=>
     cases ey
     rw[H5,B6];refine⟨λq=>?_,i d.2⟩;obtain⟨p,hp,g⟩:=C1.mp q;obtain⟨b,n,e⟩:=Q8.mp hp;split at e
     .cases e;simp only at g;subst g;exact d.1 n
     .cases e
    .cases ey
 exact j _ List.nodup_range
theorem eG:∀(a8:List Str)(l:List α),((a8.zip l).map (·.1)).Sublist a8:=by
 intro a8;induction a8 with
 | nil=>
  intro _;simp
 | cons n e a=>
  intro b;cases b with
  | nil=>
  simp
  | cons u d=>
  simp only[List.zip_cons_cons,H5];exact(a d).cons_cons _
noncomputable abbrev oD(ifs:List Expr)(env:Env):Sem Bool:=forIn ifs Nc λc r=>if r=Nc then do let ok ← isTrue c env<|eval c env;pure (ForInStep.yield ok) else pure (ForInStep.yield r)
theorem sU(n:h.get? I=Nb):I∉(gB Z h).map (·.1):=λq=>by
 obtain⟨p,hp,e⟩:=C1.mp q;obtain⟨_,o,a,_⟩:=eE hp;rw[e,n] at a;cases a
theorem xX(s:Sub Z h)(n:h.get? I=Nb):Z I=none:=by
 cases z:Z I with
 | none=>rfl
 | some o=>rw[s _ _ z] at n;cases n
theorem aDT(x:At h I<|aY vs)(y:At h M<|aY us)(hz:vs.length+us.length<=B9)
  (q:∀h',At h' I (aY<|vs++us)->aK [I] h h'->Q .none ⟨h',g,d,B,os⟩):WP w A (PySem.call (.builtin "list.extend") [.ref I,.ref M]) Q E ⟨h,g,d,B,os⟩:=by
 obtain⟨p,a,n,i⟩:=x;obtain⟨r,b,o,j⟩:=y;subst i j;have e:vs.toArray.size+us.toArray.size<=B9:=by simpa using hz
 refine⟨call_meets PySem.F.slot_list_extend ⟨_,a,rfl⟩ PySem.F.entry_list_extend (PySem.F.args_list_extend_2 _ _) (AutoSeq1.list_extend_list_list_0 I vs.toArray n M us.toArray o (extend_door e) (A9 (K5 _ _) e)<|A9 e<|P9 _) ⟨a,b,?_⟩⟩;refine q _ ⟨_,J3 _ a (by rw[mapSeq_app];rfl),?_⟩<|aK.same<|G8 ..;rw[mapSeq_app];exact⟨_,by simp;rfl⟩
def ndB(x0:List Str):Bool:=
 List.rec (motive:=λO=>Bool) Nc (λx b a=>!(b.any (x==·))&&a) x0
theorem aOX{x}(xs:List Str):ndB (x::xs)=(!(xs.any (x==·))&&ndB xs):=rfl
theorem aM1:∀{l:List Str},ndB l=Nc->l.Nodup:=by
 intro l;induction l with
 | nil=>
  intro _;exact .nil
 | cons x b a=>
  intro h;simp only[aOX,Y3,J1] at h;refine B6.mpr ⟨λi=>?_,a h.2⟩;have:=List.any_eq_false.mp h.1 x i;simp at this
noncomputable abbrev klt(ao:Nat->Int)(i j:Nat):Bool:=Nf<|ao i<ao j
abbrev kok(n i j:Nat):Prop:=i<n/\j<n/\i≠j
def KW(ao:Nat->Int)(n:Nat){α:Type}(t:KasT α)(Q:α->Prop):Prop:=
 KasT.rec (motive:=λO=>Prop) (λa=>Q a) (λi j O r=>kok n i j/\r (klt ao i j)) t
section
variable{ao:Nat->Int}
theorem KW.bind{α β:Type}{Q:β->Prop}{t:KasT α}{f:α->KasT β}(h:KW ao n t λa=>KW ao n (f a) Q):KW ao n (t.bind f) Q:=by
 induction t with
 | ret a=>exact h
 | ask i j k b=>exact⟨h.1,b _ h.2⟩
theorem KW.mono{α:Type}{Q R:α->Prop}{t:KasT α}(h:KW ao n t Q)(m:∀a,Q a->R a):KW ao n t R:=by
 induction t with
 | ret a=>exact m _ h
 | ask i j k b=>exact⟨h.1,b _ h.2⟩
theorem aBO{lu:Nat->Nat->(Bool->A6->Prop)->A6->Prop}{I:A6->Prop}(hc:∀i j C s,kok n i j->I s->(∀s',I s'->C (klt ao i j) s')->lu i j C s){R:α->Prop}{Q:α->A6->Prop}
  (t:KasT α) (s:A6) (h:KW ao n t R) (hi:I s) (q:∀a s',R a->I s'->Q a s'):t.kasWp lu Q s:=by
 induction t generalizing s with
 | ret a=>exact q a s h hi
 | ask i j k d=>exact hc i j _ s h.1 hi λs' b=>d _ s' h.2 b
noncomputable def Kp(ao:Nat->Int)(p:Array Nat)(i:Nat):Int:=ao<|p[i]?.getD 0
structure PP(n:Nat)(p:Array Nat):Prop where
 sz:p.size=n
 perm:p.toList.Perm<|B8 n
theorem PP.get(h:PP n p){i:Nat}(hi:i<n):p.toList[i]?=Na (p.getD i 0):=by
 rw[Array.getD_eq_getD_getElem?,Array.getElem?_toList,Y4<|h.sz▸hi];rfl
theorem PP.ok(h:PP n p){i:Nat}(hi:i<n)(hj:B<n)(ne:i≠B):kok n (p.getD i 0)<|p.getD B 0:=by
 have a:∀{i},i<n->p.getD i 0<n:=λhi=>J9.mp<|h.perm.mem_iff.mp<|D5<|h.get hi;refine⟨a hi,a hj,λe=>ne ?_⟩;exact(AA3 (by rw[Array.length_toList,h.sz];exact hi)<|h.perm.nodup_iff.mpr List.nodup_range).mp<|(h.get hi).trans<|(congrArg Na e).trans (h.get hj).symm
theorem aBs(p:Array Nat)(i:Nat):ao (p.getD i 0)=Kp ao p i:=by
 rw[Array.getD_eq_getD_getElem?];rfl
variable(inj:∀i j,i<n->j<n->ao i=ao j->i=j)
include inj
theorem PP.ask(h:PP n p)(hi:B<n)(hj:C<n)(ne:B≠C){α:Type}{k:Bool->KasT α}{Q:α->Prop}(qh:Kp ao p B<Kp ao p C->KW ao n (k Nc) Q)(no:Kp ao p C<Kp ao p B->KW ao n (k Nd) Q):
  KW ao n (.ask (p.getD B 0) (p.getD C 0) k) Q:=by
 have o:=h.ok hi hj ne;refine⟨o,?_⟩;rw[← aBs,← aBs] at qh no;obtain c|c|c:=Int.lt_trichotomy (ao<|p.getD B 0) (ao<|p.getD C 0)
 .have e:klt ao (p.getD B 0) (p.getD C 0)=true:=decide_eq_true c;rw[e];exact qh c
 .exact absurd (inj _ _ o.1 o.2.1 c) o.2.2
 .have e:klt ao (p.getD B 0) (p.getD C 0)=false:=decide_eq_false<|Int.lt_asymm c;rw[e];exact no c
omit inj
def Up(f:Nat->Int)(m:Nat):Prop:=∀i j,i<j->j<m->f i<f j
theorem Up.snoc{f:Nat->Int}(h:Up f<|B+1)(e:f B<f (B+1)):Up f<|B+2:=λi j a b=>by
 obtain q|rfl:=Nat.lt_succ_iff_lt_or_eq.mp b
 .exact h i j a q
 .obtain r|rfl:=Nat.lt_succ_iff_lt_or_eq.mp a
  .exact Int.lt_trans (h i B r<|I0 _) e
  .exact e
theorem Up.one(f:Nat->Int):Up f 1:=λi j a b=>absurd a (by rw[Nat.lt_one_iff.mp b];exact N4 i)
theorem Up.adj{f:Nat->Int}:(∀j,j+1<B->f j<f (j+1))->Up f B:=by
 induction B with
 | zero=>exact λO O j O a=>absurd a<|N4 j
 | succ B b=>
  intro h;cases B with
  | zero=>exact Up.one f
  | succ B=>exact(b λj a=>h j<|Nat.lt_succ_of_lt a).snoc<|h B<|I0 _
inductive aRn(f:Nat->Int)(N:Nat):Nat->Prop
 | mk (c:Nat) (lt:c<N) (up:Up f<|c+1) (stop:c+1<N->f (c+1)<f c):aRn f N<|c+1
inductive aRi(ao:Nat->Int)(N:Nat)(p:Array Nat):Array Nat×Nat×Nat->Prop
 | mk (c:Nat) (lt:c<N) (up:Up (λi=>-Kp ao p i)<|c+1):aRi ao N p (p,c+1,0)
inductive aNY(ao:Nat->Int)(n:Nat):Nat×Array Nat->Prop
 | mk (c:Nat) (p:Array Nat) (lt:c<n) (h:PP n p) (up:Up (Kp ao p)<|c+1):aNY ao n (c+1,p)
theorem aIE(e:B+1+(C+1)=N):B+1+1+C=N:=(Nat.add_right_comm (B+1) 1 C).trans e
theorem ltN(e:B+1+(C+1)=N):B+1<N:=e▸Nat.lt_add_of_pos_right (AA9 C)
include inj
theorem aFc(h:PP n p):∀(f b:Nat),b+1+f=n->Up (Kp ao p) (b+1)->KW ao n (kas_asc p f<|b+1) (aRn (Kp ao p) n):=by
 intro f;induction f with
 | zero=>
  intro b e a;exact .mk b (e▸I0 b) a λq=>absurd (e▸q:b+1<b+1)<|Nat.lt_irrefl _
 | succ f d=>
  intro b e a;exact h.ask inj (ltN e) (X4<|ltN e) (Nat.succ_ne_self b) (λc=>.mk b (X4<|ltN e) a λO=>c) λc=>d (b+1) (aIE e)<|a.snoc c
theorem aHS(h:PP n p):∀(f b:Nat),b+1+f=n->Up (λi=>-Kp ao p i) (b+1)->KW ao n (kas_desc f p (b+1) 0) (aRi ao n p):=by
 intro f;induction f with
 | zero=>
  intro b e a;exact .mk b (e▸I0 b) a
 | succ f d=>
  intro b e a;exact h.ask inj (ltN e) (X4<|ltN e) (Nat.succ_ne_self b) (λc=>d (b+1) (aIE e)<|a.snoc<|Int.neg_lt_neg c) λc=>
   h.ask inj (X4<|ltN e) (ltN e) (Nat.succ_ne_self b).symm (λO=>.mk b (X4<|ltN e) a) λz=>absurd c<|Int.lt_asymm z
omit inj
theorem aD6(h:PP n p):PP n<|kas_rev p 0 B:=⟨(mirror_size _ _ _ _).trans h.sz,(Array.perm_iff_toList_perm.mp<|mirror_perm _ _ _ _).trans h.perm⟩
theorem aLn(h:PP n p)(hc:B<n)(d:Up (λi=>-Kp ao p i)<|B+1):Up (Kp ao<|kas_rev p 0<|B+1)<|B+1:=by
 have at_:∀i,i<B+1->Kp ao (kas_rev p 0<|B+1) i=Kp ao p (B-i):=λi e=>by
  have z:=getElem?_mirror_all (i:=0) (by rw[h.sz];exact hc) i;rw[if_pos ⟨C8 _,e⟩,V4] at z;exact congrArg (λo=>ao<|Option.getD o 0) z
 intro i j a b;rw[at_ i<|Nat.lt_trans a b,at_ j b];exact Int.neg_lt_neg_iff.mp<|d _ _ (Nat.sub_lt_sub_left (I6 a<|I3 b) a)<|X3<|Nat.sub_le B i
include inj
theorem aCF(h:PP n p)(hc:B<n)(d:Up (λi=>-Kp ao p i)<|B+1):KW ao n (kas_tail3 (B+1) n p)<|aNY ao n:=
 KW.bind ((aFc inj (aD6 h) _ B (P6 hc)<|aLn h hc d).mono λO yq=>by obtain⟨a,l,u,_⟩:=yq;exact .mk a _ l (aD6 h) u)
theorem aEQ(h:PP n p)(h2:2<=n):KW ao n (kas_count n p)<|aNY ao n:=by
 refine KW.bind<|(aFc inj h (n-1) 0 (P6<|I2 h2)<|Up.one _).mono λm yq=>?_;obtain⟨c,l,u,st⟩:=yq;by_cases e:(c+1==n)=Nc
 .rw[if_pos e];exact .mk c p l h u
 .rw[if_neg e];cases c with
  | succ c=>
   exact h.ask inj (I6 Nat.two_pos h2) l (Nat.succ_ne_zero c).symm (λO=>.mk (c+1) p l h u) λz=>absurd (u 0 (c+1) (AA9 c)<|I0 _)<|Int.lt_asymm z
  | zero=>
   exact KW.bind ((aHS inj h (n-2) 1 (P6 h2)<|Up.snoc (Up.one _)<|Int.neg_lt_neg<|st h2).mono λO yq=>by obtain⟨d,a,b⟩:=yq;exact aCF inj h a b)
omit inj
theorem aSy(h:¬B>=C):B<=(B+C)/2/\(B+C)/2<C:=
 have h:=Nat.lt_of_not_le h
 ⟨(Nat.le_div_iff_mul_le Nat.two_pos).mpr<|Nat.mul_two B▸V7 (I2 h) B,Nat.div_lt_of_lt_mul<|Nat.two_mul C▸Nat.add_lt_add_right h C⟩
structure aRb(f:Nat->Int)(k m:Nat):Prop where
 le:m<=k
 lo:∀i,i<m->f i<f k
 hi:∀i,m<=i->i<k->f k<f i
include inj
theorem aDd(h:PP n p)(hk:B<n)(hs:Up (Kp ao p) B):∀(f l r:Nat),l<=r->r<=B->r<=f+l->(∀i,i<l->Kp ao p i<Kp ao p B)->(∀i,r<=i->i<B->Kp ao p B<Kp ao p i)->KW ao n (kas_place p B f l r) (aRb (Kp ao p) B)
 :=by
 intro f;induction f with
 | zero=>
  rintro l r u a b d e;exact⟨A9 u a,d,λi q=>e i<|A9 (V4 l▸b) q⟩
 | succ f x=>
  rintro l r u a b d e;show KW ao n (if l>=r then _ else _) _;by_cases c:l>=r
  .rw[if_pos c];exact⟨A9 u a,d,λi q=>e i<|A9 c q⟩
  .rw[if_neg c];obtain⟨m1,g⟩:=aSy c;generalize (l+r)/2=m at m1 g ⊢;have o:=I6 g a;refine h.ask inj hk (Nat.lt_trans o hk) (Nat.ne_of_gt o) (λq=>?_) λq=>?_
   .refine x l m m1 (I2 o) (I3<|I6 g<|Nat.succ_add f l▸b) d λi w y=>?_;obtain z|rfl:=Z6 w
    .exact Int.lt_trans q (hs m i z y)
    .exact q
   .refine x (m+1) r g a (A9 b<|Nat.succ_add_eq_add_succ f m▸V7 m1 _) (λi w=>?_) e;obtain z|rfl:=Nat.lt_succ_iff_lt_or_eq.mp w
    .exact Int.lt_trans (hs i m z o) q
    .exact q
omit inj
theorem aNq(h:PP n p)(hk:B<n)(hs:Up (Kp ao p) B)(x:aRb (Kp ao p) B C):Up (Kp ao<|bubble p B<|B-C)<|B+1:=by
 have g:=getElem?_bubble (by rw[h.sz];exact hk) (B-C)<|Nat.sub_le _ _;rw[Nat.sub_sub_self x.le] at g;have r:∀{i j},(bubble p B<|B-C)[i]?=p[j]?->Kp ao (bubble p B<|B-C) i=Kp ao p j:=λe=>congrArg (λo=>ao<|Option.getD o 0) e;have lo:∀i,i<C->Kp ao (bubble p B<|B-C) i=Kp ao p i:=λi d=>r (by rw[g,if_neg<|W6 d,if_neg λz=>Nat.lt_asymm d z.1]);have u:=r (by rw[g,if_pos rfl]);have d:∀i,C<=i->i<B->Kp ao (bubble p B<|B-C) (i+1)=Kp ao p i:=λi a b=>r (by rw[g,if_neg<|Nat.ne_of_gt<|X3 a,if_pos ⟨X3 a,b⟩];rfl);refine Up.adj λj w=>?_;have q:=Nat.lt_of_succ_lt_succ w;obtain a|rfl|a:=Nat.lt_trichotomy j C
 .rw[lo j a];obtain b|rfl:=Z6 (Nat.succ_le_of_lt a)
  .rw[lo _ b];exact hs j (j+1) (I0 j) (I6 b x.le)
  .rw[u];exact x.lo j a
 .rw[u,d j (C4 j) q];exact x.hi j (C4 j) q
 .rw[d j (I2 a) q];cases j with
  | zero=>exact absurd a<|N4 C
  | succ i=>rw[d i (I3 a)<|X4 q];exact hs i (i+1) (I0 i) q
include inj
theorem aNs:∀(f:Nat)(p:Array Nat)(k:Nat),PP n p->Up (Kp ao p) k->k+f=n->KW ao n (kas_bin f p k) λp=>PP n p/\Up (Kp ao p) n
 :=by
 intro f;induction f with
 | zero=>
  rintro p k h d e;exact⟨h,e▸d⟩
 | succ f g=>
  rintro p k h d e;have hk:=e▸Nat.lt_add_of_pos_right (AA9 f);exact KW.bind<|(aDd inj h hk d k 0 k (C8 _) (C4 _) (C4 _) (λi z=>absurd z<|N4 i) λi a b=>absurd b<|Nat.not_lt_of_le a).mono λl x=>
   g _ (k+1) ⟨(bubble_size _ _ _).trans h.sz,(Array.perm_iff_toList_perm.mp<|bubble_perm _ _ _).trans h.perm⟩ (aNq h hk d x) ((Nat.succ_add_eq_add_succ k f).trans e)
theorem aG5(h2:2<=n):KW ao n (kas_sort n) λp=>PP n p/\Up (Kp ao p) n:=by
 refine KW.bind ((aEQ inj ⟨by simp,by simp⟩ h2).mono λr yq=>?_);obtain⟨c,p,l,h,u⟩:=yq;rw[Nat.max_eq_left<|Nat.le_add_left 1 c];by_cases q:c+1<n
 .rw[if_pos q];exact aNs inj _ p _ h u (P6 l)
 .rw[if_neg q];exact⟨h,Nat.le_antisymm l (AB6 q)▸u⟩
end
section
variable{k:Nat}
theorem aGV(self:A3):bindSpecial (.builtin "tuple.__lt__") self=pure (.builtin "tuple.__lt__",[self]):=F.slot_tuple_lt.bind self
theorem zH{name:String}{id:String}{Q:Option A3->A6->Prop}(G:Gr w h)(x:h.get? M=Na (mtO I i j lo ti tj t1))(hs:findIn (K w.params) (.ref 135) name=Na (Na<|.builtin id))(hb:bindSpecial (.builtin id) (.ref M)=pure (.builtin id,[.ref M]))
  (q:WP w A (PySem.call (.builtin id)<|.ref M::az) (λv=>Q<|Na v) E ⟨h,g,d,k,os⟩):WP w A (callSpecialIfBound? (.ref M) name az) Q E ⟨h,g,d,k,os⟩:=by
 refine⟨?_⟩;have e:Looks (model P w) h (typeOf<|.ref M)<|.ref 135:=(Looks.ld x).andThen .now;have n:=looks_findIn (M:=model P w) G.k hs;refine G9<|A0<|A0<|A0<|e.here<|n.here ?_;refine A0<|wpAny_askSetting<|wpAny_ite ?_;rw[hb];have b:=A0<|B7 q.run (λv o a=>A7 a) λO O a=>a;split
 .exact A0 (A7<|A7 b)
 .exact wpAny_tryCatch<|A0<|A7<|A7 b
theorem aDC{oa ob:Obj}(G:Gr w h)(ha:h.get? I=Na (mtO gv i1 j1 c1 t1 t2 t3))(hb:h.get? M=Na (mtO l9 i2 j2 c2 u1 u2 u3))(ne:i1≠i2)
  (q:∀k',Q (.bool<|Nf<|i1<i2) ⟨h,g,d,k',os⟩):WP w A (PySem.call (.builtin "tuple.__lt__") [.ref I,.ref M]) Q E ⟨h,g,d,k,os⟩:=by
 refine kK (eyc (c':=.builtin "tuple.__lt__" ⟨[.ref I,.ref M],[]⟩) 300 [.old<|mtO gv i1 j1 c1 t1 t2 t3] G.k (u:=[(I,mtO gv i1 j1 c1 t1 t2 t3)]) (l:=[]) (by kernel_rfl) (λp hp=>by simp at hp;subst hp;exact ha) (by kernel_rfl) ?_);intro a r n;have:=n.same rfl;subst this;refine⟨V5 F.entry_tuple_lt ?_⟩;have inst:∀(Q:Bool->A6->Prop)(E:A3->A6->Prop),(∀k',Q Nc ⟨a,g,d,k',os⟩)->M8 (model P w) A.in1 (isInstance (.ref M)<|.type "tuple") Q E ⟨a,g,d,r,os⟩:=λQ E q=>(eyr 300 [.old<|mtO l9 i2 j2 c2 u1 u2 u3] G.k (u:=[(M,mtO l9 i2 j2 c2 u1 u2 u3)]) (by kernel_rfl) (λp hp=>by simp at hp;subst hp;exact hb) (λC b o=>by
  have:=o.same rfl;subst this;exact q b)).run
 show M8 _ _ (do
  let (I,[M]) ← slotArgs "__lt__" 1 ⟨[.ref I,.ref M],[]⟩ | unsupported "internal:tuple.compare"
  if !(← isInstance M<|.type "tuple") then return ← ret .notImplemented
  let xs ← K7.Tuple.tupleItemsOf I
  let ys ← K7.Tuple.tupleItemsOf M
  for (x,y) in xs.toList.zip ys.toList do
   if !(← eqBool x y) then
    rule "tuple.compare.by-the-first-pair-that-differs";return ← ret (← richCompare .Lt x y)
  ret (K7.Tuple.tupleCompareSizes .Lt xs.size ys.size)) _ _ _
 refine A0<|P0 rfl ?_;refine A0<|inst _ _ λb=>?_;refine A0<|A0<|O4 ha rfl<|A7 ?_;refine A0<|A0<|O4 hb rfl<|A7 ?_;refine A0 ?_;refine A0<|A0<|PySem.SeqAt.EqAt.int_int i1 t1 i2 u1 _ _ _ _ ?_;rw[if_pos<|by simpa using ne];refine A0<|wpAny_rule<|A0 ?_;have B:M8 (model P w) A.in1 (E6 .Lt (.int i1 t1)<|.int i2 u1) (λv j=>∃i,v=.bool (Nf<|i1<i2)/\j=⟨a,g,d,i,os⟩) (λO O=>False) ⟨a,g,d,b,os⟩:=lt_int ⟨_,rfl,rfl⟩;refine B7 B (λv j y=>?_) λO O e=>e.elim;obtain⟨i,rfl,rfl⟩:=y;exact A0<|A7<|A7<|A7<|A7<|q i
theorem wU{a:E3}{Q:Bool->A6->Prop}(hu:A.units<cLine)(G:Gr w h)(ha:h.get? a=Na (mtO gv i1 j1 c1 t1 t2 t3))(hb:h.get? I=Na (mtO l9 i2 j2 c2 u1 u2 u3))(ne:i1≠i2)
  (q:∀k',Q (Nf<|i1<i2) ⟨h,g,d,k',os⟩):M8 (model P w) A (keyLt' oneType' (.ref a)<|.ref I) Q E ⟨h,g,d,k,os⟩:=by
 refine A0<|wpAny_cRoomFor hu ?_;refine A0 (zH G ha (by kernel_rfl) (aGV _)<|aDC (oa:=mtO gv i1 j1 c1 t1 t2 t3) (ob:=mtO gv i1 j1 c1 t1 t2 t3) G ha hb ne λk'=>?_).run;exact wpAny_truthy_bool<|q k'
noncomputable def h00:O7:={objs:=#[]}
theorem uW(b:E3):h00.get? b=none:=rfl
noncomputable def kA(h:O7)(L a:E3):List<|E3×Obj:=(B8 h.objs.size).filterMap λb=>if b=L\/b=a then Nb else (h.get? b).map λo=>(b,o)
theorem iQ{a:E3}{p:E3×Obj}(i:p∈kA h I a):h.get? p.1=Na p.2/\p.1≠I/\p.1≠a:=by
 unfold kA at i;rw[Q8] at i;obtain⟨b,_,e⟩:=i;split at e
 .cases e
 .next q=>
  obtain⟨o,d,rfl⟩:=B0.mp e;exact⟨d,λz=>q<|.inl z,λz=>q<|.inr z⟩
theorem zC{a:E3}(e:h.get? M=Na oL)(n1:M≠I)(n2:M≠a):(M,oL)∈kA h I a:=by
 unfold kA;rw[Q8];refine⟨M,J9.mpr<|L6 e,?_⟩;rw[if_neg (by rintro(z | z);exact n1 z;exact n2 z),e];rfl
theorem yI{a:E3}(x:At h a<|aY vs)(h2:vs.length<2)(q:∀h',At h' a (aY vs)->aK [a] h h'->Q .none ⟨h',g,d,k,os⟩):WP w A (PySem.call (.builtin "list.sort") [.ref a]) Q E ⟨h,g,d,k,os⟩:=by
 obtain⟨o,j,n,rfl⟩:=x;refine⟨L4 slot_list_sort ⟨_,j,rfl⟩ PyProof.Rows.entry_list_sort ?_<|args_list_sort _⟩;rw[list_sort_plain];have r:vs.toArray.size<2:=by simpa using h2
 refine A0<|listItems_at j rfl ?_;refine A0<|listUpdate_at j rfl ?_ (aQG r)<|C8 _;obtain⟨y,b⟩:∃y,(h.update a<|K6 λO=>#[]).get? a=Na (seqObj "list" #[] y):=⟨_,get?_update_seq j<|λO=>#[]⟩
 refine A0<|seqEpoch_at b rfl ?_;refine A0 (wpAny_newTuple ?_ (by show vs.length<=_;rw[C5];exact aQG h2));refine A0<|wpAny_newList ?_<|C8 _;refine G9 ?_;have C:aK [a] h (h.update a<|K6 λO=>#[]):=aK.same<|G8 ..;have B:aM (h.update a<|K6 λO=>#[])<|((h.update a<|K6 λO=>#[]).push<|seqObj "tuple" vs.toArray 0).push<|seqObj "list" #[] 0:=(aJ _ _).trans<|aJ _ _;have u:=B _ _ b;rw[if_pos r,if_pos r];refine A0<|A7 ?_;refine A0<|A7 ?_;refine A0<|seqEpoch_at u rfl ?_;refine A0 (listUpdate_at u rfl ?_ (C8 _) (by rw[Array.size_map];show(pairsOf vs).size<=_;rw[pairsOf_size,C5];exact(l01<|.i (.S .a bX)<|.L .a<|.p cH aC) h2));simp only[bne_self_eq_false,Bool.false_eq_true];refine A7 ⟨_,rfl,q _ ?_ ?_⟩
 .refine⟨_,get?_update_seq u _,?_⟩;have e:(arrOf<|SortSt.mk' general' (vs.toArray.zip vs.toArray) #[] 7 Nb).map (·.2)=vs.toArray:=by
   show(vs.toArray.zip vs.toArray).map (·.2)=vs.toArray;apply Array.ext_getElem?;intro i;obtain z|z:=AB0 i vs.length
   .simp[z]
   .simp[z]
  rw[e];exact⟨_,rfl⟩
 .exact(C.trans<|aK.of B).trans<|aK.same<|G8 ..
theorem yJ{a:E3}(hu:A.units+1<cLine)(G:Gr w h)(ns:h.Ns M m')(x:At h a<|aY vs)(na:a≠M)(nL:(K w.params).lookup M=Nb)(nK:(K w.params).lookup a=Nb)
  (r:vO (λv (t:Int×Int×Int)=>∃b,v=.ref b/\b≠a/\b≠M/\At h b (mtD t.1 t.2.1 t.2.2)) vs ts) (inj:∀(i j:Nat)(t u:Int×Int×Int),ts[i]?=Na t->ts[j]?=Na u->t.1=u.1->i=j) (dh:ts.length<64)
  (q:∀(p:Array Nat) h' k',p.toList.Perm (B8 ts.length)->(∀i j,i<j->j<ts.length->(ts.getD (p.getD i 0) default).1<(ts.getD (p.getD j 0) default).1)->h'.Ns M m'->At h' a (aY<|p.toList.map λi=>vs.getD i V3)->aK [a,M] h h'->Q .none ⟨h',g,d,k',os⟩) :
  WP w A (PySem.call (.builtin "list.sort") [.ref a]) Q E ⟨h,g,d,k,os⟩:=by
 have len:=r.len;by_cases h2:vs.length<2
 .refine yI x h2 λh' at' kx=>q (List.toArray<|B8 ts.length) h' k (by simp) (λi j br V=>(l24<|.i bH<|.i (.S .a bX)<|.i (.S .c .d)<|.i (.S .d .b) cC) len h2 br V) ?_ ?_ (λb o O e=>kx b o (λz=>O (by simp only[A8,AB4,or_false] at z;simp[z])) e)
  .obtain⟨o,es,ep,e,rr⟩:=ns;exact⟨o,es,ep,kx M o (by simpa using λz=>na z.symm) e,rr⟩
  .have:(List.toArray<|B8 ts.length).toList.map (λi=>vs.getD i V3)=vs:=by
    rw[← len];apply T5;intro i;obtain z|z:=AB0 i vs.length
    .simp[z]
    .simp[z]
   rw[this];exact at'
 .obtain⟨o,ho,n,rfl⟩:=x;have ho:=ho;have F:Fr h00 M h m':=⟨ns,(λb o e=>by rw[uW] at e;cases e),C8 _⟩
  have N:News h00 M h<|kA h M a:=λp hp=>⟨(iQ hp).1,(iQ hp).2.1,uW _⟩
  have dq:∀{B:O7},News h00 M B (kA h M a)->aK [a,M] h B:=λy b o O e=>by
   simp only[A8,AB4,or_false,not_or] at O;exact(y (b,o)<|zC e O.2 O.1).1
  have Gk:∀{B:O7},News h00 M B (kA h M a)->Gr w B:=λy=>G.keepX (dq y) (λb hb=>by
   simp only[A8,AB4,or_false] at hb;obtain rfl|rfl:=hb
   .exact nK
   .exact nL)
  have mt:∀{B:O7},News h00 M B (kA h M a)->∀(i:Nat)(t:Int×Int×Int),ts[i]?=Na t->Ex5 λb Z ti tj tc=>vs[i]?=Na (.ref b)/\B.get? b=Na (mtO Z t.1 t.2.1 t.2.2 ti tj tc):=λy i t e=>by
   obtain⟨v,ev,⟨b,rfl,O,nbL,o,eb,Z,ti,tj,tc,rfl⟩⟩:∃v,vs[i]?=Na v/\∃b,v=.ref b/\b≠a/\b≠M/\At h b (mtD t.1 t.2.1 t.2.2):=by
    have J:i<vs.length:=by rw[len];exact(A4.mp e).1
    obtain⟨t',et,rr,_⟩:=r.at (i:=i) (a:=vs[i]) (by simp[J]);rw[e] at et;cases et
    exact⟨vs[i],by simp[J],rr⟩
   exact⟨b,Z,ti,tj,tc,ev,dq y b _ (by simp[O,nbL]) eb⟩
  refine⟨L4 slot_list_sort ⟨_,ho,rfl⟩ PyProof.Rows.entry_list_sort (kas_list_sort (T:=.ref 135) F N ho na (uW _) (λp hp=>(iQ hp).2.2) (aQF h2) ((l02<|.i (.S .b<|.k 64)<|.i bH<|.S .a<|.k 64) dh len) (λe1 B F' y v hv=>?_) (by decide) (by decide) λe1 B F' y=>?_)<|args_list_sort _⟩
  .obtain⟨i,J⟩:=O8 hv;obtain⟨t,et,_⟩:=r.at J;obtain⟨b,Z,ti,tj,tc,ev,eb⟩:=mt (λp hp=>y p<|.tail _ hp) i t et;rw[J] at ev;cases ev
   exact(Looks.ld eb).andThen .now
  .have Y:=aG5 (ao:=λi=>(ts.getD i default).1) (λi j J V e=>by
    have R:i<ts.length:=xO len J;have U:j<ts.length:=xO len V;refine inj i j ts[i] ts[j] (by simp[R]) (by simp[U]) ?_;simpa[D7,R,U] using e)<|aQF h2
   refine aBO (I:=λs=>∃k',s=⟨B,g,d,k',os⟩) (λi j C s ok J hC=>?_) _ _ Y ⟨k,rfl⟩ λp s' Y be=>?_
   .obtain⟨k',rfl⟩:=J;have R:i<ts.length:=xO len ok.1;have U:j<ts.length:=xO len ok.2.1;obtain⟨b1,dd1,x1,x2,x3,ev1,eb1⟩:=mt (λp hp=>y p<|.tail _ hp) i ts[i] (by simp[R]);obtain⟨b2,dd2,y1,y2,y3,ev2,eb2⟩:=mt (λp hp=>y p<|.tail _ hp) j ts[j] (by simp[U]);unfold kas_ask;rw[D7,ev1,D7,ev2];refine wU (by show A.units+1<cLine;exact hu) (Gk λp hp=>y p<|.tail _ hp) eb1 eb2 (λe=>ok.2.2<|inj i j ts[i] ts[j] (by simp[R]) (by simp[U]) e) λk2=>?_;have:=hC ⟨B,g,d,k2,os⟩ ⟨k2,rfl⟩;simpa[klt,D7,R,U] using this
   .obtain⟨k',rfl⟩:=be;refine KasFin.intro F' y (.head λp hp=>?_) λh3 c F3 N3=>⟨_,rfl,?_⟩
    .exact(iQ hp).2.2
    .have sz:=Y.1.sz;refine q p h3 k' (by rw[← len];exact Y.1.perm) (λi j br V=>by have z:=Y.2 i j br<|len▸V;rw[← aBs,← aBs] at z;exact z) F3.ns ⟨_,(N3 _<|.head _).1,?_⟩<|dq λp hp=>N3 p<|.tail _ hp;exact⟨c,rfl⟩
noncomputable abbrev meO(f s:A3):Obj:={cls:=.type "method",data:=.fields #[f,s]}
noncomputable abbrev maO(t f:A3):Obj:={cls:=.type "map",data:=.fields #[t,f]}
theorem aHx(G:Gr w h)(q:∀b h' k',h.get? b=Nb->aM h h'->h'.get? b=Na (meO (.ref 89)<|.ref 135)->Q (.ref b) ⟨h',g,d,k',os⟩):WP w A (getAttr (.ref 135) (S9 "_make") Nc) Q E ⟨h,g,d,k,os⟩:=
 eyr 1000 [] G.k (u:=[]) (l:=[meO (.ref 89)<|.ref 135]) (by kernel_rfl) (λp hp=>by cases hp) λh' k' H=>q _ h' k' (aG _) H.keep<|H.at_ 0 _ rfl
end
namespace MF
theorem aAP:mroOf (.type "map")=pure [.type "map",.type "object"]:=by kernel_rfl
theorem rI:J7 (.type "map") "__new__"=pure (Na<|.builtin "map.__new__"):=by kernel_rfl
theorem sI:Slot "map" "__init__" "object.__init__":=
 .of (owner:="object") (n:="__init__") (by kernel_rfl) (by decide +kernel) (by decide +kernel) (by decide +kernel)
  (by first | exact .inl (by decide +kernel) | exact .inr<|by decide +kernel) (by kernel_rfl)
theorem slot_map_iter:Slot "map" "__iter__" "map.__iter__":=
 .of (owner:="map") (n:="__iter__") (by kernel_rfl) (by decide +kernel) (by decide +kernel) (by decide +kernel)
  (by first | exact .inl (by decide +kernel) | exact .inr<|by decide +kernel) (by kernel_rfl)
theorem slot_map_next:Slot "map" "__next__" "map.__next__":=
 .of (owner:="map") (n:="__next__") (by kernel_rfl) (by decide +kernel) (by decide +kernel) (by decide +kernel)
  (by first | exact .inl (by decide +kernel) | exact .inr<|by decide +kernel) (by kernel_rfl)
theorem called_map:TypeCalled "map" "map.__new__" "object.__init__":=
 ⟨by decide +kernel,by decide +kernel,⟨_,_,aAP⟩,madeBy_type aAP rI<|by decide +kernel,by decide +kernel,by kernel_rfl,sI⟩
theorem typeCall_map_2(a b:A3):checkTypeCall "map" ⟨[a,b],[]⟩=pure ():=by kernel_rfl
theorem newCall_map_2(a b:A3):checkBuiltinCall "map.__new__" ⟨[.type "map",a,b],[]⟩=pure ():=by kernel_rfl
theorem entry_map_new:entryFor table "map.__new__"=Na K7.«map.__new__»:=entryFor_of_tree<|by kernel_rfl
theorem entry_map_next:entryFor table "map.__next__"=Na K7.«map.__next__»:=entryFor_of_tree<|by kernel_rfl
theorem entry_map_iter:entryFor table "map.__iter__"=Na K7.«dict_keyiterator.__iter__»:=
 entryFor_alias (id':="dict_keyiterator.__iter__") (by kernel_rfl) rfl (by decide +kernel) (by kernel_rfl)
theorem init_3(j7 a b:A3):argsOk "object.__init__" ⟨[j7,a,b],[]⟩:=by unfold argsOk;kernel_rfl
theorem args_next(a:A3):argsOk "map.__next__" ⟨[a],[]⟩:=by unfold argsOk;kernel_rfl
theorem args_iter(a:A3):argsOk "map.__iter__" ⟨[a],[]⟩:=by unfold argsOk;kernel_rfl
theorem no_len:J7 (.type "map") "__len__"=pure none:=by kernel_rfl
theorem no_hint:J7 (.type "map") "__length_hint__"=pure none:=by kernel_rfl
end MF
section
variable{k:Nat}
theorem aQf{b:E3}(x:At h M<|aY vs)(q:∀m t I h',aM h h'->h.get? m=Nb->h.get? t=Nb->h.get? I=Nb->I≠m->I≠t->t≠m->h'.get? m=Na (maO (.ref t)<|.ref b)->At h' t (gI [.ref I])->At h' I (gX M 0)->Q (.ref m) ⟨h',g,d,k,os⟩):
  WP w A (PySem.call (.type "map") [.ref b,.ref M]) Q E ⟨h,g,d,k,os⟩:=by
 have i:=x.isList;refine⟨callType_newIn MF.called_map (by decide) (MF.typeCall_map_2 _ _) (MF.newCall_map_2 _ _) (λj=>MF.init_3 j _ _) MF.entry_map_new (λA R s q=>q) ?_⟩;show M8 _ _ (do
  let (cls,rest) ← K7.SmallTypes.newClass "map" ⟨[.type "map",.ref b,.ref M],[]⟩
  K7.SmallTypes.refuseKeywords "map" cls ⟨[.type "map",.ref b,.ref M],[]⟩
  if rest.length<2 then rule "map.__new__.too-few";raiseError "TypeError" "map() must have at least two arguments."
  ret (← K7.SmallTypes.newRecord cls [← newTuple<|← K7.SmallTypes.iterAll<|rest.drop 1,rest.headD .none])) _ _ _
 refine A0 ?_;refine A0 (m:=isType<|.type "map")<|P0 (a:=Nc) rfl ?_;refine A0<|P0 MF.called_map.sub ?_;refine A7 ?_;refine A0 (m:=K7.SmallTypes.refuseKeywords _ _ _)<|P0 (a:=()) rfl ?_;refine A0<|A0<|A0<|A0<|G9<|wpAny_pyIter_list i ?_;refine A7<|A7<|A7 ?_;refine A0 (wpAny_newTuple ?_ (by show 1<=B9;rw[C5];exact l00<|.L aC cH));refine A0 ?_;unfold K7.SmallTypes.newRecord;refine V6 ?_ (by size_fits);have e:=P4 h {cls:=.type "list_iterator",data:=.fields #[.ref M,.int 0 0]};refine A7 ⟨⟨_,C7 _ rfl,rfl⟩,q _ (h.objs.size+1) h.objs.size _ ((aJ _ _).trans<|(aJ _ _).trans<|aJ _ _) ?_ ?_ (aG _) ?_ ?_ ?_ ?_ ?_ ?_⟩
 .show h.get? ((h.push _).push _).objs.size=Nb;rw[P4,P4];cases z:h.get? (h.objs.size+1+1) with
  | none=>rfl
  | some o=>have:=L6 z;exact absurd this (by show ¬(h.objs.size+1+1<h.objs.size);exact l01<|.n<|.S (.p aR aC) .a)
 .cases z:h.get? (h.objs.size+1) with
  | none=>rfl
  | some o=>have:=L6 z;exact absurd this (by show ¬(h.objs.size+1<h.objs.size);exact aQJ)
 .show h.objs.size≠((h.push _).push _).objs.size;rw[P4,P4];exact W6 (l01<|.S .a<|.p aR aC)
 .exact W6 (l01<|.S .a aR)
 .show h.objs.size+1≠((h.push _).push _).objs.size;rw[P4,P4];exact W6 (l01<|.S aR<|.p aR aC)
 .show(((h.push _).push _).push _).get? ((h.push _).push _).objs.size=_;rw[C7 _ rfl];show Na (maO (.ref (h.push _).objs.size)<|.ref b)=_;rw[P4]
 .refine⟨_,I7 _ (?_:((h.push _).push _).get? (h.objs.size+1)=Na _),0,rfl⟩;rw[← e];exact C7 _ rfl
 .exact⟨_,I7 _<|I7 _<|C7 _ rfl,rfl,rfl⟩
theorem aH3{s:A6}{x:A3}{Q:Option A3->A6->Prop}(ft:At s.heap I<|gX M B)(hl:At s.heap M<|aY vs)(hx:vs[B]?=Na x)
  (q:∀h',At h' I (gX M<|B+1)->aK [I] s.heap h'->Q (Na x) {s with heap:=h'}):WP w A (callSpecial? (.ref I) "__next__") Q E s:=by
 obtain⟨o,b,g,a⟩:=id ft;obtain⟨h,hol,_,nl,d⟩:=hl.isList;have ft:s.heap.IsListIter I M B:=ft;refine⟨K3 (name:=S9 "__next__") ft.typeIs slot_listiter_next<|L4 slot_listiter_next ft.typeIs entry_listiter_next ?_<|args_listiter_next _⟩;show M8 _ _ (field (.ref I) 0 >>= _) _ _ s;refine A0<|Q5 b a (x:=.ref M) rfl ?_;refine A0<|Q5 b a (x:=.int B 0) rfl ?_;refine A0<|O4 hol d ?_;have e:vs.toArray[B]?=Na x:=by simpa using hx
 simp only[L3,e];refine A0 (wpAny_setField b a (by simp)<|A7 ⟨x,rfl,q _ ?_<|aK.same<|G8 ..⟩);exact⟨_,J3 _ b<|Obj.isFreed_of_fields<|Obj.data_mapFields a _,(Obj.cls_mapFields ..).trans g,by rw[Obj.data_mapFields a];simp[rawInt]⟩
theorem aMg{s:A6}{Q:Option A3->A6->Prop}(hh:A.handled=Nb)(ft:At s.heap I<|gX M B)(hl:At s.heap M<|aY vs)(hx:vs[B]?=Nb)
  (q:∀e h',aK [I] s.heap h'->A6.TypeIs {s with heap:=h'} (.ref e) "StopIteration"->E (.ref e) {s with heap:=h'}):WP w A (callSpecial? (.ref I) "__next__") Q E s:=by
 obtain⟨o,d,n,a⟩:=id ft;obtain⟨r,hol,_,nl,b⟩:=hl.isList;have ft:s.heap.IsListIter I M B:=ft;refine⟨K3 (name:=S9 "__next__") ft.typeIs slot_listiter_next<|L4 slot_listiter_next ft.typeIs entry_listiter_next ?_<|args_listiter_next _⟩;show M8 _ _ (field (.ref I) 0 >>= _) _ _ s;refine A0<|Q5 d a (x:=.ref M) rfl ?_;refine A0<|Q5 d a (x:=.int B 0) rfl ?_;refine A0<|O4 hol b ?_;have g:vs.toArray[B]?=none:=by simpa using hx
 simp only[L3,g];refine A0 (wpAny_rule<|A0<|wpAny_setField d a (by simp) ?_);refine vW hh λp j h i=>?_;exact q _ _ (aK.ext<|((G8 ..).extBut.push _).push _) ⟨j,h,i⟩
abbrev aMR:I8:=fd (fG 3 5) (S9 "Match._make") .none (Na 293) (.str (S9 "cpy313.difflib") 194) (.ref 88)<|Na 92
theorem aBM{c:Int}(G:Gr w h)(x:h.get? M=Na (mtO I i j c ti tj t1))(q:∀t k',Q (.int 3 t) ⟨h,g,d,k',os⟩):WP w A (PySem.call (.builtin "len") [.ref M]) Q E ⟨h,g,d,k,os⟩:=
 eyr 1000 [.old<|mtO I i j c ti tj t1,.kk,.kk,.kk,.old<|mtO I i j c ti tj t1,.kk,.old<|mtO I i j c ti tj t1] G.k (v:=.int 3<|k+1) (u:=G6 3 (M,mtO I i j c ti tj t1)) (l:=[]) (by kernel_rfl) (kC x 3) λa k' H=>by
  have:=H.same rfl;subst this;exact q _ _
theorem aGS(G:Gr w h)(r:Rm A 1)(x:At h I<|gI [.int i ti,.int j tj,.int lo t1])
  (q:∀e h' k',h.get? e=Nb->aM h h'->At h' e (mtD i j lo)->R (.ok<|.ret<|.ref e) ⟨h',g,d,k',os⟩):CD w A (.call (.ref 89) ⟨[.ref 135,.ref I],[]⟩) R ⟨h,g,d,k,os⟩:=by
 refine zd0 (f:=aMR) (bx:=[(S9 "cls",.ref 135),(S9 "iterable",.ref I)]) G r.room rfl (BindsTo.of_eq<|by kernel_rfl) rfl (q:=?_);intro L M Q a F;refine fH (aIA (by kernel_rfl) (by kernel_rfl) ?_);intro S;refine fH (vQ rfl rfl rfl<|fN (λO=>rfl) (by kernel_rfl) (by kernel_rfl) ?_);refine g_B xM (q:=?_);intro pl;refine evv 300 (a.at F).k (v:=(.builtin "tuple.__new__",[])) (by kernel_rfl) ?_;intro T;refine tN rfl rfl<|dZ rfl ?_;refine zn (q:=?_);refine dZ rfl ?_;refine zn (q:=?_);refine lG<|aAi (a.at F) (x.keep λb o e=>F.keep b o e) ?_;intro e p N U E C y;have J:=F.add E C<|At.of y;refine aBn ?_;refine zs (q:=?_);intro _ _ _
 rename FZ _ _ _ _ _=>F4
 have n:=(F4.at 0 rfl).get;refine fH (aRp<|aJo (by kernel_rfl)<|gC ?_);refine g_B aFa (q:=?_);refine tN rfl rfl<|dZ rfl ?_;refine zn (q:=?_);refine lG<|aBM (a.at F4) n ?_;intro Y V;refine aJi ?_;intro Z B;refine⟨PySem.P.ne_int<|aOd (by decide)<|qN<|fH<|aCo ?_⟩;refine zn (q:=?_);refine q e _ B ?_ (λb o u=>F4.keep b o u) ⟨_,n,p,ti,tj,t1,rfl⟩;exact F4.zna (i:=0) rfl
theorem aBJ(G:Gr w h)(r:Rm A 1)(hb:h.get? M=Na (meO (.ref 89)<|.ref 135))(x:At h I<|gI [.int i ti,.int j tj,.int lo t1])
  (q:∀e h' k',h.get? e=Nb->aM h h'->At h' e (mtD i j lo)->Q (.ref e) ⟨h',g,d,k',os⟩):WP w A (PySem.call (.ref M) [.ref I]) Q E ⟨h,g,d,k,os⟩:=by
 refine kK (eyc (c':=.call (.ref 89) ⟨[.ref 135,.ref I],[]⟩) 300 [.old<|meO (.ref 89)<|.ref 135] G.k (u:=[(M,meO (.ref 89)<|.ref 135)]) (l:=[]) (by kernel_rfl) (λp hp=>by simp at hp;subst hp;exact hb) (by kernel_rfl) ?_);intro o y a;have:=a.same rfl;subst this;exact aGS G r x λe h' k' n b at_=>q e h' k' n b at_
theorem aDA{b:E3}{Q:Option A3->A6->Prop}(G:Gr w h)(r:Rm A 2)(hm:h.get? M=Na (maO (.ref dx)<|.ref b))(ht:At h dx<|gI [.ref I])(hI:At h I<|gX p1 n)(hl:At h p1<|aY vs)(hb:h.get? b=Na (meO (.ref 89)<|.ref 135))
  (hx:vs[n]?=Na (.ref a0)) (x:At h a0<|gI [.int i ti,.int j tj,.int lo t1]) (nK:(K w.params).lookup I=Nb) (u7:I≠b) (u8:I≠a0)
  (q:∀e h' k',aK [I] h h'->At h' I (gX p1<|n+1)->h.get? e=Nb->At h' e (mtD i j lo)->Q (Na<|.ref e) ⟨h',g,d,k',os⟩):WP w A (W5<|.ref M) Q E ⟨h,g,d,k,os⟩:=by
 refine⟨?_⟩;refine A0<|wpAny_attempt<|K3 ⟨_,hm,rfl⟩ MF.slot_map_next<|L4 MF.slot_map_next ⟨_,hm,rfl⟩ MF.entry_map_next ?_<|MF.args_next _;obtain⟨ot,R,nt,V⟩:=ht;subst V;show M8 _ _ (do
  let (self,_) ← slotArgs "__next__" 0 ⟨[.ref M],[]⟩
  let Na its ← seqItems? (← field self 0) | unsupported "internal:map.__next__"
  let mut items:Array A3:=#[]
  for it in its do
   items:=items.push (← holding items.toList<|K7.SmallTypes.nextOf it)
  let result ← holding items.toList (call (← field self 1) items.toList)
  letGo items.toList [result]
  ret result) _ _ _
 refine A0<|P0 rfl ?_;refine A0<|Q5 hm rfl rfl ?_;refine A0<|O4 R rfl ?_;refine A0<|A0<|A0<|G9 ?_;refine A0 (aH3 hI hl hx λh1 a1 a=>?_).run;refine A7<|A7<|A7 ?_;have Y:M≠I:=by
  rintro rfl;obtain⟨o,e,T,_⟩:=hI;rw[hm] at e;cases e;exact absurd T (by show ¬(X8 "map"=X8 "list_iterator");decide)
 have Z:=a M _ (by simpa using Y) hm;refine A0<|Q5 Z rfl rfl ?_;have N:=G.keepX a (λy C=>by simp at C;subst C;exact nK);refine A0 (G9 (aBJ N r.in1 (a b _ (by simpa using u7.symm) hb) (x.keepX a<|by simpa using u8.symm) λe S U p J O=>?_).run);refine A0<|wpAny_letGo ?_;refine A7 ⟨_,rfl,A7<|q e S U (a.trans<|aK.of J) (a1.keep J) ?_ O⟩;cases z:h.get? e with
 | none=>rfl
 | some o=>
  by_cases B:e=I
  .subst B;obtain⟨o',u,_⟩:=a1;rw[p] at u;cases u
  .rw[a e o (by simpa using B) z] at p;cases p
theorem aGR{b:E3}{Q:Option A3->A6->Prop}(r:Rm A 2)(hm:h.get? M=Na (maO (.ref dx)<|.ref b))(ht:At h dx<|gI [.ref I])(hI:At h I<|gX p1 n)(hl:At h p1<|aY vs)(hx:vs[n]?=Nb)
  (q:∀h',aK [I] h h'->Q Nb ⟨h',g,d,k,os⟩):WP w A (W5<|.ref M) Q E ⟨h,g,d,k,os⟩:=by
 refine⟨?_⟩;refine A0<|wpAny_attempt<|K3 ⟨_,hm,rfl⟩ MF.slot_map_next<|L4 MF.slot_map_next ⟨_,hm,rfl⟩ MF.entry_map_next ?_<|MF.args_next _;obtain⟨x,a,u,o⟩:=ht;subst o;show M8 _ _ (do
  let (self,_) ← slotArgs "__next__" 0 ⟨[.ref M],[]⟩
  let Na its ← seqItems? (← field self 0) | unsupported "internal:map.__next__"
  let mut items:Array A3:=#[]
  for it in its do
   items:=items.push (← holding items.toList<|K7.SmallTypes.nextOf it)
  let result ← holding items.toList (call (← field self 1) items.toList)
  letGo items.toList [result]
  ret result) _ _ _
 refine A0<|P0 rfl ?_;refine A0<|Q5 hm rfl rfl ?_;refine A0<|O4 a rfl ?_;refine A0<|A0<|A0<|G9 ?_;refine A0 (aMg (show A.in1.handled=Nb from r.hh) hI hl hx λe j i p=>?_).run;refine A0<|wpAny_isInstance p isSubtype_stop ?_;exact A7<|q j i
theorem aDz{o:Obj}{s:A6}(hm:s.heap.get? I=Na o)(hc:o.cls=.type "map")(q:Q (.ref I) s):WP w A (Y1<|.ref I) Q E s:=by
 refine⟨wpAny_pyIter_slot ⟨_,hm,hc⟩ MF.slot_map_iter<|L4 MF.slot_map_iter ⟨_,hm,hc⟩ MF.entry_map_iter ?_<|MF.args_iter _⟩;exact A7 ⟨_,rfl,"map",_,⟨_,hm,hc⟩,MF.slot_map_next.lookup,q⟩
theorem aH2{T:String}(J:Nat->A6->Prop)(nl:J7 (.type T) "__len__"=pure Nb)(nh:J7 (.type T) "__length_hint__"=pure Nb)(t1:(X8 T==X8 "list")=Nd)(t2:(X8 T==X8 "tuple")=Nd)
  (hT:A6.TypeIs ⟨h,g,d,k,os⟩ (.ref I) T)
  (iter:∀{A:M2}{E:A3->A6->Prop}{Q:A3->A6->Prop} h1,aK [h.objs.size] h h1->Q (.ref I) ⟨h1,g,d,k,os⟩->WP w A (Y1<|.ref I) Q E ⟨h1,g,d,k,os⟩)
  (start:∀h1,aM h h1->At h1 h.objs.size (aY [])->J d8 ⟨h1,g,d,k,os⟩)
  (turn:∀n s,J n s->WP w A.in1.in1.in1 (W5<|.ref I) (λr s1=>match r with
   | none=>Q (.ref h.objs.size) s1
   | some v=>∃us,dH (At s1.heap h.objs.size<|aY us) (us.length<=B9)<|∀h2,At h2 h.objs.size (aY<|us++[v])->aK [h.objs.size] s1.heap h2->∃m,m<n/\J m {s1 with heap:=h2}) FF s) :
  WP w A (PySem.call (.type "list") [.ref I]) Q E ⟨h,g,d,k,os⟩:=by
 have i:(h.push {cls:=.type "list",data:=.seq #[]}).get? h.objs.size=Na {cls:=.type "list",data:=.seq #[]}:=C7 _ rfl;refine⟨callType_codes (Q₁:=λR u=>R=.ref h.objs.size/\u=⟨h.push {cls:=.type "list",data:=.seq #[]},g,d,k,os⟩) F.called_list (F.typeCall_list_1 _) F.entry_list_init (code_list_new _ ⟨rfl,rfl⟩) λR u Z=>?_⟩;obtain⟨rfl,rfl⟩:=Z;refine⟨⟨_,i,rfl⟩,F.args_list_init_2 _ _,?_⟩;refine A0 ?_;refine A0<|O4 i rfl<|A7 ?_;refine A0<|wpAny_updateSeq i rfl ?_;have B:=J3 (K6<|λO=>(#[]:Array A3)) i rfl;refine A0<|wpAny_letGo ?_;have a:aK [h.objs.size] h ((h.push {cls:=.type "list",data:=.seq #[]}).update h.objs.size<|K6<|λO=>(#[]:Array A3)):=(aK.of<|aJ _ _).trans<|aK.same<|G8 ..;obtain⟨oI,p,Y⟩:=hT;have nI:I≠h.objs.size:=by rintro rfl;rw[aG] at p;cases p
 have q:∀{h1:O7},aK [h.objs.size] h h1->A6.TypeIs ⟨h1,g,d,k,os⟩ (.ref I) T:=λkx=>⟨oI,kx I oI (by simpa using nI) p,Y⟩
 refine A0<|wpAny_typeOf (q a) ?_;have h1:K7.List.listSameRef (.ref h.objs.size) (.ref I)=false:=by simp[K7.List.listSameRef,nI.symm]
 simp only[h1,t1,t2];refine A0 (iter _ a ?_).run;refine A0<|G9 ?_;refine A0<|wpAny_specialOf (q a) nl ?_;refine A0<|wpAny_specialOf (q a) nh ?_;refine A7 ?_;refine A0<|wpAny_rule ?_;refine A0 ?_;refine A0<|wpAny_updateSeq B rfl ?_;have M:=J3 (K6 (·.push V3)) B rfl;refine wpAny_updateSeq M rfl ?_;have N:=J3 (K6 (·.pop)) M rfl;have S:=(a.trans<|aK.same<|G8 _ h.objs.size<|K6 (·.push V3)).trans<|aK.same<|G8 _ h.objs.size<|K6 (·.pop);generalize yh:(((h.push {cls:=.type "list",data:=.seq #[]}).update h.objs.size<|K6<|λO=>(#[]:Array A3)).update h.objs.size<|K6 (·.push V3)).update h.objs.size (K6 (·.pop))=h4 at N S ⊢;have j0:=start h4 (λb o e=>S b o (by
  intro z;simp at z;subst z;rw[aG] at e;cases e) e) ⟨_,N,_,rfl⟩
 refine A7 ⟨plainId_quiet F.plain_extend_loop _,?_⟩;have U:∀n s,J n s->codeAny (model P w) A.in1 (.builtin "list.extend.loop" ⟨[.ref h.objs.size,.ref I,.none],[]⟩) (wants (λr V=>r=.none/\Q (.ref h.objs.size) V) E) s:=by
  intro n;induction n using Nat.strongRecOn with
  | ind n ih=>
   intro s j;refine V5 F.entry_extend_loop ?_;refine A0<|B7 (wpAny_of_in1 (turn n s j).run) (λr s1 y=>?_) λO O e=>e.elim;cases r with
   | none=>exact A7 ⟨rfl,y⟩
   | some v=>
    obtain⟨us,⟨o,x,nn,rfl⟩,C,nx⟩:=y;refine A0 (wpAny_updateSeq x rfl ?_ (by simpa using C) (by simp;exact C));obtain⟨m,hm,jm⟩:=nx _ ⟨_,J3 (K6 (·.push v)) x rfl,_,by(simp only[K6,List.push_toArray]);rfl⟩<|aK.same<|G8 ..;exact A7 ⟨plainId_quiet F.plain_extend_loop _,ih m hm _ jm⟩
 exact U d8 _ j0
end
section
variable{s:A6}
theorem aMk{v:A3}(x:At s.heap I<|aY vs)(lo:-9223372036854775808<=i)(hi:i<9223372036854775808)(ij:P1 i vs.length=Na B)
  (hQ:∀h',At h' I (aY<|vs.set B v)->aK [I] s.heap h'->Post () {s with heap:=h'}):WP w A (setItem (.ref I) (.int i ti) v) Post E s:=by
 have a:=x.isList;obtain⟨o,b,n,rfl⟩:=x;have e:Post () {s with heap:=s.heap.update I (K6 (·.setIfInBounds B v))}:=by
  exact hQ _ ⟨_,J3 (K6 (·.setIfInBounds B v)) b rfl,_,by(simp only[K6,List.setIfInBounds_toArray]);rfl⟩<|aK.same<|G8 ..
 have p:P1 i vs.toArray.size=Na B:=by simpa using ij
 refine⟨?_⟩;obtain⟨d,j,h⟩|⟨d,r,j,h⟩:=jH p
 .unfold setItem
  try with_reducible refine G9 ?_
  first | refine A0 (A7 ?_) | skip
  refine A0 (wpAny_sequenceKey a.typeIs (by decide) ?_);refine A0<|K3 a.typeIs Y2
   (L4 Y2 a.typeIs entry_list_setitem ?_<|args_list_setitem _ _ _)
  show M8 _ _ (W0 (.int i ti) >>= _) _ _ s;refine A0<|wpAny_listSubscript_int (fitsIndex_of d hi) ?_;obtain⟨m,rfl⟩:=K2 d;have q:B=m:=by simpa using j
  subst q;have g:=Y4 h;refine A0<|A0<|wpAny_seqItemAt b rfl<|A7 ?_;rw[g];refine A0 (wpAny_setSeqItemAt b rfl ?_)
  first
   | exact A0<|A7<|A7 ⟨.none,rfl,A7 e⟩
   | exact A7 ⟨.none,rfl,A7 e⟩
 .unfold setItem
  try with_reducible refine G9 ?_
  first | refine A0 (A7 ?_) | skip
  refine A0 (wpAny_sequenceKey a.typeIs (by decide) ?_);refine A0<|K3 a.typeIs Y2
   (L4 Y2 a.typeIs entry_list_setitem ?_<|args_list_setitem _ _ _)
  show M8 _ _ (W0 (.int i ti) >>= _) _ _ s;refine A0<|wpAny_listSubscript_int (fitsIndex_neg d lo) ?_;obtain⟨m,rfl⟩:∃m:Nat,i=Int.negSucc m:=by
   cases i with
   | ofNat n=>exact absurd d<|Z7.mpr<|E2 n
   | negSucc n=>exact⟨n,rfl⟩
  refine A0<|A0 ?_;refine A0<|O4 b rfl<|A7<|A7 ?_;rw[p];have g:=Y4 h;simp only[Option.bind_some,g,Y5];refine A0 (wpAny_setSeqItemAt b rfl ?_)
  first
   | exact A0<|A7<|A7 ⟨.none,rfl,A7 e⟩
   | exact A7 ⟨.none,rfl,A7 e⟩
end
theorem Rps.set{d:Dt}{v:A3}(r:Rp Z d v){l:List Dt}(j:Nat)(rs:Rps Z l vs):Rps Z (l.set j d)<|vs.set j v:=by
 induction j generalizing l vs with
 | zero=>
  cases rs with
  | nil=>exact .nil
  | cons a rs=>exact .cons r rs
 | succ j b=>
  cases rs with
  | nil=>exact .nil
  | cons a rs=>exact .cons a<|b rs
def Al(l:List Prop):Prop:=List.rec (motive:=λO=>Prop) True (λp O r=>p/\r) l
theorem Al.app:∀{a b:List Prop},Al (a++b)->Al a/\Al b:=by
 intro a;induction a with
 | nil=>
  intro _ h;exact⟨trivial,h⟩
 | cons _ _ d=>
  intro _ h;exact have:=d h.2;⟨⟨h.1,this.1⟩,this.2⟩
noncomputable def chk{α:Type}(b:Bool)(f:b=Nc->Option α):Option α:=(match b with
 | true=>λf=>f rfl
 | false=>λO=>Nb:(b=Nc->Option α)->Option α) f
noncomputable def bR(e:Expr):Bool:=!(T6 e.ctorIdx 22)
def iJ(es:List Expr):Bool:=List.rec (motive:=λO=>Bool) Nc (λe O r=>bR e&&r) es
def fQ(w:E9)(N:Nat)(x:Str)(ds:List Dt)(d:Dt):Prop:=∃a n,lY (n<=N) (GN x<|.ref a) (keepIn (K w.params) (.ref a)=Nc)<|OpV w n (cal<|.ref a) ds d
structure Op(α:Type)(ok:α->Prop) where
 v:α
 ps:List Prop
 h:Al ps->ok v
noncomputable abbrev Mg(b:Bool){α:Type}(P F:α->Prop):Type:={m:α // (b=Nc->P m)/\(b=Nd->F m)}
section
variable{b:Bool}{P F:α->Prop}(x:Mg b P F)
noncomputable abbrev Mg.m:α:=x.1
theorem Mg.t:b=Nc->P x.m:=x.2.1
theorem Mg.f:b=Nd->F x.m:=x.2.2
end
def aAe(D:HP->A3->Prop):Prop:=∃id:String,∀Z v,D Z v->Ex2 λa b=>v=.ref a/\AtZ Z a (bdD id b)
def xU(w:E9)(D:HP->A3->Prop)(ds:List Dt)(d:Dt):Prop:=∀(A:M2)(Z:HP) h g dr k os v vs,Rm A 0->GZ w Z->Sub Z h->D Z v->Rps Z ds vs->WP w A (PySem.call v vs) (lX Z h g dr os d) FF ⟨h,g,dr,k,os⟩
abbrev OpR(w:E9)(t:List A3->Sem A3)(ds:List Dt):Type:=Op Dt λd=>OpV w 0 t ds d
noncomputable def aSV(w:E9):(op:Operator)->(a b:Dt)->Option (OpR w (op2<|X7 op) [a,b])
 | .Add,.int a,.int b=>Na ⟨_,[],λO=>aLJ a b⟩
 | .Sub,.int a,.int b=>Na ⟨_,[],λO=>aLw a b⟩
 | .Mod,.int a,.int b=>Na ⟨_,[b≠0],λh=>aLC a b h.1⟩
 | .FloorDiv,.int a,.int b=>Na ⟨_,[b≠0,b.natAbs.log2<9000],λh=>aGB a b h.1 h.2.1⟩
 | .Pow,.int a,.int b=>Na ⟨_,[0<=b,(K7.Int.intBits a:Int)*b<=2^27],λh=>aLy a b h.1 h.2.1⟩
 | .Add,.str x,.str y=>Na ⟨_,[x.length+y.length<=B9],λh=>aGD x y h.1⟩
 | .Add,.lst x,.lst y=>Na ⟨_,[x.length+y.length<=B9],λh=>(aLO x y h.1).v⟩
 | _,_,_=>Nb
noncomputable def aSw(w:E9):(op:Operator)->(a b:Dt)->Option (OpR w (op2<|inplaceOp op) [a,b])
 | .Add,.int a,.int b=>Na ⟨_,[],λO=>aGz a b⟩
 | .Sub,.int a,.int b=>Na ⟨_,[],λO=>aGy a b⟩
 | .Add,.str x,.str y=>Na ⟨_,[x.length+y.length<=B9],λh=>aDh x y h.1⟩
 | _,_,_=>Nb
abbrev CmR(w:E9)(t:List A3->Sem A3)(ds:List Dt):Type:=Op Bool λb=>OpV w 0 t ds<|.bool b
noncomputable def aSO(w:E9):(op:CmpOp)->(a b:Dt)->Option (CmR w (op2<|E6 op) [a,b])
 | .Eq,.int a,.int b=>Na ⟨_,[],λO=>aOK a b⟩
 | .NotEq,.int a,.int b=>Na ⟨_,[],λO=>aOF a b⟩
 | .Lt,.int a,.int b=>Na ⟨_,[],λO=>aOG a b⟩
 | .LtE,.int a,.int b=>Na ⟨_,[],λO=>aOH a b⟩
 | .Gt,.int a,.int b=>Na ⟨_,[],λO=>aOI a b⟩
 | .GtE,.int a,.int b=>Na ⟨_,[],λO=>aOJ a b⟩
 | .Eq,.str a,.str b=>Na ⟨_,[],λO=>aLG a b⟩
 | .NotEq,.str a,.str b=>Na ⟨_,[],λO=>aLz a b⟩
 | .NotEq,.lst a,.lst []=>Na ⟨_,[],λO=>aLA a⟩
 | _,_,_=>Nb
abbrev TrR(w:E9)(d:Dt):Type:=Op Bool λb=>OpB w 0 truthy d b
noncomputable def aRs(w:E9):(d:Dt)->Option (TrR w d)
 | .int a=>Na ⟨_,[],λO=>aLT a⟩
 | .bool b=>Na ⟨_,[],λO=>aGK b⟩
 | .none=>Na ⟨_,[],λO=>aGJ⟩
 | .str x=>Na ⟨_,[x.length<4611686018427387904],λh=>aLR x h.1⟩
 | .lst l=>Na ⟨_,[l.length<4611686018427387904],λh=>aLS l h.1⟩
 | _=>Nb
noncomputable def aSg(w:E9):(ds:List Dt)->Option (OpR w (cal<|.builtin "len") ds)
 | [.lst l]=>Na ⟨_,[l.length<4611686018427387904],λh=>aLF l h.1⟩
 | [.tup l]=>Na ⟨_,[l.length<4611686018427387904],λh=>aGw l h.1⟩
 | [.str l]=>Na ⟨_,[l.length<4611686018427387904],λh=>aGx l h.1⟩
 | _=>Nb
noncomputable def aTk(w:E9):(ds:List Dt)->Option (OpR w (cal<|.builtin "abs") ds)
 | [.int a]=>Na ⟨_,[],λO=>aLK a⟩
 | _=>Nb
noncomputable def aS9(w:E9):(ds:List Dt)->Option (OpR w (cal<|.builtin "min") ds)
 | [.int a,.int b]=>Na ⟨_,[],λO=>aLD a b⟩
 | _=>Nb
noncomputable def aSa(w:E9):(ds:List Dt)->Option (OpR w (cal<|.builtin "max") ds)
 | [.int a,.int b]=>Na ⟨_,[],λO=>aLE a b⟩
 | _=>Nb
noncomputable def aSP(w:E9):(ds:List Dt)->Option (OpR w (cal<|.builtin "chr") ds)
 | [.int a]=>Na ⟨_,[0<=a,a<=1114111],λh=>aLI a h.1 h.2.1⟩
 | _=>Nb
noncomputable def aSM(w:E9):(ds:List Dt)->Option (OpR w (cal<|.builtin "divmod") ds)
 | [.int a,.int b]=>Na ⟨_,[b≠0,b.natAbs<1073741824],λh=>aBD a b h.1 h.2.1⟩
 | _=>Nb
noncomputable def aRu(w:E9):(ds:List Dt)->Option (OpR w (cal<|.type "str") ds)
 | [.int a]=>Na ⟨_,[a.natAbs.log2<1920],λh=>aLx a h.1⟩
 | _=>Nb
noncomputable def aRJ(w:E9):(ds:List Dt)->Option (OpR w (cal<|.type "range") ds)
 | [.int a]=>Na ⟨_,[],λO=>aDe a⟩
 | [.int a,.int b]=>Na ⟨_,[],λO=>aBC a b⟩
 | _=>Nb
abbrev MgR(b:Bool)(d e:Dt):Type:=Mg b (λm=>m=d) λm=>m=e
noncomputable def aP2(b:Bool):(d e:Dt)->Option (MgR b d e)
 | .int i,.int j=>Na ⟨.int (if b then i else j),λh=>by rw[if_pos h],λh=>by rw[h];rfl⟩
 | .str i,.str j=>Na ⟨.str (if b then i else j),λh=>by rw[if_pos h],λh=>by rw[h];rfl⟩
 | .bool i,.bool j=>Na ⟨.bool (if b then i else j),λh=>by rw[if_pos h],λh=>by rw[h];rfl⟩
 | .lst i,.lst j=>Na ⟨.lst (if b then i else j),λh=>by rw[if_pos h],λh=>by rw[h];rfl⟩
 | _,_=>Nb
noncomputable def grd(b v:Bool):List Prop->List Prop
 | []=>[]
 | p::ps=>[b=v->Al (p::ps)]
theorem lO{b:Bool}:∀{ps:List Prop},Al (grd b b' ps)->b=b'->Al ps
 | [],_,_=>trivial
 | _::_,h,e=>h.1 e
noncomputable def plE(e:Expr):Bool:=!(T6 e.ctorIdx 0||(T6 e.ctorIdx 3||(T6 e.ctorIdx 5||T6 e.ctorIdx 15)))
noncomputable def aAL(e:Expr):Bool:=!(T6 e.ctorIdx 26)
theorem rG(h:aAL e=Nc):∀o i,subscripted e Nd o i=operate [o,i] (getItem o i):=by
 cases e <;> first | (intros;rfl) | cases h
noncomputable def yW(e:Expr):Bool:=Nat.ble e.ctorIdx 7||Nat.ble 11 e.ctorIdx
def rX{α:Type}(w:E9)(t:Sem α):Option α:=puO<|stp ⟨P,w.params⟩ t
theorem oZ{α:Type}{t:Sem α}{a:α}(h:rX w t=Na a):t=pure a:=by
 have z:=aDa w t;unfold rX at h;rw[h] at z;exact z
theorem aCg{b:Bool}(h:(b'&&b)=Nc):b'=Nc/\b=true:=F8.mp h
theorem aC7:∀{l:List<|Str×A3}{m:Str->Option A3}{x:Str},x∉l.map (·.1)->bindL kd l m x=m x:=by
 intro l;induction l with
 | nil=>
  intro _ _ _;exact rfl
 | cons b l a=>
  intro m x h;rw[H5,A8,not_or] at h;rw[bindL,a h.2];split
  .exact if_neg h.1
  .rfl
theorem aA7:∀{l:List<|Str×A3}{m:Str->Option A3}{x:Str}{v:A3},(l.map (·.1)).Nodup->kd x=Na .local->(x,v)∈l->bindL kd l m x=Na v:=by
 intro l;induction l with
 | nil=>intro _ _ _ _ _ h;cases h
 | cons p l d=>
  intro m x v a b h;have a:=B6.mp a;obtain e|h:=A8.mp h
  .subst e;rw[bindL,if_pos b,aC7 a.1];exact if_pos rfl
  .exact d a.2 b h
theorem aC8:∀{l:List<|Str×A3}{m:Str->Option A3}{x:Str},(∀v,(x,v)∈l->kd x=Na .local)->bindC kd l m x=m x:=by
 intro l;induction l with
 | nil=>
  intro _ _ _;exact rfl
 | cons d l b=>
  obtain⟨n,u⟩:=d;intro m x h;rw[bindC,b λv a=>h v<|.tail _ a];split
  .rfl
  .next k=>
   refine if_neg λe=>k ?_;subst e;exact h u<|.head _
theorem aC9:∀{l:List<|Str×A3}{m:Str->Option A3}{x:Str}{v:A3},(l.map (·.1)).Nodup->kd x≠Na .local->(x,v)∈l->bindC kd l m x=Na v:=by
 intro l;induction l with
 | nil=>intro _ _ _ _ _ h;cases h
 | cons p l g=>
  intro m x v a b h;have a:=B6.mp a;obtain e|h:=A8.mp h
  .subst e;rw[bindC,if_neg b,aC8 λv d=>absurd (C9 d) a.1];exact if_pos rfl
  .exact g a.2 b h
theorem aAf{d:Dt}(r:Rps Z ds vs):(x,d)∈a8.zip ds->∃v,(x,v)∈a8.zip vs/\Rp Z d v:=
 Rps.ind (P:=λds vs=>∀{a8:List Str},(x,d)∈a8.zip ds->∃v,(x,v)∈a8.zip vs/\Rp Z d v) (λ{a8} i=>by cases a8 <;> cases i) (λr O a a8 i=>by
  cases a8 with
  | nil=>cases i
  | cons n g=>
   obtain e|i:=A8.mp i
   .cases e;exact⟨_,.head _,r⟩
   .obtain⟨v,j,b⟩:=a i;exact⟨v,.tail _ j,b⟩) r
theorem aBY(h:¬(i>aa/\j>ac/\a[(i-1).toNat]?=b[(j-1).toNat]?)):oW a b aa ac n (i,j,lo)=(i,j,lo):=by
 cases n with
 | zero=>rfl
 | succ n=>rw[oV,if_neg h]
theorem oU{k:Int}(h:¬(i+k<aq/\j+k<af/\a[(i+k).toNat]?=b[(j+k).toNat]?)):mZ a b aq af n (i,j,k)=(i,j,k):=by
 cases n with
 | zero=>rfl
 | succ n=>rw[jU,if_neg h]
def aHc(s1:E3):HP->A3->Prop:=λZ v=>∃bm,dH (v=.ref bm) (AtZ Z bm<|bdD "set.__contains__"<|.ref s1)<|AtZ Z s1 oF
theorem aDX(s1:E3)(Z Z':HP)(v:A3)(l:HP.le Z Z')(x:aHc s1 Z v):aHc s1 Z' v:=by
 obtain⟨a,e,b,d⟩:=x;exact⟨a,e,b.le l,d.le l⟩
theorem aMm(w:E9)(s1:E3)(x:Str):xU w (aHc s1) [.str x] (.bool Nd):=λA Z h g n k os v p o a s q r=>by
 obtain⟨j,rfl,e,i⟩:=q;obtain⟨u,rfl,d⟩:=r.one;obtain⟨t,rfl⟩:=d.inv;exact aA5 (a h s) (i.up s) (e.up s) λb=>⟨h,g,b,rfl,aM.refl _,.bool _⟩
noncomputable abbrev atS(a:List Str)(i:Int):Str:=a.getD i.toNat D6
theorem nQ(h0:0<=i)(h1:i<a.length):a[i.toNat]?=Na (atS a i):=by
 have:i.toNat<a.length:=(l11<|.i bE<|.i (.s .a aF)<|.S bK .a) h0 h1;rw[atS,D7,B1 this];rfl
theorem jY(h0:0<=i)(h1:i<a.length)(hz:a.length<=1000000):aO (.lst<|a.map .str) i<|.str<|atS a i:=by
 refine .lst (j:=i.toNat) ((l10<|.i bE<|.l (.g gJ) .a) h0) ((l11<|.i (.s .a aF)<|.i mT<|.s .a gJ) h1 hz) ?_ ?_
 .rw[pD h0 (by rw[A1];exact h1)]
 .rw[B3,nQ h0 h1];rfl
theorem vK(h0:0<=i)(h1:i<a.length)(h2:0<=j)(h3:j<b.length):(atS a i==atS b j)=Nf (a[i.toNat]?=b[j.toNat]?):=by
 rw[nQ h0 h1,nQ h2 h3];by_cases h:atS a i=atS b j
 .rw[beq_iff_eq.mpr h];exact(decide_eq_true<|congrArg Na h).symm
 .rw[beq_eq_false_iff_ne.mpr h];exact(decide_eq_false λe=>h<|H8 e).symm
structure FB(a b:List Str)(aa aq ac af:Int):Prop where
 b1:0<=aa
 b3:aq<=a.length
 b4:0<=ac
 b6:af<=b.length
 z1:a.length<=1000000
 z2:b.length<=1000000
def goL(a b:List Str)(aa ac:Int)(x:Bool)(t:T3):Bool:=Nf (t.1>aa)&&(Nf (t.2.1>ac)&&(x&&(atS a (t.1-1)==atS b (t.2.1-1))))
def goR(a b:List Str)(aq af:Int)(x:Bool)(t:T3):Bool:=Nf (t.1+t.2.2<aq)&&(Nf (t.2.1+t.2.2<af)&&(x&&(atS a (t.1+t.2.2)==atS b (t.2.1+t.2.2))))
theorem aHj(W:FB a b aa aq ac af){t:T3}(bb:BB aa aq ac af t)(h:goL a b aa ac Nc t=Nc):t.1>aa/\t.2.1>ac/\a[(t.1-1).toNat]?=b[(t.2.1-1).toNat]?:=by
 obtain⟨d,h⟩:=aCg h;obtain⟨e,g⟩:=aCg h;have d:=of_decide_eq_true d;have e:=of_decide_eq_true e;obtain⟨j,n,o,p,x,y⟩:=W;obtain⟨i,u,q,w,r⟩:=bb;rw[vK (aCc d j) (aCf n i q) (aCc e o)<|aCf p i r] at g;exact⟨d,e,of_decide_eq_true g⟩
theorem aHi(W:FB a b aa aq ac af){t:T3}(bb:BB aa aq ac af t)(h:goL a b aa ac Nc t=Nd):¬(t.1>aa/\t.2.1>ac/\a[(t.1-1).toNat]?=b[(t.2.1-1).toNat]?):=by
 rintro⟨h1,h2,h3⟩;obtain⟨e,g,i,j,r,u⟩:=W;obtain⟨d,p,n,q,o⟩:=bb;rw[goL,decide_eq_true h1,decide_eq_true h2,vK (aCc h1 e) (aCf g d n) (aCc h2 i)<|aCf j d o,decide_eq_true h3] at h;cases h
theorem aHh(W:FB a b aa aq ac af){t:T3}(bb:BB aa aq ac af t)(h:goR a b aq af Nc t=Nc):t.1+t.2.2<aq/\t.2.1+t.2.2<af/\a[(t.1+t.2.2).toNat]?=b[(t.2.1+t.2.2).toNat]?:=by
 obtain⟨d,h⟩:=aCg h;obtain⟨e,g⟩:=aCg h;have d:=of_decide_eq_true d;have e:=of_decide_eq_true e;obtain⟨j,n,o,p,x,y⟩:=W;obtain⟨i,q,u,r,w⟩:=bb;rw[vK (ar7 j i q) (aCb d n) (ar7 o i r)<|aCb e p] at g;exact⟨d,e,of_decide_eq_true g⟩
theorem aHg(W:FB a b aa aq ac af){t:T3}(bb:BB aa aq ac af t)(h:goR a b aq af Nc t=Nd):¬(t.1+t.2.2<aq/\t.2.1+t.2.2<af/\a[(t.1+t.2.2).toNat]?=b[(t.2.1+t.2.2).toNat]?):=by
 rintro⟨h1,h2,h3⟩;obtain⟨e,g,i,j,r,u⟩:=W;obtain⟨d,n,p,o,q⟩:=bb;rw[goR,decide_eq_true h1,decide_eq_true h2,vK (ar7 e d n) (aCb h1 g) (ar7 i d o)<|aCb h2 j,decide_eq_true h3] at h;cases h
theorem aJ1{y:Bool}{z:Bool}(h:(b'&&(y&&(Nd&&z)))=Nc):False:=by
 obtain⟨_,h⟩:=aCg h;obtain⟨_,h⟩:=aCg h;cases h
theorem aMz{t:T3}(bb:BB aa aq ac af t)(h1:t.1>aa)(h2:t.2.1>ac):BB aa aq ac af (t.1-1,t.2.1-1,t.2.2+1):=by
 obtain⟨a,e,b,g,d⟩:=bb;exact⟨by simp only;exact ar4 a,by simp only;exact aIj h1,by simp only;exact aIi b,by simp only;exact aIj h2,by simp only;exact aIi d⟩
theorem aMy{t:T3}(bb:BB aa aq ac af t)(h1:t.1+t.2.2<aq)(h2:t.2.1+t.2.2<af):BB aa aq ac af (t.1,t.2.1,t.2.2+1):=by
 obtain⟨a,b,e,d,g⟩:=bb;exact⟨by simp only;exact ar4 a,b,by simp only;exact aIh h1,d,by simp only;exact aIh h2⟩
section
set_option maxHeartbeats 0 in
end
theorem iL(h:i.natAbs<4294967296):i.natAbs.log2<1920:=by
 obtain e|e:=Nat.eq_zero_or_pos i.natAbs
 .rw[e];decide
 .have:i.natAbs.log2<32:=(Nat.log2_lt<|by exact(l10<|.i (.S aE<|.z .a)<|.n<|.Q (.z .a) aE) e).mpr h;exact(l01<|.i (.S .a<|.k 32)<|.S .a<|.k 1920) this
theorem cU(x y:Str):(x++y).length=x.length+y.length:=strLen_append x y
theorem mC(h:i.natAbs<4294967296):(S9<|H3 i).length<=1921:=int_text_len_1921<|iL h
noncomputable def aZ(start size:Int):Str:=if size=1 then S9 (H3<|start+1) else S9 (H3 (if size=0 then start else start+1))++S9 ","++S9 (H3 size)
theorem iK(h0:0<=start)(h1:start<1000000)(h2:0<=size)(h3:size<1000000):(aZ start size).length<=4000:=by
 unfold aZ;have a1:=mC (i:=start+1) (by exact aQE h0 h1);have g:=mC (i:=start) (by exact aIg h0 h1);have d:=mC (i:=size) (by exact aIg h2 h3);have e:(S9 ",").length=1:=by decide
 split
 .exact(l01<|.i (.L .a<|.k 1921)<|.L .a iU) a1
 .rw[cU,cU];split
  .exact(l03<|.i (.L .a<|.k 1921)<|.i (.L .c<|.k 1921)<|.i (.Q .b aC)<|.L jP iU) g d e
  .exact(l03<|.i (.L .a<|.k 1921)<|.i (.L .c<|.k 1921)<|.i (.Q .b aC)<|.L jP iU) a1 d e
abbrev aH:=List<|Str×Str
variable{rs a9:aH}
structure DS where
 told:List Str
 hunk:aH
 old:Int
 new:Int
noncomputable def bI(h:aH):Nat:=(h.filter λr=>r.1 != S9 "+").length
noncomputable def bT(h:aH):Nat:=(h.filter λr=>r.1 != S9 "-").length
def cE(old aQ new news:Int):Str:=S9 "@@ -"++aZ old aQ++S9 " +"++aZ new news++S9 " @@"
def jX(s:DS):DS:=
 ⟨if s.hunk.isEmpty then s.told else s.told++[cE s.old (bI s.hunk) s.new<|bT s.hunk]++s.hunk.map (λr=>r.1++r.2),[],s.old+bI s.hunk+1,s.new+bT s.hunk+1⟩
noncomputable abbrev mtT(t:Int×Int×Int):Dt:=.mt t.1 t.2.1 t.2.2
noncomputable abbrev tpT(t:Int×Int×Int):Dt:=.tup [.int t.1,.int t.2.1,.int t.2.2]
theorem vN(gz:GZ w Z)(s:Sub Z h)(n:Z I=Nb):(K w.params).lookup I=none:=by
 cases q:(K w.params).lookup I with
 | none=>rfl
 | some o=>
  have e:=(gz h s).k _ _ q;have sb:P5 I h<|h.update I λo=>{o with slots:=o.slots.push Nb}:=G8 ..;have j:Sub Z<|h.update I λo=>{o with slots:=o.slots.push Nb}:=λb i a=>by
   have g:b≠I:=by rintro rfl;rw[n] at a;cases a
   exact(sb.2 b g).trans<|s b i a
  have d:=(gz _ j).k _ _ q;have p:({o with slots:=o.slots.push Nb}:Obj).isFreed=false:=(kts_isFreed o _).trans (O7.get?_some_iff.mp e).2;rw[J3 (λo=>{o with slots:=o.slots.push Nb}) e p] at d;have:=congrArg (λo:Option Obj=>(o.map λo=>o.slots.size)) d;simp at this
theorem Rp.mtAt(r:Rp Z (.tup [.int i,.int j,.int lo]) ao):Ex4 λa ti tj tc=>ao=.ref a/\AtZ Z a (gI [.int i ti,.int j tj,.int lo tc]):=by
 obtain⟨_,_,rfl,at_,h⟩:=r.inv;obtain⟨_,_,rfl,d,b⟩:=h.inv;obtain⟨_,_,rfl,e,g⟩:=b.two;obtain⟨_,rfl⟩:=d.inv;obtain⟨_,rfl⟩:=e.inv;obtain⟨_,rfl⟩:=g.inv;exact⟨_,_,_,_,rfl,at_⟩
theorem At.getEq{o:Obj}(x:At h I<|eqD o):h.get? I=Na o:=by
 obtain⟨a,e,q⟩:=x;rw[show a=o from q] at e;exact e
noncomputable abbrev q4T(q:Q4):Dt:=.tup [.int q.1,.int q.2.1,.int q.2.2.1,.int q.2.2.2]
noncomputable def dX(s:T3×List T3)(t:T3):T3×List T3:=
 if s.1.1+s.1.2.2=t.1/\s.1.2.1+s.1.2.2=t.2.1 then ((s.1.1,s.1.2.1,s.1.2.2+t.2.2),s.2)
 else (t,if s.1.2.2=0 then s.2 else s.2++[s.1])
noncomputable def kX(la lb:Int)(s:T3×List T3):List T3:=(if s.1.2.2=0 then s.2 else s.2++[s.1])++[(la,lb,0)]
def bW(la lb:Int)(ts:List T3):List T3:=kX la lb<|ts.foldl dX ((0,0,0),[])
theorem zA(s:T3×List T3)(t:T3):(dX s t).2.length<=s.2.length+1:=by
 unfold dX;split
 .simp
 .split <;> simp
theorem aDw:∀(ts:List T3)(s:T3×List T3),(ts.foldl dX s).2.length<=s.2.length+ts.length
 :=by
 intro ts;induction ts with
 | nil=>
  rintro s;simp
 | cons t ts a=>
  rintro s;have:=a<|dX s t;have:=zA s t;simp only[D1];exact aT4 (by assumption) this
theorem aLu:∀st:List Q4,st.length<=qm st:=by
 intro st;induction st with
 | nil=>
  exact C4 _
 | cons q st a=>
  have:=a;exact(l22<|.i fF<|.L aR<|.p (.p (.u 2 cV) aC) .b) this
abbrev aJa:I8:=fd (fG 5 7) (S9 "SequenceMatcher.get_matching_blocks") .none (Na 517) (.str (S9 "cpy313.difflib") 194) (.ref 202) Nb
abbrev NS:=Int×Int×Int×List Dt
noncomputable def kW(s:NS):List Dt:=if (s.2.2.1 != 0)=Nc then s.2.2.2++[.tup [.int s.1,.int s.2.1,.int s.2.2.1]] else s.2.2.2
noncomputable def naC(s:NS)(t:T3):Bool:=s.1+s.2.2.1==t.1&&s.2.1+s.2.2.1==t.2.1
def naF(s:NS)(t:T3):NS:=(if naC s t then s.1 else t.1,if naC s t then s.2.1 else t.2.1,if naC s t then s.2.2.1+t.2.2 else t.2.2,if naC s t then s.2.2.2 else kW s)
def naE(s:T3×List T3):NS:=(s.1.1,s.1.2.1,s.1.2.2,s.2.map tpT)
theorem wM(s:T3×List T3):kW (naE s)=(if s.1.2.2=0 then s.2 else s.2++[s.1]).map tpT:=by
 unfold kW naE;by_cases h:s.1.2.2=0
 .rw[if_neg<|by simp[h],if_pos h]
 .rw[if_pos<|by simp[h],if_neg h,B4];rfl
theorem aM3(s:T3×List T3)(t:T3):naF (naE s) t=naE (dX s t):=by
 unfold naF dX;rw[wM];by_cases h:s.1.1+s.1.2.2=t.1/\s.1.2.1+s.1.2.2=t.2.1
 .have:naC (naE s) t=true:=by simp[naC,naE,h]
  simp only[this,if_true,if_pos h];rfl
 .have:naC (naE s) t=false:=by simpa[naC,naE] using h
  simp only[this,if_neg h];rfl
theorem aGP(ts:List T3)(s:T3×List T3):ts.foldl naF (naE s)=naE (ts.foldl dX s):=by
 induction ts generalizing s with
 | nil=>rfl
 | cons t ts a=>rw[M7,M7,aM3,a]
theorem wN(la lb:Int)(s:T3×List T3):kW (naE s)++[.tup [.int la,.int lb,.int 0]]=(kX la lb s).map tpT:=by
 unfold kX;rw[wM,B4];rfl
def aEb(q:Q4)(t:T3)(lq:List Dt):List Dt:=if (Nf (q.1<t.1)&&Nf (q.2.2.1<t.2.1))=Nc then lq++[q4T (q.1,t.1,q.2.2.1,t.2.1)] else lq
def aMC(q:Q4)(t:T3)(lq:List Dt):List Dt:=if (t.2.2 != 0)=Nc then (if (Nf (t.1+t.2.2<q.2.1)&&Nf (t.2.1+t.2.2<q.2.2.2))=Nc then aEb q t lq++[q4T (t.1+t.2.2,q.2.1,t.2.1+t.2.2,q.2.2.2)] else aEb q t lq) else lq
def aMB(t:T3)(lm:List Dt):List Dt:=if (t.2.2 != 0)=Nc then lm++[mtT t] else lm
theorem aJ2{p:Prop}[Decidable p]{st:List Q4}(h:b'=decide p):(if b'=Nc then (st.map q4T).reverse++[q4T q] else (st.map q4T).reverse)=((if p then q::st else st).map q4T).reverse:=by
 subst h;by_cases h:p
 .rw[if_pos<|decide_eq_true h,if_pos h,H5,AA2]
 .rw[if_neg<|by simp[h],if_neg h]
theorem aBp{p q:Prop}[Decidable p][Decidable q]:(decide p&&decide q)=Nf (p/\q):=by simp
theorem aHo{st:List Q4}:aMC q (flm a b q.1 q.2.1 q.2.2.1 q.2.2.2) (st.map q4T).reverse=((cG a b q st aw).1.map q4T).reverse:=by
 unfold cG aMC aEb;generalize flm a b q.1 q.2.1 q.2.2.1 q.2.2.2=t;rw[aJ2 aBp,aJ2 aBp];by_cases h:t.2.2=0
 .rw[if_neg<|by simp[h],if_pos h]
 .rw[if_pos<|by simp[h],if_neg h]
theorem aHn{st:List Q4}:aMB (flm a b q.1 q.2.1 q.2.2.1 q.2.2.2) (aw.map mtT)=(cG a b q st aw).2.map mtT:=by
 unfold cG aMB;generalize flm a b q.1 q.2.1 q.2.2.1 q.2.2.2=t;by_cases h:t.2.2=0
 .rw[if_neg<|by simp[h],if_pos h]
 .rw[if_pos<|by simp[h],if_neg h,B4];rfl
theorem aGQ(e:kw.lookup x=Na ao):mp kw m' x=Na ao:=by unfold mp;rw[e]
theorem kQ:OpV w 0 (op2<|E6 .IsNot) [.none,.none] (.bool Nd):=ov2 λA Z h g d k os u v e i s a b=>by
 obtain rfl:=a.inv;obtain rfl:=b.inv;exact aI1<|bZ (A:=A) s<|.bool _
abbrev Oc:=Str×Int×Int×Int×Int
variable{gr b7 gc:List Oc}{pre:List<|List Oc}
noncomputable abbrev ocT(o:Oc):Dt:=.tup [.str o.1,.int o.2.1,.int o.2.2.1,.int o.2.2.2.1,.int o.2.2.2.2]
noncomputable def gZ(i j:Int)(t:T3):Str:=if i<t.1/\j<t.2.1 then S9 "replace" else if i<t.1 then S9 "delete" else if j<t.2.1 then S9 "insert" else S9 ""
def fK(s:(Int×Int)×List Oc)(t:T3):(Int×Int)×List Oc:=
 let aw:=if (gZ s.1.1 s.1.2 t).length=0 then s.2 else s.2++[(gZ s.1.1 s.1.2 t,s.1.1,t.1,s.1.2,t.2.1)]
 ((t.1+t.2.2,t.2.1+t.2.2),if t.2.2=0 then aw else aw++[(S9 "equal",t.1,t.1+t.2.2,t.2.1,t.2.1+t.2.2)])
def hX(ts:List T3):List Oc:=(ts.foldl fK ((0,0),[])).2
theorem yU(s:(Int×Int)×List Oc)(t:T3):(fK s t).2.length<=s.2.length+2:=by
 unfold fK;split <;> split <;> simp
theorem aDk:∀(ts:List T3)(s:(Int×Int)×List Oc),(ts.foldl fK s).2.length<=s.2.length+2*ts.length
 :=by
 intro ts;induction ts with
 | nil=>
  rintro s;simp
 | cons t ts e=>
  rintro s;have:=e<|fK s t;have:=yU s t;simp only[D1];exact(l04<|.i (.L .a<|.p .d<|.u 2 .c)<|.i (.L .d pI)<|.L .a<|.p .b<|.u 2 cD) (by assumption) this
abbrev OS:=Int×Int×List Dt
noncomputable def pF(i j:Int)(t:T3):Str:=if (Nf (i<t.1)&&Nf (j<t.2.1))=Nc then S9 "replace" else if Nf (i<t.1)=Nc then S9 "delete" else if Nf (j<t.2.1)=Nc then S9 "insert" else S9 ""
def mK(s:OS)(t:T3):List Dt:=if (((pF s.1 s.2.1 t).length:Int) != 0)=Nc then s.2.2++[.tup [.str<|pF s.1 s.2.1 t,.int s.1,.int t.1,.int s.2.1,.int t.2.1]] else s.2.2
def opF(s:OS)(t:T3):OS:=(t.1+t.2.2,t.2.1+t.2.2,if (t.2.2 != 0)=Nc then mK s t++[.tup [.str<|S9 "equal",.int t.1,.int<|t.1+t.2.2,.int t.2.1,.int<|t.2.1+t.2.2]] else mK s t)
def opE(s:(Int×Int)×List Oc):OS:=(s.1.1,s.1.2,s.2.map ocT)
theorem aDm(i j:Int)(t:T3):pF i j t=gZ i j t:=by unfold pF gZ;simp
theorem aLN(s:(Int×Int)×List Oc)(t:T3):opF (opE s) t=opE (fK s t):=by
 have e:mK (opE s) t=(if (gZ s.1.1 s.1.2 t).length=0 then s.2 else s.2++[(gZ s.1.1 s.1.2 t,s.1.1,t.1,s.1.2,t.2.1)]).map ocT:=by
  unfold mK opE;simp only[aDm];by_cases h:(gZ s.1.1 s.1.2 t).length=0
  .rw[if_neg<|by simp[h],if_pos h]
  .rw[if_pos<|by simp[h],if_neg h,B4];rfl
 unfold opF fK;rw[e];by_cases h:t.2.2=0
 .rw[if_neg<|by simp[h]];simp only[if_pos h];rfl
 .rw[if_pos<|by simp[h]];simp only[if_neg h];unfold opE;rw[B4];rfl
theorem aGG(ts:List T3)(s:(Int×Int)×List Oc):ts.foldl opF (opE s)=opE (ts.foldl fK s):=by
 induction ts generalizing s with
 | nil=>rfl
 | cons t ts a=>rw[M7,M7,aLN,a]
theorem aBE(i j:Int)(t:T3):(pF i j t).length<=100:=by
 unfold pF;split
 .decide
 .split
  .decide
  .split <;> decide
theorem sW(s:OS)(t:T3):(mK s t).length<=s.2.2.length+1:=by
 unfold mK;split <;> simp
abbrev aPJ:I8:=fd (fG 5 8) (S9 "SequenceMatcher.get_opcodes") .none (Na 532) (.str (S9 "cpy313.difflib") 194) (.ref 209) Nb
theorem aMd:J7 (.type "object") (S9 "get_matching_blocks")=pure none:=by kernel_rfl
theorem tC(la lb:Int)(ts:List T3):(bW la lb ts).length<=ts.length+2:=by
 have:=aDw ts ((0,0,0),[]);unfold bW kX;simp only[A5,D1] at this ⊢;split
 .exact(l02<|.i (.L .a<|.p aE .b)<|.L (.p .a gP) pI) this
 .simp only[A5,D1];exact(l02<|.i (.L .a<|.p aE .b)<|.L (.p (.p .a gP) gP) pI) this
structure pY(Gh:Type) where
 ret:Nat->Gh->Result->A6->Prop
 yld:Nat->Gh->A3->A6->(Gh->A6->Prop)->Prop
def aIp{Gh:Type}(D:pY Gh)(n:Nat)(next:Nat->Gh->Code->Sem Fin->List Frame->A6->Prop)(γ:Gh)(s':A6):End->Prop
 | .ret r=>D.ret n γ r s'
 | .susp v g l k c p fs=>(End.susp v g l k c p fs).quiet=Nc/\∃m,n=m+1/\D.yld m γ v s' λa b=>next m a c (k<|.send .none) fs b
def Sg(M:Model)(A:M2){Gh:Type}(D:pY Gh):Nat->Gh->Code->Sem Fin->List Frame->A6->Prop
 | 0,γ,c,t,fs,s=>∀Γ p,Γ.code=c->Γ.Woken A->∃e s',Runs M Γ p t fs s e s'/\aIp D 0 (λO O O O O O=>False) γ s' e
 | n+1,γ,c,t,fs,s=>∀Γ p,Γ.code=c->Γ.Woken A->∃e s',Runs M Γ p t fs s e s'/\aIp D (n+1) (λO b a h g d=>Sg M A D n b a h g d) γ s' e
theorem fI{M:Model}{Gh:Type}{D:pY Gh}{γ:Gh}{c:Code}{t:Sem Fin}{s:A6}:
  Sg M A D n γ c t fs s↔∀Γ p,Γ.code=c->Γ.Woken A->∃e s',Runs M Γ p t fs s e s'/\aIp D n (λm de c' t' jn fu=>Sg M A D m de c' t' jn fu) γ s' e:=by
 cases n with
 | zero=>
  refine⟨λh Γ p a b=>?_,λh Γ p a b=>?_⟩ <;> obtain⟨e,s',r,o⟩:=h Γ p a b <;> refine⟨e,s',r,?_⟩ <;> cases e with
  | ret r=>exact o
  | susp=>obtain⟨_,m,d,_⟩:=o;cases d
 | succ n=>
  refine⟨λh Γ p a b=>?_,λh Γ p a b=>?_⟩ <;> obtain⟨e,s',r,o⟩:=h Γ p a b <;> refine⟨e,s',r,?_⟩ <;> cases e with
  | ret r=>exact o
  | susp=>obtain⟨q,m,d,y⟩:=o;cases d;exact⟨q,n,rfl,y⟩
section
variable{M:Model}{D:pY Gh}{γ:Gh}{c:Code}{s:A6}
theorem dD{α:Type}{m:Sem α}{K:α->Sem Fin}{H:A3->Sem Fin}{gd lv}
  (h:M8 M (A.over c fs) m (λa s'=>Sg M A D n γ c (K a) fs s') (λx s'=>Sg M A D n γ c (H x) fs s') s):Sg M A D n γ c (m.wrap K H gd lv) fs s:=by
 rw[fI];rintro e p rfl b;exact runs_wrap_of_wp K H gd lv m (h (e.over fs) p<|b.over fs) (λa d s' q=>fI.mp q e d rfl b)<|λx d s' q=>fI.mp q e d rfl b
theorem aGc{h g l}{k:Result->Sem Fin}(q:∀p,Sg M A D n γ c' (M.den c') (.ret k h g l c p []::fs) s):Sg M A D n γ c (.call c' h g l k) fs s:=by
 rw[fI];rintro d p rfl a;obtain⟨e,b,r,o⟩:=fI.mp (q p) (d.goto c') p rfl<|a.goto c';exact⟨e,b,runs_call_seg r,o⟩
theorem aGa{k h g l f7 gy kp}(r:Result)(q:Sg M A D n γ f7 (k r) fs s):Sg M A D n γ c (leafOf r) (.ret k h g l f7 gy kp::fs) s:=by
 rw[fI];rintro d p rfl a;obtain⟨e,b,x,o⟩:=fI.mp q (d.goto f7) gy rfl<|a.goto f7;exact⟨e,b,Runs.pop r x,o⟩
theorem mF(hq:c'.quiet=Nc)(q:Sg M A D n γ c' (M.den c') fs s):Sg M A D n γ c (.pure<|.again c') fs s:=by
 rw[fI];rintro d p rfl a;obtain⟨e,b,r,o⟩:=fI.mp q (d.goto c') p rfl<|a.goto c';exact⟨e,b,Runs.head (λO O x=>.again hq x) r,o⟩
theorem aL2(r:Result)(q:D.ret n γ r s):Sg M A D n γ c (leafOf r) [] s:=by
 rw[fI];rintro a p rfl _;exact⟨.ret r,s,Runs.leaf r,q⟩
theorem aCL{v g l}{k:Resume->Sem Fin}(ud:splitAtGen fs=Nb)(hg:g=Nd)(ue:fs.any Frame.guarded=Nd)
  (q:D.yld n γ v s λde fu=>Sg M A D n de c (k<|.send .none) fs fu):Sg M A D (n+1) γ c (.yield v g l k) fs s:=by
 rintro a p rfl _;exact⟨_,s,Runs.yield' fs ud,by simp[End.quiet,hg,ue],n,rfl,q⟩
end
def xS(M:Model)(A:M2){Gh:Type}(D:pY Gh)(n:Nat)(γ:Gh)(gs:H9)(s:A6):Prop:=
 match gs with
 | .fresh c=>Sg M A D n γ c (M.den c) [] s
 | .suspended k _ c _ fs _=>Sg M A D n γ c (k<|.send .none) fs s
 | _=>False
theorem aEe{M:Model}{Gh:Type}{D:pY Gh}{γ:Gh}{s:A6}{gs:H9}{α:Type}{k:GenResult->Sem α}{Q:α->A6->Prop}(hg:s.gens[B]?=Na gs)
  (go:xS M A D n γ gs<|s.setGen B .running) (hR:∀x aj,D.ret n γ x aj->M8 M A (k (End.ret x).result) Q E (aj.setGen B .finished))
  (hY:∀v aj dk m,dk.bare=Nc->n=m+1->D.yld m γ v aj (λde fu=>xS M A D m de dk fu)->M8 M A (k<|.yielded v) Q E (aj.setGen B dk)):M8 M A (.resume B (.send .none) vs k) Q E s:=by
 intro u p C;have w:∀b aj,aIp D n (λm de N T S fu=>Sg M A D m de N T S fu) γ aj b->b.quiet=Nc/\Sem.wp M u (k b.result) (λa O I=>Q a I) (λe O I=>E e I) p (aj.setGen B b.genState):=by
  intro b aj o;cases b with
  | ret x=>exact⟨rfl,hR x aj o u p C⟩
  | susp v q j i d h g=>
   obtain⟨J,m,R,y⟩:=o;exact⟨J,hY v aj (End.susp v q j i d h g).genState m (End.bare_of_quiet J) R y u p C⟩
 cases gs with
 | fresh c=>
  obtain⟨b,aj,r,o⟩:=fI.mp go (u.wake c p) p rfl<|C.wake c p;exact⟨_,_,by unfold Wakes;rw[hg];exact⟨b,aj,r,(w b aj o).1,rfl,rfl⟩,(w b aj o).2⟩
 | suspended i j d h g U=>
  obtain⟨b,aj,r,o⟩:=fI.mp go (u.wake d p) h rfl<|C.wake d p;exact⟨_,_,by unfold Wakes;rw[hg];exact⟨b,aj,r,(w b aj o).1,rfl,rfl⟩,(w b aj o).2⟩
 | running=>exact go.elim
 | finished=>exact go.elim
theorem aMF{s:A6}{Gh:Type}{D:pY Gh}{γ:Gh}{gs:H9}{Q:Option A3->A6->Prop}(hh:A.handled=Nb)
  (hl:s.heap.NoLimit) (d4:A.depth<W4) (hg:s.heap.IsGen I B) (qp:s.gens[B]?=Na gs) (go:xS (model P w) A.in1 D n γ gs<|s.setGen B .running)
  (hY:∀v aj dk m,dk.bare=Nc->n=m+1->D.yld m γ v aj (λde fu=>xS (model P w) A.in1 D m de dk fu)->Q (Na v) (aj.setGen B dk))
  (hR:∀x aj,D.ret n γ x aj->x=.ok (.ret .none)/\∀h',aM aj.heap h'->Q Nb {aj.setGen B .finished with heap:=h'}):WP w A (W5<|.ref I) Q E s:=by
 refine⟨?_⟩;refine A0<|wpAny_attempt<|K3 hg.typeIs slot_gen_next<|L4 slot_gen_next hg.typeIs entry_gen_next ?_<|args_gen_next _;show M8 _ _ (K7.Generator.genWake (.ref I)<|.send .none) _ _ s;refine A0<|G9<|wpAny_genNumber hg<|A0<|wpAny_genState qp ?_;cases gs with
 | running=>exact go.elim
 | finished=>exact go.elim
 | _=>
  refine A0<|wpAny_roomToWake hl d4 ?_;refine aEe qp go (λx aj g=>?_) (λv aj dk m a d e=>?_)
  .obtain⟨rfl,q⟩:=hR x aj g;show M8 _ _ (newExc (.type "StopIteration") [] >>= _) _ _ _;refine A0 ?_;refine A0 (V6 ?_<|by size_fits);refine A0 (P0 (by first | rfl | (simp only[firstArgMember];rfl)) ?_);refine V6 ?_ (by size_fits)
   delta raiseNew
   refine A0<|A0<|wpAny_handled ?_;rw[show A.in1.handled=Nb from hh];refine wpAny_throw ?_;refine A0<|wpAny_isInstance ⟨_,C7 _ rfl,rfl⟩ isSubtype_stop ?_;exact A7 (q _ λb o a=>I7 _<|I7 _ a)
  .exact A7 ⟨v,rfl,A7<|hY v aj dk m a d e⟩
abbrev GG:=List<|Nat×H9
variable{G':GG}
structure GhV where
 Z:HP
 R:TT
 G:GG
structure SX(Z:HP)(X:TT)(h:O7):Prop where
 sub:Sub Z h
 at_:∀p∈X,At h p.1 p.2
 new:∀p∈X,Z p.1=Nb
 nd:(X.map (·.1)).Nodup
structure GX(g:Array H9)(G:GG):Prop where
 at_:∀p∈G,g[p.1]?=Na p.2
 nd:(G.map (·.1)).Nodup
 b:AA7 g
theorem SX.perm(x:SX Z T h)(p:T.Perm X'):SX Z X' h:=
 ⟨x.sub,λq a=>x.at_ q<|p.mem_iff.mpr a,λq a=>x.new q<|p.mem_iff.mpr a,(p.map (·.1)).nodup_iff.mp x.nd⟩
theorem GX.perm{G:GG}(x:GX g G)(p:G.Perm G'):GX g G':=⟨λq a=>x.at_ q<|p.mem_iff.mpr a,(p.map (·.1)).nodup_iff.mp x.nd,x.b⟩
noncomputable def aEG(outs:List Dt)(d:D8)(os:U1):pY GhV where
 ret n γ r s':=n=0/\r=.ok (.ret .none)/\Ex3 λb a g=>s'=⟨b,a,d,g,os⟩/\SX γ.Z γ.R b/\GX a γ.G
 yld m γ v s' kap:=Ex7 λb a g e X G dt=>outs[outs.length-(m+1)]?=Na dt/\s'=⟨b,a,d,g,os⟩/\HP.le γ.Z e/\Rp e dt v/\SX e (X++γ.R) b/\GX a (G++γ.G) /\
  ∀de d6 m7 ng,HP.le e de.Z->SX de.Z (X++de.R) d6->GX m7 (G++de.G)->kap de ⟨d6,m7,d,ng,os⟩
def sD(w:E9)(outs:List Dt)(e d:D8)(os:U1)(A:M2)(n:Nat)(Z:HP)(X:TT)(G:GG)(gs:H9):Prop:=
 ∀γ h g k,HP.le Z γ.Z->SX γ.Z (X++γ.R) h->GX g (G++γ.G)->xS (model P w) A (aEG outs d os) n γ gs ⟨h,g,e,k,os⟩
abbrev aKz(w:E9)(outs:List Dt)(d:D8)(os:U1)(A:M2)(n:Nat)(Z:HP)(X:TT)(G:GG)(gs:H9):Prop:=sD w outs d d os A n Z X G gs
theorem aBZ{K:U4->Sem Fin}{H:A3->Sem Fin}{lv:List A3->List A3}(rest:List F9):∀pre:List F9,(execs (pre++rest) env).wrap K H gd lv=(execs pre env).wrap (λf=>match f with | .next=>(execs rest env).wrap K H gd lv | f=>K f) H gd lv:=by
 intro pre;induction pre with
 | nil=>
  exact rfl
 | cons st pre a=>
  rw[L8,execs_cons_wrap,execs_cons_wrap,a]
  congr 1
  funext f
  cases f <;> rfl
theorem aAo{M:Model}{Gh:Type}{D:pY Gh}{γ:Gh}{s:A6}{k:Unit->Sem Fin}(h:Sg M A D n γ c' (k ()) fs s):Sg M A D n γ c' (.at pp k) fs s:=
 dD (m:=standAt pp) (K:=k) (H:=.raise) (gd:=id) (lv:=id) (P8 h)
section
variable{D:pY Gh}{γ:Gh}{s:A6}
noncomputable abbrev aAU(c':Code):U4->Sem PySem.Fin:=λf=>match f with
 | .next | .cont=>.pure<|.again c'
 | .brk=>.pure<|.done .next
 | .ret v=>.pure<|.done<|.ret v
noncomputable abbrev aIM(env:Env):A3->Sem PySem.Fin:=λe=>(do noteFrame e env;theTreesLotGoes e:Sem Unit).wrap (λO=>.raise e) .raise id id
theorem iI{it:A3}
  (q:M8 (model P w) (A.over (.forLoop target it body [] env) fs) (W5 it) (λr s1=>match r with
   | none=>Sg (model P w) A D n γ (.forLoop target it body [] env) (.pure<|.again<|.block [] env) fs s1
   | some v=>M8 (model P w) (A.over (.forLoop target it body [] env) fs) (M0 target it v) (λO s2=>M8 (model P w) (A.over (.forLoop target it body [] env) fs) (assign target env v) (λO s3=>
     Sg (model P w) A D n γ (.forLoop target it body [] env) ((execs body env).wrap (aAU<|.forLoop target it body [] env) (aIM env) id id) fs s3) FF s2) FF s1) FF s) :
  Sg (model P w) A D n γ (.forLoop target it body [] env) ((model P w).den<|.forLoop target it body [] env) fs s:=by
 show Sg _ A D n γ _ ((forTurn target it body [] env).onRaise (λx=>do noteFrame x env;theTreesLotGoes x)) fs s;unfold forTurn;rw[Sem.onRaise_eq_wrap,L2,M9];refine dD<|P8 ?_;rw[L2,M9,Sem.onRaise_eq_wrap,M9];refine dD<|B7 q (λr s1 y=>?_) λO O e=>e.elim;cases r with
 | none=>exact y
 | some v=>
  show Sg _ A D n γ _ (Sem.wrap _ _ _ _<|M0 target it v >>= _) fs s1;rw[L2,M9];refine dD<|B7 y (λO s2 a=>?_) λO O e=>e.elim;rw[L2,M9];refine dD<|B7 a (λO s3 b=>?_) λO O e=>e.elim;rw[L2,M9];rw[Sem.wrap_congr (execs body env) _ _ (K':=aAU<|.forLoop target it body [] env) (λf=>by cases f <;> rfl)
   (λe=>by first | exact Sem.bind_eq_wrap _ _ | (show(do noteFrame e env;theTreesLotGoes e:Sem Unit).bind (λO=>.raise e)=_;rw[Sem.bind_eq_wrap]))]
  exact b
theorem vY{k h g l f7 gy kp}(q:Sg (model P w) A D n γ f7 (k<|.ok .next) fs s):Sg (model P w) A D n γ (.block [] env) ((model P w).den<|.block [] env) (.ret k h g l f7 gy kp::fs) s:=
 aGa (.ok .next) q
noncomputable abbrev frK(K:U4->Sem PySem.Fin)(H:A3->Sem PySem.Fin)(gd:Bool->Bool)(lv:List A3->List A3)(env:Env)(c:Code)(p:Pos):Frame:=
 .ret (λr=>((match r with | .ok f=>(.pure f:Sem U4) | .error e=>.raise e).onRaise fun(x:A3)=>do
    if (← field x 1)==V3 then unsupported "frame.own-activation:exception-without-traceback"
    setFlight x env.frame).wrap K H gd lv) Nb (gd Nd) (lv []) c p []
theorem aCM{K:U4->Sem PySem.Fin}{H:A3->Sem PySem.Fin}{gd lv}{c:Code}(hs:∀x,K0 ah env x=pure x)
  (q:M8 (model P w) (A.over c fs) (eval ah env) (λx s1=>M8 (model P w) (A.over c fs) (Y1 x) (λit s2=>∀p,Sg (model P w) A D n γ (.forLoop target it body [] env) ((model P w).den<|.forLoop target it body [] env) (frK K H gd lv env c p::fs) s2) FF s1) FF s) :
  Sg (model P w) A D n γ c ((exec (.For target ah body [] pos) env).wrap K H gd lv) fs s:=by
 refine aAo ?_;show Sg _ A D n γ c (Sem.wrap _ _ _ _<|eval ah env >>= _) fs s;rw[L2,M9];refine dD<|B7 q (λx s1 y=>?_) λO O e=>e.elim;rw[hs,L2,M9];refine dD<|A7 ?_;refine aAo ?_;show Sg _ A D n γ c (Sem.wrap _ _ _ _<|holding [x] (Y1 x) >>= _) fs s1;rw[L2,M9];refine dD<|G9<|B7 y (λit s2 a=>?_) λO O e=>e.elim;exact aGc a
theorem aGn{K:U4->Sem PySem.Fin}{H:A3->Sem PySem.Fin}{gd lv}(r:Rm (A.over c' fs) B):Rm (A.over (.forLoop target ao body orelse env)<|frK K H gd lv env c' pp::fs) B:=by
 refine⟨r.hh,?_,?_⟩
 .have:=r.dp;have e:(Code.forLoop target ao body orelse env).weight=0:=rfl;exact(l05<|.i (.S (.p (.p iV .b) .e) dA)<|.i (.Q .d aE)<|.S (.p (.p (.p .a cY) .d) .e) dA) this e
 .have:=r.un;have e:(Code.forLoop target ao body orelse env).cUnits=0:=rfl;exact(l05<|.i (.S (.p (.p iV .b)<|.u 8 .e) eP)<|.i (.Q .d aE)<|.S (.p (.p (.p .a cY) .d)<|.u 8 .e) eP) this e
theorem yH{K:U4->Sem PySem.Fin}{H:A3->Sem PySem.Fin}{gd lv}(h:splitAtGen fs=Nb):splitAtGen (frK K H gd lv env c' pp::fs)=none:=by
 show(splitAtGen fs).map _=Nb;rw[h];rfl
theorem zM{K:U4->Sem PySem.Fin}{H:A3->Sem PySem.Fin}{gd lv}(hg:gd Nd=Nd)(h:fs.any Frame.guarded=Nd):(frK K H gd lv env c' pp::fs).any Frame.guarded=false:=by
 simp only[List.any_cons,Frame.guarded,hg,h,Bool.or_self]
end
def aHu(i:Nat):OD:=λo=>Ex2 λa b=>dH (o.cls=.type "generator") (o.data=.fields #[.int i 0,a,b])<|o.slots=#[]
theorem At.isGen(x:At h I<|aHu B):h.IsGen I B:=by
 obtain⟨o,e,b,d,c,a,s⟩:=x;exact⟨o,b,d,e,c,a,s⟩
section
variable{k:Nat}
theorem aIv{f:I8}{l:List<|Str×A3}(G:Gr w h)
  (ho:(K w.params).lookup I=Na ⟨.type "function",Nb,.func f,#[]⟩) (j6:codeIn (K w.params) f.code f.qualname=Nc) (d4:A.depth<W4)
  (bf:f.body=.stmts body) (bg:BindsTo ⟨h,g,d,k,os⟩ f ⟨az,kw⟩ bx) (hl:bx.reverse=l) (hcell:(f.scope.names.all λx=>x.2 != .cell)=Nc)
  (ig:((bx.map (·.1)).all λx=>f.scope.names.lookup x==Na .local)=Nc) (fp:f.scope.isCoroutine=Nd) (g8:f.scope.isGenerator=Nc) (hk:f.scope.kind=.function)
  (q:∀L ag h' k' oL,h.get? L=Nb->h.get? ag=Nb->ag≠L->aM h h'->h'.get? L=Na oL->h'.Ns L (mp l λO=>Nb)->At h' ag (aHu g.size)->Q (.ref ag) ⟨h',g.push<|.fresh<|.func body<|AA1 f L I,d,k',os⟩) :
  WP w A (PySem.call (.ref I) az kw) Q E ⟨h,g,d,k,os⟩:=by
 refine⟨wpAny_call<|codeAny_call_generator d4 (G.k _ _ ho) rfl fp g8 bf (codeRec_of G.k j6)<|bg _ _ _ _ ?_⟩;refine wpAny_newFunctionEnv (λx i=>by simpa using J6.mp hcell x i) (λx i=>by
  have:=J6.mp ig x.1<|C9 i;simpa using this) (λa u sb=>⟨G.nolimit.fresh _ sb,?_⟩) hk
 have n:a.Ns h.objs.size<|mp l λO=>Nb:=by
  rw[← aIW,← hl];exact u
 have r:aM h a:=λb o e=>sb.extBut b o (W6<|L6 e)<|I7 _ e;obtain⟨oL,_,_,j,_⟩:=id n;have hlt:=L6 j;have p:h.get? a.objs.size=none:=by
  cases z:h.get? a.objs.size with
  | none=>rfl
  | some o=>exact absurd (L6 z)<|Nat.not_lt.mpr<|I2 hlt
 refine q h.objs.size a.objs.size _ _ oL (aG _) p (Nat.ne_of_gt hlt) (r.trans<|aJ _ _) (I7 _ j) (n.push _) ⟨_,C7 _ rfl,_,_,rfl,rfl,rfl⟩
end
theorem Ns.of_get(x:h.Ns I m')(e:h.get? I=Na oL)(e':h'.get? I=Na oL):h'.Ns I m':=by
 obtain⟨g,d,b,a,r⟩:=x;rw[e] at a;cases a
 exact⟨oL,d,b,e',r⟩
theorem aGb{Gh:Type}{D:pY Gh}{γ:Gh}{s:A6}
  (q:Sg (model P w) A D n γ (.func body env) ((execs body env).wrap (λf=>.pure<|.done<|.ret (match f with | .ret v=>v | _=>.none)) (λe=>(leaving env e).wrap (λO=>.raise e) .raise id id) id id) fs s) :
  Sg (model P w) A D n γ (.func body env) ((model P w).den<|.func body env) fs s:=by
 refine dD (H:=.raise) (gd:=id) (lv:=λO=>[])<|wpAny_point ?_;rw[Sem.onRaise_eq_wrap,L2,M9];rw[Sem.wrap_congr (execs body env) _ _ (K':=λf=>.pure<|.done<|.ret (match f with | .ret v=>v | _=>.none))
  (H':=λe=>(leaving env e).wrap (λO=>.raise e) .raise id id) (λf=>by cases f <;> rfl)
  (λe=>by rw[Sem.bind_eq_wrap,M9];rfl)]
 exact q
theorem sQ(s:A6)(i:Nat)(x:H9)(h:(s.gens[i]?).isSome):(s.setGen i x).gens[i]?=Na x:=by
 cases e:s.gens[i]? with
 | none=>rw[e] at h;cases h
 | some y=>exact setGen_self e
theorem GX.set{s:A6}{G1:GG}{x y:H9}(hy:y.bare=Nc)(q:GX s.gens<|G1++(B,x)::G'):GX (s.setGen B y).gens<|(B,y)::(G1++G'):=by
 have n:=q.nd;have j:(G1++(B,x)::G').Perm<|(B,x)::(G1++G'):=Q7;have a:=q.perm j;have d:=a.nd;rw[H5] at d;have i:=(B6.mp d).1;have g:(s.setGen B y).gens[B]?=Na y:=sQ _ _ _ (by rw[a.at_ (B,x)<|.head _];rfl);refine⟨λp hp=>?_,by rw[H5];exact d,GenOnlyQ.bare (GenOnlyQ.of (GenOnly.setGen s B y) g hy) q.b⟩;obtain rfl|hp:=A8.mp hp
 .exact sQ _ _ _ (by rw[a.at_ (B,x)<|.head _];rfl)
 .have h:p.1≠B:=λe=>i<|C1.mpr ⟨p,hp,e⟩;rw[(GenOnly.setGen s B y).2 _ h];exact a.at_ p<|.tail _ hp
theorem SX.keep(x:SX Z T h)(k:aM h h'):SX Z T h':=⟨λb o e=>k b o<|x.sub b o e,λp hp=>(x.at_ p hp).keep k,x.new,x.nd⟩
theorem GX.push{G:GG}(x:GX g G)(gs:H9)(hb:gs.bare=Nc):GX (g.push gs)<|(g.size,gs)::G:=by
 have a:∀p∈G,p.1<g.size:=λp hp=>by
  have:=x.at_ p hp;exact(Array.getElem?_eq_some_iff.mp this).1
 refine⟨λp hp=>?_,?_,x.b.push hb⟩
 .obtain rfl|hp:=A8.mp hp
  .simp
  .rw[Array.getElem?_push_lt<|a p hp];have:=x.at_ p hp;rw[Y4<|a p hp] at this;exact this
 .rw[H5];refine B6.mpr ⟨λq=>?_,x.nd⟩;obtain⟨p,hp,e⟩:=C1.mp q;have:=a p hp;rw[e] at this;exact absurd this<|Nat.lt_irrefl _
noncomputable def bO(a b:Int):Int:=if b>a then b else a
noncomputable def dN(a b:Int):Int:=if b<a then b else a
def dP(n:Int)(o:Oc):Oc:=if o.1=S9 "equal" then (o.1,bO o.2.1<|o.2.2.1-n,o.2.2.1,bO o.2.2.2.1<|o.2.2.2.2-n,o.2.2.2.2) else o
def dU(n:Int)(o:Oc):Oc:=if o.1=S9 "equal" then (o.1,o.2.1,dN o.2.2.1<|o.2.1+n,o.2.2.2.1,dN o.2.2.2.2<|o.2.2.2.1+n) else o
def tK(n:Int)(b7:List Oc):List Oc:=
 let c1:=b7.set 0 (dP n<|b7.getD 0 default)
 c1.set (c1.length-1) (dU n<|c1.getD (c1.length-1) default)
def iM(n:Int)(o:Oc):Prop:=o.1=S9 "equal"/\o.2.2.1-o.2.1>n+n
noncomputable instance(n:Int)(o:Oc):Decidable<|iM n o:=by unfold iM;infer_instance
def lE(gr:List Oc):Prop:=gr=[]\/(gr.length=1/\(gr.getD 0 default).1=S9 "equal")
noncomputable instance(gr:List Oc):Decidable<|lE gr:=by unfold lE;infer_instance
def gGo(n:Int)(x0:List Oc)(x1:List Oc):List<|List Oc:=
 List.rec (motive:=λO=>List Oc->List (List Oc)) (λa=>if lE a then [] else [a]) (λo os b a=>if iM n o then (a++[(o.1,o.2.1,dN o.2.2.1<|o.2.1+n,o.2.2.2.1,dN o.2.2.2.2<|o.2.2.2.1+n)])::(b [(o.1,bO o.2.1<|o.2.2.1-n,o.2.2.1,bO o.2.2.2.1<|o.2.2.2.2-n,o.2.2.2.2)]) else (b<|a++[o])) x0 x1
theorem tL(n:Int)(gr:List Oc):gGo n [] gr=(if lE gr then [] else [gr]):=rfl
theorem xB(n:Int){o}(os:List Oc)(gr:List Oc):gGo n (o::os) gr=(if iM n o then (gr++[(o.1,o.2.1,dN o.2.2.1<|o.2.1+n,o.2.2.2.1,dN o.2.2.2.2<|o.2.2.2.1+n)])::gGo n os [(o.1,bO o.2.1<|o.2.2.1-n,o.2.2.1,bO o.2.2.2.1<|o.2.2.2.2-n,o.2.2.2.2)] else gGo n os (gr++[o])):=rfl
noncomputable def dY(b7:List Oc):List Oc:=if b7.isEmpty then [(S9 "equal",0,1,0,1)] else b7
def eR(n:Int)(b7:List Oc):List<|List Oc:=gGo n (tK n<|dY b7) []
abbrev grT(gr:List Oc):Dt:=.lst<|gr.map ocT
theorem yS{tl:List Dt}{x:Dt}:(xs++x::tl)[(xs++x::tl).length-(tl.length+1)]?=Na x:=by
 have:(xs++x::tl).length-(tl.length+1)=xs.length:=by simp
 rw[this];simp
abbrev aJb:I8:=fd (fG 5 9) (S9 "SequenceMatcher.get_grouped_opcodes") (.ref 211) (Na 550) (.str (S9 "cpy313.difflib") 194) (.ref 217) Nb
theorem aMc:J7 (.type "object") (S9 "get_opcodes")=pure none:=by kernel_rfl
theorem qM(a b:Str):(a==b)=Nf (a=b):=by
 by_cases h:a=b
 .subst h;simp
 .simp[h]
theorem mW(f:α->Dt)(xs:List α)(dflt:α)(i:Nat)(h:i<xs.length)(hz:xs.length<=1000000):aO (.lst<|xs.map f) (i:Int)<|f<|xs.getD i dflt:=by
 refine .lst (j:=i) aT7 (aT6 h hz) ?_ ?_
 .rw[pD ar3 (by rw[A1];exact aT5 h)];rfl
 .rw[B3,D7,B1 h];rfl
theorem tF(f:α->Dt)(xs:List α)(dflt:α)(h:0<xs.length)(hz:xs.length<=1000000):aO (.lst<|xs.map f) (-1)<|f<|xs.getD (xs.length-1) dflt:=by
 refine .lst (by decide) (by decide) (j:=xs.length-1) ?_ ?_
 .rw[seqIndex_neg (by decide) (by rw[A1];exact(l01<|.i (.S aE .a)<|.l (.g aF)<|.g aC) h),A1];exact congrArg Na (Int.toNat_sub xs.length 1▸congrArg Int.toNat (AB3 _ _))
 .rw[B3,D7,B1<|Nat.sub_lt h<|AA9 _];rfl
theorem zR(oc:List Oc):0<(dY oc).length:=by
 unfold dY;cases oc <;> simp
theorem zS(oc:List Oc):(dY oc).length<=oc.length+1:=by
 unfold dY;split <;> simp
def gF0(n:Int)(gc:List Oc)(o:Oc):List Dt:=if (o.1==S9 "equal")=Nc then (gc.map ocT).set 0 (ocT (o.1,bO o.2.1<|o.2.2.1-n,o.2.2.1,bO o.2.2.2.1<|o.2.2.2.2-n,o.2.2.2.2)) else gc.map ocT
def gL0(n:Int)(gc:List Oc)(i:Nat)(o:Oc):List Dt:=if (o.1==S9 "equal")=Nc then (gc.map ocT).set i (ocT (o.1,o.2.1,dN o.2.2.1<|o.2.1+n,o.2.2.2.1,dN o.2.2.2.2<|o.2.2.2.1+n)) else gc.map ocT
theorem vZ(gc:List Oc)(i:Nat)(h:i<gc.length):gc.set i (gc.getD i default)=gc:=by
 rw[D7,B1 h];simp
theorem aPy(n:Int)(gc:List Oc)(gp:0<gc.length):gF0 n gc (gc.getD 0 default)=(gc.set 0<|dP n<|gc.getD 0 default).map ocT:=by
 unfold dP gF0;by_cases h:(gc.getD 0 default).1=S9 "equal"
 .rw[if_pos<|by simpa using h,if_pos h,List.map_set]
 .rw[if_neg<|by simpa using h,if_neg h,vZ _ _ gp]
theorem aPx(n:Int)(gc:List Oc)(i:Nat)(gp:i<gc.length):gL0 n gc i (gc.getD i default)=(gc.set i<|dU n<|gc.getD i default).map ocT:=by
 unfold dU gL0;by_cases h:(gc.getD i default).1=S9 "equal"
 .rw[if_pos<|by simpa using h,if_pos h,List.map_set]
 .rw[if_neg<|by simpa using h,if_neg h,vZ _ _ gp]
abbrev oT(n:Int)(o:Oc):Oc:=(o.1,o.2.1,dN o.2.2.1<|o.2.1+n,o.2.2.2.1,dN o.2.2.2.2<|o.2.2.2.1+n)
abbrev sJ(n:Int)(o:Oc):Oc:=(o.1,bO o.2.1<|o.2.2.1-n,o.2.2.1,bO o.2.2.2.1<|o.2.2.2.2-n,o.2.2.2.2)
theorem aEf(h:(!(gr.map ocT).isEmpty&&!((((gr.map ocT).length:Int)==1)&&((gr.getD 0 default).1==S9 "equal")))=Nc):¬lE gr:=by
 rintro(rfl | ⟨h1,h2⟩)
 .cases h
 .rw[h2,A1,h1] at h;simp at h
theorem aBW(h:(!(gr.map ocT).isEmpty&&!((((gr.map ocT).length:Int)==1)&&((gr.getD 0 default).1==S9 "equal")))=Nd):lE gr:=by
 cases gr with
 | nil=>exact .inl rfl
 | cons o os=>
  refine .inr ?_;simp at h;exact⟨by have:=h.1;show os.length+1=1;exact(l01<|.i (.q dL aC)<|.Q aR aC) h.1,h.2⟩
theorem aD2{f:I8}(r:Rm A<|n+1):Rm (A.over (.func body<|AA1 f I M) []) n:=by
 refine⟨r.hh,?_,?_⟩
 .have:=r.dp;show A.depth+0+1+n<1000;exact(l02<|.i (.S gM dA)<|.S (.p (.p (.p .a aE) aC) .b) dA) this
 .have:=r.un;show A.units+0+3+8*n<9900;exact(l02<|.i aAV<|.S (.p (.p (.p .a aE) dB)<|.u 8 .b) eP) this
theorem aMe:J7 (.type "object") (S9 "get_grouped_opcodes")=pure none:=by rw[X6,S6];kernel_rfl
def Fv(v:A3)(y:Str):Prop:=∀(p:Program)(w:E9)(A:M2)(E:A3->A6->Prop)(s:A6)(Q:A3->A6->Prop),(∀t k,Q (.str y t) {s with toks:=k})->M8 (model p w) A (PySem.Builtin.Str.formatOf v D6) Q E s
theorem iN(x:Str)(t:Tok):Fv (.str x t) x:=λO O O O s O q=>P0 (KFm.formatOf_str x t)<|q t s.toks
theorem zT(h:i.natAbs.log2<1920):Fv (.int i ti)<|S9<|H3 i:=λO O O O O O q=>KFm.formatOf_int h q
open PySem.Builtin.Str in
noncomputable def F0:Field:=⟨[],Nb,[],Nd⟩
inductive Fch(L:Nat)(a:Array A3):Nat->List Nat->Nat->Str->Nat->Str->Nat->Prop
 | nil {i N:Nat} {T:Str}:Fch L a 0 [] i T N T N
 | fld {n:Nat} {r m8 rest:List Nat} {i N N':Nat} {T T1 T' y:Str} (K:Nat) {v:A3} (hr:r.isEmpty=Nd) (hl:(m8.length==L)=Nd) (m:PySem.Builtin.Str.nextMarkup r=.ok (m8,Na F0,rest)) (e:T++⟨m8.toArray⟩=T1) (ha:a[i]?=Na v) (f:Fv v y) (hy:y.length<=K) (c:Fch L a n rest (i+1) (T1++y) (N+(⟨m8.toArray⟩:Str).length+K) T' N'):Fch L a (n+1) r i T N T' N'
theorem Fch.le{a:Array A3}{i:Nat}(c:Fch B a n tc i x N y C):N<=C:=by
 induction c with
 | nil=>exact C4 _
 | fld _ _ _ _ _ _ _ _ _ b=>exact A9 (A9 (K5 _ _)<|K5 _ _) b
theorem aLQ{b:Prop}[Decidable b](t:Tok):KPc.Obj (if b then Na (.str y t) else Nb) y:=λv e=>by
 split at e
 .exact⟨t,(H8 e).symm⟩
 .cases e
theorem aHy{β:Type}{M:Model}{s:A6}{b:β}{f:Nat->β->Sem (ForInStep β)}{Q:β->A6->Prop}(h:∀F,F=f->M8 M A (forIn tc b F) Q E s):M8 M A (forIn tc b f) Q E s:=h f rfl
theorem rP(c:Fch tc.length vs.toArray n tc 0 D6 0 y N)(hN:N<=16777216)(hn:n<=tc.length):
  Meets (PySem.Builtin.«str.format» ⟨.str ⟨tc.toArray⟩ ti::vs,[]⟩) (λO R s=>∀t' k,R (.ok<|.ret<|.str y t') {s with toks:=k}):=by
 apply KPc.meets_of;intro d w A s Q E q
 delta PySem.Builtin.«str.format»
 refine A0<|P0 rfl ?_;refine A0 ?_;refine A0 ?_;rw[KPc.range_list];refine KFm.start ?_;intro w0 M;refine aHy λF B=>?_;have J:∀{n:Nat}{r:List Nat}{i:Nat}{o:Str}{j:Nat}{y:Str}{N:Nat},Fch tc.length vs.toArray n r i o j y N->N<=16777216->∀(l:List Nat)(b:PySem.Builtin.Str.Writer)(a:PySem.Builtin.Str.Numbering)(s:A6){R:PySem.Builtin.Str.Writer×PySem.Builtin.Str.Numbering×List Nat->A6->Prop}{E:A3->A6->Prop},
   ((a=.unset/\i=0)\/a=.auto i)->KPc.Good b o j->n<=l.length->(∀u C k,KPc.Good u y N->R (u,C,[]) {s with toks:=k})->M8 (model d w) A (forIn l (b,a,r) F) R E s:=by
  intro n r i o j y N c;induction c with
  | nil=>
   intro hN l b a s R E I g p h;cases l with
   | nil=>rw[List.forIn_nil];exact A7<|h _ _ s.toks g
   | cons x l=>
    refine KPc.turn ?_;rw[show F x (b,a,[])=pure (.done (b,a,[])) from by rw[B];rfl];exact A7<|h _ _ s.toks g
  | fld K U T m e S f V c Y=>
   subst e;intro hN l b a s R E I g p h;cases l with
   | nil=>cases p
   | cons x l=>
    refine KPc.turn ?_;rw[show F x _=_ from congrFun (congrFun B x) _];refine wpAny_ite (KPc.ite_no (by rw[U];decide) ?_);refine wpAny_ite<|KPc.ite_no (KPc.short_good g<|A9 (A9 (A9 (K5 _ _)<|K5 _ _) c.le) hN) ?_;rw[m];refine A0<|KFm.field_auto I S ?_;refine A0<|G9<|P0 rfl ?_;refine wpAny_ite<|KPc.ite_no Bool.false_ne_true ?_;refine A0<|A7 ?_;refine A0<|G9<|f _ _ _ _ _ _ λti k=>?_;refine A0<|P0 rfl ?_;refine A7 ?_;exact Y hN l _ _ {s with toks:=k} (.inr rfl) (KPc.good_mono (KPc.good_add (KPc.good_add g<|KPc.obj_none<|if_neg (by rw[T];decide))<|aLQ ti)<|V7 V _) (Nat.le_of_succ_le_succ p) h
 refine J c hN _ _ _ _ (.inl ⟨rfl,rfl⟩) M (by rw[List.length_range'];exact hn) λu C k g=>?_;refine A7 ?_;exact KPc.finish_ok g hN rfl λt' Z=>q t' Z
theorem tO:x++⟨([]:List Nat).toArray⟩=x:=KFm.cat_t
section
variable{k:Nat}
theorem aSC(h1:x.length<=1000000)(h2:y.length<=1000000)(h3:ff.length<=1000000)(q:∀t' k',Q (.str (S9 "--- "++x++y++ff) t') ⟨h,g,d,k',os⟩) :
  WP w A (PySem.call (.builtin "str.format") [.str (S9 "--- {}{}{}") ti,.str x t1,.str y t2,.str ff t3]) Q E ⟨h,g,d,k,os⟩:=
 ⟨KFm.call_k (X':=⟨#[45,45,45,32,123,125,123,125,123,125]⟩) (by kernel_rfl) (KFm.args_4 _ _ _ _) (rP (.fld 1000000 rfl rfl rfl (by kernel_rfl) rfl (iN x t1) h1<|.fld 1000000 rfl rfl rfl tO rfl (iN y t2) h2<|.fld 1000000 rfl rfl rfl tO rfl (iN ff t3) h3 .nil) (F1<|by kernel_rfl)<|F1<|by kernel_rfl) q⟩
theorem aSB(h1:x.length<=1000000)(h2:y.length<=1000000)(h3:ff.length<=1000000)(q:∀t' k',Q (.str (S9 "+++ "++x++y++ff) t') ⟨h,g,d,k',os⟩) :
  WP w A (PySem.call (.builtin "str.format") [.str (S9 "+++ {}{}{}") ti,.str x t1,.str y t2,.str ff t3]) Q E ⟨h,g,d,k,os⟩:=
 ⟨KFm.call_k (X':=⟨#[43,43,43,32,123,125,123,125,123,125]⟩) (by kernel_rfl) (KFm.args_4 _ _ _ _) (rP (.fld 1000000 rfl rfl rfl (by kernel_rfl) rfl (iN x t1) h1<|.fld 1000000 rfl rfl rfl tO rfl (iN y t2) h2<|.fld 1000000 rfl rfl rfl tO rfl (iN ff t3) h3 .nil) (F1<|by kernel_rfl)<|F1<|by kernel_rfl) q⟩
theorem aSD(h1:x.length<=1000000)(h2:y.length<=1000000)(h3:ff.length<=1000000)(q:∀t' k',Q (.str (S9 "@@ -"++x++S9 " +"++y++S9 " @@"++ff) t') ⟨h,g,d,k',os⟩) :
  WP w A (PySem.call (.builtin "str.format") [.str (S9 "@@ -{} +{} @@{}") ti,.str x t1,.str y t2,.str ff t3]) Q E ⟨h,g,d,k,os⟩:=
 ⟨KFm.call_k (X':=⟨#[64,64,32,45,123,125,32,43,123,125,32,64,64,123,125]⟩) (by kernel_rfl) (KFm.args_4 _ _ _ _) (rP (.fld (T1:=S9 "@@ -") 1000000 rfl rfl rfl (by kernel_rfl) rfl (iN x t1) h1<|.fld (T1:=S9 "@@ -"++x++S9 " +") 1000000 rfl rfl rfl (by kernel_rfl) rfl (iN y t2) h2<|.fld 1000000 rfl rfl rfl (by kernel_rfl) rfl (iN ff t3) h3 .nil) (F1<|by kernel_rfl)<|F1<|by kernel_rfl) q⟩
theorem aSF(h1:0<=i)(h2:i<10000000000)(q:∀t' k',Q (.str (S9<|H3 i) t') ⟨h,g,d,k',os⟩):
  WP w A (PySem.call (.builtin "str.format") [.str (S9 "{}") ti,.int i tj]) Q E ⟨h,g,d,k,os⟩:=
 ⟨KFm.call_k (X':=⟨#[123,125]⟩) (by kernel_rfl) (KFm.args_2 _ _) (rP (.fld 10 rfl rfl rfl (T1:=D6) tO rfl (zT<|by kfm_hd) (toString_length_le (k:=10) h1 (by decide) h2) (by rw[KFm.cat_e];exact .nil)) (F1<|by kernel_rfl)<|F1<|by kernel_rfl) q⟩
theorem aSE(h1:0<=i)(h2:i<10000000000)(h3:0<=j)(h4:j<10000000000)
  (q:∀t' k',Q (.str (S9 (H3 i)++S9 ","++S9 (H3 j)) t') ⟨h,g,d,k',os⟩) :
  WP w A (PySem.call (.builtin "str.format") [.str (S9 "{},{}") ti,.int i tj,.int j t1]) Q E ⟨h,g,d,k,os⟩:=
 ⟨KFm.call_k (X':=⟨#[123,125,44,123,125]⟩) (by kernel_rfl) (KFm.args_3 _ _ _) (rP (.fld 10 rfl rfl rfl (T1:=D6) tO rfl (zT<|by kfm_hd) (toString_length_le (k:=10) h1 (by decide) h2)<|.fld 10 rfl rfl rfl (by rw[KFm.cat_e];kernel_rfl) rfl (zT<|by kfm_hd) (toString_length_le (k:=10) h3 (by decide) h4) .nil) (F1<|by kernel_rfl)<|F1<|by kernel_rfl) q⟩
theorem aBU{pl:Sem Bool}{s:A6}{Q:A3×List A3->A6->Prop}(q:Q (.builtin "str.format",[.str x ti]) s):WP w A (Y7 (.str x ti) (S9 "format") pl) Q E s:=⟨KFm.method q⟩
noncomputable def cS(a b:Int):Str:=
 if b-a=1 then S9 (H3<|a+1)
 else S9 (H3 (if b-a=0 then a else a+1))++S9 ","++S9 (H3<|b-a)
abbrev aPQ:I8:=fd (dC 6) (S9 "_format_range_unified") .none (Na 601) (.str (S9 "cpy313.difflib") 194) (.ref 252) Nb
end
section
variable{s:A6}{D:E3}{S:Str->Bool}
theorem aIF{Q:Bool->A6->Prop}(hS:s.heap.SetOf (strKind P w) D S n)(hb:n+1<scanBound)
  (q:∀h' k',P5 D s.heap h'->h'.SetOf (strKind P w) D (λy=>S y||decide (y=x)) (if S x then n else n+1)->Q (!S x) {s with heap:=h',toks:=k'}):M8 (model P w) A (setAdd D<|.str x ti) Q E s:=by
 refine G9<|A0<|(strKind P w).pyHash (isStrOf_self x ti) ?_;exact wpAny_setAddHashed_of (isStrOf_self x ti) rfl hS hb λh' a b=>q h' _ a b
theorem aAs(hS:s.heap.SetOf (strKind P w) D S n)(q:∀h',P5 D s.heap h'->h'.SetOf (strKind P w) D S n->Post () {s with heap:=h'}):M8 (model P w) A (setUnled D) Post E s:=by
 obtain⟨o,i,x,t,h,g,d,e,b,j,p,r⟩:=hS;have u:({t with led:=Nd}:SetTable).fits i.size=true:=by cases t;exact p
 refine A0<|wpAny_setState_of h d p ?_;refine wpAny_storeSet_of h d ?_<|fits_of_scanBound j;obtain⟨_,a⟩:=SetOf_store h g d e b j u;rw[r] at a;exact q _ (G8 s.heap D<|Obj.putSet i {t with led:=Nd}) a
end
theorem Rps.s4{d:Str}(r:Rps Z [.str x,.str y,.str ff,.str d] vs):Ex4 λt1 t2 t3 t4=>vs=[.str x t1,.str y t2,.str ff t3,.str d t4]:=by
 obtain⟨_,_,rfl,a1,g⟩:=r.inv;obtain⟨_,_,rfl,a,h⟩:=g.inv;obtain⟨_,_,rfl,b,e⟩:=h.two;obtain⟨_,rfl⟩:=a1.inv;obtain⟨_,rfl⟩:=a.inv;obtain⟨_,rfl⟩:=b.inv;obtain⟨_,rfl⟩:=e.inv;exact⟨_,_,_,_,rfl⟩
theorem aS1(h1:x.length<=1000000)(h2:y.length<=1000000)(h3:ff.length<=1000000):OpV w 0 (cal<|.builtin "str.format") [.str<|S9 "--- {}{}{}",.str x,.str y,.str ff] (.str<|S9 "--- "++x++y++ff):=
 ⟨λA Z h g d k os j b e s r=>by
  obtain⟨_,_,_,_,rfl⟩:=r.s4;exact aSC h1 h2 h3 λi a=>⟨h,g,a,rfl,aM.refl _,.str _ _⟩⟩
theorem aS0(h1:x.length<=1000000)(h2:y.length<=1000000)(h3:ff.length<=1000000):OpV w 0 (cal<|.builtin "str.format") [.str<|S9 "+++ {}{}{}",.str x,.str y,.str ff] (.str<|S9 "+++ "++x++y++ff):=
 ⟨λA Z h g d k os j b e s r=>by
  obtain⟨_,_,_,_,rfl⟩:=r.s4;exact aSB h1 h2 h3 λi a=>⟨h,g,a,rfl,aM.refl _,.str _ _⟩⟩
theorem aS2(h1:x.length<=1000000)(h2:y.length<=1000000)(h3:ff.length<=1000000):OpV w 0 (cal<|.builtin "str.format") [.str<|S9 "@@ -{} +{} @@{}",.str x,.str y,.str ff] (.str<|S9 "@@ -"++x++S9 " +"++y++S9 " @@"++ff):=
 ⟨λA Z h g d k os j b e s r=>by
  obtain⟨_,_,_,_,rfl⟩:=r.s4;exact aSD h1 h2 h3 λi a=>⟨h,g,a,rfl,aM.refl _,.str _ _⟩⟩
theorem aDg(x:Str):OpV w 0 (cal<|.builtin "isinstance") [.str x,.raw<|.type "str"] (.bool Nc):=ov2 λA Z h g d k os u v e i s a b=>by
 obtain⟨_,rfl⟩:=a.inv;obtain rfl:=b.inv;exact⟨IsiPair.str_str<|bZ (A:=A) s<|.bool _⟩
abbrev jE:I8:=fd (dC 8) (S9 "_check_types") .none Nb (.str (S9 "cpy313.difflib") 194) (.ref 267) Nb
theorem aPc{α:Type}{l:List α}(h:l.length=2):Ex2 λa b=>l=[a,b]:=by
 cases l with
 | nil=>cases h
 | cons a l=>
  obtain⟨b,rfl⟩:=List.length_eq_one_iff.mp<|Nat.succ.inj h;exact⟨a,b,rfl⟩
def sl(a:List Str)(i j:Int):List Str:=bA a (Na i) (Na j) Nb
def gU(a b:List Str)(o:Oc):List Str:=
 if o.1=S9 "equal" then (sl a o.2.1 o.2.2.1).map (S9 " "++·)
 else (if o.1=S9 "replace"\/o.1=S9 "delete" then (sl a o.2.1 o.2.2.1).map (S9 "-"++·) else []) ++
  (if o.1=S9 "replace"\/o.1=S9 "insert" then (sl b o.2.2.2.1 o.2.2.2.2).map (S9 "+"++·) else [])
def aCz(lt:Str)(gr:List Oc):Str:=
 S9 "@@ -"++cS (gr.getD 0 default).2.1 (gr.getD (gr.length-1) default).2.2.1++S9 " +"++cS (gr.getD 0 default).2.2.2.1 (gr.getD (gr.length-1) default).2.2.2.2++S9 " @@"++lt
def bD(a b:List Str)(lt:Str)(gr:List Oc):List Str:=aCz lt gr::gr.flatMap (gU a b)
noncomputable def sO(ff tf lt:Str):List Str:=[S9 "--- "++ff++D6++lt,S9 "+++ "++tf++D6++lt]
def oB(a b:List Str)(ff tf lt:Str)(x0:Bool)(x1:List<|List Oc):List Str:=
 List.rec (motive:=λO=>Bool->List Str) (λO=>[]) (λd g e st=>(if st then [] else sO ff tf lt)++(bD a b lt d++(e Nc))) x1 x0
theorem yC(a b:List Str)(ff tf lt:Str)(st:Bool){gr}(gs:List<|List Oc):oB a b ff tf lt st (gr::gs)=((if st then [] else sO ff tf lt)++(bD a b lt gr++oB a b ff tf lt Nc gs)):=rfl
theorem hW(f:α->β)(l:List α)(lo hi st:Option Int):bA (l.map f) lo hi st=(bA l lo hi st).map f:=by
 unfold bA;rw[A1,List.map_filterMap]
 congr 1
 funext i
 rw[B3]
structure GOk(a b:List Str)(gr:List Oc):Prop where
 ne:gr≠[]
 n:gr.length<=1000
 i0:0<=(gr.getD 0 default).2.1
 i1:(gr.getD 0 default).2.1<=(gr.getD (gr.length-1) default).2.2.1
 i2:(gr.getD (gr.length-1) default).2.2.1<1000000000
 j0:0<=(gr.getD 0 default).2.2.2.1
 j1:(gr.getD 0 default).2.2.2.1<=(gr.getD (gr.length-1) default).2.2.2.2
 j2:(gr.getD (gr.length-1) default).2.2.2.2<1000000000
theorem mY{b:Int}(h0:0<=j)(h1:j<=b)(h2:b<1000000000):(cS j b).length<=4000:=by
 have d:∀i:Int,i.natAbs<4294967296->(S9<|H3 i).length<=1921:=λi h=>int_text_len_1921 (by
  have h2:i.natAbs<2^32:=h;by_cases z:i.natAbs=0
  .rw[z];decide
  .exact Nat.lt_trans ((Nat.log2_lt z).mpr h2)<|by decide)
 unfold cS;split
 .exact A9 (d _<|by exact(l20<|.i bE<|.i pM<|.i (.q eM aC)<|.S (.z aR) pQ) h0 h2<|by assumption) (by decide)
 .rw[strLen_append,strLen_append];have a1:=d (if b-j=0 then j else j+1) (by
   split
   .exact(l20<|.i bE<|.i pM<|.i (.q eM aE)<|.S (.z .a) pQ) h0 h2 (by assumption)
   .exact(l20<|.i bE<|.i bF<|.i pM<|.S (.z aR) pQ) h0 h1 h2)
  have e:=d (b-j) (by clear d a1;exact(l20<|.i bU<|.i eO<|.i pJ<|.S (.z bG) pQ) h0 h1 h2);exact A9 (Nat.add_le_add (Nat.add_le_add a1<|Nat.le_of_eq<|show(S9 ",").length=1 by decide) e)<|by decide
theorem aL1(h:y∈sl a i j):y∈a:=by
 unfold sl bA at h;obtain⟨k,_,e⟩:=Q8.mp h;exact D5 e
theorem uU(a x y:Str):(a==x||a==y)=Nf (a=x\/a=y):=by
 rw[qM,qM];by_cases b:a=x <;> by_cases d:a=y <;> simp[b,d]
theorem yO(l:List α)(a:Nat):∀m:Nat,(B8 m).filterMap (λk=>l[a+k]?)=(l.drop a).take m:=by
 intro m;induction m with
 | zero=>
  exact rfl
 | succ m b=>
  rw[O3,List.filterMap_append,b,K9,I5]
  congr 1
theorem mnx(i n:Nat):max 0 (min (i:Int) (n:Int))=((min i n:Nat):Int):=by exact l02<|.q (.x aE<|.n aF aN)<|.j<|.n .a .b
theorem fB(l:List α)(i j:Nat):bA l (Na (i:Int)) (Na (j:Int)) Nb=(l.drop i).take (j-i):=by
 unfold bA;have e:L7 (Na (i:Int)) (Na (j:Int)) Nb l.length=(((min i l.length:Nat):Int),((min j l.length:Nat):Int),1):=by
  unfold L7;simp only[Option.getD_none];have d:¬((i:Int)<0):=by exact aQC
  have b:¬((j:Int)<0):=by exact aQC
  simp only[d,b,if_false];exact Prod.ext (mnx i _)<|Prod.ext (mnx j _) rfl
 rw[e];simp only;rw[sliceRange_one,List.filterMap_map];have:=yO l (min i l.length)<|min j l.length-min i l.length;rw[show((λx=>l[x]?)∘λx=>min i l.length+x)=λk=>l[min i l.length+k]? from rfl,this];obtain h|h:=AB0 i l.length
 .rw[T9<|I2 h];obtain b|b:=AB0 j l.length
  .rw[T9<|I2 b]
  .rw[Nat.min_eq_right b,N5 (by rw[F5];exact l02<|.L bG bG),N5 (by rw[F5];exact(l03<|.i (.L .a .c)<|.L bG lA) b)]
 .rw[Nat.min_eq_right h,V8,List.drop_of_length_le h];simp
theorem uV{n:Int}(hn:0<=n):¬(dN j (i+n)-i>n+n):=by
 unfold dN;split
 .exact(l20<|.i bE<|.n<|.s (.p .a .a)<|.m (.p .b .a) .b) hn
 .exact(l30<|.i bE<|.i (.n<|.s (.p .c .a) .b)<|.n<|.s (.p .a .a) dK) hn<|by assumption
theorem jS(hn:0<=lo)(e:i1=i)(h:i<=j):i<=dN j (i1+lo)/\dN j (i1+lo)<=j:=by
 subst e;unfold dN;split
 .next h=>exact⟨G7 hn,W8 h⟩
 .exact⟨h,C2 _⟩
theorem jT(hn:0<=lo)(e:i1=i)(h:i<=j):i<=bO i1 (j-lo)/\bO i1 (j-lo)<=j:=by
 subst e;unfold bO;split
 .next h=>exact⟨W8 h,Int.sub_le_self j hn⟩
 .exact⟨C2 _,h⟩
noncomputable abbrev spS:Str:=S9 " "
noncomputable abbrev eqS:Str:=S9 "equal"
def aV(a b:List Str)(o:Oc):aH:=
 if o.1=eqS then (sl a o.2.1 o.2.2.1).map (λx=>(spS,x))
 else (if o.1=S9 "replace"\/o.1=S9 "delete" then (sl a o.2.1 o.2.2.1).map (λx=>(S9 "-",x)) else []) ++
  (if o.1=S9 "replace"\/o.1=S9 "insert" then (sl b o.2.2.2.1 o.2.2.2.2).map (λx=>(S9 "+",x)) else [])
theorem vR(a b:List Str)(o:Oc):gU a b o=(aV a b o).map (λr=>r.1++r.2):=by
 unfold gU aV;split
 .simp[Function.comp_def]
 .rw[B4]
  congr 1 <;> split <;> simp[Function.comp_def]
def nxt(n:Int)(x0:aH):Int:=
 List.rec (motive:=λO=>Int) (n+1) (λr b a=>if r.1==spS then a+1 else 0) x0
theorem aAJ(n:Int):nxt n []=(n+1):=rfl
theorem pG(n:Int){r}(rs:aH):nxt n (r::rs)=(if r.1==spS then nxt n rs+1 else 0):=rfl
def gK(n:Int)(x0:Int)(x1:DS)(x2:aH):DS:=
 List.rec (motive:=λO=>Int->DS->DS) (λO s=>jX s) (λr b a f s=>(a (if r.1==spS then f+1 else 0) (if min (if r.1==spS then f+1 else 0) (nxt n<|r::b)<=n then {s with hunk:=s.hunk++[r]} else jX s))) x2 x0 x1
theorem lV(n:Int)(x0:Int)(s:DS):gK n x0 s []=(jX s):=rfl
theorem rU(n:Int)(f:Int)(s:DS){r}(rs:aH):gK n f s (r::rs)=(gK n (if r.1==spS then f+1 else 0) (if min (if r.1==spS then f+1 else 0) (nxt n<|r::rs)<=n then {s with hunk:=s.hunk++[r]} else jX s) rs):=rfl
def xW(E:aH):Prop:=∀r∈E,(r.1==spS)=Nc
def aFJ(C:aH):Prop:=∀r∈C,(r.1==spS)=Nd
theorem uE{n:Int}:∀{E:aH}{rs:aH},xW E->nxt n (E++rs)=nxt n rs+E.length:=by
 intro E;induction E with
 | nil=>
  intro rs h;simp
 | cons r E b=>
  intro rs h;simp only[L8,pG,h r<|.head _];rw[b<|λx a=>h x<|.tail _ a];simp only[D1];exact aQR
theorem aLW{C:aH}(h:aFJ C)(ne:C≠[]):nxt i (C++rs)=0:=by
 cases C with
 | nil=>exact absurd rfl ne
 | cons r C=>simp[pG,h r<|.head _]
theorem aBj(hn:0<=j):∀{C:aH}{rs:aH}{f:Int}{s:DS},aFJ C->C≠[]->gK j f s (C++rs)=gK j 0 {s with hunk:=s.hunk++C} rs:=by
 intro C;induction C with
 | nil=>
  intro rs f s h d;exact absurd rfl d
 | cons r C g=>
  intro rs f s h d;simp only[L8,rU,pG,h r<|.head _,if_false,Bool.false_eq_true];rw[if_pos<|by exact(l10<|.i bE<|.l (.n aE aE) .a) hn];by_cases b:C=[]
  .subst b;simp
  .rw[g (λx e=>h x<|.tail _ e) b];simp
theorem nJ{n:Int}:∀{E:aH}{rs:aH}{f:Int}{s:DS},xW E->f+E.length<=n->gK n f s (E++rs)=gK n (f+E.length) {s with hunk:=s.hunk++E} rs:=by
 intro E;induction E with
 | nil=>
  intro rs f s h a;simp
 | cons r E e=>
  intro rs f s h a;simp only[L8,rU,h r<|.head _,if_true];rw[if_pos<|by exact(l31<|.i (.l gO .c)<|.l (.n aR .b) .c) a,e (λx d=>h x<|.tail _ d)<|aQK a];simp only[B5]
  congr 1;exact aNI
theorem nM{n:Int}:∀{E:aH}{rs:aH}{f:Int}{s:DS},xW E->nxt n rs+E.length<=n->gK n f s (E++rs)=gK n (f+E.length) {s with hunk:=s.hunk++E} rs:=by
 intro E;induction E with
 | nil=>
  intro rs f s h a;simp
 | cons r E g=>
  intro rs f s h a;have d:=λx e=>h x<|.tail _ e;simp only[L8,rU,pG,h r<|.head _,if_true,uE d];rw[if_pos<|by exact(l31<|.i (.l (.p .b cR) .c)<|.l (.n aR<|.p (.p .b aF) aC) .c) a,g d<|(l21<|.i (.l gO .b)<|.l cK .b) a];simp only[B5]
  congr 1;exact aNI
def flN(x0:Nat)(x1:DS):DS:=
 Y9 (motive:=λO=>DS->DS) (λs=>s) (λk a s=>(a<|jX s)) x0 x1
theorem aJ7(s:DS):flN 0 s=s:=rfl
theorem aJ8(k:Nat)(s:DS):flN (k+1) s=(flN k<|jX s):=rfl
theorem aLV:0<=j->0<=nxt j rs:=by
 intro a;induction rs with
 | nil=>simp[aAJ];exact ar4 a
 | cons r rs b=>simp only[pG];split;exact(l10<|.i bE<|.l aE aR) b;exact l00<|.l aE aE
theorem qL{n:Int}:∀{E:aH}{rs:aH}{f:Int}{s:DS},xW E->n<=f->n<=nxt n rs->gK n f s (E++rs)=gK n (f+E.length) (flN E.length s) rs
 :=by
 intro E;induction E with
 | nil=>
  rintro rs f s h d e;simp[aJ7]
 | cons r E o=>
  rintro rs f s h d e;have g:=λx j=>h x<|.tail _ j;simp only[L8,rU,pG,h r<|.head _,if_true,uE g];rw[if_neg<|by exact(l31<|.i (.l .c .a)<|.i mN<|.n<|.l (.n aR<|.p (.p .b aF) aC) .c) d e,o g (aQL d) e]
  congr 1;exact aNI
def emit(s:DS):List Str:=if s.hunk.isEmpty then [] else cE s.old (bI s.hunk) s.new (bT s.hunk)::s.hunk.map (λr=>r.1++r.2)
theorem cT(s:DS):jX s=⟨s.told++emit s,[],s.old+bI s.hunk+1,s.new+bT s.hunk+1⟩:=by
 unfold jX emit;split <;> simp
theorem uY:∀(k:Nat)(t:List Str)(o m:Int),flN k ⟨t,[],o,m⟩=⟨t,[],o+k,m+k⟩
 :=by
 intro k;induction k with
 | zero=>
  rintro t o m;simp[aJ7]
 | succ k b=>
  rintro t o m;rw[aJ8,cT];simp only[emit,List.isEmpty_nil,if_true,D0];rw[b]
  congr 1 <;> exact l11<|.q (.p (.p (.p .a<|.j aE) aC) aF) gO
theorem xD(k:Nat)(s:DS):flN (k+1) s=⟨s.told++emit s,[],s.old+bI s.hunk+(k+1:Nat),s.new+bT s.hunk+(k+1:Nat)⟩:=by
 rw[aJ8,cT,uY]
 congr 1 <;> exact l12<|.q (.p (.p cK aC) aN)<|.p cK<|.j bJ
theorem hH(hi:0<=i)(hj:i<=j):sl a i j=(a.drop i.toNat).take (j-i).toNat:=by
 obtain⟨p,rfl⟩:=K2 hi;obtain⟨q,rfl⟩:=K2<|E5 hi hj;unfold sl;rw[fB];exact congrArg (List.take · _) (Int.toNat_sub q p).symm
theorem fY(hi:0<=i)(hj:i<=j)(h:j<=a.length):(sl a i j).length=(j-i).toNat:=by
 rw[hH hi hj];exact(L3 _).symm.trans<|congrArg Int.toNat<|qB hi hj h
theorem fX(hi:0<=i):sl a i i=[]:=by
 rw[hH hi<|C2 _];simp
theorem vX{m:Int}(hi:0<=i)(h1:i<=m)(h2:m<=j):sl a i j=sl a i m++sl a m j:=by
 obtain⟨p,rfl⟩:=K2 hi;obtain⟨u,rfl⟩:=Int.le.dest h1;obtain⟨v,rfl⟩:=Int.le.dest h2;have tn:∀x y:Nat,((x:Int)+y-x).toNat=y:=λx y=>by rw[AB3,Int.add_sub_cancel,L3]
 rw[hH hi<|E5 h1 h2,hH hi h1,hH (E5 hi h1) h2,← V2,tn (p+u) v,V2,tn p u,show((p:Int)+u+v-p).toNat=u+v from by rw[X1,← V2,tn],List.take_add,AA5,L3,← V2,L3]
structure CV(a b:List Str)(o:Oc):Prop where
 i0:0<=o.2.1
 i1:o.2.1<=o.2.2.1
 i2:o.2.2.1<=a.length
 j0:0<=o.2.2.2.1
 j1:o.2.2.2.1<=o.2.2.2.2
 j2:o.2.2.2.2<=b.length
 tag:(o.1=eqS/\o.2.2.1-o.2.1=o.2.2.2.2-o.2.2.2.1)\/(o.1=S9 "replace"/\o.2.1<o.2.2.1/\o.2.2.2.1<o.2.2.2.2)\/(o.1=S9 "delete"/\o.2.1<o.2.2.1/\o.2.2.2.1=o.2.2.2.2)\/(o.1=S9 "insert"/\o.2.1=o.2.2.1/\o.2.2.2.1<o.2.2.2.2)
theorem aDs:S9 "replace"≠eqS:=by decide +kernel
theorem aDu:S9 "delete"≠eqS:=by decide +kernel
theorem aDt:S9 "insert"≠eqS:=by decide +kernel
theorem aOV:S9 "replace"≠S9 "insert":=by decide +kernel
theorem aOW:S9 "delete"≠S9 "insert":=by decide +kernel
theorem aOn:(S9 "+" == spS)=false:=by decide +kernel
theorem aOo:(S9 "-" == spS)=false:=by decide +kernel
theorem nO(x y:aH):bI (x++y)=bI x+bI y:=by unfold bI;rw[Z5,A5]
theorem rV(x y:aH):bT (x++y)=bT x+bT y:=by unfold bT;rw[Z5,A5]
theorem aES(l:List Str):bI (l.map λx=>(spS,x))=l.length/\bT (l.map λx=>(spS,x))=l.length:=by
 induction l with
 | nil=>exact⟨rfl,rfl⟩
 | cons x l a=>unfold bI bT at *;simp only[H5,N6];exact(l03<|.i (.o bH<|.Q .c .b)<|.o (.Q aR bJ)<|.Q cD bJ) a
theorem aEU(l:List Str):bI (l.map λx=>(S9 "-",x))=l.length/\bT (l.map λx=>(S9 "-",x))=0:=by
 induction l with
 | nil=>exact⟨rfl,rfl⟩
 | cons x l a=>
  unfold bI bT at *;simp only[H5,N6];exact(l03<|.i (.o bH<|.Q .c aE)<|.o (.Q aR bJ)<|.Q .c aE) a
theorem aET(l:List Str):bI (l.map λx=>(S9 "+",x))=0/\bT (l.map λx=>(S9 "+",x))=l.length:=by
 induction l with
 | nil=>exact⟨rfl,rfl⟩
 | cons x l d=>
  unfold bI bT at *;simp only[H5,N6];exact(l03<|.i (.o (.Q .a aE)<|.Q .b .c)<|.o (.Q .a aE)<|.Q bJ cD) d
theorem fZ{o:Oc}(e:o.1=eqS):aV a b o=(sl a o.2.1 o.2.2.1).map (λx=>(spS,x)):=by unfold aV;rw[if_pos e]
theorem qY{o:Oc}(v:CV a b o)(e:o.1≠eqS):aV a b o=(sl a o.2.1 o.2.2.1).map (λx=>(S9 "-",x))++(sl b o.2.2.2.1 o.2.2.2.2).map (λx=>(S9 "+",x)):=by
 unfold aV;rw[if_neg e];obtain h|h|h|h:=v.tag
 .exact absurd h.1 e
 .rw[h.1];simp
 .rw[h.1,if_pos<|.inr rfl,← h.2.2,fX v.j0];rfl
 .rw[h.1,if_neg (by rintro(z | z);exact aOV z.symm;exact aOW z.symm),← h.2.1,fX v.i0];rfl
theorem sS{o:Oc}(v:CV a b o):(bI (aV a b o):Int)=o.2.2.1-o.2.1/\(bT (aV a b o):Int)=o.2.2.2.2-o.2.2.2.1:=by
 have l1:=fY v.i0 v.i1 v.i2;have i:=fY v.j0 v.j1 v.j2;have d:=v.i1;have g:=v.j1;by_cases e:o.1=eqS
 .rw[fZ e,(aES _).1,(aES _).2,l1];obtain h|h|h|h:=v.tag
  .exact⟨P7<|J5 d,(P7<|J5 d).trans h.2⟩
  .exact absurd (h.1.symm.trans e) aDs
  .exact absurd (h.1.symm.trans e) aDu
  .exact absurd (h.1.symm.trans e) aDt
 .rw[qY v e,nO,rV,(aEU _).1,(aEU _).2,(aET _).1,(aET _).2,l1,i,V4];exact⟨P7<|J5 d,P7<|J5 g⟩
theorem bV{o:Oc}(e:o.1=eqS):xW<|aV a b o:=by
 intro r d;rw[fZ e] at d;obtain⟨x,_,rfl⟩:=C1.mp d;exact beq_self_eq_true _
theorem oH{o:Oc}(v:CV a b o)(e:o.1≠eqS):aFJ (aV a b o)/\aV a b o≠[]:=by
 rw[qY v e];have l1:=fY v.i0 v.i1 v.i2;have n:=fY v.j0 v.j1 v.j2;constructor
 .intro r g;obtain g|g:=E4.mp g
  .obtain⟨x,_,rfl⟩:=C1.mp g;exact aOo
  .obtain⟨x,_,rfl⟩:=C1.mp g;exact aOn
 .intro z;have j:=congrArg Y0 z;simp only[A5,A1,l1,n] at j;obtain h|h|h|h:=v.tag
  .exact e h.1
  .exact(l40<|.i (.Q (.p cV<|.t kY) aE)<|.i (.o gD<|.s .d .c) .f) j h.2
  .exact(l40<|.i (.Q (.p cV<|.t kY) aE)<|.i (.o gD<|.q .d .c) .f) j h.2
  .exact(l40<|.i (.Q (.p cV<|.t kY) aE)<|.i (.o (.q .b .a)<|.s .d .c) .f) j h.2
theorem cB{o:Oc}(v:CV a b o)(e:o.1=eqS):(aV a b o).length=(o.2.2.1-o.2.1).toNat:=by
 rw[fZ e,A1,fY v.i0 v.i1 v.i2]
theorem fD{m p q p' q' p2 q2:Int}(e:x=eqS)(hi:0<=i)(h1:i<=m)(h2:m<=j):aV a b (x,i,j,p,q)=aV a b (x,i,m,p',q')++aV a b (x,m,j,p2,q2):=by
 rw[fZ e,fZ e,fZ e,← B4]
 congr 1;exact vX hi h1 h2
def CH(a b:List Str)(x0:Int)(x1:Int)(x2:Option Bool)(x3:List Oc):Prop:=
 List.rec (motive:=λO=>Int->Int->Option Bool->Prop) (λi j O=>i=a.length/\j=b.length) (λo os d i j e=>o.2.1=i/\o.2.2.2.1=j/\CV a b o/\(if o.1=eqS then e≠Na Nc/\o.2.1<o.2.2.1 else e≠Na Nd)/\(d o.2.2.1 o.2.2.2.2<|Na<|Nf<|o.1=eqS)) x3 x0 x1 x2
theorem aO0(a b:List Str)(i:Int)(j:Int)(e:Option Bool){o}(os:List Oc):CH a b i j e (o::os)=(o.2.1=i/\o.2.2.2.1=j/\CV a b o/\(if o.1=eqS then e≠Na Nc/\o.2.1<o.2.2.1 else e≠Na Nd)/\CH a b o.2.2.1 o.2.2.2.2 (Na<|Nf<|o.1=eqS) os):=rfl
def eW(n:Int)(l:List Oc):List Oc:=
 List.rec (motive:=λO=>List Oc) [] (λo os a=>List.rec (motive:=λO=>List Oc) [dU n o] (λO O O=>o::a) os) l
theorem aFW(n:Int):eW n []=[]:=rfl
theorem pZ(n:Int)(o:Oc):eW n [o]=[dU n o]:=rfl
theorem aCC(n:Int)(l:List Oc):l≠[]->l.set (l.length-1) (dU n<|l.getD (l.length-1) default)=eW n l:=by
 induction l with
 | nil=>exact λh=>absurd rfl h
 | cons o os a=>
  intro _;cases os with
  | nil=>rfl
  | cons b os=>
   show _=o::eW n (b::os);rw[← a<|by simp];rfl
theorem rN(n:Int)(o:Oc)(os:List Oc):tK n (o::os)=eW n (dP n o::os):=by
 rw[← aCC n (dP n o::os)<|by simp];rfl
theorem rH(s e:Int):cS s e=aZ s (e-s):=by
 rfl
theorem sM(x y z:Str):x++y++z=x++(y++z):=by
 show Str.append (Str.append x y) z=Str.append x (Str.append y z);unfold Str.append;simp
structure Rel(a b:List Str)(gr:List Oc)(s:DS)(i j:Int):Prop where
 ne:gr≠[]
 hunk:s.hunk=gr.flatMap (aV a b)
 old:s.old=(gr.getD 0 default).2.1
 new:s.new=(gr.getD 0 default).2.2.2.1
 io:s.old+bI s.hunk=i
 jo:s.new+bT s.hunk=j
 li:(gr.getD (gr.length-1) default).2.2.1=i
 lj:(gr.getD (gr.length-1) default).2.2.2.2=j
theorem kE(ne:gr≠[]):(gr++gc).getD 0 default=gr.getD 0 default:=by
 cases gr with
 | nil=>exact absurd rfl ne
 | cons x a=>rfl
theorem kD{o:Oc}:(gr++[o]).getD ((gr++[o]).length-1) default=o:=by
 simp[D7]
theorem Rel.add{s:DS}{o:Oc}(r:Rel a b gr s i j)(v:CV a b o)(hi:o.2.1=i)(hj:o.2.2.2.1=j):Rel a b (gr++[o]) {s with hunk:=s.hunk++aV a b o} o.2.2.1 o.2.2.2.2:=by
 have c:=sS v;have d:=r.io;have e:=r.jo;refine⟨by simp,by rw[r.hunk];simp,by rw[kE r.ne];exact r.old,by rw[kE r.ne];exact r.new,?_,?_,by rw[kD],by rw[kD]⟩
 .show s.old+(bI (s.hunk++aV a b o):Int)=_;rw[nO];exact aJW hi c.1 d
 .show s.new+(bT (s.hunk++aV a b o):Int)=_;rw[rV];exact aJW hj c.2 e
theorem Rel.one{o:Oc}(v:CV a b o):Rel a b [o] ⟨ns,aV a b o,o.2.1,o.2.2.2.1⟩ o.2.2.1 o.2.2.2.2:=by
 have c:=sS v;exact⟨by simp,by simp,rfl,rfl,by simp only;exact(l42<|.i (.o (.q aF eM)<|.q aN kY)<|.q cK .b) c,by simp only;exact(l42<|.i (.o (.q aN kY)<|.q aF eM)<|.q cK .b) c,rfl,rfl⟩
theorem aOf:S9 " @@"=S9 " @@"++S9 "":=by decide +kernel
theorem Rel.emit{s:DS}(r:Rel a b gr s i j)(hn:s.hunk≠[]):emit s=bD a b (S9 "") gr:=by
 unfold Mine.Internal.emit bD;have:s.hunk.isEmpty=false:=by cases h:s.hunk with | nil=>exact absurd h hn | cons=>rfl
 rw[this];simp only[Bool.false_eq_true,if_false]
 congr 1
 .unfold cE aCz;rw[rH,rH,r.li,r.lj,← r.old,← r.new];have d:(bI s.hunk:Int)=i-s.old:=by have:=r.io;exact aJV this
  have e:(bT s.hunk:Int)=j-s.new:=by have:=r.jo;exact aJV this
  rw[d,e]
  conv=>lhs;rw[aOf]
  rw[sM _ (S9 " @@")<|S9 ""]
 .rw[r.hunk,List.map_flatMap]
  congr 1
  funext o
  exact(vR a b o).symm
theorem dG{n:Int}{o:Oc}(h:¬iM n o):gGo n (o::gc) gr=gGo n gc (gr++[o]):=by
 rw[xB,if_neg h]
theorem aB5{o:Oc}(h:iM i o):gGo i (o::gc) gr=(gr++[(o.1,o.2.1,dN o.2.2.1<|o.2.1+i,o.2.2.2.1,dN o.2.2.2.2<|o.2.2.2.1+i)])::gGo i gc [(o.1,bO o.2.1<|o.2.2.1-i,o.2.2.1,bO o.2.2.2.1<|o.2.2.2.2-i,o.2.2.2.2)]:=by
 rw[xB,if_pos h]
theorem aB4{n:Int}(h:¬lE gr):gGo n [] gr=[gr]:=by rw[tL,if_neg h]
theorem sZ{o:Oc}(ne:gr≠[]):¬lE (gr++[o]):=by
 rintro(h | ⟨h,_⟩)
 .simp at h
 .cases gr with
  | nil=>exact ne rfl
  | cons x a=>simp at h
theorem aBG{o:Oc}(h:o.1≠eqS):¬lE [o]:=by
 rintro(z | ⟨_,z⟩)
 .simp at z
 .exact h z
theorem aQ3(e:i1+j+lo=i2-j)(h:i2-i1=j2-j1):j1+j+lo=j2-j:=(l60<|.i (.q (.p (.p .e .b) .c)<|.m .f .b)<|.i (.q (.m .f .e)<|.m .d .a)<|.q jP<|.m .d .b) e h
theorem lJ(v:CV a b (ff,i1,i2,j1,j2))(he:ff=eqS)(x y p q:Int)(a1:i1<=x)(a2:x<=y)(a3:y<=i2)(a4:j1<=p)(a5:p<=q)(a6:q<=j2)(a7:y-x=q-p):CV a b (ff,x,y,p,q):=⟨E5 v.i0 a1,a2,E5 a3 v.i2,E5 v.j0 a4,a5,E5 a6 v.j2,.inl ⟨he,a7⟩⟩
theorem aEX{n:Int}{o:Oc}(ch:CH a b i j (Na Nc)<|o::gr):nxt n ((o::gr).flatMap<|aV a b)=0:=by
 obtain⟨_,_,v,d,_⟩:=(aO0 ..).mp ch;have e:o.1≠eqS:=by
  intro z;rw[if_pos z] at d;exact d.1 rfl
 have:=oH v e;rw[E1];exact aLW this.1 this.2
theorem aEM(v:CV a b (x,i1,i2,j1,j2))(he:x=eqS):i2-i1=j2-j1:=by
 obtain h|h|h|h:=v.tag
 .exact h.2
 .exact absurd (h.1.symm.trans he) aDs
 .exact absurd (h.1.symm.trans he) aDu
 .exact absurd (h.1.symm.trans he) aDt
section
variable{n:Int}{s:DS}{t:Str}(hn:0<=n)(r:Rel a b gr s i1 j1)(hh:s.hunk≠[])(v:CV a b (t,i1,i2,j1,j2))(he:t=eqS)(lt:i1<i2)(br:i2-i1=j2-j1)
include hn r hh v he lt br
theorem aOm:(gK n 0 s<|aV a b (t,i1,i2,j1,j2)).told=s.told++(gGo n [dU n (t,i1,i2,j1,j2)] gr).flatMap (bD a b<|S9 ""):=by
 have A:=bV (a:=a) (b:=b) (o:=(t,i1,i2,j1,j2)) he;have u:=cB v he;have w:=v.i0;simp only at u w;have g:dU n (t,i1,i2,j1,j2)=(t,i1,dN i2<|i1+n,j1,dN j2<|j1+n):=by unfold dU;rw[if_pos he]
 have B:¬iM n (dU n (t,i1,i2,j1,j2)):=by
  rw[g];exact λz=>uV hn z.2
 rw[dG B,aB4<|sZ r.ne];by_cases d:i2-i1<=n
 .have e:dU n (t,i1,i2,j1,j2)=(t,i1,i2,j1,j2):=by
   rw[g];simp only[dN];rw[if_neg<|by exact(l30<|.i (.l iF .b)<|.n lD) d,if_neg<|by exact(l50<|.i (.q iE iF)<|.i (.l iE .b)<|.n lD) br d]
  rw[e];have:=nJ (n:=n) (rs:=[]) (f:=0) (s:=s) A (by rw[u];exact aQy lt d);rw[D0] at this;rw[this];simp only[lV,cT];have h:=r.add (o:=(t,i1,i2,j1,j2)) v rfl rfl;rw[h.emit<|by simp[hh]];simp
 .have e:dU n (t,i1,i2,j1,j2)=(t,i1,i1+n,j1,j1+n):=by
   rw[g];simp only[dN];rw[if_pos<|by exact(l30<|.i (.n<|.l iF .b) lD) d,if_pos<|by exact(l50<|.i (.q iE iF)<|.i (.n<|.l iE .b) lD) br d]
  rw[e];have y:=lJ v he i1 (i1+n) j1 (j1+n) ar2 (ar1 hn) (aCe d) ar2 (ar1 hn) (aIe br d)<|aId;have C:=lJ v he (i1+n) i2 (j1+n) j2 (ar1 hn) (aCe d) ar2 (ar1 hn) (aIe br d) ar2<|aQx br;have l1:=cB y he;have x:=cB C he;simp only at l1 x;rw[fD (a:=a) (b:=b) (i:=i1) (m:=i1+n) (j:=i2) (p:=j1) (q:=j2) (p':=j1) (q':=j1+n) (p2:=j1+n) (q2:=j2) he w (ar1 hn)<|aCe d];rw[nJ (bV he) (by rw[l1];exact aQw hn)];have:=qL (n:=n) (rs:=[]) (f:=0+((aV a b (t,i1,i1+n,j1,j1+n)).length:Int)) (s:={s with hunk:=s.hunk++aV a b (t,i1,i1+n,j1,j1+n)}) (bV (a:=a) (b:=b) (o:=(t,i1+n,i2,j1+n,j2)) he) (by rw[l1];exact aQv) (by simp only[aAJ];exact aCd);rw[D0] at this;rw[this];obtain⟨k,hk⟩:∃k,(aV a b (t,i1+n,i2,j1+n,j2)).length=k+1:=⟨(i2-(i1+n)).toNat-1,by rw[x];exact(l30<|.i (.n<|.l bG .c)<|.Q mU<|.p (.m mU aC) aC) d⟩
  rw[hk,xD];simp only[lV,cT];have h:=r.add y rfl rfl;rw[h.emit<|by simp[hh]];simp[Mine.Internal.emit]
theorem aOl(ga:nxt n rs=0)(hb:iM n (t,i1,i2,j1,j2))(ih:∀(s:DS)(f:Int),Rel a b [(t,i2-n,i2,j2-n,j2)] s i2 j2->(gK n f s rs).told=s.told++(gGo n gc [(t,i2-n,i2,j2-n,j2)]).flatMap (bD a b<|S9 "")):(gK n 0 s<|aV a b (t,i1,i2,j1,j2)++rs).told=s.told++(gGo n ((t,i1,i2,j1,j2)::gc) gr).flatMap (bD a b<|S9 ""):=by
 have h:=v.i0;simp only at h;have g:=hb.2;rw[aB5 hb];have m1:dN i2 (i1+n)=i1+n:=by unfold dN;rw[if_pos<|by exact(l30<|.i (.s .a .c)<|.i (.s mO iF) lD) lt g]
 have E:dN j2 (j1+n)=j1+n:=by unfold dN;rw[if_pos<|by exact(l50<|.i (.s .d .e)<|.i (.q (.m .e .d) iF)<|.i (.s mO<|.m .e .d) lD) lt br g]
 have I:bO i1 (i2-n)=i2-n:=by unfold bO;rw[if_pos<|by exact(l30<|.i cC<|.i (.s (.p .c .c) eM)<|.s .a dK) lt g]
 have J:bO j1 (j2-n)=j2-n:=by unfold bO;rw[if_pos<|by exact(l50<|.i (.s .d .e)<|.i (.q (.m .e .d) eM)<|.i (.s (.p .c .c)<|.m .e .d)<|.s .a dK) lt br g]
 simp only[m1,E,I,J];have A:=lJ v he i1 (i1+n) j1 (j1+n) ar2 (ar1 hn) (aQu lt g) ar2 (ar1 hn) ((l50<|.i (.s .d .e)<|.i (.q (.m .e .d) iF)<|.i (.s mO<|.m .e .d) iX) lt br g)<|aId;have M:=lJ v he (i1+n) (i2-n) (j1+n) (j2-n) (ar1 hn) (aQt g) (ar8 hn) (ar1 hn) ((l50<|.i (.q iE iF)<|.i (.s mO iE)<|.l bB lA) br g) (ar8 hn)<|(l50<|.i (.q (.m .a .c) iE)<|.q (.m bG jO)<|.m (.m .d .b)<|.p .e .b) br;have B:=lJ v he (i2-n) i2 (j2-n) j2 ((l30<|.i cC<|.i (.s (.p .c .c) eM)<|.l .a dK) lt g) (ar8 hn) ar2 ((l50<|.i (.s .d .e)<|.i (.q (.m .e .d) eM)<|.i (.s (.p .c .c)<|.m .e .d)<|.l .a dK) lt br g) (ar8 hn) ar2<|aQs;have l1:=cB A he;have o:=cB M he;have u:=cB B he;simp only at l1 o u;rw[fD (a:=a) (b:=b) (i:=i1) (m:=i1+n) (j:=i2) (p:=j1) (q:=j2) (p':=j1) (q':=j1+n) (p2:=j1+n) (q2:=j2) he h (ar1 hn)<|aQu lt g,fD (a:=a) (b:=b) (i:=i1+n) (m:=i2-n) (j:=i2) (p:=j1+n) he ((l20<|.i bU<|.i bE<|.l aE bB) hn h) (aQt g)<|ar8 hn];rw[B5,nJ (bV he) (by rw[l1];exact aQw hn),B5];rw[qL (bV he) (by rw[l1];exact aQv) (by rw[uE<|bV he,ga,u];exact aJY)];rw[nM (bV he) (by rw[ga,u];exact aJX hn)];obtain⟨k,hk⟩:∃k,(aV a b (t,i1+n,i2-n,j1+n,j2-n)).length=k+1:=⟨(i2-n-(i1+n)).toNat-1,by rw[o];exact(l30<|.i (.s mO<|.m .a .c)<|.Q (.t<|.m bG jO)<|.p (.m (.t<|.m bG jO) aC) aC) g⟩
 rw[hk,xD];have x:=r.add A rfl rfl;rw[x.emit<|by simp[hh]];have w:=x.io;have q2:=x.jo;simp only at w q2;simp only[I1];have y:s.old+((bI (s.hunk++aV a b (t,i1,i1+n,j1,j1+n)):Nat):Int)+((k+1:Nat):Int)=i2-n:=(l43<|.i (.Q .c<|.t<|.m dK lB)<|.i (.Q .c bJ)<|.i (.q cK lB)<|.q (.p cK<|.j bJ) dK) o hk w;have C:s.new+((bT (s.hunk++aV a b (t,i1,i1+n,j1,j1+n)):Nat):Int)+((k+1:Nat):Int)=j2-n:=by rw[q2];exact aQ3 (w▸y) br
 rw[y,C,ih _ _<|Rel.one B];simp
omit r hh in
theorem aOk(ga:nxt n rs=0)(du:¬n+n<i2-i1)(bh:∀f,(gK n f {s with hunk:=s.hunk++aV a b (t,i1,i2,j1,j2)} rs).told=s.told++(gGo n gc<|gr++[(t,i1,i2,j1,j2)]).flatMap (bD a b<|S9 "")):(gK n 0 s<|aV a b (t,i1,i2,j1,j2)++rs).told=s.told++(gGo n ((t,i1,i2,j1,j2)::gc) gr).flatMap (bD a b<|S9 ""):=by
 have h:=bV (a:=a) (b:=b) (o:=(t,i1,i2,j1,j2)) he;have e:=cB v he;have g:=v.i0;simp only at e g;rw[dG λz=>du z.2];by_cases d:i2-i1<=n
 .rw[nJ h (by rw[e];exact aQy lt d)];exact bh _
 .have x:=lJ v he i1 (i1+n) j1 (j1+n) ar2 (ar1 hn) (aCe d) ar2 (ar1 hn) (aIe br d)<|aId;have y:=lJ v he (i1+n) i2 (j1+n) j2 (ar1 hn) (aCe d) ar2 (ar1 hn) (aIe br d) ar2<|aQx br;have l1:=cB x he;have u:=cB y he;have w:=fD (a:=a) (b:=b) (p:=j1) (q:=j2) (p':=j1) (q':=j1+n) (p2:=j1+n) (q2:=j2) he g (ar1 hn)<|aCe d;rw[w] at bh ⊢;rw[B5,nJ (bV he) (by rw[l1];exact(l30<|.i (.s .a .c)<|.i (.n<|.s mO iF)<|.l (.p aE<|.j<|.t<|.m bB .a) .b) lt du),nM (bV he) (by rw[ga,u];exact(l30<|.i gD<|.i (.n<|.s (.p .c .c) bG)<|.l (.p aE<|.j mU) .c) lt du)];simp only[B5];exact bh _
omit br in
theorem aOj(ih:∀(gr:List Oc)(s:DS)(f:Int),Rel a b gr s i2 j2->gc≠[]->(gK n f s<|gc.flatMap<|aV a b).told=s.told++(gGo n (eW n gc) gr).flatMap (bD a b<|S9 ""))(ch:CH a b i2 j2 (Na Nc) gc):(gK n 0 s<|((t,i1,i2,j1,j2)::gc).flatMap<|aV a b).told=s.told++(gGo n (eW n<|(t,i1,i2,j1,j2)::gc) gr).flatMap (bD a b<|S9 ""):=by
 have br:=aEM v he;cases gc with
 | nil=>
  rw[pZ,E1,O9,D0];exact aOm hn r hh v he lt br
 | cons g gc=>
  have d:=aEX (n:=n) ch;rw[E1];by_cases e:iM n (t,i1,i2,j1,j2)
  .exact aOl hn r hh v he lt br d e λs f r=>ih _ s f r nofun
  .exact aOk hn v he lt br d (λz=>e ⟨he,z⟩) λf=>ih _ _ f (r.add v rfl rfl) nofun
end
theorem sim{n:Int}(hn:0<=n):∀(os gr:List Oc)(s:DS)(f:Int)(e:Bool)(i j:Int),CH a b i j (Na e) os->Rel a b gr s i j ->
  (e=Nd->f=0/\s.hunk≠[]/\¬lE gr)->(e=Nc->os≠[]) ->
  (gK n f s<|os.flatMap<|aV a b).told=s.told++(gGo n (eW n os) gr).flatMap (bD a b<|S9 ""):=by
 intro os;induction os with
 | nil=>
  intro gr s f e i j w r p x;cases e with
  | true=>exact absurd rfl<|x rfl
  | false=>
   obtain⟨_,u,E⟩:=p rfl;simp only[O9,lV,cT,aFW,aB4 E,E1,D0];rw[r.emit u]
 | cons o os B=>
  intro gr s f e i j w r p x;obtain⟨y,A,v,h,g⟩:=(aO0 a b i j (Na e) os).mp w;by_cases d:o.1=eqS
  .rw[if_pos d] at h;obtain⟨C,u,_⟩:=p<|Bool.eq_false_iff.mpr λz=>h.1<|congrArg Na z;rw[C];rw[decide_eq_true d] at g;exact aOj hn (by rw[y,A];exact r) u v d h.2 (λgr s f r J=>B gr s f Nc _ _ g r nofun λO=>J) g
  .rw[if_neg d] at h;have q:=oH v d;rw[E1,aBj hn q.1 q.2];have I:¬iM n o:=λz=>d z.1;have tl:eW n (o::os)=o::eW n os:=by
    cases os with
    | nil=>rw[pZ];unfold dU;rw[if_neg d];rfl
    | cons=>rfl
   rw[tl,dG I];exact B (gr++[o]) {s with hunk:=s.hunk++aV a b o} 0 Nd o.2.2.1 o.2.2.2.2 (by rw[decide_eq_false d] at g;exact g) (r.add v y A) (λO=>⟨rfl,by simp[q.2],sZ r.ne⟩) (by intro z;cases z)
theorem sP{n:Int}{o:Oc}:eW n [o]=[dU n o]:=rfl
theorem aEJ{n:Int}(hn:0<=n){t:Str}(hi:i1=0)(hj:j1=0)(v:CV a b (t,i1,i2,j1,j2))(he:t=eqS)(hlt:i1<i2)(fi:CH a b i2 j2 (Na Nc) gr):(gK n (n+1) ⟨[],[],0,0⟩<|((t,i1,i2,j1,j2)::gr).flatMap<|aV a b).told=(gGo n (eW n<|dP n (t,i1,i2,j1,j2)::gr) []).flatMap (bD a b<|S9 ""):=by
 subst hi hj;have e:=aEM v he;have C:=cB v he;simp only at C;have I:=v.i2;have J:=v.j2;have r:dP n (t,0,i2,0,j2)=(t,bO 0<|i2-n,i2,bO 0<|j2-n,j2):=by unfold dP;rw[if_pos he]
 rw[r];cases gr with
 | nil=>
  rw[sP];have u:dU n (t,bO 0<|i2-n,i2,bO 0<|j2-n,j2)=(t,bO 0<|i2-n,dN i2<|bO 0 (i2-n)+n,bO 0<|j2-n,dN j2<|bO 0 (j2-n)+n):=by unfold dU;rw[if_pos he]
  rw[u,dG<|λz=>uV hn z.2,tL,if_pos<|.inr ⟨rfl,he⟩];have:=qL (n:=n) (rs:=[]) (s:=⟨[],[],0,0⟩) (bV (a:=a) (b:=b) (o:=(t,0,i2,0,j2)) he) (by exact aCd) (by simp only[aAJ];exact aCd);rw[D0] at this;simp only[E1,O9,D0];rw[this,uY];simp[lV,cT,Mine.Internal.emit]
 | cons g gr=>
  have w:=aEX (n:=n) fi;have tl:∀x,eW n (x::g::gr)=x::eW n (g::gr):=λO=>rfl;have E:∀x y,i2-x<=n->¬iM n (t,x,i2,y,j2):=λx y h=>by rintro⟨_,z⟩;simp only at z;exact(l30<|.i bE<|.i (.l dK .a)<|.i (.s (.p .a .a) dK) .f) hn h z
  rw[tl,E1];have T:∀x p:Int,0<=x->x<=i2->0<=p->p<=j2->i2-x=j2-p->CV a b (t,x,i2,p,j2):=λx p a1 N Q R S=>⟨a1,N,I,Q,R,J,.inl ⟨he,S⟩⟩
  by_cases d:i2<=n
  .have m1:bO 0 (i2-n)=0:=by unfold bO;rw[if_neg<|by exact(l20<|.i bF<|.n<|.s aE bG) d]
   have B:bO 0 (j2-n)=0:=by unfold bO;rw[if_neg<|by exact(l30<|.i (.q (.m .c aE) mR)<|.i mN<|.n<|.s aE bG) e d]
   rw[m1,B,dG<|E 0 0<|by exact(l20<|.i bF<|.l mR .b) d,nM (bV he) (by rw[w,C];exact(l20<|.i (.s aE .a)<|.i bF<|.l (.p aE<|.j<|.t mR) .b) hlt d)];have:=sim hn (g::gr) [(t,0,i2,0,j2)] ⟨[],aV a b (t,0,i2,0,j2),0,0⟩ (n+1+((aV a b (t,0,i2,0,j2)).length:Int)) Nc i2 j2 fi (Rel.one v) (by intro z;cases z) (by simp);simp only[I1] at this ⊢;exact this
  .have m1:bO 0 (i2-n)=i2-n:=by unfold bO;rw[if_pos<|by exact(l20<|.i (.n bF)<|.s aE bG) d]
   have B:bO 0 (j2-n)=j2-n:=by unfold bO;rw[if_pos<|by exact(l30<|.i (.q (.m .c aE) mR)<|.i (.n mN)<|.s aE bG) e d]
   rw[m1,B,dG<|E _ _<|by exact l20<|.l (.m .a bG) .b];have M:=T (i2-n) (j2-n) (by exact aNH d) (by exact ar8 hn) (by exact aJU e d) (by exact ar8 hn) (by exact aQs);have U:CV a b (t,0,i2-n,0,j2-n):=⟨by simp,by simp only;exact aNH d,by simp only;exact aJT hn I,by simp,by simp only;exact aJU e d,by simp only;exact aJT hn J,.inl ⟨he,by simp only;exact(l30<|.i (.q mR<|.m .c aE)<|.q (.m bG aE)<|.m lA aE) e⟩⟩
   have l1:=cB U he;have A:=cB M he;simp only at l1 A;rw[fD he (by exact aTg) (by exact aNH d)<|by exact ar8 hn,B5,
    qL (bV he) (by exact aCd) (by rw[uE<|bV he,w,A];exact aJY),nM (bV he) (by rw[w,A];exact aJX hn),uY]
   simp only[I1];have r:(0:Int)+((aV a b (t,0,i2-n,0,j2-n)).length:Int)=i2-n:=by rw[l1];exact(l20<|.i (.n bF)<|.q (.p aE<|.j<|.t<|.m bG aE) bG) d
   have u:(i2-n:Int)=j2-n:=by exact(l30<|.i (.q mR<|.m .c aE)<|.q bG lA) e
   rw[r];have:=sim hn (g::gr) [(t,i2-n,i2,j2-n,j2)] ⟨[],aV a b (t,i2-n,i2,j2-n,j2),i2-n,j2-n⟩ (n+1+((aV a b (t,0,i2-n,0,j2-n)).length:Int)+((aV a b (t,i2-n,i2,j2-n,j2)).length:Int)) Nc i2 j2 fi (Rel.one M) (by intro z;cases z) (by simp);rw[← u] at this ⊢;rw[this];simp
theorem rT(hn:0<=i)(b7:List Oc)(ch:CH a b 0 0 Nb b7):(gK i (i+1) ⟨[],[],0,0⟩<|b7.flatMap<|aV a b).told=(eR i b7).flatMap (bD a b<|S9 ""):=by
 unfold eR;cases b7 with
 | nil=>
  have:gGo i (tK i<|dY []) []=[]:=by
   unfold dY;rw[List.isEmpty_nil,if_pos rfl,rN];have p:dP i (S9 "equal",0,1,0,1)=(eqS,bO 0<|1-i,1,bO 0<|1-i,1):=by unfold dP;rw[if_pos rfl]
   rw[p,sP];have q:dU i (eqS,bO 0<|1-i,1,bO 0<|1-i,1)=(eqS,bO 0<|1-i,dN 1<|bO 0 (1-i)+i,bO 0<|1-i,dN 1<|bO 0 (1-i)+i):=by unfold dU;rw[if_pos rfl]
   rw[q,dG<|λz=>uV hn z.2,tL,if_pos<|.inr ⟨rfl,rfl⟩]
  rw[this];simp[lV,cT,Mine.Internal.emit]
 | cons o os=>
  have r:dY (o::os)=o::os:=by unfold dY;rw[List.isEmpty_cons,if_neg Bool.false_ne_true]
  rw[r,rN];obtain⟨j,n,v,h,e⟩:=(aO0 ..).mp ch;by_cases d:o.1=eqS
  .rw[if_pos d] at h;rw[decide_eq_true d] at e;exact aEJ hn j n v d h.2 e
  .rw[if_neg d] at h;have u:dP i o=o:=by unfold dP;rw[if_neg d]
   have g:=oH v d;have w:¬iM i o:=λz=>d z.1;have tl:eW i (o::os)=o::eW i os:=by
    cases os with
    | nil=>rw[pZ];unfold dU;rw[if_neg d];rfl
    | cons=>rfl
   rw[u,tl,dG w,E1,aBj hn g.1 g.2];have:=sim hn os [o] ⟨[],aV a b o,o.2.1,o.2.2.2.1⟩ 0 Nd o.2.2.1 o.2.2.2.2 (by rw[decide_eq_false d] at e;exact e) (Rel.one v) (λO=>⟨rfl,g.2,aBG d⟩) (by intro z;cases z);rw[j,n] at this;exact this
theorem aBu:∀gs:List<|List Oc,oB a b ff tf x Nc gs=gs.flatMap (bD a b x):=by
 intro gs;induction gs with
 | nil=>
  exact rfl
 | cons e gs d=>
  rw[yC,if_pos rfl,I1,d,E1]
theorem aKP:sO D6 D6 (S9 "")=[S9 "--- ",S9 "+++ "]:=by decide +kernel
theorem aFV(gs:List<|List Oc):oB a b D6 D6 (S9 "") Nd gs=if (gs.flatMap<|bD a b<|S9 "").isEmpty then [] else [S9 "--- ",S9 "+++ "]++gs.flatMap (bD a b<|S9 ""):=by
 cases gs with
 | nil=>rfl
 | cons d gs=>
  rw[yC,if_neg Bool.false_ne_true,aBu,aKP,E1];have:(bD a b (S9 "") d++gs.flatMap (bD a b<|S9 "")).isEmpty=false:=by unfold bD;simp
  rw[this,if_neg Bool.false_ne_true]
def WC(la lb:Int)(x0:Int)(x1:Int)(x2:List Oc):Prop:=
 List.rec (motive:=λO=>Int->Int->Prop) (λO O=>True) (λo os a i j=>o.2.1=i/\o.2.2.2.1=j/\i<=o.2.2.1/\o.2.2.1<=la/\j<=o.2.2.2.2/\o.2.2.2.2<=lb/\(a o.2.2.1 o.2.2.2.2)) x2 x0 x1
theorem aNQ(la lb:Int)(i:Int)(j:Int){o}(os:List Oc):WC la lb i j (o::os)=(o.2.1=i/\o.2.2.2.1=j/\i<=o.2.2.1/\o.2.2.1<=la/\j<=o.2.2.2.2/\o.2.2.2.2<=lb/\WC la lb o.2.2.1 o.2.2.2.2 os):=rfl
theorem CH.wc:∀{os:List Oc}{i j:Int}{e:Option Bool},CH a b i j e os->WC a.length b.length i j os:=by
 intro os;induction os with
 | nil=>
  intro _ _ _ _;exact trivial
 | cons o os n=>
  rintro i j e ⟨d,g,v,_,h⟩;exact⟨d,g,d▸v.i1,v.i2,g▸v.j1,v.j2,n h⟩
theorem WC.trim(hn:0<=lo):∀{os:List Oc}{i j:Int},WC la lb i j os->WC la lb i j (eW lo os):=by
 intro os;induction os with
 | nil=>intro _ _ _;trivial
 | cons o os q=>
  intro i j h;obtain⟨a,b,d,g,e,n,p⟩:=(aNQ ..).mp h;cases os with
  | nil=>
   rw[pZ];unfold dU;split
   .exact(aNQ ..).mpr ⟨a,b,(jS hn a d).1,E5 (jS hn a d).2 g,(jS hn b e).1,E5 (jS hn b e).2 n,trivial⟩
   .exact h
  | cons r os=>exact(aNQ ..).mpr ⟨a,b,d,g,e,n,q p⟩
theorem WC.first{n:Int}(hn:0<=n){o:Oc}(w:WC la lb i j<|o::gr):Ex2 λi' j'=>i<=i'/\j<=j'/\WC la lb i' j' (dP n o::gr):=by
 obtain⟨a,b,d,g,e,h,p⟩:=w;unfold dP;split
 .obtain⟨t,q,r,u,x⟩:=o;simp only at *;exact⟨bO q<|r-n,bO u<|x-n,(jT hn a d).1,(jT hn b e).1,rfl,rfl,(jT hn a d).2,g,(jT hn b e).2,h,p⟩
 .exact⟨i,j,C2 _,C2 _,a,b,d,g,e,h,p⟩
variable{first:List A3}
structure GI(gr:List Oc)(i j:Int):Prop where
 i0:gr≠[]->0<=(gr.getD 0 default).2.1/\(gr.getD 0 default).2.1<=i/\(gr.getD (gr.length-1) default).2.2.1=i
 j0:gr≠[]->0<=(gr.getD 0 default).2.2.2.1/\(gr.getD 0 default).2.2.2.1<=j/\(gr.getD (gr.length-1) default).2.2.2.2=j
theorem GI.add{o:Oc}(g:GI gr i j)(hi:0<=i)(hj:0<=j)(h1:o.2.1=i)(h2:o.2.2.2.1=j)(h3:o.2.2.1=lo)(h4:o.2.2.2.2=i1)(h5:i<=lo)(h6:j<=i1):GI (gr++[o]) lo i1:=by
 by_cases a:gr=[]
 .subst a;refine⟨λO=>?_,λO=>?_⟩
  .simp only[I1,List.getD_cons_zero];exact aJS hi h1 h3 h5
  .simp only[I1,List.getD_cons_zero];exact aJS hj h2 h4 h6
 .have a1:=g.i0 a;have b:=g.j0 a;refine⟨λO=>?_,λO=>?_⟩
  .rw[kE a,kD];exact aJR h3 h5 a1
  .rw[kE a,kD];exact aJR h4 h6 b
theorem aE4(g:GI gr i j)(ne:gr≠[])(hl:gr.length<=1000)(hi:i<1000000000)(hj:j<1000000000):GOk a b gr:=by
 have a1:=g.i0 ne;have d:=g.j0 ne;exact⟨ne,hl,a1.1,aJQ a1,aJP hi a1,d.1,aJQ d,aJP hj d⟩
theorem aMH{n:Int}(hn:0<=n)(hla:la<1000000000)(hlb:lb<1000000000):∀(os gr:List Oc)(i j:Int),WC la lb i j os->0<=i->0<=j->i<=la->j<=lb->GI gr i j->gr.length+os.length<=1000->∀g∈gGo n os gr,GOk a b g
 :=by
 intro os;induction os with
 | nil=>
  intro gr i j w A B Q R g C x d;rw[tL] at d;split at d
  .cases d
  .next V=>
   rw[C6] at d;subst d;exact aE4 g (λz=>V<|.inl z) (by simpa using C) (aJO hla Q)<|aJO hlb R
 | cons o os U=>
  rintro gr i j ⟨u,y,q,M,r,N,S⟩ A B Q R g C x d;simp only[D1] at C;by_cases T:iM n o
  .rw[aB5 T] at d;obtain⟨t,E,e,I,h⟩:=o;simp only at *;obtain rfl|d:=A8.mp d
   .have m1:i<=dN e (E+n)/\dN e (E+n)<=e:=⟨(jS hn u q).1,(jS hn u q).2⟩
    have J:j<=dN h (I+n)/\dN h (I+n)<=h:=⟨(jS hn y r).1,(jS hn y r).2⟩
    exact aE4 (g.add A B u y rfl rfl m1.1 J.1) (by simp) (by simp;exact(l02<|.i (.L gM dA)<|.L .a<|.k 999) C) (aJN hla M m1) (aJN hlb N J)
   .have m1:i<=bO E (e-n)/\bO E (e-n)<=e:=⟨(jT hn u q).1,(jT hn u q).2⟩
    have J:j<=bO I (h-n)/\bO I (h-n)<=h:=⟨(jT hn y r).1,(jT hn y r).2⟩
    exact U _ e h S (ar6 A q) (ar6 B r) M N ⟨λO=>⟨by show 0<=bO E (e-n);exact aJM A m1,by show bO E (e-n)<=e;exact aJL m1,rfl⟩,λO=>⟨by show 0<=bO I (h-n);exact aJM B J,by show bO I (h-n)<=h;exact aJL J,rfl⟩⟩ (by simp;exact(l02<|.i (.L (.p .b aR) dA)<|.L (.p aC .a) dA) C) x d
  .rw[dG T] at d;exact U _ o.2.2.1 o.2.2.2.2 S (aQY q A) (aQY r B) M N (g.add A B u y rfl rfl q r) (by simp;exact(l02<|.i (.L gM dA)<|.L iW dA) C) x d
theorem aBv(os:List Oc):(eW i os).length=os.length:=by
 induction os with
 | nil=>rfl
 | cons o os a=>
  cases os with
  | nil=>rfl
  | cons b os=>exact congrArg (·+1) a
theorem aBR(hn:0<=lo)(ha:a.length<=1000000)(hb:b.length<=1000000)(ch:CH a b 0 0 Nb b7)(hl:b7.length<=1000):∀g∈eR lo b7,GOk a b g:=by
 unfold eR;cases b7 with
 | nil=>
  have:=rT hn [] ch;intro g A;simp[lV,cT,Mine.Internal.emit] at this;have:=this g A;unfold bD at this;cases this
 | cons o os=>
  have y:dY (o::os)=o::os:=rfl;rw[y,rN];obtain⟨e,h,n,p,w⟩:=ch.wc.first hn
  have B:=w.trim hn;have j:e<=a.length/\h<=b.length:=by
   obtain⟨_,_,q,r,u,x,_⟩:=w;exact(l42<|.i (.l .a .c)<|.i (.l .c aF)<|.i (.l .b .d)<|.i (.l .d aN)<|.o gF<|.l .b aN) q r u x
  exact aMH hn (aJK ha) (aJK hb) _ _ e h B n p j.1 j.2 ⟨λz=>absurd rfl z,λz=>absurd rfl z⟩ (by rw[aBv];simpa using hl)
noncomputable def miR(l:List Str):aH:=l.map λx=>(S9 "-",x)
noncomputable def plR(l:List Str):aH:=l.map λx=>(S9 "+",x)
def spR(l:List Str):aH:=l.map λx=>(spS,x)
def fJ(a b:List Str)(x0:Int)(x1:Int)(x2:List T3):aH:=
 List.rec (motive:=λO=>Int->Int->aH) (λi j=>miR (sl a i a.length)++plR (sl b j b.length)) (λt e d i j=>miR (sl a i t.1)++plR (sl b j t.2.1)++spR (sl a t.1<|t.1+t.2.2)++(d (t.1+t.2.2)<|t.2.1+t.2.2)) x2 x0 x1
theorem mI(a b:List Str)(i:Int)(j:Int):fJ a b i j []=(miR (sl a i a.length)++plR (sl b j b.length)):=rfl
theorem hK(a b:List Str)(i:Int)(j:Int){t}(ts:List T3):fJ a b i j (t::ts)=(miR (sl a i t.1)++plR (sl b j t.2.1)++spR (sl a t.1<|t.1+t.2.2)++fJ a b (t.1+t.2.2) (t.2.1+t.2.2) ts):=rfl
def SB(la lb:Int):Int->Int->List T3->Prop
 | i,j,[]=>i<=la/\j<=lb
 | i,j,t::ts=>i<=t.1/\j<=t.2.1/\1<=t.2.2/\SB la lb (t.1+t.2.2) (t.2.1+t.2.2) ts
theorem SB.le:∀{ts:List T3}{i j:Int},SB la lb i j ts->i<=la/\j<=lb:=by
 intro ts;induction ts with
 | nil=>
  intro _ _ h;exact h
 | cons t ts d=>
  rintro i j ⟨e,g,a,b⟩;exact⟨E5 e<|E5 (G7<|W8 a) (d b).1,E5 g<|E5 (G7<|W8 a) (d b).2⟩
def naR(la lb:Int)(x0:T3)(x1:List T3):List T3:=
 List.rec (motive:=λO=>T3->List T3) (λc=>(if c.2.2=0 then [] else [c])++[(la,lb,0)]) (λt b a c=>if c.1+c.2.2=t.1/\c.2.1+c.2.2=t.2.1 then (a (c.1,c.2.1,c.2.2+t.2.2)) else (if c.2.2=0 then [] else [c])++(a t)) x1 x0
theorem aIQ(la lb:Int)(c:T3):naR la lb c []=((if c.2.2=0 then [] else [c])++[(la,lb,0)]):=rfl
theorem aIR(la lb:Int)(c:T3){t}(ts:List T3):naR la lb c (t::ts)=(if c.1+c.2.2=t.1/\c.2.1+c.2.2=t.2.1 then naR la lb (c.1,c.2.1,c.2.2+t.2.2) ts else (if c.2.2=0 then [] else [c])++naR la lb t ts):=rfl
theorem aM2(la lb:Int):∀(ts:List T3)(c:T3)(aw:List T3),kX la lb (ts.foldl dX (c,aw))=aw++naR la lb c ts
 :=by
 intro ts;induction ts with
 | nil=>
  rintro c aw;simp only[kX,aIQ];by_cases h:c.2.2=0 <;> simp[h]
 | cons t ts a=>
  rintro c aw;rw[M7,aIR];by_cases h:c.1+c.2.2=t.1/\c.2.1+c.2.2=t.2.1
  .have e:dX (c,aw) t=((c.1,c.2.1,c.2.2+t.2.2),aw):=by unfold dX;rw[if_pos h]
   rw[e,if_pos h];exact a _ aw
  .have e:dX (c,aw) t=(t,if c.2.2=0 then aw else aw++[c]):=by unfold dX;rw[if_neg h]
   rw[e,if_neg h,a t];by_cases h:c.2.2=0 <;> simp[h]
def chg(i j p q:Int):List Oc:=if (gZ i j (p,q,0)).length=0 then [] else [(gZ i j (p,q,0),i,p,j,q)]
def opR(x0:Int)(x1:Int)(x2:List T3):List Oc:=
 List.rec (motive:=λO=>Int->Int->List Oc) (λO O=>[]) (λt b a i j=>chg i j t.1 t.2.1++(if t.2.2=0 then [] else [(eqS,t.1,t.1+t.2.2,t.2.1,t.2.1+t.2.2)])++(a (t.1+t.2.2)<|t.2.1+t.2.2)) x2 x0 x1
theorem aIJ(x0:Int)(x1:Int):opR x0 x1 []=([]):=rfl
theorem aAF(i:Int)(j:Int){t}(ts:List T3):opR i j (t::ts)=(chg i j t.1 t.2.1++(if t.2.2=0 then [] else [(eqS,t.1,t.1+t.2.2,t.2.1,t.2.1+t.2.2)])++opR (t.1+t.2.2) (t.2.1+t.2.2) ts):=rfl
theorem aLM:∀(ts:List T3)(i j:Int)(aw:List Oc),(ts.foldl fK ((i,j),aw)).2=aw++opR i j ts
 :=by
 intro ts;induction ts with
 | nil=>
  rintro i j aw;simp[aIJ]
 | cons t ts d=>
  rintro i j aw;have e:fK ((i,j),aw) t=((t.1+t.2.2,t.2.1+t.2.2),aw++(chg i j t.1 t.2.1++(if t.2.2=0 then [] else [(eqS,t.1,t.1+t.2.2,t.2.1,t.2.1+t.2.2)]))):=by
   have e:gZ i j t=gZ i j (t.1,t.2.1,0):=rfl;unfold fK chg;simp only[e];by_cases a:(gZ i j (t.1,t.2.1,0)).length=0 <;> by_cases b:t.2.2=0 <;> simp[a,b]
  rw[M7,e,d,aAF];simp
theorem aDn(la lb:Int)(ts:List T3):hX (bW la lb ts)=opR 0 0 (naR la lb (0,0,0) ts):=by
 unfold hX bW;rw[aM2,aLM,I1,I1]
theorem aA3{p q:Int}(i0:0<=i)(j0:0<=j)(hi:i<=p)(hj:j<=q)(hp:p<=a.length)(hq:q<=b.length):(i=p/\j=q/\chg i j p q=[])\/((i<p\/j<q)/\∃o,chg i j p q=[o]/\CV a b o/\o.1≠eqS/\o.2.1=i/\o.2.2.1=p/\o.2.2.2.1=j/\o.2.2.2.2=q):=by
 unfold chg gZ;by_cases e:i<p
 .by_cases d:j<q
  .right
   simp only[e,d,and_self];exact⟨.inl trivial,_,rfl,⟨i0,hi,hp,j0,hj,hq,.inr<|.inl ⟨rfl,e,d⟩⟩,aDs,rfl,rfl,rfl,rfl⟩
  .right
   have:j=q:=aNG hj d;simp only[e,d];exact⟨.inl trivial,_,rfl,⟨i0,hi,hp,j0,hj,hq,.inr<|.inr<|.inl ⟨rfl,e,this⟩⟩,aDu,rfl,rfl,rfl,rfl⟩
 .have g:i=p:=aNG hi e;by_cases d:j<q
  .right
   simp only[e,d];exact⟨.inr trivial,_,rfl,⟨i0,hi,hp,j0,hj,hq,.inr<|.inr<|.inr ⟨rfl,g,d⟩⟩,aDt,rfl,rfl,rfl,rfl⟩
  .left
   simp only[e,d];exact⟨g,aNG hj d,rfl⟩
theorem xI(i0:0<=i)(j0:0<=j)(hi:i<=lo)(hj:j<=i1)(hp:lo<=a.length)(hq:i1<=b.length):(chg i j lo i1).flatMap (aV a b)=miR (sl a i lo)++plR (sl b j i1):=by
 obtain⟨rfl,rfl,e⟩|⟨_,o,e,v,d,rfl,rfl,rfl,rfl⟩:=aA3 i0 j0 hi hj hp hq
 .rw[e,fX i0,fX j0];rfl
 .rw[e,E1,O9,D0,qY v d];rfl
theorem CH.chg{p q:Int}{e:Option Bool}(i0:0<=i)(j0:0<=j)(hi:i<=p)(hj:j<=q)(hp:p<=a.length)(hq:q<=b.length)(he:e≠Na Nd)(hh:e=Na Nc->i<p\/j<q)(k:∀e',e'≠Na Nc->CH a b p q e' gr):CH a b i j e<|Mine.Internal.chg i j p q++gr:=by
 obtain⟨rfl,rfl,d⟩|⟨_,o,d,v,g,rfl,rfl,rfl,rfl⟩:=aA3 i0 j0 hi hj hp hq
 .rw[d,I1];exact k e λz=>(hh z).elim (Int.lt_irrefl _) (Int.lt_irrefl _)
 .rw[d];refine⟨rfl,rfl,v,by rw[if_neg g];exact he,?_⟩;rw[decide_eq_false g];exact k _<|by simp
theorem CH.eq{k:Int}{e:Option Bool}(i0:0<=i)(j0:0<=j)(hk:1<=k)(hp:i+k<=a.length)(hq:j+k<=b.length)(he:e≠Na Nc)(q:CH a b (i+k) (j+k) (Na Nc) gr):CH a b i j e<|(eqS,i,i+k,j,j+k)::gr:=by
 refine⟨rfl,rfl,⟨i0,by simp only;exact ar9 hk,hp,j0,by simp only;exact ar9 hk,hq,.inl ⟨rfl,by simp only;exact aId⟩⟩,?_,?_⟩
 .rw[if_pos rfl];exact⟨he,by simp only;exact(l20<|.i gN<|.s .a bB) hk⟩
 .rw[decide_eq_true rfl];exact q
theorem aGk:aV a b (eqS,i,lo,j,hi)=spR (sl a i lo):=fZ rfl
theorem aER:∀(ts:List T3)(c:T3)(i j:Int)(e:Option Bool),0<=i->0<=j->i<=c.1->j<=c.2.1->0<=c.2.2->SB a.length b.length (c.1+c.2.2) (c.2.1+c.2.2) ts->e≠Na Nd->(e=Na Nc->i<c.1\/j<c.2.1)->(c.2.2=0->c.1=i/\c.2.1=j/\e=Nb) ->
  CH a b i j e (opR i j<|naR a.length b.length c ts)/\(opR i j<|naR a.length b.length c ts).flatMap (aV a b)=miR (sl a i c.1)++plR (sl b j c.2.1)++spR (sl a c.1<|c.1+c.2.2)++fJ a b (c.1+c.2.2) (c.2.1+c.2.2) ts:=by
 intro ts;have step:∀(c:T3)(i j:Int)(e:Option Bool)(os:List Oc)(r:aH),0<=i->0<=j->i<=c.1->j<=c.2.1->1<=c.2.2->c.1+c.2.2<=a.length->c.2.1+c.2.2<=b.length->e≠Na Nd->(e=Na Nc->i<c.1\/j<c.2.1) ->
   CH a b (c.1+c.2.2) (c.2.1+c.2.2) (Na Nc) os->os.flatMap (aV a b)=r ->
   CH a b i j e (Mine.Internal.chg i j c.1 c.2.1++[(eqS,c.1,c.1+c.2.2,c.2.1,c.2.1+c.2.2)]++os)/\(Mine.Internal.chg i j c.1 c.2.1++[(eqS,c.1,c.1+c.2.2,c.2.1,c.2.1+c.2.2)]++os).flatMap (aV a b)=miR (sl a i c.1)++plR (sl b j c.2.1)++spR (sl a c.1<|c.1+c.2.2)++r:=by
  intro c i j e os r g h u x hk R S A M Z N;constructor
  .rw[B5];exact CH.chg g h u x (by exact aIc hk R) (by exact aIc hk S) A M λe' ui=>CH.eq (by exact ar6 g u) (by exact ar6 h x) hk R S ui Z
  .rw[L9,L9,xI g h u x (by exact aIc hk R)<|by exact aIc hk S,N,E1,O9,D0,aGk]
 have Y:∀(i j:Int)(e:Option Bool),0<=i->0<=j->i<=a.length->j<=b.length->e≠Na Nd->(e=Na Nc->i<a.length\/j<b.length\/(i=a.length/\j=b.length)) ->
   CH a b i j e (opR i j [((a.length:Int),(b.length:Int),0)])/\(opR i j [((a.length:Int),(b.length:Int),0)]).flatMap (aV a b)=miR (sl a i a.length)++plR (sl b j b.length):=by
  intro i j e g h u x A _;simp only[aIJ,aAF,if_true,D0];constructor
  .obtain⟨I,J,O⟩|⟨_,o,O,v,ne,rfl,I,rfl,J⟩:=aA3 g h u x (C2 _) (C2 _)
   .rw[O];exact⟨I,J⟩
   .rw[O];exact⟨rfl,rfl,v,by rw[if_neg ne];exact A,I,J⟩
  .exact xI g h u x (C2 _)<|C2 _
 induction ts with
 | nil=>
  intro c i j e g h u x hk sb A M T;simp only[aIQ,mI];obtain⟨B,C⟩:=sb;split
  .next z=>
   obtain⟨I,J,Q⟩:=T z;have:=Y i j e g h (E5 u<|E5 (G7 hk) B) (E5 x<|E5 (G7 hk) C) A (by intro y;rw[Q] at y;cases y);rw[I1];refine⟨this.1,this.2.trans ?_⟩;rw[z,K1,K1,I,J,fX g,fX h];rfl
  .next z=>
   have V:=Y (c.1+c.2.2) (c.2.1+c.2.2) (Na Nc) (by exact aIb g u hk) (by exact aIb h x hk) (by exact B) (by exact C) (by simp) (by intro _;exact(l32<|.i rK<|.i (.l jO aN)<|.w (.s bB aF)<|.w (.s jO aN)<|.o (.q bB aF)<|.q jO aN) B C);have:=step c i j e _ _ g h u x (by exact aNK hk z) (by exact B) C A M V.1 V.2;rw[List.singleton_append,aAF,if_neg z];exact this
 | cons t ts U=>
  intro c i j e g h u x hk sb A M T;obtain⟨B,C,E,s4⟩:=sb;have le:=s4.le;simp only[aIR,hK];split
  .next ad=>
   have:=U (c.1,c.2.1,c.2.2+t.2.2) i j e g h u x (by simp only;exact(l20<|.i bE<|.i gN<|.l aE bB) hk E) (by
    rw[show c.1+(c.2.2+t.2.2)=t.1+t.2.2 by exact aJJ ad,show c.2.1+(c.2.2+t.2.2)=t.2.1+t.2.2 by exact aJI ad];exact s4) A M<|λz=>absurd (Int.add_le_add hk E) (by rw[show c.2.2+t.2.2=0 from z];decide)
   refine⟨this.1,this.2.trans ?_⟩;rw[show c.1+(c.2.2+t.2.2)=t.1+t.2.2 by exact aJJ ad,show c.2.1+(c.2.2+t.2.2)=t.2.1+t.2.2 by exact aJI ad,ad.1,ad.2,fX<|by exact(l60<|.i bU<|.i (.l .b .c)<|.i mQ<|.i (.o (.q kZ .a)<|.q (.p .e .d) .f) bE) g u hk ad,fX<|by exact(l60<|.i bU<|.i (.l .b .c)<|.i mQ<|.i (.o (.q (.p .e .d) .f)<|.q kZ .a) bE) h x hk ad];rw[vX (i:=c.1) (m:=t.1) (ar6 g u) ((l50<|.i iY<|.i (.o (.q iV .b)<|.q lB .e) bF) hk ad)<|ar9 E];simp[spR,miR,plR]
  .next ad=>
   split
   .next z=>
    obtain⟨I,J,Q⟩:=T z;have:=U t i j e g h (E5 u<|E5 (G7 hk) B) (E5 x<|E5 (G7 hk) C) (tS E) s4 A (by intro y;rw[Q] at y;cases y) (λy=>absurd E (by rw[y];decide));refine⟨this.1,this.2.trans ?_⟩;rw[z,K1,I,J,fX g,fX h];simp[spR,miR,plR]
   .next z=>
    have N:=U t (c.1+c.2.2) (c.2.1+c.2.2) (Na Nc) (aIb g u hk) (aIb h x hk) B C (tS E) s4 (by simp) (by intro _;exact(l50<|.i iX<|.i (.l (.p .d .b) .e)<|.i (.n<|.o (.q bB .c)<|.q (.p .d .b) .e)<|.w lD<|.s (.p .d .b) .e) B C ad) (λy=>absurd E (by rw[y];decide));have:=step c i j e _ _ g h u x (aNK hk z) ((l52<|.i iX<|.i (.l aC .d)<|.i (.o (.l kZ aF)<|.l (.p .e .d) aN) rK) B E le) ((l52<|.i iX<|.i (.l aC .d)<|.i (.o (.l (.p .e .d) aN)<|.l kZ aF) rK) C E le) A M N.1 N.2;rw[List.singleton_append,aAF,if_neg z];exact this
theorem aC4(sb:SB a.length b.length 0 0 aw):CH a b 0 0 Nb (hX<|bW a.length b.length aw)/\(hX<|bW a.length b.length aw).flatMap (aV a b)=fJ a b 0 0 aw:=by
 rw[aDn];have:=aER aw (0,0,0) 0 0 Nb (C2 _) (C2 _) (C2 _) (C2 _) (C2 _) (by simpa using sb) (by simp) (by simp) (by simp);refine⟨this.1,this.2.trans ?_⟩;simp[fX,miR,plR,spR]
theorem wX:∀{xs:List Str}{k q:Int},q∈oQ k xs x↔k<=q/\q<k+xs.length/\xs[(q-k).toNat]?=Na x
 :=by
 intro xs;induction xs with
 | nil=>intro k q;simp[zJ]
 | cons y d j=>
  intro k q;have g:q=k->(y::d)[(q-k).toNat]?=Na y:=λe=>by rw[e,Int.sub_self];rfl
  have tl:k+1<=q->(y::d)[(q-k).toNat]?=d[(q-(k+1)).toNat]?:=λh=>by
   rw[show(q-k).toNat=(q-(k+1)).toNat+1 by exact(l20<|.i (.l bJ .a)<|.Q cV<|.p (.t<|.m .a bJ) aC) h];rfl
  simp only[oP,D1];split
  .next e=>
   rw[A8,j];constructor
   .rintro(h | ⟨h1,h2,h3⟩)
    .exact⟨(l20<|.i (.q .b .a) bF) h,(l21<|.i iD<|.s .a<|.p .b cR) h,by rw[g h,e]⟩
    .exact⟨aJH h1,aJG h2,by rw[tl h1];exact h3⟩
   .rintro⟨h1,h2,h3⟩;by_cases h:q=k
    .exact .inl h
    .exact .inr ⟨aIk h1 h,aQP h2,by rw[← tl<|aIk h1 h];exact h3⟩
  .next e=>
   rw[j];constructor
   .rintro⟨h1,h2,h3⟩;exact⟨aJH h1,aJG h2,by rw[tl h1];exact h3⟩
   .rintro⟨h1,h2,h3⟩;by_cases h:q=k
    .rw[g h] at h3;cases h3;exact absurd rfl e
    .exact⟨aIk h1 h,aQP h2,by rw[← tl<|aIk h1 h];exact h3⟩
theorem aBm:i∈bix b x↔0<=i/\i<b.length/\b[i.toNat]?=Na x/\oJ b x=false:=by
 unfold bix;split
 .next h=>exact⟨(λz=>nomatch z),λz=>by rw[z.2.2.2] at h;cases h⟩
 .next h=>
  rw[wX,S7,Int.sub_zero];exact Iff.intro (λz=>⟨z.1,z.2.1,z.2.2,Bool.eq_false_iff.mpr h⟩)<|λz=>⟨z.1,z.2.1,z.2.2.1⟩
theorem wW:∀{xs:List Str}{k:Int},(oQ k xs x).Pairwise (·<·)
 :=by
 intro xs;induction xs with
 | nil=>
  rintro k;exact .nil
 | cons y e a=>
  rintro k;simp only[oP];split
  .refine W2.mpr ⟨λq d=>?_,a⟩;have:=(wX.mp d).1;exact(l20<|.i (.l aR .b) cC) this
  .exact a
theorem aA6:(bix b x).Pairwise (·<·):=by
 unfold bix;split
 .exact .nil
 .exact wW
abbrev mq(a b:List Str)(p q:Nat):Prop:=a[p]?=b[q]?/\(b[q]?).all (λy=>!oJ b y)=Nc
section
variable(a b:List Str)(aa ac af:Int)
def Lr(d:Nat):Int->Int:=
 Y9 (motive:=λO=>Int->Int) (λj=>if ac<=j/\j<af/\mq a b aa.toNat j.toNat then 1 else 0) (λd e j=>if ac<=j/\j<af/\mq a b (aa.toNat+(d+1)) j.toNat then e (j-1)+1 else 0) d
theorem aRe(j:Int):Lr a b aa ac af 0 j=if ac<=j/\j<af/\mq a b aa.toNat j.toNat then 1 else 0:=rfl
theorem aRd(d:Nat)(j:Int):Lr a b aa ac af (d+1) j=if ac<=j/\j<af/\mq a b (aa.toNat+(d+1)) j.toNat then Lr a b aa ac af d (j-1)+1 else 0:=rfl
def Lp(d:Nat)(j:Int):Int:=Y9 (motive:=λO=>Int) 0 (λd O=>Lr a b aa ac af d j) d
theorem nW(d:Nat)(j:Int):Lr a b aa ac af d j=if ac<=j/\j<af/\mq a b (aa.toNat+d) j.toNat then Lp a b aa ac af d (j-1)+1 else 0:=by
 cases d <;> rfl
theorem aKy:∀(d:Nat)(j:Int),0<=Lr a b aa ac af d j
 :=by
 intro d;induction d with
 | zero=>
  rintro j;rw[aRe];split
  .decide
  .exact C2 _
 | succ d e=>
  rintro j;rw[aRd];have:=e<|j-1;split
  .exact Int.add_nonneg this (by decide)
  .exact C2 _
theorem aRf(d:Nat)(j:Int):0<=Lp a b aa ac af d j:=by
 cases d with
 | zero=>exact C2 _
 | succ d=>exact aKy a b aa ac af d j
noncomputable def aRl(d:Nat)(c:Int)(t:T3):Prop:=1<=t.2.2->∃e:Nat,t.1+t.2.2-1=aa+e/\(e<d\/(e=d/\t.2.1+t.2.2-1<c))/\Lr a b aa ac af e (t.2.1+t.2.2-1)=t.2.2
noncomputable def aRm(d:Nat)(c:Int)(t:T3):Prop:=∀(e:Nat)(q:Int),(e<d\/(e=d/\q<c))->Lr a b aa ac af e q<=t.2.2/\(Lr a b aa ac af e q=t.2.2->1<=t.2.2->t.1+t.2.2-1<aa+e\/(t.1+t.2.2-1=aa+e/\t.2.1+t.2.2-1<=q))
structure BIt(d:Nat)(c:Int)(t:T3):Prop where
 k0:0<=t.2.2
 z:t.2.2=0->t=(aa,ac,0)
 s:aRl a b aa ac af d c t
 m:aRm a b aa ac af d c t
variable{a b aa ac af}
theorem BIt.more{t:T3}(B:BIt a b aa ac af C j t)(h:j<=lo)(hz:∀q,j<=q->q<lo->Lr a b aa ac af C q=0):BIt a b aa ac af C lo t:=by
 refine⟨B.k0,B.z,λg=>?_,λe q y=>?_⟩
 .obtain⟨e,p,u,x⟩:=B.s g;exact⟨e,p,(l42<|.i (.l .d .c)<|.i (.w dT<|.o bH<|.s iZ .d) aDN) h u,x⟩
 .by_cases r:e<C\/(e=C/\q<j)
  .exact B.m e q r
  .have:e=C/\j<=q/\q<lo:=(l32<|.i (.w dT<|.o bH<|.s .b .c)<|.i (.n<|.w dT<|.o bH gD)<|.o bH<|.o bF<|.s .b .c) y r;obtain⟨rfl,g,p⟩:=this;have:=B.k0;rw[hz q g p];exact⟨this,λA E=>aFf A E⟩
theorem BIt.step{c:Int}{t:T3}(B:BIt a b aa ac af C c t)(hi:i=aa+C):BIt a b aa ac af C (c+1) (if Lr a b aa ac af C c>t.2.2 then (i-Lr a b aa ac af C c+1,c-Lr a b aa ac af C c+1,Lr a b aa ac af C c) else t):=by
 have x:=B.k0;split
 .next h=>
  refine⟨by simp only;exact(l20<|.i bU<|.i gD bE) x h,λz=>absurd z<|Int.ne_of_gt<|Int.lt_of_le_of_lt x h,λO=>⟨C,by simp only;exact(l31<|.i (.q .a<|.p .c aF)<|.q wT<|.p .c aF) hi,.inr ⟨rfl,by simp only;exact l20<|.s wT aR⟩,?_⟩,λe q u=>?_⟩
  .show Lr a b aa ac af C (c-Lr a b aa ac af C c+1+Lr a b aa ac af C c-1)=_;rw[show c-Lr a b aa ac af C c+1+Lr a b aa ac af C c-1=c by exact l20<|.q wT .a]
  .simp only;by_cases g:e<C\/(e=C/\q<c)
   .have:=(B.m e q g).1;exact⟨aR1 h this,λz=>absurd z<|Int.ne_of_lt<|Int.lt_of_le_of_lt this h⟩
   .have:e=C/\q=c:=aJx u g;obtain⟨rfl,rfl⟩:=this;exact⟨C2 _,λO O=>(l41<|.i (.q .a<|.p .c aF)<|.w (.s wT<|.p .c aF)<|.o (.q wT<|.p .c aF)<|.l (.m (.p (.p (.m .d .b) aC) .b) aC) .d) hi⟩
 .next h=>
  refine⟨x,B.z,λj=>?_,λe q u=>?_⟩
  .obtain⟨e,n,r,y⟩:=B.s j;exact⟨e,n,(l32<|.i aDN<|.w dT<|.o bH<|.s iZ cD) r,y⟩
  .by_cases g:e<C\/(e=C/\q<c)
   .exact B.m e q g
   .have:e=C/\q=c:=aJx u g;obtain⟨rfl,rfl⟩:=this;refine⟨xP h,λO j=>?_⟩;obtain⟨A,n,r,y⟩:=B.s j;exact(l52<|.i (.q iZ<|.p .c aN)<|.i (.w (.S .b .a)<|.o (.Q .b .a)<|.s (.m (.p .d .b) aC) .e) aIX) n r
theorem aDY(hi:i=aa+C)(ho:∀j,(old j).getD 0=Lp a b aa ac af C j):∀(js:List Int)(c:Int)(st:Jm×T3),ac<=c->js.Pairwise (·<·)->(∀q∈js,ac<=q->q<af->c<=q/\mq a b (aa.toNat+C) q.toNat)->(∀q,c<=q->q<af->mq a b (aa.toNat+C) q.toNat->q∈js) ->
  (∀j,(st.1 j).getD 0=if j<c then Lr a b aa ac af C j else 0)->BIt a b aa ac af C c st.2 ->
  (∀j,((bS i ac af old js st).1 j).getD 0=Lr a b aa ac af C j)/\(∀j,af<=j->Lr a b aa ac af C j=0)/\BIt a b aa ac af (C+1) ac (bS i ac af old js st).2:=by
 have ge:∀j,af<=j->Lr a b aa ac af C j=0:=λj N=>by rw[nW,if_neg λz=>Z7.mpr N z.2.1]
 have Y:∀(c:Int)(st:Jm×T3),ac<=c->(∀q,c<=q->q<af->¬mq a b (aa.toNat+C) q.toNat)->(∀j,(st.1 j).getD 0=if j<c then Lr a b aa ac af C j else 0)->BIt a b aa ac af C c st.2 ->
   (∀j,(st.1 j).getD 0=Lr a b aa ac af C j)/\(∀j,af<=j->Lr a b aa ac af C j=0)/\BIt a b aa ac af (C+1) ac st.2:=by
  intro c st E no x B;have z:∀q,c<=q->Lr a b aa ac af C q=0:=λq g=>by
   rw[nW,if_neg];rintro⟨_,p,d⟩;exact no q g p d
  refine⟨λj=>?_,ge,?_⟩
  .rw[x];split
   .rfl
   .exact(z j<|xP<|by assumption).symm
  .refine⟨B.k0,B.z,λg=>?_,λe q he=>?_⟩
   .obtain⟨e,p,d,r⟩:=B.s g;exact⟨e,p,.inl<|(l32<|.i aDN<|.S .a bJ) d,r⟩
   .by_cases u:e<C\/(e=C/\q<c)
    .exact B.m e q u
    .by_cases Z:e=C
     .subst Z;rw[z q<|(l21<|.i (.n<|.w (.S .a .a)<|.o (.Q .a .a) gD) bF) u];have:=B.k0;exact⟨this,λT U=>aFf T U⟩
     .have:e=C+1/\q<ac:=(l32<|.i (.w (.S .a bJ)<|.o (.Q .a bJ) cC)<|.i (.n<|.w dT<|.o bH<|.s .a .c)<|.i (.n bH)<|.o (.Q .a bJ) cC) he u Z;have M:Lr a b aa ac af e q=0:=by rw[nW,if_neg λy=>W7.mpr this.2 y.1]
      rw[M];have:=B.k0;exact⟨this,λT U=>aFf T U⟩
 intro js;induction js with
 | nil=>
  intro c st E _ _ A x B;exact Y c st E (λq g p d=>nomatch A q g p d) x B
 | cons j js ih=>
  intro c st E hs O A x B;have I:=W2.mp hs;simp only[iG];split
  .next N=>
   refine ih c st E I.2 (λq u=>O q<|.tail _ u) (λq g p d=>?_) x B;obtain rfl|h:=A8.mp (A q g p d)
   .exact absurd N (Z7.mpr<|E5 E g)
   .exact h
  .split
   .next g p=>
    refine Y c st E (λq d r J=>?_) x B;obtain rfl|h:=A8.mp (A q d r J)
    .exact(l20<|.i cC<|.i eO .f) r p
    .have:=I.1 q h;exact(l30<|.i bF<|.i (.s .c .a)<|.i (.s .b .c) .f) p r this
   .next g p=>
    obtain⟨R,hM⟩:=O j (.head _) (xP g)<|aJw p;have hz:∀q,c<=q->q<j->Lr a b aa ac af C q=0:=λq d r=>by
     rw[nW,if_neg];rintro⟨_,J,h6⟩;obtain rfl|h:=A8.mp (A q d J h6)
     .exact(l10<|.i (.s .a .a) .f) r
     .have:=I.1 q h;exact(l20<|.i cC<|.i gD .f) r this
    have M:Lr a b aa ac af C j=(old<|j-1).getD 0+1:=by
     rw[nW,if_pos ⟨xP g,aJw p,hM⟩,ho]
    have V:=(B.more R hz).step hi;refine ih (j+1) (kP i old j st) ((l20<|.i (.n gD)<|.l .a bJ) g) I.2 (λq u d r=>?_) (λq d r J=>?_) (λq=>?_) ?_
    .have:=I.1 q u;exact⟨(l20<|.i cC<|.l aR .b) this,(O q (.tail _ u) d r).2⟩
    .obtain rfl|h:=A8.mp (A q ((l30<|.i (.l .a .c)<|.i (.l cD .b) bF) R d) r J)
     .exact absurd d (W7.mpr<|Int.lt_succ _)
     .exact h
    .simp only[kP];split
     .next e=>subst e;rw[if_pos<|aR2,M];rfl
     .rw[x];split
      .rw[if_pos<|by exact(l30<|.i mN<|.i (.s .a .c)<|.s .a bJ) R<|by assumption]
      .split
       .rw[hz q (xP<|by assumption)<|(l20<|.i (.n iD)<|.i (.s .a bJ) cC) (by assumption)<|by assumption]
       .rfl
    .rw[M] at V;exact V
theorem aDi(h0:0<=aa)(nu:0<=ac)(uj:af<=b.length):∀(xs:List Str)(d:Nat)(i:Int)(old:Jm)(b8:T3),i=aa+d->i+xs.length=aq->(∀n,n<xs.length->xs[n]?=a[aa.toNat+d+n]?)->(∀j,(old j).getD 0=Lp a b aa ac af d j)->BIt a b aa ac af d ac b8 ->
  BIt a b aa ac af (d+xs.length) ac (gW (bix b) ac af i xs old b8):=by
 intro xs;induction xs with
 | nil=>
  intro d i old b8 u o w E B;exact B
 | cons x xs M=>
  intro d i old b8 u o w E B;have e0:a[aa.toNat+d]?=Na x:=by
   have:=w 0 (by simp);simpa using this.symm
  have r:=aDY (a:=a) (b:=b) (aa:=aa) (ac:=ac) (af:=af) u E (bix b x) ac (λO=>Nb,b8) (C2 _) aA6
   (λq J e y=>⟨e,by
    have:=(aBm.mp J).2.2;exact⟨by rw[e0,this.1],by rw[this.1];simp[this.2]⟩⟩)
   (λq e y A=>by
    have g:=A.1;rw[e0] at g;have C:=A.2;rw[← g] at C;exact aBm.mpr ⟨ar6 nu e,Int.lt_of_lt_of_le y uj,g.symm,by simpa using C⟩)
   (λj=>by
    simp only[Option.getD_none];split
    .next h=>rw[nW,if_neg λz=>W7.mpr h z.1]
    .rfl) B
  have:=M (d+1) (i+1) _ _ ((l21<|.i (.q .a<|.p .b aF)<|.q aR<|.p .b cR) u) (by simp at o;exact(l21<|.i (.q (.p .a dL) .b)<|.q (.p aR aF) .b) o) (λn I=>by
   have:=w (n+1) (by simp;exact I);rw[List.getElem?_cons_succ] at this;rw[this]
   congr 1;exact l12<|.Q (.p (.p bK .a) bJ)<|.p (.p bK aR) .b) r.1 r.2.2
  rw[D1,show d+(xs.length+1)=d+1+xs.length by exact l02<|.Q gM iW];exact this
end
def Run(a b:List Str)(p q m:Int):Prop:=∀x,0<=x->x<m->a[(p+x).toNat]?=b[(q+x).toNat]?
def aAb(a b:List Str)(p q m:Int):Prop:=∀x,0<=x->x<m->mq a b (p+x).toNat (q+x).toNat
theorem aNV(h0:0<=aa)(nu:0<=ac):∀(d:Nat)(j:Int),Lr a b aa ac af d j>=1->ac<=j/\j<af/\Lr a b aa ac af d j<=d+1/\Lr a b aa ac af d j<=j-ac+1/\aAb a b (aa+d-Lr a b aa ac af d j+1) (j-Lr a b aa ac af d j+1) (Lr a b aa ac af d j):=by
 intro d;induction d with
 | zero=>
  intro j h;rw[aRe] at h ⊢;split at h
  .next c=>
   rw[if_pos c];refine⟨c.1,c.2.1,by exact l00<|.l aC<|.p (.j aE) aC,by exact(l20<|.i eO<|.l aC<|.p bG aC) c.1,λx g o=>?_⟩;have:x=0:=by exact(l10<|.i bE<|.i (.s .a aC) gE) g o
   subst this;rw[show(aa+(0:Nat)-1+1+0).toNat=aa.toNat by exact l10<|.Q (.t<|.p (.p (.m (.p .a<|.j aE) aC) aC) aE) bK,show(j-1+1+0).toNat=j.toNat by exact l10<|.Q (.t<|.p (.p cW aC) aE) bK];exact c.2.2
  .exact absurd h<|by decide
 | succ d w=>
  intro j h;rw[aRd] at h ⊢;split at h
  .next c=>
   rw[if_pos c];by_cases u:Lr a b aa ac af d (j-1)>=1
   .obtain⟨C,E,y,A,B⟩:=w (j-1) u;refine⟨c.1,c.2.1,by exact(l11<|.i (.l .a dL)<|.l aR<|.p cR aC) y,by exact(l30<|.i (.l .a<|.p (.m (.m .b aC) .c) aC)<|.l aR<|.p dK aC) A,λx g o=>?_⟩;by_cases r:x=Lr a b aa ac af d (j-1)
    .rw[show(aa+((d+1:Nat):Int)-(Lr a b aa ac af d (j-1)+1)+1+x).toNat=aa.toNat+(d+1) by exact(l31<|.i bE<|.i (.q .c .b)<|.Q (.t<|.p (.p (.m gO bJ) aC) .c)<|.p bK aR) h0 r,show(j-(Lr a b aa ac af d (j-1)+1)+1+x).toNat=j.toNat by exact(l30<|.i (.q .c .b)<|.Q (.t<|.p (.p (.m .a bJ) aC) .c) bK) r];exact c.2.2
    .have:=B x g<|aR4 o r;rw[show(aa+((d+1:Nat):Int)-(Lr a b aa ac af d (j-1)+1)+1+x)=aa+(d:Int)-Lr a b aa ac af d (j-1)+1+x by exact l31<|.q (.p (.p (.m gO bJ) aC) .c)<|.p (.p (.m cK .b) aC) .c,show(j-(Lr a b aa ac af d (j-1)+1)+1+x)=j-1-Lr a b aa ac af d (j-1)+1+x by exact l30<|.q (.p (.p (.m .a bJ) aC) .c)<|.p (.p (.m cW .b) aC) .c];exact this
   .have:=aKy a b aa ac af d<|j-1;have e:Lr a b aa ac af d (j-1)=0:=(l10<|.i (.l aC aR)<|.i (.n lC) gE) h u;rw[e];refine⟨c.1,c.2.1,l01<|.l gP<|.p cR aC,(l20<|.i eO<|.l gP<|.p bG aC) c.1,λx g o=>?_⟩;have:x=0:=(l10<|.i bE<|.i (.s .a gP) gE) g o;subst this;rw[show(aa+((d+1:Nat):Int)-(0+1)+1+0).toNat=aa.toNat+(d+1) by exact(l11<|.i bE<|.Q (.t<|.p (.p (.m gO gP) aC) aE)<|.p bK aR) h0,show(j-(0+1)+1+0).toNat=j.toNat by exact l10<|.Q (.t<|.p (.p (.m .a gP) aC) aE) bK];exact c.2.2
  .exact absurd h<|by decide
theorem aLa(h0:0<=aa)(nu:0<=ac):∀(m:Nat)(d:Nat)(j:Int),(m:Int)<=d->ac<=j-m->j<af->aAb a b (aa+d-m) (j-m) (m+1)->(m:Int)+1<=Lr a b aa ac af d j:=by
 intro m;induction m with
 | zero=>
  intro d j o h n r;have:=r 0 (by exact l00<|.l aE aE) (by exact l00<|.s aE<|.p (.j aE) aC);rw[show(aa+(d:Int)-((0:Nat):Int)+0).toNat=aa.toNat+d by exact(l11<|.i bE<|.Q (.t<|.p (.m cK<|.j aE) aE)<|.p bK .a) h0,show(j-((0:Nat):Int)+0).toNat=j.toNat by exact l10<|.Q (.t<|.p (.m .a<|.j aE) aE) bK] at this;rw[nW,if_pos ⟨by exact(l20<|.i (.l .a<|.m .b<|.j aE) bF) h,by exact n,this⟩];have:=aRf a b aa ac af d<|j-1;exact(l10<|.i bE<|.l (.p (.j aE) aC) aR) this
 | succ m u=>
  intro d j o h n r;have e:=r (m+1) (by exact l01<|.l aE dL)<|l01<|.s dL<|.p cR aC;rw[show(aa+(d:Int)-((m+1:Nat):Int)+((m:Int)+1)).toNat=aa.toNat+d by exact(l12<|.i bE<|.Q (.t<|.p (.m cK<|.j bJ)<|.p aN aC)<|.p bK .a) h0,show(j-((m+1:Nat):Int)+((m:Int)+1)).toNat=j.toNat by exact l11<|.Q (.t<|.p (.m .a cR) dL) bK] at e;rw[nW,if_pos ⟨(l21<|.i (.l .a<|.m .b cR) bF) h,n,e⟩];obtain⟨g,rfl⟩:∃g,d=g+1:=⟨d-1,(l02<|.i (.l (.j bJ) aF)<|.Q .a<|.p cW aC) o⟩
  have u:=u g (j-1) ((l02<|.i (.l cR<|.j bJ)<|.l aF aN) o) ((l21<|.i (.l .a<|.m .b cR)<|.l .a<|.m (.m .b aC) aF) h) (aR3 n) (λx w y=>by
   have:=r x w<|(l11<|.i (.s .a dL)<|.s .a<|.p cR aC) y;rw[show aa+(((g+1:Nat)):Int)-((m+1:Nat):Int)+x=aa+(g:Int)-m+x by exact l22<|.q (.p (.m gO<|.j bJ) .b)<|.p (.m cK aN) .b,show j-((m+1:Nat):Int)+x=j-1-m+x by exact l21<|.q (.p (.m .a cR) .b)<|.p (.m cW aF) .b] at this;exact this)
  exact(l11<|.i (.l dL .a)<|.l (.p cR aC) aR) u
noncomputable def aIu(a b:List Str)(aa aq ac af:Int)(t:T3):Prop:=∀p q m,1<=m->aa<=p->p+m<=aq->ac<=q->q+m<=af->aAb a b p q m->m<=t.2.2/\(m=t.2.2->t.1<p\/(t.1=p/\t.2.1<=q))
structure FLC(a b:List Str)(aa aq ac af:Int)(t:T3):Prop where
 zero:t.2.2=0->t=(aa,ac,0)
 bb:BB aa aq ac af t
 run:aAb a b t.1 t.2.1 t.2.2
 max:aIu a b aa aq ac af t
def flc(a b:List Str)(aa aq ac af:Int):T3:=gW (bix b) ac af aa ((a.drop aa.toNat).take (aq-aa).toNat) (λO=>Nb) (aa,ac,0)
noncomputable def aFG(a b:List Str)(aa aq ac af:Int)(t:T3):Prop:=Ex3 λc s u=>xV (FLC a b aa aq ac af c) (0<=s) (0<=u) (t.1=c.1-s/\t.2.1=c.2.1-s)<|t.2.2=c.2.2+s+u
structure FLS(a b:List Str)(aa aq ac af:Int)(t:T3):Prop where
 zero:t.2.2=0->t=(aa,ac,0)
 bb:BB aa aq ac af t
 run:Run a b t.1 t.2.1 t.2.2
 left:¬(t.1>aa/\t.2.1>ac/\a[(t.1-1).toNat]?=b[(t.2.1-1).toNat]?)
 right:¬(t.1+t.2.2<aq/\t.2.1+t.2.2<af/\a[(t.1+t.2.2).toNat]?=b[(t.2.1+t.2.2).toNat]?)
 core:aFG a b aa aq ac af t
theorem aHD:∀(n:Nat)(t:T3),BB aa aq ac af t->Run a b t.1 t.2.1 t.2.2->(t.1-aa).toNat<=n ->
  ∃s,xV (0<=s) (oW a b aa ac n t=(t.1-s,t.2.1-s,t.2.2+s)) (BB aa aq ac af (t.1-s,t.2.1-s,t.2.2+s)) (Run a b (t.1-s) (t.2.1-s)<|t.2.2+s)<|¬(t.1-s>aa/\t.2.1-s>ac/\a[(t.1-s-1).toNat]?=b[(t.2.1-s-1).toNat]?):=by
 intro n;induction n with
 | zero=>
  rintro⟨i,j,k⟩ bb rr hn;refine⟨0,C2 _,by show(i,j,k)=_;simp,by simpa using bb,by simpa using rr,?_⟩;rintro⟨z,_⟩;exact(l20<|.i (.L cV aE)<|.i (.s .b mR) .f) hn z
 | succ n w=>
  rintro⟨i,j,k⟩ bb rr hn;by_cases c:i>aa/\j>ac/\a[(i-1).toNat]?=b[(j-1).toNat]?
  .have h:=vA (a:=a) (b:=b) 1 _ bb;have q:oW a b aa ac 1 (i,j,k)=(i-1,j-1,k+1):=(oV (n:=0)).trans<|if_pos c;rw[q] at h;obtain⟨s,y,e,d,p,o⟩:=w (i-1,j-1,k+1) h (λx r u=>by
    by_cases g:x=0
    .subst g;simpa using c.2.2
    .have:=rr (x-1) (aQV r g)<|aQU u;rw[show i-1+x=i+(x-1) by exact aJF,show j-1+x=j+(x-1) by exact aJF];exact this) (by simp only at *;have:=c.1;exact(l21<|.i (.L cV aR)<|.L (.t<|.m cW .b) .a) hn)
   rw[show i-1-s=i-(s+1) by exact aBo,show j-1-s=j-(s+1) by exact aBo,show k+1+s=k+(s+1) by exact aJu] at e d p;rw[show i-1-s=i-(s+1) by exact aBo,show j-1-s=j-(s+1) by exact aBo] at o;refine⟨s+1,ar4 y,?_,d,p,o⟩;rw[oV,if_pos c];exact e
  .refine⟨0,C2 _,?_,by simpa using bb,by simpa using rr,by simpa using c⟩;rw[oV,if_neg c];simp
theorem aHC:∀(n:Nat)(t:T3),BB aa aq ac af t->Run a b t.1 t.2.1 t.2.2->(aq-(t.1+t.2.2)).toNat<=n ->
  ∃u,xV (0<=u) (mZ a b aq af n t=(t.1,t.2.1,t.2.2+u)) (BB aa aq ac af (t.1,t.2.1,t.2.2+u)) (Run a b t.1 t.2.1<|t.2.2+u)<|¬(t.1+(t.2.2+u)<aq/\t.2.1+(t.2.2+u)<af/\a[(t.1+(t.2.2+u)).toNat]?=b[(t.2.1+(t.2.2+u)).toNat]?):=by
 intro n;induction n with
 | zero=>
  rintro⟨i,j,k⟩ bb rr hn;refine⟨0,C2 _,by show(i,j,k)=_;simp,by simpa using bb,by simpa using rr,?_⟩;rintro⟨z,_⟩;exact(l30<|.i (.L mU aE)<|.i (.s (.p .b<|.p .c aE) .a) .f) hn z
 | succ n A=>
  rintro⟨i,j,k⟩ bb rr hn;by_cases c:i+k<aq/\j+k<af/\a[(i+k).toNat]?=b[(j+k).toNat]?
  .have o:=uZ (a:=a) (b:=b) 1 _ bb;have w:mZ a b aq af 1 (i,j,k)=(i,j,k+1):=(jU (n:=0)).trans<|if_pos c;rw[w] at o;obtain⟨u,B,e,d,r,q⟩:=A (i,j,k+1) o (λx y g=>by
    by_cases h:x=k
    .subst h;exact c.2.2
    .exact rr x y (by have g:=g;show x<k;exact(l20<|.i (.s .a bJ)<|.i (.n iD) cC) (by assumption) h)) (by have:=c.1;simp only at hn ⊢;exact(l31<|.i (.L mU aR)<|.L (.t<|.m .a pP) .a) hn)
   rw[show k+1+u=k+(u+1) by exact aJu] at e d r q;refine⟨u+1,ar4 B,?_,d,r,q⟩;rw[jU,if_pos c];exact e
  .refine⟨0,C2 _,?_,by simpa using bb,by simpa using rr,by simpa using c⟩;rw[jU,if_neg c];simp
theorem aHY(ok:QOK a b q):FLC a b q.1 q.2.1 q.2.2.1 q.2.2.2<|flc a b q.1 q.2.1 q.2.2.1 q.2.2.2:=by
 obtain⟨aa,aq,ac,af⟩:=q;obtain⟨A,a1,V,E,Y,Z⟩:=ok;have I:((a.drop aa.toNat).take (aq-aa).toNat).length=(aq-aa).toNat:=by rw[G4,F5];exact(l21<|.i bU<|.i gF<|.Q (.n cV<|.m .a<|.t .b) cV) A V
 have B:=aDi (a:=a) (b:=b) (aa:=aa) (ac:=ac) (af:=af) (aq:=aq) A E Z ((a.drop aa.toNat).take (aq-aa).toNat) 0 aa (λO=>Nb) (aa,ac,0) (l10<|.q .a<|.p .a<|.j aE) (by rw[I];exact aQZ a1)
  (λn R=>by
   rw[List.getElem?_take,if_pos (by rw[I] at R;exact R),I5]
   congr 1) (λj=>rfl) ⟨C2 _,λO=>rfl,λz=>absurd z (by show ¬(1:Int)<=0;decide),λe q h=>by
   have:e=0/\q<ac:=(l21<|.i (.w (.S .a aE)<|.o (.Q .a aE) cC)<|.o (.Q .a aE) cC) h;obtain⟨rfl,u⟩:=this;have hL:Lr a b aa ac af 0 q=0:=by rw[nW,if_neg λy=>W7.mpr u y.1]
   rw[hL];exact⟨C2 _,λO z=>absurd z (by show ¬(1:Int)<=0;decide)⟩⟩
 rw[I,V4] at B;unfold flc;generalize gW (bix b) ac af aa ((a.drop aa.toNat).take (aq-aa).toNat) (λO=>Nb) (aa,ac,0)=t at B;have M:=B.k0;have mx:∀p q m,1<=m->aa<=p->p+m<=aq->ac<=q->q+m<=af->aAb a b p q m->m<=t.2.2/\(m=t.2.2->t.1<p\/(t.1=p/\t.2.1<=q)):=by
  intro p q m g u C h4 h5 r;have T:=aLa (a:=a) (b:=b) (aa:=aa) (ac:=ac) (af:=af) A E (m-1).toNat (p+m-1-aa).toNat (q+m-1) ((l30<|.i mN<|.l (.j<|.t cW)<|.j<|.t<|.m (.m (.p .b .a) aC) .c) u) ((l30<|.i mP<|.i bF<|.l .a<|.m tE<|.j<|.t<|.m .c aC) g h4) ((l30<|.i iX<|.s iZ .c) h5) (by
   have e1:aa+(((p+m-1-aa).toNat:Nat):Int)-(((m-1).toNat:Nat):Int)=p:=(l30<|.i mP<|.i bF<|.q (.m (.p .a<|.j<|.t<|.m tE .a)<|.j<|.t<|.m .c aC) .b) g u;have N:q+m-1-(((m-1).toNat:Nat):Int)=q:=(l20<|.i gN<|.q (.m iZ<|.j<|.t<|.m .b aC) .a) g;have e3:(((m-1).toNat:Nat):Int)+1=m:=(l20<|.i (.q (.m (.m (.p .b .a) aC)<|.j<|.t cW) .b)<|.q (.p (.j<|.t cW) aC) .a) N;rw[e1,N,e3];exact r)
  have J:=B.m (p+m-1-aa).toNat (q+m-1)<|.inl<|(l40<|.i gN<|.i (.l .c .a)<|.i (.l bB .d)<|.S (.t<|.m iZ .c)<|.t<|.m .d .c) g u C;refine⟨(l30<|.i (.l (.p (.j<|.t cW) aC) .c)<|.i mN bF) T J.1,λe=>?_⟩;have:=J.2 ((l30<|.i (.l (.p (.j<|.t<|.m .c aC) aC) .a)<|.i bF<|.i (.q .c .b) iD) T J.1 e)<|aR0 g e;rw[show aa+(((p+m-1-aa).toNat:Nat):Int)=p+m-1 by exact(l30<|.i mP<|.i bF<|.q (.p .a<|.j<|.t<|.m tE .a) tE) g u,← e] at this;exact(l50<|.i (.w (.s (.m (.p .a .e) aC)<|.m (.p .b .e) aC)<|.o (.q (.m (.p .a .e) aC)<|.m (.p .b .e) aC)<|.l (.m (.p .c .e) aC)<|.m (.p .d .e) aC)<|.w cC<|.o iD<|.l .c .d) this
 have rn:BB aa aq ac af t/\aAb a b t.1 t.2.1 t.2.2:=by
  by_cases hk:t.2.2=0
  .rw[B.z hk];exact⟨⟨by simp,by simp,by simpa using a1,by simp,by simpa using Y⟩,λx g u=>absurd u<|Z7.mpr g⟩
  .obtain⟨e,g,u,C⟩:=B.s<|aNK M hk;have:=aNV (a:=a) (b:=b) (af:=af) A E e (t.2.1+t.2.2-1)<|(l20<|.i bU<|.i (.n<|.q .b aE)<|.i iD lC) M hk C;rw[C] at this;obtain⟨r1,r2,r3,r4,U⟩:=this;refine⟨⟨M,(l31<|.i (.q tE cK)<|.i (.l .c dL) bF) g r3,(l61<|.i (.q iZ<|.p .d aF)<|.i (.w (.S .a<|.t kY)<|.o (.Q .a<|.t kY)<|.s (.m (.p .e .b) aC) .f)<|.i (.l .f<|.m (.p .e .b) aC) iX) g u r1,(l30<|.i (.l .c<|.p (.m tE .a) aC) bF) r4,(l30<|.i (.s iZ .c) iX) r2⟩,?_⟩;rw[show aa+(e:Int)-t.2.2+1=t.1 by exact(l31<|.i (.q (.m jO aC) cK)<|.q (.p (.m cK .b) aC) .c) g,show t.2.1+t.2.2-1-t.2.2+1=t.2.1 by exact l20<|.q (.p (.m iZ .b) aC) .a] at U;exact U
 exact⟨B.z,rn.1,rn.2,mx⟩
theorem aMN(ok:QOK a b q):FLS a b q.1 q.2.1 q.2.2.1 q.2.2.2<|flm a b q.1 q.2.1 q.2.2.1 q.2.2.2:=by
 have C:=aHY ok;obtain⟨s,d,o,j,J,E⟩:=aHD ((flc a b q.1 q.2.1 q.2.2.1 q.2.2.2).1-q.1).toNat _ C.bb (λx w y=>(C.run x w y).1)<|C4 _;have e:flm a b q.1 q.2.1 q.2.2.1 q.2.2.2=mZ a b q.2.1 q.2.2.2 (q.2.1-((flc a b q.1 q.2.1 q.2.2.1 q.2.2.2).1-s)).toNat ((flc a b q.1 q.2.1 q.2.2.1 q.2.2.2).1-s,(flc a b q.1 q.2.1 q.2.2.1 q.2.2.2).2.1-s,(flc a b q.1 q.2.1 q.2.2.1 q.2.2.2).2.2+s):=by
  unfold flm;simp only;rw[show gW (bix b) q.2.2.1 q.2.2.2 q.1 ((a.drop q.1.toNat).take (q.2.1-q.1).toNat) (λO=>Nb) (q.1,q.2.2.1,0)=flc a b q.1 q.2.1 q.2.2.1 q.2.2.2 from rfl,o]
 rw[e];generalize flc a b q.1 q.2.1 q.2.2.1 q.2.2.2=c at *;obtain⟨u,g,r,n,M,I⟩:=aHC (q.2.1-(c.1-s)).toNat (c.1-s,c.2.1-s,c.2.2+s) j J (by have:=j.k0;simp only at this ⊢;exact(l40<|.i (.l aE lB)<|.L (.t<|.m .a<|.p dK lB)<|.t<|.m .a dK) this);rw[r];refine⟨λz=>?_,n,M,?_,I,⟨c,s,u,C,d,g,⟨rfl,rfl⟩,rfl⟩⟩
 .have:=C.bb.k0;have h:c.2.2=0:=(l30<|.i bU<|.i iY<|.i (.q jP aE)<|.i bE gE) d g z this;have A:s=0:=(l30<|.i bE<|.i bU<|.i (.q (.p (.p .c .a) .b) aE)<|.i (.q .c aE) gE) d g z h;have B:u=0:=(l30<|.i bU<|.i bE<|.i (.q (.p jO .a) aE)<|.i (.q .c aE) gE) d g z h;have:=C.zero h;rw[A,B,this];simp
 .exact E
noncomputable def lq(q:Q4)(t:T3):Q4:=(q.1,t.1,q.2.2.1,t.2.1)
noncomputable def rq(q:Q4)(t:T3):Q4:=(t.1+t.2.2,q.2.1,t.2.1+t.2.2,q.2.2.2)
def fq(a b:List Str)(q:Q4):T3:=flm a b q.1 q.2.1 q.2.2.1 q.2.2.2
theorem rO(ok:QOK a b q):BB q.1 q.2.1 q.2.2.1 q.2.2.2<|fq a b q:=aEk ok
theorem aEg(ok:QOK a b q):FLS a b q.1 q.2.1 q.2.2.1 q.2.2.2<|fq a b q:=aMN ok
theorem zN(a b:List Str)(q:Q4)(st:List Q4)(aw:List T3):cG a b q st aw=if (fq a b q).2.2=0 then (st,aw) else
  (if (fq a b q).1+(fq a b q).2.2<q.2.1/\(fq a b q).2.1+(fq a b q).2.2<q.2.2.2 then rq q (fq a b q)::(if q.1<(fq a b q).1/\q.2.2.1<(fq a b q).2.1 then lq q (fq a b q)::st else st) else (if q.1<(fq a b q).1/\q.2.2.1<(fq a b q).2.1 then lq q (fq a b q)::st else st),aw++[fq a b q]):=rfl
def blk(a b:List Str)(x0:Nat)(x1:Q4):List T3:=
 Y9 (motive:=λO=>Q4->List T3) (λO=>[]) (λn d q=>if (fq a b q).2.2=0 then [] else (d<|lq q<|fq a b q)++(fq a b q)::(d<|rq q<|fq a b q)) x0 x1
theorem aF6(a b:List Str)(n:Nat)(q:Q4):blk a b (n+1) q=(if (fq a b q).2.2=0 then [] else blk a b n (lq q<|fq a b q)++(fq a b q)::blk a b n (rq q<|fq a b q)):=rfl
def Bq(a b:List Str)(q:Q4):List T3:=blk a b ((q.2.1-q.1).toNat+1) q
theorem aAz(ok:QOK a b q):QOK a b<|lq q<|fq a b q:=by
 have j:=rO ok;obtain⟨e,a1,g,h,r,i⟩:=ok;obtain⟨d,n,o,c3,p⟩:=j;exact⟨e,n,by simp only[lq];exact aJE g d o,h,c3,by simp only[lq];exact aJE i d p⟩
theorem aAy(ok:QOK a b q):QOK a b<|rq q<|fq a b q:=by
 have j:=rO ok;obtain⟨e,a1,g,h,r,i⟩:=ok;obtain⟨d,n,o,c3,p⟩:=j;exact⟨by simp only[rq];exact ar7 e d n,o,g,by simp only[rq];exact ar7 h d c3,p,i⟩
theorem aDF(ok:QOK a b q)(hk:¬(fq a b q).2.2=0):((lq q<|fq a b q).2.1-(lq q<|fq a b q).1).toNat<(q.2.1-q.1).toNat:=by
 obtain⟨e,g,h,c3,j⟩:=rO ok;clear ok c3 j;simp only[lq];exact(l40<|.i (.n<|.q .d aE)<|.i mQ<|.i eO<|.i (.l (.p .a .d) .c)<|.S cV<|.t lA) hk e g h
theorem aCV(ok:QOK a b q)(hk:¬(fq a b q).2.2=0):((rq q<|fq a b q).2.1-(rq q<|fq a b q).1).toNat<(q.2.1-q.1).toNat:=by
 obtain⟨e,g,h,c3,j⟩:=rO ok;clear ok c3 j;simp only[rq];exact(l40<|.i (.n<|.q .c aE)<|.i iY<|.i (.l .d .b)<|.i (.l cY .a)<|.S mU<|.t<|.m .a .d) hk e g h
theorem xL:∀(n m:Nat)(q:Q4),QOK a b q->(q.2.1-q.1).toNat<n->(q.2.1-q.1).toNat<m->blk a b n q=blk a b m q:=by
 intro n;induction n with
 | zero=>intro m q _ h;exact absurd h<|N4 _
 | succ n g=>
  intro m q ok e d;cases m with
  | zero=>exact absurd d<|N4 _
  | succ m=>
   rw[aF6,aF6];by_cases hk:(fq a b q).2.2=0
   .rw[if_pos hk,if_pos hk]
   .have i:=aDF ok hk;have j:=aCV ok hk;rw[if_neg hk,if_neg hk,g m _ (aAz ok) (I6 i<|I3 e)<|I6 i<|I3 d,g m _ (aAy ok) (I6 j<|I3 e)<|I6 j<|I3 d]
theorem sG(ok:QOK a b q):Bq a b q=if (fq a b q).2.2=0 then [] else Bq a b (lq q<|fq a b q)++(fq a b q)::Bq a b (rq q<|fq a b q):=by
 unfold Bq;rw[aF6];split
 .rfl
 .next hk=>
  rw[xL _ ((lq q<|fq a b q).2.1-(lq q<|fq a b q).1).toNat.succ _ (aAz ok) (aDF ok hk)<|I0 _,xL _ ((rq q<|fq a b q).2.1-(rq q<|fq a b q).1).toNat.succ _ (aAy ok) (aCV ok hk)<|I0 _]
theorem aO1(h:j+lo<=j)(k:0<=lo):lo=0:=(l20<|.i (.l (.p .b .a) .b)<|.i bE gE) h k
theorem aFH(ok:QOK a b q)(h:q.2.1=q.1\/q.2.2.2=q.2.2.1):Bq a b q=[]:=by
 have e:=rO ok;obtain⟨d,g,i,c3,j⟩:=e;rw[sG ok,if_pos];obtain h|h:=h
 .exact aO1 (E5 i<|h▸g) d
 .exact aO1 (E5 j<|h▸c3) d
theorem aIG{P:Q4->Prop}(h0:∀q,QOK a b q->(fq a b q).2.2=0->P q)(h1:∀q,QOK a b q->1<=(fq a b q).2.2->P (lq q<|fq a b q)->P (rq q<|fq a b q)->P q):∀(n:Nat)(q:Q4),QOK a b q->(q.2.1-q.1).toNat<n->P q:=by
 intro n;induction n with
 | zero=>
  intro _ _ h;exact absurd h<|N4 _
 | succ n d=>
  intro q ok h;by_cases hk:(fq a b q).2.2=0
  .exact h0 q ok hk
  .exact h1 q ok (Int.lt_iff_le_and_ne.mpr ⟨(rO ok).k0,λe=>hk e.symm⟩) (d _ (aAz ok)<|I6 (aDF ok hk)<|I3 h)<|d _ (aAy ok)<|I6 (aCV ok hk)<|I3 h
theorem aE9:∀(n:Nat)(st:List Q4)(aw:List T3),(∀p∈st,QOK a b p)->qm st<=n->(jA a b n st aw).Perm (aw++st.flatMap (Bq a b))
 :=by
 intro n;induction n with
 | zero=>
  intro st aw ok h;have:st=[]:=by cases st with | nil=>rfl | cons q st=>simp[qm] at h
  subst this;exact .of_eq (D0 aw).symm
 | succ n j=>
  intro st aw ok h;cases st with
  | nil=>exact .of_eq (D0 aw).symm
  | cons q st=>
  have r:=lQ (aw:=aw) ok;have g:=ok q<|.head _;have j:=j (cG a b q st aw).1 (cG a b q st aw).2 r.1<|aNJ h r.2;refine j.trans ?_;have E:=aAz g;have I:=aAy g;have u:=rO g;obtain⟨J,x,y,c3,A⟩:=u;rw[E1,sG g,zN];by_cases hk:(fq a b q).2.2=0
  .rw[if_pos hk,if_pos hk];simp
  .rw[if_neg hk,if_neg hk];have B:(if q.1<(fq a b q).1/\q.2.2.1<(fq a b q).2.1 then lq q (fq a b q)::st else st).flatMap (Bq a b)=Bq a b (lq q<|fq a b q)++st.flatMap (Bq a b):=by
    split
    .rfl
    .rw[aFH E (by simp only[lq];exact(l40<|.i eO<|.i (.l .d .c)<|.i (.n<|.o gD<|.s .d .c)<|.w iD<|.q .c .d) x c3<|by assumption)];rfl
   have C:∀st1:List Q4,(if (fq a b q).1+(fq a b q).2.2<q.2.1/\(fq a b q).2.1+(fq a b q).2.2<q.2.2.2 then rq q (fq a b q)::st1 else st1).flatMap (Bq a b)=Bq a b (rq q<|fq a b q)++st1.flatMap (Bq a b):=by
    intro st1;split
    .rfl
    .rw[aFH I (by simp only[rq];exact(l50<|.i (.l cY .a)<|.i (.l (.p .e .c) .d)<|.i (.n<|.o (.s cY .a)<|.s (.p .e .c) .d)<|.w (.q .a cY)<|.q .d<|.p .e .c) y A<|by assumption)];rfl
   rw[C,B,B5,B5];refine List.Perm.append_left aw ?_;refine List.Perm.trans (l₂:=fq a b q::(Bq a b (lq q<|fq a b q)++(Bq a b (rq q<|fq a b q)++st.flatMap (Bq a b)))) (.cons _ ?_) Q7.symm;rw[← B5,← B5];exact W9.append_right _
theorem SB.app{t:T3}:∀{L:List T3}{i j:Int},SB t.1 t.2.1 i j L->1<=t.2.2->SB la lb (t.1+t.2.2) (t.2.1+t.2.2) aw->SB la lb i j (L++t::aw):=by
 intro L;induction L with
 | nil=>
  intro i j h k r;exact⟨h.1,h.2,k,r⟩
 | cons x L g=>
  rintro i j ⟨a,b,d,e⟩ k r;exact⟨a,b,d,g e k r⟩
structure BOk(a b:List Str)(q:Q4):Prop where
 sb:SB q.2.1 q.2.2.2 q.1 q.2.2.1 (Bq a b q)
 all:∀t∈Bq a b q,q.1<=t.1/\t.1+t.2.2<=q.2.1/\q.2.2.1<=t.2.1/\t.2.1+t.2.2<=q.2.2.2/\1<=t.2.2/\Run a b t.1 t.2.1 t.2.2
 pw:(Bq a b q).Pairwise λt u=>¬(t.1+t.2.2=u.1/\t.2.1+t.2.2=u.2.1)
 lt:(Bq a b q).Pairwise λt u=>t.1<u.1
theorem bok(ok:QOK a b q):BOk a b q:=by
 refine aIG (λq ok hk=>?_) (λq ok hk L R=>?_) _ q ok (I0 _)
 .have e:Bq a b q=[]:=by rw[sG ok,if_pos hk]
  refine⟨?_,?_,?_,?_⟩ <;> rw[e]
  .exact⟨ok.a1,ok.b1⟩
  .intro t A;cases A
  .exact .nil
  .exact .nil
 .have e:=sG ok;rw[if_neg<|aFg hk] at e;have f:=aEg ok;obtain⟨C,r,u,c3,w⟩:=f.bb;have B:=f.run;generalize A:fq a b q=t at *;have o:=L.all;have ra:=R.all;refine⟨?_,?_,?_,?_⟩ <;> rw[e]
  .exact SB.app L.sb hk R.sb
  .intro x j;obtain j|j:=E4.mp j
   .have:=o x j;exact⟨this.1,aJD hk u this.2.1,this.2.2.1,aJD hk w this.2.2.2.1,this.2.2.2.2.1,this.2.2.2.2.2⟩
   .obtain rfl|j:=A8.mp j
    .exact⟨r,u,c3,w,hk,B⟩
    .have:=ra x j;exact⟨aJC hk r this.1,this.2.1,aJC hk c3 this.2.2.1,this.2.2.2.1,this.2.2.2.2.1,this.2.2.2.2.2⟩
  .refine List.pairwise_append.mpr ⟨L.pw,W2.mpr ⟨λy n=>?_,R.pw⟩,λx j y n=>?_⟩
   .rintro⟨z1,z2⟩;have h:=ra y n;refine f.right ⟨aJB z1 h.2.1 h.2.2.2.2.1,aJB z2 h.2.2.2.1 h.2.2.2.2.1,?_⟩;have:=h.2.2.2.2.2 0 (C2 _)<|aR5 h.2.2.2.2.1;rw[K1,K1,← z1,← z2] at this;exact this
   .have g:=o x j;obtain rfl|n:=A8.mp n
    .rintro⟨z1,z2⟩;refine f.left ⟨aJA g.1 g.2.1 g.2.2.2.2.1,aJA g.2.2.1 g.2.2.2.1 g.2.2.2.2.1,?_⟩;have:=g.2.2.2.2.2 (x.2.2-1) ((l10<|.i lC<|.l aE cW) g.2.2.2.2.1)<|l10<|.s cW .a;rw[show x.1+(x.2.2-1)=y.1-1 by exact aJz z1,show x.2.1+(x.2.2-1)=y.2.1-1 by exact aJz z2] at this;exact this
    .have h:=ra y n;rintro⟨z1,z2⟩;exact absurd (E5 (Int.add_le_add_left hk _) h.1) (W7.mpr<|Int.lt_of_le_of_lt (z1▸g.2.1:y.1<=t.1)<|Int.lt_succ t.1)
  .refine List.pairwise_append.mpr ⟨L.lt,W2.mpr ⟨λy n=>?_,R.lt⟩,λx j y n=>?_⟩
   .have h:=ra y n;exact(l30<|.i mP<|.i (.l iV .b) cC) hk h.1
   .have g:=o x j;obtain rfl|n:=A8.mp n
    .exact(l30<|.i (.l iV .b)<|.i mP cC) g.2.1 g.2.2.2.2.1
    .have h:=ra y n;exact(l50<|.i mP<|.i (.l (.p .a .d) .e)<|.i (.l aC .d)<|.i (.l (.p .e .c) .b) cC) hk g.2.1 g.2.2.2.2.1 h.1
noncomputable abbrev q00(a b:List Str):Q4:=(0,(a.length:Int),0,(b.length:Int))
theorem rA(a b:List Str):QOK a b<|q00 a b:=⟨C2 _,by simp,C2 _,C2 _,by simp,C2 _⟩
theorem xK(a b:List Str):(Bq a b<|q00 a b).Perm<|jA a b (2*a.length+1) [q00 a b] []:=by
 have:=aE9 (2*a.length+1) [q00 a b] [] (by intro p hp;rw[C6] at hp;subst hp;exact rA a b) (by simp[qm]);simp only[I1,E1,O9,D0] at this;exact this.symm
noncomputable def kAs:List E3:=[0,1,2,3,77,81,82,84,88,89,91,134,135,136,153,155,159,160,162,166,167,169,173,174,176,180,181,183,187,188,189,191,195,196,198,202,203,205,209,210,211,213,217,218,241,242,248,252,253,254,256,260,261,263,267,268,270,274,275,277,281,282,284,288,289,291,293,294,296,298,299,301,303,304,306,308,309]
theorem aMl(W:Params):kAs=(K W).map (·.1):=rfl
def qV:Program:={P with main:={P.main with body:=[dC 16]} }
noncomputable def oN:List Str:=[S9 "_wall",S9 "_tuplegetter",S9 "Match",S9 "_calculate_ratio",S9 "SequenceMatcher",S9 "_format_range_unified",S9 "unified_diff",S9 "_check_types",S9 "_law_versions",S9 "_law_range",S9 "_law_head",S9 "_law_steps",S9 "_law_run_kept",S9 "_law_read"]
theorem aPe(w:E9):(openEnds qT PQ w 5000).map (λs=>(openSeen qV oN (importedModules PQ.main.body) (λO=>Nc) Nc s,kAs.map s.heap.get?))=Na (openGood qV oN,(K w.params).map λp=>Na p.2):=by kernel_rfl
theorem aPd:LeftO P qV oN (λO=>Nc) (λs=>kAs.map s.heap.get?) (λw=>(K w.params).map λp=>Na p.2) 5000:=λw=>by
 have h:=aPe w;rw[aCE];have e:P=PQ:=aTm;rw[show openEnds qT P w 5000=openEnds qT PQ w 5000 from congrArg (λp=>openEnds qT p w 5000) e,show importedModules P.main.body=importedModules PQ.main.body from congrArg (λp=>importedModules<|Module.body<|Program.main p) e];exact h
def qS:DefRec:=⟨aIP<|dC 16,aJp<|dC 16,gR<|dC 16,aCO<|dC 16,(dC 16).pos⟩
theorem aSx:defOf qV (S9 "law")=Na (qS,[]):=by kernel_rfl
theorem hp:P.theDef (S9 "law")=Na (qS.params,qS.body,qS.scope):=by kernel_rfl
theorem hk:kwWritten? qS.params.kwonlyargs qS.params.kw_defaults=Na []:=by kernel_rfl
noncomputable abbrev qR:OpenRow:=PySem.Challenge.rw_dm0046_08.row
theorem hok:(chainsOk qV&&opensWell qR.prog&&(frees qR.toRowW&&qR.within.isEmpty))=true:=by kernel_rfl
theorem aE0(call:WalkO qV oN (λO O=>True) (InK K) qR.toRowW qS [] λf vs=>PySem.call f vs):PySem.Challenge.rw_dm0046_08.Holds:=by
 refine holds_law (by kernel_rfl) λa=>?_;refine PySem.W.holds_open (q:=qV) (loose:=oN) (XP:=λO O=>True) (YP:=InK K) (d:=qS) (kwd:=[]) aPd (InK.of aMl) InK.keeps (λO O=>trivial) (λO O O O O=>trivial) aSx hp hk (λO O=>recFacts_nil rfl) rfl (by assumption) hok ⟨rfl,rfl,rfl,rfl,rfl,by decide +kernel⟩ ?hw call
 case hw=>w_witness2
def tT{A:Nat}:=l01 (A:=A)<|.i (.L .a<|.k 65)<|.L .a iB
def xQ{A:Nat}:=l01 (A:=A)<|.i (.L .a iB) mT
def aKw{A:Nat}:=l01 (A:=A)<|.s aE dL
theorem aFv{A:Nat}:A<200->¬(200<=A):=l01<|.i (.S .a<|.k 200)<|.n<|.L (.k 200) .a
theorem aFu{A:Nat}:A=B->B<=1000->A<4611686018427387904:=l02<|.i bH<|.i fA mS
theorem aFt{A:Nat}:A<=10000->A<=16777216:=l01<|.i (.L .a<|.k 10000) jQ
def aFs{A:Nat}:=l02 (A:=A) (B:=B)<|.i fA<|.i bH<|.l aF cL
theorem aFr{A:Nat}:A<=190->A<200:=l01<|.i (.L .a iB)<|.S .a<|.k 200
theorem aFq{A:Nat}:(4-(A+1))=3-A:=l01<|.Q (.m dJ aR) rJ
theorem aFp{A:Nat}:3-A<=16777216:=l01<|.L rJ cH
def aFo{A:Nat}:=l03 (A:=A) (B:=B) (C:=C)<|.i (.S (.p .a cD) .b) dT
def aFn{A:Nat}:=l03 (A:=A) (B:=B) (C:=C)<|.i (.L .b<|.k 7)<|.i (.S (.p .a<|.u 8 cD) eP)<|.S iW eP
def aKv{A:Nat}:=l02 (A:=A) (B:=B)<|.i (.q aF aN) bH
def aKu{a b:Int}:=l20 (a:=a) (b:=b)<|.i bE<|.i (.o bU<|.l .b aC)<|.l aE bB
def aKt{a b:Int}{A:Nat}:=l22 (a:=a) (b:=b) (A:=A) (B:=B)<|.i (.l gO aN)<|.i (.o bU<|.l .b aC)<|.l (.p bB aF) aN
def aKs{a:Int}{A:Nat}:=l12 (a:=a) (A:=A) (B:=B)<|.i (.l gO aN)<|.l (.p aR aF) aN
def aKr{a:Int}{A:Nat}:=l12 (a:=a) (A:=A) (B:=B)<|.i (.l (.p .a<|.j bJ) aF)<|.l aR aF
theorem aKq{A:Nat}:A<=B->(0+(A:Int))<=(B:Int):=l02<|.i fF<|.l mV aN
def aKp{a:Int}{A:Nat}:=l11 (a:=a) (A:=A)<|.i (.S .a cL)<|.i gF<|.s .a cL
def aKo{A:Nat}:=l03 (A:=A) (B:=B) (C:=C)<|.i (.S .b cL)<|.i (.L .a .c)<|.i (.L .c .b)<|.s aF cL
theorem aKn{a b:Int}:((a+b)-a).toNat=(b).toNat:=l20<|.Q (.t<|.m bB .a)<|.t .b
theorem aKm{a b:Int}:b<=a->(((a-b).toNat:Nat):Int)=a-b:=l20<|.i eO<|.q (.j cV) bG
theorem aKl{a b c d:Int}{A:Nat}:b<=a->1<=c->(A:Int)=(d-(a+c))->(((((a-b).toNat+((a+c)-a).toNat)+A):Nat):Int)=d-b:=l41<|.i eO<|.i mP<|.i (.q aF<|.m .d iV)<|.q (.j<|.p (.p cV<|.t<|.m iV .a) .a)<|.m .d .b
theorem aKk{A:Nat}:A+B=C->((A+1)+B)=C+1:=l03<|.i (.Q bB .c)<|.Q iW cD
theorem aKj{A:Nat}:A+B=C->((A+0)+(B+1))=C+1:=l03<|.i (.Q bB .c)<|.Q (.p (.p .a aE) bJ) cD
theorem aKi{a b:Int}:((a+b)-a)=b:=l20<|.q (.m bB .a) .b
def aKh{a:Int}{A D:Nat}:=l14 (a:=a) (A:=A) (B:=B) (C:=C) (D:=D)<|.i (.q (.j .d) mR)<|.i (.Q (.p .c<|.p .d .b) bB)<|.q (.m (.j bB) fU)<|.p .a<|.p aE aN
theorem aKg{A:Nat}:B-A=C+1->A+1<=B:=l03<|.i (.Q eM cD)<|.L aR .b
def aKf{A:Nat}:=l01 (A:=A)<|.i eF<|.l aF cL
theorem aKe{A:Nat}:B<=1000->A<=B->A<4611686018427387904:=l02<|.i fA<|.i fF mS
theorem aKd{A:Nat}:A<=1000->A<4611686018427387904:=l01<|.i eF mS
theorem aKc{A:Nat}:A<=500->A<=1000:=l01<|.i (.L .a<|.k 500) eF
def aKb{A:Nat}:=l03 (A:=A) (B:=B) (C:=C)<|.i fA<|.i (.L .c .b)<|.i (.L .a .c)<|.L .a<|.k 10000
def aKa{A:Nat}:=l01 (A:=A)<|.n<|.S (.p .a dB) dB
theorem aK9{A:Nat}:A<3->A+1<=16777216:=l01<|.i (.S .a dB)<|.L aR cH
def aK8{A:Nat}:=l02 (A:=A) (B:=B)<|.i wS<|.S .a<|.m dJ .b
def aK7{A:Nat}:=l02 (A:=A) (B:=B)<|.i wS<|.S aR<|.m dJ .b
def aK6{A:Nat}:=l01 (A:=A)<|.i (.S .a dB)<|.L (.p (.k 8100) .a)<|.k 100000
def aK5{A:Nat}:=l02 (A:=A) (B:=B)<|.i (.S .a<|.m dJ .b)<|.S .a dA
def aK4{A:Nat}:=l02 (A:=A) (B:=B)<|.i wS<|.S .a dB
def aK3{A:Nat}:=l02 (A:=A) (B:=B)<|.i (.S .b rJ)<|.S aR<|.m dJ .b
def aK2{A:Nat}:=l02 (A:=A) (B:=B)<|.i wS<|.L (.p (.k 8100) .a)<|.k 50000
def aK1{A:Nat}:=l02 (A:=A) (B:=B)<|.i (.L .b<|.k 100)<|.i fF<|.L .a iB
def aK0{A:Nat}:=l02 (A:=A) (B:=B)<|.i aAV<|.S .a eP
def aJZ{a:Int}{A:Nat}:=l11 (a:=a) (A:=A)<|.L (.n (.t<|.m aR .a)<|.m .a bK) aC
theorem aAq{k:Nat}(h:k<n):P1 (k:Int) n=Na k:=by
 have a:¬(k:Int)<0:=Z7.mpr<|E2 k;unfold P1;rw[if_neg a];show(if (Nf (0<=(k:Int))&&Nf ((k:Int)<n))=Nc then Na (k:Int).toNat else Nb)=Na k;rw[decide_eq_true<|E2 k,decide_eq_true<|Int.ofNat_lt.mpr h,L3];rfl
theorem tY(h:i=B)(hk:B<n):P1 i n=Na B:=h▸aAq hk
def aJs{a:Int}{A:Nat}:=l11 (a:=a) (A:=A)<|.i bE<|.l aE cK
def aJr{a b:Int}{A:Nat}:=l22 (a:=a) (b:=b) (A:=A) (B:=B)<|.i (.S .a<|.t eM)<|.i (.l .b aN)<|.s cK aN
theorem aJq{A:Nat}:B<=1000000->A<B->A<=16777216:=l02<|.i (.L .b cL)<|.i dT jQ
inductive Sv where
 | d (x:Dt)
 | o (n:Nat)
variable{ss as:List Sv}{s':Sv}
noncomputable def Sv.ctorIdx(x:Sv):Nat:=Sv.casesOn (motive:=λO=>Nat) x (λO=>0) λO=>1
inductive Ow where
 | lst (l:List Dt)
 | cell (v:Option Sv)
 | ns (r:List<|Str×Sv)
 | ins (n:Nat)
 | any (D:HP->OD)
 | fz (x:Dt)
 | nil
variable{o':Ow}{o1 o2:List Ow}
noncomputable def Ow.ctorIdx(x:Ow):Nat:=Ow.casesOn (motive:=λO=>Nat) x (λO=>0) (λO=>1) (λO=>2) (λO=>3) (λO=>4) (λO=>5) 6
abbrev Lo:=List<|Str×Sv
variable{r' r2:Lo}
structure Sd where
 r:Lo
 o:List Ow
 d:D8
variable{S S' S1 S2 S3 S4:Sd}
structure Fr where
 Z:HP
 α:List E3
variable{φ ψ bj:Fr}
structure Lt(b:Bool)(φ ψ:Fr):Prop where
 le:HP.le φ.Z ψ.Z
 pre:b=Nc->φ.α <+: ψ.α
noncomputable def Ow.lv(o:Ow):Bool:=Ow.casesOn (motive:=λO=>Bool) o (λO=>Nc) (λO=>Nc) (λO=>Nc) (λO=>Nc) (λO=>Nc) (λO=>Nd) Nd
variable{lv:List A3->List A3}
def SvR(φ:Fr)(s:Sv)(v:A3):Prop:=Sv.casesOn (motive:=λO=>Prop) s (λx=>Rp φ.Z x v) (λn=>∃a,φ.α[n]?=Na a/\v=.ref a)
def NsR(φ:Fr)(r:Lo)(m:Str->Option A3):Prop:=∀x s,r.lookup x=Na s->∃v,m x=Na v/\SvR φ s v
def OvR(φ:Fr)(s:Option Sv)(v:Option A3):Prop:=Option.casesOn (motive:=λO=>Prop) s True (λs=>∃u,v=Na u/\SvR φ s u)
def OwR(φ:Fr)(o:Ow):OD:=λb=>Ow.casesOn (motive:=λO=>Prop) o (λl=>∃vs,aY vs b/\Rps φ.Z l vs) (λs=>∃v,b.data=.cell v/\OvR φ s v) (λr=>∃m,dH (nsD m b) (NsR φ r m)<|Within m<|r.map (·.1)) (λn=>∃a,φ.α[n]?=Na a/\eqD (smO a) b) (λD=>∃Z0,HP.le Z0 φ.Z/\D Z0 b) (λO=>True) True
theorem aAA{qw:List E3}(p:Y <+: qw)(e:Y[B]?=Na I):qw[B]?=Na I:=by
 obtain⟨t,rfl⟩:=p;rw[L5 (A4.mp e).1];exact e
section
variable{b:Bool}{χ:Fr}
theorem Lt.refl:Lt b φ φ:=⟨.refl _,λO=>Q6 _⟩
theorem Lt.tr(x:Lt b φ ψ)(y:Lt b' ψ χ):Lt (b&&b') φ χ:=⟨x.le.trans y.le,λh=>(x.pre (F8.mp h).1).trans<|y.pre (F8.mp h).2⟩
theorem Lt.f(x:Lt b φ ψ):Lt Nd φ ψ:=⟨x.le,λh=>nomatch h⟩
theorem Lt.get(l:Lt Nc φ ψ){i:Nat}{a:E3}(e:φ.α[i]?=Na a):ψ.α[i]?=Na a:=aAA (l.pre rfl) e
theorem Lt.z{α:List E3}(l:HP.le Z Z'):Lt b ⟨Z,α⟩ ⟨Z',α⟩:=⟨l,λO=>Q6 _⟩
theorem SvR.up{s:Sv}{v:A3}(l:Lt Nc φ ψ)(r:SvR φ s v):SvR ψ s v:=by
 cases s with
 | d x=>exact Rp.up l.le r
 | o n=>exact A2 r λa q=>⟨a,l.get q.1,q.2⟩
theorem NsR.up{r:Lo}{m:Str->Option A3}(l:Lt Nc φ ψ)(x:NsR φ r m):NsR ψ r m:=λy s e=>A2 (x y s e) λv q=>⟨v,q.1,q.2.up l⟩
theorem OvR.up{s:Option Sv}{v:Option A3}(l:Lt Nc φ ψ)(r:OvR φ s v):OvR ψ s v:=by
 cases s with
 | none=>trivial
 | some s=>exact A2 r λu q=>⟨u,q.1,q.2.up l⟩
theorem OwR.up{o:Ow}{x:Obj}(l:Lt Nc φ ψ)(r:OwR φ o x):OwR ψ o x:=by
 cases o with
 | lst x=>exact A2 r λb q=>⟨b,q.1,q.2.up l.le⟩
 | cell s=>exact A2 r λv q=>⟨v,q.1,q.2.up l⟩
 | ns d=>exact A2 r λm q=>⟨m,q.1,q.2.up l,q.3⟩
 | ins n=>exact A2 r λa q=>⟨a,l.get q.1,q.2⟩
 | any D=>exact A2 r λZ q=>⟨Z,q.1.trans l.le,q.2⟩
 | fz x=>trivial
 | nil=>trivial
end
variable{z:Str}{f:I8}
structure C3 where
 w:E9
 A:M2
 env:Env
 os:U1
 cells:List Str
 G:Array H9->Prop
 pn:List E3
def C3.pin(c:C3)(i:Nat)(a:E3):Prop:=(∃x,c.cells[i]?=Na x/\c.env.cells.lookup x=Na a)\/c.pn[i]?=Na a
noncomputable def C3.np(c:C3):Nat:=c.cells.length+c.pn.length
theorem aLv{c:C3}(h:c.pin B I):B<c.np:=h.elim (fun⟨_,e,_⟩=>I6 (A4.mp e).1<|K5 _ _) λe=>I6 (A4.mp e).1<|Nat.le_add_left _ _
structure Own(φ:Fr)(X:List E3)(h:O7)(a:E3)(o:Ow):Prop where
 at_:At h a (OwR φ o)
 z:φ.Z a=Nb
 n:a∉X
structure OkO(φ:Fr)(X:List E3)(h:O7)(a:E3)(o:Ow):Prop where
 lv:o.lv=Nc->Own φ X h a o
 fz:∀x,o=.fz x->Rp φ.Z x (.ref a)
noncomputable abbrev C3.X(c:C3)(H:TT):List E3:=c.env.locals::H.map (·.1)
variable{X:List E3}
structure Liv(α:List E3)(l:List Ow)(i:Nat)(a:E3)(o:Ow):Prop where
 ea:α[i]?=Na a
 eo:l[i]?=Na o
 lv:o.lv=Nc
structure Rl3(c:C3)(φ:Fr)(H:TT)(S:Sd)(h:O7):Prop where
 len:φ.α.length=S.o.length
 ok:∀(i:Nat) a o,φ.α[i]?=Na a->S.o[i]?=Na o->OkO φ (c.X H) h a o
 inj:∀(i j:Nat) a o o',Liv φ.α S.o i a o->Liv φ.α S.o j a o'->i=j
 ns:∃m,h.Ns c.env.locals m/\NsR φ S.r m
 hid:∀p∈H,At h p.1 p.2
 sub:Sub φ.Z h
 hz:∀a∈c.X H,φ.Z a=Nb
 nd:(c.X H).Nodup
 cl:∀(i:Nat) a,c.pin i a->φ.α[i]?=Na a
section
variable{c:C3}{H:TT}
theorem nsX(n:h.Ns I m')(k:aK Y h h')(hL:I∉Y):h'.Ns I m':=by
 obtain⟨o,b,a,e,r⟩:=n;exact⟨o,b,a,k I o hL e,r⟩
theorem Rl3.own(R:Rl3 c φ H S h){i:Nat}{a:E3}{o:Ow}(l:Liv φ.α S.o i a o):Own φ (c.X H) h a o:=(R.ok i a o l.ea l.eo).lv l.lv
theorem Rl3.xIn(R:Rl3 c φ H S h)(i:I∈c.X H):h.get? I≠none:=by
 obtain rfl|i:=A8.mp i
 .obtain⟨m,⟨o,_,_,e,_⟩,_⟩:=R.ns;rw[e];exact nofun
 .obtain⟨p,hp,rfl⟩:=C1.mp i;obtain⟨o,e,_⟩:=R.hid p hp;rw[e];exact nofun
theorem Own.in_{o:Ow}(w:Own φ X h I o):h.get? I≠none:=by
 obtain⟨b,e,_⟩:=w.at_;rw[e];exact nofun
abbrev sB(α:List E3)(o:List Ow)(a:E3):Prop:=Ex2 fun(i:Nat) x=>Liv α o i a x
theorem Own.step{o:Ow}(w:Own φ X h I o)(l:Lt Nc φ ψ)(k:aK Y h h')(n:I∉Y)(z:ψ.Z I=Nb):Own ψ X h' I o:=
 ⟨A2 w.at_ λb q=>⟨b,k I b n q.1,q.2.up l⟩,z,w.n⟩
theorem Rl3.step{α:List E3}(R:Rl3 c ⟨Z,α⟩ H S h)(le:HP.le Z Z')(sub:Sub Z' h')(k:aK Y h h')(f:∀a,Z a=Nb->(a∈c.X H\/sB α S.o a)->a∉Y/\Z' a=Nb):Rl3 c ⟨Z',α⟩ H S h':=
 have g:=λa i=>f a (R.hz a i) (.inl i)
 ⟨R.len,λi a o b d=>⟨λl=>have w:=R.own ⟨b,d,l⟩;have q:=f a w.z<|.inr ⟨i,o,b,d,l⟩;w.step (.z le) k q.1 q.2,λx e=>((R.ok i a o b d).fz x e).up le⟩,R.inj,
  A2 R.ns λm q=>⟨m,nsX q.1 k (g _<|.head _).1,q.2.up<|.z le⟩,λp hp=>(R.hid p hp).keepX k (g _<|.tail _<|C9 hp).1,sub,λa i=>(g a i).2,R.nd,R.cl⟩
theorem aAp{y:Ow}(e:(o1.set n o')[B]?=Na y):(B=n/\y=o')\/(B≠n/\o1[B]?=Na y):=by
 rw[V1] at e;by_cases q:n=B
 .rw[if_pos q] at e;split at e
  .cases e;exact .inl ⟨q.symm,rfl⟩
  .cases e
 .rw[if_neg q] at e;exact .inr ⟨λz=>q z.symm,e⟩
theorem gL{y:Ow}(w:Liv Y (o1.set n o') B I y):(B=n/\y=o')\/(B≠n/\Liv Y o1 B I y):=
 (aAp w.eo).imp id λq=>⟨q.1,w.ea,q.2,w.lv⟩
theorem Rl3.set(R:Rl3 c φ H S h)(n:Nat)(o:Ow)(ok:∀a,φ.α[n]?=Na a->OkO φ (c.X H) h a o)(ap:o.lv=Nc->∀i a x,φ.α[n]?=Na a->Liv φ.α S.o i a x->i=n):Rl3 c φ H {S with o:=S.o.set n o} h:=by
 refine⟨by show _=(S.o.set n o).length;rw[T8];exact R.len,λi a x w p=>?_,λi j a x y q e=>?_,R.ns,R.hid,R.sub,R.hz,R.nd,R.cl⟩
 .obtain⟨rfl,rfl⟩|⟨_,p⟩:=aAp p
  .exact ok a w
  .exact R.ok i a x w p
 .obtain⟨r,A⟩|⟨_,d⟩:=gL q
  .obtain⟨g,u⟩|⟨_,b⟩:=gL e
   .exact r.trans g.symm
   .subst r A;exact(ap q.lv j a y q.ea b).symm
  .obtain⟨g,u⟩|⟨_,b⟩:=gL e
   .subst g u;exact ap e.lv i a x e.ea d
   .exact R.inj i j a x y d b
theorem Rl3.kill(R:Rl3 c φ H S h)(n:Nat):Rl3 c φ H {S with o:=S.o.set n .nil} h:=R.set n .nil (λO O=>⟨(λl=>nomatch l),nofun⟩) λl=>nomatch l
theorem Rl3.alone(R:Rl3 c φ H S h)(w:Liv φ.α S.o n I o'):¬sB φ.α (S.o.set n .nil) I:=fun⟨i,x,wi⟩=>
 (gL wi).elim (λq=>by cases q.2;cases wi.lv) λq=>q.1<|R.inj i n I x o' q.2 w
theorem set_set{y:Ow}:(o1.set n o').set n y=o1.set n y:=List.set_set ..
theorem Rl3.set2{o:Ow}(R:Rl3 c φ H {S with o:=(S.o.set n .nil).set n o} h):Rl3 c φ H {S with o:=S.o.set n o} h:=by
 rwa [set_set] at R
theorem Rl3.upd(R:Rl3 c φ H S h){a:E3}{o:Ow}(w:Liv φ.α S.o n a o)(jv:o'.lv=Nc)(k:aK [a] h h')(at_:At h' a<|OwR φ o'):Rl3 c φ H {S with o:=S.o.set n o'} h':=
 have own:=R.own w;have g:=R.alone w;have j:∀b,b≠a->b∉[a]:=λb n i=>n<|C6.mp i;have p:=(R.kill n).step (.refl _) (λb x e=>k b x (j b (by rintro rfl;rw[own.z] at e;cases e))<|R.sub b x e) k λb u q=>⟨j b (by rintro rfl;exact q.elim own.n g),u⟩
 (p.set n o' (λb d=>⟨λO=>by rw[show b=a from H8 (d.symm.trans w.ea)];exact⟨at_,own.z,own.n⟩,λx e=>by rw[e] at jv;cases jv⟩) λO i b x d r=>absurd ⟨i,x,by rw[show a=b from H8 (w.ea.symm.trans d)];exact r⟩ g).set2
theorem Rl3.frz(R:Rl3 c ⟨Z,X⟩ H S h){o:Ow}(w:Liv X S.o n I o)(hx:∀Z',HP.le Z Z'->AtZ Z' I (OwR ⟨Z',X⟩ o)->Rp Z' oc (.ref I)):∃Z',HP.le Z Z'/\Rl3 c ⟨Z',X⟩ H {S with o:=S.o.set n (.fz oc)} h:=by
 have own:=R.own w;obtain⟨b,g,i⟩:=own.at_;have a:=R.alone w;have p:Z I=none:=own.z;have le:HP.le Z λy=>if y=I then Na b else Z y:=λy z e=>by
  show(if y=I then Na b else Z y)=Na z;rw[if_neg (by rintro rfl;rw[p] at e;cases e)];exact e
 refine⟨_,le,(((R.kill n).step (Y:=[]) le (λy z e=>?_) (λO O O e=>e) λy r q=>⟨nofun,(if_neg λe=>by subst e;exact q.elim own.n a).trans r⟩).set n (.fz oc) (λd j=>⟨(λl=>nomatch l),λy e=>?_⟩) λl=>nomatch l).set2⟩
 .by_cases q:y=I
  .subst q;rw[show Na z=Na b from e.symm.trans (if_pos rfl)];exact g
  .exact R.sub y z ((if_neg q).symm.trans e)
 .cases e;rw[show d=I from H8 (j.symm.trans w.ea)]
  exact hx _ le ⟨b,if_pos rfl,i.up<|.z le⟩
def bP(Z:HP)(h h':O7)(X:List E3):HP:=λb=>if b∈X then Z b else dE Z h h' b
theorem jM(i:I∈X):bP Z h h' X I=Z I:=if_pos i
theorem jN{b:E3}(i:b∉X):bP Z h h' X b=dE Z h h' b:=if_neg i
theorem eK:bP Z h h' []=dE Z h h':=funext λO=>jN nofun
theorem aW(s:Sub Z h):HP.le Z<|bP Z h h' X:=λb x e=>by
 by_cases i:b∈X
 .rw[jM i];exact e
 .rw[jN i];exact kB s b x e
theorem Rl3.grow{α:List E3}(R:Rl3 c ⟨Z,α⟩ H S h)(k:aM h h')(X:List E3):Rl3 c ⟨bP Z h h' X,α⟩ H S h':=by
 refine R.step (Y:=[]) (aW R.sub) (λb x e=>?_) (.of k) λa z q=>⟨nofun,?_⟩
 .by_cases i:b∈X
  .rw[jM i] at e;exact k _ _ (R.sub _ _ e)
  .rw[jN i] at e;exact wJ R.sub k b x e
 .by_cases i:a∈X
  .rw[jM i];exact z
  .have:=q.elim R.xIn fun⟨i,x,w⟩=>(R.own w).in_;rw[jN i];unfold dE;cases e:h.get? a with
   | none=>exact absurd e this
   | some o=>exact z
theorem qU{β:Type}{l:List β}{x y:β}(hn:l.length=n)(e:(l++[x])[B]?=Na y):(B=n/\y=x)\/(B<n/\l[B]?=Na y):=by
 subst hn;by_cases q:B<l.length
 .rw[L5 q] at e;exact .inr ⟨q,e⟩
 .have a:=(A4.mp e).1;rw[A5] at a;have a:B=l.length:=Nat.le_antisymm (I3 a)<|AB6 q;subst a;rw[D9] at e;cases e;exact .inl ⟨rfl,rfl⟩
theorem aOg{β γ:Type}{l:List β}{m:List γ}(hn:l.length=m.length){x y:β}{u v:γ}{i:Nat}(e1:(l++[x])[i]?=Na y)(e2:(m++[u])[i]?=Na v):dH (i=l.length) (y=x) (v=u)\/(l[i]?=Na y/\m[i]?=Na v):=by
 obtain⟨a,q⟩|⟨a,e1⟩:=qU rfl e1
 .obtain⟨_,d⟩|⟨b,_⟩:=qU hn.symm e2
  .exact .inl ⟨a,q,d⟩
  .exact absurd b (a▸Nat.lt_irrefl _)
 .obtain⟨b,_⟩|⟨_,e2⟩:=qU hn.symm e2
  .exact absurd a (b▸Nat.lt_irrefl _)
  .exact .inr ⟨e1,e2⟩
theorem Rl3.push{α:List E3}(R:Rl3 c ⟨Z,α⟩ H S h){a:E3}{o:Ow}(w:Own ⟨Z,α++[a]⟩ (c.X H) h a o)(nl:¬sB α S.o a)(lv:o.lv=Nc):Rl3 c ⟨Z,α++[a]⟩ H {S with o:=S.o++[o]} h:=by
 have l:Lt Nc ⟨Z,α⟩ ⟨Z,α++[a]⟩:=⟨.refl _,λO=>M3 _ _⟩
 have p:=λ{i b x}=>aOg (i:=i) (x:=a) (y:=b) (u:=o) (v:=x) R.len;refine⟨by show(α++[a]).length=(S.o++[o]).length;rw[A5,A5,show α.length=_ from R.len];rfl,λi b x d g=>?_,λi j b x y r n=>?_,A2 R.ns λm q=>⟨m,q.1,q.2.up l⟩,R.hid,R.sub,R.hz,R.nd,λi b e=>l.get<|R.cl i b e⟩
 .obtain⟨_,rfl,rfl⟩|⟨d,g⟩:=p d g
  .exact⟨λO=>w,λy e=>by rw[e] at lv;cases lv⟩
  .exact⟨λq=>(R.own ⟨d,g,q⟩).step l (Y:=[]) (λO O O e=>e) nofun (R.own ⟨d,g,q⟩).z,(R.ok i b x d g).fz⟩
 .obtain⟨C,A,_⟩|⟨d,g⟩:=p r.ea r.eo
  .obtain⟨E,_,_⟩|⟨B,ey⟩:=p n.ea n.eo
   .exact C.trans E.symm
   .exact absurd ⟨j,y,A▸B,ey,n.lv⟩ nl
  .obtain⟨_,A,_⟩|⟨B,ey⟩:=p n.ea n.eo
   .exact absurd ⟨i,x,A▸d,g,r.lv⟩ nl
   .exact R.inj i j b x y ⟨d,g,r.lv⟩ ⟨B,ey,n.lv⟩
theorem Rl3.fresh(R:Rl3 c φ H S h){a:E3}(na:h.get? a=Nb):dH (φ.Z a=Nb) (a∉c.X H)<|¬sB φ.α S.o a:=by
 refine⟨?_,λi=>R.xIn i na,fun⟨i,x,w⟩=>(R.own w).in_ na⟩;cases z:φ.Z a with
 | none=>rfl
 | some o=>rw[R.sub _ _ z] at na;cases na
theorem Rl3.alloc(R:Rl3 c ⟨Z,Y⟩ H S h)(k:aM h h')(na:h.get? I=Nb){o:Ow}(lv:o.lv=Nc)(at_:At h' I<|OwR ⟨bP Z h h' [I],Y++[I]⟩ o):Rl3 c ⟨bP Z h h' [I],Y++[I]⟩ H {S with o:=S.o++[o]} h':=
 have f:=R.fresh na
 (R.grow k [I]).push ⟨at_,(jM<|.head _).trans f.1,f.2⟩ f.3 lv
theorem kN{β:Type}{l t:List β}{y:β}(e:l[B]?=Na y):(l++t)[B]?=Na y:=by
 rw[L5 (A4.mp e).1];exact e
section
variable{α t:List E3}{Z0:HP}
theorem SvR.down{s:Sv}{v:A3}(x:SvR ⟨Z0,α⟩ s ao)(r:SvR ⟨Z,α++t⟩ s v):SvR ⟨Z,α⟩ s v:=by
 cases s with
 | d x=>exact r
 | o n=>exact A2 x λa p=>A2 r λb q=>⟨a,p.1,by rw[show a=b from H8 ((kN p.1).symm.trans q.1)];exact q.2⟩
theorem NsR.down(x:NsR ⟨Z0,α⟩ r' m')(y:NsR ⟨Z,α++t⟩ r' mA):NsR ⟨Z,α⟩ r' mA:=λk s e=>A2 (x k s e) λu p=>A2 (y k s e) λv q=>⟨v,q.1,p.2.down q.2⟩
theorem OwR.down{o:Ow}{b:Obj}(x:OwR ⟨Z0,α⟩ o oL)(y:OwR ⟨Z,α++t⟩ o b):OwR ⟨Z,α⟩ o b:=by
 cases o with
 | cell s=>
  cases s with
  | none=>exact y
  | some s=>exact A2 x λO p=>A2 p.2 λO p=>A2 y λv q=>⟨v,q.1,A2 q.2 λu q=>⟨u,q.1,p.2.down q.2⟩⟩
 | ns r=>exact A2 x λO p=>A2 y λm q=>⟨m,q.1,p.2.down q.2,q.3⟩
 | ins n=>exact A2 x λa p=>A2 y λb q=>⟨a,p.1,by rw[show a=b from H8 ((kN p.1).symm.trans q.1)];exact q.2⟩
 | _=>exact y
theorem Rl3.drop{h0:O7}{H0:TT}{tl:List Ow}(R0:Rl3 c ⟨Z0,α⟩ H0 S h0)(R:Rl3 c ⟨Z,α++t⟩ H {S with o:=S.o++tl} h):Rl3 c ⟨Z,α⟩ H S h:=
 have g:∀{i a x},Liv α S.o i a x->Liv (α++t) (S.o++tl) i a x:=λw=>⟨kN w.ea,kN w.eo,w.lv⟩
 ⟨R0.len,λi a o d e=>⟨λl=>have w:=R.own<|g ⟨d,e,l⟩;⟨A2 (R0.own ⟨d,e,l⟩).at_ λA p=>A2 w.at_ λb q=>⟨b,q.1,p.2.down q.2⟩,w.z,w.n⟩,(R.ok i a o (kN d)<|kN e).fz⟩,λi j a x y r u=>R.inj i j a x y (g r)<|g u,
  A2 R0.ns λO p=>A2 R.ns λm q=>⟨m,q.1,p.2.down q.2⟩,R.hid,R.sub,R.hz,R.nd,R0.cl⟩
end
theorem lkS:((x,s')::r').lookup y=if y=x then Na s' else r'.lookup y:=by
 rw[List.lookup_cons];by_cases h:y=x
 .rw[if_pos h,beq_iff_eq.mpr h]
 .rw[if_neg h,beq_eq_false_iff_ne.mpr h]
def pu(x:Str)(s:Sv)(r:Lo):Lo:=List.rec (motive:=λO=>Lo) [(x,s)] (λp r q=>if (x==p.1)=Nc then (x,s)::r else p::q) r
theorem wC{s:Sv}{r:Lo}:(pu x s r).lookup y=if y=x then Na s else r.lookup y:=by
 induction r with
 | nil=>exact lkS
 | cons p r a=>
  obtain⟨k,u⟩:=p;show(if (x==k)=Nc then (x,s)::r else (k,u)::pu x s r).lookup y=_;by_cases h:x=k
  .subst h;rw[if_pos<|beq_self_eq_true x,lkS,lkS];by_cases q:y=x
   .rw[if_pos q,if_pos q]
   .rw[if_neg q,if_neg q,if_neg q]
  .rw[if_neg<|by simpa using h,lkS,a,lkS];by_cases q:y=k
   .rw[if_pos q,if_neg λz=>h<|z.symm.trans q,if_pos q]
   .rw[if_neg q,if_neg q]
theorem NsR.pu{v:A3}(n:NsR φ r' m')(rv:SvR φ s' v):NsR φ (pu x s' r') λy=>if y=x then Na v else m' y:=λy t e=>by
 rw[wC] at e;by_cases q:y=x
 .rw[if_pos q] at e;cases e;exact⟨v,if_pos q,rv⟩
 .rw[if_neg q] at e;exact A2 (n y t e) λu p=>⟨u,(if_neg q).trans p.1,p.2⟩
theorem Rl3.store(R:Rl3 c φ H S h)(rv:SvR φ s' ao)(hm:NsR φ S.r m')(hn:h'.Ns c.env.locals λy=>if y=x then Na ao else m' y)(hs:P5 c.env.locals h h'):Rl3 c φ H {S with r:=Mine.Internal.pu x s' S.r} h':=
 have k:=.same hs;have a:∀{b},b≠c.env.locals->b∉[c.env.locals]:=λn i=>n (C6.mp i)
 ⟨R.len,λi b o d g=>⟨λl=>have w:=R.own ⟨d,g,l⟩;w.step .refl k (a λe=>w.n<|e▸.head _) w.z,(R.ok i b o d g).fz⟩,R.inj,⟨_,hn,hm.pu rv⟩,λp hp=>(R.hid p hp).keepX k<|a λe=>(B6.mp R.nd).1<|e▸C9 hp,λb o e=>k b o (a (by rintro rfl;rw[R.hz _<|.head _] at e;cases e))<|R.sub b o e,R.hz,R.nd,R.cl⟩
end
structure Pt(c:C3)(H:TT)(S:Sd) where
 φ:Fr
 h:O7
 g:Array H9
 k:Nat
 rm:Rm c.A 0
 gz:GZ c.w φ.Z
 gg:c.G g
 rel:Rl3 c φ H S h
noncomputable abbrev Pt.s{c:C3}{H:TT}{S:Sd}(p:Pt c H S):A6:=⟨p.h,p.g,S.d,p.k,c.os⟩
variable{s:A6}
abbrev RT(β γ:Type):=Fr->β->γ->Prop
inductive EvP(c:C3)(b:Bool)(φ:Fr)(H:TT){β γ:Type}(R:RT β γ)(x:β)(S':Sd)(v:γ)(s:A6):Prop
 | mk (p:Pt c H S') (e:s=p.s) (l:Lt b φ p.φ) (r:R p.φ x v)
structure EvT(c:C3)(b:Bool)(S:Sd){β γ:Type}(R:RT β γ)(t:Sem γ)(x:β)(S':Sd):Prop where
 of::run:∀H(p:Pt c H S),WP c.w c.A t (EvP c b p.φ H R x S') FF p.s
abbrev EqR{γ:Type}(_:Fr)(b v:γ):Prop:=v=b
inductive eB(φ:Fr):List Sv->List A3->Prop
 | nil:eB φ [] []
 | cons {s:Sv} {v:A3} {ss:List Sv} {vs:List A3}:SvR φ s v->eB φ ss vs->eB φ (s::ss) (v::vs)
inductive Ou where
 | next
 | cont
 | brk
 | ret (s:Sv)
variable{o:Ou}
noncomputable def Ou.ctorIdx(x:Ou):Nat:=Ou.casesOn (motive:=λO=>Nat) x 0 1 2 λO=>3
def OuR(φ:Fr)(o:Ou)(f:U4):Prop:=Ou.casesOn (motive:=λO=>Prop) o (f=.next) (f=.cont) (f=.brk) (λs=>∃v,f=.ret v/\SvR φ s v)
abbrev EvE(c:C3)(S:Sd)(e:Expr)(v:Sv)(S':Sd):Prop:=EvT c Nc S SvR (eval e c.env) v S'
abbrev EvA(c:C3)(S:Sd)(pos:Pos)(es:List Expr)(vs:List Sv)(S':Sd):Prop:=EvT c Nc S eB (spliced<|I9 pos<|C0 es c.env) vs S'
abbrev EvB(c:C3)(S:Sd)(e:Expr)(b:Bool)(S':Sd):Prop:=EvT c Nc S EqR (isTrue e c.env<|eval e c.env) b S'
abbrev EvX(c:C3)(S:Sd)(b:List F9)(o:Ou)(S':Sd):Prop:=EvT c Nd S OuR (execs b c.env) o S'
abbrev EvS(c:C3)(S:Sd)(b:F9)(o:Ou)(S':Sd):Prop:=EvT c Nd S OuR (exec b c.env) o S'
structure OpS(c:C3)(S:Sd){β γ:Type}(R:RT β γ)(t:List A3->Sem γ)(as:List Sv)(x:β)(S':Sd):Prop where
 of::run:∀H(p:Pt c H S) vs,eB p.φ as vs->WP c.w c.A (t vs) (EvP c Nc p.φ H R x S') FF p.s
section
variable{c:C3}{b:Bool}{H:TT}{R:RT β γ}{x:β}
theorem eB.up(l:Lt Nc φ ψ)(r:eB φ ss vs):eB ψ ss vs:=by
 induction r with
 | nil=>exact .nil
 | cons a _ b=>exact .cons (a.up l) b
theorem eB.len(r:eB φ ss vs):vs.length=ss.length:=by
 induction r with
 | nil=>rfl
 | cons _ _ a=>exact congrArg (·+1) a
theorem sv2{t:Sv}{v:A3}(l:Lt Nc φ ψ)(r1:SvR φ s' ao)(r2:SvR ψ t v):eB ψ [s',t] [ao,v]:=.cons (r1.up l)<|.cons r2 .nil
theorem SvR.dt{d:Dt}{v:A3}(r:Rp φ.Z d v):SvR φ (.d d) v:=r
theorem EvP.le{v:γ}(y:EvP c b ψ H R x S' v s)(l:Lt b' φ ψ):EvP c (b'&&b) φ H R x S' v s:=by
 obtain⟨p,e,a,r⟩:=y;exact⟨p,e,l.tr a,r⟩
theorem EvT.go{t:Sem γ}(y:EvT c b S R t x S')(p:Pt c H S){Post:γ->A6->Prop}(q:∀(p':Pt c H S') v,Lt b p.φ p'.φ->R p'.φ x v->Post v p'.s):WP c.w c.A t Post E p.s:=
 WP.in ((y.run H p).mono λv s y=>by obtain⟨p',rfl,l,r⟩:=y;exact q p' v l r)
theorem OpS.go{t:List A3->Sem γ}(y:OpS c S R t as x S')(p:Pt c H S)(r:eB p.φ as vs)(l:Lt b φ p.φ):WP c.w c.A (t vs) (EvP c (b&&Nc) φ H R x S') FF p.s:=
 (y.run H p vs r).mono λv s y=>y.le l
theorem OpS.two{t:List A3->Sem γ}{a2:Sv}(q:∀H(p:Pt c H S) u v,SvR p.φ s' u->SvR p.φ a2 v->WP c.w c.A (t [u,v]) (EvP c Nc p.φ H R x S') FF p.s):OpS c S R t [s',a2] x S':=
 ⟨λH p d r=>by
  cases r with
  | cons a r=>cases r with
   | cons b r=>cases r;exact q H p _ _ a b⟩
theorem Pt.G(p:Pt c H S):Gr c.w p.h:=p.gz _ p.rel.sub
theorem Pt.end(p:Pt c H S){v:γ}(l:Lt b φ p.φ)(r:R p.φ x v):EvP c b φ H R x S v p.s:=⟨p,rfl,l,r⟩
theorem Pt.here(p:Pt c H S){v:γ}(r:R p.φ x v):EvP c b p.φ H R x S v p.s:=⟨p,rfl,.refl,r⟩
def Pt.grow(p:Pt c H S){h':O7}(k:aM p.h h')(X:List E3):Pt c H S:=⟨⟨bP p.φ.Z p.h h' X,p.φ.α⟩,h',p.g,p.k,p.rm,p.gz.le<|aW p.rel.sub,p.gg,p.rel.grow k X⟩
theorem Pt.growL(p:Pt c H S)(k:aM p.h h')(X:List E3):Lt b p.φ (p.grow k X).φ:=.z<|aW p.rel.sub
noncomputable def Pt.tk(p:Pt c H S)(k:Nat):Pt c H S:=⟨p.φ,p.h,p.g,k,p.rm,p.gz,p.gg,p.rel⟩
noncomputable def PdB(x:Dt):Bool:=Dt.casesOn (motive_1:=λO=>Bool) x Nc (λO=>Nc) (λO=>Nc) (λO=>Nc) (λO=>Nd) (λO=>Nd) (λO O O=>Nd) (λO O=>Nd) (λO=>Nd)<|λO=>Nc
theorem Rp.pl{x:Dt}{v:A3}(q:PdB x=Nc)(r:Rp Z x v):Rp Z' x v:=by
 cases x with
 | none=>cases r.inv;exact .none
 | bool b=>cases r.inv;exact .bool _
 | int i=>obtain⟨t,rfl⟩:=r.inv;exact .int _ _
 | str x=>obtain⟨t,rfl⟩:=r.inv;exact .str _ _
 | raw u=>cases r.inv;exact .raw _
 | _=>cases q
noncomputable def drf(S:Sd)(s:Sv):Option<|Dt×Bool:=Sv.casesOn (motive:=λO=>Option<|Dt×Bool) s (λx=>Na (x,Nd)) λn=>(S.o[n]?).bind λo=>Ow.casesOn (motive:=λO=>Option<|Dt×Bool) o (λl=>Na (.lst l,Nc)) (λO=>Nb) (λO=>Nb) (λO=>Nb) (λO=>Nb) (λx=>Na (x,Nd)) Nb
def drs(S:Sd)(ss:List Sv):Option<|List Dt×Bool:=List.rec (motive:=λO=>Option<|List Dt×Bool) (Na ([],Nd)) (λs O r=>(drf S s).bind λx=>r.map λy=>(x.1::y.1,x.2||y.2)) ss
theorem kH{s:Sv}{x:Dt×Bool}(e:drf S s=Na x){c:C3}(R:Rl3 c φ H S h){v:A3}(r:SvR φ s v){P:Prop}(dq:x.2=Nd->Rp φ.Z x.1 v->P)(own:∀n l a,s=.o n->x=(.lst l,Nc)->v=.ref a->φ.α[n]?=Na a->S.o[n]?=Na (.lst l)->P):P:=by
 cases s with
 | d y=>cases e;exact dq rfl r
 | o n=>
  obtain⟨a,b,ev⟩:=r;obtain⟨o,g,e⟩:=M1.mp e;cases o with
  | lst l=>cases e;exact own n l a rfl rfl ev b g
  | fz y=>cases e;exact dq rfl<|ev▸(R.ok n a _ b g).fz _ rfl
  | _=>cases e
theorem Rl3.lst(R:Rl3 c φ H S h){l:List Dt}{a:E3}(ea:φ.α[n]?=Na a)(eo:S.o[n]?=Na (.lst l)):∃vs,At h a (aY vs)/\Rps φ.Z l vs:=
 A2 (R.own ⟨ea,eo,rfl⟩).at_ λb q=>A2 q.2 λvs w=>⟨vs,⟨b,q.1,w.1⟩,w.2⟩
theorem jW{x:Dt×Bool}(e:drf S s'=Na x){v:A3}(R:Rl3 c φ H S h)(r:SvR φ s' v):Rp h.get? x.1 v/\(x.2=Nd->Rp φ.Z x.1 v):=
 kH e R r (λO q=>⟨q.up R.sub,λO=>q⟩) λn l a O g ev b d=>by
  subst g ev;exact A2 (R.lst b d) λi q=>⟨.lst q.1<|q.2.up R.sub,λe=>nomatch e⟩
theorem iP(e:drf S s'=Na (.lst xs,b'))(R:Rl3 c φ H S h)(r:SvR φ s' ao):Ex2 λa vs=>dH (ao=.ref a) (At h a<|aY vs)<|Rps φ.Z xs vs:=
 kH e R r (λO q=>by obtain⟨a,vs,b,d,g⟩:=q.inv;exact⟨a,vs,b,d.up R.sub,g⟩) λn xs a O o ev i j=>by
  cases o
  exact A2 (R.lst i j) λvs q=>⟨a,vs,ev,q.1,q.2⟩
theorem aNf(e:drf S s'=Na (oc,b'))(nl:∀l,oc≠.lst l)(R:Rl3 c φ H S h)(r:SvR φ s' ao):Rp φ.Z oc ao:=
 kH e R r (λO q=>q) λn l a O b ev d g=>by cases b;exact absurd rfl<|nl l
theorem lU:∀{x:List Dt×Bool}{vs:List A3},drs S ss=Na x->Rl3 c φ H S h->eB φ ss vs->Rps h.get? x.1 vs/\(x.2=Nd->Rps φ.Z x.1 vs):=by
 induction ss with
 | nil=>intro x vs e R r;cases e;cases r;exact⟨.nil,λO=>.nil⟩
 | cons s ss i=>
  intro x vs e R r;obtain⟨y,ey,e⟩:=M1.mp e;obtain⟨z,g,rfl⟩:=B0.mp e;cases r with
  | cons a r=>
   have b:=jW ey R a;have d:=i g R r;exact⟨.cons b.1 d.1,λe=>.cons (b.2 (Bool.or_eq_false_iff.mp e).1)<|d.2 (Bool.or_eq_false_iff.mp e).2⟩
theorem Pt.opv(p:Pt c H S){d:Dt}{v:A3}(y:lX Z p.h p.g S.d c.os d v s)(f:∀h',Rp (dE Z p.h h') d v->Rp (bP p.φ.Z p.h h' []) d v):EvP c Nc p.φ H SvR (.d d) S v s:=by
 obtain⟨h',i,b,rfl,a,e⟩:=y;exact⟨(p.grow a []).tk b,rfl,p.growL a [],f h' e⟩
theorem rB{t:List A3->Sem A3}{o:Bool}{d:Dt}(rm:Rm c.A n)(x:OpV c.w n t ds d)(e:drs S as=Na (ds,o))(q:(!o||PdB d)=Nc):OpS c S SvR t as (.d d) S:=
 ⟨λH p b r=>by
  have a:=lU e p.rel r;cases o with
  | false=>exact(x.run c.A p.φ.Z p.h p.g S.d p.k c.os b p.gz rm p.rel.sub<|a.2 rfl).mono λv s y=>p.opv y λi q=>q
  | true=>exact(x.run c.A p.h.get? p.h p.g S.d p.k c.os b (p.gz.le p.rel.sub) rm (λO O e=>e) a.1).mono λv s y=>p.opv y λi w=>w.pl q⟩
theorem aRZ{t:A3->Sem Bool}{x:Bool}(y:OpB c.w 0 t oc x)(e:drf S s'=Na (oc,b'))(p:Pt c H S){v:A3}(r:SvR p.φ s' v):WP c.w c.A (t v) (EvP c Nc p.φ H EqR x S) FF p.s:=
 (y.run c.A p.h.get? p.h p.g S.d p.k c.os v (p.gz.le p.rel.sub) p.rm (λO O e=>e) (jW e p.rel r).1).mono λv s y=>by
  obtain⟨j,i,b,rfl,a,rfl⟩:=y;exact⟨(p.grow a []).tk b,rfl,p.growL a [],rfl⟩
def Pt.list(p:Pt c H S){ds:List Dt}{h':O7}(k:aM p.h h'){a:E3}(na:p.h.get? a=Nb){vs:List A3}(at_:At h' a<|aY vs)(r:Rps (bP p.φ.Z p.h h' [a]) ds vs):Pt c H {S with o:=S.o++[.lst ds]}:=
 ⟨⟨bP p.φ.Z p.h h' [a],p.φ.α++[a]⟩,h',p.g,p.k,p.rm,p.gz.le<|aW p.rel.sub,p.gg,p.rel.alloc k na rfl<|A2 at_ λb q=>⟨b,q.1,vs,q.2,r⟩⟩
theorem Pt.listE(p:Pt c H S)(k:aM p.h h')(na:p.h.get? I=Nb)(at_:At h' I<|aY vs)(r:Rps p.φ.Z ds vs)(l:Lt b φ p.φ):EvP c (b&&Nc) φ H SvR (.o S.o.length) {S with o:=S.o++[.lst ds]} (.ref I) ⟨h',p.g,S.d,p.k,c.os⟩:=
 ⟨p.list k na at_<|r.up<|aW p.rel.sub,rfl,l.tr ⟨aW p.rel.sub,λO=>M3 _ _⟩,I,by rw[← p.rel.len];exact D9,rfl⟩
end
variable{G:GG}
theorem WP.gen{t:Sem α}{Q0:α->A6->Prop}(h:∀Q:α->A6->Prop,(∀v s',Q0 v s'->Q v s')->WP w A t Q E s):WP w A t Q0 E s:=h Q0 λO O x=>x
section
variable{k:Nat}
theorem wQ{T:String}(J:Nat->A6->Prop)(hA:h.objs.size=M)(nl:J7 (.type T) "__len__"=pure Nb)(nh:J7 (.type T) "__length_hint__"=pure Nb)(t1:(X8 T==X8 "list")=Nd)(t2:(X8 T==X8 "tuple")=Nd)
  (hT:A6.TypeIs ⟨h,g,d,k,os⟩ (.ref I) T)
  (iter:∀{A:M2}{E:A3->A6->Prop}{Q:A3->A6->Prop} h1,aK [M] h h1->Q (.ref I) ⟨h1,g,d,k,os⟩->WP w A (Y1<|.ref I) Q E ⟨h1,g,d,k,os⟩)
  (start:∀h1,aM h h1->At h1 M (aY [])->J d8 ⟨h1,g,d,k,os⟩)
  (turn:∀n s,J n s->WP w A.in1.in1.in1 (W5<|.ref I) (λr s1=>match r with
   | none=>Q (.ref M) s1
   | some v=>∃us,dH (At s1.heap M<|aY us) (us.length<=B9)<|∀h2,At h2 M (aY<|us++[v])->aK [M] s1.heap h2->∃m,m<n/\J m {s1 with heap:=h2}) FF s) :
  WP w A (PySem.call (.type "list") [.ref I]) Q E ⟨h,g,d,k,os⟩:=by subst hA;exact aH2 J nl nh t1 t2 hT iter start turn
end
section
variable{c:C3}{H:TT}
noncomputable def aBL(c:C3)(x:Str):Bool:=c.env.kindOf x==Na .local&&(c.env.scope.kind == .function&&!(x==("__debug__" : Str)))
structure aIs(c:C3)(x:Str):Prop where
 l:c.env.kindOf x=Na .local
 k:c.env.scope.kind=.function
 d:(x==("__debug__" : Str))=Nd
theorem aB{a b:Bool}(h:(a&&b)=Nc):a=Nc/\b=true:=F8.mp h
theorem aU(h:aBL c x=Nc):aIs c x:=⟨F6 (aB h).1,F6 (aB (aB h).2).1,J1 _▸(aB (aB h).2).2⟩
theorem bC{s:Sv}(q:aIs c x)(e:S.r.lookup x=Na s):EvE c S (.Name x pos) s S:=
 ⟨λH p=>A2 p.rel.ns λm w=>A2 (w.2 x s e) λv z=>⟨wpAny_Name (wpAny_loadName_local q.k q.l w.1 z.1<|p.here z.2) q.d⟩⟩
noncomputable def clX(c:C3)(x:Str):Bool:=c.env.kindOf x==Na .cell&&(c.env.scope.kind == .function&&(c.env.cells.lookup x).isSome)
structure ClX(c:C3)(x:Str):Prop where
 l:c.env.kindOf x=Na .cell
 k:c.env.scope.kind=.function
 a:∃a,c.env.cells.lookup x=Na a
theorem rW(h:clX c x=Nc):ClX c x:=⟨F6 (aB h).1,F6 (aB (aB h).2).1,U8.mp (aB (aB h).2).2⟩
noncomputable def aEZ(c:C3)(x:Str):Option Nat:=c.cells.findIdx? (· == x)
theorem Pt.cel(p:Pt c H S){s:Option Sv}(ex:clX c x=Nc)(e:aEZ c x=Na n)(eo:S.o[n]?=Na (.cell s)){P:Prop}(q:∀a v,p.φ.α[n]?=Na a->c.env.cells.lookup x=Na a->p.h.IsCell a v->OvR p.φ s v->P):P:=by
 obtain⟨j,g,_⟩:=List.findIdx?_eq_some_iff_getElem.mp e;have i:c.cells[n]?=Na x:=by rw[B1 j,F6 g]
 exact A2 (rW ex).a λa d=>have w:=p.rel.cl n a<|.inl ⟨x,i,d⟩;A2 (p.rel.own ⟨w,eo,rfl⟩).at_ λb z=>A2 z.2 λv y=>q a v w d ⟨b,z.1,y.1⟩ y.2
theorem zZ(hd:(x==("__debug__" : Str))=Nd)(e:clX c x=Nc)(en:aEZ c x=Na n)(eo:S.o[n]?=Na (.cell<|Na s')):EvE c S (.Name x pos) s' S:=
 ⟨λH p=>p.cel e en eo λa w g b d r=>A2 r λu z=>⟨wpAny_Name (wpAny_loadName_cell (rW e).k (rW e).l b (z.1▸d)<|p.here z.2) hd⟩⟩
theorem jV:EvE c S (.Constant (.int i) n pos) (.d<|.int i) S:=⟨λH p=>aJi λt a=>(p.tk a).here<|.int i t⟩
theorem zW:EvE c S (.Constant (.str x) n pos) (.d<|.str x) S:=⟨λH p=>aEF λt a=>(p.tk a).here<|.str x t⟩
theorem aHL:EvE c S (.Constant .none n pos) (.d .none) S:=⟨λH p=>aNc<|p.here .none⟩
theorem aB9:EvE c S (.Constant (.bool b') n pos) (.d<|.bool b') S:=⟨λH p=>aNe<|p.here<|.bool b'⟩
theorem vC{a v:Sv}(x:EvE c S e a S1)(y:EvE c S1 ah s' S2)(z:OpS c S2 SvR (op2<|X7 op) [a,s'] v S3):EvE c S (.BinOp e op ah pos) v S3:=
 ⟨λH p=>aQ2<|x.go p λd u l1 h=>y.go d λg v b i=>z.go g (sv2 b h i)<|l1.tr b⟩
theorem aN3{op:CmpOp}{b v:Sv}(hm:AA0 op ah=Nd)(x:EvE c S e s' S1)(y:EvE c S1 ah b S2)(z:OpS c S2 SvR (op2<|E6 op) [s',b] v S3):EvE c S (.Compare e [op] [ah] pos) v S3:=
 ⟨λH p=>aQ1 hm<|x.go p λd u l1 h=>y.go d λg v a i=>z.go g (sv2 a h i)<|l1.tr a⟩
theorem aEC{op:CmpOp}{b:Sv}(hm:AA0 op ah=Nd)(x:EvE c S e s' S1)(y:EvE c S1 ah b S2)(z:OpS c S2 SvR (op2<|E6 op) [s',b] (.d<|.bool b') S3):EvB c S (.Compare e [op] [ah] pos) b' S3:=
 ⟨λH p=>aJo hm (x.go p λh u l1 n=>y.go h λi v a o=>(z.go i (sv2 a n o)<|l1.tr a).mono λw s y=>by
  obtain⟨j,rfl,g,q⟩:=y;obtain rfl:w=.bool b':=Rp.inv q;exact qA<|j.end g rfl)⟩
theorem aN1(e:EvE c S ah (.d<|.int j) S1):EvE c S (.UnaryOp .USub ah pos) (.d<|.int<|-j) S1:=
 ⟨λH p=>⟨wpAny_UnaryOp (e.go p λa u l1 b=>by
  obtain⟨t,rfl⟩:∃t,u=.int j t:=Rp.inv b;exact PySem.P.neg_int<|(a.tk _).end l1<|.int _ _).run⟩⟩
theorem aNb(e:EvB c S ah b' S1):EvB c S (.UnaryOp .Not ah pos) (!b') S1:=
 ⟨λH p=>aQl<|e.go p λa u l1 b=>a.end l1<|congrArg (!·) b⟩
abbrev aAd(c:C3)(S:Sd)(e:Expr)(t:Sem A3)(b:Bool)(S':Sd):Prop:=EvT c Nc S EqR (isTrue e c.env t) b S'
theorem aBg{t:Sem A3}:aAd c S (.BoolOp .And [] pos) t Nc S:=⟨λH p=>aNA<|p.here rfl⟩
theorem aEA{t:Sem A3}:aAd c S (.BoolOp .Or [] pos) t Nd S:=⟨λH p=>aQk<|p.here rfl⟩
theorem aED{t:Sem A3}{b:Bool}(e:EvB c S ah b' S)(f:b'=Nc->aAd c S (.BoolOp .And rest pos) t b S):aAd c S (.BoolOp .And (ah::rest) pos) t (b'&&b) S:=
 ⟨λH p=>aQm<|e.go p λd u l1 a=>⟨λz=>(f<|a.symm.trans z).go d λh v g i=>h.end (l1.tr g) (by rw[show b'=Nc from a.symm.trans z];exact i),λz=>d.end l1 (by rw[show b'=Nd from a.symm.trans z];rfl)⟩⟩
theorem aJh{t:Sem A3}{b:Bool}(e:EvB c S ah b' S)(f:b'=Nd->aAd c S (.BoolOp .Or rest pos) t b S):aAd c S (.BoolOp .Or (ah::rest) pos) t (b'||b) S:=
 ⟨λH p=>aSX<|e.go p λd u l1 a=>⟨λz=>d.end l1 (by rw[show b'=Nc from a.symm.trans z];rfl),λz=>(f<|a.symm.trans z).go d λh v g i=>h.end (l1.tr g) (by rw[show b'=Nd from a.symm.trans z];exact i)⟩⟩
theorem aPZ{x:Expr}{b:Bool}(hp:isTrue x c.env (eval x c.env)=(do let v ← eval x c.env;standAt x.pos;holding [v] (truthy v)))(e:EvE c S x s' S1)(f:drf S1 s'=Na (oc,b'))(q:OpB c.w 0 truthy oc b):EvB c S x b S1:=
 ⟨λH p=>aSW hp<|e.go p λa u l1 d=>(aRZ q f a d).mono λv s y=>y.le l1⟩
theorem zY{v:Sv}(t:EvB c S e b' S1)(x:b'=Nc->EvE c S1 ah v S2)(y:b'=Nd->EvE c S1 b9 v S2):EvE c S (.IfExp e ah b9 pos) v S2:=
 ⟨λH p=>aQ0<|t.go p λg u l1 h=>⟨λz=>(x<|h.symm.trans z).go g λb v a d=>b.end (l1.tr a) d,λz=>(y<|h.symm.trans z).go g λb v a d=>b.end (l1.tr a) d⟩⟩
theorem eV:EvA c S pos [] [] S:=⟨λH p=>lG<|p.here .nil⟩
theorem bN{v:Sv}(he:C0 (e::rest) c.env=(Nd,eval e c.env)::C0 rest c.env)(x:EvE c S e v S1)(y:EvA c S1 pos rest ss S2):EvA c S pos (e::rest) (v::ss) S2:=
 ⟨λH p=>dZ he<|x.go p λb u l1 g=>y.go b λd v a h=>d.end (l1.tr a)<|.cons (g.up a) h⟩
theorem aMX(a:EvA c S pos ba ss S1)(e:drs S1 ss=Na (ds,Nd))(hz:ds.length<=B9):EvE c S (.Tuple ba n pos) (.d<|.tup ds) S1:=
 ⟨λH p=>aBh (a.go p λb u l1 q=>
  have i:=(lU e b.rel q).2 rfl
  ⟨by rw[i.len];exact hz,λa j o g at_=>(b.grow g []).end (l1.tr<|b.growL g [])<|.dt<|.tup (by show AtZ (bP b.φ.Z b.h j []) a _;rw[eK];exact cF o at_)<|i.up<|aW (X:=[]) b.rel.sub⟩)⟩
theorem aEs(a:EvA c S pos ba ss S1)(e:drs S1 ss=Na (ds,Nd))(hz:ds.length<=B9):EvE c S (.List ba pos) (.o S1.o.length) {S1 with o:=S1.o++[.lst ds]}:=
 ⟨λH p=>aNd (a.go p λb u l1 i=>
  have d:=(lU e b.rel i).2 rfl
  ⟨by rw[d.len];exact hz,λa j h g at_=>b.listE g h at_ d l1⟩)⟩
theorem Pt.frz(p:Pt c H S)(ea:p.φ.α[n]?=Na I)(eo:S.o[n]?=Na (.lst xs)){P:Prop}(q:∀Z',HP.le p.φ.Z Z'->Rl3 c ⟨Z',p.φ.α⟩ H {S with o:=S.o.set n (.fz<|.lst xs)} p.h->Rp Z' (.lst xs) (.ref I)->P):P:=
 A2 (p.rel.frz ⟨ea,eo,rfl⟩ λZ' le w=>A2 w λb q=>A2 q.2 λa z=>.lst ⟨b,q.1,z.1⟩ z.2) λZ' w=>q Z' w.1 w.2<|(w.2.ok n I (.fz<|.lst xs) ea<|W3 (A4.mp eo).1).fz _ rfl
theorem xE{t:Sem A3}(x:EvT c Nc S SvR t (.o S.o.length) ⟨S.r,S.o++[.lst ds],d'⟩):EvT c Nc S SvR t (.d<|.lst ds) ⟨S.r,S.o,d'⟩:=
 ⟨λH p=>x.go p λb u l1 A=>by
  obtain⟨a,q,rfl⟩:=A;obtain⟨t,y⟩:=l1.pre rfl;refine b.frz q D9 λn i e B=>?_;have w:(S.o++[Ow.lst ds]).set S.o.length (.fz<|.lst ds)=S.o++[.fz<|.lst ds]:=by rw[Q1 _ _<|C4 _,N8];rfl
  rw[← y,show(⟨S.r,(S.o++[Ow.lst ds]).set S.o.length<|.fz<|.lst ds,d'⟩:Sd)=⟨S.r,S.o++[.fz<|.lst ds],d'⟩ from congrArg (Sd.mk S.r · d') w] at e;have j:Rl3 c p.φ H ⟨S.r,S.o,d'⟩ p.h:=⟨p.rel.len,p.rel.ok,p.rel.inj,p.rel.ns,p.rel.hid,p.rel.sub,p.rel.hz,p.rel.nd,p.rel.cl⟩
  exact⟨⟨⟨n,p.φ.α⟩,b.h,b.g,b.k,p.rm,b.gz.le i,b.gg,j.drop e⟩,rfl,⟨l1.le.trans i,λO=>Q6 _⟩,B⟩⟩
theorem eU{t:Sem A3}(x:EvT c Nc S SvR t (.o S.o.length) {S with o:=S.o++[.lst ds]}):EvT c Nc S SvR t (.d<|.lst ds) S:=xE x
theorem aEq{x:Dt}(hs:∀b' i,subscripted ca Nd b' i=operate [b',i] (getItem b' i))(e1:EvE c S av s' S1)(e2:EvE c S1 ca (.d<|.int i) S2)(e:drf S2 s'=Na (oc,b'))(it:aO oc i x):EvE c S (.Subscript av ca pos) (.d x) S2:=
 ⟨λH p=>aEE (e1.go p λC u l1 h=>e2.go C λa v E I=>by
  obtain⟨t,rfl⟩:=Rp.inv I;have h:=h.up E;have n:∀{w},Rp a.φ.Z x w->EvP c Nc p.φ H SvR (.d x) S2 w a.s:=λr=>a.end (l1.tr E) r;cases it with
  | lst lo q y A=>
   obtain⟨b,J,rfl,at_,g⟩:=iP e a.rel h;obtain⟨v,ev,j⟩:=g.at A;have len:=g.len;refine mE at_.isList.typeIs slot_list_getitem.lookup (hs _ _) ?_;obtain⟨B,o,_⟩|⟨B,C,o,_⟩:=jH y
   .exact⟨wpAny_getItem_list at_.isList B q (by subst o;simpa using ev)<|n j⟩
   .exact⟨wpAny_getItem_list_neg at_.isList B (by simp;exact aT8 len C) lo (by subst o;simpa[len] using ev)<|n j⟩
  | tup lo q y A=>
   obtain⟨b,J,rfl,at_,g⟩:=(aNf e nofun a.rel h).inv;obtain⟨v,ev,j⟩:=g.at A;have len:=g.len;exact mE (at_.up a.rel.sub).isTup.typeIs slot_tuple_getitem.lookup (hs _ _) ⟨getItem_tuple (at_.up a.rel.sub).isTup lo q (by simpa[len] using y) (by simpa using ev)<|n j⟩)⟩
abbrev sN(c:C3)(S:Sd)(e:Option Expr)(i:Option Int)(S':Sd):Prop:=EvT c Nc S (λO b v=>IsPart v b) (evalPart e c.env) i S'
theorem nH:sN c S Nb Nb S:=⟨λH p=>⟨A7<|p.here .none⟩⟩
theorem nG(x:EvE c S e (.d<|.int i) S1):sN c S (Na e) (Na i) S1:=
 ⟨λH p=>(x.go p λa u l1 b=>by
  obtain⟨t,rfl⟩:=Rp.inv b;exact a.end l1 (.int _ _):WP c.w c.A (eval e c.env) _ _ _)⟩
theorem aEr{lo hi st:Option Expr}{x y z:Option Int}{o:Bool}(hs:∀o i,∃dz,subscripted (.Slice lo hi st pp) Nd o i=operate dz (getItem o i))(e1:EvE c S av s' S1)(e2:sN c S1 lo x S2)(e3:sN c S2 hi y S3)(e4:sN c S3 st z S4)(e:drf S4 s'=Na (.lst xs,o))(t0:z≠Na 0)(hz:xs.length<=B9):
  EvE c S (.Subscript av (.Slice lo hi st pp) pos) (.o S4.o.length) {S4 with o:=S4.o++[.lst<|bA xs x y z]}:=
 ⟨λH p=>aEE (e1.go p λI u l1 N=>⟨wpAny_Slice ((e2.go I λJ A n O=>(e3.go J λM B q R=>(e4.go M λd C r T=>by
  obtain⟨b,vs,rfl,at_,w⟩:=iP e d.rel<|N.up<|n.tr<|q.tr r;have len:=w.len;have g:=at_.isList;obtain⟨dz,hs⟩:=hs (.ref b)<|.ref d.h.objs.size;refine mE (g.push _).typeIs list_getitem_lookup hs ⟨wpAny_getItem_list_slice (g.push _) (O7.IsSliceOf.new ..) O R T t0 ?_ (by simp;exact(l03<|.i (.L .c .b)<|.i (.Q .a .c) fF) hz len)⟩;have j:aM d.h<|(d.h.push {cls:=.type "slice",data:=.fields #[A,B,C]}).push {cls:=.type "list",data:=.seq (slicePick vs.toArray x y z)}:=(aJ _ _).trans<|aJ _ _;generalize hk:d.h.push {cls:=.type "slice",data:=.fields #[A,B,C]}=h5 at j ⊢;have E:d.h.get? h5.objs.size=none:=AB7 (by rw[← hk,P4];exact P9 _);have:(slicePick vs.toArray x y z).toList=(sliceRange (L7 x y z xs.length).1 (L7 x y z xs.length).2.1 (L7 x y z xs.length).2.2).filterMap (vs[·]?):=by simp[slicePick,len]
  exact d.listE j E (vs:=(slicePick vs.toArray x y z).toList) ⟨_,C7 _ rfl,0,by simp⟩ (by rw[this];exact w.places _)<|l1.tr<|n.tr<|q.tr r).run).run).run)⟩)⟩
inductive aFx(x:Str)(f:A3):Prop
 | b (B:BI x f):aFx x f
 | g (B:GN x f):aFx x f
structure Fn3(c:C3):Prop where
 k:c.env.scope.kind=.function
 g:c.env.globals=3
 b:c.env.builtins=0
theorem aPU(pl:Fn3 c)(hx:c.env.kindOf x=Na .globalImplicit)(n:aFx x ao)(G:Gr c.w s.heap)(q:Q ao s):WP c.w c.A (eval (.Name x pp) c.env) Q E s:=by
 cases n with
 | b B=>exact g_b G pl.k hx pl.g pl.b B q
 | g B=>exact g_g G pl.k hx pl.g B q
inductive aCk(w:E9):A3->Prop
 | b (id:String):aCk w<|.builtin id
 | t (T:String):aCk w<|.type T
 | k {f:A3} (h:keepIn (K w.params) f=Nc):aCk w f
theorem aHz{f:A3}(fo:aCk c.w f)(he:C0 (e::rest) c.env=(Nd,eval e c.env)::C0 rest c.env)(hp:(I9 pos<|C0 rest c.env).any (·.1)=Nd)
  (q:WP c.w c.A (spliced<|I9 pos<|C0 (e::rest) c.env) (λvs aj=>Gr c.w aj.heap/\WP c.w c.A (PySem.call f vs) Q E aj) E s):WP c.w c.A (Z9 pos f [] (I9 pos<|C0 (e::rest) c.env) (K4 pos<|G5 [] c.env)) Q E s:=by
 cases fo with
 | b id=>exact tN he hp<|q.mono λO O y=>y.2
 | t T=>exact tM he hp<|q.mono λO O y=>y.2
 | k h=>exact aNh h he hp<|q.mono λO O y=>y
theorem iO{f:A3}(pl:Fn3 c)(hx:c.env.kindOf x=Na .globalImplicit)(n:aFx x f)(fo:aCk c.w f)(he:C0 (e::rest) c.env=(Nd,eval e c.env)::C0 rest c.env)(hp:(I9 pos<|C0 rest c.env).any (·.1)=Nd)
  (a:EvA c S pos (e::rest) as S1) (o:OpS c S1 SvR (cal f) as s' S2):EvE c S (.Call (.Name x pp) (e::rest) [] pos) s' S2:=
 ⟨λH p=>gC<|aPU pl hx n p.G<|aHz fo he hp<|a.go p λb u l1 d=>⟨b.G,o.go b d l1⟩⟩
structure aFy(c:C3)(S:Sd)(a:Sv)(n:Str)(id:String):Prop where
 of::run:∀H(p:Pt c H S) v,SvR p.φ a v->∀pl,WP c.w c.A (Y7 v n pl) (λf s=>f=(.builtin id,[v])/\s=p.s) FF p.s
theorem vB{id:String}{v:Sv}(hb:∀t,V9 ah ff c.env t=t)(hf:O5 ((e::rest).length+([]:List AA6).length) (I9 pos<|C0 (e::rest) c.env) (K4 pos<|G5 [] c.env)=Nc)(hl:(fk.endLine==pos.line)=Nc)
  (he:C0 (e::rest) c.env=(Nd,eval e c.env)::C0 rest c.env) (hp:(I9 pos<|C0 rest c.env).any (·.1)=Nd) (x:EvE c S ah s' S1) (m:aFy c S1 s' ff id) (y:EvA c S1 pos (e::rest) as S2) (z:OpS c S2 SvR (cal<|.builtin id) (s'::as) v S3):EvE c S (.Call (.Attribute ah ff fk) (e::rest) [] pos) v S3:=
 ⟨λH p=>fN hb hf hl (x.go p λb u l1 d pl=>WP.in ((m.run H b u d pl).mono λf s q=>by
  obtain⟨rfl,rfl⟩:=q;exact aF4 he hp<|y.go b λg i a h=>z.go g (.cons (d.up a) h)<|l1.tr a))⟩
theorem uL{n:Str}{id:String}(e:drf S s'=Na (.lst xs,b'))(g9:Slot "list" n id)(ty:typeOf (.builtin id)=pure (.type "method_descriptor")):aFy c S s' n id:=
 ⟨λH p v r pl=>by
  obtain⟨b,a,rfl,at_,_⟩:=iP e p.rel r;exact uX g9 ty at_ ⟨rfl,rfl⟩⟩
theorem Pt.lst(p:Pt c H S){l:List Dt}{v:A3}(r:SvR p.φ (.o n) v)(e:S.o[n]?=Na (.lst l)){P:A3->Prop}(q:∀a vs,p.φ.α[n]?=Na a->At p.h a (aY vs)->Rps p.φ.Z l vs->P (.ref a)):P v:=
 A2 r λa w=>A2 (p.rel.lst w.1 e) λvs z=>w.2▸q a vs w.1 z.1 z.2
noncomputable def Pt.put(p:Pt c H S){n:Nat}{l l':List Dt}{a:E3}{vs:List A3}{h':O7}(e:S.o[n]?=Na (.lst l))(ea:p.φ.α[n]?=Na a)(at_:At h' a<|aY vs)(kx:aK [a] p.h h')(rs:Rps p.φ.Z l' vs):Pt c H {S with o:=S.o.set n (.lst l')}:=
 ⟨p.φ,h',p.g,p.k,p.rm,p.gz,p.gg,p.rel.upd ⟨ea,e,rfl⟩ rfl kx<|A2 at_ λb q=>⟨b,q.1,vs,q.2,rs⟩⟩
theorem yT(e:S.o[n]?=Na (.lst xs))(eb:drf S s'=Na (oc,Nd))(hz:xs.length<=B9):OpS c S SvR (cal<|.builtin "list.append") [.o n,s'] (.d .none) {S with o:=S.o.set n (.lst<|xs++[oc])}:=
 .two λH p u v j q=>p.lst j (P:=λu=>WP c.w c.A (cal (.builtin "list.append") [u,v]) _ _ _) e λa x h at_ b=>vV at_ (by rw[b.len];exact hz) λr g i=>(p.put e h g i<|b.append<|.cons ((jW eb p.rel q).2 rfl) .nil).end .refl<|.dt .none
theorem aLL{o:Bool}(e:S.o[n]?=Na (.lst xs))(eb:drf S s'=Na (.lst l2,o))(hz:xs.length+l2.length<=B9):OpS c S SvR (cal<|.builtin "list.extend") [.o n,s'] (.d .none) {S with o:=S.o.set n (.lst<|xs++l2)}:=
 .two λH p u v r x=>p.lst r (P:=λu=>WP c.w c.A (cal (.builtin "list.extend") [u,v]) _ _ _) e λa B i at_ g=>by
  obtain⟨s',C,rfl,h,b⟩:=iP eb p.rel x;exact aDT at_ h (by rw[g.len,b.len];exact hz) λy j q=>(p.put e i j q<|g.append b).end .refl<|.dt .none
theorem aAE{b:Sv}{o2:Bool}(e1:drf S s'=Na (.lst xs,b'))(e2:drf S b=Na (.lst dd,o2))(hz:xs.length+dd.length<=B9):OpS c S SvR (op2<|X7 .Add) [s',b] (.o S.o.length) {S with o:=S.o++[.lst<|xs++dd]}:=
 .two λH p u v n q=>by
  obtain⟨r,h,rfl,⟨x,a,i,rfl⟩,rs1⟩:=iP e1 p.rel n;obtain⟨w,g,rfl,⟨y,d,j,rfl⟩,e⟩:=iP e2 p.rel q;refine⟨concat_meets ⟨_,a,rfl⟩ ⟨_,d,rfl⟩ noFill_list_add seq_list_add PySem.F.slot_list_add PySem.F.entry_list_add (PySem.F.args_list_add_2 _ _) (list_addW r w h.toArray g.toArray i j Nb Nb #[] #[] (by simp;exact aQH hz rs1.len e.len)) ⟨a,d,?_⟩⟩;exact p.listE (aJ _ _) (aG _) ⟨_,C7 _ rfl,0,by simp⟩ (rs1.append e) (b:=Nc) .refl
theorem aN0{o:Expr}(hb:∀t,V9 o (S9 "pop") c.env t=t)(hl:(ap.endLine==pos.line)=Nc)(x:EvE c S o (.o n) S)(e:S.o[n]?=Na (.lst<|xs++[oc]))(hz:xs.length<16777216) :
  EvE c S (.Call (.Attribute o (S9 "pop") ap) [] [] pos) (.d oc) {S with o:=S.o.set n (.lst xs)}:=
 ⟨λH p=>fN hb rfl hl (x.go p λg u l1 C pl=>g.lst C (P:=λu=>WP c.w c.A (Y7 u _ pl) _ _ _) e λa q y at_ h=>by
  have len:=h.len;rw[A5] at len;obtain⟨b,w,rfl⟩:∃b w,q=b++[w]:=by
   obtain rfl|⟨b,w,rfl⟩:=List.eq_nil_or_concat q
   .cases len
   .exact⟨b,w,List.concat_eq_append ..⟩
  rw[A5] at len;have len:=Nat.add_right_cancel len;have E:Rps g.φ.Z xs b:=by
   have:=h.take xs.length
   rwa [List.take_left,← len,List.take_left] at this
  obtain⟨J,j,i⟩:=h.at D9;rw[← len,D9] at j;cases j
  exact uX PySem.F.slot_list_pop (by kernel_rfl) at_<|aEL<|aQe at_ (len▸hz) λI r B=>(g.put e y r B E).end l1<|.dt i)⟩
theorem aN4{D:HP->A3->Prop}(q:aIs c x)(i:S.r.lookup x=Na (.d<|.ob D))(he:C0 (e::rest) c.env=(Nd,eval e c.env)::C0 rest c.env)(hp:(I9 pos<|C0 rest c.env).any (·.1)=Nd)(y:EvA c S pos (e::rest) as S1)(ed:drs S1 as=Na (ds,Nd))(hD:aAe D)(op:xU c.w D ds oc):EvE c S (.Call (.Name x pp) (e::rest) [] pos) (.d oc) S1:=
 ⟨λH p=>gC ((bC q i).go p λo u l1 C=>by
  have n:=Rp.inv C;obtain⟨id,hD⟩:=hD;obtain⟨b,B,rfl,at_⟩:=hD o.φ.Z u n.2;exact aQ5 he hp<|y.go o λa I j E=>⟨(at_.le j.le).up a.rel.sub,(op c.A a.φ.Z a.h a.g S1.d a.k c.os _ I a.rm a.gz a.rel.sub (n.1 _ _ _ j.le n.2)<|(lU ed a.rel E).2 rfl).mono λv s z=>(a.opv z λJ q=>q).le<|l1.tr j⟩)⟩
noncomputable def nbD(x:Dt):Bool:=Dt.casesOn (motive_1:=λO=>Bool) x Nc (λO=>Nc) (λO=>Nc) (λO=>Nc) (λO=>Nc) (λO=>Nc) (λO O O=>Nc) (λO O=>Nc) (λO=>Nd)<|λO=>Nd
def nbS(s:Sv):Bool:=Sv.casesOn (motive:=λO=>Bool) s nbD λO=>Nc
theorem aMx(h:nbS s'=Nc){v:A3}(r:SvR φ s' v):handedOut v=pure v:=by
 cases s' with
 | o n=>obtain⟨a,_,rfl⟩:=r;rfl
 | d x=>
  cases x with
  | none=>cases r.inv;rfl
  | bool b=>cases r.inv;rfl
  | int i=>obtain⟨t,rfl⟩:=r.inv;rfl
  | str x=>obtain⟨t,rfl⟩:=r.inv;rfl
  | tup l=>obtain⟨a,_,rfl,_⟩:=r.inv;rfl
  | lst l=>obtain⟨a,_,rfl,_⟩:=r.inv;rfl
  | mt x y z=>obtain⟨a,rfl,_⟩:=r.inv;rfl
  | rng x y=>obtain⟨a,rfl,_⟩:=r.inv;rfl
  | _=>cases h
structure SmI(c:C3)(φ:Fr)(h:O7)(k m:Nat)(r:Lo)(a dx:E3)(mA:Str->Option A3):Prop where
 ea:φ.α[k]?=Na a
 ed:φ.α[m]?=Na dx
 I:At h a (eqD<|smO dx)
 ne:dx≠a
 D:At h dx (nsD mA)
 n:NsR φ r mA
 w:Within mA<|r.map (·.1)
theorem Pt.ins(p:Pt c H S){m:Nat}{v:A3}(rv:SvR p.φ (.o B) v)(ek:S.o[B]?=Na (.ins m))(em:S.o[m]?=Na (.ns r')){P:A3->Prop}(q:∀a dx mA,SmI c p.φ p.h B m r' a dx mA->P (.ref a)):P v:=
 have r:∀{a},p.φ.α[B]?=Na a->p.φ.α[m]?≠Na a:=λ{a} j n=>by
  have:=p.rel.inj B m a _ _ ⟨j,ek,rfl⟩ ⟨n,em,rfl⟩;subst this;cases ek.symm.trans em
 A2 rv λa w=>A2 (p.rel.own ⟨w.1,ek,rfl⟩).at_ λb z=>A2 z.2 λdx y=>A2 (p.rel.own ⟨y.1,em,rfl⟩).at_ λi g=>A2 g.2 λmA d=>w.2▸q a dx mA ⟨w.1,y.1,⟨b,z.1,y.2⟩,λe=>r w.1<|e▸y.1,⟨i,g.1,d.1⟩,d.2,d.3⟩
theorem vD{o:Expr}{k m:Nat}{r:Lo}{s:Sv}(hb:eval (.Attribute o x pos) c.env=(do
   let ov ← eval o c.env
   standAt pos.atName
   let r ← holding [ov] (getAttr ov x Nc)
   letTemporaryGo o ov r
   pure r)) (e:EvE c S o (.o k) S1) (ek:S1.o[k]?=Na (.ins m)) (em:S1.o[m]?=Na (.ns r)) (lk:r.lookup x=Na s) (c1:nsIn (K c.w.params) 241 x=Na Nb) (c2:J7 (.type "object") x=pure Nb) (nb:∀{φ:Fr}{v:A3},SvR φ s v->handedOut v=pure v):EvE c S (.Attribute o x pos) s S1:=
 ⟨λH p=>vE hb<|e.go p λb u l1 g=>b.ins g ek em (P:=λu=>WP c.w c.A (getAttr u x Nc) _ _ _) λa h j i=>A2 (i.n x s lk) λv w=>aKZ b.G i.I i.ne i.D w.1 c1 c2 (nb w.2) λd=>(b.tk d).end l1 w.2⟩
end
noncomputable def isD(s:Sv):Bool:=Sv.casesOn (motive:=λO=>Bool) s (λO=>Nc) λO=>Nd
def allD(r:Lo):Bool:=r.all λp=>isD p.2
noncomputable def aFw(w:E9)(n:Nat)(t:List A3->Sem A3)(r:Lo)(ds:List Dt)(x:Dt)(r':Lo)(fd:D8->D8):Prop:=∀(c:C3) S k m,c.w=w->Rm c.A n->S.o[k]?=Na (.ins m)->S.o[m]?=Na (.ns r)->OpS c S SvR t (.o k::ds.map .d) (.d x) ⟨S.r,S.o.set m<|.ns r',fd S.d⟩
structure jF(w:E9)(n:Nat)(t:List A3->Sem A3)(r:Lo)(ds:List Dt)(x:Dt)(r':Lo)(fd:D8->D8):Prop where
 of::run:aFw w n t r ds x r' fd
inductive aCh(w:E9)(N:Nat)(x:Str)(OP:E3->Nat->Prop):Prop
 | mk (f:E3) (y:Option A3) (n:Nat) (c1:nsIn (K w.params) 241 x=Na (Na<|.ref f)) (c2:((K w.params).lookup f).map (·.cls)=Na (.type "function")) (c4:J7 (.type "object") x=pure y) (ck:keepIn (K w.params) (.ref f)=Nc) (le:n<=N) (op:OP f n):aCh w N x OP
abbrev SmM(w:E9)(N:Nat)(x:Str)(r:Lo)(ds:List Dt)(d:Dt)(r':Lo)(fd:D8->D8):Prop:=aCh w N x λf n=>jF w n (cal<|.ref f) r ds d r' fd
section
variable{c:C3}{H:TT}
theorem aKR(r:Rps φ.Z ds vs):eB φ (ds.map .d) vs:=Rps.ind (P:=λds vs=>eB φ (ds.map .d) vs) .nil (λa O r=>.cons a r) r
theorem aH1{r:Lo}(h:r.lookup x=Nb):x∉r.map (·.1):=by
 induction r with
 | nil=>exact nofun
 | cons p r a=>
  obtain⟨y,s⟩:=p;rw[lkS] at h;by_cases q:x=y
  .rw[if_pos q] at h;cases h
  .rw[if_neg q] at h;exact λi=>(A8.mp i).elim q<|a h
theorem Pt.smm(p:Pt c H S){OP:E3->Nat->Prop}(M:aCh c.w N x OP)(lk:r'.lookup x=Nb)(ek:S.o[B]?=Na (.ins C))(em:S.o[C]?=Na (.ns r'))(rm:Rm c.A N){u:A3}(ru:SvR p.φ (.o B) u){pl:Sem Bool}{Q:A3×List A3->A6->Prop}(q:∀f n,keepIn (K c.w.params) (.ref f)=Nc->Rm c.A n->OP f n->Q (.ref f,[u]) p.s):WP c.w c.A (Y7 u x pl) Q E p.s:=by
 obtain⟨f,y,n,d,b,e,ck,le,g⟩:=M;obtain⟨of,b,c3⟩:=B0.mp b;exact p.ins ru ek em (P:=λu=>(∀f n,keepIn (K c.w.params) (.ref f)=Nc->Rm c.A n->OP f n->Q (.ref f,[u]) p.s)->WP c.w c.A (Y7 u x pl) Q E p.s) (λa j r i q=>aG6 p.G i.I i.ne i.D (Decidable.byContradiction λh=>aH1 lk<|i.w x h) d b c3 e<|q f n ck (rm.less le) g) q
theorem aMZ{r:Lo}{fd:D8->D8}(rm:Rm c.A N)(hb:∀t,V9 ah x c.env t=t)(hf:O5 ((e::rest).length+([]:List AA6).length) (I9 pos<|C0 (e::rest) c.env) (K4 pos<|G5 [] c.env)=Nc)(hl:(ap.endLine==pos.line)=Nc)(he:C0 (e::rest) c.env=(Nd,eval e c.env)::C0 rest c.env)(hp:(I9 pos<|C0 rest c.env).any (·.1)=Nd)
  (y:EvE c S ah (.o B) S) (ek:S.o[B]?=Na (.ins C)) (em:S.o[C]?=Na (.ns r)) (lk:r.lookup x=Nb) (M:SmM c.w N x r ds oc r' fd) (z:EvA c S pos (e::rest) as S) (ed:drs S as=Na (ds,Nd)):EvE c S (.Call (.Attribute ah x ap) (e::rest) [] pos) (.d oc) ⟨S.r,S.o.set C<|.ns r',fd S.d⟩:=
 ⟨λH p=>fN hb hf hl<|y.go p λg u l1 h pl=>g.smm M lk ek em rm h λf n ck rn i=>aNh ck he hp<|z.go g λa q b j=>⟨a.G,(i.run c S B C rfl rn ek em).go a (.cons (h.up b)<|aKR<|(lU ed a.rel j).2 rfl)<|l1.tr b⟩⟩
theorem aHI{fd:D8->D8}(rm:Rm c.A N)(hb:∀t,V9 e x c.env t=t)(hf:O5 (([]:List Expr).length+([]:List AA6).length) (I9 pos<|C0 [] c.env) (K4 pos<|G5 [] c.env)=Nc)(hl:(ap.endLine==pos.line)=Nc)
  (y:EvE c S e (.o B) S) (ek:S.o[B]?=Na (.ins C)) (em:S.o[C]?=Na (.ns r2)) (lk:r2.lookup x=Nb) (M:SmM c.w N x r2 [] oc r' fd):EvE c S (.Call (.Attribute e x ap) [] [] pos) (.d oc) ⟨S.r,S.o.set C<|.ns r',fd S.d⟩:=
 ⟨λH p=>fN hb hf hl<|y.go p λa u l1 b pl=>a.smm M lk ek em rm b λf n ck rn g=>aJm a.G ck<|(g.run c S B C rfl rn ek em).go a (.cons b .nil) l1⟩
end
noncomputable def aCi(w:E9)(n:Nat)(t:List A3->Sem A3)(r:Lo)(ds:List Dt)(l:List Dt)(r':Lo):Prop:=∀(c:C3) S k m,c.w=w->Rm c.A n->S.o[k]?=Na (.ins m)->S.o[m]?=Na (.ns r)->OpS c S SvR t (.o k::ds.map .d) (.o S.o.length) ⟨S.r,S.o.set m (.ns r')++[.lst l],S.d⟩
structure tU(w:E9)(n:Nat)(t:List A3->Sem A3)(r:Lo)(ds:List Dt)(l:List Dt)(r':Lo):Prop where
 of::run:aCi w n t r ds l r'
section
variable{c:C3}{k m:Nat}{r:Lo}
theorem aHH(rm:Rm c.A N)(hb:∀t,V9 e x c.env t=t)(hf:O5 (([]:List Expr).length+([]:List AA6).length) (I9 pos<|C0 [] c.env) (K4 pos<|G5 [] c.env)=Nc)(hl:(ap.endLine==pos.line)=Nc)
  (y:EvE c S e (.o k) S) (ek:S.o[k]?=Na (.ins m)) (em:S.o[m]?=Na (.ns r)) (lk:r.lookup x=Nb) (M:aCh c.w N x λf n=>tU c.w n (cal<|.ref f) r [] xs r'):EvE c S (.Call (.Attribute e x ap) [] [] pos) (.o S.o.length) ⟨S.r,S.o.set m (.ns r')++[.lst xs],S.d⟩:=
 ⟨λH p=>fN hb hf hl<|y.go p λa u l1 b pl=>a.smm M lk ek em rm b λf n ck rn g=>aJm a.G ck<|(g.run c S k m rfl rn ek em).go a (.cons b .nil) l1⟩
end
inductive Hi where
 | v (x:Dt)
 | t (b:Bool)
 | e (v:Sv)
 | x (o:Ou) (S:Sd)
 | z (n:Nat)
 | m (x:Dt) (r:Lo)
 | l (x:List Dt)
 | k (l:List Dt) (r:Lo)
 | n (x:Ow)
 | f (n:Nat) (o:Ow)
noncomputable def Hi.ctorIdx(x:Hi):Nat:=Hi.casesOn (motive:=λO=>Nat) x (λO=>0) (λO=>1) (λO=>2) (λO O=>3) (λO=>4) (λO O=>5) (λO=>6) (λO O=>7) (λO=>8) λO O=>9
structure Pr(β:Type)(P:β->Prop) where
 v:β
 hs:List Hi
 ps:List Prop
 h:Al ps->P v
def exO{α:Type}(o:Option α):Option {x:α // o=Na x}:=Option.rec (motive:=λo=>Option {x:α // o=Na x}) Nb (λx=>Na ⟨x,rfl⟩) o
section
variable{c:C3}
abbrev PrE(c:C3)(S:Sd)(e:Expr):Type:=Pr Sv λv=>EvE c S e v S
abbrev PrA(c:C3)(S:Sd)(pos:Pos)(es:List Expr):Type:=Pr (List Sv) λv=>EvA c S pos es v S
abbrev PrB(c:C3)(S:Sd)(e:Expr):Type:=Pr Bool λv=>EvB c S e v S
abbrev PrT(c:C3)(S:Sd)(e:Expr)(t:Sem A3):Type:=Pr Bool λv=>aAd c S e t v S
abbrev OpP(c:C3)(S:Sd)(t:List A3->Sem A3)(as:List Sv):Type:=Op Sv λv=>OpS c S SvR t as v S
abbrev PfE(c:C3)(S:Sd):Type:=List Hi->(e:Expr)->Option (PrE c S e)
abbrev PfB(c:C3)(S:Sd):Type:=List Hi->(e:Expr)->Option (PrB c S e)
theorem dM(h:bR e=Nc):C0 (e::rest) c.env=(Nd,eval e c.env)::C0 rest c.env:=by
 cases e <;> first | rfl | cases h
theorem gV:∀{es:List Expr},iJ es=Nc->(I9 pos<|C0 es c.env).any (·.1)=false:=by
 intro es;induction es with
 | nil=>
  intro _;exact rfl
 | cons e es a=>
  intro h;have h:=aB h;rw[dM h.1];exact a h.2
def aDM{t:List A3->Sem A3}(rm:Rm c.A 0)(F:(ds:List Dt)->Option (OpR c.w t ds))(as:List Sv):Option<|OpP c S t as:=
 (exO<|drs S as).bind λm=>(F m.1.1).bind λz=>chk (!m.1.2||PdB z.v) λq=>Na ⟨.d z.v,z.ps,λa=>rB rm (z.h a) m.2 q⟩
noncomputable def two{β:List Dt->Type}(F:(a b:Dt)->Option (β [a,b]))(ds:List Dt):Option<|β ds:=S5 (motive:=λds=>Option<|β ds) ds Nb λa l=>S5 (motive:=λl=>Option<|β<|a::l) l Nb λb m=>S5 (motive:=λm=>Option<|β<|a::b::m) m (F a b) λO O=>Nb
structure NmF(w:E9)(x:Str) where
 f:A3
 n:aFx x f
 k:aCk w f
 F:(ds:List Dt)->Option (OpR w (cal f) ds)
def nmT(w:E9)(x:Str):Option<|NmF w x:=
 if h:(x==S9 "len")=Nc then Na ⟨_,.b<|F6 h▸aFa,.b _,aSg w⟩
 else if h:(x==S9 "str")=Nc then Na ⟨_,.b<|F6 h▸aF7,.t _,aRu w⟩
 else if h:(x==S9 "range")=Nc then Na ⟨_,.b<|F6 h▸aF9,.t _,aRJ w⟩
 else if h:(x==S9 "min")=Nc then Na ⟨_,.b<|F6 h▸aNv,.b _,aS9 w⟩
 else if h:(x==S9 "max")=Nc then Na ⟨_,.b<|F6 h▸aNw,.b _,aSa w⟩
 else if h:(x==S9 "abs")=Nc then Na ⟨_,.b<|F6 h▸aNz,.b _,aTk w⟩
 else if h:(x==S9 "chr")=Nc then Na ⟨_,.b<|F6 h▸aNy,.b _,aSP w⟩
 else if h:(x==S9 "divmod")=Nc then Na ⟨_,.b<|F6 h▸aCa,.b _,aSM w⟩
 else Nb
structure P3(c:C3)(N:Nat):Prop extends Fn3 c where
 rm:Rm c.A N
theorem P3.rm0(pl:P3 c N):Rm c.A 0:=pl.rm.less<|C8 _
def pA(E:PfE c S)(pos:Pos)(hs:List Hi)(es:List Expr):Option<|PrA c S pos es:=List.rec (motive:=λes=>List Hi->Option (PrA c S pos es)) (λhs=>Na ⟨[],hs,[],λO=>eV⟩)
 (λe es r hs=>chk (bR e) λn=>(E hs e).bind λx=>(r x.hs).bind λy=>Na ⟨x.v::y.v,y.hs,x.ps++y.ps,λa=>bN (dM n) (x.h a.app.1)<|y.h a.app.2⟩) es hs
noncomputable def pK(hs:List Hi)(n:Nat)(p:Pos)(k:Const):Option<|PrE c S<|.Constant k n p:=match k with
 | .int i=>Na ⟨.d<|.int i,hs,[],λO=>jV⟩
 | .str i=>Na ⟨.d<|.str i,hs,[],λO=>zW⟩
 | .none=>Na ⟨.d .none,hs,[],λO=>aHL⟩
 | .bool i=>Na ⟨.d<|.bool i,hs,[],λO=>aB9⟩
 | _=>Nb
noncomputable def aT1(x:Option Ow):Option {s:Sv // x=Na (.cell<|Na s)}:=match x with
 | some (.cell (Na s))=>Na ⟨s,rfl⟩
 | _=>Nb
def pN(hs:List Hi)(x:Str)(p:Pos):Option<|PrE c S<|.Name x p:=if h:aBL c x=Nc then (exO<|S.r.lookup x).map λm=>⟨m.1,hs,[],λO=>bC (aU h) m.2⟩
 else chk (clX c x&&!(x==("__debug__" : Str))) λh=>(exO<|aEZ c x).bind λn=>(aT1 S.o[n.1]?).map λm=>⟨m.1,hs,[],λO=>zZ (J1 _▸(aB h).2) (aB h).1 n.2 m.2⟩
noncomputable def tQ(x:Option<|Dt×Bool):Option {y:List Dt×Bool // x=Na (.lst y.1,y.2)}:=match x with
 | some (.lst l,o)=>Na ⟨(l,o),rfl⟩
 | _=>Nb
def aRU{N:Nat}(pl:P3 c N)(E:PfE c S)(hs:List Hi)(l r:Expr)(p:Pos)(op:Operator):Option<|PrE c S<|.BinOp l op r p:=
 (E hs l).bind λx=>(E x.hs r).bind λy=>((aDM (S:=S) pl.rm0 (two<|aSV c.w op) [x.v,y.v]).map λz=>⟨z.v,y.hs,x.ps++(y.ps++z.ps),λa=>vC (x.h a.app.1) (y.h a.app.2.app.1)<|z.h a.app.2.app.2⟩).orElse λO=>
  (match op with
  | .Add=>(tQ<|drf S x.v).bind λu=>(tQ<|drf S y.v).map λv=>⟨.d<|.lst<|u.1.1++v.1.1,y.hs,x.ps++(y.ps++[u.1.1.length+v.1.1.length<=B9]),λa=>eU<|vC (x.h a.app.1) (y.h a.app.2.app.1)<|aAE u.2 v.2 a.app.2.app.2.1⟩
  | _=>Nb)
def aQ7{N:Nat}(pl:P3 c N)(hs:List Hi)(op:CmpOp)(a b:Sv):Option<|Pr Bool λt=>OpS c S SvR (op2<|E6 op) [a,b] (.d<|.bool t) S:=
 (exO<|drs S [a,b]).bind λm=>((two (λa b=>(aSO c.w op a b)) m.1.1).map λz=>⟨z.v,hs,z.ps,λq=>rB pl.rm0 (z.h q) m.2 (by cases m.1.2 <;> rfl)⟩).orElse λO=>match hs with
  | .t b::be=>Na ⟨b,be,[OpV c.w 0 (op2<|E6 op) m.1.1<|.bool b],λq=>rB pl.rm0 q.1 m.2 (by cases m.1.2 <;> rfl)⟩
  | .v (.bool b)::be=>Na ⟨b,be,[OpV c.w N (op2<|E6 op) m.1.1<|.bool b],λq=>rB pl.rm q.1 m.2 (by cases m.1.2 <;> rfl)⟩
  | _=>Nb
def aRT(E:PfE c S)(hs:List Hi)(v s:Expr)(pos:Pos):Option<|PrE c S<|.Subscript v s pos:=
 chk (aAL s) λn=>(E hs v).bind λx=>(E x.hs s).bind λy=>match y with
  | ⟨.d (.int i),be,qs,yo⟩=>(exO<|drf S x.v).bind λm=>((match h:m.1.1 with
    | .tup l=>chk (Nf (-9223372036854775808<=i)&&Nf (i<9223372036854775808)) λbi=>(exO<|P1 i l.length).bind λj=>(exO (α:=Dt) l[j.1]?).map fun(z:{x:Dt // l[j.1]?=Na x})=>(⟨.d z.1,be,x.ps++qs,λa=>aEq (rG n) (x.h a.app.1) (yo a.app.2) m.2 (by rw[h];exact .tup (of_decide_eq_true (aB bi).1) (of_decide_eq_true (aB bi).2) j.2 z.2)⟩:PrE c S<|.Subscript v s pos)
    | _=>Nb).orElse λO=>match be with
    | .v z::be=>Na ⟨.d z,be,x.ps++(qs++[aO m.1.1 i z]),λa=>aEq (rG n) (x.h a.app.1) (yo a.app.2.app.1) m.2 a.app.2.app.2.1⟩
    | _=>Nb)
  | _=>Nb
abbrev PrP(c:C3)(S:Sd)(e:Option Expr):Type:=Pr (Option Int) λi=>sN c S e i S
noncomputable def pPt(E:PfE c S)(hs:List Hi):(e:Option Expr)->Option (PrP c S e)
 | none=>Na ⟨Nb,hs,[],λO=>nH⟩
 | some e=>(E hs e).bind λx=>match x with
  | ⟨.d (.int i),be,ps,ok⟩=>Na ⟨Na i,be,ps,λa=>nG<|ok a⟩
  | _=>Nb
abbrev PrL(c:C3)(S:Sd)(e:Expr):Type:=Pr (List Dt) λl=>EvE c S e (.o S.o.length) {S with o:=S.o++[.lst l]}
def pSl(E:PfE c S)(hs:List Hi)(v:Expr)(p pos:Pos)(lo hi st:Option Expr):Option<|PrL c S<|.Subscript v (.Slice lo hi st p) pos:=
 (E hs v).bind λx=>(pPt E x.hs lo).bind λa=>(pPt E a.hs hi).bind λb=>(pPt E b.hs st).bind λt=>(tQ<|drf S x.v).bind λu=>chk (Option.rec (motive:=λO=>Bool) Nc (λi=>!(i==0)) t.v) λn=>
  Na ⟨bA u.1.1 a.v b.v t.v,t.hs,x.ps++(a.ps++(b.ps++(t.ps++[u.1.1.length<=B9]))),λy=>aEr (λO O=>by cases st <;> exact⟨_,rfl⟩) (x.h y.app.1) (a.h y.app.2.app.1) (b.h y.app.2.app.2.app.1) (t.h y.app.2.app.2.app.2.app.1) u.2 (by intro e;rw[e] at n;cases n) y.app.2.app.2.app.2.app.2.1⟩
noncomputable def aAa(x:Option<|List Dt×Bool):Option {y:List Dt // x=Na (y,Nd)}:=match x with
 | some (l,Nd)=>Na ⟨l,rfl⟩
 | _=>Nb
theorem le9(h:Nf (n<=9)=Nc):n<=B9:=A9 (of_decide_eq_true h) (by rw[C5];decide)
def pLs(E:PfE c S)(hs:List Hi)(es:List Expr)(p:Pos):Option<|PrL c S<|.List es p:=(pA E p hs es).bind λy=>(aAa<|drs S y.v).bind λm=>chk (Nf<|m.1.length<=9) λh=>Na ⟨m.1,y.hs,y.ps,λa=>aEs (y.h a) m.2<|le9 h⟩
def pLa(E:PfE c S)(hs:List Hi)(l r:Expr)(p:Pos):Option<|PrL c S<|.BinOp l .Add r p:=
 (E hs l).bind λx=>(E x.hs r).bind λy=>(tQ<|drf S x.v).bind λu=>(tQ<|drf S y.v).map λv=>⟨u.1.1++v.1.1,y.hs,x.ps++(y.ps++[u.1.1.length+v.1.1.length<=B9]),λa=>vC (x.h a.app.1) (y.h a.app.2.app.1)<|aAE u.2 v.2 a.app.2.app.2.1⟩
def pCl{N:Nat}(pl:P3 c N)(E:PfE c S)(hs:List Hi)(x:Str)(p pos:Pos)(az:List Expr):Option<|PrE c S<|.Call (.Name x p) az [] pos:=match az with
 | []=>Nb
 | e::rest=>chk (bR e&&(iJ rest&&(c.env.kindOf x==Na .globalImplicit))) λh=>(pA E pos hs<|e::rest).bind λy=>
  ((nmT c.w x).bind λf=>((aDM pl.rm0 f.F y.v).map λz=>⟨z.v,y.hs,y.ps++z.ps,λa=>iO pl.toFn3 (F6 (aB (aB h).2).2) f.n f.k (dM (aB h).1) (gV (aB (aB h).2).1) (y.h a.app.1)<|z.h a.app.2⟩).orElse λO=>(aAa<|drs S y.v).bind λm=>match y.hs with
  | .v d::be=>Na ⟨.d d,be,y.ps++[OpV c.w 0 (cal f.f) m.1 d],λa=>iO pl.toFn3 (F6 (aB (aB h).2).2) f.n f.k (dM (aB h).1) (gV (aB (aB h).2).1) (y.h a.app.1)<|rB pl.rm0 a.app.2.1 m.2 rfl⟩
  | _=>Nb).orElse λO=>
  (aAa<|drs S y.v).bind λm=>match y.hs with
  | .v d::be=>Na ⟨.d d,be,y.ps++[fQ c.w N x m.1 d],λa=>(by obtain⟨_,_,rn,g,k,b⟩:=a.app.2.1;exact iO pl.toFn3 (F6 (aB (aB h).2).2) (.g g) (.k k) (dM (aB h).1) (gV (aB (aB h).2).1) (y.h a.app.1)<|rB (pl.rm.less rn) b m.2 rfl)⟩
  | _=>Nb
noncomputable def aT0(x:Option Sv):Option {D:HP->A3->Prop // x=Na (.d<|.ob D)}:=match x with
 | some (.d (.ob D))=>Na ⟨D,rfl⟩
 | _=>Nb
def pCb(E:PfE c S)(hs:List Hi)(x:Str)(p pos:Pos)(az:List Expr):Option<|PrE c S<|.Call (.Name x p) az [] pos:=match az with
 | []=>Nb
 | e::rest=>chk (bR e&&(iJ rest&&aBL c x)) λh=>(aT0<|S.r.lookup x).bind λD=>(pA E pos hs<|e::rest).bind λy=>(aAa<|drs S y.v).bind λm=>match y.hs with
  | .v d::be=>Na ⟨.d d,be,y.ps++[aAe D.1,xU c.w D.1 m.1 d],λa=>aN4 (aU (aB (aB h).2).2) D.2 (dM (aB h).1) (gV (aB (aB h).2).1) (y.h a.app.1) m.2 a.app.2.1 a.app.2.2.1⟩
  | _=>Nb
noncomputable def aSu{α:Type}(o:Option<|Option α):Option<|PLift<|o=Na Nb:=match o with
 | some Nb=>Na ⟨rfl⟩
 | _=>Nb
def atN(w:E9)(x:Str):Option<|PLift<|nsIn (K w.params) 241 x=Na Nb/\J7 (.type "object") x=pure Nb:=(aSu<|nsIn (K w.params) 241 x).bind λa=>(exO<|rX w<|J7 (.type "object") x).bind λb=>match b with
 | ⟨Nb,h⟩=>Na ⟨a.down,oZ h⟩
 | _=>Nb
def aFe(S:Sd)(k:Nat):Option {q:Nat×Lo // S.o[k]?=Na (.ins q.1)/\S.o[q.1]?=Na (.ns q.2)}:=(exO S.o[k]?).bind λu=>match u with
 | ⟨.ins m,h⟩=>(exO S.o[m]?).bind λv=>match v with
  | ⟨.ns r,h2⟩=>Na ⟨(m,r),h,h2⟩
  | _=>Nb
 | _=>Nb
def pAt(hs:List Hi)(y:Str)(py:Pos)(x:Str)(p:Pos):Option<|PrE c S<|.Attribute (.Name y py) x p:=(pN (c:=c) (S:=S) hs y py).bind λo=>match o with
 | ⟨.o k,be,ps,ho⟩=>(aFe S k).bind λi=>(exO<|i.1.2.lookup x).bind λm=>chk (nbS m.1) λb=>(atN c.w x).map λa=>⟨m.1,be,ps,λq=>vD rfl (ho q) i.2.1 i.2.2 m.2 a.down.1 a.down.2<|aMx b⟩
 | _=>Nb
structure MtD(w:E9)(d0:Dt)(x:Str)(ds:List Dt)(d:Dt):Prop where
 of::ex:∃id,(∀(c:C3)(S:Sd)(a:Sv)(o:Bool),drf S a=Na (d0,o)->aFy c S a x id)/\OpV w 0 (cal<|.builtin id) (d0::ds) d
noncomputable def jK(o:Expr):Bool:=!(T6 o.ctorIdx 16)
theorem rZ(h:jK e=Nc):∀t,V9 e x env t=t:=by
 cases e <;> first | (intros;rfl) | cases h
theorem aEH(e:drf S s'=Na (oc,Nd))(m:drs S as=Na (ds,Nd)):drs S (s'::as)=Na (oc::ds,Nd):=by
 show(drf S s').bind (λx=>(drs S as).map λy=>(x.1::y.1,x.2||y.2))=_;rw[e,m];rfl
noncomputable def aIa(x:Option<|Dt×Bool):Option {d:Dt // x=Na (d,Nd)}:=match x with
 | some (d,Nd)=>Na ⟨d,rfl⟩
 | _=>Nb
def pMt{N:Nat}(pl:P3 c N)(E:PfE c S)(hs:List Hi)(o:Expr)(x:Str)(ap cp:Pos)(az:List Expr):Option<|PrE c S<|.Call (.Attribute o x ap) az [] cp:=match az with
 | []=>Nb
 | e::rest=>if mf:O5 ((e::rest).length+([]:List AA6).length) (I9 cp<|C0 (e::rest) c.env) (K4 cp<|G5 [] c.env)=Nc then chk (bR e&&(iJ rest&&((ap.endLine==cp.line)&&jK o))) λh=>
  (E hs o).bind λa=>(aIa<|drf S a.v).bind λu=>(pA E cp a.hs<|e::rest).bind λas=>(aAa<|drs S as.v).bind λm=>match as.hs with
  | .v d::be=>Na ⟨.d d,be,a.ps++(as.ps++[MtD c.w u.1 x m.1 d]),λq=>q.app.2.app.2.1.ex.elim λid z=>vB (rZ (aB (aB (aB h).2).2).2) mf (aB (aB (aB h).2).2).1 (dM (aB h).1) (gV (aB (aB h).2).1) (a.h q.app.1) (z.1 c S a.v Nd u.2) (as.h q.app.2.app.1)<|rB pl.rm0 z.2 (aEH u.2 m.2) rfl⟩
  | _=>Nb else Nb
def pIf(E:PfE c S)(B:PfB c S)(hs:List Hi)(t l s:Expr)(p:Pos):Option<|PrE c S<|.IfExp t l s p:=(B hs t).bind λb=>match b.hs with
 | .t Nc::be=>(E be l).map λx=>⟨x.v,x.hs,b.ps++((b.v=Nc)::x.ps),λa=>zY (b.h a.app.1) (λO=>x.h a.app.2.2) λe=>by rw[a.app.2.1] at e;cases e⟩
 | .t Nd::be=>(E be s).map λx=>⟨x.v,x.hs,b.ps++((b.v=Nd)::x.ps),λa=>zY (b.h a.app.1) (λe=>by rw[a.app.2.1] at e;cases e) λO=>x.h a.app.2.2⟩
 | _=>(E b.hs l).bind λx=>(E x.hs s).bind λy=>match x,y with
  | ⟨.d dx,_,px,hx⟩,⟨.d dy,be,py,hy⟩=>(aP2 b.v dx dy).map λz=>⟨.d z.m,be,b.ps++(grd b.v Nc px++grd b.v Nd py),λa=>zY (b.h a.app.1) (λh=>by rw[z.t h];exact hx<|lO a.app.2.app.1 h) λh=>by rw[z.f h];exact hy<|lO a.app.2.app.2 h⟩
  | _,_=>Nb
noncomputable def pUn(E:PfE c S)(hs:List Hi)(op:UnaryOp)(l:Expr)(p:Pos):Option<|PrE c S<|.UnaryOp op l p:=match op with
 | .USub=>(E hs l).bind λx=>match x with
  | ⟨.d (.int i),be,ps,ok⟩=>Na ⟨.d<|.int<|-i,be,ps,λa=>aN1<|ok a⟩
  | _=>Nb
 | _=>Nb
def pCm{N:Nat}(pl:P3 c N)(E:PfE c S)(hs:List Hi)(l:Expr)(op:CmpOp)(s:Expr)(p:Pos):Option<|PrE c S<|.Compare l [op] [s] p:=chk (!AA0 op s) λh=>(E hs l).bind λx=>(E x.hs s).bind λy=>(aQ7 (S:=S) pl y.hs op x.v y.v).map λz=>⟨.d<|.bool z.v,z.hs,x.ps++(y.ps++z.ps),λa=>aN3 (J1 _▸h) (x.h a.app.1) (y.h a.app.2.app.1)<|z.h a.app.2.app.2⟩
def pE{N:Nat}(pl:P3 c N)(E:PfE c S)(B:PfB c S)(hs:List Hi):(e:Expr)->Option (PrE c S e):=eC (M:=λe=>Option<|PrE c S e) (λO O O=>Nb) (λl b r p=>aRU pl E hs l r p b) (pUn E hs) (pIf E B hs)
 (λl i g p=>l1 (M:=λi=>Option<|PrE c S<|.Compare l i g p) (λO=>Nb) (λb=>l1 (M:=λg=>Option<|PrE c S<|.Compare l [b] g p) (λO=>Nb) (λs=>pCm pl E hs l b s p) g) i)
 (λf as q pos=>lN (M:=λq=>Option<|PrE c S<|.Call f as q pos) (eNA (M:=λf=>Option<|PrE c S<|.Call f as [] pos) (λO=>Nb) (λx p=>(pCl pl E hs x p pos as).orElse λO=>pCb E hs x p pos as) (λo x u=>pMt pl E hs o x u pos as) f) (λO=>Nb) q)
 (λk n p=>pK hs n p k) (λv x p=>eN (M:=λv=>Option<|PrE c S<|.Attribute v x p) (λO=>Nb) (λy A=>pAt hs y A x p) v)
 (λv s pos=>eSl (M:=λs=>Option<|PrE c S<|.Subscript v s pos) (λs=>aRT E hs v s pos) (λlo w st p=>(pSl E hs v p pos lo w st).map λx=>⟨.d<|.lst x.v,x.hs,x.ps,λa=>eU<|x.h a⟩) s)
 (pN hs) (λj p=>(pLs E hs j p).map λx=>⟨.d<|.lst x.v,x.hs,x.ps,λa=>eU<|x.h a⟩) (λj n p=>(pA E p hs j).bind λy=>(aAa<|drs S y.v).bind λm=>chk (Nf<|m.1.length<=9) λh=>Na ⟨.d<|.tup m.1,y.hs,y.ps,λa=>aMX (y.h a) m.2<|le9 h⟩) (λO O O O=>Nb) (λO O O O=>Nb) (λO O=>Nb) (λO O O=>Nb) λO=>Nb
def aRV(B:PfB c S)(p:Pos)(t:Sem A3)(hs:List Hi)(es:List Expr):Option<|PrT c S (.BoolOp .And es p) t:=List.rec (motive:=λes=>List Hi->Option (PrT c S (.BoolOp .And es p) t)) (λhs=>Na ⟨Nc,hs,[],λO=>aBg⟩)
 (λe es r hs=>(B hs e).bind λx=>S5 (motive:=λes=>Option (PrT c S (.BoolOp .And es p) t)->Option (PrT c S (.BoolOp .And (e::es) p) t)) es (λO=>Na ⟨x.v,x.hs,x.ps,λa=>Bool.and_true x.v▸aED (b:=Nc) (x.h a) λO=>aBg⟩) (λO O r=>r.map λy=>⟨x.v&&y.v,y.hs,x.ps++grd x.v Nc y.ps,λa=>aED (x.h a.app.1) λh=>y.h<|lO a.app.2 h⟩)<|r x.hs) es hs
def pOr(B:PfB c S)(p:Pos)(t:Sem A3)(hs:List Hi)(es:List Expr):Option<|PrT c S (.BoolOp .Or es p) t:=List.rec (motive:=λes=>List Hi->Option (PrT c S (.BoolOp .Or es p) t)) (λhs=>Na ⟨Nd,hs,[],λO=>aEA⟩)
 (λe es r hs=>(B hs e).bind λx=>S5 (motive:=λes=>Option (PrT c S (.BoolOp .Or es p) t)->Option (PrT c S (.BoolOp .Or (e::es) p) t)) es (λO=>Na ⟨x.v,x.hs,x.ps,λa=>Bool.or_false x.v▸aJh (b:=Nd) (x.h a) λO=>aEA⟩) (λO O r=>r.map λy=>⟨x.v||y.v,y.hs,x.ps++grd x.v Nd y.ps,λa=>aJh (x.h a.app.1) λh=>y.h<|lO a.app.2 h⟩) (r x.hs)) es hs
theorem aOE(h:plE e=Nc):isTrue e c.env (eval e c.env)=(do let v ← eval e c.env;standAt e.pos;holding [v] (truthy v)):=by
 cases e <;> first | rfl | cases h
def pT{N:Nat}(pl:P3 c N)(E:PfE c S)(hs:List Hi)(e:Expr):Option<|PrB c S e:=
 chk (plE e) λh=>(E hs e).bind λx=>(exO<|drf S x.v).bind λm=>(aRs c.w m.1.1).bind λz=>Na ⟨z.v,x.hs,x.ps++z.ps,λa=>aPZ (aOE h) (x.h a.app.1) m.2<|z.h a.app.2⟩
def bUn{N:Nat}(pl:P3 c N)(E:PfE c S)(B:PfB c S)(hs:List Hi)(op:UnaryOp)(x:Expr)(p:Pos):Option<|PrB c S<|.UnaryOp op x p:=match op with
 | .Not=>(B hs x).bind λx=>Na ⟨!x.v,x.hs,x.ps,λa=>aNb<|x.h a⟩
 | _=>pT pl E hs _
def bBo(B:PfB c S)(hs:List Hi)(op:BoolOp)(es:List Expr)(p:Pos):Option<|PrB c S<|.BoolOp op es p:=match op with
 | .And=>aRV B p _ hs es
 | .Or=>pOr B p _ hs es
def bCm{N:Nat}(pl:P3 c N)(E:PfE c S)(hs:List Hi)(l:Expr)(op:CmpOp)(s:Expr)(p:Pos):Option<|PrB c S<|.Compare l [op] [s] p:=chk (!AA0 op s) λh=>(E hs l).bind λx=>(E x.hs s).bind λy=>(aQ7 (S:=S) pl y.hs op x.v y.v).map λz=>⟨z.v,z.hs,x.ps++(y.ps++z.ps),λa=>aEC (J1 _▸h) (x.h a.app.1) (y.h a.app.2.app.1)<|z.h a.app.2.app.2⟩
def pB{N:Nat}(pl:P3 c N)(E:PfE c S)(B:PfB c S)(hs:List Hi):(e:Expr)->Option (PrB c S e):=have d:=pT pl E hs;eC (M:=λe=>Option<|PrB c S e) (bBo B hs) (λO O O O=>d _) (bUn pl E B hs) (λO O O O=>d _)
 (λl b a p=>l1 (M:=λb=>Option<|PrB c S<|.Compare l b a p) (λO=>Nb) (λg=>l1 (M:=λa=>Option<|PrB c S<|.Compare l [g] a p) (λO=>Nb) (λs=>bCm pl E hs l g s p) a) b)
 (λO O O O=>d _) (λO O O=>d _) (λO O O=>d _) (λO O O=>d _) (λO O=>d _) (λO O=>d _) (λO O O=>d _) (λO O O O=>d _) (λO O O O=>d _) (λO O=>d _) (λO O O=>d _) d
def q3{N:Nat}(pl:P3 c N)(n:Nat):PfE c S×PfB c S:=Y9 (motive:=λO=>PfE c S×PfB c S) (λO O=>Nb,λO O=>Nb) (λO r=>(λb e=>(pE pl r.1 r.2 b e).orElse λO=>match b with
 | .e v::be=>Na ⟨v,be,[EvE c S e v S],λa=>a.1⟩
 | _=>Nb,λb e=>pB pl r.1 r.2 b e)) n
end
section
variable{c:C3}{α:List E3}{H:TT}
structure Wks(c:C3)(S S':Sd):Prop where
 d:S'.d=S.d
 run:∀φ H h,GZ c.w φ.Z->Rl3 c φ H S h->∃ψ,HP.le φ.Z ψ.Z/\Rl3 c ψ H S' h
theorem Wks.refl:Wks c S S:=⟨rfl,λa H h O R=>⟨a,.refl _,R⟩⟩
theorem Wks.trans(x:Wks c S S1)(y:Wks c S1 S2):Wks c S S2:=⟨y.d.trans x.d,λg H h a R=>A2 (x.run g H h a R) λb q=>A2 (y.run b H h (a.le q.1) q.2) λe w=>⟨e,q.1.trans w.1,w.2⟩⟩
theorem Wks.go(w:Wks c S S')(p:Pt c H S){P:A6->Prop}(q:∀p':Pt c H S',Lt Nd p.φ p'.φ->P p'.s):P p.s:=
 A2 (w.run p.φ H p.h p.gz p.rel) λa z=>(show(⟨p.h,p.g,S'.d,p.k,c.os⟩:A6)=p.s from by rw[w.d])▸q ⟨a,p.h,p.g,p.k,p.rm,p.gz.le z.1,p.gg,z.2⟩ ⟨z.1,λh=>nomatch h⟩
theorem aIl{β:Type}{l t:List β}{y:β}(e:(l++t)[B]?=Na y)(hi:B<l.length):l[B]?=Na y:=by
 rwa [L5 hi] at e
theorem aAg(r:∀x s,S'.r.lookup x=Na s->S.r.lookup x=Na s)(o:∀(i:Nat) o,S'.o[i]?=Na o->o=.nil\/S.o[i]?=Na o)(n:S.o.length<=S'.o.length)(d:S'.d=S.d):Wks c S S':=
 ⟨d,λb H h O R=>by
  have l:Lt Nc b ⟨b.Z,b.α++G6 (S'.o.length-S.o.length) c.env.locals⟩:=⟨.refl _,λO=>M3 _ _⟩
  have A:∀{i:Nat}{a:E3}{x:Ow},(b.α++G6 (S'.o.length-S.o.length) c.env.locals)[i]?=Na a->S'.o[i]?=Na x->x=.nil\/(b.α[i]?=Na a/\S.o[i]?=Na x):=λ{i a x} g p=>(o i x p).imp id λe=>⟨aIl g (by rw[R.len];exact(A4.mp e).1),e⟩
  have u:∀{i:Nat}{a:E3}{x:Ow},Liv (b.α++G6 (S'.o.length-S.o.length) c.env.locals) S'.o i a x->Liv b.α S.o i a x:=λ{i a x} w=>(A w.ea w.eo).elim (λe=>by rw[e] at w;cases w.lv) λq=>⟨q.1,q.2,w.lv⟩
  refine⟨⟨b.Z,b.α++G6 (S'.o.length-S.o.length) c.env.locals⟩,.refl _,by show(b.α++_).length=_;rw[A5,List.length_replicate,R.len];exact Nat.add_sub_of_le n,λi a x g p=>⟨λq=>?_,λy e=>?_⟩,λi j a x y B C=>R.inj i j a x y (u B)<|u C,A2 R.ns λm q=>⟨m,q.1,λx s e=>A2 (q.2 x s<|r x s e) λv z=>⟨v,z.1,z.2.up l⟩⟩,R.hid,R.sub,R.hz,R.nd,λi a e=>l.get<|R.cl i a e⟩
  .have w:=R.own<|u ⟨g,p,q⟩;exact w.step l (Y:=[]) (λO O O e=>e) nofun w.z
  .subst e;exact(A g p).elim nofun λq=>(R.ok i a _ q.1 q.2).fz y rfl⟩
noncomputable def rnN(is:List Nat)(n:Nat):Option Nat:=is.findIdx? (· == n)
def rnS(is:List Nat)(s:Sv):Option Sv:=Sv.casesOn (motive:=λO=>Option Sv) s (λx=>Na<|.d x) λn=>(rnN is n).map .o
def aGm(is:List Nat)(r:Lo):Option Lo:=List.rec (motive:=λO=>Option Lo) (Na []) (λp O q=>(rnS is p.2).bind λs=>q.map λt=>(p.1,s)::t) r
def rnO(is:List Nat)(o:Ow):Option Ow:=Ow.casesOn (motive:=λO=>Option Ow) o (λl=>Na<|.lst l) (λs=>Option.casesOn (motive:=λO=>Option Ow) s (Na<|.cell Nb) λs=>(rnS is s).map λs=>.cell<|Na s) (λr=>(aGm is r).map .ns) (λn=>(rnN is n).map .ins) (λD=>Na<|.any D) (λx=>Na<|.fz x)<|Na .nil
noncomputable def rnA(is:List Nat)(α:List E3):List E3:=is.map λi=>(α[i]?).getD 0
theorem aD1(e:rnN is n=Na B)(ea:α[n]?=Na I):(rnA is α)[B]?=Na I:=by
 obtain⟨b,a,_⟩:=List.findIdx?_eq_some_iff_getElem.mp e;rw[rnA,B3,B1 b,F6 a,Y5,ea];rfl
theorem SvR.rn{s:Sv}(e:rnS is s=Na s')(r:SvR ⟨Z,α⟩ s ao):SvR ⟨Z,rnA is α⟩ s' ao:=by
 cases s with
 | d x=>cases e;exact r
 | o n=>
  obtain⟨m,g,rfl⟩:=B0.mp e;obtain⟨a,b,q⟩:=r;exact⟨a,aD1 g b,q⟩
theorem aLm{r:Lo}:∀{r':Lo},aGm is r=Na r'->∀{x:Str}{s':Sv},r'.lookup x=Na s'->∃s,r.lookup x=Na s/\rnS is s=Na s':=by
 induction r with
 | nil=>intro r' e x s' q;cases e;cases q
 | cons p r d=>
  intro r' e x s' q;obtain⟨s,a,e⟩:=M1.mp e;obtain⟨t,b,rfl⟩:=B0.mp e;rw[lkS] at q;obtain⟨y,u⟩:=p;rw[lkS];by_cases z:x=y
  .rw[if_pos z] at q ⊢;cases q;exact⟨u,rfl,a⟩
  .rw[if_neg z] at q ⊢;exact d b q
theorem aLl{r:Lo}:∀{r':Lo},aGm is r=Na r'->r'.map (·.1)=r.map (·.1):=by
 induction r with
 | nil=>intro r' e;cases e;rfl
 | cons p r b=>
  intro r' e;obtain⟨s,_,e⟩:=M1.mp e;obtain⟨t,a,rfl⟩:=B0.mp e;exact congrArg (p.1::·)<|b a
theorem NsR.rn(e:aGm is r2=Na r')(q:NsR ⟨Z,α⟩ r2 m'):NsR ⟨Z,rnA is α⟩ r' m':=λx h d=>by
 obtain⟨s,b,a⟩:=aLm e d;obtain⟨v,ev,g⟩:=q x s b;exact⟨v,ev,g.rn a⟩
theorem OwR.rn{o:Ow}(e:rnO is o=Na o'){b:Obj}(r:OwR ⟨Z,α⟩ o b):OwR ⟨Z,rnA is α⟩ o' b:=by
 cases o with
 | cell s=>
  cases s with
  | none=>cases e;exact r
  | some s=>
   obtain⟨x,i,rfl⟩:=B0.mp e;obtain⟨v,ev,u,j,q⟩:=r;exact⟨v,ev,u,j,q.rn i⟩
 | ns w=>
  obtain⟨t,g,rfl⟩:=B0.mp e;obtain⟨m,d,q,p⟩:=r;exact⟨m,d,q.rn g,(aLl g).symm▸p⟩
 | ins n=>
  obtain⟨m,d,rfl⟩:=B0.mp e;obtain⟨a,h,q⟩:=r;exact⟨a,aD1 d h,q⟩
 | _=>cases e;exact r
theorem yM{o:Ow}(e:rnO is o=Na o'):o'.lv=o.lv:=by
 cases o with
 | cell s=>cases s with
  | none=>cases e;rfl
  | some s=>obtain⟨h,b,rfl⟩:=B0.mp e;rfl
 | ns g=>obtain⟨t,d,rfl⟩:=B0.mp e;rfl
 | ins n=>obtain⟨m,a,rfl⟩:=B0.mp e;rfl
 | _=>cases e;rfl
theorem aLk(e:rnO is o'=Na (.fz oc)):o'=.fz oc:=by
 cases o' with
 | cell s=>cases s with
  | none=>cases e
  | some s=>obtain⟨h,b,q⟩:=B0.mp e;cases q
 | ns g=>obtain⟨t,d,q⟩:=B0.mp e;cases q
 | ins n=>obtain⟨m,a,q⟩:=B0.mp e;cases q
 | fz y=>cases e;rfl
 | _=>cases e
def aLj(is:List Nat)(S:Sd)(js:List Nat):Option<|List Ow:=List.rec (motive:=λO=>Option<|List Ow) (Na []) (λj O q=>(S.o[j]?).bind λo=>(rnO is o).bind λa=>q.map λt=>a::t) js
theorem aGl:∀{os:List Ow},aLj is S tc=Na os->os.length=tc.length/\∀{i:Nat}{o':Ow},os[i]?=Na o'->Ex2 λj o=>dH (tc[i]?=Na j) (S.o[j]?=Na o)<|rnO is o=Na o':=by
 induction tc with
 | nil=>intro os e;cases e;exact⟨rfl,λq=>by cases q⟩
 | cons j tc d=>
  intro os e;obtain⟨o,a,e⟩:=M1.mp e;obtain⟨o',g,e⟩:=M1.mp e;obtain⟨t,b,rfl⟩:=B0.mp e;obtain⟨n,f⟩:=d b;refine⟨congrArg (·+1) n,λ{i x} q=>?_⟩;cases i with
  | zero=>cases q;exact⟨j,o,rfl,a,g⟩
  | succ i=>exact f q
def rnR(is:List Nat)(S:Sd)(xs:List Str):Option Lo:=List.rec (motive:=λO=>Option Lo) (Na []) (λx O q=>(S.r.lookup x).bind λs=>(rnS is s).bind λa=>q.map λt=>(x,a)::t) xs
theorem aLi:∀{r':Lo},rnR is S a=Na r'->∀{x:Str}{s':Sv},r'.lookup x=Na s'->∃s,S.r.lookup x=Na s/\rnS is s=Na s':=by
 induction a with
 | nil=>intro r' e x s' q;cases e;cases q
 | cons y a h=>
  intro r' e x s' q;obtain⟨s,d,e⟩:=M1.mp e;obtain⟨i,b,e⟩:=M1.mp e;obtain⟨t,g,rfl⟩:=B0.mp e;rw[lkS] at q;by_cases z:x=y
  .rw[if_pos z] at q;cases q;subst z;exact⟨s,d,b⟩
  .rw[if_neg z] at q;exact h g q
def ndN(l:List Nat):Bool:=List.rec (motive:=λO=>Bool) Nc (λx a r=>!(a.any (x==·))&&r) l
theorem aM0:∀{l:List Nat},ndN l=Nc->l.Nodup:=by
 intro l;induction l with
 | nil=>
  intro _;exact .nil
 | cons x l a=>
  intro h;have h:=aB h;refine B6.mpr ⟨λi=>?_,a h.2⟩;have:=List.any_eq_false.mp (J1 _▸h.1) x i;simp at this
theorem aFR(er:rnR is S ms=Na r')(eo:aLj is S is=Na o1)(nd:ndN is=Nc)(hc:is.take c.np=B8 c.np):Wks c S ⟨r',o1,S.d⟩:=
 ⟨rfl,λφ H h O R=>by
  obtain⟨Z,A⟩:=φ;have⟨len,at_⟩:=aGl eo;have C:∀{i:Nat}{a:E3}{B:Ow},(rnA is A)[i]?=Na a->o1[i]?=Na B->Ex2 λj o=>lY (is[i]?=Na j) (A[j]?=Na a) (S.o[j]?=Na o)<|rnO is o=Na B:=λ{i a B} r jx=>by
   obtain⟨j,o,u,g,p⟩:=at_ jx;refine⟨j,o,u,?_,g,p⟩;rw[rnA,B3,u,Y5] at r;have hj:j<A.length:=by rw[show A.length=_ from R.len];exact(A4.mp g).1
   rw[B1 hj] at r ⊢;exact r
  refine⟨⟨Z,rnA is A⟩,.refl _,by show(is.map _).length=_;rw[A1];exact len.symm,λi a x r U=>⟨λl=>?_,λy e=>?_⟩,λi j a x y N Q=>?_,A2 R.ns λm q=>⟨m,q.1,λx s' e=>A2 (aLi er e) λs z=>A2 (q.2 x s z.1) λv w=>⟨v,w.1,w.2.rn z.2⟩⟩,R.hid,R.sub,R.hz,R.nd,λi a e=>?_⟩
  .obtain⟨j,o,_,u,g,p⟩:=C r U;have w:=R.own ⟨u,g,yM p▸l⟩;exact⟨A2 w.at_ λb q=>⟨b,q.1,q.2.rn p⟩,w.z,w.n⟩
  .obtain⟨j,o,_,u,g,p⟩:=C r U;exact(R.ok j a o u g).fz y (aLk<|e▸p)
  .obtain⟨m,o,T,g,p,Y⟩:=C N.ea N.eo;obtain⟨m',B,M,E,I,J⟩:=C Q.ea Q.eo;have:=R.inj m m' a o B ⟨g,p,yM Y▸N.lv⟩ ⟨E,I,yM J▸Q.lv⟩;subst this;exact(AA3 (A4.mp T).1<|aM0 nd).mp (T.trans M.symm)
  .have V:=aLv e;have:is[i]?=Na i:=by rw[← List.getElem?_take_of_lt V,hc,U0 V]
   show(is.map _)[i]?=_;rw[B3,this,Y5,show A[i]?=_ from R.cl i a e];rfl⟩
theorem jG{l:List Dt}(e:S.o[n]?=Na (.lst l)):Wks c S {S with o:=S.o.set n (.fz<|.lst l)}:=
 ⟨rfl,λd H h O R=>
  have g:n<d.α.length:=by rw[R.len];exact(A4.mp e).1
  A2 (Rl3.frz R ⟨B1 g,e,rfl⟩ λa le w=>A2 w λb q=>A2 q.2 λi z=>.lst ⟨b,q.1,z.1⟩ z.2) λa w=>⟨⟨a,d.α⟩,w.1,w.2⟩⟩
noncomputable def fdC(t o:Ow):Ow:=Ow.casesOn (motive:=λO=>Ow) t (λO=>o) (λv=>Option.casesOn (motive:=λO=>Ow) v (Ow.casesOn (motive:=λO=>Ow) o (λO=>o) (λO=>.cell Nb) (λO=>o) (λO=>o) (λO=>o) (λO=>o) o) λO=>o) (λO=>o) (λO=>o) (λO=>o) (λO=>o) o
theorem aMS(t o:Ow):fdC t o=o\/(fdC t o=.cell Nb/\∃v,o=.cell v):=by
 cases t with
 | cell v=>cases v with
  | none=>cases o with
   | cell v=>exact .inr ⟨rfl,v,rfl⟩
   | _=>exact .inl rfl
  | some _=>exact .inl rfl
 | _=>exact .inl rfl
theorem aB7{o:Ow}(w:OkO φ X h I o):OkO φ X h I (fdC o' o)/\((fdC o' o).lv=Nc->o.lv=Nc):=by
 obtain e|⟨e,v,rfl⟩:=aMS o' o
 .rw[e];exact⟨w,id⟩
 .rw[e];exact⟨⟨λO=>have w:=w.lv rfl;⟨A2 w.at_ λb q=>⟨b,q.1,A2 q.2 λu z=>⟨u,z.1,trivial⟩⟩,w.z,w.n⟩,nofun⟩,λO=>rfl⟩
def fdO(ts os:List Ow):List Ow:=List.rec (motive:=λO=>List Ow->List Ow) (λos=>os) (λt O r os=>S5 (motive:=λO=>List Ow) os [] λo os=>fdC t o::r os) ts os
theorem aMQ:∀(ts os:List Ow),(fdO ts os).length=os.length/\∀(i:Nat) x,(fdO ts os)[i]?=Na x->Ex2 λt o=>os[i]?=Na o/\(x=o\/x=fdC t o):=by
 intro ts;induction ts with
 | nil=>
  intro os;exact⟨rfl,λi x e=>⟨.nil,x,e,.inl rfl⟩⟩
 | cons t ts a=>
  intro b;cases b with
  | nil=>
  exact⟨rfl,λi x e=>by cases e⟩
  | cons o os=>
  exact⟨congrArg (·+1) (a os).1,λi x e=>by
  cases i with
  | zero=>cases e;exact⟨t,o,rfl,.inr rfl⟩
  | succ i=>exact(a os).2 i x e⟩
theorem aKJ(ts:List Ow):Wks c S {S with o:=fdO ts S.o}:=
 ⟨rfl,λu H h O R=>by
  have⟨n,at_⟩:=aMQ ts S.o;have p:∀{i:Nat}{a:E3}{x:Ow},u.α[i]?=Na a->(fdO ts S.o)[i]?=Na x->∃o,dH (S.o[i]?=Na o) (OkO u (c.X H) h a x)<|x.lv=Nc->o.lv=Nc:=λ{i a x} d r=>by
   obtain⟨t,o,b,q⟩:=at_ i x r;refine⟨o,?_⟩;obtain rfl|rfl:=q
   .exact⟨b,R.ok i a _ d b,id⟩
   .exact⟨b,(aB7<|R.ok i a o d b).1,(aB7<|R.ok i a o d b).2⟩
  exact⟨u,.refl _,R.len.trans n.symm,λi a x d r=>by obtain⟨_,_,q,_⟩:=p d r;exact q,λi j a x y e g=>by
   obtain⟨o,b,_,q⟩:=p e.ea e.eo;obtain⟨A,w,_,B⟩:=p g.ea g.eo;exact R.inj i j a o A ⟨e.ea,b,q e.lv⟩ ⟨g.ea,w,B g.lv⟩,R.ns,R.hid,R.sub,R.hz,R.nd,R.cl⟩⟩
theorem Rl3.addH(R:Rl3 c φ H S h)(f:dH (φ.Z I=Nb) (I∉c.X H)<|¬sB φ.α S.o I)(at_:At h I D'):Rl3 c φ ((I,D')::H) S h:=by
 have q:=B6.mp R.nd;refine⟨R.len,λi a o g j=>⟨λl=>?_,(R.ok i a o g j).fz⟩,R.inj,R.ns,λp hp=>?_,R.sub,λa b=>?_,?_,R.cl⟩
 .have w:=R.own ⟨g,j,l⟩;refine⟨w.at_,w.z,λd=>?_⟩;obtain rfl|d:=A8.mp d
  .exact w.n (.head _)
  .obtain rfl|d:=A8.mp d
   .exact f.3 ⟨i,o,g,j,l⟩
   .exact w.n (.tail _ d)
 .obtain rfl|hp:=A8.mp hp
  .exact at_
  .exact R.hid p hp
 .obtain rfl|b:=A8.mp b
  .exact R.hz _ (.head _)
  .obtain rfl|b:=A8.mp b
   .exact f.1
   .exact R.hz a (.tail _ b)
 .refine B6.mpr ⟨λi=>?_,B6.mpr ⟨λi=>f.2<|.tail _ i,q.2⟩⟩;obtain e|i:=A8.mp i
  .exact f.2 ((show c.env.locals=I from e)▸.head _)
  .exact q.1 i
theorem Rl3.hide(R:Rl3 c ⟨Z,α⟩ H S h)(k:aM h h'){D:OD}(n:h.get? I=Nb)(at_:At h' I D):Rl3 c ⟨bP Z h h' [I],α⟩ ((I,D)::H) S h':=
 have f:=R.fresh n
 (R.grow k [I]).addH ⟨(jM<|.head _).trans f.1,f.2,f.3⟩ at_
def Pt.hide(p:Pt c H S){h':O7}(k:aM p.h h'){I:E3}{D:OD}(n:p.h.get? I=Nb)(at_:At h' I D)(k':Nat):Pt c ((I,D)::H) S:=⟨⟨bP p.φ.Z p.h h' [I],p.φ.α⟩,h',p.g,k',p.rm,p.gz.le<|aW p.rel.sub,p.gg,Rl3.hide p.rel k n at_⟩
theorem Rl3.hupd{D:OD}(R:Rl3 c φ ((I,D)::H) S h)(k:aK [I] h h')(at_:At h' I D'):Rl3 c φ ((I,D')::H) S h':=by
 have u:=R.hz I<|.tail _<|.head _;have d:∀{b},b≠I->b∉[I]:=λn i=>n<|C6.mp i;have r:=B6.mp R.nd;refine⟨R.len,λi a o g j=>⟨λl=>?_,(R.ok i a o g j).fz⟩,R.inj,A2 R.ns λm q=>⟨m,nsX q.1 k<|d λe=>r.1<|e▸.head _,q.2⟩,λp hp=>?_,λb o e=>k b o (d (by rintro rfl;rw[u] at e;cases e))<|R.sub b o e,R.hz,R.nd,R.cl⟩
 .have w:=R.own ⟨g,j,l⟩;exact w.step .refl k (d (by rintro rfl;exact w.n<|.tail _<|.head _)) w.z
 .obtain rfl|hp:=A8.mp hp
  .exact at_
  .exact(R.hid p<|.tail _ hp).keepX k<|d λe=>(B6.mp r.2).1<|C1.mpr ⟨p,hp,e⟩
theorem Rl3.shw{p:E3×OD}(R:Rl3 c φ (p::H) S h):Rl3 c φ H S h:=by
 have sub:∀a∈c.X H,a∈c.X (p::H):=λa i=>(A8.mp i).elim (λe=>e▸.head _) λi=>.tail _<|.tail _ i;have g:=B6.mp R.nd;exact⟨R.len,λi a o b d=>⟨λl=>have w:=R.own ⟨b,d,l⟩;⟨w.at_,w.z,λi=>w.n<|sub a i⟩,(R.ok i a o b d).fz⟩,R.inj,R.ns,λq j=>R.hid q<|.tail _ j,R.sub,λa i=>R.hz a<|sub a i,B6.mpr ⟨λi=>g.1<|.tail _ i,(B6.mp g.2).2⟩,R.cl⟩
theorem Rl3.perm2{x y:E3×OD}(R:Rl3 c φ (x::y::H) S h):Rl3 c φ (y::x::H) S h:=by
 have b:(c.X<|y::x::H).Perm<|c.X<|x::y::H:=.cons _<|.swap _ _ _;exact⟨R.len,λi a o d e=>⟨λl=>have w:=R.own ⟨d,e,l⟩;⟨w.at_,w.z,λi=>w.n<|b.subset i⟩,(R.ok i a o d e).fz⟩,R.inj,R.ns,λp hp=>R.hid p<|(List.Perm.swap x y H).subset hp,R.sub,λa i=>R.hz a<|b.subset i,b.nodup_iff.mpr R.nd,R.cl⟩
theorem Rl3.unhide{o:Ow}(R:Rl3 c ⟨Z,α⟩ ((I,D')::H) S h)(lv:o.lv=Nc)(at_:At h I<|OwR ⟨Z,α++[I]⟩ o):Rl3 c ⟨Z,α++[I]⟩ H {S with o:=S.o++[o]} h:=
 have a:=B6.mp R.nd
 R.shw.push ⟨at_,R.hz I<|.tail _<|.head _,λi=>(A8.mp i).elim (λe=>a.1<|e▸.head _) (B6.mp a.2).1⟩ (fun⟨i,x,w⟩=>(R.own w).n<|.tail _<|.head _) lv
theorem Rl3.gone(R:Rl3 c ⟨Z,α⟩ ((I,D')::H) S h)(k:aK [I] h h'):Rl3 c ⟨Z,α⟩ H S h':=by
 have g:Z I=none:=R.hz I<|.tail _<|.head _;have d:=B6.mp R.nd;refine R.shw.step (.refl _) (λb o e=>k b o (λi=>by cases C6.mp i;rw[g] at e;cases e)<|R.sub b o e) k λa j q=>⟨λi=>?_,j⟩
 cases C6.mp i
 obtain i|⟨i,x,w⟩:=q
 .obtain e|i:=A8.mp i
  .exact d.1 (e▸.head _)
  .exact(B6.mp d.2).1 i
 .exact(R.own w).n<|.tail _<|.head _
end
abbrev UnR{γ:Type}(_:Fr)(_:Unit)(_:γ):Prop:=True
structure AcS(c:C3)(S:Sd)(t:A3->Sem Unit)(v:Sv)(S':Sd):Prop where
 of::run:∀H(p:Pt c H S) u,SvR p.φ v u->WP c.w c.A (t u) (EvP c Nc p.φ H UnR () S') FF p.s
abbrev StN(c:C3)(S:Sd)(x:Str)(v:Sv)(S':Sd):Prop:=AcS c S (storeName c.env x) v S'
abbrev AsT(c:C3)(S:Sd)(t:Expr)(v:Sv)(S':Sd):Prop:=AcS c S (assign t c.env) v S'
structure AcL(c:C3)(S:Sd)(ts:List<|A3->Sem Unit)(vs:List Sv)(S':Sd):Prop where
 of::run:∀H(p:Pt c H S) us,eB p.φ vs us->WP c.w c.A (O6 ts us) (EvP c Nc p.φ H UnR () S') FF p.s
section
variable{c:C3}{H:TT}
theorem AcS.go{t:A3->Sem Unit}{v:Sv}(x:AcS c S t v S')(p:Pt c H S){u:A3}(r:SvR p.φ v u)(q:∀p':Pt c H S',Lt Nc p.φ p'.φ->Post () p'.s):WP c.w c.A (t u) Post E p.s:=
 WP.in ((x.run H p u r).mono λv s y=>by obtain⟨p',rfl,l,r⟩:=y;exact q p' l)
theorem AcL.go{ts:List<|A3->Sem Unit}{vs:List Sv}(x:AcL c S ts vs S')(p:Pt c H S)(r:eB p.φ vs us)(q:∀p':Pt c H S',Lt Nc p.φ p'.φ->Post () p'.s):WP c.w c.A (O6 ts us) Post E p.s:=
 WP.in ((x.run H p us r).mono λv s y=>by obtain⟨p',rfl,l,r⟩:=y;exact q p' l)
noncomputable def lcX(c:C3)(x:Str):Bool:=c.env.kindOf x==Na .local&&c.env.scope.kind == .function
theorem fW{v:Sv}(e:lcX c x=Nc):StN c S x v {S with r:=pu x v S.r}:=
 ⟨λH p u r=>A2 p.rel.ns λm w=>⟨wpAny_storeName_local (F6 (aB e).1) w.1 (λa b d=>(⟨p.φ,a,p.g,p.k+1,p.rm,p.gz,p.gg,p.rel.store r w.2 b d⟩:Pt c H {S with r:=pu x v S.r}).end .refl trivial) (by rw[F6 (aB e).2];rfl)⟩⟩
theorem yG{s:Option Sv}(e:clX c x=Nc)(en:aEZ c x=Na n)(eo:S.o[n]?=Na (.cell s)):StN c S x s' {S with o:=S.o.set n (.cell<|Na s')}:=
 ⟨λH p u r=>p.cel e en eo λa w d h j O=>⟨wpAny_storeName_cell (rW e).k (rW e).l h j λi q sb=>
  (⟨p.φ,i,p.g,p.k,p.rm,p.gz,p.gg,p.rel.upd ⟨d,eo,rfl⟩ rfl (aK.same sb)<|A2 q λb z=>⟨b,z.1,Na u,z.2,u,rfl,r⟩⟩:Pt c H {S with o:=S.o.set n (.cell<|Na s')}).end .refl trivial⟩⟩
theorem tP{v:Sv}(s:StN c S x v S'):AsT c S (.Name x pp) v S':=⟨λH pp u r=>aBn<|s.run H pp u r⟩
theorem aFm:AcL c S [] [] S:=⟨λH p a r=>by cases r;exact aNL<|p.here trivial⟩
theorem AcL.cons{ts:List<|A3->Sem Unit}{v:Sv}{vs:List Sv}(q:∀H(p:Pt c H S) u us,SvR p.φ v u->eB p.φ vs us->WP c.w c.A (O6 ts<|u::us) (EvP c Nc p.φ H UnR () S') FF p.s):AcL c S ts (v::vs) S':=
 ⟨λH p us r=>by
  cases r with
  | cons a r=>exact q H p _ _ a r⟩
theorem aTi(s:StN c S x s' S1)(q:AcL c S1 ((E7 rest c.env).map (·.2)) ss S2):AcL c S ((E7 (.Name x pp::rest) c.env).map (·.2)) (s'::ss) S2:=
 .cons λH pp u g e r=>aIm<|s.go pp e λb l1=>q.go b (r.up l1) λd a=>d.end (l1.tr a) trivial
theorem aTj{rest:List<|A3->Sem Unit}(s:StN c S x s' S1)(q:AcL c S1 rest ss S2):AcL c S ((λu=>bindName c.env x u)::rest) (s'::ss) S2:=
 .cons λH p u g e r=>aTh<|s.go p e λb l1=>q.go b (r.up l1) λd a=>d.end (l1.tr a) trivial
theorem qC(r:Rps φ.Z ds vs):eB φ (ds.map .d) vs:=Rps.ind (P:=λds vs=>eB φ (ds.map .d) vs) .nil (λa O r=>.cons a r) r
theorem aNC{p:Pos}(hn:(E7 es c.env).length=ds.length)(hs:(E7 es c.env).findIdx? (·.1)=Nb)(q:AcL c S ((E7 es c.env).map (·.2)) (ds.map .d) S1):AsT c S (.Tuple es n p) (.d<|.tup ds) S1:=
 ⟨λH p u r=>by
  obtain⟨a,o,rfl,at_,g⟩:=Rp.inv r;exact aID p.rm.hh (at_.up p.rel.sub) (by rw[hn,g.len]) hs λj e=>q.go (p.grow e []) (qC<|g.up<|aW (X:=[]) p.rel.sub) λi h=>i.end ((p.growL (b:=Nc) e []).tr h) trivial⟩
theorem aQo{p:Pos}(hn:(E7 es c.env).length=3)(hs:(E7 es c.env).findIdx? (·.1)=Nb)(q:AcL c S ((E7 es c.env).map (·.2)) [.d<|.int i,.d<|.int j,.d<|.int lo] S1):AsT c S (.Tuple es n p) (.d<|.mt i j lo) S1:=
 ⟨λH p u r=>by
  obtain⟨a,rfl,at_⟩:=Rp.inv r;exact aFd p.rm.hh p.G (at_.up p.rel.sub) hn hs λy A x w g e=>q.go ((p.grow e []).tk g) (.cons (.dt<|.int _ _)<|.cons (.dt<|.int _ _)<|.cons (.dt<|.int _ _) .nil) λo h=>o.end ((p.growL (b:=Nc) e []).tr h) trivial⟩
theorem aOC{r:Lo}(h:y=x\/y∈r.map (·.1)):y∈(pu x s' r).map (·.1):=by
 induction r with
 | nil=>exact h.elim (λe=>by subst e;exact .head _) nofun
 | cons p r a=>
  show y∈(if (x==p.1)=Nc then (x,s')::r else p::pu x s' r).map (·.1);by_cases q:x=p.1
  .rw[if_pos<|beq_iff_eq.mpr q];obtain rfl|h:=h
   .exact .head _
   .obtain rfl|h:=A8.mp h
    .exact q▸.head _
    .exact .tail _ h
  .rw[if_neg<|by simpa using q];obtain rfl|h:=h
   .exact .tail _ (a<|.inl rfl)
   .obtain rfl|h:=A8.mp h
    .exact .head _
    .exact .tail _<|a<|.inr h
theorem aQr{o:Expr}{r:Lo}(e:EvE c S o (.o B) S)(ek:S.o[B]?=Na (.ins C))(em:S.o[C]?=Na (.ns r))(hz:r.length<=B9)(c1:nsIn (K c.w.params) 241 x=Na Nb)(c2:J7 (.type "object") x=pure Nb):AsT c S (.Attribute o x pos) s' {S with o:=S.o.set C (.ns<|pu x s' r)}:=
 ⟨λH p u R=>aI8 (e.go p λd y l1 Q=>d.ins Q ek em (P:=λy=>WP c.w c.A (setAttr y x u) _ _ _) λa T h i=>aKX (l:=[]) d.G i.I i.ne i.D i.w (by rw[A1];exact hz) c1 c2 λE M j N=>
  (⟨d.φ,E,d.g,M,d.rm,d.gz,d.gg,d.rel.upd ⟨i.ed,em,rfl⟩ rfl N<|A2 j λb q=>⟨b,q.1,_,q.2,uM [] h x u▸i.n.pu (R.up l1),λy J=>aOC<|(Decidable.em<|y=x).elim (λe=>.inl e) λO=>.inr<|i.w y λe=>J (by rw[← uM];show(if y=x then Na u else h y)=Nb;rw[if_neg O,e])⟩⟩:Pt c H {S with o:=S.o.set C (.ns<|pu x s' r)}).end l1 trivial)⟩
theorem aQp{o:Expr}{k:Int}(x:EvE c S o (.o n) S)(y:EvE c S ah (.d<|.int k) S)(e:S.o[n]?=Na (.lst xs))(lo:-9223372036854775808<=k)(hi:k<9223372036854775808)(ij:P1 k xs.length=Na B):AsT c S (.Subscript o ah pos) (.d oc) {S with o:=S.o.set n (.lst<|xs.set B oc)}:=
 ⟨λH p v I=>aA8 (x.go p λr u l1 C=>y.go r λh M g E=>by
  obtain⟨t,rfl⟩:=Rp.inv E;refine h.lst (P:=λu=>WP c.w c.A (setItem u (.int k t) v) _ _ _) (C.up g) e λa N j at_ i=>?_;exact aMk at_ lo hi (i.len▸ij) λJ b q=>(h.put e j b q<|Rps.set (SvR.up (l1.tr g) I) B i).end (l1.tr g) trivial)⟩
theorem eB.app(r:eB φ ss vs)(q:eB φ as us):eB φ (ss++as)<|vs++us:=by
 induction r with
 | nil=>exact q
 | cons a _ b=>exact .cons a b
theorem eB.rev(r:eB φ ss vs):eB φ ss.reverse vs.reverse:=by
 induction r with
 | nil=>exact .nil
 | cons a _ b=>rw[AA2,AA2];exact b.app<|.cons a .nil
theorem cJ:EvX c S [] .next S:=⟨λH p=>qN<|p.here rfl⟩
theorem bY{st:F9}(x:EvS c S st .next S1)(y:EvX c S1 b1 o S2):EvX c S (st::b1) o S2:=
 ⟨λH p=>fH (x.go p λb u l1 e=>by
  obtain rfl:u=.next:=e;exact y.go b λd v a g=>d.end (l1.tr a) g)⟩
noncomputable def Ou.nx(o:Ou):Bool:=Ou.casesOn (motive:=λO=>Bool) o Nc Nd Nd λO=>Nd
theorem nB{st:F9}(hn:o.nx=Nd)(x:EvS c S st o S1):EvX c S (st::b1) o S1:=
 ⟨λH p=>fH (x.go p λd u l1 a=>by
  have b:=d.end l1 a;cases o with
  | next=>cases hn
  | cont=>cases (a);exact b
  | brk=>cases (a);exact b
  | ret s=>obtain⟨v,rfl,_⟩:=a;exact b)⟩
theorem fP{st:F9}(x:EvS c S st o S1):EvX c S [st] o S1:=by
 cases o with
 | next=>exact bY x cJ
 | _=>exact nB rfl x
theorem EvT.wk{β γ:Type}{R:RT β γ}{t:Sem γ}{b:β}(w:Wks c S S1)(x:EvT c Nd S1 R t b S2):EvT c Nd S R t b S2:=
 ⟨λH p=>w.go p λd l1=>x.go d λe v a g=>e.end (l1.tr a) g⟩
theorem EvX.wkr(x:EvX c S b1 o S1)(ho:∀s,o≠.ret s)(w:Wks c S1 S2):EvX c S b1 o S2:=
 ⟨λH p=>x.go p λb u l1 e=>w.go b λd a=>d.end (l1.tr a) (by
  cases o with
  | ret s=>exact absurd rfl<|ho s
  | _=>exact e)⟩
theorem rS(hs:X9 [e] av pos.line c.env=pure Nd)(hw:J8 [e] av c.env=pure Nb)(he:(E7 [e] c.env).map (·.2)=[assign e c.env])(x:EvE c S av s' S1)(y:AsT c S1 e s' S2):EvS c S (.Assign [e] av pos) .next S2:=
 ⟨λH p=>vQ hs hw he<|x.go p λb u l1 g=>y.go b g λd a=>d.end (l1.tr a).f rfl⟩
theorem aBf{v:Sv}(hw:J8 [e,t'] av c.env=pure Nb)(he:(E7 [e,t'] c.env).map (·.2)=[assign e c.env,assign t' c.env])(x:EvE c S av v S1)(y:AsT c S1 e v S2)(z:AsT c S2 t' v S3):EvS c S (.Assign [e,t'] av pos) .next S3:=
 ⟨λH p=>aKG hw he<|x.go p λg u l1 b=>y.go g b λh a=>z.go h (b.up a) λi d=>i.end (l1.tr<|a.tr d).f rfl⟩
theorem aHQ{v:Sv}(hw:J8 [e,t',dl] av c.env=pure Nb)(he:(E7 [e,t',dl] c.env).map (·.2)=[assign e c.env,assign t' c.env,assign dl c.env])(x:EvE c S av v S1)(y:AsT c S1 e v S2)(z:AsT c S2 t' v S3)(w:AsT c S3 dl v S4):EvS c S (.Assign [e,t',dl] av pos) .next S4:=
 ⟨λH p=>aKF hw he<|x.go p λh u l1 b=>y.go h b λi a=>z.go i (b.up a) λj d=>w.go j (b.up<|a.tr d) λn g=>n.end (l1.tr<|a.tr<|d.tr g).f rfl⟩
theorem aHO(a8:List Str)(hs:X9 [.Tuple ba n cy] (.Tuple cn B cw) pos.line c.env=pure Nd)(hw:J8 [.Tuple ba n cy] (.Tuple cn B cw) c.env=pure (Na a8))(hz:a8.length<=9)(hn:ss.length=a8.length)
  (x:EvA c S cw cn ss S1) (y:AcL c S1 (a8.reverse.map λx=>λu=>bindName c.env x u) ss.reverse S2):EvS c S (.Assign [.Tuple ba n cy] (.Tuple cn B cw) pos) .next S2:=
 ⟨λH p=>aKD a8 hs hw p.rm.hh<|x.go p λd u l1 e=>⟨by rw[e.len,hn],by rw[e.len,hn];exact aQI hz,λi a=>y.go (d.grow a []) (e.up<|d.growL a []).rev λh g=>h.end (l1.tr<|(d.growL (b:=Nc) a []).tr g).f rfl⟩⟩
theorem aHN(hs:X9 [.Tuple ba n cy] (.Tuple cn B cw) pos.line c.env=pure Nd)(hw:J8 [.Tuple ba n cy] (.Tuple cn B cw) c.env=pure Nb)
  (he:(E7 [.Tuple ba n cy] c.env).map (·.2)=[assign (.Tuple ba n cy) c.env]) (hn:(E7 ba c.env).length=ss.length) (hf:(E7 ba c.env).findIdx? (·.1)=Nb) (hz:ss.length<=9)
  (x:EvA c S cw cn ss S1) (y:AcL c S1 ((E7 ba c.env).map (·.2)) ss S2):EvS c S (.Assign [.Tuple ba n cy] (.Tuple cn B cw) pos) .next S2:=
 ⟨λH p=>vQ hs hw he (aBh (x.go p λg u l1 h=>⟨by rw[h.len,C5];exact aQI hz,λa o r e at_=>aID p.rm.hh at_ (by rw[hn,h.len]) hf λq d=>
  y.go (g.grow (e.trans d) []) (h.up<|g.growL (e.trans d) []) λj i=>j.end (l1.tr<|(g.growL (b:=Nc) (e.trans d) []).tr i).f rfl⟩))⟩
theorem aEw(x:EvE c S e s' S1):EvS c S (.Return (Na e) pos) (.ret s') S1:=
 ⟨λH p=>aCo<|x.go p λa u l1 b=>a.end l1.f ⟨u,rfl,b⟩⟩
theorem aBe:EvS c S (.Continue pos) .cont S:=⟨λH p=>aKE<|p.here rfl⟩
theorem aN6:EvS c S (.Break pos) .brk S:=⟨λH p=>aO6<|p.here rfl⟩
theorem aA0(hi:interactive c.env=Nd)(hs:swapsWith e Nb pos.line c.env=pure Nd)(x:EvE c S e s' S1):EvS c S (.Expr e pos) .next S1:=
 ⟨λH p=>yA hi hs<|x.go p λa u l1 b=>a.end l1.f rfl⟩
theorem rQ{t:Expr}{b:Bool}(x:EvB c S t b S1)(y:b=Nc->EvX c S1 b1 o S2)(z:b=Nd->EvX c S1 b2 o S2):EvS c S (.If t b1 b2 pos) o S2:=
 ⟨λH p=>aO5<|x.go p λh u l1 i=>⟨λe=>(y<|i.symm.trans e).go h λd v a g=>d.end (l1.tr a) g,λe=>(z<|i.symm.trans e).go h λd v a g=>d.end (l1.tr a) g⟩⟩
theorem aN7{b v:Sv}(l:aIs c x)(e:S.r.lookup x=Na s')(q:EvE c S av b S1)(z:OpS c S1 SvR (op2<|inplaceOp op) [s',b] v S2)(st:StN c S2 x v S3):EvS c S (.AugAssign (.Name x px) op av pos) .next S3:=
 ⟨λH p=>A2 p.rel.ns λm w=>A2 (w.2 x s' e) λo y=>by
  refine aO7 ⟨wpAny_loadName_local l.k l.l w.1 y.1<|q.go p λg u l1 j=>WP.in<|(z.run H g [o,u] (sv2 l1 y.2 j)).mono λw s y=>?_⟩;obtain⟨h,rfl,a,n⟩:=y;exact st.go h n λi d=>i.end (l1.tr<|a.tr d).f rfl⟩
end
structure Ch(S S':Sd)(ns:List Str)(tc:List Nat):Prop where
 r:∀x,x∉ns->S'.r.lookup x=S.r.lookup x
 o:∀i,i<S.o.length->i∉tc->S'.o[i]?=S.o[i]?
 n:S.o.length<=S'.o.length
 d:S'.d=S.d
theorem Ch.refl:Ch S S [] []:=⟨λO O=>rfl,λO O O=>rfl,C4 _,rfl⟩
theorem Ch.trans(x:Ch S S1 ns tc)(y:Ch S1 S2 ms td):Ch S S2 (ns++ms)<|tc++td:=
 ⟨λz h=>(y.r z λi=>h<|J2 _ i).trans<|x.r z λi=>h<|E0 _ i,
  λi l h=>(y.o i (I6 l x.n) λj=>h<|J2 _ j).trans<|x.o i l λj=>h<|E0 _ j,A9 x.n y.n,y.d.trans x.d⟩
theorem Ch.snoc{o:Ow}:Ch S {S with o:=S.o++[o]} [] []:=⟨λO O=>rfl,λi l O=>L5 l,by show _<=(S.o++[o]).length;rw[A5];exact K5 _ _,rfl⟩
theorem Ch.set{o:Ow}:Ch S {S with o:=S.o.set n o} [] [n]:=⟨λO O=>rfl,λi O h=>M5 (by rintro rfl;exact h<|.head _),by show _<=(S.o.set n o).length;rw[T8];exact C4 _,rfl⟩
theorem Ch.pu{v:Sv}:Ch S {S with r:=pu x v S.r} [x] []:=⟨λy h=>by show(Mine.Internal.pu x v S.r).lookup y=_;rw[wC,if_neg (by rintro rfl;exact h<|.head _)],λO O O=>rfl,C4 _,rfl⟩
section
variable{b:Bool}
def mgD(b:Bool)(d e:Dt):Option<|MgR b d e:=match d,e with
 | .none,.none=>Na ⟨.none,λO=>rfl,λO=>rfl⟩
 | .tup i,.tup j=>Na ⟨.tup (if b then i else j),λh=>by rw[if_pos h],λh=>by rw[h];rfl⟩
 | d,e=>aP2 b d e
def mgV(b:Bool)(s t:Sv):Option<|Mg b (λm=>m=s) λm=>m=t:=match s,t with
 | .d d,.d e=>(mgD b d e).map λr=>⟨.d r.m,λh=>by rw[r.t h],λh=>by rw[r.f h]⟩
 | .o n,.o m=>if h:T6 n m=Nc then Na ⟨.o n,λO=>rfl,λO=>by rw[H7 h]⟩ else Nb
 | _,_=>Nb
def mgO(b:Bool)(s t:Ow):Option<|Mg b (λm=>m=s) λm=>m=t:=match s,t with
 | .lst i,.lst j=>Na ⟨.lst (if b then i else j),λh=>by rw[if_pos h],λh=>by rw[h];rfl⟩
 | .cell (Na s),.cell (Na t)=>(mgV b s t).map λr=>⟨.cell<|Na r.m,λh=>by rw[r.t h],λh=>by rw[r.f h]⟩
 | _,_=>Nb
noncomputable abbrev MgL(b:Bool)(ns:List Str)(r r1 r2:Lo):Type:={m:Lo // (∀x,x∉ns->m.lookup x=r.lookup x)/\∀x s,x∈ns->m.lookup x=Na s->(b=Nc->r1.lookup x=Na s)/\(b=Nd->r2.lookup x=Na s)}
section
variable{r r1:Lo}(q:MgL b ns r r1 r2)
noncomputable abbrev MgL.m:Lo:=q.1
theorem MgL.k:∀x,x∉ns->q.m.lookup x=r.lookup x:=q.2.1
theorem MgL.t:∀x s,x∈ns->q.m.lookup x=Na s->(b=Nc->r1.lookup x=Na s)/\(b=Nd->r2.lookup x=Na s):=q.2.2
end
noncomputable def inB(ns:List Str)(x:Str):Bool:=ns.any (x==·)
theorem qI:inB ns x=Nc↔x∈ns:=by
 unfold inB;rw[U3];exact⟨fun⟨y,i,e⟩=>F6 e▸i,λi=>⟨x,i,beq_self_eq_true x⟩⟩
def mgN(b:Bool)(ns:List Str)(r1 r2:Lo):List Str->MgL b ns [] r1 r2:=λd=>List.rec (motive:=λO=>MgL b ns [] r1 r2) ⟨[],λO O=>rfl,λO O O e=>nomatch e⟩
 (λx O q=>if hx:inB ns x=Nc then (((exO<|r1.lookup x).bind λs=>(exO<|r2.lookup x).bind λt=>(mgV b s.1 t.1).map λr=>(⟨(x,r.m)::q.m,λy h=>by
   rw[lkS,if_neg (by rintro rfl;exact h<|qI.mp hx)];exact q.k y h,λy u h e=>by
   rw[lkS] at e;by_cases z:y=x
   .rw[if_pos z] at e;cases e;subst z;exact⟨λa=>by rw[r.t a];exact s.2,λa=>by rw[r.f a];exact t.2⟩
   .rw[if_neg z] at e;exact q.t y u h e⟩:MgL b ns [] r1 r2)).getD q) else q) d
def mgR(b:Bool)(ns:List Str)(r r1 r2:Lo):MgL b ns r r1 r2:=List.rec (motive:=λr=>MgL b ns r r1 r2) (mgN b ns r1 r2 ns) (λp r q=>if hx:inB ns p.1=Nc then ⟨q.m,λy h=>by
   rw[q.k y h];obtain⟨z,u⟩:=p;rw[lkS,if_neg (by rintro rfl;exact h<|qI.mp hx)],q.t⟩ else ⟨p::q.m,λy h=>by
   obtain⟨z,u⟩:=p;rw[lkS,lkS,q.k y h],λy u h e=>by
   obtain⟨z,v⟩:=p;rw[lkS,if_neg (by rintro rfl;exact hx<|qI.mpr h)] at e;exact q.t y u h e⟩) r
noncomputable def inN(tc:List Nat)(i:Nat):Bool:=tc.any<|T6 i
theorem aAZ(h:inN tc B=Nd):B∉tc:=λj=>by
 have:=List.any_eq_false.mp h B j;simp at this
def mg1(b:Bool)(tc:List Nat)(o o1 o2:List Ow)(i:Nat):Ow:=if inN tc i=Nc then ((o1[i]?).bind λs=>(o2[i]?).bind λt=>(mgO b s t).map Mg.m).getD .nil else (o[i]?).getD .nil
theorem aDy{o:List Ow}:mg1 b tc o o1 o2 B=.nil\/(inN tc B=Nd/\o[B]?=Na (mg1 b tc o o1 o2 B))\/((b=Nc->o1[B]?=Na (mg1 b tc o o1 o2 B))/\(b=Nd->o2[B]?=Na (mg1 b tc o o1 o2 B))):=by
 unfold mg1;by_cases h:inN tc B=Nc
 .rw[if_pos h];cases e1:o1[B]? with
  | none=>exact .inl rfl
  | some s=>cases e2:o2[B]? with
   | none=>exact .inl rfl
   | some t=>
    simp only[Option.bind_some];cases mgO b s t with
    | none=>exact .inl rfl
    | some r=>exact .inr (.inr ⟨λa=>congrArg Na (r.t a).symm,λa=>congrArg Na (r.f a).symm⟩)
 .rw[if_neg h];cases e:o[B]? with
  | none=>exact .inl rfl
  | some s=>exact .inr<|.inl ⟨Bool.not_eq_true _▸h,rfl⟩
theorem aP5{o:List Ow}(l:B<o.length)(h:B∉tc):Na (mg1 b tc o o1 o2 B)=o[B]?:=by
 have q:¬inN tc B=true:=λz=>by
  obtain⟨j,a,e⟩:=U3.mp z;exact h<|H7 e▸a
 unfold mg1;rw[if_neg q,B1 l];rfl
def mgS(b:Bool)(ns:List Str)(tc:List Nat)(S S1 S2:Sd):Sd:=⟨(mgR b ns S.r S1.r S2.r).m,(B8<|S1.o.length.max S2.o.length).map<|mg1 b tc S.o S1.o S2.o,S.d⟩
theorem aDx(e:(mgS b ns tc S S1 S2).o[B]?=Na o'):o'=mg1 b tc S.o S1.o S2.o B:=by
 rw[mgS,B3] at e;obtain⟨j,a,rfl⟩:=B0.mp e;have d:=(A4.mp a).1;rw[E8] at d;rw[U0 d] at a;cases a;rfl
end
variable{t:List A3->Sem A3}{k:Nat}{m:Str->Option A3}
section
variable{c:C3}{b:Bool}
theorem aM6(x:Ch S S1 ns tc)(y:Ch S S2 ms td):Ch S (mgS b (ns++ms) (tc++td) S S1 S2) (ns++ms)<|tc++td:=
 ⟨λz h=>(mgR b (ns++ms) S.r S1.r S2.r).k z h,λi l h=>by
  have a:i<S1.o.length.max S2.o.length:=I6 l<|A9 x.n<|Nat.le_max_left _ _;rw[mgS,B3,U0 a];exact aP5 l h,by show _<=((B8 _).map _).length;rw[A1,E8];exact A9 x.n<|Nat.le_max_left _ _,rfl⟩
theorem aP3(x:Ch S S1 ns tc)(hb:b=Nc):Wks c S1<|mgS b (ns++ms) (tc++td) S S1 S2:=
 aAg (λz s e=>by
  by_cases i:z∈ns++ms
  .exact((mgR b (ns++ms) S.r S1.r S2.r).t z s i e).1 hb
  .rw[x.r z λj=>i<|E0 _ j];exact((mgR b (ns++ms) S.r S1.r S2.r).k z i).symm.trans e) (λi o e=>by
  rw[aDx e];obtain h|⟨h,a⟩|h:=aDy
  .exact .inl h
  .exact .inr ((x.o i (A4.mp a).1 λj=>aAZ h<|E0 _ j).trans a)
  .exact .inr<|h.1 hb) (by show _<=((B8 _).map _).length;rw[A1,E8];exact Nat.le_max_left _ _) x.d.symm
theorem aP4(x:Ch S S2 ms td)(hb:b=Nd):Wks c S2<|mgS b (ns++ms) (tc++td) S S1 S2:=
 aAg (λz s e=>by
  by_cases i:z∈ns++ms
  .exact((mgR b (ns++ms) S.r S1.r S2.r).t z s i e).2 hb
  .rw[x.r z λj=>i<|J2 _ j];exact((mgR b (ns++ms) S.r S1.r S2.r).k z i).symm.trans e) (λi o e=>by
  rw[aDx e];obtain h|⟨h,a⟩|h:=aDy
  .exact .inl h
  .exact .inr ((x.o i (A4.mp a).1 λj=>aAZ h<|J2 _ j).trans a)
  .exact .inr<|h.2 hb) (by show _<=((B8 _).map _).length;rw[A1,E8];exact Nat.le_max_right _ _) x.d.symm
end
section
variable{c:C3}{H:TT}
theorem Rl3.updL(R:Rl3 c φ H S h){o:Ow}(w:Liv φ.α S.o n I o)(jv:o'.lv=Nc)(k:aK [I,c.env.locals] h h')(ns:∃m,h'.Ns c.env.locals m/\NsR φ S.r m)(at_:At h' I<|OwR φ o'):Rl3 c φ H {S with o:=S.o.set n o'} h':=
 have own:=R.own w;have y:=R.alone w;have a:=R.kill n;have q:∀b,b≠I->b≠c.env.locals->b∉[I,c.env.locals]:=λb B C i=>(A8.mp i).elim B λi=>C<|C6.mp i;have A:Rl3 c φ H {S with o:=S.o.set n .nil} h':=⟨a.len,λi b x g j=>⟨λl=>have u:=a.own ⟨g,j,l⟩;u.step .refl k (q b (by rintro rfl;exact y ⟨i,x,g,j,l⟩) λe=>u.n<|e▸.head _) u.z,(a.ok i b x g j).fz⟩,a.inj,ns,λp hp=>(a.hid p hp).keepX k<|q _ (by rintro rfl;exact own.n<|.tail _<|C9 hp) λe=>(B6.mp R.nd).1<|e▸C9 hp,
  λb x e=>k b x (q b (by rintro rfl;rw[own.z] at e;cases e) (by rintro rfl;rw[R.hz _<|.head _] at e;cases e))<|a.sub b x e,a.hz,a.nd,a.cl⟩
 (A.set n o' (λb d=>⟨λO=>by rw[show b=I from H8 (d.symm.trans w.ea)];exact⟨at_,own.z,own.n⟩,λx e=>by rw[e] at jv;cases jv⟩) λO i b x d E=>absurd ⟨i,x,by rw[show I=b from H8 (w.ea.symm.trans d)];exact E⟩ y).set2
theorem aLe(s:Sub Z h)(za:Z I=Nb)(zL:Z M=Nb):∀{ts:List<|Int×Int×Int}{vs:List A3},Rps Z (ts.map mtT) vs->vO (λv (t:Int×Int×Int)=>∃b,v=.ref b/\b≠I/\b≠M/\At h b (mtD t.1 t.2.1 t.2.2)) vs ts:=by
 intro ts;induction ts with
 | nil=>intro vs r;obtain rfl:=Rps.inv r;exact .nil
 | cons t ts e=>
  intro vs r;obtain⟨v,_,rfl,g,i⟩:=Rps.inv r;obtain⟨_,rfl,d⟩:∃b,v=.ref b/\AtZ Z b (mtD t.1 t.2.1 t.2.2):=Rp.inv g;refine .cons ⟨_,rfl,?_,?_,d.up s⟩ (e i)
  .rintro rfl;obtain⟨o,a,_⟩:=d;rw[za] at a;cases a
  .rintro rfl;obtain⟨o,a,_⟩:=d;rw[zL] at a;cases a
theorem aCW(r:Rps Z (ts.map mtT) vs)(js:List Nat):(∀j∈js,j<ts.length)->Rps Z ((js.map λi=>ts.getD i default).map mtT) (js.map λi=>vs.getD i V3):=by
 induction js with
 | nil=>intro _;exact .nil
 | cons j js e=>
  intro a;have g:=a j<|.head _;refine .cons ?_<|e λx b=>a x<|.tail _ b;obtain⟨v,ev,h⟩:=r.at (d:=mtT<|ts.getD j default) (by rw[B3,D7,B1 g];rfl);show Rp Z (mtT<|ts.getD j default) (vs.getD j V3);rw[D7 (l:=vs),ev];exact h
theorem yP(ts:List<|Int×Int×Int):(B8 ts.length).map (λi=>ts.getD i default)=ts:=by
 apply T5;intro i;obtain z|z:=AB0 i ts.length
 .simp[z,D7]
 .simp[z]
structure Srt(c:C3)(o:Option Ow)(l':List Dt):Prop where
 of::ex:Ex2 fun(ts i6:List<|Int×Int×Int)=>aFI (o=Na (.lst<|ts.map mtT)) (l'=i6.map mtT) (i6.Perm ts) (i6.Pairwise λa b=>a.1<b.1) (ts.length<64)<|Rm c.A 1
theorem aG2{i6:List<|Int×Int×Int}(pm:i6.Perm ts)(st:i6.Pairwise λa b=>a.1<b.1){t u:Int×Int×Int}(ei:ts[B]?=Na t)(ej:ts[C]?=Na u)(e:t.1=u.1):B=C:=by
 have d:=((pm.map (·.1)).nodup_iff).mp<|List.Pairwise.map _ (λa b h=>Int.ne_of_lt h) st;refine(AA3 (by rw[A1];exact(A4.mp ei).1) d).mp ?_;rw[B3,B3,ei,ej,Y5,Y5,e]
theorem aHG{o:Expr}(hb:∀t,V9 o (S9 "sort") c.env t=t)(hl:(ap.endLine==pos.line)=Nc)(x:EvE c S o (.o n) S)(sr:Srt c S.o[n]? l') :
  EvE c S (.Call (.Attribute o (S9 "sort") ap) [] [] pos) (.d .none) {S with o:=S.o.set n (.lst l')}:=
 ⟨λH p=>fN hb rfl hl (x.go p λh u l1 r1 pl=>by
  obtain⟨⟨J,i6,e,rfl,R,st,V,E⟩⟩:=sr;refine h.lst r1 (P:=λu=>WP c.w c.A (Y7 u _ pl) _ _ _) e λa vs M at_ I=>?_;have own:=h.rel.own ⟨M,e,rfl⟩;have T:=h.rel.hz _<|.head _;have ut:a≠c.env.locals:=λz=>own.n<|z▸.head _;refine A2 h.rel.ns λm Q=>uX PyProof.Rows.slot_list_sort (by kernel_rfl) at_ (aEL<|yJ (by have:=E.un;show c.A.units+1<9900;exact(l01<|.i (.S (.p .a<|.u 8 aC) eP)<|.S aR eP) this) h.G Q.1 at_ ut (vN h.gz h.rel.sub T) (vN h.gz h.rel.sub own.z) (aLe h.rel.sub own.z T I) (λi j t u=>aG2 R st) V λq Z k' perm uu uw C kx=>?_);have len:=I.len;have jz:=(perm.map λi=>J.getD i default).trans<|.of_eq<|yP J;have ux:=perm.length_eq.trans E8;have nv:(q.toList.map λi=>J.getD i default).Pairwise<|λa b=>a.1<b.1:=by
   rw[List.pairwise_iff_getElem];intro i j r B U;rw[A1] at r B;rw[List.getElem_map,List.getElem_map];have:=uu i j U<|ux▸B;have N:∀{i}(r:i<q.toList.length),q.getD i 0=q.toList[i]:=λ{i} r=>by rw[Array.getD,dif_pos<|by simpa using r];rfl
   rwa [N r,N B] at this
  have Y:=List.Perm.eq_of_pairwise (λa b O O h1 h2=>absurd h1<|Int.lt_asymm h2) st nv<|R.trans jz.symm;exact(⟨h.φ,Z,h.g,k',h.rm,h.gz,h.gg,h.rel.updL ⟨M,e,rfl⟩ rfl kx ⟨m,uw,Q.2⟩<|A2 C λb y=>⟨b,y.1,_,y.2,Y▸aCW I _ λj B=>J9.mp<|perm.mem_iff.mp B⟩⟩:Pt c H {S with o:=S.o.set n (.lst<|i6.map mtT)}).end l1<|.dt .none)⟩
inductive LmJ(c:C3)(S:Sd)(ts:List<|Int×Int×Int)(bj:Fr)(H:TT)(a I la:E3)(n:Nat)(s:A6):Prop
 | mk (i:Nat) (us:List A3) (p:Pt c ((a,aY us)::(I,gX la i)::H) S) (e:n=ts.length-i) (le:i<=ts.length) (l:HP.le bj.Z p.φ.Z) (ea:p.φ.α=bj.α) (ru:Rps p.φ.Z ((ts.take i).map mtT) us) (es:s=p.s):LmJ c S ts bj H a I la n s
theorem Rl3.hupdG{D:OD}(R:Rl3 c ⟨Z,Y⟩ ((I,D)::H) S h)(k:aK [I] h h')(at_:At h' I D'):Rl3 c ⟨dE Z h h',Y⟩ ((I,D')::H) S h':=by
 have r:=R.hz I<|.tail _<|.head _;have p:=B6.mp R.nd;have g:¬sB Y S.o I:=fun⟨i,x,w⟩=>(R.own w).n<|.tail _<|.head _;have j:I∉c.X H:=λi=>(A8.mp i).elim (λe=>p.1<|e▸.head _) λi=>(B6.mp p.2).1 i;have d:∀{b},h.get? b≠Nb->dE Z h h' b=Z b:=λ{b} n=>by
  unfold dE;cases e:h.get? b with
  | none=>exact absurd e n
  | some o=>rfl
 refine(R.shw.step (kB R.sub) (λb x e=>?_) k λa z q=>⟨λi=>?_,?_⟩).addH ⟨?_,j,g⟩ at_
 .unfold dE at e;cases q:h.get? b with
  | none=>rw[q] at e;exact e
  | some o=>
   rw[q] at e;exact k b x (λi=>by cases C6.mp i;cases r.symm.trans e) (R.sub b x e)
 .cases C6.mp i
  exact q.elim j g
 .rw[d<|q.elim R.shw.xIn fun⟨i,x,w⟩=>(R.shw.own w).in_];exact z
 .exact(d<|R.xIn<|.tail _<|.head _).trans r
theorem aPV{f:Str}(ex:EvE c S (.Name x px) (.d<|.lst<|ts.map tpT) S)(uy:Rm c.A 5)(pl:Fn3 c)(hf:f=S9 "list")(hg:ff=S9 "map")(hM:tf=S9 "Match")(kf:c.env.kindOf f=Na .globalImplicit)(kg:c.env.kindOf ff=Na .globalImplicit)(kM:c.env.kindOf tf=Na .globalImplicit)(hz:ts.length<=1000000) :
  EvE c S (.Call (.Name f pf) [.Call (.Name ff pp) [.Attribute (.Name tf ap) (S9 "_make") pt,.Name x px] [] fk] [] pos) (.o S.o.length) {S with o:=S.o++[.lst<|ts.map mtT]}:=by
 subst hf hg hM;refine⟨λH p=>WP.gen λQQ hQ=>?_⟩;refine gC<|g_b p.G pl.k kf pl.g pl.b vI<|tM rfl rfl<|dZ rfl ?_;refine gC<|g_b p.G pl.k kg pl.g pl.b aNx<|tM rfl rfl<|dZ rfl ?_;refine vE rfl<|g_g p.G pl.k kM pl.g wZ<|aHx p.G λb h1 k1 nb ly ab=>?_;have zb:AtZ (bP p.φ.Z p.h h1 []) b<|eqD<|meO (.ref 89)<|.ref 135:=cF nb<|At.of ab;refine dZ rfl<|ex.go ((p.grow ly []).tk k1) λr v l2 r2=>?_;obtain⟨la,vs,rfl,at_,rs⟩:=Rp.inv r2;refine lG<|aQf (at_.up r.rel.sub) λm t I M jy nm nt nI uz v6 yi am jw aI=>lG ?_;have len:=rs.len;rw[A1] at len;have j:∃j:Pt c ((I,gX la 0)::H) S,j.s=⟨M,r.g,S.d,r.k,c.os⟩/\j.φ=⟨bP r.φ.Z r.h M [I],r.φ.α⟩:=⟨r.hide jy nI aI r.k,rfl,rfl⟩
 obtain⟨j,es,B⟩:=j;have Q:HP.le r.φ.Z j.φ.Z:=B▸aW r.rel.sub;have new:∀{x:E3}{D:OD},x≠I->r.h.get? x=Nb->At M x D->AtZ j.φ.Z x D:=λ{x D} ni nx E=>by
  rw[B];show ∃o,bP r.φ.Z r.h M [I] x=Na o/\D o;rw[jN λi=>ni<|C6.mp i];exact cF nx E
 have eh:=congrArg (·.heap) es;have U:=new uz.symm nm<|At.of am;have zt:=new v6.symm nt jw;have qy:=(zb.le l2.le).le Q;have v7:=at_.le Q;rw[← es];obtain⟨C,hA,na⟩:∃C,j.h.objs.size=C/\j.h.get? C=none:=⟨_,rfl,aG _⟩
 refine wQ (LmJ c S ts j.φ H C I la) hA MF.no_len MF.no_hint (by decide) (by decide) ⟨_,(U.up j.rel.sub).getEq,rfl⟩ (λh1 kx q=>aDz ((U.up j.rel.sub).keepX kx (λz=>by
   have e:=(U.up j.rel.sub).getEq;rw[C6.mp z,na] at e;cases e)).getEq rfl q) (λh4 gj ny=>.mk 0 [] (j.hide gj na ny j.k) rfl (C8 _) (aW j.rel.sub) rfl .nil rfl) ?_
 refine λn s y=>WP.gen λQ2 k7=>?_;obtain⟨i,Y,q,rfl,hi,w,ea,u,rfl⟩:=y;have hm:=((U.le w).up q.rel.sub).getEq;have ht:=(zt.le w).up q.rel.sub;have v8:=((qy.le w).up q.rel.sub).getEq;have hl:=(v7.le w).up q.rel.sub;have hI:=q.rel.hid _<|.tail _<|.head _;have zI:=q.rel.hz I<|.tail _<|.tail _<|.head _;have k8:=uy.in1.in1.in1;have T:∀{x:E3}{D:OD},AtZ q.φ.Z x D->I≠x:=λ{x D} a e=>by
  obtain⟨o,eo,_⟩:=a;rw[← e,zI] at eo;cases eo
 obtain hlt|v9:=AB0 i ts.length
 .obtain⟨v,ev,rv⟩:=rs.at (by rw[B3,B1 hlt];rfl);obtain⟨a,ti,tj,tc,rfl,E⟩:=rv.mtAt;have E:=(E.le Q).le w;refine aDA q.G k8 hm ht hI hl v8 ev (E.up q.rel.sub) (vN q.gz q.rel.sub zI) (T<|qy.le w) (T E) λe N k5 R a5 T ae=>?_;have J:=(q.rel.perm2.hupdG R a5).perm2;have V:HP.le q.φ.Z<|dE q.φ.Z q.h N:=kB q.rel.sub;refine k7 _ _ ⟨Y,J.hid _<|.head _,?_,λh6 vc vd=>⟨ts.length-(i+1),aTb hlt,.mk (i+1) (Y++[.ref e]) ⟨⟨dE q.φ.Z q.h N,q.φ.α⟩,h6,q.g,k5,q.rm,q.gz.le V,q.gg,J.hupd vd vc⟩ rfl hlt (w.trans V) ea ?_ rfl⟩⟩
  .have:=u.len;simp at this;rw[this,C5];exact(l02<|.i (.L .b cL)<|.L (.n .a .b) cH) hz
  .rw[List.take_succ,B1 hlt,B4];exact(u.up V).append (.cons (.mt<|cF T ae) .nil)
 .obtain rfl:i=ts.length:=aTa hi v9;refine aGR k8 hm ht hI hl (by rw[O1];exact(l02<|.i bH fF) len) λN R=>?_;rw[I4] at u;have J:=(Rl3.gone q.rel.perm2 R).unhide (o:=.lst<|ts.map mtT) rfl<|A2 ((Rl3.gone q.rel.perm2 R).hid _<|.head _) λb y=>⟨b,y.1,Y,y.2,u⟩;have k9:=ea.trans (show j.φ.α=r.φ.α by rw[B]);have lq:Lt Nc p.φ ⟨q.φ.Z,q.φ.α++[C]⟩:=((p.growL (b:=Nc) ly []).tr l2).tr ⟨Q.trans w,λO=>by rw[k9];exact M3 _ _⟩;exact k7 _ _<|hQ _ _ ⟨⟨⟨q.φ.Z,q.φ.α++[C]⟩,N,q.g,q.k,q.rm,q.gz,q.gg,J⟩,rfl,lq,_,by rw[← q.rel.len];exact D9,rfl⟩
end
structure Ax(S:Sd)(P:Sd->Prop) where
 S':Sd
 ns:List Str
 tc:List Nat
 ch:Ch S S' ns tc
 h:P S'
structure Bx(S:Sd)(β:Type)(P:β->Sd->Prop) where
 o:β
 S':Sd
 ns:List Str
 tc:List Nat
 hs:List Hi
 ps:List Prop
 ch:Ch S S' ns tc
 h:Al ps->P o S'
abbrev Fx(c:C3)(S:Sd)(e:Expr):Type:=Bx S Sv<|EvE c S e
section
variable{c:C3}
def stF(S:Sd)(x:Str)(v:Sv):Option<|Ax S<|StN c S x v:=if h:lcX c x=Nc then Na ⟨_,[x],[],Ch.pu,fW h⟩ else if h:clX c x=Nc then (exO<|aEZ c x).bind λn=>(exO S.o[n.1]?).bind λm=>match hm:m.1 with
 | .cell s=>Na ⟨_,[],[n.1],Ch.set,yG h n.2<|m.2.trans<|congrArg Na hm⟩
 | _=>Nb
 else Nb
def alE(es:List Expr)(S:Sd)(vs:List Sv):Option<|Ax S<|AcL c S ((E7 es c.env).map (·.2)) vs:=List.rec (motive:=λes=>(S:Sd)->(vs:List Sv)->Option (Ax S<|AcL c S ((E7 es c.env).map (·.2)) vs))
 (λS vs=>match vs with
  | []=>Na ⟨S,[],[],Ch.refl,aFm⟩
  | _=>Nb)
 (λe es r S vs=>eN (M:=λe=>Option<|Ax S<|AcL c S ((E7 (e::es) c.env).map (·.2)) vs) (λO=>Nb) (λx p=>match vs with
  | v::vs=>(stF S x v).bind λa=>(r a.S' vs).map λb=>⟨b.S',a.ns++b.ns,a.tc++b.tc,a.ch.trans b.ch,aTi a.h b.h⟩
  | _=>Nb) e) es S vs
def alB(xs:List Str)(S:Sd)(vs:List Sv):Option<|Ax S<|AcL c S (xs.map λx=>λu=>bindName c.env x u) vs:=List.rec (motive:=λxs=>(S:Sd)->(vs:List Sv)->Option (Ax S<|AcL c S (xs.map λx=>λu=>bindName c.env x u) vs))
 (λS vs=>match vs with
  | []=>Na ⟨S,[],[],Ch.refl,aFm⟩
  | _=>Nb)
 (λx xs r S vs=>match vs with
  | v::vs=>(stF S x v).bind λa=>(r a.S' vs).map λb=>⟨b.S',a.ns++b.ns,a.tc++b.tc,a.ch.trans b.ch,aTj a.h b.h⟩
  | _=>Nb) xs S vs
noncomputable def isNone{α:Type}(o:Option α):Option<|PLift<|o=Nb:=match o with
 | none=>Na ⟨rfl⟩
 | _=>Nb
def aSY(S:Sd)(es:List Expr)(n:Nat)(p:Pos)(v:Sv):Option<|Ax S<|AsT c S (.Tuple es n p) v:=match v with
 | .d (.tup ds)=>if h:(T6 (E7 es c.env).length ds.length)=Nc then (isNone<|(E7 es c.env).findIdx? (·.1)).bind λz=>(alE es S<|ds.map .d).map λa=>⟨a.S',a.ns,a.tc,a.ch,aNC (H7 h) z.down a.h⟩ else Nb
 | .d (.mt x y z)=>if h:(T6 (E7 es c.env).length 3)=Nc then (isNone<|(E7 es c.env).findIdx? (·.1)).bind λu=>(alE es S [.d<|.int x,.d<|.int y,.d<|.int z]).map λa=>⟨a.S',a.ns,a.tc,a.ch,aQo (H7 h) u.down a.h⟩ else Nb
 | _=>Nb
def aT2(S:Sd)(y:Str)(py:Pos)(x:Str)(p:Pos)(v:Sv):Option<|Ax S<|AsT c S (.Attribute (.Name y py) x p) v:=(pN (c:=c) (S:=S) [] y py).bind λo=>match o with
  | ⟨.o k,_,[],ho⟩=>(aFe S k).bind λi=>(atN c.w x).bind λa=>chk (Nf<|i.1.2.length<=99) λb=>Na ⟨_,[],[i.1.1],Ch.set,aQr (ho trivial) i.2.1 i.2.2 (A9 (of_decide_eq_true b) (by rw[C5];decide)) a.down.1 a.down.2⟩
  | _=>Nb
def asF(S:Sd)(t:Expr)(v:Sv):Option<|Ax S<|AsT c S t v:=eX (M:=λt=>Option<|Ax S<|AsT c S t v) (λO=>Nb) (λO O O O=>Nb) (λO O O=>Nb) (λt x p=>eN (M:=λt=>Option<|Ax S<|AsT c S (.Attribute t x p) v) (λO=>Nb) (λy d=>aT2 S y d x p v) t) (λO O O=>Nb) (λx p=>(stF S x v).map λa=>⟨a.S',a.ns,a.tc,a.ch,tP a.h⟩) (λb n p=>aSY S b n p v) (λO O O O=>Nb) t
def fE(pl:P3 c N)(n:Nat)(S:Sd)(hs:List Hi)(e:Expr):Option<|Fx c S e:=
 have keep:(e:Expr)->Option (Fx c S e):=λe=>((q3 (S:=S) pl n).1 hs e).map λx=>⟨x.v,S,[],[],x.hs,x.ps,Ch.refl,x.h⟩
 have list:{e:Expr}->Option (PrL c S e)->Option (Fx c S e):=λz=>z.map λx=>⟨.o S.o.length,_,[],[],x.hs,x.ps,Ch.snoc,x.h⟩
 have g:Option<|Fx c S e:=eLB (M:=λe=>Option<|Fx c S e) keep
  (λl i r p=>match i with
   | .Add=>(list<|pLa (q3 (S:=S) pl n).1 hs l r p).orElse λO=>keep _
   | _=>keep _)
  (λv s pos=>eSl (M:=λs=>Option<|Fx c S<|.Subscript v s pos) (λO=>keep _) (λlo d st p=>list<|pSl (q3 (S:=S) pl n).1 hs v p pos lo d st) s) (λb p=>list<|pLs (q3 (S:=S) pl n).1 hs b p) e
 g.orElse λO=>match hs with
  | .n o::be=>Na ⟨.o S.o.length,_,[],[],be,[EvE c S e (.o S.o.length) {S with o:=S.o++[o]}],Ch.snoc,λa=>a.1⟩
  | _=>Nb
theorem aAM(h:yW ah=Nc):X9 [e] ah B env=pure false:=by
 cases ah <;> first | rfl | cases h
abbrev Gx(c:C3)(S:Sd)(pos:Pos)(es:List Expr):Type:=Bx S (List Sv)<|EvA c S pos es
def gA(pl:P3 c N)(n:Nat)(pos:Pos)(es:List Expr)(S:Sd)(hs:List Hi):Option<|Gx c S pos es:=List.rec (motive:=λes=>(S:Sd)->List Hi->Option (Gx c S pos es)) (λS hs=>Na ⟨[],S,[],[],hs,[],Ch.refl,λO=>eV⟩)
 (λe es r S hs=>chk (bR e) λh=>(fE pl n S hs e).bind λx=>(r x.S' x.hs).map λy=>⟨x.o::y.o,y.S',x.ns++y.ns,x.tc++y.tc,y.hs,x.ps++y.ps,x.ch.trans y.ch,λa=>bN (dM h) (x.h a.app.1)<|y.h a.app.2⟩) es S hs
abbrev BxS(c:C3)(S:Sd)(st:F9):Type:=Bx S Ou<|EvS c S st
abbrev BxX(c:C3)(S:Sd)(b:List F9):Type:=Bx S Ou<|EvX c S b
def aSZ{α:Type}(w:E9)(t:Sem α):Option {a:α // t=pure a}:=(exO<|rX w t).map λm=>⟨m.1,oZ m.2⟩
def aRx(pl:P3 c N)(n:Nat)(S:Sd)(hs:List Hi)(es:List Expr)(k:Nat)(tp:Pos)(vs:List Expr)(m:Nat)(vp pos:Pos):Option<|BxS c S<|.Assign [.Tuple es k tp] (.Tuple vs m vp) pos:=
 (gA pl n vp vs S hs).bind λx=>(aSZ c.w<|J8 [.Tuple es k tp] (.Tuple vs m vp) c.env).bind λz=>match hz:z.1 with
  | some b=>chk (Nat.ble b.length 9&&T6 x.o.length b.length) λh=>(alB b.reverse x.S' x.o.reverse).map λa=>⟨.next,a.S',x.ns++a.ns,x.tc++a.tc,x.hs,x.ps,x.ch.trans a.ch,λq=>
   aHO b rfl (z.2.trans<|congrArg pure hz) (F1 (aB h).1) (H7 (aB h).2) (x.h q) a.h⟩
  | none=>chk (T6 (E7 es c.env).length x.o.length&&Nat.ble x.o.length 9) λh=>(isNone<|(E7 es c.env).findIdx? (·.1)).bind λu=>(alE es x.S' x.o).map λa=>⟨.next,a.S',x.ns++a.ns,x.tc++a.tc,x.hs,x.ps,x.ch.trans a.ch,λq=>
   aHN rfl (z.2.trans<|congrArg pure hz) rfl (H7 (aB h).1) u.down (F1 (aB h).2) (x.h q) a.h⟩
def aSv(w:E9)(op:Operator)(ds:List Dt):Option<|OpR w (op2<|inplaceOp op) ds:=two (aSw w op) ds
def aRA(pl:P3 c N)(n:Nat)(S:Sd)(hs:List Hi)(x:Str)(px pos:Pos)(op:Operator)(v:Expr):Option<|BxS c S<|.AugAssign (.Name x px) op v pos:=
 chk (aBL c x) λh=>(exO<|S.r.lookup x).bind λa=>((q3 (S:=S) pl n).1 hs v).bind λy=>(aDM (S:=S) pl.rm0 (aSv c.w op) [a.1,y.v]).bind λz=>(stF S x z.v).map λst=>⟨.next,st.S',st.ns,st.tc,y.hs,y.ps++z.ps,st.ch,λq=>aN7 (aU h) a.2 (y.h q.app.1) (z.h q.app.2) st.h⟩
abbrev Mx(c:C3)(S:Sd)(a:Sv)(n:Str)(as:List Sv):Type:=Bx S (String×Sv) λr S'=>aFy c S a n r.1/\OpS c S SvR (cal<|.builtin r.1) (a::as) r.2 S'
noncomputable def aND(x:Option Ow):Option {l:List Dt // x=Na (.lst l)}:=match x with
 | some (.lst l)=>Na ⟨l,rfl⟩
 | _=>Nb
theorem aEI(e:S.o[n]?=Na (.lst xs)):drf S (.o n)=Na (.lst xs,Nc):=by
 show(S.o[n]?).bind _=_;rw[e];rfl
def mtL(S:Sd)(n:Nat)(x:Str)(as:List Sv):Option<|Mx c S (.o n) x as:=match as with
 | [b]=>(aND S.o[n]?).bind λl=>
  if h:(x==S9 "append")=Nc then (aIa<|drf S b).map λy=>⟨(_,_),_,[],[n],[],[l.1.length<=B9],Ch.set,λa=>⟨F6 h▸uL (aEI l.2) PySem.F.slot_list_append PySem.F.type_list_append,yT l.2 y.2 a.1⟩⟩
  else if h:(x==S9 "extend")=Nc then (tQ<|drf S b).map λy=>⟨(_,_),_,[],[n],[],[l.1.length+y.1.1.length<=B9],Ch.set,λa=>⟨F6 h▸uL (aEI l.2) PySem.F.slot_list_extend (by kernel_rfl),aLL l.2 y.2 a.1⟩⟩
  else Nb
 | _=>Nb
def mtE(S:Sd)(a:Sv)(x:Str)(as:List Sv):Option<|Mx c S a x as:=match a with
 | .o n=>mtL S n x as
 | _=>Nb
def fM(pl:P3 c N)(n:Nat)(S:Sd)(hs:List Hi)(o:Expr)(x:Str)(ap cp:Pos):(az:List Expr)->Option (Fx c S<|.Call (.Attribute o x ap) az [] cp)
 | e::rest=>if mf:O5 ((e::rest).length+([]:List AA6).length) (I9 cp<|C0 (e::rest) c.env) (K4 cp<|G5 [] c.env)=Nc then chk (bR e&&(iJ rest&&((ap.endLine==cp.line)&&jK o))) λh=>
  ((q3 (S:=S) pl n).1 hs o).bind λa=>(pA (q3 (S:=S) pl n).1 cp a.hs<|e::rest).bind λas=>(mtE S a.v x as.v).map λm=>
   ⟨m.o.2,m.S',m.ns,m.tc,as.hs,a.ps++(as.ps++m.ps),m.ch,λq=>vB (rZ (aB (aB (aB h).2).2).2) mf (aB (aB (aB h).2).2).1 (dM (aB h).1) (gV (aB (aB h).2).1) (a.h q.app.1) (m.h q.app.2.app.2).1 (as.h q.app.2.app.1) (m.h q.app.2.app.2).2⟩ else Nb
 | []=>if hx:(x==S9 "pop")=Nc then chk ((ap.endLine==cp.line)&&jK o) λh=>((q3 (S:=S) pl n).1 hs o).bind λa=>match a with
  | ⟨.o m,_,ps,ho⟩=>match a.hs with
   | .v y::.v (.lst l)::be=>Na ⟨.d y,_,[],[m],be,ps++[S.o[m]?=Na (.lst<|l++[y]),l.length<16777216],Ch.set,λq=>F6 hx▸aN0 (rZ (aB h).2) (aB h).1 (ho q.app.1) q.app.2.1 q.app.2.2.1⟩
   | _=>Nb
  | _=>Nb
  else if hx:(x==S9 "sort")=Nc then chk ((ap.endLine==cp.line)&&jK o) λh=>((q3 (S:=S) pl n).1 hs o).bind λa=>match a with
  | ⟨.o m,.l l::be,ps,ho⟩=>Na ⟨.d .none,_,[],[m],be,ps++[Srt c S.o[m]? l],Ch.set,λq=>F6 hx▸aHG (rZ (aB h).2) (aB h).1 (ho q.app.1) q.app.2.1⟩
  | _=>Nb
  else Nb
abbrev My(c:C3)(S:Sd)(e:Expr)(fd:D8->D8):Type:=Pr (Dt×Nat×Lo) λy=>EvE c S e (.d y.1) ⟨S.r,S.o.set y.2.1<|.ns y.2.2,fd S.d⟩
def gS(pl:P3 c N)(n:Nat)(fd:D8->D8)(S:Sd)(hs:List Hi)(o:Expr)(x:Str)(ap cp:Pos):(az:List Expr)->Option (My c S (.Call (.Attribute o x ap) az [] cp) fd)
 | e::rest=>if mf:O5 ((e::rest).length+([]:List AA6).length) (I9 cp<|C0 (e::rest) c.env) (K4 cp<|G5 [] c.env)=Nc then chk (bR e&&(iJ rest&&((ap.endLine==cp.line)&&jK o))) λh=>
  ((q3 (S:=S) pl n).1 hs o).bind λa=>match a with
  | ⟨.o k,hs1,ps,ho⟩=>(pA (q3 (S:=S) pl n).1 cp hs1<|e::rest).bind λas=>(aFe S k).bind λi=>(isNone<|i.1.2.lookup x).bind λlk=>(aAa<|drs S as.v).bind λm=>match as.hs with
   | .m d r'::be=>Na ⟨(d,i.1.1,r'),be,ps++(as.ps++[SmM c.w N x i.1.2 m.1 d r' fd]),λq=>aMZ pl.rm (rZ (aB (aB (aB h).2).2).2) mf (aB (aB (aB h).2).2).1 (dM (aB h).1) (gV (aB (aB h).2).1) (ho q.app.1) i.2.1 i.2.2 lk.down q.app.2.app.2.1 (as.h q.app.2.app.1) m.2⟩
   | _=>Nb
  | _=>Nb else Nb
 | []=>if mf:O5 (([]:List Expr).length+([]:List AA6).length) (I9 cp<|C0 [] c.env) (K4 cp<|G5 [] c.env)=Nc then chk ((ap.endLine==cp.line)&&jK o) λh=>((q3 (S:=S) pl n).1 hs o).bind λa=>match a with
  | ⟨.o k,hs1,ps,ho⟩=>(aFe S k).bind λi=>(isNone<|i.1.2.lookup x).bind λlk=>match hs1 with
   | .m d r'::be=>Na ⟨(d,i.1.1,r'),be,ps++[SmM c.w N x i.1.2 [] d r' fd],λq=>aHI pl.rm (rZ (aB h).2) mf (aB h).1 (ho q.app.1) i.2.1 i.2.2 lk.down q.app.2.1⟩
   | _=>Nb
  | _=>Nb else Nb
def fS(pl:P3 c N)(n:Nat)(S:Sd)(hs:List Hi)(o:Expr)(x:Str)(ap cp:Pos)(az:List Expr):Option<|Fx c S<|.Call (.Attribute o x ap) az [] cp:=(gS pl n id S hs o x ap cp az).map λy=>⟨.d y.v.1,{S with o:=S.o.set y.v.2.1 (.ns y.v.2.2)},[],[y.v.2.1],y.hs,y.ps,Ch.set,y.h⟩
def fL(pl:P3 c N)(n:Nat)(S:Sd)(hs:List Hi)(o:Expr)(x:Str)(ap cp:Pos):(az:List Expr)->Option (Fx c S<|.Call (.Attribute o x ap) az [] cp)
 | []=>if mf:O5 (([]:List Expr).length+([]:List AA6).length) (I9 cp<|C0 [] c.env) (K4 cp<|G5 [] c.env)=Nc then chk ((ap.endLine==cp.line)&&jK o) λh=>((q3 (S:=S) pl n).1 hs o).bind λa=>match a with
  | ⟨.o k,.k l r'::be,ps,ho⟩=>(aFe S k).bind λi=>(isNone<|i.1.2.lookup x).map λlk=>⟨.o S.o.length,_,[],[i.1.1],be,ps++[aCh c.w N x λf n=>tU c.w n (cal<|.ref f) i.1.2 [] l r'],(Ch.set.trans Ch.snoc:Ch S ⟨S.r,S.o.set i.1.1 (.ns r')++[.lst l],S.d⟩ [] [i.1.1]),λq=>aHH pl.rm (rZ (aB h).2) mf (aB h).1 (ho q.app.1) i.2.1 i.2.2 lk.down q.app.2.1⟩
  | _=>Nb else Nb
 | _=>Nb
def eMc{M:Expr->Type}(au:∀e,M e)(f:∀o x ap as p,M<|.Call (.Attribute o x ap) as [] p):(e:Expr)->M e:=eCC au (λg as a p=>lN (M:=λa=>M<|.Call g as a p) (eNA (M:=λg=>M<|.Call g as [] p) (λO=>au _) (λO O=>au _) (λo x ap=>f o x ap as p) g) (λO=>au _) a) λO O O=>au _
def fT(pl:P3 c N)(n:Nat)(S:Sd)(hs:List Hi):(e:Expr)->Option (Fx c S e):=eMc (M:=λe=>Option<|Fx c S e) (fE pl n S hs) λo x a as p=>(fM pl n S hs o x a p as).orElse λO=>(fS pl n S hs o x a p as).orElse λO=>(fL pl n S hs o x a p as).orElse λO=>fE pl n S hs _
def aRD(pl:P3 c N)(n:Nat)(S:Sd)(hs:List Hi)(t v:Expr)(pos:Pos)(hw:J8 [t] v c.env=pure Nb)(he:(E7 [t] c.env).map (·.2)=[assign t c.env]):Option<|BxS c S<|.Assign [t] v pos:=
 chk (yW v) λh=>(fT pl n S hs v).bind λx=>(asF x.S' t x.o).map λa=>⟨.next,a.S',x.ns++a.ns,x.tc++a.tc,x.hs,x.ps,x.ch.trans a.ch,λq=>rS (aAM h) hw he (x.h q) a.h⟩
def aRC(pl:P3 c N)(n:Nat)(S:Sd)(hs:List Hi)(t t' v:Expr)(pos:Pos)(hw:J8 [t,t'] v c.env=pure Nb)(he:(E7 [t,t'] c.env).map (·.2)=[assign t c.env,assign t' c.env]):Option<|BxS c S<|.Assign [t,t'] v pos:=
 (fT pl n S hs v).bind λx=>(asF x.S' t x.o).bind λa=>(asF a.S' t' x.o).map λb=>⟨.next,b.S',x.ns++(a.ns++b.ns),x.tc++(a.tc++b.tc),x.hs,x.ps,x.ch.trans<|a.ch.trans b.ch,λq=>aBf hw he (x.h q) a.h b.h⟩
def aRB(pl:P3 c N)(n:Nat)(S:Sd)(hs:List Hi)(t t' dl v:Expr)(pos:Pos)(hw:J8 [t,t',dl] v c.env=pure Nb)(he:(E7 [t,t',dl] c.env).map (·.2)=[assign t c.env,assign t' c.env,assign dl c.env]):Option<|BxS c S<|.Assign [t,t',dl] v pos:=
 (fT pl n S hs v).bind λx=>(asF x.S' t x.o).bind λa=>(asF a.S' t' x.o).bind λb=>(asF b.S' dl x.o).map λd=>⟨.next,d.S',x.ns++(a.ns++(b.ns++d.ns)),x.tc++(a.tc++(b.tc++d.tc)),x.hs,x.ps,x.ch.trans<|a.ch.trans<|b.ch.trans d.ch,λq=>aHQ hw he (x.h q) a.h b.h d.h⟩
noncomputable def fnX(c:C3):Bool:=!interactive c.env
def aI9{α:Type}(w:E9)(t:Sem<|Option α):Option<|PLift<|t=pure Nb:=(exO<|rX w t).bind λm=>match m with
 | ⟨Nb,h⟩=>Na ⟨oZ h⟩
 | _=>Nb
theorem aNM(h:bR e=Nc):(E7 (e::es) env).map (·.2)=assign e env::(E7 es env).map (·.2):=by
 cases e <;> first | rfl | cases h
theorem he1(h:bR e=Nc):(E7 [e] env).map (·.2)=[assign e env]:=aNM h
theorem he2(h:bR e=Nc)(h':bR t'=Nc):(E7 [e,t'] env).map (·.2)=[assign e env,assign t' env]:=by rw[aNM h,he1 h']
theorem he3(h:bR e=Nc)(h':bR t'=Nc)(d6:bR dl=Nc):(E7 [e,t',dl] env).map (·.2)=[assign e env,assign t' env,assign dl env]:=by rw[aNM h,he2 h' d6]
def aRy(pl:P3 c N)(n:Nat)(S:Sd)(hs:List Hi)(y:Str)(py:Pos)(i:Expr)(p:Pos)(v:Expr)(pos:Pos):Option<|BxS c S<|.Assign [.Subscript (.Name y py) i p] v pos:=
 chk (yW v) λh=>(aI9 c.w<|J8 [.Subscript (.Name y py) i p] v c.env).bind λz=>(fT pl n S hs v).bind λx=>match x with
 | ⟨.d d,S1,ns,tc,hs1,ps,ch,hx⟩=>(pN (c:=c) (S:=S1) hs1 y py).bind λo=>match o with
  | ⟨.o k,ir,ps2,ho⟩=>((q3 (S:=S1) pl n).1 ir i).bind λu=>match u with
   | ⟨.d (.int j),.v (.int q)::hs3,ps3,hu⟩=>(aND S1.o[k]?).bind λl=>chk (Nf (-9223372036854775808<=j)&&Nf (j<9223372036854775808)) λb=>Na ⟨.next,_,ns++[],tc++[k],hs3,ps++(ps2++(ps3++[P1 j l.1.length=Na q.toNat])),ch.trans Ch.set,λa=>rS (aAM h) z.down (he1 rfl) (hx a.app.1)<|aQp (ho a.app.2.app.1) (hu a.app.2.app.2.app.1) l.2 (of_decide_eq_true (aB b).1) (of_decide_eq_true (aB b).2) a.app.2.app.2.app.2.1⟩
   | _=>Nb
  | _=>Nb
 | _=>Nb
def sIf(pl:P3 c N)(n:Nat)(run:(S:Sd)->List Hi->(b:List F9)->Option (BxX c S b))(S:Sd)(hs:List Hi)(t:Expr)(b1 b2:List F9)(pos:Pos):Option<|BxS c S<|.If t b1 b2 pos:=
 ((q3 (S:=S) pl n).2 hs t).bind λb=>match b.hs with
 | .t Nc::be=>(run S be b1).map λx=>⟨x.o,x.S',x.ns,x.tc,x.hs,b.ps++((b.v=Nc)::x.ps),x.ch,λa=>rQ (b.h a.app.1) (λO=>x.h a.app.2.2) λe=>by rw[a.app.2.1] at e;cases e⟩
 | .t Nd::be=>(run S be b2).map λx=>⟨x.o,x.S',x.ns,x.tc,x.hs,b.ps++((b.v=Nd)::x.ps),x.ch,λa=>rQ (b.h a.app.1) (λe=>by rw[a.app.2.1] at e;cases e) λO=>x.h a.app.2.2⟩
 | _=>(run S b.hs b1).bind λx=>(run S x.hs b2).bind λy=>match x,y with
  | ⟨.next,S1,ns,tc,_,ps,ch1,h1⟩,⟨.next,S2,ms,td,be,qs,ch2,h2⟩=>Na ⟨.next,mgS b.v (ns++ms) (tc++td) S S1 S2,ns++ms,tc++td,be,b.ps++(grd b.v Nc ps++grd b.v Nd qs),aM6 ch1 ch2,λa=>rQ (b.h a.app.1) (λe=>(h1<|lO a.app.2.app.1 e).wkr nofun (aP3 ch1 e)) λe=>(h2<|lO a.app.2.app.2 e).wkr nofun (aP4 ch2 e)⟩
  | _,_=>Nb
def sA1(pl:P3 c N)(n:Nat)(S:Sd)(hs:List Hi)(t v:Expr)(pos:Pos):Option<|BxS c S<|.Assign [t] v pos:=chk (bR t) λh=>(aI9 c.w<|J8 [t] v c.env).bind λz=>aRD pl n S hs t v pos z.down<|he1 h
def sA(pl:P3 c N)(n:Nat)(S:Sd)(hs:List Hi)(v:Expr)(pos:Pos)(ts:List Expr):Option<|BxS c S<|.Assign ts v pos:=match ts with
 | [t]=>have d:=λt=>sA1 pl n S hs t v pos;eTS (M:=λt=>Option<|BxS c S<|.Assign [t] v pos) d (λa k b=>eTS (M:=λv=>Option<|BxS c S<|.Assign [.Tuple a k b] v pos) (λv=>sA1 pl n S hs _ v pos) (λj m g=>aRx pl n S hs a k b j m g pos) (λO O O=>sA1 pl n S hs _ _ pos) v) (λy i p=>eN (M:=λy=>Option<|BxS c S<|.Assign [.Subscript y i p] v pos) (λO=>d _) (λy e=>aRy pl n S hs y e i p v pos) y) t
 | [t,t']=>chk (bR t&&bR t') λh=>(aI9 c.w<|J8 [t,t'] v c.env).bind λz=>aRC pl n S hs t t' v pos z.down<|he2 (aB h).1 (aB h).2
 | [t,t',dl]=>chk (bR t&&(bR t'&&bR dl)) λh=>(aI9 c.w<|J8 [t,t',dl] v c.env).bind λz=>aRB pl n S hs t t' dl v pos z.down<|he3 (aB h).1 (aB (aB h).2).1 (aB (aB h).2).2
 | _=>Nb
def sX(pl:P3 c N)(n:Nat)(S:Sd)(hs:List Hi)(pos:Pos):(e:Expr)->Option (BxS c S<|.Expr e pos):=eCC (M:=λe=>Option<|BxS c S<|.Expr e pos) (λO=>Nb)
 (λf b d p=>chk (fnX c) λh=>(fT pl n S hs<|.Call f b d p).map λx=>⟨.next,x.S',x.ns,x.tc,x.hs,x.ps,x.ch,λa=>aA0 (J1 _▸h) rfl<|x.h a⟩)
 λk m p=>match k with
  | .str x=>chk (fnX c) λh=>Na ⟨.next,S,[],[],hs,[],Ch.refl,λO=>aA0 (J1 _▸h) rfl zW⟩
  | _=>Nb
def aRz(pl:P3 c N)(n:Nat)(S:Sd)(hs:List Hi)(pos:Pos)(v:Option Expr):Option<|BxS c S<|.Return v pos:=match v with
 | some e=>(fT pl n S hs e).map λx=>⟨.ret x.o,x.S',x.ns,x.tc,x.hs,x.ps,x.ch,λa=>aEw<|x.h a⟩
 | none=>Nb
def sE(pl:P3 c N)(n:Nat)(run:(S:Sd)->List Hi->(b:List F9)->Option (BxX c S b))(S:Sd)(hs:List Hi):(st:F9)->Option (BxS c S st):=sC (M:=λst=>Option<|BxS c S st) (λg v pos=>sA pl n S hs v pos g)
 (λt a v pos=>eN (M:=λt=>Option<|BxS c S<|.AugAssign t a v pos) (λO=>Nb) (λx d=>aRA pl n S hs x d pos a v) t) (λe pos=>sX pl n S hs pos e) (λv pos=>aRz pl n S hs pos v)
 (λpos=>Na ⟨.cont,S,[],[],hs,[],Ch.refl,λO=>aBe⟩) (λpos=>Na ⟨.brk,S,[],[],hs,[],Ch.refl,λO=>aN6⟩) (sIf pl n run S hs) (λO O O O O=>Nb) (λO O O O=>Nb) (λO O O O O O O O O O=>Nb) (λO O O O O O O O O O O=>Nb) λO=>Nb
def qX(pl:P3 c N)(n m:Nat):(S:Sd)->List Hi->(b:List F9)->Option (BxX c S b):=Y9 (motive:=λO=>(S:Sd)->List Hi->(b:List F9)->Option (BxX c S b)) (λO O O=>Nb)
 (λO go S d b=>
  have one (d:List Hi):Option<|BxX c S b:=S5 (motive:=λb=>Option<|BxX c S b) b (Na ⟨.next,S,[],[],d,[],Ch.refl,λO=>cJ⟩) λst e=>
   (sE pl n go S d st).bind λx=>match x with
   | ⟨.next,S1,ns,tc,be,ps,ch,h⟩=>(go S1 be e).map λy=>⟨y.o,y.S',ns++y.ns,tc++y.tc,y.hs,ps++y.ps,ch.trans y.ch,λa=>bY (h a.app.1)<|y.h a.app.2⟩
   | ⟨.cont,S1,ns,tc,be,ps,ch,h⟩=>Na ⟨.cont,S1,ns,tc,be,ps,ch,λa=>nB rfl<|h a⟩
   | ⟨.brk,S1,ns,tc,be,ps,ch,h⟩=>Na ⟨.brk,S1,ns,tc,be,ps,ch,λa=>nB rfl<|h a⟩
   | ⟨.ret s,S1,ns,tc,be,ps,ch,h⟩=>Na ⟨.ret s,S1,ns,tc,be,ps,ch,λa=>nB rfl<|h a⟩
  match d with
  | .z i::be=>(aND S.o[i]?).bind λl=>(go {S with o:=S.o.set i (.fz<|.lst l.1)} be b).map λy=>⟨y.o,y.S',y.ns,i::y.tc,y.hs,y.ps,Ch.set.trans y.ch,λa=>EvT.wk (jG l.2)<|y.h a⟩
  | .f i o::be=>(go {S with o:=S.o.set i o} be b).map λy=>⟨y.o,y.S',y.ns,i::y.tc,y.hs,Wks c S {S with o:=S.o.set i o}::y.ps,Ch.set.trans y.ch,λa=>EvT.wk a.1<|y.h a.2⟩
  | d=>one d) m
noncomputable def pS(t s:Sv)(aw:List<|Nat×Nat):List<|Nat×Nat:=match t,s with
 | .o m,.o n=>(m,n)::aw
 | _,_=>aw
def pL(t s:Lo)(aw:List<|Nat×Nat):List<|Nat×Nat:=List.rec (motive:=λO=>List<|Nat×Nat) aw (λp O q=>((s.lookup p.1).map λu=>pS p.2 u q).getD q) t
def pO(t s:Ow)(aw:List<|Nat×Nat):List<|Nat×Nat:=match t,s with
 | .ns r,.ns r'=>pL r r' aw
 | .ins a,.ins b=>(a,b)::aw
 | .cell (Na t),.cell (Na s)=>pS t s aw
 | _,_=>aw
def pIx(k:Nat)(T S:Sd):Option<|List Nat:=
 let a:=(B8 T.o.length).foldl (λa m=>((a.lookup m).bind λn=>(T.o[m]?).bind λt=>(S.o[n]?).map λs=>pO t s a).getD a) (pL T.r S.r<|(B8 k).map λi=>(i,i))
 List.rec (motive:=λO=>Option<|List Nat) (Na []) (λm O q=>(a.lookup m).bind λn=>q.map (n::·)) (B8 T.o.length)
def fit(c:C3)(T S:Sd):Option {U:Sd // Wks c S U}:=(pIx c.np T S).bind λis=>(exO<|rnR is S<|T.r.map (·.1)).bind λr=>(exO<|aLj is S is).bind λos=>chk (ndN is&&(is.take c.np==B8 c.np)) λh=>Na ⟨_,(aFR r.2 os.2 (aB h).1<|F6 (aB h).2).trans<|aKJ T.o⟩
theorem aP{β:Type}{P:β->Prop}{o:Option {x:β // P x}}{b:β}(h:o.map (·.1)=Na b):P b:=by
 obtain⟨a,_,rfl⟩:=B0.mp h;exact a.2
inductive Rt(c:C3)(S:Sd)(b:List F9)(d:Dt):Prop
 | ret (s:Sv) (S':Sd) (o:Bool) (x:EvX c S b (.ret s) S') (e:drf S' s=Na (d,o)) (ed:S'.d=S.d):Rt c S b d
 | none (S':Sd) (x:EvX c S b .next S') (e:d=.none) (ed:S'.d=S.d):Rt c S b d
section
variable{T:Sd}{b:List F9}{ps:List Prop}
abbrev aR8(c:C3)(S:Sd)(b:List F9):Type:=Option {r:Sd×List Prop // Al r.2->EvX c S b .next r.1}
abbrev aR9(c:C3)(S:Sd)(b:List F9):Type:=Option {r:Dt×List Prop // Al r.2->Rt c S b r.1}
def aRX(T:Sd)(x:BxX c S b):aR8 c S b:=match x with
 | ⟨.next,S1,_,_,_,ps,_,h⟩=>(fit c T S1).map λm=>⟨(m.1,ps),λa=>(h a).wkr nofun m.2⟩
 | _=>Nb
def aRW(T:Sd)(x:BxX c S b):Option {r:Ou×Sd×List Prop // Al r.2.2->EvX c S b r.1 r.2.1}:=match x with
 | ⟨.brk,S1,_,_,_,ps,_,h⟩=>(fit c T S1).map λm=>⟨(.brk,m.1,ps),λa=>(h a).wkr nofun m.2⟩
 | ⟨.cont,S1,_,_,_,ps,_,h⟩=>(fit c T S1).map λm=>⟨(.cont,m.1,ps),λa=>(h a).wkr nofun m.2⟩
 | _=>Nb
def aRY(x:BxX c S b):aR9 c S b:=match x with
 | ⟨.ret s,S1,_,_,_,ps,ch,h⟩=>(exO<|drf S1 s).map λm=>⟨(m.1.1,ps),λa=>.ret s S1 m.1.2 (h a) m.2 ch.d⟩
 | _=>Nb
def aCR(pl:P3 c N)(S:Sd)(hs:List Hi)(b:List F9)(T:Sd):aR8 c S b:=(qX pl 20 60 S hs b).bind<|aRX T
def aRG(pl:P3 c N)(S:Sd)(hs:List Hi)(b:List F9):aR9 c S b:=(qX pl 20 60 S hs b).bind aRY
theorem aC0(b2:List F9):∀b1:List F9,execs (b1++b2) env=(execs b1 env >>= λf=>match f with
  | .next=>execs b2 env
  | f=>pure f):=by
 intro b1;induction b1 with
 | nil=>
  exact rfl
 | cons st b1 a=>
  rw[L8,arm_execs_cons,arm_execs_cons,bind_assoc]
  congr 1
  funext f
  cases f with
  | next=>exact a
  | _=>rfl
theorem oY(x:EvX c S b1 .next T)(y:EvX c T b2 o S2):EvX c S (b1++b2) o S2:=
 ⟨λH p=>by
  rw[aC0];exact WP.bind (x.go p λb u l1 e=>by
   obtain rfl:u=.next:=e;exact y.go b λd v a g=>d.end (l1.tr a) g)⟩
theorem xq(pl:P3 c N)(k:Nat)(hs:List Hi)(T:Sd)(ps:List Prop)(h:(aCR pl S hs (b.take k) T).map (·.1)=Na (T,ps))(a:Al ps)(q:EvX c T (b.drop k) o S2):EvX c S b o S2:=G3 k b▸oY (aP h a) q
theorem xo(pl:P3 c N)(hs:List Hi)(T:Sd)(ps:List Prop)(h:((qX pl 20 60 S hs b).bind<|aRW T).map (·.1)=Na (o,T,ps))(a:Al ps):EvX c S b o T:=aP h a
theorem xa(pl:P3 c N)(hs:List Hi)(T:Sd)(ps:List Prop)(h:(aCR pl S hs b T).map (·.1)=Na (T,ps))(a:Al ps):EvX c S b .next T:=aP h a
theorem sH(pl:P3 c N)(hs:List Hi)(d:Dt)(ps:List Prop)(h:(aRG pl S hs b).map (·.1)=Na (d,ps))(a:Al ps):Rt c S b d:=aP h a
theorem yL(x:EvX c S b1 .next T)(ed:T.d=S.d)(y:Rt c T b2 oc):Rt c S (b1++b2) oc:=by
 cases y with
 | ret s b o y e a=>exact .ret s b o (oY x y) e<|a.trans ed
 | none b y e a=>exact .none b (oY x y) e<|a.trans ed
theorem xr(pl:P3 c N)(k:Nat)(hs:List Hi)(T:Sd)(ps:List Prop)(h:(aCR pl S hs (b.take k) T).map (·.1)=Na (T,ps))(a:Al ps)(ed:T.d=S.d)(q:Rt c T (b.drop k) oc):Rt c S b oc:=G3 k b▸yL (aP h a) ed q
theorem aAv{st:F9}(x:EvS c S st .next T)(ed:T.d=S.d)(y:Rt c T b1 oc):Rt c S (st::b1) oc:=yL (fP x) ed y
end
section
variable{T:Sd}
inductive gT(c:C3)(S:Sd)(b:List F9)(T:Sd):Prop
 | next (S1:Sd) (x:EvX c S b .next S1) (w:Wks c S1 T):gT c S b T
 | cont (S1:Sd) (x:EvX c S b .cont S1) (w:Wks c S1 T):gT c S b T
theorem gT.go{H:TT}{b:List F9}(x:gT c S b T)(p:Pt c H S){Q:U4->A6->Prop}{J:A6->Prop}(q:∀p':Pt c H T,Lt Nd p.φ p'.φ->J p'.s):WP c.w c.A (execs b c.env) (vL Q J) E p.s:=by
 cases x with
 | next h x w=>exact x.go p λd u l1 g=>w.go d λe a=>by rw[show u=.next from g];exact q e<|l1.tr a
 | cont h x w=>exact x.go p λd u l1 g=>w.go d λe a=>by rw[show u=.cont from g];exact q e<|l1.tr a
theorem Rl3.permH(q:Rl3 c φ X' S h)(pm:X'.Perm H'):Rl3 c φ H' S h:=
 have b:(c.X H').Perm<|c.X X':=.cons _ (pm.map _).symm
 ⟨q.len,λi a o d e=>⟨λl=>have w:=q.own ⟨d,e,l⟩;⟨w.at_,w.z,λi=>w.n<|b.subset i⟩,(q.ok i a o d e).fz⟩,q.inj,q.ns,λp hp=>q.hid p<|pm.mem_iff.mpr hp,q.sub,λa i=>q.hz a<|b.subset i,b.nodup_iff.mpr q.nd,q.cl⟩
theorem Rl3.many{X H:TT}(R:Rl3 c ⟨Z,Y⟩ (X++H) S h)(e:X'.map (·.1)=X.map (·.1))(k:aK (X.map (·.1)) h h')(at_:∀p∈X',At h' p.1 p.2):Rl3 c ⟨bP Z h h' [],Y⟩ (X'++H) S h':=by
 have eX:c.X (X'++H)=c.X (X++H):=by show _::(X'++H).map _=_::(X++H).map _;rw[B4,B4,e]
 have y:∀{b},b∈X.map (·.1)->b∈c.X (X++H):=λq=>.tail _ (by rw[B4];exact E0 _ q);have d:∀{b},h.get? b≠Nb->bP Z h h' [] b=Z b:=λ{b} q=>by
  rw[eK];unfold dE;cases e:h.get? b with
  | none=>exact absurd e q
  | some o=>rfl
 have l:Lt Nc (⟨Z,Y⟩:Fr) ⟨bP Z h h' [],Y⟩:=.z<|aW R.sub;have E:(c.env.locals::(X.map (·.1)++H.map (·.1))).Nodup:=by have:=R.nd;unfold C3.X at this;rwa [B4] at this
 obtain⟨C,B⟩:=B6.mp E;have A:=(P2.mp B).2.2;refine⟨R.len,λi a o r u=>⟨λlv=>?_,λx q=>((R.ok i a o r u).fz x q).up l.le⟩,R.inj,A2 R.ns λm q=>⟨m,nsX q.1 k λz=>C<|E0 _ z,q.2.up l⟩,λp hp=>?_,λb x q=>?_,λa g=>?_,eX▸R.nd,R.cl⟩
 .have w:=R.own ⟨r,u,lv⟩;have j:=w.step l k (λz=>w.n<|y z)<|(d w.in_).trans w.z;exact⟨j.at_,j.z,eX▸j.n⟩
 .obtain hp|hp:=E4.mp hp
  .exact at_ p hp
  .exact(R.hid p<|J2 _ hp).keepX k λz=>A _ z _ (C9 hp) rfl
 .have q:bP Z h h' [] b=Na x:=q;rw[eK] at q;unfold dE at q;cases z:h.get? b with
  | none=>rw[z] at q;exact q
  | some o=>
   rw[z] at q;have q:=q;refine k b x (λi=>?_)<|R.sub b x q;rw[show Z b=Nb from R.hz b (y i)] at q;cases q
 .rw[eX] at g;exact(d<|R.xIn g).trans<|R.hz a g
theorem Rl3.goneX:∀{X H:TT},Rl3 c φ (X++H) S h->Rl3 c φ H S h:=by
 intro X;induction X with
 | nil=>
  intro _ R;exact R
 | cons p X a=>
  intro _ R;exact a R.shw
theorem Rl3.dropX{X H:TT}(R:Rl3 c ⟨Z,Y⟩ (X++H) S h)(k:aK (X.map (·.1)) h h'):Rl3 c ⟨Z,Y⟩ H S h':=by
 have d:∀{b},b∈X.map (·.1)->b∈c.X (X++H):=λq=>.tail _ (by rw[B4];exact E0 _ q);have p:(c.env.locals::(X.map (·.1)++H.map (·.1))).Nodup:=by have:=R.nd;unfold C3.X at this;rwa [B4] at this
 obtain⟨o,g⟩:=B6.mp p;have e:=(P2.mp g).2.2;refine R.goneX.step (.refl _) (λb x q=>k b x (λi=>?_)<|R.sub b x q) k λa r q=>⟨λi=>?_,r⟩
 .rw[show Z b=Nb from R.hz b (d i)] at q;cases q
 .obtain q|⟨j,x,w⟩:=q
  .obtain rfl|q:=A8.mp q
   .exact o (E0 _ i)
   .exact e _ i _ q rfl
  .exact(R.own w).n<|d i
theorem Rl3.hides:∀{X H:TT},Rl3 c ⟨Z,Y⟩ H S h->(X.map (·.1)).Nodup->(∀p∈X,dH (Z p.1=Nb) (p.1∉c.X H)<|¬sB Y S.o p.1)->(∀p∈X,At h p.1 p.2)->Rl3 c ⟨Z,Y⟩ (X++H) S h:=by
 intro X;induction X with
 | nil=>
  intro _ R _ _ _;exact R
 | cons p X d=>
  intro H R j f at_;obtain⟨e,g⟩:=B6.mp j;have a:=f p<|.head _;refine(d R g (λq b=>f q<|.tail _ b) λq b=>at_ q<|.tail _ b).addH ⟨a.1,λi=>?_,a.3⟩<|at_ p<|.head _;obtain i|i:=A8.mp i
  .exact a.2 (i▸.head _)
  .rw[B4] at i;exact(E4.mp i).elim e λi=>a.2<|.tail _ i
noncomputable def aFC(w:E9)(dr:D8)(os:U1)(tg:Expr)(Z:HP)(l:List Dt)(I:E3)(X:Nat->TT):Prop:=∀A' h1 (g1:Array H9) k1 i x,Rm A' 0->Sub Z h1->(∀p∈X i,At h1 p.1 p.2)->l[i]?=Na x->WP w A' (W5<|.ref I) (λr d=>∃u,r=Na u/\WP w A' (M0 tg (.ref I) u) (λO e=>Ex2 λa b=>lY (e=⟨a,g1,dr,b,os⟩) (∀p∈X (i+1),At a p.1 p.2) (aK ((X 0).map (·.1)) h1 a)<|∀Zc,HP.le Z Zc->Sub Zc h1->Rp (bP Zc h1 a []) x u) FF d) FF ⟨h1,g1,dr,k1,os⟩
noncomputable def aFA(w:E9)(dr:D8)(os:U1)(tg:Expr)(Z:HP)(l:List Dt)(I:E3)(X:Nat->TT):Prop:=∀A' h1 (g1:Array H9) k1,Rm A' 0->Sub Z h1->(∀p∈X l.length,At h1 p.1 p.2)->WP w A' (W5<|.ref I) (λr d=>Ex2 λa b=>dH (r=Nb) (d=⟨a,g1,dr,b,os⟩)<|aK ((X 0).map (·.1)) h1 a) FF ⟨h1,g1,dr,k1,os⟩
noncomputable def aFB(w:E9)(dr:D8)(os:U1)(tg:Expr)(Z:HP)(l:List Dt)(I:E3)(X:Nat->TT):Prop:=∀A' h1 (g1:Array H9) k1 i,(∀p∈X i,At h1 p.1 p.2)->WP w A' (Y1<|.ref I) (λa b=>a=.ref I/\b=⟨h1,g1,dr,k1,os⟩) FF ⟨h1,g1,dr,k1,os⟩
structure ItX(w:E9)(dr:D8)(os:U1)(tg:Expr)(Z:HP)(l:List Dt)(I:E3)(X:Nat->TT):Prop where
 ad:∀i,(X i).map (·.1)=(X 0).map (·.1)
 next:aFC w dr os tg Z l I X
 stop:aFA w dr os tg Z l I X
 self:aFB w dr os tg Z l I X
theorem ItX.of{D:Nat->OD}(q:ItO w dr os tg Z xs I D):ItX w dr os tg Z xs I λi=>[(I,D i)]:=
 ⟨λO=>rfl,λa d b g i x h sub at_ e=>(q.next a d b g i x h sub (at_ _<|.head _) e).mono λr J y=>by
  obtain⟨u,o,A,rfl,rfl,C,j,B,own⟩:=y;exact⟨u,rfl,own.mono λO M n=>⟨o,A,n,λp hp=>by rw[C6.mp hp];exact j,B,λE le s=>C.up<|le.trans<|aW s⟩⟩,
 λa d b g h sub at_=>q.stop a d b g h sub<|at_ _<|.head _,λa d b g i at_=>q.self a d b g i<|at_ _<|.head _⟩
inductive ItP(c:C3)(H:TT)(S:Sd)(tg:Expr)(l:List Dt)(bj:Fr)(it:A3)(s:A6):Prop
 | mk (I:E3) (X:Nat->TT) (Z:HP) (p:Pt c (X 0++H) S) (lt:Lt Nc bj p.φ) (lz:HP.le Z p.φ.Z) (bz:ItX c.w S.d c.os tg Z l I X) (ei:it=.ref I) (es:s=p.s):ItP c H S tg l bj it s
structure ItE(c:C3)(S:Sd)(e tg:Expr)(l:List Dt)(S':Sd):Prop where
 of::run:∀H(p:Pt c H S),WP c.w c.A (eval e c.env) (λv s1=>WP c.w c.A (Y1 v) (ItP c H S' tg l p.φ) FF s1) FF p.s
theorem Pt.iterP(it:Itr c.w oc xs e)(p:Pt c X' S){v:A3}(r:Rp p.φ.Z oc v)(l:Lt Nc bj p.φ):WP c.w c.A (Y1 v) (ItP c X' S e xs bj) FF p.s:=
 (it.run c.A p.φ.Z p.h p.g S.d p.k c.os v p.gz p.rm p.rel.sub r).mono λu s y=>by
  obtain⟨I,n,o,D,rfl,rfl,nI,q,b,j⟩:=y;have a:HP.le p.φ.Z<|bP p.φ.Z p.h n [I]:=aW p.rel.sub;exact⟨I,λi=>[(I,D i)],p.φ.Z,p.hide q nI b o,l.tr ⟨a,λO=>Q6 _⟩,a,.of j,rfl,rfl⟩
theorem ItE.dt{t:Expr}{d:Dt}(x:EvE c S e (.d d) S1)(it:Itr c.w d xs t):ItE c S e t xs S1:=⟨λH p=>x.go p λa u l1 b=>a.iterP it b l1⟩
theorem Pt.nextX(bz:ItX c.w dr c.os ah Z xs I XX)(p:Pt c (XX B++X') S)(ed:S.d=dr)(le:HP.le Z p.φ.Z)(hl:B<xs.length)(q:∀v(p':Pt c (XX (B+1)++X') S),Lt Nc p.φ p'.φ->Rp p'.φ.Z xs[B] v->Q v p'.s):WP c.w c.A (W5<|.ref I) (λr s1=>∃v,r=Na v/\WP c.w c.A (M0 ah (.ref I) v) (λO s2=>Q v s2) FF s1) E p.s:=by
 subst ed;refine WP.in<|(bz.next c.A p.h p.g p.k B xs[B] p.rm (λb o e=>p.rel.sub b o<|le b o e) (λx n=>p.rel.hid x<|E0 _ n) (B1 hl)).mono λr s1 y=>?_;obtain⟨v,rfl,y⟩:=y;refine⟨v,rfl,y.mono λO s2 z=>?_⟩;obtain⟨a,u,rfl,j,C,J⟩:=z;have i:HP.le p.φ.Z<|bP p.φ.Z p.h a []:=aW p.rel.sub;exact q v ⟨⟨bP p.φ.Z p.h a [],p.φ.α⟩,a,p.g,u,p.rm,p.gz.le i,p.gg,Rl3.many p.rel ((bz.ad _).trans (bz.ad B).symm) (bz.ad B▸C) j⟩ ⟨i,λO=>Q6 _⟩<|J _ le p.rel.sub
theorem Pt.stopX(bz:ItX c.w dr c.os ah Z xs I XX)(p:Pt c (XX xs.length++X') S)(ed:S.d=dr)(le:HP.le Z p.φ.Z){Q:Option A3->A6->Prop}(q:∀p':Pt c X' S,Lt Nc p.φ p'.φ->Q Nb p'.s):WP c.w c.A (W5<|.ref I) Q E p.s:=by
 subst ed;refine WP.in<|(bz.stop c.A p.h p.g p.k p.rm (λb o e=>p.rel.sub b o<|le b o e)<|λx i=>p.rel.hid x<|E0 _ i).mono λr u y=>?_;obtain⟨a,j,rfl,rfl,n⟩:=y;exact q ⟨p.φ,a,p.g,j,p.rm,p.gz,p.gg,p.rel.dropX<|bz.ad _▸n⟩ .refl
inductive FoJ(c:C3)(xs:List Dt)(R:Nat->Sd)(P:Nat->Prop)(bj:Fr)(H:TT)(X:Nat->TT)(Z:HP)(n:Nat)(s:A6):Prop
 | mk (i:Nat) (p:Pt c (X i++H)<|R i) (hp:P i) (e:n=xs.length-i) (le:i<=xs.length) (l:Lt Nd bj p.φ) (lz:HP.le Z p.φ.Z) (es:s=p.s):FoJ c xs R P bj H X Z n s
theorem Pt.iter{H:TT}(it:Itr c.w oc xs e)(p:Pt c H S){v:A3}(r:Rp p.φ.Z oc v)(q:∀I D(p':Pt c ((I,D 0)::H) S),Lt Nc p.φ p'.φ->ItO c.w S.d c.os e p.φ.Z xs I D->Q (.ref I) p'.s):WP c.w c.A (Y1 v) Q E p.s:=
 WP.in ((it.run c.A p.φ.Z p.h p.g S.d p.k c.os v p.gz p.rm p.rel.sub r).mono λo s y=>by
  obtain⟨I,n,i,D,rfl,rfl,nI,j,a,b⟩:=y;exact q I D (p.hide j nI a i) ⟨aW p.rel.sub,λO=>Q6 _⟩ b)
theorem Pt.next{H:TT}{t:Expr}{D:Nat->OD}{i:Nat}(bz:ItO c.w dr c.os t Z xs I D)(p:Pt c ((I,D i)::H) S)(ed:S.d=dr)(le:HP.le Z p.φ.Z)(hl:i<xs.length){Q:Option A3->A6->Prop}(q:∀v(p':Pt c ((I,D<|i+1)::H) S),p'.φ=p.φ->Rp p.φ.Z xs[i] v->(∀{Q:Unit->A6->Prop},Q () p'.s->WP c.w c.A (M0 t (.ref I) v) Q FF p'.s)->Q (Na v) p'.s):WP c.w c.A (W5<|.ref I) Q E p.s:=by
 subst ed;refine WP.in<|(bz.next c.A p.h p.g p.k i xs[i] p.rm (λb o e=>p.rel.sub b o<|le b o e) (p.rel.hid _<|.head _) (B1 hl)).mono λr C y=>?_;obtain⟨v,n,u,rfl,rfl,B,a,x,own⟩:=y;exact q v ⟨p.φ,n,p.g,u,p.rm,p.gz,p.gg,p.rel.hupd x a⟩ rfl (B.up le) λz=>own.mono λO J j=>j▸z
theorem Pt.stop{H:TT}{D:Nat->OD}(bz:ItO c.w dr c.os ah Z xs I D)(p:Pt c ((I,D xs.length)::H) S)(ed:S.d=dr)(le:HP.le Z p.φ.Z){Q:Option A3->A6->Prop}(q:∀p':Pt c H S,p'.φ=p.φ->Q Nb p'.s):WP c.w c.A (W5<|.ref I) Q E p.s:=by
 subst ed;refine WP.in<|(bz.stop c.A p.h p.g p.k p.rm (λb o e=>p.rel.sub b o<|le b o e)<|p.rel.hid _<|.head _).mono λr n y=>?_;obtain⟨a,i,rfl,rfl,j⟩:=y;exact q ⟨p.φ,a,p.g,i,p.rm,p.gz,p.gg,Rl3.gone p.rel j⟩ rfl
inductive xR(c:C3)(S:Sd)(b:List F9)(T:Sd)(P:Prop)(U:Sd):Prop
 | t (x:gT c S b T) (hp:P):xR c S b T P U
 | brk (S1:Sd) (x:EvX c S b .brk S1) (w:Wks c S1 U):xR c S b T P U
theorem aBc{t:Expr}(R:Nat->Sd)(hf:∀x,K0 e c.env x=pure x)(hd:∀i,(R i).d=S.d)(it:ItE c S e t xs S1)(w:Wks c S1<|R 0)(P:Nat->Prop)(p0:P 0)(step:∀i y,xs[i]?=Na y->P i->∃S2,AsT c (R i) t (.d y) S2/\xR c S2 body (R<|i+1) (P<|i+1) (R xs.length)):EvS c S (.For t e body [] pos) .next<|R xs.length:=
 have J:=λi=>(hd i).trans ((hd 0).symm.trans w.d)
 ⟨λH p=>aIz hf ((it.run H p).mono λv s1 y=>y.mono λo6 s2 z=>by
  obtain⟨I,X,Z,Y,Q,U,E,rfl,rfl⟩:=z;refine⟨FoJ c xs R P p.φ H X Z,xs.length,w.go Y λV M=>⟨0,V,p0,rfl,C8 _,Q.f.tr M,U.trans M.le,rfl⟩,λn s y=>?_⟩;obtain⟨i,q,hp,rfl,O,l,lq,rfl⟩:=y;by_cases b:i<xs.length
  .refine(Pt.nextX E q (J i) lq b λv B j rv=>A2 (step i _ (B1 b) hp) λS2 z=>z.1.go B rv λN A=>?_).mono λr s1 y=>by obtain⟨v,rfl,y⟩:=y;exact y
   cases z.2 with
   | t y hp=>exact y.go N λC o=>⟨_,Nat.sub_lt_sub_left b<|I0 i,i+1,C,hp,rfl,b,l.tr<|(j.tr A).f.tr o,lq.trans<|(j.tr A).le.trans o.le,rfl⟩
   | brk S1 y w=>exact y.go N λC u o r5=>(r5)▸w.go C λa T=>(⟨a.φ,a.h,a.g,a.k,a.rm,a.gz,a.gg,a.rel.goneX⟩:Pt c H<|R xs.length).end (l.tr<|(j.tr A).f.tr<|o.tr T) rfl
  .obtain rfl:i=xs.length:=Nat.le_antisymm O<|AB6 b;exact Pt.stopX E q (J _) lq λB j=>qN<|B.end (l.tr j.f) rfl)⟩
theorem aBd(R:Nat->Sd)(hf:∀x,K0 ah c.env x=pure x)(hd:∀i,(R i).d=S.d)(x:EvE c S ah (.d oc) S1)(it:Itr c.w oc xs e)(w:Wks c S1<|R 0)(P:Nat->Prop)(p0:P 0)(step:∀i y,xs[i]?=Na y->P i->∃S2,AsT c (R i) e (.d y) S2/\xR c S2 body (R<|i+1) (P<|i+1) (R xs.length)):EvS c S (.For e ah body [] pos) .next<|R xs.length:=aBc R hf hd (.dt x it) w P p0 step
theorem rR{t:Expr}{d:Dt}(R:Nat->Sd)(hf:∀x,K0 ah c.env x=pure x)(hd:∀i,(R i).d=S.d)(x:EvE c S ah (.d d) S1)(it:Itr c.w d xs t)(w:Wks c S1<|R 0)(step:∀i y,xs[i]?=Na y->∃S2,AsT c (R i) t (.d y) S2/\gT c S2 body (R<|i+1)):EvS c S (.For t ah body [] pos) .next<|R xs.length:=
 aBd R hf hd x it w (λO=>True) trivial λi y e O=>A2 (step i y e) λS2 z=>⟨S2,z.1,.t z.2 trivial⟩
noncomputable def uF(i:Expr):Bool:=!(T6 i.ctorIdx 7)
theorem tA(h:uF e=Nc):∀x,K0 e env x=pure x:=by
 cases e <;> first | (intro _;rfl) | cases h
abbrev foT:List F9->Expr:=she 0
abbrev foI:List F9->Expr:=she 1
abbrev foB:List F9->List F9:=shb
abbrev FoP(bb:List F9):Type:={p:Pos // bb=.For (foT bb) (foI bb) (foB bb) [] p::bb.tail/\uF (foI bb)=Nc}
def foV:(bb:List F9)->Option (FoP bb):=lH (M:=λbb=>Option<|FoP bb) Nb λs l=>sFW (M:=λs=>Option<|FoP<|s::l) (λO=>Nb) (λO O O O=>Nb) (λt i b o p=>lN (M:=λo=>Option<|FoP<|.For t i b o p::l) (if n:uF i=Nc then Na ⟨p,rfl,n⟩ else Nb) (λO=>Nb) o) (λO O O O=>Nb) (λO O=>Nb) s
theorem uT{α:Type}{o:Option α}(h:o.isSome=Nc):∃x,o=Na x:=U8.mp h
theorem jC{b:List F9}(h:(foV b).isSome=Nc):∃pos,b=.For (foT b) (foI b) (foB b) [] pos::b.tail/\∀x,K0 (foI b) c.env x=pure x:=
 A2 (uT h) λv O=>⟨v.1,v.2.1,tA v.2.2⟩
abbrev TnT(c:C3)(S:Sd)(t:Expr)(v:Sv)(b:List F9)(T:Sd):Prop:=∃S2,AsT c S t v S2/\gT c S2 b T
def aRF(pl:P3 c N)(hs:List Hi)(S:Sd)(t:Expr)(v:Sv)(b:List F9)(T:Sd):Option {r:Sd×List Prop // Al r.2->TnT c S t v b r.1}:=(asF (c:=c) S t v).bind λa=>(qX pl 20 60 a.S' hs b).bind λx=>match x with
 | ⟨.next,S1,_,_,_,ps,_,h⟩=>(fit c T S1).map λm=>⟨(m.1,ps),λq=>⟨_,a.h,.next _ (h q) m.2⟩⟩
 | ⟨.cont,S1,_,_,_,ps,_,h⟩=>(fit c T S1).map λm=>⟨(m.1,ps),λq=>⟨_,a.h,.cont _ (h q) m.2⟩⟩
 | _=>Nb
theorem aEv{t:Sem A3}{s:Sv}(y:EvT c Nc S SvR t s S1)(e:drf S1 s=Na (oc,Nd)):EvT c Nc S SvR t (.d oc) S1:=
 ⟨λH p=>y.go p λa v l1 b=>a.end l1<|(jW e a.rel b).2 rfl⟩
def aBw(pl:P3 c N)(hs:List Hi)(S:Sd)(i:Expr)(T:Sd):Option {r:(Dt×Sd)×List Prop // Al r.2->EvE c S i (.d r.1.1) S/\Wks c S r.1.2}:=((q3 (S:=S) pl 20).1 hs i).bind λx=>(aIa<|drf S x.v).bind λk=>(fit c T S).map λm=>⟨((k.1,m.1),x.ps),λa=>⟨aEv (x.h a) k.2,m.2⟩⟩
structure sF(c:C3)(b:List F9){σ X:Type}(xs:List X)(g:X->Dt)(f:σ->X->σ)(R:σ->Sd)(P:Nat->σ->Prop):Prop where
 of::step:∀i x s,xs[i]?=Na x->P i s->TnT c (R s) (foT b) (.d<|g x) (foB b) (R<|f s x)/\P (i+1) (f s x)
theorem sF.inv{b:List F9}{X:Type}{xs:List X}{g:X->Dt}{f:α->X->α}{R:α->Sd}{P:Nat->α->Prop}(F:sF c b xs g f R P){s0:α}(p0:P 0 s0):∀i,i<=xs.length->P i ((xs.take i).foldl f s0):=by
 intro i;induction i with
 | zero=>exact λO=>p0
 | succ i d=>
  intro a;rw[K9,B1 a,O0];exact(F.step i xs[i] _ (B1 a) (d<|X5 a)).2
theorem qK{xs:List β}{g:β->Dt}{f:α->β->α}{R:α->Sd}{P:Nat->α->Prop}(F:sF c b1 xs g f R P){s0:α}(p0:P 0 s0)(hd:∀s,(R s).d=S.d)(it:Itr c.w oc (xs.map g)<|foT b1)(x:EvE c S (foI b1) (.d oc) S1/\Wks c S1 (R s0))(hf:∀x,K0 (foI b1) c.env x=pure x):EvS c S (.For (foT b1) (foI b1) (foB b1) [] pos) .next<|R<|xs.foldl f s0:=by
 have:=rR (pos:=pos) (λi=>R<|(xs.take i).foldl f s0) hf (λi=>hd _) x.1 it x.2 λi y ey=>by
  rw[B3] at ey;obtain⟨x,a,rfl⟩:=B0.mp ey;rw[K9,a,O0];exact(F.step i x _ a<|F.inv p0 i<|I2 (A4.mp a).1).1
 rwa [A1,I4] at this
section
variable{b:List F9}{σ X:Type}(pl:P3 c N)(hs:List Hi)(xs:List X)(g:X->Dt)(f:σ->X->σ)(R:σ->Sd)(P:Nat->σ->Prop)(s0:σ)(d:Dt)(ps:List Prop)(ok:(foV b).isSome=Nc)(cf:(aBw pl hs S (foI b)<|R s0).map (·.1)=Na ((d,R s0),ps))(cg:Al ps)(hd:∀s,(R s).d=S.d)(it:Itr c.w d (xs.map g)<|foT b)(p0:P 0 s0)
 (step:∀i x s,xs[i]?=Na x->P i s->TnT c (R s) (foT b) (.d<|g x) (foB b) (R<|f s x)/\P (i+1) (f s x))
include ok cf cg hd it p0 step
theorem aAu(done:P xs.length (xs.foldl f s0)->Rt c (R<|xs.foldl f s0) b.tail oc):Rt c S b oc:=by
 have F:sF c b xs g f R P:=⟨step⟩
 obtain⟨pos,e,a⟩:=jC ok;rw[e];exact aAv (qK F p0 hd it (aP cf cg) a) (hd _)<|done (by have:=F.inv p0 xs.length<|C4 _;rwa [I4] at this)
theorem aHF(done:P xs.length (xs.foldl f s0)->EvX c (R<|xs.foldl f s0) b.tail o S2):EvX c S b o S2:=by
 have F:sF c b xs g f R P:=⟨step⟩
 obtain⟨pos,e,a⟩:=jC ok;rw[e];exact bY (qK F p0 hd it (aP cf cg) a)<|done (by have:=F.inv p0 xs.length<|C4 _;rwa [I4] at this)
end
inductive WhJ(c:C3){σ:Type}(R:σ->Sd)(P:σ->Prop)(m:σ->Nat)(G:σ->Prop)(bj:Fr)(H:TT)(n:Nat)(s:A6):Prop
 | mk (x:σ) (p:Pt c H<|R x) (e:n=m x) (px:P x) (g:G x) (l:Lt Nd bj p.φ) (es:s=p.s):WhJ c R P m G bj H n s
theorem xF(R:α->Sd)(P:α->Prop)(m:α->Nat)(b:α->Bool)(f:α->α)(g:α->α)(s0:α)(p0:P s0)(w:Wks c S<|R s0)(f8:∀s,P s->EvB c (R s) ah (b s) (R s))(step:∀s,P s->b s=Nc->lY (gT c (R s) body<|R<|f s) (P<|f s) (m (f s)<m s) (g (f s)=g s))(stop:∀s,P s->b s=Nd->g s=s):EvS c S (.While ah body [] pos) .next<|R<|g s0:=
 ⟨λH p=>w.go p λA l1=>aFQ (WhJ c R P m (λx=>g x=g s0) p.φ H) (m s0) ⟨s0,A,rfl,p0,rfl,l1,rfl⟩ (by
  rintro n s ⟨x,q,rfl,a,d,l,rfl⟩;refine(f8 x a).go q λi u h j=>⟨λe=>?_,λe=>?_⟩
  .obtain⟨tn,B,y,o⟩:=step x a<|j.symm.trans e;exact tn.go i λC r=>⟨_,y,f x,C,rfl,B,o.trans d,l.tr<|h.f.tr r,rfl⟩
  .rw[← d,stop x a<|j.symm.trans e];exact qN<|i.end (l.tr h) rfl)⟩
end
end
variable{iter:Expr}{dt:Dt}
noncomputable def clL(cs:List<|Str×Nat)(L:E3):List<|Str×E3:=cs.map λp=>(p.1,L+p.2)
def ndS(l:List Str):Bool:=List.rec (motive:=λO=>Bool) Nc (λx a r=>!(a.any (x==·))&&r) l
theorem aDv:∀{l:List Str},ndS l=Nc->l.Nodup:=by
 intro l;induction l with
 | nil=>
  intro _;exact .nil
 | cons x l a=>
  intro h;have h:=aB h;refine B6.mpr ⟨λi=>?_,a h.2⟩;have:=List.any_eq_false.mp (J1 _▸h.1) x i;simp at this
noncomputable def knd(f:I8)(x:Str)(k:NameKind):Bool:=f.scope.names.lookup x==Na k
def aC2(W:Params)(f:I8)(a8:List Str)(cs:List<|Str×Nat):Bool:=codeIn (K W) f.code f.qualname&&(ndS a8&&(ndS (cs.map (·.1))&&((a8.all λx=>knd f x .local||(knd f x .cell&&cs.any λp=>p.1==x))&&((cs.all λp=>knd f p.1 .cell)&&(f.closure.isEmpty&&(!f.scope.isCoroutine&&(!f.scope.isGenerator&&(f.scope.kind == .function&&(T6 f.globals 3&&T6 f.builtins 0)))))))))
def dR(f:I8)(a8:List Str)(ds:List Dt):Lo:=((a8.zip ds).filter λp=>knd f p.1 .local).map λp=>(p.1,.d p.2)
noncomputable def dO(a8:List Str)(ds:List Dt)(cs:List<|Str×Nat):List Ow:=cs.map λp=>.cell<|((a8.zip ds).lookup p.1).map .d
noncomputable abbrev c3(w:E9)(A:M2)(f:I8)(L a:E3)(os:U1)(cs:List<|Str×Nat)(G:Array H9->Prop):C3:=⟨w,A.deeper<|N7 f L a,N7 f L a,os,cs.map (·.1),G,[]⟩
theorem lL{β:Type}{l:List<|Str×β}{v:β}(e:l.lookup x=Na v):(x,v)∈l:=by
 induction l with
 | nil=>cases e
 | cons p l a=>
  obtain⟨y,u⟩:=p;rw[List.lookup_cons] at e;by_cases h:x=y
  .rw[beq_iff_eq.mpr h] at e;cases e;subst h;exact .head _
  .rw[beq_eq_false_iff_ne.mpr h] at e;exact .tail _<|a e
theorem uQ{β:Type}{l:List<|Str×β}{v:β}(nd:(l.map (·.1)).Nodup)(i:(x,v)∈l):l.lookup x=Na v:=by
 induction l with
 | nil=>cases i
 | cons p l a=>
  have nd:=B6.mp nd;rw[List.lookup_cons];obtain rfl|i:=A8.mp i
  .rw[beq_self_eq_true]
  .rw[beq_eq_false_iff_ne.mpr (by rintro rfl;exact nd.1<|C1.mpr ⟨_,i,rfl⟩)];exact a nd.2 i
structure aCl(w:E9)(f:I8)(a8:List Str)(cs:List<|Str×Nat):Prop where
 cd:codeIn (K w.params) f.code f.qualname=Nc
 nd:a8.Nodup
 ndc:(cs.map (·.1)).Nodup
 kd:∀x∈a8,(knd f x .local||(knd f x .cell&&cs.any λp=>p.1==x))=Nc
 kc:∀p∈cs,knd f p.1 .cell=Nc
 clo:f.closure=[]
 co:f.scope.isCoroutine=Nd
 gen:f.scope.isGenerator=Nd
 k:f.scope.kind=.function
 g:f.globals=3
 b:f.builtins=0
theorem kJ(ok:aC2 w.params f a8 cs=Nc):aCl w f a8 cs:=
 have⟨j6,ok⟩:=aB ok;have⟨nd,ok⟩:=aB ok;have⟨ndc,ok⟩:=aB ok;have⟨ve,ok⟩:=aB ok;have⟨vf,ok⟩:=aB ok;have⟨o7,ok⟩:=aB ok;have⟨fp,ok⟩:=aB ok;have⟨g8,ok⟩:=aB ok;have⟨hk,ok⟩:=aB ok
 ⟨j6,aDv nd,aDv ndc,J6.mp ve,J6.mp vf,List.isEmpty_iff.mp o7,J1 _▸fp,J1 _▸g8,F6 hk,H7 (aB ok).1,H7 (aB ok).2⟩
theorem aNk(nd:(cs.map (·.1)).Nodup):((clL cs I).map (·.1)).Nodup:=by rw[clL,F7];exact nd
theorem aA2{p:Str×Nat}(nd:(cs.map (·.1)).Nodup)(hp:p∈cs):(clL cs I).lookup p.1=Na (I+p.2):=uQ (aNk nd)<|C1.mpr ⟨p,hp,rfl⟩
theorem aJl(eb:((clL cs I).map (·.2))[B]?=Na M)(eo:(dO a8 ds cs)[B]?=Na o'):∃p∈cs,M=I+p.2/\o'=.cell (((a8.zip ds).lookup p.1).map .d):=by
 rw[dO,B3] at eo;obtain⟨p,a,rfl⟩:=B0.mp eo;rw[clL,F7,B3,a] at eb;cases eb
 exact⟨p,D5 a,rfl,rfl⟩
theorem xJ{a:E3}{G:Array H9->Prop}(ok:aCl w f a8 cs)(s:Sub Z h)(nL:h.get? I=Nb)(r:Rps Z ds vs)(cells:(N7 f I a).cells=clL cs I)(ns:∃m,h'.Ns I m/\∀x v,(x,v)∈a8.zip vs->knd f x .local=Nc->m x=Na v)(keep:aM h h')
  (cell:∀x b,(clL cs I).lookup x=Na b->h'.IsCell b (bindC (N7 f I a).kindOf (a8.zip vs) (λO=>Nb) x)) (vg:((clL cs I).map (·.2)).Nodup) (above:∀p∈cs,I<I+p.2) (fresh:∀p∈cs,h.get? (I+p.2)=Nb):Rl3 (c3 w A f I a os cs G) ⟨Z,(clL cs I).map (·.2)⟩ (gB Z h) ⟨dR f a8 ds,dO a8 ds cs,d⟩ h':=by
 have J:((a8.zip vs).map (·.1)).Nodup:=ok.nd.sublist<|eG _ _;refine⟨by show((clL cs I).map _).length=(dO a8 ds cs).length;rw[dO,clL,A1,A1,A1],λi b o g u=>⟨λO=>?_,λx e=>?_⟩,λi j b x y C M=>(AA3 (A4.mp C.ea).1 vg).mp<|C.ea.trans M.ea.symm,A2 ns λmL ns=>⟨mL,ns.1,λx s e=>?_⟩,λp hp=>?_,λb o e=>keep _ _<|s b o e,λb n=>?_,B6.mpr ⟨sU nL,qZ Z h⟩,λi b e=>e.elim (fun⟨x,e,g⟩=>?_) nofun⟩
 .obtain⟨p,hp,rfl,rfl⟩:=aJl g u;refine⟨A2 (cell p.1 _<|aA2 ok.ndc hp) λo q=>⟨o,q.1,_,q.2,?_⟩,xX s<|fresh p hp,λi=>(A8.mp i).elim (λe=>Nat.ne_of_gt (above p hp) e)<|sU<|fresh p hp⟩;cases ez:(a8.zip ds).lookup p.1 with
  | none=>trivial
  | some N=>exact A2 (aAf r<|lL ez) λv q=>⟨v,aC9 J (by show f.scope.names.lookup p.1≠_;rw[F6<|ok.kc p hp];decide) q.1,q.2⟩
 .obtain⟨p,hp,rfl,rfl⟩:=aJl g u;cases e
 .obtain⟨p,hp,e⟩:=C1.mp<|lL e;cases e
  obtain⟨hp,E⟩:=T7.mp hp;exact A2 (aAf r hp) λv q=>⟨v,ns.2 _ _ q.1 E,q.2⟩
 .obtain⟨_,o,e,q⟩:=eE hp;rw[q];exact⟨o,keep _ _ e,rfl⟩
 .obtain rfl|n:=A8.mp n
  .exact xX s nL
  .obtain⟨p,hp,rfl⟩:=C1.mp n;exact(eE hp).1
 .obtain⟨p,B,e⟩:=B0.mp<|(B3 ..).symm.trans e;rw[cells,← e,aA2 ok.ndc<|D5 B] at g;cases g
  rw[clL,F7,B3,B];rfl
structure aNZ(f:I8)(a:E3)(bs:List<|Str×A3)(cs:List<|Str×Nat)(h:O7)(L:E3)(h1:O7):Prop where
 nL:h.get? L=Nb
 cells:(N7 f L a).cells=clL cs L
 ns:∃m,h1.Ns L m/\∀x v,(x,v)∈bs->knd f x .local=Nc->m x=Na v
 keep:aM h h1
 cell:∀x b,(clL cs L).lookup x=Na b->h1.IsCell b (bindC (N7 f L a).kindOf bs (λO=>Nb) x)
 nd:((clL cs L).map (·.2)).Nodup
 above:∀p∈cs,L<L+p.2
 fresh:∀p∈cs,h.get? (L+p.2)=Nb
theorem aQd(a8:List Str)(cs:List<|Str×Nat)(G0:Gr w h)(room:A.depth<W4)
  (ho:(K w.params).lookup I=Na ⟨.type "function",Nb,.func f,#[]⟩) (bf:f.body=.stmts body) (bg:bindArgs f ⟨vs,[]⟩=pure (a8.zip us)) (d5:∀L,cellsFrom (L+1) f.scope.names []=clL cs L) (ok:aCl w f a8 cs)
  (q:∀L h1 k1,aNZ f I (a8.zip us) cs h L h1->WP w (A.deeper<|N7 f L I) (execs body<|N7 f L I) (λfl s'=>Q (sT fl) s') FF ⟨h1,g,d,k1,os⟩):WP w A (PySem.call (.ref I) vs) Q FF ⟨h,g,d,k,os⟩:=by
 refine⟨wpAny_call (AB5 (codeAny_call_cells (R:=λr s'=>match r with | .ok (.ret v)=>Q v s' | _=>False) room (G0.k _ _ ho) rfl G0.nolimit (codeRec_of G0.k ok.cd) bf bg ok.clo (λp hp=>?_) (λM x=>?_) ok.co ok.gen ok.k) λr s' q=>by
   obtain e|f:=r
   .exact q.elim
   .cases f <;> first | exact q | exact q.elim)⟩
 .have E:=(eG a8 us).subset<|C9 hp;obtain z|z:=Bool.or_eq_true_iff.mp (ok.kd p.1 E)
  .exact .inl (F6 z)
  .obtain⟨y,J,e⟩:=U3.mp (aB z).2;exact .inr ⟨F6 (aB z).1,by rw[d5,← F6 e,aA2 ok.ndc J];rfl⟩
 obtain⟨⟨⟨h1,k1,rfl⟩,B,keep,_⟩,j,b,a⟩:=x;generalize u:h.objs.size=L at B j b a ⊢;have n:(N7 f L I).cells=clL cs L:=d5 L;rw[n] at j b a;have o:=λp hp=>a p.1 _<|C1.mpr ⟨p,hp,rfl⟩;exact B7 (q L h1 _ ⟨u▸aG _,n,⟨_,B,λx v i C=>aA7 (ok.nd.sublist<|eG _ _) (F6 C) i⟩,keep,j,List.pairwise_map.mpr<|b.imp λe=>e,o,λp hp=>AB7 (by rw[u];exact I2<|o p hp)⟩).run (λfl s' y=>by cases fl <;> exact y) λO O e=>e.elim
def aLo(Q:A3->A6->Prop):Result->A6->Prop:=λr s=>match r with
 | .ok (.ret v)=>Q v s
 | _=>False
theorem aF2(a8:List Str)(G0:Gr w h)(room:A.depth<W4)
  (ho:(K w.params).lookup I=Na ⟨.type "function",Nb,.func f,#[]⟩) (bf:f.body=.stmts body) (bg:BindsTo ⟨h,g,d,k,os⟩ f ⟨vs,[]⟩<|a8.zip us) (d5:∀L,cellsFrom (L+1) f.scope.names []=clL [] L) (ok:aCl w f a8 []) (hcell:(f.scope.names.all λx=>x.2 != .cell)=Nc)
  (q:∀L h1 k1,aNZ f I (a8.zip us) [] h L h1->WP w (A.deeper<|N7 f L I) (execs body<|N7 f L I) (λfl s'=>Q (sT fl) s') FF ⟨h1,g,d,k1,os⟩):CD w A (.call (.ref I) ⟨vs,[]⟩) (aLo Q) ⟨h,g,d,k,os⟩:=by
 have j:∀p∈a8.zip us,f.scope.names.lookup p.1=Na .local:=λp hp=>(Bool.or_eq_true_iff.mp<|ok.kd p.1<|(eG a8 us).subset<|C9 hp).elim F6 λz=>nomatch (aB z).2
 have a:∀L,AA1 f L I=N7 f L I:=λL=>by unfold AA1 N7;rw[d5,ok.clo];rfl
 refine⟨codeAny_call_def room (G0.k _ _ ho) rfl G0.nolimit (codeRec_of G0.k ok.cd) bf bg (λx b=>by simpa using J6.mp hcell x b) j (λh1 o keep=>?_) ok.co ok.gen ok.k⟩;have n:((a8.zip us).reverse.map (·.1)).Nodup:=by rw[List.map_reverse];exact(List.reverse_perm _).nodup_iff.mpr<|ok.nd.sublist<|eG _ _
 rw[a];exact B7 (q _ h1 _ ⟨aG _,d5 _,⟨_,o,λx v i O=>uQ n<|List.mem_reverse.mpr i⟩,keep,nofun,.nil,nofun,nofun⟩).run (λfl s' y=>by cases fl <;> exact y) λO O e=>e.elim
theorem CD.wp{f:A3}(x:CD w A (.call f ⟨vs,[]⟩) (aLo Q) s):WP w A (PySem.call f vs) Q FF s:=
 ⟨wpAny_call (AB5 x.run λr a q=>by
   obtain e|f:=r
   .exact q.elim
   .cases f <;> first | exact q | exact q.elim)⟩
theorem aJn(a8:List Str)(cs:List<|Str×Nat){G:Array H9->Prop}(gz:GZ w Z)(s:Sub Z h)(room:A.depth<W4)
  (ho:(K w.params).lookup I=Na ⟨.type "function",Nb,.func f,#[]⟩) (bf:f.body=.stmts body) (bg:bindArgs f ⟨vs,[]⟩=pure (a8.zip vs)) (d5:∀L,cellsFrom (L+1) f.scope.names []=clL cs L) (ok:aCl w f a8 cs) (r:Rps Z ds vs)
  (q:∀L h1 k1,Rl3 (c3 w A f L I os cs G) ⟨Z,(clL cs L).map (·.2)⟩ (gB Z h) ⟨dR f a8 ds,dO a8 ds cs,d⟩ h1->WP w (A.deeper<|N7 f L I) (execs body<|N7 f L I) (λfl s'=>Q (sT fl) s') FF ⟨h1,g,d,k1,os⟩):WP w A (PySem.call (.ref I) vs) Q FF ⟨h,g,d,k,os⟩:=
 aQd a8 cs (gz h s) room ho bf bg d5 ok λL h1 k1 x=>q L h1 k1<|xJ ok s x.nL r x.cells x.ns x.keep x.cell x.nd x.above x.fresh
section
variable{c c':C3}{H:TT}
theorem Rl3.after(s:Sub Z h)(le:HP.le Z φ.Z)(R:Rl3 c φ (gB Z h) S h'):aM h h'/\HP.le φ.Z (dE Z h h'):=by
 have d:aM h h':=λb o e=>by
  cases z:Z b with
  | some a=>
   rw[← H8<|(s b a z).symm.trans e];exact R.sub _ _<|le _ _ z
  | none=>exact A2 (R.hid (b,eqD o)<|oK z e) λa q=>(q.2)▸q.1
 refine⟨d,λb o e=>?_⟩;unfold dE;cases q:h.get? b with
 | none=>exact R.sub _ _ e
 | some g=>
  cases z:Z b with
  | some a=>exact(le _ _ z).symm.trans e
  | none=>exact absurd (R.hz b<|.tail _<|C1.mpr ⟨(b,eqD g),oK z q,rfl⟩) (by rw[e];exact nofun)
theorem Pt.fz(p:Pt c H S){s:Sv}{x:Dt}{o:Bool}(e:drf S s=Na (x,o)){v:A3}(r:SvR p.φ s v){P:Prop}(q:∀S' Z',HP.le p.φ.Z Z'->Rl3 c ⟨Z',p.φ.α⟩ H S' p.h->Rp Z' x v->(∀(j:Nat) o,S.o[j]?=Na o->(∀l,o≠.lst l)->S'.o[j]?=Na o)->P):P:=
 kH e p.rel r (λO w=>q S p.φ.Z (.refl _) p.rel w λO O e O=>e) λn l a O i ev g d=>by
  cases i;subst ev
  exact p.frz g d λZ' le R y=>q _ Z' le R y λj o b u=>by
   rw[M5 (by rintro rfl;exact u l<|H8<|b.symm.trans d)];exact b
theorem Pt.back(p:Pt c (gB Z h) S)(s:Sub Z h)(le:HP.le Z p.φ.Z)(e:drf S s'=Na (oc,b'))(r:SvR p.φ s' ao)(eg:p.g=g)(ed:S.d=d):lX Z h g d c.os oc ao p.s:=
 p.fz e r λb i l R a O=>have z:=R.after s<|le.trans l;⟨p.h,p.g,p.k,by rw[← eg,← ed],z.1,a.up z.2⟩
structure Q3 where
 A:M2
 L:E3
 os:U1
 d:D8
 G:Array H9->Prop
abbrev cX(w:E9)(f:I8)(a:E3)(cs:List<|Str×Nat)(X:Q3):C3:=c3 w X.A f X.L a X.os cs X.G
theorem lI(a8:List Str)(cs:List<|Str×Nat)(S0:Lo×List Ow)(ho:(K w.params).lookup I=Na ⟨.type "function",Nb,.func f,#[]⟩)(bf:f.body=.stmts body)(bg:∀vs,vs.length=ds.length->bindArgs f ⟨vs,[]⟩=pure (a8.zip vs))(d5:∀L,cellsFrom (L+1) f.scope.names []=clL cs L)(ok:aC2 w.params f a8 cs=Nc)(hS:(dR f a8 ds,dO a8 ds cs)=S0)
  (q:∀X:Q3,P3 (cX w f I cs X) n->Rt (cX w f I cs X) ⟨S0.1,S0.2,X.d⟩ body dt):OpV w (n+1) (cal<|.ref I) ds dt:=
 ⟨λA Z h g d k os vs C M s r=>by
  subst hS;refine aJn a8 cs (G:=(·=g)) C s M.room ho bf (bg _ r.len) d5 (kJ ok) r λL E J R=>?_;have B:=(M.deeper (env:=N7 f L I))
  have p:∃p:Pt (c3 w A f L I os cs (·=g)) (gB Z h) ⟨dR f a8 ds,dO a8 ds cs,d⟩,HP.le Z p.φ.Z/\p.s=⟨E,g,d,J,os⟩:=⟨⟨_,E,g,J,B.less<|C8 _,C,rfl,R⟩,.refl _,rfl⟩
  obtain⟨p,y,O⟩:=p;rw[← O];have ok:=kJ ok;cases q ⟨A,L,os,d,(·=g)⟩ ⟨⟨ok.k,ok.g,ok.b⟩,B⟩ with
  | ret Q N o x e i=>exact x.go p λa u l1 j=>A2 j λv z=>by rw[z.1];exact a.back s (y.trans l1.le) e z.2 a.gg i
  | none N x e i=>exact x.go p λa u l1 j=>by rw[show u=.next from j,e];exact a.back s (y.trans l1.le) rfl (.dt .none) a.gg i⟩
theorem Rl3.swap{D:OD}{r:Lo}(R:Rl3 c φ ((c'.env.locals,D)::H) S h)(ns:∃m,h.Ns c'.env.locals m/\NsR φ r m)(eL:h.get? c.env.locals=Na oL)(cl:∀(i:Nat) a,c'.pin i a->φ.α[i]?=Na a):Rl3 c' φ ((c.env.locals,eqD oL)::H) ⟨r,S.o,S.d⟩ h:=by
 have b:(c'.X<|(c.env.locals,eqD oL)::H).Perm<|c.X<|(c'.env.locals,D)::H:=.swap _ _ _;refine⟨R.len,λi a o e g=>⟨λl=>have w:=R.own ⟨e,g,l⟩;⟨w.at_,w.z,λi=>w.n<|b.subset i⟩,(R.ok i a o e g).fz⟩,R.inj,ns,λp hp=>?_,R.sub,λa i=>R.hz a<|b.subset i,b.nodup_iff.mpr R.nd,cl⟩;obtain rfl|hp:=A8.mp hp
 .exact⟨oL,eL,rfl⟩
 .exact R.hid p<|.tail _ hp
end
abbrev qQ(it:A3)(target iter:Expr)(ifs:List Expr)(env:Env)(X:Sem Unit)(code:Code):Sem PySem.Fin:=do
 standAt iter.pos
 match ← W5 it with
 | none=>pure<|.done .next
 | some v=>
  M0 target it v
  assign target env v
  let ok ← oD ifs env
  if ok then X
  again code
noncomputable abbrev apX(bn:Expr)(env:Env)(aw:A3):Sem Unit:=do let _ ← PySem.call (.builtin "list.append") [aw,← eval bn env]
theorem aCA(e0:cj[k]?=Na ⟨target,iter,ifs,0⟩)(e1:cj[k+1]?=Nb):compTurn (.ListComp bn cj scope pos) k ao dflt env=qQ ao target iter ifs env (apX bn env dflt) (.compLoop (.ListComp bn cj scope pos) k ao dflt env):=by
 unfold compTurn;simp only[e0,e1];rfl
theorem aF1{it:A3}{X:Sem Unit}(ht:compTurn (.ListComp bn cj scope pos) k it ao env=qQ it target iter ifs env X (.compLoop (.ListComp bn cj scope pos) k it ao env))(I:Nat->A6->Prop)
  (turn:∀n s,I n s->WP w A (W5 it) (λr aj=>match r with
   | none=>R (.ok .next) aj
   | some v=>WP w A (M0 target it v) (λO ay=>WP w A (assign target env v) (λO bl=>WP w A (oD ifs env) (λok c8=>(ok=Nc->WP w A X (λO kb=>∃m,m<n/\I m kb) FF c8)/\(ok=Nd->∃m,m<n/\I m c8)) FF bl) FF ay) FF aj) FF s)
  (n:Nat) (h:I n s):codeAny (model P w) A (.compLoop (.ListComp bn cj scope pos) k it ao env) R s:=by
 refine codeAny_loop rfl I (λn s i=>?_) n h;show M8 _ A ((compTurn (.ListComp bn cj scope pos) k it ao env).onRaise (λx=>do noteFrame x env;theTreesLotGoes x)) _ _ s;rw[ht];refine wpAny_noted<|A0<|P8<|A0<|B7 (turn n s i).run (λr aj b=>?_) λO O a=>a.elim;cases r with
 | none=>exact A7 b
 | some v=>
  refine A0<|B7 b.run (λO ay e=>A0<|B7 e.run (λO bl g=>A0<|B7 g.run (λok c8 d=>?_) λO O a=>a.elim) λO O a=>a.elim) λO O a=>a.elim;cases ok with
  | false=>exact A7 ⟨rfl,d.2 rfl⟩
  | true=>exact A0<|B7 (d.1 rfl).run (λO kb j=>A7 ⟨rfl,j⟩) λO O a=>a.elim
theorem aC6(e0:cj[k]?=Na ⟨target,iter,ifs,0⟩)(h0:codeAny (model P w) A (.compLoop (.ListComp bn cj scope pos) k ao dflt env) R s)(h:WP w A (Y1 ao) (λr8 s'=>r8=ao/\s'=s) FF s):codeAny (model P w) A (.compStart (.ListComp bn cj scope pos) k ao dflt env) R s:=by
 refine codeAny_of_tree ?_;refine wpAny_notedAt ?_;have e0:(clausesOf<|.ListComp bn cj scope pos)[k]?=Na ⟨target,iter,ifs,0⟩:=e0;unfold compStart;simp only[e0];refine A0<|wpAny_askSetting<|wpAny_ite ?_;split
 .first
   | exact A0<|A7<|A7<|And.intro rfl h0
   | exact A7 (And.intro rfl h0)
 .refine A0<|wpAny_rule ?_;exact A0<|P8<|A0<|B7 h.run (λr8 s' a=>by obtain⟨rfl,rfl⟩:=a;exact A7<|And.intro rfl h0) λO O x=>x.elim
theorem aOz(outs:Nat->List Dt)(h:B<=n):((B8 B).flatMap outs).length<=((B8 n).flatMap outs).length:=by
 induction h with
 | refl=>exact C4 _
 | step _ a=>rw[O3,L9,A5];exact A9 a<|K5 _ _
noncomputable abbrev CR(r:Lo)(o:List Ow)(d:D8)(l:List Dt):Sd:=⟨r,o++[.lst l],d⟩
structure ApT(c:C3)(r:Lo)(o:List Ow)(d:D8)(X:A3->Sem Unit)(outs:List Dt):Prop where
 of::run:∀H l(p:Pt c H<|CR r o d l) v,SvR p.φ (.o o.length) v->l.length+outs.length<=B9->WP c.w c.A (X v) (EvP c Nc p.φ H UnR ()<|CR r o d<|l++outs) FF p.s
inductive CtB(c:C3)(X:A3->Sem Unit)(t:Expr)(ifs:List Expr)(r:Lo)(o:List Ow)(d:D8)(x:Dt)(outs:List Dt):Prop
 | mk (r2:Lo) (b:Bool) (as:∀l,AsT c (CR r o d l) t (.d x)<|CR r2 o d l) (le:∀x s,r.lookup x=Na s->r2.lookup x=Na s) (ts:∀l,EvT c Nc (CR r2 o d l) EqR (oD ifs c.env) b<|CR r2 o d l) (f:b=Nd->outs=[]) (y:b=Nc->ApT c r2 o d X outs):CtB c X t ifs r o d x outs
section
variable{c:C3}{r:Lo}{o:List Ow}{H:TT}
theorem aRk:(CR r o d xs).o[o.length]?=Na (.lst xs):=D9
theorem aGE{x:Dt}(eb:drf (CR r o d xs) s'=Na (x,Nd))(hz:xs.length<=B9):OpS c (CR r o d xs) SvR (cal<|.builtin "list.append") [.o o.length,s'] (.d .none) (CR r o d<|xs++[x]):=by
 have:=yT (c:=c) aRk eb hz
 rwa [show({CR r o d xs with o:=(CR r o d xs).o.set o.length (.lst<|xs++[x])}:Sd)=CR r o d (xs++[x]) from congrArg (Sd.mk r · d) (by rw[Q1 _ _<|C4 _,N8];rfl)] at this
theorem aR6(e:∀l,∃v,EvE c (CR r o d l) bn v (CR r o d l)/\drf (CR r o d l) v=Na (oc,Nd)):ApT c r o d (apX bn c.env) [oc]:=
 ⟨λH l p a ra b=>WP.bind (A2 (e l) λv e=>e.1.go p λh u l1 j=>WP.bind (((aGE e.2<|X5 b).go h (.cons (ra.up l1)<|.cons j .nil) l1).mono λO s y=>by
  obtain⟨i,rfl,g,_⟩:=y;exact⟨A7<|i.end g trivial⟩))⟩
theorem Pt.lessE(p:Pt c H<|CR r2 o d xs)(le:∀x s,r.lookup x=Na s->r2.lookup x=Na s)(e:xs=l'){P:A6->Prop}(q:∀p':Pt c H<|CR r o d l',p'.φ=p.φ->P p'.s):P p.s:=by
 subst e;exact q ⟨p.φ,p.h,p.g,p.k,p.rm,p.gz,p.gg,⟨p.rel.len,p.rel.ok,p.rel.inj,A2 p.rel.ns λm w=>⟨m,w.1,λx s e=>w.2 x s<|le x s e⟩,p.rel.hid,p.rel.sub,p.rel.hz,p.rel.nd,p.rel.cl⟩⟩ rfl
inductive CpJ(c:C3)(xs:List Dt)(r:Lo)(o:List Ow)(d:D8)(l:Nat->List Dt)(bj:Fr)(H:TT)(X:Nat->TT)(n:Nat)(s:A6):Prop
 | mk (i:Nat) (p:Pt c (X i++H)<|CR r o d<|l i) (e:n=xs.length-i) (le:i<=xs.length) (lt:Lt Nc bj p.φ) (es:s=p.s):CpJ c xs r o d l bj H X n s
theorem aHW{X:A3->Sem Unit}(ht:∀it aw,compTurn (.ListComp bn cj scope pos) k it aw c.env=qQ it ah iter ifs c.env (X aw) (.compLoop (.ListComp bn cj scope pos) k it aw c.env)){outs:Nat->List Dt}(turn:∀i x,xs[i]?=Na x->CtB c X ah ifs r o d x (outs i))(bz:ItX c.w d c.os ah Z xs I XX)(p:Pt c (XX 0++H)<|CR r o d dd)(le:HP.le Z p.φ.Z){v:A3}(rv:SvR p.φ (.o o.length) v)(hz:dd.length+((B8 xs.length).flatMap outs).length<=B9):
  codeAny (model P c.w) c.A (.compLoop (.ListComp bn cj scope pos) k (.ref I) v c.env) (λq s=>(∃f,q=.ok f)/\EvP c Nc p.φ H UnR () (CR r o d<|dd++(B8 xs.length).flatMap outs) () s) p.s:=by
 refine aF1 (ht _ _) (CpJ c xs r o d (λi=>dd++(B8 i).flatMap outs) p.φ H XX) (λn s y=>?_) xs.length<|p.lessE (λO O e=>e) (D0 dd).symm λp' T=>⟨0,p',rfl,C8 _,T▸.refl,rfl⟩;obtain⟨i,q,rfl,Y,h,rfl⟩:=y;by_cases g:i<xs.length
 .refine(Pt.nextX bz q rfl (le.trans h.le) g λu M B ru=>?_).mono λr s1 y=>by obtain⟨v,rfl,y⟩:=y;exact y
  cases turn i _ (B1 g) with
  | mk r2 b as J ts f y=>
   refine(as _).go M ru λp4 l4=>(ts _).go p4 λQ bv l5 R=>?_;have C:=h.tr<|(B.tr l4).tr l5;have N:∀(a:Pt c (XX (i+1)++H)<|CR r2 o d<|dd++(B8 i).flatMap outs++outs i),Lt Nc p.φ a.φ->∃m,m<xs.length-i/\CpJ c xs r o d (λi=>dd++(B8 i).flatMap outs) p.φ H XX m a.s:=λa E=>
    ⟨_,Nat.sub_lt_sub_left g<|I0 i,a.lessE J (by rw[O3,L9,E1,O9,D0,B5]) λp7 V=>⟨i+1,p7,rfl,g,V▸E,rfl⟩⟩
   refine⟨λj=>((y<|R.symm.trans j).run _ _ Q v (rv.up C) ?_).mono λO s z=>by obtain⟨a,rfl,E,_⟩:=z;exact N a<|C.tr E,λj=>?_⟩
   .have S:=aOz outs g;rw[O3,L9,E1,O9,D0,A5] at S;rw[A5,Y8];exact A9 (V7 S _) hz
   .exact Q.lessE (P:=λs=>∃m,m<xs.length-i/\CpJ c xs r o d (λi=>dd++(B8 i).flatMap outs) p.φ H XX m s) (λO O e=>e) (by rw[f<|R.symm.trans j,D0]) λa U=>N a (U▸C)
 .obtain rfl:i=xs.length:=Nat.le_antisymm Y<|AB6 g;exact Pt.stopX bz q rfl (le.trans h.le) λM B=>⟨⟨_,rfl⟩,M.end (h.tr B) trivial⟩
end
noncomputable abbrev cLc(c:C3)(scope:Scope)(cl:List<|Str×E3)(C:E3):C3:={c with env:=compEnvC scope cl C c.env}
inductive CpE(c:C3)(bj:Fr)(H:TT)(S:Sd)(cq:List Dt)(v:A3)(C:E3)(s:A6):Prop
 | mk (oC:Obj) (p:Pt c ((C,eqD oC)::H) {S with o:=S.o++[.lst cq]}) (l:Lt Nc bj p.φ) (rv:SvR p.φ (.o S.o.length) v) (ns:∃m,p.h.Ns C m) (es:s=p.s):CpE c bj H S cq v C s
section
variable{c:C3}{H:TT}{C:E3}
theorem CpE.of{r:Lo}{v:A3}(hcl:∀x a,cl.lookup x=Na a->c.env.cells.lookup x=Na a)(q:Pt (cLc c scope cl C) ((c.env.locals,eqD oL)::H)<|CR r S.o S.d cq)(l:Lt Nc bj q.φ)(rv:SvR q.φ (.o S.o.length) v)(ns:∃m,q.h.Ns c.env.locals m/\NsR q.φ S.r m)(hc:∀(i:Nat) a,c.pin i a->q.φ.α[i]?=Na a):CpE c bj H S cq v C q.s:=
 A2 q.rel.ns λm w=>by
  obtain⟨⟨o,n,b,e,j⟩,_⟩:=w;exact⟨o,⟨q.φ,q.h,q.g,q.k,q.rm,q.gz,q.gg,q.rel.swap ns e hc⟩,l,rv,⟨_,o,n,b,e,j⟩,rfl⟩
theorem aGN{r:Lo}(ns:∃m,h.Ns I m/\NsR φ r m)(e:h.get? I=Na oL)(l:Lt Nc φ ψ)(e':At h' I<|eqD oL):∃m,h'.Ns I m/\NsR ψ r m:=
 A2 ns λm w=>A2 e' λo q=>⟨m,by
  obtain⟨⟨i,a,b,g,d⟩,_⟩:=w;cases e.symm.trans g
  exact⟨oL,a,b,(q.2)▸q.1,d⟩,w.2.up l⟩
theorem aN9(hcl:∀x a,cl.lookup x=Na a->c.env.cells.lookup x=Na a){oC:Obj}(p:Pt c ((C,eqD oC)::(T++H)) {S with o:=S.o++[.lst []]})(l:Lt Nc bj p.φ){v:A3}(rv:SvR p.φ (.o S.o.length) v)(o9:∃m,p.h.Ns C m){P:A6->Prop}
  (q:∀oL(p5:Pt (cLc c scope cl C) (T++(c.env.locals,eqD oL)::H)<|CR [] S.o S.d []),Lt Nc bj p5.φ->SvR p5.φ (.o S.o.length) v->(∀r cq(q:Pt (cLc c scope cl C) ((c.env.locals,eqD oL)::H)<|CR r S.o S.d cq),Lt Nc p5.φ q.φ->CpE c bj H S cq v C q.s)->P p5.s):P p.s:=
 A2 p.rel.ns λm w=>by
  obtain⟨oL,y,n,j,u⟩:=id w.1;exact q oL ⟨p.φ,p.h,p.g,p.k,p.rm,p.gz,p.gg,(p.rel.swap (c':=cLc c scope cl C) (r:=[]) (A2 o9 λm w=>⟨m,w,nofun⟩) j λi a e=>p.rel.cl i a<|e.imp (fun⟨x,e,f⟩=>⟨x,e,hcl x a f⟩) id).permH Q7.symm⟩ l rv λr cq q b=>.of hcl q (l.tr b) (rv.up b) (aGN ⟨m,w⟩ j b<|q.rel.hid _<|.head _) λi a e=>b.get<|p.rel.cl i a e
theorem Pt.enter(p:Pt c (T++H) S)(hcl:∀x I,cl.lookup x=Na I->c.env.cells.lookup x=Na I)(k2:aM p.h h')(na:p.h.get? I=Nb)(aD:At h' I<|aY [])(k4:aM h' h4)(nC:h'.get? C=Nb)(o9:h4.Ns C m){P:A6->Prop}
  (q:∀oL(p5:Pt (cLc c scope cl C) (T++(c.env.locals,eqD oL)::H)<|CR [] S.o S.d []),Lt Nc p.φ p5.φ->SvR p5.φ (.o S.o.length) (.ref I)->(∀r cq(q:Pt (cLc c scope cl C) ((c.env.locals,eqD oL)::H)<|CR r S.o S.d cq),Lt Nc p5.φ q.φ->CpE c p.φ H S cq (.ref I) C q.s)->P p5.s):P ⟨h4,p.g,S.d,p.k,c.os⟩:=by
 obtain⟨a,e,b,eC,i⟩:=o9;exact aN9 hcl ((p.list k2 na aD .nil).hide k4 nC ⟨a,eC,rfl⟩ p.k) ⟨(aW p.rel.sub).trans<|aW (p.list k2 na aD .nil).rel.sub,λO=>M3 _ _⟩ ⟨_,by rw[← p.rel.len];exact D9,rfl⟩ ⟨_,a,e,b,eC,i⟩ q
theorem aHX{t:Expr}{X:E3->A3->Sem Unit}{outs:Nat->List Dt}(hcell:∀x∈scope.names,x.2≠.cell)(hk:scope.kind=.function)(hcl:∀x a,cl.lookup x=Na a->c.env.cells.lookup x=Na a)(ht:∀C it aw,compTurn (.ListComp bn (⟨t,iter,ifs,0⟩::gs) scope pos) 0 it aw (cLc c scope cl C).env=qQ it t iter ifs (cLc c scope cl C).env (X C aw) (.compLoop (.ListComp bn (⟨t,iter,ifs,0⟩::gs) scope pos) 0 it aw (cLc c scope cl C).env))
  (turn:∀C i x,xs[i]?=Na x->CtB (cLc c scope cl C) (X C) t ifs [] S.o S.d x (outs i)) (bz:ItX c.w S.d c.os t Z xs I XX) (p:Pt c (XX 0++H) S) (le:HP.le Z p.φ.Z) (hz:((B8 xs.length).flatMap outs).length<=B9) {RR:A3->E3->Result->A6->Prop} (bh:∀v C f s,CpE c p.φ H S ((B8 xs.length).flatMap outs) v C s->RR v C (.ok f) s) :
  M8 (model P c.w) c.A (newList []) (λaw bl=>M8 (model P c.w) c.A (newFunctionEnv scope c.env.globals cl [] c.env.qual Nb .none (Na c.env)) (λke c8=>
   codeAny (model P c.w) c.A (.compStart (.ListComp bn (⟨t,iter,ifs,0⟩::gs) scope pos) 0 (.ref I) aw {ke with scope:=relabel scope c.env}) (RR aw ke.locals) c8) FF bl) FF p.s:=by
 refine V6 (wpAny_newFunctionEnv hcell (by intro y u;simp at u) (λQ O J=>?_) hk);have n:=aG<|p.h.push {cls:=.type "list",dict:=Nb,data:=.seq ([]:List A3).toArray};exact p.enter hcl (aJ _ _) (aG _) ⟨_,C7 _ rfl,0,rfl⟩ (λb o e=>J.extBut b o (by rintro rfl;rw[n] at e;cases e)<|I7 _ e) n O λR j B N back=>
  AB5 (aC6 rfl (aHW (ht _) (turn _) bz j (le.trans B.le) N<|V4 _▸hz)<|bz.self c.A j.h j.g j.k 0 λx r=>j.rel.hid x<|E0 _ r) λq s y=>by
   obtain⟨⟨f,rfl⟩,M,rfl,E,_⟩:=y;exact bh _ _ f _<|back _ _ M E
end
section
variable{c:C3}{H:TT}
noncomputable def Pt.letGo{C:E3}{D:OD}(p:Pt c ((C,D)::H) S){h':O7}(sb:P5 C p.h h'):Pt c H S:=⟨p.φ,h',p.g,p.k,p.rm,p.gz,p.gg,Rl3.gone p.rel<|.same sb⟩
variable{t:Expr}{X:E3->A3->Sem Unit}{outs:Nat->List Dt}
theorem aGM(ns:∃m,h.Ns I m)(e:At h I<|eqD oL)(e':At h' I<|eqD oL):∃m,h'.Ns I m:=
 A2 ns λm w=>A2 e λo q=>A2 e' λp g=>⟨m,by
  obtain⟨n,a,b,j,d⟩:=w;have i:=(g.2).trans<|(q.2).symm.trans<|H8<|q.1.symm.trans j;exact⟨n,a,b,i▸g.1,d⟩⟩
structure LcP(c:C3)(S:Sd)(bn t iter:Expr)(ifs:List Expr)(gs:List Comprehension)(scope:Scope)(pos:Pos)(cl:List<|Str×E3)(dt:Dt)(xs:List Dt)(outs:Nat->List Dt)(X:E3->A3->Sem Unit)(cq:List Dt):Prop where
 hc:closureFor scope c.env=pure cl
 hcell:∀x∈scope.names,x.2≠.cell
 hk:scope.kind=.function
 hn:∀x∈scope.names,x.2=.local->scope.names.lookup x.1=Na .local
 hcl:∀x a,cl.lookup x=Na a->c.env.cells.lookup x=Na a
 hf:∀x,K0 iter c.env x=pure x
 ht:∀C it aw,compTurn (.ListComp bn (⟨t,iter,ifs,0⟩::gs) scope pos) 0 it aw (cLc c scope cl C).env=qQ it t iter ifs (cLc c scope cl C).env (X C aw) (.compLoop (.ListComp bn (⟨t,iter,ifs,0⟩::gs) scope pos) 0 it aw (cLc c scope cl C).env)
 turn:∀C i x,xs[i]?=Na x->CtB (cLc c scope cl C) (X C) t ifs [] S.o S.d x (outs i)
 x:EvE c S iter (.d dt) S
 it:Itr c.w dt xs t
 e:(B8 xs.length).flatMap outs=cq
 hz:cq.length<=B9
theorem CpE.tr{v:A3}(l:Lt Nc bj φ)(y:CpE c φ H S cq v I s):CpE c bj H S cq v I s:=by
 obtain⟨e,g,b,h,d,a⟩:=y;exact⟨e,g,l.tr b,h,d,a⟩
theorem aDR(hc:closureFor scope c.env=pure cl)(hcell:∀x∈scope.names,x.2≠.cell)(hk:scope.kind=.function)(hn:∀x∈scope.names,x.2=.local->scope.names.lookup x.1=Na .local)(hcl:∀x a,cl.lookup x=Na a->c.env.cells.lookup x=Na a)(hf:∀x,K0 iter c.env x=pure x)
  (ht:∀C it aw,compTurn (.ListComp bn (⟨t,iter,ifs,0⟩::gs) scope pos) 0 it aw (cLc c scope cl C).env=qQ it t iter ifs (cLc c scope cl C).env (X C aw) (.compLoop (.ListComp bn (⟨t,iter,ifs,0⟩::gs) scope pos) 0 it aw (cLc c scope cl C).env)) (turn:∀C i x,xs[i]?=Na x->CtB (cLc c scope cl C) (X C) t ifs [] S.o S.d x (outs i)) (e:(B8 xs.length).flatMap outs=cq) (hz:cq.length<=B9)
  (hx:WP c.w c.A (eval iter c.env) (λv s1=>WP c.w c.A (Y1 v) (ItP c T S t xs bj) FF s1) FF s) (bh:∀v C f s,CpE c bj T S cq v C s->compPost (model P c.w) c.A FF ll Q v C (.ok f) s):WP c.w c.A (comprehension (.ListComp bn (⟨t,iter,ifs,0⟩::gs) scope pos) scope c.env d9 (newList []) Nd (eval iter c.env) ll) Q FF s:=
 ⟨wpAny_comprehension_free rfl hf hc hk hn (hx.mono λv s1 y=>(y.mono λp q z=>by
  obtain⟨I,n,Z,j,g,h,b,rfl,rfl⟩:=z;exact aHX hcell hk hcl ht turn b j h (e▸hz) λv C f s y=>bh v C f s<|e▸y.tr g).run).run⟩
theorem LcP.go(q:LcP c S bn t iter ifs gs scope pos cl dt xs outs X cq)(p:Pt c H S)(bh:∀v C f s,CpE c p.φ H S cq v C s->compPost (model P c.w) c.A FF ll Q v C (.ok f) s):WP c.w c.A (comprehension (.ListComp bn (⟨t,iter,ifs,0⟩::gs) scope pos) scope c.env d9 (newList []) Nd (eval iter c.env) ll) Q FF p.s:=
 aDR q.hc q.hcell q.hk q.hn q.hcl q.hf q.ht q.turn q.e q.hz ((ItE.dt q.x q.it).run H p) bh
theorem aN2(q:LcP c S bn t iter ifs gs scope pos cl dt xs outs X cq):EvE c S (.ListComp bn (⟨t,iter,ifs,0⟩::gs) scope pos) (.o S.o.length) {S with o:=S.o++[.lst cq]}:=
 ⟨λH p=>by
  refine q.go p λv C f s y=>?_;obtain⟨h,d,b,e,a,rfl⟩:=y;exact A2 a λm a=>⟨m,a,λg sb=>(d.letGo sb).end b e⟩⟩
theorem aN5(kh:swapsWith (.ListComp bn (⟨t,iter,ifs,0⟩::gs) scope pos) (Na<|.Name x px) d9.line c.env=pure Nc)(st:StN c {S with o:=S.o++[.lst cq]} x (.o S.o.length) S2)(q:LcP c S bn t iter ifs gs scope pos cl dt xs outs X cq):EvS c S (.Assign [.Name x px] (.ListComp bn (⟨t,iter,ifs,0⟩::gs) scope pos) d9) .next S2:=
 ⟨λH p=>⟨by
  rw[exec_Assign_Name_used _ _ _ _ kh];refine A0<|P8<|A0 ?_;refine A0<|B7 (q.go p λv C f s y=>?_).run (λO w d=>A7<|A7 d) λO O e=>e;obtain⟨u,a,g,n,j,rfl⟩:=y;exact WP.run<|(tP st).go a n λb h=>A2 (aGM j (a.rel.hid _<|.head _)<|b.rel.hid _<|.head _) λm i=>⟨m,i,λr sb=>(b.letGo sb).end (g.tr h).f rfl⟩⟩⟩
end
def lcD:Expr->Expr×Comprehension×Scope:=eLY (M:=λO=>Expr×Comprehension×Scope) (λO=>(default,⟨default,default,[],0⟩,default)) (λe a s O=>(e,a.headD ⟨default,default,[],0⟩,s)) λO O=>(default,⟨default,default,[],0⟩,default)
abbrev lcE(e:Expr):Expr:=(lcD e).1
abbrev lcT(e:Expr):Expr:=(lcD e).2.1.target
abbrev lcI(e:Expr):Expr:=(lcD e).2.1.iter
abbrev lcF(e:Expr):List Expr:=(lcD e).2.1.ifs
abbrev lcS(e:Expr):Scope:=(lcD e).2.2
abbrev lcQ(scope:Scope)(i:Expr):Bool:=(scope.names.all λx=>x.2 != .cell)&&((scope.kind == .function)&&((scope.names.all λx=>x.2 != .local||scope.names.lookup x.1==Na .local)&&uF i))
abbrev LcV(e:Expr):Type:={p:Pos // e=.ListComp (lcE e) [⟨lcT e,lcI e,lcF e,0⟩] (lcS e) p/\lcQ (lcS e) (lcI e)=Nc}
def lcG(bn:Expr)(scope:Scope)(pos:Pos)(g:Comprehension):Option<|LcV<|.ListComp bn [g] scope pos:=match g with
 | ⟨t,i,ifs,0⟩=>if h:lcQ scope i=Nc then Na ⟨pos,rfl,h⟩ else Nb
 | _=>Nb
def lcV:(e:Expr)->Option (LcV e):=eLY (M:=λe=>Option<|LcV e) (λO=>Nb) (λd b a pos=>l1 (M:=λb=>Option<|LcV<|.ListComp d b a pos) (λO=>Nb) (lcG d a pos) b) λO O=>Nb
noncomputable def clN(env:Env)(xs:List Str):List<|Str×E3:=xs.filterMap λx=>(env.cells.lookup x).map (x,·)
theorem aEV{xs:List Str}(e:(clN env xs).lookup x=Na I):env.cells.lookup x=Na I:=by
 obtain⟨y,_,q⟩:=Q8.mp<|lL e;obtain⟨b,a,q⟩:=B0.mp q;cases q;exact a
structure aRg(c:C3)(e:Expr)(pos:Pos):Prop where
 eq:e=.ListComp (lcE e) [⟨lcT e,lcI e,lcF e,0⟩] (lcS e) pos
 hcell:∀x∈(lcS e).names,x.2≠.cell
 hk:(lcS e).kind=.function
 hn:∀x∈(lcS e).names,x.2=.local->(lcS e).names.lookup x.1=Na .local
 hf:∀x,K0 (lcI e) c.env x=pure x
theorem aDQ{c:C3}(h:(lcV e).isSome=Nc):∃pos,aRg c e pos:=by
 obtain⟨v,ev⟩:=U8.mp h;have h:=aB v.2.2;have b:=aB h.2;have d:=aB b.2;exact⟨v.1,v.2.1,λx a=>by simpa using J6.mp h.1 x a,F6 b.1,λx a e=>by simpa[e] using J6.mp d.1 x a,tA d.2⟩
section
variable{c:C3}
def pTs(pl:P3 c N)(S:Sd)(hs:List Hi)(ifs:List Expr):Option<|Pr Bool λb=>EvT c Nc S EqR (oD ifs c.env) b S:=match ifs with
 | []=>Na ⟨Nc,hs,[],λO=>⟨λH p=>⟨wpAny_tests_nil<|p.here rfl⟩⟩⟩
 | [e]=>((q3 (S:=S) pl 20).2 hs e).map λx=>⟨x.v,x.hs,x.ps,λa=>⟨λH p=>⟨wpAny_tests_one ((x.h a).run H p).run⟩⟩⟩
 | _=>Nb
structure aRj(c:C3)(r:Lo)(o:List Ow)(d:D8)(t:Expr)(x:Dt)(ifs:List Expr)(bn:Expr)(l:List Dt)(S2:Sd)(b:Bool)(y:Dt):Prop where
 as:AsT c (CR r o d l) t (.d x) S2
 le:∀x s,r.lookup x=Na s->S2.r.lookup x=Na s
 ts:EvT c Nc S2 EqR (oD ifs c.env) b S2
 e:b=Nc->∃v,EvE c S2 bn v S2/\drf S2 v=Na (y,Nd)
def fC(pl:P3 c N)(hs:List Hi)(r:Lo)(o:List Ow)(d:D8)(t:Expr)(x:Dt)(ifs:List Expr)(bn:Expr)(l:List Dt):Option {q:(Sd×Bool×Dt)×List Prop // Al q.2->aRj c r o d t x ifs bn l q.1.1 q.1.2.1 q.1.2.2}:=
 (asF (c:=c) (CR r o d l) t<|.d x).bind λa=>chk (r.all λp=>!inB a.ns p.1) λle=>(pTs pl a.S' hs ifs).bind λb=>((q3 (S:=a.S') pl 20).1 b.hs bn).bind λv=>(exO<|drf a.S' v.v).bind λm=>if hm:m.1.2=Nd then Na ⟨((a.S',b.v,m.1.1),b.ps++grd b.v Nc v.ps),λq=>⟨a.h,λx s e=>(a.ch.r x λi=>by have:=J6.mp le _<|lL e;rw[qI.mpr i] at this;cases this).trans e,b.h q.app.1,λg=>⟨v.v,v.h<|lO q.app.2 g,m.2.trans<|congrArg Na<|Prod.ext rfl hm⟩⟩⟩ else Nb
theorem aEi{t:α->Bool}{v:α->Dt}{xs:List α}(n:Nat):((B8 n).flatMap λi=>((xs[i]?).toList.filter t).map v)=((xs.take n).filter t).map v:=by
 induction n with
 | zero=>rfl
 | succ n a=>rw[O3,L9,a,K9,Z5,B4,E1,O9,D0]
def aCS(pl:P3 c N)(hs:List Hi)(S:Sd)(i:Expr):Option {r:Dt×List Prop // Al r.2->EvE c S i (.d r.1) S}:=((q3 (S:=S) pl 20).1 hs i).bind λx=>(aIa<|drf S x.v).map λk=>⟨(k.1,x.ps),λa=>aEv (x.h a) k.2⟩
section
variable{X:Type}(pl:P3 c N)(a8:List Str)(hs:List Hi)(xs:List X)(g:X->Dt)(t:X->Bool)(v:X->Dt)(d:Dt)(qs:List Prop)
noncomputable def aFz(c:C3)(N:Nat)(S:Sd)(e:Expr)(a8:List Str)(g:X->Dt)(t:X->Bool)(v:X->Dt)(x:X):Prop:=∀C,P3 (cLc c (lcS e) (clN c.env a8) C) N->∃r2:Lo,∀l,aRj (cLc c (lcS e) (clN c.env a8) C) [] S.o S.d (lcT e) (g x) (lcF e) (lcE e) l (CR r2 S.o S.d l) (t x) (v x)
structure LcT(c:C3)(N:Nat)(S:Sd)(e:Expr)(a8:List Str)(g:X->Dt)(t:X->Bool)(v:X->Dt)(x:X):Prop where
 of::step:aFz c N S e a8 g t v x
include pl
theorem aPg(ok:aRg c e pos)(hc:closureFor (lcS e) c.env=pure (clN c.env a8))(x:EvE c S (lcI e) (.d d) S)(it:Itr c.w d (xs.map g)<|lcT e)(hz:xs.length<=B9)(step:∀x∈xs,LcT c N S e a8 g t v x):LcP c S (lcE e) (lcT e) (lcI e) (lcF e) [] (lcS e) pos (clN c.env a8) d (xs.map g) (λi=>((xs[i]?).toList.filter t).map v) (λC=>apX (lcE e) (cLc c (lcS e) (clN c.env a8) C).env) ((xs.filter t).map v):=
 ⟨hc,ok.hcell,ok.hk,ok.hn,λO O=>aEV,ok.hf,λC it n=>aCA rfl rfl,λC i x h=>by
  rw[B3] at h;obtain⟨y,ey,rfl⟩:=B0.mp h;obtain⟨j,q⟩:=(step y<|D5 ey).step C ⟨⟨ok.hk,pl.g,pl.b⟩,pl.rm⟩;refine⟨j,t y,λl=>(q l).as,(q []).le,λl=>(q l).ts,λa=>?_,λa=>?_⟩
  .rw[ey];simp[a]
  .rw[ey,show((Na y).toList.filter t).map v=[v y] by simp[a]];exact aR6 λl=>(q l).e a,x,it,by rw[A1,aEi,I4],by rw[A1];exact A9 (H6 _ _) hz⟩
theorem nF(ok:(lcV e).isSome=Nc)(hc:closureFor (lcS e) c.env=pure (clN c.env a8))(h:(aCS pl hs S<|lcI e).map (·.1)=Na (d,qs))(a:Al qs)(it:Itr c.w d (xs.map g)<|lcT e)(hz:xs.length<=B9)(step:∀x∈xs,LcT c N S e a8 g t v x):EvE c S e (.o S.o.length) {S with o:=S.o++[.lst<|(xs.filter t).map v]}:=
 A2 (aDQ ok) λpos ok=>(congrArg (λz=>EvE c S z (.o S.o.length) {S with o:=S.o++[.lst<|(xs.filter t).map v]}) ok.eq).mpr<|aN2 (aPg pl a8 xs g t v d ok hc (aP h a) it hz step)
end
end
section
variable{c:C3}{T:Sd}{b:List F9}{d:Dt}
theorem fits(h:(fit c T S).map (·.1)=Na T):Wks c S T:=aP h
theorem tnx(h:(asF (c:=c) S e s').map (·.S')=Na S2)(x:EvX c S2 b .next S3)(w:Wks c S3 T):TnT c S e s' b T:=by
 obtain⟨a,_,rfl⟩:=B0.mp h;exact⟨_,a.h,.next _ x w⟩
section
variable(pl:P3 c N)(hs:List Hi)(xs:List Dt)(R:Nat->Sd)(dt:Dt)(ps:List Prop)(ok:(foV b).isSome=Nc)(cf:(aBw pl hs S (foI b)<|R 0).map (·.1)=Na ((dt,R 0),ps))(cg:Al ps)(hd:∀i,(R i).d=S.d)(it:Itr c.w dt xs<|foT b)(step:∀i y,xs[i]?=Na y->TnT c (R i) (foT b) (.d y) (foB b) (R<|i+1))
include ok cf cg hd it step
theorem aLd(done:Rt c (R xs.length) b.tail d):Rt c S b d:=
 A2 (jC ok) λpos e=>(congrArg (Rt c S · d) e.1).mpr<|aAv (rR R e.2 hd (aP cf cg).1 it (aP cf cg).2 step) (hd _) done
theorem aMW(done:EvX c (R xs.length) b.tail o S2):EvX c S b o S2:=
 A2 (jC ok) λpos e=>(congrArg (EvX c S · o S2) e.1).mpr<|bY (rR R e.2 hd (aP cf cg).1 it (aP cf cg).2 step) done
end
section
variable(pl:P3 c N)(hs:List Hi)(R:Nat->Sd)(ps:List Prop)(ok:(foV b).isSome=Nc)(tn:Ex2 λx p=>foT b=.Name x p)(cf:(aBw pl hs S (foI b)<|R 0).map (·.1)=Na ((.rng lo hi,R 0),ps))(cg:Al ps)(h0:0<=lo)(h1:lo<=hi)(h2:hi<=1000000)(hd:∀i,(R i).d=S.d)(step:∀i:Nat,i<(hi-lo).toNat->TnT c (R i) (foT b) (.d<|.int<|lo+(i:Nat)) (foB b) (R<|i+1))
include ok tn cf cg h0 h1 h2 hd step
theorem uA{P:Prop}(q:∀xs:List Dt,xs.length=(hi-lo).toNat->Itr c.w (.rng lo hi) xs (foT b)->(∀i y,xs[i]?=Na y->TnT c (R i) (foT b) (.d y) (foB b) (R<|i+1))->P):P:=
 q ((B8 (hi-lo).toNat).map λk=>.int<|lo+(k:Nat)) (by rw[A1,E8]) (by obtain⟨x,p,e⟩:=tn;rw[e];exact qH h0 h1 h2) λi y ey=>by
  rw[B3] at ey;obtain⟨k,g,rfl⟩:=B0.mp ey;obtain⟨hk,a⟩:=A4.mp g;rw[List.getElem_range] at a;rw[E8] at hk;exact a▸step i hk
theorem aLc(done:Rt c (R (hi-lo).toNat) b.tail d):Rt c S b d:=uA pl hs R ps ok tn cf cg h0 h1 h2 hd step λe n a st=>aLd pl hs e R _ ps ok cf cg hd a st<|n▸done
theorem oX(done:EvX c (R (hi-lo).toNat) b.tail o S2):EvX c S b o S2:=uA pl hs R ps ok tn cf cg h0 h1 h2 hd step λe n a st=>aMW pl hs e R _ ps ok cf cg hd a st<|n▸done
end
abbrev whT:List F9->Expr:=she 0
abbrev whB:List F9->List F9:=shb
abbrev WhP(bb:List F9):Type:={p:Pos // bb=.While (whT bb) (whB bb) [] p::bb.tail}
def whV:(bb:List F9)->Option (WhP bb):=lH (M:=λbb=>Option<|WhP bb) Nb λs l=>sFW (M:=λs=>Option<|WhP<|s::l) (λO=>Nb) (λO O O O=>Nb) (λO O O O O=>Nb) (λt b o p=>lN (M:=λo=>Option<|WhP<|.While t b o p::l) (Na ⟨p,rfl⟩) (λO=>Nb) o) (λO O=>Nb) s
theorem aIC(h:(whV b).isSome=Nc):∃pos,b=.While (whT b) (whB b) [] pos::b.tail:=A2 (uT h) λv O=>⟨v.1,v.2⟩
def aRI(pl:P3 c N)(hs:List Hi)(S:Sd)(e:Expr):Option {r:Bool×List Prop // Al r.2->EvB c S e r.1 S}:=((q3 (S:=S) pl 20).2 hs e).map λx=>⟨(x.v,x.ps),x.h⟩
def aRE(pl:P3 c N)(hs:List Hi)(S:Sd)(b:List F9)(T:Sd):Option {r:Sd×List Prop // Al r.2->gT c S b r.1}:=(qX pl 20 60 S hs b).bind λx=>match x with
 | ⟨.next,S1,_,_,_,ps,_,h⟩=>(fit c T S1).map λm=>⟨(m.1,ps),λq=>.next _ (h q) m.2⟩
 | ⟨.cont,S1,_,_,_,ps,_,h⟩=>(fit c T S1).map λm=>⟨(m.1,ps),λq=>.cont _ (h q) m.2⟩
 | _=>Nb
section
variable{σ:Type}(R:σ->Sd)(P:σ->Prop)(m:σ->Nat)(f:σ->σ)(g:σ->σ)(s0:σ)(bb:σ->Bool)(p0:P s0)(ok:(whV b).isSome=Nc)(gm:Wks c S<|R s0)(f8:∀s,P s->EvB c (R s) (whT b) (bb s) (R s))(step:∀s,P s->bb s=Nc->lY (gT c (R s) (whB b)<|R<|f s) (P<|f s) (m (f s)<m s) (g (f s)=g s))(stop:∀s,P s->bb s=Nd->g s=s)
include p0 ok gm f8 step stop
theorem aEo(done:EvX c (R<|g s0) b.tail o S2):EvX c S b o S2:=
 A2 (aIC ok) λpos e=>(congrArg (EvX c S · o S2) e).mpr<|bY (xF R P m bb f g s0 p0 gm f8 step stop) done
end
section
variable(pl:P3 c N)(hs:List Hi)(ps:List Prop)
theorem tq(h:(aRF pl hs S e s' b T).map (·.1)=Na (T,ps))(a:Al ps):TnT c S e s' b T:=aP h a
theorem bq(h:(aRI pl hs S e).map (·.1)=Na (b',ps))(a:Al ps):EvB c S e b' S:=aP h a
theorem uq(h:(aRE pl hs S b T).map (·.1)=Na (T,ps))(a:Al ps):gT c S b T:=aP h a
end
abbrev asV:List F9->Expr:=she 0
abbrev caA(n:Nat):Expr->Expr:=che<|n+1
end
def aTo{α:Type}(n:Nat)(P:List α->Prop):Prop:=Y9 (motive:=λO=>(List α->Prop)->Prop) (λP=>P []) (λO r P=>∀v,r λa=>P<|v::a) n P
theorem lW:∀{P:List α->Prop},aTo n P->∀vs,vs.length=n->P vs:=by
 induction n with
 | zero=>intro P h vs e;rw[List.length_eq_zero_iff.mp e];exact h
 | succ n a=>
  intro P h vs e;cases vs with
  | nil=>cases e
  | cons v vs=>exact a (h v) vs<|Nat.succ.inj e
section
theorem NsR.allD(n:NsR φ r' m)(h:allD r'=Nc)(le:HP.le φ.Z ψ.Z):NsR ψ r' m:=λx s e=>A2 (n x s e) λv q=>⟨v,q.1,by
 have:=J6.mp h _<|lL e;cases s with
 | d x=>exact Rp.up le q.2
 | o n=>cases this⟩
def jI(Z:HP)(h:O7)(X:List E3):TT:=(gB Z h).filter λp=>Nf<|p.1∉X
theorem oG{p:E3×OD}(i:p∈jI Z h X):p∈gB Z h/\p.1∉X:=by
 obtain⟨a,b⟩:=T7.mp i;exact⟨a,of_decide_eq_true b⟩
theorem uP{o:Obj}(n:Z I=Nb)(e:h.get? I=Na o)(x:I∉X):(I,eqD o)∈jI Z h X:=T7.mpr ⟨oK n e,decide_eq_true x⟩
theorem aCP(x:I∈X):I∉(jI Z h X).map (·.1):=λi=>by
 obtain⟨p,hp,e⟩:=C1.mp i;exact(oG hp).2<|e▸x
theorem vP(r:eB φ as us):∀{a8:List Str}{x:Str}{s:Sv},(x,s)∈a8.zip as->∃v,(x,v)∈a8.zip us/\SvR φ s v:=by
 induction r with
 | nil=>intro a8 x s i;cases a8 <;> cases i
 | cons q _ a=>
  intro a8 x s i;cases a8 with
  | nil=>cases i
  | cons y a8=>
   obtain e|i:=A8.mp i
   .cases e;exact⟨_,.head _,q⟩
   .exact A2 (a i) λv z=>⟨v,.tail _ z.1,z.2⟩
variable{c:C3}{H:TT}{h1:O7}{m:Nat}{r:Lo}
noncomputable abbrev cM(w:E9)(f:I8)(a:E3)(X:Q3)(p:List E3):C3:=⟨w,X.A.deeper<|N7 f X.L a,N7 f X.L a,X.os,[],X.G,p⟩
theorem aCK{X:Q3}(R:Rl3 c φ H S h)(i:SmI c φ h k m r a0 dx mA)(ek:S.o[k]?=Na (.ins m))(em:S.o[m]?=Na (.ns r))(ok:aCl w f a8 [])(x:aNZ f M (a8.zip us) [] h X.L h1)(rs:eB ⟨φ.Z,[a0,dx]⟩ as us)(hr:allD r=Nc):Rl3 (cM w f M X [a0,dx]) ⟨φ.Z,[a0,dx]⟩ (jI φ.Z h [a0,dx]) ⟨a8.zip as,[.ins 1,.ns r],d⟩ h1:=by
 have B:=R.own ⟨i.ea,ek,rfl⟩;have C:=R.own ⟨i.ed,em,rfl⟩;have nn:∀{b},b∈[a0,dx]->h.get? b≠Nb->b∉(cM w f M X [a0,dx]).X (jI φ.Z h [a0,dx]):=λ{b} A E q=>(A8.mp q).elim (λe=>E<|e▸x.nL)<|aCP A;have up:∀{b D},At h b D->At h1 b D:=λq=>A2 q λo z=>⟨o,x.keep _ _ z.1,z.2⟩
 refine⟨rfl,λj b o u a=>?_,λj l b y z J N=>?_,A2 x.ns λmL ns=>⟨mL,ns.1,λy s e=>?_⟩,λp hp=>?_,λb o e=>x.keep _ _<|R.sub b o e,λb A=>?_,B6.mpr ⟨λq=>?_,(qZ φ.Z h).sublist<|List.filter_sublist.map _⟩,λj b e=>e.elim (fun⟨_,e,_⟩=>nomatch e) id⟩
 .match j,u,a with
  | 0,u,a=>cases u;cases a;exact⟨λO=>⟨A2 (up i.I) λo q=>⟨o,q.1,dx,rfl,q.2⟩,B.z,nn (.head _) B.in_⟩,nofun⟩
  | 1,u,a=>cases u;cases a;exact⟨λO=>⟨A2 (up i.D) λo q=>⟨o,q.1,mA,q.2,i.n.allD hr<|.refl _,i.w⟩,C.z,nn (.tail _<|.head _) C.in_⟩,nofun⟩
  | j+2,u,a=>cases u
 .match j,l,J.ea,N.ea with
  | 0,0,_,_=>rfl
  | 1,1,_,_=>rfl
  | 0,1,e1,g=>cases e1;exact absurd (H8 g) i.ne
  | 1,0,e1,g=>cases e1;exact absurd (H8 g).symm i.ne
  | j+2,_,e1,_=>cases e1
  | _,l+2,_,g=>cases g
 .exact A2 (vP rs<|lL e) λv q=>⟨v,ns.2 _ _ q.1 (by
   obtain z|z:=Bool.or_eq_true_iff.mp (ok.kd _<|(eG a8 us).subset<|C9 q.1)
   .exact z
   .cases (aB z).2),q.2⟩
 .obtain⟨_,o,e,q⟩:=eE (oG hp).1;rw[q];exact⟨o,x.keep _ _ e,rfl⟩
 .obtain rfl|A:=A8.mp A
  .exact xX R.sub x.nL
  .obtain⟨p,hp,rfl⟩:=C1.mp A;exact(eE (oG hp).1).1
 .obtain⟨p,hp,e⟩:=C1.mp q;obtain⟨_,o,a,_⟩:=eE (oG hp).1;have g:p.1=X.L:=e;rw[g,x.nL] at a;cases a
theorem aG7{c':C3}(R:Rl3 c φ H S h)(q:Rl3 c' ψ (jI φ.Z h [a0,dx]) S' h')(le:HP.le φ.Z ψ.Z):aK [a0,dx] h h'/\∀b o,h.get? b=Na o->φ.Z b=Nb->b∉[a0,dx]->ψ.Z b=none:=
 ⟨λb o n e=>by
  cases z:φ.Z b with
  | some a=>rw[← H8<|(R.sub b a z).symm.trans e];exact q.sub _ _<|le _ _ z
  | none=>exact A2 (q.hid _<|uP z e n) λa w=>(w.2)▸w.1,λb o e z n=>q.hz b<|.tail _<|C1.mpr ⟨_,uP z e n,rfl⟩⟩
theorem aRw{l:List Ow}{y:Ow}(ek:l[k]?=Na o')(ne:k≠B):(((l.set k .nil).set B .nil).set k o').set B y=l.set B y:=by
 refine T5 λi=>?_;rw[V1,V1 (l:=l)];simp only[T8];by_cases h:B=i
 .rw[if_pos h,if_pos h]
 .rw[if_neg h,if_neg h,V1,M5 h];by_cases a:k=i
  .subst a;rw[ek];simp only[T8];exact if_pos (A4.mp ek).1
  .rw[if_neg a,M5 a]
theorem aAn{c':C3}(R:Rl3 c φ H S h)(i:SmI c φ h k m r a0 dx mA)(ek:S.o[k]?=Na (.ins m))(em:S.o[m]?=Na (.ns r))(q:Rl3 c' ψ (jI φ.Z h [a0,dx]) S' h')(ep:c'.pn=[a0,dx])(le:HP.le φ.Z ψ.Z)(e0:S'.o[0]?=Na (.ins 1))(e1:S'.o[1]?=Na (.ns r'))(hr:allD r'=Nc):Rl3 c ⟨ψ.Z,φ.α⟩ H ⟨S.r,S.o.set m<|.ns r',d⟩ h':=by
 have A:=aG7 R q le;have p0:=q.cl 0 a0 (.inr (by rw[ep];rfl));have E:=q.cl 1 dx (.inr (by rw[ep];rfl));have M:=q.own ⟨p0,e0,rfl⟩;have N:=q.own ⟨E,e1,rfl⟩;have Y:k≠m:=by rintro rfl;cases ek.symm.trans em
 have I:=R.own ⟨i.ea,ek,rfl⟩;have J:=R.own ⟨i.ed,em,rfl⟩;have C:∀{j b y},Liv φ.α ((S.o.set k .nil).set m .nil) j b y->j≠k/\j≠m/\Liv φ.α S.o j b y:=λw=>(gL w).elim (λz=>by rw[z.2] at w;cases w.lv) λz=>(gL z.2).elim (λy=>by rw[y.2] at w;cases w.lv) λy=>⟨y.1,z.1,y.2⟩
 have B:∀{j b y},Liv φ.α ((S.o.set k .nil).set m .nil) j b y->b∉[a0,dx]:=λw g=>by
  obtain⟨n1,n2,w⟩:=C w;obtain rfl|g:=A8.mp g
  .exact n1 (R.inj _ _ _ _ _ w ⟨i.ea,ek,rfl⟩)
  .cases C6.mp g
   exact n2<|R.inj _ _ _ _ _ w ⟨i.ed,em,rfl⟩
 have T:=(Rl3.kill (R.kill k) m).step le q.sub A.1 λb Q g=>by
  obtain g|⟨j,y,w⟩:=g
  .have n:b∉[a0,dx]:=λz=>(A8.mp z).elim (λe=>I.n<|e▸g) λz=>J.n<|C6.mp z▸g;obtain⟨o,x⟩:=Option.ne_none_iff_exists'.mp<|R.xIn g;exact⟨n,A.2 b o x Q n⟩
  .have n:=B w;obtain⟨o,x⟩:=Option.ne_none_iff_exists'.mp (R.own (C w).2.2).in_;exact⟨n,A.2 b o x Q n⟩
 have U:=T.set k (.ins m) (λb p=>⟨λO=>by
  cases p.symm.trans i.ea
  exact⟨A2 M.at_ λo z=>⟨o,z.1,A2 z.2 λy u=>⟨dx,i.ed,by cases E.symm.trans u.1;exact u.2⟩⟩,M.z,I.n⟩,nofun⟩) λO j b y p w=>by
  cases p.symm.trans i.ea
  exact absurd (.head _)<|B w
 have V:=U.set m (.ns r') (λb p=>⟨λO=>by
  cases p.symm.trans i.ed
  exact⟨A2 N.at_ λo z=>⟨o,z.1,A2 z.2 λy u=>⟨y,u.1,u.2.allD hr<|.refl _,u.3⟩⟩,N.z,J.n⟩,nofun⟩) λO j b y p w=>by
  cases p.symm.trans i.ed
  obtain⟨rfl,_⟩|⟨_,w⟩:=gL w
  .exact absurd (H8<|i.ea.symm.trans w.ea).symm i.ne
  .exact absurd (.tail _<|.head _)<|B w
 have a:Rl3 c ⟨ψ.Z,φ.α⟩ H ⟨S.r,S.o.set m<|.ns r',S.d⟩ h':=by rw[← aRw ek Y];exact V
 exact⟨a.len,a.ok,a.inj,a.ns,a.hid,a.sub,a.hz,a.nd,a.cl⟩
theorem aAl:∀{vs:List A3},eB φ (ds.map .d) vs->Rps φ.Z ds vs:=by
 induction ds with
 | nil=>intro vs r;cases r;exact .nil
 | cons d ds b=>intro vs r;cases r with
  | cons a r=>exact .cons a<|b r
inductive RtS(c:C3)(S:Sd)(b:List F9)(x:Dt)(r':Lo)(d':D8):Prop
 | ret (s:Sv) (S':Sd) (o:Bool) (e:EvX c S b (.ret s) S') (ex:drf S' s=Na (x,o)) (e0:S'.o[0]?=Na (.ins 1)) (e1:S'.o[1]?=Na (.ns r')) (ed:S'.d=d'):RtS c S b x r' d'
 | none (S':Sd) (e:EvX c S b .next S') (ex:x=.none) (e0:S'.o[0]?=Na (.ins 1)) (e1:S'.o[1]?=Na (.ns r')) (ed:S'.d=d'):RtS c S b x r' d'
theorem aL0{c':C3}{x:Dt}{o:Bool}{s:Sv}{v:A3}(p:Pt c H S)(i:SmI c p.φ p.h k m r a0 dx mA)(ek:S.o[k]?=Na (.ins m))(em:S.o[m]?=Na (.ns r))(q:Pt c' (jI p.φ.Z p.h [a0,dx]) S')(ec:c'.w=c.w/\c'.os=c.os/\c'.G=c.G)(ep:c'.pn=[a0,dx])(le:HP.le p.φ.Z q.φ.Z)(e0:S'.o[0]?=Na (.ins 1))(e1:S'.o[1]?=Na (.ns r'))(ed:S'.d=d')(hr:allD r'=Nc)(ex:drf S' s=Na (x,o))(rv:SvR q.φ s v):EvP c Nc p.φ H SvR (.d x) ⟨S.r,S.o.set m<|.ns r',d'⟩ v q.s:=
 q.fz ex rv λj b l a e keep=>⟨⟨⟨b,p.φ.α⟩,q.h,q.g,q.k,p.rm,ec.1▸q.gz.le l,ec.2.2▸q.gg,aAn p.rel i ek em a ep (le.trans l) (keep 0 _ e0 nofun) (keep 1 _ e1 nofun) hr⟩,by show(⟨q.h,q.g,S'.d,q.k,c'.os⟩:A6)=⟨q.h,q.g,d',q.k,c.os⟩;rw[ed,ec.2.1],⟨le.trans l,λO=>Q6 _⟩,e⟩
theorem bnd(h:∀vs,vs.length=n->bindArgs f ⟨vs,[]⟩=pure (a8.zip<|vs++[]))(s:A6)(vs:List A3)(_:(K w.params).In s.heap)(e:vs.length=n):BindsTo s f ⟨vs,[]⟩<|a8.zip<|vs++[]:=.of_eq<|h vs e
noncomputable def aCj(w:E9)(n:Nat)(a:E3)(r:Lo)(ds:List Dt)(x:Dt)(r':Lo)(fd:D8->D8):Prop:=∀(c:C3) S k m,c.w=w->Rm c.A n->S.o[k]?=Na (.ins m)->S.o[m]?=Na (.ns r)->∀H(p:Pt c H S) vs,eB p.φ (.o k::ds.map .d) vs->CD c.w c.A (.call (.ref a) ⟨vs,[]⟩) (aLo<|EvP c Nc p.φ H SvR (.d x) ⟨S.r,S.o.set m<|.ns r',fd S.d⟩) p.s
structure nV(w:E9)(n:Nat)(a:E3)(r:Lo)(ds:List Dt)(x:Dt)(r':Lo)(fd:D8->D8):Prop where
 of::run:aCj w n a r ds x r' fd
theorem nV.sm{fd:D8->D8}(q:nV w n I r ds oc r' fd):jF w n (cal<|.ref I) r ds oc r' fd:=⟨λc S k m d e a b=>⟨λH p h g=>(q.run c S k m d e a b H p h g).wp⟩⟩
theorem aAh(a8:List Str){x:Dt}{fd:D8->D8}(lo:Lo)(hd:∀Z,Rps Z dd dv)(ho:(K w.params).lookup I=Na ⟨.type "function",Nb,.func f,#[]⟩)(bf:f.body=.stmts body)(bg:∀(s:A6) vs,(K w.params).In s.heap->vs.length=ds.length+1->BindsTo s f ⟨vs,[]⟩ (a8.zip<|vs++dv))(d5:∀L,cellsFrom (L+1) f.scope.names []=clL [] L)(ok:(aC2 w.params f a8 []&&f.scope.names.all λx=>x.2 != .cell)=Nc)(hS:a8.zip (.o 0::(ds++dd).map .d)=lo)(hr:(allD r&&allD r')=Nc)
  (q:∀X p0 p1,P3 (cM w f I X [p0,p1]) n->RtS (cM w f I X [p0,p1]) ⟨lo,[.ins 1,.ns r],X.d⟩ body x r' (fd X.d)):nV w (n+1) I r ds x r' fd:=
 ⟨λc S k m ew rm J M H p vs rv=>by
  subst ew hS;cases rv with
  | cons U V=>
  refine p.ins U J M (P:=λv0=>CD c.w c.A (.call (.ref I) ⟨v0::_,[]⟩) _ _) λa j mA i=>?_;have rs:=aAl V;have oc:=(aB ok).2;have ok:=kJ (aB ok).1;refine aF2 a8 p.G rm.room ho bf (bg _ _ p.G.k<|congrArg (·+1) rs.len) d5 ok oc λL h1 k1 y=>?_;have O:=rm.deeper (env:=N7 f L I);have R:=aCK (X:=⟨c.A,L,c.os,S.d,c.G⟩) (d:=S.d) p.rel i J M ok y (.cons (show SvR ⟨p.φ.Z,[a,j]⟩ (.o 0) _ from⟨a,rfl,rfl⟩)<|qC<|rs.append<|hd _) (aB hr).1;have Q:=q ⟨c.A,L,c.os,S.d,c.G⟩ a j ⟨⟨ok.k,ok.g,ok.b⟩,O⟩;have Y:=λ{B x o s v} (q:Pt (cM c.w f I ⟨c.A,L,c.os,S.d,c.G⟩ [a,j]) (jI p.φ.Z p.h [a,j]) B)=>aL0 (x:=x) (o:=o) (s:=s) (v:=v) (d':=fd S.d) (r':=r') p i J M q ⟨rfl,rfl,rfl⟩ rfl;cases Q with
  | ret s1 B o e N e0 C E=>exact e.go ⟨⟨p.φ.Z,[a,j]⟩,h1,p.g,k1,O.less<|C8 _,p.gz,p.gg,R⟩ λp1 u l1 T=>A2 T λv z=>by rw[z.1];exact Y p1 l1.le e0 C E (aB hr).2 N z.2
  | none B e N e0 C E=>exact e.go ⟨⟨p.φ.Z,[a,j]⟩,h1,p.g,k1,O.less<|C8 _,p.gz,p.gg,R⟩ λp1 u l1 T=>by rw[show u=.next from T,N];exact Y p1 l1.le e0 C E (aB hr).2 rfl<|.dt .none⟩
theorem oA{a:E3}(a8:List Str){x:Dt}{fd:D8->D8}(lo:Lo)(hd:∀Z,Rps Z dd dv)(ho:(K w.params).lookup a=Na ⟨.type "function",Nb,.func f,#[]⟩)(bf:f.body=.stmts body)(bg:∀(s:A6) vs,(K w.params).In s.heap->vs.length=ds.length+1->BindsTo s f ⟨vs,[]⟩ (a8.zip<|vs++dv))(d5:∀L,cellsFrom (L+1) f.scope.names []=clL [] L)(ok:(aC2 w.params f a8 []&&f.scope.names.all λx=>x.2 != .cell)=Nc)(hS:a8.zip (.o 0::(ds++dd).map .d)=lo)(hr:(allD r&&allD r')=Nc)
  (q:∀X p0 p1,P3 (cM w f a X [p0,p1]) n->RtS (cM w f a X [p0,p1]) ⟨lo,[.ins 1,.ns r],X.d⟩ body x r' (fd X.d)):jF w (n+1) (cal<|.ref a) r ds x r' fd:=(aAh a8 lo hd ho bf bg d5 ok hS hr q).sm
end
section
variable{c:C3}{b:List F9}
noncomputable def asO(x:Option Ow):Option {n:Nat // x=Na (.ins n)}:=match x with
 | some (.ins n)=>Na ⟨n,rfl⟩
 | _=>Nb
noncomputable def asS(x:Option Ow):Option {r:Lo // x=Na (.ns r)}:=match x with
 | some (.ns r)=>Na ⟨r,rfl⟩
 | _=>Nb
def fzS(S:Sd)(s:Sv):Sv:=match drf S s with
 | some (x,Nd)=>.d x
 | _=>s
def fzL(S:Sd)(r:Lo):Lo:=r.map λp=>(p.1,fzS S p.2)
theorem aMI(R:Rl3 c φ T S h)(r:SvR φ s' ao):SvR φ (fzS S s') ao:=by
 unfold fzS
 set_option tactic.hygienic true in split
 .next x e=>exact(jW e R r).2 rfl
 .exact r
theorem aMJ{r:Lo}:(fzL S r).lookup x=Na s'->∃s,r.lookup x=Na s/\s'=fzS S s:=by
 induction r with
 | nil=>exact nofun
 | cons p r a=>
  obtain⟨y,s⟩:=p;intro e;have e:((y,fzS S s)::fzL S r).lookup x=Na s':=e;rw[lkS] at e ⊢;by_cases q:x=y
  .rw[if_pos q] at e ⊢;cases e;exact⟨s,rfl,rfl⟩
  .rw[if_neg q] at e ⊢;exact a e
theorem Rl3.fzns(R:Rl3 c φ T S h){r:Lo}(e:S.o[B]?=Na (.ns r)):Rl3 c φ T {S with o:=S.o.set B (.ns<|fzL S r)} h:=
 R.set B (.ns<|fzL S r) (λa d=>⟨λO=>have w:=R.own ⟨d,e,rfl⟩;⟨A2 w.at_ λb q=>⟨b,q.1,A2 q.2 λj z=>⟨j,z.1,λx t g=>A2 (aMJ g) λs y=>A2 (z.2 x s y.1) λv u=>⟨v,u.1,y.2▸aMI R u.2⟩,by
  have:(fzL S r).map (·.1)=r.map (·.1):=by unfold fzL;rw[F7];rfl
  rw[this];exact z.3⟩⟩,w.z,w.n⟩,nofun⟩) λO i a x d w=>R.inj i B a x _ w ⟨d,e,rfl⟩
theorem aJe(x:EvX c S b o S1)(e:S1.o[B]?=Na (.ns r')):EvX c S b o {S1 with o:=S1.o.set B (.ns<|fzL S1 r')}:=
 ⟨λH p=>x.go p λa u l1 d=>(⟨a.φ,a.h,a.g,a.k,a.rm,a.gz,a.gg,a.rel.fzns e⟩:Pt c H {S1 with o:=S1.o.set B (.ns<|fzL S1 r')}).end l1 d⟩
theorem aOp{y:Ow}(e:o1[1]?=Na o'):(o1.set 1 y)[1]?=Na y:=W3 (A4.mp e).1
theorem aGj{o:Bool}(e:EvX c S b (.ret s') S1)(e0:S1.o[0]?=Na (.ins 1))(e1:S1.o[1]?=Na (.ns r'))(ex:drf {S1 with o:=S1.o.set 1 (.ns<|fzL S1 r')} s'=Na (oc,o)):RtS c S b oc (fzL S1 r') S1.d:=.ret s' _ o (aJe e e1) ex (by show(S1.o.set 1 _)[0]?=_;rw[M5<|by decide];exact e0) (aOp e1) rfl
theorem aCT(e:EvX c S b .next S1)(e0:S1.o[0]?=Na (.ins 1))(e1:S1.o[1]?=Na (.ns r')):RtS c S b .none (fzL S1 r') S1.d:=.none _ (aJe e e1) rfl (by show(S1.o.set 1 _)[0]?=_;rw[M5<|by decide];exact e0) (aOp e1) rfl
def aOs(pl:P3 c N)(S:Sd)(hs:List Hi)(b:List F9):Option {q:(Dt×Lo)×List Prop // Al q.2->RtS c S b q.1.1 q.1.2 S.d}:=(qX pl 20 60 S hs b).bind λx=>match x with
 | ⟨.ret s,S1,_,_,_,ps,ch,h⟩=>(asO S1.o[0]?).bind λi=>if hi:T6 i.1 1=Nc then (asS S1.o[1]?).bind λr=>(exO<|drf {S1 with o:=S1.o.set 1 (.ns<|fzL S1 r.1)} s).map λm=>⟨((m.1.1,fzL S1 r.1),ps),λa=>ch.d▸aGj (h a) (by rw[i.2,H7 hi]) r.2 m.2⟩ else Nb
 | ⟨.next,S1,_,_,_,ps,ch,h⟩=>(asO S1.o[0]?).bind λi=>if hi:T6 i.1 1=Nc then (asS S1.o[1]?).map λr=>⟨((.none,fzL S1 r.1),ps),λa=>ch.d▸aCT (h a) (by rw[i.2,H7 hi]) r.2⟩ else Nb
 | _=>Nb
theorem xsm(pl:P3 c N)(hs:List Hi)(r:Lo)(ps:List Prop)(h:(aOs pl S hs b).map (·.1)=Na ((oc,r),ps))(a:Al ps):RtS c S b oc r S.d:=aP h a
theorem aAt(y:EvX c S b1 .next S1)(q:RtS c S1 b2 oc r' d'):RtS c S (b1++b2) oc r' d':=by
 cases q with
 | ret s a o e g e0 b d=>exact .ret s a o (oY y e) g e0 b d
 | none a e g e0 b d=>exact .none a (oY y e) g e0 b d
theorem xsr(pl:P3 c N)(k:Nat)(hs:List Hi)(T:Sd)(ps:List Prop)(h:(aCR pl S hs (b.take k) T).map (·.1)=Na (T,ps))(a:Al ps)(q:RtS c T (b.drop k) oc r' d'):RtS c S b oc r' d':=G3 k b▸aAt (aP h a) q
def aRH(pl:P3 c N)(fd:D8->D8)(S:Sd)(hs:List Hi):(b:List F9)->Option {q:Lo×List Prop // Al q.2->RtS c S b .none q.1 (fd S.d)}:=l1 (M:=λb=>Option {q:Lo×List Prop // Al q.2->RtS c S b .none q.1 (fd S.d)}) (λO=>Nb) (sFW (M:=λs=>Option {q:Lo×List Prop // Al q.2->RtS c S [s] .none q.1 (fd S.d)}) (λO=>Nb) (λO O O O=>Nb) (λO O O O O=>Nb) (λO O O O=>Nb) λe p=>eMc (M:=λe=>Option {q:Lo×List Prop // Al q.2->RtS c S [.Expr e p] .none q.1 (fd S.d)}) (λO=>Nb) (λo x j n r=>
 chk (fnX c) λh=>(gS pl 20 fd S hs o x j r n).bind λy=>(asO S.o[0]?).bind λi=>if hi:(T6 i.1 1&&(T6 y.v.2.1 1&&Nat.blt 1 S.o.length))=Nc then Na ⟨(y.v.2.2,y.ps),λa=>.none _ (fP<|aA0 (J1 _▸h) rfl<|y.h a) rfl (by
   have g:=H7 (aB (aB hi).2).1;show(S.o.set y.v.2.1 _)[0]?=_;rw[g,M5<|by decide,i.2,H7 (aB hi).1]) (by
   have g:=H7 (aB (aB hi).2).1;show(S.o.set y.v.2.1 _)[1]?=_;rw[g];exact W3<|F1 (aB (aB hi).2).2) rfl⟩ else Nb) e)
theorem xsl(pl:P3 c N)(fd:D8->D8)(hs:List Hi)(ps:List Prop)(h:(aRH pl fd S hs b).map (·.1)=Na (r',ps))(a:Al ps):RtS c S b .none r'<|fd S.d:=aP h a
def aOu(pl:P3 c N)(S:Sd)(hs:List Hi):(e:Expr)->Option {q:(Dt×Sd)×List Prop // Al q.2->EvE c S e (.d q.1.1) q.1.2}:=eMc (M:=λe=>Option {q:(Dt×Sd)×List Prop // Al q.2->EvE c S e (.d q.1.1) q.1.2}) (λO=>Nb) λo x a b g=>(gS pl 20 id S hs o x a g b).map λy=>⟨((y.v.1,⟨S.r,S.o.set y.v.2.1<|.ns y.v.2.2,S.d⟩),y.ps),y.h⟩
theorem qW{st:F9}(y:EvS c S st .next S')(q:RtS c S' b1 oc r' d'):RtS c S (st::b1) oc r' d':=aAt (fP y) q
end
section
variable{c:C3}{b:List F9}{x:Dt}
section
variable{σ:Type}(R:σ->Sd)(P:σ->Prop)(m:σ->Nat)(f:σ->σ)(g:σ->σ)(s0:σ)(bb:σ->Bool)(p0:P s0)(ok:(whV b).isSome=Nc)(gm:Wks c S<|R s0)(f8:∀s,P s->EvB c (R s) (whT b) (bb s) (R s))(step:∀s,P s->bb s=Nc->lY (gT c (R s) (whB b)<|R<|f s) (P<|f s) (m (f s)<m s) (g (f s)=g s))(stop:∀s,P s->bb s=Nd->g s=s)
include p0 ok gm f8 step stop
theorem hJ(done:RtS c (R<|g s0) b.tail x r' d'):RtS c S b x r' d':=
 A2 (aIC ok) λpos e=>(congrArg (RtS c S · x r' d') e).mpr<|qW (xF R P m bb f g s0 p0 gm f8 step stop) done
end
section
variable{σ X:Type}(pl:P3 c N)(hs:List Hi)(xs:List X)(g:X->Dt)(f:σ->X->σ)(R:σ->Sd)(P:Nat->σ->Prop)(s0:σ)(d:Dt)(ps:List Prop)(ok:(foV b).isSome=Nc)(cf:(aBw pl hs S (foI b)<|R s0).map (·.1)=Na ((d,R s0),ps))(cg:Al ps)(hd:∀s,(R s).d=S.d)(it:Itr c.w d (xs.map g)<|foT b)(p0:P 0 s0)
 (step:∀i x s,xs[i]?=Na x->P i s->TnT c (R s) (foT b) (.d<|g x) (foB b) (R<|f s x)/\P (i+1) (f s x))
include ok cf cg hd it p0 step
theorem aCU(done:P xs.length (xs.foldl f s0)->RtS c (R<|xs.foldl f s0) b.tail x r' d'):RtS c S b x r' d':=by
 have F:sF c b xs g f R P:=⟨step⟩
 obtain⟨pos,e,a⟩:=jC ok;rw[e];exact qW (qK F p0 hd it (aP cf cg) a)<|done (by have:=F.inv p0 xs.length<|C4 _;rwa [I4] at this)
end
theorem yK(w:Wks c S S1)(y:RtS c S1 b x r' d'):RtS c S b x r' d':=by
 cases y with
 | ret s a o e h e0 d g=>exact .ret s a o (EvT.wk w e) h e0 d g
 | none a e h e0 d g=>exact .none a (EvT.wk w e) h e0 d g
section
variable(pl:P3 c N)(hs:List Hi)(R:Nat->Sd)(ps:List Prop)(ok:(foV b).isSome=Nc)(tn:Ex2 λx p=>foT b=.Name x p)(cf:(aBw pl hs S (foI b)<|R 0).map (·.1)=Na ((.rng lo hi,R 0),ps))(cg:Al ps)(h0:0<=lo)(h1:lo<=hi)(h2:hi<=1000000)(hd:∀i,(R i).d=S.d)(step:∀i:Nat,i<(hi-lo).toNat->TnT c (R i) (foT b) (.d<|.int<|lo+(i:Nat)) (foB b) (R<|i+1))
include ok tn cf cg h0 h1 h2 hd step
theorem aGi(done:RtS c (R (hi-lo).toNat) b.tail x r' d'):RtS c S b x r' d':=uA pl hs R ps ok tn cf cg h0 h1 h2 hd step λg n a st=>
 A2 (jC ok) λpos e=>(congrArg (RtS c S · x r' d') e.1).mpr<|qW (rR R e.2 hd (aP cf cg).1 a (aP cf cg).2 st)<|n▸done
end
section
variable(pl:P3 c N)(hs:List Hi)(xs:List Dt)(R:Nat->Sd)(P:Nat->Prop)(dt:Dt)(ps:List Prop)(ok:(foV b).isSome=Nc)(cf:(aBw pl hs S (foI b)<|R 0).map (·.1)=Na ((dt,R 0),ps))(cg:Al ps)(hd:∀i,(R i).d=S.d)(it:Itr c.w dt xs<|foT b)(p0:P 0)(step:∀i y,xs[i]?=Na y->P i->∃S2,AsT c (R i) (foT b) (.d y) S2/\xR c S2 (foB b) (R<|i+1) (P<|i+1) (R xs.length))
include ok cf cg hd it p0 step
theorem aHE(done:EvX c (R xs.length) b.tail o S2):EvX c S b o S2:=
 A2 (jC ok) λpos e=>(congrArg (EvX c S · o S2) e.1).mpr<|bY (aBd R e.2 hd (aP cf cg).1 it (aP cf cg).2 P p0 step) done
end
theorem gY{t:Expr}{v:Sv}(h:(asF (c:=c) S t v).map (·.S')=Na S2):AsT c S t v S2:=by
 obtain⟨a,_,rfl⟩:=B0.mp h;exact a.h
def aLb(pl:P3 c N)(hs:List Hi)(S:Sd)(e:Expr):Option {r:Sv×List Prop // Al r.2->EvE c S e r.1 S}:=((q3 (S:=S) pl 20).1 hs e).map λx=>⟨(x.v,x.ps),x.h⟩
theorem eq3(pl:P3 c N)(hs:List Hi)(ps:List Prop){v:Sv}(h:(aLb pl hs S e).map (·.1)=Na (v,ps))(a:Al ps):EvE c S e v S:=aP h a
theorem xse(pl:P3 c N)(k:Nat)(hs:List Hi)(r:Lo)(ps:List Prop)(h:(aOs pl S hs b).map (·.1)=Na ((x,r),ps))(a:Al ps)(e:d'=S.d):RtS c S b x r d':=e▸aP h a
end
section
variable{c:C3}{H:TT}{pre c9:Lo}{nm:Str}
theorem Rl3.nsTo(R:Rl3 c φ H S h)(e:S.o[B]?=Na (.ns r'))(en:r2.map (·.1)=r'.map (·.1))(f:∀mA,NsR φ r' mA->NsR φ r2 mA):Rl3 c φ H {S with o:=S.o.set B (.ns r2)} h:=
 R.set B (.ns r2) (λa d=>⟨λO=>have w:=R.own ⟨d,e,rfl⟩;⟨A2 w.at_ λb q=>⟨b,q.1,A2 q.2 λmA z=>⟨mA,z.1,f mA z.2,en▸z.3⟩⟩,w.z,w.n⟩,nofun⟩) λO i a x d w=>R.inj i B a x _ w ⟨d,e,rfl⟩
theorem aMp{s t:Sv}:(pre++(nm,s)::c9).lookup x=Na t->(t=s/\∀s',(pre++(nm,s')::c9).lookup x=Na s')\/∀s',(pre++(nm,s')::c9).lookup x=Na t:=by
 induction pre with
 | nil=>
  intro e;have e:((nm,s)::c9).lookup x=Na t:=e;rw[lkS] at e;by_cases q:x=nm
  .rw[if_pos q] at e;cases e;exact .inl ⟨rfl,λs'=>lkS.trans<|if_pos q⟩
  .rw[if_neg q] at e;exact .inr λs'=>lkS.trans<|(if_neg q).trans e
 | cons p pre a=>
  intro e;obtain⟨y,u⟩:=p;have e:((y,u)::(pre++(nm,s)::c9)).lookup x=Na t:=e;rw[lkS] at e;by_cases q:x=y
  .rw[if_pos q] at e;exact .inr λs'=>lkS.trans ((if_pos q).trans e)
  .rw[if_neg q] at e;exact(a e).imp (λz=>⟨z.1,λs'=>lkS.trans<|(if_neg q).trans<|z.2 s'⟩) λz s'=>lkS.trans<|(if_neg q).trans<|z s'
theorem NsR.hol{s:Sv}(n:NsR φ (pre++(nm,s)::c9) mA)(f:∀v,SvR φ s v->SvR φ s' v):NsR φ (pre++(nm,s')::c9) mA:=λx t e=>
 (aMp e).elim (λz=>A2 (n x s<|z.2 s) λv q=>⟨v,q.1,z.1▸f v q.2⟩) λz=>n x t<|z s
theorem aE1{s:Sv}:(pre++(nm,s')::c9).map (·.1)=(pre++(nm,s)::c9).map (·.1):=by rw[B4,B4];rfl
theorem aMq(hp:pre.lookup nm=Nb):(pre++(nm,s')::c9).lookup nm=Na s':=by
 rw[List.lookup_append,hp,Option.none_or,lkS,if_pos rfl]
theorem jF.hole{fd:D8->D8}{pre':Lo}(hp:pre.lookup nm=Nb)(q:∀u,jF w n t (pre++(nm,.d<|.raw u)::c9) ds oc (pre'++(nm,.d<|.raw u)::r') fd):jF w n t (pre++(nm,.o k0)::c9) ds oc (pre'++(nm,.o k0)::r') fd:=
 ⟨λc S k m N R B j=>⟨λH p V r=>by
  have x:=(A4.mp j).1;obtain⟨b,M⟩:∃b,p.φ.α[m]?=Na b:=by rw[B1 (by rw[p.rel.len];exact x)];exact⟨_,rfl⟩
  obtain⟨o,Z,C,hA,Q,wA⟩:=(p.rel.own ⟨M,j,rfl⟩).at_;obtain⟨v,ev,a,A,rfl⟩:=Q nm (.o k0)<|aMq hp;have O:k≠m:=by rintro rfl;cases B.symm.trans j
  have E:=p.rel.nsTo (r2:=pre++(nm,.d<|.raw<|.ref a)::c9) j aE1 λC n=>n.hol λv y=>A2 y λY z=>by
   cases A.symm.trans z.1;rw[z.2];exact .raw _
  have g:=(q<|.ref a).run c {S with o:=S.o.set m (.ns<|pre++(nm,.d<|.raw<|.ref a)::c9)} k m N R (by show(S.o.set m _)[k]?=_;rw[M5 O.symm];exact B)<|W3 x;refine(g.run H ⟨p.φ,p.h,p.g,p.k,p.rm,p.gz,p.gg,E⟩ V r).mono λu s y=>?_;obtain⟨i,rfl,l,T⟩:=y;have U:m<(S.o.set m<|.ns<|pre++(nm,.d<|.raw<|.ref a)::c9).length:=by rw[T8];exact x
  have I:=i.rel.nsTo (r2:=pre'++(nm,.o k0)::r') (W3 U) aE1 λC n=>n.hol λv y=>⟨a,l.get A,Rp.inv y⟩
  have e:(((S.o.set m<|.ns<|pre++(nm,.d<|.raw<|.ref a)::c9).set m<|.ns<|pre'++(nm,.d<|.raw<|.ref a)::r').set m<|.ns<|pre'++(nm,.o k0)::r')=S.o.set m (.ns<|pre'++(nm,.o k0)::r'):=by rw[set_set,set_set]
  have J:=e▸I;exact⟨⟨i.φ,i.h,i.g,i.k,i.rm,i.gz,i.gg,J⟩,rfl,l,T⟩⟩⟩
end
section
variable{X:Q3}{p0:E3}{ds:Dt}{ts:List T3}{c:C3}{H:TT}
noncomputable abbrev smT(dj ds dp:Dt):Lo:=[(S9 "b2j",.d dj),(S9 "bjunk",.d ds),(S9 "bpopular",.d dp)]
noncomputable abbrev smA(a b:List Str)(mb oc:Dt)(t:Lo):Lo:=[(S9 "isjunk",.d .none),(S9 "a",.d<|.lst<|a.map .str),(S9 "b",.d<|.lst<|b.map .str),(S9 "autojunk",.d<|.bool Nc),(S9 "matching_blocks",.d mb),(S9 "opcodes",.d oc),(S9 "fullbcount",.d .none)]++t
abbrev gmB:List F9:=gR<|fG 5 7
noncomputable abbrev gmL(a b:List Str)(x:Lo):Lo:=[(S9 "self",.o 0),(S9 "la",.d<|.int (a.map Dt.str).length),(S9 "lb",.d<|.int (b.map Dt.str).length)]++x
abbrev zP(a b:List Str)(r:Lo)(d:D8)(lq lm:List Dt):Sd:=⟨gmL a b [(S9 "queue",.o 2),(S9 "matching_blocks",.o 3)],[.ins 1,.ns r,.lst lq,.lst lm],d⟩
abbrev pV(w:E9)(a b:List Str)(dj ds dp:Dt):Prop:=∀oc q,QOK a b q->jF w 3 (cal<|.ref 196) (smA a b .none oc<|smT dj ds dp) [.int q.1,.int q.2.1,.int q.2.2.1,.int q.2.2.2] (mtT<|flm a b q.1 q.2.1 q.2.2.1 q.2.2.2) (smA a b .none oc<|smT dj ds dp) id
abbrev gmC(w:E9)(X:Q3)(p0 p1:E3):C3:=cM w aJa 203 X [p0,p1]
theorem aHm(pl:P3 (gmC w X p0 p1) 5){t:T3}{r:Lo}(er:r=smA a b .none oc (smT dj ds dp))(fl:jF w 3 (cal<|.ref 196) r [.int q.1,.int q.2.1,.int q.2.2.1,.int q.2.2.2] (mtT t) r id)(z1:xs.length<=9000000)(z2:dd.length<=9000000):gT (gmC w X p0 p1) (zP a b r X.d (xs++[q4T q]) dd) (whB<|gmB.drop 5)<|zP a b r X.d (aMC q t xs)<|aMB t dd:=by
 subst er;have lk:J7 (.type "object") (S9 "find_longest_match")=pure none:=by kernel_rfl
 have e:(aEb q t xs).length<=B9:=by
  rw[C5];unfold aEb;split
  .rw[A5];exact A9 (Nat.add_le_add_right z1 1) (by decide)
  .exact A9 z1<|by decide
 exact uq pl [.v<|q4T q,.v<|.lst xs,.m (mtT t)<|smA a b .none oc<|smT dj ds dp] [Na (Ow.lst<|xs++[q4T q])=Na (.lst<|xs++[q4T q]),xs.length<16777216,SmM w 5 (S9 "find_longest_match") (smA a b .none oc<|smT dj ds dp) [.int q.1,.int q.2.1,.int q.2.2.1,.int q.2.2.2] (mtT t) (smA a b .none oc<|smT dj ds dp) id,
  (t.2.2 != 0)=Nc->Al [dd.length<=B9,(Nf (q.1<t.1)&&Nf (q.2.2.1<t.2.1))=Nc->Al [xs.length<=B9],(Nf (t.1+t.2.2<q.2.1)&&Nf (t.2.1+t.2.2<q.2.2.2))=Nc->Al [type_of% e]]] (by kernel_rfl)
  ⟨rfl,Q9 z1<|by decide,.mk 196 _ 3 (by kernel_rfl) (by kernel_rfl) lk (by kernel_rfl) (by decide) fl,λO=>⟨A9 z2<|by decide,λO=>⟨A9 z1<|by decide,trivial⟩,λO=>⟨e,trivial⟩,trivial⟩,trivial⟩
def aSz(a b:List Str)(s:List Q4×List T3):List Q4×List T3:=S5 (motive:=λO=>List Q4×List T3) s.1 s λq st=>cG a b q st s.2
structure GmP(a b:List Str)(s:List Q4×List T3):Prop where
 ok:∀p∈s.1,QOK a b p
 le:s.2.length+qm s.1<=2*a.length+1
theorem aEa(pl:P3 (gmC w X p0 p1) 5)(fl:pV w a b dj ds dp)(za:a.length<=1000000){bh:List T3}(hf:jA a b (2*a.length+1) [(0,(a.length:Int),0,(b.length:Int))] []=bh)(q:RtS (gmC w X p0 p1) (zP a b (smA a b .none oc<|smT dj ds dp) X.d [] (bh.map mtT)) (gmB.drop 6) dt r' d):
  RtS (gmC w X p0 p1) (zP a b (smA a b .none oc<|smT dj ds dp) X.d [q4T (0,(a.map Dt.str).length,0,(b.map Dt.str).length)] []) (gmB.drop 5) dt r' d:=by
 have r:=aLu;rw[A1,A1];refine hJ (λs=>zP a b (smA a b .none oc<|smT dj ds dp) X.d (s.1.map q4T).reverse<|s.2.map mtT) (GmP a b) (λs=>qm s.1) (aSz a b) (λs=>([],jA a b (qm s.1) s.1 s.2)) ([(0,(a.length:Int),0,(b.length:Int))],[]) (λs=>!(s.1.map q4T).reverse.isEmpty) ⟨λp hp=>?_,?_⟩ (by kernel_rfl) (fits<|by kernel_rfl) (λs ok=>?_) (λs ok h=>?_) (λs O h=>?_) ?_
 .cases C6.mp hp
  exact⟨C2 _,E2 _,C2 _,C2 _,E2 _,C2 _⟩
 .simp[qm]
 .have:=ok.le;have:=r s.1;exact bq pl [] [(s.1.map q4T).reverse.length<4611686018427387904] (by kernel_rfl) ⟨by rw[List.length_reverse,A1];exact(l04<|.i (.L .b cL)<|.i (.L kZ<|.p (.u 2 .b) aC)<|.i (.L .a .d) mS) za (by assumption) this,trivial⟩
 .obtain⟨st,aw⟩:=s;cases st with
  | nil=>cases h
  | cons q st=>
   have g:=lQ (aw:=aw) ok.ok;have le:=ok.le;have lq:=r<|q::st;refine⟨?_,⟨g.1,?_⟩,g.2.1,congrArg (([]:List Q4),·) ?_⟩
   .rw[H5,AA2];show gT _ _ _ (zP a b (smA a b .none oc<|smT dj ds dp) X.d ((cG a b q st aw).1.map q4T).reverse<|(cG a b q st aw).2.map mtT);rw[← aHo,← aHn];exact aHm pl rfl (fl oc q<|ok.ok q<|.head _) (by rw[List.length_reverse,A1];exact(l04<|.i (.L .b cL)<|.i (.L kZ<|.p (.u 2 .b) aC)<|.i (.L aR .d)<|.L .a<|.k 9000000) za le lq) (by rw[A1];exact(l03<|.i (.L .b cL)<|.i (.L iV<|.p (.u 2 .b) aC)<|.L .a<|.k 9000000) za le)
   .have:=g.2.2;exact(l05<|.i (.o (.S .b .d)<|.L .a<|.p .e aC)<|.i (.L (.p .e .d)<|.p (.u 2 .c) aC)<|.L bB<|.p (.u 2 .c) aC) g.2 le
   .obtain⟨n,j⟩:∃n,qm (q::st)=n+1:=⟨qm (q::st)-1,by simp only[D1] at lq;exact(l04<|.i (.o (.S .b .a)<|.L .c<|.p .d aC)<|.Q .a<|.p cW aC) g.2⟩
    rw[j];exact zO _ _ _ _ g.1 (C4 _) (I3<|show _<n+1 from j▸g.2.1)
 .obtain⟨st,aw⟩:=s;cases st with
  | nil=>rfl
  | cons q st=>simp at h
 .have e:qm [(0,(a.length:Int),0,(b.length:Int))]=2*a.length+1:=by simp[qm]
  rw[e,hf];exact q
abbrev aOZ(a b:List Str)(r:Lo)(d:D8)(s:NS):Sd:=⟨gmL a b [(S9 "i1",.d<|.int s.1),(S9 "j1",.d<|.int s.2.1),(S9 "k1",.d<|.int s.2.2.1),(S9 "non_adjacent",.o 2)],[.ins 1,.ns r,.lst s.2.2.2],d⟩
abbrev aS8(a b:List Str)(r:Lo)(d:D8)(M:List Dt)(s:NS):Sd:=⟨gmL a b [(S9 "i1",.d<|.int s.1),(S9 "j1",.d<|.int s.2.1),(S9 "k1",.d<|.int s.2.2.1),(S9 "matching_blocks",.o 3),(S9 "non_adjacent",.o 2)],[.ins 1,.ns r,.lst s.2.2.2,.fz<|.lst M],d⟩
abbrev aOY(a b:List Str)(r:Lo)(d:D8)(M:List Dt)(s:NS):Sd:=⟨gmL a b [(S9 "i1",.d<|.int s.1),(S9 "j1",.d<|.int s.2.1),(S9 "k1",.d<|.int s.2.2.1),(S9 "non_adjacent",.o 2)],[.ins 1,.ns r,.fz<|.lst M],d⟩
theorem aPq(fl:pV w a b dj ds dp)(za:a.length<=1000000)(zb:b.length<=1000000)(c7:ts.Perm<|jA a b (2*a.length+1) [(0,(a.length:Int),0,(b.length:Int))] [])(ct:ts.Pairwise<|λa b=>a.1<b.1)(dh:ts.length<64):
  jF w 6 (cal<|.ref 203) (smA a b .none oc<|smT dj ds dp) [] (.lst<|(bW a.length b.length ts).map mtT) (smA a b (.lst<|(bW a.length b.length ts).map mtT) oc<|smT dj ds dp) id:=by
 refine oA (f:=aJa) [S9 "self"] [(S9 "self",.o 0)] (λO=>.nil) (by kernel_rfl) rfl (bnd<|lW λO=>by kernel_rfl) (λL=>by kernel_rfl) (by kernel_rfl) (by kernel_rfl) (by kernel_rfl) λX j p pl=>?_;have q:(a.map Dt.str).length<4611686018427387904:=by rw[A1];exact aQT za
 have r:(b.map Dt.str).length<4611686018427387904:=by rw[A1];exact aQT zb
 refine xsr pl 5 [.t Nd,.t Nd] (zP a b (smA a b .none oc<|smT dj ds dp) X.d [q4T (0,(a.map Dt.str).length,0,(b.map Dt.str).length)] []) [OpV w 0 (op2<|E6 .IsNot) [.none,.none] (.bool Nd),(Nd:Bool)=Nd,type_of% q,type_of% r] (by kernel_rfl) ⟨kQ,rfl,q,r,trivial⟩ ?_;refine aEa pl fl za rfl ?_;generalize B:jA a b (2*a.length+1) [(0,(a.length:Int),0,(b.length:Int))] []=bh at c7 ⊢;refine xsr pl 3 [.l<|ts.map mtT,.z 3] (aS8 a b (smA a b .none oc<|smT dj ds dp) X.d (ts.map mtT)<|naE ((0,0,0),[])) [Srt (gmC w X j p) (Na<|.lst<|bh.map mtT)<|ts.map mtT] (by kernel_rfl) ⟨⟨bh,ts,rfl,rfl,c7,ct,by rw[← c7.length_eq];exact dh,pl.rm.less<|by decide⟩,trivial⟩ ?_;refine aCU pl [] ts mtT naF (aOZ a b (smA a b .none oc<|smT dj ds dp) X.d) (λi s=>s.2.2.2.length<=i) (naE ((0,0,0),[])) (.lst<|ts.map mtT) [] (by kernel_rfl) (by kernel_rfl) trivial (λO=>rfl) (bM<|.inr ⟨⟨_,_,_,rfl⟩,λd A=>?_⟩) (C4 _) (λi t s y g=>⟨tq pl [] [naC s t=Nd->Al [(s.2.2.1 != 0)=Nc->Al [s.2.2.2.length<=B9]]] (by kernel_rfl) ⟨λO=>⟨λO=>⟨?_,trivial⟩,trivial⟩,trivial⟩,?_⟩) λh=>?_
 .obtain⟨t,_,rfl⟩:=C1.mp A;exact .inr ⟨_,_,_,rfl⟩
 .have:=(A4.mp y).1;rw[C5];exact(l03<|.i (.S .b<|.k 64)<|.i (.L .a .c)<|.i (.S .c .b) jQ) dh g this
 .show(if naC s t=Nc then s.2.2.2 else kW s).length<=i+1;unfold kW;split
  .exact AB1 g
  .split
   .rw[A5];exact K8 g
   .exact AB1 g
 rw[aGP] at h ⊢;generalize g:ts.foldl dX ((0,0,0),[])=s at h ⊢;have u:(kW<|naE s).length<=65:=by
  unfold kW;split
  .rw[A5];exact K8 (A9 h<|I2 dh)
  .exact A9 h<|A9 (I2 dh)<|by decide
 refine xsr pl 2 [] (aOZ a b (smA a b .none oc<|smT dj ds dp) X.d (s.1.1,s.1.2.1,s.1.2.2,kW (naE s)++[.tup [.int (a.map Dt.str).length,.int (b.map Dt.str).length,.int 0]])) [((naE s).2.2.1 != 0)=Nc->Al [(naE s).2.2.2.length<=B9],(kW<|naE s).length<=B9] (by kernel_rfl) ⟨λO=>⟨?_,trivial⟩,?_,trivial⟩ ?_
 .rw[C5];exact A9 h (A9 (I2 dh)<|by decide)
 .rw[C5];exact A9 u<|by decide
 rw[wN,A1,A1,show bW a.length b.length ts=kX a.length b.length s from congrArg _ g];have x:(kX a.length b.length s).length<=1000000:=by
  have e:=congrArg Y0<|wN a.length b.length s;rw[A5,A1] at e;rw[← e];exact A9 (Nat.add_le_add_right u 1)<|by decide
 generalize kX a.length b.length s=us at x ⊢;exact xse pl 2 [.z 2,.n<|.lst<|us.map mtT,.z 3] (smA a b (.lst<|us.map mtT) oc<|smT dj ds dp) [EvE (gmC w X j p) (aOY a b (smA a b .none oc<|smT dj ds dp) X.d (us.map tpT)<|naE s) (asV<|gmB.drop 12) (.o 3) {aOY a b (smA a b .none oc<|smT dj ds dp) X.d (us.map tpT) (naE s) with o:=[.ins 1,.ns<|smA a b .none oc<|smT dj ds dp,.fz<|.lst<|us.map tpT,.lst<|us.map mtT]}] (by kernel_rfl)
  ⟨aPV (aEv (bC (aU<|by kernel_rfl) rfl) rfl) pl.rm pl.toFn3 rfl rfl rfl (by kernel_rfl) (by kernel_rfl) (by kernel_rfl) x,trivial⟩ rfl
def dI(w:E9)(f:Jm)(n:Nat):HP->OD:=λO o=>∃bc,dH (IV bc f) (bc.length<=n)<|dcD (intKind P w) bc o
def jD(w:E9)(f:Jm):HP->A3->Prop:=λZ v=>Ex2 λa b=>lY (v=.ref a) ((a==AA8)=Nd) (IV b f)<|AtZ Z a<|dcD (intKind P w) b
def jgD(w:E9)(f:Jm):HP->A3->Prop:=λZ v=>∃b,v=.ref b/\Ex2 λa d=>lY (AtZ Z b<|bdD "dict.get"<|.ref a) ((a==AA8)=Nd) (IV d f)<|AtZ Z a<|dcD (intKind P w) d
def b2D(w:E9)(b:List Str):HP->A3->Prop:=λZ v=>∃dd,v=.ref dd/\B2J w (λO=>True) Z dd b
def jkE:HP->A3->Prop:=λZ v=>∃a,v=.ref a/\AtZ Z a oF
def oO:HP->A3->Prop:=λZ v=>∃a,aHc a Z v
theorem aBP(Z Z':HP)(v:A3)(l:HP.le Z Z')(x:oO Z v):oO Z' v:=A2 x λa q=>⟨a,aDX a Z Z' v l q⟩
theorem aAY:aAe oO:=⟨"set.__contains__",λZ v x=>by obtain⟨a,b,e,d,g⟩:=x;exact⟨b,_,e,d⟩⟩
theorem aAX(w:E9)(x:Str):xU w oO [.str x] (.bool Nd):=λA Z h g b k os v i e d s q r=>A2 q λa q=>aMm w a x A Z h g b k os v i e d s q r
theorem aDV(w:E9)(f:Jm)(Z Z':HP)(v:A3)(l:HP.le Z Z')(x:jgD w f Z v):jgD w f Z' v:=by
 obtain⟨b,e,a,d,g,h,i,j⟩:=x;exact⟨b,e,a,d,g.le l,h,i,j.le l⟩
theorem aH7(w:E9)(f:Jm)(Z Z':HP)(v:A3)(l:HP.le Z Z')(x:jD w f Z v):jD w f Z' v:=by
 obtain⟨a,b,e,d,g,h⟩:=x;exact⟨a,b,e,d,g,h.le l⟩
theorem aPk(w:E9)(f:Jm):aAe<|jgD w f:=⟨_,λZ v x=>by obtain⟨b,e,a,g,d,_⟩:=x;exact⟨b,_,e,d⟩⟩
theorem aPj(w:E9)(f:Jm)(j:Int):xU w (jgD w f) [.int j,.int 0] (.int<|(f j).getD 0):=λA Z h g E k os v Q I d s q r=>by
 obtain⟨b,rfl,a,C,u,x,y,B⟩:=q;obtain⟨N,O,rfl,n,o⟩:=r.two;obtain⟨J,rfl⟩:=n.inv;obtain⟨p,rfl⟩:=o.inv;obtain⟨M,e⟩:=y.get j p;exact vH (d h s) x (B.up s) (u.up s) (intKind_is _ _ _ _) λi=>by rw[e];exact⟨h,g,i,rfl,aM.refl _,.int _ _⟩
theorem yD{a:E3}(gz:GZ w Z)(s:Sub Z h)(n:Z a=Nb):(a==AA8)=false:=by
 have k:=vN gz s n;refine beq_eq_false_iff_ne.mpr λe=>?_;rw[e] at k;have q:((K w.params).lookup AA8).isSome=true:=by kernel_rfl
 rw[k] at q;cases q
theorem Pt.newE{b:Bool}(p:Pt c H S){o:Ow}(k:aM p.h h')(na:p.h.get? I=Nb)(lv:o.lv=Nc)(at_:At h' I<|OwR ⟨bP p.φ.Z p.h h' [I],p.φ.α++[I]⟩ o)(l:Lt b φ p.φ):EvP c (b&&Nc) φ H SvR (.o S.o.length) {S with o:=S.o++[o]} (.ref I) ⟨h',p.g,S.d,p.k,c.os⟩:=
 ⟨⟨⟨bP p.φ.Z p.h h' [I],p.φ.α++[I]⟩,h',p.g,p.k,p.rm,p.gz.le<|aW p.rel.sub,p.gg,p.rel.alloc k na lv at_⟩,rfl,l.tr ⟨aW p.rel.sub,λO=>M3 _ _⟩,I,by rw[← p.rel.len];exact D9,rfl⟩
theorem aJg:EvE c S (.Dict [] [] pos) (.o S.o.length) {S with o:=S.o++[.any<|dI c.w (λO=>Nb) 0]}:=
 ⟨λH p=>aBi λa i h g e d=>p.newE (b:=Nc) e g rfl (A2 (d<|intKind P c.w) λb q=>⟨b,q.1,_,.refl _,[],IV.nil,C4 _,q.2⟩) .refl⟩
theorem aIB{z:Nat}{f:Jm}(e:S.o[n]?=Na (.any<|dI c.w f z)):Wks c S {S with o:=S.o.set n (.fz<|.ob<|jD c.w f)}:=
 ⟨rfl,λd H h r R=>by
  have u:=(A4.mp e).1;obtain⟨a,p⟩:∃a,d.α[n]?=Na a:=⟨_,B1 (by rw[R.len];exact u)⟩
  have w:Liv d.α S.o n a<|.any<|dI c.w f z:=⟨p,e,rfl⟩
  have B:=yD r R.sub (R.own w).z;obtain⟨Z,C⟩:=d;exact A2 (R.frz w λg le q=>.ob (aH7 c.w f) (A2 q λb y=>by
   obtain⟨j,E,J,i,x,I,A⟩:=y;exact⟨a,i,rfl,B,x,b,j,A⟩)) λg q=>⟨⟨g,C⟩,q.1,q.2⟩⟩
theorem aKI{z:Nat}{f:Jm}(e:S.o[n]?=Na (.any<|dI c.w f z))(hz:z<=B):Wks c S {S with o:=S.o.set n (.any<|dI c.w f B)}:=
 ⟨rfl,λp H h r R=>⟨p,.refl _,R.set n _ (λa d=>⟨λO=>have w:=R.own ⟨d,e,rfl⟩;⟨A2 w.at_ λb q=>⟨b,q.1,A2 q.2 λg y=>⟨g,y.1,A2 y.2 λj x=>⟨j,x.1,A9 x.2 hz,x.3⟩⟩⟩,w.z,w.n⟩,nofun⟩) λO i a x d w=>R.inj i n a x _ w ⟨d,e,rfl⟩⟩⟩
theorem aPW{f:Jm}(hb:eval (.Attribute e (S9 "get") pos) c.env=(do
   let ov ← eval e c.env
   standAt pos.atName
   let r ← holding [ov] (getAttr ov (S9 "get") Nc)
   letTemporaryGo e ov r
   pure r)) (x:EvE c S e (.d<|.ob<|jD c.w f) S):EvE c S (.Attribute e (S9 "get") pos) (.d<|.ob<|jgD c.w f) S:=
 ⟨λH p=>vE hb (x.go p λg u l1 B=>by
  obtain⟨a,o,rfl,C,E,j⟩:=Rp.obI B;exact zQ g.G (j.up g.rel.sub) λb q y A i n=>((g.grow i []).tk y).end (l1.tr<|g.growL i []) (.dt (.ob (aDV c.w f) ⟨b,rfl,a,o,by
   show AtZ (bP g.φ.Z g.h q []) b _;rw[eK];exact cF A n,C,E,j.le (g.growL (b:=Nc) i []).le⟩)))⟩
theorem aPS{o:Expr}(hb:eval (.Attribute o (S9 "__contains__") pos) c.env=(do
   let ov ← eval o c.env
   standAt pos.atName
   let r ← holding [ov] (getAttr ov (S9 "__contains__") Nc)
   letTemporaryGo o ov r
   pure r)) (x:EvE c S o (.d<|.ob jkE) S):EvE c S (.Attribute o (S9 "__contains__") pos) (.d<|.ob oO) S:=
 ⟨λH p=>vE hb (x.go p λe u l1 y=>by
  obtain⟨a,rfl,i⟩:=Rp.obI y;exact aEd e.G (i.up e.rel.sub) λb n q w g j=>((e.grow g []).tk q).end (l1.tr<|e.growL g []) (.dt (.ob aBP ⟨a,b,rfl,by
   show AtZ (bP e.φ.Z e.h n []) b _;rw[eK];exact cF w j,i.le (e.growL (b:=Nc) g []).le⟩)))⟩
theorem aQq{o:Expr}{m z:Nat}{f:Jm}(x:EvE c S o (.o m) S)(y:EvE c S ah (.d<|.int j) S)(e:S.o[m]?=Na (.any<|dI c.w f z))(hz:z<=B9):AsT c S (.Subscript o ah pos) (.d<|.int lo) {S with o:=S.o.set m (.any<|dI c.w (λx=>if x=j then Na lo else f x)<|z+1)}:=
 ⟨λH p v R=>aA8 (x.go p λN u l1 O=>y.go N λh Z n Q=>by
  obtain⟨t,rfl⟩:=Rp.inv R;obtain⟨Y,rfl⟩:=Rp.inv Q;obtain⟨a,A,rfl⟩:=O.up n;have w:Liv h.φ.α S.o m a<|.any<|dI c.w f z:=⟨A,e,rfl⟩
  obtain⟨b,B,T,V,U,E,i,I⟩:=(h.rel.own w).at_;refine aL6 ⟨b,B,I⟩ (intKind_is _ _ _ _) (A9 i hz) λC J r M=>?_;exact(⟨h.φ,C,h.g,J,h.rm,h.gz,h.gg,h.rel.upd w rfl M<|A2 r λb q=>⟨b,q.1,_,.refl _,_,E.put j lo t,A9 (yF _ _ _)<|K8 i,q.2⟩⟩:Pt c H {S with o:=S.o.set m (.any<|dI c.w (λx=>if x=j then Na lo else f x)<|z+1)}).end (l1.tr n) trivial)⟩
theorem aDZ{js:List Int}(x:IntsAre us js):Rps Z (js.map .int) us:=by
 induction x with
 | nil=>exact .nil
 | cons n t _ a=>exact .cons (.int n t) a
theorem aP1:aFy c S (.d<|.ob<|b2D c.w b) (S9 "get") "dict.get":=
 ⟨λH p v r pl=>by
  obtain⟨e,rfl,T,a,_⟩:=Rp.obI r;exact aB2 PySem.F.slot_dict_get PySem.F.type_dict_get (a.up p.rel.sub) ⟨rfl,rfl⟩⟩
theorem aOM(ed:drf S s'=Na (.lst [],Nd)):OpS c S SvR (cal<|.builtin "dict.get") [.d<|.ob<|b2D c.w b,.d<|.str y,s'] (.d<|.lst<|(bix b y).map .int) S:=
 ⟨λH p I r=>by
  cases r with
  | cons j r=>cases r with
   | cons n r=>cases r with
    | cons o r=>
     cases r
     obtain⟨C,rfl,T,u,x,A,B,_⟩:=Rp.obI j;obtain⟨t,rfl⟩:=Rp.inv n;obtain⟨nl,J,rfl,g,rn⟩:=Rp.inv<|(jW ed p.rel o).2 rfl;cases rn
     refine aNo x (u.up p.rel.sub) (strKind_is _ _ _ _) λi=>?_;obtain⟨a,E,e,_,h,q⟩:=B.look A y p.rel.sub<|g.up p.rel.sub;rw[e];refine(p.tk i).here<|.dt<|.lst ?_<|aDZ h;obtain q|⟨rfl,rfl⟩:=q
     .exact q
     .exact g⟩
end
section
variable{c:C3}{H R:TT}
noncomputable abbrev C3.wG(c:C3)(G:Array H9->Prop):C3:={c with G:=G}
theorem Rl3.wG(q:Rl3 c φ H S h)(G:Array H9->Prop):Rl3 (c.wG G) φ H S h:=⟨q.len,q.ok,q.inj,q.ns,q.hid,q.sub,q.hz,q.nd,q.cl⟩
theorem aLZ{α:Type}{a:α}{l m:List α}(h:(a::(l++m)).Nodup):lY (a∉l) (a∉m) l.Nodup<|∀x∈l,x∉m:=by
 obtain⟨n,e⟩:=B6.mp h;obtain⟨b,_,d⟩:=P2.mp e;exact⟨λi=>n<|E0 _ i,λi=>n<|J2 _ i,b,λx i j=>d x i x j rfl⟩
theorem Rl3.susp(q:Rl3 c φ (T++R) S h):∃X,SX φ.Z (X++R) h/\∀Z' R' h',HP.le φ.Z Z'->SX Z' (X++R') h'->Rl3 c ⟨Z',φ.α⟩ (T++R') S h':=by
 have N:(c.env.locals::(T.map (·.1)++R.map (·.1))).Nodup:=by have:=q.nd;rw[C3.X,B4] at this;exact this
 have y:=aLZ N;have M:∀{a},a∈R.map (·.1)->a∈c.X (T++R):=λi=>.tail _ (by rw[B4];exact J2 _ i);refine⟨jI φ.Z h<|R.map (·.1),⟨q.sub,λp hp=>?_,λp hp=>?_,?_⟩,λZ' R' h' le g=>?_⟩
 .obtain hp|hp:=E4.mp hp
  .obtain⟨_,o,e,r⟩:=eE (oG hp).1;rw[r];exact⟨o,e,rfl⟩
  .exact q.hid p (J2 _ hp)
 .obtain hp|hp:=E4.mp hp
  .exact(eE (oG hp).1).1
  .exact q.hz _ (M<|C9 hp)
 .rw[B4];refine P2.mpr ⟨(qZ φ.Z h).sublist<|List.filter_sublist.map _,(P2.mp (B6.mp N).2).2.1,λa d b B e=>?_⟩;subst e;exact aCP B d
 have A:∀{b o},φ.Z b=Nb->h.get? b=Na o->b∉R.map (·.1)->dH (h'.get? b=Na o) (Z' b=Nb) (b∉R'.map (·.1)):=λ{b o} z e n=>by
  have i:=uP z e n;have u:=g.nd;rw[B4] at u;obtain⟨o',O,r⟩:=g.at_ _<|E0 _ i;exact⟨(r)▸O,g.new _<|E0 R' i,λj=>(P2.mp u).2.2 _ (C9 i) _ j rfl⟩
 have l:Lt Nc φ ⟨Z',φ.α⟩:=.z le;obtain⟨m,⟨oL,Y,V,Q,rL⟩,nr⟩:=q.ns;have C:=A (q.hz _<|.head _) Q y.2;have E:∀p∈T,∃o,lY (h'.get? p.1=Na o) (p.2 o) (Z' p.1=Nb)<|p.1∉R'.map (·.1):=λp hp=>by
  obtain⟨o,e,r⟩:=q.hid p<|E0 _ hp;have k:=A (q.hz _<|.tail _<|C9<|E0 _ hp) e<|y.4 _<|C9 hp;exact⟨o,k.1,r,k.2,k.3⟩
 refine⟨q.len,λi a o I J=>⟨λlv=>?_,λx e=>((q.ok i a o I J).fz x e).up le⟩,q.inj,⟨m,⟨oL,Y,V,C.1,rL⟩,nr.up l⟩,λp hp=>?_,g.sub,λa d=>?_,?_,q.cl⟩
 .have w:=q.own ⟨I,J,lv⟩;obtain⟨b,U,qb⟩:=w.at_;have k:=A w.z U λi=>w.n<|M i;refine⟨⟨b,k.1,qb.up l⟩,k.2,λi=>?_⟩;obtain i|i:=A8.mp i
  .exact w.n (i▸.head _)
  .rw[B4] at i;obtain i|i:=E4.mp i
   .exact w.n (.tail _ (by rw[B4];exact E0 _ i))
   .exact k.3 i
 .obtain hp|hp:=E4.mp hp
  .obtain⟨o,e,r,_⟩:=E p hp;exact⟨o,e,r⟩
  .exact g.at_ p (J2 _ hp)
 .obtain rfl|d:=A8.mp d
  .exact C.2
  .rw[B4] at d;obtain d|d:=E4.mp d
   .obtain⟨p,hp,rfl⟩:=C1.mp d;obtain⟨o,_,_,z,_⟩:=E p hp;exact z
   .obtain⟨p,hp,rfl⟩:=C1.mp d;exact g.new p (J2 _ hp)
 .have u:=g.nd;rw[B4] at u;rw[C3.X,B4];refine B6.mpr ⟨λi=>(E4.mp i).elim y.1 C.3,P2.mpr ⟨y.3,(P2.mp u).2.1,λa d b B e=>?_⟩⟩;subst e;obtain⟨p,hp,rfl⟩:=C1.mp d;obtain⟨o,_,_,_,n⟩:=E p hp;exact n B
end
structure GC where
 w:E9
 env:Env
 os:U1
 n:Nat
 d:D8
 outs:List Dt
variable{θ:GC}
noncomputable abbrev GC.c(θ:GC)(A:M2)(G:Array H9->Prop):C3:=⟨θ.w,A,θ.env,θ.os,[],G,[]⟩
variable{c:Int}
abbrev GC.D(θ:GC):pY GhV:=aEG θ.outs θ.d θ.os
variable{D:OD}
abbrev PtY(θ:GC)(T:TT)(G:GG)(A:M2)(g:GhV)(S:Sd):Type:=Pt (θ.c A λa=>GX a<|G++g.G) (T++g.R) S
structure FrY(θ:GC)(A:M2)(code:Code)(fs:List Frame):Prop where
 rm:Rm (A.over code fs) θ.n
 sp:splitAtGen fs=Nb
 gu:fs.any Frame.guarded=Nd
noncomputable def aNN(θ:GC)(T:TT)(G:GG)(N:Nat)(S:Sd)(β γ:Type)(R:RT β γ)(t:Sem γ)(x:β)(N':Nat)(S':Sd):Prop:=∀A code fs,FrY θ A code fs->∀g(p:PtY θ T G (A.over code fs) g S),HP.le g.Z p.φ.Z->∀(K:γ->Sem PySem.Fin)(H:A3->Sem PySem.Fin) gd lv,gd Nd=Nd->(∀g' (p':PtY θ T G (A.over code fs) g' S') v,HP.le p.φ.Z p'.φ.Z->HP.le g'.Z p'.φ.Z->R p'.φ x v->Sg (model P θ.w) A θ.D N' g' code (K v) fs p'.s)->Sg (model P θ.w) A θ.D N g code (t.wrap K H gd lv) fs p.s
structure Yv(θ:GC)(T:TT)(G:GG)(N:Nat)(S:Sd){β γ:Type}(R:RT β γ)(t:Sem γ)(x:β)(N':Nat)(S':Sd):Prop where
 of::run:aNN θ T G N S β γ R t x N' S'
abbrev YvX(θ:GC)(T:TT)(G:GG)(N:Nat)(S:Sd)(b:List F9)(o:Ou)(N':Nat)(S':Sd):Prop:=Yv θ T G N S OuR (execs b θ.env) o N' S'
theorem xY{β γ:Type}{R:RT β γ}{t:Sem γ}{x:β}(q:∀A Gp,Rm A θ.n->EvT (θ.c A Gp) b' S R t x S1):Yv θ T G N S R t x N S1:=
 ⟨λA code b fr g p le K H h lv i e=>dD (WP.in (((q (A.over code b) (λa=>GX a<|G++g.G) fr.rm).run _ p).mono λv s y=>by
  obtain⟨d,rfl,l,r⟩:=y;exact e g d v l.le (le.trans l.le) r)).run⟩
theorem fV:YvX θ T G N S [] .next N S:=xY λO O O=>cJ
theorem aIy(x:YvX θ T G N S b1 .next N1 S1)(y:YvX θ T G N1 S1 b2 o N2 S2):YvX θ T G N S (b1++b2) o N2 S2:=
 ⟨λA code a fr g p le K H b lv d u=>by
  rw[aBZ];refine x.run A code a fr g p le _ H b lv d λe q v l1 i w=>?_;cases (w)
  exact y.run A code a fr e q i K H b lv d λh r v j n B=>u h r v (l1.trans j) n B⟩
theorem yq(k:Nat)(hs:List Hi)(T1:Sd)(ps:List Prop)(pl:∀{A Gp},Rm A θ.n->P3 (θ.c A Gp) θ.n)(h:∀A Gp(rm:Rm A θ.n),(aCR (pl (Gp:=Gp) rm) S hs (b1.take k) T1).map (·.1)=Na (T1,ps))(a:Al ps)(q:YvX θ T G N T1 (b1.drop k) o N2 S2):YvX θ T G N S b1 o N2 S2:=
 G3 k b1▸aIy (xY λA Gp rm=>aP (h A Gp rm) a) q
theorem yx(q:∀A Gp,Rm A θ.n->EvX (θ.c A Gp) S b1 o S1):YvX θ T G N S b1 o N S1:=xY q
theorem tV{st:F9}(x:Yv θ T G N S OuR (exec st θ.env) .next N1 S1)(y:YvX θ T G N1 S1 b1 o N2 S2):YvX θ T G N S (st::b1) o N2 S2:=
 ⟨λA code a fr g p le K H b lv d u=>by
  rw[execs_cons_wrap];refine x.run A code a fr g p le _ H b lv d λe q v l1 i w=>?_;cases (w)
  exact y.run A code a fr e q i K H b lv d λh r v j n B=>u h r v (l1.trans j) n B⟩
theorem aIx(b:Bool)(x:∀A Gp,Rm A θ.n->EvB (θ.c A Gp) S e b S1)(q1:b=Nc->YvX θ T G N S1 body o N2 S2)(q2:b=Nd->YvX θ T G N S1 orelse o N2 S2):Yv θ T G N S OuR (exec (.If e body orelse pos) θ.env) o N2 S2:=
 ⟨λA code a fr g p le K H gd lv u q=>by
  refine dD (K:=λO=>Sem.wrap K H gd lv (do if ← isTrue e θ.env (eval e θ.env) then execs body θ.env else execs orelse θ.env)) (H:=H) (gd:=gd) (lv:=lv)<|P8 ?_;rw[L2,M9];refine dD (WP.in<|((x (A.over code a) _ fr.rm).run _ p).mono λv s y=>?_).run;obtain⟨w,rfl,l1,B⟩:=y;obtain rfl:v=b:=B;cases v with
  | true=>exact(q1 rfl).run A code a fr g w (le.trans l1.le) K H gd lv u λd j v h i r=>q d j v (l1.le.trans h) i r
  | false=>exact(q2 rfl).run A code a fr g w (le.trans l1.le) K H gd lv u λd j v h i r=>q d j v (l1.le.trans h) i r⟩
theorem aFL(fp:θ.env.scope.isCoroutine=Nd)(hi:interactive θ.env=Nd)(hd:S1.d=θ.d)(x:∀A Gp,Rm A θ.n->EvE (θ.c A Gp) S e s' S1)(es:drf S1 s'=Na (dt,Nd))(iw:θ.outs[θ.outs.length-(N+1)]?=Na dt):Yv θ T G (N+1) S OuR (exec (.Expr (.Yield (Na e) pp) pos) θ.env) .next N S1:=
 ⟨λA code i fr g p le K H r lv w q=>by
  rw[exec_Expr θ.env _ pos hi rfl];show Sg _ A _ (N+1) g code (.at pos λO=>((eval e θ.env >>= λv=>(standAt pp >>= λO=>yieldOut θ.env v)) >>= λx=>dropValue (.Yield (Na e) pp) pos x).wrap K H r lv) i _;have B:∀v,yieldOut θ.env v=yieldValue v:=λv=>by simp only[yieldOut,fp,Bool.false_eq_true,if_false]
  simp only[B];refine aAo ?_;rw[L2,L2,M9,M9];refine dD (WP.in<|((x (A.over code i) _ fr.rm).run _ p).mono λv s' y=>?_).run;obtain⟨a,rfl,l1,I⟩:=y;refine aAo<|aCL fr.sp w fr.gu ?_;obtain⟨X,J,back⟩:=a.rel.susp;refine⟨a.h,a.g,a.k,a.φ.Z,X,G,dt,iw,by rw[← hd],le.trans l1.le,(jW es a.rel I).2 rfl,J,a.gg,λj u o C b M E=>?_⟩;rw[← hd];exact q j ⟨⟨j.Z,a.φ.α⟩,u,o,C,a.rm,a.gz.le b,E,(back _ _ _ b M).wG _⟩ .next (l1.le.trans b) (.refl _) rfl⟩
inductive TnY(θ:GC)(T:TT)(G:GG)(N:Nat)(S:Sd)(b:List F9)(N':Nat)(S':Sd):Prop
 | next (S1:Sd) (x:YvX θ T G N S b .next N' S1) (w:∀A Gp,Wks (θ.c A Gp) S1 S'):TnY θ T G N S b N' S'
 | cont (S1:Sd) (x:YvX θ T G N S b .cont N' S1) (w:∀A Gp,Wks (θ.c A Gp) S1 S'):TnY θ T G N S b N' S'
theorem TnY.go{b:List F9}(x:TnY θ T G N S b N1 S1)(fr:FrY θ A code fs){g:GhV}(p:PtY θ T G (A.over code fs) g S)(le:HP.le g.Z p.φ.Z){H:A3->Sem PySem.Fin}
  (q:∀g' (p':PtY θ T G (A.over code fs) g' S1),HP.le p.φ.Z p'.φ.Z->HP.le g'.Z p'.φ.Z->Sg (model P θ.w) A θ.D N1 g' code (.pure<|.again c') fs p'.s):Sg (model P θ.w) A θ.D N g code ((execs b θ.env).wrap (aAU c') H id id) fs p.s:=by
 cases x with
 | next n x w=>
  exact x.run A code fs fr g p le _ _ _ _ rfl λd h v l1 e j=>by
   cases (j)
   exact(w _ _).go h λi a=>q d i (l1.trans a.le)<|e.trans a.le
 | cont n x w=>
  exact x.run A code fs fr g p le _ _ _ _ rfl λd h v l1 e j=>by
   cases (j)
   exact(w _ _).go h λi a=>q d i (l1.trans a.le)<|e.trans a.le
theorem FrY.loop(fr:FrY θ A code fs){K:U4->Sem PySem.Fin}{H:A3->Sem PySem.Fin}(hg:gd Nd=Nd){p:Pos}{it:A3}:FrY θ A (.forLoop target it body [] θ.env)<|frK K H gd lv θ.env code p::fs:=⟨aGn fr.rm,yH fr.sp,zM hg fr.gu⟩
noncomputable def Pt.fr{A A':M2}{g:GhV}(p:PtY θ T G A g S)(rm:Rm A' 0):PtY θ T G A' g S:=⟨p.φ,p.h,p.g,p.k,rm,p.gz,p.gg,⟨p.rel.len,p.rel.ok,p.rel.inj,p.rel.ns,p.rel.hid,p.rel.sub,p.rel.hz,p.rel.nd,p.rel.cl⟩⟩
theorem aO4(R:Nat->Nat×Sd)(hf:∀x,K0 iter θ.env x=pure x)(hd:∀i,(R i).2.d=S1.d)(x:∀A Gp,Rm A θ.n->EvE (θ.c A Gp) S iter (.d oc) S1)(it:Itr θ.w oc xs target)(w:∀A Gp,Wks (θ.c A Gp) S1 (R 0).2)(e0:(R 0).1=N)(step:∀T' i y,xs[i]?=Na y->∃S2,(∀A Gp,AsT (θ.c A Gp) (R i).2 target (.d y) S2)/\TnY θ T' G (R i).1 S2 body (R<|i+1).1 (R<|i+1).2):Yv θ T G N S OuR (exec (.For target iter body [] pos) θ.env) .next (R xs.length).1 (R xs.length).2:=
 ⟨λA code b fr g p le K H gd lv hg q=>aCM hf (((x (A.over code b) _ fr.rm).go p (E:=FF) (Post:=λx B=>M8 (model P θ.w) (A.over code b) (Y1 x) (λit M=>∀p,Sg (model P θ.w) A θ.D N g (.forLoop target it body [] θ.env) ((model P θ.w).den<|.forLoop target it body [] θ.env) (frK K H gd lv θ.env code p::b) M) FF B) λp1 u l1 r1=>(p1.iter it r1 (E:=FF) (Q:=λit M=>∀p,Sg (model P θ.w) A θ.D N g (.forLoop target it body [] θ.env) ((model P θ.w).den<|.forLoop target it body [] θ.env) (frK K H gd lv θ.env code p::b) M) λI D p0 l0 bz j=>(w _ _).go p0 (P:=λs=>Sg (model P θ.w) A θ.D N g (.forLoop target (.ref I) body [] θ.env) ((model P θ.w).den<|.forLoop target (.ref I) body [] θ.env) (frK K H gd lv θ.env code j::b) s) λp2 l2=>by
  have j9:=fr.loop (K:=K) (H:=H) (gd:=gd) (lv:=lv) hg (p:=j) (target:=target) (it:=.ref I) (body:=body);have ki:=j9.rm.less<|C8 _;have rm0:=fr.rm.less<|C8 _;have ed:=hd;have loop:∀m i,i+m=xs.length->∀h(o:PtY θ ((I,D i)::T) G (A.over (.forLoop target (.ref I) body [] θ.env)<|frK K H gd lv θ.env code j::b) h (R i).2),HP.le p1.φ.Z o.φ.Z->HP.le p.φ.Z o.φ.Z->HP.le h.Z o.φ.Z->Sg (model P θ.w) A θ.D (R i).1 h (.forLoop target (.ref I) body [] θ.env) ((model P θ.w).den<|.forLoop target (.ref I) body [] θ.env) (frK K H gd lv θ.env code j::b) o.s:=by
   intro m;induction m with
   | zero=>
    intro i V h o U gb oh;obtain rfl:i=xs.length:=V;refine iI (B7 (Pt.stop (c:=θ.c (A.over (.forLoop target (.ref I) body [] θ.env)<|frK K H gd lv θ.env code j::b) λa=>GX a<|G++h.G) bz o (ed _) U (E:=FF) (Q:=λr B=>r=Nb/\Sg (model P θ.w) A θ.D (R xs.length).1 h code (K .next) b B) λJ C=>⟨rfl,q h (Pt.fr J rm0) .next (by show HP.le _ J.φ.Z;rw[C];exact gb) (by show HP.le _ J.φ.Z;rw[C];exact oh) rfl⟩).run (λr B y=>?_) λO O e=>e.elim);obtain⟨rfl,y⟩:=y;exact mF rfl<|vY y
   | succ m ih=>
    intro i V h o U gb oh;have hl:=V▸Nat.lt_add_of_pos_right (AA9 m);obtain⟨S2,Y,tn⟩:=step ((I,D<|i+1)::T) i _<|B1 hl;refine iI (B7 (Pt.next (c:=θ.c (A.over (.forLoop target (.ref I) body [] θ.env)<|frK K H gd lv θ.env code j::b) λa=>GX a<|G++h.G) bz o (ed i) U hl (E:=FF) (Q:=λr B=>∃v,r=Na v/\M8 (model P θ.w) (A.over (.forLoop target (.ref I) body [] θ.env)<|frK K H gd lv θ.env code j::b) (M0 target (.ref I) v) (λO M=>M8 (model P θ.w) (A.over (.forLoop target (.ref I) body [] θ.env)<|frK K H gd lv θ.env code j::b) (assign target θ.env v) (λO s3=>Sg (model P θ.w) A θ.D (R i).1 h (.forLoop target (.ref I) body [] θ.env) ((execs body θ.env).wrap (aAU<|.forLoop target (.ref I) body [] θ.env) (aIM θ.env) id id) (frK K H gd lv θ.env code j::b) s3) FF M) FF B) λv J C rv own=>⟨v,rfl,(own ((Y _ _).go J (by rw[C];exact rv) λp5 l5=>?_).run).run⟩).run (λr B y=>?_) λO O e=>e.elim)
    rotate_left
    .obtain⟨v,rfl,y⟩:=y;exact y
    have oj:=C▸l5.le;exact tn.go j9 p5 (oh.trans oj) λg6 p6 l6 vn=>mF rfl<|ih (i+1) (by rw[Nat.succ_add];exact V) g6 p6 (U.trans<|oj.trans l6) (gb.trans<|oj.trans l6) vn
  exact e0▸loop xs.length 0 (V4 _) g (Pt.fr p2 ki) (l0.le.trans l2.le) (l1.le.trans<|l0.le.trans l2.le) (le.trans<|l1.le.trans<|l0.le.trans l2.le)).run).run)⟩
abbrev gG(gi:Nat)(gs:H9)(G G0:GG):Array H9->Prop:=λa=>GX a<|(gi,gs)::(G++G0)
inductive xT(c:C3)(H:TT)(S:Sd)(d:D8)(outs:List Dt)(n gi:Nat)(G0:GG)(bj:Fr):Option A3->A6->Prop
 | stop (p:Pt (c.wG λa=>GX a G0) H {S with d:=d}) (hn:n=0) (l:Lt Nc bj p.φ):xT c H S d outs n gi G0 bj Nb p.s
 | item (m:Nat) (v:A3) (dt:Dt) (X:TT) (G:GG) (gs:H9) (p:Pt (c.wG<|gG gi gs G G0) (X++H) {S with d:=d}) (hn:n=m+1) (eo:outs[outs.length-(m+1)]?=Na dt) (l:Lt Nc bj p.φ) (rv:Rp p.φ.Z dt v) (ok:aKz c.w outs d c.os c.A.in1 m p.φ.Z X G gs):xT c H S d outs n gi G0 bj (Na v) p.s
theorem oS{c:C3}{H:TT}{G0:GG}{gs:H9}(p:Pt (c.wG<|gG B gs G G0) (T++H) S)(vo:AtZ p.φ.Z I<|aHu B)(ok:sD c.w outs S.d d c.os c.A.in1 n p.φ.Z T G gs):WP c.w c.A (W5<|.ref I) (xT c H S d outs n B G0 p.φ) FF p.s:=by
 obtain⟨R,sx,back⟩:=(p.rel.permH W9).susp;have og:=(GX.set (s:=p.s) (G1:=[]) (y:=.running) rfl p.gg).perm (Q7 (l₁:=G)).symm;refine aMF (γ:=⟨p.φ.Z,R,(B,.running)::G0⟩) (D:=aEG outs d c.os) p.rm.hh p.G.nolimit p.rm.room (vo.up p.rel.sub).isGen (p.gg.at_ (B,gs)<|.head _) (ok _ p.h _ p.k (.refl _) (sx.perm W9) og) (λv V E m hb hm y=>?_) λx V y=>?_
 .obtain⟨J,Q,u,U,O,C,dt,M,rfl,le,rv,i,g,N⟩:=y;have e:=((back _ _ _ le<|i.perm W9).permH W9).wG<|gG B E C G0;exact xT.item m v dt O C E (⟨⟨U,p.φ.α⟩,J,_,u,p.rm,p.gz.le le,GX.set hb g,⟨e.len,e.ok,e.inj,e.ns,e.hid,e.sub,e.hz,e.nd,e.cl⟩⟩:Pt (c.wG<|gG B E C G0) (O++H) ⟨S.r,S.o,d⟩) hm M (.z le) rv λY j m7 ng fj om oo=>N Y j m7 ng fj om oo
 .obtain⟨hn,rfl,J,Q,u,rfl,i,g⟩:=y;refine⟨rfl,λj kp=>?_⟩;have e:=back p.φ.Z [] j (.refl _) (by rw[D0];exact i.keep kp);rw[D0] at e;have:=GX.set (s:=⟨J,Q,d,u,c.os⟩) (G1:=[]) (y:=.finished) rfl g;exact xT.stop (⟨p.φ,j,_,u,p.rm,p.gz,⟨λq hq=>this.at_ q<|.tail _ hq,(B6.mp this.nd).2,this.b⟩,⟨e.len,e.ok,e.inj,e.ns,e.hid,e.sub,e.hz,e.nd,e.cl⟩⟩:Pt (c.wG λa=>GX a G0) H ⟨S.r,S.o,d⟩) hn .refl
inductive MkP(c:C3)(H:TT)(S1:Sd)(d:D8)(outs:List Dt)(nI:Nat)(bj:Fr)(v:A3)(s:A6):Prop
 | mk (ag:E3) (X:TT) (gs:H9) (φ:Fr) (h:O7) (g:Array H9) (k:Nat) (ev:v=.ref ag) (es:s=⟨h,g.push gs,S1.d,k,c.os⟩) (gg:c.G g) (rel:Rl3 c φ (X++H) S1 h) (l:Lt Nc bj φ) (at_:AtZ φ.Z ag<|aHu g.size) (hb:gs.bare=Nc) (ok:∀A,Rm A nI->sD c.w outs S1.d d c.os A outs.length φ.Z X [] gs):MkP c H S1 d outs nI bj v s
structure MkG(c:C3)(S:Sd)(t:Sem A3)(outs:List Dt)(nI:Nat)(S1:Sd)(d:D8):Prop where
 of::run:∀H(p:Pt c H S),WP c.w c.A t (MkP c H S1 d outs nI p.φ) FF p.s
theorem aKC(bk:List Dt)(nI:Nat)(R:Nat->Nat×Sd)(hf:∀x,K0 iter θ.env x=pure x)(hn:nI+1<=θ.n)(hd:∀i,(R i).2.d=S1.d)(mk:∀A Gp,Rm A θ.n->MkG (θ.c A Gp) S (eval iter θ.env) bk nI S1 S1.d)(w:∀A Gp,Wks (θ.c A Gp) S1 (R 0).2)(e0:(R 0).1=N)
  (step:∀T' G' i y,bk[i]?=Na y->∃S2,(∀A Gp,AsT (θ.c A Gp) (R i).2 (.Name x px) (.d y) S2)/\TnY θ T' G' (R i).1 S2 body (R<|i+1).1 (R<|i+1).2):Yv θ T G N S OuR (exec (.For (.Name x px) iter body [] pos) θ.env) .next (R bk.length).1 (R bk.length).2:=
 ⟨λA code Q fr g p le K H gd lv hg q=>aCM hf (WP.in (((mk (A.over code Q) _ fr.rm).run _ p).mono λv s y=>by
  obtain⟨I,X,gs,h8,h1,g1,k1,rfl,rfl,gg1,a,l1,J,hb,ok⟩:=y;refine wpAny_pyIter_gen (J.up a.sub).isGen ?_;intro U;have j9:=fr.loop (K:=K) (H:=H) (lv:=lv) hg (p:=U) (target:=.Name x px) (it:=.ref I) (body:=body);have ki:=j9.rm.less<|C8 _;have rm0:=fr.rm.less<|C8 _;have iy:=p.gz.le l1.le;generalize me:g1.size=gi at J;have oq:=me▸gg1.push gs hb;have ow:=ok (A.over (.forLoop (.Name x px) (.ref I) body [] θ.env)<|frK K H gd lv θ.env code U::Q).in1 (j9.rm.less hn).in1;have loop:∀m i,i+m=bk.length->∀B X' dk G' (C:Pt ((θ.c (A.over (.forLoop (.Name x px) (.ref I) body [] θ.env)<|frK K H gd lv θ.env code U::Q) λO=>True).wG<|gG gi dk G'<|G++B.G) (X'++(T++B.R)) (R i).2),HP.le h8.Z C.φ.Z->HP.le B.Z C.φ.Z->aKz θ.w bk S1.d θ.os (A.over (.forLoop (.Name x px) (.ref I) body [] θ.env)<|frK K H gd lv θ.env code U::Q).in1 m C.φ.Z X' G' dk->Sg (model P θ.w) A θ.D (R i).1 B (.forLoop (.Name x px) (.ref I) body [] θ.env) ((model P θ.w).den<|.forLoop (.Name x px) (.ref I) body [] θ.env) (frK K H gd lv θ.env code U::Q) C.s:=by
   intro m;induction m with
   | zero=>
    intro i hi B X' dk G' C f9 gb kj;obtain rfl:i=bk.length:=hi;rw[← hd bk.length] at kj;refine iI<|B7 (oS C (J.le f9) kj).run (λr s1 y=>?_) λO O e=>e.elim;cases y with
    | stop b hn l4=>exact mF rfl<|vY<|q B ⟨b.φ,b.h,b.g,b.k,rm0,b.gz,b.gg,⟨b.rel.len,b.rel.ok,b.rel.inj,b.rel.ns,b.rel.hid,b.rel.sub,b.rel.hz,b.rel.nd,b.rel.cl⟩⟩ .next (l1.le.trans<|f9.trans l4.le) (gb.trans l4.le) rfl
    | item m v dt M V j b hn=>cases hn
   | succ m ih=>
    intro i hi B X' dk G' C f9 gb kj;rw[← hd i] at kj;refine iI<|B7 (oS C (J.le f9) kj).run (λr s1 y=>?_) λO O e=>e.elim;cases y with
    | stop b hn=>cases hn
    | item m' v dt M V j b hm eo l4 rv ok2=>
     cases hm
     rw[show bk.length-(m+1)=i from Nat.sub_eq_of_eq_add hi.symm] at eo;obtain⟨S2,ast,tn⟩:=step (M++T) ((gi,j)::(V++G)) i dt eo;refine(mJ ?_).run;have e1:M++(T++B.R)=(M++T)++B.R:=(B5 ..).symm;have p5:∃p5:PtY θ (M++T) ((gi,j)::(V++G)) (A.over (.forLoop (.Name x px) (.ref I) body [] θ.env)<|frK K H gd lv θ.env code U::Q) B (R i).2,p5.s=b.s/\p5.φ=b.φ:=⟨⟨b.φ,b.h,b.g,b.k,ki,b.gz,by
      show GX b.g ((gi,j)::((V++G)++B.G));rw[B5];exact b.gg,e1▸b.rel.wG _⟩,rfl,rfl⟩
     obtain⟨p5,es,Y⟩:=p5;rw[← es];refine((ast _ _).go p5 (by rw[Y];exact rv) λp6 l6=>?_).run;have rd:=l4.le.trans<|Y▸l6.le;refine tn.go j9 p6 (gb.trans rd) λg7 E l7 vt=>mF rfl ?_;have p8:∃p8:Pt ((θ.c (A.over (.forLoop (.Name x px) (.ref I) body [] θ.env)<|frK K H gd lv θ.env code U::Q) λO=>True).wG<|gG gi j V<|G++g7.G) (M++(T++g7.R)) (R<|i+1).2,p8.s=E.s/\p8.φ=E.φ:=⟨⟨E.φ,E.h,E.g,E.k,ki,E.gz,by
      have:=E.gg;show GX E.g ((gi,j)::(V++(G++g7.G)));rw[← B5];exact this,B5 M T g7.R▸E.rel.wG _⟩,rfl,rfl⟩
     obtain⟨p8,es8,u⟩:=p8;rw[← es8];exact ih (i+1) (by rw[Nat.succ_add];exact hi) g7 M j V p8 (f9.trans<|rd.trans<|u▸l7) (u▸vt) (by
      have re:=Y▸l6.le;obtain⟨Z4,hZ⟩:∃Z4,Z4=b.φ.Z:=⟨_,rfl⟩
      rw[← hZ] at ok2 re;rw[hd i] at ok2;rw[u];exact λγ h g k ox sx oy=>ok2 γ h g k (re.trans<|l7.trans ox) sx oy)
  have p2:∃p2:Pt ((θ.c (A.over (.forLoop (.Name x px) (.ref I) body [] θ.env)<|frK K H gd lv θ.env code U::Q) λO=>True).wG<|gG gi gs [] (G++g.G)) (X++(T++g.R)) S1,p2.s=⟨h1,g1.push gs,S1.d,k1,θ.os⟩/\p2.φ=h8:=⟨⟨h8,h1,g1.push gs,k1,ki,iy,oq,⟨a.len,a.ok,a.inj,a.ns,a.hid,a.sub,a.hz,a.nd,a.cl⟩⟩,rfl,rfl⟩
  obtain⟨p2,es2,o⟩:=p2;rw[← es2];exact e0▸(w _ _).go p2 λC l3=>loop bk.length 0 (V4 _) g X gs [] C (o▸l3.le) (le.trans<|l1.le.trans<|o▸l3.le) λγ h g k ox sx oy=>ow γ h g k (HP.le.trans (o▸l3.le) ox) sx oy)).run⟩
theorem tJ(q:YvX θ [] [] θ.outs.length S body o 0 S1)(ho:o=.next\/o=.ret (.d .none))(vu:S1.d=θ.d)(rel:∀A Gp Z' R' h',HP.le Z Z'->SX Z' (T++R') h'->Rl3 (θ.c A Gp) ⟨Z',Y⟩ R' S h')(gz:GZ θ.w Z)(rm:Rm (A.over (.func body θ.env) []) θ.n):sD θ.w θ.outs S.d θ.d θ.os A θ.outs.length Z T [] (.fresh<|.func body θ.env):=by
 intro B h g k le I C;refine aGb<|q.run A _ [] ⟨rm,rfl,rfl⟩ B ⟨⟨B.Z,Y⟩,h,g,k,rm.less<|C8 _,gz.le le,C,rel _ _ _ _ _ le I⟩ (.refl _) _ _ _ _ rfl λp a v l1 y r=>?_;have j:Sg (model P θ.w) A θ.D 0 p (.func body θ.env) (.pure<|.done<|.ret .none) [] a.s:=by
  refine aL2 (.ok<|.ret .none) ⟨rfl,rfl,a.h,a.g,a.k,by rw[← vu],⟨λb x e=>a.rel.sub b x<|y b x e,λx i=>a.rel.hid x i,λx i=>?_,(B6.mp a.rel.nd).2⟩,a.gg⟩;cases z:p.Z x.1 with
  | none=>rfl
  | some u=>have:=y _ _ z;rw[a.rel.hz _<|.tail _<|C9 i] at this;cases this
 obtain rfl|rfl:=ho
 .cases (r);exact j
 .obtain⟨u,rfl,E⟩:=r;cases Rp.inv E;exact j
section
variable{c:C3}
noncomputable abbrev C3.wA(c:C3)(A:M2):C3:={c with A:=A}
noncomputable def Pt.fr3{A:M2}{H:TT}(p:Pt c H S)(rm:Rm A 0):Pt (c.wA A) H S:=⟨p.φ,p.h,p.g,p.k,rm,p.gz,p.gg,⟨p.rel.len,p.rel.ok,p.rel.inj,p.rel.ns,p.rel.hid,p.rel.sub,p.rel.hz,p.rel.nd,p.rel.cl⟩⟩
inductive LgJ(c:C3)(H:TT)(S:Sd)(d:D8)(outs:List Dt)(nI gi:Nat)(a:E3)(bj:Fr)(n:Nat)(s:A6):Prop
 | mk (us:List A3) (X:TT) (G:GG) (gs:H9) (e:D8) (p:Pt (c.wG<|gG gi gs G []) (X++((a,aY us)::H)) ⟨S.r,S.o,e⟩) (hn:n<=outs.length) (l:HP.le bj.Z p.φ.Z) (ea:p.φ.α=bj.α) (ru:Rps p.φ.Z (outs.take<|outs.length-n) us) (ok:sD c.w outs e d c.os c.A.in1.in1.in1.in1 n p.φ.Z X G gs) (es:s=p.s):LgJ c H S d outs nI gi a bj n s
theorem aHM(hG:c.G=AA7)(pl:Fn3 c)(kl:c.env.kindOf (S9 "list")=Na .globalImplicit)(he:C0 [ah] c.env=(Nd,eval ah c.env)::C0 [] c.env)(mk:MkG c S (eval ah c.env) outs B ⟨S.r,S.o,dr⟩ d')(rm:Rm c.A<|B+4)(ko:Rm c.A 3)(hz:outs.length<=B9):EvE c S (.Call (.Name (S9 "list") pf) [ah] [] pos) (.d<|.lst outs) ⟨S.r,S.o,d'⟩:=
 xE ⟨λH p=>WP.gen λQ hQ=>gC (g_b p.G pl.k kl pl.g pl.b vI (tM he rfl (dZ he (WP.in ((mk.run H p).mono λv s y=>by
  obtain⟨ag,X,M,h8,h1,R,k1,rfl,rfl,gg1,U,l1,N,hb,ok⟩:=y;refine lG ?_;have iy:=p.gz.le l1.le;obtain⟨T,me⟩:∃T,R.size=T:=⟨_,rfl⟩
  rw[me] at N;have ab:AA7 R:=by rwa [hG] at gg1
  have oq:=me▸(⟨(λp hp=>by cases hp),List.nodup_nil,ab⟩:GX R []).push M hb;have ow:=ok c.A.in1.in1.in1.in1<|rm.in1.in1.in1.in1;have u:∃u:Pt (c.wG<|gG T M [] []) (X++H) ⟨S.r,S.o,dr⟩,u.s=⟨h1,R.push M,dr,k1,c.os⟩/\u.φ=h8:=⟨⟨h8,h1,R.push M,k1,p.rm,iy,oq,U.wG _⟩,rfl,rfl⟩
  obtain⟨u,es2,w⟩:=u;rw[← es2];have V:=w▸N;obtain⟨C,hA,na⟩:∃C,u.h.objs.size=C/\u.h.get? C=none:=⟨_,rfl,aG _⟩
  refine wQ (d8:=outs.length) (LgJ c H S d' outs B T C u.φ) hA F.gen_no_len F.gen_no_hint (by decide) (by decide) (V.up u.rel.sub).isGen.typeIs (λh1 kx q=>⟨wpAny_pyIter_gen ((V.up u.rel.sub).keepX kx (λz=>by
   obtain⟨o,e,_⟩:=V.up u.rel.sub;rw[C6.mp z,na] at e;cases e)).isGen q⟩) (λY kp jw=>?_) ?_
  .have J:∃J:Pt (c.wG<|gG T M [] []) (X++((C,aY [])::H)) ⟨S.r,S.o,dr⟩,J.s=⟨Y,u.g,dr,u.k,c.os⟩/\J.φ=⟨bP u.φ.Z u.h Y [C],u.φ.α⟩:=⟨⟨⟨bP u.φ.Z u.h Y [C],u.φ.α⟩,Y,u.g,u.k,u.rm,u.gz.le<|aW u.rel.sub,u.gg,(Rl3.hide u.rel kp na jw).permH Q7.symm⟩,rfl,rfl⟩
   obtain⟨J,es3,E⟩:=J;have l3:HP.le u.φ.Z J.φ.Z:=E▸aW u.rel.sub;exact .mk [] X [] M dr J (C4 _) l3 (by rw[E]) (by rw[N8];exact .nil) (λγ h g k le sx gx=>ow γ h g k (HP.le.trans (w▸l3) le) sx gx) es3.symm
  .rintro n s ⟨us,X',G',dk,e1,q,hn,fj,ea,ru,jj,rfl⟩;refine(oS (c:=c.wA c.A.in1.in1.in1) (q.fr3<|ko.in1.in1.in1) (V.le fj) jj).mono λr s1 y=>?_;cases y with
   | stop j hn0 I=>
    subst hn0;rw[Nat.sub_zero,I4] at ru;have x:=Rl3.unhide (c:=c) (o:=.lst outs) ⟨j.rel.len,j.rel.ok,j.rel.inj,j.rel.ns,j.rel.hid,j.rel.sub,j.rel.hz,j.rel.nd,j.rel.cl⟩ rfl<|A2 (j.rel.hid _<|.head _) λb y=>⟨b,y.1,us,y.2,ru.up I.le⟩;have oz:Lt Nc p.φ ⟨j.φ.Z,j.φ.α++[C]⟩:=⟨l1.le.trans<|HP.le.trans (w▸fj) I.le,λO=>(l1.pre rfl).trans<|((w▸ea▸I.pre rfl:h8.α <+: j.φ.α)).trans<|M3 _ _⟩
    exact hQ _ _ ⟨⟨⟨j.φ.Z,j.φ.α++[C]⟩,j.h,j.g,j.k,p.rm,j.gz,by rw[hG];exact j.gg.b,x⟩,rfl,oz,_,by
     have:=j.rel.len;rw[← show j.φ.α.length=S.o.length from this];exact D9,rfl⟩
   | item m v dt X2 G2 gs2 j hm eo I rv ok2=>
    subst hm;have R4:=j.rel.permH Q7;have len:=ru.len;rw[G4] at len;refine⟨us,R4.hid _<|.head _,A9 (by rw[len];exact A9 (Nat.min_le_right _ _)<|C4 _) hz,λh3 ny vv=>⟨m,I0 m,?_⟩⟩;have x:=((R4.hupd vv ny).permH Q7.symm)
    refine .mk (us++[v]) X2 G2 gs2 d' ⟨j.φ,h3,j.g,j.k,p.rm,j.gz,j.gg,⟨x.len,x.ok,x.inj,x.ns,x.hid,x.sub,x.hz,x.nd,x.cl⟩⟩ (X5 hn) (fj.trans I.le) ?_ ?_ ok2 rfl
    .obtain⟨t,et⟩:=I.pre rfl;have l1:=j.rel.len;have l2:=q.rel.len;have:t=[]:=by
      have:=congrArg Y0 et;rw[A5] at this;exact List.length_eq_zero_iff.mp<|Nat.add_left_cancel<|(this.trans<|l1.trans l2.symm).trans (Nat.add_zero _).symm
     subst this;rw[← ea,← et,D0];rfl
    .have e:outs.length-m=(outs.length-(m+1))+1:=(l02<|.i (.L bJ .a)<|.Q bG<|.p (.m .a bJ) aC) hn;rw[e,K9,eo];exact(ru.up I.le).append<|.cons rv .nil)))))⟩
end
structure RtL(c:C3)(S:Sd)(b:List F9)(l:List Dt)(r':Lo):Prop where
 of::ex:Ex2 λS' j=>xV (EvX c S b (.ret<|.o j) S') (S'.o[0]?=Na (.ins 1)) (S'.o[1]?=Na (.ns r')) (S'.o[j]?=Na (.lst l))<|S'.d=S.d
section
variable{c:C3}{H:TT}{m:Nat}{r:Lo}
theorem aG8{c':C3}(p:Pt c H S)(i:SmI c p.φ p.h k m r a0 dx mA)(ek:S.o[k]?=Na (.ins m))(em:S.o[m]?=Na (.ns r))(q:Pt c' (jI p.φ.Z p.h [a0,dx]) S')(ec:c'.w=c.w/\c'.os=c.os/\c'.G=c.G)(ep:c'.pn=[a0,dx])(le:HP.le p.φ.Z q.φ.Z)(e0:S'.o[0]?=Na (.ins 1))(e1:S'.o[1]?=Na (.ns r'))(ej:S'.o[B]?=Na (.lst xs))(ed:S'.d=S.d)(hr:allD r'=Nc)(rv:SvR q.φ (.o B) ao):EvP c Nc p.φ H SvR (.o S.o.length) ⟨S.r,S.o.set m (.ns r')++[.lst xs],S.d⟩ ao q.s:=by
 obtain⟨a,j,rfl⟩:=rv;have R:=aAn (d:=S.d) p.rel i ek em q.rel ep le e0 e1 hr;have w:=q.rel.own ⟨j,ej,rfl⟩;have u:a∉[a0,dx]:=λz=>by
  have I:=q.rel.cl 0 a0 (.inr (by rw[ep];rfl));have J:=q.rel.cl 1 dx (.inr (by rw[ep];rfl));obtain z|z:=A8.mp z
  .cases q.rel.inj B 0 a0 _ _ ⟨z▸j,ej,rfl⟩ ⟨I,e0,rfl⟩;cases ej.symm.trans e0
  .cases q.rel.inj B 1 dx _ _ ⟨C6.mp z▸j,ej,rfl⟩ ⟨J,e1,rfl⟩;cases ej.symm.trans e1
 have new:p.h.get? a≠Nb->p.φ.Z a=Nb->False:=λn z=>by
  obtain⟨o,C⟩:=Option.ne_none_iff_exists'.mp n;exact w.n<|.tail _<|C1.mpr ⟨_,uP z C u,rfl⟩
 have E:=λz=>new (p.rel.xIn z)<|p.rel.hz _ z;have nl:¬sB p.φ.α (S.o.set m<|.ns r') a:=fun⟨i',x,e⟩=>by
  obtain⟨rfl,_⟩|⟨_,e⟩:=gL e
  .exact u (.tail _ (by cases e.ea.symm.trans i.ed;exact .head _))
  .exact new (p.rel.own e).in_ (p.rel.own e).z
 have A:=R.push (o:=.lst xs) ⟨A2 w.at_ λb y=>⟨b,y.1,y.2⟩,w.z,E⟩ nl rfl;exact⟨⟨⟨q.φ.Z,p.φ.α++[a]⟩,q.h,q.g,q.k,p.rm,ec.1▸q.gz,ec.2.2▸q.gg,A⟩,by show(⟨q.h,q.g,S'.d,q.k,c'.os⟩:A6)=⟨q.h,q.g,S.d,q.k,c.os⟩;rw[ed,ec.2.1],⟨le,λO=>M3 _ _⟩,a,by rw[← p.rel.len];exact D9,rfl⟩
theorem aFS(a8:List Str)(lo:Lo)(hd:∀Z,Rps Z dd dv)(ho:(K w.params).lookup I=Na ⟨.type "function",Nb,.func f,#[]⟩)(bf:f.body=.stmts body)(bg:∀(s:A6) vs,(K w.params).In s.heap->vs.length=ds.length+1->BindsTo s f ⟨vs,[]⟩ (a8.zip<|vs++dv))(d5:∀L,cellsFrom (L+1) f.scope.names []=clL [] L)(ok:(aC2 w.params f a8 []&&f.scope.names.all λx=>x.2 != .cell)=Nc)(hS:a8.zip (.o 0::(ds++dd).map .d)=lo)(hr:(allD r&&allD r')=Nc)
  (q:∀X p0 p1,P3 (cM w f I X [p0,p1]) n->RtL (cM w f I X [p0,p1]) ⟨lo,[.ins 1,.ns r],X.d⟩ body xs r'):tU w (n+1) (cal<|.ref I) r ds xs r':=
 ⟨λc S k m V N B C=>⟨λH p vs rv=>by
  subst V hS;cases rv with
  | cons E J=>
  refine p.ins E B C (P:=λv0=>WP c.w c.A (cal (.ref I)<|v0::_) _ _ _) λa h mA i=>?_;have O:=aAl J;have oc:=(aB ok).2;have ok:=kJ (aB ok).1;refine CD.wp<|aF2 a8 p.G N.room ho bf (bg _ _ p.G.k<|congrArg (·+1) O.len) d5 ok oc λL Y k1 y=>?_;have M:=N.deeper (env:=N7 f L I);have R:=aCK (X:=⟨c.A,L,c.os,S.d,c.G⟩) (d:=S.d) p.rel i B C ok y (.cons (show SvR ⟨p.φ.Z,[a,h]⟩ (.o 0) _ from⟨a,rfl,rfl⟩)<|qC<|O.append<|hd _) (aB hr).1;obtain⟨⟨S',j,e,e0,Q,U,T⟩⟩:=q ⟨c.A,L,c.os,S.d,c.G⟩ a h ⟨⟨ok.k,ok.g,ok.b⟩,M⟩;exact e.go ⟨⟨p.φ.Z,[a,h]⟩,Y,p.g,k1,M.less<|C8 _,p.gz,p.gg,R⟩ λp1 u l1 r1=>A2 r1 λv z=>by rw[z.1];exact aG8 p i B C p1 ⟨rfl,rfl,rfl⟩ rfl l1.le e0 Q U T (aB hr).2 z.2⟩⟩
end
section
variable{c:C3}{m:Nat}{r:Lo}
theorem aMV(x:EvX c S b1 o S1)(e:S1.o[m]?=Na (.ns r))(en:r2.map (·.1)=r.map (·.1))(f:∀{φ:Fr}{mA:Str->Option A3},NsR φ r mA->NsR φ r2 mA):EvX c S b1 o {S1 with o:=S1.o.set m (.ns r2)}:=
 ⟨λH p=>x.go p λa u l1 b=>(⟨a.φ,a.h,a.g,a.k,a.rm,a.gz,a.gg,a.rel.nsTo e en λO=>f⟩:Pt c H {S1 with o:=S1.o.set m (.ns r2)}).end l1 b⟩
def aOt{N:Nat}(pl:P3 c N)(S:Sd)(hs:List Hi)(b:List F9):Option {q:(Sv×Sd)×List Prop // Al q.2->EvX c S b (.ret q.1.1) q.1.2}:=(qX pl 20 60 S hs b).bind λx=>match x with
 | ⟨.ret s,S1,_,_,_,ps,_,h⟩=>Na ⟨((s,S1),ps),h⟩
 | _=>Nb
theorem xrt(pl:P3 c N)(hs:List Hi)(ps:List Prop)(h:(aOt pl S hs b1).map (·.1)=Na ((s',S1),ps))(a:Al ps):EvX c S b1 (.ret s') S1:=aP h a
noncomputable def unk:Dt:=.ob λO O=>True
theorem aCX:Rp Z unk ao:=.ob (λO O O O O=>trivial) trivial
section
variable{σ X:Type}(pl:P3 c N)(hs:List Hi)(xs:List X)(g:X->Dt)(f:σ->X->σ)(R:σ->Sd)(P:Nat->σ->Prop)(s0:σ)(d:Dt)(S1:Sd){b:List F9}(ps:List Prop)(ok:(foV b).isSome=Nc)(cf:(aOu pl S hs<|foI b).map (·.1)=Na ((d,S1),ps))(cg:Al ps)(gm:Wks c S1<|R s0)(hd:∀s,(R s).d=S.d)(it:Itr c.w d (xs.map g)<|foT b)(p0:P 0 s0)
 (step:∀i x s,xs[i]?=Na x->P i s->TnT c (R s) (foT b) (.d<|g x) (foB b) (R<|f s x)/\P (i+1) (f s x))
include ok cf cg gm hd it p0 step
theorem aEp(done:P xs.length (xs.foldl f s0)->EvX c (R<|xs.foldl f s0) b.tail o S2):EvX c S b o S2:=by
 have F:sF c b xs g f R P:=⟨step⟩
 obtain⟨pos,e,a⟩:=jC ok;rw[e];exact bY (qK F p0 hd it ⟨aP cf cg,gm⟩ a)<|done (by have:=F.inv p0 xs.length<|C4 _;rwa [I4] at this)
end
end
section
variable{X:Q3}{p0:E3}{ds:Dt}{ts:List T3}
noncomputable abbrev smQ(a b:List Str)(mb:Dt)(oc:Sv)(t:Lo):Lo:=[(S9 "isjunk",.d .none),(S9 "a",.d<|.lst<|a.map .str),(S9 "b",.d<|.lst<|b.map .str),(S9 "autojunk",.d<|.bool Nc),(S9 "matching_blocks",.d mb),(S9 "opcodes",oc),(S9 "fullbcount",.d .none)]++t
noncomputable abbrev aGF(r:Lo)(d:D8)(s:OS):Sd:=⟨[(S9 "self",.o 0),(S9 "i",.d<|.int s.1),(S9 "j",.d<|.int s.2.1),(S9 "answer",.o 2)],[.ins 1,.ns r,.lst s.2.2],d⟩
theorem aOL(fl:pV w a b dj ds dp)(za:a.length<=1000000)(zb:b.length<=1000000)(c7:ts.Perm<|jA a b (2*a.length+1) [(0,(a.length:Int),0,(b.length:Int))] [])(ct:ts.Pairwise<|λa b=>a.1<b.1)(dh:ts.length<64):
  tU w 7 (cal<|.ref 210) (smA a b .none .none<|smT dj ds dp) [] ((hX<|bW a.length b.length ts).map ocT) (smA a b (.lst<|(bW a.length b.length ts).map mtT) unk<|smT dj ds dp):=by
 refine aFS (f:=aPJ) [S9 "self"] [(S9 "self",.o 0)] (λO=>.nil) (by kernel_rfl) rfl (bnd<|lW λO=>by kernel_rfl) (λL=>by kernel_rfl) (by kernel_rfl) (by kernel_rfl) (by kernel_rfl) λX x y pl=>⟨⟨_,2,aMV (m:=1) (r2:=smQ a b (.lst<|(bW a.length b.length ts).map mtT) (.d unk)<|smT dj ds dp) (S1:=aGF (smQ a b (.lst<|(bW a.length b.length ts).map mtT) (.o 2)<|smT dj ds dp) X.d<|opE<|(bW a.length b.length ts).foldl fK ((0,0),[])) ?_ rfl rfl λn=>NsR.hol (pre:=[(S9 "isjunk",.d .none),(S9 "a",.d<|.lst<|a.map .str),(S9 "b",.d<|.lst<|b.map .str),(S9 "autojunk",.d<|.bool Nc),(S9 "matching_blocks",.d<|.lst<|(bW a.length b.length ts).map mtT)]) n λv O=>aCX,rfl,rfl,rfl,rfl⟩⟩
 refine xq pl 4 [.t Nd,.t Nd] (aGF (smQ a b .none (.o 2)<|smT dj ds dp) X.d (0,0,[])) [OpV w 0 (op2<|E6 .IsNot) [.none,.none] (.bool Nd),(Nd:Bool)=Nd] (by kernel_rfl) ⟨kQ,rfl,trivial⟩ ?_;have h:=tC a.length b.length ts;have M:jF w 6 (cal<|.ref 203) (smQ a b .none (.o 2)<|smT dj ds dp) [] (.lst<|(bW a.length b.length ts).map mtT) (smQ a b (.lst<|(bW a.length b.length ts).map mtT) (.o 2)<|smT dj ds dp) id:=
  jF.hole (pre:=[(S9 "isjunk",.d .none),(S9 "a",.d<|.lst<|a.map .str),(S9 "b",.d<|.lst<|b.map .str),(S9 "autojunk",.d<|.bool Nc),(S9 "matching_blocks",.d .none)]) (pre':=[(S9 "isjunk",.d .none),(S9 "a",.d<|.lst<|a.map .str),(S9 "b",.d<|.lst<|b.map .str),(S9 "autojunk",.d<|.bool Nc),(S9 "matching_blocks",.d<|.lst<|(bW a.length b.length ts).map mtT)]) (by kernel_rfl) λu=>aPq fl za zb c7 ct dh
 generalize bW a.length b.length ts=us at h M ⊢;refine aEp pl [.m (.lst<|us.map mtT)<|smQ a b (.lst<|us.map mtT) (.o 2)<|smT dj ds dp] us mtT opF (aGF (smQ a b (.lst<|us.map mtT) (.o 2)<|smT dj ds dp) X.d) (λi s=>s.2.2.length<=2*i) (0,0,[]) (.lst<|us.map mtT) (aGF (smQ a b (.lst<|us.map mtT) (.o 2)<|smT dj ds dp) X.d (0,0,[])) [SmM w 6 (S9 "get_matching_blocks") (smQ a b .none (.o 2)<|smT dj ds dp) [] (.lst<|us.map mtT) (smQ a b (.lst<|us.map mtT) (.o 2)<|smT dj ds dp) id] (by kernel_rfl) (by kernel_rfl) ⟨.mk 203 _ 6 (by kernel_rfl) (by kernel_rfl) aMd (by kernel_rfl) (C4 _) M,trivial⟩ (fits<|by kernel_rfl) (λO=>rfl) (bM<|.inr ⟨⟨_,_,_,rfl⟩,λd q=>?_⟩) (C4 _) (λi t s j g=>⟨tq pl [] [(pF s.1 s.2.1 t).length<4611686018427387904,(((pF s.1 s.2.1 t).length:Int) != 0)=Nc->Al [s.2.2.length<=B9],(t.2.2 != 0)=Nc->Al [(mK s t).length<=B9]] (by kernel_rfl) ⟨Q9 (aBE _ _ _)<|by decide,λO=>⟨?_,trivial⟩,λO=>⟨?_,trivial⟩,trivial⟩,?_⟩) λr=>?_
 .obtain⟨t,_,rfl⟩:=C1.mp q;exact .inr ⟨_,_,_,rfl⟩
 .have:=(A4.mp j).1;rw[C5];exact(l04<|.i (.S .b<|.k 64)<|.i (.L .c pI)<|.i (.L .a<|.u 2 .d)<|.i (.S .d .c) jQ) dh h g this
 .have:=(A4.mp j).1;have:=sW s t;rw[C5];exact(l05<|.i (.S .b<|.k 64)<|.i (.L .c pI)<|.i (.L .d<|.u 2 .e)<|.i (.S .e .c)<|.i (.L .a<|.p .d aC) jQ) dh h g (by assumption) this
 .have:=sW s t;show(if (t.2.2 != 0)=Nc then mK s t++[_] else mK s t).length<=2*(i+1);split
  .simp only[A5,D1];exact(l03<|.i (.L .c<|.u 2 .b)<|.i (.L .a cD)<|.L (.p .a gP)<|.u 2 bJ) g this
  .exact(l03<|.i (.L .c<|.u 2 .b)<|.i (.L .a cD)<|.L .a<|.u 2 bJ) g this
 .rw[show((0,0,[]):OS)=opE ((0,0),[]) from rfl,aGG];exact xrt pl [] [] (by kernel_rfl) trivial
end
theorem aFN(w:∀A Gp,Wks (θ.c A Gp) S S1)(q:YvX θ T G N S1 b1 o N2 S2):YvX θ T G N S b1 o N2 S2:=
 ⟨λA code a fr g p le K H b lv e u=>(w _ _).go p (P:=λs=>Sg (model P θ.w) A θ.D N g code ((execs b1 θ.env).wrap K H b lv) a s) λj l1=>q.run A code a fr g j (le.trans l1.le) K H b lv e λd n v h i r=>u d n v (l1.le.trans h) i r⟩
abbrev ifT:List F9->Expr:=she 0
abbrev ifA:List F9->List F9:=shb
abbrev ifE(b:List F9):List F9:=b.head?.elim [] λs=>(shs s).2.2
abbrev IfP(bb:List F9):Type:={p:Pos // bb=.If (ifT bb) (ifA bb) (ifE bb) p::bb.tail}
def ifV:(bb:List F9)->Option (IfP bb):=lH (M:=λbb=>Option<|IfP bb) Nb λs l=>sFW (M:=λs=>Option<|IfP<|s::l) (λO=>Nb) (λO O O p=>Na ⟨p,rfl⟩) (λO O O O O=>Nb) (λO O O O=>Nb) (λO O=>Nb) s
theorem tG{b:List F9}(h:(ifV b).isSome=Nc):∃pos,b=.If (ifT b) (ifA b) (ifE b) pos::b.tail:=A2 (uT h) λv O=>⟨v.1,v.2⟩
theorem xZ{d:Dt}(R:Nat->Nat×Sd)(ok:(foV b1).isSome=Nc)(hd:∀i,(R i).2.d=S1.d)(x:∀A Gp,Rm A θ.n->EvE (θ.c A Gp) S (foI b1) (.d d) S1)(it:Itr θ.w d xs<|foT b1)(w:∀A Gp,Wks (θ.c A Gp) S1 (R 0).2)(e0:(R 0).1=N)(step:∀T' i y,xs[i]?=Na y->∃S2,(∀A Gp,AsT (θ.c A Gp) (R i).2 (foT b1) (.d y) S2)/\TnY θ T' G (R i).1 S2 (foB b1) (R<|i+1).1 (R<|i+1).2)(q:YvX θ T G (R xs.length).1 (R xs.length).2 b1.tail o N2 S2):YvX θ T G N S b1 o N2 S2:=
 A2 (jC (c:=θ.c callerA λO=>True) ok) λpos e=>(congrArg (YvX θ T G N S · o N2 S2) e.1).mpr<|tV (aO4 R e.2 hd x it w e0 step) q
abbrev ydE(b:List F9):Expr:=che 0<|she 0 b
abbrev YdP(bb:List F9):Type:={p:Pos×Pos // bb=.Expr (.Yield (Na<|ydE bb) p.1) p.2::bb.tail}
def ydV:(bb:List F9)->Option (YdP bb):=lH (M:=λbb=>Option<|YdP bb) Nb λs l=>sFW (M:=λs=>Option<|YdP<|s::l) (λO=>Nb) (λO O O O=>Nb) (λO O O O O=>Nb) (λO O O O=>Nb) (λe q=>eLY (M:=λe=>Option<|YdP<|.Expr e q::l) (λO=>Nb) (λO O O O=>Nb) (λv p=>Option.casesOn (motive:=λv=>Option<|YdP<|.Expr (.Yield v p) q::l) v Nb λx=>Na ⟨(p,q),rfl⟩) e) s
theorem aO2(h:(ydV b1).isSome=Nc):Ex2 λp q=>b1=.Expr (.Yield (Na<|ydE b1) p) q::b1.tail:=A2 (uT h) λv O=>⟨v.1.1,v.1.2,v.2⟩
section
variable{b:List F9}
theorem aBt(k:Nat)(x:YvX θ T G N S (b.take k) .next N1 S1)(q:YvX θ T G N1 S1 (b.drop k) o N2 S2):YvX θ T G N S b o N2 S2:=G3 k b▸aIy x q
theorem mB(ok:(ifV b).isSome=Nc)(t:Bool)(x:∀A Gp,Rm A θ.n->EvB (θ.c A Gp) S (ifT b) t S1)(q1:t=Nc->YvX θ T G N S1 (ifA b) .next N1 S2)(q2:t=Nd->YvX θ T G N S1 (ifE b) .next N1 S2)(q:YvX θ T G N1 S2 b.tail o N2 S3):YvX θ T G N S b o N2 S3:=
 A2 (tG ok) λpos e=>(congrArg (YvX θ T G N S · o N2 S3) e).mpr<|tV (aIx t x q1 q2) q
theorem aKA{s:Sv}(ok:(ydV b).isSome=Nc)(fp:θ.env.scope.isCoroutine=Nd)(hi:interactive θ.env=Nd)(hd:S1.d=θ.d)(x:∀A Gp,Rm A θ.n->EvE (θ.c A Gp) S (ydE b) s S1)(es:drf S1 s=Na (dt,Nd))(iw:θ.outs[θ.outs.length-(N+1)]?=Na dt)(q:YvX θ T G N S1 b.tail o N2 S3):YvX θ T G (N+1) S b o N2 S3:=by
 obtain⟨a,g,e⟩:=aO2 ok;rw[e];exact tV (aFL fp hi hd x es iw) q
end
section
variable{L:E3}{m:Int}{ds:Dt}
abbrev ggB:List F9:=gR<|fG 5 9
abbrev ggθ(w:E9)(L:E3)(os:U1)(d:D8)(outs:List Dt):GC:=⟨w,AA1 aJb L 218,os,7,d,outs⟩
noncomputable abbrev ggS(m:Int)(d:D8)(x:Lo)(lc:List Dt):Sd:=⟨[(S9 "n",.d<|.int m),(S9 "codes",.o 0)]++x,[.lst lc],d⟩
theorem jB(rm:Rm A 7):P3 ((ggθ w L os d outs).c A Gp) 7:=⟨⟨by kernel_rfl,by kernel_rfl,by kernel_rfl⟩,rm⟩
theorem aEc{N}(oc:List Oc)(hz:oc.length<=200):YvX (ggθ w L os d outs) [] [] N ⟨[(S9 "n",.d<|.int m),(S9 "codes",.o 0)],[.lst<|oc.map ocT],d⟩ ((ggB.drop 2).take 1) .next N (ggS m d [] ((dY oc).map ocT)):=by
 cases oc with
 | nil=>exact yx λA b a=>xa (jB a) [.t Nc] _ [([]:List Dt).length<4611686018427387904,(!(!([]:List Dt).isEmpty))=Nc] (by kernel_rfl) ⟨by decide,rfl,trivial⟩
 | cons o oc=>exact yx λA b a=>xa (jB a) [.t Nd] _ [((o::oc).map ocT).length<4611686018427387904,(!(!((o::oc).map ocT).isEmpty))=Nd] (by kernel_rfl) ⟨Q9 (by rw[A1];exact hz)<|by decide,rfl,trivial⟩
theorem aPs{N}(gp:0<gc.length)(gz:gc.length<=201):YvX (ggθ w L os d outs) [] [] N (ggS m d [] (gc.map ocT)) ((ggB.drop 3).take 1) .next N (ggS m d [] ((gc.set 0<|dP m<|gc.getD 0 default).map ocT)):=by
 have a:=mW ocT gc default 0 gp (A9 gz<|by decide);rw[← aPy m gc gp];generalize gc.getD 0 default=o at a ⊢;exact yx λA e b=>xa (jB b) [.v<|ocT o,.v<|ocT o,.v<|.int 0] _ [aO (.lst<|gc.map ocT) 0<|ocT o,(o.1==S9 "equal")=Nc->Al [aO (.lst<|gc.map ocT) 0<|ocT o,P1 0 (gc.map ocT).length=Na 0]] (by kernel_rfl) ⟨a,λO=>⟨a,by unfold P1;simp[gp],trivial⟩,trivial⟩
theorem aPr{N}(gp:0<gc.length)(gz:gc.length<=201):YvX (ggθ w L os d outs) [] [] N (ggS m d [] (gc.map ocT)) ((ggB.drop 4).take 1) .next N (ggS m d [] ((gc.set (gc.length-1)<|dU m<|gc.getD (gc.length-1) default).map ocT)):=by
 have b:=tF ocT gc default gp (A9 gz<|by decide);have e:=Nat.sub_lt gp Nat.one_pos;rw[← aPx m gc _ e];generalize gc.getD (gc.length-1) default=o at b ⊢;exact yx λA j h=>xa (jB h) [.v<|ocT o,.v<|ocT o,.v<|.int (gc.length-1:Nat)] _ [aO (.lst<|gc.map ocT) (-1)<|ocT o,(o.1==S9 "equal")=Nc->Al [aO (.lst<|gc.map ocT) (-1)<|ocT o,P1 (-1) (gc.map ocT).length=Na (gc.length-1)]] (by kernel_rfl) ⟨b,λO=>⟨b,by rw[A1,seqIndex_neg (by decide)<|by exact(l01<|.i (.S aE .a)<|.l (.g aF)<|.g aC) gp];congr 1;exact l01<|.Q (.t<|.p (.g aC) aF) cW,trivial⟩,trivial⟩
abbrev ggF(m:Int)(s:List (List Oc)×List Oc)(o:Oc):List (List Oc)×List Oc:=if iM m o then (s.1++[s.2++[oT m o]],[sJ m o]) else (s.1,s.2++[o])
theorem xA{cs:List Oc}:∀{s:List (List Oc)×List Oc},s.1++gGo m cs s.2=(cs.foldl (ggF m) s).1++gGo m [] (cs.foldl (ggF m) s).2:=by
 induction cs with
 | nil=>intro s;rfl
 | cons o cs a=>
  intro s;rw[M7,← a,xB];by_cases h:iM m o
  .rw[if_pos h,show ggF m s o=(s.1++[s.2++[oT m o]],[sJ m o]) from if_pos h,B5];rfl
  .rw[if_neg h,show ggF m s o=(s.1,s.2++[o]) from if_neg h]
noncomputable abbrev ggT(m:Int)(d:D8)(lg:List Dt):Sd:=⟨[(S9 "n",.d<|.int m),(S9 "nn",.d<|.int<|m+m),(S9 "group",.o 0)],[.lst lg],d⟩
noncomputable abbrev ggU(m:Int)(d:D8)(o:Oc)(lg:Ow):Sd:=⟨[(S9 "n",.d<|.int m),(S9 "nn",.d<|.int<|m+m),(S9 "group",.o 0),(S9 "tag",.d<|.str o.1),(S9 "i1",.d<|.int o.2.1),(S9 "i2",.d<|.int o.2.2.1),(S9 "j1",.d<|.int o.2.2.2.1),(S9 "j2",.d<|.int o.2.2.2.2)],[lg],d⟩
abbrev ggL:List F9:=foB<|ggB.drop 7
theorem aHq{o:Oc}{cs:List Oc}(hz:gr.length<=1000)(ho:outs=(pre++gGo m (o::cs) gr).map grT):TnY (ggθ w L os d outs) T G' (gGo m (o::cs) gr).length (ggU m d o<|.lst<|gr.map ocT) ggL (gGo m cs (ggF m (pre,gr) o).2).length<|ggT m d<|(ggF m (pre,gr) o).2.map ocT:=by
 have g:(gr.map ocT).length<=B9:=by rw[A1,C5];exact A9 hz<|by decide
 have j:∀A a,Rm A 7->EvB ((ggθ w L os d outs).c A a) (ggU m d o<|.lst<|gr.map ocT) (ifT ggL) ((o.1==S9 "equal")&&Nf (o.2.2.1-o.2.1>m+m)) (ggU m d o<|.lst<|gr.map ocT):=λA a b=>bq (jB b) [] [] (by kernel_rfl) trivial;by_cases h:iM m o
 .have i:ggF m (pre,gr) o=(pre++[gr++[oT m o]],[sJ m o]):=if_pos h;have e:gGo m (o::cs) gr=(gr++[oT m o])::gGo m cs [sJ m o]:=by rw[xB,if_pos h]
  rw[i,e];rw[e] at ho;refine .next _ (mB (S2:=ggU m d (sJ m o)<|.lst []) (by kernel_rfl) Nc (λA a b=>(show((o.1==S9 "equal")&&Nf (o.2.2.1-o.2.1>m+m))=Nc by simpa[iM] using h)▸j A a b) (λO=>?_) nofun (yx λA a b=>xa (jB b) [] (ggT m d<|[sJ m o].map ocT) [([]:List Dt).length<=B9] (by kernel_rfl) ⟨C8 _,trivial⟩)) λA a=>.refl;refine yq 1 [] (ggU m d o<|.lst<|gr.map ocT++[ocT<|oT m o]) [type_of% g] jB (λA a b=>by kernel_rfl) ⟨g,trivial⟩ ?_;refine aFN (S1:=ggU m d o<|.fz<|grT<|gr++[oT m o]) (λA a=>?_) ?_
  .have:=jG (c:=(ggθ w L os d outs).c A a) (S:=ggU m d o<|.lst<|gr.map ocT++[ocT<|oT m o]) (n:=0) (l:=gr.map ocT++[ocT<|oT m o]) rfl;rw[show gr.map ocT++[ocT<|oT m o]=(gr++[oT m o]).map ocT by rw[B4];rfl] at this ⊢;exact this
  have p:outs[outs.length-((gGo m cs [sJ m o]).length+1)]?=Na (grT<|gr++[oT m o]):=by
   rw[ho,B4,← A1 (as:=gGo m cs [sJ m o]) grT];exact yS
  refine aKA (s:=.o 0) (dt:=grT<|gr++[oT m o]) (by kernel_rfl) (by kernel_rfl) (by kernel_rfl) rfl (λA a b=>bC (aU<|by kernel_rfl) rfl) rfl p ?_;exact yx λA a b=>xa (jB b) [] (ggU m d (sJ m o)<|.lst []) [] (by kernel_rfl) trivial
 .have i:ggF m (pre,gr) o=(pre,gr++[o]):=if_neg h;have e:gGo m (o::cs) gr=gGo m cs (gr++[o]):=by rw[xB,if_neg h]
  rw[i,e];refine .next _ (mB (S2:=ggU m d o<|.lst<|gr.map ocT) (by kernel_rfl) Nd (λA a b=>(show((o.1==S9 "equal")&&Nf (o.2.2.1-o.2.1>m+m))=Nd by simpa[iM] using h)▸j A a b) nofun (λO=>yx λA a b=>cJ) (yx λA a b=>?_)) λA a=>.refl;rw[show(gr++[o]).map ocT=gr.map ocT++[ocT o] by rw[B4];rfl];exact xa (jB b) [] _ [type_of% g] (by kernel_rfl) ⟨g,trivial⟩
abbrev aME(m:Int)(d:D8)(gr:List Oc):Sd:=⟨[(S9 "n",.d<|.int m),(S9 "nn",.d<|.int<|m+m),(S9 "group",.o 0)],[.fz<|grT gr],d⟩
theorem aHs(hz:gr.length<=1000)(ho:outs=(pre++gGo m [] gr).map grT):∃S1,YvX (ggθ w L os d outs) [] [] (gGo m [] gr).length (ggT m d<|gr.map ocT) (ggB.drop 8) .next 0 S1/\S1.d=d:=by
 have g:(gr.map ocT).length<4611686018427387904:=by rw[A1];exact Q9 hz<|by decide
 have p:=λh=>mW ocT gr default 0 h (A9 hz<|by decide);have i:∀A a,Rm A 7->EvB ((ggθ w L os d outs).c A a) (ggT m d<|gr.map ocT) (ifT<|ggB.drop 8) (!(gr.map ocT).isEmpty&&!((((gr.map ocT).length:Int)==1)&&((gr.getD 0 default).1==S9 "equal"))) (ggT m d<|gr.map ocT):=λA a b=>bq (jB b) [.v<|ocT<|gr.getD 0 default] [type_of% g,(!(gr.map ocT).isEmpty)=Nc->Al [type_of% g,(((gr.map ocT).length:Int)==1)=Nc->Al [aO (.lst<|gr.map ocT) 0<|ocT<|gr.getD 0 default]]] (by kernel_rfl) ⟨g,λh=>⟨g,λO=>⟨p (by
  cases gr with
  | nil=>cases h
  | cons o gr=>exact AA9 _),trivial⟩,trivial⟩,trivial⟩
 cases h:(!(gr.map ocT).isEmpty&&!((((gr.map ocT).length:Int)==1)&&((gr.getD 0 default).1==S9 "equal"))) with
 | true=>
  have e:gGo m [] gr=[gr]:=by rw[tL,if_neg<|aEf h]
  rw[e] at ho ⊢;have j:outs[outs.length-(0+1)]?=Na (grT gr):=by
   rw[ho,B4];exact yS (tl:=[])
  refine⟨aME m d gr,mB (S2:=aME m d gr) (by kernel_rfl) Nc (λA a b=>h▸i A a b) (λO=>aFN (S1:=aME m d gr) (λA a=>jG (S:=ggT m d<|gr.map ocT) (n:=0) (l:=gr.map ocT) rfl)<|aKA (s:=.o 0) (by kernel_rfl) (by kernel_rfl) (by kernel_rfl) rfl (λA a b=>bC (aU<|by kernel_rfl) rfl) rfl j fV) nofun fV,rfl⟩
 | false=>
  have e:gGo m [] gr=[]:=by rw[tL,if_pos<|aBW h]
  rw[e];exact⟨ggT m d<|gr.map ocT,mB (S2:=ggT m d<|gr.map ocT) (by kernel_rfl) Nd (λA a b=>h▸i A a b) nofun (λO=>fV) fV,rfl⟩
theorem aHt{M}(hz:gr.length<=200)(er:r2=smA a b .none .none (smT dj ds dp))(vw:r'=smA a b (.lst M) unk (smT dj ds dp))(ho:outs=(eR m gr).map grT)(op:tU w 7 (cal<|.ref 210) r2 [] (gr.map ocT) r'):∃S1,YvX (ggθ w L os d outs) [] [] outs.length ⟨[(S9 "self",.o 0),(S9 "n",.d<|.int m)],[.ins 1,.ns r2],d⟩ ggB .next 0 S1/\S1.d=d:=by
 have E:=zR gr;have r:=zS gr;subst er vw;have V:0<((dY gr).set 0<|dP m<|(dY gr).getD 0 default).length:=by rw[T8];exact E
 generalize B:tK m (dY gr)=cs;have x:cs.length<=201:=by rw[← B];unfold tK;rw[T8,T8];exact A9 r<|K8 hz
 have U:eR m gr=gGo m cs []:=by rw[← B];rfl
 rw[U] at ho;generalize g:cs.foldl (ggF m) ([],[])=F;have N:gGo m cs []=F.1++gGo m [] F.2:=by rw[← g];exact xA (s:=([],[]))
 have I:∀i,((cs.take i).foldl (ggF m) ([],[])).2.length<=i+1:=λi=>by
  have:∀(l:List Oc)(s:List (List Oc)×List Oc),(l.foldl (ggF m) s).2.length<=s.2.length+l.length+1:=λl=>by
   induction l with
   | nil=>intro s;exact P9 _
   | cons o l Z=>
    intro s;refine A9 (Z _) ?_;by_cases h:iM m o
    .rw[show ggF m s o=(s.1++[s.2++[oT m o]],[sJ m o]) from if_pos h];simp only[D1,U6];exact l02 (.L (.p (.p gP .a) aC)<|.p (.p .b aR) aC)
    .rw[show ggF m s o=(s.1,s.2++[o]) from if_neg h];simp only[A5,D1,U6];exact l02<|.L (.p (.p (.p .a gP) .b) aC)<|.p gM aC
  refine A9 (this _ _) ?_;rw[G4];simp only[U6];exact l02<|.L (.p (.p aE<|.n .a .b) aC) aR
 have fq:F.2.length<=1000:=by have:=I cs.length;rw[I4,g] at this;exact A9 this<|(l01<|.i (.L .a<|.k 201)<|.L aR dA) x
 obtain⟨S1,q,R⟩:=aHs (w:=w) (L:=L) (os:=os) (d:=d) (outs:=outs) (m:=m) (pre:=F.1) fq (by rw[ho,N]);refine⟨S1,yq 2 [.k (gr.map ocT)<|smA a b (.lst M) unk<|smT dj ds dp] ⟨[(S9 "n",.d<|.int m),(S9 "codes",.o 0)],[.lst<|gr.map ocT],d⟩ [aCh w 7 (S9 "get_opcodes") λf n=>tU w n (cal<|.ref f) (smA a b .none .none<|smT dj ds dp) [] (gr.map ocT) (smA a b (.lst M) unk<|smT dj ds dp)] jB (λA e Q=>by kernel_rfl) ⟨.mk 210 _ 7 (by kernel_rfl) (by kernel_rfl) aMc (by kernel_rfl) (C4 _) op,trivial⟩ ?_,R⟩;refine aBt 1 (aEc gr hz) (aBt 1 (aPs E<|A9 r<|K8 hz)<|aBt 1 (aPr V (by rw[T8];exact A9 r<|K8 hz)) ?_);show YvX _ _ _ _ (ggS m d [] (List.map ocT<|tK m<|dY gr)) _ _ _ _;have vx:∀i,(cs.drop i).foldl (ggF m) ((cs.take i).foldl (ggF m) ([],[]))=F:=λi=>by rw[← O0,G3,g]
 have pb:∀i,outs=(((cs.take i).foldl (ggF m) ([],[])).1++gGo m (cs.drop i) ((cs.take i).foldl (ggF m) ([],[])).2).map grT:=λi=>by rw[xA (cs:=cs.drop i),vx,← N];exact ho
 refine yq 2 [] ⟨[(S9 "n",.d<|.int m),(S9 "nn",.d<|.int<|m+m),(S9 "codes",.o 0),(S9 "group",.o 1)],[.lst<|cs.map ocT,.lst []],d⟩ [] jB (λA e Q=>by kernel_rfl) trivial ?_;refine aFN (S1:=⟨[(S9 "n",.d<|.int m),(S9 "nn",.d<|.int<|m+m),(S9 "codes",.o 0),(S9 "group",.o 1)],[.fz<|.lst<|cs.map ocT,.lst []],d⟩) (λA e=>jG (S:=⟨[(S9 "n",.d<|.int m),(S9 "nn",.d<|.int<|m+m),(S9 "codes",.o 0),(S9 "group",.o 1)],[.lst<|cs.map ocT,.lst []],d⟩) (n:=0) (l:=cs.map ocT) rfl) ?_;have len:(cs.map ocT).length=cs.length:=A1 _;refine xZ (xs:=cs.map ocT) (λi=>((gGo m (cs.drop i) ((cs.take i).foldl (ggF m) ([],[])).2).length,ggT m d<|((cs.take i).foldl (ggF m) ([],[])).2.map ocT)) (by kernel_rfl) (λO=>rfl) (λA e Q=>aEv (bC (aU<|by kernel_rfl) rfl) rfl) (bM<|.inr ⟨⟨_,_,_,rfl⟩,λd Y=>?_⟩) (λA e=>fits<|by kernel_rfl) ?_ (λT' i y ey=>?_) ?_
 .obtain⟨t,_,rfl⟩:=C1.mp Y;exact .inl ⟨_,rfl⟩
 .rw[ho,A1];rfl
 .rw[B3] at ey;obtain⟨o,j,rfl⟩:=B0.mp ey;have J:=(A4.mp j).1;have kq:cs.drop i=o::cs.drop (i+1):=by rw[N9 J,(A4.mp j).2]
  have u:=pb i;have C:=I i;have T:(cs.take<|i+1).foldl (ggF m) ([],[])=ggF m ((cs.take i).foldl (ggF m) ([],[])) o:=by rw[K9,j,O0];rfl
  simp only[T];rw[kq] at u ⊢;generalize (cs.take i).foldl (ggF m) ([],[])=s at u C ⊢;exact⟨ggU m d o<|.lst<|s.2.map ocT,λA e=>gY<|by kernel_rfl,aHq (pre:=s.1) ((l03<|.i (.L .b<|.k 201)<|.i (.S .c .b)<|.i (.L .a cD) eF) x J C) u⟩
 .rw[len];simp only[I4,V8,g];exact q
end
abbrev aSH:I8:=fd (fG 5 3) (S9 "SequenceMatcher.set_seq1") .none (Na 435) (.str (S9 "cpy313.difflib") 194) (.ref 173) Nb
abbrev aSG:I8:=fd (fG 5 4) (S9 "SequenceMatcher.set_seq2") .none (Na 444) (.str (S9 "cpy313.difflib") 194) (.ref 180) Nb
noncomputable abbrev sm0(a b:Dt)(t:Lo):Lo:=[(S9 "isjunk",.d .none),(S9 "a",.d a),(S9 "b",.d b),(S9 "autojunk",.d<|.bool Nc)]++t
noncomputable abbrev smM:Lo:=[(S9 "matching_blocks",.d .none),(S9 "opcodes",.d .none)]
abbrev smC:Lo:=smM++[(S9 "fullbcount",.d .none)]
theorem yR(l:List Dt):OpV w 0 (op2<|E6 .Is) [.lst l,.none] (.bool Nd):=ov2 λA Z h g e k os u v i j s b d=>by
 obtain⟨a,n,rfl,_⟩:=b.inv;obtain rfl:=d.inv;exact aF5<|bZ (A:=A) s<|.bool _
theorem aL5(l:List Dt):jF w 1 (cal<|.ref 174) (sm0 .none .none []) [.lst l] .none (sm0 (.lst l) .none smM) id:=by
 refine oA (f:=aSH) [S9 "self",S9 "a"] [(S9 "self",.o 0),(S9 "a",.d<|.lst l)] (λO=>.nil) (by kernel_rfl) rfl (bnd<|lW λO O=>by kernel_rfl) (λL=>by kernel_rfl) (by kernel_rfl) (by kernel_rfl) (by kernel_rfl) λX a b pl=>?_;exact xsm pl [.t Nd,.t Nd] _ [OpV w 0 (op2<|E6 .Is) [.lst l,.none] (.bool Nd),(Nd:Bool)=Nd] (by kernel_rfl) ⟨yR l,rfl,trivial⟩
theorem aL4{b:List Dt}{t:Lo}{fd:D8->D8}(ht:allD t=Nc)(ch:jF w n (cal<|.ref 188) (sm0 (.lst xs) (.lst b) smC) [] .none (sm0 (.lst xs) (.lst b)<|smC++t) fd):jF w (n+1) (cal<|.ref 181) (sm0 (.lst xs) .none smM) [.lst b] .none (sm0 (.lst xs) (.lst b)<|smC++t) fd:=by
 refine oA (f:=aSG) [S9 "self",S9 "b"] [(S9 "self",.o 0),(S9 "b",.d<|.lst b)] (λO=>.nil) (by kernel_rfl) rfl (bnd<|lW λO O=>by kernel_rfl) (λL=>by kernel_rfl) (by kernel_rfl) (by kernel_rfl) ht λX a e pl=>?_;refine xsr pl 5 [.t Nd,.t Nd] ⟨[(S9 "self",.o 0),(S9 "b",.d<|.lst b)],[.ins 1,.ns<|sm0 (.lst xs) (.lst b) smC],X.d⟩ [OpV w 0 (op2<|E6 .Is) [.lst b,.none] (.bool Nd),(Nd:Bool)=Nd] (by kernel_rfl) ⟨yR b,rfl,trivial⟩ ?_;exact xsl pl fd [.m .none<|sm0 (.lst xs) (.lst b)<|smC++t] [SmM w n (S9 "_SequenceMatcher__chain_b") (sm0 (.lst xs) (.lst b) smC) [] .none (sm0 (.lst xs) (.lst b)<|smC++t) fd] (by kernel_rfl) ⟨.mk 188 _ n (by kernel_rfl) (by kernel_rfl) aDK (by kernel_rfl) (C4 _) ch,trivial⟩
abbrev aPH:I8:=fd (fG 5 2) (S9 "SequenceMatcher.set_seqs") .none (Na 426) (.str (S9 "cpy313.difflib") 194) (.ref 166) Nb
theorem aL3{a b:List Dt}{t:Lo}{fd:D8->D8}(ht:allD t=Nc)(ch:jF w n (cal<|.ref 188) (sm0 (.lst a) (.lst b) smC) [] .none (sm0 (.lst a) (.lst b)<|smC++t) fd):jF w (n+2) (cal<|.ref 167) (sm0 .none .none []) [.lst a,.lst b] .none (sm0 (.lst a) (.lst b)<|smC++t) fd:=by
 refine oA (f:=aPH) [S9 "self",S9 "a",S9 "b"] [(S9 "self",.o 0),(S9 "a",.d<|.lst a),(S9 "b",.d<|.lst b)] (λO=>.nil) (by kernel_rfl) rfl (bnd<|lW λO O O=>by kernel_rfl) (λL=>by kernel_rfl) (by kernel_rfl) (by kernel_rfl) ht λX e g pl=>?_;refine xsr pl 2 [.m .none<|sm0 (.lst a) .none smM] ⟨[(S9 "self",.o 0),(S9 "a",.d<|.lst a),(S9 "b",.d<|.lst b)],[.ins 1,.ns<|sm0 (.lst a) .none smM],X.d⟩ [SmM w (n+1) (S9 "set_seq1") (sm0 .none .none []) [.lst a] .none (sm0 (.lst a) .none smM) id] (by kernel_rfl) ⟨.mk 174 _ 1 (by kernel_rfl) (by kernel_rfl) aH0 (by kernel_rfl) (Nat.le_add_left 1 n)<|aL5 a,trivial⟩ ?_;exact xsl pl fd [.m .none<|sm0 (.lst a) (.lst b)<|smC++t] [SmM w (n+1) (S9 "set_seq2") (sm0 (.lst a) .none smM) [.lst b] .none (sm0 (.lst a) (.lst b)<|smC++t) fd] (by kernel_rfl) ⟨.mk 181 _ (n+1) (by kernel_rfl) (by kernel_rfl) aGZ (by kernel_rfl) (C4 _)<|aL4 ht ch,trivial⟩
abbrev aPP:I8:=fd (fG 5 1) (S9 "SequenceMatcher.__init__") (.ref 153) (Na 416) (.str (S9 "cpy313.difflib") 194) (.ref 159) Nb
theorem init_3{a b:List Dt}{t:Lo}{fd:D8->D8}(ht:allD t=Nc)(ch:jF w n (cal<|.ref 188) (sm0 (.lst a) (.lst b) smC) [] .none (sm0 (.lst a) (.lst b)<|smC++t) fd):nV w (n+3) 160 [] [.none,.lst a,.lst b] .none (sm0 (.lst a) (.lst b)<|smC++t) fd:=by
 refine aAh (f:=aPP) [S9 "self",S9 "isjunk",S9 "a",S9 "b",S9 "autojunk"] [(S9 "self",.o 0),(S9 "isjunk",.d .none),(S9 "a",.d<|.lst a),(S9 "b",.d<|.lst b),(S9 "autojunk",.d<|.bool Nc)] (λO=>.cons (.bool Nc) .nil) (by kernel_rfl) rfl (λs g X e=>?_) (λL=>by kernel_rfl) (by kernel_rfl) (by kernel_rfl) ht λX h i pl=>?_
 .revert g
  refine lW λj p q r=>?_;exact binds_K X rfl (o:=⟨.type "tuple",Nb,.seq #[.none,.str (S9 "") 404,.str (S9 "") 405,.bool Nc] 0,#[]⟩) (by kernel_rfl) rfl rfl (by kernel_rfl)
 .refine xsr pl 4 [] ⟨[(S9 "self",.o 0),(S9 "isjunk",.d .none),(S9 "a",.d<|.lst a),(S9 "b",.d<|.lst b),(S9 "autojunk",.d<|.bool Nc)],[.ins 1,.ns<|sm0 .none .none []],X.d⟩ [] (by kernel_rfl) trivial ?_;exact xsl pl fd [.m .none<|sm0 (.lst a) (.lst b)<|smC++t] [SmM w (n+2) (S9 "set_seqs") (sm0 .none .none []) [.lst a,.lst b] .none (sm0 (.lst a) (.lst b)<|smC++t) fd] (by kernel_rfl) ⟨.mk 167 _ (n+2) (by kernel_rfl) (by kernel_rfl) aGY (by kernel_rfl) (C4 _)<|aL3 ht ch,trivial⟩
noncomputable abbrev smU(A:M2)(va vb:A3):M2:=A.under<|.builtin "type.__call__" {pos:=[A3.ref 242,V3,va,vb]}
section
variable{c:C3}{H:TT}
theorem Rl3.eqS(q:Rl3 c φ H S h)(e:S=S'):Rl3 c φ H S' h:=e▸q
theorem ns0(x:h.get? I=Na S8):At h I<|OwR φ<|.ns []:=by
 have:At h I<|nsL []:=.ofNs1 (O7.Ns1.of_empty ⟨_,_,_,x,rfl,by intro e a;simp at a,λn=>by simp[nsFind,findBy]⟩);exact A2 this λb q=>⟨b,q.1,⟨_,⟨q.2,λO O e=>(nomatch e),λx n=>absurd rfl n⟩⟩⟩
theorem aOh{fd:D8->D8}(iz:nV w n 160 [] [.none,.lst xs,.lst dd] .none r' fd)(ew:c.w=w)(rm:Rm c.A<|n+1):OpS c S SvR (cal<|.ref 242) [.d .none,.d<|.lst xs,.d<|.lst dd] (.o<|S.o.length+1) ⟨S.r,S.o++[.ns r',.ins S.o.length],fd S.d⟩:=
 ⟨λH p vs q=>WP.gen λQ Y=>by
  subst ew;cases q with
  | cons r1 q=>cases q with
   | @cons _ va _ _ r2 q=>cases q with
    | @cons _ vb _ _ B q=>
     cases q
     cases Rp.inv r1
     have G:=p.G;refine⟨wpAny_call<|make_core (init:=.ref 160) (makes_of G.k<|by kernel_rfl) (looks_findIn G.k<|by kernel_rfl) (λu=>bind_fn G.k u<|by kernel_rfl) (.inl rfl) ?_⟩;have hS:(S.o++[Ow.ns []]).length=S.o.length+1:=by rw[A5];rfl
     have nd:p.h.get? p.h.objs.size=none:=aG _;have V:(p.h.push S8).get? p.h.objs.size=Na S8:=C7 _ rfl;have sz:(p.h.push S8).objs.size=p.h.objs.size+1:=P4 ..;have k1:aM p.h<|p.h.push S8:=aJ _ _;have C:=p.rel.alloc k1 nd rfl<|ns0 V;have k2:aM (p.h.push S8)<|(p.h.push S8).push<|instObj 242 p.h.objs.size:=aJ _ _;have a:=C.alloc k2 (aG _) (o:=.ins S.o.length) rfl ⟨_,C7 _ rfl,p.h.objs.size,by
      rw[B5,← p.rel.len,M6<|C4 _,N8];rfl,rfl⟩
     have l1:HP.le p.φ.Z<|bP p.φ.Z p.h (p.h.push S8) [p.h.objs.size]:=aW p.rel.sub;have I:HP.le (bP p.φ.Z p.h (p.h.push S8) [p.h.objs.size])<|bP (bP p.φ.Z p.h (p.h.push S8) [p.h.objs.size]) (p.h.push S8) ((p.h.push S8).push<|instObj 242 p.h.objs.size) [(p.h.push S8).objs.size]:=aW C.sub;have E:=rm.under (c:=.builtin "type.__call__" {pos:=[A3.ref 242,V3,va,vb]}) (F1<|by kernel_rfl) (F1<|by kernel_rfl);have T:(S.o++[Ow.ns []]++[Ow.ins S.o.length])[S.o.length+1]?=Na (.ins S.o.length):=by rw[← hS];exact D9
     have R:(S.o++[Ow.ns []]++[Ow.ins S.o.length])[S.o.length]?=Na (.ns []):=by rw[B5,M6<|C4 _,N8];rfl
     have xa:((p.φ.α++[p.h.objs.size])++[(p.h.push S8).objs.size])[S.o.length+1]?=Na (p.h.objs.size+1):=by
      have:(p.φ.α++[p.h.objs.size]).length=S.o.length+1:=by rw[A5,p.rel.len];rfl
      rw[← this,D9,sz]
     have i:∃i:Pt (c.wA<|smU c.A va vb) H ⟨S.r,S.o++[.ns []]++[.ins S.o.length],S.d⟩,i.s=⟨(p.h.push S8).push<|instObj 242 p.h.objs.size,p.g,S.d,p.k,c.os⟩/\HP.le p.φ.Z i.φ.Z/\i.φ.α=(p.φ.α++[p.h.objs.size])++[(p.h.push S8).objs.size]:=⟨⟨_,_,p.g,p.k,E.less<|C8 _,p.gz.le<|l1.trans I,p.gg,⟨a.len,a.ok,a.inj,a.ns,a.hid,a.sub,a.hz,a.nd,a.cl⟩⟩,rfl,l1.trans I,rfl⟩
     have pf:p.φ.α <+: (p.φ.α++[p.h.objs.size])++[(p.h.push S8).objs.size]:=(M3 _ _).trans<|M3 _ _;obtain⟨i,U,l12,x⟩:=i;rw[← U];refine AB5 (iz.run (c.wA<|smU c.A va vb) ⟨S.r,S.o++[.ns []]++[.ins S.o.length],S.d⟩ (S.o.length+1) S.o.length rfl E T R H i (.ref (p.h.objs.size+1)::V3::va::vb::[])<|.cons ⟨_,by rw[x];exact xa,rfl⟩<|.cons (.dt .none)<|.cons (.dt<|Rp.up l12 r2)<|.cons (.dt<|Rp.up l12 B) .nil).run λr s' y=>?_;obtain e|f:=r
     .exact y.elim
     .cases f with
      | ret v=>
       obtain⟨j,rfl,J,B⟩:=y;cases Rp.inv B
       have N:(S.o++[Ow.ns []]++[Ow.ins S.o.length]).set S.o.length (.ns r')=S.o++[.ns r',.ins S.o.length]:=by rw[B5,Q1 _ _<|C4 _,N8];rfl
       have b:=j.rel.eqS<|congrArg (Sd.mk S.r · (fd S.d)) N;have M:=J.pre rfl;refine⟨rfl,Y _ _ ⟨⟨j.φ,j.h,j.g,j.k,p.rm,j.gz,j.gg,⟨b.len,b.ok,b.inj,b.ns,b.hid,b.sub,b.hz,b.nd,b.cl⟩⟩,rfl,⟨l12.trans J.le,λO=>List.IsPrefix.trans (x▸pf) M⟩,_,aAA M (by rw[x];exact xa),rfl⟩⟩
      | _=>exact y.elim⟩
theorem Rl3.give(R:Rl3 c φ H S h){a:E3}{o:Ow}(w:Liv φ.α S.o n a o)(at_:At h a D):Rl3 c φ ((a,D)::H) {S with o:=S.o.set n .nil} h:=
 have own:=R.own w
 (R.kill n).addH ⟨own.z,own.n,R.alone w⟩ at_
theorem aMD{r:Lo}(ns:h4.Ns θ.env.locals m')(eL:h4.get? θ.env.locals=Na oL)(m0:m' (S9 "self")=Na (.ref a0))(m1:m' (S9 "n")=Na (.int i ti))(hr:allD r=Nc)(nr:NsR ⟨Z,[a0,dx]⟩ r mA)(wi:Within mA<|r.map (·.1))(le:HP.le Z Z')(sx:SX Z' ([(θ.env.locals,eqD oL),(a0,eqD<|smO dx),(dx,nsD mA)]++R') h') :
  Rl3 (θ.c A Gp) ⟨Z',[a0,dx]⟩ R' ⟨[(S9 "self",.o 0),(S9 "n",.d<|.int i)],[.ins 1,.ns r],d⟩ h':=by
 have E:=sx.nd;have w:=(B6.mp E).1;have I:=(B6.mp E).2;have C:=(B6.mp I).1;have x:=(B6.mp I).2;have Q:=(B6.mp x).1;have R:=(B6.mp x).2;have N:=(sx.at_ _<|.head _).getEq;have a1:=sx.at_ _<|.tail _<|.head _;have M:=sx.at_ _<|.tail _<|.tail _<|.head _;have S:a0≠θ.env.locals:=λe=>w<|e▸.head _;have T:dx≠θ.env.locals:=λe=>w<|e▸.tail _ (.head _);have J:a0≠dx:=λe=>C<|e▸.head _;refine⟨rfl,λj b o g B=>?_,λj l b y z U V=>?_,⟨m',Ns.of_get ns eL N,λy s e=>?_⟩,λp hp=>sx.at_ p<|.tail _<|.tail _<|.tail _ hp,sx.sub,λb u=>?_,B6.mpr ⟨λq=>w<|.tail _<|.tail _ q,R⟩,λj b e=>e.elim (fun⟨_,e,_⟩=>nomatch e)<|λe=>nomatch e⟩
 .cases j with
  | zero=>cases g;cases B;exact⟨λO=>⟨A2 a1 λo q=>⟨o,q.1,dx,rfl,q.2⟩,sx.new _<|.tail _<|.head _,λq=>(A8.mp q).elim S λq=>C<|.tail _ q⟩,nofun⟩
  | succ j=>
  cases j with
  | zero=>cases g;cases B;exact⟨λO=>⟨A2 M λo q=>⟨o,q.1,mA,q.2,nr.allD hr le,wi⟩,sx.new _<|.tail _<|.tail _<|.head _,λq=>(A8.mp q).elim T Q⟩,nofun⟩
  | succ j=>cases g
 .have h:=U.ea;have a:=V.ea;cases j with
  | zero=>
   cases l with
   | zero=>rfl
   | succ l=>
   cases l with
   | zero=>cases h;exact absurd (H8 a).symm J
   | succ l=>cases a
  | succ j=>
  cases j with
  | succ j=>cases h
  | zero=>
   cases l with
   | zero=>cases h;exact absurd (H8 a) J
   | succ l=>
   cases l with
   | zero=>rfl
   | succ l=>cases a
 .rw[lkS,lkS] at e;by_cases q:y=S9 "self"
  .rw[if_pos q] at e;cases e;exact⟨_,q▸m0,a0,rfl,rfl⟩
  .rw[if_neg q] at e;by_cases q:y=S9 "n"
   .rw[if_pos q] at e;cases e;exact⟨_,q▸m1,.int _ _⟩
   .rw[if_neg q] at e;cases e
 .obtain rfl|u:=A8.mp u
  .exact sx.new _ (.head _)
  .obtain⟨p,hp,rfl⟩:=C1.mp u;exact sx.new p<|.tail _<|.tail _<|.tail _ hp
theorem aHr{z n:Expr}{fd:D8->D8}(pl:Fn3 c)(iz:nV c.w B 160 [] [.none,.lst<|a.map .str,.lst<|b.map .str] .none (smA a b .none .none<|smT dj oc dp) fd)(rm:Rm c.A<|B+1)(rm0:Rm c.A 8)(fl:pV c.w a b dj oc dp)(za:a.length<=1000000)(zb:b.length<=1000000)(c7:aw.Perm<|jA a b (2*a.length+1) [(0,(a.length:Int),0,(b.length:Int))] [])(ct:aw.Pairwise<|λa b=>a.1<b.1)(dh:aw.length<64)
  (w5:c.env.kindOf (S9 "SequenceMatcher")=Na .globalImplicit) (hf:O5 (([n]:List Expr).length+([]:List AA6).length) (I9 pos<|C0 [n] c.env) (K4 pos<|G5 [] c.env)=Nc) (hl:(ap.endLine==pos.line)=Nc) (he:C0 [ah,b9,z] c.env=(Nd,eval ah c.env)::C0 [b9,z] c.env) (hp:(I9 px<|C0 [b9,z] c.env).any (·.1)=Nd) (he3:C0 [n] c.env=(Nd,eval n c.env)::C0 [] c.env) (az:EvA c S px [ah,b9,z] [.d .none,.d<|.lst<|a.map .str,.d<|.lst<|b.map .str] S) (an:∀S',S'.r=S.r->EvE c S' n (.d<|.int j) S') :
  MkG c S (eval (.Call (.Attribute (.Call (.Name (S9 "SequenceMatcher") pp) [ah,b9,z] [] px) (S9 "get_grouped_opcodes") ap) [n] [] pos) c.env) ((eR j<|hX<|bW a.length b.length aw).map grT) 8 ⟨S.r,S.o,fd S.d⟩ (fd S.d):=
 ⟨λH p=>fN (λO=>rfl) hf hl ((iO pl w5 (.g aPp) (.k<|by kernel_rfl) he hp az<|aOh iz rfl rm).go p λp2 u l2 r2 yj=>by
  have y:(S.o++[Ow.ns<|smA a b .none .none<|smT dj oc dp,.ins S.o.length])[S.o.length+1]?=Na (.ins S.o.length):=by rw[M6<|P9 _,Nat.succ_sub<|C4 _,N8];rfl
  have C:(S.o++[Ow.ns<|smA a b .none .none<|smT dj oc dp,.ins S.o.length])[S.o.length]?=Na (.ns<|smA a b .none .none<|smT dj oc dp):=by rw[M6<|C4 _,N8];rfl
  refine p2.smm (OP:=λf O=>f=218) (.mk 218 _ 0 (by kernel_rfl) (by kernel_rfl) aMe (by kernel_rfl) (C8 _) rfl) rfl y C rm0 r2 λf n' ck rn op=>?_;subst op;refine aNh ck he3 rfl<|(bN he3 (an ⟨S.r,S.o++[.ns<|smA a b .none .none<|smT dj oc dp,.ins S.o.length],fd S.d⟩ rfl) eV).go p2 λx vs M R=>⟨x.G,?_⟩;cases R with
  | cons R r4=>
  cases r4
  obtain⟨tn,rfl⟩:=Rp.inv R;refine x.ins (r2.up M) y C (P:=λu=>WP c.w c.A (PySem.call (.ref 218)<|[u]++[.int j tn]) _ _ _) λU V mA i=>?_;refine aIv (f:=aJb) (bx:=[(S9 "self",.ref U),(S9 "n",.int j tn)]) x.G (by kernel_rfl) (by kernel_rfl) rm0.room rfl (binds_K x.G.k rfl (o:=⟨.type "tuple",Nb,.seq #[.int 3 534] 0,#[]⟩) (by kernel_rfl) rfl rfl<|by kernel_rfl) rfl (by kernel_rfl) (by kernel_rfl) (by kernel_rfl) (by kernel_rfl) (by kernel_rfl) λL ag J k4 Q nL jp pc E Y ns pd=>?_;have hr:allD (smA a b .none .none<|smT dj oc dp)=true:=by kernel_rfl
  have R4:=Rl3.hide x.rel E nL (D:=eqD Q) ⟨Q,Y,rfl⟩;have R5:=R4.give ⟨i.ea,y,rfl⟩<|i.I.keep E;have R6:=R5.give ⟨i.ed,by
   rw[M5<|Nat.succ_ne_self _];exact C,rfl⟩<|i.D.keep E
  obtain⟨t,et⟩:=(l2.tr M).pre rfl;have e3:((S.o++[Ow.ns<|smA a b .none .none<|smT dj oc dp,.ins S.o.length]).set (S.o.length+1) .nil).set S.o.length .nil=S.o++[.nil,.nil]:=by
   rw[Q1 _ _<|P9 _,Q1 _ _<|C4 _,Nat.succ_sub<|C4 _,N8];rfl
  have T:=R6.eqS<|congrArg (Sd.mk S.r · (fd S.d)) e3;rw[← et] at T;have R8:=Rl3.drop (S:=⟨S.r,S.o,fd S.d⟩) ⟨p.rel.len,p.rel.ok,p.rel.inj,p.rel.ns,p.rel.hid,p.rel.sub,p.rel.hz,p.rel.nd,p.rel.cl⟩ T;have N:HP.le x.φ.Z<|bP x.φ.Z x.h J [L]:=aW x.rel.sub;have w6:(hX<|bW a.length b.length aw).length<=200:=by
   have h1:=aDk (bW a.length b.length aw) ((0,0),[]);rw[U6,V4] at h1;exact A9 h1<|A9 (Nat.mul_le_mul_left 2<|A9 (tC a.length b.length aw)<|Nat.add_le_add_right (I3 dh) 2)<|by decide
  obtain⟨w7,q9,e9⟩:=aHt w6 rfl rfl rfl<|aOL fl za zb c7 ct dh;exact .mk ag [(L,eqD Q),(U,eqD<|smO V),(V,nsD mA)] _ ⟨bP x.φ.Z x.h J [L],p.φ.α⟩ J x.g k4 rfl rfl x.gg (R8.permH<|(List.Perm.swap _ _ _).trans<|(List.Perm.cons _<|List.Perm.swap _ _ _).trans<|List.Perm.swap _ _ _) ⟨(l2.tr M).le.trans N,λO=>Q6 _⟩ (by
   obtain⟨o,e,q⟩:=cF jp pd;exact⟨o,(jN λz=>pc<|C6.mp z).trans e,q⟩) rfl λA ph=>tJ q9 (.inl rfl) e9 (λA Gp Z' R' h' le sx=>aMD ns Y rfl rfl hr (i.n.allD hr N) i.w le sx) (x.gz.le N)<|aD2 ph)⟩
end
section
variable{b:List F9}
theorem aKB{st:F9}(hn:o.nx=Nd)(x:Yv θ T G N S OuR (exec st θ.env) o N1 S1):YvX θ T G N S (st::b1) o N1 S1:=
 ⟨λA code d fr g p le K H h lv i q=>by
  rw[execs_cons_wrap];refine x.run A code d fr g p le _ H h lv i λe n v l1 j a=>?_;have b:=q e n v l1 j a;cases o with
  | next=>cases hn
  | cont=>cases (a);exact b
  | brk=>cases (a);exact b
  | ret s=>obtain⟨u,rfl,_⟩:=a;exact b⟩
theorem aO3(ok:(ifV b).isSome=Nc)(hn:o.nx=Nd)(t:Bool)(x:∀A Gp,Rm A θ.n->EvB (θ.c A Gp) S (ifT b) t S1)(q1:t=Nc->YvX θ T G N S1 (ifA b) o N2 S2)(q2:t=Nd->YvX θ T G N S1 (ifE b) o N2 S2):YvX θ T G N S b o N2 S2:=
 A2 (tG ok) λpos e=>(congrArg (YvX θ T G N S · o N2 S2) e).mpr<|aKB hn<|aIx t x q1 q2
theorem aFP(bk:List Dt)(nI:Nat)(R:Nat->Nat×Sd)(ok:(foV b).isSome=Nc)(en:foT b=.Name x px)(hn:nI+1<=θ.n)(hd:∀i,(R i).2.d=S1.d)(mk:∀A Gp,Rm A θ.n->MkG (θ.c A Gp) S (eval (foI b) θ.env) bk nI S1 S1.d)(w:∀A Gp,Wks (θ.c A Gp) S1 (R 0).2)(e0:(R 0).1=N)
  (step:∀T' G' i y,bk[i]?=Na y->∃S2,(∀A Gp,AsT (θ.c A Gp) (R i).2 (.Name x px) (.d y) S2)/\TnY θ T' G' (R i).1 S2 (foB b) (R<|i+1).1 (R<|i+1).2) (q:YvX θ T G (R bk.length).1 (R bk.length).2 b.tail o N2 S2):YvX θ T G N S b o N2 S2:=
 A2 (jC (c:=θ.c callerA λO=>True) ok) λpos e=>(congrArg (YvX θ T G N S · o N2 S2)<|e.1.trans<|by rw[en]).mpr<|tV (aKC bk nI R e.2 hn hd mk w e0 step) q
def Lf(outs:List Dt)(X:List Str):Prop:=∃pre,outs=pre++X.map .str
theorem Lf.at_{X:List Str}(l:Lf outs<|x::X):outs[outs.length-(X.length+1)]?=Na (.str x)/\Lf outs X:=
 A2 l λa e=>⟨by
  rw[e,H5,← A1 Dt.str];exact yS,a++[.str x],by rw[e,H5,B5];rfl⟩
theorem Lf.drop{X:List Str}(l:Lf outs<|X++a):Lf outs a:=A2 l λb e=>⟨b++X.map .str,by rw[e,B4,B5]⟩
theorem aFM{X:List Str}(l:Lf θ.outs<|x::X)(ok:(ydV b).isSome=Nc)(fp:θ.env.scope.isCoroutine=Nd)(hi:interactive θ.env=Nd)(hd:S.d=θ.d)(e:∀A Gp,Rm A θ.n->EvE (θ.c A Gp) S (ydE b) (.d<|.str x) S)(q:Lf θ.outs X->YvX θ T G X.length S b.tail o N2 S2):YvX θ T G (x::X).length S b o N2 S2:=
 aKA ok fp hi hd e rfl l.at_.1 (q l.at_.2)
theorem aFO{S2:Str->Sd}{f:Str->Str}(l:Lf θ.outs<|a.map f++ns)(ok:(foV b).isSome=Nc)(tn:Ex2 λx p=>foT b=.Name x p)(w8:(ydV<|foB b).isSome=Nc)(et:(foB b).tail=[])(fp:θ.env.scope.isCoroutine=Nd)(hi:interactive θ.env=Nd)(hd:S.d=θ.d)(w9:∀y,(S2 y).d=θ.d)
  (x:∀A Gp,Rm A θ.n->EvE (θ.c A Gp) S (foI b) (.d<|.lst<|a.map .str) S) (as:∀y A Gp,AsT (θ.c A Gp) S (foT b) (.d<|.str y)<|S2 y) (wk:∀y A Gp,Wks (θ.c A Gp) (S2 y) S) (e:∀y∈a,∀A Gp,Rm A θ.n->EvE (θ.c A Gp) (S2 y) (ydE<|foB b) (.d<|.str<|f y) (S2 y)) (q:Lf θ.outs ns->YvX θ T G ns.length S b.tail o N2 S3):YvX θ T G (a.map f++ns).length S b o N2 S3:=by
 have j:∀i,Lf θ.outs<|(a.drop i).map f++ns:=λi=>A2 l λh e=>⟨h++((a.take i).map f).map .str,by rw[e,B5,← B4,← B5,← B4,G3]⟩
 refine xZ (λi=>(((a.drop i).map f++ns).length,S)) ok (λO=>rfl) x (bM<|.inl tn) (λA Gp=>.refl) rfl (λw i y ey=>?_) ?_
 .rw[B3] at ey;obtain⟨s,g,rfl⟩:=B0.mp ey;have u:a.drop i=s::a.drop (i+1):=by rw[N9 (A4.mp g).1,(A4.mp g).2]
  have r:=j i;rw[u] at r ⊢;exact⟨S2 s,as s,.next _ (aFM r w8 fp hi (w9 s) (e s<|D5 g) λO=>et▸fV)<|wk s⟩
 .have le:=j a.length;rw[A1];rw[V8,List.map_nil] at le ⊢;exact q le
end
section
variable{c:C3}
theorem aEB{tag:Str}(hm:AA0 .In (.Set [.Constant (.str ff) B pp,.Constant (.str tf) C ap] k0 px)=Nc)(hc:kdsCode (K c.w.params) c.env.code=Nc)
  (kt:(displayRoad k0 [.Constant (.str ff) B pp,.Constant (.str tf) C ap] == .constants)=Nd) (hp:[Expr.Constant (.str ff) B pp,Expr.Constant (.str tf) C ap].all kdsPlain=Nc)
  (x:EvE c S ah (.d<|.str tag) S1):EvB c S (.Compare ah [.In] [.Set [.Constant (.str ff) B pp,.Constant (.str tf) C ap] k0 px] pos) (tag==ff||tag==tf) S1:=by
 refine⟨λH p=>⟨kdi_test hm (x.go p λq v1 l1 r1=>?_:WP c.w c.A (eval ah c.env) _ _ _).run⟩⟩;obtain⟨Q,rfl⟩:=Rp.inv r1;refine A0<|P8 ?_;refine A0<|kds_main q.G.k hc λb=>?_;refine kds_core (ts:=(evalEach [.Constant (.str ff) B pp,.Constant (.str tf) C ap] c.env).map λt=>do let v ← t;standAt px;pure v) kt rfl (F1 rfl) rfl λa=>?_;generalize J:q.h.objs.size=D;have V:aM q.h<|q.h.push {cls:=.type "set",dict:=Nb,data:=.set #[] 0 (.fresh 0 0 a)}:=aJ _ _;have Y:=J▸aG _;have s0:(q.h.push {cls:=.type "set",dict:=Nb,data:=.set #[] 0 (.fresh 0 0 a)}).SetOf (strKind P c.w) D (λO=>Nd) 0:=(setObjOf_fresh a).setOf (J▸C7 _ rfl) (by decide);have j:∀{r n:O7},aM q.h r->P5 D r n->aM q.h n:=λM sb b o e=>sb.extBut b o (by rintro rfl;rw[Y] at e;cases e)<|M b o e;refine kds_all px _ _ _ ?_;refine(aEF λt1 M=>?_:WP c.w c.A (eval (.Constant (.str ff) B pp) c.env) _ _ _).run;refine(aEF λt2 k2=>?_:WP c.w c.A (eval (.Constant (.str tf) C ap) c.env) _ _ _).run;refine kds_fill_cons (aIF s0 (by decide) λr k3 wa s3=>?_);refine kds_fill_cons (aIF s3 (by decide) λn N Z s4=>?_);have I:=j (j V wa) Z;have done:∀i u,aM q.h i->i.SetOf (strKind P c.w) D (λy=>(Nd||decide (y=ff))||decide (y=tf)) (if (Nd||decide (tf=ff)) then (if Nd then 0 else 0+1) else (if Nd then 0 else 0+1)+1)->KdiMark (model P c.w) c.A FF (.ref D) (λR=>M8 (model P c.w) c.A (E6 .In (.str tag Q)<|.ref D) (λU T=>M8 (model P c.w) c.A (truthy U) (EvP c Nc p.φ H EqR (tag==ff||tag==tf) S1) FF T) FF R) ⟨i,q.g,S1.d,u,c.os⟩:=λi u wb E=>by
  refine kdi_mark<|aAs E λh6 wd s6=>?_;refine wpAny_inSet_of (isStrOf_self tag Q) rfl s6 ?_;refine(qA (EvP.mk ((q.tk<|u+1).grow (j wb wd) []) rfl (l1.tr<|.z<|aW q.rel.sub) ?_):WP c.w c.A (truthy<|.bool _) _ _ _).run;rw[Bool.false_or,qM,qM]
 cases hu:(displayRoad k0 [.Constant (.str ff) B pp,.Constant (.str tf) C ap]==DisplayRoad.unsure) with
 | false=>exact kds_fill_nil rfl<|done n N I s4
 | true=>exact kds_fill_unled rfl<|aAs s4 λi we E=>done i N (j I we) E
theorem oM(op:OpV w 0 (cal<|.builtin "str.format") (.str x::ds) oc):MtD w (.str x) (S9 "format") ds oc:=
 ⟨"str.format",λc S a o e=>⟨λH p v r pl=>by
  obtain⟨t,rfl⟩:=((jW e p.rel r).1).inv;exact aBU ⟨rfl,rfl⟩⟩,op⟩
end
theorem aS3(h1:0<=i)(h2:i<10000000000):OpV w 0 (cal<|.builtin "str.format") [.str<|S9 "{}",.int i] (.str<|S9<|H3 i):=ov2 λA Z h g d k os u v j n s b e=>by
 obtain⟨t,rfl⟩:=b.inv;obtain⟨p,rfl⟩:=e.inv;exact aSF h1 h2 λo a=>⟨h,g,a,rfl,aM.refl _,.str _ _⟩
theorem aOP(h1:0<=i)(h2:i<10000000000)(h3:0<=j)(h4:j<10000000000):OpV w 0 (cal<|.builtin "str.format") [.str<|S9 "{},{}",.int i,.int j] (.str<|S9 (H3 i)++S9 ","++S9 (H3 j)):=
 ⟨λA Z h g d k os u o p s r=>by
  obtain⟨_,_,rfl,a1,n⟩:=r.inv;obtain⟨_,_,rfl,a,b⟩:=n.two;obtain⟨_,rfl⟩:=a1.inv;obtain⟨_,rfl⟩:=a.inv;obtain⟨_,rfl⟩:=b.inv;exact aSE h1 h2 h3 h4 λq e=>⟨h,g,e,rfl,aM.refl _,.str _ _⟩⟩
theorem aJ5(ha:0<=j)(rj:j<1000000000)(hb:j<=c)(ro:c<1000000000):OpV w 1 (cal<|.ref 253) [.int j,.int c] (.str<|cS j c):=by
 refine lI (f:=aPQ) [S9 "start",S9 "stop"] [] ([(S9 "start",.d<|.int j),(S9 "stop",.d<|.int c)],[]) (by kernel_rfl) rfl (lW λO O=>by kernel_rfl) (λL=>by kernel_rfl) (by kernel_rfl) (by kernel_rfl) λX pl=>?_;by_cases b:c-j=1
 .rw[show cS j c=S9 (H3<|j+1) from if_pos b];exact sH pl [.t Nc,.v<|.str<|S9<|H3<|j+1] (.str<|S9<|H3<|j+1) [(c-j==1)=Nc,MtD w (.str<|S9 "{}") (S9 "format") [.int<|j+1] (.str<|S9<|H3<|j+1)] (by kernel_rfl) ⟨beq_iff_eq.mpr b,oM<|aS3 (ar4 ha)<|(l20<|.i pM<|.i (.q eM aC)<|.s aR<|.k 10000000000) ro b,trivial⟩
 .rw[show cS j c=S9 (H3 (if c-j=0 then j else j+1))++S9 ","++S9 (H3<|c-j) from if_neg b];by_cases e:c-j=0
  .rw[if_pos e];exact sH pl [.t Nd,.t Nc,.v<|.str<|S9 (H3 j)++S9 ","++S9 (H3<|c-j)] (.str<|S9 (H3 j)++S9 ","++S9 (H3<|c-j)) [(c-j==1)=Nd,(!(c-j != 0))=Nc,MtD w (.str<|S9 "{},{}") (S9 "format") [.int<|j+1-1,.int<|c-j] (.str<|S9 (H3 j)++S9 ","++S9 (H3<|c-j))] (by kernel_rfl) ⟨beq_eq_false_iff_ne.mpr b,by rw[e];rfl,by rw[show j+1-1=j by exact l10<|.q (.m aR aC) .a];exact oM<|aOP ha ((l10<|.i pJ<|.s .a<|.k 10000000000) rj) ((l20<|.i (.q bG aE)<|.l aE bG) e)<|(l20<|.i (.q bG aE)<|.s bG<|.k 10000000000) e,trivial⟩
  .rw[if_neg e];exact sH pl [.t Nd,.t Nd,.v<|.str<|S9 (H3<|j+1)++S9 ","++S9 (H3<|c-j)] (.str<|S9 (H3<|j+1)++S9 ","++S9 (H3<|c-j)) [(c-j==1)=Nd,(!(c-j != 0))=Nd,MtD w (.str<|S9 "{},{}") (S9 "format") [.int<|j+1,.int<|c-j] (.str<|S9 (H3<|j+1)++S9 ","++S9 (H3<|c-j))] (by kernel_rfl) ⟨beq_eq_false_iff_ne.mpr b,by rw[bne_iff_ne.mpr e];rfl,oM<|aOP (ar4 ha) ((l10<|.i pJ<|.s aR<|.k 10000000000) rj) ((l20<|.i eO<|.l aE bG) hb)<|(l20<|.i bU<|.i pJ<|.s bG<|.k 10000000000) ha ro,trivial⟩
theorem aFT{a:E3}(a8:List Str)(va:Str){es:List Dt}(S0:Lo)(ho:(K w.params).lookup a=Na ⟨.type "function",Nb,.func f,#[]⟩)(bf:f.body=.stmts body)(hb:∀vs ex,vs.length=ds.length->ex.length=es.length->bindArgs f ⟨vs++ex,[]⟩=(do let t ← newTuple ex;pure (a8.zip vs++[(va,t)])))(len:a8.length=ds.length)(d5:∀L,cellsFrom (L+1) f.scope.names []=clL [] L)(ok:(aC2 w.params f (a8++[va]) []&&f.scope.names.all λx=>x.2 != .cell)=Nc)(hS:(dR f (a8++[va])<|ds++[.tup es],dO (a8++[va]) (ds++[.tup es]) [])=(S0,[]))(hz:es.length<=B9)
  (q:∀X:Q3,P3 (cX w f a [] X) n->Rt (cX w f a [] X) ⟨S0,[],X.d⟩ body dt):OpV w (n+1) (cal<|.ref a) (ds++es) dt:=by
 refine⟨λA Z h g d k os S N rm s r=>?_⟩;obtain⟨vs,ex,rfl,j,r2⟩:Ex2 λvs ex=>dH (S=vs++ex) (Rps Z ds vs)<|Rps Z es ex:=by
  refine⟨S.take ds.length,S.drop ds.length,(G3 _ _).symm,?_,?_⟩
  .have:=r.take ds.length;simpa using this
  .have:=r.drop ds.length;simpa using this
 have l1:=j.len;have l2:=r2.len;have oc:=(aB ok).2;have ok:=kJ (aB ok).1;refine⟨wpAny_call<|codeAny_call_function rm.room ((N h s).k _ _ ho) rfl ok.co ok.gen bf (codeRec_of (N h s).k ok.cd) ?_⟩;rw[hb vs ex l1 l2];refine A0 (wpAny_newTuple ?_ (by rw[l2];exact hz));refine A7 ?_;have J:=aJ h {cls:=.type "tuple",data:=.seq ex.toArray};have Y:At (h.push {cls:=.type "tuple",data:=.seq ex.toArray}) h.objs.size<|gI ex:=⟨_,C7 _ rfl,_,rfl⟩
 have I:=kB (h':=h.push {cls:=.type "tuple",data:=.seq ex.toArray}) s;have Q:=N.le I;have E:=wJ s J;have zt:AtZ (dE Z h<|h.push {cls:=.type "tuple",data:=.seq ex.toArray}) h.objs.size<|gI ex:=cF (aG _) Y;generalize yk:h.push {cls:=.type "tuple",data:=.seq ex.toArray}=h1 at J Y I Q E zt;have rr:=(j.up I).append<|.cons (.tup zt<|r2.up I) .nil;have pj:a8.zip vs++[(va,A3.ref h.objs.size)]=(a8++[va]).zip (vs++[.ref h.objs.size]):=by
  rw[List.zip_append<|by rw[len,l1]];rfl
 rw[pj];have env:∀L,AA1 f L a=N7 f L a:=λL=>by unfold AA1 N7;rw[d5,ok.clo];rfl
 have kd:∀x∈(a8++[va]).zip (vs++[A3.ref h.objs.size]),f.scope.names.lookup x.1=Na .local:=λp hp=>(Bool.or_eq_true_iff.mp<|ok.kd p.1<|(eG _ _).subset<|C9 hp).elim F6 λz=>nomatch (aB z).2
 refine wpAny_newFunctionEnv (λx hx=>by simpa using J6.mp oc x hx) kd (λT ns sb=>⟨(Q _ E).nolimit.fresh _ sb,codeAny_func ?_⟩) ok.k;have ip:=λb o e=>sb.extBut b o (W6<|L6 e)<|I7 _ e;have nd:(((a8++[va]).zip<|vs++[A3.ref h.objs.size]).reverse.map (·.1)).Nodup:=by rw[List.map_reverse];exact(List.reverse_perm _).nodup_iff.mpr<|ok.nd.sublist<|eG _ _
 show M8 _ (A.deeper<|AA1 f h1.objs.size a) (execs body<|AA1 f h1.objs.size a) _ _ _;rw[env];have R:=xJ (A:=A) (a:=a) (os:=os) (G:=(·=g)) (d:=d) ok E (aG _) rr (d5 _) ⟨_,ns,λx v i O=>uQ nd<|List.mem_reverse.mpr i⟩ ip nofun .nil nofun nofun
 rw[(Prod.mk.inj hS).1,(Prod.mk.inj hS).2] at R;have V:=rm.deeper (env:=N7 f h1.objs.size a);have tr:∀{v B},lX (dE Z h h1) h1 g d os dt v B->lX Z h g d os dt v B:=λ{v B} y=>by
  obtain⟨h',g',k',e,kk,rv⟩:=y;exact⟨h',g',k',e,λb o e=>kk b o<|J b o e,rv.up<|yX J kk⟩
 have p:∃p:Pt (c3 w A f h1.objs.size a os [] (·=g)) (gB (dE Z h h1) h1) ⟨S0,[],d⟩,HP.le (dE Z h h1) p.φ.Z/\p.s=⟨T,g,d,k+((a8++[va]).zip<|vs++[A3.ref h.objs.size]).length,os⟩:=⟨⟨_,T,g,k+((a8++[va]).zip<|vs++[A3.ref h.objs.size]).length,V.less<|C8 _,Q,rfl,R⟩,.refl _,rfl⟩
 obtain⟨p,U,ep⟩:=p;refine B7 (?_:WP w (A.deeper<|N7 f h1.objs.size a) (execs body<|N7 f h1.objs.size a) (λfl B=>lX Z h g d os dt (sT fl) B) FF _).run (λfl B y=>by cases fl <;> exact y)<|λO O e=>False.elim e;rw[← ep];cases q ⟨A,h1.objs.size,os,d,(·=g)⟩ ⟨⟨ok.k,ok.g,ok.b⟩,V⟩ with
 | ret sv S' o x e M=>exact x.go p λC u l1 j=>A2 j λv z=>by rw[z.1];exact tr<|C.back E (U.trans l1.le) e z.2 C.gg M
 | none S' x e M=>
  subst e;exact x.go p λC u l1 j=>by rw[show u=.next from j];exact tr<|C.back E (U.trans l1.le) rfl (.dt .none) C.gg M
theorem aPY{c:C3}{f:Str}{v:A3}(pl:Fn3 c)(hx:c.env.kindOf f=Na .globalImplicit)(B:BI f v):EvE c S (.Name f pp) (.d<|.raw v) S:=
 ⟨λH q=>g_b q.G pl.k hx pl.g pl.b B<|q.here<|.dt<|.raw v⟩
abbrev ckB:List F9:=gR<|dC 8
abbrev noE(e:Expr):Expr:=che 0<|che 1 e
abbrev noU:Expr->Expr:=che 0
noncomputable abbrev ckS(a b:List Str)(e1 e2 e3 e4 e5:Str)(d:D8):Sd:=⟨[(S9 "a",.d<|.lst<|a.map .str),(S9 "b",.d<|.lst<|b.map .str),(S9 "args",.d<|.tup [.str e1,.str e2,.str e3,.str e4,.str e5])],[],d⟩
noncomputable abbrev ckT(s:Str)(d:D8):Sd:=⟨[(S9 "arg",.d<|.str s)],[],d⟩
theorem cQ{c:C3}{b:List F9}(k:Nat)(x:EvX c S (b.take k) .next S1)(q:EvX c S1 (b.drop k) o S2):EvX c S b o S2:=G3 k b▸oY x q
theorem aEW(h:(!(a.map Dt.str).isEmpty)=Nc):0<a.length:=by cases a <;> simp at h ⊢
theorem aQ9{e2 e3 e4 e5:Str}(za:a.length<=1000000)(zb:b.length<=1000000):OpV w 1 (cal<|.ref 268) [.lst<|a.map .str,.lst<|b.map .str,.str tf,.str e2,.str e3,.str e4,.str e5] .none:=by
 refine aFT (f:=jE) (ds:=[.lst<|a.map .str,.lst<|b.map .str]) (es:=[.str tf,.str e2,.str e3,.str e4,.str e5]) [S9 "a",S9 "b"] (S9 "args") [(S9 "a",.d<|.lst<|a.map .str),(S9 "b",.d<|.lst<|b.map .str),(S9 "args",.d<|.tup [.str tf,.str e2,.str e3,.str e4,.str e5])] (by kernel_rfl) rfl ?_ rfl (λL=>by kernel_rfl) (by kernel_rfl) (by kernel_rfl) (by rw[C5];simp) λX pl=>?_
 .intro vs g N j;obtain⟨x,y,rfl⟩:=aPc N;cases g with
  | nil=>cases j
  | cons p g=>
   cases g with
   | nil=>cases j
   | cons q g=>
    cases g with
    | nil=>cases j
    | cons r g=>
     obtain⟨s,t,rfl⟩:=aPc<|Nat.succ.inj<|Nat.succ.inj<|Nat.succ.inj j
     kernel_rfl
 have A:∀{S:Sd}{x y:Expr}{p1 p2:Pos}{s:Str},iJ [x,y]=Nc->EvE (cX w jE 268 [] X) S x (.d<|.str s) S->(∃p,y=.Name (S9 "str") p)->EvE (cX w jE 268 [] X) S (.Call (.Name (S9 "isinstance") p1) [x,y] [] p2) (.d<|.bool Nc) S:=λu R T=>by
  obtain⟨p,rfl⟩:=T;exact iO pl.toFn3 (by kernel_rfl) (.b sL) (.b _) (dM (aB u).1) (gV (aB u).2) (bN (dM (aB u).1) R<|bN rfl (aPY pl.toFn3 (by kernel_rfl) aF7) eV)<|rB pl.rm0 (aDg _) rfl rfl
 obtain⟨pos,I⟩:=tG (by kernel_rfl);have z:∀{l:List Str},l.length<=1000000->(l.map Dt.str).length<4611686018427387904:=λh=>by rw[A1];exact Q9 h<|by decide
 have M:∀l:List Str,((!(l.map Dt.str).isEmpty)&&!Nc)=false:=λl=>by simp
 have C:EvB (cX w jE 268 [] X) (ckS a b tf e2 e3 e4 e5 X.d) (ifT ckB) (!(a.map Dt.str).isEmpty&&!Nc)<|ckS a b tf e2 e3 e4 e5 X.d:=bq pl [.e<|.d<|.bool Nc] [(a.map Dt.str).length<4611686018427387904,(!(a.map Dt.str).isEmpty)=Nc->Al [EvE (cX w jE 268 [] X) (ckS a b tf e2 e3 e4 e5 X.d) (noE<|ifT ckB) (.d<|.bool Nc)<|ckS a b tf e2 e3 e4 e5 X.d]] (by kernel_rfl) ⟨z za,λh=>⟨A (s:=a.getD 0 D6) (by kernel_rfl) (eq3 pl [.v<|.str<|a.getD 0 D6] [aO (.lst<|a.map .str) 0<|.str<|a.getD 0 D6] (by kernel_rfl) ⟨mW Dt.str a D6 0 (aEW h) za,trivial⟩) ⟨_,rfl⟩,trivial⟩,trivial⟩;have E:EvB (cX w jE 268 [] X) (ckS a b tf e2 e3 e4 e5 X.d) (ifT<|ckB.drop 1) (!(b.map Dt.str).isEmpty&&!Nc)<|ckS a b tf e2 e3 e4 e5 X.d:=bq pl [.e<|.d<|.bool Nc] [(b.map Dt.str).length<4611686018427387904,(!(b.map Dt.str).isEmpty)=Nc->Al [EvE (cX w jE 268 [] X) (ckS a b tf e2 e3 e4 e5 X.d) (noE<|ifT<|ckB.drop 1) (.d<|.bool Nc)<|ckS a b tf e2 e3 e4 e5 X.d]] (by kernel_rfl) ⟨z zb,λh=>⟨A (s:=b.getD 0 D6) (by kernel_rfl) (eq3 pl [.v<|.str<|b.getD 0 D6] [aO (.lst<|b.map .str) 0<|.str<|b.getD 0 D6] (by kernel_rfl) ⟨mW Dt.str b D6 0 (aEW h) zb,trivial⟩) ⟨_,rfl⟩,trivial⟩,trivial⟩;rw[M] at C E;obtain⟨wf,J⟩:=tG (by kernel_rfl);have Z:∀s,EvB (cX w jE 268 [] X) (ckT s X.d) (ifT<|foB<|ckB.drop 2) (!Nc)<|ckT s X.d:=λs=>bq pl [.e<|.d<|.bool Nc] [EvE (cX w jE 268 [] X) (ckT s X.d) (noU<|ifT<|foB<|ckB.drop 2) (.d<|.bool Nc)<|ckT s X.d] (by kernel_rfl) ⟨A (s:=s) (by kernel_rfl) (eq3 pl [] [] (by kernel_rfl) trivial) ⟨_,rfl⟩,trivial⟩;obtain⟨B,n,Q⟩:=jC (by kernel_rfl);obtain⟨wg,o⟩:=tG (b:=foB<|ckB.drop 2) (by kernel_rfl);have U:=rR (S:=ckS a b tf e2 e3 e4 e5 X.d) (pos:=B) (body:=foB<|ckB.drop 2) (t:=foT<|ckB.drop 2) (d:=.tup [.str tf,.str e2,.str e3,.str e4,.str e5]) (λO=>⟨[],[],X.d⟩) Q (λO=>rfl) (eq3 pl [] [] (by kernel_rfl) trivial) aH9 (fits<|by kernel_rfl) λi y ey=>by
  obtain⟨s,rfl⟩:∃s,y=.str s:=by
   have:=D5 ey;simp only[A8,AB4,or_false] at this;obtain h|h|h|h|h:=this <;> exact⟨_,h⟩
  exact⟨ckT s X.d,gY<|by kernel_rfl,.next (ckT s X.d) (by rw[o];exact bY (rQ (Z s) nofun λO=>cJ) cJ)<|fits<|by kernel_rfl⟩
 have wh:ckB.drop 2=[.For (foT<|ckB.drop 2) (foI<|ckB.drop 2) (foB<|ckB.drop 2) [] B]:=by
  have:=n
  rwa [show(ckB.drop 2).tail=[] from rfl] at this
 have V:=(congrArg (λz=>EvX (cX w jE 268 [] X) (ckS a b tf e2 e3 e4 e5 X.d) z .next<|ckS a b tf e2 e3 e4 e5 X.d)<|congrArg (List.take 1) I).mpr<|bY (rQ C nofun λO=>cJ) cJ;have Y:=(congrArg (λz=>EvX (cX w jE 268 [] X) (ckS a b tf e2 e3 e4 e5 X.d) z .next<|ckS a b tf e2 e3 e4 e5 X.d)<|congrArg (List.take 1) J).mpr<|bY (rQ E nofun λO=>cJ) cJ;exact .none _ (cQ 1 V<|cQ 1 Y<|(congrArg (λz=>EvX (cX w jE 268 [] X) (ckS a b tf e2 e3 e4 e5 X.d) z .next ⟨[],[],X.d⟩) wh).mpr<|bY U cJ) rfl rfl
section
variable{L:E3}{d0:D8}{m:Int}{lt:Str}
abbrev udB:List F9:=gR<|dC 7
abbrev aJ9:I8:=fd (dC 7) (S9 "unified_diff") (.ref 254) (Na 636) (.str (S9 "cpy313.difflib") 194) (.ref 260) Nb
abbrev udθ(w:E9)(L:E3)(os:U1)(d:D8)(outs:List Dt):GC:=⟨w,AA1 aJ9 L 261,os,9,d,outs⟩
theorem eD(rm:Rm A 9):P3 ((udθ w L os d outs).c A Gp) 9:=⟨⟨by kernel_rfl,by kernel_rfl,by kernel_rfl⟩,rm⟩
structure UdP where
 a:List Str
 b:List Str
 ff:Str
 tf:Str
 lt:Str
 m:Int
noncomputable abbrev UdP.l(u:UdP):Lo:=[(S9 "a",.d<|.lst<|u.a.map .str),(S9 "b",.d<|.lst<|u.b.map .str),(S9 "fromfile",.d<|.str u.ff),(S9 "tofile",.d<|.str u.tf),(S9 "fromfiledate",.d<|.str D6),(S9 "tofiledate",.d<|.str D6)]
abbrev uS(u:UdP)(d:D8)(x:Lo):Sd:=⟨u.l++x,[],d⟩
abbrev uG(u:UdP)(d:D8)(st:Bool)(x:Lo):Sd:=uS u d<|[(S9 "lineterm",.d<|.str u.lt),(S9 "started",.d<|.bool st)]++x
theorem aCt{N}(u:UdP)(za:u.a.length<=1000000)(zb:u.b.length<=1000000):YvX (udθ w L os d outs) [] [] N (uS u d0 [(S9 "n",.d<|.int u.m),(S9 "lineterm",.d<|.str u.lt)]) (udB.take 3) .next N (uS u d0 [(S9 "n",.d<|.int u.m),(S9 "lineterm",.d<|.str u.lt),(S9 "started",.d<|.bool Nd)]):=
 yx λA g e=>xa (eD e) [.v .none] _ [fQ w 9 (S9 "_check_types") [.lst<|u.a.map .str,.lst<|u.b.map .str,.str u.ff,.str u.tf,.str D6,.str D6,.str u.lt] .none] (by kernel_rfl) ⟨⟨_,1,by decide,aMA,by kernel_rfl,aQ9 za zb⟩,trivial⟩
abbrev udL:List F9:=foB<|udB.drop 3
theorem aCw{N}{G}{T}(u:UdP)(gr:Dt):YvX (udθ w L os d outs) T G N (uG u d Nd [(S9 "group",.d gr)]) ((ifA udL).take 3) .next N<|uG u d Nc [(S9 "group",.d gr),(S9 "fromdate",.d<|.str D6),(S9 "todate",.d<|.str D6)]:=
 yx λA b a=>xa (eD a) [.t Nd,.t Nd] _ [D6.length<4611686018427387904,Nd=Nd,D6.length<4611686018427387904,Nd=Nd] (by kernel_rfl) ⟨by decide,rfl,by decide,rfl,trivial⟩
abbrev uH(u:UdP)(d:D8)(gr:Dt):Sd:=uG u d Nc [(S9 "group",.d gr)]
theorem aKL{G}{T}(u:UdP)(hff:u.ff.length<=100000)(htf:u.tf.length<=100000)(hlt:u.lt.length<=100000)(l:Lf outs<|(if b' then [] else sO u.ff u.tf u.lt)++a)(q:Lf outs a->YvX (udθ w L os d outs) T G a.length (uH u d oc) udL.tail o B S'):YvX (udθ w L os d outs) T G ((if b' then [] else sO u.ff u.tf u.lt)++a).length (uG u d b' [(S9 "group",.d oc)]) udL o B S':=by
 cases b' with
 | true=>
  refine mB (by kernel_rfl) Nd (λA e b=>bq (eD b) [] [] (by kernel_rfl) trivial) nofun (λO=>fV) (q l)
 | false=>
  refine mB (by kernel_rfl) Nc (λA e b=>bq (eD b) [] [] (by kernel_rfl) trivial) (λO=>aBt 3 (aCw u oc) ?_) nofun (q ?_)
  .refine aFM l (by kernel_rfl) (by kernel_rfl) (by kernel_rfl) rfl (λA e b=>eq3 (eD b) [.v<|.str<|S9 "--- "++u.ff++D6++u.lt] [MtD w (.str<|S9 "--- {}{}{}") (S9 "format") [.str u.ff,.str D6,.str u.lt] (.str<|S9 "--- "++u.ff++D6++u.lt)] (by kernel_rfl) ⟨oM<|aS1 (ar5 hff) (by decide)<|ar5 hlt,trivial⟩) λl=>?_;refine aFM l (by kernel_rfl) (by kernel_rfl) (by kernel_rfl) rfl (λA e b=>eq3 (eD b) [.v<|.str<|S9 "+++ "++u.tf++D6++u.lt] [MtD w (.str<|S9 "+++ {}{}{}") (S9 "format") [.str u.tf,.str D6,.str u.lt] (.str<|S9 "+++ "++u.tf++D6++u.lt)] (by kernel_rfl) ⟨oM<|aS0 (ar5 htf) (by decide)<|ar5 hlt,trivial⟩) λl=>?_;exact aFN (λA e=>fits<|by kernel_rfl) fV
  .exact l.at_.2.at_.2
abbrev uR(u:UdP)(d:D8)(g:Dt)(p q:Oc)(r1 r2:Str):Sd:=uG u d Nc [(S9 "group",.d g),(S9 "first",.d<|ocT p),(S9 "last",.d<|ocT q),(S9 "file1_range",.d<|.str r1),(S9 "file2_range",.d<|.str r2)]
theorem aKM{N}{G}{T}(u:UdP){p q:Oc}(i0:aO (.lst<|gr.map ocT) 0<|ocT p)(i1:aO (.lst<|gr.map ocT) (-1)<|ocT q)(f1:OpV w 1 (cal<|.ref 253) [.int p.2.1,.int q.2.2.1] (.str x))(f2:OpV w 1 (cal<|.ref 253) [.int p.2.2.2.1,.int q.2.2.2.2] (.str y)):YvX (udθ w L os d outs) T G N (uH u d<|grT gr) (udL.tail.take 3) .next N<|uR u d (grT gr) p q x y:=
 yx λA b a=>xa (eD a) [.v<|ocT p,.v<|ocT q,.v<|.str x,.v<|.str y] _ [aO (.lst<|gr.map ocT) 0<|ocT p,aO (.lst<|gr.map ocT) (-1)<|ocT q,fQ w 9 (S9 "_format_range_unified") [.int p.2.1,.int q.2.2.1] (.str x),fQ w 9 (S9 "_format_range_unified") [.int p.2.2.2.1,.int q.2.2.2.2] (.str y)] (by kernel_rfl) ⟨i0,i1,⟨_,1,by decide,aE8,by kernel_rfl,f1⟩,⟨_,1,by decide,aE8,by kernel_rfl,f2⟩,trivial⟩
abbrev uO(u:UdP)(d:D8)(o:Oc):Sd:=uG u d Nc [(S9 "tag",.d<|.str o.1),(S9 "i1",.d<|.int o.2.1),(S9 "i2",.d<|.int o.2.2.1),(S9 "j1",.d<|.int o.2.2.2.1),(S9 "j2",.d<|.int o.2.2.2.2)]
abbrev uN(u:UdP)(d:D8)(o:Oc)(y:Str):Sd:=uG u d Nc [(S9 "tag",.d<|.str o.1),(S9 "i1",.d<|.int o.2.1),(S9 "i2",.d<|.int o.2.2.1),(S9 "j1",.d<|.int o.2.2.2.1),(S9 "j2",.d<|.int o.2.2.2.2),(S9 "line",.d<|.str y)]
abbrev udM:List F9:=foB<|udL.drop 5
theorem aKO(h:y.length<=100000)(e:x.length=1):x.length+y.length<=B9:=by
 rw[C5];exact aTd h e
theorem aCu{G}{T}(u:UdP){o:Oc}{ou:Ou}(e1:z.length=1)(za:a.length<=1000000)(hla:∀x∈a,x.length<=100000)(ok:((foV b1).isSome&&((ydV<|foB b1).isSome&&(foB b1).tail.isEmpty))=Nc)(tn:Ex2 λx p=>foT b1=.Name x p)
  (ex:∀A Gp(rm:Rm A 9),(aLb (eD (w:=w) (L:=L) (os:=os) (d:=d) (outs:=outs) (Gp:=Gp) rm) [] (uO u d o) (foI b1)).map (·.1)=Na (.d<|.lst<|bA (a.map Dt.str) (Na i) (Na j) Nb,[(a.map Dt.str).length<=B9]))
  (as:∀y A Gp,(asF (c:=(udθ w L os d outs).c A Gp) (uO u d o) (foT b1)<|.d<|.str y).map (·.S')=Na (uN u d o y)) (ey:∀A Gp(rm:Rm A 9) y,(aLb (eD (w:=w) (L:=L) (os:=os) (d:=d) (outs:=outs) (Gp:=Gp) rm) [] (uN u d o y) (ydE<|foB b1)).map (·.1)=Na (.d<|.str<|z++y,[z.length+y.length<=B9]))
  (l:Lf outs<|(sl a i j).map (z++·)++ns) (q:Lf outs ns->YvX (udθ w L os d outs) T G ns.length (uO u d o) b1.tail ou N2 S3):YvX (udθ w L os d outs) T G ((sl a i j).map (z++·)++ns).length (uO u d o) b1 ou N2 S3:=
 aFO l (aB ok).1 tn (aB (aB ok).2).1 (List.isEmpty_iff.mp (aB (aB ok).2).2) (by kernel_rfl) (by kernel_rfl) rfl (λO=>rfl) (λA Gp rm=>(congrArg (λl=>EvE ((udθ w L os d outs).c A Gp) (uO u d o) (foI b1) (.d<|.lst l)<|uO u d o)<|hW Dt.str a (Na i) (Na j) Nb).mp<|eq3 (eD rm) [] _ (ex A Gp rm) ⟨by rw[A1,C5];exact aTe za,trivial⟩) (λy A Gp=>gY<|as y A Gp) (λy A Gp=>fits<|by kernel_rfl) (λy b A Gp rm=>eq3 (eD rm) [] _ (ey A Gp rm y) ⟨aKO (hla y<|aL1 b) e1,trivial⟩) q
structure UdK(u:UdP):Prop where
 za:u.a.length<=1000000
 zb:u.b.length<=1000000
 hla:∀x∈u.a,x.length<=100000
 hlb:∀x∈u.b,x.length<=100000
 hff:u.ff.length<=100000
 htf:u.tf.length<=100000
 hlt:u.lt.length<=100000
theorem aFU{G}{T}{u:UdP}(ok:UdK u){o:Oc}{X:List Str}(l:Lf outs<|gU u.a u.b o++X):TnY (udθ w L os d outs) T G (gU u.a u.b o++X).length (uO u d o) udM X.length<|uG u d Nc []:=by
 have j:∀A g,Rm A 9->EvB ((udθ w L os d outs).c A g) (uO u d o) (ifT udM) (o.1==S9 "equal") (uO u d o):=λA g i=>bq (eD i) [] [] (by kernel_rfl) trivial;by_cases h:o.1=S9 "equal"
 .have e:gU u.a u.b o=(sl u.a o.2.1 o.2.2.1).map (S9 " "++·):=if_pos h;rw[e] at l ⊢;rw[show(o.1==S9 "equal")=Nc by simpa using h] at j;refine .cont (uO u d o) (aO3 (by kernel_rfl) rfl Nc j (λO=>?_) nofun) λA g=>fits (by kernel_rfl);exact aCu u (by decide) ok.za ok.hla (by kernel_rfl) ⟨_,_,rfl⟩ (λA g i=>by kernel_rfl) (λy A g=>by kernel_rfl) (λA g i y=>by kernel_rfl) l λl=>yx λA g i=>nB rfl aBe
 .have e:gU u.a u.b o=(if o.1=S9 "replace"\/o.1=S9 "delete" then (sl u.a o.2.1 o.2.2.1).map (S9 "-"++·) else [])++(if o.1=S9 "replace"\/o.1=S9 "insert" then (sl u.b o.2.2.2.1 o.2.2.2.2).map (S9 "+"++·) else []):=if_neg h;rw[e,B5] at l ⊢;rw[show(o.1==S9 "equal")=Nd by simpa using h] at j;refine .next (uO u d o) (mB (by kernel_rfl) Nd j nofun (λO=>fV) ?_) λA g=>fits (by kernel_rfl);have n:=l.drop;refine mB (S2:=uO u d o) (N1:=((if o.1=S9 "replace"\/o.1=S9 "insert" then (sl u.b o.2.2.2.1 o.2.2.2.2).map (S9 "+"++·) else [])++X).length) (by kernel_rfl) (o.1==S9 "replace" || o.1==S9 "delete") (λA g i=>aEB (by kernel_rfl) (by kernel_rfl) (by kernel_rfl) (by kernel_rfl)<|eq3 (eD i) [] [] (by kernel_rfl) trivial) (λt=>?_) (λt=>?_) ?_
  .rw[uU] at t;rw[if_pos<|of_decide_eq_true t] at l ⊢;exact aCu u (by decide) ok.za ok.hla (by kernel_rfl) ⟨_,_,rfl⟩ (λA g i=>by kernel_rfl) (λy A g=>by kernel_rfl) (λA g i y=>by kernel_rfl) l λl=>fV
  .rw[uU] at t;rw[if_neg<|of_decide_eq_false t];exact fV
  .refine mB (by kernel_rfl) (o.1==S9 "replace" || o.1==S9 "insert") (λA g i=>aEB (by kernel_rfl) (by kernel_rfl) (by kernel_rfl) (by kernel_rfl)<|eq3 (eD i) [] [] (by kernel_rfl) trivial) (λt=>?_) (λt=>?_) fV
   .rw[uU] at t;rw[if_pos<|of_decide_eq_true t] at n ⊢;exact aCu u (by decide) ok.zb ok.hlb (by kernel_rfl) ⟨_,_,rfl⟩ (λA g i=>by kernel_rfl) (λy A g=>by kernel_rfl) (λA g i y=>by kernel_rfl) n λl=>fV
   .rw[uU] at t;rw[if_neg<|of_decide_eq_false t];exact fV
theorem aCv{G}{T}{u:UdP}(ok:UdK u)(gk:GOk u.a u.b gr){X:List Str}(l:Lf outs<|bD u.a u.b u.lt gr++X):YvX (udθ w L os d outs) T G (bD u.a u.b u.lt gr++X).length (uH u d<|grT gr) udL.tail .next X.length<|uG u d Nc []:=by
 have r:=List.length_pos_iff.mpr gk.ne;have I:=mW ocT gr default 0 r<|aQB gk.n;have J:=tF ocT gr default r<|aQB gk.n;have B:OpV w 1 _ _ _:=aJ5 gk.i0 (by have:=gk.i1;have:=gk.i2;exact aQA (by assumption) this) gk.i1 gk.i2;have C:OpV w 1 _ _ _:=aJ5 gk.j0 (by have:=gk.j1;have:=gk.j2;exact aQA (by assumption) this) gk.j1 gk.j2;have Q:=mY gk.i0 gk.i1 gk.i2;have R:=mY gk.j0 gk.j1 gk.j2;have e:bD u.a u.b u.lt gr=(S9 "@@ -"++cS (gr.getD 0 default).2.1 (gr.getD (gr.length-1) default).2.2.1++S9 " +"++cS (gr.getD 0 default).2.2.2.1 (gr.getD (gr.length-1) default).2.2.2.2++S9 " @@"++u.lt)::gr.flatMap (gU u.a u.b):=rfl;generalize cS (gr.getD 0 default).2.1 (gr.getD (gr.length-1) default).2.2.1=r1 at *;generalize cS (gr.getD 0 default).2.2.2.1 (gr.getD (gr.length-1) default).2.2.2.2=r2 at *;generalize gr.getD 0 default=p at *;generalize gr.getD (gr.length-1) default=q at *;refine aBt 3 (aKM u I J B C) (aFM (X:=gr.flatMap (gU u.a u.b)++X) l (by kernel_rfl) (by kernel_rfl) (by kernel_rfl) rfl (λA g h=>eq3 (eD h) [.v<|.str<|S9 "@@ -"++r1++S9 " +"++r2++S9 " @@"++u.lt] [MtD w (.str<|S9 "@@ -{} +{} @@{}") (S9 "format") [.str r1,.str r2,.str u.lt] (.str<|S9 "@@ -"++r1++S9 " +"++r2++S9 " @@"++u.lt)] (by kernel_rfl) ⟨oM<|aS2 (aQz Q) (aQz R)<|ar5 ok.hlt,trivial⟩) λl=>?_);have N:=λi=>by
  rw[← G3 i gr,L9,B5] at l;exact l.drop
 refine xZ (S1:=uR u d (grT gr) p q r1 r2) (xs:=gr.map ocT) (λi=>(((gr.drop i).flatMap (gU u.a u.b)++X).length,uG u d Nc [])) (by kernel_rfl) (λO=>rfl) (λA g h=>eq3 (eD h) [] [] (by kernel_rfl) trivial) (bM<|.inr ⟨⟨_,_,_,rfl⟩,λd E=>?_⟩) (λA g=>fits<|by kernel_rfl) rfl (λS i y ey=>?_) ?_
 .obtain⟨t,_,rfl⟩:=C1.mp E;exact .inl ⟨_,rfl⟩
 .rw[B3] at ey;obtain⟨o,j,rfl⟩:=B0.mp ey;have M:gr.drop i=o::gr.drop (i+1):=by rw[N9 (A4.mp j).1,(A4.mp j).2]
  have x:=N i;rw[M,E1,B5] at x ⊢;exact⟨uO u d o,λA g=>gY<|by kernel_rfl,aFU ok x⟩
 .rw[A1,V8];exact fV
theorem aCy{u:UdP}(ok:UdK u){fd:D8->D8}(iz:nV w B 160 [] [.none,.lst<|u.a.map .str,.lst<|u.b.map .str] .none (smA u.a u.b .none .none<|smT dj oc dp) fd)(hn:B<=8)(fl:pV w u.a u.b dj oc dp)(c7:aw.Perm<|jA u.a u.b (2*u.a.length+1) [(0,(u.a.length:Int),0,(u.b.length:Int))] [])(ct:aw.Pairwise<|λa b=>a.1<b.1)(dh:aw.length<64)
  (mh:∀gr∈eR u.m (hX<|bW u.a.length u.b.length aw),GOk u.a u.b gr) (ho:outs=(oB u.a u.b u.ff u.tf u.lt Nd<|eR u.m<|hX<|bW u.a.length u.b.length aw).map .str) :
  ∃S1,YvX (udθ w L os (fd d0) outs) [] [] outs.length (uS u d0 [(S9 "n",.d<|.int u.m),(S9 "lineterm",.d<|.str u.lt)]) udB .next 0 S1/\S1.d=fd d0:=by
 generalize C:eR u.m (hX<|bW u.a.length u.b.length aw)=grs at ho mh;have x:Lf outs<|oB u.a u.b u.ff u.tf u.lt Nd grs:=⟨[],ho⟩
 have le:outs.length=(oB u.a u.b u.ff u.tf u.lt Nd grs).length:=by rw[ho,A1]
 refine⟨uG u (fd d0) (Nf<|0<grs.length) [],aBt 3 (aCt u ok.za ok.zb) ?_,rfl⟩;rw[le];have p:∀i,i<grs.length->oB u.a u.b u.ff u.tf u.lt (Nf<|0<i) (grs.drop i)=(if Nf (0<i) then [] else sO u.ff u.tf u.lt)++(bD u.a u.b u.lt (grs.getD i [])++oB u.a u.b u.ff u.tf u.lt (Nf<|0<i+1) (grs.drop<|i+1)):=λi g=>by
  rw[N9 g,yC,D7,B1 g];rfl
 have E:∀i,i<=grs.length->Lf outs (oB u.a u.b u.ff u.tf u.lt (Nf<|0<i)<|grs.drop i):=λi=>by
  induction i with
  | zero=>exact λO=>x
  | succ i r=>
   intro g;have:=r<|X5 g;rw[p i g] at this;exact this.drop.drop
 refine aFP (S1:=uS u (fd d0) [(S9 "n",.d<|.int u.m),(S9 "lineterm",.d<|.str u.lt),(S9 "started",.d<|.bool Nd)]) (grs.map grT) 8 (λi=>((oB u.a u.b u.ff u.tf u.lt (Nf<|0<i)<|grs.drop i).length,uG u (fd d0) (Nf<|0<i) [])) (by kernel_rfl) rfl (C4 9) (λO=>rfl) (λA j h=>?_) (λA j=>fits<|by kernel_rfl) rfl (λM I i y ey=>?_) ?_
 .rw[← C];exact aHr (eD h).toFn3 iz (h.less<|K8 hn) (h.less<|P9 _) fl ok.za ok.zb c7 ct dh (by kernel_rfl) rfl rfl rfl rfl rfl (bN rfl (eq3 (eD h) [] [] (by kernel_rfl) trivial)<|bN rfl (eq3 (eD h) [] [] (by kernel_rfl) trivial)<|bN rfl (eq3 (eD h) [] [] (by kernel_rfl) trivial) eV) λJ e=>bC (aU<|by kernel_rfl) (by rw[e];rfl)
 .rw[B3] at ey;obtain⟨gr,o,rfl⟩:=B0.mp ey;have g:=(A4.mp o).1;have l:=E i<|I2 g;have e:grs.getD i []=gr:=by rw[D7,o];rfl
  have q:=mh gr<|D5 o;simp only[p i g,e] at l ⊢;refine⟨uG u (fd d0) (Nf<|0<i) [(S9 "group",.d<|grT gr)],λA j=>gY<|by kernel_rfl,.next (uG u (fd d0) Nc []) (aKL u ok.hff ok.htf ok.hlt l λl=>aCv ok q l) λA j=>?_⟩;exact .refl
 .rw[A1,V8];exact fV
end
variable{l:List Dt}
theorem aMK(rs:Rps Z ds vs)(ns:h4.Ns θ.env.locals<|mp (a8.zip vs).reverse λO=>Nb)(eL:h4.get? θ.env.locals=Na oL)(nd:ndB a8=Nc)(le:HP.le Z Z')(sx:SX Z' ([(θ.env.locals,eqD oL)]++R') h'):Rl3 (θ.c A Gp) ⟨Z',[]⟩ R' ⟨a8.zip<|ds.map .d,[],d⟩ h':=by
 have g:=(sx.at_ _<|.head _).getEq;have i:((a8.zip vs).reverse.map (·.1)).Nodup:=by rw[List.map_reverse];exact(List.reverse_perm _).nodup_iff.mpr<|(aM1 nd).sublist<|eG _ _
 refine⟨rfl,nofun,λj O O O O h=>(nomatch h.ea),⟨_,Ns.of_get ns eL g,λy s e=>?_⟩,λp hp=>sx.at_ p<|.tail _ hp,sx.sub,λb a=>?_,sx.nd,λj b e=>e.elim (fun⟨_,e,_⟩=>nomatch e)<|λe=>nomatch e⟩
 .exact A2 (vP (qC<|rs.up le)<|lL e) λv q=>⟨v,aGQ<|uQ i<|List.mem_reverse.mpr q.1,q.2⟩
 .obtain rfl|a:=A8.mp a
  .exact sx.new _ (.head _)
  .obtain⟨p,hp,rfl⟩:=C1.mp a;exact sx.new p<|.tail _ hp
noncomputable abbrev aRr:List Str:=[S9 "a",S9 "b",S9 "fromfile",S9 "tofile",S9 "fromfiledate",S9 "tofiledate",S9 "n",S9 "lineterm"]
section
variable{X:Q3}{p0:E3}
abbrev fmB:List F9:=gR<|fG 5 6
abbrev fmC(w:E9)(X:Q3)(p0 p1:E3):C3:=cM w aJc 196 X [p0,p1]
noncomputable abbrev fmL(w:E9)(a b:List Str)(aa aq ac af:Int)(t:T3)(x:Lo):Lo:=[(S9 "self",.o 0),(S9 "a",.d<|.lst<|a.map .str),(S9 "b",.d<|.lst<|b.map .str),(S9 "b2j",.d<|.ob<|b2D w b),(S9 "isbjunk",.d<|.ob oO),(S9 "alo",.d<|.int aa),(S9 "ahi",.d<|.int aq),(S9 "blo",.d<|.int ac),(S9 "bhi",.d<|.int af),(S9 "besti",.d<|.int t.1),(S9 "bestj",.d<|.int t.2.1),(S9 "bestsize",.d<|.int t.2.2)]++x
abbrev fmS(w:E9)(a b:List Str)(aa aq ac af:Int)(oc dp:Dt)(d:D8)(f:Jm)(t:T3):Sd:=⟨fmL w a b aa aq ac af t [(S9 "nothing",.o 2),(S9 "j2len",.o 3)],[.ins 1,.ns<|smA a b .none oc<|smT (.ob<|b2D w b) (.ob jkE) dp,.fz<|.lst [],.fz<|.ob<|jD w f],d⟩
abbrev fmI(w:E9)(a b:List Str)(aa aq ac af:Int)(oc dp:Dt)(d:D8)(i:Int)(f:Jm)(x:Lo)(n:Nat)(st:Jm×T3):Sd:=⟨fmL w a b aa aq ac af st.2<|[(S9 "nothing",.o 2),(S9 "i",.d<|.int i),(S9 "j2lenget",.d<|.ob<|jgD w f),(S9 "newj2len",.o 3)]++x,[.ins 1,.ns<|smA a b .none oc<|smT (.ob<|b2D w b) (.ob jkE) dp,.fz<|.lst [],.any<|dI w st.1 n],d⟩
abbrev fmT:List F9:=foB<|fmB.drop 7
abbrev fmU:List F9:=foB<|fmT.drop 2
theorem rM{f:Jm}{l1 l2:List Int}(h:∀x∈l1,x<af):∀st,bS i ac af f (l1++l2) st=bS i ac af f l2 (bS i ac af f l1 st):=by
 induction l1 with
 | nil=>intro st;rfl
 | cons j l1 a=>
  intro st;have a:=a λx b=>h x<|.tail _ b;rw[L8,iG,iG,if_neg<|W7.mpr<|h j<|.head _,if_neg<|W7.mpr<|h j<|.head _];split
  .exact a st
  .exact a _
theorem aJ6{f:Jm}{st:Jm×T3}(h:n<=B):Wks (fmC w X p0 p1) (fmI w a b aa aq ac af oc dp d i f r' n st)<|fmI w a b aa aq ac af oc dp d i f r' B st:=aKI (S:=fmI w a b aa aq ac af oc dp d i f r' n st) (n:=3) (z:=n) (f:=st.1) rfl h
theorem aCH{f:Jm}{st:Jm×T3}:kP i f j st=(λx=>if x=j then Na ((f<|j-1).getD 0+1) else st.1 x,if Nf ((f<|j-1).getD 0+1>st.2.2.2)=Nc then i-((f<|j-1).getD 0+1)+1 else st.2.1,if Nf ((f<|j-1).getD 0+1>st.2.2.2)=Nc then j-((f<|j-1).getD 0+1)+1 else st.2.2.1,if Nf ((f<|j-1).getD 0+1>st.2.2.2)=Nc then (f<|j-1).getD 0+1 else st.2.2.2):=by
 unfold kP;by_cases h:(f<|j-1).getD 0+1>st.2.2.2
 .simp only[decide_eq_true h,if_pos h,if_true]
 .simp only[decide_eq_false h,if_neg h];rfl
theorem aHA(pl:P3 (fmC w X p0 p1) 2){f:Jm}{st:Jm×T3}(hn:n<=1000000)(h1:¬j<ac)(h2:¬j>=af):EvX (fmC w X p0 p1) (fmI w a b aa aq ac af oc dp d i f [(S9 "j",.d<|.int j)] n st) fmU .next<|fmI w a b aa aq ac af oc dp d i f [] (n+1) (kP i f j st):=by
 rw[aCH];refine xq pl 2 [.t Nd,.t Nd] (fmI w a b aa aq ac af oc dp d i f [(S9 "j",.d<|.int j)] n st) [Nf (j<ac)=Nd,Nf (j>=af)=Nd] (by kernel_rfl) ⟨decide_eq_false h1,decide_eq_false h2,trivial⟩ ?_;refine bY (aBf (v:=.d<|.int<|(f<|j-1).getD 0+1) (by rfl) (by rfl) (eq3 pl [.v<|.int<|(f<|j-1).getD 0] [aAe<|jgD w f,xU w (jgD w f) [.int<|j-1,.int 0] (.int<|(f<|j-1).getD 0)] (by kernel_rfl) ⟨aPk _ _,aPj _ _ _,trivial⟩) (tP<|fW<|by kernel_rfl)<|aQq (m:=3) (z:=n) (f:=st.1) (j:=j) (bC (aU<|by kernel_rfl)<|by rfl) (bC (aU<|by kernel_rfl)<|by rfl) rfl (by rw[C5];exact A9 hn<|by decide)) ?_;exact xa pl [] _ [] (by kernel_rfl) trivial
theorem aEj(pl:P3 (fmC w X p0 p1) 2)(z2:b.length<=1000000)(hb:ac<=af){f:Jm}(y:Str)(hi:aO (.lst<|a.map .str) i<|.str y)(q:EvX (fmC w X p0 p1) (fmI w a b aa aq ac af oc dp d i f [] ((bix b y).length) (bS i ac af f (bix b y) (λO=>Nb,b8))) (fmT.drop 3) .next S):EvX (fmC w X p0 p1) (fmI w a b aa aq ac af oc dp d i f [] 0 (λO=>Nb,b8)) (fmT.drop 2) .next S:=by
 have A:=aI4 b y;generalize I:bix b y=js at A q ⊢;have B:∀p j,js[p]?=Na j->js.take (p+1)=js.take p++[j]:=λp j e=>by rw[K9,e];rfl
 have len:(js.map Dt.int).length=js.length:=A1 _;refine aHE pl [.e<|.d<|.lst<|js.map .int] (js.map .int) (λp=>fmI w a b aa aq ac af oc dp d i f [] p (bS i ac af f (js.take p) (λO=>Nb,b8))) (λp=>∀x∈js.take p,x<af) (.lst<|js.map .int) [EvE (fmC w X p0 p1) (fmI w a b aa aq ac af oc dp d i f [] 0 (λO=>Nb,b8)) (foI<|fmT.drop 2) (.d<|.lst<|js.map .int)<|fmI w a b aa aq ac af oc dp d i f [] 0 (λO=>Nb,b8)] (by kernel_rfl) (by kernel_rfl) ⟨?_,trivial⟩ (λO=>rfl) (bM<|.inl ⟨_,_,rfl⟩) (λx u=>nomatch u) (λp v ev hp=>?_) ?_
 .exact vB (λO=>rfl) (by kernel_rfl) (by kernel_rfl) rfl rfl (bC (aU<|by kernel_rfl)<|by rfl) aP1 (bN rfl (eq3 pl [.v<|.str y] [aO (.lst<|a.map .str) i<|.str y] (by kernel_rfl) ⟨hi,trivial⟩)<|bN rfl (eq3 pl [] [] (v:=.o 2) (by kernel_rfl) trivial) eV) (I▸aOM (by rfl))
 .rw[B3] at ev;obtain⟨j,r,rfl⟩:=B0.mp ev;have hlt:=(A4.mp r).1;have E:=B p j r;refine⟨fmI w a b aa aq ac af oc dp d i f [(S9 "j",.d<|.int j)] p (bS i ac af f (js.take p) (λO=>Nb,b8)),gY<|by kernel_rfl,?_⟩;rw[len];rw[E,rM hp,iG,wV,I4];generalize J:bS i ac af f (js.take p) (λO=>Nb,b8)=st;have next:j<af->∀x∈js.take p++[j],x<af:=λh x u=>(E4.mp u).elim (hp x) λq=>C6.mp q▸h;by_cases g:j<ac
  .rw[if_pos g];exact .t (.cont _ (xo pl [.f 3<|.any<|dI w st.1<|p+1,.t Nc] (fmI w a b aa aq ac af oc dp d i f [] (p+1) st) [Wks (fmC w X p0 p1) (fmI w a b aa aq ac af oc dp d i f [(S9 "j",.d<|.int j)] p st)<|fmI w a b aa aq ac af oc dp d i f [(S9 "j",.d<|.int j)] (p+1) st,Nf (j<ac)=Nc] (by kernel_rfl) ⟨aJ6<|P9 p,decide_eq_true g,trivial⟩) .refl) (next (Int.lt_of_lt_of_le g hb))
  .rw[if_neg g];by_cases n:j>=af
   .have C:bS i ac af f js (λO=>Nb,b8)=st:=by
     conv=>lhs;rw[← G3 p js,N9 hlt,(A4.mp r).2]
     rw[rM hp,iG,if_neg g,if_pos n,J]
    rw[C];exact .brk _ (xo pl [.f 3<|.any<|dI w st.1 js.length,.t Nd,.t Nc] (fmI w a b aa aq ac af oc dp d i f [] js.length st) [Wks (fmC w X p0 p1) (fmI w a b aa aq ac af oc dp d i f [(S9 "j",.d<|.int j)] p st)<|fmI w a b aa aq ac af oc dp d i f [(S9 "j",.d<|.int j)] js.length st,Nf (j<ac)=Nd,Nf (j>=af)=Nc] (by kernel_rfl) ⟨aJ6<|I2 hlt,decide_eq_false g,decide_eq_true n,trivial⟩) .refl
   .rw[if_neg n,wV];exact .t (.next _ (aHA pl (A9 (I2 hlt)<|A9 A z2) g n) .refl) (next (W7.mp n))
 .rw[len,I4];exact q
abbrev fmF(b:List Str)(ac af:Int)(s:Int×Jm×T3)(y:Str):Int×Jm×T3:=(s.1+1,bS s.1 ac af s.2.1 (bix b y) (λO=>Nb,s.2.2))
theorem wE{xs:List Str}:∀{s:Int×Jm×T3},gW (bix b) ac af s.1 xs s.2.1 s.2.2=(xs.foldl (fmF b ac af) s).2.2:=by
 induction xs with
 | nil=>intro s;rfl
 | cons x xs a=>intro s;rw[aDj,M7,← a]
theorem aPE{xs:List Str}:∀{s:Int×Jm×T3},(xs.foldl (fmF b ac af) s).1=s.1+xs.length:=by
 induction xs with
 | nil=>intro s;exact(K1 _).symm
 | cons x xs a=>intro s;rw[M7,a,D1];lia
abbrev fmA(w:E9)(a b:List Str)(aa aq ac af:Int)(oc dp:Dt)(d:D8)(i:Int)(f:Jm)(t:T3)(x:Lo)(o:List Ow):Sd:=⟨fmL w a b aa aq ac af t<|[(S9 "nothing",.o 2),(S9 "j2len",.o 3),(S9 "i",.d<|.int i)]++x,[.ins 1,.ns<|smA a b .none oc<|smT (.ob<|b2D w b) (.ob jkE) dp,.fz<|.lst [],.fz<|.ob<|jD w f]++o,d⟩
abbrev fmZ(w:E9)(a b:List Str)(aa aq ac af:Int)(oc dp:Dt)(d:D8)(i:Int)(f:Jm)(st:Jm×T3):Sd:=⟨fmL w a b aa aq ac af st.2 [(S9 "nothing",.o 2),(S9 "i",.d<|.int i),(S9 "j2lenget",.d<|.ob<|jgD w f),(S9 "newj2len",.o 3)],[.ins 1,.ns<|smA a b .none oc<|smT (.ob<|b2D w b) (.ob jkE) dp,.fz<|.lst [],.fz<|.ob<|jD w st.1],d⟩
theorem aML(pl:P3 (fmC w X p0 p1) 2)(z2:b.length<=1000000)(hb:ac<=af){f:Jm}(y:Str)(hi:aO (.lst<|a.map .str) i<|.str y):TnT (fmC w X p0 p1) (fmS w a b aa aq ac af oc dp d f b8) (foT<|fmB.drop 7) (.d<|.int i) fmT<|fmS w a b aa aq ac af oc dp d (bS i ac af f (bix b y) (λO=>Nb,b8)).1 (bS i ac af f (bix b y) (λO=>Nb,b8)).2:=by
 refine tnx (S2:=fmA w a b aa aq ac af oc dp d i f b8 [] []) (by kernel_rfl) ?_ .refl;refine xq pl 2 [.e<|.d<|.ob<|jgD w f,.n<|.any<|dI w (λO=>Nb) 0] (fmI w a b aa aq ac af oc dp d i f [] 0 (λO=>Nb,b8)) [EvE (fmC w X p0 p1) (fmA w a b aa aq ac af oc dp d i f b8 [] []) (asV fmT) (.d<|.ob<|jgD w f)<|fmA w a b aa aq ac af oc dp d i f b8 [] [],EvE (fmC w X p0 p1) (fmA w a b aa aq ac af oc dp d i f b8 [(S9 "j2lenget",.d<|.ob<|jgD w f)] []) (asV<|fmT.drop 1) (.o 4)<|fmA w a b aa aq ac af oc dp d i f b8 [(S9 "j2lenget",.d<|.ob<|jgD w f)] [.any<|dI w (λO=>Nb) 0]] (by kernel_rfl)
  ⟨aPW rfl<|aEv (bC (aU<|by kernel_rfl)<|by rfl)<|by rfl,aJg (S:=fmA w a b aa aq ac af oc dp d i f b8 [(S9 "j2lenget",.d<|.ob<|jgD w f)] []),trivial⟩ (aEj pl z2 hb y hi ?_)
 generalize bS i ac af f (bix b y) (λO=>Nb,b8)=st;exact xa pl [.f 3<|.fz<|.ob<|jD w st.1] _ [Wks (fmC w X p0 p1) (fmI w a b aa aq ac af oc dp d i f [] (bix b y).length st)<|fmZ w a b aa aq ac af oc dp d i f st] (by kernel_rfl) ⟨aIB (c:=fmC w X p0 p1) (S:=fmI w a b aa aq ac af oc dp d i f [] (bix b y).length st) (n:=3) (f:=st.1) rfl,trivial⟩
theorem aPo(W:FB a b aa aq ac af){t:T3}(bb:BB aa aq ac af t)(x:Bool):Al [Nf (t.1>aa)=Nc->Al [Nf (t.2.1>ac)=Nc->Al [aO (.lst<|b.map .str) (t.2.1-1)<|.str<|atS b<|t.2.1-1,aAe oO,xU w oO [.str<|atS b<|t.2.1-1] (.bool Nd),x=Nc->Al [aO (.lst<|a.map .str) (t.1-1)<|.str<|atS a<|t.1-1,aO (.lst<|b.map .str) (t.2.1-1)<|.str<|atS b<|t.2.1-1]]]]:=by
 obtain⟨i,j,n,o,u,y⟩:=W;obtain⟨h,A,q,B,r⟩:=bb;refine⟨λd=>⟨λe=>?_,trivial⟩,trivial⟩;have d:=of_decide_eq_true d;have e:=of_decide_eq_true e;have p:aO (.lst<|a.map .str) (t.1-1)<|.str<|atS a<|t.1-1:=jY (by exact aCc d i) (by exact aCf j h q) u;have g:aO (.lst<|b.map .str) (t.2.1-1)<|.str<|atS b<|t.2.1-1:=jY (by exact aCc e n) (by exact aCf o h r) y;exact⟨g,aAY,aAX _ _,λO=>⟨p,g,trivial⟩,trivial⟩
theorem aPn(W:FB a b aa aq ac af){t:T3}(bb:BB aa aq ac af t)(x:Bool):Al [Nf (t.1+t.2.2<aq)=Nc->Al [Nf (t.2.1+t.2.2<af)=Nc->Al [aO (.lst<|b.map .str) (t.2.1+t.2.2)<|.str<|atS b<|t.2.1+t.2.2,aAe oO,xU w oO [.str<|atS b<|t.2.1+t.2.2] (.bool Nd),x=Nc->Al [aO (.lst<|a.map .str) (t.1+t.2.2)<|.str<|atS a<|t.1+t.2.2,aO (.lst<|b.map .str) (t.2.1+t.2.2)<|.str<|atS b<|t.2.1+t.2.2]]]]:=by
 obtain⟨i,j,n,o,u,y⟩:=W;obtain⟨h,q,A,r,B⟩:=bb;refine⟨λd=>⟨λe=>?_,trivial⟩,trivial⟩;have d:=of_decide_eq_true d;have e:=of_decide_eq_true e;have p:aO (.lst<|a.map .str) (t.1+t.2.2)<|.str<|atS a<|t.1+t.2.2:=jY (by exact ar7 i h q) (by exact aCb d j) u;have g:aO (.lst<|b.map .str) (t.2.1+t.2.2)<|.str<|atS b<|t.2.1+t.2.2:=jY (by exact ar7 n h r) (by exact aCb e o) y;exact⟨g,aAY,aAX _ _,λO=>⟨p,g,trivial⟩,trivial⟩
theorem aBX:∀{n:Nat}{t:T3},(aq-(t.1+t.2.2)).toNat<=n->n<=B->mZ a b aq af B t=mZ a b aq af n t:=by
 induction B with
 | zero=>intro n t _ h;rw[Nat.le_zero.mp h]
 | succ B g=>
  intro n t d e;obtain⟨i,j,k⟩:=t;by_cases h:i+k<aq/\j+k<af/\a[(i+k).toNat]?=b[(j+k).toNat]?
  .obtain⟨n,rfl⟩:∃n',n=n'+1:=⟨n-1,by have:=h.1;simp only at d;exact(l31<|.i (.L mU .a)<|.i (.s cY .a)<|.Q .a<|.p cW aC) d h.1⟩
   rw[jU,jU,if_pos h,if_pos h];exact g (by have:=h.1;simp only at d ⊢;exact(l31<|.i (.L mU aR)<|.L (.t<|.m .a pP) .a) d) (Nat.le_of_succ_le_succ e)
  .rw[oU h,oU h]
abbrev fmW(w:E9)(a b:List Str)(aa aq ac af:Int)(oc dp:Dt)(d:D8)(t:T3):Sd:=⟨fmL w a b aa aq ac af t [],[.ins 1,.ns<|smA a b .none oc<|smT (.ob<|b2D w b) (.ob jkE) dp],d⟩
section
variable(pl:P3 (fmC w X p0 p1) 2)(W:FB a b aa aq ac af){t0:T3}(bb:BB aa aq ac af t0){x:Dt}
include pl W bb
theorem aPC(q:RtS (fmC w X p0 p1) (fmW w a b aa aq ac af oc dp d<|oW a b aa ac (t0.1-aa).toNat t0) (fmB.drop 9) x r' d'):RtS (fmC w X p0 p1) (fmW w a b aa aq ac af oc dp d t0) (fmB.drop 8) x r' d':=by
 refine hJ (σ:=T3) (fmW w a b aa aq ac af oc dp d) (BB aa aq ac af) (λt=>(t.1-aa).toNat) (λt=>(t.1-1,t.2.1-1,t.2.2+1)) (λt=>oW a b aa ac (t.1-aa).toNat t) t0 (goL a b aa ac<|!Nd) bb (by kernel_rfl) .refl (λt bb=>bq pl [.v<|.str<|atS b<|t.2.1-1,.v<|.bool Nd,.v<|.str<|atS a<|t.1-1,.v<|.str<|atS b<|t.2.1-1] _ (by kernel_rfl) (aPo (w:=w) W bb<|!Nd)) (λt bb g=>?_) (λt bb g=>aBY<|aHi W bb g) q;obtain⟨e,h,j⟩:=aHj W bb g;have en:(t.1-aa).toNat=(t.1-1-aa).toNat+1:=by exact(l20<|.i gD<|.Q cV<|.p (.t<|.m cW .b) aC) e
 refine⟨uq pl [] [] (by kernel_rfl) trivial,aMz bb e h,by rw[en];exact I0 _,?_⟩;rw[en];show _=oW a b aa ac ((t.1-1-aa).toNat+1) (t.1,t.2.1,t.2.2);rw[oV,if_pos ⟨e,h,j⟩]
theorem aPB(q:RtS (fmC w X p0 p1) (fmW w a b aa aq ac af oc dp d<|mZ a b aq af (aq-t0.1).toNat t0) (fmB.drop 10) x r' d'):RtS (fmC w X p0 p1) (fmW w a b aa aq ac af oc dp d t0) (fmB.drop 9) x r' d':=by
 refine hJ (σ:=T3) (fmW w a b aa aq ac af oc dp d) (BB aa aq ac af) (λt=>(aq-(t.1+t.2.2)).toNat) (λt=>(t.1,t.2.1,t.2.2+1)) (λt=>mZ a b aq af (aq-t.1).toNat t) t0 (goR a b aq af<|!Nd) bb (by kernel_rfl) .refl (λt bb=>bq pl [.v<|.str<|atS b<|t.2.1+t.2.2,.v<|.bool Nd,.v<|.str<|atS a<|t.1+t.2.2,.v<|.str<|atS b<|t.2.1+t.2.2] _ (by kernel_rfl) (aPn (w:=w) W bb<|!Nd)) (λt bb g=>?_) (λt bb g=>oU<|aHg W bb g) q;obtain⟨e,h,o⟩:=aHh W bb g;have j:=bb.k0;obtain⟨m,en⟩:∃m,(aq-t.1).toNat=m+1:=⟨(aq-t.1).toNat-1,by exact(l30<|.i (.s cY .a)<|.i iY<|.Q cV<|.p (.m cV aC) aC) e j⟩
 refine⟨uq pl [] [] (by kernel_rfl) trivial,aMy bb e h,by simp only;exact(l30<|.i (.s cY .a)<|.S (.t<|.m .a pP) mU) e,?_⟩;rw[en];rw[aBX (n:=m) (by simp only;exact(l31<|.i iY<|.i (.Q cV aR)<|.L (.t<|.m .a pP) .a) j en)<|P9 m];show _=mZ a b aq af (m+1) (t.1,t.2.1,t.2.2);rw[jU,if_pos ⟨e,h,o⟩]
theorem aPA(q:RtS (fmC w X p0 p1) (fmW w a b aa aq ac af oc dp d t0) (fmB.drop 11) x r' d'):RtS (fmC w X p0 p1) (fmW w a b aa aq ac af oc dp d t0) (fmB.drop 10) x r' d':=
 hJ (σ:=Unit) (λO=>fmW w a b aa aq ac af oc dp d t0) (λO=>True) (λO=>0) id id () (λO=>goL a b aa ac Nd t0) trivial (by kernel_rfl) .refl (λO O=>bq pl [.v<|.str<|atS b<|t0.2.1-1,.v<|.bool Nd,.v<|.str<|atS a<|t0.1-1,.v<|.str<|atS b<|t0.2.1-1] _ (by kernel_rfl) (aPo (w:=w) W bb Nd)) (λO O e=>(aJ1 e).elim) (λO O O=>rfl) q
theorem aPz(q:RtS (fmC w X p0 p1) (fmW w a b aa aq ac af oc dp d t0) (fmB.drop 12) x r' d'):RtS (fmC w X p0 p1) (fmW w a b aa aq ac af oc dp d t0) (fmB.drop 11) x r' d':=
 hJ (σ:=Unit) (λO=>fmW w a b aa aq ac af oc dp d t0) (λO=>True) (λO=>0) id id () (λO=>goR a b aq af Nd t0) trivial (by kernel_rfl) .refl (λO O=>bq pl [.v<|.str<|atS b<|t0.2.1+t0.2.2,.v<|.bool Nd,.v<|.str<|atS a<|t0.1+t0.2.2,.v<|.str<|atS b<|t0.2.1+t0.2.2] _ (by kernel_rfl) (aPn (w:=w) W bb Nd)) (λO O e=>(aJ1 e).elim) (λO O O=>rfl) q
end
theorem aDf{k:Int}:OpV w 2 (cal<|.ref 135) [.int i,.int j,.int k] (.mt i j k):=
 ⟨λA Z h g C E os N b y s r=>by
  obtain⟨_,B,rfl,q,p⟩:=Rps.inv r;obtain⟨_,_,rfl,u,x⟩:=Rps.two p;obtain⟨I,rfl⟩:=Rp.inv q;obtain⟨J,rfl⟩:=Rp.inv u;obtain⟨M,rfl⟩:=Rp.inv x;exact zD (b h s) y λa d e o n at_=>⟨d,g,e,rfl,n,.mt<|cF o at_⟩⟩
abbrev fmY(w:E9)(a b:List Str)(aa aq ac af:Int)(oc dp:Dt)(d:D8):Sd:=⟨fmL w a b aa aq ac af (aa,ac,0) [(S9 "nothing",.o 2),(S9 "j2len",.o 3)],[.ins 1,.ns<|smA a b .none oc<|smT (.ob<|b2D w b) (.ob jkE) dp,.lst [],.any<|dI w (λO=>Nb) 0],d⟩
noncomputable def tuE(n:Nat)(e:Expr):Expr:=match e with
 | .Tuple es _ _=>(es[n]?).getD default
 | _=>default
abbrev fm0(w:E9)(a b:List Str)(aa aq ac af:Int)(oc dp:Dt)(d:D8)(x:Lo)(o:List Ow):Sd:=⟨[(S9 "self",.o 0),(S9 "alo",.d<|.int aa),(S9 "ahi",.d<|.int aq),(S9 "blo",.d<|.int ac),(S9 "bhi",.d<|.int af)]++x,[.ins 1,.ns<|smA a b .none oc<|smT (.ob<|b2D w b) (.ob jkE) dp]++o,d⟩
noncomputable abbrev fmX(w:E9)(a b:List Str)(aa ac:Int):Lo:=[(S9 "a",.d<|.lst<|a.map .str),(S9 "b",.d<|.lst<|b.map .str),(S9 "b2j",.d<|.ob<|b2D w b),(S9 "isbjunk",.d<|.ob oO),(S9 "bestsize",.d<|.int 0),(S9 "bestj",.d<|.int ac),(S9 "besti",.d<|.int aa)]
theorem wD(i:Int):OpV w 0 (op2<|E6 .Is) [.int i,.none] (.bool Nd):=ov2 λA Z h g d k os u v e j s a b=>by
 obtain⟨t,rfl⟩:=Rp.inv a;obtain rfl:=Rp.inv b;exact aI2<|bZ (A:=A) s<|.bool _
theorem aPF(z1:a.length<=1000000)(z2:b.length<=1000000):pV w a b (.ob<|b2D w b) (.ob jkE) dp:=by
 intro g q ok;obtain⟨aa,aq,ac,af⟩:=q;have W:FB a b aa aq ac af:=⟨ok.a0,ok.a2,ok.b0,ok.b2,z1,z2⟩
 refine oA (f:=aJc) (dd:=[]) [S9 "self",S9 "alo",S9 "ahi",S9 "blo",S9 "bhi"] [(S9 "self",.o 0),(S9 "alo",.d<|.int aa),(S9 "ahi",.d<|.int aq),(S9 "blo",.d<|.int ac),(S9 "bhi",.d<|.int af)] (λO=>.nil) (by kernel_rfl) rfl (λs E X e=>?_) (λL=>by kernel_rfl) (by kernel_rfl) (by kernel_rfl) (by kernel_rfl) λX x y pl=>?_
 .revert E
  refine lW (n:=5) λJ M N R U=>?_;exact binds_K X (T:=189) rfl (o:=⟨.type "tuple",Nb,.seq #[.int 0 464,.none,.int 0 465,.none] 0,#[]⟩) (by kernel_rfl) rfl (by rfl)<|by kernel_rfl
 refine xsr pl 7 [.e<|.d<|.ob<|b2D w b,.e<|.d<|.ob oO,.t Nd,.t Nd,.t Nd,.t Nd,.n<|.any<|dI w (λO=>Nb) 0] (fmY w a b aa aq ac af g dp X.d) [EvE (fmC w X x y) (fm0 w a b aa aq ac af g dp X.d [] []) (tuE 2<|asV<|fmB.drop 1) (.d<|.ob<|b2D w b)<|fm0 w a b aa aq ac af g dp X.d [] [],EvE (fmC w X x y) (fm0 w a b aa aq ac af g dp X.d [] []) (tuE 3<|asV<|fmB.drop 1) (.d<|.ob oO)<|fm0 w a b aa aq ac af g dp X.d [] [],
   OpV w 0 (op2<|E6 .Is) [.int aq,.none] (.bool Nd),(Nd:Bool)=Nd,OpV w 0 (op2<|E6 .Is) [.int af,.none] (.bool Nd),(Nd:Bool)=Nd,EvE (fmC w X x y) (fm0 w a b aa aq ac af g dp X.d (fmX w a b aa ac) []) (asV<|fmB.drop 5) (.o 2)<|fm0 w a b aa aq ac af g dp X.d (fmX w a b aa ac) [.any<|dI w (λO=>Nb) 0]] (by kernel_rfl)
  ⟨vD rfl (bC (aU<|by kernel_rfl)<|by rfl) (k:=0) (m:=1) (by rfl) (by rfl) (by rfl) (by kernel_rfl) aMf (λr=>by obtain⟨a,rfl,_⟩:=Rp.obI r;rfl),aPS rfl<|vD rfl (bC (aU<|by kernel_rfl)<|by rfl) (k:=0) (m:=1) (by rfl) (by rfl) (by rfl) (by kernel_rfl) aDL (λr=>by obtain⟨a,rfl,_⟩:=Rp.obI r;rfl),wD _,rfl,wD _,rfl,aJg (S:=fm0 w a b aa aq ac af g dp X.d (fmX w a b aa ac) []),trivial⟩ ?_
 refine yK (jG (S:=fmY w a b aa aq ac af g dp X.d) (n:=2) (l:=[]) rfl) (yK (S1:=fmS w a b aa aq ac af g dp X.d (λO=>Nb) (aa,ac,0)) (aIB (c:=fmC w X x y) (n:=3) (f:=λO=>Nb) (z:=0)<|by rfl) ?_);have len:((a.drop aa.toNat).take (aq-aa).toNat).length=(aq-aa).toNat:=by have:=qB ok.a0 ok.a1 ok.a2;simp only at this;exact(l21<|.i (.q aF bG)<|.Q .a cV) this
 have C:∀k:Nat,k<(aq-aa).toNat->((a.drop aa.toNat).take (aq-aa).toNat)[k]?=Na (atS a<|aa+(k:Nat)):=λk hk=>by
  have:=ok.a0;have e:(aa+(k:Nat)).toNat=aa.toNat+k:=by simp only at this;exact(l11<|.i bE<|.Q (.t cK)<|.p bK .a) this
  rw[List.getElem?_take_of_lt hk,I5,← e];exact nQ (by simp only at this;exact aJs this) (by have:=ok.a2;simp only at this;exact aJr hk this)
 have B:∀k:Nat,k<(aq-aa).toNat->((a.drop aa.toNat).take (aq-aa).toNat).take (k+1)=(((a.drop aa.toNat).take (aq-aa).toNat).take k)++[atS a<|aa+(k:Nat)]:=λk hk=>by rw[K9,C k hk];rfl
 have h:=sV (ix:=bix b) (aa:=aa) (aq:=aq) (ac:=ac) (af:=af) ((a.drop aa.toNat).take (aq-aa).toNat) aa (λO=>Nb) (aa,ac,0) (C2 _) (by rw[qB ok.a0 ok.a1 ok.a2,AB3,Int.sub_add_cancel];exact C2 _) (JB.nil _ _ _ _) ⟨by simp,by simp,by have:=ok.a1;simpa using this,by simp,by have:=ok.b1;simpa using this⟩;have j:=vA (a:=a) (b:=b) ((gW (bix b) ac af aa ((a.drop aa.toNat).take (aq-aa).toNat) (λO=>Nb) (aa,ac,0)).1-aa).toNat _ h;have e0:=wE (b:=b) (ac:=ac) (af:=af) (xs:=(a.drop aa.toNat).take (aq-aa).toNat) (s:=(aa,(λO=>Nb),(aa,ac,0)));unfold flm;simp only at e0 ⊢;rw[e0] at h j ⊢;generalize I:(a.drop aa.toNat).take (aq-aa).toNat=ls at len C B h j ⊢;refine aGi pl [] (lo:=aa) (hi:=aq) (λk=>fmS w a b aa aq ac af g dp X.d ((ls.take k).foldl (fmF b ac af) (aa,(λO=>Nb),(aa,ac,0))).2.1 ((ls.take k).foldl (fmF b ac af) (aa,(λO=>Nb),(aa,ac,0))).2.2) [] (by kernel_rfl) ⟨_,_,rfl⟩ (by kernel_rfl) trivial ok.a0 ok.a1 (by have:=ok.a2;simp only at this;exact(l11<|.i mT<|.i gF<|.l .a cL) z1 this) (λO=>rfl) (λk hk=>?_) ?_
 .have u:=aPE (b:=b) (ac:=ac) (af:=af) (xs:=ls.take k) (s:=(aa,(λO=>Nb),(aa,ac,0)));rw[G4,T9 (by rw[len];exact I2 hk)] at u;rw[B k hk,O0];generalize (ls.take k).foldl (fmF b ac af) (aa,(λO=>Nb),(aa,ac,0))=s at u ⊢;obtain⟨i,f,t⟩:=s;simp only at u;subst u;exact aML pl z2 ok.b1 _ (jY (by have:=ok.a0;simp only at this;exact aJs this) (by have:=ok.a2;simp only at this;exact aJr hk this) z1)
 .rw[← len,I4];generalize ls.foldl (fmF b ac af) (aa,(λO=>Nb),(aa,ac,0))=s at h j ⊢;refine yK (S1:=fmW w a b aa aq ac af g dp X.d s.2.2) (fits<|by kernel_rfl) ?_;refine aPC pl W h<|aPB pl W j ?_;have A:=uZ (a:=a) (b:=b) (aq-(oW a b aa ac (s.2.2.1-aa).toNat s.2.2).1).toNat _ j;generalize mZ a b aq af (aq-(oW a b aa ac (s.2.2.1-aa).toNat s.2.2).1).toNat (oW a b aa ac (s.2.2.1-aa).toNat s.2.2)=t at A ⊢;exact aPA pl W A<|aPz pl W A<|xse pl 1 [.v<|mtT t] _ [fQ w 2 (S9 "Match") [.int t.1,.int t.2.1,.int t.2.2] (mtT t)] (by kernel_rfl) ⟨⟨135,2,C4 _,wZ,by kernel_rfl,aDf⟩,trivial⟩ rfl
end
section
variable{c:C3}{H:TT}{α:List E3}
theorem Rl3.two{D3 D4:OD}(R:Rl3 c ⟨Z,α⟩ ((I,D)::(M,D')::H) S h)(k:aK [I,M] h h')(a1:At h' I D3)(a2:At h' M D4):Rl3 c ⟨bP Z h h' [],α⟩ ((I,D3)::(M,D4)::H) S h':=by
 have d:=R.nd;obtain⟨j,d⟩:=B6.mp d;obtain⟨p,d⟩:=B6.mp d;obtain⟨E,d⟩:=B6.mp d;have u:Z I=none:=R.hz I<|.tail _<|.head _;have y:Z M=none:=R.hz M<|.tail _<|.tail _<|.head _;have le:¬sB α S.o I:=fun⟨i,x,w⟩=>(R.own w).n<|.tail _<|.head _;have g:¬sB α S.o M:=fun⟨i,x,w⟩=>(R.own w).n<|.tail _<|.tail _<|.head _;have e:I∉c.X H:=λi=>(A8.mp i).elim (λq=>j<|q▸.head _) λi=>p<|.tail _ i;have r:M∉c.X H:=λi=>(A8.mp i).elim (λq=>j<|q▸.tail _ (.head _)) E;have J:∀{b},(b∈c.X H\/sB α S.o b)->h.get? b≠none:=λ{b} q=>q.elim R.shw.shw.xIn fun⟨i,x,w⟩=>(R.own w).in_;have a:∀{b},h.get? b≠Nb->bP Z h h' [] b=Z b:=λ{b} q=>by
  rw[eK];unfold dE;cases I:h.get? b with
  | none=>exact absurd I q
  | some o=>rfl
 have sub:Sub (bP Z h h' []) h':=λb x q=>by
  rw[eK] at q;unfold dE at q;cases z:h.get? b with
  | none=>rw[z] at q;exact q
  | some o=>
   rw[z] at q;refine k b x (λi=>?_)<|R.sub b x q;obtain rfl|i:=A8.mp i
   .cases u.symm.trans q
   .cases C6.mp i;cases y.symm.trans q
 have A:Rl3 c ⟨bP Z h h' [],α⟩ H S h':=R.shw.shw.step (aW R.sub) sub k λb z q=>⟨λi=>by
  obtain rfl|i:=A8.mp i
  .exact q.elim e le
  .cases C6.mp i;exact q.elim r g,(a<|J q).trans z⟩
 have B:h.get? I≠none:=R.xIn<|.tail _<|.head _;have C:h.get? M≠none:=R.xIn<|.tail _<|.tail _<|.head _;exact(A.addH ⟨(a C).trans y,r,g⟩ a2).addH ⟨(a B).trans u,λi=>(A8.mp i).elim (λq=>e<|q▸.head _) λi=>(A8.mp i).elim (λq=>p<|q▸.head _) λi=>e<|.tail _ i,le⟩ a1
end
section
variable{c:C3}{σ:Type}
noncomputable def Pt.permH{H H':TT}(p:Pt c H S)(pm:H.Perm H'):Pt c H' S:=⟨p.φ,p.h,p.g,p.k,p.rm,p.gz,p.gg,p.rel.permH pm⟩
inductive EnE(c:C3)(R:σ->Sd)(HH:σ->TT)(P:σ->Prop)(bj:Fr)(H:TT)(u:U4)(s:A6):Prop
 | mk (t:σ) (p:Pt c (HH t++H)<|R t) (hp:P t) (l:Lt Nd bj p.φ) (eu:u=.next) (es:s=p.s):EnE c R HH P bj H u s
noncomputable abbrev enH(e it la:E3)(i:Nat)(X:TT):TT:=(e,enD it i)::(it,gX la i)::X
inductive EnJ(c:C3)(n:Nat)(R:σ->Sd)(HH:σ->TT)(P:Nat->σ->Prop)(bj:Fr)(H:TT)(e it la:E3)(m:Nat)(s:A6):Prop
 | mk (i:Nat) (t:σ) (p:Pt c (enH e it la i<|HH t++H)<|R t) (hp:P i t) (em:m=n-i) (le:i<=n) (l:Lt Nd bj p.φ) (es:s=p.s):EnJ c n R HH P bj H e it la m s
theorem aIH{A B:E3×OD}:(A::B::(T++X')).Perm<|T++(A::B::X'):=List.perm_append_comm_assoc [A,B] T X'
theorem aHP(pl:Fn3 c)(R:σ->Sd)(HH:σ->TT)(P:Nat->σ->Prop)(t0:σ)(h0:HH t0=[])(p0:P 0 t0)(hn:c.env.kindOf (S9 "enumerate")=Na .globalImplicit)(he:C0 [e] c.env=(Nd,eval e c.env)::C0 [] c.env)(x:EvE c S e (.d<|.lst xs) S)(w:Wks c S<|R t0)
  (step:∀i y t,xs[i]?=Na y->P i t->∃S2,AsT c (R t) (.Tuple es nt pt) (.d<|.tup [.int i,y]) S2/\∀H(p:Pt c (HH t++H) S2),WP c.w c.A (execs body c.env) (EnE c R HH (P<|i+1) p.φ H) FF p.s)
  (done:∀H t(p:Pt c (HH t++H)<|R t),P xs.length t->∀{Q:A6->Prop},(∀p':Pt c H S',Lt Nd p.φ p'.φ->Q p'.s)->Q p.s):EvS c S (.For (.Tuple es nt pt) (.Call (.Name (S9 "enumerate") pf) [e] [] pp) body [] pos) .next S':=
 ⟨λH p=>aIz (λO=>rfl) (WP.gen λQQ hQ=>gC (g_b p.G pl.k hn pl.g pl.b vJ (tM he rfl (dZ he (x.go p λa v l1 r1=>lG (by
  obtain⟨l,vs,rfl,al,rs⟩:=Rp.inv r1;refine aNp (al.up a.rel.sub) λr j T wt wu s8 wv ae I=>?_;have f:=a.rel.fresh wu;have J:=a.rel.fresh wt;have R2:=((a.rel.grow wv [r,j]).addH ⟨(jM<|.tail _<|.head _).trans f.1,f.2,f.3⟩ I).addH ⟨(jM<|.head _).trans J.1,λi=>(A8.mp i).elim (λq=>J.2<|q▸.head _) λi=>(A8.mp i).elim s8 λi=>J.2<|.tail _ i,J.3⟩ ae;have V:HP.le a.φ.Z<|bP a.φ.Z a.h T [r,j]:=aW a.rel.sub;have B:∃B:Pt c (enH r j l 0 H) S,B.s=⟨T,a.g,S.d,a.k,c.os⟩/\B.φ=⟨bP a.φ.Z a.h T [r,j],a.φ.α⟩:=⟨⟨_,T,a.g,a.k,a.rm,a.gz.le V,a.gg,R2⟩,rfl,rfl⟩
  obtain⟨B,e2,E⟩:=B;rw[← e2];have ww:AtZ B.φ.Z l<|aY vs:=E▸al.le V;have bp:Rps B.φ.Z xs vs:=E▸rs.up V;have l12:Lt Nc p.φ B.φ:=E▸l1.tr (.z V);clear R2 f J ae I;obtain⟨o,M,old,rfl⟩:=B.rel.hid (r,enD j (0:Nat))<|.head _;refine hQ _ _ ⟨wpAny_pyIter_enum M ⟨EnJ c xs.length R HH P B.φ H r j l,xs.length,w.go B λp3 l3=>?_,λn s y=>WP.gen λQ2 k7=>?_⟩⟩
  .exact⟨0,t0,p3.permH (by rw[h0];exact .refl _),p0,rfl,C8 _,l3,rfl⟩
  obtain⟨i,t,q,hp,rfl,hi,Y,rfl⟩:=y;obtain⟨o,M,old,rfl⟩:=q.rel.hid (r,enD j i)<|.head _;have I:=q.rel.hid (j,gX l i)<|.tail _<|.head _;have s9:=(ww.le Y.le).up q.rel.sub;by_cases U:i<xs.length
  .have ex:=B1 U;obtain⟨v,hv,rv⟩:=bp.at ex;have ne:r≠j:=s8;refine⟨wpAny_pyNext_enum_item M I s9.isList (by simpa using hv) ne λh1 wx pq wy gn pv=>k7 _ _<|WP.gen λQ3 wz=>⟨wpAny_letOwnedTupleGo_enum wx λC he2 N=>?_⟩⟩;have N:P5 r h1 C:=N;have x8:aK [r,j] q.h C:=λb o nb eb=>(N.2 b λz=>nb<|A8.mpr<|.inl z).trans<|pv b o (λz=>nb<|A8.mpr<|.inl z) (λz=>nb<|A8.mpr<|.inr<|C6.mpr z) eb;have eT:r≠q.h.objs.size:=W6<|L6 M;have a1:At C r<|enD j ((i+1:Nat):Int):=⟨_,he2,v,by rw[show((i+1:Nat):Int)=(i:Int)+1 by exact l01<|.q cR dL]⟩
   have a2:At C j<|gX l<|i+1:=by
    obtain⟨o2,e2,r2⟩:=pq;exact⟨o2,(N.2 j<|Ne.symm ne).trans e2,r2⟩
   have aT:At C q.h.objs.size<|gI [.int i q.k,v]:=⟨_,(N.2 _<|Ne.symm eT).trans wy,0,rfl⟩
   have R3:=Rl3.two q.rel x8 a1 a2;have l5:HP.le q.φ.Z<|bP q.φ.Z q.h C []:=aW q.rel.sub;obtain⟨S2,as,bd⟩:=step i _ t ex hp;refine wz _ _ (as.go (⟨_,C,q.g,q.k+1,q.rm,q.gz.le l5,q.gg,R3⟩:Pt c (enH r j l (i+1)<|HH t++H)<|R t) (.dt<|.tup (by show AtZ (bP q.φ.Z q.h C []) _ _;rw[eK];exact cF (aG _) aT)<|.cons (.int _ _)<|.cons (rv.up<|Y.le.trans l5) .nil) λp4 l6=>(bd _<|p4.permH aIH).mono λu s y=>?_);obtain⟨t',p5,hp',l7,rfl,rfl⟩:=y;exact⟨_,Nat.sub_lt_sub_left U<|I0 i,i+1,t',p5.permH aIH.symm,hp',rfl,U,Y.tr<|(Lt.z l5:Lt Nd q.φ ⟨bP q.φ.Z q.h C [],q.φ.α⟩).tr<|l6.f.tr l7,rfl⟩
  .obtain rfl:i=xs.length:=Nat.le_antisymm hi<|AB6 U;refine⟨wpAny_pyNext_enum_end q.rm.hh M I s9.isList (by simp[bp.len]) λh5 xb=>k7 _ _ ?_⟩;have R3:=Rl3.gone q.rel.shw<|aK.ext xb;exact qN<|done H t (⟨q.φ,h5,q.g,q.k,q.rm,q.gz,q.gg,R3⟩:Pt c (HH t++H)<|R t) hp λp' l8=>p'.end (l12.f.tr<|Y.tr l8) rfl))))))⟩
end
section
variable{c:C3}{H:TT}{α:List E3}
theorem Rl3.keepH(R:Rl3 c ⟨Z,α⟩ ((I,D)::H) S h):∃Z',dH (HP.le Z Z') (AtZ Z' I D)<|Rl3 c ⟨Z',α⟩ H S h:=by
 obtain⟨o,a,p⟩:=R.hid (I,D)<|.head _;have r:Z I=none:=R.hz I<|.tail _<|.head _;obtain⟨d,j⟩:=B6.mp R.nd;have g:=(B6.mp j).1;have le:HP.le Z λy=>if y=I then Na o else Z y:=λy z e=>by
  show(if y=I then Na o else Z y)=Na z;by_cases h:y=I
  .subst h;rw[r] at e;cases e
  .rw[if_neg h];exact e
 refine⟨_,le,⟨o,if_pos rfl,p⟩,R.shw.step (Y:=[]) le (λb x e=>?_) (.of<|aM.refl _) λb z q=>⟨nofun,?_⟩⟩
 .by_cases h:b=I
  .subst h;rw[if_pos rfl] at e;cases e;exact a
  .rw[if_neg h] at e;exact R.sub b x e
 .have:b≠I:=by
   rintro rfl;obtain i|⟨i,x,w⟩:=q
   .exact(A8.mp i).elim (λe=>d<|e▸.head _) g
   .exact(R.own w).n<|.tail _<|.head _
  rw[if_neg this];exact z
theorem Rl3.keepAll:∀{X:TT}{Z:HP},Rl3 c ⟨Z,α⟩ (X++H) S h->∃Z',dH (HP.le Z Z') (∀p∈X,AtZ Z' p.1 p.2)<|Rl3 c ⟨Z',α⟩ H S h:=by
 intro X;induction X with
 | nil=>
  intro Z R;exact⟨Z,.refl _,nofun,R⟩
 | cons p X n=>
  intro Z R;obtain⟨o,l1,a1,b⟩:=Rl3.keepH (H:=X++H) R;obtain⟨g,a,i,d⟩:=n b;exact⟨g,l1.trans a,λq j=>(A8.mp j).elim (λe=>e▸a1.le a)<|i q,d⟩
end
abbrev chB:List F9:=gR<|fG 5 5
abbrev chC(w:E9)(X:Q3)(p0 p1:E3):C3:=cM w aB6 188 X [p0,p1]
def chT(w:E9)(T:Tab):HP->OD:=λO=>dcD (strKind P w)<|kvT T
abbrev chS(w:E9)(al:List Dt)(b:List Str)(d:D8)(T:Tab)(x:Lo):Sd:=⟨[(S9 "self",.o 0),(S9 "b",.d<|.lst<|b.map .str),(S9 "b2j",.o 2)]++x,[.ins 1,.ns<|sm0 (.lst al) (.lst<|b.map .str)<|smC++[(S9 "b2j",.o 2)],.any<|chT w T],d⟩
theorem aPX{c:C3}:EvE c S (.Dict [] [] pos) (.o S.o.length) {S with o:=S.o++[.any<|chT c.w []]}:=
 ⟨λH p=>aBi λa i h g e d=>p.newE (φ:=p.φ) (b:=Nc) e g rfl (A2 (d<|strKind P c.w) λb q=>⟨b,q.1,_,.refl _,q.2⟩) .refl⟩
theorem aST{X:Q3}(pl:P3 (chC w X I p1) n):EvX (chC w X I p1) ⟨[(S9 "self",.o 0)],[.ins 1,.ns<|sm0 (.lst al) (.lst<|b.map .str) smC],X.d⟩ (chB.take 2) .next<|chS w al b X.d [] []:=
 xa pl [.n<|.any<|chT w []] _ [EvE (chC w X I p1) ⟨[(S9 "self",.o 0),(S9 "b",.d<|.lst<|b.map .str)],[.ins 1,.ns<|sm0 (.lst al) (.lst<|b.map .str) smC],X.d⟩ (asV<|chB.drop 1) (.o 2) ⟨[(S9 "self",.o 0),(S9 "b",.d<|.lst<|b.map .str)],[.ins 1,.ns<|sm0 (.lst al) (.lst<|b.map .str) smC,.any<|chT w []],X.d⟩] (by kernel_rfl) ⟨aPX,trivial⟩
abbrev chF:List F9:=chB.drop 2
abbrev aQc:List F9:=foB chF
noncomputable abbrev chI(i:Nat)(y:Str)(x:Lo):Lo:=[(S9 "i",.d<|.int i),(S9 "elt",.d<|.str y)]++x
theorem aAI{T:Tab}{t:Str×E3×List A3}(e:T[C]?=Na t)(ii:List A3):(obT T).Perm ((t.2.1,aY t.2.2)::(obT (T.take C)++obT (T.drop<|C+1)))/\((t.2.1,aY ii)::(obT (T.take C)++obT (T.drop<|C+1))).Perm (obT<|T.set C (t.1,t.2.1,ii)):=by
 obtain⟨b,e⟩:=A4.mp e;have a:∀(A B:Tab)(x:Str×E3×List A3),(obT<|A++x::B).Perm<|(x.2.1,aY x.2.2)::(obT A++obT B):=λA B x=>by
  unfold obT;rw[B4,H5];exact Q7
 constructor
 .have:=a (T.take C) (T.drop<|C+1) t
  rwa [← e,← N9 b,G3,e] at this
 .have:=(a (T.take C) (T.drop<|C+1) (t.1,t.2.1,ii)).symm;rw[List.set_eq_take_append_cons_drop,if_pos b];exact this
theorem aBl{X:Q3}(pl:P3 (chC w X I M) n){T:Tab}{a:E3}(hj:T[C]?=Na (y,a,us))(hz:us.length<=B9){P:Tab->Prop}(ok:∀t,P<|T.set C (y,a,us++[.int B t])){H:TT}(p:Pt (chC w X I M) (obT T++H)<|chS w al b X.d T<|chI B y [])(l:Lt Nd bj p.φ):
  WP w (chC w X I M).A (assign (.Name (S9 "indices") px) (chC w X I M).env<|.ref a) (λO s=>WP w (chC w X I M).A (execs (aQc.drop 1) (chC w X I M).env) (EnE (chC w X I M) (λT=>chS w al b X.d T []) obT P bj H) FF s) FF p.s:=by
 refine(tP<|fW (c:=chC w X I M) (S:=chS w al b X.d T<|chI B y []) (x:=S9 "indices") (v:=.d<|.raw<|.ref a)<|by kernel_rfl).go p (.dt<|.raw _) λY l1=>?_;refine fH (yA (by kernel_rfl) (by kernel_rfl)<|fN (λO=>rfl) (by kernel_rfl) (by kernel_rfl)<|(bC (x:=S9 "indices") (s:=.d<|.raw<|.ref a) (aU<|by kernel_rfl) rfl).go Y λo u R r2 x9=>?_);obtain rfl:=Rp.inv r2;have q:=(aAI hj us).1.append_right H;have E:=(o.permH q).rel.hid _<|.head _;refine aBV E (tN rfl rfl<|(bN (S:=chS w al b X.d T<|chI B y [(S9 "indices",.d<|.raw<|.ref a)]) (rest:=[]) rfl (bC (x:=S9 "i") (s:=.d<|.int B) (aU<|by kernel_rfl) rfl) eV).go o λh vs U i=>?_);cases i with
 | cons i r4=>
 cases r4
 obtain⟨t,rfl⟩:=Rp.inv i;have j:=(h.permH q).rel;refine vV (j.hid _<|.head _) hz λN J Q=>?_;have r:=(j.hupd Q J).permH<|(aAI hj<|us++[A3.int (B:Int) t]).2.append_right H;refine qN ?_;have e:chT w (T.set C (y,a,us++[.int B t]))=chT w T:=by unfold chT;rw[aH6 hj]
 have w1:Wks (chC w X I M) (chS w al b X.d T<|chI B y [(S9 "indices",.d<|.raw<|.ref a)])<|chS w al b X.d (T.set C (y,a,us++[.int B t])) []:=by
  unfold chS;rw[e];exact fits<|by kernel_rfl
 exact w1.go (⟨h.φ,N,h.g,h.k,h.rm,h.gz,h.gg,r⟩:Pt (chC w X I M) (obT (T.set C (y,a,us++[A3.int (B:Int) t]))++H)<|chS w al b X.d T<|chI B y [(S9 "indices",.d<|.raw<|.ref a)]) (P:=λs=>EnE (chC w X I M) (λT=>chS w al b X.d T []) obT P bj H .next s) λZ V=>⟨_,Z,ok t,l.tr<|(l1.tr<|R.tr U).f.tr V,rfl,rfl⟩
theorem aHZ{X:Q3}(pl:P3 (chC w X I p1) n){T:Tab}{P:Tab->Prop}(h1:∀j a us,T[j]?=Na (y,a,us)->us.length<=B9/\∀t,P<|T.set j (y,a,us++[.int B t]))(h2:∀a,y∉T.map (·.1)->∀t,P<|T++[(y,a,[.int B t])])(hz:T.length<=B9){H:TT}(p:Pt (chC w X I p1) (obT T++H)<|chS w al b X.d T<|chI B y []):
  WP w (chC w X I p1).A (execs aQc (chC w X I p1).env) (EnE (chC w X I p1) (λT=>chS w al b X.d T []) obT P p.φ H) FF p.s:=by
 refine fH (vQ rfl rfl rfl<|WP.gen λQ hQ=>fN (λO=>rfl) (by kernel_rfl) (by kernel_rfl)<|(bC (x:=S9 "b2j") (s:=.o 2) (aU<|by kernel_rfl) rfl).go p λg u l2 r2 x9=>?_);obtain⟨dd,ed,rfl⟩:=r2;obtain⟨bb,eb,Z0,l0,i3⟩:=(g.rel.own ⟨ed,rfl,rfl⟩).at_;refine aB2 PySem.F.slot_dict_setdefault PySem.F.type_dict_setdefault ⟨bb,eb,i3⟩ (tN rfl rfl<|(bN (S:=chS w al b X.d T<|chI B y []) rfl (bC (x:=S9 "elt") (s:=.d<|.str y) (aU<|by kernel_rfl) rfl)<|bN (rest:=[]) rfl (aEs (ds:=[]) eV rfl<|C8 _) eV).go g λJ vs R r3=>?_);cases r3 with
 | cons r3 r4=>
 cases r4 with
 | cons r4 r5=>
 cases r5
 obtain⟨ty,rfl⟩:=Rp.inv r3;obtain⟨a,ea,rfl⟩:=r4;have sa:=R.get ed;obtain⟨xc,Y,M,l03,i33⟩:=(J.rel.own ⟨sa,rfl,rfl⟩).at_;refine aF3 (knd:=PySem.strKind Mine.Internal.P w) (yD J.gz J.rel.sub (J.rel.own ⟨sa,rfl,rfl⟩).z) ⟨xc,Y,i33⟩ (strKind_is _ _ _ _) (by show(T.map _).length<=_;rw[A1];exact hz) (λu k' E=>?_) λh' k' E D' kx=>?_
 .obtain⟨z,_⟩|⟨j,a',us,N,z⟩:=nZ T y
  .rw[z] at E;cases E
  .rw[z] at E;cases E
   obtain⟨tl,et⟩:=R.pre rfl;obtain⟨⟨M,gf⟩,h3,g3,k3,ko,C,i,U⟩:=J;cases (et)
   have V:=Rl3.drop (S:=chS w al b X.d T<|chI B y []) (tl:=[.lst []]) (Z0:=g.φ.Z) (H0:=obT T++H) (h0:=g.h) g.rel U;obtain⟨q1,q2⟩:=h1 j a' us N;exact hQ _ _ (aBl pl N q1 q2 (⟨⟨M,g.φ.α⟩,h3,g3,k',ko,C,i,V⟩:Pt (chC w X I p1) (obT T++H)<|chS w al b X.d T<|chI B y []) ⟨l2.le.trans R.le,nofun⟩)
 .obtain⟨_,z⟩|⟨j,a',us,N,z⟩:=nZ T y
  .rw[aCG z] at D';obtain⟨tl,et⟩:=R.pre rfl;obtain⟨⟨M,gf⟩,h3,g3,k3,ko,C,i,R3⟩:=J;cases (et)
   have aA:At h3 a<|aY []:=by
    obtain⟨o,e,vs,q,r⟩:=(R3.own (o:=.lst []) ⟨ea,rfl,rfl⟩).at_;cases r;exact⟨o,e,q⟩
   have V:=Rl3.drop (S:=chS w al b X.d T<|chI B y []) (tl:=[.nil]) (Z0:=g.φ.Z) (H0:=obT T++H) (h0:=g.h) g.rel<|R3.give (n:=3) (a:=a) (o:=.lst []) ⟨ea,rfl,rfl⟩ aA;have R5:=V.upd (n:=2) (a:=dd) (o:=.any<|chT w T) (o':=.any<|chT w<|T++[(y,a,[])]) ⟨ed,rfl,rfl⟩ rfl kx<|A2 D' λo q=>⟨o,q.1,M,.refl _,q.2⟩;have pm:((a,aY [])::(obT T++H)).Perm<|obT (T++[(y,a,[])])++H:=by
    have e:obT (T++[(y,a,[])])=obT T++[(a,aY [])]:=by simp[obT]
    rw[e,B5];exact Q7.symm
   have N:(T++[(y,a,([]:List A3))])[T.length]?=Na (y,a,[]):=D9;refine hQ _ _<|aBl pl N (C8 _) (λt=>?_) (⟨⟨M,g.φ.α⟩,h',g3,k',ko,C,i,R5.permH pm⟩:Pt (chC w X I p1) (obT (T++[(y,a,[])])++H)<|chS w al b X.d (T++[(y,a,[])])<|chI B y []) ⟨l2.le.trans R.le,nofun⟩;rw[Q1 _ _<|C4 _,N8];exact h2 a z t
  .rw[z] at E;cases E
def chD(w:E9)(b:List Str):HP->OD:=λZ o=>∃T:Tab,dH (TOk T b) (∀t∈T,AtZ Z t.2.1<|aY t.2.2)<|dcD (strKind Mine.Internal.P w) (kvT T) o
abbrev chK(w:E9)(al:List Dt)(b:List Str)(d:D8)(r:Lo)(x:Lo)(os:List Ow):Sd:=⟨[(S9 "self",.o 0),(S9 "b",.d<|.lst<|b.map .str),(S9 "b2j",.o 2)]++x,[.ins 1,.ns<|sm0 (.lst al) (.lst<|b.map .str)<|smC++[(S9 "b2j",.o 2)]++r,.any<|chD w b]++os,d⟩
theorem aSS{X:Q3}(pl:P3 (chC w X I p1) n)(hz:b.length<=1000000):EvX (chC w X I p1) (chS w al b X.d [] []) (chF.take 1) .next<|chK w al b X.d [] [] []:=by
 refine fP (aHP (xs:=b.map .str) (σ:=Tab) (e:=.Name (S9 "b") _) pl.toFn3 (λT=>chS w al b X.d T []) obT (λi T=>TOk T<|b.take i) [] rfl TOk.nil (by kernel_rfl) rfl (bC (aU<|by kernel_rfl) rfl) .refl (λi y T ey ok=>?_) λH T p ok Q q=>?_)
 .rw[B3] at ey;obtain⟨s,J,rfl⟩:=B0.mp ey;have B:=(A4.mp J).1;have E:b.take (i+1)=b.take i++[s]:=by rw[K9,J];rfl
  have r:(b.take i).length=i:=by rw[G4,T9<|I2 B]
  refine⟨chS w al b X.d T<|chI i s [],gY<|by kernel_rfl,λH p=>aHZ pl (λj a V M=>⟨?_,λt=>?_⟩) (λa z t=>?_) ?_ p⟩
  .rw[(ok.at_ _<|D5 M).length];exact A9 (wY (b.take i) s 0) (by rw[r];exact aJq hz B)
  .have:=ok.more M (t:=t)
   rwa [E,← r,r] at *
  .have:=ok.new z (a:=a) (t:=t)
   rwa [E,← r,r] at *
  .rw[C5];exact A9 ok.len (by rw[r];exact aJq hz B)
 .rw[A1,I4] at ok;obtain⟨C,l,at_,R⟩:=Rl3.keepAll (Z:=p.φ.Z) (α:=p.φ.α) p.rel;have N:=R.set 2 (.any<|chD w b) (λa A=>⟨λO=>have u:=R.own (o:=.any<|chT w T) ⟨A,rfl,rfl⟩;⟨A2 u.at_ λo z=>⟨o,z.1,C,.refl _,T,ok,λt S=>at_ _<|C1.mpr ⟨t,S,rfl⟩,A2 z.2 λU q=>q.2⟩,u.z,u.n⟩,nofun⟩) λO i a x A u=>R.inj i 2 a x _ u ⟨A,rfl,rfl⟩;exact q (⟨⟨C,p.φ.α⟩,p.h,p.g,p.k,p.rm,p.gz.le l,p.gg,N⟩:Pt (chC w X I p1) H<|chK w al b X.d [] [] [])<|.z l
theorem aHK{c:C3}(pl:Fn3 c)(ks:c.env.kindOf (S9 "set")=Na .globalImplicit):EvE c S (.Call (.Name (S9 "set") pf) [] [] pos) (.o S.o.length) {S with o:=S.o++[.any λO=>oF]}:=
 ⟨λH p=>gC<|g_b p.G pl.k ks pl.g pl.b aF8<|aEK<|aNn λa h e d at_=>p.newE (b:=Nc) d e rfl (A2 at_ λo q=>⟨o,q.1,_,.refl _,q.2⟩) .refl⟩
theorem aHJ{c:C3}(pl:Fn3 c)(ks:c.env.kindOf (S9 "set")=Na .globalImplicit):EvE c S (.Call (.Name (S9 "set") pf) [] [] pos) (.o S.o.length) {S with o:=S.o++[.any λO=>wB c.w []]}:=
 ⟨λH p=>gC<|g_b p.G pl.k ks pl.g pl.b aF8<|aEK<|aNm λa h e d at_=>p.newE (b:=Nc) d e rfl (A2 at_ λo q=>⟨o,q.1,_,.refl _,q.2⟩) .refl⟩
abbrev chM(w:E9)(al:List Dt)(b:List Str)(d:D8)(D2:HP->OD)(D4:HP->OD):Sd:=⟨[(S9 "self",.o 0),(S9 "b",.d<|.lst<|b.map .str),(S9 "b2j",.o 2),(S9 "junk",.o 3),(S9 "isjunk",.d .none),(S9 "popular",.o 4),(S9 "n",.d<|.int (b.map Dt.str).length)],[.ins 1,.ns<|sm0 (.lst al) (.lst<|b.map .str)<|smC++[(S9 "b2j",.o 2),(S9 "bjunk",.o 3),(S9 "bpopular",.o 4)],.any D2,.any λO=>oF,.any D4],d⟩
theorem aSR{X:Q3}(pl:P3 (chC w X I p1) n)(hz:b.length<=1000000):EvX (chC w X I p1) (chK w al b X.d [] [] []) ((chB.drop 3).take 5) .next<|chM w al b X.d (chD w b) λO=>wB w []:=
 xa pl [.n<|.any λO=>oF,.t Nd,.n<|.any λO=>wB w []] _ [EvE (chC w X I p1) (chK w al b X.d [] [] []) (asV<|chB.drop 3) (.o 3)<|chK w al b X.d [] [] [.any λO=>oF],Nd=Nd,EvE (chC w X I p1) (chK w al b X.d [(S9 "bjunk",.o 3)] [(S9 "junk",.o 3),(S9 "isjunk",.d .none)] [.any λO=>oF]) (asV<|chB.drop 6) (.o 4)<|chK w al b X.d [(S9 "bjunk",.o 3)] [(S9 "junk",.o 3),(S9 "isjunk",.d .none)] [.any λO=>oF,.any λO=>wB w []],(b.map Dt.str).length<4611686018427387904] (by kernel_rfl) ⟨aHK pl.toFn3<|by kernel_rfl,rfl,aHJ pl.toFn3<|by kernel_rfl,by rw[A1];exact Q9 hz<|by decide,trivial⟩
theorem aSQ{X:Q3}(pl:P3 (chC w X I p1) n)(h:¬200<=b.length):EvX (chC w X I p1) (chM w al b X.d (chD w b) λO=>wB w []) (chB.drop 8) .next<|chM w al b X.d (chD w b) λO=>wB w []:=
 xa pl [.t Nd] _ [(Nc&&Nf (((b.map Dt.str).length:Int)>=200))=Nd] (by kernel_rfl) ⟨by rw[A1,Bool.true_and];exact decide_eq_false λz=>h<|AB2.mp z,trivial⟩
abbrev pC:=(Str×Str)×Bool
abbrev Hk:=Int×Int×aH
variable{hs:List Hk}
noncomputable abbrev plS:Str:=S9 "+"
noncomputable abbrev miS:Str:=S9 "-"
def aQ(l:aH):List Str:=(l.filter λr=>r.1 != plS).map (·.2)
def news(l:aH):List Str:=(l.filter λr=>r.1 != miS).map (·.2)
theorem dS(x y:aH):aQ (x++y)=aQ x++aQ y:=by unfold aQ;rw[Z5,B4]
theorem eJ(x y:aH):news (x++y)=news x++news y:=by unfold news;rw[Z5,B4]
theorem rD(l:aH):(aQ l).length=bI l:=A1 ..
def hkT(h:Hk):List Str:=cE h.1 (bI h.2.2) h.2.1 (bT h.2.2)::h.2.2.map (λr=>r.1++r.2)
def oI(r:Str×Str):Int:=if (r.1 != plS)=Nc then 1 else 0
def nI(r:Str×Str):Int:=if (r.1 != miS)=Nc then 1 else 0
theorem nN(R:aH)(r:Str×Str):(bI (R++[r]):Int)=bI R+oI r:=by
 rw[nO];unfold oI bI;by_cases h:(r.1 != S9 "+")=Nc
 .rw[N6,if_pos h,if_pos h];rfl
 .rw[N6,if_neg h,if_neg h];rfl
theorem xH(R:aH)(r:Str×Str):(bT (R++[r]):Int)=bT R+nI r:=by
 rw[rV];unfold nI bT;by_cases h:(r.1 != S9 "-")=Nc
 .rw[N6,if_pos h,if_pos h];rfl
 .rw[N6,if_neg h,if_neg h];rfl
def hks(l:List pC):Int->Int->Option Hk->List Hk:=
 List.rec (motive:=λO=>Int->Int->Option Hk->List Hk) (λO O c=>c.toList) (λr O a o m c=>cond r.2 (a (o+oI r.1) (m+nI r.1)<|Na ((c.getD (o,m,[])).1,(c.getD (o,m,[])).2.1,(c.getD (o,m,[])).2.2++[r.1]))<|c.toList++a (o+1) (m+1) Nb) l
theorem aIZ(o m:Int)(c:Option Hk):hks [] o m c=c.toList:=rfl
theorem aB0{r:Str×Str}(l:List pC)(o m:Int)(c:Option Hk):hks ((r,Nc)::l) o m c=hks l (o+oI r) (m+nI r) (Na ((c.getD (o,m,[])).1,(c.getD (o,m,[])).2.1,(c.getD (o,m,[])).2.2++[r])):=rfl
theorem aB1{r:Str×Str}(l:List pC)(o m:Int)(c:Option Hk):hks ((r,Nd)::l) o m c=c.toList++hks l (o+1) (m+1) none:=rfl
def flg(n:Int)(l:aH):Int->List pC:=
 List.rec (motive:=λO=>Int->List pC) (λO=>[]) (λr b a f=>(r,Nf<|min (if (r.1==spS)=Nc then f+1 else 0) (nxt n<|r::b)<=n)::a (if (r.1==spS)=Nc then f+1 else 0)) l
theorem aEn(n f:Int)(r:Str×Str)(rs:aH):flg n (r::rs) f=(r,Nf<|min (if (r.1==spS)=Nc then f+1 else 0) (nxt n<|r::rs)<=n)::flg n rs (if (r.1==spS)=Nc then f+1 else 0):=rfl
theorem eS(n:Int):∀(l:aH)(f:Int),(flg n l f).map (·.1)=l:=by
 intro l;induction l with
 | nil=>intro f;rfl
 | cons r b a=>intro f;rw[aEn,H5,a]
noncomputable def sK(s:DS):Option Hk:=if s.hunk.isEmpty then Nb else Na (s.old,s.new,s.hunk)
theorem aCD(n:Int):∀(l:aH)(f:Int)(s:DS),(gK n f s l).told=s.told++(hks (flg n l f) (s.old+bI s.hunk) (s.new+bT s.hunk)<|sK s).flatMap hkT:=by
 intro l;have a:∀s:DS,(sK s).toList.flatMap hkT=emit s:=λs=>by
  unfold sK emit;cases h:s.hunk with
  | nil=>rfl
  | cons x j=>simp[hkT,h]
 induction l with
 | nil=>intro f s;rw[lV,cT];show _=_++(sK s).toList.flatMap hkT;rw[a]
 | cons r i b=>
  intro f s;rw[rU,aEn];by_cases q:min (if (r.1==spS)=Nc then f+1 else 0) (nxt n<|r::i)<=n
  .rw[if_pos q,decide_eq_true q,aB0,b];have d:(sK {s with hunk:=s.hunk++[r]})=Na (((sK s).getD (s.old+bI s.hunk,s.new+bT s.hunk,[])).1,((sK s).getD (s.old+bI s.hunk,s.new+bT s.hunk,[])).2.1,((sK s).getD (s.old+bI s.hunk,s.new+bT s.hunk,[])).2.2++[r]):=by
    unfold sK;cases h:s.hunk with
    | nil=>simp[bI,bT]
    | cons x j=>simp
   rw[← d];rw[nN,xH,X1,X1]
  .rw[if_neg q,decide_eq_false q,aB1,cT,L9,a,← B5,b];have e:∀x:Int,x+(bI ([]:aH):Int)=x:=K1;have g:∀x:Int,x+(bT ([]:aH):Int)=x:=K1;rw[e,g];rfl
def iR(r:Str×Str):Prop:=r.1=spS\/r.1=miS\/r.1=plS
theorem aAN:spS≠plS:=by decide +kernel
theorem aIO:spS≠miS:=by decide +kernel
theorem tB:miS≠plS:=by decide +kernel
theorem uD(r:Str×Str)(l:aH):aQ (r::l)=if (r.1 != plS)=Nc then r.2::aQ l else aQ l:=by
 unfold aQ;rw[N6];split <;> rfl
theorem aDq(r:Str×Str)(l:aH):news (r::l)=if (r.1 != miS)=Nc then r.2::news l else news l:=by
 unfold news;rw[N6];split <;> rfl
theorem aAm{r:Str×Str}(e:r.1=spS)(l:aH):aQ (r::l)=r.2::aQ l:=by
 rw[uD,e,if_pos<|bne_iff_ne.mpr aAN]
abbrev cA:=Str×Str×Bool
variable{st:List cA}
def hid(l:List Str):List cA:=l.map λx=>(spS,x,Nd)
noncomputable def shn(l:aH):List cA:=l.map λr=>(r.1,r.2,Nc)
noncomputable def tri(l:List pC):List cA:=l.map λr=>(r.1.1,r.1.2,r.2)
def rb(ar:List Str)(hs:List Hk):Nat->List cA:=
 List.rec (motive:=λO=>Nat->List cA) (λp=>hid<|ar.drop p) (λh O a p=>hid ((ar.drop p).take<|h.1.toNat-p)++(shn h.2.2++a (h.1.toNat+bI h.2.2))) hs
theorem aRQ(ar:List Str)(p:Nat):rb ar [] p=hid (ar.drop p):=rfl
theorem aRR(ar:List Str)(h:Hk)(hs:List Hk)(p:Nat):rb ar (h::hs) p=hid ((ar.drop p).take<|h.1.toNat-p)++(shn h.2.2++rb ar hs (h.1.toNat+bI h.2.2)):=rfl
structure HkP(ar:List Str)(p:Nat)(g:Int)(b:Bool)(o:Nat)(m:Int)(h:Hk):Prop where
 le:p<=h.1.toNat
 nn:0<=h.1
 lt:b=Nc->p<h.1.toNat
 eg:h.2.1=h.1+g
 eo:h.1.toNat+bI h.2.2=o
 em:m=h.2.1+bT h.2.2
 at_:ar.drop h.1.toNat=aQ h.2.2++ar.drop o
 mks:∀r∈h.2.2,iR r
abbrev aNW(ar:List Str)(p:Nat)(g:Int)(b:Bool)(h:Hk):Prop:=HkP ar p g b (h.1.toNat+bI h.2.2) (h.2.1+bT h.2.2) h/\h.1.toNat+bI h.2.2<=ar.length
def HOk(ar:List Str)(hs:List Hk):Nat->Int->Bool->Prop:=
 List.rec (motive:=λO=>Nat->Int->Bool->Prop) (λO O O=>True) (λh O a p g b=>aNW ar p g b h/\a (h.1.toNat+bI h.2.2) (g+(bT h.2.2-bI h.2.2)) Nc) hs
theorem aRh(ar:List Str)(h:Hk)(hs:List Hk)(p:Nat)(g:Int)(b:Bool):HOk ar (h::hs) p g b=(aNW ar p g b h/\HOk ar hs (h.1.toNat+bI h.2.2) (g+(bT h.2.2-bI h.2.2)) Nc):=rfl
def aNX(l:List pC):Prop:=∀r∈l,iR r.1/\(r.2=Nd->r.1.1=spS)
theorem lF(h:B<=C)(e:a.drop C=x::b):(a.drop B).take (C+1-B)=(a.drop B).take (C-B)++[x]:=by
 rw[Nat.sub_add_comm h,K9]
 congr 1;rw[I5,P6 h];have:=congrArg (·[0]?) e;rw[I5] at this;rw[show C=C+0 from rfl,this];rfl
theorem kF(e:a.drop B=x::b):a.drop (B+1)=b:=by
 rw[← AA5,e];rfl
theorem aHe(x y:List Str):hid (x++y)=hid x++hid y:=B4
theorem aG9(x y:aH):shn (x++y)=shn x++shn y:=B4
theorem aGL(r:Str×Str)(l:aH):aQ (r::l)=(if oI r=1 then [r.2] else [])++aQ l:=by
 rw[uD];unfold oI;by_cases h:(r.1 != plS)=Nc
 .rw[if_pos h,if_pos h];rfl
 .rw[if_neg h,if_neg h];rfl
theorem wF(r:Str×Str):oI r=1\/oI r=0:=by unfold oI;split <;> simp
theorem aLt(ar:List Str):∀(l:List pC)(o:Nat)(m:Int)(p:Nat),aNX l->ar.drop o=aQ (l.map (·.1))->p<=o ->
  rb ar (hks l o m Nb) p=hid ((ar.drop p).take<|o-p)++tri l /\
  ∀(o0:Nat)(m0:Int)(R:aH),o0+bI R=o->p<=o0->rb ar (hks l o m<|Na (o0,m0,R)) p=hid ((ar.drop p).take<|o0-p)++(shn R++tri l):=by
 intro l;induction l with
 | nil=>
  intro o m p ok e h;have e:=e;refine⟨?_,λo0 m0 R g n=>?_⟩
  .rw[aIZ];show hid (ar.drop p)=_++[];rw[D0,N5];rw[F5];exact Nat.sub_le_sub_right (List.drop_eq_nil_iff.mp e) p
  .rw[aIZ];show rb ar [(_,m0,R)] p=_;rw[aRR,aRQ];show _++(shn R++hid (ar.drop<|o0+bI R))=_;rw[g,e];rfl
 | cons r l u=>
  intro o m p ok e h;obtain⟨r,b⟩:=r;have E:=ok _<|.head _;have w:=λx C=>ok x<|.tail _ C;cases b with
  | true=>
   have B:∃d:Nat,dH ((o:Int)+oI r=d) (ar.drop d=aQ (l.map (·.1))) (o<=d/\∀R:aH,bI (R++[r])=bI R+(d-o)):=by
    have a:ar.drop o=aQ (r::l.map (·.1)):=e;rw[aGL] at a;obtain q|q:=wF r
    .rw[if_pos q] at a;refine⟨o+1,by rw[q];rfl,kF a,P9 o,λR=>?_⟩;have:=nN R r;rw[q] at this;rw[Z8];exact X0.inj this
    .rw[if_neg (by rw[q];decide)] at a;refine⟨o,by rw[q];exact K1 _,a,C4 o,λR=>?_⟩;have:=nN R r;rw[q,K1] at this;rw[N8];exact X0.inj this
   obtain⟨d,a,i,j,y⟩:=B;have I:=λp h=>(u d (m+nI r) p w i h).2;refine⟨?_,λo0 m0 R g n=>?_⟩
   .rw[aB0,a];show rb ar (hks l d (m+nI r)<|Na (o,m,[r])) p=_;rw[I p (A9 h j) o m [r] (by have:=y [];rw[I1] at this;rw[this];show o+(0+(d-o))=d;rw[V4,P6 j]) h];rfl
   .rw[aB0,a];show rb ar (hks l d (m+nI r)<|Na (o0,m0,R++[r])) p=_;rw[I p (A9 h j) o0 m0 (R++[r]) (by rw[y,← Y8,g,P6 j]) n,aG9,B5];rfl
  | false=>
   have A:=E.2 rfl;have a:=(e.trans<|aAm A _)
   have i:=kF a;have tr:tri ((r,Nd)::l)=hid [r.2]++tri l:=by show(r.1,r.2,Nd)::_=_;rw[A];rfl
   refine⟨?_,λo0 m0 R g n=>?_⟩
   .rw[aB1];show rb ar (hks l (o+1:Nat) (m+1) Nb) p=_;rw[(u (o+1) (m+1) p w i<|AB1 h).1,lF h a,aHe,B5,tr]
   .rw[aB1];show rb ar ((o0,m0,R)::hks l (o+1:Nat) (m+1) Nb) p=_;show _++(shn R++rb ar _ (o0+bI R))=_;rw[g,(u (o+1) (m+1) o w i<|P9 o).1,lF (C4 o) a,N8,tr];rfl
theorem aLg{r:Str×Str}(e:a.drop B=aQ (r::rs))(ol:B<=a.length):∃o':Nat,lY ((B:Int)+oI r=o') (a.drop o'=aQ rs) (o'<=a.length)<|a.drop B=aQ [r]++a.drop o'/\bI [r]=o'-B/\B<=o':=by
 have c:=nN [] r;rw[aGL] at e;obtain q|q:=wF r
 .rw[if_pos q] at e;have d:=congrArg Y0 e;rw[F5] at d;have b:=kF e;refine⟨B+1,by rw[q];rfl,b,aKg d,?_,?_,P9 B⟩
  .rw[e,b,aGL r [],if_pos q];rfl
  .rw[q] at c;rw[Z8];exact X0.inj c
 .rw[if_neg (by rw[q];decide)] at e;refine⟨B,by rw[q];exact K1 _,e,ol,?_,?_,C4 B⟩
  .rw[aGL r [],if_neg (by rw[q];decide)];rfl
  .rw[q] at c;rw[N8];exact X0.inj c
theorem aMu(ar:List Str):∀(l:List pC)(o:Nat)(m:Int)(p:Nat)(g:Int)(b:Bool)(c:Option Hk),aNX l->ar.drop o=aQ (l.map (·.1))->o<=ar.length->HkP ar p g b o m (c.getD (o,m,[]))->HOk ar (hks l o m c) p g b:=by
 intro l;induction l with
 | nil=>
  intro o m p g b c ok e y w;cases c with
  | none=>exact trivial
  | some h=>
   have w:HkP ar p g b o m h:=w;exact⟨⟨by rw[w.eo,← w.em];exact w,by rw[w.eo];exact y⟩,trivial⟩
 | cons r l A=>
  intro o m p g b c ok e y w;obtain⟨r,f⟩:=r;have J:=ok _<|.head _;have B:=λx j=>ok x<|.tail _ j;cases f with
  | true=>
   obtain⟨C,n,u,T,U,V,Y⟩:=aLg e y;rw[aB0,n];refine A C (m+nI r) p g b _ B u T ?_;generalize c.getD (o,m,[])=h at w ⊢;obtain⟨a,E,R⟩:=h;refine⟨w.le,w.nn,w.lt,w.eg,?_,?_,?_,λx j=>(E4.mp j).elim (w.mks x) λj=>by rw[C6.mp j];exact J.1⟩
   .show a.toNat+bI (R++[r])=C;rw[nO,V,← Y8,show a.toNat+bI R=o from w.eo,P6 Y]
   .show m+nI r=E+(bT (R++[r]):Int);rw[xH,← X1,show m=E+(bT R:Int) from w.em]
   .show ar.drop a.toNat=aQ (R++[r])++ar.drop C;rw[dS,B5,← U];exact w.at_
  | false=>
   have es:=J.2 rfl;have n:=(e.trans<|aAm es _)
   have u:=kF n;have I:o+1<=ar.length:=by
    have:=congrArg Y0 n;rw[F5,D1] at this;exact aKg this
   cases c with
   | none=>
    have l1:=w.le;have l2:m=o+g:=w.eg;exact A (o+1) (m+1) p g b Nb B u I ⟨AB1 l1,E2 _,λh=>X3 l1,by show m+1=((o+1:Nat):Int)+g;rw[l2];exact l11<|.q (.p (.p aF .a) aC)<|.p cR .a,rfl,(K1 _).symm,rfl,nofun⟩
   | some h=>
    have w:HkP ar p g b o m h:=w;have Z:m=o+(g+((bT h.2.2:Int)-bI h.2.2)):=by
     have a1:=w.eg;have M:=w.eo;have N:=w.em;have S:=w.nn;exact(l43<|.i (.q .c<|.p .d .b)<|.i (.Q (.p (.t .d) .c) .a)<|.i (.q .a<|.p .c aN)<|.i mQ<|.q .a<|.p aF<|.p .b<|.m aN fU) a1 M N S
    refine⟨⟨by rw[w.eo,← w.em];exact w,by rw[w.eo];exact y⟩,?_⟩;rw[w.eo];exact A (o+1) (m+1) o _ Nc Nb B u I ⟨P9 o,E2 _,λO=>I0 o,by show m+1=((o+1:Nat):Int)+_;rw[Z];exact l13<|.q (.p (.p aF<|.p .a<|.m aN fU) aC)<|.p cR<|.p .a<|.m aN fU,rfl,(K1 _).symm,rfl,nofun⟩
def jZ(l:aH):Bool:=l.any λr=>r.1 != spS
theorem aFl(x y:aH):jZ (x++y)=(jZ x||jZ y):=List.any_append
theorem aA9(r:Str×Str)(l:aH):jZ (r::l)=((r.1 != spS)||jZ l):=rfl
theorem aLU(N:Nat):∀rs:aH,0<=nxt N rs:=λrs=>aLV<|E2 N
theorem aDp(N:Nat):∀(rs:aH)(m:Nat),m<=N->(nxt N rs<=m↔jZ (rs.take<|m+1)=Nc):=by
 intro rs;induction rs with
 | nil=>intro m h;rw[aAJ];exact⟨λz=>by lia,nofun⟩
 | cons r rs a=>
  intro m h;rw[pG,List.take_succ_cons,aA9];by_cases q:(r.1==spS)=Nc
  .rw[if_pos q,show(r.1 != spS)=Nd by unfold bne;rw[q];rfl,Bool.false_or];cases m with
   | zero=>exact⟨λz=>by have:=aLU N rs;lia,nofun⟩
   | succ m=>rw[← a m<|X5 h];exact⟨λz=>(l11<|.i (.l aR cR) gF) z,λz=>(l11<|.i gF<|.l aR cR) z⟩
  .have b:(r.1==spS)=false:=by simpa using q
   rw[if_neg q,show(r.1 != spS)=Nc by unfold bne;rw[b];rfl];exact⟨λO=>rfl,λO=>E2 _⟩
def lst(l:aH):Int->Int:=List.rec (motive:=λO=>Int->Int) (λf=>f) (λr O a f=>a (if (r.1==spS)=Nc then f+1 else 0)) l
theorem aIT(r:Str×Str)(l:aH)(f:Int):lst (r::l) f=lst l (if (r.1==spS)=Nc then f+1 else 0):=rfl
theorem aDD:∀(l:aH)(r:Str×Str)(f:Int),lst (l++[r]) f=if (r.1==spS)=Nc then lst l f+1 else 0:=by
 intro l r;induction l with
 | nil=>intro f;rfl
 | cons x l a=>intro f;rw[L8,aIT,a,aIT]
theorem aGW(n:Int):∀l:aH,lst l.reverse (n+1)=nxt n l:=by
 intro l;induction l with
 | nil=>rfl
 | cons r l a=>rw[AA2,aDD,a,pG]
theorem aMO(n:Int):∀(pre:aH)(r:Str×Str)(rs:aH)(f:Int),(flg n (pre++r::rs) f)[pre.length]?=Na (r,Nf<|min (lst (pre++[r]) f) (nxt n<|r::rs)<=n):=by
 intro pre r rs;induction pre with
 | nil=>intro f;rfl
 | cons x pre a=>intro f;rw[L8,aEn,D1,List.getElem?_cons_succ,a];rfl
def aGO(N:Nat)(a9:aH)(k:Nat):Bool:=jZ<|(a9.drop<|k-N).take<|k+N+1-(k-N)
theorem aAQ:min i j<=c↔i<=c\/j<=c:=by
 rw[Int.min_def];split
 .exact⟨.inl,λh=>h.elim id λh=>E5 (by assumption) h⟩
 .exact⟨.inr,λh=>h.elim (λh=>E5 (W8<|W7.mp<|by assumption) h) id⟩
theorem aEm(N:Nat)(a9:aH)(k:Nat)(r:Str×Str)(e:a9[k]?=Na r):(flg N a9<|N+1)[k]?=Na (r,aGO N a9 k):=by
 obtain⟨hk,n⟩:=A4.mp e;have b:a9=a9.take k++r::a9.drop (k+1):=by
  rw[← n,List.getElem_cons_drop,G3]
 have lk:(a9.take k).length=k:=by rw[G4];exact T9<|I2 hk
 generalize a9.take k=pre at b lk;generalize a9.drop (k+1)=rs at b;subst b lk;rw[aMO]
 congr 2;have a1:lst (pre++[r]) ((N:Int)+1)<=N↔jZ ((r::pre.reverse).take<|N+1)=true:=by
  rw[← aDp N _ N<|C4 _,← aGW];simp
 have d:=aDp N (r::rs) N<|C4 _;have i:jZ ((r::pre.reverse).take<|N+1)=((r.1 != spS)||jZ (pre.drop<|pre.length-N)):=by
  rw[List.take_succ_cons,aA9,List.take_reverse];unfold jZ;rw[List.any_reverse]
 have g:jZ ((r::rs).take<|N+1)=((r.1 != spS)||jZ (rs.take N)):=rfl;have j:aGO N (pre++r::rs) pre.length=(jZ (pre.drop<|pre.length-N)||((r.1 != spS)||jZ (rs.take N))):=by
  unfold aGO;rw[List.drop_append_of_le_length<|Nat.sub_le _ _,List.take_append,F5,aFl];have o:pre.length+N+1-(pre.length-N)-(pre.length-(pre.length-N))=N+1:=l02<|.Q (.m (.m (.p bB aC) bG)<|.m .a bG) bJ;rw[o,N5 (by rw[F5];exact l02<|.L (.m .a bG)<|.m (.p bB aC) bG),g]
 rw[i] at a1;rw[g] at d;rw[j];refine Bool.eq_iff_iff.mpr<|(decide_eq_true_iff.trans<|aAQ.trans<|or_congr a1 d).trans ?_;simp only[Bool.or_eq_true];exact⟨λh=>h.elim (λh=>h.elim (λh=>.inr<|.inl h) .inl) .inr,λh=>h.elim (λh=>.inl<|.inr h) .inr⟩
theorem aEl(N:Nat):∀(l:aH)(f:Int),(∀r∈l,iR r)->aNX (flg N l f):=by
 intro l;induction l with
 | nil=>intro f _;exact nofun
 | cons r l d=>
  intro f h x a;obtain rfl|a:=A8.mp a
  .refine⟨h _<|.head _,λz=>?_⟩;have z:=of_decide_eq_false z;by_cases q:(r.1==spS)=Nc
   .exact F6 q
   .rw[if_neg q] at z;exact absurd (aAQ.mpr<|.inl<|E2 N) z
  .exact d _ (λy b=>h y<|.tail _ b) x a
noncomputable abbrev nl(x:Str):List Nat:=x.cps.toList
theorem jL(x y:Str):nl (x++y)=nl x++nl y:=Array.toList_append
theorem uI(h:nl x=nl y):x=y:=by
 cases x;cases y
 exact congrArg Str.mk<|Array.toList_inj.mp h
theorem aOU(s:String):nl (S9 s)=s.toList.map Char.toNat:=by rw[Str.ofString_eq_toList]
def nds(n:Nat):List Nat:=nl<|S9<|H3 (n:Int)
theorem yY(n:Nat):nds n=(Nat.toDigits 10 n).map Char.toNat:=by
 unfold nds;rw[aOU];show((Nat.repr n).toList).map _=_;unfold Nat.repr;rw[String.toList_ofList]
theorem mM(n:Nat):∀c∈nds n,48<=c:=λc a=>by
 rw[yY] at a;obtain⟨d,b,rfl⟩:=C1.mp a;have:=Nat.isDigit_of_mem_toDigits (by decide) (by decide) b;unfold Char.isDigit at this;simp only[Y3,decide_eq_true_eq] at this;exact this.1
theorem aAO(h:nds B=nds n):B=n:=by
 rw[yY,yY] at h;have h:=(List.map_inj_right<|λa b e=>Char.toNat_inj.mp e).mp h;exact Nat.repr_inj.mp (by unfold Nat.repr;rw[h])
theorem aEN[DecidableEq α]{c:α}:∀{x x' y y':List α},c∉x->c∉x'->x++c::y=x'++c::y'->x=x'/\y=y':=by
 intro x;induction x with
 | nil=>
  intro x' y y' _ d h;cases x' with
  | nil=>exact⟨rfl,(List.cons.inj h).2⟩
  | cons a x'=>exact absurd ((List.cons.inj h).1▸M4 ..) d
 | cons a x j=>
  intro x' y y' g d h;cases x' with
  | nil=>exact absurd ((List.cons.inj h).1▸M4 ..) g
  | cons b x'=>
   have e:=List.cons.inj h;have i:=j (λz=>g<|.tail _ z) (λz=>d<|.tail _ z) e.2;exact⟨by rw[e.1,i.1],i.2⟩
theorem aMa(h:C=1):nl (aZ B C)=nds (B+1):=by
 subst h;rw[aZ,if_pos<|by rfl];rfl
theorem aM9(h:C≠1):nl (aZ B C)=nds (if C=0 then B else B+1)++44::nds C:=by
 rw[aZ,if_neg<|by exact(l01<|.i (.n<|.Q .a aC)<|.n<|.q aF aC) h,jL,jL,B5];have e:(if (C:Int)=0 then (B:Int) else (B:Int)+1)=((if C=0 then B else B+1:Nat):Int):=by split;split;exact l01<|.q aF aF;exact(l02<|.i (.q aN aE)<|.i (.n<|.Q .b aE)<|.q aF cR) (by assumption) (by assumption);split;exact(l02<|.i (.n<|.q aN aE)<|.i (.Q .b aE)<|.q dL aF) (by assumption) (by assumption);exact l01<|.q dL cR
 rw[e,show nl (S9 ",")=[44] by decide];rfl
theorem wH(h:∀c∈tc,48<=c)(hk:k<48):k∉tc:=λz=>Nat.not_le.mpr hk<|h k z
theorem aIU(s c:Nat):32∉nl (aZ s c):=by
 by_cases h:c=1
 .rw[aMa h];exact wH (mM _) (by decide)
 .rw[aM9 h];intro z;obtain z|z:=E4.mp z
  .exact wH (mM _) (by decide) z
  .obtain z|z:=A8.mp z
   .cases z
   .exact wH (mM _) (by decide) z
theorem aM8(h:aZ B n=aZ C n):B=C:=by
 have h:=congrArg nl h;by_cases a:n=1
 .rw[aMa a,aMa a] at h;exact Nat.succ.inj (aAO h)
 .rw[aM9 a,aM9 a] at h;have:=aAO (aEN (wH (mM _)<|by decide) (wH (mM _)<|by decide) h).1;split at this;exact(l02<|.i bH bH) this;exact(l02<|.i (.Q aR bJ) bH) this
theorem uJ(s c:Nat)(s' c':Int):nl (cE s c s' c')=[64,64,32,45]++(nl (aZ s c)++32::(43::(nl (aZ s' c')++[32,64,64]))):=by
 unfold cE;rw[jL,jL,jL,jL,show nl (S9 "@@ -")=[64,64,32,45] by decide,show nl (S9 " +")=[32,43] by decide,show nl (S9 " @@")=[32,64,64] by decide];simp only[B5,L8,I1]
theorem aE3(h:cE B n i lo=cE C n j hi):B=C:=by
 have h:=congrArg nl h;rw[uJ,uJ] at h;exact aM8<|uI (aEN (aIU _ _) (aIU _ _)<|List.append_cancel_left h).1
theorem hV(l:List α)(k:Nat):bA l Nb (Na (k:Int)) Nb=l.take k:=by
 have:=fB l 0 k;rw[List.drop_zero,Nat.sub_zero] at this;rw[← this];unfold bA;have:L7 Nb (Na (k:Int)) Nb l.length=L7 (Na ((0:Nat):Int)) (Na (k:Int)) Nb l.length:=by
  simp[L7];exact l01<|.q aE<|.x aE<|.n aE aF
 rw[this]
theorem lK(l:List α)(k:Nat):bA l (Na (k:Int)) Nb Nb=l.drop k:=by
 have:=fB l k l.length;rw[N5 (by rw[F5];exact C4 _)] at this;rw[← this];unfold bA;have:L7 (Na (k:Int)) Nb Nb l.length=L7 (Na (k:Int)) (Na (l.length:Int)) Nb l.length:=by
  simp[L7];rw[if_neg<|Z7.mpr<|E2 _,Int.min_self,Int.max_eq_right<|E2 _]
 rw[this]
theorem aCJ(a b:Int):(sliceRange a b 1).length=(b-a).toNat:=by
 unfold sliceRange;simp only[show(1:Int)>0 by decide,if_true,A1,E8,Int.ediv_one];split;exact l20<|.Q (.t<|.m (.p bG aC) aC) cV;exact(l20<|.i (.n gD)<|.Q (.t aE) cV)<|by assumption
theorem wI(x:Str)(l u:Option Int)(h:(T4 l u 1 x.length).length=x.length->nl x=bA (nl x) l u Nb):nl (U7 x l u)=bA (nl x) l u none:=by
 unfold U7;by_cases c:(T4 l u 1 x.length).length=x.length
 .rw[if_pos (by rw[c];simp)];exact h c
 .rw[if_neg<|by simp[c]];have e:T4 l u 1 x.length=sliceRange (L7 l u Nb (nl x).length).1 (L7 l u Nb (nl x).length).2.1 (L7 l u Nb (nl x).length).2.2:=by
   rw[show(nl x).length=x.length from Array.length_toList];rfl
  exact congrArg (λf=>List.filterMap f _)<|funext λi=>(Array.getElem?_toList).symm
theorem aIN(x:Str):nl (U7 x Nb<|Na 1)=(nl x).take 1:=by
 have e:=hV (nl x) 1;rw[wI x Nb<|Na 1,show(Na (1:Int))=Na ((1:Nat):Int) from rfl,e];intro h;rw[show(Na (1:Int))=Na ((1:Nat):Int) from rfl,e];have z:(nl x).length=x.length:=Array.length_toList;rw[show T4 Nb (Na 1) 1 x.length=sliceRange 0 (max 0<|min 1 (x.length:Int)) 1 from rfl,aCJ] at h;rw[N5<|by exact(l02<|.i (.Q (.t<|.m (.x aE<|.n aC aN) aE) .b)<|.i bH<|.L .a aC) h z]
theorem aOT(x:Str):nl (U7 x (Na 1) Nb)=(nl x).drop 1:=by
 have e:=lK (nl x) 1;rw[wI x (Na 1) Nb,show(Na (1:Int))=Na ((1:Nat):Int) from rfl,e];intro h;have z:(nl x).length=x.length:=Array.length_toList;rw[show T4 (Na 1) Nb 1 x.length=sliceRange (max 0<|min 1 (x.length:Int)) x.length 1 from rfl,aCJ] at h;have:=List.eq_nil_of_length_eq_zero<|(l02<|.i (.Q (.t<|.m aN<|.x aE<|.n aC aN) .b)<|.i bH<|.Q .a aE) h z;rw[this];rfl
theorem zB{r:Str×Str}(h:iR r):∃c,nl r.1=[c]/\c≠64:=by
 obtain h|h|h:=h <;> rw[h]
 .exact⟨32,by decide,by decide⟩
 .exact⟨45,by decide,by decide⟩
 .exact⟨43,by decide,by decide⟩
theorem aD0{r:Str×Str}(h:iR r):U7 (r.1++r.2) Nb (Na 1)=r.1:=by
 obtain⟨c,e,_⟩:=zB h;refine uI ?_;rw[aIN,jL,e];rfl
theorem aLf{r:Str×Str}(h:iR r):U7 (r.1++r.2) (Na 1) Nb=r.2:=by
 obtain⟨c,e,_⟩:=zB h;refine uI ?_;rw[aOT,jL,e];rfl
noncomputable abbrev aI7:Str:=S9 "@"
theorem aLh{r:Str×Str}(h:iR r):(U7 (r.1++r.2) Nb (Na 1)==aI7)=false:=by
 obtain⟨c,e,a⟩:=zB h;rw[aD0 h,beq_eq_false_iff_ne];intro z;rw[z] at e;have:nl aI7=[64]:=by decide
 exact a (List.cons.inj e).1.symm
theorem aHf(s c:Nat)(s' c':Int):(U7 (cE s c s' c') Nb (Na 1)==aI7)=true:=by
 rw[beq_iff_eq];refine uI ?_;rw[aIN,uJ];rfl
def pW(x:Str):Bool:=U7 x Nb (Na 1)==aI7
def hU(q:Str->Bool):List Str->Nat->List Nat
 | [],_=>[]
 | x::l,p=>if q x=Nc then p::hU q l (p+1) else hU q l (p+1)
theorem aDc(q:Str->Bool):∀(l m:List Str)(p:Nat),hU q (l++m) p=hU q l p++hU q m (p+l.length):=by
 intro l;induction l with
 | nil=>
  intro m p;exact rfl
 | cons x l a=>
  intro m p;show(if q x=Nc then p::hU q (l++m) (p+1) else hU q (l++m) (p+1))=_;rw[a m<|p+1,D1,show p+1+l.length=p+(l.length+1) by exact l02<|.Q iW gM];show _=(if q x=Nc then p::hU q l (p+1) else hU q l (p+1))++_;split <;> rfl
theorem aDb(q:Str->Bool)(d:Str):∀(l:List Str)(p:Nat),((B8 l.length).filter λk=>q<|l.getD k d).map (p+·)=hU q l p:=by
 intro l;induction l with
 | nil=>
  intro p;exact rfl
 | cons x l a=>
  intro p;rw[D1,List.range_succ_eq_map,N6];have a:=a<|p+1;have e:(((B8 l.length).map Nat.succ).filter λk=>q<|(x::l).getD k d).map (p+·)=hU q l (p+1):=by
   rw[← a,List.filter_map,F7];exact List.map_congr_left λk O=>by show p+(k+1)=p+1+k;exact aJv
  show _=if q x=Nc then p::hU q l (p+1) else hU q l (p+1)
  rw[← e];show List.map _ (if q x=Nc then _ else _)=_;split <;> rfl
theorem aGv{q:Str->Bool}:∀{l:List Str}{p:Nat},(∀x∈l,q x=Nd)->hU q l p=[]:=by
 intro l;induction l with
 | nil=>
  intro _ _;exact rfl
 | cons x l b=>
  intro p h;show(if q x=Nc then _ else _)=_;rw[if_neg (by rw[h x<|M4 ..];decide)];exact b λy a=>h y<|V0 _ a
noncomputable def rwT(l:aH):List Str:=l.map λr=>r.1++r.2
def gH:List Hk->Nat->List Nat
 | [],_=>[]
 | h::hs,p=>p::gH hs (p+1+h.2.2.length)
def HM(hs:List Hk):Prop:=∀h∈hs,0<=h.1/\∀r∈h.2.2,iR r
theorem aMv{h:Hk}(h0:0<=h.1):pW (cE h.1 (bI h.2.2) h.2.1<|bT h.2.2)=true:=by
 obtain⟨n,e⟩:=K2 h0;rw[e];exact aHf n _ _ _
theorem aHT:∀{hs:List Hk}{p:Nat},HM hs->hU pW (hs.flatMap hkT) p=gH hs p:=by
 intro hs;induction hs with
 | nil=>
  intro p _;exact rfl
 | cons h hs g=>
  intro p d;have a:=d h<|M4 ..;rw[E1,aDc,g λx b=>d x<|V0 _ b];have n:hU pW (h.2.2.map λr=>r.1++r.2) (p+1)=[]:=aGv λx b=>by
   obtain⟨r,e,rfl⟩:=C1.mp b;exact aLh<|a.2 r e
  show(if pW _=Nc then p::hU pW (h.2.2.map λr=>r.1++r.2) (p+1) else _)++gH hs (p+(h.2.2.map _).length.succ)=_;rw[if_pos<|aMv a.1,n,A1];show p::gH hs _=p::gH hs _;rw[show p+h.2.2.length.succ=p+1+h.2.2.length by exact aJv]
noncomputable def oR:List Str:=[S9 "--- ",S9 "+++ "]
def bQ(hs:List Hk):List Str:=if hs.isEmpty then [] else oR++hs.flatMap hkT
def prF:List Hk->Nat->List (Nat×Nat)
 | [],_=>[]
 | h::hs,p=>(p,p+1+h.2.2.length)::prF hs (p+1+h.2.2.length)
theorem gQ(h:Hk):(hkT h).length=1+h.2.2.length:=by
 show(h.2.2.map _).length+1=_;rw[A1,Nat.add_comm]
theorem aFK(f:Nat->β)(z:β):∀{hs:List Hk}{q:Nat},(hs≠[]->z=f (q+(hs.flatMap hkT).length))->((gH hs q).map f).zip (((gH hs q).map f).drop 1++[z])=(prF hs q).map λx=>(f x.1,f x.2):=by
 intro hs;induction hs with
 | nil=>intro _ _;rfl
 | cons h hs d=>
  intro q e;cases hs with
  | nil=>
   have:=e (by simp);rw[E1,A5,gQ] at this;show [(f q,z)]=[(f q,f<|q+1+h.2.2.length)];rw[this,show q+(1+h.2.2.length+(([]:List Hk).flatMap hkT).length)=q+1+h.2.2.length by show q+(1+_+0)=_;exact l02<|.Q (.p .a<|.p (.p aC .b) aE) iW]
  | cons g hs=>
   have d:=d (q:=q+1+h.2.2.length) λO=>by
    rw[e<|by simp,E1 (x:=h),A5,gQ]
    congr 1;exact l03<|.Q (.p .a<|.p (.p aC .b) .c)<|.p iW .c
   exact congrArg _ d
theorem aOD:∀{hs:List Hk}{pre:List Str}{i:Nat}{x:Nat×Nat},(prF hs pre.length)[i]?=Na x->∃h,xV (hs[i]?=Na h) (x.2=x.1+1+h.2.2.length) ((pre++hs.flatMap hkT)[x.1]?=Na (cE h.1 (bI h.2.2) h.2.1<|bT h.2.2)) (((pre++hs.flatMap hkT).drop<|x.1+1).take h.2.2.length=rwT h.2.2)<|pre.length<=x.1/\(x.1=pre.length->i=0):=by
 intro hs;induction hs with
 | nil=>
  intro pre i x e;cases e
 | cons h hs u=>
  intro pre w;cases w with
  | zero=>
  intro x e;cases e
  refine⟨h,rfl,rfl,?_,?_,C4 _,λO=>rfl⟩
  .rw[M6<|C4 _,N8];rfl
  .show((pre++(hkT h++hs.flatMap hkT)).drop<|pre.length+1).take _=_;rw[← AA5,List.drop_left];exact List.take_left'<|A1 ..
  | succ i=>
  intro x e;have e:(prF hs (pre++hkT h).length)[i]?=Na x:=by
   rw[A5,gQ,← Y8];exact e
  obtain⟨r,a1,j,n,o,g,y⟩:=u e;rw[A5,gQ] at g;have q:pre++(h::hs).flatMap hkT=pre++hkT h++hs.flatMap hkT:=by rw[E1,B5]
  rw[q];exact⟨r,a1,j,n,o,(l03<|.i (.L (.p .a<|.p aC .c) .b) fF) g,λz=>(l04<|.i (.L (.p .b<|.p aC .c) .d)<|.i (.Q .d .b)<|.Q aR aE) g z⟩
def lsA(kn:List Str)(t:List cA×Nat×Int)(h:Hk):List cA×Nat×Int:=(t.1++(hid ((kn.drop t.2.1).take<|h.1.toNat-t.2.1)++shn h.2.2),h.1.toNat+bI h.2.2,t.2.2+((bT h.2.2:Int)-bI h.2.2))
theorem aMs:∀{hs:List Hk}{t:List cA×Nat×Int}{b:Bool}{i:Nat}{h:Hk},HOk kn hs t.2.1 t.2.2 b->0<=(t.2.1:Int)+t.2.2->hs[i]?=Na h->aNW kn ((hs.take i).foldl (lsA kn) t).2.1 ((hs.take i).foldl (lsA kn) t).2.2 (b||decide (0<i)) h/\0<=(((hs.take i).foldl (lsA kn) t).2.1:Int)+((hs.take i).foldl (lsA kn) t).2.2
 :=by
 intro hs;induction hs with
 | nil=>intro _ _ _ _ _ _ e;cases e
 | cons d hs g=>
  intro t b i h a z e;rw[aRh] at a;cases i with
  | zero=>
  cases e
  exact⟨by rw[show(b||decide (0<0))=b by simp];exact a.1,z⟩
  | succ i=>
  have le:=a.1.1.le;have:=g (t:=lsA kn t d) (b:=Nc) (i:=i) (h:=h) a.2 (by show 0<=((d.1.toNat+bI d.2.2:Nat):Int)+(t.2.2+((bT d.2.2:Int)-bI d.2.2));exact(l23<|.i (.l aE<|.p fU .b)<|.i (.L .c bK)<|.l aE<|.p (.j<|.p bK .a)<|.p .b<|.m aN aF) z le) e;rw[show(b||decide (0<i+1))=(Nc||decide (0<i)) by simp];exact this
theorem aGt(kn:List Str):∀(hs:List Hk)(t:List cA×Nat×Int),t.1++rb kn hs t.2.1=(hs.foldl (lsA kn) t).1++hid (kn.drop (hs.foldl (lsA kn) t).2.1):=by
 intro hs;induction hs with
 | nil=>
  intro t;exact rfl
 | cons h hs a=>
  intro t;rw[M7,← a<|lsA kn t h];show _=t.1++(hid _++shn _)++rb kn hs _;simp only[B5];rfl
noncomputable abbrev lwM:A3:=.str (S9 "law_dm0046_08") 648
abbrev aSI:I8:=fd (dC 11) (S9 "_law_range") .none Nb lwM (.ref 281) Nb
abbrev aSJ:I8:=fd (dC 12) (S9 "_law_head") .none Nb lwM (.ref 288) Nb
theorem wP(h0:0<=start)(h1:start<1000000)(h2:0<=size)(h3:size<1000000):OpV w 1 (cal<|.ref 282) [.int start,.int size] (.str<|aZ start size):=by
 refine lI (f:=aSI) [S9 "start",S9 "count"] [] ([(S9 "start",.d<|.int start),(S9 "count",.d<|.int size)],[]) (by kernel_rfl) rfl (lW (n:=2) λO O=>by kernel_rfl) (λL=>by kernel_rfl) (by kernel_rfl) (by kernel_rfl) λX pl=>?_;by_cases g:size=1
 .rw[show aZ start size=S9 (H3<|start+1) from if_pos g];exact sH pl [.t Nc] (.str<|S9<|H3<|start+1) [(size==1)=Nc,(start+1).natAbs.log2<1920] (by kernel_rfl) ⟨beq_iff_eq.mpr g,iL<|by exact aQE h0 h1,trivial⟩
 .have e:aZ start size=S9 (H3 (start+if 1<size then 1 else size))++S9 ","++S9 (H3 size):=by
   unfold aZ;rw[if_neg g];by_cases h:size=0
   .rw[if_pos h,if_neg<|by exact(l10<|.i gE<|.n<|.s aC .a) h,h,K1]
   .rw[if_neg h,if_pos<|by exact(l10<|.i bE<|.i (.n<|.q .a aC)<|.i (.n gE)<|.s aC .a) h2 g h]
  rw[e];have j:(start+if 1<size then 1 else size).natAbs<4294967296:=by
   split
   .exact(l10<|.i bE<|.i (.s .a cL)<|.S (.z aR) pQ) h0 h1
   .exact(l20<|.i bE<|.i (.s .a cL)<|.i bU<|.i (.n<|.s aC .b)<|.S (.z bB) pQ) h0 h1 h2<|by assumption
  generalize (start+if 1<size then 1 else size)=sz at j ⊢;have a1:=mC j;have u:=mC (i:=size) (by exact aIg h2 h3);have o:(S9 ",").length=1:=by decide
  have p:(S9<|H3 sz).length+(S9 ",").length<=B9:=by rw[C5];exact(l02<|.i (.L .a<|.k 1921)<|.i (.Q .b aC)<|.L bB cH) a1 o
  have r:(S9 (H3 sz)++S9 ",").length+(S9<|H3 size).length<=B9:=by rw[C5,cU];exact(l03<|.i (.L .a<|.k 1921)<|.i (.L .c<|.k 1921)<|.i (.Q .b aC)<|.L jP cH) a1 u o
  exact sH pl [.t Nd] (.str<|S9 (H3 sz)++S9 ","++S9 (H3 size)) [(size==1)=Nd,sz.natAbs.log2<1920,type_of% p,size.natAbs.log2<1920,type_of% r] (by kernel_rfl) ⟨beq_eq_false_iff_ne.mpr g,iL j,p,iL<|by exact aIg h2 h3,r,trivial⟩
theorem aMw(h0:0<=j)(h1:j<1000000)(h2:0<=c)(h3:c<1000000)(h4:0<=lo)(h5:lo<1000000)(h6:0<=hi)(h7:hi<1000000):OpV w 2 (cal<|.ref 289) [.int j,.int c,.int lo,.int hi] (.str<|cE j c lo hi):=by
 refine lI (f:=aSJ) [S9 "start",S9 "count",S9 "new_start",S9 "new_count"] [] ([(S9 "start",.d<|.int j),(S9 "count",.d<|.int c),(S9 "new_start",.d<|.int lo),(S9 "new_count",.d<|.int hi)],[]) (by kernel_rfl) rfl (lW (n:=4) λO O O O=>by kernel_rfl) (λL=>by kernel_rfl) (by kernel_rfl) (by kernel_rfl) λX pl=>?_;have a1:=iK h0 h1 h2 h3;have o:=iK h4 h5 h6 h7;have g:(S9 "@@ -").length=4:=by decide
 have h:(S9 " +").length=2:=by decide
 have r:(S9 " @@").length=3:=by decide
 have q:=aBT;exact sH pl [.v<|.str<|aZ j c,.v<|.str<|aZ lo hi,.v<|.str<|aZ j c,.v<|.str<|aZ lo hi] (.str<|cE j c lo hi) [fQ w 1 (S9 "_law_range") [.int j,.int c] (.str<|aZ j c),fQ w 1 (S9 "_law_range") [.int lo,.int hi] (.str<|aZ lo hi),aO (.lst [.str<|aZ j c,.str<|aZ lo hi]) 0<|.str<|aZ j c,(S9 "@@ -").length+(aZ j c).length<=B9,(S9 "@@ -"++aZ j c).length+(S9 " +").length<=B9,aO (.lst [.str<|aZ j c,.str<|aZ lo hi]) 1<|.str<|aZ lo hi,(S9 "@@ -"++aZ j c++S9 " +").length+(aZ lo hi).length<=B9,(S9 "@@ -"++aZ j c++S9 " +"++aZ lo hi).length+(S9 " @@").length<=B9] (by kernel_rfl)
  ⟨⟨_,1,by decide,q,by kernel_rfl,wP h0 h1 h2 h3⟩,⟨_,1,by decide,q,by kernel_rfl,wP h4 h5 h6 h7⟩,.lst (by decide) (by decide) rfl rfl,by rw[C5];exact(l02<|.i (.L .b iU)<|.i (.Q .a dJ)<|.L bB cH) a1 g,by rw[C5,cU];exact(l03<|.i (.L .b iU)<|.i (.Q .a dJ)<|.i (.Q .c bX)<|.L jP cH) a1 g h,.lst (by decide) (by decide) rfl rfl,by rw[C5,cU,cU];exact(l04<|.i (.L .b iU)<|.i (.L .d iU)<|.i (.Q .a dJ)<|.i (.Q .c bX)<|.L (.p jP .d) cH) a1 o g h,by rw[C5,cU,cU,cU];exact(l05<|.i (.L .b iU)<|.i (.L .d iU)<|.i (.Q .a dJ)<|.i (.Q .c bX)<|.i (.Q .e dB)<|.L (.p (.p jP .d) .e) cH) a1 o g h r,trivial⟩
section
variable{c:C3}
theorem aB8{lo hi:Option Expr}{l u:Option Int}(hs:∀o i,∃dz,subscripted (.Slice lo hi Nb pp) Nd o i=operate dz (getItem o i))(e1:EvE c S av (.d<|.str x) S1)(e2:sN c S1 lo l S2)(e3:sN c S2 hi u S3)(hz:x.length<=B9):EvE c S (.Subscript av (.Slice lo hi Nb pp) pos) (.d<|.str<|U7 x l u) S3:=
 ⟨λH p=>WP.gen λQ M=>aEE (e1.go p λT u1 l1 Y=>⟨wpAny_Slice ((e2.go T λU B N Z=>(e3.go U λV C O r=>(nH.go V λa v4 R r4=>by
  obtain⟨t,rfl⟩:=Rp.inv Y;obtain⟨dz,hs⟩:=hs (.str x t)<|.ref a.h.objs.size;have b:∀(e q:Option<|Int×Tok),e.map (·.1)=l->q.map (·.1)=u->partValue e=B->partValue q=C->WP c.w c.A (subscriptTail av (.Slice lo hi Nb pp) (.str x t)<|.ref a.h.objs.size) Q FF ⟨a.h.push {cls:=.type "slice",data:=.fields #[B,C,v4]},a.g,S3.d,a.k,c.os⟩:=λe q a1 E I J=>by
   subst a1 E I J;cases r4
   refine mE (typeIs_str _ _ _) PySem.F.slot_str_getitem.lookup hs ⟨wpAny_getItem_str_slice (st:=Nb) ⟨_,C7 _ rfl,rfl,rfl⟩ rfl<|post_val_or_str ⟨A9 (Txt.slice_le x _ _) hz,λt' k=>?_⟩⟩;exact M _ _<|((a.grow (aJ _ _) []).tk k).end (l1.tr<|N.tr<|O.tr<|R.tr<|a.growL (aJ _ _) [])<|.dt<|.str _ _
  cases Z with
  | none=>cases r with
   | none=>exact(b Nb Nb rfl rfl rfl rfl)
   | int j n=>exact(b Nb (Na (j,n)) rfl rfl rfl rfl)
  | int i y=>cases r with
   | none=>exact(b (Na (i,y)) Nb rfl rfl rfl rfl)
   | int j n=>exact(b (Na (i,y)) (Na (j,n)) rfl rfl rfl rfl)).run).run).run)⟩)⟩
end
def aRo(TI TO:E3):OD:=λo=>o={cls:=.type "zip",dict:=Nb,data:=.fields #[.none,.bool Nd,.bool Nd,.ref TI,.ref TO],slots:=#[]}
def aRS:OD:=λo=>∃a b,o={cls:=.type "tuple",data:=.seq #[a,b]}
noncomputable def zX(z TI TO i1 i2 l1 l2:E3)(i:Nat):TT:=[(z,aRo TI TO),(TO,aRS),(i1,gX l1 i),(i2,gX l2 i)]
noncomputable abbrev zpT(p:Dt×Dt):Dt:=.tup [p.1,p.2]
theorem aCn(a:∀p∈zX I TI TO M dx p1 a0 B,At h p.1 p.2):lY (IsZip h I TI TO .none) (∃a b,IsPair h TO a b) (h.IsListIter M p1 B)<|h.IsListIter dx a0 B:=by
 obtain⟨_,d,rfl⟩:=a _<|.head _;obtain⟨_,e,x,y,rfl⟩:=a _<|.tail _<|.head _;exact⟨d,⟨x,y,e⟩,a _<|.tail _<|.tail _<|.head _,a _<|.tail _<|.tail _<|.tail _<|.head _⟩
theorem aIw{y:A3}(a:IsZip h I TI TO .none)(b:IsPair h TO ao y)(c:h.IsListIter M p1 B)(d:h.IsListIter dx a0 B):∀p∈zX I TI TO M dx p1 a0 B,At h p.1 p.2:=λp hp=>by
 obtain rfl|hp:=A8.mp hp
 .exact⟨_,a,rfl⟩
 obtain rfl|hp:=A8.mp hp
 .exact⟨_,b,ao,y,rfl⟩
 obtain rfl|hp:=A8.mp hp
 .exact c
 cases C6.mp hp
 exact d
theorem aH8(D:ZipApart I TI TO M p1 a0 gv)(a1:AtZ Z a0<|aY us)(a2:AtZ Z gv<|aY vs)(r1:Rps Z xs us)(r2:Rps Z ys vs)(aT:Z TI=Na {cls:=.type "tuple",data:=.seq #[.ref M,.ref p1]}):ItX w dr os (.Tuple es nt pt) Z ((xs.zip ys).map zpT) I<|zX I TI TO M p1 a0 gv:=by
 refine⟨λO=>rfl,λR h S p i x U sub at_ e=>?_,λR h S p U sub at_=>?_,λR h S p i at_=>⟨wpAny_pyIter_zip (aCn at_).1 ⟨rfl,rfl⟩⟩⟩
 .obtain⟨j,⟨a,b,B⟩,y,A⟩:=aCn at_;rw[B3] at e;obtain⟨⟨dx,dy⟩,e0,rfl⟩:=B0.mp e;obtain⟨ex,ey⟩:=List.getElem?_zip_eq_some.mp e0;obtain⟨u,eu,ru⟩:=r1.at ex;obtain⟨v,ev,rv⟩:=r2.at ey;have nT:∀{c o},h.get? c=Na o->h.objs.size≠c:=λe=>Nat.ne_of_gt<|L6 e;refine⟨wpAny_pyNext_zip_item D j (sub _ _ aT) B y A (a1.up sub).isList (a2.up sub).isList (by simpa using eu) (by simpa using ev) λT z2 V j1 j2 Y sz E=>?_⟩;refine⟨_,rfl,⟨wpAny_letOwnedTupleGo_zip z2 λN z3 sb=>?_⟩⟩;refine⟨N,p,rfl,aIw z3 (sb.extBut _ _ D.TOz V) (j1.extBut sb.extBut D.i1z)<|j2.extBut sb.extBut D.i2z,λc o J r=>?_,λZc le sc=>?_⟩
  .have g:∀q∈[I,TO,M,p1],c≠q:=λq C e=>J<|e▸C;exact sb.extBut _ _ (g _<|.head _) (E c o (g _<|.head _) (g _<|.tail _<|.head _) (g _<|.tail _<|.tail _<|.head _) (g _<|.tail _<|.tail _<|.tail _<|.head _) r)
  .have xd:At N h.objs.size<|gI [u,v]:=⟨_,sb.extBut _ _ (nT j) Y,0,rfl⟩
   exact .tup (by show AtZ (bP Zc h N []) _ _;rw[eK];exact cF (aG _) xd) (.cons (ru.up<|le.trans<|aW sc)<|.cons (rv.up<|le.trans<|aW sc) .nil)
 .obtain⟨j,⟨a,b,B⟩,y,A⟩:=aCn at_;have n1:=r1.len;have n2:=r2.len;refine⟨wpAny_pyNext_zip_end U.hh D j (sub _ _ aT) B y A (a1.up sub).isList (a2.up sub).isList ?_ λT E=>⟨T,p,rfl,rfl,λc o J r=>?_⟩⟩
  .rw[A1,List.length_zip];simp only[Array.getElem?_eq_none_iff,U9];exact(l04<|.i bH<|.i (.Q .d .c)<|.w (.L .a<|.n .b .c)<|.L .d<|.n .b .c) n1 n2
  .have g:∀q∈[I,TO,M,p1],c≠q:=λq C e=>J<|e▸C;exact E c o (g _<|.head _) (g _<|.tail _<|.head _) (g _<|.tail _<|.tail _<|.head _) (g _<|.tail _<|.tail _<|.tail _<|.head _)  r
section
variable{c:C3}
theorem aCm(pl:Fn3 c)(hn:c.env.kindOf (S9 "zip")=Na .globalImplicit)(he:C0 [e1,e2] c.env=(Nd,eval e1 c.env)::C0 [e2] c.env)(hp:(I9 pos<|C0 [e2] c.env).any (·.1)=Nd)(y:EvA c S pos [e1,e2] as S1)(ed:drs S1 as=Na ([.lst xs,.lst ys],Nd))(p:Pt c T S):WP c.w c.A (eval (.Call (.Name (S9 "zip") pf) [e1,e2] [] pos) c.env) (ItP c T S1 (.Tuple es nt pt) ((xs.zip ys).map zpT) p.φ) FF p.s:=
 gC (g_b p.G pl.k hn pl.g pl.b aNt (tM he hp (y.go p λd vs l1 Y=>by
  obtain⟨u,v,rfl,ru,rv⟩:=Rps.two<|(lU ed d.rel Y).2 rfl;obtain⟨a1,us,rfl,i,rs1⟩:=Rp.inv ru;obtain⟨q,vs,rfl,r,I⟩:=Rp.inv rv;have xf:a1<d.h.objs.size:=by obtain⟨o,e,_⟩:=i.up d.rel.sub;exact L6 e
  have V:q<d.h.objs.size:=by obtain⟨o,e,_⟩:=r.up d.rel.sub;exact L6 e
  have D:=PySem.W.ktu_apart _ _ _ xf V;refine⟨call_zip_2 (i.up d.rel.sub).isList (r.up d.rel.sub).isList λx O N M Q R sz U=>?_⟩;generalize J:d.h.objs.size=n at *;have nn:∀k,d.h.get? (n+k)=none:=λk=>AB7 (by rw[J];exact K5 _ _);have j:HP.le d.φ.Z<|bP d.φ.Z d.h x [n+4,n+3,n,n+1]:=aW d.rel.sub;have B:∀p∈zX (n+4) (n+2) (n+3) n (n+1) a1 q 0,p.1∈[n+4,n+3,n,n+1]:=λp hp=>(C9 hp:p.1∈[n+4,n+3,n,n+1])
  have C:=(d.rel.grow U [n+4,n+3,n,n+1]).hides (by show [n+4,n+3,n,n+1].Nodup;simp) (λp hp=>by
   have f:=d.rel.fresh (a:=p.1) (by
    have:=B p hp;simp only[A8,AB4,or_false] at this;obtain e|e|e|e:=this <;> rw[e]
    .exact nn 4
    .exact nn 3
    .exact nn 0
    .exact nn 1)
   exact⟨(jM<|B p hp).trans f.1,f.2,f.3⟩)<|aIw O M Q R
  have E:bP d.φ.Z d.h x [n+4,n+3,n,n+1] (n+2)=Na {cls:=.type "tuple",data:=.seq #[.ref n,.ref<|n+1]}:=by
   rw[jN<|by simp];exact wK (nn 2) N
  exact⟨n+4,zX (n+4) (n+2) (n+3) n (n+1) a1 q,_,(⟨_,x,d.g,d.k,d.rm,d.gz.le j,d.gg,C⟩:Pt c (zX (n+4) (n+2) (n+3) n (n+1) a1 q 0++T) S1),l1.tr<|.z j,.refl _,aH8 D (i.le j) (r.le j) (rs1.up j) (I.up j) E,rfl,rfl⟩)))
theorem aHa(pl:Fn3 c)(hn:c.env.kindOf (S9 "zip")=Na .globalImplicit)(he:C0 [e1,e2] c.env=(Nd,eval e1 c.env)::C0 [e2] c.env)(hp:(I9 pos<|C0 [e2] c.env).any (·.1)=Nd)(y:EvA c S pos [e1,e2] as S1)(ed:drs S1 as=Na ([.lst xs,.lst ys],Nd)):ItE c S (.Call (.Name (S9 "zip") pf) [e1,e2] [] pos) (.Tuple es nt pt) ((xs.zip ys).map zpT) S1:=
 ⟨λH p=>(aCm pl hn he hp y ed p).mono λv s y=>by
  obtain⟨I,X,Z,a,e,i,b,rfl,rfl⟩:=y;exact(b.self c.A a.h a.g a.k 0 λx d=>a.rel.hid x<|E0 _ d).mono λj n z=>by
   obtain⟨rfl,rfl⟩:=z;exact⟨I,X,Z,a,e,i,b,rfl,rfl⟩⟩
end
theorem yB{pr:Program}{α:Type}{c:Prop}{dc:Decidable c}{a b:Sem α}{Q:α->A6->Prop}(h:¬c)(x:M8 (model pr w) A b Q E s):M8 (model pr w) A (@ite _ c dc a b) Q E s:=(if_neg h).symm▸x
theorem aCp{pr:Program}{α:Type}{c:Prop}{dc:Decidable c}{a b:Sem α}{Q:α->A6->Prop}(h:c)(x:M8 (model pr w) A a Q E s):M8 (model pr w) A (@ite _ c dc a b) Q E s:=(if_pos h).symm▸x
theorem aH5(x:At h I<|aY us)(y:At h M<|aY vs)(ne:I≠M)(hs:h.IsSliceOf dx ao dflt .none)(pl:IsPart ao<|Na lo)(pu:IsPart dflt<|Na hi)(h0:0<=lo)(h1:lo<=us.length)(h2:lo<=hi)(hz:us.length+vs.length<=B9)
  (q:∀h',At h' I (aY<|us.take lo.toNat++vs++us.drop (min hi us.length).toNat)->aK [I] h h'->Post () ⟨h',g,d,k,os⟩):WP w A (setItem (.ref I) (.ref dx)<|.ref M) Post E ⟨h,g,d,k,os⟩:=by
 obtain⟨o,B,n,rfl⟩:=id x;obtain⟨o2,C,n2,rfl⟩:=id y;obtain⟨qg,e,R,j⟩:=id hs;have u:=x.isList;have Y:=y.isList;have O:(⟨h,g,d,k,os⟩:A6).TypeIs (.ref dx) "slice":=⟨qg,e,R⟩
 refine⟨?_⟩;unfold setItem
 try with_reducible refine G9 ?_
 first | refine A0 (A7 ?_) | skip
 refine A0 (wpAny_sequenceKey u.typeIs (by decide) ?_);refine A0<|K3 u.typeIs Y2
  (L4 Y2 u.typeIs entry_list_setitem ?_<|args_list_setitem _ _ _)
 show M8 _ _ (W0 (.ref dx) >>= _) _ _ _;refine A0 ?_;unfold W0;refine A0<|wpAny_specialOf O slice_no_index ?_;refine aCp rfl ?_;refine A7 ?_;refine A0<|wpAny_typeOf O ?_;refine yB (by decide) ?_;refine A0<|A0<|Q5 e j rfl<|A0<|wpAny_listPart .none ?_;refine A0<|Q5 e j rfl<|A0<|wpAny_listPart pl ?_;refine A0<|Q5 e j rfl<|A0<|wpAny_listPart pu<|A7 ?_;have Z:¬(K7.List.listSameRef (.ref I) (.ref M)=Nc):=λz=>ne<|F6 z;refine yB Z ?_;refine A0 ?_;refine A0<|wpAny_typeOf Y.typeIs ?_;refine A0<|O4 C rfl<|A7 ?_;refine A0<|A0<|O4 B rfl<|A7 ?_;refine A0<|P0 (sliceIndices_raw (Na lo) (Na hi) Nb us.toArray.size nofun) ?_;have V:L7 (Na lo) (Na hi) Nb us.toArray.size=(lo,min hi us.length,1):=by
  unfold L7;have S:¬lo<0:=(l10<|.i bE<|.n<|.s .a aE) h0;have N:¬hi<0:=(l20<|.i bU<|.i eO<|.n<|.s .a aE) h0 h2;simp only[Option.getD_none,U9,S,N,if_false,show(1:Int)>0 by decide,if_true];rw[show max 0 (min lo (us.length:Int))=lo by exact(l11<|.i bE<|.i gF<|.q (.x aE<|.n .a aF) .a) h0 h1,show max 0 (min hi (us.length:Int))=min hi us.length by exact(l11<|.i (.n<|.s .a aE)<|.q (.x aE<|.n .a aF)<|.n .a aF) N]
 rw[V];refine aCp rfl ?_;refine A0<|wpAny_rule ?_;have tl:¬(K7.List.listTooLong (us.toArray.size+vs.toArray.size)=Nc):=by
  unfold K7.List.listTooLong;simp only[decide_eq_true_eq];exact Nat.not_lt.mpr hz
 refine yB tl ?_;have U:(max lo<|min hi us.length).toNat=(min hi us.length).toNat:=by rw[show max lo (min hi (us.length:Int))=min hi us.length by exact(l21<|.i gF<|.i bF<|.q (.x .a<|.n .b aF)<|.n .b aF) h1 h2]
 refine A0 (wpAny_updateSeq B rfl ?_ (by simp only[U9];exact A9 (K5 _ _) hz) (by simp only[Array.size_append,Array.size_extract];exact(l23<|.i (.L bB .c)<|.L (.p (.p (.m (.n bK .a) aE) .b)<|.m (.n .a .a)<|.t<|.x .a<|.n .b aF) cD) hz));refine A0<|wpAny_letGo ?_;have T:((us.toArray.extract 0 lo.toNat++vs.toArray++us.toArray.extract (max lo<|min hi us.length).toNat):Array A3)=(us.take lo.toNat++vs++us.drop (min hi us.length).toNat).toArray:=by
  rw[U];apply Array.ext';simp;rw[N5 (by rw[F5];exact C4 _)]
 have r:∃J,(K6 (λQ=>Q.extract 0 lo.toNat++vs.toArray++Q.extract (max lo<|min hi us.length).toNat) {cls:=.type "list",data:=.seq us.toArray n}:Obj)={cls:=.type "list",data:=.seq (us.take lo.toNat++vs++us.drop (min hi us.length).toNat).toArray J}:=by
  rw[← T];exact⟨_,rfl⟩
 obtain⟨J,r⟩:=r;exact A7 ⟨.none,rfl,A7<|q _ ⟨_,J3 _ B rfl,J,r⟩<|.same<|G8 ..⟩
section
variable{c:C3}
theorem aQn{o:Expr}(x:EvE c S o (.o n) S)(y1:sN c S (Na ah) (Na i) S)(y2:sN c S (Na b9) (Na j) S)(e:S.o[n]?=Na (.lst l))(e2:S.o[B]?=Na (.lst l2))(ne:B≠n)(h0:0<=i)(h1:i<=l.length)(h2:i<=j)(hz:l.length+l2.length<=B9):AsT c S (.Subscript o (.Slice (Na ah) (Na b9) Nb pp) pos) (.o B) {S with o:=S.o.set n (.lst<|l.take i.toNat++l2++l.drop (min j l.length).toNat)}:=
 ⟨λH p v rv=>aA8 (x.go p λp1 u l1 r1=>⟨wpAny_Slice ((y1.go p1 λp2 E xg r2=>(y2.go p2 λp3 I U r3=>(nH.go p3 λb v4 V r4=>by
  cases r4
  have O:=aJ b.h {cls:=.type "slice",data:=.fields #[E,I,.none]};generalize y:b.grow O []=p5;have Y:Lt Nc b.φ p5.φ:=y▸b.growL O [];have s5:p5.s=⟨b.h.push {cls:=.type "slice",data:=.fields #[E,I,.none]},b.g,S.d,b.k,c.os⟩:=by rw[← y];rfl
  have R:p5.h.IsSliceOf b.h.objs.size E I .none:=by rw[← y];exact O7.IsSliceOf.new ..
  rw[← s5];have C:=xg.tr<|U.tr<|V.tr Y;refine p5.lst (P:=λu=>WP c.w c.A (setItem u (.ref b.h.objs.size) v) _ _ _) (r1.up C) e λa us N at_ r=>?_;refine p5.lst (P:=λv=>WP c.w c.A (setItem (.ref a) (.ref b.h.objs.size) v) _ _ _) (rv.up<|l1.tr C) e2 λJ yl xh Q M=>?_;have Z:a≠J:=λz=>ne<|p5.rel.inj B n J _ _ ⟨xh,e2,rfl⟩ ⟨z▸N,e,rfl⟩;refine aH5 at_ Q Z R r2 r3 h0 (by rw[r.len];exact h1) h2 (by rw[r.len,M.len];exact hz) λh' q T=>?_;rw[r.len] at q;exact(p5.put e N q T<|((r.take _).append M).append<|r.drop _).end (l1.tr C) trivial).run).run).run)⟩)⟩
end
def EqV(n:Nat)(a b:Dt)(r:Bool):Prop:=∀(A:M2)(Z:HP)(s:A6),Sub Z s.heap->A.units+n<cLine->∀u v,Rp Z a u->Rp Z b v->PySem.SeqAt.EqAt A s u v r
structure EqF{α:Type}[BEq α](n:Nat)(f:α->Dt):Prop where
 eq:∀x y,EqV n (f x) (f y) (x==y)
 inj:∀Z x y v,Rp Z (f x) v->Rp Z (f y) v->x=y
theorem EqF.int:EqF n Dt.int:=⟨λx y A Z s O O u v a b=>by
 obtain⟨_,rfl⟩:=a.inv;obtain⟨_,rfl⟩:=b.inv;exact(PySem.MeetsSeq.EqGives.int _ _ _ _).at A s,λZ x y v a b=>by
 obtain⟨_,rfl⟩:=a.inv;obtain⟨_,e⟩:=b.inv;cases e;rfl⟩
theorem EqF.str:EqF n Dt.str:=⟨λx y A Z s O O u v a b=>by
 obtain⟨t,rfl⟩:=a.inv;obtain⟨d,rfl⟩:=b.inv;exact PySem.SeqAt.EqAt.str_str x t y d,λZ x y v a b=>by
 obtain⟨_,rfl⟩:=a.inv;obtain⟨_,e⟩:=b.inv;cases e;rfl⟩
theorem Rps.inj{f:α->Dt}(q:∀x y v,Rp Z (f x) v->Rp Z (f y) v->x=y):∀{l m:List α}{vs:List A3},Rps Z (l.map f) vs->Rps Z (m.map f) vs->l=m:=by
 intro l;induction l with
 | nil=>
  intro m vs g d;obtain rfl:=g.inv;cases m with
  | nil=>rfl
  | cons y m=>obtain⟨u,n,e,_⟩:=d.inv;cases e
 | cons x l j=>
  intro m vs g d;obtain⟨u,n,rfl,a,b⟩:=g.inv;cases m with
  | nil=>cases d.inv
  | cons y m=>
   obtain⟨p,o,e,h,i⟩:=d.inv;cases e
   rw[q x y _ a h,j b i]
theorem aCB(x:AtZ Z I<|gI us)(y:AtZ Z I<|gI vs):us=vs:=by
 obtain⟨o,e,n,rfl⟩:=x;obtain⟨d,a,b,h⟩:=y;rw[e] at a;cases a
 cases h;rfl
theorem aDE(x:AtZ Z I<|aY us)(y:AtZ Z I<|aY vs):us=vs:=by
 obtain⟨o,e,n,rfl⟩:=x;obtain⟨d,a,b,h⟩:=y;rw[e] at a;cases a
 cases h;rfl
section
variable[BEq α][LawfulBEq α]{f:α->Dt}{l m:List α}
theorem aEz(F:EqF n f)(sb:Sub Z s.heap)(hu:A.units+n<cLine)(r1:Rps Z (l.map f) us)(r2:Rps Z (m.map f) vs):∀j(h1:j<us.toArray.size)(h2:j<vs.toArray.size),PySem.SeqAt.EqAt A s us.toArray[j] vs.toArray[j] (l[j]?==m[j]?):=λj h1 h2=>by
 have g:=r1.len;have h:=r2.len;simp only[A1] at g h;have d:j<l.length:=xO g h1;have e:j<m.length:=xO h h2;obtain⟨u,a,p⟩:=r1.at (by rw[B3,B1 d];rfl);obtain⟨v,b,q⟩:=r2.at (by rw[B3,B1 e];rfl);have i:us.toArray[j]=u:=by
  rw[B1 h1] at a;simpa using a
 have o:vs.toArray[j]=v:=by
  rw[B1 h2] at b;simpa using b
 rw[i,o,B1 d,B1 e];exact F.eq _ _ A Z s sb hu _ _ p q
theorem aBq(h:l.length=m.length):((B8 l.length).all λj=>l[j]?==m[j]?)=(l==m):=by
 rw[Bool.eq_iff_iff,J6,beq_iff_eq];constructor
 .intro q;refine T5 λj=>?_;by_cases d:j<l.length
  .exact F6 (q j<|J9.mpr d)
  .rw[O1<|by exact(l02<|.i (.n<|.S .b .a) fF) d,O1<|by exact(l03<|.i (.Q .c .a)<|.i (.n<|.S .b .c) fF) h d]
 .rintro rfl j _;exact beq_self_eq_true _
theorem aD8(F:EqF n f)(sb:Sub Z s.heap)(hu:A.units+(n+1)<cLine)(a1:AtZ Z I<|aY us)(r1:Rps Z (l.map f) us)(a2:AtZ Z M<|aY vs)(r2:Rps Z (m.map f) vs):PySem.SeqAt.RcAt A s (.ref I) (.ref M)<|l==m:=by
 have b:=r1.len;have d:=r2.len;simp only[A1] at b d;by_cases a:l.length=m.length
 .have:=PySem.SeqAt.RcAt.lists (a1.up sb).isList (a2.up sb).isList (by simp;exact aNF b d a) (aFo hu)<|aEz F sb (by show A.units+1+n<_;exact(l03<|.i (.S gM .c)<|.S iW .c) hu) r1 r2
  rwa [show us.toArray.size=l.length by simp[b],aBq a] at this
 .have e:=beq_eq_false_iff_ne.mpr λh=>a<|congrArg Y0 h;rw[e];exact PySem.SeqAt.RcAt.lists_lengths (a1.up sb).isList (a2.up sb).isList (by simp;exact aNE b d a)<|aFo hu
theorem EqF.lst(F:EqF n f):EqF (n+1) λl:List α=>.lst<|l.map f:=⟨λl m A Z s sb q u v d g=>by
 obtain⟨i,p,rfl,a1,rs1⟩:=d.inv;obtain⟨j,o,rfl,a,b⟩:=g.inv;by_cases h:i=j
 .subst h;cases aDE a1 a
  rw[Rps.inj (F.inj Z) rs1 b,beq_self_eq_true];exact .same _
 .exact .of_refs h<|aD8 F sb q a1 rs1 a b,λZ l m v d g=>by
 obtain⟨i,p,rfl,a1,rs1⟩:=d.inv;obtain⟨j,o,e,a,b⟩:=g.inv;cases e
 cases aDE a1 a
 exact Rps.inj (F.inj Z) rs1 b⟩
end
theorem EqF.pair:EqF (n+1) λx:Int×Int=>.tup [.int x.1,.int x.2]:=⟨λx y A Z s sb B u v r w=>by
 obtain⟨E,q,rfl,a1,rs1⟩:=r.inv;obtain⟨I,o,rfl,g,d⟩:=w.inv;by_cases C:E=I
 .subst C;cases aCB a1 g
  have:=Rps.inj ((EqF.int (n:=0)).inj Z) (l:=[x.1,x.2]) (m:=[y.1,y.2]) rs1 d;simp only[List.cons.injEq,and_true] at this;rw[show x=y from Prod.ext this.1 this.2,beq_self_eq_true];exact .same _
 .have e:=aEz (A:=A.in1) (l:=[x.1,x.2]) (m:=[y.1,y.2]) .int sb (by show A.units+1+0<_;exact(l03<|.i (.S (.p .a cD) .b)<|.S (.p aR aE) .b) B) rs1 d;have:=PySem.SeqAt.RcAt.tuples (a1.up sb).isTuple (g.up sb).isTuple (aFo B) e;refine .of_refs C ?_;have J:=rs1.len;have M:=d.len;have h:((B8<|min q.toArray.size o.toArray.size).all (λj=>[x.1,x.2][j]?==[y.1,y.2][j]?)&&q.toArray.size==o.toArray.size)=(x==y):=by
   simp only[U9,J,M];show(((x.1==y.1)&&((x.2==y.2)&&Nc))&&Nc)=(x==y);rw[Bool.and_true,Bool.and_true];rfl
  rwa [h] at this,λZ x y v r w=>by
 obtain⟨E,q,rfl,a1,rs1⟩:=r.inv;obtain⟨I,o,e,g,d⟩:=w.inv;cases e
 cases aCB a1 g
 have:=Rps.inj ((EqF.int (n:=0)).inj Z) (l:=[x.1,x.2]) (m:=[y.1,y.2]) rs1 d;simp only[List.cons.injEq,and_true] at this;exact Prod.ext this.1 this.2⟩
section
variable[BEq α][LawfulBEq α]{f:α->Dt}
theorem aCs(F:EqF k f)(hk:k<=7)(l m:List α):OpV w (n+1) (op2<|E6 .Eq) [.lst<|l.map f,.lst<|m.map f] (.bool<|l==m):=aAD λA Z h g r x os y B q o j s a1 rs1 d e=>
 ⟨aD8 F s (by have:=j.un;show A.units+_<9900;exact(l03<|.i (.L .b<|.k 7)<|.i (.S (.p .a<|.u 8 cD) eP)<|.S gM eP) hk this) a1 rs1 d e _ _ _ _<|bZ (A:=A) s<|.bool _⟩
theorem aCr(F:EqF k f)(hk:k<=7)(l m:List α):OpV w (n+1) (op2<|E6 .NotEq) [.lst<|l.map f,.lst<|m.map f] (.bool<|l != m):=aAD λA Z h g q r os u x j p o s a1 rs1 e i=>by
 have un:=o.un;have b:=rs1.len;have d:=i.len;simp only[A1] at b d;by_cases a:l.length=m.length
 .refine⟨cmp_ofNotEq<|PySem.SeqAt.RcNeAt.lists (a1.up s).isList (e.up s).isList (by simp;exact aNF b d a) (by show A.units<9900;exact aK0 un) (aEz F s (by show A.units+1+_<9900;exact aFn hk un) rs1 i) _ _ _ _ ?_⟩;rw[show j.toArray.size=l.length by simp[b],aBq a];exact bZ (A:=A) s (.bool _)
 .refine⟨cmp_ofNotEq<|PySem.SeqAt.RcNeAt.lists_lengths (a1.up s).isList (e.up s).isList (by simp;exact aNE b d a) (by show A.units<9900;exact aK0 un) _ _ _ _ ?_⟩;rw[show(l != m)=Nc from bne_iff_ne.mpr λh=>a<|congrArg Y0 h];exact bZ (A:=A) s<|.bool _
theorem aFj{x:α}{l:List α}(F:EqF k f)(sb:Sub Z s.heap)(hu:A.units+k<cLine){u:A3}(r1:Rp Z (f x) u)(rs:Rps Z (l.map f) us):∃e:A3->Bool,(∀y,y∈us.toArray->PySem.SeqAt.EqAt A s y u (e y))/\us.toArray.any e=l.contains x:=by
 classical
 refine⟨λy=>Nf<|Rp Z (f x) y,λy b=>?_,?_⟩
 .obtain⟨j,e⟩:=O8<|List.mem_toArray.mp b;obtain⟨d,a,p⟩:=rs.ta e;rw[B3] at a;obtain⟨z,_,rfl⟩:=B0.mp a;have:=F.eq z x A Z s sb hu y u p r1;show PySem.SeqAt.EqAt A s y u (Nf<|Rp Z (f x) y)
  rwa [show Nf (Rp Z (f x) y)=(z==x) from ?_]
  by_cases h:z=x
  .subst h;simp[p]
  .rw[beq_eq_false_iff_ne.mpr h,decide_eq_false λq=>h<|F.inj Z z x y p q]
 .rw[List.any_toArray,Bool.eq_iff_iff,U3,List.contains_iff_mem];constructor
  .rintro⟨y,b,q⟩;obtain⟨j,e⟩:=O8 b;obtain⟨d,a,p⟩:=rs.ta e;rw[B3] at a;obtain⟨z,g,rfl⟩:=B0.mp a;rw[← F.inj Z z x y p<|of_decide_eq_true q];exact D5 g
  .intro h;obtain⟨j,e⟩:=O8 h;obtain⟨v,ev,p⟩:=rs.at (by rw[B3,e];rfl);exact⟨v,D5 ev,decide_eq_true p⟩
theorem aRq(F:EqF k f)(hk:k<=7)(x:α)(l:List α):OpV w (n+1) (op2<|E6 .In) [f x,.lst<|l.map f] (.bool<|l.contains x):=ov2 λA Z h g d i os u v B r s p q=>by
 have un:=r.un;obtain⟨C,y,rfl,a,b⟩:=q.inv;obtain⟨e,j,o⟩:=aFj (s:=⟨h,g,d,i,os⟩) (A:=A.in1) F s (by show A.units+1+_<9900;exact aFn hk un) p b;refine⟨PySem.SeqAt.in_listAt e (a.up s).isList j ?_⟩;rw[o];exact bZ (A:=A) s<|.bool _
theorem aOa(F:EqF k f)(hk:k<=7)(x:α)(l:List α):OpV w (n+1) (op2<|E6 .NotIn) [f x,.lst<|l.map f] (.bool<|!l.contains x):=ov2 λA Z h g d i os u v B r s p q=>by
 have un:=r.un;obtain⟨C,y,rfl,a,b⟩:=q.inv;obtain⟨e,j,o⟩:=aFj (s:=⟨h,g,d,i,os⟩) (A:=A.in1) F s (by show A.units+1+_<9900;exact aFn hk un) p b;refine⟨PySem.SeqAt.notIn_listAt e (a.up s).isList j ?_⟩;rw[o];exact bZ (A:=A) s<|.bool _
end
theorem aOb(a b:Bool):OpV w 0 (op2<|E6 .NotEq) [.bool a,.bool b] (.bool<|a != b):=ov2 λA Z h g i k os u v j n s d e=>by
 obtain rfl:=d.inv;obtain rfl:=e.inv;exact⟨cmp_ofNotEq<|PySem.SeqAt.RcNeAt.bool_bool a b _ _ _ _<|bZ (A:=A) s<|.bool _⟩
section
variable{c:C3}
theorem aDl{o:Bool}(e:drf S s'=Na (.lst l,o))(hz:l.length<=B9):OpS c S SvR (cal<|.type "list") [s'] (.o S.o.length) {S with o:=S.o++[.lst l]}:=
 ⟨λH p g r=>by
  obtain⟨u,rfl,a⟩:∃u,g=[u]/\SvR p.φ s' u:=by cases r with | cons a r=>cases r;exact⟨_,rfl,a⟩
  obtain⟨w,g,rfl,⟨y,i,n,rfl⟩,d⟩:=iP e p.rel a;exact⟨call_list_seq w (.inl rfl) i rfl rfl (λx h j q=>p.listE j (aG _) ⟨_,q,h,rfl⟩ d (b:=Nc) .refl) (by rw[U9,d.len];exact hz)⟩⟩
theorem aEt{a:Sv}{o:Bool}(pl:Fn3 c)(hx:c.env.kindOf (S9 "list")=Na .globalImplicit)(he:bR e=Nc)(q:EvE c S e a S1)(f:drf S1 a=Na (.lst l,o))(hz:l.length<=B9):EvE c S (.Call (.Name (S9 "list") pp) [e] [] pos) (.o S1.o.length) {S1 with o:=S1.o++[.lst l]}:=
 iO pl hx (.b vI) (.t _) (dM he) (gV rfl) (bN (dM he) q eV) (aDl f hz)
end
theorem aGu(val:Nat->Int)(l:List Int)(h:∀i,val i=(l[i]?).getD 0):∀n,preSum val n=(l.take n).sum:=by
 intro n;induction n with
 | zero=>
  simp[preSum]
 | succ n a=>
  show preSum val n+val n=_;rw[a,h n,K9];cases l[n]? <;> simp
theorem aO9(l:List Int):OpV w 0 (cal<|.builtin "sum") [.lst<|l.map .int] (.int l.sum):=ov1 λA Z h g N k os v O I s r=>by
 obtain⟨R,o,rfl,a1,n⟩:=r.inv;obtain⟨d,rfl,j⟩:∃d:List<|Int×Tok,o=d.map (λp=>A3.int p.1 p.2)/\d.map (·.1)=l:=by
  clear a1 r;induction l generalizing o with
  | nil=>obtain rfl:=n.inv;exact⟨[],rfl,rfl⟩
  | cons x l C=>
   obtain⟨u,J,rfl,a,b⟩:=n.inv;obtain⟨t,rfl⟩:=a.inv;obtain⟨d,rfl,e⟩:=C J b;exact⟨(x,t)::d,rfl,by rw[H5,e]⟩
 have y:∀i,numAt d.toArray i=(l[i]?).getD 0:=λi=>by
  unfold numAt;rw[← j,B3,List.getElem?_toArray]
 have hp:=aGu _ l y;have M:intItems d.toArray=(d.map λp=>A3.int p.1 p.2).toArray:=by simp[intItems]
 have B:d.toArray.size=l.length:=by rw[← j];simp
 refine⟨sum_intListG I.hh (M▸(a1.up s).isList) λq tk Q E=>?_⟩;rw[hp,B,I4];exact⟨q,g,tk,rfl,E,.int _ _⟩
theorem aMY{c:C3}{l:List Int}(rm:Rm c.A 0)(pl:Fn3 c)(hx:c.env.kindOf (S9 "sum")=Na .globalImplicit)(he:bR e=Nc)(q:EvE c S e s' S)(f:drs S [s']=Na ([.lst<|l.map .int],b')):EvE c S (.Call (.Name (S9 "sum") pp) [e] [] pos) (.d<|.int l.sum) S:=
 iO pl hx (.b aNu) (.b _) (dM he) (gV rfl) (bN (dM he) q eV) (rB rm (aO9 l) f (by cases b' <;> rfl))
theorem aNj[BEq α][LawfulBEq α]{f:α->Dt}{x:α}(inj:∀x y v,Rp Z (f x) v->Rp Z (f y) v->x=y)(e:A3->Bool)(he:∀z v,Rp Z (f z) v->e v=(z==x)):∀{l:List α}{us:List A3},Rps Z (l.map f) us->us.countP e=l.count x:=by
 intro l;induction l with
 | nil=>
  intro us r;obtain rfl:=r.inv;rfl
 | cons y l d=>
  intro us r;obtain⟨u,g,rfl,a,b⟩:=r.inv;rw[List.countP_cons,List.count_cons,d b,he y u a]
theorem tD:MtD w (.lst<|b.map .str) (S9 "count") [.str x] (.int (b.count x:Nat)):=
 ⟨"list.count",λc S a o e=>uL e PySem.F.slot_list_count PySem.F.type_list_count,ov2 λA Z h g O k os u v Q R s I J=>by
  classical
  obtain⟨A,N,rfl,a,C⟩:=I.inv;obtain⟨o,B,n,rfl⟩:=a.up s;have r:∀z y,Rp Z (.str z) y->Nf (Rp Z (.str x) y)=(z==x):=λz y p=>by
   by_cases h:z=x
   .subst h;simp[p]
   .rw[beq_eq_false_iff_ne.mpr h,decide_eq_false λq=>h<|(EqF.str (n:=0)).inj Z z x y p q]
  refine⟨call_meets PySem.F.slot_list_count ⟨_,B,rfl⟩ PySem.F.entry_list_count (PySem.F.args_list_count_2 _ _) (PySem.SeqAt.list_countAt A N.toArray n Nb _ v λy=>Nf<|Rp Z (.str x) y) ⟨B,λy E=>?_,?_⟩⟩
  .obtain⟨j,e⟩:=O8<|List.mem_toArray.mp E;obtain⟨d,i,p⟩:=C.ta e;rw[B3] at i;obtain⟨z,_,rfl⟩:=B0.mp i;rw[r z y p];obtain⟨t,rfl⟩:=p.inv;obtain⟨M,rfl⟩:=J.inv;exact PySem.SeqAt.EqAt.str_str z t x M
  .rw[aNj ((EqF.str (n:=0)).inj Z) _ r C];exact⟨h,g,_,rfl,aM.refl _,.int _ _⟩⟩
abbrev aPL:I8:=fd (dC 10) (S9 "_law_versions") .none Nb lwM (.ref 274) Nb
abbrev lvB:List F9:=gR<|dC 10
noncomputable def lvP:List Str:=[S9 "a",S9 "",S9 "-a",S9 "+a",S9 " a",S9 "--- ",S9 "+++ ",S9 "@@ -1 +1 @@"]
noncomputable def lv0:List Str:=[S9 "a",S9 "-a",S9 "",S9 "@@ -1 +1 @@",S9 "a"]
def lvC(n:Nat)(r:Int):List Str:=if n>13 then [] else sl lvP (r.fmod 9) (r.fmod 9+1)
def lvT(l:List Str)(x:Int):List Str:=
 l.take (x.fmod<|l.length+1).toNat++lvC l.length ((x.fdiv<|l.length+1).fdiv 3)++l.drop (min (x.fmod (l.length+1)+(x.fdiv<|l.length+1).fmod 3) (l.length:Int)).toNat
noncomputable def txD(l:List Str):Dt:=.lst<|l.map .str
abbrev zE(w:E9)(X:Q3):C3:=cX w aPL 275 [] X
abbrev lvS(V:List Int)(vs:List Dt)(d:D8)(x:Lo)(os:List Ow):Sd:=⟨[(S9 "script",.d<|.lst<|V.map .int),(S9 "pieces",.o 0),(S9 "versions",.o 1)]++x,[.lst<|lvP.map .str,.lst vs]++os,d⟩
abbrev lvF:List F9:=lvB.drop 2
abbrev lvI:List F9:=(foB lvF).drop 1
abbrev lvM(V:List Int)(vs:List Dt)(d:D8)(t:Int)(l:List Str):Sd:=lvS V vs d [(S9 "turn",.d<|.int t),(S9 "text",.o 2)] [.lst<|l.map .str]
abbrev lvN(V:List Int)(vs:List Dt)(d:D8)(t:Int)(l:List Str)(p g:Int)(cm:List Dt):Sd:=lvS V vs d [(S9 "turn",.d<|.int t),(S9 "text",.o 2),(S9 "place",.d<|.int p),(S9 "gone",.d<|.int g),(S9 "come",.o 3)] [.lst<|l.map .str,.lst cm]
theorem aLB(a b:Int)(h:IntMulOk a b):OpV w 0 (op2<|X7 .Mult) [.int a,.int b] (.int<|a*b):=eY λA Z d g e k os u v i s=>⟨PySem.P.mul_int ⟨d,g,_,rfl,aM.refl _,.int _ _⟩ h⟩
theorem aGT{X:Q3}(pl:P3 (zE w X) n){l:List Str}{x:Int}(hl:l.length<=14):TnT (zE w X) (lvM V xs X.d c l) (foT lvI) (.d<|.int x) (foB lvI)<|lvM V xs X.d c<|lvT l x:=by
 have e:=l.length_map Dt.str;have z:(l.map Dt.str).length<4611686018427387904:=(l02<|.i (.L .b<|.k 14)<|.i bH mS) hl e;have g:((l.map Dt.str).length:Int)+1≠0:=l01<|.n<|.q dL aE;have p:(((l.map Dt.str).length:Int)+1).natAbs<1073741824:=(l02<|.i (.L .b<|.k 14)<|.i bH<|.S (.z dL)<|.k 1073741824) hl e;have r:(lvP.map Dt.str).length<=B9:=by decide
 have q:EvX (zE w X) (lvS V xs X.d [(S9 "turn",.d<|.int c),(S9 "text",.o 2),(S9 "x",.d<|.int x)] [.lst<|l.map .str]) ((foB lvI).take 4) .next<|lvN V xs X.d c l (x.fmod<|(l.map Dt.str).length+1) ((x.fdiv<|(l.map Dt.str).length+1).fmod 3)<|(lvC l.length<|(x.fdiv<|l.length+1).fdiv 3).map .str:=by
  by_cases h:l.length>13
  .rw[show lvC l.length ((x.fdiv<|l.length+1).fdiv 3)=[] from if_pos h];exact xa pl [.t Nc] _ [type_of% z,type_of% g,type_of% p,(3:Int)≠0,(3:Int).natAbs<1073741824,(9:Int)≠0,(9:Int)≠0,type_of% r,type_of% z,Nf (((l.map Dt.str).length:Int)>13)=Nc] (by kernel_rfl) ⟨z,g,p,by decide,by decide,by decide,by decide,r,z,decide_eq_true<|(l02<|.i bH<|.i (.S (.k 13) .b)<|.s (.k 13) aF) e h,trivial⟩
  .rw[show lvC l.length ((x.fdiv<|l.length+1).fdiv 3)=_ from if_neg h,show(sl lvP (((x.fdiv<|l.length+1).fdiv 3).fmod 9)<|((x.fdiv<|l.length+1).fdiv 3).fmod 9+1).map Dt.str=_ from(hW ..).symm,← e];exact xa pl [.t Nd] _ [type_of% z,type_of% g,type_of% p,(3:Int)≠0,(3:Int).natAbs<1073741824,(9:Int)≠0,(9:Int)≠0,type_of% r,type_of% z,Nf (((l.map Dt.str).length:Int)>13)=Nd] (by kernel_rfl) ⟨z,g,p,by decide,by decide,by decide,by decide,r,z,decide_eq_false<|(l02<|.i bH<|.i (.n<|.S (.k 13) .b)<|.n<|.s (.k 13) aF) e h,trivial⟩
 have A:=U2 x (b:=((l.map Dt.str).length:Int)+1)<|aKw;have B:=Int.fmod_lt_of_pos x (b:=((l.map Dt.str).length:Int)+1)<|aKw;have u:(lvC l.length<|(x.fdiv<|l.length+1).fdiv 3).length<=1:=by
  unfold lvC;split
  .exact C8 _
  .have a:=U2 ((x.fdiv<|l.length+1).fdiv 3) (b:=9) (by decide);rw[hH a<|aCd];simp only[F5,G4];exact aJZ
 have y:(l.map Dt.str).take (x.fmod<|(l.map Dt.str).length+1).toNat++(lvC l.length<|(x.fdiv<|l.length+1).fdiv 3).map .str++(l.map Dt.str).drop (min (x.fmod ((l.map Dt.str).length+1)+(x.fdiv<|(l.map Dt.str).length+1).fmod 3) ((l.map Dt.str).length:Int)).toNat=(lvT l x).map .str:=by
  rw[e,lvT,B4,B4,R9,Y6]
 refine tnx (by kernel_rfl) (cQ 4 q<|fP<|rS rfl rfl rfl (bC (aU<|by kernel_rfl) rfl)<|aQn (j:=x.fmod ((l.map Dt.str).length+1)+(x.fdiv<|(l.map Dt.str).length+1).fmod 3) (bC (aU<|by kernel_rfl) rfl) (nG<|bC (aU<|by kernel_rfl) rfl) (nG<|eq3 pl [] [] (by kernel_rfl) trivial) rfl rfl (by decide) A ((l11<|.i (.s .a dL) gF) B) (G7<|U2 _<|by decide) (by rw[e,A1];exact(l02<|.i (.L .a<|.k 14)<|.i (.L .b aC)<|.L bB cH) hl u)) ?_;rw[y];exact fits<|by kernel_rfl
theorem aAS(hl:ns.length<=14):(lvT ns c).length<=14:=by
 have e:=U2 (c.fdiv<|(ns.length:Int)+1) (b:=3) (by decide);have d:(lvC ns.length<|(c.fdiv<|ns.length+1).fdiv 3).length<=1/\(13<ns.length->(lvC ns.length<|(c.fdiv<|ns.length+1).fdiv 3).length=0):=by
  unfold lvC;split
  .exact⟨C8 _,λO=>rfl⟩
  .have a:=U2 ((c.fdiv<|ns.length+1).fdiv 3) (b:=9) (by decide);rw[hH a<|aCd];simp only[F5,G4];exact⟨aJZ,λh=>absurd h<|by assumption⟩
 unfold lvT;simp only[A5,G4,F5];exact(l22<|.i (.L .a<|.k 14)<|.i (.o (.L .b aC)<|.i (.S (.k 13) .a)<|.Q .b aE)<|.i bU<|.L (.p (.p (.n bK .a) .b)<|.m .a<|.t<|.n bB aF)<|.k 14) hl d e
def lvX(V:List Int)(i:Nat):List Int:=((i:Int)*40+13)::bA V (Na i) Nb (Na 3)
def lvW(V:List Int):Nat->List Str
 | 0=>lv0
 | i+1=>(lvX V i).foldl lvT<|lvW V i
def lvV(V:List Int)(i:Nat):List<|List Str:=(B8<|i+1).map<|lvW V
theorem aP6(V:List Int)(i:Nat):lvV V (i+1)=lvV V i++[lvW V<|i+1]:=by
 unfold lvV;rw[O3,B4];rfl
theorem aEh{xs:List Int}:∀{l:List Str},l.length<=14->(xs.foldl lvT l).length<=14:=by
 induction xs with
 | nil=>exact λh=>h
 | cons x xs b=>exact λa=>b<|aAS a
theorem aAR:∀i,(lvW V i).length<=14:=by
 intro i;induction i with
 | zero=>
  exact(by decide:lv0.length<=14)
 | succ i a=>
  exact aEh<|a
abbrev lvA(V:List Int)(vs:List Dt)(d:D8)(t:Int):Sd:=lvS V vs d [(S9 "turn",.d<|.int t)] []
theorem sR(n:Nat):P1 (-1) (n+1)=Na n:=by
 simp[P1];exact l01<|.o (.o (.l aE<|.p (.g aC) dL)<|.s (.p (.g aC) dL) dL)<|.Q (.t<|.p (.g aC) dL) .a
theorem aBB(l:List α)(i:Nat):(bA l (Na (i:Int)) Nb<|Na 3).length<=l.length:=by
 refine A9 (List.length_filterMap_le ..) (sliceRange_length_le _ _ _ _ (λO=>⟨?_,C2 _⟩) λh=>absurd (show(3:Int)>0 by decide) h);exact Int.le_max_left _ _
theorem aM7{X:Q3}(pl:P3 (zE w X) n)(hz:V.length<=1000)(i:Nat)(hi:i<3):TnT (zE w X) (lvS V ((lvV V i).map txD) X.d [] []) (foT lvF) (.d<|.int<|0+(i:Nat)) (foB lvF)<|lvS V ((lvV V<|i+1).map txD) X.d [] []:=by
 have e:=(lvW V i).length_map Dt.str;have g:=aAR (V:=V) i;have lst:aO (.lst<|(lvV V i).map txD) (-1)<|.lst<|(lvW V i).map .str:=.lst (by decide) (by decide) (by
   unfold lvV;rw[A1,A1,E8];exact sR i) (by
   unfold lvV;rw[B3,B3,U0<|by exact l01<|.S .a aR];rfl)
 have o:EvX (zE w X) (lvA V ((lvV V i).map txD) X.d<|0+(i:Nat)) ((foB lvF).take 1) .next<|lvM V ((lvV V i).map txD) X.d (0+(i:Nat))<|lvW V i:=
  fP (rS rfl rfl rfl (aEt (a:=.d<|.lst<|(lvW V i).map .str) pl.toFn3 (by kernel_rfl) rfl (eq3 pl [.v<|.lst<|(lvW V i).map .str] [type_of% lst] (by kernel_rfl) ⟨lst,trivial⟩) rfl (by rw[e,C5];exact(l01<|.i (.L .a<|.k 14) jQ) g))<|gY<|by kernel_rfl)
 have j:Itr w (.lst<|[.int<|(0+(i:Nat))*40+13]++bA (V.map Dt.int) (Na<|0+(i:Nat)) Nb (Na 3)) ((lvX V i).map .int)<|foT lvI:=by
  rw[hW,lvX,S7];exact bM<|.inl ⟨_,_,rfl⟩
 have h:EvE (zE w X) (lvM V ((lvV V i).map txD) X.d (0+(i:Nat))<|lvW V i) (.BinOp (.Name (S9 "turn") ⟨590,18,590,22⟩) .Mult (.Constant (.int 40) 0 ⟨590,25,590,27⟩) ⟨590,18,590,27⟩) (.d<|.int<|(0+(i:Nat))*40)<|lvM V ((lvV V i).map txD) X.d (0+(i:Nat))<|lvW V i:=vC (a:=.d<|.int<|0+(i:Nat)) (eq3 pl [] [] (by kernel_rfl) trivial) jV (rB pl.rm0 (aLB (0+(i:Nat)) 40<|.of_right<|by decide) rfl rfl);refine tnx (S3:=lvA V ((lvV V<|i+1).map txD) X.d<|0+(i:Nat)) (by kernel_rfl) (cQ 1 o<|aHF pl [.e<|.d<|.int<|(0+(i:Nat))*40] (lvX V i) Dt.int lvT (lvM V ((lvV V i).map txD) X.d<|0+(i:Nat)) (λO l=>l.length<=14) (lvW V i) (.lst<|[.int<|(0+(i:Nat))*40+13]++bA (V.map Dt.int) (Na<|0+(i:Nat)) Nb (Na 3)) [type_of% h,(V.map Dt.int).length<=B9,[Dt.int<|(0+(i:Nat))*40+13].length+(bA (V.map Dt.int) (Na<|0+(i:Nat)) Nb<|Na 3).length<=B9] (by kernel_rfl) (by kernel_rfl) ⟨h,by rw[A1,C5];exact dW hz,by have:=aBB (V.map Dt.int) i;rw[← S7 (i:Int),A1] at this;rw[C5];show 1+_<=_;exact(l02<|.i fA<|.i fF<|.L (.p aC .a) cH) hz this,trivial⟩ (λO=>rfl) j g (λk x l q b=>⟨aGT pl b,aAS b⟩) λO=>?_) (fits<|by kernel_rfl);rw[aP6,B4];exact xa pl [.z 2] (lvA V ((lvV V i).map txD++[txD<|lvW V<|i+1]) X.d<|0+(i:Nat)) [((lvV V i).map txD).length<=B9] (by kernel_rfl) ⟨by rw[A1,lvV,A1,E8];exact aK9 hi,trivial⟩
theorem aO8(hz:V.length<=1000):OpV w (n+1) (cal<|.ref 275) [.lst<|V.map .int] (.lst<|(lvV V 3).map txD):=by
 refine lI (f:=aPL) [S9 "script"] [] ([(S9 "script",.d<|.lst<|V.map .int)],[]) (by kernel_rfl) rfl (lW λO=>by kernel_rfl) (λL=>by kernel_rfl) (by kernel_rfl) (by kernel_rfl) λX pl=>?_;refine xr pl 2 [] (lvS V ((lvV V 0).map txD) X.d [] []) [] (by kernel_rfl) trivial rfl (aLc pl [] (hi:=3) (λi=>lvS V ((lvV V i).map txD) X.d [] []) [] (by kernel_rfl) ⟨_,_,rfl⟩ (by kernel_rfl) trivial (by decide) (by decide) (by decide) (λO=>rfl) (λi hi=>aM7 pl hz i hi) (sH pl [] _ [] (by kernel_rfl) trivial))
abbrev aPI:I8:=fd (dC 14) (S9 "_law_run_kept") .none Nb lwM (.ref 298) Nb
abbrev rkB:List F9:=gR<|dC 14
noncomputable def srD(s:cA):Dt:=.tup [.str s.1,.str s.2.1,.bool s.2.2]
noncomputable def dQ(l:List cA):List Str:=(l.filter λs=>s.1 != S9 "+").map (·.2.1)
noncomputable def cZ(l:List cA):List Str:=(l.filter λs=>s.1 != S9 "-").map (·.2.1)
def cpl:List Str->List Str->Nat
 | x::xs,y::ys=>if x=y then cpl xs ys+1 else 0
 | _,_=>0
theorem lT{c:C3}(pl:P3 c N)(a8:List Str)(hs:List Hi)(xs:List α)(g:α->Dt)(t:α->Bool)(v:α->Dt)(d:Dt)(qs:List Prop)(ok:(lcV e).isSome=Nc)(kh:swapsWith e (Na<|.Name x px) d9.line c.env=pure Nc)(hc:closureFor (lcS e) c.env=pure (clN c.env a8))(h:(aCS pl hs S<|lcI e).map (·.1)=Na (d,qs))(a:Al qs)(it:Itr c.w d (xs.map g)<|lcT e)(hz:xs.length<=B9)(step:∀x∈xs,LcT c N S e a8 g t v x)(st:StN c {S with o:=S.o++[.lst<|(xs.filter t).map v]} x (.o S.o.length) S2):EvS c S (.Assign [.Name x px] e d9) .next S2:=
 A2 (aDQ ok) λpos ok=>(congrArg (λz=>EvS c S (.Assign [.Name x px] z d9) .next S2) ok.eq).mpr<|aN5 ((congrArg (λz=>swapsWith z (Na<|.Name x px) d9.line c.env=pure Nc) ok.eq).mp kh) st<|aPg pl a8 xs g t v d ok hc (aP h a) it hz step
section
variable{X:Q3}
noncomputable abbrev aOy:List<|Str×Nat:=[(S9 "pairs",3),(S9 "best",2),(S9 "steps",1)]
abbrev rkC(w:E9)(X:Q3):C3:=cX w aPI 299 aOy X
abbrev rkS(st:List cA)(d:D8)(x:Lo)(pr bs:Option Sv)(os:List Ow):Sd:=⟨x,[.cell pr,.cell bs,.cell<|Na<|.d<|.lst<|st.map srD]++os,d⟩
noncomputable abbrev rkN:Lo:=[(S9 "old",.o 3),(S9 "new",.o 4)]
abbrev rkO(st:List cA):List Ow:=[.lst<|(dQ st).map .str,.lst<|(cZ st).map .str]
noncomputable abbrev rkT(t:Int×Int×Int):Option Sv:=Na<|.d<|.tup [.int t.1,.int t.2.1,.int t.2.2]
abbrev rkJ(i j:Nat):Lo:=rkN++[(S9 "i",.d<|.int<|0+(i:Nat)),(S9 "j",.d<|.int<|0+(j:Nat))]
def uB(old new:List Str)(i:Nat)(t:Int×Int×Int)(j:Nat):Int×Int×Int:=if (cpl (old.drop i) (new.drop j):Int)>t.2.2 then (i,j,(cpl (old.drop i) (new.drop j):Int)) else t
theorem aRP(pl:P3 (rkC w X) n)(hz:st.length<=1000):EvX (rkC w X) (rkS st X.d [] Nb Nb []) (rkB.take 2) .next<|rkS st X.d rkN Nb Nb<|rkO st:=by
 have e:(rkO st)=[.lst<|(st.filter λs=>s.1 != S9 "+").map λs=>.str s.2.1,.lst<|(st.filter λs=>s.1 != S9 "-").map λs=>.str s.2.1]:=by
  unfold rkO dQ cZ;rw[F7,F7];rfl
 rw[e];exact bY (lT pl [] [] st srD (λs=>s.1 != S9 "+") (λs=>.str s.2.1) (.lst<|st.map srD) [] (by kernel_rfl) (by kernel_rfl) (by kernel_rfl) (by kernel_rfl) trivial (bM<|.inl ⟨_,_,rfl⟩) (dW hz) (λx O=>⟨λC a=>⟨[(S9 "step",.d<|srD x)],λl=>aP (o:=fC a [] [] _ _ _ _ _ _ l) (b:=((CR [(S9 "step",.d<|srD x)] (rkS st X.d [] Nb Nb []).o X.d l,x.1 != S9 "+",.str x.2.1),[])) (by kernel_rfl) trivial⟩⟩) (fW<|by kernel_rfl))<|fP<|lT pl [] [] st srD (λs=>s.1 != S9 "-") (λs=>.str s.2.1) (.lst<|st.map srD) [] (by kernel_rfl) (by kernel_rfl) (by kernel_rfl) (by kernel_rfl) trivial (bM<|.inl ⟨_,_,rfl⟩) (dW hz) (λx O=>⟨λC a=>⟨[(S9 "step",.d<|srD x)],λl=>aP (o:=fC a [] [] _ _ _ _ _ _ l) (b:=((CR [(S9 "step",.d<|srD x)] ((rkS st X.d [] Nb Nb []).o++[Ow.lst<|(st.filter λs=>s.1 != S9 "+").map λs=>Dt.str s.2.1]) X.d l,x.1 != S9 "-",.str x.2.1),[])) (by kernel_rfl) trivial⟩⟩) (fW<|by kernel_rfl)
theorem aRO(pl:P3 (rkC w X) n):EvX (rkC w X) (rkS st X.d rkN Nb Nb<|rkO st) ((rkB.drop 2).take 1) .next<|rkS st X.d rkN Nb (rkT (0,0,0))<|rkO st:=xa pl [] _ [] (by kernel_rfl) trivial
theorem aGC(a b:List Str)(x y:Option Int)(x' y':Option Int):OpV w 0 (op2<|E6 .Eq) [.lst<|bA (a.map .str) x y Nb,.lst<|bA (b.map .str) x' y' Nb] (.bool<|bA a x y Nb==bA b x' y' Nb):=by
 rw[hW,hW];exact aLH _ _
def rkQ(a b:List Str)(i j:Nat)(s:Nat):Bool:=bA a (Na<|(0:Int)+i+s) (Na<|(0:Int)+i+s+1) Nb==bA b (Na<|(0:Int)+j+s) (Na<|(0:Int)+j+s+1) Nb
theorem aD4(a b:List Str)(i j s:Nat):rkQ a b i j s=((a.drop<|i+s).take 1==(b.drop<|j+s).take 1):=by
 have h:∀(l:List Str)(k:Nat),bA l (Na<|(0:Int)+k+s) (Na<|(0:Int)+k+s+1) Nb=(l.drop<|k+s).take 1:=λl k=>by
  have:=hH (a:=l) (i:=(0:Int)+k+s) (j:=(0:Int)+k+s+1) (l02<|.l aE pR)<|l02<|.l pR<|.p pR aC;unfold sl at this;rw[this,show((0:Int)+k+s).toNat=k+s by exact l02<|.Q (.t pR) bB,show((0:Int)+k+s+1-(0+k+s)).toNat=1 by exact l02<|.Q (.t<|.m (.p pR aC) pR) aC]
 unfold rkQ;rw[h,h]
theorem aHV(h:a≠[])(e:(a.take 1==b.take 1)=Nc):cpl a b=cpl (a.drop 1) (b.drop 1)+1:=by
 cases a with
 | nil=>exact absurd rfl h
 | cons x d=>cases b with
  | nil=>cases F6 e
  | cons y g=>
   have:=F6 e;simp only[List.take_succ_cons,List.take_zero,List.cons.injEq,and_true] at this;show(if x=y then _ else _)=_;rw[if_pos this];rfl
theorem aEO(e:a=[]\/(a.take 1==b.take 1)=Nd):cpl a b=0:=by
 cases a with
 | nil=>cases b <;> rfl
 | cons x d=>cases b with
  | nil=>rfl
  | cons y g=>
   obtain e|e:=e
   .cases e
   .show(if x=y then _ else _)=0;rw[if_neg];rintro rfl;simp at e
theorem aOx(pl:P3 (rkC w X) n)(hz:st.length<=1000){i j:Nat}(t:Int×Int×Int):EvX (rkC w X) (rkS st X.d (rkJ i j) Nb (rkT t)<|rkO st) (foB<|foB<|rkB.drop 3) .next<|rkS st X.d (rkJ i j++[(S9 "size",.d<|.int (cpl ((dQ st).drop i) ((cZ st).drop j):Nat))]) Nb (rkT<|uB (dQ st) (cZ st) i t j)<|rkO st:=by
 have g:(dQ st).length<=1000:=A9 (by unfold dQ;rw[A1];exact H6 ..) hz;have zn:(cZ st).length<=1000:=A9 (by unfold cZ;rw[A1];exact H6 ..) hz;generalize r:dQ st=a at g;generalize u:cZ st=b at zn;have e:=a.length_map Dt.str;have q:=b.length_map Dt.str;have o:∀s:Nat,Nf ((0:Int)+i+s<((a.map Dt.str).length:Int))=Nc↔a.drop (i+s)≠[]:=λs=>by
  rw[decide_eq_true_iff,e,Ne,List.drop_eq_nil_iff];constructor
  .exact l03 (.i (.s pR fU)<|.n<|.L .c bB)
  .exact l03<|.i (.n pH)<|.s (.p (.p aE aN) fU) aF
 rw[show rkO st=[.lst<|a.map .str,.lst<|b.map .str] by unfold rkO;rw[r,u]];refine xq pl 1 [] (rkS st X.d (rkJ i j++[(S9 "size",.d<|.int (0:Nat))]) Nb (rkT t) [.lst<|a.map .str,.lst<|b.map .str]) [] (by kernel_rfl) trivial ?_;refine aEo (λs=>rkS st X.d (rkJ i j++[(S9 "size",.d<|.int s)]) Nb (rkT t) [.lst<|a.map .str,.lst<|b.map .str]) (λs=>True) (λs=>a.length-(i+s)) (·+1) (λs=>cpl (a.drop<|i+s) (b.drop<|j+s)+s) 0 (λs=>Nf ((0:Int)+i+s<((a.map Dt.str).length:Int))&&rkQ a b i j s) trivial (by kernel_rfl) (fits<|by kernel_rfl) (λs O=>?_) (λs O h=>?_) (λs O h=>?_) ?_
 .exact bq pl [.t<|rkQ a b i j s] [(a.map Dt.str).length<4611686018427387904,Nf ((0:Int)+i+s<((a.map Dt.str).length:Int))=Nc->Al [(a.map Dt.str).length<=B9,(b.map Dt.str).length<=B9,OpV w 0 (op2<|E6 .Eq) [.lst<|bA (a.map Dt.str) (Na<|(0:Int)+i+s) (Na<|(0:Int)+i+s+1) Nb,.lst<|bA (b.map Dt.str) (Na<|(0:Int)+j+s) (Na<|(0:Int)+j+s+1) Nb] (.bool<|rkQ a b i j s)]] (by kernel_rfl) ⟨tR g e,λO=>⟨by rw[e,C5];exact dW g,by rw[q,C5];exact dW zn,aGC a b _ _ _ _,trivial⟩,trivial⟩
 .rw[Y3,o,aD4] at h;refine⟨uq pl [] [] (by kernel_rfl) trivial,trivial,?_,?_⟩
  .have:=mt List.drop_eq_nil_iff.mpr h.1;exact(l03<|.i (.n pH)<|.S (.m .a pP)<|.m .a cY) this
  .rw[aHV h.1 h.2,AA5,AA5];rw[Y8,Y8,Y8,Nat.add_comm 1 s]
 .rw[aEO,V4];rw[Bool.and_eq_false_iff] at h;obtain h|h:=h
  .left
   exact Classical.byContradiction λz=>by rw[(o s).mpr z] at h;cases h
  .exact .inr (aD4 a b i j s▸h)
 .show EvX _ (rkS st X.d (rkJ i j++[(S9 "size",.d<|.int (cpl (a.drop i) (b.drop j):Nat))]) Nb (rkT t) [.lst<|a.map .str,.lst<|b.map .str]) _ _ _;by_cases h:(cpl (a.drop i) (b.drop j):Int)>t.2.2
  .rw[show uB a b i t j=(0+(i:Int),0+(j:Int),_) from(if_pos h).trans<|by rw[S7,S7]];exact xa pl [.t Nc] _ [Nf ((cpl (a.drop i) (b.drop j):Int)>t.2.2)=Nc] (by kernel_rfl) ⟨decide_eq_true h,trivial⟩
  .rw[show uB a b i t j=t from if_neg h];exact xa pl [.t Nd] _ [Nf ((cpl (a.drop i) (b.drop j):Int)>t.2.2)=Nd] (by kernel_rfl) ⟨decide_eq_false h,trivial⟩
def iT(a b:List Str)(i m:Nat)(t:Int×Int×Int):Int×Int×Int:=(B8 m).foldl (uB a b i) t
def fR(a b:List Str)(m:Nat):Int×Int×Int:=(B8 m).foldl (λt i=>iT a b i b.length t) (0,0,0)
theorem aRN(pl:P3 (rkC w X) n)(hz:st.length<=1000):EvX (rkC w X) (rkS st X.d rkN Nb (rkT (0,0,0))<|rkO st) ((rkB.drop 3).take 1) .next<|rkS st X.d rkN Nb (rkT<|fR (dQ st) (cZ st) (dQ st).length)<|rkO st:=by
 have e:(dQ st).length<=1000:=A9 (by unfold dQ;rw[A1];exact H6 ..) hz;have zn:(cZ st).length<=1000:=A9 (by unfold cZ;rw[A1];exact H6 ..) hz;have a:=(dQ st).length_map Dt.str;have b:=(cZ st).length_map Dt.str;refine oX pl [] (hi:=(((dQ st).map Dt.str).length:Nat)) (λi=>rkS st X.d rkN Nb (rkT<|fR (dQ st) (cZ st) i)<|rkO st) [((dQ st).map Dt.str).length<4611686018427387904] (by kernel_rfl) ⟨_,_,rfl⟩ (by kernel_rfl) ⟨tR e a,trivial⟩ (C2 _) ar3 (aFs e a) (λO=>rfl) (λi hi=>?_) (by rw[a];exact cJ);rw[show fR (dQ st) (cZ st) (i+1)=iT (dQ st) (cZ st) i (cZ st).length (fR (dQ st) (cZ st) i) by unfold fR;rw[O3,O0];rfl];generalize fR (dQ st) (cZ st) i=t;refine tnx (S2:=rkS st X.d (rkN++[(S9 "i",.d<|.int<|0+(i:Nat))]) Nb (rkT t)<|rkO st) (by kernel_rfl) (oX pl [] (hi:=(((cZ st).map Dt.str).length:Nat)) (λj=>rkS st X.d (rkN++[(S9 "i",.d<|.int<|0+(i:Nat))]) Nb (rkT<|iT (dQ st) (cZ st) i j t)<|rkO st) [((cZ st).map Dt.str).length<4611686018427387904] (by kernel_rfl) ⟨_,_,rfl⟩ (by kernel_rfl) ⟨tR zn b,trivial⟩ (C2 _) ar3 (aFs zn b) (λO=>rfl) (λj g=>?_) cJ) (by rw[b];exact fits<|by kernel_rfl);rw[show iT (dQ st) (cZ st) i (j+1) t=uB (dQ st) (cZ st) i (iT (dQ st) (cZ st) i j t) j by unfold iT;rw[O3,O0];rfl];exact tnx (by kernel_rfl) (aOx pl hz (i:=i) (j:=j)<|iT (dQ st) (cZ st) i j t)<|fits<|by kernel_rfl
noncomputable def atR(st:List cA)(k:Nat):cA:=st.getD k (D6,D6,Nd)
def kpt(st:List cA):List Nat:=(B8 st.length).filter λk=>(atR st k).1==S9 " "
noncomputable def p2D(x:Int×Int):Dt:=.tup [.int x.1,.int x.2]
noncomputable def rkP(st:List cA)(k:Nat):Int×Int:=((k:Int)-(((st.take k).map (·.1)).count (S9 "+"):Nat),(k:Int)-(((st.take k).map (·.1)).count (S9 "-"):Nat))
abbrev rkK:Lo:=rkN++[(S9 "kept",.o 5)]
abbrev rkR(st:List cA)(pr:List Dt):List Ow:=rkO st++[.fz<|.lst<|(kpt st).map λk=>.int<|0+(k:Nat),.lst pr]
theorem aIY(h:n=B)(hm:B<=1000):Itr w (.rng 0 (n:Int)) ((B8 B).map λk=>.int<|0+(k:Nat))<|.Name x pp:=by
 subst h;exact qH (C2 _) ar3<|aKf hm
theorem xN(hz:st.length<=1000)(h:k<st.length):aO (.lst<|st.map srD) (0+(k:Nat))<|srD<|atR st k:=.lst (j:=k) (l01<|.l (.g gJ) mV) ((l02<|.i fA<|.i dT<|.s mV gJ) hz h) (by rw[A1];exact tY (S7 _) h) (by rw[B3,atR,D7,B1 h];rfl)
theorem aRM(pl:P3 (rkC w X) n)(hz:st.length<=1000){t:Int×Int×Int}:EvX (rkC w X) (rkS st X.d rkN Nb (rkT t)<|rkO st) ((rkB.drop 4).take 2) .next<|rkS st X.d rkK (Na<|.o 6) (rkT t)<|rkR st []:=by
 refine bY (lT pl [S9 "steps"] [] (B8 st.length) (λk=>.int<|0+(k:Nat)) (λk=>(atR st k).1==S9 " ") (λk=>.int<|0+(k:Nat)) (.rng 0 ((st.map srD).length:Nat)) [(st.map srD).length<4611686018427387904] (by kernel_rfl) (by kernel_rfl) (by kernel_rfl) (by kernel_rfl) ⟨by rw[A1];exact aKd hz,trivial⟩ (aIY (A1 ..) hz) (by rw[E8,C5];exact dW hz) (λk hk=>⟨λC a=>⟨[(S9 "k",.d<|.int<|0+(k:Nat))],λl=>aP (o:=fC a [.v<|srD<|atR st k] [] _ _ _ _ _ _ l) (b:=((CR [(S9 "k",.d<|.int<|0+(k:Nat))] (rkS st X.d rkN Nb (rkT t)<|rkO st).o X.d l,(atR st k).1==S9 " ",.int<|0+(k:Nat)),[aO (.lst<|st.map srD) (0+(k:Nat))<|srD<|atR st k])) (by kernel_rfl) ⟨xN hz<|J9.mp hk,trivial⟩⟩⟩) (fW<|by kernel_rfl))<|xa pl [.z 5] _ [] (by kernel_rfl) trivial
abbrev rkF:List F9:=rkB.drop 6
theorem aRL(pl:P3 (rkC w X) n)(hz:st.length<=1000){t:Int×Int×Int}(hp:pr.length<=1000)(hk:k<st.length):TnT (rkC w X) (rkS st X.d rkK (Na<|.o 6) (rkT t)<|rkR st<|pr.map p2D) (foT rkF) (.d<|.int<|0+(k:Nat)) (foB rkF)<|rkS st X.d rkK (Na<|.o 6) (rkT t)<|rkR st<|(pr++[rkP st k]).map p2D:=by
 have e:((st.take k).filter λO=>Nc).map (λs:cA=>Dt.str s.1)=((st.take k).map (·.1)).map Dt.str:=by rw[J4.mpr λO O=>rfl,F7];rfl
 have g:(0:Int)+(k:Nat)=k:=S7 _;have q:Itr w (.lst<|bA (st.map srD) Nb (Na<|(0:Int)+(k:Nat)) Nb) ((st.take k).map srD)<|lcT<|asV<|foB rkF:=by
  rw[g,hV,← R9];exact bM<|.inl ⟨_,_,rfl⟩
 refine tnx (S3:=rkS st X.d (rkK++[(S9 "k",.d<|.int<|0+(k:Nat)),(S9 "ahead",.o 7)]) (Na<|.o 6) (rkT t)<|rkR st ((pr++[rkP st k]).map p2D)++[.fz<|.lst<|((st.take k).map (·.1)).map .str]) (by kernel_rfl) (bY (lT pl [] [] (st.take k) srD (λO=>Nc) (λs=>.str s.1) (.lst<|bA (st.map srD) Nb (Na<|(0:Int)+(k:Nat)) Nb) [(st.map srD).length<=B9] (by kernel_rfl) (by kernel_rfl) (by kernel_rfl) (by kernel_rfl) ⟨by rw[A1,C5];exact dW hz,trivial⟩ q (by rw[G4,C5];exact(l02<|.i fA<|.L (.n .a .b) cH) hz) (λx O=>⟨λC h=>⟨[(S9 "step",.d<|srD x)],λl=>aP (o:=fC h [] [] _ _ _ _ _ _ l) (b:=((CR [(S9 "step",.d<|srD x)] (rkS st X.d (rkK++[(S9 "k",.d<|.int<|0+(k:Nat))]) (Na<|.o 6) (rkT t)<|rkR st<|pr.map p2D).o X.d l,Nc,.str x.1),[])) (by kernel_rfl) trivial⟩⟩) (fW<|by kernel_rfl)) ?_) (fits<|by kernel_rfl);rw[e];generalize p:(st.take k).map (·.1)=a;have j:rkP st k=((0:Int)+(k:Nat)-(a.count (S9 "+"):Nat),(0:Int)+(k:Nat)-(a.count (S9 "-"):Nat)):=by rw[g,← p];rfl
 rw[j,B4];exact xa pl [.z 7,.v<|.int (a.count (S9 "+"):Nat),.v<|.int (a.count (S9 "-"):Nat)] _ [MtD w (.lst<|a.map .str) (S9 "count") [.str<|S9 "+"] (.int (a.count (S9 "+"):Nat)),MtD w (.lst<|a.map .str) (S9 "count") [.str<|S9 "-"] (.int (a.count (S9 "-"):Nat)),(pr.map p2D).length<=B9] (by kernel_rfl) ⟨tD,tD,by rw[A1,C5];exact dW hp,trivial⟩
theorem aN8:EqF (n+1) p2D:=EqF.pair
noncomputable def rkG(pr:List<|Int×Int)(t:Int×Int×Int)(k:Nat):Bool:=!pr.contains (t.1+(0+(k:Nat)),t.2.1+(0+(k:Nat)))
theorem aRK(pl:P3 (rkC w X)<|n+1){t:Int×Int×Int}(hm:t.2.2=B)(hz:B<=1000):Rt (rkC w X) (rkS st X.d rkK (Na<|.o 6) (rkT t)<|rkR st<|pr.map p2D) (rkB.drop 7)<|.bool ((B8 B).filter<|rkG pr t).isEmpty:=by
 have g:=eU (nF (e:=che 0<|asV<|rkB.drop 7) pl [S9 "pairs",S9 "best"] [] (B8 B) (λk=>.int<|0+(k:Nat)) (rkG pr t) (λk=>.int<|0+(k:Nat)) (.rng 0 t.2.2) [] (by kernel_rfl) (by kernel_rfl) (by kernel_rfl) trivial (by rw[hm];exact aIY rfl hz) (by rw[E8,C5];exact dW hz) (λk O=>⟨λC a=>⟨[(S9 "k",.d<|.int<|0+(k:Nat))],λl=>aP (o:=fC a [.v<|.bool<|rkG pr t k] [] _ _ _ _ _ _ l) (b:=((CR [(S9 "k",.d<|.int<|0+(k:Nat))] (rkS st X.d rkK (Na<|.o 6) (rkT t)<|rkR st<|pr.map p2D).o X.d l,rkG pr t k,.int<|0+(k:Nat)),[OpV w (n+1) (op2<|E6 .NotIn) [p2D (t.1+(0+(k:Nat)),t.2.1+(0+(k:Nat))),.lst<|pr.map p2D] (.bool<|rkG pr t k)])) (by kernel_rfl) ⟨aOa (aN8 (n:=0)) (by decide) _ _,trivial⟩⟩⟩));have q:OpV w (n+1) (op2<|E6 .Eq) [.lst<|((B8 B).filter<|rkG pr t).map λk=>.int<|0+(k:Nat),.lst []] (.bool ((B8 B).filter<|rkG pr t).isEmpty):=by
  have:=aCs (w:=w) (n:=n) (k:=0) EqF.int (by decide) (((B8 B).filter<|rkG pr t).map λk=>(0:Int)+(k:Nat)) [];rw[F7,List.map_nil] at this
  rwa [show((((B8 B).filter<|rkG pr t).map λk=>(0:Int)+(k:Nat))==[])=((B8 B).filter<|rkG pr t).isEmpty by cases (B8 B).filter (rkG pr t) <;> rfl] at this
 exact sH pl [.e<|.d<|.lst<|((B8 B).filter<|rkG pr t).map λk=>.int<|0+(k:Nat),.v<|.bool ((B8 B).filter<|rkG pr t).isEmpty] _ [EvE (rkC w X) (rkS st X.d rkK (Na<|.o 6) (rkT t)<|rkR st<|pr.map p2D) (che 0<|asV<|rkB.drop 7) (.d<|.lst<|((B8 B).filter<|rkG pr t).map λk=>.int<|0+(k:Nat))<|rkS st X.d rkK (Na<|.o 6) (rkT t)<|rkR st<|pr.map p2D,type_of% q] (by kernel_rfl) ⟨g,q,trivial⟩
def yN(st:List cA):Int×Int×Int:=fR (dQ st) (cZ st) (dQ st).length
def rkV(st:List cA):Bool:=((B8 (yN st).2.2.toNat).filter<|rkG ((kpt st).map<|rkP st)<|yN st).isEmpty
theorem aEP:∀a b:List Str,cpl a b<=a.length:=by
 intro a;induction a with
 | nil=>
  intro b;cases b <;> exact C8 _
 | cons x h e=>
  intro g;cases g with
  | nil=>
  exact C8 _
  | cons y d=>
  show(if x=y then cpl h d+1 else 0)<=_;split
  .exact K8 (e d)
  .exact C8 _
theorem xC{P:β->Prop}{f:β->α->β}(h:∀s x,P s->P (f s x)):∀(l:List α){s:β},P s->P (l.foldl f s):=by
 intro l;induction l with
 | nil=>
  intro _ p;exact p
 | cons x l a=>
  intro _ p;exact a<|h _ x p
theorem aOw(st:List cA):0<=(yN st).2.2/\(yN st).2.2<=st.length:=by
 have d:(dQ st).length<=st.length:=by unfold dQ;rw[A1];exact H6 ..
 refine xC (P:=λt:Int×Int×Int=>0<=t.2.2/\t.2.2<=st.length) (λt i p=>xC (P:=λt:Int×Int×Int=>0<=t.2.2/\t.2.2<=st.length) (λt j p=>?_) _ p) _ ⟨C2 _,E2 _⟩;unfold uB;split
 .have:=aEP ((dQ st).drop i)<|(cZ st).drop j;rw[F5] at this;exact⟨E2 _,by show(cpl _ _:Int)<=_;exact(l04<|.i (.L .c .b)<|.i (.L .a kY)<|.l aF aN) d this⟩
 .exact p
theorem mG{c:C3}{b:List F9}(k:Nat)(x:EvX c S (b.take k) .next S')(ed:S'.d=S.d)(y:Rt c S' (b.drop k) oc):Rt c S b oc:=G3 k b▸yL x ed y
theorem aOr(hz:st.length<=1000):OpV w (n+2) (cal<|.ref 299) [.lst<|st.map srD] (.bool<|rkV st):=by
 refine lI (f:=aPI) [S9 "steps"] aOy ([],[.cell Nb,.cell Nb,.cell<|Na<|.d<|.lst<|st.map srD]) (by kernel_rfl) rfl (lW λO=>by kernel_rfl) (λL=>by kernel_rfl) (by kernel_rfl) (by kernel_rfl) λX pl=>?_;have u:(kpt st).length<=st.length:=by
  have:=H6 (λk=>(atR st k).1==S9 " ")<|B8 st.length
  rwa [E8] at this
 obtain⟨y,m1⟩:=aOw st;have r:Itr w (.lst<|(kpt st).map λk=>.int<|0+(k:Nat)) ((kpt st).map λk=>.int<|0+(k:Nat))<|foT rkF:=bM<|.inl ⟨_,_,rfl⟩;have A:∀(l:List Nat)(s:List<|Int×Int),l.foldl (λe k=>e++[rkP st k]) s=s++l.map (rkP st):=λl=>by
  induction l with
  | nil=>exact λs=>(D0 _).symm
  | cons x l p=>exact λs=>by rw[M7,p,B5];rfl
 refine mG 2 (aRP pl hz) rfl (mG 1 (aRO pl) rfl<|mG 1 (aRN pl hz) rfl<|mG 2 (aRM pl hz) rfl<|aAu pl [] (kpt st) (λk=>.int<|0+(k:Nat)) (λe k=>e++[rkP st k]) (λe=>rkS st X.d rkK (Na<|.o 6) (rkT<|yN st)<|rkR st<|e.map p2D) (λi e=>e.length=i) [] (.lst<|(kpt st).map λk=>.int<|0+(k:Nat)) [] (by kernel_rfl) (by kernel_rfl) trivial (λO=>rfl) r rfl (λi k e g hp=>?_) λO=>?_)
 .obtain⟨h,_⟩:=A4.mp g;refine⟨aRL pl hz ((l04<|.i fA<|.i (.L .c .b)<|.i (.Q .a .d)<|.i (.S .d .c) eF) hz u hp h)<|J9.mp (T7.mp<|D5 g).1,by rw[A5,hp];rfl⟩
 .rw[A,I1];exact aRK pl (by exact(l10<|.i bE<|.q .a<|.j bK) y)<|(l11<|.i eF<|.i gF<|.L bK dA) hz m1
abbrev aPM:I8:=fd (dC 13) (S9 "_law_steps") .none Nb lwM (.ref 293) Nb
abbrev lsB:List F9:=gR<|dC 13
theorem aDW{p:Pos}:Itr w (.rng 2 0) [] (.Name x p):=by
 refine⟨λA Z h g J k os v M d s r=>?_⟩;obtain⟨a,rfl,at_⟩:=r.inv;obtain⟨o,b,t,u,v,rfl⟩:=at_.up s;refine⟨wpAny_pyIter_range b (by decide) ?_⟩;refine⟨h.objs.size,_,k,λi=>aBx 2 0,rfl,rfl,aG _,aJ _ _,⟨_,C7 _ rfl,?_⟩,λj C n q i y d E a1 e=>(nomatch e),λj C n q d E a1=>?_,λj N n q i a1=>aAr a1⟩
 .unfold aBx;rfl
 .obtain⟨o,b,e⟩:=a1;refine⟨wpAny_pyNext_range_end d.hh (by rw[show o=_ from e] at b;exact b) (C2 _) λB I=>?_⟩;exact⟨B,_,rfl,rfl,aK.ext I⟩
theorem aPl(hn:n=0\/2<=n)(hz:n<=1000){p:Pos}:Itr w (.rng 2 (n:Int)) ((B8<|n-2).map λk=>.int<|2+(k:Nat))<|.Name x p:=by
 obtain rfl|h:=hn
 .exact aDW
 .have:=qH (w:=w) (x:=x) (p:=p) (lo:=2) (hi:=(n:Int)) (by decide) ((l01<|.i (.L bX .a)<|.l bX aF) h)<|aKf hz
  rwa [show((n:Int)-2).toNat=n-2 by exact l01<|.Q (.t<|.m aF bX)<|.m .a bX] at this
noncomputable abbrev hdE(l:List Expr):Expr:=l.headD<|.Name D6 ⟨0,0,0,0⟩
theorem aJf{c:C3}(e1:EvE c S av (.d<|.str x) S)(e3:EvE c S e (.d<|.int 1) S)(hz:x.length<=B9):EvE c S (.Subscript av (.Slice Nb (Na e) Nb pp) pos) (.d<|.str<|U7 x Nb<|Na 1) S:=
 aB8 (λO O=>⟨_,rfl⟩) e1 nH (nG e3) hz
theorem aPT{c:C3}(e1:EvE c S av (.d<|.str x) S)(e3:EvE c S e (.d<|.int 1) S)(hz:x.length<=B9):EvE c S (.Subscript av (.Slice (Na e) Nb Nb pp) pos) (.d<|.str<|U7 x (Na 1) Nb) S:=
 aB8 (λO O=>⟨_,rfl⟩) e1 (nG e3) nH hz
noncomputable def cP(k:Nat):Dt:=.int (k:Nat)
noncomputable abbrev aPa:List<|Str×Nat:=[(S9 "report",1)]
abbrev lsC(w:E9)(X:Q3):C3:=cX w aPM 294 aPa X
noncomputable abbrev lsS(kn rp:List Str)(d:D8)(x:Lo)(os:List Ow):Sd:=⟨[(S9 "known",.d<|.lst<|kn.map .str)]++x,[.cell<|Na<|.d<|.lst<|rp.map .str]++os,d⟩
theorem aSf(pl:P3 (lsC w X) n)(hn:rp.length=0\/2<=rp.length)(hz:rp.length<=1000)(hl:∀x∈rp,x.length<=100000):EvX (lsC w X) (lsS kn rp X.d [] []) (lsB.take 1) .next<|lsS kn rp X.d [(S9 "cuts",.o 1)] [.lst<|(hU pW (rp.drop 2) 2).map cP]:=by
 have e:=rp.length_map Dt.str;have q:((B8<|rp.length-2).filter λk=>pW<|(rp.drop 2).getD k D6).map (λk=>Dt.int<|2+(k:Nat))=(hU pW (rp.drop 2) 2).map cP:=by
  rw[← aDb pW D6,F5,F7];exact List.map_congr_left λk O=>by show Dt.int _=.int ((2+k:Nat):Int);rw[V2];rfl
 have at_:∀k∈B8 (rp.length-2),rp[2+k]?=Na ((rp.drop 2).getD k D6):=λk hk=>by
  have:=J9.mp hk;rw[D7,I5,B1<|by exact(l02<|.i (.S .a<|.m .b bX)<|.S (.p bX .a) .b) this];rfl
 have r:∀k∈B8 (rp.length-2),aO (.lst<|rp.map .str) (2+(k:Nat))<|.str<|(rp.drop 2).getD k D6:=λk hk=>by
  have:=J9.mp hk;exact .lst (j:=2+k) (l01<|.l (.g gJ)<|.p bX aF) ((l02<|.i fA<|.i (.S .a<|.m .b bX)<|.s (.p bX aF) gJ) hz this) (by rw[A1];exact tY (by exact l01<|.q (.p bX aF)<|.j<|.p bX .a)<|by exact(l02<|.i (.S .a<|.m .b bX)<|.S (.p bX .a) .b) this) (by rw[B3,at_ k hk];rfl)
 have u:∀k∈B8 (rp.length-2),((rp.drop 2).getD k D6).length<=B9:=λk hk=>A9 (hl _<|D5<|at_ k hk) (by rw[C5];decide);rw[← q];refine fP<|lT pl [S9 "report"] [] (B8<|rp.length-2) (λk=>.int<|2+(k:Nat)) (λk=>pW<|(rp.drop 2).getD k D6) (λk=>.int<|2+(k:Nat)) (.rng 2 ((rp.map Dt.str).length:Nat)) [(rp.map Dt.str).length<4611686018427387904] (by kernel_rfl) (by kernel_rfl) (by kernel_rfl) (by kernel_rfl) ⟨tR hz e,trivial⟩ (by rw[e];exact aPl hn hz) (by rw[E8,C5];exact(l01<|.i eF<|.L (.m .a bX) cH) hz) (λk hk=>⟨λC h=>⟨[(S9 "k",.d<|.int<|2+(k:Nat))],λl=>aP (o:=fC h [.e<|.d<|.str<|U7 ((rp.drop 2).getD k D6) Nb<|Na 1] [] _ _ _ _ _ _ l) (b:=((CR [(S9 "k",.d<|.int<|2+(k:Nat))] (lsS kn rp X.d [] []).o X.d l,pW<|(rp.drop 2).getD k D6,.int<|2+(k:Nat)),[EvE (cLc (lsC w X) (lcS<|asV lsB) (clN (lsC w X).env [S9 "report"]) C) (CR [(S9 "k",.d<|.int<|2+(k:Nat))] (lsS kn rp X.d [] []).o X.d l) (che 0<|hdE<|lcF<|asV lsB) (.d<|.str<|U7 ((rp.drop 2).getD k D6) Nb<|Na 1)<|CR [(S9 "k",.d<|.int<|2+(k:Nat))] (lsS kn rp X.d [] []).o X.d l])) (by kernel_rfl) ⟨aJf (eq3 h [.v<|.str<|(rp.drop 2).getD k D6] [aO (.lst<|rp.map .str) (2+(k:Nat))<|.str<|(rp.drop 2).getD k D6] (by kernel_rfl) ⟨r k hk,trivial⟩) jV<|u k hk,trivial⟩⟩⟩) (fW<|by kernel_rfl)
theorem aGq:(bQ hs).length=0\/2<=(bQ hs).length:=by
 cases hs with
 | nil=>exact .inl rfl
 | cons h hs=>exact .inr (by show 2<=((oR++_).length);rw[A5];exact K5 2 _)
theorem aGr(hm:HM hs):hU pW ((bQ hs).drop 2) 2=gH hs 2:=by
 cases hs with
 | nil=>rfl
 | cons h hs=>exact aHT hm
noncomputable abbrev lsN(k:Nat)(p g:Int):Lo:=[(S9 "cuts",.o 1),(S9 "steps",.o 2),(S9 "place",.d<|.int p),(S9 "grown",.d<|.int g)]
theorem aSe(pl:P3 (lsC w X)<|n+1)(hm:HM hs)(hz:(bQ hs).length<=1000):EvX (lsC w X) (lsS kn (bQ hs) X.d [(S9 "cuts",.o 1)] [.lst<|(gH hs 2).map cP]) ((lsB.drop 1).take 4) .next<|lsS kn (bQ hs) X.d (lsN 0 0 0) [.fz<|.lst<|(gH hs 2).map cP,.lst []]:=by
 have q:∀{l:List Hk}{p:Nat},(gH l p).length=l.length:=λ{l}=>by
  induction l with
  | nil=>exact rfl
  | cons h l e=>exact congrArg (·+1) e
 have r:hs.length<=1000:=by
  have:∀l:List Hk,l.length<=(l.flatMap hkT).length:=λl=>by
   induction l with
   | nil=>exact C4 _
   | cons h l e=>rw[E1,A5];show _+1<=(_+1)+_;exact(l03<|.i (.L .a .c)<|.L aR<|.p bJ .c) e
  cases hs with
  | nil=>exact C8 _
  | cons h hs=>
   have a:=this<|h::hs;have b:(bQ<|h::hs).length=(oR++(h::hs).flatMap hkT).length:=rfl;rw[A5] at b;exact(l04<|.i fA<|.i (.L .a .c)<|.i (.Q .b lB) eF) hz a b
 have j:((gH hs 2).map cP).length<=B9:=by rw[A1,q];exact dW r
 refine xa pl [.z 1,.v<|.bool Nd,.v<|.bool Nd,.t Nd] _ [(!((bQ hs).map Dt.str).isEmpty)=Nc->Al [((bQ hs).map Dt.str).length<=B9,OpV w (n+1) (op2<|E6 .NotEq) [.lst<|bA ((bQ hs).map Dt.str) Nb (Na 2) Nb,.lst<|oR.map .str] (.bool Nd),(Nd:Bool)=Nd->Al [type_of% j,OpV w (n+1) (op2<|E6 .NotEq) [.lst<|bA ((gH hs 2).map cP) Nb (Na 1) Nb,.lst<|[2].map .int] (.bool Nd)]],((!((bQ hs).map Dt.str).isEmpty)&&Nd)=Nd] (by kernel_rfl) ⟨λh=>⟨by rw[A1,C5];exact dW hz,?_,λO=>⟨j,?_,trivial⟩,trivial⟩,Bool.and_false _,trivial⟩
 all_goals
  cases hs with
  | nil=>cases h
  | cons g hs=>?_
 .have:=aCr (w:=w) (n:=n) (k:=0) EqF.str (by decide) ((bQ<|g::hs).take 2) oR;rw[show(Na (2:Int))=Na ((2:Nat):Int) from rfl,hV]
  rwa [show((bQ<|g::hs).take 2 != oR)=Nd from bne_eq_false_iff_eq.mpr rfl] at this
 .have:=aCr (w:=w) (n:=n) (k:=0) EqF.int (by decide) [2] [2];rw[show(Na (1:Int))=Na ((1:Nat):Int) from rfl,hV];exact this
end
abbrev lsF:List F9:=lsB.drop 5
abbrev lsG:List F9:=foB lsF
section
variable{c:C3}{lo:Expr}{r:Str×Str}
theorem aL7(h:iR r)(e1:EvE c S av (.d<|.str<|r.1++r.2) S)(e3:EvE c S lo (.d<|.int 1) S)(hz:(r.1++r.2).length<=100000):EvE c S (.Subscript av (.Slice Nb (Na lo) Nb pp) pos) (.d<|.str r.1) S:=by
 have:=aJf (pp:=pp) (pos:=pos) e1 e3<|A9 hz<|by decide
 rwa [aD0 h] at this
theorem aOq(h:iR r)(e1:EvE c S av (.d<|.str<|r.1++r.2) S)(e3:EvE c S lo (.d<|.int 1) S)(hz:(r.1++r.2).length<=100000):EvE c S (.Subscript av (.Slice (Na lo) Nb Nb pp) pos) (.d<|.str r.2) S:=by
 have:=aPT (pp:=pp) (pos:=pos) e1 e3<|A9 hz<|by decide
 rwa [aLf h] at this
end
noncomputable abbrev rwR(r:Str×Str):Lo:=[(S9 "row",.d<|.str<|r.1++r.2)]
section
variable{X:Q3}
abbrev lsT(kn rp:List Str)(cu:List Dt)(s:List Dt)(p g:Int)(d:D8)(x:Lo)(os:List Ow):Sd:=lsS kn rp d (lsN 0 p g++x)<|[.fz<|.lst cu,.lst s]++os
abbrev lsK(k e:Nat):Lo:=[(S9 "k",.d<|cP k),(S9 "end",.d<|cP e)]
theorem aP9(pl:P3 (lsC w X) n){s:List Dt}(hz:rp.length<=1000)(hr:(rp.drop<|k+1).take a9.length=rwT a9)(hm:∀r∈a9,iR r)(hl:∀r∈a9,(r.1++r.2).length<=100000)(zr:a9.length<=1000):EvX (lsC w X) (lsT kn rp cu s i j X.d (lsK k<|k+1+a9.length) []) (lsG.take 4) .next<|lsT kn rp cu s i j X.d ([(S9 "k",.d<|cP k),(S9 "mine",.o 3),(S9 "other",.d<|.int (news a9).length),(S9 "fits",.o 4),(S9 "rows",.o 5)]) [.fz<|.lst<|(aQ a9).map .str,.lst [],.fz<|.lst<|(rwT a9).map .str]:=by
 have e0:bA (rp.map Dt.str) (Na<|(k:Int)+1) (Na ((k+1+a9.length:Nat):Int)) Nb=(rwT a9).map .str:=by
  have:=fB (rp.map Dt.str) (k+1)<|k+1+a9.length;rw[show((k+1:Nat):Int)=(k:Int)+1 from rfl] at this;rw[this,← Y6,← R9,show k+1+a9.length-(k+1)=a9.length by exact l02<|.Q (.m iW aR) .b,hr]
 have u:EvX (lsC w X) (lsT kn rp cu s i j X.d (lsK k<|k+1+a9.length) []) (lsG.take 1) .next<|lsT kn rp cu s i j X.d ([(S9 "k",.d<|cP k),(S9 "rows",.o 3)]) [.fz<|.lst<|(rwT a9).map .str]:=by
  rw[← e0];exact cQ 1 (xa pl [] (lsT kn rp cu s i j X.d ([(S9 "k",.d<|cP k),(S9 "rows",.o 3)]) [.lst<|bA (rp.map Dt.str) (Na<|(k:Int)+1) (Na ((k+1+a9.length:Nat):Int)) Nb]) [(rp.map Dt.str).length<=B9] (by kernel_rfl) ⟨by rw[A1,C5];exact dW hz,trivial⟩)<|xa pl [.z 3] _ [] (by kernel_rfl) trivial
 have g:∀{y:Str}{q:Pos},Itr w (.lst<|(rwT a9).map .str) (a9.map λr=>.str<|r.1++r.2)<|.Name y q:=λ{y q}=>by
  have:(rwT a9).map Dt.str=a9.map λr=>.str<|r.1++r.2:=by unfold rwT;rw[F7];rfl
  rw[this];exact bM<|.inl ⟨_,_,rfl⟩
 have h:(a9.filter λr=>r.1 != S9 "+").map (λr=>Dt.str r.2)=(aQ a9).map .str:=by unfold aQ;rw[F7];rfl
 have x:EvX (lsC w X) (lsT kn rp cu s i j X.d ([(S9 "k",.d<|cP k),(S9 "rows",.o 3)]) [.fz<|.lst<|(rwT a9).map .str]) ((lsG.drop 1).take 1) .next<|lsT kn rp cu s i j X.d ([(S9 "k",.d<|cP k),(S9 "rows",.o 3),(S9 "mine",.o 4)]) [.fz<|.lst<|(rwT a9).map .str,.lst<|(aQ a9).map .str]:=by
  rw[← h];exact fP<|lT pl [] [] a9 (λr=>.str<|r.1++r.2) (λr=>r.1 != S9 "+") (λr=>.str r.2) (.lst<|(rwT a9).map .str) [] (by kernel_rfl) (by kernel_rfl) (by kernel_rfl) (by kernel_rfl) trivial g (dW zr) (λr hr=>⟨λC a=>⟨[(S9 "row",.d<|.str<|r.1++r.2)],λl=>aP (o:=fC a [.e<|.d<|.str r.1,.e<|.d<|.str r.2] [] _ _ _ _ _ _ l) (b:=((CR [(S9 "row",.d<|.str<|r.1++r.2)] (lsT kn rp cu s i j X.d [] [.fz<|.lst<|(rwT a9).map .str]).o X.d l,r.1 != S9 "+",.str r.2),[EvE (cLc (lsC w X) (lcS<|asV<|lsG.drop 1) (clN (lsC w X).env []) C) (CR (rwR r) (lsT kn rp cu s i j X.d [] [.fz<|.lst<|(rwT a9).map .str]).o X.d l) (che 0<|hdE<|lcF<|asV<|lsG.drop 1) (.d<|.str r.1)<|CR (rwR r) (lsT kn rp cu s i j X.d [] [.fz<|.lst<|(rwT a9).map .str]).o X.d l,(r.1 != S9 "+")=Nc->Al [EvE (cLc (lsC w X) (lcS<|asV<|lsG.drop 1) (clN (lsC w X).env []) C) (CR (rwR r) (lsT kn rp cu s i j X.d [] [.fz<|.lst<|(rwT a9).map .str]).o X.d l) (lcE<|asV<|lsG.drop 1) (.d<|.str r.2)<|CR (rwR r) (lsT kn rp cu s i j X.d [] [.fz<|.lst<|(rwT a9).map .str]).o X.d l]])) (by kernel_rfl) ⟨aL7 (hm r hr) (bC (aU<|by kernel_rfl) rfl) jV<|hl r hr,λO=>⟨aOq (hm r hr) (bC (aU<|by kernel_rfl) rfl) jV<|hl r hr,trivial⟩,trivial⟩⟩⟩) (fW<|by kernel_rfl)
 have A:EvE (lsC w X) (lsT kn rp cu s i j X.d ([(S9 "k",.d<|cP k),(S9 "rows",.o 3),(S9 "mine",.o 4)]) [.fz<|.lst<|(rwT a9).map .str,.fz<|.lst<|(aQ a9).map .str]) (caA 0<|asV<|lsG.drop 2) (.d<|.lst<|(a9.filter λr=>r.1 != S9 "-").map λr=>.str<|r.1++r.2)<|lsT kn rp cu s i j X.d ([(S9 "k",.d<|cP k),(S9 "rows",.o 3),(S9 "mine",.o 4)]) [.fz<|.lst<|(rwT a9).map .str,.fz<|.lst<|(aQ a9).map .str]:=
  eU (nF pl [] [] a9 (λr=>.str<|r.1++r.2) (λr=>r.1 != S9 "-") (λr=>.str<|r.1++r.2) (.lst<|(rwT a9).map .str) [] (by kernel_rfl) (by kernel_rfl) (by kernel_rfl) trivial g (dW zr) (λr hr=>⟨λC a=>⟨rwR r,λl=>aP (o:=fC a [.e<|.d<|.str r.1] [] _ _ _ _ _ _ l) (b:=((CR (rwR r) (lsT kn rp cu s i j X.d ([(S9 "k",.d<|cP k),(S9 "rows",.o 3),(S9 "mine",.o 4)]) [.fz<|.lst<|(rwT a9).map .str,.fz<|.lst<|(aQ a9).map .str]).o X.d l,r.1 != S9 "-",.str<|r.1++r.2),[EvE (cLc (lsC w X) (lcS<|caA 0<|asV<|lsG.drop 2) (clN (lsC w X).env []) C) (CR (rwR r) (lsT kn rp cu s i j X.d [] [.fz<|.lst<|(rwT a9).map .str,.fz<|.lst<|(aQ a9).map .str]).o X.d l) (che 0<|hdE<|lcF<|caA 0<|asV<|lsG.drop 2) (.d<|.str r.1)<|CR (rwR r) (lsT kn rp cu s i j X.d [] [.fz<|.lst<|(rwT a9).map .str,.fz<|.lst<|(aQ a9).map .str]).o X.d l])) (by kernel_rfl) ⟨aL7 (hm r hr) (bC (aU<|by kernel_rfl) rfl) jV<|hl r hr,trivial⟩⟩⟩))
 have p:(((a9.filter λr=>r.1 != S9 "-").map λr=>Dt.str<|r.1++r.2).length:Int)=(news a9).length:=by unfold news;rw[A1,A1]
 refine cQ 1 u<|cQ 1 x ?_;rw[← p];exact xa pl [.z 4,.e<|.d<|.lst<|(a9.filter λr=>r.1 != S9 "-").map λr=>.str<|r.1++r.2] _ [EvE (lsC w X) (lsT kn rp cu s i j X.d ([(S9 "k",.d<|cP k),(S9 "rows",.o 3),(S9 "mine",.o 4)]) [.fz<|.lst<|(rwT a9).map .str,.fz<|.lst<|(aQ a9).map .str]) (caA 0<|asV<|lsG.drop 2) (.d<|.lst<|(a9.filter λr=>r.1 != S9 "-").map λr=>.str<|r.1++r.2)<|lsT kn rp cu s i j X.d ([(S9 "k",.d<|cP k),(S9 "rows",.o 3),(S9 "mine",.o 4)]) [.fz<|.lst<|(rwT a9).map .str,.fz<|.lst<|(aQ a9).map .str],((a9.filter λr=>r.1 != S9 "-").map λr=>Dt.str<|r.1++r.2).length<4611686018427387904] (by kernel_rfl) ⟨A,by have:=H6 (λr:Str×Str=>r.1 != S9 "-") a9;rw[A1];exact aKe zr this,trivial⟩
end
section
variable{X:Q3}{s:List Dt}{p o:Nat}{g:Int}
abbrev lsU(kn rp:List Str)(cu:List Dt)(s:List Dt)(p:Nat)(g:Int)(d:D8)(k:Nat)(a9:aH)(x:Lo)(fl:List Dt):Sd:=lsT kn rp cu s p g d ([(S9 "k",.d<|cP k),(S9 "mine",.o 3),(S9 "other",.d<|.int (news a9).length),(S9 "fits",.o 4),(S9 "rows",.o 5)]++x) [.fz<|.lst<|(aQ a9).map .str,.lst fl,.fz<|.lst<|(rwT a9).map .str]
abbrev lsI:List F9:=lsG.drop 4
noncomputable def pX(o p j:Nat):List Dt:=if o<p+j then [.int (o:Nat)] else []
theorem aMP{j:Nat}(e:¬B=C+j):pX B C (j+1)=pX B C j:=by
 unfold pX;by_cases h:B<C+j
 .rw[if_pos h,if_pos<|show B<C+(j+1) from Nat.lt_succ_of_lt h]
 .rw[if_neg h,if_neg<|show ¬B<C+(j+1) from λz=>(Z6<|I3 z).elim h e]
theorem aSb(pl:P3 (lsC w X)<|n+2)(zk:kn.length<=1000)(zr:rp.length<=1000)(zw:a9.length<=1000)(ek:rp[k]?=Na (cE (o:Int) (aQ a9).length ((o:Int)+g) (news a9).length))(po:p<=o)(pg:0<=(p:Int)+g)(gz:g<=100000)(eo:kn.drop o=aQ a9++kn.drop (o+(aQ a9).length))(j:Nat)(hj:p+j<=kn.length):TnT (lsC w X) (lsU kn rp cu s p g X.d k a9 [] (pX o p j)) (foT lsI) (.d<|.int<|(p:Int)+(j:Nat)) (foB lsI)<|lsU kn rp cu s p g X.d k a9 [] (pX o p<|j+1):=by
 have e:=(aQ a9).length_map Dt.str;have x:(aQ a9).length<=1000:=A9 (by unfold aQ;rw[A1];exact H6 ..) zw;have zn:(news a9).length<=1000:=A9 (by unfold news;rw[A1];exact H6 ..) zw;have hk:=(A4.mp ek).1;have u:aO (.lst<|rp.map .str) (k:Nat)<|.str<|cE (o:Int) (aQ a9).length ((o:Int)+g) (news a9).length:=.lst (j:=k) (by exact l01<|.l (.g gJ) aF) (by exact(l02<|.i fA<|.i dT<|.s aF gJ) zr hk) (by rw[A1];exact aAq hk) (by rw[B3,ek];rfl);have r:fQ w (n+2) (S9 "_law_head") [.int<|(p:Int)+(j:Nat),.int ((aQ a9).map Dt.str).length,.int<|(p:Int)+(j:Nat)+g,.int (news a9).length] (.str<|cE ((p:Int)+(j:Nat)) ((aQ a9).map Dt.str).length ((p:Int)+(j:Nat)+g) (news a9).length):=⟨_,2,by exact l01<|.L bX<|.p .a bX,aE7,by kernel_rfl,aMw (by exact l02<|.l aE<|.p aF aN) (by exact(l03<|.i (.L .c dA)<|.i (.L bB .c)<|.s (.p aF aN) cL) zk hj) (by exact ar3) (by exact(l02<|.i bH<|.i fA<|.s aF cL) e x) (by exact(l12<|.i (.l aE<|.p aF .a)<|.l aE<|.p (.p aF aN) .a) pg) (by exact(l13<|.i (.L .c dA)<|.i (.l .a<|.k 100000)<|.i (.L bB .c)<|.s (.p (.p aF aN) .a) cL) zk gz hj) (by exact ar3)<|by exact(l01<|.i eF<|.s aF cL) zn⟩
 by_cases h:o=p+j
 .have A:(o:Int)=(p:Int)+(j:Nat):=by exact(l03<|.i (.Q .a cY)<|.q aF<|.p aN fU) h
  have y:pX o p j=[]:=if_neg (by exact(l03<|.i (.Q .a cY)<|.n<|.S .a cY) h);have B:pX o p (j+1)=[.int<|(p:Int)+(j:Nat)]:=(if_pos<|by exact(l03<|.i (.Q .a cY)<|.S .a pP) h).trans (by rw[A]);rw[y,B];refine tq pl [.v<|.str<|cE (o:Int) (aQ a9).length ((o:Int)+g) (news a9).length,.v<|.str<|cE ((p:Int)+(j:Nat)) ((aQ a9).map Dt.str).length ((p:Int)+(j:Nat)+g) (news a9).length,.t Nc,.v<|.bool Nc,.t Nc] [type_of% u,((aQ a9).map Dt.str).length<4611686018427387904,type_of% r,((cE (o:Int) (aQ a9).length ((o:Int)+g) (news a9).length)==(cE ((p:Int)+(j:Nat)) ((aQ a9).map Dt.str).length ((p:Int)+(j:Nat)+g) (news a9).length))=Nc,((aQ a9).map Dt.str).length<4611686018427387904,(kn.map Dt.str).length<=B9,OpV w (n+2) (op2<|E6 .Eq) [.lst<|bA (kn.map Dt.str) (Na<|(p:Int)+(j:Nat)) (Na<|(p:Int)+(j:Nat)+((aQ a9).map Dt.str).length) Nb,.lst<|(aQ a9).map .str] (.bool Nc),Nc=Nc,([]:List Dt).length<=B9] (by kernel_rfl) ⟨u,by exact aFu e x,r,by rw[A,e,beq_self_eq_true],by exact aFu e x,by rw[A1,C5];exact dW zk,?_,rfl,C8 _,trivial⟩;have:=fB (kn.map Dt.str) o<|o+((aQ a9).map Dt.str).length;rw[V2,A] at this;rw[this,← Y6,← R9,e,show o+(aQ a9).length-o=(aQ a9).length by exact l02<|.Q (.m bB .a) .b,eo,List.take_left];have v:=aCs (w:=w) (n:=n+1) (k:=0) EqF.str (by decide) (aQ a9)<|aQ a9
  rwa [beq_self_eq_true] at v
 .have y:pX o p (j+1)=pX o p j:=aMP (by assumption);rw[y];refine tq pl [.v<|.str<|cE (o:Int) (aQ a9).length ((o:Int)+g) (news a9).length,.v<|.str<|cE ((p:Int)+(j:Nat)) ((aQ a9).map Dt.str).length ((p:Int)+(j:Nat)+g) (news a9).length,.t Nd] [type_of% u,((aQ a9).map Dt.str).length<4611686018427387904,type_of% r,((cE (o:Int) (aQ a9).length ((o:Int)+g) (news a9).length)==(cE ((p:Int)+(j:Nat)) ((aQ a9).map Dt.str).length ((p:Int)+(j:Nat)+g) (news a9).length))=Nd] (by kernel_rfl) ⟨u,by exact aFu e x,r,?_,trivial⟩;refine beq_eq_false_iff_ne.mpr λz=>h ?_;rw[e,← V2] at z;exact aE3 z
theorem aP8(pl:P3 (lsC w X)<|n+2)(zk:kn.length<=1000)(zr:rp.length<=1000)(zw:a9.length<=1000)(ek:rp[k]?=Na (cE (o:Int) (aQ a9).length ((o:Int)+g) (news a9).length))(po:p<=o)(ol:o<=kn.length)(pg:0<=(p:Int)+g)(gz:g<=100000)(eo:kn.drop o=aQ a9++kn.drop (o+(aQ a9).length)):EvX (lsC w X) (lsU kn rp cu s p g X.d k a9 [] []) (lsI.take 1) .next<|lsU kn rp cu s p g X.d k a9 [] [.int (o:Nat)]:=by
 have e:=kn.length_map Dt.str;have h:pX o p 0=[]:=if_neg (by exact(l02<|.i (.L .b .a)<|.n<|.S .a<|.p .b aE) po);have q:pX o p (((kn.map Dt.str).length:Int)+1-p).toNat=[.int (o:Nat)]:=if_pos (by exact(l04<|.i (.L .a .d)<|.i (.Q .c .d)<|.S .a<|.p .b<|.t<|.m (.p fU aC) aN) ol e);rw[← q,← h];exact oX pl [] (λj=>lsU kn rp cu s p g X.d k a9 [] (pX o p j)) [(kn.map Dt.str).length<4611686018427387904] (by kernel_rfl) ⟨_,_,rfl⟩ (by kernel_rfl) ⟨by exact tR zk e,trivial⟩ (by exact ar3) (by exact(l04<|.i (.L .a .c)<|.i (.L .c .d)<|.i (.Q .b .d)<|.l aF<|.p aN aC) po ol e) (by exact(l02<|.i fA<|.i bH<|.l dL cL) zk e) (λO=>rfl) (λj r=>aSb pl zk zr zw ek po pg gz eo j<|by exact(l04<|.i (.Q .d .c)<|.i (.S .b<|.t<|.m (.p (.j .d) aC) aF)<|.L bB .c) e r) cJ
end
noncomputable def exE(b:List F9):Expr:=match b with
 | .Expr e _::_=>e
 | _=>.Name D6 ⟨0,0,0,0⟩
section
variable{X:Q3}{s:List cA}{p o:Nat}{g:Int}
abbrev lsJ:List F9:=lsG.drop 5
abbrev lsY(kn rp:List Str)(cu:List Dt)(s:List cA)(p k o:Nat)(g:Int)(a9:aH)(d:D8):Sd:=lsT kn rp cu (s.map srD++(hid<|(kn.drop p).take<|o-p).map srD) p g d ([(S9 "k",.d<|cP k),(S9 "mine",.o 3),(S9 "other",.d<|.int (news a9).length),(S9 "fits",.o 4),(S9 "rows",.o 5)]) [.fz<|.lst<|(aQ a9).map .str,.lst [.int (o:Nat)],.fz<|.lst<|(rwT a9).map .str]
abbrev lsV(kn rp:List Str)(cu:List Dt)(s:List cA)(p k o:Nat)(g:Int)(a9:aH)(d:D8):Sd:=lsU kn rp cu (s.map srD) p g d k a9 [] [.int (o:Nat)]
theorem aP7(pl:P3 (lsC w X)<|n+2)(zk:kn.length<=1000)(zw:a9.length<=1000)(hm:∀r∈a9,iR r)(hl:∀r∈a9,(r.1++r.2).length<=100000)(po:p<=o)(ol:o<=kn.length)(hk:(Nf (((k:Nat):Int)>2)&&((o:Int)==(p:Int)))=Nd)(zs:s.length<=10000000):EvX (lsC w X) (lsV kn rp cu s p k o g a9 X.d) lsJ .next<|lsT kn rp cu ((s++(hid ((kn.drop p).take<|o-p)++shn a9)).map srD) ((o+bI a9:Nat):Int) (g+((bT a9:Int)-bI a9)) X.d [] []:=by
 have h:aO (.lst [.int (o:Nat)]) 0<|.int (o:Nat):=.lst (by decide) (by decide) rfl rfl;have E:=(aQ a9).length_map Dt.str;have J:bT a9=(news a9).length:=(A1 ..).symm;have cO:=(E.trans<|rD a9).symm;have I:(hid<|(kn.drop p).take<|o-p).length<=1000:=by unfold hid;rw[A1,G4];exact(l04<|.i (.L .d dA)<|.i (.L .a .d)<|.L (.n bG .c) dA) zk ol
 have M:(shn a9).length<=1000:=by unfold shn;rw[A1];exact zw
 have A:EvE (lsC w X) (lsV kn rp cu s p k o g a9 X.d) (caA 0<|exE<|lsJ.drop 1) (.d<|.lst<|(hid<|(kn.drop p).take<|o-p).map srD)<|lsV kn rp cu s p k o g a9 X.d:=by
  have y:Itr w (.lst<|bA (kn.map Dt.str) (Na ((p:Nat):Int)) (Na ((o:Nat):Int)) Nb) (((kn.drop p).take<|o-p).map .str)<|lcT<|caA 0<|exE<|lsJ.drop 1:=by
   rw[fB,← Y6,← R9];exact bM<|.inl ⟨_,_,rfl⟩
  have q:=eU (nF pl [] [.v<|.int (o:Nat)] ((kn.drop p).take<|o-p) Dt.str (λO=>Nc) (λx=>srD (spS,x,Nd)) _ [type_of% h,(kn.map Dt.str).length<=B9] (by kernel_rfl) (by kernel_rfl) (by kernel_rfl) ⟨h,by rw[A1,C5];exact dW zk,trivial⟩ y (by rw[G4,C5];exact(l04<|.i (.L .d dA)<|.i (.L .a .d)<|.L (.n bG .c) cH) zk ol) (λx O=>⟨λC u=>⟨[(S9 "line",.d<|.str x)],λl=>aP (o:=fC u [] [] _ _ _ _ _ _ l) (b:=((CR [(S9 "line",.d<|.str x)] (lsV kn rp cu s p k o g a9 X.d).o X.d l,Nc,srD (spS,x,Nd)),[])) (by kernel_rfl) trivial⟩⟩));rw[J4.mpr λO O=>rfl] at q;unfold hid;rw[F7];exact q
 have B:EvE (lsC w X) (lsY kn rp cu s p k o g a9 X.d) (caA 0<|exE<|lsJ.drop 2) (.d<|.lst<|(shn a9).map srD)<|lsY kn rp cu s p k o g a9 X.d:=by
  have y:Itr w (.lst<|(rwT a9).map .str) (a9.map λr=>.str<|r.1++r.2)<|lcT<|caA 0<|exE<|lsJ.drop 2:=by
   have:(rwT a9).map Dt.str=a9.map λr=>.str<|r.1++r.2:=by unfold rwT;rw[F7];rfl
   rw[this];exact bM<|.inl ⟨_,_,rfl⟩
  have q:=eU (nF pl [] [] a9 (λr=>.str<|r.1++r.2) (λO=>Nc) (λr=>srD (r.1,r.2,Nc)) (.lst<|(rwT a9).map .str) [] (by kernel_rfl) (by kernel_rfl) (by kernel_rfl) trivial y (dW zw) (λr j=>⟨λC u=>⟨rwR r,λl=>aP (o:=fC u [.e<|.d<|.str r.1,.e<|.d<|.str r.2] [] _ _ _ _ _ _ l) (b:=((CR (rwR r) (lsY kn rp cu s p k o g a9 X.d).o X.d l,Nc,srD (r.1,r.2,Nc)),[Nc=Nc->Al [EvE (cLc (lsC w X) (lcS<|caA 0<|exE<|lsJ.drop 2) (clN (lsC w X).env []) C) (CR (rwR r) (lsY kn rp cu s p k o g a9 X.d).o X.d l) (che 0<|lcE<|caA 0<|exE<|lsJ.drop 2) (.d<|.str r.1)<|CR (rwR r) (lsY kn rp cu s p k o g a9 X.d).o X.d l,EvE (cLc (lsC w X) (lcS<|caA 0<|exE<|lsJ.drop 2) (clN (lsC w X).env []) C) (CR (rwR r) (lsY kn rp cu s p k o g a9 X.d).o X.d l) (che 1<|lcE<|caA 0<|exE<|lsJ.drop 2) (.d<|.str r.2)<|CR (rwR r) (lsY kn rp cu s p k o g a9 X.d).o X.d l]])) (by kernel_rfl) ⟨λO=>⟨aL7 (hm r j) (bC (aU<|by kernel_rfl) rfl) jV<|hl r j,aOq (hm r j) (bC (aU<|by kernel_rfl) rfl) jV<|hl r j,trivial⟩,trivial⟩⟩⟩));rw[J4.mpr λO O=>rfl] at q;unfold shn;rw[F7];exact q
 rw[B4,B4,← B5,J,cO];refine xa pl [.v<|.bool Nd,.v<|.int (o:Nat),.t Nd,.e<|.d<|.lst<|(hid<|(kn.drop p).take<|o-p).map srD,.e<|.d<|.lst<|(shn a9).map srD,.v<|.int (o:Nat)] _ [OpV w (n+2) (op2<|E6 .Eq) [.lst<|[(o:Int)].map .int,.lst<|([]:List Int).map .int] (.bool Nd),(Nd:Bool)=Nd->Al [Nf (((k:Nat):Int)>2)=Nc->Al [type_of% h]],(Nf (((k:Nat):Int)>2)&&((o:Int)==(p:Int)))=Nd,type_of% A,(s.map srD).length+((hid<|(kn.drop p).take<|o-p).map srD).length<=B9,type_of% B,(s.map srD++((hid<|(kn.drop p).take<|o-p).map srD)).length+((shn a9).map srD).length<=B9,type_of% h,((aQ a9).map Dt.str).length<4611686018427387904,((aQ a9).map Dt.str).length<4611686018427387904] (by kernel_rfl) ⟨?_,λO=>⟨λO=>⟨h,trivial⟩,trivial⟩,hk,A,by rw[A1,A1];exact(l02<|.i wR<|.i fA<|.L bB cH) zs I,B,by rw[A5,A1,A1,A1];exact(l03<|.i wR<|.i fA<|.i (.L .c dA)<|.L jP cH) zs I M,h,?_,?_,trivial⟩
 .exact aCs (k:=0) EqF.int (by decide) [(o:Int)] []
 all_goals
  have:=H6 (λr:Str×Str=>r.1 != plS) a9;rw[E];unfold aQ;rw[A1];exact aKe zw this
end
theorem jJ{h:Hk}:(bQ<|h::hs).length=2+((h::hs).flatMap hkT).length:=by
 have e:bQ (h::hs)=oR++(h::hs).flatMap hkT:=rfl;rw[e,A5];have:oR.length=2:=rfl;rw[this]
theorem zK(z:(bQ hs).length<=1000):hs.length<=1000:=by
 have d:∀l:List Hk,l.length<=(l.flatMap hkT).length:=λl=>by
  induction l with
  | nil=>exact C4 _
  | cons h l e=>rw[E1,A5,gQ];show _+1<=_;exact(l03<|.i (.L .a .c)<|.L aR<|.p (.p aC .b) .c) e
 cases hs with
 | nil=>exact C8 _
 | cons h hs=>
  have a:=d<|h::hs;rw[jJ] at z;exact(l02<|.i (.L (.p bX .b) dA)<|.i fF eF) z a
section
variable{X:Q3}
structure aAc(kn:List Str)(hs:List Hk):Prop where
 ok:HOk kn hs 0 0 Nd
 hm:HM hs
 zk:kn.length<=500
 zr:(bQ hs).length<=1000
 lr:∀x∈bQ hs,x.length<=100000
 g:∀i,((hs.take i).foldl (lsA kn) ([],0,0)).2.2<=100000
abbrev lsZ(kn:List Str)(hs:List Hk)(d:D8)(t:List cA×Nat×Int):Sd:=lsT kn (bQ hs) ((gH hs 2).map cP) (t.1.map srD) (t.2.1:Int) t.2.2 d [] []
theorem aSd(pl:P3 (lsC w X)<|n+2)(H:aAc kn hs):EvX (lsC w X) (lsZ kn hs X.d ([],0,0)) ((lsB.drop 5).take 1) .next<|lsZ kn hs X.d<|hs.foldl (lsA kn) ([],0,0):=by
 obtain⟨pos,e,hf⟩:=jC (c:=lsC w X) (b:=(lsB.drop 5).take 1) (by kernel_rfl);have zz:((((gH hs 2).map cP).zip<|((gH hs 2).map cP).drop 1++[cP (bQ hs).length]).map zpT)=(prF hs 2).map λx=>.tup [cP x.1,cP x.2]:=by
  have ez:=aFK cP (cP (bQ hs).length) (hs:=hs) (q:=2) (λh=>by
   cases hs with
   | nil=>exact absurd rfl h
   | cons h hs=>
    rw[jJ])
  rw[ez];exact(F7 ..).trans<|List.map_congr_left λx O=>rfl
 have lp:(prF hs 2).length=hs.length:=by
  have:∀(l:List Hk)(q:Nat),(prF l q).length=l.length:=λl=>by
   induction l with
   | nil=>exact λO=>rfl
   | cons h l M=>exact λq=>congrArg (·+1)<|M _
  exact this hs 2
 have it:ItE (lsC w X) (lsZ kn hs X.d ([],0,0)) (foI<|(lsB.drop 5).take 1) (foT<|(lsB.drop 5).take 1) ((prF hs 2).map λx=>.tup [cP x.1,cP x.2])<|lsZ kn hs X.d ([],0,0):=by
  rw[← zz];refine aHa (as:=[.o 1,.d<|.lst<|((gH hs 2).map cP).drop 1++[cP (bQ hs).length]]) pl.toFn3 (by kernel_rfl) rfl rfl (bN rfl (bC (aU<|by kernel_rfl) rfl)<|bN rfl ?_ eV) (by kernel_rfl);have T:=lK ((gH hs 2).map cP) 1;have R:(gH hs 2).length<=1000:=by
   have h1:∀(l:List Hk)(q:Nat),(gH l q).length=l.length:=λl=>by
    induction l with
    | nil=>exact λO=>rfl
    | cons h l M=>exact λq=>congrArg (·+1)<|M _
   rw[h1];exact zK H.zr
  have B:=H.zr;have e3:cP (bQ hs).length=.int (((bQ hs).map Dt.str).length:Nat):=by rw[A1];rfl
  rw[← T,e3];refine eq3 pl [] [((gH hs 2).map cP).length<=B9,((bQ hs).map Dt.str).length<4611686018427387904,(bA ((gH hs 2).map cP) (Na 1) Nb Nb).length+[Dt.int ((bQ hs).map Dt.str).length].length<=B9] (by kernel_rfl) ⟨by rw[A1,C5];exact dW R,by rw[A1];exact aKd B,?_,trivial⟩;rw[show(Na (1:Int))=Na ((1:Nat):Int) from rfl,T,F5,A1,C5];exact(l01<|.i eF<|.L (.p cW aC) cH) R
 have lt:hs.take ((prF hs 2).map λx=>Dt.tup [cP x.1,cP x.2]).length=hs:=by rw[A1,lp,I4]
 have q:=aBc (pos:=pos) (body:=foB<|(lsB.drop 5).take 1) (λi=>lsZ kn hs X.d<|(hs.take i).foldl (lsA kn) ([],0,0)) hf (λO=>rfl) it .refl (λi=>((hs.take i).foldl (lsA kn) ([],0,0)).1.length<=2000*i) (C8 _) λi y ey V=>?_
 .rw[lt] at q;exact(congrArg (λb=>EvX (lsC w X) (lsZ kn hs X.d ([],0,0)) b .next<|lsZ kn hs X.d<|hs.foldl (lsA kn) ([],0,0)) e).mpr (bY q cJ)
 .rw[B3] at ey;obtain⟨x,I,rfl⟩:=B0.mp ey;have ne:bQ hs=oR++hs.flatMap hkT:=by
   cases hs with
   | nil=>cases I
   | cons h hs=>rfl
  obtain⟨h,C,ex2,U,E,_⟩:=aOD (pre:=oR) I;rw[← ne] at U E;obtain⟨A,hz⟩:=aMs (t:=([],0,0)) H.ok (by decide) C;have hg:=H.g i;have es:(hs.take<|i+1).foldl (lsA kn) ([],0,0)=lsA kn ((hs.take i).foldl (lsA kn) ([],0,0)) h:=by
   rw[K9,C,O0];rfl
  rw[es];generalize (hs.take i).foldl (lsA kn) ([],0,0)=t at *;have nn:=A.1.nn;have eg:=A.1.eg;have at_:=A.1.at_;have B:=H.zr;have N:=H.zk;have e1:=(P7 nn).symm;have J:h.2.2.length<=1000:=by
   have:=congrArg Y0 E;unfold rwT at this;rw[G4,F5,A1] at this;exact(l03<|.i fA<|.i (.Q (.n .a<|.m .b cD) .a) eF) B this
  have Z:∀r∈h.2.2,(r.1++r.2).length<=100000:=λr hr=>H.lr _ (by
   have:r.1++r.2∈rwT h.2.2:=C1.mpr ⟨r,hr,rfl⟩;rw[← E] at this;exact List.mem_of_mem_drop<|List.mem_of_mem_take this)
  have xl:(bQ hs)[x.1]?=Na (cE (h.1.toNat:Int) (aQ h.2.2).length ((h.1.toNat:Int)+t.2.2) (news h.2.2).length):=by
   rw[U,eg,← e1,rD,show(news h.2.2).length=bT h.2.2 from A1 ..]
  have hi:=(A4.mp C).1;have xm:=zK B;have hk:(Nf (((x.1:Nat):Int)>2)&&((h.1.toNat:Int)==(t.2.1:Int)))=false:=by
   rw[Bool.and_eq_false_iff];by_cases Y:i=0
   .subst Y;refine .inl<|decide_eq_false ?_;cases hs with
    | nil=>cases I
    | cons h hs=>cases I;exact(by decide:¬((2:Nat):Int)>2)
   .exact .inr<|beq_eq_false_iff_ne.mpr (by have:=A.1.lt (by simp;exact(l01<|.i (.n<|.Q .a aE)<|.S aE .a) Y);exact(l11<|.i (.S .a bK)<|.n<|.q (.j bK) aF) this)
  refine⟨lsT kn (bQ hs) ((gH hs 2).map cP) (t.1.map srD) (t.2.1:Int) t.2.2 X.d (lsK x.1 x.2) [],gY<|by kernel_rfl,.t (.next (lsZ kn hs X.d<|lsA kn t h) ?_ .refl) ?_⟩
  .rw[ex2];exact cQ 4 (aP9 pl B E (H.hm h<|D5 C).2 Z J) (cQ 1 (aP8 pl (aKc N) B J xl A.1.le (by lia) hz hg (by rw[rD];exact at_))<|aP7 pl (aKc N) J (H.hm h<|D5 C).2 Z A.1.le (by lia) hk<|(l03<|.i (.L .a<|.u 2000 .b)<|.i (.S .b .c)<|.i (.L .c dA) wR) V hi xm)
  .show(t.1++(hid _++shn _)).length<=_;unfold hid shn;simp only[A5,A1,G4,F5];exact(l15<|.i (.L .a<|.u 2000 .e)<|.i (.L .c<|.k 500)<|.i (.L .d dA)<|.L (.p .a<|.p (.n (.m bK .b) lA) .d)<|.u 2000<|.p .e aC) V N J
theorem aSc(pl:P3 (lsC w X)<|n+2)(H:aAc kn hs){t:List cA×Nat×Int}(zt:t.1.length<=10000000):Rt (lsC w X) (lsZ kn hs X.d t) (lsB.drop 6)<|.lst<|(t.1++hid (kn.drop t.2.1)).map srD:=by
 have g:=H.zk;have j:Itr w (.lst<|bA (kn.map Dt.str) (Na ((t.2.1:Nat):Int)) Nb Nb) ((kn.drop t.2.1).map .str)<|lcT<|caA 0<|exE<|lsB.drop 6:=by
  rw[lK,← Y6];exact bM<|.inl ⟨_,_,rfl⟩
 have q:=eU (nF pl [] [] (kn.drop t.2.1) Dt.str (λO=>Nc) (λx=>srD (spS,x,Nd)) _ [(kn.map Dt.str).length<=B9] (by kernel_rfl) (by kernel_rfl) (by kernel_rfl) ⟨by rw[A1,C5];exact(l01<|.i (.L .a<|.k 500) jQ) g,trivial⟩ j (by rw[F5,C5];exact(l02<|.i (.L .a<|.k 500)<|.L bG cH) g) (λx O=>⟨λC h=>⟨[(S9 "line",.d<|.str x)],λl=>aP (o:=fC h [] [] _ _ _ _ _ _ l) (b:=((CR [(S9 "line",.d<|.str x)] (lsZ kn hs X.d t).o X.d l,Nc,srD (spS,x,Nd)),[])) (by kernel_rfl) trivial⟩⟩));rw[J4.mpr λO O=>rfl] at q;have e:(hid<|kn.drop t.2.1).map srD=(kn.drop t.2.1).map λx=>srD (spS,x,Nd):=by unfold hid;rw[F7];rfl
 rw[← e] at q;rw[B4];exact sH pl [.e<|.d<|.lst<|(hid<|kn.drop t.2.1).map srD] _ [EvE (lsC w X) (lsZ kn hs X.d t) (caA 0<|exE<|lsB.drop 6) (.d<|.lst<|(hid<|kn.drop t.2.1).map srD)<|lsZ kn hs X.d t,(t.1.map srD).length+((hid<|kn.drop t.2.1).map srD).length<=B9] (by kernel_rfl) ⟨q,by unfold hid;rw[A1,A1,A1,F5];exact(l03<|.i wR<|.i (.L .b<|.k 500)<|.L (.p .a dK) cH) zt g,trivial⟩
theorem aGX(zk:kn.length<=500):∀(hs:List Hk)(t:List cA×Nat×Int),(hs.foldl (lsA kn) t).1.length<=t.1.length+500*hs.length+(hs.flatMap hkT).length:=by
 intro hs;induction hs with
 | nil=>
  intro t;show t.1.length<=_;exact l03<|.L .a<|.p (.p .a<|.u 500 .b) .c
 | cons h hs g=>
  intro t;have g:=g<|lsA kn t h;have a:(lsA kn t h).1.length<=t.1.length+500+h.2.2.length:=by
   show(t.1++(hid _++shn _)).length<=_;unfold hid shn;simp only[A5,A1,G4,F5];exact(l14<|.i (.L .c<|.k 500)<|.L (.p .a<|.p (.n (.m bK .b) lA) .d)<|.p (.p .a<|.k 500) .d) zk
  rw[E1,A5,gQ];exact(l06<|.i (.L .a<|.p (.p .f<|.u 500 .c) .e)<|.i (.L .f<|.p (.p .b<|.k 500) .d)<|.L .a<|.p (.p .b<|.u 500 cD)<|.p (.p aC .d) .e) g a
theorem aG1(H:aAc kn hs):OpV w (n+3) (cal<|.ref 294) [.lst<|kn.map .str,.lst<|(bQ hs).map .str] (.lst<|(rb kn hs 0).map srD):=by
 refine lI (f:=aPM) [S9 "known",S9 "report"] aPa ([(S9 "known",.d<|.lst<|kn.map .str)],[.cell<|Na<|.d<|.lst<|(bQ hs).map .str]) (by kernel_rfl) rfl (lW λO O=>by kernel_rfl) (λL=>by kernel_rfl) (by kernel_rfl) (by kernel_rfl) λX pl=>?_;have j:(hs.foldl (lsA kn) ([],0,0)).1.length<=10000000:=by
  have:=aGX H.zk hs ([],0,0);have z:=H.zr;have h:=zK z;cases hs with
  | nil=>exact C8 _
  | cons h hs=>rw[jJ] at z;simp only[U6] at this;exact(l03<|.i (.L .a<|.p (.p aE<|.u 500 .b) .c)<|.i (.L (.p bX .c) dA)<|.i fA wR) this z h
 have g:=aSf pl (kn:=kn) aGq H.zr H.lr;rw[aGr H.hm] at g;have e:=aGt kn hs ([],0,0);rw[I1] at e;rw[e];exact mG 1 g rfl<|mG 4 (aSe pl H.hm H.zr) rfl<|mG 1 (aSd pl H) rfl<|aSc pl H j
abbrev aPN:I8:=fd (dC 15) (S9 "_law_read") .none Nb lwM (.ref 303) Nb
abbrev ldB:List F9:=gR<|dC 15
noncomputable abbrev aPf:List<|Str×Nat:=[(S9 "come",1)]
abbrev ldC(w:E9)(X:Q3):C3:=cX w aPN 304 aPf X
noncomputable abbrev ldS(kn rp:List Str)(N:Nat)(d:D8)(x:Lo)(cm:Option Sv)(os:List Ow):Sd:=⟨[(S9 "known",.d<|.lst<|kn.map .str),(S9 "report",.d<|.lst<|rp.map .str),(S9 "n",.d<|.int N)]++x,[.cell cm]++os,d⟩
abbrev ldT(st:List cA):Lo:=[(S9 "steps",.d<|.lst<|st.map srD)]
noncomputable def iA(N:Nat)(st:List cA)(k:Nat):List cA:=((st.drop<|k-N).take<|k+N+1-(k-N)).filter λr=>r.1 != S9 " "
theorem aSk(pl:P3 (ldC w X)<|n+4)(H:aAc kn hs):EvX (ldC w X) (ldS kn (bQ hs) N X.d [] Nb []) (ldB.take 2) .next<|ldS kn (bQ hs) N X.d (ldT<|rb kn hs 0) Nb []:=by
 exact xa pl [.v<|.lst<|(rb kn hs 0).map srD,.t Nd,.t Nd] _ [fQ w (n+4) (S9 "_law_steps") [.lst<|kn.map .str,.lst<|(bQ hs).map .str] (.lst<|(rb kn hs 0).map srD),OpV w 0 (op2<|E6 .Is) [.lst<|(rb kn hs 0).map srD,.none] (.bool Nd),(Nd:Bool)=Nd] (by kernel_rfl) ⟨⟨_,3,l01<|.L dB<|.p .a dJ,aBS,by kernel_rfl,aG1 H⟩,yR _,rfl,trivial⟩
theorem aSj(pl:P3 (ldC w X)<|n+4)(hN:N<=3)(hz:st.length<=1000)(hn:∀k,k<st.length->(atR st k).2.2=!(iA N st k).isEmpty):EvX (ldC w X) (ldS kn rp N X.d (ldT st) Nb []) ((ldB.drop 2).take 1) .next<|ldS kn rp N X.d (ldT st) Nb []:=by
 have e:=st.length_map srD;refine oX pl [] (hi:=((st.map srD).length:Nat)) (λO=>ldS kn rp N X.d (ldT st) Nb []) [(st.map srD).length<4611686018427387904] (by kernel_rfl) ⟨_,_,rfl⟩ (by kernel_rfl) ⟨tR hz e,trivial⟩ (C2 _) ar3 (aFs hz e) (λO=>rfl) (λk hk=>?_) cJ;have hk:k<st.length:=(l03<|.i (.Q .c .b)<|.i (.S .a<|.t<|.m fU aE) dT) e hk;have B:∀{y:Str}{q:Pos},Itr w (.lst<|bA (st.map srD) (Na (if (0:Int)+(k:Nat)-N>0 then (0:Int)+(k:Nat)-N else 0)) (Na<|(0:Int)+(k:Nat)+N+1) Nb) (((st.drop<|k-N).take<|k+N+1-(k-N)).map srD)<|.Name y q:=λ{y q}=>by
  have u:(if (0:Int)+(k:Nat)-N>0 then (0:Int)+(k:Nat)-N else 0)=((k-N:Nat):Int):=by split;exact(l02<|.i (.s aE<|.m mV aN)<|.q (.m mV aN)<|.j bG) (by assumption);exact(l02<|.i (.n<|.s aE<|.m mV aN)<|.q aE<|.j bG)<|by assumption
  have x:(0:Int)+(k:Nat)+N+1=((k+N+1:Nat):Int):=l02<|.q (.p pR aC)<|.j<|.p bB aC;rw[u,x,fB,← Y6,← R9];exact bM<|.inl ⟨_,_,rfl⟩
 refine tnx (S3:=ldS kn rp N X.d (ldT st++[(S9 "k",.d<|.int<|0+(k:Nat)),(S9 "near",.o 1)]) Nb [.lst<|(iA N st k).map srD]) (by kernel_rfl) (bY (lT pl [] [] ((st.drop<|k-N).take<|k+N+1-(k-N)) srD (λr=>r.1 != S9 " ") srD (.lst<|bA (st.map srD) (Na (if (0:Int)+(k:Nat)-N>0 then (0:Int)+(k:Nat)-N else 0)) (Na<|(0:Int)+(k:Nat)+N+1) Nb) [(st.map srD).length<=B9] (by kernel_rfl) (by kernel_rfl) (by kernel_rfl) (by kernel_rfl) ⟨by rw[e,C5];exact dW hz,trivial⟩ B (by rw[G4,C5];exact(l03<|.i (.L .b dB)<|.L (.n (.m (.p bB aC) bG) .c) cH) hN) (λr O=>⟨λC h=>⟨[(S9 "one",.d<|srD r)],λl=>aP (o:=fC h [] [] _ _ _ _ _ _ l) (b:=((CR [(S9 "one",.d<|srD r)] (ldS kn rp N X.d (ldT st++[(S9 "k",.d<|.int<|0+(k:Nat))]) Nb []).o X.d l,r.1 != S9 " ",srD r),[])) (by kernel_rfl) trivial⟩⟩) (fW<|by kernel_rfl)) ?_) (fits<|by kernel_rfl);have A:=hn k hk;have E:((iA N st k).map srD).isEmpty=(iA N st k).isEmpty:=by cases iA N st k <;> rfl
 have g:OpV w 0 (op2<|E6 .NotEq) [.bool (atR st k).2.2,.bool<|!((iA N st k).map srD).isEmpty] (.bool Nd):=by
  have:=aOb (w:=w) (atR st k).2.2<|!((iA N st k).map srD).isEmpty
  rwa [show((atR st k).2.2 != !((iA N st k).map srD).isEmpty)=Nd by rw[A];simp] at this
 exact xa pl [.v<|srD<|atR st k,.t Nd,.t Nd] (ldS kn rp N X.d (ldT st++[(S9 "k",.d<|.int<|0+(k:Nat)),(S9 "near",.o 1)]) Nb [.lst<|(iA N st k).map srD]) [aO (.lst<|st.map srD) (0+(k:Nat))<|srD<|atR st k,type_of% g,(Nd:Bool)=Nd] (by kernel_rfl) ⟨xN hz hk,g,rfl,trivial⟩
abbrev ldF:List F9:=(ldB.drop 5).take 1
abbrev ldG(kn rp:List Str)(N:Nat)(st:List cA)(d:D8)(x:Lo)(g c:List Dt):Sd:=ldS kn rp N d (ldT st++[(S9 "gone",.o 1)]++x) (Na<|.o 2) [.lst g,.lst c]
def gcS(t:List Str×List Str)(r:cA):List Str×List Str:=if r.1=spS then ([],[]) else if r.1=miS then (t.1++[r.2.1],t.2) else (t.1,t.2++[r.2.1])
def GcO:List cA->List Str->List Str->Prop
 | [],_,_=>True
 | r::l,g,c=>(r.1=spS/\(∀x∈g,x∉c)\/r.1=miS/\c=[]\/r.1=plS)/\GcO l (gcS (g,c) r).1 (gcS (g,c) r).2
theorem aSh(pl:P3 (ldC w X)<|n+4){c:List Str}{r:cA}(hr:r.1=spS/\(∀x∈a,x∉c)\/r.1=miS/\c=[]\/r.1=plS)(zg:a.length<=10000)(zc:c.length<=10000):TnT (ldC w X) (ldG kn rp N st X.d [] (a.map .str) (c.map .str)) (foT ldF) (.d<|srD r) (foB ldF)<|ldG kn rp N st X.d [] ((gcS (a,c) r).1.map .str) ((gcS (a,c) r).2.map .str):=by
 obtain⟨m,l,g⟩:=r;have j:(a.map Dt.str).length<=B9:=by rw[A1,C5];exact aFt zg
 have p:(c.map Dt.str).length<=B9:=by rw[A1,C5];exact aFt zc
 obtain⟨e,h⟩|⟨e,h⟩|e:=hr
 .rw[show gcS (a,c) (m,l,g)=([],[]) from if_pos e];subst e;have q:=eU (nF (e:=che 0<|she 0<|shb<|foB ldF) pl [S9 "come"] [] a Dt.str (λx=>c.contains x) Dt.str (.lst<|a.map .str) [] (by kernel_rfl) (by kernel_rfl) (by kernel_rfl) trivial (bM<|.inl ⟨_,_,rfl⟩) (aFt zg) (λx O=>⟨λC u=>⟨[(S9 "one",.d<|.str x)],λi=>aP (o:=fC u [.v<|.bool<|c.contains x] [] _ _ _ _ _ _ i) (b:=((CR [(S9 "one",.d<|.str x)] (ldS kn rp N X.d (ldT st++[(S9 "gone",.o 1),(S9 "mark",.d<|.str spS),(S9 "line",.d<|.str l),(S9 "shown",.d<|.bool g)]) (Na<|.o 2) [.fz<|.lst<|a.map .str,.lst<|c.map .str]).o X.d i,c.contains x,.str x),[OpV w (n+4) (op2<|E6 .In) [.str x,.lst<|c.map .str] (.bool<|c.contains x)])) (by kernel_rfl) ⟨aRq (k:=0) EqF.str (by decide) x c,trivial⟩⟩⟩));rw[show a.filter (λx=>c.contains x)=[] from AA4.mpr λx y z=>h x y<|List.contains_iff_mem.mp z] at q;exact tq pl [.z 1,.t Nc,.e<|.d<|.lst [],.t Nd] [Nc=Nc,EvE (ldC w X) (ldS kn rp N X.d (ldT st++[(S9 "gone",.o 1),(S9 "mark",.d<|.str spS),(S9 "line",.d<|.str l),(S9 "shown",.d<|.bool g)]) (Na<|.o 2) [.fz<|.lst<|a.map .str,.lst<|c.map .str]) (che 0<|she 0<|shb<|foB ldF) (.d<|.lst [])<|ldS kn rp N X.d (ldT st++[(S9 "gone",.o 1),(S9 "mark",.d<|.str spS),(S9 "line",.d<|.str l),(S9 "shown",.d<|.bool g)]) (Na<|.o 2) [.fz<|.lst<|a.map .str,.lst<|c.map .str],(Nd:Bool)=Nd] (by kernel_rfl) ⟨rfl,q,rfl,trivial⟩
 .rw[show gcS (a,c) (m,l,g)=(a++[l],c) from(if_neg (by rw[e];exact aIO.symm)).trans<|if_pos e];subst e h;rw[B4];exact tq pl [.t Nd,.t Nc,.t Nd] [(Nd:Bool)=Nd,Nc=Nc,(Nd:Bool)=Nd,type_of% j] (by kernel_rfl) ⟨rfl,rfl,rfl,j,trivial⟩
 .rw[show gcS (a,c) (m,l,g)=(a,c++[l]) from(if_neg (by rw[e];exact aAN.symm)).trans<|if_neg (by rw[e];exact tB.symm)];subst e;rw[B4];exact tq pl [.t Nd,.t Nd,.t Nc] [(Nd:Bool)=Nd,(Nd:Bool)=Nd,Nc=Nc,type_of% p] (by kernel_rfl) ⟨rfl,rfl,rfl,p,trivial⟩
def jR:cA:=(spS,S9 "",Nd)
theorem aHw(t:List Str×List Str)(r:cA):(gcS t r).1.length<=t.1.length+1/\(gcS t r).2.length<=t.2.length+1:=by
 unfold gcS;split
 .exact⟨C8 _,C8 _⟩
 .split
  .exact⟨by rw[A5];exact C4 _,P9 _⟩
  .exact⟨P9 _,by rw[A5];exact C4 _⟩
theorem aSi(pl:P3 (ldC w X)<|n+4)(hz:st.length<=1000)(h:GcO (st++[jR]) [] [])(q:∀g c,Rt (ldC w X) (ldG kn rp N st X.d [] g c) (ldB.drop 6) dt):Rt (ldC w X) (ldS kn rp N X.d (ldT st) Nb []) (ldB.drop 3) dt:=by
 refine xr pl 2 [] (ldG kn rp N st X.d [] [] []) [] (by kernel_rfl) trivial rfl ?_;have A:Itr w (.lst<|st.map srD++[srD jR]) ((st++[jR]).map srD)<|foT ldF:=by
  rw[B4];exact bM (.inr ⟨⟨_,_,_,rfl⟩,λd j=>by
   obtain j|j:=E4.mp j
   .obtain⟨r,_,rfl⟩:=C1.mp j;exact .inl ⟨_,rfl⟩
   .cases C6.mp j
    exact .inl ⟨_,rfl⟩⟩)
 refine aAu (b:=ldB.drop 5) pl [] (st++[jR]) srD gcS (λs=>ldG kn rp N st X.d [] (s.1.map .str) (s.2.map .str)) (λi s=>GcO ((st++[jR]).drop i) s.1 s.2/\s.1.length<=i/\s.2.length<=i) ([],[]) (.lst<|st.map srD++[srD jR]) [(st.map srD).length+[srD jR].length<=B9] (by kernel_rfl) (by kernel_rfl) ⟨by rw[A1,C5];show _+1<=_;exact(l01<|.i eF<|.L aR cH) hz,trivial⟩ (λO=>rfl) A ⟨h,C4 _,C4 _⟩ (λi r s y hp=>?_) λO=>q _ _;obtain⟨u,e⟩:=A4.mp y;rw[A5] at u;have x:=I3 u;obtain⟨a,b,c⟩:=hp;rw[N9 (by rw[A5];exact u),e] at a;have z:=aHw s r;exact⟨aSh pl a.1 (aKb hz x b)<|aKb hz x c,a.2,(l05<|.i (.L .c .b)<|.i (.o (.L .a cD)<|.L .d<|.p .e aC)<|.L .a bJ) b z,(l05<|.i (.L .c .b)<|.i (.o (.L .d<|.p .e aC)<|.L .a cD)<|.L .a bJ) c z⟩
theorem aLr(hN:N<=3)(H:aAc kn hs)(hz:(rb kn hs 0).length<=1000)(hn:∀k,k<(rb kn hs 0).length->(atR (rb kn hs 0) k).2.2=!(iA N (rb kn hs 0) k).isEmpty)(h:GcO (rb kn hs 0++[jR]) [] [])(hr:rkV (rb kn hs 0)=Nc):OpV w (n+5) (cal<|.ref 304) [.lst<|kn.map .str,.lst<|(bQ hs).map .str,.int N] (.lst<|(cZ<|rb kn hs 0).map .str):=by
 refine lI (f:=aPN) [S9 "known",S9 "report",S9 "n"] aPf ([(S9 "known",.d<|.lst<|kn.map .str),(S9 "report",.d<|.lst<|(bQ hs).map .str),(S9 "n",.d<|.int N)],[.cell Nb]) (by kernel_rfl) rfl (lW λO O O=>by kernel_rfl) (λL=>by kernel_rfl) (by kernel_rfl) (by kernel_rfl) λX pl=>?_;refine mG 2 (aSk pl H) rfl<|mG 1 (aSj pl hN hz hn) rfl<|aSi pl hz h λg c=>?_;have i:=aOr (w:=w) (n:=0) hz;rw[hr] at i;generalize rb kn hs 0=st at *;have e:(st.filter λr=>r.1 != S9 "-").map (λr=>Dt.str r.2.1)=(cZ st).map .str:=by unfold cZ;rw[F7];rfl
 have x:Itr w (.lst<|st.map srD) (st.map srD)<|lcT<|asV<|ldB.drop 7:=bM (.inr ⟨⟨_,_,_,rfl⟩,λd u=>by
  obtain⟨r,_,rfl⟩:=C1.mp u;exact .inl ⟨_,rfl⟩⟩)
 have q:=eU (nF pl [] [] st srD (λr=>r.1 != S9 "-") (λr=>.str r.2.1) (.lst<|st.map srD) [] (by kernel_rfl) (by kernel_rfl) (by kernel_rfl) trivial x (dW hz) (λr O=>⟨λC j=>⟨[(S9 "mark",.d<|.str r.1),(S9 "line",.d<|.str r.2.1),(S9 "shown",.d<|.bool r.2.2)],λl=>aP (o:=fC j [] [] _ _ _ _ _ _ l) (b:=((CR [(S9 "mark",.d<|.str r.1),(S9 "line",.d<|.str r.2.1),(S9 "shown",.d<|.bool r.2.2)] (ldG kn (bQ hs) N st X.d [] g c).o X.d l,r.1 != S9 "-",.str r.2.1),[])) (by kernel_rfl) trivial⟩⟩));rw[e] at q;exact sH pl [.v<|.bool Nc,.t Nd,.e<|.d<|.lst<|(cZ st).map .str] _ [fQ w (n+4) (S9 "_law_run_kept") [.lst<|st.map srD] (.bool Nc),(Nd:Bool)=Nd,EvE (ldC w X) (ldG kn (bQ hs) N st X.d [] g c) (asV<|ldB.drop 7) (.d<|.lst<|(cZ st).map .str)<|ldG kn (bQ hs) N st X.d [] g c] (by kernel_rfl) ⟨⟨_,2,l01<|.L bX<|.p .a dJ,aHl,by kernel_rfl,i⟩,rfl,q,trivial⟩
end
noncomputable def aNR(w:E9)(a b:List Str)(lt:Str)(m:Int)(fd:D8->D8)(outs:List Str):Prop:=∃ts:List T3,xV (ts.Perm<|jA a b (2*a.length+1) [(0,(a.length:Int),0,(b.length:Int))] []) (ts.Pairwise<|λa b=>a.1<b.1) (ts.length<64) (∀gr∈eR m (hX<|bW a.length b.length ts),GOk a b gr)<|outs=oB a b D6 D6 lt Nd (eR m<|hX<|bW a.length b.length ts)
noncomputable def aNS(w:E9)(a b:List Str)(lt:Str)(m:Int)(fd:D8->D8)(outs:List Str):Prop:=Ex4 λd g e nI=>dH (nV w nI 160 [] [.none,.lst<|a.map .str,.lst<|b.map .str] .none (smA a b .none .none<|smT d g e) fd) (nI<=8)<|pV w a b d g e
structure UdJ(w:E9)(a b:List Str)(lt:Str)(m:Int)(fd:D8->D8)(outs:List Str):Prop where
 za:a.length<=1000000
 zb:b.length<=1000000
 la:∀x∈a,x.length<=100000
 lb:∀x∈b,x.length<=100000
 ts:aNR w a b lt m fd outs
 sm:aNS w a b lt m fd outs
 zl:lt.length<=100000
 hz:outs.length<=B9
section
variable{c:C3}{lt:Str}{m:Int}{fd:D8->D8}{outs:List Str}{x y:Expr}{pu p1:Pos}
theorem aCx(i:UdJ c.w a b lt m fd outs)(p:Pt c T S)(l:Lt Nc bj p.φ){vb:A3}(ra:Rp p.φ.Z (.lst<|a.map .str) ao)(rb:Rp p.φ.Z (.lst<|b.map .str) vb){tn tl:Tok}(rm:Rm c.A 1)
  (hb:BindsTo p.s aJ9 ⟨az,kw⟩<|aRr.zip [ao,vb,.str (S9 "") 603,.str (S9 "") 604,.str (S9 "") 605,.str (S9 "") 606,.int m tn,.str lt tl]):WP c.w c.A (PySem.call (.ref 261) az kw) (MkP c T S (fd S.d) (outs.map .str) 10 bj) FF p.s:=by
 refine aIv p.G (by kernel_rfl) (by kernel_rfl) rm.room rfl hb rfl (by kernel_rfl) (by kernel_rfl) (by kernel_rfl) (by kernel_rfl) (by kernel_rfl) λL B j U r Y R pc M x ns pd=>?_;have y:=Rl3.hide p.rel M Y (D:=eqD r) ⟨r,x,rfl⟩;have n:HP.le p.φ.Z<|bP p.φ.Z p.h j [L]:=aW p.rel.sub;obtain⟨ts,C,E,I,V,O⟩:=i.ts;obtain⟨dj,ds,dp,nI,Q,N,fl⟩:=i.sm;obtain⟨w7,q9,J⟩:=aCy (outs:=outs.map .str) (u:=⟨a,b,D6,D6,lt,m⟩) ⟨i.za,i.zb,i.la,i.lb,C8 _,C8 _,i.zl⟩ Q N fl C E I V (by rw[O]);have rs:Rps (bP p.φ.Z p.h j [L]) [.lst<|a.map .str,.lst<|b.map .str,.str D6,.str D6,.str D6,.str D6,.int m,.str lt] [ao,vb,.str (S9 "") 603,.str (S9 "") 604,.str (S9 "") 605,.str (S9 "") 606,.int m tn,.str lt tl]:=by
  exact .cons (ra.up n)<|.cons (rb.up n)<|.cons (.str _ _)<|.cons (.str _ _)<|.cons (.str _ _)<|.cons (.str _ _)<|.cons (.int _ _)<|.cons (.str _ _) .nil
 exact .mk B [(L,eqD r)] _ ⟨bP p.φ.Z p.h j [L],p.φ.α⟩ j p.g U rfl rfl p.gg y ⟨l.le.trans n,l.pre⟩ (by
  obtain⟨o,e,q⟩:=cF R pd;exact⟨o,(jN λz=>pc<|C6.mp z).trans e,q⟩) rfl λA ph=>tJ q9 (.inl rfl) J (λA Gp Z' R' h' le sx=>aMK (θ:=udθ c.w L c.os (fd S.d) _) rs ns x (by kernel_rfl) le sx) (p.gz.le n)<|aD2 ph
theorem aKN(i:UdJ c.w a b lt m fd outs)(rm:Rm c.A 1)(pl:Fn3 c)(ku:c.env.kindOf (S9 "unified_diff")=Na .globalImplicit)(he1:C0 [x,y] c.env=(Nd,eval x c.env)::C0 [y] c.env)(pv:(K4 p1<|G5 d1 c.env).all (·.1.isSome)=Nc)(hp:((I9 p1<|C0 [x,y] c.env).any (·.1)||(K4 p1<|G5 d1 c.env).any (·.1.isNone))=Nd)
  (j8:(K4 p1<|G5 d1 c.env).filterMap (·.1)=[S9 "n",S9 "lineterm"]) (xn:∀{s:A6}{Q:List A3->A6->Prop}{E:A3->A6->Prop},WP c.w c.A (eval ah c.env) (λv s'=>WP c.w c.A (eval b9 c.env) (λv2 s2=>Q [v,v2] s2) E s') E s->WP c.w c.A (evalAll<|(K4 p1<|G5 d1 c.env).map (·.2)) Q E s) (q:EvA c S p1 [x,y] as S) (qz:EvE c S ah (.d<|.int m) S) (ql:EvE c S b9 (.d<|.str lt) S) (e:drs S as=Na ([.lst<|a.map .str,.lst<|b.map .str],Nd)) :
  MkG c S (eval (.Call (.Name (S9 "unified_diff") pu) [x,y] d1 p1) c.env) (outs.map .str) 10 S (fd S.d):=
 ⟨λH p=>gC (g_g p.G pl.k ku pl.g aE5 (aQ6 (by kernel_rfl) he1 pv hp (q.go p λr U u J=>xn (qz.go r λI V B N=>ql.go I λh T C M=>⟨h.G,by
  obtain⟨O,R,rfl,ra,rb⟩:=Rps.two<|(lU e r.rel J).2 rfl;obtain⟨tn,rfl⟩:=Rp.inv N;obtain⟨tl,rfl⟩:=Rp.inv M;rw[j8];have j:=B.tr C;exact aCx (tn:=tn) (tl:=tl) i h (u.tr j) (ra.up j.le) (rb.up j.le) rm<|binds_K h.G.k rfl (o:=⟨.type "tuple",Nb,.seq #[.str (S9 "") 603,.str (S9 "") 604,.str (S9 "") 605,.str (S9 "") 606,.int 3 607,.str (S9 "\n") 608] 0,#[]⟩) (by kernel_rfl) rfl rfl<|by kernel_rfl⟩))))⟩
end
def chZ(w:E9)(b:List Str):HP->OD:=λZ o=>∃T:Tab,dH (TB T b) (∀t∈T,AtZ Z t.2.1<|aY t.2.2)<|dcD (strKind Mine.Internal.P w) (kvT T) o
section
variable{c:C3}{H:TT}
theorem zV{b:List F9}(x:EvX c S b .next S1)(w:Wks c S1 S2):EvX c S b .next S2:=
 ⟨λH p=>x.go p λd u l1 g=>w.go d λe a=>e.end (l1.tr a) g⟩
theorem aKK{D D':HP->OD}(e:S.o[n]?=Na (.any D))(h:∀Z o,D Z o->D' Z o):Wks c S {S with o:=S.o.set n (.any D')}:=
 ⟨rfl,λj H r p R=>⟨j,.refl _,R.set n _ (λa d=>⟨λO=>have w:=R.own ⟨d,e,rfl⟩;⟨A2 w.at_ λb q=>⟨b,q.1,A2 q.2 λg y=>⟨g,y.1,h _ _ y.2⟩⟩,w.z,w.n⟩,nofun⟩) λO i a x d w=>R.inj i n a x _ w ⟨d,e,rfl⟩⟩⟩
theorem aCq{D:HP->OD}(e:S.o[n]?=Na (.any D))(h:∀Z a o,Z a=Na o->(a==AA8)=Nd->D Z o->Rp Z oc (.ref a))(mono:∀Z Z' o,HP.le Z Z'->D Z o->D Z' o):Wks c S {S with o:=S.o.set n (.fz oc)}:=
 ⟨rfl,λd H C p R=>by
  have r:=(A4.mp e).1;obtain⟨a,j⟩:∃a,d.α[n]?=Na a:=⟨_,B1 (by rw[R.len];exact r)⟩
  have w:Liv d.α S.o n a<|.any D:=⟨j,e,rfl⟩
  have x:=yD p R.sub (R.own w).z;obtain⟨Z,A⟩:=d;exact A2 (R.frz w λZ' le q=>A2 q λb y=>by
   obtain⟨g,B,u,i⟩:=y;exact h _ _ _ g x<|mono _ _ _ u i) λZ' q=>⟨⟨Z',A⟩,q.1,q.2⟩⟩
end
theorem aKH{c:C3}{D:HP->OD}(e:S.o[n]?=Na (.any D)):Wks c S {S with o:=S.o.set n (.fz unk)}:=
 ⟨rfl,λb H p j R=>by
  have h:=(A4.mp e).1;obtain⟨a,g⟩:∃a,b.α[n]?=Na a:=⟨_,B1 (by rw[R.len];exact h)⟩
  have w:Liv b.α S.o n a<|.any D:=⟨g,e,rfl⟩
  obtain⟨Z,i⟩:=b;exact A2 (R.frz w λd le q=>aCX) λd q=>⟨⟨d,i⟩,q.1,q.2⟩⟩
abbrev aNl(w:E9)(al:List Dt)(b:List Str)(d:D8)(D2:HP->OD)(o4:Ow)(x:Lo):Sd:=⟨[(S9 "self",.o 0),(S9 "b",.d<|.lst<|b.map .str),(S9 "b2j",.o 2),(S9 "junk",.o 3),(S9 "isjunk",.d .none),(S9 "popular",.o 4),(S9 "n",.d<|.int (b.map Dt.str).length)]++x,[.ins 1,.ns<|sm0 (.lst al) (.lst<|b.map .str)<|smC++[(S9 "b2j",.o 2),(S9 "bjunk",.o 3),(S9 "bpopular",.o 4)],.any D2,.any λO=>oF,o4],d⟩
theorem aQb{X:Q3}(pl:P3 (chC w X I p1) n)(h:¬200<=b.length):EvX (chC w X I p1) (chM w al b X.d (chD w b) λO=>wB w []) (chB.drop 8) .next<|aNl w al b X.d (chZ w b) (.fz unk) []:=
 zV (aSQ pl h) ((aKK (n:=2) rfl λZ o q=>by
  obtain⟨T,ok,lk,q⟩:=q;have e:T.filter (λt=>!oJ b t.1)=T:=J4.mpr λt O=>by
   unfold oJ;rw[decide_eq_false h,Bool.false_and];rfl
  exact⟨T,e▸ok.tb,lk,q⟩).trans<|aKH (n:=4) rfl)
theorem aFb(w:E9)(b:List Str)(Z Z':HP)(v:A3)(l:HP.le Z Z')(q:b2D w b Z v):b2D w b Z' v:=by
 obtain⟨i,rfl,T,a1,a,d,e,g,h⟩:=q;exact⟨i,rfl,T,a1.le l,a,λt j=>(d t j).le l,e,g,h⟩
theorem aQa{X:Q3}:Wks (chC w X I p1) (aNl w al b d (chZ w b) (.fz unk) []) ⟨(aNl w al b d (chZ w b) (.fz unk) []).r,[.ins 1,.ns<|sm0 (.lst al) (.lst<|b.map .str)<|smC++[(S9 "b2j",.o 2),(S9 "bjunk",.o 3),(S9 "bpopular",.o 4)],.fz<|.ob<|b2D w b,.fz<|.ob jkE,.fz unk],d⟩:=
 (aCq (n:=2) rfl (λZ a o e h q=>.ob (aFb w b) (by
  obtain⟨T,tb,lk,q⟩:=q;exact⟨a,rfl,T,⟨o,e,q⟩,h,lk,tb,trivial,λO O=>trivial⟩)) λZ g o l q=>by
   obtain⟨T,tb,lk,q⟩:=q;exact⟨T,tb,λt i=>(lk t i).le l,q⟩).trans (aCq (n:=3) rfl (λZ a o e h q=>.ob (λZ g v l q=>A2 q λa z=>⟨a,z.1,z.2.le l⟩) ⟨a,rfl,o,e,q⟩) λZ g o l q=>q)
theorem aEY(hz:b.length<200):jF w 1 (cal<|.ref 188) (sm0 (.lst al) (.lst<|b.map .str) smC) [] .none (sm0 (.lst al) (.lst<|b.map .str)<|smC++smT (.ob<|b2D w b) (.ob jkE) unk) id:=by
 refine oA (f:=aB6) [S9 "self"] [(S9 "self",.o 0)] (λO=>.nil) (by kernel_rfl) rfl (bnd<|lW λO=>by kernel_rfl) (λL=>by kernel_rfl) (by kernel_rfl) (by kernel_rfl) (by kernel_rfl) λX a d pl=>?_;exact aCT (cQ 2 (aST pl)<|cQ 1 (aSS pl<|A9 (I2 hz)<|by decide)<|cQ 5 (aSR pl<|A9 (I2 hz)<|by decide)<|zV (aQb pl<|aFv hz) aQa) rfl rfl
theorem aKY(za:a.length<=1000000)(hz:b.length<200):Ex4 λdj ds dp nI=>dH (nV w nI 160 [] [.none,.lst<|a.map .str,.lst<|b.map .str] .none (smA a b .none .none<|smT dj ds dp) id) (nI<=8)<|pV w a b dj ds dp:=
 ⟨.ob<|b2D w b,.ob jkE,unk,4,init_3 (by kernel_rfl)<|aEY hz,by decide,aPF za<|A9 (I2 hz)<|by decide⟩
def iH(N:Nat)(a9:aH):List Hk:=hks (flg N a9<|N+1) 0 0 Nb
theorem aLp(ch:CH a b 0 0 Nb b7):oB a b D6 D6 (S9 "") Nd (eR N b7)=bQ (iH N<|b7.flatMap<|aV a b):=by
 have g:=rT (E2 N) b7 ch;have i:=aCD N (b7.flatMap<|aV a b) (N+1) ⟨[],[],0,0⟩;rw[i] at g;have e:(hks (flg N (b7.flatMap<|aV a b)<|N+1) (0+(bI ([]:aH):Int)) (0+(bT ([]:aH):Int))<|sK ⟨[],[],0,0⟩)=iH N (b7.flatMap<|aV a b):=rfl;have j:(iH N<|b7.flatMap<|aV a b).flatMap hkT=(eR N b7).flatMap (bD a b<|S9 ""):=by
  rw[← g,← e];rfl
 rw[aFV,← j];generalize iH N (b7.flatMap<|aV a b)=d;cases d with
 | nil=>rfl
 | cons h d=>
  have:((h::d).flatMap hkT).isEmpty=false:=rfl;have n:bQ (h::d)=oR++(h::d).flatMap hkT:=rfl;rfl
theorem aLs(hm:∀r∈a9,iR r):rb (aQ a9) (iH N a9) 0=tri (flg N a9<|N+1):=by
 have:=(aLt (aQ a9) (flg N a9<|N+1) 0 0 0 (aEl N a9 (N+1) hm) (by rw[eS];rfl)<|C4 _).1;unfold iH;rw[show hks (flg N a9<|N+1) 0 0 Nb=hks (flg N a9<|N+1) ((0:Nat):Int) 0 Nb from rfl,this];rfl
theorem aHd(hm:∀r∈a9,iR r):HOk (aQ a9) (iH N a9) 0 0 false:=
 aMu (aQ a9) (flg N a9<|N+1) 0 0 0 0 Nd Nb (aEl N a9 (N+1) hm) (by rw[eS];rfl) (C8 _) ⟨C4 _,C2 _,λh=>(nomatch h),rfl,rfl,rfl,rfl,λr a=>(nomatch a)⟩
theorem aMr:∀{hs:List Hk}{p:Nat}{g:Int}{b:Bool},HOk kn hs p g b->HM hs:=by
 intro hs;induction hs with
 | nil=>
  intro _ _ _ _;exact λh d=>(nomatch d)
 | cons h hs e=>
  intro p g b x;intro y a;obtain rfl|a:=A8.mp a
  .exact⟨x.1.1.nn,x.1.1.mks⟩
  .exact e x.2 y a
theorem aAj(l:List pC):(tri l).map (λs=>(s.1,s.2.1))=l.map (·.1):=by
 unfold tri;rw[F7];rfl
theorem aKU(l:List pC):cZ (tri l)=news (l.map (·.1)):=by
 unfold cZ news tri;rw[List.filter_map,List.filter_map,F7,F7];rfl
theorem aDr(k:Nat)(hk:k<(tri<|flg N a9<|N+1).length):(atR (tri<|flg N a9<|N+1) k).2.2=!(iA N (tri<|flg N a9<|N+1) k).isEmpty:=by
 have g:(flg N a9<|N+1).length=a9.length:=by rw[← A1 (·.1),eS]
 have j:k<a9.length:=by unfold tri at hk;rw[A1,g] at hk;exact hk
 have e:=aEm N a9 k a9[k] (B1 j);have b:atR (tri<|flg N a9<|N+1) k=(a9[k].1,a9[k].2,aGO N a9 k):=by
  unfold atR tri;rw[D7,B3,e];rfl
 rw[b];have d:(iA N (tri<|flg N a9<|N+1) k).isEmpty=!jZ ((a9.drop<|k-N).take<|k+N+1-(k-N)):=by
  have h:∀l:List cA,(l.filter λr=>r.1 != S9 " ").isEmpty=!jZ (l.map λs=>(s.1,s.2.1)):=λl=>by
   induction l with
   | nil=>rfl
   | cons x l i=>
    rw[H5,aA9,N6];by_cases a:(x.1 != spS)=Nc
    .rw[a];rfl
    .rw[Bool.eq_false_iff.mpr a,Bool.false_or,← i];rfl
  unfold iA;rw[h,R9,Y6,aAj,eS]
 rw[d,Bool.not_not];rfl
theorem aIS:∀r∈miR a,iR r:=λr b=>by obtain⟨x,_,rfl⟩:=C1.mp b;exact .inr<|.inl rfl
theorem aII:∀r∈plR a,iR r:=λr b=>by obtain⟨x,_,rfl⟩:=C1.mp b;exact .inr<|.inr rfl
theorem aOe:∀r∈spR a,iR r:=λr b=>by obtain⟨x,_,rfl⟩:=C1.mp b;exact .inl rfl
theorem mH:∀{ts:List T3}{i j:Int},∀r∈fJ a b i j ts,iR r:=by
 intro ts;induction ts with
 | nil=>
  intro i j r d;obtain d|d:=E4.mp d
  .exact aIS r d
  .exact aII r d
 | cons t ts e=>
  intro i j r d;rw[hK] at d;obtain d|d:=E4.mp d
  .obtain d|d:=E4.mp d
   .obtain d|d:=E4.mp d
    .exact aIS r d
    .exact aII r d
   .exact aOe r d
  .exact e r d
theorem qE(l:List Str):aQ (miR l)=l:=by
 unfold aQ miR;rw[J4.mpr λr a=>by obtain⟨x,_,rfl⟩:=C1.mp a;exact bne_iff_ne.mpr tB,F7];exact List.map_id l
theorem qD(l:List Str):aQ (plR l)=[]:=by
 unfold aQ plR;rw[AA4.mpr λr a=>by obtain⟨x,_,rfl⟩:=C1.mp a;simp];rfl
theorem uC(l:List Str):aQ (spR l)=l:=by
 unfold aQ spR;rw[J4.mpr λr a=>by obtain⟨x,_,rfl⟩:=C1.mp a;exact bne_iff_ne.mpr aAN,F7];exact List.map_id l
theorem qG(l:List Str):news (miR l)=[]:=by
 unfold news miR;rw[AA4.mpr λr a=>by obtain⟨x,_,rfl⟩:=C1.mp a;simp];rfl
theorem qF(l:List Str):news (plR l)=l:=by
 unfold news plR;rw[J4.mpr λr a=>by obtain⟨x,_,rfl⟩:=C1.mp a;exact bne_iff_ne.mpr tB.symm,F7];exact List.map_id l
theorem uK(l:List Str):news (spR l)=l:=by
 unfold news spR;rw[J4.mpr λr a=>by obtain⟨x,_,rfl⟩:=C1.mp a;exact bne_iff_ne.mpr aIO,F7];exact List.map_id l
theorem kG(h0:0<=i)(h1:i<=j):a.drop i.toNat=sl a i j++a.drop j.toNat:=by
 rw[hH h0 h1,show j.toNat=i.toNat+(j-i).toNat by exact(l20<|.i bU<|.i eO<|.Q bK<|.p (.t .b) cV) h0 h1,← AA5,G3]
theorem aBF:∀{ts:List T3}{i j:Int},0<=i->SB a.length b.length i j ts->aQ (fJ a b i j ts)=a.drop i.toNat:=by
 intro ts;induction ts with
 | nil=>
  intro i j d h;rw[mI,dS,qE,qD,D0,kG d h.1,L3,V8,D0]
 | cons t ts o=>
  rintro i j d ⟨e,p,g,n⟩;rw[hK,dS,dS,dS,qE,qD,uC,D0,o (rY d e g) n,kG d e,kG (i:=t.1) (ar6 d e)<|ar9 g,B5]
theorem aCQ{q m:Int}(hp:0<=c)(hq:0<=q)(hm:0<=m)(r:Run a b c q m):sl a c (c+m)=sl b q (q+m):=by
 rw[hH hp<|ar1 hm,hH hq<|ar1 hm,show(c+m-c).toNat=m.toNat by exact aKn,show(q+m-q).toNat=m.toNat by exact aKn];refine T5 λx=>?_;rw[List.getElem?_take,List.getElem?_take];split
 .have:=r x (E2 _) ((l11<|.i (.S .a bK)<|.s aF .a)<|by assumption);rw[I5,I5,← show(c+x).toNat=c.toNat+x by exact aIf hp,← show(q+x).toNat=q.toNat+x by exact aIf hq];exact this
 .rfl
theorem aBH:∀{ts:List T3}{i j:Int},0<=i->0<=j->SB a.length b.length i j ts->(∀t∈ts,Run a b t.1 t.2.1 t.2.2)->news (fJ a b i j ts)=b.drop j.toNat:=by
 intro ts;induction ts with
 | nil=>
  intro i j n d h _;rw[mI,eJ,qG,qF,I1,kG d h.2,L3,V8,D0]
 | cons t ts w=>
  rintro i j n d ⟨o,e,g,p⟩ r;rw[hK,eJ,eJ,eJ,qG,qF,uK,I1,w (rY n o g) (rY d e g) p λu q=>r u<|V0 _ q,aCQ (ar6 n o) (ar6 d e) (tS g)<|r t<|M4 ..,kG d e,kG (i:=t.2.1) (ar6 d e)<|ar9 g,B5]
def bL(a b:List Str):aH:=fJ a b 0 0<|Bq a b<|q00 a b
theorem kO(a b:List Str):aQ (bL a b)=a:=aBF (C2 _) (bok<|rA a b).sb
theorem nU(a b:List Str):news (bL a b)=b:=aBH (C2 _) (C2 _) (bok<|rA a b).sb λt d=>((bok<|rA a b).all t d).2.2.2.2.2
def Dj(a b:List Str)(i p j q:Int):Prop:=∀x y:Int,i<=x->x<p->j<=y->y<q->a[x.toNat]?≠b[y.toNat]?
def GD(a b:List Str)(p q:Int):List T3->Int->Int->Prop
 | [],i,j=>Dj a b i p j q
 | t::ts,i,j=>Dj a b i t.1 j t.2.1/\GD a b p q ts (t.1+t.2.2) (t.2.1+t.2.2)
theorem GD.app{t:T3}:∀{L:List T3}{i j:Int},GD a b t.1 t.2.1 L i j->GD a b c lo aw (t.1+t.2.2) (t.2.1+t.2.2)->GD a b c lo (L++t::aw) i j:=by
 intro L;induction L with
 | nil=>
  intro i j h r;exact⟨h,r⟩
 | cons x L d=>
  intro i j h r;exact⟨h.1,d h.2 r⟩
theorem aPt(hb:b.length<200)(ok:QOK a b q):GD a b q.2.1 q.2.2.2 (Bq a b q) q.1 q.2.2.1:=by
 refine aIG (P:=λq=>GD a b q.2.1 q.2.2.2 (Bq a b q) q.1 q.2.2.1) (λq ok hk=>?_) (λq ok hk L R=>?_) _ q ok (I0 _)
 .have e:Bq a b q=[]:=by rw[sG ok,if_pos hk]
  rw[e];intro x y o r A B w;obtain⟨c,s,u,g,j,n,_,h⟩:=(aEg ok).core;have:=(g.max x y 1 (C2 _) o (aJt r) A (aJt B) λz C E=>by
   obtain rfl:z=0:=(l10<|.i bE<|.i (.s .a aC) gE) C E;rw[K1,K1];refine⟨w,?_⟩;have e:∀l,oJ b l=false:=λl=>by unfold oJ;rw[decide_eq_false<|aFv hb,Bool.false_and]
   cases b[y.toNat]? with
   | none=>rfl
   | some l=>show(!oJ b l)=Nc;rw[e];rfl).1
  exact(l40<|.i gE<|.i bU<|.i iY<|.i (.q .a<|.p (.p .d .b) .c)<|.i (.l aC .d) .f) hk j n h this
 .have e:=sG ok;rw[if_neg<|aFg hk] at e;rw[e];exact GD.app L R
theorem aJk(hi:0<=i)(hj:0<=j)(m9:i<=c)(xu:j<=lo)(d:Dj a b i c j lo):∀x∈sl a i c,x∉sl b j lo:=λx h n=>by
 rw[hH hi m9] at h;rw[hH hj xu] at n;obtain⟨m,g⟩:=O8 h;obtain⟨k,e⟩:=O8 n;rw[List.getElem?_take] at g e;split at g
 .split at e
  .rw[I5] at g e;refine d (i+m) (j+k) aQD (aJy<|by assumption) aQD (aJy<|by assumption) ?_;rw[show(i+m).toNat=i.toNat+m by exact aIf hi,show(j+k).toNat=j.toNat+k by exact aIf hj,g,e]
  .cases e
 .cases g
noncomputable def fSt(l:aH):List cA:=l.map λr=>(r.1,r.2,Nd)
theorem aJ4(hc:a=[]):∀(l:List Str)(g:List Str),GcO st (g++l) a->GcO (fSt (miR l)++st) g a:=by
 intro l;induction l with
 | nil=>
  intro g h
  rwa [D0] at h
 | cons x l b=>
  intro g h;refine⟨.inr<|.inl ⟨rfl,hc⟩,?_⟩;exact b (g++[x]) (by rw[B5];exact h)
theorem aJ3:∀(l:List Str)(c:List Str),GcO st a (c++l)->GcO (fSt (plR l)++st) a c:=by
 intro l;induction l with
 | nil=>
  intro c h
  rwa [D0] at h
 | cons x l b=>
  intro c h;refine⟨.inr<|.inr rfl,?_⟩;exact b (c++[x]) (by rw[B5];exact h)
theorem aPu:∀(l:List Str){g c:List Str},l≠[]->(∀x∈g,x∉c)->GcO st [] []->GcO (fSt (spR l)++st) g c:=by
 intro l;induction l with
 | nil=>intro _ _ n;exact absurd rfl n
 | cons x l b=>
  intro g c _ h r;refine⟨.inl ⟨rfl,h⟩,?_⟩;cases l with
  | nil=>exact r
  | cons y l=>exact b (by simp) (λz a=>nomatch a) r
theorem qJ(x y:aH):fSt (x++y)=fSt x++fSt y:=B4
theorem aOi(h0:0<=i)(h1:i<j)(h2:j<=a.length):sl a i j≠[]:=λz=>by
 have:=fY h0 (W8 h1) h2;rw[z] at this;simp at this;exact(l20<|.i cC<|.i (.Q aE<|.t eM) .f) h1 this
theorem aHv:∀{ts:List T3}{i j:Int},0<=i->0<=j->SB a.length b.length i j ts->GD a b a.length b.length ts i j->GcO (fSt (fJ a b i j ts)++[jR]) [] []:=by
 intro ts;induction ts with
 | nil=>
  intro i j e g s d;rw[mI,qJ,B5];refine aJ4 rfl _ _<|aJ3 _ _ ?_;exact⟨.inl ⟨rfl,aJk e g s.1 s.2 d⟩,trivial⟩
 | cons t ts q=>
  rintro i j e g ⟨h,o,n,s4⟩ ⟨d,p⟩;have le:=SB.le s4;rw[hK,qJ,qJ,qJ,B5,B5,B5];refine aJ4 rfl _ _<|aJ3 _ _ ?_;exact aPu _ (aOi (ar6 e h) ((l20<|.i gN<|.s .a bB) n) le.1) (aJk e g h o d)<|q (rY e h n) (rY g o n) s4 p
theorem aPw(hb:b.length<200):GcO (fSt (bL a b)++[jR]) [] []:=
 aHv (C2 _) (C2 _) (bok<|rA a b).sb (aPt hb<|rA a b)
theorem aPv:∀{l m:List cA}{g c:List Str},l.map (λs=>(s.1,s.2.1))=m.map (λs=>(s.1,s.2.1))->GcO l g c->GcO m g c:=by
 intro l;induction l with
 | nil=>
  intro m g c e h;cases m with
  | nil=>trivial
  | cons=>exact nomatch e
 | cons s l a=>
  intro m g c e h;cases m with
  | nil=>exact nomatch e
  | cons t m=>
   obtain⟨b,d,i⟩:=s;obtain⟨j,n,o⟩:=t;simp only[H5,List.cons.injEq,Prod.mk.injEq] at e;obtain⟨⟨rfl,rfl⟩,e⟩:=e;exact⟨h.1,a e h.2⟩
abbrev cpI(a b:List Str)(i j:Nat):Int:=(cpl (a.drop i) (b.drop j):Nat)
structure Bst(a b:List Str)(S:Nat->Nat->Prop)(t:Int×Int×Int):Prop where
 le:∀i j,S i j->cpI a b i j<=t.2.2
 ex:t=(0,0,0)\/∃i j:Nat,S i j/\t=((i:Int),(j:Int),cpI a b i j)/\1<=t.2.2/\∀i' j',S i' j'->cpI a b i' j'=t.2.2->i<i'\/(i=i'/\j<=j')
theorem Bst.nn{S:Nat->Nat->Prop}{t:Int×Int×Int}(x:Bst a b S t):0<=t.2.2:=by
 obtain h|⟨i,j,_,_,h,_⟩:=x.ex
 .rw[h];exact C2 _
 .exact tS h
theorem aGp{S:Nat->Nat->Prop}{t:Int×Int×Int}(x:Bst a b S t)(lx:∀i' j',S i' j'->i'<B\/(i'=B/\j'<C)):Bst a b (λp q=>S p q\/(p=B/\q=C))<|uB a b B t C:=by
 have nn:=x.nn;unfold uB;by_cases h:(cpl (a.drop B) (b.drop C):Int)>t.2.2
 .rw[if_pos h];refine⟨λp q s=>?_,.inr ⟨B,C,.inr ⟨rfl,rfl⟩,rfl,by show 1<=(cpl _ _:Int);exact(l11<|.i bE<|.i (.s .a aF)<|.l aC aF) nn h,λp q s e=>?_⟩⟩
  .obtain s|⟨rfl,rfl⟩:=s
   .exact E5 (x.le p q s) (W8 h)
   .exact C2 _
  .obtain s|⟨rfl,rfl⟩:=s
   .have:=x.le p q s;rw[e] at this;exact absurd this (W7.mpr h)
   .exact .inr ⟨rfl,C4 _⟩
 .rw[if_neg h];refine⟨λp q s=>?_,?_⟩
  .obtain s|⟨rfl,rfl⟩:=s
   .exact x.le p q s
   .exact Z7.mp h
  .obtain e|⟨d,g,j,e,z,m⟩:=x.ex
   .exact .inl e
   .refine .inr ⟨d,g,.inl j,e,z,λp q s eq=>?_⟩;obtain s|⟨rfl,rfl⟩:=s
    .exact m p q s eq
    .obtain y|⟨y,z⟩:=lx d g j
     .exact .inl y
     .exact .inr ⟨y,I2 z⟩
theorem Bst.iff{S T:Nat->Nat->Prop}{t:Int×Int×Int}(x:Bst a b S t)(h:∀i j,S i j↔T i j):Bst a b T t:=by
 obtain rfl:S=T:=funext λi=>funext λj=>propext<|h i j;exact x
theorem iw1:B<n/\C<N↔B<n/\C<N\/B=n/\C<0:=⟨.inl,λh=>h.elim id λh=>absurd h.2<|N4 _⟩
theorem iw2:(B<N/\C<d8\/B=N/\C<n)\/B=N/\C=n↔B<N/\C<d8\/B=N/\C<n+1:=⟨λh=>h.elim (λh=>h.imp id λh=>⟨h.1,Nat.lt_succ_of_lt h.2⟩) λh=>.inr ⟨h.1,X3<|Nat.le_of_eq h.2⟩,λh=>h.elim (λh=>.inl<|.inl h) λh=>(Z6<|I3 h.2).elim (λk=>.inl<|.inr ⟨h.1,k⟩) λk=>.inr ⟨h.1,k⟩⟩
theorem iw3:C<n/\N<B\/C=n/\N<B↔C<n+1/\N<B:=⟨λh=>h.elim (λh=>⟨Nat.lt_succ_of_lt h.1,h.2⟩) λh=>⟨X3<|Nat.le_of_eq h.1,h.2⟩,λh=>(Z6<|I3 h.1).imp (⟨·,h.2⟩) (⟨·,h.2⟩)⟩
theorem aD3{t:Int×Int×Int}(m:Nat)(x:Bst a b (λp q=>p<B/\q<m) t):∀n,n<=m->Bst a b (λp q=>p<B/\q<m\/p=B/\q<n) (iT a b B n t):=by
 intro n;induction n with
 | zero=>
  intro _;exact x.iff λp q=>iw1
 | succ n g=>
  intro h;have g:=g<|X5 h;have e:iT a b B (n+1) t=uB a b B (iT a b B n t) n:=by unfold iT;rw[O3,O0];rfl
  rw[e];exact(aGp g λp q s=>(l05<|.i (.w (.o dT<|.S .c .e)<|.o bH<|.S .c .d)<|.w dT<|.o bH<|.S .c .d) s).iff λp q=>iw2
theorem aD5(a b:List Str):∀n,Bst a b (λp q=>p<n/\q<b.length)<|fR a b n:=by
 intro n;induction n with
 | zero=>
  exact⟨λp q s=>absurd s.1<|N4 _,.inl rfl⟩
 | succ n d=>
  have d:=d;have e:fR a b (n+1)=iT a b n b.length (fR a b n):=by unfold fR;rw[O3,O0];rfl
  rw[e];exact(aD3 b.length d b.length<|C4 _).iff λp q=>iw3
theorem aBk:∀{A B:List Str}{x:Nat},x<cpl A B->A[x]?=B[x]?:=by
 intro A;induction A with
 | nil=>intro B x h;cases B <;> exact absurd h<|N4 _
 | cons u A b=>
  intro B x h;cases B with
  | nil=>exact absurd h<|N4 _
  | cons v B=>
   have e:cpl (u::A) (v::B)=if u=v then cpl A B+1 else 0:=rfl
   by_cases a:u=v
   .subst a;rw[if_pos rfl] at e;rw[e] at h;cases x with
    | zero=>rfl
    | succ x=>exact b (Nat.lt_of_succ_lt_succ h)
   .rw[e,if_neg a] at h;exact absurd h<|N4 _
theorem aNi:∀{A B:List Str}{m:Nat},m<=A.length->(∀x,x<m->A[x]?=B[x]?)->m<=cpl A B:=by
 intro A;induction A with
 | nil=>intro B m h _;exact A9 h<|C8 _
 | cons u A b=>
  intro B m h q;cases m with
  | zero=>exact C8 _
  | succ m=>
   cases B with
   | nil=>exact nomatch q 0 (Nat.zero_lt_succ _)
   | cons v B=>
    have e:=H8<|q 0<|Nat.zero_lt_succ _;show m+1<=if u=v then cpl A B+1 else 0
    rw[if_pos e];exact K8<|b (Nat.le_of_succ_le_succ h) λx a=>q (x+1)<|Nat.succ_lt_succ a
theorem aGg(r:Run a b B C c)(x:Nat)(hx:(x:Int)<c):(a.drop B)[x]?=(b.drop C)[x]?:=by
 have:=r x (E2 _) hx;rw[I5,I5];exact this
theorem aL9(r:Run a b B C n)(h:B+n<=a.length):n<=cpl (a.drop B) (b.drop C):=
 aNi (by rw[F5];exact(l03<|.i (.L (.p .c .a) .b)<|.L .a dK) h) λx d=>aGg r x<|(l02<|.i dT<|.s aF aN) d
theorem aHU:Run a b B C<|cpI a b B C:=λx d e=>by
 obtain⟨n,rfl⟩:=K2 d;have:=aBk<|Int.ofNat_lt.mp e;rw[I5,I5] at this;exact this
theorem aLX(hb:b.length<200)(l:Str):oJ b l=false:=by unfold oJ;rw[decide_eq_false<|aFv hb,Bool.false_and]
theorem aGh(hb:b.length<200)(r:Run a b i j c):aAb a b i j c:=λx d e=>⟨r x d e,by
 cases b[(j+x).toNat]? with
 | none=>rfl
 | some l=>show(!oJ b l)=Nc;rw[aLX hb];rfl⟩
theorem bq1{x:Nat}(h:x<=n-B)(hi:B<n):(x:Int)<=(n:Int)-B:=by exact(l03<|.i (.L .a dK)<|.i (.S .c .b)<|.l aF<|.m aN fU) h hi
theorem bq2{x:Nat}(h:C<=N+(B-k))(c:(x:Int)<=(C:Int)-N)(z:¬x<=B-k)(hi:N<C):(x:Int)<=(B:Int)-k:=by exact(l05<|.i (.L .d<|.p .e dK)<|.i (.l aF<|.m (.j .d)<|.j .e)<|.i (.n<|.L .a dK)<|.l aF<|.m aN fU) h c z
theorem bq3{x:Int}(h:x<=lo-B)(e:hi=x):(B:Int)+hi<=lo:=by exact(l31<|.i (.l .c<|.m .b aF)<|.i (.q .a .c)<|.l (.p aF .a) .b) h e
theorem bq4(a1:1<=j)(a2:j<=c)(a3:lo=c+su+hi)(a4:0<=su)(a5:0<=hi):1<=lo:=by exact(l50<|.i gN<|.i (.l .b .c)<|.i (.q .a<|.p kZ .e)<|.i mQ<|.i (.l aE .e) lC) a1 a2 a3 a4 a5
theorem bq5(a1:lo<=j)(a2:j<=c)(a3:lo=c+su+hi)(a4:0<=su)(a5:0<=hi):lo=j:=by exact(l50<|.i bF<|.i (.l .b .c)<|.i (.q .a<|.p kZ .e)<|.i mQ<|.i (.l aE .e) iD) a1 a2 a3 a4 a5
theorem bq6(a1:lo<=j)(a2:j<=c)(a3:lo=c+su+hi)(a4:0<=su)(a5:0<=hi):j=c:=by exact(l50<|.i (.l .c .a)<|.i bF<|.i (.q .c<|.p (.p .b .d) .e)<|.i mQ<|.i (.l aE .e) iD) a1 a2 a3 a4 a5
theorem bq7{x:Int}(a1:0<=x)(a2:x+c<=n)(a3:1<=c):x.toNat<n:=by exact(l21<|.i bE<|.i rK<|.i gN<|.S bK .a) a1 a2 a3
theorem bq8{f:Int}(e1:f=c-su)(e2:lo=hi-su)(z:su=0)(p1:0<=f)(p2:0<=lo)(t1:c<B\/c=B/\hi<=C)(t2:B<f.toNat\/B=f.toNat/\C<=lo.toNat):f=B/\lo=C:=by exact(l52<|.i (.q .a kY)<|.i (.q .b<|.m .e .d)<|.i (.q .d aE)<|.i bE<|.i bU<|.i (.w (.s .c aF)<|.o (.q .c aF)<|.l .e aN)<|.i (.w (.S .a bK)<|.o (.Q .a bK)<|.L .b<|.t .b)<|.o (.q .a aF)<|.q .b aN) e1 e2 z p1 p2 t1 t2
theorem bq9(h1:k<=B)(h2:(B:Int)<=c):(k:Int)<=c:=by exact(l12<|.i fF<|.i (.l aN .a)<|.l aF .a) h1 h2
theorem bqa(h1:k<=B)(h2:(B:Int)<=c)(e:(k:Int)=c):(B:Int)=c:=by exact(l12<|.i (.L .b .a)<|.i (.l aF .a)<|.i (.q aN .a)<|.q aF .a) h1 h2 e
theorem aL8{t:Int×Int×Int}(B:Bst a b (λp q=>p<a.length/\q<b.length) t){p q m:Int}(hp:0<=p)(hq:0<=q)(hm:1<=m)(pa:p+m<=a.length)(qb:q+m<=b.length)(r:Run a b p q m):m<=t.2.2/\(m=t.2.2->∀i j:Nat,p=i->q=j->cpI a b i j=t.2.2):=by
 obtain⟨i,rfl⟩:=K2 hp;obtain⟨j,rfl⟩:=K2 hq;obtain⟨k,rfl⟩:=K2 (tS hm:0<=m);have g:=aL9 r<|(l03<|.i (.l (.p aF aN) fU)<|.L bB .c) pa;have h:=B.le i j<|(l05<|.i (.l aC<|.j .e)<|.i (.l (.p aF<|.j .e) aN)<|.i (.l (.p fU<|.j .e)<|.j .d)<|.o dT<|.S .c .d) hm pa qb;refine⟨bq9 g h,λe w x n u=>?_⟩;obtain rfl:i=w:=aKv n;obtain rfl:j=x:=aKv u;exact bqa g h e
theorem aI6(hb:b.length<200){t:Int×Int×Int}(B:Bst a b (λp q=>p<a.length/\q<b.length) t)(h:t≠(0,0,0)):fq a b (q00 a b)=t/\1<=t.2.2:=by
 obtain e|⟨i,j,s,e,m1,mx⟩:=B.ex
 .exact absurd e h
 .have F:=aEg<|rA a b;obtain⟨c,su,u,Q,C,E,⟨V,Y⟩,w⟩:=F.core;have Z:=F.bb;have cb:=Q.bb;have T:cpI a b i j<=(a.length:Int)-i:=by
   have:=aEP (a.drop i)<|b.drop j;rw[F5] at this;exact bq1 this s.1
  have q5:cpI a b i j<=(b.length:Int)-j:=by
   by_cases z:cpl (a.drop i) (b.drop j)<=b.length-j
   .exact bq1 z s.2
   .have g:=aBk (x:=b.length-j)<|(l03<|.i (.n<|.L .c bG)<|.S bG .c) z;rw[I5,I5,O1 (l:=b)<|by exact l02<|.L .a<|.p .b bG] at g;exact bq2 (List.getElem?_eq_none_iff.mp g) T z s.1
  have M:t.2.2=cpI a b i j:=by rw[e]
  have I:=Q.max i j t.2.2 m1 (E2 _) (bq3 T M) (E2 _) (bq3 q5 M)<|aGh hb<|M▸aHU;generalize hf:fq a b (q00 a b)=f at *;obtain⟨f0,o,y,r,A⟩:=Z;have y:=y;have A:=A;have o:=o;have r:=r;have N:1<=f.2.2:=bq4 m1 I.1 w C E;have O:=aL8 B o r N y A F.run;have J:f.2.2=t.2.2:=bq5 O.1 I.1 w C E;have U:t.2.2=c.2.2:=bq6 O.1 I.1 w C E;have z3:su=0:=(l50<|.i bE<|.i bU<|.i (.q .c<|.p (.p .d .a) .b)<|.i (.q .c .e)<|.i (.q .e .d) gE) C E w J U;have xv:=I.2 U;have q6:=mx f.1.toNat f.2.1.toNat ⟨bq7 o y N,bq7 r A N⟩<|O.2 J _ _ (P7 o).symm (P7 r).symm;have R:=bq8 V Y z3 o r xv q6;refine⟨?_,m1⟩;rw[e] at J ⊢;exact Prod.ext R.1<|Prod.ext R.2 J
theorem aI5(hb:b.length<200)(h:fR a b a.length≠(0,0,0)):fR a b a.length∈Bq a b (q00 a b):=by
 obtain⟨e,m⟩:=aI6 hb (aD5 a b a.length) h;rw[sG<|rA a b,e,if_neg<|aFg m];exact J2 _<|M4 ..
theorem aCZ{t:T3}:∀{ts:List T3}{i j:Int},0<=i->0<=j->SB a.length b.length i j ts->(∀u∈ts,Run a b u.1 u.2.1 u.2.2)->t∈ts->∃X Y,lY (fJ a b i j ts=X++(spR (sl a t.1<|t.1+t.2.2)++Y)) (((aQ X).length:Int)=t.1-i) (((news X).length:Int)=t.2.1-j)<|t.1+t.2.2<=a.length/\0<=t.1:=by
 intro ts;induction ts with
 | nil=>intro _ _ _ _ _ _ h;cases h
 | cons u ts A=>
  rintro i j r w ⟨g,p,d,s4⟩ rn h;have le:=SB.le s4;have l1:=fY r g<|(l32<|.i gN<|.i (.o rK<|.l jO aN) gF) d le;have x:=fY w p<|(l32<|.i gN<|.i (.o (.l jO aN) rK) gF) d le;have B:=fY (ar6 r g) (ar9 d) le.1;have C:=fY (ar6 w p) (ar9 d) le.2;rw[hK];obtain rfl|h:=A8.mp h
  .refine⟨miR (sl a i t.1)++plR (sl b j t.2.1),fJ a b (t.1+t.2.2) (t.2.1+t.2.2) ts,by rw[B5 _ (spR _) _],?_,?_,le.1,ar6 r g⟩
   .rw[dS,qE,qD,D0,l1];exact aKm g
   .rw[eJ,qG,qF,I1,x];exact aKm p
  .obtain⟨X,Y,e,o,n,q⟩:=A (rY r g d) (rY w p d) s4 (λv y=>rn v<|V0 _ y) h;refine⟨miR (sl a i u.1)++plR (sl b j u.2.1)++spR (sl a u.1<|u.1+u.2.2)++X,Y,by rw[e];simp only[B5],?_,?_,q⟩
   .rw[dS,dS,dS,qE,qD,uC,D0,A5,A5,l1,B];exact aKl g d o
   .rw[eJ,eJ,eJ,qG,qF,uK,I1,A5,A5,x,aCQ (ar6 r g) (ar6 w p) (tS d)<|rn u<|M4 ..,C];exact aKl p d n
theorem aM4:∀X:aH,(X.map (·.1)).count plS+(aQ X).length=X.length:=by
 intro X;induction X with
 | nil=>
  exact rfl
 | cons r X a=>
  have a:=a;rw[H5,List.count_cons,uD];by_cases h:r.1=plS
  .rw[if_pos (by rw[h];exact beq_self_eq_true _),if_neg (by rw[h];simp)];exact aKk a
  .rw[if_neg<|by simpa using h,if_pos<|by simpa using h];exact aKj a
theorem aM5:∀X:aH,(X.map (·.1)).count miS+(news X).length=X.length:=by
 intro X;induction X with
 | nil=>
  exact rfl
 | cons r X a=>
  have a:=a;rw[H5,List.count_cons,aDq];by_cases h:r.1=miS
  .rw[if_pos (by rw[h];exact beq_self_eq_true _),if_neg (by rw[h];simp)];exact aKk a
  .rw[if_neg<|by simpa using h,if_pos<|by simpa using h];exact aKj a
theorem aKS{r:Str×Str}(h:r∈spR a):r.1=spS:=by obtain⟨x,_,rfl⟩:=C1.mp h;rfl
theorem aG3(l:List Str)(k:Nat):(aQ<|(spR l).take k).length=(l.take k).length:=by
 rw[show(spR l).take k=spR (l.take k) from R9.symm,uC]
theorem aG4(l:List Str)(k:Nat):(news<|(spR l).take k).length=(l.take k).length:=by
 rw[show(spR l).take k=spR (l.take k) from R9.symm,uK]
theorem aKT(st:List cA):dQ st=aQ (st.map λs=>(s.1,s.2.1)):=by
 unfold dQ aQ;rw[List.filter_map,F7];rfl
theorem aKV(st:List cA):cZ st=news (st.map λs=>(s.1,s.2.1)):=by
 unfold cZ news;rw[List.filter_map,F7];rfl
theorem aGo(hb:b.length<200)(hs:st.map (λs=>(s.1,s.2.1))=bL a b):rkV st=true:=by
 have x:dQ st=a:=by rw[aKT,hs,kO]
 have y:cZ st=b:=by rw[aKV,hs,nU]
 have A:yN st=fR a b a.length:=by unfold yN;rw[x,y]
 unfold rkV;rw[A];by_cases h:fR a b a.length=(0,0,0)
 .rw[h];rfl
 .have w:=aI5 hb h;generalize fR a b a.length=t at *;have B:=bok<|rA a b;obtain⟨X,Y,e,o,n,J,M⟩:=aCZ (C2 _) (C2 _) B.sb (λu C=>(B.all u C).2.2.2.2.2) w;have e:bL a b=X++(spR (sl a t.1<|t.1+t.2.2)++Y):=e;have m1:=(B.all t w).2.2.2.2.1;rw[List.isEmpty_iff,AA4];intro k hk;have hk:=J9.mp hk;have r:=fY M (ar9 m1) J;have q:(spR<|sl a t.1<|t.1+t.2.2).length=t.2.2.toNat:=by unfold spR;rw[A1,r];congr 1;exact aKi
  have lst:st.length=(bL a b).length:=by rw[← hs,A1]
  have lk:X.length+k<st.length:=by rw[lst,e,A5,A5,q];exact(l13<|.i (.S .b bK)<|.S bB<|.p .a<|.p bK .c) hk
  have at_:(bL a b)[X.length+k]?=(spR<|sl a t.1<|t.1+t.2.2)[k]?:=by
   rw[e,M6<|K5 _ _,Z8,L5 (by rw[q];exact hk)]
  have E:(atR st<|X.length+k).1=spS:=by
   unfold atR;rw[D7,B1 lk];have g:(bL a b)[X.length+k]?=Na (st[X.length+k].1,st[X.length+k].2.1):=by
    rw[← hs,B3,B1 lk];rfl
   rw[at_] at g;exact aKS<|D5 g
  have I:X.length+k∈kpt st:=T7.mpr ⟨J9.mpr lk,by rw[E];exact beq_self_eq_true _⟩;have tk:(st.take<|X.length+k).map (·.1)=(X++(spR<|sl a t.1<|t.1+t.2.2).take k).map (·.1):=by
   have:(st.map λs=>(s.1,s.2.1)).take (X.length+k)=X++(spR<|sl a t.1<|t.1+t.2.2).take k:=by
    rw[hs,e,List.take_append,N5<|K5 _ _,Z8,List.take_append_of_le_length (by rw[q];exact(l11<|.i (.S .a bK)<|.L .a bK) hk)]
   rw[← this,← R9,F7];rfl
  have d:=aM4<|X++(spR<|sl a t.1<|t.1+t.2.2).take k;have j:=aM5<|X++(spR<|sl a t.1<|t.1+t.2.2).take k;rw[← tk,dS,A5,A5,aG3,G4,G4,r] at d;rw[← tk,eJ,A5,A5,aG4,G4,G4,r] at j;have N:rkP st (X.length+k)=(t.1+(0+(k:Nat)),t.2.1+(0+(k:Nat))):=by
   have z:(t.1+t.2.2-t.1).toNat=t.2.2.toNat:=by congr 1;exact aKi
   rw[z,q] at d j;have O:=T9<|I2 hk;rw[O] at d j;refine Prod.ext ?_ ?_
   .show((X.length+k:Nat):Int)-((((st.take<|X.length+k).map (·.1)).count plS:Nat):Int)=t.1+(0+(k:Nat));exact aKh o d
   .show((X.length+k:Nat):Int)-((((st.take<|X.length+k).map (·.1)).count miS:Nat):Int)=t.2.1+(0+(k:Nat));exact aKh n j
  unfold rkG;rw[← N,List.contains_iff_mem.mpr<|C1.mpr ⟨_,I,rfl⟩]
  decide
theorem aAx:∀{l:aH},(∀r∈l,iR r)->l.length<=(aQ l).length+(news l).length:=by
 intro l;induction l with
 | nil=>
  intro _;exact C8 _
 | cons r l a=>
  intro h;have a:=a λx b=>h x<|V0 _ b;rw[uD,aDq,D1];obtain e|e|e:=h r (M4 ..)
  .rw[if_pos (by rw[e];exact bne_iff_ne.mpr aAN),D1];split;(try rw[D1]);exact(l03<|.i pH<|.L aR<|.p bJ cD) a;(try rw[D1]);exact(l03<|.i pH<|.L aR<|.p bJ .c) a
  .rw[if_pos (by rw[e];exact bne_iff_ne.mpr tB),D1];split;(try rw[D1]);exact(l03<|.i pH<|.L aR<|.p bJ cD) a;(try rw[D1]);exact(l03<|.i pH<|.L aR<|.p bJ .c) a
  .rw[if_neg (by rw[e];simp),if_pos (by rw[e];exact bne_iff_ne.mpr tB.symm)];exact(l03<|.i pH<|.L aR pP) a
theorem aGs(hN:N<=3)(za:a.length<=190)(zb:b.length<=190)(H:aAc a<|iH N<|bL a b):OpV w (n+5) (cal<|.ref 304) [.lst<|a.map .str,.lst<|(bQ<|iH N<|bL a b).map .str,.int N] (.lst<|b.map .str):=by
 have d:=aLs (N:=N) (a9:=bL a b) mH;rw[kO] at d;have e:(tri<|flg N (bL a b)<|N+1).map (λs=>(s.1,s.2.1))=bL a b:=by rw[aAj,eS]
 have h:(bL a b).length<=380:=by
  have:=aAx (l:=bL a b) mH;rw[kO,nU] at this;exact(l03<|.i (.L .b iB)<|.i (.L .c iB)<|.i pH<|.L .a<|.k 380) za zb this
 have j:(tri<|flg N (bL a b)<|N+1).length<=1000:=by
  have:=congrArg Y0 e;rw[A1] at this;exact(l02<|.i (.L .b<|.k 380)<|.i bH eF) h this
 have g:GcO (tri (flg N (bL a b)<|N+1)++[jR]) [] []:=aPv (by
  rw[B4,B4,e]
  congr 1;unfold fSt;rw[F7];exact(List.map_id _))<|aPw<|aFr zb
 have:=aLr (w:=w) (n:=n) hN H (by rw[d];exact j) (by rw[d];exact aDr) (by rw[d];exact g) (by rw[d];exact aGo (aFr zb) e)
 rwa [d,aKU,eS,nU] at this
theorem aC3(a b:Int)(ts:List T3):(hX<|bW a b ts).length<=2*(ts.length+2):=by
 have e:=aDk (bW a b ts) ((0,0),[]);have d:=aDw ts ((0,0,0),[]);have g:(bW a b ts).length<=ts.length+2:=by
  have d:(ts.foldl dX ((0,0,0),[])).2.length<=ts.length:=by simpa using d
  unfold bW kX;split
  .simp only[A5,D1];exact Nat.add_le_add d (show 0+1<=2 by decide)
  .simp only[A5,D1];exact K8<|K8 d
 simp at e;exact(l03<|.i (.L .c pI)<|.i (.L .a<|.u 2 .c)<|.L .a<|.u 2 pI) g e
theorem aOc(za:a.length<=190)(zb:b.length<=190)(la:∀x∈a,x.length<=100000)(lb:∀x∈b,x.length<=100000)(sk:(Bq a b<|q00 a b).length<64)(hz:(bQ<|iH N<|bL a b).length<=1000):UdJ w a b (S9 "") N id<|bQ<|iH N<|bL a b:=by
 have B:=bok<|rA a b;have c:=aC4 B.sb;have e:=aC3 a.length b.length<|Bq a b<|q00 a b;have d:=aLp (N:=N) c.1;rw[c.2] at d;exact⟨xQ za,xQ zb,la,lb,⟨_,xK a b,B.lt,sk,aBR (E2 N) (xQ za) (xQ zb) c.1<|(l02<|.i (.S .b<|.k 64)<|.i (.L .a<|.u 2 pI) eF) sk e,d.symm⟩,aKY (xQ za)<|aFr zb,by decide,dW hz⟩
theorem aMt:∀(l:List pC)(o m:Int)(c:Option Hk),((hks l o m c).flatMap hkT).length<=l.length+1+(c.map λh=>h.2.2.length).getD 0:=by
 intro l;have e:∀c:Option Hk,(c.toList.flatMap hkT).length<=1+(c.map λh=>h.2.2.length).getD 0:=λc=>by
  cases c with
  | none=>exact C8 _
  | some h=>show([h].flatMap hkT).length<=1+h.2.2.length;rw[E1,O9,D0,gQ];exact C4 _
 induction l with
 | nil=>intro o m c;rw[U6];exact e c
 | cons r l g=>
  intro o m c;obtain⟨r,f⟩:=r;cases f with
  | true=>
   refine A9 (g _ _ _) ?_;have:(c.getD (o,m,[])).2.2.length=(c.map λh=>h.2.2.length).getD 0:=by cases c <;> rfl
   show l.length+1+((c.getD (o,m,[])).2.2++[r]).length<=_;rw[A5,this];exact l02<|.L (.p aR<|.p .b gP)<|.p (.p aR aC) .b
  | false=>
   rw[aB1,L9,A5,D1];have a:=e c;have b:=g (o+1) (m+1) Nb;exact(l04<|.i (.L .a<|.p aC .d)<|.i (.L .b<|.p cD aE)<|.L bB<|.p (.p cD aC) .d) a b
theorem aLq:(bQ<|iH N a9).length<=3+a9.length:=by
 have h:((iH N a9).flatMap hkT).length<=_:=aMt (flg N a9<|N+1) 0 0 Nb;have e:(flg N a9<|N+1).length=a9.length:=by rw[← A1 (·.1),eS]
 rw[e] at h;generalize iH N a9=hs at h;cases hs with
 | nil=>exact C8 _
 | cons x d=>rw[jJ];exact(l02<|.i (.L .a<|.p bJ aE)<|.L (.p bX .a)<|.p dB .b) h
structure HkB(B M:Nat)(h:Hk):Prop where
 o0:0<=h.1
 o1:h.1<=B
 m0:0<=h.2.1
 m1:h.2.1<=B
 z:h.2.2.length<=B
 r:∀r∈h.2.2,(r.1++r.2).length<=M
theorem aOS(r:Str×Str):0<=oI r/\oI r<=1:=by unfold oI;split <;> decide
theorem aP0(r:Str×Str):0<=nI r/\nI r<=1:=by unfold nI;split <;> decide
theorem aPm:∀(l:List pC)(o m:Int)(c:Option Hk),(∀r∈l,(r.1.1++r.1.2).length<=C)->0<=o->o+l.length<=B->0<=m->m+l.length<=B->HkB B C (c.getD (o,m,[]))->(c.getD (o,m,[])).2.2.length+l.length<=B->∀h∈hks l o m c,HkB B C h:=by
 intro l;induction l with
 | nil=>
  intro o m c _ _ _ _ _ e _ h d;cases c with
  | none=>cases d
  | some x=>cases C6.mp d;exact e
 | cons r l I=>
  intro o m c E g j n q e w h d;have A:=λx J=>E x<|V0 _ J;have M:=E r<|M4 ..;obtain⟨r,f⟩:=r;cases f with
  | true=>
   have a:=aOS r;have b:=aP0 r;refine I _ _ _ A (by exact aKu g a) (by exact aKt j a) (by exact aKu n b) (by exact aKt q b) ?_ ?_ h d
   .generalize c.getD (o,m,[])=x at e w;refine⟨e.o0,e.o1,e.m0,e.m1,?_,λy u=>(E4.mp u).elim (e.r y) λu=>by rw[C6.mp u];exact M⟩;show(x.2.2++[r]).length<=B;rw[A5,D1];exact(l03<|.i (.L (.p .a cD) .b)<|.L (.p .a gP) .b) w
   .show((c.getD (o,m,[])).2.2++[r]).length+l.length<=B;rw[A5,D1,U6];exact(l03<|.i (.L gM .c)<|.L (.p (.p .a gP) .b) .c) w
  | false=>
   obtain d|d:=E4.mp d
   .cases c with
    | none=>cases d
    | some x=>cases C6.mp d;exact e
   .refine I (o+1) (m+1) Nb A (by exact ar4 g) (by exact aKs j) (by exact ar4 n) (by exact aKs q) ?_ ?_ h d
    .show HkB B C (o+1,m+1,[]);exact⟨by show 0<=o+1;exact ar4 g,by show o+1<=B;exact aKr j,by show 0<=m+1;exact ar4 n,by show m+1<=B;exact aKr q,C8 _,nofun⟩
    .show 0+l.length<=B;exact(l12<|.i bE<|.i (.l gO aN)<|.L (.p aE .a) .b) g j
theorem aOA(hr:∀r∈a9,(r.1++r.2).length<=C)(hB:a9.length<=B):∀h∈iH N a9,HkB B C h:=by
 have e:(flg N a9<|N+1).length=a9.length:=by rw[← A1 (·.1),eS]
 refine aPm _ 0 0 Nb (λr h=>?_) (C2 _) (by rw[e];exact aKq hB) (C2 _) (by rw[e];exact aKq hB) ?_ (by show 0+_<=B;rw[e];exact(l02<|.i fF<|.L (.p aE .a) .b) hB)
 .have:r.1∈(flg N a9<|N+1).map (·.1):=C9 h;rw[eS] at this;exact hr _ this
 .show HkB B C ((0:Int),(0:Int),[]);exact⟨C2 _,E2 _,C2 _,E2 _,C8 _,nofun⟩
theorem aE2(hB:B<1000000){h:Hk}(b:HkB B C h):(cE h.1 (bI h.2.2) h.2.1<|bT h.2.2).length<=8100:=by
 have n:bI h.2.2<=h.2.2.length:=H6 ..;have o:bT h.2.2<=h.2.2.length:=H6 ..;have z:=b.z;have u:=b.o0;have w:=b.o1;have r:=b.m0;have m1:=b.m1;have l1:=iK u (by exact aKp hB w) (E2 _) (by exact aKo hB n z);have q:=iK r (by exact aKp hB m1) (E2 _) (by exact aKo hB o z);have a1:(S9 "@@ -").length=4:=by decide
 have g:(S9 " +").length=2:=by decide
 have j:(S9 " @@").length=3:=by decide
 unfold cE;rw[cU,cU,cU,cU];exact(l05<|.i (.L .b iU)<|.i (.L .d iU)<|.i (.Q .a dJ)<|.i (.Q .c bX)<|.i (.Q .e dB)<|.L (.p (.p jP .d) .e)<|.k 8100) l1 q a1 g j
theorem aBy(hB:B<1000000)(hM:8100<=C)(b:∀h∈hs,HkB B C h):∀x∈bQ hs,x.length<=C:=λx d=>by
 have e:x∈oR++hs.flatMap hkT:=by
  unfold bQ at d;split at d
  .cases d
  .exact d
 obtain e|e:=E4.mp e
 .have:∀y∈oR,y.length<=4:=by decide
  exact A9 (this x e) (by exact(l01<|.i (.L (.k 8100) .a)<|.L dJ .a) hM)
 .obtain⟨h,g,d⟩:=J0.mp e;obtain rfl|d:=A8.mp d
  .exact A9 (aE2 hB<|b h g) hM
  .obtain⟨r,j,rfl⟩:=C1.mp d;exact(b h g).r r j
theorem aPb:∀(hs:List Hk)(t:List cA×Nat×Int),(hs.foldl (lsA kn) t).2.2<=t.2.2+(hs.flatMap hkT).length:=by
 intro hs;induction hs with
 | nil=>
  intro t;show t.2.2<=t.2.2+((0:Nat):Int);exact Int.le_of_eq (K1 _).symm
 | cons h hs g=>
  intro t;have g:=g<|lsA kn t h;have n:bT h.2.2<=h.2.2.length:=H6 ..;rw[M7,E1,A5,gQ];have e:(lsA kn t h).2.2=t.2.2+((bT h.2.2:Int)-bI h.2.2):=rfl;exact(l24<|.i (.L .c .a)<|.i (.l .a<|.p (.p .b<|.m fU<|.j .d) aN)<|.l .a<|.p .b<|.j<|.p (.p aC .a) .b) n g
theorem aIo:∀r∈bL a b,r.1.length=1/\(r.2∈a\/r.2∈b):=λr d=>by
 have k:=mH r d;refine⟨?_,?_⟩
 .obtain e|e|e:=k <;> rw[e] <;> decide
 .by_cases q:(r.1 != plS)=Nc
  .exact .inl (kO a b▸(C9<|T7.mpr ⟨d,q⟩))
  .have e:r.1=plS:=by simpa using q
   exact .inr<|nU a b▸(C9<|T7.mpr ⟨d,by rw[e];exact bne_iff_ne.mpr tB.symm⟩)
theorem aKx:(bL a b).length<=a.length+b.length:=by
 have:=aAx (l:=bL a b) mH
 rwa [kO,nU] at this
def rpL(N:Nat)(a b:List Str):List Str:=bQ<|iH N<|bL a b
theorem tZ:(rpL N a b).length<=3+(a.length+b.length):=A9 aLq<|V7 aKx 3
theorem aOv(la:∀x∈a,x.length<=B)(lb:∀x∈b,x.length<=B):∀h∈iH N (bL a b),HkB (a.length+b.length) (B+1) h:=
 aOA (λr d=>by
  have k:=aIo r d;rw[cU,k.1,Nat.add_comm];exact K8<|k.2.elim (la _)<|lb _) aKx
theorem aCY{M:Nat}(hM:8100<=M)(za:a.length<=190)(zb:b.length<=190)(la:∀x∈a,x.length<=M)(lb:∀x∈b,x.length<=M):∀x∈rpL N a b,x.length<=M+1:=
 aBy (by exact(l02<|.i (.L .a iB)<|.i (.L .b iB)<|.S bB cL) za zb) (by exact(l01<|.i (.L (.k 8100) .a)<|.L (.k 8100) aR) hM) (aOv la lb)
theorem aMo(za:a.length<=190)(zb:b.length<=190)(la:∀x∈a,x.length<=50000)(lb:∀x∈b,x.length<=50000):aAc a<|iH N<|bL a b:=by
 have ok:=aHd (N:=N) (a9:=bL a b) mH;rw[kO] at ok;have z:(bQ<|iH N<|bL a b).length<=3+(a.length+b.length):=tZ;refine⟨ok,aMr ok,by exact(l01<|.i (.L .a iB)<|.L .a<|.k 500) za,by exact(l03<|.i (.L .b iB)<|.i (.L .c iB)<|.i (.L .a<|.p dB cY) eF) za zb z,λx e=>A9 (aCY (by decide) za zb la lb x e)<|by decide,λi=>?_⟩;generalize iH N (bL a b)=d at z ⊢;have g:=aPb (kn:=a) (d.take i) ([],0,0);have k:((d.take i).flatMap hkT).length<=(d.flatMap hkT).length:=by
  have:d.flatMap hkT=(d.take i).flatMap hkT++(d.drop i).flatMap hkT:=by rw[← L9,G3]
  rw[this,A5];exact K5 _ _
 have j:(d.flatMap hkT).length<=1000:=by
  cases d with
  | nil=>exact C8 _
  | cons h d=>rw[jJ] at z;exact(l03<|.i (.L .b iB)<|.i (.L .c iB)<|.i (.L (.p bX .a)<|.p dB cY) eF) za zb z
 lia
theorem aQi(h1:i<=c)(h2:j<=lo)(h3:1<=hi)(h:¬(i=c/\j=lo))(ih:3*(n:Int)<=(la-(c+hi))+(lb-(lo+hi))):3*((n+1:Nat):Int)<=(la-i)+(lb-j):=by
 lia
theorem aQj(z:C+B<=180)(h1:0<=lo)(h2:0<=hi)(h3:1<=i1)(ih:3*(n:Int)<=((C:Int)-(lo+i1))+((B:Int)-(hi+i1))):n+1<64:=by
 exact(l33<|.i (.L cY<|.k 180)<|.i bE<|.i bU<|.i mP<|.i (.l (.u 3 aF)<|.p (.m aN iV)<|.m fU cY)<|.S aR<|.k 64) z h1 h2 h3 ih
theorem aI3:∀{ts:List T3}{i j:Int},SB la lb i j ts->ts.Pairwise (λt u=>¬(t.1+t.2.2=u.1/\t.2.1+t.2.2=u.2.1))->(∀u∈ts,¬(i=u.1/\j=u.2.1))->3*(ts.length:Int)<=(la-i)+(lb-j):=by
 intro ts;induction ts with
 | nil=>
  intro i j h _ _;have a:=h.1;have b:=h.2;simp only[U6];exact(l40<|.i eO<|.i (.l .d .c)<|.l (.u 3<|.j aE)<|.p bG kY) a b
 | cons t ts r=>
  rintro i j ⟨e,g,o,q⟩ p n;obtain⟨w,x⟩:=W2.mp p;exact aQi e g o (n t<|M4 ..)<|r q x w
theorem aNr(z:a.length+b.length<=180):(Bq a b<|q00 a b).length<64:=by
 have B:=bok<|rA a b;have sb:=B.sb;have d:=B.pw;generalize Bq a b (q00 a b)=e at sb d;cases e with
 | nil=>decide
 | cons t e=>
  obtain⟨g,h,i,j⟩:=sb;obtain⟨n,o⟩:=W2.mp d;exact aQj z g h i<|aI3 j o n
section
variable{c:C3}{H:TT}{t:Expr}{X:E3->A3->Sem Unit}{outs:Nat->List Dt}
theorem aMh(hc:closureFor scope c.env=pure cl)(hcell:∀x∈scope.names,x.2≠.cell)(hk:scope.kind=.function)(hn:∀x∈scope.names,x.2=.local->scope.names.lookup x.1=Na .local)(hcl:∀x a,cl.lookup x=Na a->c.env.cells.lookup x=Na a)(hf:∀x,K0 iter c.env x=pure x)
  (ht:∀C it aw,compTurn (.ListComp bn (⟨t,iter,ifs,0⟩::gs) scope pos) 0 it aw (cLc c scope cl C).env=qQ it t iter ifs (cLc c scope cl C).env (X C aw) (.compLoop (.ListComp bn (⟨t,iter,ifs,0⟩::gs) scope pos) 0 it aw (cLc c scope cl C).env)) (turn:∀C i x,xs[i]?=Na x->CtB (cLc c scope cl C) (X C) t ifs [] S.o S.d x (outs i)) (e:(B8 xs.length).flatMap outs=cq) (hz:cq.length<=B9)
  (hx:WP c.w c.A (eval iter c.env) (λv s1=>WP c.w c.A (Y1 v) (ItP c H S t xs bj) FF s1) FF s):WP c.w c.A (eval (.ListComp bn (⟨t,iter,ifs,0⟩::gs) scope pos) c.env) (EvP c Nc bj H SvR (.o S.o.length) {S with o:=S.o++[.lst cq]}) FF s:=by
 refine aDR hc hcell hk hn hcl hf ht turn e hz hx λv C f s y=>?_;obtain⟨p,h,g,j,b,rfl⟩:=y;exact A2 b λm b=>⟨m,b,λn sb=>(h.letGo sb).end g j⟩
noncomputable def Pt.locs(p:Pt c H S){r:Lo}(h:∀x s,r.lookup x=Na s->S.r.lookup x=Na s):Pt c H {S with r:=r}:=⟨p.φ,p.h,p.g,p.k,p.rm,p.gz,p.gg,⟨p.rel.len,p.rel.ok,p.rel.inj,A2 p.rel.ns λm w=>⟨m,w.1,λx s e=>w.2 x s<|h x s e⟩,p.rel.hid,p.rel.sub,p.rel.hz,p.rel.nd,p.rel.cl⟩⟩
theorem aPR{px2 pe:Pos}{ys:List β}{g v:β->Dt}(pl:P3 c N)(xw:X9 [.Name x px] ah pp.line c.env=pure Nd)(xx:J8 [.Name x px] ah c.env=pure Nb)(xy:(E7 [.Name x px] c.env).map (·.2)=[assign (.Name x px) c.env])(zg:∀{H:TT}(p:Pt c H S),WP c.w c.A (eval ah c.env) (ItP c H S (lcT e) (ys.map g) p.φ) FF p.s)(lx:lcX c x=Nc)(xz:aBL c x=Nc)(nx:S.r.lookup x=Nb)
  (hi:interactive c.env=Nd) (hs:swapsWith (.Call (.Attribute (.Name ff pt) (S9 "append") ap) [e] [] pf) Nb pe.line c.env=pure Nd) (hb:∀q,V9 (.Name ff pt) (S9 "append") c.env q=q) (hf:O5 ([e].length+([]:List AA6).length) (I9 pf<|C0 [e] c.env) (K4 pf<|G5 [] c.env)=Nc) (hl:(ap.endLine==pf.line)=Nc) (he:C0 [e] c.env=(Nd,eval e c.env)::C0 [] c.env)
  (lt:aBL c ff=Nc) (y5:ff≠x) (et:S.r.lookup ff=Na (.o n)) (eo:S.o[n]?=Na (.lst l)) (hz:l.length<=B9) (ok:(lcV e).isSome=Nc) (ei:lcI e=.Name x px2) (hc:closureFor (lcS e) c.env=pure (clN c.env a8)) (y6:ys.length<=B9)
  (step:∀y∈ys,∀C,P3 (cLc c (lcS e) (clN c.env a8) C) N->∃r2:Lo,∀l,dH (AsT (cLc c (lcS e) (clN c.env a8) C) (CR [] S.o S.d l) (lcT e) (.d<|g y)<|CR r2 S.o S.d l) (EvT (cLc c (lcS e) (clN c.env a8) C) Nc (CR r2 S.o S.d l) EqR (oD (lcF e) (cLc c (lcS e) (clN c.env a8) C).env) Nc<|CR r2 S.o S.d l)<|EvE (cLc c (lcS e) (clN c.env a8) C) (CR r2 S.o S.d l) (lcE e) (.d<|v y)<|CR r2 S.o S.d l) :
  EvX c S [.Assign [.Name x px] ah pp,.Expr (.Call (.Attribute (.Name ff pt) (S9 "append") ap) [e] [] pf) pe] .next {S with o:=(S.o++[Ow.fz<|.lst<|ys.map v]).set n (Ow.lst<|l++[.lst<|ys.map v])}:=by
 obtain⟨pos,ok⟩:=aDQ (c:=c) ok;have y7:=(A4.mp eo).1;refine⟨λH p=>fH<|vQ xw xx xy<|(zg p).mono λzv s y=>?_⟩;obtain⟨I,T,Z,p2,l2,lz,V,rfl,rfl⟩:=y;refine(tP<|fW lx).go p2 (.dt<|.raw _) λp3 l3=>fH (yA hi hs<|fN hb hf hl<|(bC (aU lt) (by show(pu x _ S.r).lookup ff=_;rw[wC,if_neg y5];exact et)).go p3 λQ tv l4 r4 y8=>WP.in<|((uL (S:={S with r:=pu x (.d<|.raw<|.ref I) S.r}) (aEI eo) PySem.F.slot_list_append PySem.F.type_list_append).run (T 0++H) Q tv r4 y8).mono λf s q=>?_);obtain⟨rfl,rfl⟩:=q;have tu:∀C i d,(ys.map g)[i]?=Na d->CtB (cLc c (lcS e) (clN c.env a8) C) (apX (lcE e) (cLc c (lcS e) (clN c.env a8) C).env) (lcT e) (lcF e) [] S.o S.d d (((ys[i]?).toList).map v):=λC i d M=>by
  rw[B3] at M;obtain⟨y,ey,rfl⟩:=B0.mp M;obtain⟨r2,q⟩:=step y (D5 ey) C ⟨⟨ok.hk,pl.g,pl.b⟩,pl.rm⟩;rw[ey];exact⟨r2,Nc,λl=>(q l).1,nofun,λl=>(q l).2,nofun,λO=>aR6 λl=>⟨_,(q l).3,rfl⟩⟩
 have fm:(B8 (ys.map g).length).flatMap (λi=>((ys[i]?).toList).map v)=ys.map v:=by
  have:=aEi (t:=λO=>Nc) (v:=v) (xs:=ys) ys.length;rw[I4,J4.mpr λO O=>rfl] at this;rw[A1,← this]
  congr 1
  funext i
  rw[J4.mpr λO O=>rfl]
 refine aF4 he rfl<|dZ he ?_;rw[ok.eq];refine(aMh (S:={S with r:=pu x (.d<|.raw<|.ref I) S.r}) (bj:=Q.φ) (H:=H) hc ok.hcell ok.hk ok.hn (λO O=>aEV) ok.hf (λC it aw=>aCA rfl rfl) tu fm (by rw[A1];exact y6) ?_).mono λlv s y=>?_
 .rw[ei];refine(bC (aU xz) (by show(pu x _ S.r).lookup x=_;rw[wC,if_pos rfl])).go Q λJ u l5 r5=>?_;obtain rfl:u=.ref I:=Rp.inv r5;refine(V.self c.A J.h J.g J.k 0 λx hx=>J.rel.hid x<|E0 _ hx).mono λit s' z=>?_;obtain⟨rfl,rfl⟩:=z;exact⟨I,T,Z,J,l5,lz.trans<|l3.le.trans<|l4.le.trans l5.le,V,rfl,rfl⟩
 obtain⟨j,rfl,l6,r6⟩:=y;have l06:=l2.tr<|l3.tr<|l4.tr l6;refine lG ?_;obtain⟨a,Y,rfl⟩:=r6;refine j.frz Y D9 λU lZ R rv=>?_;have M:(S.o++[Ow.lst<|ys.map v]).set S.o.length (.fz<|.lst<|ys.map v)=S.o++[.fz<|.lst<|ys.map v]:=by rw[Q1 _ _<|C4 _,N8];rfl
 rw[show({r:=pu x (.d<|.raw<|.ref I) S.r,o:=(S.o++[Ow.lst<|ys.map v]).set S.o.length<|.fz<|.lst<|ys.map v,d:=S.d}:Sd)=⟨pu x (.d<|.raw<|.ref I) S.r,S.o++[.fz<|.lst<|ys.map v],S.d⟩ from congrArg (Sd.mk _ · _) M] at R;have B:∃B:Pt c H ⟨pu x (.d<|.raw<|.ref I) S.r,S.o++[.fz<|.lst<|ys.map v],S.d⟩,B.s=j.s/\B.φ=⟨U,j.φ.α⟩:=⟨⟨⟨U,j.φ.α⟩,j.h,j.g,j.k,j.rm,j.gz.le lZ,j.gg,R⟩,rfl,rfl⟩
 obtain⟨B,e7,E⟩:=B;have sn:Lt Nc j.φ B.φ:=E▸⟨lZ,λO=>Q6 _⟩;have r7:SvR B.φ (.o S.o.length)<|.ref a:=E▸⟨a,Y,rfl⟩;rw[← e7];have q:=(yT ((L5 y7).trans eo) (by show((S.o++[_])[S.o.length]?).bind _=_;rw[D9];rfl) hz).run H B [tv,.ref a] (.cons (r4.up<|l6.tr sn)<|.cons r7 .nil);refine WP.in<|(q).mono λw s y=>?_;obtain⟨p8,rfl,l8,_⟩:=y;exact qN ((p8.locs λy s e=>by
  rw[wC,if_neg (by rintro rfl;rw[nx] at e;cases e)];exact e).end (l06.f.tr (sn.tr l8).f) rfl)
end
abbrev aPO:I8:=fd (dC 16) (S9 "law") .none Nb lwM (.ref 308) Nb
abbrev laB:List F9:=gR<|dC 16
noncomputable abbrev aPi:List<|Str×Nat:=[(S9 "edge",3),(S9 "turn",2),(S9 "n",1)]
noncomputable def laN(V:List Int):Nat:=(V.sum.fmod 4).toNat
theorem aDS(V:List Int):(laN V:Int)=V.sum.fmod 4:=by
 have:=U2 V.sum (b:=4) (by decide);unfold laN;exact(l10<|.i bE<|.q (.j bK) .a) this
theorem aMj(V:List Int):laN V<=3:=by
 have:=Int.fmod_lt_of_pos V.sum (b:=4) (by decide);have:=aDS V;exact(l11<|.i (.s .a dJ)<|.i (.q aF .a)<|.L .a dB) (by assumption) this
def tl(V:List Int):Nat->Nat->List Str:=λk=>Y9 (motive:=λO=>Nat->List Str) (lvW V) (λO f t=>rpL (laN V) (f t)<|f<|t+1) k
def tbR(V:List Int)(k:Nat):Dt:=.lst<|(B8<|4-k).map λt=>txD<|tl V k t
def tbL(V:List Int)(k:Nat):List Dt:=(B8<|k+1).map<|tbR V
def egL(V:List Int)(t:Nat):List Dt:=(B8<|4-t).map λk=>txD<|tl V k t
section
variable{X:Q3}
abbrev laC(w:E9)(X:Q3):C3:=cX w aPO 309 aPi X
noncomputable abbrev laS(V:List Int)(d:D8)(x:Lo)(ed tu nn:Option Sv)(os:List Ow):Sd:=⟨[(S9 "script",.d<|.lst<|V.map .int)]++x,[.cell ed,.cell tu,.cell nn]++os,d⟩
abbrev lM(V:List Int):Option Sv:=Na<|.d<|.int<|laN V
noncomputable abbrev laT:Lo:=[(S9 "table",.o 3)]
theorem aSt(pl:P3 (laC w X) 30):EvX (laC w X) (laS V X.d [] Nb Nb Nb []) (laB.take 1) .next<|laS V X.d [] Nb Nb (lM V) []:=by
 rw[show lM V=Na (.d<|.int<|V.sum.fmod 4) by rw[lM,aDS]];exact xa pl [.e<|.d<|.int V.sum] _ [EvE (laC w X) (laS V X.d [] Nb Nb Nb []) (.Call (.Name (S9 "sum") ⟨675,8,675,11⟩) [.Name (S9 "script") ⟨675,12,675,18⟩] [] ⟨675,8,675,19⟩) (.d<|.int V.sum)<|laS V X.d [] Nb Nb Nb [],(4:Int)≠0] (by kernel_rfl) ⟨aMY pl.rm0 pl.toFn3 (by kernel_rfl) rfl (bC (aU<|by kernel_rfl) rfl) rfl,by decide,trivial⟩
theorem aSs(pl:P3 (laC w X) 30)(hz:V.length<=1000):EvX (laC w X) (laS V X.d [] Nb Nb (lM V) []) ((laB.drop 1).take 1) .next<|laS V X.d laT Nb Nb (lM V) [.lst<|tbL V 0]:=
 xa pl [.v<|.lst<|(lvV V 3).map txD] _ [fQ w 30 (S9 "_law_versions") [.lst<|V.map .int] (.lst<|(lvV V 3).map txD)] (by kernel_rfl) ⟨⟨_,1,by decide,aHk,by kernel_rfl,aO8 hz⟩,trivial⟩
abbrev laF:List F9:=foB<|laB.drop 2
abbrev laR(V:List Int)(i:Nat)(d:D8):Sd:=laS V d (laT++[(S9 "row",.d<|tbR V i)]) Nb (Na<|.d<|.int<|0+(i:Nat)) (lM V) [.lst<|tbL V i]
theorem aSq(pl:P3 (laC w X) 30)(hi:B<3):EvX (laC w X) (laS V X.d laT Nb (Na<|.d<|.int<|0+(B:Nat)) (lM V) [.lst<|tbL V B]) (laF.take 1) .next<|laR V B X.d:=
 xa pl [.v<|tbR V B] _ [aO (.lst<|tbL V B) (-1)<|tbR V B] (by kernel_rfl) ⟨.lst (by decide) (by decide) (by rw[tbL,A1,E8];exact sR B) (by rw[tbL,B3,U0<|I0 B];rfl),trivial⟩
abbrev paD(V:List Int)(i t:Nat):Dt:=.tup [txD<|tl V i t,txD<|tl V i<|t+1]
theorem aPh(V:List Int):∀{i:Nat},i<3->((((B8<|4-i).map λt=>txD<|tl V i t).zip<|bA ((B8<|4-i).map λt=>txD<|tl V i t) (Na 1) Nb Nb).map zpT)=(B8<|3-i).map (paD V i)
 | 0,_=>by kernel_rfl
 | 1,_=>by kernel_rfl
 | 2,_=>by kernel_rfl
 | i+3,h=>absurd h<|aKa
structure TlZ(V:List Int)(k t:Nat)(z:Nat):Prop where
 z:(tl V k t).length<=z
 l:∀x∈tl V k t,x.length<=8100+k
theorem aSp(pl:P3 (laC w X) 30)(hG:X.G=AA7)(hi:B<3)(ok:∀t,t<4-B->TlZ V B t 65):EvX (laC w X) (laR V B X.d) (laF.drop 1) .next {laR V B X.d with o:=[.cell Nb,.cell<|Na<|.d<|.int<|0+(B:Nat),.cell<|lM V,.lst<|tbL V<|B+1,.fz<|tbR V<|B+1]}:=by
 have T:=aPh V hi;have M:4-(B+1)=3-B:=aFq;have R:tbR V (B+1)=.lst ((B8<|3-B).map λt=>txD<|rpL (laN V) (tl V B t)<|tl V B<|t+1):=by rw[tbR,M];rfl
 have Q:tbL V (B+1)=tbL V B++[tbR V<|B+1]:=by rw[tbL,O3,B4];rfl
 rw[Q,R];refine aPR (n:=3) (g:=paD V B) (a8:=[S9 "n"]) (px2:=⟨680,85,680,90⟩) pl (by kernel_rfl) (by kernel_rfl) rfl (λp=>?_) (by kernel_rfl) (by kernel_rfl) (by kernel_rfl) (by kernel_rfl) (by kernel_rfl) (λO=>rfl) (by kernel_rfl) (by kernel_rfl) rfl (by kernel_rfl) (by decide) rfl rfl (by rw[tbL,A1,E8];exact aK9 hi) (by kernel_rfl) (by kernel_rfl) (by kernel_rfl) (by rw[E8,C5];exact aFp) (λt j C h=>⟨[(S9 "old",.d<|txD<|tl V B t),(S9 "new",.d<|txD<|tl V B<|t+1)],λl=>⟨?_,?_,?_⟩⟩)
 .rw[← T];exact aCm (as:=[.d<|tbR V B,.d<|.lst<|bA ((B8<|4-B).map λt=>txD<|tl V B t) (Na 1) Nb Nb]) pl.toFn3 (by kernel_rfl) rfl rfl (bN rfl (bC (aU<|by kernel_rfl) rfl)<|bN rfl (eq3 pl [] [((B8<|4-B).map λt=>txD<|tl V B t).length<=B9] (by kernel_rfl) ⟨by rw[A1,E8];exact l01<|.L (.m dJ .a) cH,trivial⟩) eV) (by kernel_rfl) p
 .exact gY (by kernel_rfl)
 .exact⟨λH p=>⟨wpAny_tests_nil<|p.here rfl⟩⟩
 .have j:=J9.mp j;have I:=ok t<|aK8 j;have J:=ok (t+1)<|aK7 j;have A:=I.z;have E:=J.z;have u:=aOc (w:=w) (N:=laN V) (tT A) (tT E) (λx r=>A9 (I.l x r)<|aK6 hi) (λx r=>A9 (J.l x r)<|aK6 hi) (aNr<|(l02<|.i (.L .a<|.k 65)<|.i (.L .b<|.k 65)<|.L bB<|.k 180) A E)<|A9 tZ<|(l02<|.i (.L .a<|.k 65)<|.i (.L .b<|.k 65)<|.L (.p dB bB) dA) A E;exact aHM hG h.toFn3 (by kernel_rfl) rfl (aKN (d1:=[⟨Na<|S9 "n",.Name (S9 "n") ⟨680,52,680,53⟩,⟨680,50,680,53⟩⟩,⟨Na<|S9 "lineterm",.Constant (.str<|S9 "") 0 ⟨680,64,680,66⟩,⟨680,55,680,66⟩⟩]) u (h.rm.less<|by decide) h.toFn3 (by kernel_rfl) rfl (by kernel_rfl) (by kernel_rfl) (by kernel_rfl) (λq=>⟨wpAny_evalAll_cons<|A0<|B7 q.run (λv S y=>A0<|P8<|A7<|wpAny_evalAll_cons<|A0<|B7 y.run (λv S y=>A0<|P8<|A7<|wpAny_evalAll_nil y) λO O e=>e) λO O e=>e⟩) (bN rfl (bC (aU<|by kernel_rfl) rfl)<|bN rfl (bC (aU<|by kernel_rfl) rfl) eV) (zZ (n:=2) (by kernel_rfl) (by kernel_rfl) (by kernel_rfl) rfl) zW rfl) (h.rm.less<|by decide) (h.rm.less<|by decide) (by rw[A1];exact u.hz)
theorem aSr(pl:P3 (laC w X) 30)(hG:X.G=AA7)(ok:∀k t,k<3->t<4-k->TlZ V k t 65):EvX (laC w X) (laS V X.d laT Nb Nb (lM V) [.lst<|tbL V 0]) ((laB.drop 2).take 1) .next<|laS V X.d laT Nb Nb (lM V) [.lst<|tbL V 3]:=
 oX pl [] (lo:=0) (hi:=3) (λi=>laS V X.d laT Nb Nb (lM V) [.lst<|tbL V i]) [] (by kernel_rfl) ⟨_,_,rfl⟩ (by kernel_rfl) trivial (by decide) (by decide) (by decide) (λO=>rfl) (λi hi=>tnx (by kernel_rfl) (cQ 1 (aSq pl hi)<|aSp pl hG hi λt a=>ok i t hi a)<|fits<|by kernel_rfl) cJ
abbrev laE(V:List Int)(i:Nat)(d:D8)(tu:Option Sv):Sd:=laS V d laT (Na<|.o 4) tu (lM V) [.fz<|.lst<|tbL V 3,.fz<|.lst<|egL V i]
theorem aIV(h:i=k):-9223372036854775808<=i:=(l11<|.i (.q .a aF)<|.l (.g gJ) .a) h
theorem aJ0(h:i=k)(hk:k<1000):i<9223372036854775808:=(l11<|.i (.q .a aF)<|.i (.S .a dA)<|.s .a gJ) h hk
theorem vU(hk:k<4)(ht:B<4-k)(i:Int)(e:i=B):aO (tbR V k) i<|txD<|tl V k B:=
 .lst (aIV e) (aJ0 e<|aK5 ht) (by rw[A1,E8];exact tY e ht) (by rw[B3,U0 ht];rfl)
theorem xG(hk:k<4-B)(i:Int)(e:i=k):aO (.lst<|egL V B) i<|txD<|tl V k B:=
 .lst (aIV e) (aJ0 e<|aK5 hk) (by rw[egL,A1,E8];exact tY e hk) (by rw[egL,B3,U0 hk];rfl)
theorem aEx{c:C3}(pl:P3 c N)(a8:List Str)(hs:List Hi)(xs:List α)(g:α->Dt)(v:α->Dt)(d:Dt)(qs:List Prop)(ok:(lcV e).isSome=Nc)(kh:X9 [.Name x px] e d9.line c.env=pure Nd)(hw:J8 [.Name x px] e c.env=pure Nb)(hc:closureFor (lcS e) c.env=pure (clN c.env a8))(h:(aCS pl hs S<|lcI e).map (·.1)=Na (d,qs))(a:Al qs)(it:Itr c.w d (xs.map g)<|lcT e)(hz:xs.length<=B9)(step:∀x∈xs,LcT c N S e a8 g (λO=>Nc) v x)(st:StN c {S with o:=S.o++[.lst<|xs.map v]} x (.o S.o.length) S2):EvS c S (.Assign [.Name x px] e d9) .next S2:=
 rS kh hw rfl (by
  have:=nF pl a8 hs xs g (λO=>Nc) v d qs ok hc h a it hz step
  rwa [J4.mpr λO O=>rfl] at this) (tP st)
theorem aSo(pl:P3 (laC w X) 30):EvX (laC w X) (laS V X.d laT Nb Nb (lM V) [.lst<|tbL V 3]) ((laB.drop 3).take 1) .next<|laE V 0 X.d Nb:=
 .wk (jG (n:=3) rfl) (zV (fP<|aEx pl [] [] (B8 4) (tbR V) (λk=>txD<|tl V k 0) (.lst<|tbL V 3) [] (by kernel_rfl) (by kernel_rfl) (by kernel_rfl) (by kernel_rfl) (by kernel_rfl) trivial (bM<|.inl ⟨_,_,rfl⟩) (by decide) (λk hk=>⟨λC a=>⟨[(S9 "row",.d<|tbR V k)],λl=>aP (o:=fC a [.v<|txD<|tl V k 0] [] _ _ _ _ _ _ l) (b:=((CR [(S9 "row",.d<|tbR V k)] _ X.d l,Nc,txD<|tl V k 0),[Nc=Nc->Al [aO (tbR V k) 0<|txD<|tl V k 0]])) (by kernel_rfl) ⟨λO=>⟨vU (J9.mp hk) (Nat.sub_pos_of_lt<|J9.mp hk) 0 rfl,trivial⟩,trivial⟩⟩⟩) (yG (n:=0) (by kernel_rfl) (by kernel_rfl) rfl))<|jG (n:=4) rfl)
abbrev laG:List F9:=foB<|laB.drop 4
theorem aSn(pl:P3 (laC w X) 30)(hi:B<3)(ok:∀k t,k<3->t<4-k->TlZ V k t 65):EvX (laC w X) (laE V B X.d<|Na<|.d<|.int<|1+(B:Nat)) (laG.take 1) .next<|laS V X.d laT (Na<|.o 5) (Na<|.d<|.int<|1+(B:Nat)) (lM V) [.fz<|.lst<|tbL V 3,.fz<|.lst<|egL V B,.lst<|egL V<|B+1]:=by
 have e:(egL V B).length=4-B:=by rw[egL,A1,E8]
 have E:(B8<|3-B).map (λk=>txD<|tl V k<|B+1)=egL V (B+1):=by
  rw[egL,show 4-(B+1)=3-B by exact aFq]
 rw[← E];have I:Itr w (.rng 0<|((egL V B).length:Nat)-1) ((B8<|3-B).map λk=>.int<|0+(k:Nat))<|lcT<|asV laG:=by
  have:=qH (w:=w) (lo:=0) (hi:=((egL V B).length:Nat)-1) (x:=S9 "k") (p:=⟨683,55,683,56⟩) (by decide) (by rw[e];exact(l01<|.i (.S .a dB)<|.l aE<|.m (.j<|.m dJ .a) aC) hi) (by rw[e];exact l01<|.l (.m (.j<|.m dJ .a) aC) cL)
  rwa [show((((egL V B).length:Nat):Int)-1-0).toNat=3-B by rw[e];exact l01<|.Q (.t<|.m (.m (.j<|.m dJ .a) aC) aE) rJ] at this
 refine fP (aEx pl [S9 "n",S9 "edge"] [] (B8<|3-B) (λk=>.int<|0+(k:Nat)) (λk=>txD<|tl V k<|B+1) (.rng 0<|((egL V B).length:Nat)-1) [(egL V B).length<4611686018427387904] (by kernel_rfl) (by kernel_rfl) (by kernel_rfl) (by kernel_rfl) (by kernel_rfl) ⟨by rw[e];exact l01<|.S (.m dJ .a) aAW,trivial⟩ I (by rw[E8,C5];exact aFp) (λk hk=>⟨λC A=>⟨[(S9 "k",.d<|.int<|0+(k:Nat))],λl=>aP (o:=fC A [.v<|txD<|tl V k B,.v<|txD<|tl V (k+1) B,.v<|txD<|tl V k<|B+1] [] _ _ _ _ _ _ l) (b:=((CR [(S9 "k",.d<|.int<|0+(k:Nat))] _ X.d l,Nc,txD<|tl V k<|B+1),[Nc=Nc->Al [aO (.lst<|egL V B) (0+(k:Nat))<|txD<|tl V k B,aO (.lst<|egL V B) (0+(k:Nat)+1)<|txD<|tl V (k+1) B,fQ w 30 (S9 "_law_read") [txD<|tl V k B,txD<|tl V (k+1) B,.int<|laN V] (txD<|tl V k<|B+1)]])) (by kernel_rfl) ⟨λO=>?_,trivial⟩⟩⟩) (yG (n:=0) (by kernel_rfl) (by kernel_rfl) rfl));have hk:=J9.mp hk;have h:=ok k B (aK4 hk)<|(l02<|.i (.S .b rJ)<|.S .a<|.m dJ .b) hk;have r:=ok k (B+1) (aK4 hk)<|aK3 hk;have u:=h.z;have y:=r.z;have l1:=λx g=>A9 (h.l x g)<|aK2 hk;have J:=λx g=>A9 (r.l x g)<|aK2 hk;exact⟨xG (aK8 hk) _<|S7 _,xG (aK7 hk) _<|l01<|.q (.p mV aC) cR,⟨_,20,by decide,aE6,by kernel_rfl,aGs (aMj V) (tT u) (tT y)<|aMo (tT u) (tT y) l1 J⟩,trivial⟩
abbrev laV(V:List Int)(i:Nat)(d:D8):Sd:=laS V d laT (Na<|.o 5) (Na<|.d<|.int<|1+(i:Nat)) (lM V) [.fz<|.lst<|tbL V 3,.fz<|.lst<|egL V i,.fz<|.lst<|egL V<|i+1]
theorem aSm(pl:P3 (laC w X) 30)(hi:B<3):EvB (laC w X) (laV V B X.d) (ifT<|laG.drop 1) Nd<|laV V B X.d:=by
 have u:(B8<|3-B).map (λk=>txD<|tl V k<|B+1)=egL V (B+1):=by
  rw[egL,show 4-(B+1)=3-B by exact aFq]
 have g:=eU (nF (e:=che 1<|ifT<|laG.drop 1) pl [S9 "turn"] [] (B8<|3-B) (tbR V) (λO=>Nc) (λk=>txD<|tl V k<|B+1) (.lst<|bA (tbL V 3) Nb (Na<|4-(1+(B:Int))) Nb) [(tbL V 3).length<=B9] (by kernel_rfl) (by kernel_rfl) (by kernel_rfl) ⟨by rw[tbL,A1];decide,trivial⟩ (by
  have e:(4-(1+(B:Int)))=((3-B:Nat):Int):=(l01<|.i (.S .a dB)<|.q (.m dJ<|.p aC aF)<|.j rJ) hi;rw[e,hV,tbL,← R9,List.take_range,T9<|by exact l01<|.L rJ<|.p dB aC];exact bM<|.inl ⟨_,_,rfl⟩) (by rw[E8,C5];exact aFp) (λk hk=>⟨λC r=>⟨[(S9 "row",.d<|tbR V k)],λl=>aP (o:=fC r [.v<|txD<|tl V k<|B+1] [] _ _ _ _ _ _ l) (b:=((CR [(S9 "row",.d<|tbR V k)] (laV V B X.d).o X.d l,Nc,txD<|tl V k<|B+1),[Nc=Nc->Al [aO (tbR V k) (1+(B:Int))<|txD<|tl V k<|B+1]])) (by kernel_rfl) ⟨λO=>?_,trivial⟩⟩⟩))
 .rw[J4.mpr λO O=>rfl,u] at g;have h:=aCr (w:=w) (n:=29) (EqF.lst<|EqF.str (n:=0)) (by decide) ((B8<|4-(B+1)).map λk=>tl V k<|B+1)<|(B8<|4-(B+1)).map λk=>tl V k<|B+1;rw[F7,bne_self_eq_false] at h;exact aEC (by kernel_rfl) (zZ (n:=0) (by kernel_rfl) (by kernel_rfl) (by kernel_rfl) rfl) g (rB pl.rm h rfl rfl)
 .have hk:=J9.mp hk;have x:k<4:=(l02<|.i wS<|.S .a dJ) hk;have y:B+1<4-k:=aK3 hk;exact⟨vU x y _<|AB3 1 (B:Int),trivial⟩
theorem aSl(pl:P3 (laC w X) 30)(ok:∀k t,k<3->t<4-k->TlZ V k t 65):EvX (laC w X) (laE V 0 X.d Nb) ((laB.drop 4).take 1) .next<|laE V 3 X.d Nb:=
 oX pl [] (lo:=1) (hi:=4) (λi=>laE V i X.d Nb) [] (by kernel_rfl) ⟨_,_,rfl⟩ (by kernel_rfl) trivial (by decide) (by decide) (by decide) (λO=>rfl) (λi hi=>tnx (by kernel_rfl) (cQ 1 (aSn pl hi ok) (.wk (jG (n:=5) rfl) (by
  obtain⟨pos,e⟩:=tG (b:=laG.drop 1) (by kernel_rfl);exact bY (rQ (aSm pl hi) nofun λO=>cJ) cJ)))<|fits<|by kernel_rfl) cJ
theorem aBN(gz:GZ w Z)(s:Sub Z h)(ab:AA7 g)(rm:Rm A 31)(r:Rp Z (.lst<|V.map .int) ao)(hz:V.length<=1000)(ok:∀k t,k<3->t<4-k->TlZ V k t 65):
  WP w A (PySem.call (.ref 309) [ao]) (λv' s'=>v'=.bool Nc/\Ex4 λh' g' d' k'=>dH (s'=⟨h',g',d',k',os⟩) (Sub Z h')<|AA7 g') FF ⟨h,g,d,k,os⟩:=by
 refine aJn (f:=aPO) [S9 "script"] aPi (G:=AA7) gz s rm.room (by kernel_rfl) rfl (by kernel_rfl) (λL=>by kernel_rfl) (kJ<|by kernel_rfl) (.cons r .nil) λL i j R=>?_;have pl:P3 (laC w ⟨A,L,os,d,AA7⟩) 30:=⟨⟨by kernel_rfl,by kernel_rfl,by kernel_rfl⟩,rm.deeper⟩
 have q:=cQ 1 (aSt pl)<|cQ 1 (aSs pl hz)<|cQ 1 (aSr pl rfl ok)<|cQ 1 (aSo pl)<|cQ 1 (aSl pl ok)<|fP<|aEw aB9;exact q.go (⟨_,i,g,j,(rm.deeper).less<|C8 _,gz,ab,R⟩:Pt (laC w ⟨A,L,os,d,AA7⟩) (gB Z h)<|laS V d [] Nb Nb Nb []) λa u l1 n=>by
  obtain⟨u,rfl,p⟩:=n;obtain rfl:=Rp.inv p;exact⟨rfl,a.h,a.g,_,a.k,rfl,λb o e=>a.rel.sub b o<|l1.le b o e,a.gg⟩
end
theorem aBA{α:Type}{l:List α}{a b c:Option Int}{x:α}(h:x∈bA l a b c):x∈l:=by
 obtain⟨j,_,e⟩:=Q8.mp h;exact D5 e
theorem aGU:∀x∈lvT a i,x∈a\/x∈lvP:=λx b=>by
 obtain b|b:=E4.mp b
 .obtain b|b:=E4.mp b
  .exact .inl (List.mem_of_mem_take b)
  .unfold lvC at b;split at b
   .cases b
   .exact .inr (aBA b)
 .exact .inl<|List.mem_of_mem_drop b
theorem aAT:(∀x∈lvP,x.length<=8100)/\∀x∈lv0,x.length<=8100:=by
 have h:(∀x∈lvP,x.length<=20)/\∀x∈lv0,x.length<=20:=by decide +kernel
 exact⟨λx a=>A9 (h.1 x a)<|by decide,λx a=>A9 (h.2 x a)<|by decide⟩
theorem zU{xs:List Int}:∀{l:List Str},(∀x∈l,x.length<=8100)->∀x∈xs.foldl lvT l,x.length<=8100:=by
 induction xs with
 | nil=>exact λh=>h
 | cons y xs b=>exact λh=>b λx a=>(aGU x a).elim (h x)<|aAT.1 x
theorem aBK:∀i,∀x∈lvW V i,x.length<=8100:=by
 intro i;induction i with
 | zero=>
  exact aAT.2
 | succ i a=>
  exact zU<|a
theorem aAk(hz:C<=100)(a:TlZ V k B C)(b:TlZ V k (B+1) C)(hk:k<=3):TlZ V (k+1) B<|3+(C+C):=by
 have e:=a.z;have g:=b.z;have n:(tl V (k+1) B).length<=3+((tl V k B).length+(tl V k<|B+1).length):=tZ;exact⟨(l04<|.i (.L .c .b)<|.i (.L .d .b)<|.i (.L .a<|.p dB kZ)<|.L .a<|.p dB mO) e g n,aCY (N:=laN V) (a:=tl V k B) (b:=tl V k<|B+1) (M:=8100+k) (l01<|.L (.k 8100)<|.p (.k 8100) .a) (aK1 hz e) (aK1 hz g) a.l b.l⟩
theorem aG0(V:List Int)(t:Nat):TlZ V 0 t 14:=⟨aAR t,aBK t⟩
theorem aFZ(V:List Int)(t:Nat):TlZ V 1 t 31:=aAk (by decide) (aG0 V t) (aG0 V<|t+1)<|by decide
theorem aRt(V:List Int)(t:Nat):TlZ V 2 t 65:=aAk (by decide) (aFZ V t) (aFZ V<|t+1)<|by decide
theorem aKQ(V:List Int):∀k t,k<3->t<4-k->TlZ V k t 65
 | 0,t,_,_=>⟨A9 (aG0 V t).z<|by decide,(aG0 V t).l⟩
 | 1,t,_,_=>⟨A9 (aFZ V t).z<|by decide,(aFZ V t).l⟩
 | 2,t,_,_=>aRt V t
 | k+3,t,h,_=>absurd h<|aKa
theorem aD7{W:Params}(x:Well W h (.ref I)<|ofPy<|.list<|V.map .int)(y:h.IsList I us.toArray)(i:IntsAre us V):Rp h.get? (.lst<|V.map .int)<|.ref I:=by
 have x:Well W h (.ref I)<|.list<|ofPys<|V.map .int:=x;cases x with
 | list e a=>
  obtain⟨o,b,_,n,d⟩:=y;rw[e] at b;cases b
  cases d
  exact .lst ⟨_,e,0,rfl⟩<|aDZ i
theorem aPG{P:A3->A6->Prop}(y:ao=.bool Nc/\Ex4 λh' g' d' k'=>dH (s=⟨h',g',d',k',os⟩) (Sub Z h')<|AA7 g')(f:∀s',Sub Z s'.heap->AA7 s'.gens->s'.os=os->P (.bool Nc) s'):P ao s:=by
 obtain⟨rfl,h',g',d',k',rfl,sub,a⟩:=y;exact f _ sub a rfl
theorem aH4{aj:A6}(gr:Gr w aj.heap)(ab:AA7 aj.gens)(x:Well w.params aj.heap (.ref I)<|ofPy<|.list<|V.map .int)(y:aj.heap.IsList I us.toArray)(i:IntsAre us V)(j5:¬((63:Nat):Int)<(V.length:Int)):WP w callerA (PySem.call (.ref 309) [.ref I]) (λv' s'=>v'=.bool Nc/\Ex4 λh' g' d' k'=>dH (s'=⟨h',g',d',k',aj.os⟩) (Sub aj.heap.get? h')<|AA7 g') FF aj:=
 aBN (h:=aj.heap) (GZ.whole gr) (λO O e=>e) ab ⟨rfl,by decide +kernel,by decide +kernel⟩ (aD7 x y i) (by exact(l01<|.i (.n<|.s (.j<|.k 63) aF) eF) j5) (aKQ V)
theorem aMi(Y:(K w.params).In h)(G:h.Ns 3 mg)(hm:mg qS.name=Na (.ref I)):I=309:=by
 have a:=rF Y G (n:=qS.name) (v:=.ref 309) (by kernel_rfl);rw[hm] at a;cases a;rfl
theorem zF:WalkO qV oN (λO O=>True) (InK K) qR.toRowW qS [] λf vs=>PySem.call f vs:=by
 intro w y9 I mg r G Y a o pm M n Q kV U S Z R A q;obtain rfl:=aMi Y G.T.g A;intro J N as u x B C E
 set_option tactic.hygienic true in wrow_args u x B C E
 rename_i V _ _ _ _ _ _ _ l us _ lst _ wl _ inu _ j5 _
 refine B7 (aH4 ⟨Y,G.T.nolimit,G.T.nodigits,⟨r,G.T.b,G.T.builtins⟩⟩ (.of_eq q) wl lst inu j5).run (λv d y=>?_) λO O e=>e.elim;refine aPG (P:=λv d=>GoodWG _ _ _ _ _ (.ok<|.ret v) d) y λd sub i p=>⟨.inl ⟨_,.bool Nc,[],rfl,?_,.bool Nc,?_,λO=>⟨.nil,λO h=>nomatch h⟩⟩,.of_keep sub,p,i⟩
 .intro j;rfl
 .first | kernel_rfl | exact postW_of (X:=Nc) (by rfl) (by rfl) rfl | exact postW_of (X:=Nc) (by kernel_rfl) (by kernel_rfl) rfl
theorem holds08:PySem.Challenge.rw_dm0046_08.Holds:=aE0 zF
end
end Mine.Internal
theorem PySem.Challenge.cw_dm0046_08_holds : PySem.Challenge.rw_dm0046_08.Holds := by
 exact Mine.Internal.holds08
