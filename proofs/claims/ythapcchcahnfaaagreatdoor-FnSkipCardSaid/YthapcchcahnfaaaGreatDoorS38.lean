/- Part of the proof that laws.FnSkip returns true for every argument. No conditions. -/
import Derived.Test.YthapcchcahnfaaaGreatDoorS36
set_option linter.all false
set_option maxHeartbeats 8000000
set_option maxRecDepth 100000
namespace Go.Proofs.YthapcchcahnfaaaGreatDoor
open Go Go.RowKit
theorem WV:∀ n:Fin 256,(bits .or .u8 (n.val:Int) 32==120)=(eI (UInt8.ofNat n.val)==120)∧(bits .or .u8 (n.val:Int) 32==109)=(eI (UInt8.ofNat n.val)==109)∧(bits .or .u8 (n.val:Int) 32==108)=(eI (UInt8.ofNat n.val)==108):=by decide +kernel
theorem WW (b:UInt8):(bits .or .u8 (b.toNat:Int) 32==120)=(eI b==120)∧(bits .or .u8 (b.toNat:Int) 32==109)=(eI b==109)∧(bits .or .u8 (b.toNat:Int) 32==108)=(eI b==108):=by
 have:=WV ⟨b.toNat,b.toNat_lt⟩;simpa using this
theorem GX (s:Bs) (w:World):Calls Tryz.prog 56 #[aB s] w fun e w'=>e=.returned (.bool (vY s))∧w'=w:=by
 by_cases i:3≤s.length
 ·obtain ⟨a,b,c,r,g⟩:∃ a b c r,s=a::b::c::r:=by
   match s,i with
   | a::b::c::r,_=>exact ⟨a,b,c,r,rfl⟩
  have m:∀ h,(⟨s.toArray⟩:ByteArray)[0]'h=a:=by rw [g];exact fun h=>rfl
  have n:∀ h,(⟨s.toArray⟩:ByteArray)[1]'h=b:=by rw [g];exact fun h=>rfl
  have o:∀ h,(⟨s.toArray⟩:ByteArray)[2]'h=c:=by rw [g];exact fun h=>rfl
  have d:=Lh (show vY s=((eI a==120)&&(eI b==109)&&(eI c==108)) by
   rw [g];show ([eI a,eI b,eI c]==[120,109,108])=_;cases j:(eI a==120)<;>cases k:(eI b==109)<;>cases l:(eI c==108)<;>simp_all)
  have u:(3:Int)≤(s.length:Int):=by omega
  have z:(0:Int)<(s.length:Int):=by omega
  have A:(1:Int)<(s.length:Int):=by omega
  have B:(2:Int)<(s.length:Int):=by omega
  have v:0<s.length:=by omega
  have x:1<s.length:=by omega
  have y:2<s.length:=by omega
  have p:=(WW a).1;have q:=(WW b).2.1;have t:=(WW c).2.2;cases j:(eI a==120)<;>cases k:(eI b==109)<;>cases l:(eI c==108)
  all_goals
   rw [j] at p d;rw [k] at q d;rw [l] at t d;rw [d.o];clear j k l g d i;refine eL 24 Tryz.func56 [_] fun f=>?_;simp only [aF];refine vg ?_;refine cM ?_;exact ⟨rfl,rfl⟩
 ·have d:=Lh (show vY s=false by
   match s,i with
   | [],_=>rfl
   | [a],_=>unfold vY;simp
   | [a,b],_=>unfold vY;simp
   | a::b::c::r,h=>exact absurd (by simp) h)
  have u:¬ (3:Int)≤(s.length:Int):=by omega
  clear i;refine eL 24 Tryz.func56 [_] fun f=>?_;simp only [aF];refine vg ?_;refine cM ?_;exact ⟨by rw [d.o],rfl⟩
def Ae:Bs:=[118,101,114,115,105,111,110,61,34,49,46,48,34]
def Af:Bs:=[118,101,114,115,105,111,110,61,39,49,46,48,39]
def dE:List Bs:=[[],[32,101,110,99,111,100,105,110,103,61,34,85,84,70,45,56,34],[32,101,110,99,111,100,105,110,103,61,39,117,116,102,45,56,39]]
def dS:List Bs:=[[],[32,115,116,97,110,100,97,108,111,110,101,61,34,121,101,115,34],[32,115,116,97,110,100,97,108,111,110,101,61,39,110,111,39]]
def EG (s a b:Bs):Bool:=s==Ae++a++b||s==Af++a++b
theorem PK (s:Bs):kC.contains s=dE.any fun a=>dS.any fun b=>EG s a b:=by
 rw [Bool.eq_iff_iff];show (dE.flatMap fun a=>dS.flatMap fun b=>[Ae++a++b,Af++a++b]).contains s=true↔_;simp only [List.contains_iff_mem,List.mem_flatMap,mF,y5,or_false,List.any_eq_true,EG,Bool.or_eq_true,beq_iff_eq]
abbrev ZO:Array Value:=#[.string ⟨#[]⟩,.string ⟨#[32,101,110,99,111,100,105,110,103,61,34,85,84,70,45,56,34]⟩,.string ⟨#[32,101,110,99,111,100,105,110,103,61,39,117,116,102,45,56,39]⟩]
abbrev Ay:Array Value:=#[.string ⟨#[]⟩,.string ⟨#[32,115,116,97,110,100,97,108,111,110,101,61,34,121,101,115,34]⟩,.string ⟨#[32,115,116,97,110,100,97,108,111,110,101,61,39,110,111,39]⟩]
theorem WX:∀ i,i<3→∃ a,dE[i]?=some a∧ZO[i]?=some (aB a)∧a.length≤100
 | 0,_=>⟨_,rfl,rfl,by decide⟩
 | 1,_=>⟨_,rfl,rfl,by decide⟩
 | 2,_=>⟨_,rfl,rfl,by decide⟩
theorem WY:∀ i,i<3→∃ a,dS[i]?=some a∧Ay[i]?=some (aB a)∧a.length≤100
 | 0,_=>⟨_,rfl,rfl,by decide⟩
 | 1,_=>⟨_,rfl,rfl,by decide⟩
 | 2,_=>⟨_,rfl,rfl,by decide⟩
def Bn (s:Bs) (g1:Nat) (w0:World) (k:Nat) (c:Act) (w:World):Prop:=
 ∃ f i,c=fr 35 f [(0,aB s),(7,.slice (some ⟨g1,0,none⟩) 3 3),(8,.int .i64 3),(9,.int .i64 (i:Nat))]∧aL w g1 ZO 9∧aJ (fun _=>False) w0 w∧k=3-i∧i≤3∧((dE.take i).any fun a=>dS.any fun b=>EG s a b)=false
def Bo (s:Bs) (g1 d:Nat) (i:Nat) (a:Bs) (w0:World) (k:Nat) (c:Act) (w:World):Prop:=
 ∃ f j,c=fr 35 f [(0,aB s),(4,aB a),(7,.slice (some ⟨g1,0,none⟩) 3 3),(8,.int .i64 3),(9,.int .i64 (i:Nat)),(13,.slice (some ⟨d,0,none⟩) 3 3),(14,.int .i64 3),(15,.int .i64 (j:Nat))]∧w0=w∧k=3-j∧j≤3∧((dS.take j).any fun b=>EG s a b)=false
theorem EH {α:Type} {l:List α} {i:Nat} {a:α} {p:α→Bool} (h:l[i]?=some a) (b:(l.take i).any p=false) (c:p a=false):(l.take (i+1)).any p=false:=by
 rw [List.take_add_one,h,List.any_append,b];simp [c]
theorem WZ (s:Bs) (w:World):Calls Tryz.prog 57 #[aB s] w fun e w'=>e=.returned (.bool (kC.contains s))∧aJ (fun _=>False) w w':=by
 obtain ⟨wa,o⟩:=cK (w.alloc (.cells ZO 9));have z:aL wa w.heap.size ZO 9:=by rw [o];exact aL.new w _ _
 have O:=Lh (show aJ (fun _=>False) w wa by rw [o];exact (aJ.refl _ w).alloc _);obtain ⟨g1,B⟩:=cK w.heap.size;rw [←B] at z;have L:=Lh z;have N:=Lh (PK s);clear z;refine eL 35 Tryz.func57 [_] fun f=>?_;simp only [aF];refine vg ?_;intro K hK;rw [←o,←B];clear o B;refine cG [0,7,8,9] fun f=>?_;refine wp_loop_ghost_k (Bn s g1 w) 3 ⟨f,0,rfl,L.o,O.o,rfl,by omega,rfl⟩ ?_;rintro k _ w2 ⟨f,i,rfl,hb,hm,hk,hi,t⟩ J K2 hJ R;have ⟨HJ,a2,HB,HM,HK,q⟩:=gT hJ R hb hm hk t;clear hJ R hb hm hk t L O;by_cases Z:i<3
 ·have t0:(0:Int)≤(i:Int):=by omega
  have t1:(i:Int)<3:=by omega
  obtain ⟨a,ha,T,U⟩:=WX i Z;have a8:w2.cell? ⟨g1,i,none⟩=some (aB a):=by rw [HB.o.cell];exact T
  obtain ⟨wb,l⟩:=cK (w2.alloc (.cells Ay 9));have A:aL wb w2.heap.size Ay 9:=by rw [l];exact aL.new w2 _ _
  have aA:=Lh (show aL wb g1 ZO 9 by rw [l];exact HB.o.alloc _);have x:=Lh (show aJ (fun _=>False) w wb by rw [l];exact HM.o.alloc _);obtain ⟨g2,C⟩:=cK w2.heap.size;rw [←C] at A;have ⟨aC,v,I⟩:=kV A U ha;clear A U ha T;revert K;refine vg ?_;intro K hK K hK;rw [←l,←C];clear l C a8;refine cG [0,4,7,8,9,13,14,15] fun f=>?_;refine wp_loop_ghost_k (Bo s g1 g2 i a wb) 3 ⟨f,0,rfl,rfl,rfl,by omega,rfl⟩ ?_;rintro k5 _ w5 ⟨f,j,rfl,rfl,Y,hj,g⟩ J5 K5 Q S;have ⟨a0,a5,a6,c⟩:=kS Q S Y g;clear Q S Y g;by_cases u:j<3
  ·have u0:(0:Int)≤(j:Int):=by omega
   have u1:(j:Int)<3:=by omega
   obtain ⟨b,W,V,a7⟩:=WY j u;have b1:wb.cell? ⟨g2,j,none⟩=some (aB b):=by rw [aC.o.cell];exact V
   have wj:IntKind.i64.wrap ((j:Int)+1)=((j+1:Nat):Int):=by rw [IntKind.wrap_i64];omega
   obtain ⟨G,m⟩:=cK (Ae++a);obtain ⟨H,n⟩:=cK (Af++a);obtain ⟨q1,E⟩:=cK (G++b);obtain ⟨q2,F⟩:=cK (H++b);have c1:(⟨#[118,101,114,115,105,111,110,61,34,49,46,48,34]⟩:ByteArray)++⟨a.toArray⟩=⟨G.toArray⟩:=by rw [m];exact iF Ae a
   have c2:(⟨#[118,101,114,115,105,111,110,61,39,49,46,48,39]⟩:ByteArray)++⟨a.toArray⟩=⟨H.toArray⟩:=by rw [n];exact iF Af a
   have c3:(⟨G.toArray⟩:ByteArray)++⟨b.toArray⟩=⟨q1.toArray⟩:=by rw [E];exact iF G b
   have c4:(⟨H.toArray⟩:ByteArray)++⟨b.toArray⟩=⟨q2.toArray⟩:=by rw [F];exact iF H b
   have bC:G.length=13+a.length:=by rw [m,fP];rfl
   have b0:H.length=13+a.length:=by rw [n,fP];rfl
   have a1:¬ 9223372036854775807<13+a.length:=by have:=v.o;omega
   have a3:¬ 9223372036854775807<G.length+b.length:=by have:=v.o;omega
   have a4:¬ 9223372036854775807<H.length+b.length:=by have:=v.o;omega
   have d:=Lh (show EG s a b=(s==q1||s==q2) by rw [E,F,m,n];rfl);have M:=Lh W;clear W V a7 m n E F bC b0;have r:=Lh (show EG s a b=true→kC.contains s=true from fun h=>by
    rw [N.o,List.any_eq_true];refine ⟨a,List.mem_of_getElem? I.o,?_⟩;rw [List.any_eq_true];exact ⟨b,List.mem_of_getElem? M.o,h⟩)
   cases D:(s==q1) with
   | true=>
    have P:=Lh (r.o (by rw [d.o,D];rfl));(repeat revert K);refine vg ?_;intro K hK K hK K hK;refine cM ?_;exact ⟨by rw [P.o],x.o⟩
   | false=>
    cases X:(s==q2) with
    | true=>
     have P:=Lh (r.o (by rw [d.o,D,X];rfl));(repeat revert K);refine vg ?_;intro K hK K hK K hK;refine cM ?_;exact ⟨by rw [P.o],x.o⟩
    | false=>
     have y:=Lh (EH (p:=fun b=>EG s a b) M.o c.o (by rw [d.o,D,X];rfl));(repeat revert K);refine vg ?_;intro K hK K hK;refine Kk [0,4,7,8,9,13,14,15] fun f=>?_;exact a5.o _ _ ⟨3-(j+1),by rw [a6.o];omega,a0.o _ _ _ ⟨f,j+1,rfl,rfl,rfl,u,y.o⟩⟩
  ·have bA:j=3:=by omega
   subst bA;have wi:IntKind.i64.wrap ((i:Int)+1)=((i+1:Nat):Int):=by rw [IntKind.wrap_i64];omega
   have y:=Lh (EH (p:=fun a=>dS.any fun b=>EG s a b) I.o q.o c.o);(repeat revert K);refine vg ?_;intro K hK;refine Kk [0,7,8,9] fun f=>?_;exact a2.o _ _ ⟨3-(i+1),by rw [HK.o];omega,HJ.o _ _ _ ⟨f,i+1,rfl,aA.o,x.o,rfl,Z,y.o⟩⟩
 ·have a9:i=3:=by omega
  subst a9;have P:=Lh (show kC.contains s=false by rw [N.o];exact q.o);revert K;refine vg ?_;refine cM ?_;exact ⟨by rw [P.o],HM.o⟩
def ZP (x:PX) (c:PC) (e:Bs) (d:Bool) (CW:Nat) (w0:World) (k:Nat) (b:Act) (w:World):Prop:=
 ∃ f a,b=fr 92 f [(0,iU x),(3,.bool ((c.at':Int)==2)),(4,aB e),(6,.bool d),(7,.int .i64 (CW:Nat))]∧aV x w { c with at':=a }∧aJ (fun k=>k=x.p) w0 w∧k=x.T.length-a∧a≤x.T.length∧CW≤a∧lP x.T [63,62] CW a
def JH (opens:List Bs) (bound:List aM) (r:Except SV ((Bs×Bs)×Bs)):Except SV (List aP×gN):=match r with
 | .error e=>.error e
 | .ok (p,r)=>.ok ([.proc p.1 p.2],⟨r,opens,bound⟩)
theorem PL (x:PX) (hT:x.T.length≤1000000000) (O:Nat) (w:World) (c:PC) (opens:List Bs) (bound:List aM) (out:List bS) (h:dK x O w c opens bound out) (a0:out.length≤1000000000) (ha:c.at'≤x.T.length) :
  Calls Tryz.prog 28 #[iU x] w (fU x O out w (JH opens bound (fI (c.at'==2) (x.T.drop c.at')))):=by
 have hc:=h.blk.cell;have hf:=h.blk.frozen;have ⟨H,HT,HA,b7⟩:=kS h hT ha a0;have c5:=Lh (B8 x hT w c h.blk ha);have N:=Lh (qN (x.T.drop c.at'))
 have V:=Lh (show fI (c.at'==2) (x.T.drop c.at')=if bH (aD (x.T.drop c.at')).1=1 then .error .bad
  else if eD (aD (x.T.drop c.at')).1=false then .error .opn
  else match dJ [63,62] (aT (aD (x.T.drop c.at')).2) with
   | none=>.error .bad
   | some (s,r)=>
    if lK s=false∨(s≠[]∧(aT (aD (x.T.drop c.at')).2).length=(aD (x.T.drop c.at')).2.length)∨(vY (aD (x.T.drop c.at')).1=true∧¬ ((c.at'==2)=true∧(aD (x.T.drop c.at')).1=mN∧kC.contains s=true)) then .error .opn
    else .ok (((aD (x.T.drop c.at')).1,s),r) from rfl)
 clear h hT ha a0;refine eL 92 Tryz.func28 [_] fun f=>?_;simp only [aF];refine vg ?_;intro K hK K hK;refine c5.o.mono ?_;rintro e1 w1 ⟨C,rfl,b0,dI,T,aA,d3⟩;have cT:=Lh (show aV x w1 { c with at':=C } from b0);have ⟨a5,e0,d7⟩:=kV dI T aA;obtain ⟨n,b2⟩:=cK ((aD (x.T.drop c.at')).1);rw [d3,←b2] at V;rw [←b2] at N ⊢;have c4:=Lh (show n.length≤1000000000 by have h1:=N.o;have h2:=HT.o;rw [eC] at h1;omega);have f3:=Lh (fun w=>pB n c4.o w);have d8:=Lh (fun w=>uO n c4.o w);have b3:=Lh (mL x HT.o w1 { c with at':=C } b0 T);have b5:=Lh (fun (w':World) (h1:aV x w' { c with at':=C }) (h2:aJ (fun k=>k=x.p) w w') (v:Int)=>gW x w w' { c with at':=C } h1 h2 v);clear b0 dI T aA d3 b2 c5 hc hf N;(repeat revert K);refine vS ?_;intro K hK K hK K hK;refine (f3.o _).mono ?_;rintro e2 w2 ⟨rfl,rfl⟩;go_simp;by_cases R:bH n=1
 ·have z:=Lh (V.o.trans (aY R));rw [R];clear R;(repeat revert K);refine vg ?_;intro K hK K hK K hK;refine (b5.o _ (by exact cT.o) (by exact eE a5.o rfl rfl rfl rfl) _).mono ?_;rintro X Y ⟨rfl,e,d⟩;have ⟨i,g⟩:=cB e d;clear e d;(repeat revert K);refine vS ?_;intro K hK;refine cM ?_;exact fU.err (w1:=w) (k:=.bad) H.o i.o g.o (by rw [z.o];rfl)
 have g1:((bH n:Int)==1)=false:=by rw [lQ];omega
 have L:=Lh (V.o.trans (aQ R));clear R V;(repeat revert K);refine vg ?_;intro K hK K hK K hK;refine (d8.o _).mono ?_;rintro e3 U ⟨rfl,rfl⟩;go_simp;cases a9:eD n with
 | false=>
  have z:=Lh (L.o.trans (aY a9));(repeat revert K);refine vg ?_;intro K hK K hK K hK;refine (b5.o _ (by exact cT.o) (by exact eE a5.o rfl rfl rfl rfl) _).mono ?_;rintro X Y ⟨rfl,e,d⟩;have ⟨i,g⟩:=cB e d;clear e d;(repeat revert K);refine vS ?_;intro K hK;refine cM ?_;exact fU.err (w1:=w) (k:=.opn) H.o i.o g.o (by rw [z.o];rfl)
 | true=>
  have M:=Lh (L.o.trans (aQ (by rw [a9];simp)));clear L a9;(repeat revert K);refine vg ?_;intro K hK K hK;refine b3.o.mono ?_;rintro e4 w4 ⟨t,rfl,d0,dT,aC,Q,d4⟩;have a6:=Lh (show aV x w4 { c with at':=t } from d0);have f2:=Lh (a5.o.trans dT (fun _ _ h=>h));have e9:=Lh aC;rw [show aT (x.T.drop C)=x.T.drop t from d4,eC,eC] at M;have c3:=Lh (show (x.T.length-t=x.T.length-C)↔¬ C<t by have:C≤t:=Q;have:=e0.o;omega);have g0:=Lh (show c.at'≤t by have:C≤t:=Q;have:=d7.o;omega);obtain ⟨sp,b1⟩:=cK (decide (C<t));have a3:decide ((({ c with at':=C }:PC).at':Int)<(t:Int))=sp:=by rw [b1];simp
  rw [a3];have c2:=Lh b1;clear d0 dT aC Q d4 b3 b1 a3;have hc:=a6.o.cell;have hf:=a6.o.frozen;(repeat revert K);refine vS ?_;intro K hK;refine cG [0,3,4,6,7] fun f=>?_;refine wp_loop_ghost_k (ZP x c n sp t w) (x.T.length-t) ⟨f,t,rfl,a6.o,f2.o,rfl,e9.o,dF _,lP.start _ _ _⟩ ?_;clear hc hf;rintro k _ w2 ⟨f,a,rfl,hp,hm,hk,c9,c7,hcut⟩ J K2 hJ c6;have ⟨HJ,d9,HP,HM,HK,W⟩:=gT hJ c6 hp hm hk c9;have ⟨a4,G⟩:=cB c7 hcut;clear hJ c6 hp hm hk c9 c7 hcut;cases l:([63,62]:Bs).isPrefixOf (x.T.drop a) with
  | true=>
   have HH:=Lh (iE x HT.o w2 { c with at':=a } HP.o W.o [63,62] (by decide) l);have f1:=Lh (kQ l (by decide));have E:=Lh (G.o.hit l f1.o);have b6:=Lh (show a+2≤x.T.length from nW l W.o);clear l;revert K;refine vg ?_;intro K hK K hK K hK K hK;refine HH.o.mono ?_;rintro e3 U ⟨rfl,q,y⟩;have j:=Lh (show aV x U { c with at':=a+2 } from q);have o:=Lh (HM.o.trans y (fun _ _ h=>h));clear q y HH;go_simp;have hc:=j.o.cell;have hf:=j.o.frozen;have z1:(0:Int)≤(t:Int):=by omega
   have gB:IntKind.i64.wrap (a:Int)=(a:Int):=by rw [IntKind.wrap_i64];have h8:=b6.o;have h9:=HT.o;omega
   have z2:(t:Int)≤(a:Int):=by have:=a4.o;omega
   have z3:(a:Int)≤(x.T.length:Int):=by have:=W.o;omega
   (repeat revert K);refine vg ?_;intro K hK;(refine lD [0,0,0,1,0,0,0,0,1,0,0,0] [0,1,2,3,4,5,6,7,8,9,10,11] ?_;refine vP ?_;repeat with_reducible intro nq)
   rw [kP];obtain ⟨s,hs⟩:=cK ((x.T.drop t).take (a-t));rw [←hs];rw [←hs] at E;have N:=Lh (show s.length≤1000000000 by rw [hs,pI,eC];have:=HT.o;omega);clear hs hc hf z1 z2 z3 gB;have HV:=Lh (fun w=>GT s N.o w);have f4:=Lh (fun w=>GX n w);have a8:=fun w=>WZ s w;obtain ⟨db,a7⟩:∃ b,b=kC.contains s:=⟨_,rfl⟩;rw [←a7] at a8;have ⟨d5,b4⟩:=cB a8 a7;clear a8 a7;have B:=Lh (show fI (c.at'==2) (x.T.drop c.at')=if lK s=false∨(s≠[]∧¬ C<t)∨(vY n=true∧¬ ((c.at'==2)=true∧n=mN∧kC.contains s=true)) then .error .opn else .ok ((n,s),x.T.drop (a+2)) by
    rw [M.o,E.o];simp only [c3.o];rfl)
   have I:=Lh (fun (w':World) (h1:aV x w' { c with at':=a+2 }) (h2:aJ (fun k=>k=x.p) w w') (v:Int)=>gW x w w' { c with at':=a+2 } h1 h2 v);have Z:=Lh (fun (hr:fI (c.at'==2) (x.T.drop c.at')=.ok ((n,s),x.T.drop (a+2))) (w5:World) (h1:aV x w5 { c with at':=a+2 }) (h2:aJ (fun k=>k=x.p) w w5)=>rA x O w w5 c opens bound out H.o b7.o (a+2) b6.o h1 h2 (.proc n s) rfl (JH opens bound (fI (c.at'==2) (x.T.drop c.at'))) (by rw [hr];rfl));revert K;refine vg ?_;intro K hK K hK K hK;refine (HV.o _).mono ?_;rintro e5 w5 ⟨rfl,rfl⟩;go_simp;cases hv:lK s with
   | false=>
    have z:=Lh (B.o.trans (aY (aG hv)));(repeat revert K);refine vg ?_;intro K hK K hK K hK;refine (I.o _ (by exact j.o) (by exact eE o.o rfl rfl rfl rfl) _).mono ?_;rintro X Y ⟨rfl,e,d⟩;have ⟨i,g⟩:=cB e d;clear e d;(repeat revert K);refine vS ?_;intro K hK;refine cM ?_;exact fU.err (w1:=w) (k:=.opn) H.o i.o g.o (by rw [z.o];rfl)
   | true=>
    by_cases m:s≠[]∧¬ C<t
    ·have z:=Lh (B.o.trans (aY (aU (aG m))));have c8:s.isEmpty=false:=by cases s with
      | nil=>exact absurd rfl m.1
      | cons=>rfl
     have d2:sp=false:=c2.o.trans (decide_eq_false m.2);clear m;subst d2;(repeat revert K);refine vg ?_;intro K hK K hK K hK;refine (I.o _ (by exact j.o) (by exact eE o.o rfl rfl rfl rfl) _).mono ?_;rintro X Y ⟨rfl,e,d⟩;have ⟨i,g⟩:=cB e d;clear e d;(repeat revert K);refine vS ?_;intro K hK;refine cM ?_;exact fU.err (w1:=w) (k:=.opn) H.o i.o g.o (by rw [z.o];rfl)
    have u:=Lh (show fI (c.at'==2) (x.T.drop c.at')=if (vY n=true∧¬ ((c.at'==2)=true∧n=mN∧kC.contains s=true)) then .error .opn else .ok ((n,s),x.T.drop (a+2)) by
     rw [B.o];by_cases hq:(vY n=true∧¬ ((c.at'==2)=true∧n=mN∧kC.contains s=true))
     ·rw [aY hq,aY (aU (aU hq))]
     ·rw [aQ hq,aQ (fun F=>Or.elim F (fun h=>by rw [hv] at h;cases h) (fun h=>Or.elim h m hq))])
    have bA:(s.isEmpty=true)∨(s.isEmpty=false∧sp=true):=by
     cases d1:s.isEmpty with
     | true=>exact aG rfl
     | false=>
      refine aU ⟨rfl,?_⟩;rw [c2.o,decide_eq_true_iff];by_cases h9:C<t
      ·exact h9
      ·exact absurd ⟨fun h=>(by rw [h] at d1;cases d1),h9⟩ m
    clear m B;rcases bA with c8|⟨c8,f6⟩
    all_goals
     try subst f6
     (repeat revert K);refine vg ?_;intro K hK K hK K hK;refine (f4.o _).mono ?_;rintro e7 w7 ⟨rfl,rfl⟩;go_simp;cases D:vY n with
     | false=>
      (repeat revert K);refine vg ?_;intro K hK K hK;refine (Z.o (u.o.trans (aQ (fun F=>by rw [D] at F;exact Bool.noConfusion F.1))) _ (by exact j.o) (by exact eE o.o rfl rfl rfl rfl)).mono ?_;rintro X Y ⟨rfl,h6⟩;have H6:=Lh h6;clear h6;(repeat revert K);refine vS ?_;refine cM ?_;exact H6.o
     | true=>
      by_cases P:c.at'=2
      ·have e2:((c.at':Int)==2)=true:=by rw [P];rfl
       have d6:=Lh P;clear P;by_cases hx:n=mN
       ·have f7:(n==[120,109,108])=true:=by rw [hx];rfl
        have HX:=Lh hx;clear hx;(repeat revert K);refine vg ?_;intro K hK K hK K hK;refine (d5.o _).mono ?_;rintro e8 w8 ⟨rfl,A⟩;have b9:=Lh (show aJ (fun k=>k=x.p) w w8 from aJ.trans (o.o.drewN _) A (fun _ _ h=>False.elim h));have c1:=Lh (show aV x w8 { c with at':=a+2 } from aL.mod (S:=fun _=>False) j.o ⟨A.os,A.tape,A.output,A.size,A.block⟩ id);clear A;go_simp;cases db with
        | true=>
         have hd:kC.contains s=true:=b4.o.symm;have HD:=Lh hd;clear hd;(repeat revert K);refine vg ?_;intro K hK K hK;refine (Z.o (u.o.trans (aQ (fun F=>F.2 ⟨(by rw [d6.o];rfl),HX.o,HD.o⟩))) _ c1.o b9.o).mono ?_;rintro X Y ⟨rfl,h6⟩;have H6:=Lh h6;clear h6;(repeat revert K);refine vS ?_;refine cM ?_;exact H6.o
        | false=>
         have hd:kC.contains s=false:=b4.o.symm;have z:=Lh (u.o.trans (aY ⟨D,fun F=>by rw [hd] at F;exact Bool.noConfusion F.2.2⟩));clear hd;(repeat revert K);refine vg ?_;intro K hK K hK K hK;refine (I.o _ c1.o b9.o _).mono ?_;rintro X Y ⟨rfl,e,d⟩;have ⟨i,g⟩:=cB e d;clear e d;(repeat revert K);refine vS ?_;intro K hK;refine cM ?_;exact fU.err (w1:=w) (k:=.opn) H.o i.o g.o (by rw [z.o];rfl)
       ·have f7:(n==[120,109,108])=false:=by rw [lQ];exact hx
        have z:=Lh (u.o.trans (aY ⟨D,fun F=>hx F.2.1⟩));clear hx;(repeat revert K);refine vg ?_;intro K hK K hK K hK;refine (I.o _ (by exact j.o) (by exact eE o.o rfl rfl rfl rfl) _).mono ?_;rintro X Y ⟨rfl,e,d⟩;have ⟨i,g⟩:=cB e d;clear e d;(repeat revert K);refine vS ?_;intro K hK;refine cM ?_;exact fU.err (w1:=w) (k:=.opn) H.o i.o g.o (by rw [z.o];rfl)
      ·have e2:((c.at':Int)==2)=false:=by rw [lQ];omega
       have z:=Lh (u.o.trans (aY ⟨D,fun F=>P (beq_iff_eq.1 F.1)⟩));clear P;(repeat revert K);refine vg ?_;intro K hK K hK K hK;refine (I.o _ (by exact j.o) (by exact eE o.o rfl rfl rfl rfl) _).mono ?_;rintro X Y ⟨rfl,e,d⟩;have ⟨i,g⟩:=cB e d;clear e d;(repeat revert K);refine vS ?_;intro K hK;refine cM ?_;exact fU.err (w1:=w) (k:=.opn) H.o i.o g.o (by rw [z.o];rfl)
  | false=>
   have HH:=Lh (gX x HT.o w2 { c with at':=a } HP.o W.o [63,62] (by decide) l);by_cases bC:a<x.T.length
   ·have E:=Lh (G.o.next a4.o l bC);clear l;revert K;refine vg ?_;intro K hK K hK K hK K hK;refine HH.o.mono ?_;rintro e3 U ⟨rfl,q,y⟩;have j:=Lh q;have o:=Lh (HM.o.trans y (fun _ _ h=>h));have HE:=Lh (nV x U { c with at':=a } q bC);clear q y HH;(repeat revert K);refine vS ?_;intro K hK K hK K hK K hK;refine HE.o.mono ?_;rintro e4 w4 ⟨rfl,k4,rfl⟩;have hc:=(show aV x (U.drewN k4) { c with at':=a } from j.o).cell;have hf:=(show aV x (U.drewN k4) { c with at':=a } from j.o).frozen;have w1:IntKind.i64.wrap ((a:Int)+1)=((a+1:Nat):Int):=by rw [IntKind.wrap_i64];have:=HT.o;omega
    (repeat revert K);refine vS ?_;intro K hK;refine Kk [0,3,4,6,7] fun f=>?_;refine d9.o _ _ ⟨x.T.length-(a+1),by rw [HK.o];omega,HJ.o _ _ _ ⟨f,a+1,rfl,?_,aJ.setCell (S:=fun k=>k=x.p) (o.o.drewN _) (p:=⟨x.p,1,none⟩) (aG rfl) _,rfl,bC,by have:=a4.o;omega,E.o⟩⟩;exact aL.set (w:=U.drewN _) (cs:=fN x { c with at':=a }) j.o 1 _
   ·have E:=Lh (G.o.none (by omega));have z:=Lh (show fI (c.at'==2) (x.T.drop c.at')=.error .bad by rw [M.o,E.o]);clear l;revert K;refine vg ?_;intro K hK K hK K hK K hK;refine HH.o.mono ?_;rintro e3 U ⟨rfl,q,y⟩;have j:=Lh q;have o:=Lh (HM.o.trans y (fun _ _ h=>h));have HE:=Lh (nU x U { c with at':=a } q (by simp;omega));clear q y HH;(repeat revert K);refine vS ?_;intro K hK K hK K hK K hK;refine HE.o.mono ?_;rintro e4 w4 ⟨rfl,k4,rfl⟩;have HF:=Lh (lF x (U.drewN k4) { c with at':=a } j.o 1);(repeat revert K);refine vS ?_;intro K hK K hK K hK K hK;refine HF.o.mono ?_;rintro X Y ⟨rfl,e,d⟩;have ⟨i,g⟩:=cB e d;clear e d;(repeat revert K);refine vS ?_;intro K hK K hK;refine cM ?_;exact fU.err (w1:=w) (k:=.bad) H.o i.o ((o.o.drewN _).trans g.o (fun _ _ h=>h)) (by rw [z.o];rfl)
end Go.Proofs.YthapcchcahnfaaaGreatDoor
