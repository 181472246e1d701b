/- Part of the proof that laws.FnSkip returns true for every argument. No conditions. -/
import Derived.Test.YthapcchcahnfaaaGreatDoorS19
import Derived.Test.YthapcchcahnfaaaGreatDoorS02
import Derived.Maps.AppendAt
import Derived.ScopeJumps
set_option linter.all false
set_option maxHeartbeats 8000000
set_option maxRecDepth 100000
namespace Go.Proofs.YthapcchcahnfaaaGreatDoor
open Go Go.RowKit Go.Proofs.Tryz
theorem KU (d:UInt8):(qU d=true∧((97≤d.toNat∧d.toNat≤122)∨(65≤d.toNat∧d.toNat≤90)∨(48≤d.toNat∧d.toNat≤57)∨d.toNat=95∨d.toNat=58∨d.toNat=45)) ∨
  (qU d=false∧(d.toNat<45∨(46≤d.toNat∧d.toNat≤47)∨(59≤d.toNat∧d.toNat≤64)∨(91≤d.toNat∧d.toNat≤94)∨d.toNat=96∨123≤d.toNat)):=by
 have h:qU d=true↔((97≤d.toNat∧d.toNat≤122)∨(65≤d.toNat∧d.toNat≤90)∨(48≤d.toNat∧d.toNat≤57)∨d.toNat=95∨d.toNat=58∨d.toNat=45):=by
  simp only [qU,Bool.or_eq_true,FI,IC,beq_iff_eq,UInt8.le_iff_toNat_le,←UInt8.toNat_inj];simp only [show (97:UInt8).toNat=97 from rfl,show (122:UInt8).toNat=122 from rfl,show (65:UInt8).toNat=65 from rfl,show (90:UInt8).toNat=90 from rfl,show (48:UInt8).toNat=48 from rfl,show (57:UInt8).toNat=57 from rfl,show (95:UInt8).toNat=95 from rfl,show (58:UInt8).toNat=58 from rfl,show (45:UInt8).toNat=45 from rfl];omega
 cases a:qU d
 ·right;refine ⟨rfl,?_⟩;have:¬ _:=fun b=>by rw [h.2 b] at a;cases a
  omega
 ·left;exact ⟨rfl,h.1 a⟩
def YA (x:Cx) (c:DC) (w0:World) (v0:DV) (b:Bs) (k:Nat) (a:Act) (w:World):Prop:=
 ∃ f v rest pre,a=fr 91 f [(0,bT x)]∧cA x c w v rest none pre∧cN x w0 v0 w v∧cS v∧k=rest.length∧pre.length+rest.length=b.length∧f9 b=(pre++(f9 rest).1,(f9 rest).2)
theorem KV (x:Cx) (hx:x.All) (c:DC) (s:hY x c) (U:rS x c) (w:World) (v:DV) (rest:Bs) (e:Option EK) (j:Bs) (h:cA x c w v rest e j) (T:cS v) :
  Calls prog 77 #[bT x] w fun en w'=>∃ v',cN x w v w' v'∧pY x c (some 0) false w' v' en (dY x.o rest):=by
 have ⟨B,HD,c6,c5⟩:=kS hx s U T;cases rest with
 | nil=>
  have u:=Lh (bN x hx.toOk c s w v e j h);clear h hx s U T;refine eL 91 func77 [_] fun f=>?_;simp only [aF];refine vg ?_;intro K hK K hK;refine u.o.mono ?_;rintro e1 w1 ⟨rfl,X,E,l,y⟩;have o:=Lh (show cN x w v w1 X from cN.ofS0 y (fun k=>by rw [l]));have H1:=Lh E;clear E l y u;(repeat revert K);refine vS ?_;intro K hK;refine cM ?_;exact ⟨X,o.o,rfl,H1.o⟩
 | cons b r=>
  have u:=Lh (bK x hx.toOk c s w v b r e j h);have H:=Lh h.suf;clear h hx s U T;refine eL 91 func77 [_] fun f=>?_;simp only [aF];refine vg ?_;intro K hK K hK;refine u.o.mono ?_;rintro e1 w1 ⟨rfl,X,E,bA,l,y,d6⟩;have o:=Lh (show cN x w v w1 X from cN.ofS0 y (fun k=>by rw [l]));have G:=Lh (c5.o.of_eq l);have ⟨H1,c2⟩:=cB E bA;have d0:=E.dec.cell;have d1:=E.dec.frozen;clear E bA l y d6 u;by_cases V:b=34∨b=39
  ·have d4:(((b.toNat:Int)==34)=true)∨(((b.toNat:Int)==34)=false∧((b.toNat:Int)==39)=true):=by
    rcases V with rfl|rfl
    ·exact aG rfl
    ·exact aU ⟨rfl,rfl⟩
   have e9:IntKind.i64.wrap (b.toNat:Int)=(b.toNat:Int):=by have:=b.toNat_lt;rw [IntKind.wrap_i64];omega
   have b6:=Lh (GC x B.o c HD.o c6.o (some b) false w1 X r none j H1.o (fun _=>G.o) (fun n=>by cases n));have HQ:=Lh V;clear V;rcases d4 with q1|⟨q1,q2⟩
   all_goals
    (repeat revert K);refine vS ?_;intro K hK K hK K hK;refine b6.o.mono ?_;rintro e2 w2 ⟨v2,P,I⟩;have C:=Lh (o.o.trans P);have a2:=Lh I;clear P I b6;have q:dY x.o (b::r)=bF x.o (some b) false r 0 0 []:=by
     simp only [dY];rw [aY HQ.o]
    have i:=Lh q;clear q;cases hT:bF x.o (some b) false r 0 0 [] with
    | error k=>
     have I:=a2.o;rw [hT] at I;obtain ⟨rfl,hE⟩:=I;have HE:=Lh hE;clear hE;(repeat revert K);refine vS ?_;intro K hK;refine cM ?_;exact ⟨v2,C.o,by rw [i.o,hT];exact ⟨rfl,HE.o⟩⟩
    | ok p=>
     obtain ⟨d,r'⟩:=p;have I:=a2.o;rw [hT] at I;obtain ⟨g,O,e',b',rfl,hR,hv,ht,hl,_⟩:=I;have ⟨HR,HV,dI,dT⟩:=kS hR hv ht hT;clear hR hv ht hT;(repeat revert K);refine vS ?_;intro K hK;refine cM ?_;exact ⟨v2,C.o,by rw [i.o,dT.o];exact ⟨g,O,e',b',rfl,HR.o,HV.o,dI.o,hl,fun n=>(by cases n),fun n=>(by cases n)⟩⟩
  ·have q1:((b.toNat:Int)==34)=false:=eS (c:=34) (fun n=>V (aG n)) rfl;have q2:((b.toNat:Int)==39)=false:=eS (c:=39) (fun n=>V (aU n)) rfl;have q:dY x.o (b::r)=if c.strict then .error .syn else match (f9 (b::r)).2 with|[]=>.error (bY x.o.fails)|_=>.ok (f9 (b::r)):=by
    simp only [dY];rw [aQ V,HD.o.strict];rfl
   have i:=Lh q;clear q V;cases W:c.strict with
   | true=>
    have c9:=Lh (fun e4=>oI B.o.toOk H1.o e4);(repeat revert K);refine vS ?_;intro K hK K hK K hK;refine (c9.o _).mono ?_;rintro e2 w2 ⟨rfl,P⟩;have f1:=P.dec.cell;have f2:=P.dec.frozen;have HS:=Lh P;clear P;(repeat revert K);refine vS ?_;intro K hK;refine cM ?_;exact ⟨_,o.o.trans HS.o.stp,by rw [i.o,W,aY rfl];exact ⟨rfl,HS.o.err⟩⟩
   | false=>
    have A:=Lh (gG x B.o.toOk c w1 X b r j H1.o c2.o H.o);(repeat revert K);refine vS ?_;intro K hK K hK;refine A.o.mono ?_;rintro e2 w2 ⟨rfl,v2,h2,d2,Q,a7,d7⟩;have C:=Lh (o.o.trans (show cN x w1 X w2 v2 from cN.ofS0 a7 (fun k=>by rw [Q])));have aA:=Lh (G.o.of_eq Q);have b2:=Lh (oU x B.o.toOk c w2 v2 (b::r) none j h2);clear h2 d2 Q a7 d7 A d0 d1;(repeat revert K);refine vS ?_;intro K hK K hK;refine b2.o.mono ?_;rintro e3 w3 ⟨rfl,v3,h3,d3,R,a8,d8⟩;have c7:=Lh (C.o.trans (show cN x w2 v2 w3 v3 from cN.ofS0 a8 R));have aC:=Lh (aA.o.of_iff R);have H3:=Lh h3;clear h3 d3 R a8 d8 b2;(repeat revert K);refine vS ?_;intro K hK;refine cG [0] fun f=>?_;have a4:=Lh W;clear q1 q2 W;refine wp_loop_ghost_k (YA x c w v (b::r)) (b::r).length ⟨f,v3,b::r,[],rfl,H3.o,c7.o,aC.o,rfl,by simp,rfl⟩ ?_;rintro k _ w4 ⟨f,v4,rest,pre,rfl,h4,b3,bC,hk,L,b4⟩ J K2 hJ a5;have ⟨HJ,cT,a3,c3,c1,N⟩:=gT hJ a5 b3 bC hk b4;have F:=Lh L;have b9:=Lh (show (b::r).length≤1000000000 from fQ (H.o.length_le) B.o.len);clear hJ a5 b3 bC hk b4 L;cases rest with
    | nil=>
     have u:=Lh (bN x B.o.toOk c HD.o w4 v4 none pre h4);clear h4;revert K;refine vg ?_;intro K hK K hK K hK;refine u.o.mono ?_;rintro e5 w5 ⟨rfl,Y,h5,m,z⟩;have D:=Lh (a3.o.trans (show cN x w4 v4 w5 Y from cN.ofS0 z (fun k=>by rw [m])));have H5:=Lh h5;clear h5 m z u;(repeat revert K);refine vS ?_;intro K hK K hK;refine cM ?_;refine ⟨Y,D.o,?_⟩;rw [i.o,a4.o,N.o];exact ⟨rfl,H5.o⟩
    | cons d t=>
     have b5:=Lh h4.suf;have u:=Lh (bK x B.o.toOk c HD.o w4 v4 d t none pre h4);clear h4;revert K;refine vg ?_;intro K hK K hK K hK;refine u.o.mono ?_;rintro e5 w5 ⟨rfl,Y,h5,b0,m,z,d9⟩;have D:=Lh (a3.o.trans (show cN x w4 v4 w5 Y from cN.ofS0 z (fun k=>by rw [m])));have a0:=Lh (c3.o.of_eq m);have ⟨H5,c4⟩:=cB h5 b0;clear h5 b0 m z d9 u;rcases KU d with ⟨hu,a⟩|⟨hu,a⟩
     ·have M:pre.length≤50000000000000:=by have:=F.o;have:=b9.o;simp at *;omega
      have b7:=Lh (fV x B.o.toOk c w5 Y t none pre H5.o d M);have HU:=Lh hu;clear hu M;rcases a with a|a|a|a|a|a
      all_goals
       first|have:((97:Int)≤(d.toNat:Int)):=by omega|have:¬ (((97:Int)≤(d.toNat:Int))):=by omega
       first|have:((d.toNat:Int)≤122):=by omega|have:¬ (((d.toNat:Int)≤122)):=by omega
       first|have:((65:Int)≤(d.toNat:Int)):=by omega|have:¬ (((65:Int)≤(d.toNat:Int))):=by omega
       first|have:((d.toNat:Int)≤90):=by omega|have:¬ (((d.toNat:Int)≤90)):=by omega
       first|have:((48:Int)≤(d.toNat:Int)):=by omega|have:¬ (((48:Int)≤(d.toNat:Int))):=by omega
       first|have:((d.toNat:Int)≤57):=by omega|have:¬ (((d.toNat:Int)≤57)):=by omega
       first|have:((((d.toNat:Int)))==(95))=true:=by (simp;omega)|have:((((d.toNat:Int)))==(95))=false:=by (simp;omega)
       first|have:((((d.toNat:Int)))==(58))=true:=by (simp;omega)|have:((((d.toNat:Int)))==(58))=false:=by (simp;omega)
       first|have:((((d.toNat:Int)))==(45))=true:=by (simp;omega)|have:((((d.toNat:Int)))==(45))=false:=by (simp;omega)
       clear a;(repeat revert K);refine vS ?_;intro K hK K hK;refine b7.o.mono ?_;rintro e6 w6 ⟨rfl,v6,⟨Z,b1,d5⟩,e8⟩;clear b7;(repeat revert K);refine vS ?_;intro K hK;refine Kk [0] fun f=>?_;refine cT.o _ _ ⟨t.length,by rw [c1.o];simp,HJ.o _ _ _ ⟨f,v6,t,pre++[d],rfl,Z,D.o.trans d5,Z.nonnil (by simp),rfl,?_,?_⟩⟩
       ·have:=F.o;simp at this ⊢;omega
       ·rw [N.o];rw [f9,aY HU.o];simp
     ·have A:=Lh (gG x B.o.toOk c w5 Y d t pre H5.o c4.o b5.o);have HU:=Lh hu;clear hu;rcases a with a|a|a|a|a|a
      all_goals
       first|have:((97:Int)≤(d.toNat:Int)):=by omega|have:¬ (((97:Int)≤(d.toNat:Int))):=by omega
       first|have:((d.toNat:Int)≤122):=by omega|have:¬ (((d.toNat:Int)≤122)):=by omega
       first|have:((65:Int)≤(d.toNat:Int)):=by omega|have:¬ (((65:Int)≤(d.toNat:Int))):=by omega
       first|have:((d.toNat:Int)≤90):=by omega|have:¬ (((d.toNat:Int)≤90)):=by omega
       first|have:((48:Int)≤(d.toNat:Int)):=by omega|have:¬ (((48:Int)≤(d.toNat:Int))):=by omega
       first|have:((d.toNat:Int)≤57):=by omega|have:¬ (((d.toNat:Int)≤57)):=by omega
       first|have:((((d.toNat:Int)))==(95))=true:=by (simp;omega)|have:((((d.toNat:Int)))==(95))=false:=by (simp;omega)
       first|have:((((d.toNat:Int)))==(58))=true:=by (simp;omega)|have:((((d.toNat:Int)))==(58))=false:=by (simp;omega)
       first|have:((((d.toNat:Int)))==(45))=true:=by (simp;omega)|have:((((d.toNat:Int)))==(45))=false:=by (simp;omega)
       clear a;(repeat revert K);refine vS ?_;intro K hK K hK K hK;refine A.o.mono ?_;rintro e6 w6 ⟨rfl,v6,Z,b1,S,a9,e0⟩;have c8:=Lh (D.o.trans (show cN x w5 Y w6 v6 from cN.ofS0 a9 (fun k=>by rw [S])));have a1:=Lh (a0.o.of_eq S);have a6:=Lh (l8 x c w6 v6 (d::t) none pre Z);have H6:=Lh Z;clear Z b1 S a9 e0 A;(repeat revert K);refine vS ?_;intro K hK K hK;refine a6.o.mono ?_;rintro e7 w7 ⟨rfl,k7,rfl⟩;clear a6;(repeat revert K);refine vS ?_;refine cM ?_;refine ⟨v6,c8.o.trans (cN.drewN _),?_⟩;have h2:f9 (b::r)=(pre,d::t):=by
        rw [N.o,f9,aQ (by rw [HU.o];simp)];simp
       rw [i.o,a4.o,h2];rcases H6.o.bf with ⟨E,_⟩|⟨g,O,arr,hv,_⟩
       ·exact absurd E a1.o.ne
       ·exact ⟨g,O,none,pre,by rw [hv],H6.o.drewN B.o.toOk _,hv,by rw [List.take_length],dF _,fun n=>(by cases n),fun n=>(by cases n)⟩
abbrev XY (v:Value):Value:=.iface 123 v
abbrev US (v:Value):Value:=.iface 126 v
abbrev UT (a:Bs) (v:Value):Value:=.iface 125 (.agg #[aB a,v])
abbrev KW (nm:Bs×Bs):Value:=.iface 110 (.agg #[aB nm.1,aB nm.2])
abbrev Am (nm:Bs×Bs) (a:Value):Value:=.iface 101 (.agg #[aB nm.1,aB nm.2,a])
def aN (b:List cO):List Value:=b.flatMap fun a=>[aB a.1,aB a.2.1,aB a.2.2]
theorem lM (b:List cO):(aN b).length=b.length*3:=by
 induction b with
 | nil=>rfl
 | cons a b ih=>
  have:aN (a::b)=[aB a.1,aB a.2.1,aB a.2.2]++aN b:=rfl;rw [this,fP,ih];simp;omega
structure mV (w:World) (a:Value) (s:Value) (d:Bs):Prop where
 ex:∃ g cap n,s=.slice (some ⟨g,0,none⟩) d.length cap∧a=.slice (some ⟨g,0,none⟩) n cap∧bJ w g 0 d∧d.length≤cap∧cap≤9223372036854775807
def iB (w:World) (c:Value) (b:Nat) (a:Value):aP→Prop
 | .text d=>∃ s,a=XX s∧mV w c s d
 | .comment d=>∃ s,a=XY s∧mV w c s d
 | .dir d=>∃ s,a=US s∧mV w c s d
 | .proc tg d=>∃ s,a=UT tg s∧mV w c s d
 | .fin nm=>a=KW nm
 | .start nm ats=>∃ s,a=Am nm s∧s≠.slice none 0 0∧w.ownsRow b 103 3 s ats.length (aN ats)
def DC.closing (c:DC) (nm:Bs×Bs) (em:Bool):DC:=if em then { c with needClose:=true,tcs:=⟨nm.1.toArray⟩,tcl:=⟨nm.2.toArray⟩ } else c
def kJ (x:Cx) (c:DC) (w:World) (v:DV) (R:Except EK (aP×Bs)) (t e:Value) (w':World):Prop:=
 ∃ v',cN x w v w' v'∧match R with
  | .error k=>t=.nilIface∧e=v'.err∧iQ x c w' v' k
  | .ok (tk,r)=>e=.nilIface∧∃ a b,cA x c w' v' r a b∧iB w' v'.bufv w.heap.size t tk∧(a=none∨((∃ d,tk=.text d)∧r=[]∧a=some (mM x.o.fails)))∧v'.nb=-1
noncomputable def dQ (n:Nat):Code:=((Tryz.f35.body).bind (Code.partAt n)).getD .skip
theorem cN.below {x:Cx} {w w1 b:World} {v a:DV} (h:cN x w v w1 a) (c:Below w1.heap.size w1 b):cN x w v b a:=h.s0 (aH c _) rfl
theorem cN.alloc {x:Cx} {w w1:World} {v a:DV} (h:cN x w v w1 a) (o:Obj):cN x w v (w1.alloc o) a:=h.below ((Below.refl _ w1).alloc (dF _) _)
theorem iQ.drewN {x:Cx} {c:DC} {w:World} {v:DV} {k:EK} (h:iQ x c w v k) (n:Nat):iQ x c (w.drewN n) v k:=⟨bM h.base _,h.dec,h.err⟩
theorem cN.drawn {x:Cx} {w w1:World} {v a:DV} (h:cN x w v w1 a) (n:Nat):cN x w v (w1.drewN n) a:=h.trans (cN.drewN n)
theorem pZ {b c:UInt8} {n:Int} (h:b≠c) (a:(c.toNat:Int)=n):((b.toNat:Int) != n)=true:=by
 have:=eS h a;simpa using this
theorem gH {x:Cx} (j:x.Ok) {c:DC} {w:World} {v:DV} {rest:Bs} {e:Option EK} {d:Bs} (h:cA x c w v rest e d) (b:ByteArray) :
  Calls prog 36 #[.pointer (some ⟨x.d,0,none⟩),.string b] w fun f w'=>∃ a,f=.returned (vZ a)∧NZ x c w v w' a:=
 (oI j h b).mono fun _ _ ⟨g,i⟩=>⟨_,g,i⟩
theorem cN.notS1 {x:Cx} {w w':World} {v v':DV} {q:Nat} (h:cN x w v w' v') (c:¬ x.S1 v q) (d:q<w.heap.size):¬ x.S1 v' q:=by
 rintro (a|a)
 ·exact c (aG a)
 ·rcases h.buf q a with b|b
  ·exact c (aU b)
  ·omega
theorem cA.newS1 {x:Cx} {c:DC} {w:World} {v:DV} {rest:Bs} {e:Option EK} {a:Bs} (h:cA x c w v rest e a):¬ x.S1 v w.heap.size:=fun b=>Nat.lt_irrefl _ (h.s1lt _ b)
theorem o6 {x:Cx} {c:DC} {w:World} {v:DV} {rest:Bs} {e:Option EK} {d:Bs} (h:cA x c w v rest e d) {q:Nat} {a b:Value} (m:aL w q #[a,b] 89) (j:¬ x.S1 v q) (i:x.B≤q) (nm:Bs×Bs) :
  cA x c ((w.setCell ⟨q,0,none⟩ (aB nm.1)).setCell ⟨q,1,none⟩ (aB nm.2)) v rest e d∧aL ((w.setCell ⟨q,0,none⟩ (aB nm.1)).setCell ⟨q,1,none⟩ (aB nm.2)) q #[aB nm.1,aB nm.2] 89 ∧
   aJ (fun k=>k=q) w ((w.setCell ⟨q,0,none⟩ (aB nm.1)).setCell ⟨q,1,none⟩ (aB nm.2)):=by
 have g:aJ (fun k=>k=q) w ((w.setCell ⟨q,0,none⟩ (aB nm.1)).setCell ⟨q,1,none⟩ (aB nm.2)):=((aJ.refl (fun k=>k=q) w).setCell (p:=⟨q,0,none⟩) (aG rfl) _).setCell (p:=⟨q,1,none⟩) (aG rfl) _;exact ⟨h.mod g (fun k f l=>j (l▸f)) (fun k f=>f▸i),(m.set 0 (aB nm.1)).set 1 (aB nm.2),g⟩
theorem qA {x:Cx} {c:DC} {w:World} {v:DV} {k:EK} (h:iQ x c w v k) {q:Nat} {a b:Value} (j:aL w q #[a,b] 89) (f:¬ x.S1 v q) (e:x.B≤q) (nm:Bs×Bs) :
  iQ x c ((w.setCell ⟨q,0,none⟩ (aB nm.1)).setCell ⟨q,1,none⟩ (aB nm.2)) v k∧aJ (fun k=>k=q) w ((w.setCell ⟨q,0,none⟩ (aB nm.1)).setCell ⟨q,1,none⟩ (aB nm.2)):=by
 have d:aJ (fun k=>k=q) w ((w.setCell ⟨q,0,none⟩ (aB nm.1)).setCell ⟨q,1,none⟩ (aB nm.2)):=((aJ.refl (fun k=>k=q) w).setCell (p:=⟨q,0,none⟩) (aG rfl) _).setCell (p:=⟨q,1,none⟩) (aG rfl) _;exact ⟨⟨aJ.below h.base h.base.size d (fun k i=>i▸e),aL.mod h.dec d (fun g=>f (g▸aG (aG rfl))),h.err⟩,d⟩
theorem zI (s:Bs):(dX s).1.length≤s.length∧(dX s).2.length≤s.length:=by
 unfold dX;split
 ·simp
 ·rename_i b a h;have d:a.length≤s.length:=by
   have c:=(List.dropWhile_suffix (fun x:UInt8=>x != 58) (l:=s)).length_le;rw [h] at c;simp at c;omega
  have e:=(List.takeWhile_prefix (fun x:UInt8=>x != 58) (l:=s)).length_le;split
  ·simp
  ·exact ⟨e,d⟩
theorem VT (x:Cx) (hx:x.All) (c:DC) (P:hY x c) (w:World) (v:DV) (rest:Bs) (e:Option EK) (a1:Bs) (h:cA x c w v rest e a1) (Q:Exit→Act→World→Prop)
  (hQ:∀ f w' t e,kJ x c w v (m8 x.o rest) t e w'→Q .ret (fr 731 f [(2,t),(3,e)]) w') (f:Nat→Value) :
  (dQ 22).wp prog Q (fr 731 f [(0,bT x)]) w:=by
 have a3:Below w.heap.size w (w.alloc (.cells #[.string ⟨#[]⟩,.string ⟨#[]⟩] 89)):=(Below.refl _ w).alloc (dF _) _;have a6:=Lh (xG x hx.toFit c P _ v rest e a1 (h.below hx.toOk a3));have hq:=aL.new w #[.string ⟨#[]⟩,.string ⟨#[]⟩] 89;have b7:=Lh ((cN.refl x w v).alloc (.cells #[.string ⟨#[]⟩,.string ⟨#[]⟩] 89));have b3:=Lh hq;have Y:=Lh h.newS1;have ⟨HX,HD,Z⟩:=kV hx P hQ;have J:=Lh (show x.B≤w.heap.size from h.base.size);have b6:=Lh (show rest.length≤1000000000 from fQ (h.suf.length_le) hx.len);clear h a3 hq hx P hQ;unfold dQ;conv=>arg 2;whnf
 refine vg ?_;intro K hK K hK K hK;refine a6.o.mono ?_;rintro e2 w2 ⟨v2,G,E⟩;have a4:w.heap.size<(w.alloc (.cells #[.string ⟨#[]⟩,.string ⟨#[]⟩] 89)).heap.size:=by simp
 have R:=G.notS1 Y.o a4;have F:=b3.o.mod G.mod Y.o;have N:=Lh (b7.o.trans G);have ⟨L,i⟩:=cB F R;have C:=F.cell;have D:=F.frozen;have cT:x.d≠w.heap.size:=fun e=>R (aG (aG e.symm));have dT:w.heap.size≠x.d:=fun e=>cT e.symm;clear G F R a4 a6;cases I:cL x.o.fails rest with
 | error k=>
  rw [I] at E;obtain ⟨nm,rfl,c2⟩:=E;have d:=Lh (show m8 x.o rest=.error k by unfold m8;rw [I]);rcases c2 with z|⟨rfl,r,b,hR⟩
  ·obtain ⟨A,H⟩:=qA z L.o i.o J.o nm;have l:=Lh (N.o.new (dF _) H);obtain ⟨t1,u1,T⟩:=z.err.iface;have bC:=Lh A;have hc:=A.dec.cell;have hf:=A.dec.frozen;have HU:=Lh T;clear z A H I;(repeat revert K);refine vS ?_;intro K hK K hK
   ((refine cG [0] fun f=>?_);go_quiet (fail);((repeat revert K);refine vg ?_;intro K hK);refine Qk [2,3] fun f=>?_)
   exact Z.o f _ _ _ ⟨v2,l.o.drawn _,by rw [d.o];exact ⟨rfl,HU.o.symm,bC.o.drewN _⟩⟩
  ·obtain ⟨g,y,H⟩:=o6 hR L.o i.o J.o nm;have l:=Lh (N.o.new (dF _) H);have he:v2.err=.nilIface:=g.err;have hc:=g.dec.cell;have hf:=g.dec.frozen;have O:=Lh (fun U=>gH HX.o.toOk g U);clear hR g y H I;(repeat revert K);refine vS ?_;intro K hK K hK K hK;refine (O.o _).mono ?_;rintro e3 w3 ⟨a9,rfl,B⟩;have b9:=B.dec.cell;have c1:=B.dec.frozen;have HS:=Lh B;clear B hc hf he C D;(repeat revert K);refine vS ?_;intro K hK K hK
   ((refine cG [0] fun f=>?_);go_quiet (fail);((repeat revert K);refine vg ?_;intro K hK);refine Qk [2,3] fun f=>?_)
   exact Z.o f _ _ _ ⟨_,(l.o.trans HS.o.stp).drawn _,by rw [d.o];exact ⟨rfl,rfl,HS.o.err.drewN _⟩⟩
 | ok p=>
  obtain ⟨nm,r⟩:=p;rw [I] at E;obtain ⟨rfl,b,_,hR⟩:=E;obtain ⟨g,y,H⟩:=o6 hR L.o i.o J.o nm;have l:=Lh (N.o.new (dF _) H);have ⟨b5,bA⟩:=cB g y;have d:=Lh (show m8 x.o rest=(match aT r with|[]=>.error (bY x.o.fails)|b::r2=>if b=62 then .ok (.fin nm,r2) else .error .syn) by unfold m8;rw [I];rfl);have q:=Lh (show nm.2.length≤1000000000 by
   obtain ⟨s,V,_,rfl⟩:=oP I;have h2:=(zI s).2;have h3:=z8 V;have:=b6.o;omega)
  have a8:=Lh (sQ x HX.o.toOk c HD.o _ v2 r none b b5.o);clear hR g y H I;(repeat revert K);refine vS ?_;intro K hK K hK;refine a8.o.mono ?_;rintro e3 w3 ⟨rfl,v3,c5,W⟩;have a7:=bA.o.mod W.mod (fun hk=>i.o (aG hk));have a0:=Lh (l.o.s0 W.mod W.bufv);have aA:=Lh W.rd;have b4:=Lh a7;have b0:=Lh (show ¬ x.S1 v3 w.heap.size from by
   rintro (V|V)
   ·exact i.o (aG V)
   ·rw [W.bufv] at V;exact i.o (aU V))
  clear W a8 a7;cases X:aT r with
  | nil=>
   have a:=Lh (show m8 x.o rest=.error (bY x.o.fails) by rw [d.o,X]);have o:=Lh (bN x HX.o.toOk c HD.o w3 v3 _ b (by have:=aA.o;rw [X] at this;exact this));clear X;(repeat revert K);refine vS ?_;intro K hK K hK K hK;refine o.o.mono ?_;rintro e4 w4 ⟨rfl,v4,z,m,j⟩;have u:=Lh (a0.o.s0 j m);obtain ⟨t1,u1,T⟩:=z.err.iface;have HE:=Lh z;have hc:=z.dec.cell;have hf:=z.dec.frozen;have HU:=Lh T;clear z j m o C D;(repeat revert K);refine vS ?_;intro K hK K hK
   ((refine cG [0] fun f=>?_);go_quiet (fail);((repeat revert K);refine vg ?_;intro K hK);refine Qk [2,3] fun f=>?_)
   exact Z.o f _ _ _ ⟨v4,u.o.drawn _,by rw [a.o];exact ⟨rfl,HU.o.symm,HE.o.drewN _⟩⟩
  | cons b1 r2=>
   have o:=Lh (bK x HX.o.toOk c HD.o w3 v3 b1 r2 _ b (by have:=aA.o;rw [X] at this;exact this));have a:=Lh (show m8 x.o rest=if b1=62 then .ok (.fin nm,r2) else .error .syn by rw [d.o,X]);clear X;(repeat revert K);refine vS ?_;intro K hK K hK K hK;refine o.o.mono ?_;rintro e4 w4 ⟨rfl,v4,a2,a5,m,j,c3⟩;have u:=Lh (a0.o.s0 j m);have S:=b4.o.mod j (fun hk=>b0.o (aG hk));have C:=S.cell;have D:=S.frozen;have ⟨aC,b2⟩:=cB a2 a5;clear a2 a5 j m c3 o S;by_cases hb:b1=62
   ·subst hb;(repeat revert K);refine vS ?_;refine Qk [2,3] fun f=>?_;exact Z.o f _ _ _ ⟨v4,u.o,by rw [a.o,aY rfl];exact ⟨rfl,none,b,aC.o,rfl,aG rfl,b2.o⟩⟩
   ·have c6:=eS (n:=62) hb rfl;have c4:=pZ (n:=62) hb rfl;have M:=Lh (show m8 x.o rest=.error .syn by rw [a.o,aQ hb]);have O:=Lh (fun U=>gH HX.o.toOk aC.o U);have c7:¬ 9223372036854775807<nm.2.length+6:=by have:=q.o;omega
    have c8:¬ 9223372036854775807<29+nm.2.length:=by have:=q.o;omega
    have c9:¬ 9223372036854775807<29+nm.2.length+6:=by have:=q.o;omega
    have dI:¬ 9223372036854775807<29+(nm.2.length+6):=by have:=q.o;omega
    clear hb;(repeat revert K);refine vS ?_;intro K hK K hK K hK;refine (O.o _).mono ?_;rintro e5 w5 ⟨a9,rfl,B⟩;have b9:=B.dec.cell;have c1:=B.dec.frozen;have HS:=Lh B;clear B C D;(repeat revert K);refine vS ?_;intro K hK K hK
    ((refine cG [0] fun f=>?_);go_quiet (fail);((repeat revert K);refine vg ?_;intro K hK);refine Qk [2,3] fun f=>?_)
    exact Z.o f _ _ _ ⟨_,(u.o.trans HS.o.stp).drawn _,by rw [M.o];exact ⟨rfl,rfl,HS.o.err.drewN _⟩⟩
def xS (o:cV):Bs→Except EK (aP×Bs)
 | []=>.error (bY o.fails)
 | c::r2=>if c=45 then (match cE o.fails r2 0 0 [] with
  | .error e=>.error e
  | .ok (d,r3)=>.ok (.comment d,r3)) else .error .syn
theorem cA.chop {x:Cx} {c:DC} {w:World} {v:DV} {r:Bs} {e:Option EK} {b:Bs} (h:cA x c w v r e b) (k:b≠[]) (n:Nat) :
  ∃ g a,v.bufv=.slice (some ⟨g,0,none⟩) b.length a∧b.length≤a∧a≤9223372036854775807∧∀ w',Below w.heap.size w w'→mV w' v.bufv (.slice (some ⟨g,0,none⟩) (b.take (b.length-n)).length a) (b.take (b.length-n)):=by
 obtain ⟨g,a,i,f,m,d,_,_,_⟩:=h.bf.bytes k;refine ⟨g,a,i,m,d,fun w' o=>⟨g,a,b.length,rfl,i,?_,by rw [pI];omega,d⟩⟩;intro j l;rw [pI] at l;rw [(f.below o) j (by omega)];simp only [rF,List.getElem?_take];rw [aY (by omega)]
def YB (x:Cx) (c:DC) (w0:World) (v0:DV) (d:Bs) (k:Nat) (a:Act) (w:World):Prop:=
 ∃ f v rest b0 b1 b e,a=fr 731 f [(0,bT x),(16,.int .u8 (UInt8.toNat b0)),(17,.int .u8 (UInt8.toNat b1))]∧cA x c w v rest e b∧cN x w0 v0 w v∧k=rest.length ∧
  cE x.o.fails d 0 0 []=cE x.o.fails rest b0 b1 b∧(b0=45→2≤b.length)∧(b1=45→1≤b.length)∧b.length+rest.length=d.length
theorem VU (x:Cx) (V:x.All) (c:DC) (u:hY x c) (w:World) (v:DV) (rest:Bs) (e:Option EK) (B:Bs) (h:cA x c w v rest e B) (Q:Exit→Act→World→Prop)
  (hQ:∀ f w' t e,kJ x c w v (xS x.o rest) t e w'→Q .ret (fr 731 f [(2,t),(3,e)]) w') (f:Nat→Value) :
  (dQ 79).wp prog Q (fr 731 f [(0,bT x)]) w:=by
 have ⟨S,HD,X⟩:=kV V u hQ;have d0:=Lh (show rest.length≤1000000000 from fQ (h.suf.length_le) V.len);cases rest with
 | nil=>
  have j:=Lh (bN x V.toOk c u w v e B h);clear h V u hQ;unfold dQ;conv=>arg 2;whnf
  refine vg ?_;intro K hK K hK K hK;refine j.o.mono ?_;rintro e4 w4 ⟨rfl,v4,o,q,y⟩;have N:=Lh ((cN.refl x w v).s0 y q);obtain ⟨t1,u1,T⟩:=o.err.iface;have HE:=Lh o;have hc:=o.dec.cell;have hf:=o.dec.frozen;have HU:=Lh T;clear o y q j;(repeat revert K);refine vS ?_;intro K hK K hK
  ((refine cG [0] fun f=>?_);go_quiet (fail);((repeat revert K);refine vg ?_;intro K hK);refine Qk [2,3] fun f=>?_)
  exact X.o f _ _ _ ⟨v4,N.o.drawn _,⟨rfl,HU.o.symm,HE.o.drewN _⟩⟩
 | cons b1 r2=>
  have j:=Lh (bK x V.toOk c u w v b1 r2 e B h);clear h V u hQ;unfold dQ;conv=>arg 2;whnf
  refine vg ?_;intro K hK K hK K hK;refine j.o.mono ?_;rintro e4 w4 ⟨rfl,v4,a2,d5,q,y,d7⟩;have aA:=Lh ((cN.refl x w v).s0 y q);have Y:=Lh a2;clear a2 d5 y q d7 j;by_cases p:b1=45
  ·subst p;have m:=Lh (show xS x.o (45::r2)=(match cE x.o.fails r2 0 0 [] with|.error e=>.error e|.ok (d,r3)=>.ok (.comment d,r3)) from rfl);have b7:=Lh (oU x S.o.toOk c w4 v4 r2 none B Y.o);(repeat revert K);refine vS ?_;intro K hK K hK;refine b7.o.mono ?_;rintro e5 w5 ⟨rfl,v5,a3,d6,a5,b3,d8⟩;have N:=Lh (aA.o.trans (cN.ofS0 b3 a5));have dT:=Lh a3;clear a3 d6 a5 b3 d8 b7;(repeat revert K);refine vS ?_;intro K hK;refine cG [0,16,17] fun f=>?_;refine wp_loop_ghost_k (YB x c w v r2) r2.length ⟨f,v5,r2,0,0,[],none,rfl,dT.o,N.o,rfl,rfl,fun h=>absurd h (by decide),fun h=>absurd h (by decide),by simp⟩ ?_;rintro k _ w6 ⟨f,v6,rest,b0,b1,i,e6,rfl,h6,b9,hk,a7,F,G,I⟩ J K2 hJ a1;have ⟨HJ,c8,aC,HK,A,c3⟩:=gT hJ a1 b9 hk a7 F;have ⟨c4,E⟩:=cB G I;clear hJ a1 b9 hk a7 F G I;cases rest with
   | nil=>
    have j:=Lh (bN x S.o.toOk c HD.o w6 v6 e6 i h6);have a:=Lh (show xS x.o (45::r2)=.error (bY x.o.fails) by rw [m.o,A.o];rfl);clear h6;revert K;refine vg ?_;intro K hK K hK K hK K hK;refine j.o.mono ?_;rintro e7 w7 ⟨rfl,v7,o,s,z⟩;have O:=Lh (aC.o.s0 z s);obtain ⟨t1,u1,T⟩:=o.err.iface;have HE:=Lh o;have hc:=o.dec.cell;have hf:=o.dec.frozen;have HU:=Lh T;clear o z s j;(repeat revert K);refine vS ?_;intro K hK K hK K hK
    ((refine cG [0] fun f=>?_);go_quiet (fail);((repeat revert K);refine vg ?_;intro K hK K hK);refine Qk [2,3] fun f=>?_)
    exact X.o f _ _ _ ⟨v7,O.o.drawn _,by rw [a.o];exact ⟨rfl,HU.o.symm,HE.o.drewN _⟩⟩
   | cons b r=>
    have j:=Lh (bK x S.o.toOk c HD.o w6 v6 b r e6 i h6);clear h6;revert K;refine vg ?_;intro K hK K hK K hK K hK;refine j.o.mono ?_;rintro e7 w7 ⟨rfl,v7,h7,b4,s,z,d9⟩;have O:=Lh (aC.o.s0 z s);have ⟨e1,c9⟩:=cB h7 b4;have M:i.length≤50000000000000:=by have:=E.o;have:=d0.o;simp at *;omega
    have c2:=Lh (fV x S.o.toOk c w7 v7 r none i h7 b M);clear h7 b4 s z d9 j M;(repeat revert K);refine vS ?_;intro K hK K hK K hK;refine c2.o.mono ?_;rintro e8 w8 ⟨rfl,v8,⟨h8,b5,cT⟩,_⟩;have P:=Lh (O.o.trans cT);have l:=Lh h8;have dI:=Lh (b5.trans c9.o);clear h8 b5 cT c2;have d3:(((b0.toNat:Int)==45)=false∧b0≠45)∨(((b0.toNat:Int)==45)=true∧b0=45∧((b1.toNat:Int)==45)=false∧b1≠45)∨(((b0.toNat:Int)==45)=true∧b0=45∧((b1.toNat:Int)==45)=true∧b1=45):=by
     by_cases h0:b0=45
     ·subst h0;by_cases h1:b1=45
      ·subst h1;exact aU (aU ⟨rfl,rfl,rfl,rfl⟩)
      ·exact aU (aG ⟨rfl,rfl,eS h1 rfl,h1⟩)
     ·exact aG ⟨eS h0 rfl,h0⟩
    rcases d3 with ⟨c0,c0'⟩|⟨c0,c0',c1,c1'⟩|⟨c0,c0',c1,c1'⟩;case inr.inr=>
     have a4:2≤i.length:=c3.o c0';by_cases p:b=62
     ·subst p;have b6:i++[62]≠[]:=by simp
      obtain ⟨g,a0,hv,bC,e2,H⟩:=l.o.chop b6 3;have D:=Lh (l8 x c w8 v8 r none _ l.o);have bA:((i++[62]).take ((i++[(62:UInt8)]).length-3)).length=i.length-2:=by rw [pI,fP];simp only [f5,List.length_nil];omega
      have a8:(i++[62]).take ((i++[(62:UInt8)]).length-3)=i.take (i.length-2):=by
       have:(i++[(62:UInt8)]).length-3=i.length-2:=by rw [fP];simp only [f5,List.length_nil];omega
       rw [this,List.take_append_of_le_length (by omega)]
      have W:=Lh H;have a:=Lh (show xS x.o (45::r2)=.ok (.comment (i.take (i.length-2)),r) by
       rw [m.o,A.o];unfold cE;rw [aY ⟨c0',c1'⟩,aY rfl])
      rw [hv] at D;have b2:(i++[(62:UInt8)]).length=i.length+1:=by simp
      rw [b2] at D bC;have ⟨HV,c6,c7⟩:=kV hv a8 bA;obtain ⟨L,hL⟩:∃ L,i.length=L+2:=⟨i.length-2,by omega⟩;rw [hL] at D bC;have HL:=Lh hL;have e0:IntKind.i64.wrap ((L:Int)+2+1-3)=(L:Int):=by rw [IntKind.wrap_i64];omega
      have l0:(0:Int)≤(L:Int):=by omega
      have l1:(L:Int)≤(a0:Int):=by omega
      have l2:L≤a0:=by omega
      clear b6 hv H a8 bA b2 hL a4;(repeat revert K);refine vS ?_;intro K hK K hK;refine D.o.mono ?_;rintro e9 w9 ⟨rfl,kk,rfl⟩;(repeat revert K);refine vS ?_;refine Qk [2,3] fun f=>?_;refine X.o f _ _ _ ⟨v8,P.o.drawn _,?_⟩;rw [a.o];have hd:=W.o (w8.drewN kk) ⟨rfl,rfl,rfl,dF _,fun _ _=>rfl⟩;rw [c7.o,c6.o] at hd;refine ⟨rfl,none,_,l.o.drewN S.o.toOk _,⟨_,rfl,?_⟩,aG rfl,dI.o⟩;have:i.length-2=L:=by have:=HL.o;omega
      rw [this] at hd ⊢;exact hd
     ·have d1:=eS (n:=62) p rfl;have a6:=pZ (n:=62) p rfl;have a:=Lh (show xS x.o (45::r2)=.error .syn by
       rw [m.o,A.o];unfold cE;rw [aY ⟨c0',c1'⟩,aQ p])
      have R:=Lh (fun U=>gH S.o.toOk l.o U);clear p a4;(repeat revert K);refine vS ?_;intro K hK K hK K hK K hK K hK;refine (R.o _).mono ?_;rintro e5 w9 ⟨a9,rfl,C⟩;have d2:=C.dec.cell;have d4:=C.dec.frozen;have Z:=Lh C;clear C;(repeat revert K);refine vS ?_;intro K hK K hK K hK K hK
      ((refine cG [0] fun f=>?_);go_quiet (fail);((repeat revert K);refine vg ?_;intro K hK K hK K hK);refine Qk [2,3] fun f=>?_)
      exact X.o f _ _ _ ⟨_,(P.o.trans Z.o.stp).drawn _,by rw [a.o];exact ⟨rfl,rfl,Z.o.err.drewN _⟩⟩
    all_goals
     have c5:=Lh (show ¬ (b0=45∧b1=45) by first|exact fun hh=>c0' hh.1|exact fun hh=>c1' hh.2);(repeat revert K);refine vS ?_;intro K hK;refine Kk [0,16,17] fun f=>?_;refine c8.o _ _ ⟨r.length,by rw [HK.o];simp,HJ.o _ _ _ ⟨f,v8,r,b1,b,i++[b],none,rfl,l.o,P.o,rfl,?_,fun h=>?_,fun _=>by simp,?_⟩⟩
     ·rw [A.o];conv=>lhs;unfold cE
      rw [aQ c5.o]
     ·have:=c4.o h;simp;omega
     ·have:=E.o;simp at this ⊢;omega
  ·have d1:=eS (n:=45) p rfl;have a6:=pZ (n:=45) p rfl;have a:=Lh (show xS x.o (b1::r2)=.error .syn by simp only [xS,aQ p]);have R:=Lh (fun U=>gH S.o.toOk Y.o U);clear p;(repeat revert K);refine vS ?_;intro K hK K hK K hK;refine (R.o _).mono ?_;rintro e5 w9 ⟨a9,rfl,C⟩;have d2:=C.dec.cell;have d4:=C.dec.frozen;have Z:=Lh C;clear C;(repeat revert K);refine vS ?_;intro K hK K hK
   ((refine cG [0] fun f=>?_);go_quiet (fail);((repeat revert K);refine vg ?_;intro K hK);refine Qk [2,3] fun f=>?_)
   exact X.o f _ _ _ ⟨_,(aA.o.trans Z.o.stp).drawn _,by rw [a.o];exact ⟨rfl,rfl,Z.o.err.drewN _⟩⟩
theorem XZ (l:Bs) (k:Nat):∀ h,(⟨l.toArray⟩:ByteArray)[k]'h=l.getD k 0:=by
 intro h;have a:k<l.length:=by simpa [ByteArray.size] using h
 show l.toArray[k]=_;simp [a]
abbrev DM:Bs:=[67,68,65,84,65,91]
def rL (o:cV) (p:Bs) (r:Bs):Except EK (aP×Bs):=
 match fA o.fails p r with
 | .error e=>.error e
 | .ok r2=>match bF o none true r2 0 0 [] with
  | .error e=>.error e
  | .ok (d,r3)=>.ok (.text d,r3)
def YC (x:Cx) (c:DC) (w0:World) (v0:DV) (d:Bs) (k:Nat) (a:Act) (w:World):Prop:=
 ∃ f v rest i e b,a=fr 731 f [(0,bT x),(19,.int .i64 (i:Nat))]∧cA x c w v rest e b∧cN x w0 v0 w v∧k=6-i∧i≤6∧rL x.o DM d=rL x.o (DM.drop i) rest
theorem VV (x:Cx) (hx:x.All) (c:DC) (X:hY x c) (aC:rS x c) (w:World) (v:DV) (rest:Bs) (e:Option EK) (T:Bs) (h:cA x c w v rest e T) (Q:Exit→Act→World→Prop)
  (hQ:∀ f w' t e,kJ x c w v (rL x.o DM rest) t e w'→Q .ret (fr 731 f [(2,t),(3,e)]) w') (f:Nat→Value) :
  (dQ 100).wp prog Q (fr 731 f [(0,bT x)]) w:=by
 have ⟨HX,HD,a6,HQ,H⟩:=pM hx X aC hQ h;clear hx X aC hQ h;unfold dQ;conv=>arg 2;whnf
 refine vg ?_;intro K hK;refine cG [0,19] fun f=>?_;refine wp_loop_ghost_k (YC x c w v rest) 6 ⟨f,v,rest,0,e,T,rfl,H.o,cN.refl x w v,rfl,by omega,rfl⟩ ?_;rintro k _ w6 ⟨f,v6,o,i,e6,bf,rfl,h6,a1,hk,hi,a2⟩ J K2 hJ U;have ⟨HJ,a4,L,HK,D,H6⟩:=gT hJ U a1 hk a2 h6;clear hJ U a1 hk a2 h6;by_cases Z:i=6
 ·subst Z;have a3:=Lh (GC x HX.o c HD.o a6.o none true w6 v6 o e6 bf H6.o (fun h=>absurd rfl h) (fun _ h=>by cases h));have E:=Lh (show rL x.o DM rest=(match bF x.o none true o 0 0 [] with|.error e=>.error e|.ok (d,r3)=>.ok (.text d,r3)) from D.o.trans rfl);revert K;refine vg ?_;intro K hK K hK;rw [show (-1:Int)=qI none from rfl];refine a3.o.mono ?_;rintro e3 w3 ⟨v3,a0,I⟩;have R:=Lh (L.o.trans a0);clear a0 a3;cases n:bF x.o none true o 0 0 [] with
  | error k=>
   rw [n] at I;obtain ⟨rfl,u⟩:=I;have m:=Lh (show rL x.o DM rest=.error k by rw [E.o,n]);obtain ⟨t1,u1,M⟩:=u.err.iface;have hc:=u.dec.cell;have hf:=u.dec.frozen;have ⟨HE,HU⟩:=cB u M;clear u n;have q1:=fun w=>N5 w;(repeat revert K);refine vS ?_;intro K hK K hK
   ((refine cG [0] fun f=>?_);go_quiet (fail);((repeat revert K);refine vg ?_;intro K hK);refine Qk [2,3] fun f=>?_)
   exact HQ.o f _ _ _ ⟨v3,R.o.drawn _,by rw [m.o];exact ⟨rfl,HU.o.symm,HE.o.drewN _⟩⟩
  | ok dr=>
   obtain ⟨d,r'⟩:=dr;rw [n] at I;obtain ⟨g,a8,e',b',rfl,hR,s,W,b7,Y,aA⟩:=I;have a5:=Lh (aA rfl);clear aA;have m:=Lh (show rL x.o DM rest=.ok (.text d,r') by rw [E.o,n]);have G:mV w3 v3.bufv (.slice (some ⟨g,0,none⟩) d.length a8) d:=by
    rcases hR.bf with ⟨F,_⟩|⟨g',cap',arr,F,hg,c3,hl,bA,_,_,bC⟩
    ·rw [F] at s;cases s
    ·rw [F] at s;simp only [Value.slice.injEq,jW,Addr.mk.injEq] at s;obtain ⟨⟨rfl,_⟩,_,rfl⟩:=s;refine ⟨g',cap',b'.length,rfl,by rw [F],fun j hj=>?_,by omega,bA⟩;rw [Nat.zero_add,hg.cell,bC j (by omega)];have:d.getD j 0=b'.getD j 0:=by
      rw [W];simp only [rF,List.getElem?_take];rw [aY hj]
     rw [this]
   have ⟨HR,N⟩:=cB hR G;have O:=Lh hR.fin;clear hR s W Y n G;have q1:=fun a l c w=>GD a l c w;(repeat revert K);refine vS ?_;refine Qk [2,3] fun f=>?_;refine HQ.o f _ _ _ ⟨v3,R.o,?_⟩;rw [m.o];refine ⟨rfl,e',b',HR.o,⟨_,rfl,N.o⟩,?_,a5.o⟩;rcases O.o with F|⟨F,h2⟩
   ·exact aG F
   ·exact aU ⟨⟨d,rfl⟩,h2,F⟩
 ·have c2:(i:Int)<6:=by omega
  have b4:i<6:=by omega
  have h0:(0:Int)≤(i:Int):=by omega
  obtain ⟨p,I⟩:=cK (DM.getD i 0);have z:DM.drop i=p::DM.drop (i+1):=by
   rw [I];have:i=0∨i=1∨i=2∨i=3∨i=4∨i=5:=by omega
   rcases this with rfl|rfl|rfl|rfl|rfl|rfl<;>rfl
  have c1:∀ h,(⟨#[67,68,65,84,65,91]⟩:ByteArray)[i]'h=p:=by
   intro h;rw [I];exact XZ DM i h
  have cT:IntKind.i64.wrap ((i:Int)+1)=((i+1:Nat):Int):=by rw [IntKind.wrap_i64];omega
  have ⟨q,HI⟩:=cB z hi;clear z I hi Z;cases o with
  | nil=>
   have B:=Lh (bN x HX.o.toOk c HD.o w6 v6 e6 bf H6.o);have m:=Lh (show rL x.o DM rest=.error (bY x.o.fails) by rw [D.o,q.o];rfl);revert K;refine vg ?_;intro K hK K hK K hK K hK K hK;refine B.o.mono ?_;rintro e7 w7 ⟨rfl,v7,u,y,A⟩;have C:=Lh (L.o.s0 A y);obtain ⟨t1,u1,M⟩:=u.err.iface;have HE:=Lh u;have hc:=u.dec.cell;have hf:=u.dec.frozen;have HU:=Lh M;clear u A y B;(repeat revert K);refine vS ?_;intro K hK K hK K hK K hK
   ((refine cG [0] fun f=>?_);go_quiet (fail);((repeat revert K);refine vg ?_;intro K hK K hK K hK);refine Qk [2,3] fun f=>?_)
   exact HQ.o f _ _ _ ⟨v7,C.o.drawn _,by rw [m.o];exact ⟨rfl,HU.o.symm,HE.o.drewN _⟩⟩
  | cons b r=>
   have B:=Lh (bK x HX.o.toOk c HD.o w6 v6 b r e6 bf H6.o);revert K;refine vg ?_;intro K hK K hK K hK K hK K hK;refine B.o.mono ?_;rintro e7 w7 ⟨rfl,v7,h7,b0,y,A,b1⟩;have C:=Lh (L.o.s0 A y);have P:=Lh h7;clear h7 b0 y A b1 B;by_cases V:b=p
   ·subst V;have S:=Lh (show rL x.o DM rest=rL x.o (DM.drop (i+1)) r by
     rw [D.o,q.o];unfold rL;conv=>lhs;unfold fA
     rw [aY rfl])
    (repeat revert K);refine vS ?_;intro K hK;refine Kk [0,19] fun f=>?_;exact a4.o _ _ ⟨6-(i+1),by rw [HK.o];omega,HJ.o _ _ _ ⟨f,v7,r,i+1,none,bf,rfl,P.o,C.o,rfl,by omega,S.o⟩⟩
   ·have b5:((b.toNat:Int)==(p.toNat:Int))=false:=eS V rfl;have b3:((b.toNat:Int) != (p.toNat:Int))=true:=pZ V rfl;have m:=Lh (show rL x.o DM rest=.error .syn by
     rw [D.o,q.o];unfold rL;unfold fA;rw [aQ V])
    have a7:=Lh (fun b2=>gH HX.o.toOk P.o b2);clear V;(repeat revert K);refine vS ?_;intro K hK K hK K hK K hK;refine (a7.o _).mono ?_;rintro e5 w9 ⟨a9,rfl,hS⟩;have b6:=hS.dec.cell;have b9:=hS.dec.frozen;have HS:=Lh hS;clear hS;(repeat revert K);refine vS ?_;intro K hK K hK K hK
    ((refine cG [0] fun f=>?_);go_quiet (fail);((repeat revert K);refine vg ?_;intro K hK K hK);refine Qk [2,3] fun f=>?_)
    exact HQ.o f _ _ _ ⟨_,(C.o.trans HS.o.stp).drawn _,by rw [m.o];exact ⟨rfl,rfl,HS.o.err.drewN _⟩⟩
def YD (x:Cx) (c:DC) (w0:World) (v0:DV) (h:Bs) (g:Bs) (b d:Value) (k:Nat) (a:Act) (w:World):Prop:=
 ∃ f v rest b0 b1 e,a=fr 731 f [(0,bT x),(21,b),(22,d),(26,.int .u8 (UInt8.toNat b0)),(27,.int .u8 (UInt8.toNat b1))]∧cA x c w v rest e g∧cN x w0 v0 w v∧k=rest.length ∧
  cY x.o.fails h 0 0=cY x.o.fails rest b0 b1
theorem R1 (x:Cx) (W:x.All) (c:DC) (I:hY x c) (w:World) (v:DV) (rest:Bs) (a:Bs) (hl:a.length≤10000000000000) (h:cA x c w v rest none (a++[60])) (q s:Value) (Q:Exit→Act→World→Prop)
  (O:∀ r4,cY x.o.fails rest 0 0=.ok r4→∀ f w' v',cA x c w' v' r4 none (a++[32])→cN x w v w' v'→Q .normal (fr 731 f [(0,bT x),(21,q),(22,s)]) w')
  (l:∀ k,cY x.o.fails rest 0 0=.error k→∀ f w' v',iQ x c w' v' k→cN x w v w' v'→Q .ret (fr 731 f [(2,.nilIface),(3,v'.err)]) w') (f:Nat→Value) :
  (dQ 143).wp prog Q (fr 731 f [(0,bT x),(21,q),(22,s)]) w:=by
 have ⟨X,HD,a0,t,H,HL⟩:=gT W I O l h hl;have e:=Lh (fun k=>zW x c (w.drewN k) v rest none _ (h.drewN W.toOk k));have U:=Lh (fun k=>xB x W.toOk c (w.drewN k) v rest none _ (h.drewN W.toOk k) a.length (by simp));have T:IntKind.i64.wrap ((a.length:Int)+1-1)=(a.length:Int):=by rw [IntKind.wrap_i64];omega
 have o:IntKind.i64.wrap (a.length:Int)=(a.length:Int):=by rw [IntKind.wrap_i64];omega
 have M:(a++[(60:UInt8)]).length=a.length+1:=by simp
 rw [M] at e;clear W I O l h hl M;unfold dQ;conv=>arg 2;whnf
 refine vg ?_;intro K hK;(refine lD [0,0,0,0,0,0,2,0,2] [0,1,2,3,4,5,6,7,8] ?_;refine vP ?_;repeat with_reducible intro nq)
 refine bI rfl rfl (fun nq K hK=>?_);go_simp;refine (e.o _).mono ?_;rintro e1 w1 ⟨rfl,k1,rfl⟩;go_simp;refine hK.out _ _ ?_;clear hK K;(refine vP ?_;repeat with_reducible intro nq)
 refine bI rfl rfl (fun nq K hK=>?_);go_simp;refine (U.o _).mono ?_;rintro e2 w2 ⟨rfl,v2,n,a4,G,N,a8⟩;have u:=Lh (show cA x c w2 v2 rest none a by rw [List.take_left'] at n;exact n;rfl);have B:=Lh ((cN.drewN _).trans (cN.ofS0 N G));clear n a4 G N a8 e U T o;go_simp;refine hK.out _ _ ?_;clear hK K;(refine vP ?_;repeat with_reducible intro nq)
 revert K;refine vg ?_;intro K hK;refine cG [0,21,22,26,27] fun f=>?_;have y:=Lh (u.o.drewN X.o.toOk nq);have C:=Lh (B.o.drawn nq);generalize w2.drewN nq=w3 at y C ⊢;clear u B;refine wp_loop_ghost_k (YD x c w v rest a q s) rest.length ⟨f,v2,rest,0,0,none,rfl,y.o,C.o,rfl,rfl⟩ ?_;rintro k _ w6 ⟨f,v6,p,b0,b1,e6,rfl,Y,P,hk,S⟩ J K2 hJ F;have ⟨HJ,aC,D,HK,m⟩:=pM hJ F P hk S;clear hJ F P hk S;cases p with
 | nil=>
  have i:=Lh (bN x X.o.toOk c HD.o w6 v6 e6 a Y);clear Y;revert K;refine vg ?_;intro K hK K hK K hK K hK;refine i.o.mono ?_;rintro e7 w7 ⟨rfl,Z,E,d,g⟩;have j:=Lh (D.o.s0 g d);obtain ⟨t1,u1,a7⟩:=E.err.iface;have HE:=Lh E;have hc:=E.dec.cell;have hf:=E.dec.frozen;have HU:=Lh a7;clear E g d i;(repeat revert K);refine vS ?_;intro K hK K hK K hK
  ((refine cG [0] fun f=>?_);go_quiet (fail);((repeat revert K);refine vg ?_;intro K hK K hK);refine Qk [2,3] fun f=>?_)
  rw [←HU.o];exact t.o _ (by rw [m.o];rfl) f _ Z (HE.o.drewN _) (j.o.drawn _)
 | cons b r=>
  have i:=Lh (bK x X.o.toOk c HD.o w6 v6 b r e6 a Y);clear Y;revert K;refine vg ?_;intro K hK K hK K hK K hK;refine i.o.mono ?_;rintro e7 w7 ⟨rfl,Z,h7,a5,d,g,a9⟩;have j:=Lh (D.o.s0 g d);have z:=Lh h7;clear h7 a5 d g a9 i;have a3:(((b0.toNat:Int)==45)=false∧b0≠45)∨(((b0.toNat:Int)==45)=true∧b0=45∧((b1.toNat:Int)==45)=false∧b1≠45)∨(((b0.toNat:Int)==45)=true∧b0=45∧((b1.toNat:Int)==45)=true∧b1=45∧((b.toNat:Int)==62)=false∧b≠62)∨(((b0.toNat:Int)==45)=true∧b0=45∧((b1.toNat:Int)==45)=true∧b1=45∧((b.toNat:Int)==62)=true∧b=62):=by
   by_cases h0:b0=45
   ·subst h0;by_cases h1:b1=45
    ·subst h1;by_cases n:b=62
     ·subst n;exact aU (aU (aU ⟨rfl,rfl,rfl,rfl,rfl,rfl⟩))
     ·exact aU (aU (aG ⟨rfl,rfl,rfl,rfl,eS n rfl,n⟩))
    ·exact aU (aG ⟨rfl,rfl,eS h1 rfl,h1⟩)
   ·exact aG ⟨eS h0 rfl,h0⟩
  rcases a3 with ⟨c0,c0'⟩|⟨c0,c0',c1,c1'⟩|⟨c0,c0',c1,c1',c2,c2'⟩|⟨c0,c0',c1,c1',c2,c2'⟩;case inr.inr.inr=>
   have A:=Lh (show cY x.o.fails rest 0 0=.ok r by rw [m.o];unfold cY;rw [aY ⟨c0',c1',c2'⟩]);have V:=Lh (fV x X.o.toOk c w7 Z r none a z.o 32 (by have:=HL.o;omega));(repeat revert K);refine vS ?_;intro K hK;refine V.o.mono ?_;rintro e8 w8 ⟨rfl,v8,⟨h8,a6,R⟩,_⟩;have a2:=Lh (j.o.trans R);have a1:=Lh h8;clear h8 a6 R V;revert K;refine vS ?_;refine Qk [0,21,22] fun f=>?_;exact a0.o r A.o f w8 v8 a1.o a2.o
  all_goals
   have aA:=Lh (show ¬ (b0=45∧b1=45∧b=62) by first|exact fun L=>c0' L.1|exact fun L=>c1' L.2.1|exact fun L=>c2' L.2.2);(repeat revert K);refine vS ?_;intro K hK;refine Kk [0,21,22,26,27] fun f=>?_;refine aC.o _ _ ⟨r.length,by rw [HK.o];simp,HJ.o _ _ _ ⟨f,Z,r,b1,b,none,by first|rfl|(subst c1';rfl),z.o,j.o,rfl,?_⟩⟩;rw [m.o];conv=>lhs;unfold cY
   rw [aQ aA.o]
abbrev DN:Bs:=[33,45,45]
abbrev An:Value:=.string ⟨#[33,45,45]⟩
theorem R2 (j:Nat) (a:j<3):DN.take j++[DN.getD j 0]=DN.take (j+1):=by
 have:j=0∨j=1∨j=2:=by omega
 rcases this with rfl|rfl|rfl<;>rfl
def YE (x:Cx) (c:DC) (w0:World) (v0:DV) (r:Bs) (e:Bs) (i:Nat) (g b d:Value) (k:Nat) (a:Act) (w:World):Prop:=
 ∃ f v j,a=fr 731 f [(0,bT x),(4,g),(21,b),(22,d),(23,An),(24,.int .i64 (i:Nat)),(25,.int .i64 (j:Nat))]∧cA x c w v r none (e++DN.take j)∧cN x w0 v0 w v∧k=i-j∧j≤i
theorem R3 (x:Cx) (V:x.All) (c:DC) (w:World) (v:DV) (r:Bs) (a:Bs) (U:a.length≤10000000000000) (h:cA x c w v r none a) (i:Nat) (hi:i≤2) (L d:Value) (b:Int) (C:-3000000000≤b) (D:b≤3000000000) (Q:Exit→Act→World→Prop)
  (m:∀ f w' v',cA x c w' v' r none (a++DN.take i)→cN x w v w' v'→Q (.goto 0) (fr 731 f [(0,bT x),(4,L),(21,d),(22,.int .i64 (b+1))]) w') (f:Nat→Value) :
  (dQ 138).wp prog Q (fr 731 f [(0,bT x),(4,L),(21,d),(22,.int .i64 b),(23,An),(24,.int .i64 i)]) w:=by
 have ⟨B,u,H,HL⟩:=kS V m h U;have aA:IntKind.i64.wrap (b+1)=b+1:=by rw [IntKind.wrap_i64];omega
 clear V m h U C D;unfold dQ;conv=>arg 2;whnf
 refine vg ?_;intro K hK;refine cG [0,4,21,22,23,24,25] fun f=>?_;have N:cA x c w v r none (a++DN.take 0):=by rw [show DN.take 0=[] from rfl,List.append_nil];exact H.o
 refine wp_loop_ghost_k (YE x c w v r a i L d (.int .i64 b)) i ⟨f,v,0,rfl,N,cN.refl x w v,rfl,jU _⟩ ?_;clear N;rintro k _ Y ⟨f,X,j,rfl,O,n,T,hj⟩ J K2 R g;have ⟨Z,t,e,HK,M⟩:=pM R g n T O;clear R g n T O;by_cases l:j=i
 ·subst l;have F:¬ ((j:Int)<(j:Int)):=by omega
  revert K;refine vg ?_;refine wp_goto ?_;(try simp only [Exit.then,Exit.inBlock])
  refine Qk [0,4,21,22] fun f=>?_;exact u.o f Y X M.o e.o
 ·have F:(j:Int)<(i:Int):=by omega
  have E:j<3:=by omega
  have S:(j:Int)<3:=by omega
  have a1:(0:Int)≤(j:Int):=by omega
  obtain ⟨p,I⟩:=cK (DN.getD j 0);have a0:∀ h,(⟨#[33,45,45]⟩:ByteArray)[j]'h=p:=by
   intro h;rw [I];exact XZ DN j h
  have aC:IntKind.i64.wrap ((j:Int)+1)=((j+1:Nat):Int):=by rw [IntKind.wrap_i64];omega
  have A:=Lh (show (a++DN.take j)++[p]=a++DN.take (j+1) by rw [rG,I,R2 j E]);have s:=Lh (show j+1≤i by omega);have q:=Lh (fun W=>fV x B.o.toOk c (Y.drewN W) X r none (a++DN.take j) (M.o.drewN B.o.toOk W) p (by have:=HL.o;simp only [fP,pI,f5,List.length_nil];omega));clear I hj hi l;revert K;refine vg ?_;intro K hK K hK;(refine lD [0,0,0,0,0,0,2] [0,1,2,3,4,5,6] ?_;refine vP ?_;repeat with_reducible intro nq)
  refine bI rfl rfl (fun nq K hK=>?_);go_simp;refine (q.o _).mono ?_;rintro e8 w8 ⟨rfl,v8,⟨P,G,o⟩,_⟩;have z:=Lh ((e.o.drawn _).trans o);have y:=Lh P;clear P G o q;go_simp;refine hK.out _ _ ?_;clear hK K;(refine vP ?_;repeat with_reducible intro nq)
  (repeat revert K);refine vg ?_;intro K hK;refine Kk [0,4,21,22,23,24,25] fun f=>?_;refine t.o _ _ ⟨i-(j+1),by rw [HK.o];omega,Z.o _ _ _ ⟨f,v8,j+1,rfl,?_,z.o.drawn _,rfl,s.o⟩⟩;have:=y.o.drewN B.o.toOk nq;rw [A.o] at this;exact this
def eY (f:Bool) (b:UInt8) (d:Int) (a:Bs) (i:Nat) (rest:Bs):Except EK (Bs×Bs):=
 if 3≤i then (match cY f rest 0 0 with
  | .error e=>.error e
  | .ok r4=>eZ f r4 b d (a++[32]))
 else match rest with
  | []=>.error (bY f)
  | c::r=>if c=DN.getD i 0 then eY f b d a (i+1) r else gP f c r b (d+1) ((a++[60])++DN.take i)
termination_by 3-i
theorem KX (f:Bool) (g:Int) (a rest:Bs):gP f 60 rest 0 g a=eY f 0 g a 0 rest:=by
 rw [gP.eq_def];rw [aQ (by decide),aQ (by simp),aQ (by decide),aQ (by decide),aY rfl];unfold eY;rw [aQ (by decide)];cases rest with
 | nil=>rfl
 | cons c1 r1=>
  simp only;by_cases b:c1=33
  ·rw [aY b,aY (by rw [b];rfl)];unfold eY;rw [aQ (by decide)];cases r1 with
   | nil=>rfl
   | cons c2 r2=>
    simp only;by_cases c:c2=45
    ·rw [aY c,aY (by rw [c];rfl)];unfold eY;rw [aQ (by decide)];cases r2 with
     | nil=>rfl
     | cons c3 r3=>
      simp only;by_cases d:c3=45
      ·rw [aY d,aY (by rw [d];rfl)];unfold eY;rw [aY (by decide)];cases i:cY f r3 0 0 with
       | error e=>
        split
        ·rename_i h;simp only [Except.error.injEq] at h;rw [h]
        ·rename_i h;cases h
       | ok r4=>
        split
        ·rename_i h;cases h
        ·rename_i h;simp only [cD] at h;rw [h]
      ·rw [aQ d,aQ (by intro h;exact d h)];simp
    ·rw [aQ c,aQ (by intro h;exact c h)];simp
  ·rw [aQ b,aQ (by intro h;exact b h)];simp
structure GF (x:Cx) (c:DC) (w:World) (v:DV) (R:Except EK (Bs×Bs)) (N m:Nat) (Q:Exit→Act→World→Prop):Prop where
 next:∀ f w' v' a e g d,cA x c w' v' a none d→cN x w v w' v'→R=eZ x.o.fails a e g d→a.length<m→1≤d.length→d.length+a.length≤N→g.natAbs+a.length≤N→Q .normal (fr 731 f [(0,bT x),(21,.int .u8 (UInt8.toNat e)),(22,.int .i64 g)]) w'
 goto:∀ f w' v' b a e g d,cA x c w' v' a none d→cN x w v w' v'→R=gP x.o.fails b a e g d→a.length+1<m→d.length+1+a.length≤N→g.natAbs+1+a.length≤N→Q (.goto 0) (fr 731 f [(0,bT x),(4,.int .u8 (UInt8.toNat b)),(21,.int .u8 (UInt8.toNat e)),(22,.int .i64 g)]) w'
 bad:∀ k,R=.error k→∀ f w' v',iQ x c w' v' k→cN x w v w' v'→Q .ret (fr 731 f [(2,.nilIface),(3,v'.err)]) w'
def YF (x:Cx) (c:DC) (w0:World) (v0:DV) (R:Except EK (Bs×Bs)) (e:Nat) (b:Bs) (d:Int) (k:Nat) (a:Act) (w:World):Prop:=
 ∃ f v rest i,a=fr 731 f [(0,bT x),(21,.int .u8 0),(22,.int .i64 d),(23,An),(24,.int .i64 (i:Nat))]∧cA x c w v rest none (b++[60])∧cN x w0 v0 w v∧k=3-i∧i≤3∧R=eY x.o.fails 0 d b i rest∧i+rest.length=e
theorem KY (x:Cx) (hx:x.All) (c:DC) (V:hY x c) (w:World) (v:DV) (rest:Bs) (g:Bs) (d:Int) (N m:Nat) (hN:N≤2000000000) (h:cA x c w v rest none (g++[60])) (A:g.length+1+rest.length≤N) (hd:d.natAbs+1+rest.length≤N) (hm:rest.length<m) (Q:Exit→Act→World→Prop)
  (hQ:GF x c w v (eY x.o.fails 0 d g 0 rest) N m Q) (f:Nat→Value) :
  (dQ 130).wp prog Q (fr 731 f [(0,bT x),(21,.int .u8 0),(22,.int .i64 d)]) w:=by
 have ⟨HX,HD,HQ,H,s,t⟩:=gT hx V hQ h A hd;have ⟨HM,HN⟩:=cB hm hN;clear hx V hQ h A hd hm hN;unfold dQ;conv=>arg 2;whnf
 refine vg ?_;intro K hK;refine cG [0,21,22,23,24] fun f=>?_;refine wp_loop_ghost_k (YF x c w v (eY x.o.fails 0 d g 0 rest) rest.length g d) 3 ⟨f,v,rest,0,rfl,H.o,cN.refl x w v,rfl,by omega,rfl,by omega⟩ ?_;rintro k _ w6 ⟨f,v6,j,i,rfl,h6,Z,X,hi,hR,B⟩ J K2 hJ S;have ⟨HJ,aC,u,HK,H6,HR⟩:=gT hJ S Z X h6 hR;have a:=Lh B;clear hJ S Z X h6 hR B;by_cases W:i=3
 ·subst W;have T:eY x.o.fails 0 d g 0 rest=(match cY x.o.fails j 0 0 with
   | .error e=>.error e
   | .ok r4=>eZ x.o.fails r4 0 d (g++[32])):=by rw [HR.o];unfold eY;rw [aY (by decide)]
  have O:=Lh T;clear T;have a3:=Lh (fun Q L U f=>R1 x HX.o c HD.o w6 v6 j g (by have:=s.o;have:=HN.o;omega) H6.o (.int .u8 0) (.int .i64 d) Q L U f);revert K;refine vT 143 ?_;refine cG [0,21,22] fun f=>?_;refine bB (a3.o _ ?_ ?_ f) (by kernel_rfl)
  ·intro r4 M f w' v' Y C;have ⟨E,l⟩:=cB Y C;have I:=jX M;have a0:=Lh (show eY x.o.fails 0 d g 0 rest=eZ x.o.fails r4 0 d (g++[32]) by rw [O.o,M]);have D:=Lh I;clear Y C I M;refine vg ?_;refine HQ.o.next f w' v' r4 0 d (g++[32]) E.o (u.o.trans l.o) a0.o ?_ (by simp) ?_ ?_
   ·have:=D.o;have:=a.o;have:=HM.o;omega
   ·have:=D.o;have:=a.o;have:=s.o;simp only [fP,f5,List.length_nil];omega
   ·have:=D.o;have:=a.o;have:=t.o;omega
  ·intro k X f w' v' z C;have ⟨aA,l⟩:=cB z C;have G:=Lh (show eY x.o.fails 0 d g 0 rest=.error k by rw [O.o,X]);clear z C X;refine vg ?_;exact HQ.o.bad k G.o f w' v' aA.o (u.o.trans l.o)
 ·have I:(i:Int)<3:=by omega
  have a7:i<3:=by omega
  have a9:(0:Int)≤(i:Int):=by omega
  obtain ⟨p,hp⟩:=cK (DN.getD i 0);have bC:∀ h,(⟨#[33,45,45]⟩:ByteArray)[i]'h=p:=by
   intro h;rw [hp];exact XZ DN i h
  have bA:IntKind.i64.wrap ((i:Int)+1)=((i+1:Nat):Int):=by rw [IntKind.wrap_i64];omega
  have ⟨HI,HP⟩:=cB hi hp;clear hp hi W;cases j with
  | nil=>
   have q:=Lh (bN x HX.o.toOk c HD.o w6 v6 _ _ H6.o);have G:=Lh (show eY x.o.fails 0 d g 0 rest=.error (bY x.o.fails) by rw [HR.o];unfold eY;rw [aQ (by omega)]);revert K;refine vg ?_;intro K hK K hK K hK K hK K hK;refine q.o.mono ?_;rintro e7 w7 ⟨rfl,v7,z,n,o⟩;have y:=Lh (u.o.s0 o n);obtain ⟨t1,u1,a4⟩:=z.err.iface;have HE:=Lh z;have hc:=z.dec.cell;have hf:=z.dec.frozen;have HU:=Lh a4;clear z o n q;(repeat revert K);refine vS ?_;intro K hK K hK K hK K hK
   ((refine cG [0] fun f=>?_);go_quiet (fail);((repeat revert K);refine vg ?_;intro K hK K hK K hK);refine Qk [2,3] fun f=>?_)
   rw [←HU.o];exact HQ.o.bad _ G.o f _ v7 (HE.o.drewN _) (y.o.drawn _)
  | cons b r=>
   have q:=Lh (bK x HX.o.toOk c HD.o w6 v6 b r _ _ H6.o);revert K;refine vg ?_;intro K hK K hK K hK K hK K hK;refine q.o.mono ?_;rintro e7 w7 ⟨rfl,v7,h7,a2,n,o,a5⟩;have y:=Lh (u.o.s0 o n);have P:=Lh h7;clear h7 a2 n o a5 q;by_cases A:b=p
   ·subst A;have F:=Lh (show eY x.o.fails 0 d g 0 rest=eY x.o.fails 0 d g (i+1) r by rw [HR.o,eY.eq_def,aQ (by omega)];exact aY HP.o);(repeat revert K);refine vS ?_;intro K hK;refine Kk [0,21,22,23,24] fun f=>?_;exact aC.o _ _ ⟨3-(i+1),by rw [HK.o];omega,HJ.o _ _ _ ⟨f,v7,r,i+1,rfl,P.o,y.o,rfl,by omega,F.o,by have:=a.o;simp at this;omega⟩⟩
   ·have a8:((b.toNat:Int)==(p.toNat:Int))=false:=eS A rfl;have a6:((b.toNat:Int) != (p.toNat:Int))=true:=pZ A rfl;have F:=Lh (show eY x.o.fails 0 d g 0 rest=gP x.o.fails b r 0 (d+1) ((g++[60])++DN.take i) by rw [HR.o,eY.eq_def,aQ (by omega)];exact aQ (by rw [←HP.o];exact A));have a1:=Lh (fun Q L f=>R3 x HX.o c w7 v7 r (g++[60]) (by have:=s.o;have:=HN.o;simp only [fP,f5,List.length_nil];omega) P.o i (by omega) (.int .u8 b.toNat) (.int .u8 0) d (by have:=t.o;have:=HN.o;omega) (by have:=t.o;have:=HN.o;omega) Q L f);clear A;go_simp;(repeat revert K);refine vT 138 ?_;intro K hK K hK;refine cG [0,4,21,22,23,24] fun f=>?_;refine bB (a1.o _ ?_ f) (by kernel_rfl);intro f w' v' Y C;have ⟨E,l⟩:=cB Y C;clear Y C;(repeat revert K);refine vg ?_;intro K hK K hK;refine HQ.o.goto f w' v' b r 0 (d+1) _ E.o (y.o.trans l.o) F.o ?_ ?_ ?_
    ·have R:=a.o;have h2:=HM.o;rw [f5] at R;omega
    ·have R:=a.o;have h2:=s.o;rw [f5] at R;simp only [fP,f5,List.length_nil,pI];omega
    ·have R:=a.o;have h2:=t.o;simp only [f5] at R;omega
theorem YG {b c:UInt8} (h:b=c):((b.toNat:Int)==(c.toNat:Int))=true:=by subst h;simp
theorem IY (x:Cx) (hx:x.All) (c:DC) (S:hY x c) (w:World) (v:DV) (b:UInt8) (r:Bs) (g:UInt8) (d:Int) (a:Bs) (N:Nat) (hN:N≤2000000000) (h:cA x c w v r none a) (A:a.length+1+r.length≤N) (B:d.natAbs+1+r.length≤N) (Q:Exit→Act→World→Prop)
  (hQ:GF x c w v (gP x.o.fails b r g d a) N (r.length+1) Q) (f:Nat→Value) :
  (dQ 121).wp prog Q (fr 731 f [(0,bT x),(4,.int .u8 b.toNat),(21,.int .u8 g.toNat),(22,.int .i64 d)]) w:=by
 have W:=Lh (fV x hx.toOk c w v r none a h b (by omega));have ⟨HX,HD,X,L,p,HN⟩:=gT hx S hQ A B hN;have Z:=Lh (show (a++[b]).length=a.length+1 by simp);have T:IntKind.i64.wrap (d-1)=d-1:=by rw [IntKind.wrap_i64];omega
 clear hx S hQ h A B hN;unfold dQ;conv=>arg 2;whnf
 refine vg ?_;intro K hK K hK;refine W.o.mono ?_;rintro e8 w8 ⟨rfl,v8,⟨h8,a1,V⟩,_⟩;have ⟨z,M⟩:=cB V h8;clear h8 a1 V W;have q:=Lh (fun (e:UInt8) (j:Int) (I:gP x.o.fails b r g d a=eZ x.o.fails r e j (a++[b])) (T:j.natAbs+r.length≤N) (f:Nat→Value)=>
  X.o.next f w8 v8 r e j (a++[b]) M.o z.o I (by omega) (by simp) (by have:=L.o;have:=Z.o;omega) T)
 by_cases o:b=g
 ·have t1:=YG o;have y:=Lh (show gP x.o.fails b r g d a=eZ x.o.fails r 0 d (a++[b]) by rw [gP.eq_def,aY o]);clear o;(repeat revert K);refine vS ?_;refine Qk [0,21,22] fun f=>?_;exact q.o 0 d y.o (by have:=p.o;omega) f
 ·have t1:((b.toNat:Int)==(g.toNat:Int))=false:=eS o rfl;by_cases O:g=0
  ·subst O;have a3:=eS (n:=0) o rfl;by_cases u:b=39∨b=34
   ·have y:=Lh (show gP x.o.fails b r 0 d a=eZ x.o.fails r b d (a++[b]) by rw [gP.eq_def,aQ o,aQ (by simp),aY u]);have a0:((b.toNat:Int)==39)=true∨(((b.toNat:Int)==39)=false∧((b.toNat:Int)==34)=true):=by
     rcases u with rfl|rfl
     ·exact aG rfl
     ·exact aU ⟨rfl,rfl⟩
    have l:=Lh (q.o b d y.o (by have:=p.o;omega));clear o u;rcases a0 with t2|⟨t2,t3⟩
    all_goals
     (repeat revert K);refine vS ?_;refine Qk [0,21,22] fun f=>?_;exact l.o f
   ·have t2:=eS (n:=39) (fun hh=>u (aG hh)) rfl;have t3:=eS (n:=34) (fun hh=>u (aU hh)) rfl;by_cases P:b=62
    ·subst P;have y:=Lh (show gP x.o.fails 62 r 0 d a=eZ x.o.fails r 0 (d-1) (a++[62]) by rw [gP.eq_def,aQ o,aQ (by simp),aQ u,aY rfl]);have l:=Lh (q.o 0 (d-1) y.o (by have:=p.o;omega));clear o u;(repeat revert K);refine vS ?_;refine Qk [0,21,22] fun f=>?_;exact l.o f
    ·have t4:=eS (n:=62) P rfl;by_cases Y:b=60
     ·subst Y;have H:=Lh (KX x.o.fails d a r);have a2:=Lh (fun Q hq f=>KY x HX.o c HD.o w8 v8 r a d N (r.length+1) HN.o M.o L.o p.o (by omega) Q hq f);clear o u P;go_simp;(repeat revert K);refine vT 130 ?_;refine cG [0,21,22] fun f=>?_;refine bB (a2.o _ ?_ f) (by kernel_rfl);refine ⟨?_,?_,?_⟩
      ·intro f w' v' i e j m U C I t R A B;have G:=Lh U;have s:=Lh (z.o.trans C);have J:=Lh (show gP x.o.fails 60 r 0 d a=eZ x.o.fails i e j m by rw [H.o,I]);have ⟨F,aA,D,E⟩:=kS t R A B;clear U C I t R A B;refine vg ?_;exact X.o.next f w' v' i e j m G.o s.o J.o F.o aA.o D.o E.o
      ·intro f w' v' b' i e j m U C I t A B;have G:=Lh U;have s:=Lh (z.o.trans C);have J:=Lh (show gP x.o.fails 60 r 0 d a=gP x.o.fails b' i e j m by rw [H.o,I]);have ⟨F,D,E⟩:=kV t A B;clear U C I t A B;refine vg ?_;exact X.o.goto f w' v' b' i e j m G.o s.o J.o F.o D.o E.o
      ·intro k hk f w' v' hE C;have aC:=Lh hE;have s:=Lh (z.o.trans C);have J:=Lh (show gP x.o.fails 60 r 0 d a=.error k by rw [H.o,hk]);clear hE C hk;refine vg ?_;exact X.o.bad k J.o f w' v' aC.o s.o
     ·have t5:=eS (n:=60) Y rfl;have y:=Lh (show gP x.o.fails b r 0 d a=eZ x.o.fails r 0 d (a++[b]) by rw [gP.eq_def,aQ o,aQ (by simp),aQ u,aQ P,aQ Y]);have l:=Lh (q.o 0 d y.o (by have:=p.o;omega));clear o u P Y;(repeat revert K);refine vS ?_;refine Qk [0,21,22] fun f=>?_;exact l.o f
  ·have t2:((g.toNat:Int) != 0)=true:=pZ (c:=0) O rfl;have a4:((g.toNat:Int)==0)=false:=eS (c:=0) O rfl;have y:=Lh (show gP x.o.fails b r g d a=eZ x.o.fails r g d (a++[b]) by rw [gP.eq_def,aQ o,aY O]);clear o O;(repeat revert K);refine vS ?_;refine Qk [0,21,22] fun f=>?_;exact q.o g d y.o (by have:=p.o;omega) f
theorem o7 {p:Nat→Prop} (h:∃ k,p k):∃ k,p k∧∀ j,p j→k≤j:=by
 obtain ⟨k,d⟩:=h;induction k using Nat.strongRecOn with
 | _ k ih=>
  by_cases c:∃ j,j<k∧p j
  ·obtain ⟨j,a,e⟩:=c;exact ih j a e
  ·exact ⟨k,d,fun j a=>Nat.le_of_not_lt fun b=>c ⟨j,b,a⟩⟩
theorem oJ {P:Program} {a:Act} {w:World} {Q:Exit→Act→World→Prop} {c rest:Code} (l:Nat) (J:Nat→Act→World→Prop) (m:findLabel c l=some rest)
  (first:c.wp P (Exit.jump l (fun a w=>∃ k,J k a w) Q) a w)
  (d:∀ k a w,J k a w→rest.wp P (Exit.jump l (fun f w'=>∃ b,b<k∧J b f w') Q) a w):(Code.scope c).wp P Q a w:=by
 classical
 refine wp_scope_jumps l (fun a w=>∃ k,J k a w) (fun a w=>if h:∃ k,J k a w then Classical.choose (o7 h) else 0) m first ?_
 intro a w h;have j:=Classical.choose_spec (o7 h);refine Code.wp_mono ?_ (d _ a w j.1);intro e f w' i;cases e with
 | goto l'=>
  obtain ⟨o,b,n,g⟩:=i;refine ⟨o,⟨b,g⟩,?_⟩;rw [dif_pos (show ∃ k,J k f w' from ⟨b,g⟩),dif_pos h];exact Nat.lt_of_le_of_lt ((Classical.choose_spec (o7 (show ∃ k,J k f w' from ⟨b,g⟩))).2 b g) n
 | _=>exact i
def lS (o:cV) (b:UInt8) (r:Bs):Except EK (aP×Bs):=
 match eZ o.fails r 0 0 [b] with
 | .error e=>.error e
 | .ok (d,r2)=>.ok (.dir d,r2)
def YH (x:Cx) (c:DC) (w0:World) (v0:DV) (R:Except EK (Bs×Bs)) (k:Nat) (a:Act) (w:World):Prop:=
 ∃ f v rest d e b,a=fr 731 f [(0,bT x),(21,.int .u8 (UInt8.toNat d)),(22,.int .i64 e)]∧cA x c w v rest none b∧cN x w0 v0 w v∧k=rest.length ∧
  R=eZ x.o.fails rest d e b∧1≤b.length∧b.length+rest.length≤1100000000∧e.natAbs+rest.length≤1100000000
def YI (x:Cx) (c:DC) (w0:World) (v0:DV) (R:Except EK (Bs×Bs)) (m:Nat) (k:Nat) (a:Act) (w:World):Prop:=
 ∃ f v b rest e g d,a=fr 731 f [(0,bT x),(4,.int .u8 (UInt8.toNat b)),(21,.int .u8 (UInt8.toNat e)),(22,.int .i64 g)]∧cA x c w v rest none d∧cN x w0 v0 w v∧k=rest.length∧rest.length<m ∧
  R=gP x.o.fails b rest e g d∧d.length+1+rest.length≤1100000000∧g.natAbs+1+rest.length≤1100000000
theorem VW (x:Cx) (hx:x.All) (c:DC) (a8:hY x c) (w:World) (v:DV) (b:UInt8) (rest:Bs) (a2:Bs) (h:cA x c w v rest none a2) (Q:Exit→Act→World→Prop)
  (hQ:∀ f w' t e,kJ x c w v (lS x.o b rest) t e w'→Q .ret (fr 731 f [(2,t),(3,e)]) w') (f:Nat→Value) :
  (dQ 113).wp prog Q (fr 731 f [(0,bT x),(4,.int .u8 b.toNat)]) w:=by
 have b1:=Lh (oU x hx.toOk c w v rest none a2 h);have ⟨S,HD,HQ⟩:=kV hx a8 hQ;have aC:=Lh (show rest.length≤1000000000 from fQ (h.suf.length_le) hx.len);clear hx a8 hQ h;unfold dQ;conv=>arg 2;whnf
 refine vg ?_;intro K hK K hK;refine b1.o.mono ?_;rintro e1 w1 ⟨rfl,v1,U,c6,a5,bA,c9⟩;have a0:=Lh (cN.ofS0 bA a5);have b5:=Lh (fV x S.o.toOk c w1 v1 rest none [] U b (by simp));clear U c6 a5 bA c9 b1;(repeat revert K);refine vS ?_;intro K hK K hK;refine b5.o.mono ?_;rintro e2 w2 ⟨rfl,v2,⟨V,c7,b2⟩,_⟩;have c3:=Lh (a0.o.trans b2);have C:=Lh (show cA x c w2 v2 rest none [b] from V);clear V c7 b2 b5 a0;(repeat revert K);refine vS ?_;intro K hK;refine cG [0,21,22] fun f=>?_;refine wp_loop_ghost_k (YH x c w v (eZ x.o.fails rest 0 0 [b])) rest.length ⟨f,v2,rest,0,0,[b],rfl,C.o,c3.o,rfl,rfl,by simp,by have:=aC.o;simp;omega,by have:=aC.o;simp;omega⟩ ?_;rintro k _ w6 ⟨f,v6,G,n,T,bf,rfl,h6,b3,W,z,q,A,s⟩ J K2 hJ a3;have ⟨HJ,Y,a1,HK,H6,HR⟩:=gT hJ a3 b3 W h6 z;have ⟨b6,cT,c1⟩:=kV q A s;clear hJ a3 b3 W h6 z q A s;refine wp_block ?_;refine oJ (rest:=.seq .skip (dQ 121)) 0 (YI x c w v (eZ x.o.fails rest 0 0 [b]) G.length) (by kernel_rfl) ?_ ?_
 ·cases G with
  | nil=>
   have E:=Lh (bN x S.o.toOk c HD.o w6 v6 _ _ H6.o);have c2:=Lh (show lS x.o b rest=.error (bY x.o.fails) by unfold lS;rw [HR.o];unfold eZ;rfl);revert K;refine vg ?_;intro K hK K hK K hK K hK;refine E.o.mono ?_;rintro e7 R ⟨rfl,O,H,p,D⟩;have m:=Lh (a1.o.s0 D p);obtain ⟨t1,u1,c8⟩:=H.err.iface;have HE:=Lh H;have hc:=H.dec.cell;have hf:=H.dec.frozen;have HU:=Lh c8;clear H D p E;(repeat revert K);refine vS ?_;intro K hK K hK K hK;refine cG [0] fun f=>?_;go_quiet (fail);(repeat revert K);refine vg ?_;intro K hK K hK;simp only [Exit.jump];(repeat revert K);refine vg ?_;intro K hK K hK;refine Qk [2,3] fun f=>?_;exact HQ.o f _ _ _ ⟨O,m.o.drawn _,by rw [c2.o];exact ⟨rfl,HU.o.symm,HE.o.drewN _⟩⟩
  | cons d r=>
   have E:=Lh (bK x S.o.toOk c HD.o w6 v6 d r _ _ H6.o);revert K;refine vg ?_;intro K hK K hK K hK K hK;refine E.o.mono ?_;rintro e7 R ⟨rfl,O,h7,bC,p,D,dI⟩;have m:=Lh (a1.o.s0 D p);have ⟨o,b9⟩:=cB h7 bC;clear h7 bC p D dI E;by_cases B:n=0∧d=62∧T=0
   ·obtain ⟨rfl,rfl,rfl⟩:=B;have aA:=Lh (show lS x.o b rest=.ok (.dir bf,r) by unfold lS;rw [HR.o];unfold eZ;rw [aY ⟨rfl,rfl,rfl⟩]);have b0:bf≠[]:=by have:=b6.o;intro hh;rw [hh] at this;simp at this
    obtain ⟨g,d0,hv,d2,d1,M⟩:=o.o.chop b0 0;have a6:=Lh (l8 x c R O r none _ o.o);rw [hv] at a6;have X:=Lh M;clear b0 hv M;(repeat revert K);refine vS ?_;intro K hK K hK;simp only [Exit.jump];(repeat revert K);refine vg ?_;intro K hK K hK;refine a6.o.mono ?_;rintro e9 w9 ⟨rfl,kk,rfl⟩;(repeat revert K);refine vS ?_;refine Qk [2,3] fun f=>?_;refine HQ.o f _ _ _ ⟨O,m.o.drawn _,?_⟩;rw [aA.o];have s:=X.o (R.drewN kk) ⟨rfl,rfl,rfl,dF _,fun _ _=>rfl⟩;rw [Nat.sub_zero,List.take_length] at s;exact ⟨rfl,none,_,o.o.drewN S.o.toOk _,⟨_,rfl,s⟩,aG rfl,b9.o⟩
   ·have C:=Lh (show eZ x.o.fails rest 0 0 [b]=gP x.o.fails d r n T bf by rw [HR.o,eZ.eq_def];exact aQ B);have P:=Lh (fun Q hq f=>IY x S.o c HD.o R O d r n T bf 1100000000 (by omega) o.o (by have:=cT.o;simp only [f5] at this;omega) (by have:=c1.o;simp only [f5] at this;omega) Q hq f);have c5:(((n.toNat:Int)==0)=false∧((n.toNat:Int) != 0)=true)∨(((n.toNat:Int)==0)=true∧((d.toNat:Int)==62)=false)∨(((n.toNat:Int)==0)=true∧((d.toNat:Int)==62)=true∧(T==0)=false):=by
     by_cases h0:n=0
     ·by_cases U:d=62
      ·refine aU (aU ⟨by subst h0;rfl,by subst U;rfl,?_⟩);have V:T≠0:=fun V=>B ⟨h0,U,V⟩;simpa using V
      ·exact aU (aG ⟨by subst h0;rfl,eS U rfl⟩)
     ·exact aG ⟨eS (c:=0) h0 rfl,pZ (c:=0) h0 rfl⟩
    have Z:Hx (∀ Q',(∀ f w' v' a j l i,cA x c w' v' a none i→cN x w v w' v'→eZ x.o.fails rest 0 0 [b]=eZ x.o.fails a j l i→a.length<(d::r).length→1≤i.length→i.length+a.length≤1100000000→l.natAbs+a.length≤1100000000→Q' .normal (fr 731 f [(0,bT x),(21,.int .u8 (UInt8.toNat j)),(22,.int .i64 l)]) w') →
      (∀ f w' v' L a j l i,cA x c w' v' a none i→cN x w v w' v'→eZ x.o.fails rest 0 0 [b]=gP x.o.fails L a j l i→a.length<(d::r).length→i.length+1+a.length≤1100000000→l.natAbs+1+a.length≤1100000000→Q' (.goto 0) (fr 731 f [(0,bT x),(4,.int .u8 (UInt8.toNat L)),(21,.int .u8 (UInt8.toNat j)),(22,.int .i64 l)]) w') →
      (∀ f w' t e,kJ x c w v (lS x.o b rest) t e w'→Q' .ret (fr 731 f [(2,t),(3,e)]) w')→GF x c R O (gP x.o.fails d r n T bf) 1100000000 (r.length+1) Q'):=by
     intro Q' q1 q2 q3;refine ⟨?_,?_,?_⟩
     ·intro f w' v' a j l i F y z u q A s;exact q1 f w' v' a j l i F (m.o.trans y) (by rw [C.o,z]) (by simp;omega) q A s
     ·intro f w' v' L a j l i F y z u A s;exact q2 f w' v' L a j l i F (m.o.trans y) (by rw [C.o,z]) (by simp;omega) A s
     ·intro k W f w' v' H y;exact q3 f w' _ _ ⟨v',m.o.trans y,by unfold lS;rw [C.o,W];exact ⟨rfl,rfl,H⟩⟩
    clear B;rcases c5 with ⟨t1,t2⟩|⟨t1,t2⟩|⟨t1,t2,t3⟩
    all_goals
     go_simp;(repeat revert K);refine vT 121 ?_;intro K hK;refine cG [0,4,21,22] fun f=>?_;have dT:=Lh (show (UInt8.toNat 62:Int)=62 from rfl);refine bB (P.o _ (Z.o _ ?_ ?_ ?_) f) (by kernel_rfl)
     ·intro f w' v' a j l i F y z u q A s;simp only [Exit.jump,Exit.inBlock,Exit.then];exact Y.o _ _ ⟨a.length,by rw [HK.o];exact u,HJ.o _ _ _ ⟨f,v',a,j,l,i,rfl,F,y,rfl,z,q,A,s⟩⟩
     ·intro f w' v' L a j l i F y z u A s;exact ⟨rfl,a.length,f,v',L,a,j,l,i,rfl,F,y,rfl,u,z,A,s⟩
     ·intro f w' t e hP;simp only [Exit.jump,Exit.inBlock,Exit.then];exact HQ.o f w' t e hP
 ·rintro k2 _ R ⟨f,O,d,r,j,l,c4,rfl,h7,b4,a9,N,a4,p,a7⟩;have ⟨m,o,I,b7⟩:=kS b4 a4 N a9;have P:=Lh (fun Q hq f=>IY x S.o c HD.o R O d r j l c4 1100000000 (by omega) h7 p a7 Q hq f);clear h7 b4 a9 N a4 p a7;refine wp_seq_k (fun K hK=>?_);refine wp_skip ?_;refine hK _ _ ?_;clear hK K;refine P.o _ ?_ f;refine ⟨?_,?_,?_⟩
  ·intro f w' v' a j l i F y z u q A s;simp only [Exit.jump,Exit.inBlock,Exit.then];exact Y.o _ _ ⟨a.length,by rw [HK.o];have:=I.o;omega,HJ.o _ _ _ ⟨f,v',a,j,l,i,rfl,F,m.o.trans y,rfl,by rw [o.o,z],q,A,s⟩⟩
  ·intro f w' v' L a j l i F y z u A s;exact ⟨rfl,a.length,by rw [b7.o];omega,f,v',L,a,j,l,i,rfl,F,m.o.trans y,rfl,by have:=I.o;omega,by rw [o.o,z],A,s⟩
  ·intro k W f w' v' H y;simp only [Exit.jump,Exit.inBlock,Exit.then];exact HQ.o f w' _ _ ⟨v',m.o.trans y,by unfold lS;rw [o.o,W];exact ⟨rfl,rfl,H⟩⟩
end Go.Proofs.YthapcchcahnfaaaGreatDoor
