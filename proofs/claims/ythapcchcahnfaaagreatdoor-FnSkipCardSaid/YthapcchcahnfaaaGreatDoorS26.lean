/- Part of the proof that laws.FnSkip returns true for every argument. No conditions. -/
import Derived.Test.YthapcchcahnfaaaGreatDoorS02
import Derived.Test.YthapcchcahnfaaaGreatDoorS19
import Derived.Test.YthapcchcahnfaaaGreatDoorS21
set_option linter.all false
set_option maxHeartbeats 8000000
set_option maxRecDepth 100000
namespace Go.Proofs.YthapcchcahnfaaaGreatDoor
open Go
theorem K4 {o:cV} (e:o.ents=none) (q:Option UInt8) (g:Bool):∀ (n:Nat) (rest:Bs),rest.length≤n→∀ (b0 b1:UInt8) (a d r:Bs),bF o q g rest b0 b1 a=.ok (d,r)→d.length≤a.length+8*rest.length:=by
 intro n;induction n with
 | zero=>
  intro rest f b0 b1 a d r h;have:rest=[]:=wC (by omega);subst this;unfold bF at h;split at h
  ·cases h
  ·split at h
   ·simp only [cD,b8] at h;rw [←h.1];omega
   ·cases h
 | succ n ih=>
  intro rest f b0 b1 a d r h;cases rest with
  | nil=>
   unfold bF at h;split at h
   ·cases h
   ·split at h
    ·simp only [cD,b8] at h;rw [←h.1];omega
    ·cases h
  | cons b t=>
   have k:t.length≤n:=by simp at f;omega
   simp only [f5];unfold bF at h;split at h
   ·split at h
    ·split at h
     ·simp only [cD,b8] at h;rw [←h.1,pI];omega
     ·cases h
    ·cases h
   ·split at h
    ·split at h
     ·split at h
      ·simp only [cD,b8] at h;rw [←h.1];omega
      ·cases h
     ·cases h
    ·split at h
     ·split at h
      ·simp only [cD,b8] at h;rw [←h.1];omega
      ·cases h
     ·split at h
      ·split at h
       ·cases h
       ·rename_i c;have j:=fF (lH c);rw [e] at c;have i:=GA c;have:=ih _ (by omega) _ _ _ _ _ h;rw [fP] at this;omega
       ·rename_i c;have j:=fF (lH c);have i:=pX c;split at h
        ·cases h
        ·have:=ih _ (by omega) _ _ _ _ _ h;rw [fP] at this;omega
      ·have:=ih _ k _ _ _ _ _ h;split at this
       ·rw [fP] at this;simp at this;omega
       ·split at this
        ·omega
        ·rw [fP] at this;simp at this;omega
theorem B3 (s:Bs):(dX s).1.length≤s.length∧(dX s).2.length≤s.length:=by
 unfold dX;split
 ·simp
 ·rename_i b a h;have d:a.length≤s.length:=by
   have c:=(List.dropWhile_suffix (fun x:UInt8=>x != 58) (l:=s)).length_le;rw [h] at c;simp at c;omega
  have e:=(List.takeWhile_prefix (fun x:UInt8=>x != 58) (l:=s)).length_le;split
  ·simp
  ·exact ⟨e,d⟩
theorem sB {f:Bool} {l r:Bs} {nm:Bs×Bs} (h:cL f l=.ok (nm,r)):nm.1.length≤l.length∧nm.2.length≤l.length:=by
 obtain ⟨s,b,_,rfl⟩:=oP h;obtain ⟨c,_⟩:=CU b;have a:=oO l;rw [c] at a;have d:s.length≤l.length:=by rw [←a];simp
 have:=B3 s;omega
def zJ (N:Nat) (a:cO):Prop:=a.1.length≤N∧a.2.1.length≤N∧a.2.2.length≤8*N
theorem DR {o:cV} (a:o.ents=none) {l d r:Bs} (h:dY o l=.ok (d,r)):d.length≤8*l.length:=by
 unfold dY at h;split at h
 ·cases h
 ·rename_i q t;split at h
  ·have:=K4 a _ _ t.length t (dF _) _ _ _ _ _ h;simp at this ⊢;omega
  ·split at h
   ·cases h
   ·split at h
    ·cases h
    ·simp only [cD] at h;have:=uU (q::t);rw [h] at this;have:=congrArg List.length this;simp at this ⊢;omega
theorem OD {o:cV} (d:o.ents=none) {l:Bs} {a:cO} {r:Bs} (h:gF o l=.ok (a,r)):zJ l.length a:=by
 unfold gF at h;split at h
 ·cases h
 ·rename_i nm j e;have c:=sB e;have n:=fF (jK e).1;have f:=fF (eO j);split at h
  ·cases h
  ·rename_i b k g;rw [g] at f;simp only [f5] at f;split at h
   ·split at h
    ·cases h
    ·rename_i v q i;simp only [cD,b8] at h;obtain ⟨rfl,_⟩:=h;have m:=DR d i;have p:=fF (eO k);exact ⟨c.1,c.2,by simp only;omega⟩
   ·split at h
    ·cases h
    ·simp only [cD,b8] at h;obtain ⟨rfl,_⟩:=h;exact ⟨c.1,c.2,by simp only;omega⟩
theorem zJ.mono {N M:Nat} {a:cO} (h:zJ N a) (e:N≤M):zJ M a:=by
 obtain ⟨b,c,d⟩:=h;exact ⟨by omega,by omega,by omega⟩
theorem AG {o:cV} (d:o.ents=none) (N:Nat):∀ {k:Nat} {rest:Bs} {acc c:List cO} {em:Bool} {r:Bs},dL o k rest acc=.ok (c,em,r)→rest.length≤N→(∀ a∈acc,zJ N a)→∀ a∈c,zJ N a
 | 0,_,_,_,_,_,h,_,_=>by unfold dL at h;cases h
 | k+1,rest,acc,c,em,r,h,q,f=>by
  unfold dL at h;have n:=fF (eO rest);split at h
  ·cases h
  ·rename_i b s l;rw [l] at n;split at h
   ·split at h
    ·cases h
    ·split at h
     ·simp only [cD,b8] at h;rw [←h.1];exact f
     ·cases h
   ·split at h
    ·simp only [cD,b8] at h;rw [←h.1];exact f
    ·split at h
     ·cases h
     ·rename_i a t i;have m:=OD d i;have p:=(nY i).2;refine AG d N h (by omega) (fun j g=>?_);rcases List.mem_append.1 g with e|e
      ·exact f j e
      ·simp at e;subst e;exact m.mono (by omega)
def zM (N:Nat):aP→Prop
 | .start nm ats=>nm.1.length≤N∧nm.2.length≤N∧(∀ a∈ats,zJ N a)∧ats.length≤N
 | .fin nm=>nm.1.length≤N∧nm.2.length≤N
 | _=>True
theorem I2 {o:cV} (l:o.ents=none) {s u:St} {t:aP} {N:Nat} (h:fK o s=.ok (t,u)) (j:s.rest.length≤N) (f:∀ nm,s.toClose=some nm→nm.1.length≤N∧nm.2.length≤N) :
  zM N t∧∀ nm,u.toClose=some nm→nm.1.length≤N∧nm.2.length≤N:=by
 unfold fK at h;split at h
 ·cases h
 ·split at h
  ·rename_i nm m;simp only [cD,b8] at h;obtain ⟨rfl,rfl⟩:=h;exact ⟨f nm m,fun nm h=>by cases h⟩
  ·rename_i m;have k:∀ nm,s.toClose=some nm→nm.1.length≤N∧nm.2.length≤N:=f;rw [m] at k;split at h
   ·cases h
   ·rename_i b r E;rw [E] at j;simp only [f5] at j;split at h
    ·split at h
     ·cases h
     ·simp only [cD,b8] at h;obtain ⟨rfl,rfl⟩:=h;exact ⟨trivial,f⟩
    ·split at h
     ·cases h
     ·rename_i c I;simp only [f5] at j;split at h
      ·split at h
       ·cases h
       ·rename_i v p e;simp only [cD,b8] at h;obtain ⟨rfl,rfl⟩:=h;refine ⟨?_,f⟩;unfold m8 at e;split at e
        ·cases e
        ·rename_i nm H g;have:=sB g;split at e
         ·cases e
         ·split at e
          ·simp only [cD,b8] at e;obtain ⟨rfl,_⟩:=e;exact ⟨by omega,by omega⟩
          ·cases e
      ·split at h
       ·split at h
        ·cases h
        ·rename_i v p e;simp only [cD,b8] at h;obtain ⟨rfl,rfl⟩:=h;obtain ⟨_,x,y,rfl⟩:=ID e;exact ⟨trivial,f⟩
       ·split at h
        ·split at h
         ·cases h
         ·rename_i v p e;simp only [cD,b8] at h;obtain ⟨rfl,rfl⟩:=h;obtain ⟨_,D⟩:=zT e;exact ⟨by rcases D with ⟨d,rfl⟩|⟨d,rfl⟩|⟨d,rfl⟩<;>trivial,f⟩
        ·split at h
         ·cases h
         ·rename_i nm w em p e;simp only [cD,b8] at h;obtain ⟨rfl,rfl⟩:=h;have n:=(wX e).2;simp only [f5] at n;unfold fB at e;split at e
          ·cases e
          ·rename_i G H g;have z:=sB g;have A:=(jK g).2;simp only [f5] at z A;split at e
           ·cases e
           ·rename_i q i J B;simp only [cD,b8] at e;obtain ⟨⟨rfl,rfl⟩,rfl,rfl⟩:=e;have C:=AG l N B (by omega) (fun a h=>by cases h);refine ⟨⟨by omega,by omega,C,by omega⟩,fun F h=>?_⟩;cases i
            ·cases h
            ·simp at h;subst h;exact ⟨by omega,by omega⟩
end Go.Proofs.YthapcchcahnfaaaGreatDoor
namespace Go.Proofs.YthapcchcahnfaaaGreatDoor
open Go Go.RowKit
theorem qC (p:Bs) (a:p≠[]):∀ l:Bs,l7 p l=(kT p l).map fun k=>l.drop (k+p.length)
 | []=>by unfold l7 kT;rw [aQ a,aQ a];rfl
 | b::r=>by
  unfold l7 kT;split
  ·simp
  ·rw [qC p a r,Option.map_map]
   congr 1
   funext k
   simp [Nat.succ_add]
theorem DS (c:UInt8):∀ l:Bs,(Lib.indexByte l c=-1∧hZ c l=none)∨∃ j:Nat,Lib.indexByte l c=j∧j<l.length∧hZ c l=some (l.take j)
 | []=>aG ⟨rfl,rfl⟩
 | b::r=>by
  unfold Lib.indexByte hZ;by_cases h:b=c
  ·right;refine ⟨0,?_,by simp,?_⟩
   ·rw [aY (by simpa using h)];rfl
   ·rw [aY h];rfl
  ·have e:(b==c)=false:=by simpa using h
   rw [e,aQ h];rcases DS c r with ⟨a,d⟩|⟨j,a,d,f⟩
   ·left;rw [a,d];exact ⟨rfl,rfl⟩
   ·right;rw [a,f];refine ⟨j+1,?_,by simp;omega,by simp⟩;have:((j:Int) == -1)=false:=by
     rw [lQ];omega
    simp [this]
def YP (p s:Bs) (w0:World) (k:Nat) (a:Act) (w:World):Prop:=
 ∃ f i,a=fr 69 f [(0,aB p),(1,aB s),(5,.int .i64 p.length),(6,.int .i64 (i:Nat)),(7,.int .u8 0)]∧w0=w∧i≤s.length∧k=s.length-i∧eN p s=eN p (s.drop i)
theorem xV (q p:Bs) (l:q++[61]=p) (D:p.length≤100) (s:Bs) (hs:s.length≤1000000000) (w:World) :
  Calls Tryz.prog 72 #[aB q,aB s] w fun A w'=>A=.returned (aB (eN p s))∧w'=w:=by
 have a4:(⟨q.toArray⟩:ByteArray)++⟨#[61]⟩=⟨p.toArray⟩:=by
  rw [←l];apply ByteArray.ext;apply Array.toList_inj.1;simp
 have U:p≠[]:=by rw [←l];simp
 have S:1≤p.length:=by rw [←l];simp
 have aC:¬ 9223372036854775807<q.length+1:=by rw [←l] at D;simp at D;omega
 have ⟨H,aA,Z,X⟩:=kS U D S hs;clear l U S;refine eL 69 Tryz.func72 [_,_] fun f=>?_;simp only [aF];refine vg ?_;intro K hK;refine cG [0,1,5,6,7] fun f=>?_;clear a4 aC;refine wp_loop_ghost_k (YP p s w) s.length ⟨f,0,rfl,rfl,jU _,rfl,by simp⟩ ?_;rintro k _ w6 ⟨f,i,rfl,a7,hi,hk,T⟩ J K2 hJ L;subst a7;have ⟨HJ,Y,HK,t⟩:=kS hJ L hk T;clear hJ L hk T;by_cases b5:i<s.length
 ·have h1:(i:Int)<(s.length:Int):=by omega
  have h0:(0:Int)≤(i:Int):=by omega
  have h2:(i:Int)≤(s.length:Int):=by omega
  have b0:=pT s i;have u:(s.drop i).length=s.length-i:=eC;have P:=Lh (zZ (s.drop i) p w (by omega) (by omega) Z.o);have F:=Lh u;have R:s.drop i≠[]:=by intro h;rw [h] at u;simp at u;omega
  have z:=Lh R;clear u R;revert K;refine vg ?_;intro K hK K hK K hK;refine P.o.mono ?_;rintro e1 w1 ⟨rfl,rfl⟩;clear P;cases x:kT p (s.drop i) with
  | none=>
   have E:uA p (s.drop i)=-1:=by unfold uA;rw [x]
   rw [E];have a:=Lh (show eN p s=[] by
    rw [t.o,eN.eq_def,aQ z.o];split
    ·rfl
    ·rfl
    ·rename_i h;rw [qC p H.o,x] at h;cases h)
   clear x E;(repeat revert K);refine vS ?_;intro K hK K hK;refine cM ?_;exact ⟨by rw [a.o],rfl⟩
  | some j=>
   have E:uA p (s.drop i)=j:=by unfold uA;rw [x]
   rw [E];have C:=BO p (s.drop i) j x;rw [F.o] at C;have b3:¬ ((j:Int)<0):=by omega
   have a5:IntKind.i64.wrap ((p.length:Int)+(j:Int))=((p.length+j:Nat):Int):=by rw [IntKind.wrap_i64];have:=aA.o;have:=X.o;omega
   obtain ⟨m,Q⟩:=cK (p.length+j);rw [←Q] at a5;have o:l7 p (s.drop i)=some ((s.drop i).drop m):=by rw [qC p H.o,x,Q];simp [Nat.add_comm]
   have g:(s.drop i).length=s.length-i:=F.o;have HM:=Lh Q;have b7:m≤s.length-i:=by omega
   by_cases a8:m=s.length-i
   ·have a:=Lh (show eN p s=[] by
     rw [t.o,eN.eq_def,aQ z.o];split
     ·rfl
     ·rfl
     ·rename_i h;rw [o,tW (by rw [g];omega)] at h;cases h)
    have a1:((s.length-i:Nat):Int)≤(m:Int):=by omega
    clear x E o g C Q;(repeat revert K);refine vS ?_;intro K hK K hK;refine cM ?_;exact ⟨by rw [a.o],rfl⟩
   ·have bC:m<s.length-i:=by omega
    obtain ⟨c,hc⟩:=cK ((s.drop i).getD m 0);have d:(s.drop i).drop m=c::s.drop (i+m+1):=by
     rw [hc,List.drop_drop];have h3:i+m<s.length:=by omega
     rw [CN h3]
     congr 1
     simp [rF,List.getElem?_drop,h3]
    have a1:¬ ((s.length-i:Nat):Int)≤(m:Int):=by omega
    have a9:(m:Int)<((s.length-i:Nat):Int):=by omega
    have b6:(0:Int)≤(m:Int):=by omega
    have bA:∀ h,(⟨(s.drop i).toArray⟩:ByteArray)[m]'h=c:=by
     intro h;rw [hc];exact XZ (s.drop i) m h
    have b9:IntKind.i64.wrap ((m:Int)+1)=(m:Int)+1:=by rw [IntKind.wrap_i64];have:=X.o;omega
    have a6:IntKind.i64.wrap ((i:Int)+((m:Int)+1))=((i+m+1:Nat):Int):=by rw [IntKind.wrap_i64];have:=X.o;omega
    have I:=Lh (show eN p s=if c=39∨c=34 then (hZ c (s.drop (i+m+1))).getD [] else eN p (s.drop (i+m+1)) by
     rw [t.o,eN.eq_def,aQ z.o];split
     ·rename_i h;rw [o] at h;cases h
     ·rename_i h;rw [o,d] at h;cases h
     ·rename_i c' t' h;rw [o,d] at h;simp only [jW,List.cons.injEq] at h;obtain ⟨rfl,rfl⟩:=h;rfl)
    have y:=Lh (show i+m+1≤s.length by omega);clear x E o g C Q d hc;have a2:=pT s (i+m+1);by_cases l:c=39∨c=34
    ·have a0:((c.toNat:Int)==39)=true∨(((c.toNat:Int)==39)=false∧((c.toNat:Int)==34)=true):=by
      rcases l with rfl|rfl
      ·exact aG rfl
      ·exact aU ⟨rfl,rfl⟩
     have b1:((c.toNat:Int)==0)=false:=by rcases l with rfl|rfl<;>rfl
     have b:=Lh (show eN p s=(hZ c (s.drop (i+m+1))).getD [] by rw [I.o,aY l]);have B:=Lh (Tryz.strings_IndexByte ⟨(s.drop (i+m+1)).toArray⟩ (c.toNat:Int) w1);have V:=DS c (s.drop (i+m+1));obtain ⟨r,v⟩:=cK (i+m+1);have G:=Lh (show r≤s.length by rw [v];exact y.o);rw [←v] at a6 a2 B V;rw [←v] at b;have M:(c.toNat:Int).toNat.toUInt8=c:=by simp
     have O:=Lh (show Calls Tryz.prog 106 #[.string ⟨(s.drop r).toArray⟩,.int .u8 (c.toNat:Int)] w1 fun e w'=>e=.returned (.int .i64 (Lib.indexByte (s.drop r) c))∧w'=w1 by have:=B.o;rw [M] at this;exact this);have c1:(0:Int)≤(r:Int):=by omega
     have c2:(r:Int)≤(s.length:Int):=by have:=G.o;omega
     clear B l v M;rcases a0 with t1|⟨t1,t2⟩
     all_goals
      (repeat revert K);refine vS ?_;intro K hK K hK;refine O.o.mono ?_;rintro e2 w2 ⟨rfl,rfl⟩;rcases V with ⟨u1,u2⟩|⟨W,u1,u2,u3⟩
      ·rw [u1];have a:=Lh (show eN p s=[] by rw [b.o,u2];rfl);clear u1 u2;(repeat revert K);refine vS ?_;intro K hK;refine cM ?_;exact ⟨by rw [a.o],rfl⟩
      ·rw [u1];have a:=Lh (show eN p s=(s.drop r).take W by rw [b.o,u3];rfl);have b4:¬ ((W:Int)<0):=by omega
       rw [eC] at u2;obtain ⟨A,N⟩:=cK (r+W);have cT:IntKind.i64.wrap ((r:Int)+(W:Int))=(A:Int):=by rw [IntKind.wrap_i64];have:=X.o;omega
       have h5:(A:Int)≤(s.length:Int):=by omega
       have h6:(r:Int)≤(A:Int):=by omega
       have h7:(0:Int)≤(A:Int):=by omega
       have b2:(⟨s.toArray⟩:ByteArray).extract r A=⟨((s.drop r).take W).toArray⟩:=by
        rw [N];apply ByteArray.ext
        apply Array.toList_inj.1
        rw [Lib.extract_data];simp
       clear N;clear u1 u2 u3;(repeat revert K);refine vS ?_;refine cM ?_;exact ⟨by rw [a.o],rfl⟩
    ·have t1:=eS (n:=39) (fun h=>l (aG h)) rfl;have t2:=eS (n:=34) (fun h=>l (aU h)) rfl;have b:=Lh (show eN p s=eN p (s.drop (i+m+1)) by rw [I.o,aQ l]);clear l;(repeat revert K);refine vS ?_;intro K hK;refine Kk [0,1,5,6,7] fun f=>?_;refine Y.o _ _ ⟨s.length-(i+m+1),?_,HJ.o _ _ _ ⟨f,i+m+1,rfl,rfl,y.o,rfl,b.o⟩⟩;rw [HK.o];have:=y.o;omega
 ·have a3:i=s.length:=by omega
  subst a3;have h1:¬ ((s.length:Int)<(s.length:Int)):=by omega
  have a:=Lh (show eN p s=[] by rw [t.o,List.drop_length,eN.eq_def,aY rfl]);revert K;refine vg ?_;intro K hK;refine cM ?_;exact ⟨by rw [a.o],rfl⟩
end Go.Proofs.YthapcchcahnfaaaGreatDoor
namespace Go.Proofs.YthapcchcahnfaaaGreatDoor
open Go
def DT:Option aP→Nat
 | none=>0
 | some (.fin _)=>2
 | some t=>4*t.wt+2
def St.mu2 (s:St):Nat:=s.mu+DT s.next
theorem uI {t:aP} (h:∃ nm,t=.fin nm):DT (some t)=2:=by obtain ⟨nm,rfl⟩:=h;rfl
theorem uJ {t:aP} (h:¬ ∃ nm,t=.fin nm):DT (some t)=4*t.wt+2:=by
 cases t with
 | fin nm=>exact absurd ⟨nm,rfl⟩ h
 | _=>rfl
theorem q9 {o:cV} {t e:aP} {s a:St} (h:cI o t s=.ok (e,a)):a.rest=s.rest∧a.next=s.next∧((∃ nm,t=.fin nm)→a.mu+3≤s.mu)∧((¬ ∃ nm,t=.fin nm)→a.mu≤s.mu+4*t.wt):=by
 obtain ⟨w1,k,f,l,m,b,g,i⟩:=sM h;have j:=IE a;refine ⟨w1,f,fun c=>?_,fun c=>?_⟩
 ·have:=g c;unfold St.mu;rw [w1];omega
 ·have:=i c;have d:a.toClose=s.toClose:=by
   rcases b with b|⟨_,b⟩
   ·exact b
   ·exact absurd b c
  unfold St.mu;rw [w1,d];omega
theorem lT {s:St} (h:s.next=none):s.mu2=s.mu:=by unfold St.mu2;rw [h];rfl
theorem xW {fold:Bs → Bs → Bool} {o:cV} {s m:St} {t:aP} (h:stepL fold o s=.ok (t,m)):m.mu2 < s.mu2∧m.rest <:+ s.rest∧(o.raw=true → m.next=s.next):=by
  unfold stepL at h;split at h
  · have w:=(jZ h).2.2.2.1
    exact ⟨by unfold St.mu2;rw [w];have:=(tY h).1;omega,(tY h).2.2.2,fun _=>w⟩
  · rename_i k
    refine ⟨?_,?_,fun x=>absurd x k⟩
    all_goals
      unfold jT at h;cases g:s.next with
      | some f=>
        rw [g] at h;simp only at h;have y:St.mu { s with next:=none }=s.mu:=rfl;split at h
        · obtain ⟨w1,c,d,i⟩:=q9 h
          first
            | (rw [w1];exact List.suffix_refl _)
            | (rw [lT c]
               unfold St.mu2;rw [g];by_cases a:∃ nm,f=.fin nm
               · have:=d a;rw [uI a];omega
               · have:=i a;rw [uJ a];omega)
        · split at h
          · obtain ⟨w1,c,d,i⟩:=q9 h
            first
              | (rw [w1];exact List.suffix_refl _)
              | (rw [lT c]
                 unfold St.mu2;rw [g];by_cases a:∃ nm,f=.fin nm
                 · have:=d a;rw [uI a];omega
                 · have:=i a;rw [uJ a];omega)
          · rename_i nm q
            obtain ⟨w1,c,d,i⟩:=q9 h;have n:=d ⟨nm,rfl⟩;have b:St.mu { ({ s with next:=none }:St) with next:=some f }=s.mu:=rfl
            first
              | (rw [w1];exact List.suffix_refl _)
              | (unfold St.mu2
                 rw [c,g];show _ + DT (some f) < _;rw [b] at n;omega)
      | none=>
        rw [g] at h;simp only at h;cases l:fK o s with
        | error e=>rw [l] at h;cases h
        | ok p=>
          obtain ⟨f,v⟩:=p;rw [l] at h;simp only at h;obtain ⟨z,r,A,u⟩:=tY l;have j:v.next=none:=(jZ l).2.2.2.1.trans g;split at h
          · obtain ⟨w1,c,d,i⟩:=q9 h
            first
              | (rw [w1];exact u)
              | (rw [lT (c.trans j),lT g]
                 by_cases a:∃ nm,f=.fin nm
                 · have:=d a;omega
                 · have:=i a;have:=r a;omega)
          · split at h
            · obtain ⟨w1,c,d,i⟩:=q9 h
              first
                | (rw [w1];exact u)
                | (rw [lT (c.trans j),lT g]
                   by_cases a:∃ nm,f=.fin nm
                   · have:=d a;omega
                   · have:=i a;have:=r a;omega)
            · rename_i nm q
              obtain ⟨w1,c,d,i⟩:=q9 h;have n:=d ⟨nm,rfl⟩;have b:St.mu { v with next:=some f }=v.mu:=rfl
              first
                | (rw [w1];exact u)
                | (rw [lT g]
                   unfold St.mu2;rw [c];show _ + DT (some f) < _;rw [b] at n;by_cases a:∃ nm,f=.fin nm
                   · rw [uI a];omega
                   · have:=r a;rw [uJ a];omega)
theorem vC {o:cV} {t:aP} {s i:St} {nm:Bs×Bs} {f:List cO} (h:cI o t s=.ok (.start nm f,i)):∃ e c,t=.start e c∧f.length=c.length:=by
 cases t with
 | start e c=>
  unfold cI at h;simp only [cD,b8,aP.start.injEq] at h;obtain ⟨⟨_,rfl⟩,_⟩:=h;exact ⟨_,_,rfl,by simp⟩
 | fin e=>
  have:=(sM h).2.2.2.2.1.1 ⟨_,rfl⟩;obtain ⟨_,g⟩:=this;cases g
 | text d=>unfold cI at h;simp at h
 | comment d=>unfold cI at h;simp at h
 | dir d=>unfold cI at h;simp at h
 | proc a b=>unfold cI at h;simp at h
theorem K6 {fold:Bs→Bs→Bool} {o:cV} (v:o.ents=none) {s B:St} {nm:Bs×Bs} {b:List cO} {N:Nat} (h:stepL fold o s=.ok (.start nm b,B)) (z:s.rest.length≤N) (A:∀ nm,s.toClose=some nm→nm.1.length≤N∧nm.2.length≤N) (w:∀ j,s.next=some j→zM N j):b.length≤N:=by
 have c:∀ {t i},fK o s=.ok (t,i)→zM N t:=fun h=>(I2 v h z A).1;have k:∀ {t:aP},zM N t→∀ {f a},t=.start f a→a.length≤N:=by
  rintro t h f a rfl;exact h.2.2.2
 have d:∀ {t:aP} {i m:St},zM N t→cI o t i=.ok (.start nm b,m)→b.length≤N:=by
  intro t i m x r;obtain ⟨f,a,u,y⟩:=vC r;rw [y];exact k x u
 have g:∀ {l:Bs×Bs} {i m:St},cI o (.fin l) i=.ok (.start nm b,m)→b.length≤N:=by
  intro l i m r;obtain ⟨f,a,u,_⟩:=vC r;cases u
 unfold stepL at h;split at h
 ·exact k (c h) rfl
 ·unfold jT at h;cases n:s.next with
  | some j=>
   rw [n] at h;simp only at h;split at h
   ·exact d (w j n) h
   ·split at h
    ·exact d (w j n) h
    ·exact g h
  | none=>
   rw [n] at h;simp only at h;cases q:fK o s with
   | error e=>rw [q] at h;cases h
   | ok p=>
    obtain ⟨j,i⟩:=p;rw [q] at h;simp only at h;split at h
    ·exact d (c q) h
    ·split at h
     ·exact d (c q) h
     ·exact g h
def V2:cV:=⟨false,true,none,[],[],false⟩
end Go.Proofs.YthapcchcahnfaaaGreatDoor
