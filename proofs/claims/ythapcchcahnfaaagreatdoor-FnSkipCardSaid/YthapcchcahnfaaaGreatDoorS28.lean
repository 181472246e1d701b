/- Part of the proof that laws.FnSkip returns true for every argument. No conditions. -/
import Derived.Test.YthapcchcahnfaaaGreatDoorS22
import Derived.Test.YthapcchcahnfaaaGreatDoorS26
import Derived.Test.YthapcchcahnfaaaGreatDoorS27
import Derived.Test.YthapcchcahnfaaaGreatDoorS25
import Derived.Test.YthapcchcahnfaaaGreatDoorS20
set_option linter.all false
set_option maxHeartbeats 8000000
set_option maxRecDepth 100000
namespace Go.Proofs.YthapcchcahnfaaaGreatDoor
open Go Go.RowKit Go.Proofs.Tryz
abbrev uL:Bs:=[120,109,108]
theorem DZ (m:ByteArray) (w:World):Calls prog 73 #[.string m] w fun e w'=>∃ a:Addr,e=.returned (m9 a)∧w.heap.size≤a.block∧Below w.heap.size w w'∧∃ cs t,aL w' a.block cs t:=by
 refine eL 7 func73 [_] fun f=>?_;simp only [aF];refine vg ?_;refine cM ?_;exact ⟨⟨w.heap.size,0,none⟩,rfl,dF _,(Below.refl _ w).alloc (dF _) _,_,_,aL.new w _ _⟩
theorem cA.oth {x:Cx} (g:x.Ok) {c:DC} {w w':World} {v:DV} {rest:Bs} {e:Option EK} {d:Bs} (h:cA x c w v rest e d) (b:Below w.heap.size w w') (a:Addr) (f:w.heap.size ≤ a.block) :
    bR w' x.d c v∧iQ x c (w'.setCell ⟨x.d,20,none⟩ (m9 a)) { v with err:=m9 a } .other∧cN x w v (w'.setCell ⟨x.d,20,none⟩ (m9 a)) { v with err:=m9 a }:=
  ⟨aL.mod (S:=fun _=>False) h.dec (aH b _) id,
   ⟨(aJ.below h.base h.base.size (aH b (fun _=>False)) (fun _ h=>h.elim)).setCell g.d _,(show aL _ x.d _ _ from aL.mod (S:=fun _=>False) h.dec (aH b _) id).set 20 _,⟨a,rfl,fQ h.base.size f⟩⟩,
   (cN.refl x w v).syn b _⟩
def kL (w:World) (e:Value) (k:EK):Prop:=k=.other→∃ a cs t,e=m9 a∧aL w a.block cs t
theorem kL.no {w:World} {e:Value} {k:EK} (h:k≠.other):kL w e k:=fun a=>absurd a h
def iC (x:Cx) (c:DC) (w:World) (v:DV) (R:Except EK (aP×Bs)) (t e:Value) (w':World):Prop:=kJ x c w v R t e w'∧∀ k,R=.error k→kL w' e k
theorem kJ.o {x:Cx} {c:DC} {w:World} {v:DV} {R:Except EK (aP×Bs)} {t e:Value} {w':World} (h:kJ x c w v R t e w') (d:sJ R):iC x c w v R t e w':=
 ⟨h,fun k b=>kL.no (fun a=>by subst a;exact d b)⟩
def oK (o:cV) (a d r:Bs):Except EK (aP×Bs):=if a=uL∧A8 d=false then .error .other else .ok (.proc a d,r)
theorem rM {s p:Bs} (h:¬ s=p):(s==p)=false∧(s != p)=true:=by
 have a:(s==p)=false:=by simpa using h
 exact ⟨a,by simp [h]⟩
theorem D0 (c:UInt8):∀ (l r:Bs),hZ c l=some r→r.length≤l.length
 | [],r,h=>by unfold hZ at h;cases h
 | b::l,r,h=>by
  unfold hZ at h;split at h
  ·simp only [jW] at h;subst h;simp
  ·rw [Option.map_eq_some_iff] at h;obtain ⟨q,a,rfl⟩:=h;have:=D0 c l q a;simp;omega
theorem GH (p:Bs):∀ (n:Nat) (s:Bs),s.length≤n→(eN p s).length≤s.length:=by
 intro n;induction n with
 | zero=>
  intro s b;have:s=[]:=wC (by omega);subst this;rw [eN.eq_def,aY rfl];simp
 | succ n ih=>
  intro s b;rw [eN.eq_def];split
  ·simp
  ·split
   ·simp
   ·simp
   ·rename_i c t h;have a:=pN h;simp only [f5] at a;split
    ·cases d:hZ c t with
     | none=>simp
     | some q=>have:=D0 c t q d;simp;omega
    ·have:=ih t (by omega);omega
theorem K8 (w:World):(binOp .eql 76 .nilFunc .nilFunc).run prog w=.ok (.bool true) w:=by kernel_rfl
theorem V6 (x:Cx) (hx:x.All) (a2:kK x.W0) (a3:3<x.B) (c:DC) (w:World) (v:DV) (r:Bs) (b:Bs) (h:cA x c w v r none b) (a9:v.nb=-1) (G d:Bs) (g l:Nat) (X:bJ w g 0 d) (hl:d.length≤1000000000) (a5:d.length≤l) (a6:l≤9223372036854775807) (n:Nat) (W:v.bufv=.slice (some ⟨g,0,none⟩) n l)
  (Q:Exit→Act→World→Prop) (hQ:∀ f w' t e,iC x c w v (oK x.o G d r) t e w'→Q .ret (fr 731 f [(2,t),(3,e)]) w') (f:Nat→Value) :
  (dQ 54).wp prog Q (fr 731 f [(0,bT x),(8,aB G),(10,.slice (some ⟨g,0,none⟩) d.length l)]) w:=by
 have ⟨HX,N,H,c2⟩:=kS hx hQ h W;have b1:=Lh (show ∀ w',Below x.B x.W0 w'→kK w' from fun w' F=>a2.below F);have b3:=Lh (fun w' (F:Below x.B x.W0 w')=>hx.toFit.tabs F);have a1:=Lh (show ∀ w',Below w.heap.size w w'→mV w' v.bufv (.slice (some ⟨g,0,none⟩) d.length l) d from fun w' F=>⟨g,l,n,rfl,W,X.below F,a5,a6⟩);have b9:=uG d w g 0 l X;have ⟨HL,b2⟩:=cB hl a9;clear hx a2 a3 hQ h X W hl a5 a6 a9
 have j:=Lh (show ∀ w',Below w.heap.size w w'→oK x.o G d r=.ok (.proc G d,r)→iC x c w v (oK x.o G d r) (UT G (.slice (some ⟨g,0,none⟩) d.length l)) .nilIface w' from
  fun w' F he=>⟨⟨v,(cN.refl x w v).below F,by rw [he];exact ⟨rfl,none,b,H.o.below HX.o.toOk F,⟨_,rfl,a1.o w' F⟩,aG rfl,b2.o⟩⟩,fun k hk=>by rw [he] at hk;cases hk⟩)
 unfold dQ;conv=>arg 2;whnf
 by_cases u:G=uL
 ·subst u;have hv:=Lh (xV [118,101,114,115,105,111,110] QZ rfl (by decide) d HL.o w);have he:=Lh (xV [101,110,99,111,100,105,110,103] MJ rfl (by decide) d HL.o w);refine vg ?_;intro K hK K hK K hK;refine hv.o.mono ?_;rintro e1 w1 ⟨rfl,rfl⟩;obtain ⟨a,E⟩:=cK (eN QZ d);obtain ⟨enc,s⟩:=cK (eN MJ d);have z:=Lh (show oK x.o uL d r=if (a==[]||a==[49,46,48])&&(enc==[]||pO enc) then .ok (.proc uL d,r) else .error .other by
   unfold oK A8;rw [←E,←s];cases ((a==[]||a==[49,46,48])&&(enc==[]||pO enc))<;>simp)
  rw [←E];rw [←s] at he;have L:=Lh (show enc.length≤1000000000 by rw [s];exact fQ (GH MJ d.length d (dF _)) HL.o);clear E s hv b9;by_cases y:a=[]∨a=[49,46,48]
  ·have b0:(a==[]||a==[49,46,48])=true:=by
    rcases y with rfl|rfl<;>rfl
   have b4:=Lh b0;clear b0;have b7:(a=[])∨((a==[])=false∧(a != [])=true∧a=[49,46,48]):=by
    rcases y with rfl|rfl
    ·exact aG rfl
    ·exact aU ⟨rfl,rfl,rfl⟩
   clear y;rcases b7 with rfl|⟨q1,q2,rfl⟩
   all_goals
    (repeat revert K);refine vS ?_;intro K hK K hK K hK;refine he.o.mono ?_;rintro e2 w2 ⟨rfl,rfl⟩;by_cases Z:enc=[]
    ·subst Z;(repeat revert K);refine vS ?_;refine Qk [2,3] fun f=>?_;exact N.o f _ _ _ (j.o _ (Below.refl _ _) (by rw [z.o];rfl))
    ·obtain ⟨n1,n2⟩:=rM Z;by_cases aA:enc=[117,116,102,45,56]
     ·subst aA;(repeat revert K);refine vS ?_;refine Qk [2,3] fun f=>?_;exact N.o f _ _ _ (j.o _ (Below.refl _ _) (by rw [z.o];rfl))
     ·obtain ⟨n3,n4⟩:=rM aA;by_cases aC:enc=[85,84,70,45,56]
      ·subst aC;(repeat revert K);refine vS ?_;refine Qk [2,3] fun f=>?_;exact N.o f _ _ _ (j.o _ (Below.refl _ _) (by rw [z.o];rfl))
      ·obtain ⟨n5,n6⟩:=rM aC;have a7:=Lh (xU enc L.o w2 (b1.o _ H.o.base) (b3.o _ H.o.base));have i:=Lh (show oK x.o uL d r=if pO enc then .ok (.proc uL d,r) else .error .other by rw [z.o,b4.o,n1];simp);clear Z aA aC;(repeat revert K);refine vS ?_;intro K hK K hK K hK;refine a7.o.mono ?_;rintro e3 w3 ⟨rfl,V⟩;have I:=Lh V;have Y:=(H.o.below HX.o.toOk V).dec;have b5:=Y.cell;have cT:=Y.frozen;clear V Y a7;cases a8:pO enc with
       | true=>
        (repeat revert K);refine vS ?_;refine Qk [2,3] fun f=>?_;exact N.o f _ _ _ (j.o _ I.o (by rw [i.o,a8];rfl))
       | false=>
        have D:=Lh (fun m=>DZ m w3);have c3:=fun w=>K8 w;(repeat revert K);refine vS ?_;intro K hK K hK K hK K hK;refine (D.o _).mono ?_;rintro e4 w4 ⟨P,rfl,U,C,R,a0,o⟩;have T:=H.o.below HX.o.toOk I.o;obtain ⟨q,A,B⟩:=T.oth HX.o.toOk C P U;have b6:=q.cell;have c1:=q.frozen;have J:=Lh A;have M:=Lh (show ∀ n,aL ((w4.setCell ⟨x.d,20,none⟩ (m9 P)).drewN n) P.block R a0 from fun n=>aL.mod (S:=fun k=>k=x.d) o (((aJ.refl (fun k=>k=x.d) w4).setCell (p:=⟨x.d,20,none⟩) (aG rfl) _).drewN n) (fun hh=>by have h1:=T.dec.lt;omega));have O:=Lh (((cN.refl x w2 v).below I.o).trans B);clear T q A B C D b5 cT o;(repeat revert K);refine vS ?_;intro K hK K hK K hK
        ((refine cG [0] fun f=>?_);go_quiet (fail);((repeat revert K);refine vg ?_;intro K hK K hK);refine Qk [2,3] fun f=>?_)
        exact N.o f _ _ _ ⟨⟨_,O.o.drawn _,by rw [i.o,a8];exact ⟨rfl,rfl,J.o.drewN _⟩⟩,fun _ _ _=>⟨_,_,_,rfl,M.o _⟩⟩
  ·have bA:¬ a=[]:=fun h=>y (aG h);have bC:¬ a=[49,46,48]:=fun h=>y (aU h);obtain ⟨n1,n2⟩:=rM bA;obtain ⟨n3,n4⟩:=rM bC;have i:=Lh (show oK x.o uL d r=.error .other by rw [z.o,n1,n3];rfl);have D:=Lh (fun m=>DZ m w1);clear y bA bC;(repeat revert K);refine vS ?_;intro K hK K hK K hK K hK;refine (D.o _).mono ?_;rintro e4 w4 ⟨P,rfl,U,C,R,a0,o⟩;obtain ⟨q,A,B⟩:=H.o.oth HX.o.toOk C P U;have b6:=q.cell;have c1:=q.frozen;have J:=Lh A;have M:=Lh (show ∀ n,aL ((w4.setCell ⟨x.d,20,none⟩ (m9 P)).drewN n) P.block R a0 from fun n=>aL.mod (S:=fun k=>k=x.d) o (((aJ.refl (fun k=>k=x.d) w4).setCell (p:=⟨x.d,20,none⟩) (aG rfl) _).drewN n) (fun hh=>by have h1:=H.o.dec.lt;omega));have O:=Lh B;clear q A B C D o;(repeat revert K);refine vS ?_;intro K hK K hK K hK
   ((refine cG [0] fun f=>?_);go_quiet (fail);((repeat revert K);refine vg ?_;intro K hK K hK);refine Qk [2,3] fun f=>?_)
   exact N.o f _ _ _ ⟨⟨_,O.o.drawn _,by rw [i.o];exact ⟨rfl,rfl,J.o.drewN _⟩⟩,fun _ _ _=>⟨_,_,_,rfl,M.o _⟩⟩
 ·obtain ⟨n1,n2⟩:=rM u;have i:=Lh (show oK x.o G d r=.ok (.proc G d,r) by unfold oK;rw [aQ (fun h=>u h.1)]);clear u;refine vg ?_;refine Qk [2,3] fun f=>?_;exact N.o f _ _ _ (j.o _ (Below.refl _ _) i.o)
def YQ (x:Cx) (c:DC) (w0:World) (v0:DV) (d:Bs) (g:Bs) (k:Nat) (a:Act) (w:World):Prop:=
 ∃ f v rest b0 b e,a=fr 731 f [(0,bT x),(8,aB g),(9,.int .u8 (UInt8.toNat b0))]∧cA x c w v rest e b∧cN x w0 v0 w v∧k=rest.length ∧
  jI x.o.fails d 0 []=jI x.o.fails rest b0 b∧(b0=63→1≤b.length)∧b.length+rest.length=d.length
theorem OH {o:cV} {rest a r:Bs} (h:eT o.fails rest=.ok (a,r)):y4 o rest=match jI o.fails (aT r) 0 [] with
 | .error e=>.error e
 | .ok (inst,r2)=>oK o a inst r2:=by
 unfold y4;rw [h];rfl
theorem YR (x:Cx) (hx:x.All) (a7:kK x.W0) (I:3<x.B) (c:DC) (X:hY x c) (w:World) (v:DV) (rest:Bs) (e:Option EK) (a3:Bs) (h:cA x c w v rest e a3) (Q:Exit→Act→World→Prop)
  (hQ:∀ f w' t e,iC x c w v (y4 x.o rest) t e w'→Q .ret (fr 731 f [(2,t),(3,e)]) w') (f:Nat→Value) :
  (dQ 37).wp prog Q (fr 731 f [(0,bT x)]) w:=by
 have b7:=Lh (ND x hx.toFit c X w v rest e a3 h);have ⟨G,c6,aC,HD,HQ⟩:=pM hx a7 I X hQ;have d3:=Lh (show rest.length≤1000000000 from fQ (h.suf.length_le) hx.len);clear h hx a7 I X hQ;unfold dQ;conv=>arg 2;whnf
 refine vg ?_;intro K hK K hK K hK;refine b7.o.mono ?_;rintro e2 w2 ⟨v2,cT,F⟩;have S:=Lh cT;clear cT b7;cases E:eT x.o.fails rest with
 | error k=>
  rw [E] at F;obtain ⟨rfl,f2⟩:=F;have a:=Lh (show y4 x.o rest=.error k by unfold y4;rw [E]);have a0:=Lh (show sJ (.error k:Except EK (aP×Bs)) from k8 (DU _ _) E);rcases f2 with u|⟨rfl,r,b,H⟩
  ·obtain ⟨t1,u1,Z⟩:=u.err.iface;have HE:=Lh u;have hc:=u.dec.cell;have hf:=u.dec.frozen;have HU:=Lh Z;clear u E;(repeat revert K);refine vS ?_;intro K hK K hK
   ((refine cG [0] fun f=>?_);go_quiet (fail);((repeat revert K);refine vg ?_;intro K hK);refine Qk [2,3] fun f=>?_)
   exact HQ.o f _ _ _ (kJ.o ⟨v2,S.o.drawn _,by rw [a.o];exact ⟨rfl,HU.o.symm,HE.o.drewN _⟩⟩ (by rw [a.o];exact a0.o))
  ·have he:v2.err=.nilIface:=H.err;have hc:=H.dec.cell;have hf:=H.dec.frozen;have d6:=Lh (fun f7=>gH G.o.toOk H f7);clear H E;(repeat revert K);refine vS ?_;intro K hK K hK K hK;refine (d6.o _).mono ?_;rintro e3 w3 ⟨a9,rfl,hS⟩;have g1:=hS.dec.cell;have g2:=hS.dec.frozen;have HS:=Lh hS;clear hS hc hf he;(repeat revert K);refine vS ?_;intro K hK K hK
   ((refine cG [0] fun f=>?_);go_quiet (fail);((repeat revert K);refine vg ?_;intro K hK);refine Qk [2,3] fun f=>?_)
   exact HQ.o f _ _ _ (kJ.o ⟨_,(S.o.trans HS.o.stp).drawn _,by rw [a.o];exact ⟨rfl,rfl,HS.o.err.drewN _⟩⟩ (by rw [a.o];exact a0.o))
 | ok p=>
  obtain ⟨tg,r⟩:=p;rw [E] at F;obtain ⟨rfl,H⟩:=F;have a:=Lh (OH (o:=x.o) E);have c4:=Lh (sQ x G.o.toOk c HD.o w2 v2 r none tg H);have R:=Lh (show r.length≤1000000000 from by have:=(tX E).2;have:=d3.o;omega);clear H E;(repeat revert K);refine vS ?_;intro K hK K hK;refine c4.o.mono ?_;rintro e3 w3 ⟨rfl,v3,a4,hP⟩;have d4:=Lh (S.o.s0 hP.mod hP.bufv);have b9:=Lh (oU x G.o.toOk c w3 v3 (aT r) a4 tg hP.rd);have s:=Lh (show (aT r).length≤1000000000 from by have:=(eO r).length_le;have:=R.o;omega);clear hP c4;(repeat revert K);refine vS ?_;intro K hK K hK;refine b9.o.mono ?_;rintro e5 w5 ⟨rfl,v5,a6,f1,a8,b3,f4⟩;have d5:=Lh (d4.o.trans (cN.ofS0 b3 a8));have a1:=Lh a6;clear a6 f1 a8 b3 f4 b9;obtain ⟨l0,b1⟩:=cK (aT r);rw [←b1] at a1 s a;clear b1;(repeat revert K);refine vS ?_;intro K hK;refine cG [0,8,9] fun f=>?_;refine wp_loop_ghost_k (YQ x c w v l0 tg) l0.length ⟨f,v5,l0,0,[],a4,rfl,a1.o,d5.o,rfl,rfl,fun h=>absurd h (by decide),by simp⟩ ?_;rintro k _ w6 ⟨f,v6,aA,b0,m,e6,rfl,h6,c2,hk,bC,L,N⟩ J K2 hJ a5;have ⟨HJ,dT,a2,HK,P,c7⟩:=gT hJ a5 c2 hk bC L;have n:=Lh N;clear hJ a5 c2 hk bC L N;cases aA with
  | nil=>
   have A:=Lh (bN x G.o.toOk c HD.o w6 v6 e6 m h6);have i:=Lh (show y4 x.o rest=.error (bY x.o.fails) by rw [a.o,P.o];rfl);clear h6;revert K;refine vg ?_;intro K hK K hK K hK K hK;refine A.o.mono ?_;rintro e7 w7 ⟨rfl,v7,u,y,z⟩;have T:=Lh (a2.o.s0 z y);obtain ⟨t1,u1,Z⟩:=u.err.iface;have HE:=Lh u;have hc:=u.dec.cell;have hf:=u.dec.frozen;have HU:=Lh Z;clear u z y A;(repeat revert K);refine vS ?_;intro K hK K hK K hK
   ((refine cG [0] fun f=>?_);go_quiet (fail);((repeat revert K);refine vg ?_;intro K hK K hK);refine Qk [2,3] fun f=>?_)
   exact HQ.o f _ _ _ (kJ.o ⟨v7,T.o.drawn _,by rw [i.o];exact ⟨rfl,HU.o.symm,HE.o.drewN _⟩⟩ (by rw [i.o];exact aX _))
  | cons b r6=>
   have A:=Lh (bK x G.o.toOk c HD.o w6 v6 b r6 e6 m h6);clear h6;revert K;refine vg ?_;intro K hK K hK K hK K hK;refine A.o.mono ?_;rintro e7 w7 ⟨rfl,v7,h7,b4,y,z,f6⟩;have T:=Lh (a2.o.s0 z y);have O:m.length≤50000000000000:=by have:=n.o;have:=s.o;simp at *;omega
   have c5:=Lh (fV x G.o.toOk c w7 v7 r6 none m h7 b O);have d1:=Lh b4;clear h7 b4 y z f6 A O;(repeat revert K);refine vS ?_;intro K hK K hK K hK;refine c5.o.mono ?_;rintro e8 w8 ⟨rfl,v8,⟨h8,b5,c3⟩,_⟩;have U:=Lh (T.o.trans c3);have B:=Lh h8;have d2:=Lh (b5.trans d1.o);clear h8 b5 c3 c5;have e1:(((b0.toNat:Int)==63)=false∧b0≠63)∨(((b0.toNat:Int)==63)=true∧b0=63∧((b.toNat:Int)==62)=false∧b≠62)∨(((b0.toNat:Int)==63)=true∧b0=63∧((b.toNat:Int)==62)=true∧b=62):=by
    by_cases h0:b0=63
    ·subst h0;by_cases h1:b=62
     ·subst h1;exact aU (aU ⟨rfl,rfl,rfl,rfl⟩)
     ·exact aU (aG ⟨rfl,rfl,eS h1 rfl,h1⟩)
    ·exact aG ⟨eS h0 rfl,h0⟩
   rcases e1 with ⟨c0,c0'⟩|⟨c0,c0',c1,c1'⟩|⟨c0,c0',c1,c1'⟩;case inr.inr=>
    have d9:1≤m.length:=c7.o c0';subst c1';have b6:m++[62]≠[]:=by simp
    obtain ⟨g,V,hv,bA,b2,e0,_,_,_⟩:=B.o.bf.bytes b6;have W:=Lh (l8 x c w8 v8 r6 none _ B.o);have D:(m++[(62:UInt8)]).length=m.length+1:=by simp
    obtain ⟨d,hd⟩:=cK (m.take (m.length-1));have e4:d.length=m.length-1:=by rw [hd,pI];omega
    have M:bJ w8 g 0 d:=by
     intro j hj;rw [bA j (by rw [D];omega),hd];simp only [rF,List.getElem?_take];rw [aY (by omega),List.getElem?_append_left (by omega)]
    have i:=Lh (show y4 x.o rest=oK x.o tg d r6 by
     rw [a.o,P.o];unfold jI;rw [aY ⟨c0',rfl⟩,hd])
    rw [hv,D] at W;rw [D] at b2;have ⟨HV,c8⟩:=cB hv M;have hL:m.length=d.length+1:=by omega
    have l:=Lh (show d.length≤1000000000 by have:=n.o;have:=s.o;simp only [f5] at *;omega);rw [hL] at W b2;have gB:IntKind.i64.wrap ((d.length:Int)+1+1-2)=(d.length:Int):=by rw [IntKind.wrap_i64];have:=l.o;omega
    have f3:IntKind.i64.wrap (d.length:Int)=(d.length:Int):=by rw [IntKind.wrap_i64];have:=l.o;omega
    have g3:(0:Int)≤(d.length:Int):=by omega
    have l1:(d.length:Int)≤(V:Int):=by omega
    have l2:d.length≤V:=by omega
    have ⟨d0,c9⟩:=cB l2 e0;clear b6 hv bA M D hd e4 hL d9 c0';(repeat revert K);refine vS ?_;intro K hK K hK;refine W.o.mono ?_;rintro e9 w9 ⟨rfl,kk,rfl⟩;go_simp;(repeat revert K);refine vT 54 ?_;refine cG [0,8,10] fun f=>?_;refine bB (V6 x G.o c6.o aC.o c (w8.drewN kk) v8 r6 _ (B.o.drewN G.o.toOk kk) d2.o tg d g V c8.o l.o d0.o c9.o _ HV.o _ ?_ f) (by kernel_rfl);intro f w' t e hP;obtain ⟨⟨v',d8,C⟩,d7⟩:=hP;refine HQ.o f w' t e ⟨⟨v',(U.o.drawn kk).trans d8,?_⟩,fun k hk=>d7 k (by rw [←i.o];exact hk)⟩;rw [i.o];have g0:=(U.o.drawn kk).mod.size;cases Y:oK x.o tg d r6 with
    | error k=>rw [Y] at C;exact C
    | ok q=>
     obtain ⟨tk,r9⟩:=q;rw [Y] at C;obtain ⟨q1,e',b',q2,q3,q4⟩:=C;refine ⟨q1,e',b',q2,?_,q4⟩;unfold oK at Y;split at Y
     ·cases Y
     ·simp only [cD,b8] at Y;obtain ⟨rfl,rfl⟩:=Y;exact q3
   all_goals
    have dI:=Lh (show ¬ (b0=63∧b=62) by first|exact fun hh=>c0' hh.1|exact fun hh=>c1' hh.2);(repeat revert K);refine vS ?_;intro K hK;refine Kk [0,8,9] fun f=>?_;refine dT.o _ _ ⟨r6.length,by rw [HK.o];simp,HJ.o _ _ _ ⟨f,v8,r6,b,m++[b],none,rfl,B.o,U.o,rfl,?_,fun _=>by simp,?_⟩⟩
    ·rw [P.o];conv=>lhs;unfold jI
     rw [aQ dI.o]
    ·have:=n.o;simp at this ⊢;omega
structure B5 (x:Cx) (c:DC) (w:World) (v:DV) (s:St):Prop where
 rd:∃ e b,cA x c w v s.rest e b∧(s.ended=true→e≠none)∧(e≠none→s.toClose=none)
 nc:c.needClose=s.toClose.isSome
 tc:∀ nm,s.toClose=some nm→c.tcs=⟨nm.1.toArray⟩∧c.tcl=⟨nm.2.toArray⟩
 nb:v.nb≠10
def qE (c a:DC):Prop:=∃ b p q,a={ c with needClose:=b,tcs:=p,tcl:=q }
theorem qE.refl (c:DC):qE c c:=⟨c.needClose,c.tcs,c.tcl,rfl⟩
def cU (x:Cx) (c:DC) (w:World) (v:DV) (s:St) (t e:Value) (w':World):Prop:=
 match fK x.o s with
 | .error k=>∃ v',cN x w v w' v'∧t=.nilIface∧e=v'.err∧iQ x c w' v' k∧kL w' e k
 | .ok (tk,s')=>∃ v' a,cN x w v w' v'∧e=.nilIface∧qE c a∧B5 x a w' v' s'∧iB w' v'.bufv w.heap.size t tk∧((∀ d,tk≠.text d)→s'.ended=false∧∃ b,cA x a w' v' s'.rest none b)
theorem iC.tok {x:Cx} {c:DC} {w0 w:World} {v0 v:DV} {s:St} {R:Except EK (aP×Bs)} {t e:Value} {w':World} (B:cN x w0 v0 w v) (u:c.needClose=false) (j:s.toClose=none) (y:w0.heap.size≤w.heap.size)
  (J:fK x.o s=match R with|.error e=>.error e|.ok (t,r)=>.ok (t,{ s with rest:=r })) (i:s.ended=false) (h:iC x c w v R t e w'):cU x c w0 v0 s t e w':=by
 obtain ⟨⟨v',l,m⟩,I⟩:=h;unfold cU;rw [J];cases R with
 | error k=>exact ⟨v',B.trans l,m.1,m.2.1,m.2.2,I k rfl⟩
 | ok p=>
  obtain ⟨M,r⟩:=p;obtain ⟨H,C,b,o,z,a,q⟩:=m;refine ⟨v',c,B.trans l,H,qE.refl c,⟨⟨C,b,o,fun h=>(by rw [i] at h;cases h),fun _=>j⟩,by rw [u,j];rfl,fun nm h=>(by rw [j] at h;cases h),by rw [q];decide⟩,?_⟩;cases M with
  | start nm ats=>
   refine ⟨?_,fun _=>?_⟩
   ·obtain ⟨L,D,E,A⟩:=z;refine ⟨L,D,E,A.1,?_⟩;rcases A.2 with n|⟨g,cap,cur,n,F,G⟩
    ·exact aG n
    ·exact aU ⟨g,cap,cur,n,fQ y F,G⟩
   ·rcases a with f|⟨⟨d,f⟩,_⟩
    ·subst f;exact ⟨i,b,o⟩
    ·cases f
  | text d=>exact ⟨z,fun h=>absurd rfl (h d)⟩
  | _=>
   refine ⟨z,fun _=>?_⟩;rcases a with f|⟨⟨d,f⟩,_⟩
   ·subst f;exact ⟨i,b,o⟩
   ·cases f
theorem B2.tok {x:Cx} {c:DC} {w0 w:World} {v0 v:DV} {s:St} {R:Except EK (((Bs×Bs)×List cO)×Bool×Bs)} {t e:Value} {w':World} (z:cN x w0 v0 w v) (m:c.needClose=false) (I:s.toClose=none) (q:w0.heap.size≤w.heap.size)
  (G:fK x.o s=match R with|.error e=>.error e|.ok ((nm,a),em,r)=>.ok (.start nm a,{ s with rest:=r,toClose:=if em then some nm else none })) (d:s.ended=false) (n:sJ R) (h:B2 x c w v R t e w'):cU x c w0 v0 s t e w':=by
 obtain ⟨v',f,i⟩:=h;unfold cU;rw [G];cases R with
 | error k=>exact ⟨v',z.trans f,i.1,i.2.1,i.2.2,kL.no (fun F=>n (by rw [F]))⟩
 | ok p=>
  obtain ⟨⟨nm,a⟩,em,r⟩:=p;obtain ⟨E,b,y,H,l⟩:=i;have o:qE c (c.closing nm em):=by
   cases em
   ·exact qE.refl c
   ·exact ⟨_,_,_,rfl⟩
  refine ⟨v',_,z.trans f,E,o,⟨⟨none,b,y,fun h=>(by rw [d] at h;cases h),fun h=>absurd rfl h⟩,?_,?_,by rw [l];decide⟩,?_⟩
  ·cases em
   ·simp [DC.closing,m]
   ·rfl
  ·intro J h;cases em
   ·cases h
   ·simp only [if_true,jW] at h;subst h;exact ⟨rfl,rfl⟩
  ·refine ⟨?_,fun _=>⟨d,b,y⟩⟩;obtain ⟨L,A,B,u⟩:=H;refine ⟨L,A,B,u.1,?_⟩;rcases u.2 with j|⟨g,cap,cur,j,C,D⟩
   ·exact aG j
   ·exact aU ⟨g,cap,cur,j,fQ q C,D⟩
def V7 (o:cV) (s:St):Bs→Except EK (aP×St)
 | []=>.error (bY o.fails)
 | c::r2=>
  if c=47 then (match m8 o r2 with|.error e=>.error e|.ok (t,r3)=>.ok (t,{ s with rest:=r3 }))
  else if c=63 then (match y4 o r2 with|.error e=>.error e|.ok (t,r3)=>.ok (t,{ s with rest:=r3 }))
  else if c=33 then (match jJ o r2 with|.error e=>.error e|.ok (t,r3)=>.ok (t,{ s with rest:=r3 }))
  else match fB o (c::r2) with
   | .error e=>.error e
   | .ok ((nm,ats),em,r3)=>.ok (.start nm ats,{ s with rest:=r3,toClose:=if em then some nm else none })
theorem SG {o:cV} {s:St} (a:s.ended=false) (b:s.toClose=none) {r:Bs} (c:s.rest=60::r):fK o s=V7 o s r:=by
 obtain ⟨rest,e,h,d,f,g⟩:=s;simp only at a b c;subst a b c;unfold fK V7;cases r<;>rfl
theorem GI (o:cV) (b:UInt8) (r:Bs):jJ o (b::r)=if b=45 then xS o r else if b=91 then rL o DM r else lS o b r:=by
 unfold jJ xS rL lS;simp only;split
 ·rfl
 ·split
  ·rfl
  ·rfl
theorem V8 (x:Cx) (hx:x.All) (a5:kK x.W0) (P:3<x.B) (c:DC) (S:hY x c) (bA:rS x c) (a9:c.needClose=false) (w:World) (v:DV) (s:St) (r:Bs) (hr:s.rest=60::r) (T:s.ended=false) (U:s.toClose=none) (g:Bs) (h:cA x c w v (60::r) none g) :
  Calls prog 35 #[bT x] w fun en w'=>∃ t e,en=.returned (.tuple #[t,e])∧cU x c w v s t e w':=by
 have hg:=Lh (oB x hx.toOk c S w v 60 r none g h);have ⟨L,bC,Z,J,a1,u⟩:=gT hx a5 P S bA a9;have ⟨q,y⟩:=cB T U;have l:=Lh (SG (o:=x.o) T U hr);have hc:=h.dec.cell;have hf:=h.dec.frozen;have he:v.err=.nilIface:=h.err;have b6:=Lh h.suf;clear h hx a5 P S bA hr T U;refine eL 731 func35 [_] fun f=>?_;simp only [aF];refine vg ?_;intro K hK K hK;refine hg.o.mono ?_;rintro e1 w1 ⟨rfl,v1,h1,b1,a6,a7,_⟩;have a2:=Lh ((cN.refl x w v).s0 a7 a6);have Q:=Lh h1;clear h1 b1 a6 a7 hg hc hf he a9
 have d:=Lh (show ∀ f w' t e,cU x c w v s t e w'→bodyPost prog Tryz.f35 (fun en w'=>∃ t e,en=.returned (.tuple #[t,e])∧cU x c w v s t e w') .ret (fr 731 f [(2,t),(3,e)]) w' from
  fun f w' t e A=>BF rfl (by decide) (by decide) (by simp only [aK,aO,aR,aW,Nat.reduceEqDiff,↓reduceIte]) (by simp only [aK,aO,aR,aW,Nat.reduceEqDiff,↓reduceIte]) ⟨t,e,rfl,A⟩)
 cases r with
 | nil=>
  have j:=Lh (bN x L.o.toOk c J.o w1 v1 none g Q.o);(repeat revert K);refine vS ?_;intro K hK K hK K hK;refine j.o.mono ?_;rintro e4 Y ⟨rfl,W,E,F,H⟩;have k:=Lh (a2.o.s0 H F);obtain ⟨t1,u1,V⟩:=E.err.iface;have HE:=Lh E;have hc:=E.dec.cell;have hf:=E.dec.frozen;have HU:=Lh V;clear E H F j;(repeat revert K);refine vS ?_;intro K hK K hK
  ((refine cG [0] fun f=>?_);go_quiet (fail);((repeat revert K);refine vg ?_;intro K hK);refine Qk [2,3] fun f=>?_)
  refine d.o f _ _ _ ?_;unfold cU;rw [l.o];exact ⟨W,k.o.drawn _,rfl,HU.o.symm,HE.o.drewN _,kL.no (xX _)⟩
 | cons b r2=>
  have j:=Lh (bK x L.o.toOk c J.o w1 v1 b r2 none g Q.o);(repeat revert K);refine vS ?_;intro K hK K hK K hK;refine j.o.mono ?_;rintro e4 Y ⟨rfl,W,a3,a8,F,H,b4⟩;have m:=Lh (a2.o.s0 H F);have ⟨B,b0⟩:=cB a3 a8;clear a3 a8 H F b4 j;by_cases z:b=47
  ·subst z;have a:=Lh (show fK x.o s=(match m8 x.o r2 with|.error e=>.error e|.ok (t,r3)=>.ok (t,{ s with rest:=r3 })) by rw [l.o];rfl);go_simp;(repeat revert K);refine vT 22 ?_;intro K hK;refine cG [0] fun f=>?_;refine bB (VT x L.o c J.o Y W r2 none g B.o _ ?_ f) (by kernel_rfl);intro f w' t e A;exact d.o f w' t e (iC.tok m.o u.o y.o m.o.mod.size a.o q.o (A.o (R8 _ _)))
  ·have t1:=eS (n:=47) z rfl;by_cases C:b=63
   ·subst C;have a:=Lh (show fK x.o s=(match y4 x.o r2 with|.error e=>.error e|.ok (t,r3)=>.ok (t,{ s with rest:=r3 })) by rw [l.o];rfl);clear z t1;go_simp;(repeat revert K);refine vT 37 ?_;intro K hK;refine cG [0] fun f=>?_;refine bB (YR x L.o bC.o Z.o c J.o Y W r2 none g B.o _ ?_ f) (by kernel_rfl);intro f w' t e A;exact d.o f w' t e (iC.tok m.o u.o y.o m.o.mod.size a.o q.o A)
   ·have t2:=eS (n:=63) C rfl;by_cases M:b=33
    ·subst M;have a:=Lh (show fK x.o s=(match jJ x.o r2 with|.error e=>.error e|.ok (t,r3)=>.ok (t,{ s with rest:=r3 })) by rw [l.o];rfl);clear z C t1 t2;cases r2 with
     | nil=>
      have j:=Lh (bN x L.o.toOk c J.o Y W none g B.o);(repeat revert K);refine vS ?_;intro K hK K hK K hK K hK;refine j.o.mono ?_;rintro e5 w5 ⟨rfl,v5,E,G,I⟩;have k:=Lh (m.o.s0 I G);obtain ⟨t1,u1,V⟩:=E.err.iface;have HE:=Lh E;have hc:=E.dec.cell;have hf:=E.dec.frozen;have HU:=Lh V;clear E I G j;(repeat revert K);refine vS ?_;intro K hK K hK K hK
      ((refine cG [0] fun f=>?_);go_quiet (fail);((repeat revert K);refine vg ?_;intro K hK K hK);refine Qk [2,3] fun f=>?_)
      refine d.o f _ _ _ ?_;unfold cU;rw [a.o];exact ⟨v5,k.o.drawn _,rfl,HU.o.symm,HE.o.drewN _,kL.no (xX _)⟩
     | cons N r3=>
      have j:=Lh (bK x L.o.toOk c J.o Y W N r3 none g B.o);have X:=Lh (GI x.o N r3);(repeat revert K);refine vS ?_;intro K hK K hK K hK K hK;refine j.o.mono ?_;rintro e5 w5 ⟨rfl,v5,a4,b3,G,I,b5⟩;have k:=Lh (m.o.s0 I G);have R:=Lh a4;clear a4 b3 I G b5 j;by_cases p:N=45
      ·subst p;have i:=Lh (show fK x.o s=(match xS x.o r3 with|.error e=>.error e|.ok (t,r3)=>.ok (t,{ s with rest:=r3 })) by rw [a.o,X.o,aY rfl]);have aA:=Lh (show sJ (xS x.o r3) by have O:=xZ x.o (45::r3);rw [X.o,aY rfl] at O;exact O);go_simp;(repeat revert K);refine vT 79 ?_;intro K hK K hK;refine cG [0] fun f=>?_;refine bB (VU x L.o c J.o w5 v5 r3 none g R.o _ ?_ f) (by kernel_rfl);intro f w' t e A;exact d.o f w' t e (iC.tok k.o u.o y.o k.o.mod.size i.o q.o (A.o aA.o))
      ·have t3:=eS (n:=45) p rfl;by_cases D:N=91
       ·subst D;have i:=Lh (show fK x.o s=(match rL x.o DM r3 with|.error e=>.error e|.ok (t,r3)=>.ok (t,{ s with rest:=r3 })) by rw [a.o,X.o,aQ p,aY rfl]);have aC:=Lh (show sJ (rL x.o DM r3) by have O:=xZ x.o (91::r3);rw [X.o,aQ p,aY rfl] at O;exact O);clear p t3;go_simp;(repeat revert K);refine vT 100 ?_;intro K hK K hK;refine cG [0] fun f=>?_;refine bB (VV x L.o c J.o a1.o w5 v5 r3 none g R.o _ ?_ f) (by kernel_rfl);intro f w' t e A;exact d.o f w' t e (iC.tok k.o u.o y.o k.o.mod.size i.o q.o (A.o aC.o))
       ·have t4:=eS (n:=91) D rfl;have i:=Lh (show fK x.o s=(match lS x.o N r3 with|.error e=>.error e|.ok (t,r3)=>.ok (t,{ s with rest:=r3 })) by rw [a.o,X.o,aQ p,aQ D]);have a0:=Lh (show sJ (lS x.o N r3) by have O:=xZ x.o (N::r3);rw [X.o,aQ p,aQ D] at O;exact O);clear p D;go_simp;(repeat revert K);refine vT 113 ?_;intro K hK;refine cG [0,4] fun f=>?_;refine bB (VW x L.o c J.o w5 v5 N r3 g R.o _ ?_ f) (by kernel_rfl);intro f w' t e A;exact d.o f w' t e (iC.tok k.o u.o y.o k.o.mod.size i.o q.o (A.o a0.o))
    ·have t3:=eS (n:=33) M rfl;have a:=Lh (show fK x.o s=(match fB x.o (b::r2) with|.error e=>.error e|.ok ((nm,ats),em,r3)=>.ok (.start nm ats,{ s with rest:=r3,toClose:=if em then some nm else none })) by
      rw [l.o];simp only [V7,aQ z,aQ C,aQ M])
     clear z C M;go_simp;(repeat revert K);refine vT 152 ?_;refine cG [0,4] fun f=>?_;refine bB (OC x L.o c J.o a1.o Y W b r2 g B.o b0.o (by have:=Q.o.suf;exact this) _ ?_ f) (by kernel_rfl);intro f w' t e A;exact d.o f w' t e (A.tok m.o u.o y.o m.o.mod.size a.o q.o (K7 _ _))
theorem GJ {o:cV}:∀ (n:Nat) (rest:Bs),rest.length≤n→∀ (b0 b1:UInt8) (a:Bs) {d r:Bs},bF o none false rest b0 b1 a=.ok (d,r)→r=[]∨∃ t,r=60::t:=by
 intro n;induction n with
 | zero=>
  intro rest f b0 b1 a d r h;have:rest=[]:=wC (by omega);subst this;unfold bF at h;rw [aQ (by simp)] at h;split at h
  ·simp only [cD,b8] at h;exact aG h.2.symm
  ·cases h
 | succ n ih=>
  intro rest f b0 b1 a d r h;cases rest with
  | nil=>
   unfold bF at h;rw [aQ (by simp)] at h;split at h
   ·simp only [cD,b8] at h;exact aG h.2.symm
   ·cases h
  | cons b t=>
   have i:t.length≤n:=by simp at f;omega
   unfold bF at h;split at h
   ·split at h
    ·rename_i c;cases c
    ·cases h
   ·split at h
    ·rename_i g;rw [aY rfl] at h;split at h
     ·simp only [cD,b8] at h;exact aU ⟨t,by rw [←h.2,g.1]⟩
     ·cases h
    ·split at h
     ·rename_i c;cases c
     ·split at h
      ·split at h
       ·cases h
       ·rename_i e;exact ih _ (by have:=fF (lH e);omega) _ _ _ h
       ·rename_i e;split at h
        ·cases h
        ·exact ih _ (by have:=fF (lH e);omega) _ _ _ h
      ·exact ih _ i _ _ _ h
theorem cA.nb_text {x:Cx} {c:DC} {w:World} {v:DV} {r:Bs} {e:Option EK} {b:Bs} (h:cA x c w v r e b) (f:r=[]∨∃ t,r=60::t):v.nb≠10:=by
 obtain ⟨g,_,a⟩:=h.inp;rcases a with ⟨a,_⟩|⟨b,a,d⟩
 ·rw [a];decide
 ·rcases f with f|⟨t,f⟩
  ·rw [f] at d;cases d
  ·rw [f] at d;simp only [List.cons.injEq] at d;rw [a,←d.1];decide
theorem OI (x:Cx) (E:x.Ok) (c:DC) (w:World) (v:DV) (s:St) (nm:Bs×Bs) (g:s.ended=false) (a:s.toClose=some nm) (y:B5 x c w v s) :
  Calls prog 35 #[bT x] w fun F w'=>∃ t e,F=.returned (.tuple #[t,e])∧cU x c w v s t e w':=by
 obtain ⟨⟨e,b,n,G,A⟩,j,d,o⟩:=y;have H:e=none:=by
  cases e with
  | none=>rfl
  | some k=>have:=A (by simp);rw [a] at this;cases this
 subst H;obtain ⟨N,O⟩:=d nm a;rw [a] at j;have D:c.needClose=true:=j;have L:=n.dec.cell;have M:=n.dec.frozen;have J:v.err=.nilIface:=n.err;have ⟨z,r⟩:=cB E n;have m:=Lh (show fK x.o s=.ok (.fin nm,{ s with toClose:=none }) by unfold fK;rw [aQ (by rw [g];simp),a]);have ⟨l,q⟩:=cB g o;clear n G A j d a g E o;refine eL 731 func35 [_] fun f=>?_;simp only [aF];refine vg ?_;intro K hK;refine kW ?_;refine ⟨_,_,rfl,?_⟩;unfold cU;rw [m.o];have u:aJ (fun k=>k=x.d) w (w.setCell ⟨x.d,14,none⟩ (.bool false)):=(aJ.refl (fun k=>k=x.d) w).setCell (p:=⟨x.d,14,none⟩) (aG rfl) _;have C:bR (w.setCell ⟨x.d,14,none⟩ (.bool false)) x.d { c with needClose:=false } v:=(show aL w x.d _ _ from r.o.dec).set 14 (.bool false);refine ⟨v,{ c with needClose:=false },(cN.refl x w v).s0 (u.mono (fun i _ I=>aG I)) rfl,rfl,⟨false,c.tcs,c.tcl,rfl⟩,⟨⟨none,b,r.o.turn z.o C u,fun h=>?_,fun _=>rfl⟩,rfl,fun nm h=>(by cases h),q.o⟩,rfl,fun _=>⟨l.o,b,r.o.turn z.o C u⟩⟩;have B:s.ended=true:=h;rw [l.o] at B;cases B
theorem SH (x:Cx) (o:x.All) (c:DC) (e:hY x c) (k:c.needClose=false) (w:World) (v:DV) (b:Bs) (h:cA x c w v [] none b) :
  Calls prog 35 #[bT x] w fun r w'=>∃ v',cN x w v w' v'∧r=.returned (.tuple #[.nilIface,v'.err])∧iQ x c w' v' (mM x.o.fails):=by
 have n:=Lh (qX x o.toOk c e w v none b h);have s:=h.dec.cell;have u:=h.dec.frozen;have t:v.err=.nilIface:=h.err;clear h o e;refine eL 731 func35 [_] fun f=>?_;simp only [aF];refine vg ?_;intro K hK K hK;refine n.o.mono ?_;rintro y w1 ⟨rfl,p,a,j,d,g,_⟩;have i:=Lh ((cN.refl x w v).s0 g d);have m:=Lh (show iQ x c w1 p (mM x.o.fails) from ⟨a.base,a.dec,a.err⟩);obtain ⟨z,A,l⟩:=m.o.err.iface;have q:=Lh l;have s:=a.dec.cell;have u:=a.dec.frozen;clear a j d g n t k;(repeat revert K);refine vS ?_;intro K hK K hK
 ((refine cG [0] fun f=>?_);go_quiet (fail);((repeat revert K);refine vg ?_;intro K hK);refine Qk [2,3] fun f=>?_)
 refine kW ?_;exact ⟨p,i.o.drawn _,by rw [q.o],m.o.drewN _⟩
theorem D1 {o:cV} {s:St} (a:s.toClose=none) (b:s.rest=[]):fK o s=.error (mM o.fails):=by
 obtain ⟨rest,c,g,d,e,f⟩:=s;simp only at a b;subst a b;unfold fK;cases c<;>rfl
theorem LA {o:cV} {s:St} (a:s.ended=false) (c:s.toClose=none) {b:UInt8} {r:Bs} (g:b≠60) (f:s.rest=b::r):fK o s=match bF o none false (b::r) 0 0 [] with
  | .error e=>.error e
  | .ok (d,r2)=>.ok (.text d,{ s with rest:=r2,ended:=r2==[] }):=by
 obtain ⟨rest,i,l,h,j,k⟩:=s;simp only at c f a;subst c f a;unfold fK;simp only [rW,if_false];rw [aY g];cases bF o none false (b::r) 0 0 []<;>rfl
theorem OJ (x:Cx) (J:x.All) (M:kK x.W0) (A:3<x.B) (c:DC) (u:hY x c) (C:rS x c) (w:World) (v:DV) (s:St) (E:B5 x c w v s) :
  Calls prog 35 #[bT x] w fun F w'=>∃ t e,F=.returned (.tuple #[t,e])∧cU x c w v s t e w':=by
 obtain ⟨⟨e,b,n,Y,Z⟩,S,V,_⟩:=id E;cases e with
 | some k=>
  have a:=Z (by simp);obtain ⟨t1,u1,T⟩:=n.err.iface;have f:=n.fin;rcases f with f|⟨f,z⟩
  ·cases f
  ·refine (VR x c w v n.dec t1 u1 T).mono ?_;rintro F w' ⟨rfl,k',rfl⟩;refine ⟨_,_,rfl,?_⟩;unfold cU;rw [D1 a z];have hk:k=mM x.o.fails:=by simpa using f
   subst hk;exact ⟨v,cN.drewN _,rfl,rfl,iQ.drewN ⟨n.base,n.dec,n.err⟩ _,kL.no (I3 _)⟩
 | none=>
  have y:s.ended=false:=by
   cases h:s.ended with
   | false=>rfl
   | true=>exact absurd rfl (Y h)
  cases a:s.toClose with
  | some nm=>exact OI x J.toOk c w v s nm y a E
  | none=>
   have i:c.needClose=false:=by rw [S,a];rfl
   cases D:s.rest with
   | nil=>
    rw [D] at n;refine (SH x J c u i w v b n).mono ?_;rintro F w' ⟨v',I,rfl,L⟩;refine ⟨_,_,rfl,?_⟩;unfold cU;rw [D1 a D];exact ⟨v',I,rfl,rfl,L,kL.no (I3 _)⟩
   | cons d r=>
    rw [D] at n;by_cases P:d=60
    ·subst P;exact V8 x J M A c u C i w v s r D y a b n
    ·refine (RZ x J c u C i w v d r b P n).mono ?_;rintro F w' ⟨v',I,H⟩;have j:=LA (o:=x.o) y a P D;cases l:bF x.o none false (d::r) 0 0 [] with
     | error k=>
      rw [l] at H j;obtain ⟨rfl,L⟩:=H;refine ⟨_,_,rfl,?_⟩;unfold cU;rw [j];exact ⟨v',I,rfl,rfl,L,kL.no (fun hh=>xY _ _ _ _ _ (dF _) _ _ _ (by rw [←hh];exact l))⟩
     | ok p=>
      obtain ⟨tx,r'⟩:=p;rw [l] at H j;obtain ⟨g,W,X,U,rfl,q,m,Q,R,B⟩:=H;refine ⟨_,_,rfl,?_⟩;unfold cU;rw [j];refine ⟨v',c,I,rfl,qE.refl c,⟨⟨X,U,q,fun h=>?_,fun _=>a⟩,by rw [i,a];rfl,fun nm h=>(by rw [a] at h;cases h),q.nb_text (GJ _ _ (dF _) _ _ _ l)⟩,⟨_,rfl,?_⟩,fun h=>absurd rfl (h tx)⟩
      ·have h9:r'=[]:=by simpa using h
       rw [B h9];simp
      ·have N:=(q.bf.part m Q R).1;rcases q.bf with ⟨G,_⟩|⟨g',cap',arr,G,hg,aC,hl,O,_,_,aA⟩
       ·rw [G] at m;cases m
       ·have h6:=G;rw [G] at m;simp only [Value.slice.injEq,jW,Addr.mk.injEq] at m;obtain ⟨⟨rfl,_⟩,_,rfl⟩:=m;exact ⟨g',cap',U.length,rfl,h6,N,by omega,O⟩
structure D2 (x:Cx) (c:DC) (w:World) (v:DV) (k:Int) (e:List Nat) (w':World) (q:Nat) (a:List Nat):Prop where
 dec:∃ d,bR w' x.d d v∧∃ f g,d={ c with stk:=.pointer (some ⟨q,0,none⟩),free:=f,depth:=g }∧∃ h,iA w' f h a
 blk:∃ sp loc ok,aL w' q (jA c.stk k sp loc ok) 95
 mod:aJ (fun b=>b=x.d∨b=q) w w'
 fbs:(e=q::a)∨(e=[]∧a=[]∧q=w.heap.size)
theorem iA.ptr {w:World} {p:Value} {l:List iH} {a:List Nat} (h:iA w p l a):(p=.pointer none∧a=[]∧l=[])∨∃ q e l' c,p=.pointer (some ⟨q,0,none⟩)∧a=q::c∧l=e::l':=by
 cases l with
 | nil=>
  cases a with
  | nil=>exact aG ⟨h,rfl,rfl⟩
  | cons b a=>exact h.elim
 | cons e l=>
  cases a with
  | nil=>exact h.elim
  | cons b a=>exact aU ⟨b,e,l,a,h.1,rfl,rfl⟩
noncomputable def OK (n:Nat):Code:=((Tryz.f78.body).bind (Code.partAt n)).getD .skip
noncomputable def OL (n:Nat):Code:=((Tryz.f79.body).bind (Code.partAt n)).getD .skip
theorem D3 (x:Cx) (c:DC) (w:World) (v:DV) (l:bR w x.d c v) (k:Int) (O:k=0∨k=1) (q:Nat) (g:q≠x.d) (R:Value) (P:Int) (D i:Bs) (C:Bool) (m:aL w q (jA R P D i C) 95) (a:Option Addr) (h:c.stk=.pointer a) (Q:Exit→Act→World→Prop)
  (A:∀ f w' y,bR w' x.d y v→(∃ J,y={ c with stk:=.pointer (some ⟨q,0,none⟩),depth:=J })→aL w' q (jA c.stk k D i C) 95→aJ (fun b=>b=x.d∨b=q) w w'→Q .ret (fr 45 f [(4,.pointer (some ⟨q,0,none⟩))]) w') (f:Nat→Value) :
  (OK 5).wp prog Q (fr 45 f [(0,bT x),(1,.int .i64 k),(5,.pointer (some ⟨q,0,none⟩))]) w:=by
 have hc:=l.cell;have hf:=l.frozen;have M:=m.cell;have N:=m.frozen;have d:x.d≠q:=fun e=>g e.symm;have ⟨t,s,u⟩:=kV l m A;clear l m A;obtain ⟨T,U,V,W,X,Y,j,Z,c9,F,G,H,I⟩:=c;simp only at h;subst h;unfold OK;conv=>arg 2;whnf
 have B:∀ (S:Nat→Prop),S x.d→S q→∀ (n o r:Value),aJ S w (((w.setCell ⟨q,0,none⟩ n).setCell ⟨q,1,none⟩ o).setCell ⟨x.d,11,none⟩ r):=fun S L z n o r=>
  (((aJ.refl S w).setCell (p:=⟨q,0,none⟩) (aG z) n).setCell (p:=⟨q,1,none⟩) (aG z) o).setCell (p:=⟨x.d,11,none⟩) (aG L) r
 have E:=Lh B;clear B;rcases O with rfl|rfl
 ·refine vg ?_;refine Qk [4] fun f=>?_;refine u.o f _ _ ?_ ⟨IntKind.i64.wrap (j+1),rfl⟩ ?_ ?_
  ·exact ((((show aL w x.d _ _ from t.o).set_ne (a:=⟨q,0,none⟩) d (.pointer a)).set_ne (a:=⟨q,1,none⟩) d (.int .i64 0)).set 12 (.int .i64 (IntKind.i64.wrap (j+1)))).set 11 (.pointer (some ⟨q,0,none⟩))
  ·exact ((((show aL w q _ _ from s.o).set 0 (.pointer a)).set 1 (.int .i64 0)).set_ne (a:=⟨x.d,12,none⟩) g (.int .i64 (IntKind.i64.wrap (j+1)))).set_ne (a:=⟨x.d,11,none⟩) g (.pointer (some ⟨q,0,none⟩))
  ·exact ((((aJ.refl (fun b=>b=x.d∨b=q) w).setCell (p:=⟨q,0,none⟩) (aG (aU rfl)) _).setCell (p:=⟨q,1,none⟩) (aG (aU rfl)) _).setCell (p:=⟨x.d,12,none⟩) (aG (aG rfl)) _).setCell (p:=⟨x.d,11,none⟩) (aG (aG rfl)) _
 ·refine vg ?_;refine Qk [4] fun f=>?_;refine u.o f _ _ ?_ ⟨j,rfl⟩ ?_ ?_
  ·exact (((show aL w x.d _ _ from t.o).set_ne (a:=⟨q,0,none⟩) d (.pointer a)).set_ne (a:=⟨q,1,none⟩) d (.int .i64 1)).set 11 (.pointer (some ⟨q,0,none⟩))
  ·exact (((show aL w q _ _ from s.o).set 0 (.pointer a)).set 1 (.int .i64 1)).set_ne (a:=⟨x.d,11,none⟩) g (.pointer (some ⟨q,0,none⟩))
  ·exact E.o _ (aG rfl) (aU rfl) _ _ _
theorem OM (x:Cx) (c:DC) (w:World) (v:DV) (y:bR w x.d c v) (k:Int) (P:k=0∨k=1) (a:Option Addr) (j:c.stk=.pointer a) (fl:List iH) (G:List Nat) (d:iA w c.free fl G) (o:∀ b∈G,b≠x.d) (n:G.Nodup) :
  Calls prog 78 #[bT x,.int .i64 k] w fun en w'=>∃ q J,en=.returned (.pointer (some ⟨q,0,none⟩))∧D2 x c w v k G w' q J:=by
 have hc:=y.cell;have hf:=y.frozen;have ⟨R,S⟩:=cB y P;rcases d.ptr with ⟨E,rfl,rfl⟩|⟨q,e,l',bs',E,rfl,rfl⟩
 ·have O:x.d≠w.heap.size:=by have:=aL.lt y;omega
  clear d o n y P;obtain ⟨T,U,V,W,X,c6,Y,c8,Z,A,B,C,D⟩:=c;simp only at j E;subst j E;refine eL 45 func78 [_,_] fun f=>?_;simp only [aF];refine vT 5 ?_;refine cG [0,1,5] fun f=>?_;refine bB (D3 x _ _ v ((show aL w x.d _ _ from R.o).alloc _) k S.o w.heap.size (fun e=>O e.symm) _ _ [] [] _ (aL.new w #[.pointer none,.int .i64 0,aB [],aB [],.bool false] 95) a rfl _ ?_ f) (by kernel_rfl);rintro f w' c' s ⟨I,rfl⟩ r t;refine cM ?_;refine ⟨w.heap.size,[],rfl,⟨_,s,_,I,rfl,[],rfl⟩,⟨[],[],false,r⟩,?_,aU ⟨rfl,rfl,rfl⟩⟩;exact (aH ((Below.refl _ w).alloc (dF _) _) _).trans t (fun i _ hi=>hi)
 ·have u:q≠x.d:=o q (by simp);obtain ⟨hp,nx,ok,H,Q,g⟩:=d;obtain ⟨m,L⟩:∃ m,nx=.pointer m:=by
   rcases g.ptr with ⟨h,_⟩|⟨_,_,_,_,h,_⟩
   ·exact ⟨_,h⟩
   ·exact ⟨_,h⟩
  subst L;have aA:=H.cell;have a0:=H.frozen;have aC:x.d≠q:=fun e=>u e.symm;have ⟨HB,HR⟩:=cB H g;have z:=Lh (show ∀ b∈bs',b≠x.d∧b≠q from fun b l=>⟨o b (by simp [l]),fun e=>by
   rw [List.nodup_cons] at n;exact n.1 (e▸l)⟩)
  clear o n y P hp Q g H;obtain ⟨T,U,V,W,X,c6,Y,c8,Z,A,B,C,D⟩:=c;simp only at j E;subst j E;refine eL 45 func78 [_,_] fun f=>?_;simp only [aF];refine vT 5 ?_;refine cG [0,1,5] fun f=>?_;have N:bR (w.setCell ⟨x.d,13,none⟩ (.pointer m)) x.d ⟨T,U,V,W,X,.pointer a,Y,.pointer m,Z,A,B,C,D⟩ v:=(show aL w x.d _ _ from R.o).set 13 (.pointer m);have M:aL (w.setCell ⟨x.d,13,none⟩ (.pointer m)) q _ _:=(show aL w q _ _ from HB.o).set_ne (a:=⟨x.d,13,none⟩) u (.pointer m);refine bB (D3 x _ _ v N k S.o q u _ _ _ _ _ M a rfl _ ?_ f) (by kernel_rfl);rintro f w' c' s ⟨I,rfl⟩ r t;refine cM ?_;have F:aJ (fun b=>b=x.d∨b=q) w w':=((aJ.refl (fun b=>b=x.d∨b=q) w).setCell (p:=⟨x.d,13,none⟩) (aG (aG rfl)) (.pointer m)).trans t (fun _ _ h=>h);refine ⟨q,bs',rfl,⟨_,s,.pointer m,I,rfl,l',HR.o.mod F (fun b l=>by
   rintro (h|h)
   ·exact (z.o b l).1 h
   ·exact (z.o b l).2 h)⟩,⟨_,_,_,r⟩,F,aG rfl⟩
theorem SI (x:Cx) (c:DC) (w:World) (v:DV) (a:bR w x.d c v) (b:c.stk=.pointer none) :
  Calls prog 79 #[bT x] w fun d w'=>d=.returned (.pointer none)∧w'=w:=by
 have e:=a.cell;have g:=a.frozen;clear a;refine eL 41 func79 [_] fun f=>?_;simp only [aF];refine vg ?_;refine cM ?_;exact ⟨rfl,rfl⟩
structure wH (x:Cx) (c:DC) (w:World) (v:DV) (e:iH) (a:List iH) (d:List Nat) (j:List iH) (i:List Nat) (w':World) (q:Nat):Prop where
 dec:∃ f,bR w' x.d f v∧∃ g h,f={ c with stk:=g,free:=.pointer (some ⟨q,0,none⟩),depth:=h }∧iA w' g a d
 free:iA w' (.pointer (some ⟨q,0,none⟩)) (e::j) (q::i)
 mod:aJ (fun b=>b=x.d∨b=q) w w'
theorem I5 (x:Cx) (c:DC) (w:World) (v:DV) (j:bR w x.d c v) (q:Nat) (d:q≠x.d) (i:Option Addr) (n:Int) (r h:Bs) (o:Bool) (k:aL w q (jA (.pointer i) n r h o) 95) (a:Option Addr) (g:c.free=.pointer a) (Q:Exit→Act→World→Prop)
  (m:∀ f w',bR w' x.d { c with stk:=.pointer i,free:=.pointer (some ⟨q,0,none⟩) } v→aL w' q (jA (.pointer a) n r h o) 95→aJ (fun b=>b=x.d∨b=q) w w'→Q .normal (fr 41 f [(3,.pointer (some ⟨q,0,none⟩))]) w') (f:Nat→Value) :
  (OL 5).wp prog Q (fr 41 f [(0,bT x),(3,.pointer (some ⟨q,0,none⟩))]) w:=by
 have O:=j.cell;have P:=j.frozen;have C:=k.cell;have D:=k.frozen;have l:x.d≠q:=fun e=>d e.symm;have ⟨t,s,u⟩:=kV j k m;clear j k m;obtain ⟨E,F,G,H,I,J,L,M,N,y,z,A,B⟩:=c;simp only at g;subst g;unfold OL;conv=>arg 2;whnf
 refine vg ?_;refine Qk [3] fun f=>?_;refine u.o f _ ?_ ?_ ?_
 ·exact (((show aL w x.d _ _ from t.o).set 11 (.pointer i)).set_ne (a:=⟨q,0,none⟩) l (.pointer a)).set 13 (.pointer (some ⟨q,0,none⟩))
 ·exact (((show aL w q _ _ from s.o).set_ne (a:=⟨x.d,11,none⟩) d (.pointer i)).set 0 (.pointer a)).set_ne (a:=⟨x.d,13,none⟩) d (.pointer (some ⟨q,0,none⟩))
 ·exact (((aJ.refl (fun b=>b=x.d∨b=q) w).setCell (p:=⟨x.d,11,none⟩) (aG (aG rfl)) _).setCell (p:=⟨q,0,none⟩) (aG (aU rfl)) _).setCell (p:=⟨x.d,13,none⟩) (aG (aG rfl)) _
theorem ON (x:Cx) (c:DC) (w:World) (v:DV) (T:bR w x.d c v) (q:Nat) (e:iH) (he:e.kind=0∨e.kind=1) (j:List iH) (i:List Nat) (R:iA w c.stk (e::j) (q::i)) (fl:List iH) (F:List Nat) (d:iA w c.free fl F)
  (E:∀ b∈(q::i)++F,b≠x.d) (D:((q::i)++F).Nodup) :
  Calls prog 79 #[bT x] w fun en w'=>en=.returned (.pointer (some ⟨q,0,none⟩))∧wH x c w v e j i fl F w' q:=by
 have hc:=T.cell;have hf:=T.frozen;have HD:=Lh T;have l:q≠x.d:=E q (by simp);have a0:x.d≠q:=fun e=>l e.symm;obtain ⟨hp,nx,ok,o,Q,g⟩:=R;obtain ⟨S,aC⟩:∃ S,nx=.pointer S:=by
  rcases g.ptr with ⟨h,_⟩|⟨_,_,_,_,h,_⟩
  ·exact ⟨_,h⟩
  ·exact ⟨_,h⟩
 subst aC;obtain ⟨n,N⟩:∃ n,c.free=.pointer n:=by
  rcases d.ptr with ⟨h,_⟩|⟨_,_,_,_,h,_⟩
  ·exact ⟨_,h⟩
  ·exact ⟨_,h⟩
 have L:=o.cell;have O:=o.frozen;have ⟨HB,HR,s,X⟩:=kS o g d Q;have G:=Lh (show ∀ b,b∈i∨b∈F→¬ (b=x.d∨b=q) from fun b J P=>by
  rw [rH,List.nodup_cons] at D;rcases P with P|P
  ·exact E b (by rcases J with h|h<;>simp [h]) P
  ·subst P;exact D.1 (by rcases J with h|h<;>simp [h]))
 clear E D T Q g o d;obtain ⟨Y,Z,c3,c4,c5,c6,A,c8,c9,t,u,y,z⟩:=c;simp only at hp N;subst hp N;obtain ⟨ek,H,m,aA⟩:=e;simp only at he
 have r:∀ dp w',bR w' x.d ⟨Y,Z,c3,c4,c5,.pointer S,dp,.pointer (some ⟨q,0,none⟩),c9,t,u,y,z⟩ v→aL w' q (jA (.pointer n) (ek:Int) H m ok) 95→aJ (fun b=>b=x.d∨b=q) w w' →
   wH x ⟨Y,Z,c3,c4,c5,.pointer (some ⟨q,0,none⟩),A,.pointer n,c9,t,u,y,z⟩ w v ⟨ek,H,m,aA⟩ j i fl F w' q:=fun dp w' B C k=>
  ⟨⟨_,B,.pointer S,dp,rfl,HR.o.mod k (fun b o=>G.o b (aG o))⟩,⟨rfl,.pointer n,ok,C,X.o,s.o.mod k (fun b o=>G.o b (aU o))⟩,k⟩
 have HF:=Lh r;clear r;rcases he with rfl|rfl
 ·refine eL 41 func79 [_] fun f=>?_;simp only [aF];refine vT 5 ?_;intro K hK;refine cG [0,3] fun f=>?_;have M:bR (w.setCell ⟨x.d,12,none⟩ (.int .i64 (IntKind.i64.wrap (A-1)))) x.d ⟨Y,Z,c3,c4,c5,.pointer (some ⟨q,0,none⟩),IntKind.i64.wrap (A-1),.pointer n,c9,t,u,y,z⟩ v:=(show aL w x.d _ _ from HD.o).set 12 (.int .i64 (IntKind.i64.wrap (A-1)));have I:aL (w.setCell ⟨x.d,12,none⟩ (.int .i64 (IntKind.i64.wrap (A-1)))) q _ _:=(show aL w q _ _ from HB.o).set_ne (a:=⟨x.d,12,none⟩) l (.int .i64 (IntKind.i64.wrap (A-1)));refine bB (I5 x _ _ v M q l _ _ _ _ _ I n rfl _ ?_ f) (by kernel_rfl);intro f w' B C k;have ⟨U,V⟩:=cB B C;have W:=Lh (((aJ.refl (fun b=>b=x.d∨b=q) w).setCell (p:=⟨x.d,12,none⟩) (aG (aG rfl)) (.int .i64 (IntKind.i64.wrap (A-1)))).trans k (fun _ _ h=>h));clear B C k M I hc hf L O;revert K;refine vg ?_;refine cM ?_;exact ⟨rfl,HF.o _ _ U.o V.o W.o⟩
 ·refine eL 41 func79 [_] fun f=>?_;simp only [aF];refine vT 5 ?_;intro K hK;refine cG [0,3] fun f=>?_;refine bB (I5 x _ _ v HD.o q l _ _ _ _ _ HB.o n rfl _ ?_ f) (by kernel_rfl);intro f w' B C k;have ⟨U,V,W⟩:=kV B C k;clear B C k hc hf L O;revert K;refine vg ?_;refine cM ?_;exact ⟨rfl,HF.o _ _ U.o V.o W.o⟩
structure dR (x:Cx) (c:DC) (w:World) (v:DV) (m:Nat) (g f:List Nat) (e:DC) (w':World) (d a:List Nat):Prop where
 dec:bR w' x.d e v
 cs:∃ p q h,e={ c with stk:=p,free:=q,depth:=h }
 mod:aJ (fun b=>b=x.d∨b∈m::(g++f)) w w'
 sub:∀ b∈m::(d++a),b∈m::(g++f)∨w.heap.size≤b
theorem dR.trans {x:Cx} {c n o:DC} {w w1 t:World} {v:DV} {m:Nat} {s r g d j e:List Nat} (h:dR x c w v m s r n w1 g d) (k:dR x n w1 v m g d o t j e):dR x c w v m s r o t j e:=by
 obtain ⟨p,q,A,rfl⟩:=h.cs;obtain ⟨y,z,l,rfl⟩:=k.cs;refine ⟨k.dec,⟨y,z,l,rfl⟩,h.mod.trans k.mod (fun i B f=>?_),fun b u=>?_⟩
 ·rcases f with f|f
  ·exact aG f
  ·rcases h.sub i f with a|a
   ·exact aU a
   ·omega
 ·rcases k.sub b u with a|a
  ·exact h.sub b a
  ·exact aU (fQ h.mod.size a)
theorem iA.isPtr {w:World} {p:Value} {l:List iH} {b:List Nat} (h:iA w p l b):∃ a,p=.pointer a:=by
 rcases h.ptr with ⟨h,_⟩|⟨_,_,_,_,h,_⟩
 ·exact ⟨_,h⟩
 ·exact ⟨_,h⟩
theorem mC.pushed {x:Cx} (hx:x.Ok) {w w1 w':World} {c:DC} {v:DV} {m:Nat} {o r:List Nat} {n:Nat} {H:List iH} {W:Bs→Option Bs} (h:mC x w c v m o r n H W) (F:∀ k,x.S1 v k→k<w.heap.size) (Z:x.B≤w.heap.size) {k:Int} {q:Nat} {f:List Nat} (J:D2 x c w v k r w1 q f)
  (R:aJ (fun b=>b=q) w1 w') (e:iH) (U:Bool) (S:e.kind=1→U=e.ok) (j:aL w' q (jA c.stk e.kind e.space e.loc U) 95) :
  ∃ M,dR x c w v m o r M w' (q::o) f∧mC x w' M v m (q::o) f n (e::H) W:=by
 obtain ⟨M,hd,⟨nx,dp,rfl,Y,P⟩⟩:=J.dec;have D:=h.nodup;have G:∀ b∈m::(o++r),b≠x.d:=fun b j z=>h.s1 b j (aG (aG z));have T:q∉m::o∧q∉f∧q≠x.d∧x.B≤q∧¬ x.S1 v q∧(q∈r∨w.heap.size≤q)∧(∀ b∈f,b∈r):=by
  rcases J.fbs with rfl|⟨rfl,rfl,rfl⟩
  ·have t:(m::(o++q::f)).Nodup:=D;have u:q∈m::(o++q::f):=by simp
   refine ⟨?_,?_,G q u,h.base q u,h.s1 q u,aG (by simp),fun b j=>by simp [j]⟩
   ·intro g;have B:(m::o++q::f).Nodup:=t;exact (List.nodup_append.1 B).2.2 q g q (by simp) rfl
   ·intro g;have B:(m::o++q::f).Nodup:=t;exact (List.nodup_cons.1 (List.nodup_append.1 B).2.1).1 g
  ·refine ⟨fun g=>?_,by simp,?_,Z,fun g=>Nat.lt_irrefl _ (F _ g),aU (dF _),by simp⟩
   ·have:=h.lt w.heap.size (by simp at g ⊢;exact g);omega
   ·intro z;have:=F x.d (aG (aG rfl));omega
 obtain ⟨L,V,q3,q4,q5,X,A⟩:=T;have l:aJ (fun b=>b=x.d∨b=q) w w':=J.mod.trans R (fun i _ Q=>aU Q);have E:∀ b∈m::(o++f),¬ (b=x.d∨b=q):=by
  intro b O g;have p:b=m∨b∈o∨b∈f:=by simpa using O
  have N:b∈m::(o++r):=by
   rcases p with h|h|h
   ·simp [h]
   ·simp [h]
   ·simp [A b h]
  rcases g with g|g
  ·exact G b N g
  ·rw [g] at p;rcases p with h|h|h
   ·exact L (by simp [h])
   ·exact L (by simp [h])
   ·exact V h
 refine ⟨_,⟨aL.mod hd R (fun z=>q3 z.symm),⟨_,_,_,rfl⟩,?_,?_⟩,⟨⟨rfl,c.stk,U,j,S,h.stk.mod l (fun b j=>E b (by simp [j]))⟩,⟨Y,P.mod R (fun b j z=>V (z▸j))⟩,h.map,h.ns.mod l (E m (by simp)),?_,?_,?_⟩⟩
 ·refine ⟨l.os,l.tape,l.output,l.size,fun i Q hn=>l.block i Q (fun g=>hn ?_)⟩;rcases g with g|g
  ·exact aG g
  ·subst g;rcases X with y|y
   ·exact aU (by simp [y])
   ·omega
 ·intro b j;simp only [mF,List.mem_append,rH] at j;rcases j with d|d|d|d
  ·exact aG (by simp [d])
  ·subst d;rcases X with y|y
   ·exact aG (by simp [y])
   ·exact aU y
  ·exact aG (by simp [d])
  ·exact aG (by simp [A b d])
 ·have B:(m::o++r).Nodup:=D;have I:=List.nodup_append.1 B;have s:=List.nodup_cons.1 I.1;have C:f.Nodup:=by
   rcases J.fbs with rfl|⟨rfl,rfl,rfl⟩
   ·exact (List.nodup_cons.1 I.2.1).2
   ·simp
  rw [List.nodup_cons];refine ⟨?_,?_⟩
  ·intro g;simp only [rH,mF,List.mem_append] at g;rcases g with d|d|d
   ·exact L (by simp [d])
   ·exact s.1 d
   ·exact I.2.2 m (by simp) m (A m d) rfl
  ·rw [rH,List.nodup_cons];refine ⟨?_,?_⟩
   ·intro g;rcases List.mem_append.1 g with d|d
    ·exact L (by simp [d])
    ·exact V d
   ·rw [List.nodup_append];exact ⟨s.2,C,fun a ha b j=>I.2.2 a (by simp [ha]) b (A b j)⟩
 ·intro b j;simp only [mF,List.mem_append,rH] at j;rcases j with d|d|d|d
  ·exact h.base b (by simp [d])
  ·subst d;exact q4
  ·exact h.base b (by simp [d])
  ·exact h.base b (by simp [A b d])
 ·intro b j;simp only [mF,List.mem_append,rH] at j;rcases j with d|d|d|d
  ·exact h.s1 b (by simp [d])
  ·subst d;exact q5
  ·exact h.s1 b (by simp [d])
  ·exact h.s1 b (by simp [A b d])
theorem mC.freeNd {x:Cx} {w:World} {c:DC} {v:DV} {m:Nat} {e a:List Nat} {n:Nat} {d:List iH} {j:Bs→Option Bs} (h:mC x w c v m e a n d j):a.Nodup∧∀ b∈a,b≠x.d:=by
 have f:(m::e++a).Nodup:=h.nodup;exact ⟨(List.nodup_append.1 f).2.1,fun b g i=>h.s1 b (by simp [g]) (aG (aG i))⟩
theorem D4 (x:Cx) (F:x.Ok) (c:DC) (w:World) (v:DV) (E:bR w x.d c v) (o:∀ k,x.S1 v k→k<w.heap.size) (C:x.B≤w.heap.size) (m:Nat) (J A:List Nat) (n:Nat) (s:List iH) (I:Bs→Option Bs) (h:mC x w c v m J A n s I) (d e:Bs) (g:Bool) :
  Calls prog 38 #[bT x,aB d,aB e,.bool g] w fun O w'=>O=.returned (.tuple #[])∧∃ t r i,dR x c w v m J A t w' r i∧mC x w' t v m r i n ({ kind:=1,space:=e,loc:=d,ok:=g }::s) I:=by
 obtain ⟨P,j⟩:=h.free;obtain ⟨a,D⟩:=h.stk.isPtr;have l:=Lh (OM x c w v E 1 (aU rfl) a D P A j h.freeNd.2 h.freeNd.1);have ⟨H,N,z,L⟩:=kS h F o C;clear h F E o C j D;refine eL 25 func38 [_,_,_,_] fun f=>?_;simp only [aF];refine vg ?_;intro K hK K hK;refine l.o.mono ?_;rintro X w1 ⟨q,i,rfl,B⟩;obtain ⟨W,G,V,u⟩:=B.blk;have S:=u.cell;have T:=u.frozen;have ⟨y,M⟩:=cB u B;clear u B l;(repeat revert K);refine vS ?_;refine jL ?_;refine kA rfl ?_;have U:aJ (fun b=>b=q) w1 (((w1.setCell ⟨q,3,none⟩ (aB d)).setCell ⟨q,2,none⟩ (aB e)).setCell ⟨q,4,none⟩ (.bool g)):=(((aJ.refl (fun b=>b=q) w1).setCell (p:=⟨q,3,none⟩) (aG rfl) _).setCell (p:=⟨q,2,none⟩) (aG rfl) _).setCell (p:=⟨q,4,none⟩) (aG rfl) _;obtain ⟨t,Q,R⟩:=H.o.pushed N.o z.o L.o M.o U { kind:=1,space:=e,loc:=d,ok:=g } g (fun _=>rfl) (((y.o.set 3 (aB d)).set 2 (aB e)).set 4 (.bool g));exact ⟨rfl,t,_,_,Q,R⟩
theorem zO (x:Cx) (S:x.Ok) (c:DC) (w:World) (v:DV) (R:bR w x.d c v) (E:∀ k,x.S1 v k→k<w.heap.size) (P:x.B≤w.heap.size) (m:Nat) (O I:List Nat) (n:Nat) (r:List iH) (M:Bs→Option Bs) (h:mC x w c v m O I n r M) (nm:Bs×Bs) :
  Calls prog 39 #[bT x,.agg #[aB nm.1,aB nm.2]] w fun Y w'=>Y=.returned (.tuple #[])∧∃ G F j,dR x c w v m O I G w' F j∧mC x w' G v m F j n ({ kind:=0,space:=nm.1,loc:=nm.2,ok:=false }::r) M:=by
 have o:aJ (fun _=>False) w (w.alloc (.cells #[aB nm.1,aB nm.2] 89)):=aH ((Below.refl _ w).alloc (dF _) _) _;have u:bR (w.alloc (.cells #[aB nm.1,aB nm.2] 89)) x.d c v:=(show aL w x.d _ _ from R).alloc _;have d:mC x (w.alloc (.cells #[aB nm.1,aB nm.2] 89)) c v m O I n r M:=h.mod o (fun _ _=>id) h.s1;obtain ⟨Z,y⟩:=d.free;obtain ⟨a,Q⟩:=d.stk.isPtr;have D:=Lh (OM x c _ v u 0 (aG rfl) a Q Z I y d.freeNd.2 d.freeNd.1);have A:=aL.new w #[aB nm.1,aB nm.2] 89;have ⟨L,H,U,X,t,V⟩:=gT A d h S E P;have i:=Lh o;clear h d S R u E P y Q A o;refine eL 11 func39 [_,_] fun f=>?_;simp only [aF];refine vg ?_;intro K hK K hK;refine D.o.mono ?_;rintro e1 w1 ⟨q,j,rfl,C⟩;obtain ⟨a2,T,N,s⟩:=C.blk;have aC:=s.cell;have a1:=s.frozen;have ⟨J,W⟩:=cB s C;have B:w.heap.size≠x.d∧w.heap.size≠q:=by
  refine ⟨fun e=>?_,fun e=>?_⟩
  ·have:=t.o x.d (aG (aG rfl));omega
  ·rcases C.fbs with l|⟨_,_,l⟩
   ·have:=U.o.lt q (by rw [l];simp);omega
   ·simp at l;omega
 have g:=L.o.mod C.mod (fun z=>by rcases z with z|z;exact B.1 z;exact B.2 z);have aA:=g.cell;have a0:=g.frozen;clear s C D g;(repeat revert K);refine vS ?_;refine jL ?_;refine kA rfl ?_;have hm:aJ (fun b=>b=q) w1 ((w1.setCell ⟨q,2,none⟩ (aB nm.1)).setCell ⟨q,3,none⟩ (aB nm.2)):=((aJ.refl (fun b=>b=q) w1).setCell (p:=⟨q,2,none⟩) (aG rfl) _).setCell (p:=⟨q,3,none⟩) (aG rfl) _;obtain ⟨G,d,h2⟩:=H.o.pushed X.o (fun k hk=>pL (t.o k hk) i.o.size) (fQ V.o i.o.size) W.o hm { kind:=0,space:=nm.1,loc:=nm.2,ok:=false } N (fun h=>by cases h) ((J.o.set 2 (aB nm.1)).set 3 (aB nm.2));refine ⟨rfl,G,_,_,⟨d.dec,d.cs,(i.o.mono (fun _ _ h=>h.elim)).trans d.mod (fun _ _ h=>h),fun b s=>?_⟩,h2⟩;rcases d.sub b s with l|l
 ·exact aG l
 ·exact aU (fQ i.o.size l)
theorem kU.drewN {w:World} {m n:Nat} {a:Bs→Option Bs} (h:kU w m n a) (k:Nat):kU (w.drewN k) m n a:=h.mod (S:=fun _=>False) (aH (show Below w.heap.size w (w.drewN k) from ⟨rfl,rfl,rfl,dF _,fun _ _=>rfl⟩) _) id
abbrev jF:Bs:=[120,109,108,110,115]
theorem OO {cs:Array Value} {o:Nat} {v:Value} (h:cs[o]?=some v):cs.setIfInBounds o v=cs:=by
 apply Array.ext
 ·simp
 ·intro i b a;rw [Array.getElem_setIfInBounds a];split
  ·rename_i e;subst e;rw [Array.getElem?_eq_getElem a] at h;simpa using h.symm
  ·rfl
def kM (w:World) (g:Nat) (cs:Array Value) (t:TypeId) (o:Nat) (s:Bs) (w':World):Prop:=
 aJ (fun k=>k=g) w w'∧aL w' g (cs.setIfInBounds o (aB s)) t∧w'.heap.size=w.heap.size
theorem kM.keep {w:World} {g:Nat} {cs:Array Value} {t:TypeId} {o:Nat} {s:Bs} (a:aL w g cs t) (h:cs[o]?=some (aB s)) (k:Nat):kM w g cs t o s (w.drewN k):=
 ⟨(aJ.refl _ w).drewN k,by rw [OO h];exact a,rfl⟩
theorem kM.one {w:World} {g:Nat} {cs:Array Value} {t:TypeId} {o:Nat} (s:Bs) (a:aL w g cs t) (k:Nat):kM w g cs t o s ((w.drewN k).setCell ⟨g,o,none⟩ (aB s)):=
 ⟨((aJ.refl (fun k=>k=g) w).drewN k).setCell (p:=⟨g,o,none⟩) (aG rfl) _,(show aL (w.drewN k) g cs t from a).set o (aB s),by simp [World.setCell]⟩
theorem qF (x:Cx) (c:DC) (w:World) (v:DV) (L:bR w x.d c v) (m n:Nat) (d:Bs→Option Bs) (B:c.ns=.map (some m)) (H:kU w m n d) (I:c.space=⟨x.o.space.toArray⟩)
  (g:Nat) (cs:Array Value) (t:TypeId) (E:aL w g cs t) (P:g≠x.d) (Q:g≠m) (o:Nat) (nm:Bs×Bs) (O:cs[o]?=some (aB nm.1)) (R:cs[o+1]?=some (aB nm.2)) (hl:nm.1.length≤100000000000) (r:Bool) :
  Calls prog 40 #[bT x,.pointer (some ⟨g,o,none⟩),.bool r] w fun Z w'=>Z=.returned (.tuple #[])∧kM w g cs t o (cR x.o d nm r).1 w':=by
 have aA:x.d≠g:=fun e=>P e.symm;have hc:=L.cell;have hf:=L.frozen;have F:w.cell? ⟨g,o,none⟩=some (aB nm.1):=(E.cell o).trans O;have G:w.cell? ⟨g,o+1,none⟩=some (aB nm.2):=(E.cell (o+1)).trans R;have aC:=E.frozen;have ⟨z,HD,D,J⟩:=kS E L H O;obtain ⟨c1,c2,c3,c4,c5,c6,c7,c8,c9,V,W,X,Y⟩:=c;simp only at B I;subst B I;clear E L H O R;obtain ⟨q,j⟩:=nm;simp only at F G hl;by_cases e1:q=jF
 ·subst e1;refine eL 75 func40 [_,_,_] fun f=>?_;simp only [aF];refine vg ?_;intro K hK;refine kA rfl ?_;exact ⟨rfl,kM.keep z.o J.o 0⟩
 obtain ⟨a1,a2⟩:=rM e1;by_cases e2:q=[]
 ·subst e2;cases r with
  | false=>
   refine eL 75 func40 [_,_,_] fun f=>?_;simp only [aF];refine vg ?_;intro K hK;refine kA rfl ?_;exact ⟨rfl,kM.keep z.o J.o 0⟩
  | true=>
   by_cases e3:j=jF
   ·subst e3;refine eL 75 func40 [_,_,_] fun f=>?_;simp only [aF];refine vg ?_;intro K hK;refine kA rfl ?_;exact ⟨rfl,kM.keep z.o J.o 0⟩
   obtain ⟨b1,U⟩:=rM e3;have a:=fun k=>(D.o.drewN k).look [] (by simp);have A:=Lh (show cR x.o d ([],j) true=(match d [] with|some v=>(v,j)|none=>(x.o.space,j)) by
    unfold cR;rw [aQ (show ¬ (([]:Bs)=bD) by decide),aQ (by simp),aQ (by rintro ⟨_,_,h⟩;exact e3 h)];simp only [show ¬ (([]:Bs)=mN) by decide,if_false];cases d []<;>rfl)
   clear e1 e3;cases l:d [] with
   | some u=>
    rw [l] at a;simp only [Option.isSome_some,Option.getD_some] at a;have b:=Lh (show (cR x.o d ([],j) true).1=u by rw [A.o,l]);refine eL 75 func40 [_,_,_] fun f=>?_;simp only [aF];refine vg ?_;intro K hK;refine cG [0,1] fun f=>?_;go_quiet (fail);revert K;refine vg ?_;refine jL ?_;refine kA rfl ?_;rw [b.o];exact ⟨rfl,kM.one u z.o _⟩
   | none=>
    rw [l] at a;simp only [Option.isSome_none,Option.getD_none] at a;have b:=Lh (show (cR x.o d ([],j) true).1=x.o.space by rw [A.o,l]);refine eL 75 func40 [_,_,_] fun f=>?_;simp only [aF];refine vg ?_;intro K hK;refine cG [0,1] fun f=>?_;go_quiet (fail);revert K;refine vg ?_;refine jL ?_;refine kA rfl ?_;rw [b.o];exact ⟨rfl,kM.one x.o.space z.o _⟩
 obtain ⟨b1,U⟩:=rM e2;by_cases e3:q=uL
 ·subst e3;have y:aL (w.setCell ⟨g,o,none⟩ (aB dN)) g (cs.setIfInBounds o (aB dN)) t:=(show aL w g cs t from z.o).set o (aB dN);have C:kU (w.setCell ⟨g,o,none⟩ (aB dN)) m n d:=D.o.mod (S:=fun k=>k=g) ((aJ.refl (fun k=>k=g) w).setCell (p:=⟨g,o,none⟩) (aG rfl) _) (fun e=>Q e.symm);have a:=fun k=>(C.drewN k).look dN (by decide);have T:=Lh y;have N:=Lh (show ∀ s k,kM w g cs t o s (((w.setCell ⟨g,o,none⟩ (aB dN)).drewN k).setCell ⟨g,o,none⟩ (aB s)) from fun s k=>by
   refine ⟨(((aJ.refl (fun i=>i=g) w).setCell (p:=⟨g,o,none⟩) (aG rfl) _).drewN k).setCell (p:=⟨g,o,none⟩) (aG rfl) _,?_,by simp [World.setCell]⟩;have:=(show aL ((w.setCell ⟨g,o,none⟩ (aB dN)).drewN k) g _ t from y).set o (aB s);simpa using this)
  have M:=Lh (show ∀ k,kM w g cs t o dN ((w.setCell ⟨g,o,none⟩ (aB dN)).drewN k) from fun k=>
   ⟨((aJ.refl (fun i=>i=g) w).setCell (p:=⟨g,o,none⟩) (aG rfl) _).drewN k,y,by simp [World.setCell]⟩)
  have A:=Lh (show cR x.o d (uL,j) r=(match d dN with|some v=>(v,j)|none=>(dN,j)) by
   unfold cR;rw [aQ (show ¬ (uL=bD) by decide),aQ (by simp),aQ (by rintro ⟨h,_⟩;exact h rfl)];simp only [show uL=mN from rfl,if_true,show ¬ (dN=[]) by decide,if_false];cases d dN<;>rfl)
  clear e1 e2 y C;cases l:d dN with
  | some u=>
   rw [l] at a;simp only [Option.isSome_some,Option.getD_some,aB,dN] at a;have b:=Lh (show (cR x.o d (uL,j) r).1=u by rw [A.o,l]);cases r
   all_goals
    refine eL 75 func40 [_,_,_] fun f=>?_;simp only [aF];refine vg ?_;intro K hK;refine cG [0,1] fun f=>?_;go_quiet (fail);revert K;refine vg ?_;refine jL ?_;refine kA rfl ?_;rw [b.o];exact ⟨rfl,N.o u _⟩
  | none=>
   rw [l] at a;simp only [Option.isSome_none,Option.getD_none,aB,dN] at a;have b:=Lh (show (cR x.o d (uL,j) r).1=dN by rw [A.o,l]);cases r
   all_goals
    refine eL 75 func40 [_,_,_] fun f=>?_;simp only [aF];refine vg ?_;intro K hK;refine cG [0,1] fun f=>?_;go_quiet (fail);revert K;refine vg ?_;refine jL ?_;refine kA rfl ?_;rw [b.o];exact ⟨rfl,M.o _⟩
 ·obtain ⟨d1,d2⟩:=rM e3;have a:=fun k=>(D.o.drewN k).look q (by unfold maxLen;omega);have A:=Lh (show cR x.o d (q,j) r=(match d q with|some v=>(v,j)|none=>(q,j)) by
   unfold cR;rw [aQ (show ¬ (q=bD) from e1),aQ (by rintro ⟨h,_⟩;exact e2 h),aQ (by rintro ⟨_,h,_⟩;exact e2 h)];simp only [show ¬ (q=mN) from e3,if_false,e2];cases d q<;>rfl)
  clear e1 e2 e3;cases l:d q with
  | some u=>
   rw [l] at a;simp only [Option.isSome_some,Option.getD_some] at a;have b:=Lh (show (cR x.o d (q,j) r).1=u by rw [A.o,l]);cases r
   all_goals
    refine eL 75 func40 [_,_,_] fun f=>?_;simp only [aF];refine vg ?_;intro K hK;refine cG [0,1] fun f=>?_;go_quiet (fail);revert K;refine vg ?_;refine jL ?_;refine kA rfl ?_;rw [b.o];exact ⟨rfl,kM.one u z.o _⟩
  | none=>
   rw [l] at a;simp only [Option.isSome_none,Option.getD_none] at a;have b:=Lh (show (cR x.o d (q,j) r).1=q by rw [A.o,l]);cases r
   all_goals
    refine eL 75 func40 [_,_,_] fun f=>?_;simp only [aF];refine vg ?_;intro K hK;refine cG [0,1] fun f=>?_;go_quiet (fail);revert K;refine vg ?_;refine jL ?_;refine kA rfl ?_;rw [b.o];exact ⟨rfl,kM.keep z.o J.o _⟩
theorem mC.popped {x:Cx} {w w':World} {c:DC} {v:DV} {m q:Nat} {g f:List Nat} {n:Nat} {e:iH} {i:List iH} {u:Bs→Option Bs} (h:mC x w c v m (q::g) f n (e::i) u) {z:List iH} (k:wH x c w v e i g z f w' q) :
  ∃ l,dR x c w v m (q::g) f l w' g (q::f)∧mC x w' l v m g (q::f) n i u∧(∃ y,l.free=.pointer (some ⟨q,0,none⟩)∧∃ o,aL w' q (jA y e.kind e.space e.loc o) 95∧(e.kind=1→o=e.ok)):=by
 obtain ⟨l,B,y,D,rfl,r⟩:=k.dec;have d:∀ b,b∈m::(g++q::f)↔b∈m::((q::g)++f):=by
  intro b;simp only [mF,List.mem_append,rH];constructor
  ·rintro (h|h|h|h)
   ·exact aG h
   ·exact aU (aU (aG h))
   ·exact aU (aG h)
   ·exact aU (aU (aU h))
  ·rintro (h|h|h|h)
   ·exact aG h
   ·exact aU (aU (aG h))
   ·exact aU (aG h)
   ·exact aU (aU (aU h))
 have s:∀ b∈m::((q::g)++f),b≠x.d:=fun b a j=>h.s1 b a (aG (aG j));have p:¬ (m=x.d∨m=q):=by
  rintro (j|j)
  ·exact s m (by simp) j
  ·have:=(List.nodup_cons.1 h.nodup).1;exact this (by simp [j])
 refine ⟨_,⟨B,⟨_,_,_,rfl⟩,k.mod.mono (fun b _ a=>?_),fun b a=>aG ((d b).1 a)⟩,⟨r,⟨_,k.free⟩,h.map,h.ns.mod k.mod p,?_,fun b a=>h.base b ((d b).1 a),fun b a=>h.s1 b ((d b).1 a)⟩,?_⟩
 ·rcases a with a|a
  ·exact aG a
  ·exact aU (by simp [a])
 ·have A:(m::(q::g++f)).Nodup:=h.nodup;have:(m::(q::g++f)).Perm (m::(g++q::f)):=by
   refine List.Perm.cons m ?_;exact (List.perm_middle).symm
  exact this.nodup_iff.1 A
 ·obtain ⟨_,t,o,a,C,_⟩:=k.free;exact ⟨t,rfl,o,a,C⟩
theorem mC.turned {x:Cx} {w w':World} {c:DC} {v:DV} {m:Nat} {i g:List Nat} {n l:Nat} {f:List iH} {s e:Bs→Option Bs} (h:mC x w c v m i g n f s) (j:aJ (fun k=>k=m) w w') (r:kU w' m l e):mC x w' c v m i g l f e:=by
 obtain ⟨o,q⟩:=h.free;have d:∀ b∈i++g,¬ b=m:=fun b a p=>(List.nodup_cons.1 h.nodup).1 (p▸a);exact ⟨h.stk.mod j (fun b a=>d b (by simp [a])),⟨o,q.mod j (fun b a=>d b (by simp [a]))⟩,h.map,r,h.nodup,h.base,h.s1⟩
noncomputable def OP (n:Nat):Code:=((Tryz.f41.body).bind (Code.partAt n)).getD .skip
def kN (a:List iH):Prop:=∀ e∈a,(e.kind=0∨e.kind=1)∧e.space.length≤100000000000∧e.loc.length≤100000000000
def YS (x:Cx) (c0:DC) (w0:World) (v:DV) (m:Nat) (h e:List Nat) (o:Nat) (d:List iH) (g:Bs→Option Bs) (k:Nat) (a:Act) (w:World):Prop:=
 ∃ f c l i n b j,a=fr 179 f [(0,bT x)]∧dR x c0 w0 v m h e c w l i∧mC x w c v m l i n b j∧k=b.length∧fD d g=fD b j∧n+b.length≤o+d.length∧kN b
theorem dR.refl {x:Cx} {c:DC} {w:World} {v:DV} (e:bR w x.d c v) (m:Nat) (b a:List Nat):dR x c w v m b a c w b a:=
 ⟨e,⟨c.stk,c.free,c.depth,rfl⟩,aJ.refl _ _,fun _ d=>aG d⟩
theorem V9 (x:Cx) (hx:x.Ok) (c0:DC) (w0:World) (v:DV) (hd:bR w0 x.d c0 v) (m:Nat) (B r:List Nat) (M:Nat) (a:List iH) (o:Bs→Option Bs) (h:mC x w0 c0 v m B r M a o) (t:kN a) (hn:M+a.length≤100000000000) (Q:Exit→Act→World→Prop)
  (hQ:∀ f c w sb l n,dR x c0 w0 v m B r c w sb l→mC x w c v m sb l n (fD a o).1 (fD a o).2→n+(fD a o).1.length≤M+a.length→Q .normal (fr 179 f [(0,bT x)]) w) (f:Nat→Value) (c1:Code) (bC:c1=.loop (OP 21)) :
  c1.wp prog (Exit.inBlock 1 Q) (fr 179 f [(0,bT x)]) w0:=by
 subst bC;have ⟨HX,HQ,HN⟩:=kV hx hQ hn;refine wp_loop_ghost_k (YS x c0 w0 v m B r M a o) a.length ⟨f,c0,B,r,M,a,o,rfl,dR.refl hd m B r,h,rfl,rfl,dF _,t⟩ ?_;clear h t hd hx hQ hn;rintro k _ w ⟨f,c,sb,l,n,b6,Z,rfl,hs,D,hk,hu,hn,t⟩ J K2 hJ a3;have ⟨HJ,aC,HS,HO,HK,HU⟩:=gT hJ a3 hs D hk hu;have ⟨p,E⟩:=cB hn t;have hc:=hs.dec.cell;have hf:=hs.dec.frozen;have HD:=Lh hs.dec;clear hJ a3 hs hk hu hn t;unfold OP;conv=>arg 2;whnf
 rcases D.stk.ptr with ⟨h1,h2,Y⟩|⟨q,e,stk',sb',h1,h2,Y⟩
 ·subst h2 Y;clear D;refine vg ?_;intro K hK;refine Qk [0] fun f=>?_;have i:=HU.o;rw [show fD [] Z=([],Z) from rfl] at i;refine HQ.o f c w [] l n HS.o ?_ ?_
  ·rw [i];exact HO.o
  ·rw [i];exact p.o
 ·subst h2 Y;have b2:=D.stk;obtain ⟨_,nx,ok,C,a8,u⟩:=b2;have U:=C.cell;have b0:=C.frozen;have d:=(E.o e (by simp)).1;rcases d with d|d
  ·have i:=HU.o;have A:fD (e::stk') Z=(e::stk',Z):=by unfold fD;rw [aY d]
   rw [A] at i;have a1:=Lh i;clear D C a8 u i A;rw [d] at U;refine vg ?_;intro K hK;refine Qk [0] fun f=>?_;refine HQ.o f c w (q::sb') l n HS.o ?_ ?_
   ·rw [a1.o];exact HO.o
   ·rw [a1.o];exact p.o
  ·have A:fD (e::stk') Z=fD stk' (gO Z e.loc (if e.ok then some e.space else none)):=by
    conv=>lhs;unfold fD
    rw [aQ (by rw [d];decide)]
   have a2:=Lh (HU.o.trans A);obtain ⟨fl,a5⟩:=D.free;have Y:(m::((q::sb')++l)).Nodup:=D.nodup;have L:=Lh (ON x c w v HD.o q e (aU d) stk' sb' D.stk fl l a5 (fun b C he=>D.s1 b (List.mem_cons_of_mem _ C) (aG (aG he))) (List.nodup_cons.1 Y).2);have bA:=Lh d;rw [d] at U;clear D C a8 u A a5 Y;refine vg ?_;intro K hK K hK;refine L.o.mono ?_;rintro e1 w1 ⟨rfl,hp⟩;obtain ⟨c1,y,X,b3,a6,b4,T,a7⟩:=HO.o.popped hp;have a9:=a7 bA.o;subst a9;have hc:=y.dec.cell;have hf:=y.dec.frozen;have U:=T.cell;have b0:=T.frozen;have I:=X.map;have ⟨a0,j⟩:=cB y X;have aA:=Lh y.dec;have N:=Lh (E.o e (by simp)).2;obtain ⟨p1,p2,p3,p4,p5,p6,p7,p8,p9,F,G,H,b5⟩:=c1;simp only at I;subst I;clear hp y X T a7 L a6;cases a4:e.ok with
   | true=>
    (repeat revert K);refine vS ?_;(refine lD [0,0,0,1,0,0,0,0,1,0,0,0,0,1,2] [0,1,2,3,4,5,6,7,8,9,10,11,12,13,14] ?_;refine vP ?_;repeat with_reducible intro nq)
    refine bI rfl rfl (fun nq K hK=>?_);obtain ⟨w2,b1,s,z⟩:=(j.o.ns.drewN nq).store (by have h9:n+(e::stk').length≤M+a.length:=p.o;have:=HN.o;unfold maxLen;rw [f5] at h9;omega) e.loc e.space (by have:=N.o.2;unfold maxLen;omega) (by have:=N.o.1;unfold maxLen;omega);have ⟨O,P⟩:=cB s z;clear s z;go_simp;refine hK.out _ _ ?_;clear hK K;(refine vP ?_;repeat with_reducible intro nq)
    (try refine vg ?_)
    have g:aJ (fun k=>k=m) w1 (w2.drewN nq):=((show aJ (fun k=>k=m) w1 (w1.drewN _) from (aJ.refl _ w1).drewN _).trans (kZ P.o) (fun _ _ h=>h)).drewN nq;have R:=j.o.turned g (O.o.drewN nq);have W:x.d≠m:=fun e=>j.o.s1 m (by simp) (aG (aG e.symm));have S:dR x ⟨p1,p2,p3,p4,p5,p6,p7,p8,p9,F,G,H,.map (some m)⟩ w1 v m sb' (q::l) ⟨p1,p2,p3,p4,p5,p6,p7,p8,p9,F,G,H,.map (some m)⟩ (w2.drewN nq) sb' (q::l):=⟨aL.mod aA.o g W,⟨_,_,_,rfl⟩,g.mono (fun _ _ h=>aU (by simp [h])),fun _ C=>aG C⟩;refine Kk [0] fun f=>?_;refine aC.o _ _ ⟨stk'.length,by rw [HK.o];simp,HJ.o _ _ _ ⟨f,_,sb',q::l,n+1,stk',_,rfl,HS.o.trans (a0.o.trans S),R,rfl,?_,?_,fun e' V=>E.o e' (by simp [V])⟩⟩
    ·rw [a2.o,a4];rfl
    ·have h9:n+(e::stk').length≤M+a.length:=p.o;rw [f5] at h9;omega
   | false=>
    (repeat revert K);refine vS ?_;(refine lD [0,0,0,1,0,0,0,0,1,2] [0,1,2,3,4,5,6,7,8,9] ?_;refine vP ?_;repeat with_reducible intro nq)
    refine bI rfl rfl (fun nq K hK=>?_);obtain ⟨w2,b1,s,z⟩:=(j.o.ns.drewN nq).drop e.loc (by have:=N.o.2;unfold maxLen;omega) 0;have ⟨O,P⟩:=cB s z;clear s z;go_simp;refine hK.out _ _ ?_;clear hK K;(refine vP ?_;repeat with_reducible intro nq)
    (try refine vg ?_)
    have g:aJ (fun k=>k=m) w1 (w2.drewN nq):=((show aJ (fun k=>k=m) w1 (w1.drewN _) from (aJ.refl _ w1).drewN _).trans (kZ P.o) (fun _ _ h=>h)).drewN nq;have R:=j.o.turned g (O.o.drewN nq);have W:x.d≠m:=fun e=>j.o.s1 m (by simp) (aG (aG e.symm));have S:dR x ⟨p1,p2,p3,p4,p5,p6,p7,p8,p9,F,G,H,.map (some m)⟩ w1 v m sb' (q::l) ⟨p1,p2,p3,p4,p5,p6,p7,p8,p9,F,G,H,.map (some m)⟩ (w2.drewN nq) sb' (q::l):=⟨aL.mod aA.o g W,⟨_,_,_,rfl⟩,g.mono (fun _ _ h=>aU (by simp [h])),fun _ C=>aG C⟩;refine Kk [0] fun f=>?_;refine aC.o _ _ ⟨stk'.length,by rw [HK.o];simp,HJ.o _ _ _ ⟨f,_,sb',q::l,n,stk',_,rfl,HS.o.trans (a0.o.trans S),R,rfl,?_,?_,fun e' V=>E.o e' (by simp [V])⟩⟩
    ·rw [a2.o,a4];rfl
    ·have h9:n+(e::stk').length≤M+a.length:=p.o;rw [f5] at h9;omega
end Go.Proofs.YthapcchcahnfaaaGreatDoor
