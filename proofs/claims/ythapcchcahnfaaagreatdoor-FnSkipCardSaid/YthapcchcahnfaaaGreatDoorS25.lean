/- Part of the proof that laws.FnSkip returns true for every argument. No conditions. -/
import Derived.Test.YthapcchcahnfaaaGreatDoorS21
import Derived.Test.YthapcchcahnfaaaGreatDoorS23
import Derived.Test.YthapcchcahnfaaaGreatDoorS24
set_option linter.all false
set_option maxHeartbeats 8000000
set_option maxRecDepth 100000
namespace Go.Proofs.YthapcchcahnfaaaGreatDoor
open Go Go.RowKit Go.Proofs.Tryz
theorem s7 {P:Program} {b:Array Oper} {d:Bool} {Q:Exit→Act→World→Prop} {a:Act} {w:World} (n:Nat) (h:(Code.region n b d).wp P Q a w):(Code.region n b d).wp P Q a w:=h
theorem aE {w w':World} {a:Nat} {e:TypeId} {b:Nat} {v:Value} {n:Nat} {d:List Value} {S:Nat→Prop} (h:w.ownsRow a e b v n d) (m:aJ S w w') (j:∀ g,v.ownBlock=some g→¬ S g):w'.ownsRow a e b v n d:=by
 obtain ⟨f,c⟩:=h;refine ⟨f,?_⟩;rcases c with c|⟨g,cap,cur,rfl,k,l,i⟩
 ·exact aG c
 ·exact aU ⟨g,cap,cur,rfl,k,(show aL w g cur e from l).mod m (j g rfl),i⟩
theorem V0:(prog.info? 103).map (fun i=>(i.zero,i.size,i.bytes))=some (some (.agg #[.string ⟨#[]⟩,.string ⟨#[]⟩,.string ⟨#[]⟩]),3,48):=by kernel_rfl
theorem K1 (c:World) (b:Nat) (g:b≤c.heap.size) (v:Value) (acc:List cO) (x:acc.length≤1000000000) (h:c.ownsRow b 103 3 v acc.length (aN acc)) (a:cO) :
  ∃ v' f,(Builtin.append_ #[99,99] 99 #[v,.slice (some ⟨c.heap.size,0,none⟩) 1 1]).run prog (c.alloc (.cells #[aB a.1,aB a.2.1,aB a.2.2] 103))=.ok v' f ∧
   f.ownsRow b 103 3 v' (acc++[a]).length (aN (acc++[a]))∧(c.alloc (.cells #[aB a.1,aB a.2.1,aB a.2.2] 103)).grownBy f v.ownBlock∧v'≠.slice none 0 0∧(v'.ownBlock=v.ownBlock∨v'.ownBlock=some (c.heap.size+1)):=by
 obtain ⟨i,q,w,m,n⟩:=info_parts V0
 obtain ⟨v',f,t,s,o,d,e⟩:=run_append_own_at (P:=prog) (c.alloc (.cells #[aB a.1,aB a.2.1,aB a.2.2] 103)) b 99 99 103 i _ 3 48 underlying99 q w m n rfl (by omega) v acc.length (aN acc) (h.alloc _) ⟨c.heap.size,0,none⟩ 1 1 [aB a.1,aB a.2.1,aB a.2.2] rfl
  (by
   intro j u r;have g:=aL.new c #[aB a.1,aB a.2.1,aB a.2.2] 103;rw [show ((⟨c.heap.size,0,none⟩:Addr).add j)=⟨c.heap.size,j,none⟩ by cases j<;>simp [Addr.add],g.cell];simpa using r)
  (by
   intro u k;simp only [mF,y5,or_false] at k;rcases k with rfl|rfl|rfl<;>rfl)
  (by unfold maxLen;omega) (by omega) (by simp;omega)
 refine ⟨v',f,t,?_,o,fun p=>by have:=(d.1 p).2;omega,by simpa using e⟩;have l:aN (acc++[a])=aN acc++[aB a.1,aB a.2.1,aB a.2.2]:=by simp [aN]
 rw [l,fP];exact s
structure pK (x:Cx) (w0:World) (w:World) (v:DV) (nb:Nat) (nm:Bs×Bs) (a:Value) (acc:List cO):Prop where
 name:aL w nb #[aB nm.1,aB nm.2] 89
 nbS:¬ x.S1 v nb
 nbB:w0.heap.size≤nb
 row:w.ownsRow w0.heap.size 103 3 a acc.length (aN acc)
 rowS:∀ g,a.ownBlock=some g→¬ x.S1 v g∧g≠nb
 ne:a≠.slice none 0 0
theorem aS {w:World} {a:Nat} {e:TypeId} {c:Nat} {v:Value} {n:Nat} {k:List Value} (h:w.ownsRow a e c v n k) {g:Nat} (d:v.ownBlock=some g):g<w.heap.size∧a≤g:=by
 obtain ⟨_,f⟩:=h;rcases f with ⟨rfl,_⟩|⟨g',cap,cur,rfl,i,j,_⟩
 ·cases d
 ·have:g'=g:=by simpa [Value.ownBlock] using d
  subst this;exact ⟨aL.lt (w:=w) (b:=g') (cs:=cur) (t:=e) j,i⟩
theorem pK.step {x:Cx} {w0 w w':World} {v v':DV} {d:Nat} {nm:Bs×Bs} {c:Value} {acc:List cO} (h:pK x w0 w v d nm c acc) (b:cN x w v w' v'):pK x w0 w' v' d nm c acc:=
 ⟨h.name.mod b.mod h.nbS,b.notS1 h.nbS h.name.lt,h.nbB,aE h.row b.mod (fun g a=>(h.rowS g a).1),fun g a=>⟨b.notS1 (h.rowS g a).1 (aS h.row a).1,(h.rowS g a).2⟩,h.ne⟩
theorem pK.other {x:Cx} {w0 w w':World} {v:DV} {b:Nat} {nm:Bs×Bs} {a:Value} {acc:List cO} (h:pK x w0 w v b nm a acc) {q:Nat} (c:aJ (fun k=>k=q) w w') (d:b≠q) (e:a.ownBlock≠some q):pK x w0 w' v b nm a acc:=
 ⟨h.name.mod c d,h.nbS,h.nbB,aE h.row c (fun g i f=>e (f▸i)),h.rowS,h.ne⟩
theorem pK.below {x:Cx} {w0 w w':World} {v:DV} {c:Nat} {nm:Bs×Bs} {a:Value} {acc:List cO} (h:pK x w0 w v c nm a acc) (b:Below w.heap.size w w'):pK x w0 w' v c nm a acc:=
 ⟨h.name.mod (S:=fun _=>False) (aH b _) id,h.nbS,h.nbB,aE (S:=fun _=>False) h.row (aH b _) (fun _ _=>id),h.rowS,h.ne⟩
theorem DQ (x:Cx) (M:x.All) (c:DC) (w0:World) (w:World) (v:DV) (rest:Bs) (e:Option EK) (q:Bs) (h:cA x c w v rest e q) (G:w0.heap.size≤w.heap.size) (z:x.B≤w0.heap.size) (I:Nat) (nm:Bs×Bs) (o:Value) (acc:List cO) (b:pK x w0 w v I nm o acc) (E:acc.length≤1000000000)
  (J:Nat) (a:cO) (A:aL w J #[aB a.1,aB a.2.1,aB a.2.2] 103) (u y:Value) (Q:Exit→Act→World→Prop)
  (L:∀ f w' j,cA x c w' v rest e q→aJ (fun k=>w0.heap.size≤k) w w'→pK x w0 w' v I nm j (acc++[a])→Q .normal (fr 731 f [(0,bT x),(28,u),(29,y),(30,j)]) w') (f:Nat→Value) :
  (dQ 197).wp prog Q (fr 731 f [(0,bT x),(28,u),(29,y),(30,o),(31,.pointer (some ⟨J,0,none⟩))]) w:=by
 obtain ⟨j,N,n,m,t,F,d⟩:=K1 w w0.heap.size G o acc E b.row a;have R:=A.cell;have S:=A.frozen;have ⟨P,l,H,p,O,V⟩:=gT L b h t m M;clear L b h t m A M;unfold dQ;conv=>arg 2;whnf
 refine vB ?_;refine eP rfl (.tmp 715) (.tmp 717) _ _ rfl _ _ _ (by rw [bU (by decide)];(try simp only [aK,aO,aR,aW,Nat.reduceEqDiff,↓reduceIte]);(try rfl)) (by rw [bU (by decide)];(try simp only [aK,aO,aR,aW,Nat.reduceEqDiff,↓reduceIte]);(try rfl)) n ?_;clear n;rw [fG (by decide)];refine vg ?_;refine Qk [0,28,29,30] fun f=>?_;have B:aJ (fun _=>False) w (w.alloc (.cells #[aB a.1,aB a.2.1,aB a.2.2] 103)):=aH ((Below.refl _ w).alloc (dF _) _) _;have D:aJ (fun k=>o.ownBlock=some k) w N:=(B.mono (fun _ _ h=>h.elim)).trans (S':=fun k=>o.ownBlock=some k) ⟨p.o.os,p.o.tape,p.o.output,p.o.size,fun k b E=>p.o.block k b (fun s=>E s.symm)⟩ (fun i _ U=>U);have r:∀ k,o.ownBlock=some k→w0.heap.size≤k:=fun k b=>(aS l.o.row b).2;refine P.o f N j (H.o.mod D (fun k b s=>(l.o.rowS k s).1 b) (fun k b=>fQ z (r k b))) (D.mono (fun k _ b=>r k b)) ⟨l.o.name.mod D (fun s=>(l.o.rowS I s).2 rfl),l.o.nbS,l.o.nbB,O.o,fun g C=>?_,F⟩;rcases d with d|d
 ·exact l.o.rowS g (d▸C)
 ·rw [d] at C;have T:w.heap.size+1=g:=by simpa using C
  exact ⟨fun b=>by have:=H.o.s1lt g b;omega,by have:=l.o.name.lt;omega⟩
theorem cN.fresh {x:Cx} {w0 w1 b:World} {v0 a:DV} (h:cN x w0 v0 w1 a) (c:aJ (fun k=>w0.heap.size≤k) w1 b):cN x w0 v0 b a:=
 ⟨h.mod.trans c (fun i d e=>by omega),h.buf⟩
structure I1 (x:Cx) (w0:World) (w:World) (v:DV) (nb:Nat) (b:Value) (a:Nat) (cs:Array Value):Prop where
 blk:aL w a cs 103
 S:¬ x.S1 v a
 B:w0.heap.size≤a
 n:nb≠a
 r:b.ownBlock≠some a
theorem I1.step {x:Cx} {w0 w w':World} {v v':DV} {d:Nat} {b:Value} {a:Nat} {cs:Array Value} (h:I1 x w0 w v d b a cs) (c:cN x w v w' v'):I1 x w0 w' v' d b a cs:=
 ⟨h.blk.mod c.mod h.S,c.notS1 h.S h.blk.lt,h.B,h.n,h.r⟩
structure uH (x:Cx) (c:DC) (w0:World) (v0:DV) (w:World) (v:DV) (rest:Bs) (e:Option EK) (nb:Nat) (nm:Bs×Bs) (a:Value) (acc:List cO) (d:Nat) (cs:Array Value):Prop where
 rd:∃ b,cA x c w v rest e b
 nn:cS v
 stp:cN x w0 v0 w v
 keep:pK x w0 w v nb nm a acc
 cell:I1 x w0 w v nb a d cs
theorem uH.step {x:Cx} {c:DC} {w0:World} {v0:DV} {w:World} {v:DV} {rest:Bs} {e:Option EK} {j:Nat} {nm:Bs×Bs} {g:Value} {acc:List cO} {f:Nat} {cs:Array Value} (h:uH x c w0 v0 w v rest e j nm g acc f cs) {w':World} {v':DV} {a:Bs} {i:Option EK} (d:cN x w v w' v') (l:∃ b,cA x c w' v' a i b) (k:cS v'):uH x c w0 v0 w' v' a i j nm g acc f cs:=
 ⟨l,k,h.stp.trans d,h.keep.step d,h.cell.step d⟩
theorem uH.set {x:Cx} {c:DC} {w0:World} {v0:DV} {w:World} {v:DV} {rest:Bs} {e:Option EK} {j:Nat} {nm:Bs×Bs} {i:Value} {acc:List cO} {a:Nat} {cs:Array Value} (h:uH x c w0 v0 w v rest e j nm i acc a cs) (f:x.B≤w0.heap.size) (o:Nat) (u:Value):uH x c w0 v0 (w.setCell ⟨a,o,none⟩ u) v rest e j nm i acc a (cs.setIfInBounds o u):=by
 have g:aJ (fun k=>k=a) w (w.setCell ⟨a,o,none⟩ u):=(aJ.refl (fun k=>k=a) w).setCell (p:=⟨a,o,none⟩) (aG rfl) u;obtain ⟨b,l⟩:=h.rd;exact ⟨⟨b,l.mod g (fun k d m=>h.cell.S (m▸d)) (fun k d=>d▸fQ f h.cell.B)⟩,h.nn,h.stp.fresh (g.mono (fun k _ d=>d▸h.cell.B)),h.keep.other g h.cell.n h.cell.r,⟨h.cell.blk.set o u,h.cell.S,h.cell.B,h.cell.n,h.cell.r⟩⟩
def gI (o:cV) (nm:Bs×Bs) (r:Bs):Except EK (cO×Bs):=
 match aT r with
 | []=>.error (bY o.fails)
 | b::r4=>
  if b=61 then
   match dY o (aT r4) with
   | .error e=>.error e
   | .ok (v,r5)=>.ok ((nm.1,nm.2,v),r5)
  else if o.strict then .error .syn else .ok ((nm.1,nm.2,nm.2),b::r4)
theorem GG (o:cV) (r:Bs):gF o r=match cL o.fails r with
 | .error e=>.error e
 | .ok (nm,r2)=>gI o nm r2:=by
 unfold gF gI;rfl
theorem R6 (x:Cx) (hx:x.All) (c:DC) (X:hY x c) (bA:rS x c) (w0:World) (v0:DV) (w:World) (v:DV) (rest:Bs) (a3:x.B≤w0.heap.size) (nb:Nat) (nm:Bs×Bs) (av:Value) (acc:List cO) (hn:acc.length≤1000000000) (O:Nat) (i:Bs×Bs)
  (h:uH x c w0 v0 w v rest none nb nm av acc O #[aB i.1,aB i.2,aB []]) (L M:Value) (Q:Exit→Act→World→Prop)
  (bC:∀ a r5,gI x.o i rest=.ok (a,r5)→∀ f w' v' e' b' t,cA x c w' v' r5 e' b'→cS v'→cN x w0 v0 w' v'→pK x w0 w' v' nb nm t (acc++[a])→Q .normal (fr 731 f [(0,bT x),(28,L),(29,M),(30,t)]) w')
  (P:∀ k,gI x.o i rest=.error k→∀ f w' v',iQ x c w' v' k→cN x w0 v0 w' v'→Q .ret (fr 731 f [(2,.nilIface),(3,v'.err)]) w') (f:Nat→Value) :
  (dQ 182).wp prog Q (fr 731 f [(0,bT x),(28,L),(29,M),(30,av),(31,.pointer (some ⟨O,0,none⟩))]) w:=by
 have ⟨N,HD,b4,a0,y⟩:=pM hx X bA bC P;obtain ⟨b0,b1⟩:=h.rd;have D:=Lh (sQ x hx.toOk c X w v rest none b0 b1);have ⟨HA,F,HN⟩:=kV h a3 hn;clear hx X bA bC P h b1 a3 hn;unfold dQ;conv=>arg 2;whnf
 refine vg ?_;intro K hK K hK;refine D.o.mono ?_;rintro e1 w1 ⟨rfl,v1,c8,q⟩;have E:=Lh (HA.o.step (q.mod.stp q.bufv) ⟨b0,q.rd⟩ (HA.o.nn.of_eq q.bufv));have H:=Lh q.rd;clear q D HA;cases hw:aT rest with
 | nil=>
  have o:=Lh (show gI x.o i rest=.error (bY x.o.fails) by unfold gI;rw [hw]);have B:=Lh (bN x N.o.toOk c HD.o w1 v1 _ b0 (by have:=H.o;rw [hw] at this;exact this));clear hw;(repeat revert K);refine vS ?_;intro K hK K hK K hK;refine B.o.mono ?_;rintro e2 w2 ⟨rfl,v2,z,u,A⟩;have b5:=Lh (E.o.stp.s0 A u);obtain ⟨t1,u1,aA⟩:=z.err.iface;have HE:=Lh z;have hc:=z.dec.cell;have hf:=z.dec.frozen;have HU:=Lh aA;clear z A u B;(repeat revert K);refine vS ?_;intro K hK K hK
  ((refine cG [0] fun f=>?_);go_quiet (fail);((repeat revert K);refine vg ?_;intro K hK);refine Qk [2,3] fun f=>?_)
  rw [←HU.o];exact y.o _ o.o f _ v2 (HE.o.drewN _) (b5.o.drawn _)
 | cons b r4=>
  have B:=Lh (bK x N.o.toOk c HD.o w1 v1 b r4 _ b0 (by have:=H.o;rw [hw] at this;exact this));have a2:=Lh (show (b::r4) <:+ x.T by have:=H.o.suf;rw [hw] at this;exact this)
  have I:=Lh (show gI x.o i rest=(if b=61 then
   match dY x.o (aT r4) with
   | .error e=>.error e
   | .ok (v,r5)=>.ok ((i.1,i.2,v),r5)
  else if x.o.strict then .error .syn else .ok ((i.1,i.2,i.2),b::r4)) by unfold gI;rw [hw])
  clear hw;(repeat revert K);refine vS ?_;intro K hK K hK K hK;refine B.o.mono ?_;rintro e2 w2 ⟨rfl,v2,h2,a8,u,A,c4⟩;have p:=Lh (E.o.step (A.stp u) ⟨b0,h2⟩ (E.o.nn.of_eq u));have ⟨s,aC⟩:=cB h2 a8;clear h2 a8 u A c4 B E H;by_cases T:b=61
  ·subst T;have D:=Lh (sQ x N.o.toOk c HD.o w2 v2 r4 none b0 s.o);(repeat revert K);refine vS ?_;intro K hK K hK K hK;refine D.o.mono ?_;rintro e3 w3 ⟨rfl,v3,cT,q⟩;have r:=Lh (p.o.step (q.mod.stp q.bufv) ⟨b0,q.rd⟩ (p.o.nn.of_eq q.bufv));have a4:=Lh (KV x N.o c HD.o b4.o w3 v3 (aT r4) cT b0 q.rd (p.o.nn.of_eq q.bufv));clear q D p s aC;(repeat revert K);refine vS ?_;intro K hK K hK K hK;refine a4.o.mono ?_;rintro e4 w4 ⟨v4,b2,J⟩;have a1:=Lh b2;clear b2 a4;cases m:dY x.o (aT r4) with
   | error k=>
    rw [m] at J;obtain ⟨rfl,z⟩:=J;have o:=Lh (show gI x.o i rest=.error k by rw [I.o,aY rfl,m]);obtain ⟨t1,u1,aA⟩:=z.err.iface;have hc:=z.dec.cell;have hf:=z.dec.frozen;have ⟨HE,HU⟩:=cB z aA;clear z m;have q1:=fun w=>N5 w;(repeat revert K);refine vS ?_;intro K hK K hK K hK
    ((refine cG [0] fun f=>?_);go_quiet (fail);((repeat revert K);refine vg ?_;intro K hK K hK);refine Qk [2,3] fun f=>?_)
    rw [←HU.o];exact y.o _ o.o f _ v4 (HE.o.drewN _) ((r.o.stp.trans a1.o).drawn _)
   | ok dr=>
    obtain ⟨d,r'⟩:=dr;rw [m] at J;obtain ⟨g,b9,e',b',rfl,hR,V,a6,c2,_⟩:=J;have o:=Lh (show gI x.o i rest=.ok ((i.1,i.2,d),r') by rw [I.o,aY rfl,m]);have a5:=(hR.bf.part V a6 c2).1;have c1:=uG d w4 g 0 b9 a5;have G:=Lh (show cS v4 from ⟨g,by rw [V];rfl⟩);have R:=Lh (r.o.step a1.o ⟨b',hR⟩ G.o);have W:=R.o.cell.blk.cell;have Y:=R.o.cell.blk.frozen;have HR:=Lh hR;clear hR V a6 m a5;have q1:=fun a l c w=>GD a l c w;have S:=Lh (R.o.set F.o 2 (aB d));go_simp;(repeat ((fail_if_success with_reducible refine s7 197 ?_);(first|(with_reducible first|refine zA fun K hK=>?_|refine zB ?_|refine zC ?_)|((with_reducible first|refine zD rfl fun K hK=>?_|refine zE fun K hK=>?_);go_simp)|(with_reducible first|((repeat ((fail_if_success refine hK _ _ ?_);clear hK K));refine hK _ _ ?_;clear hK K)|refine zt ?_|refine zf ?_|refine zG ?_|refine zR ?_|refine zK ?_|refine zL ?_|refine zN ?_|refine zS ?_)|simp only [Exit.then,Exit.inBlock,Exit.noGoto,↓reduceIte,Nat.reduceEqDiff]|simp only [undef,reduceCtorEq,↓reduceIte])));refine cG [0,28,29,30,31] fun f=>?_;have j:Hx (uH x c w0 v0 (w4.setCell ⟨O,2,none⟩ (aB d)) v4 r' e' nb nm av acc O #[aB i.1,aB i.2,aB d]):=S.o;obtain ⟨b6,C⟩:=j.o.rd;refine bB (DQ x N.o c w0 _ v4 r' e' b6 C (j.o.stp.mod.size) F.o nb nm av acc j.o.keep HN.o O (i.1,i.2,d) j.o.cell.blk L M _ ?_ f) (by kernel_rfl);intro f w' t hr hm hk;have ⟨HH,HK⟩:=cB hr hk;have HS:=Lh (j.o.stp.fresh hm);clear hr hm hk C W Y q1 c1;refine vg ?_;exact a0.o _ _ o.o f w' v4 e' b6 t HH.o G.o HS.o HK.o
  ·have c9:=eS (n:=61) T rfl;have c7:=pZ (n:=61) T rfl;have hc:=s.o.dec.cell;have hf:=s.o.dec.frozen;cases Z:c.strict with
   | true=>
    have o:=Lh (show gI x.o i rest=.error .syn by rw [I.o,aQ T,aY (by rw [←HD.o.strict];exact Z)]);have b7:=Lh (fun c6=>gH N.o.toOk s.o c6);clear T;(repeat revert K);refine vS ?_;intro K hK K hK K hK K hK;refine (b7.o _).mono ?_;rintro e5 w5 ⟨a9,rfl,hS⟩;have dI:=hS.dec.cell;have dT:=hS.dec.frozen;have HS:=Lh hS;clear hS hc hf;(repeat revert K);refine vS ?_;intro K hK K hK K hK
    ((refine cG [0] fun f=>?_);go_quiet (fail);((repeat revert K);refine vg ?_;intro K hK K hK);refine Qk [2,3] fun f=>?_)
    exact y.o _ o.o f _ { v2 with err:=vZ a9 } (HS.o.err.drewN _) ((p.o.stp.trans HS.o.stp).drawn _)
   | false=>
    have o:=Lh (show gI x.o i rest=.ok ((i.1,i.2,i.2),b::r4) by rw [I.o,aQ T,aQ (by rw [←HD.o.strict,Z];simp)]);have b3:=Lh (gG x N.o.toOk c w2 v2 b r4 b0 s.o aC.o a2.o);clear T;(repeat revert K);refine vS ?_;intro K hK K hK K hK;refine b3.o.mono ?_;rintro e3 w3 ⟨rfl,v3,h3,c3,U,a7,c5⟩;have r:=Lh (p.o.step (a7.stp U) ⟨b0,h3⟩ (p.o.nn.of_eq U));have W:=r.o.cell.blk.cell;have Y:=r.o.cell.blk.frozen;clear h3 c3 U a7 c5 b3 hc hf Z;have S:=Lh (r.o.set F.o 2 (aB i.2));go_simp;(repeat ((fail_if_success with_reducible refine s7 197 ?_);(first|(with_reducible first|refine zA fun K hK=>?_|refine zB ?_|refine zC ?_)|((with_reducible first|refine zD rfl fun K hK=>?_|refine zE fun K hK=>?_);go_simp)|(with_reducible first|((repeat ((fail_if_success refine hK _ _ ?_);clear hK K));refine hK _ _ ?_;clear hK K)|refine zt ?_|refine zf ?_|refine zG ?_|refine zR ?_|refine zK ?_|refine zL ?_|refine zN ?_|refine zS ?_)|simp only [Exit.then,Exit.inBlock,Exit.noGoto,↓reduceIte,Nat.reduceEqDiff]|simp only [undef,reduceCtorEq,↓reduceIte])));refine cG [0,28,29,30,31] fun f=>?_;have j:Hx (uH x c w0 v0 (w3.setCell ⟨O,2,none⟩ (aB i.2)) v3 (b::r4) none nb nm av acc O #[aB i.1,aB i.2,aB i.2]):=S.o;obtain ⟨b6,C⟩:=j.o.rd;refine bB (DQ x N.o c w0 _ v3 (b::r4) none b6 C (j.o.stp.mod.size) F.o nb nm av acc j.o.keep HN.o O (i.1,i.2,i.2) j.o.cell.blk L M _ ?_ f) (by kernel_rfl);intro f w' t hr hm hk;have ⟨HH,HK⟩:=cB hr hk;have HS:=Lh (j.o.stp.fresh hm);have G:=Lh j.o.nn;clear hr hm hk C W Y;refine vg ?_;exact a0.o _ _ o.o f w' v3 none b6 t HH.o G.o HS.o HK.o
theorem iQ.other {x:Cx} {c:DC} {w w':World} {v:DV} {k:EK} (h:iQ x c w v k) {q:Nat} (a:aJ (fun i=>i=q) w w') (f:q≠x.d) (b:x.B≤q):iQ x c w' v k:=
 ⟨aJ.below h.base h.base.size a (fun i e=>e▸b),aL.mod h.dec a (fun d=>f d.symm),h.err⟩
theorem cA.turn {x:Cx} (d:x.Ok) {c j:DC} {w w':World} {v:DV} {rest:Bs} {e:Option EK} {b:Bs} (h:cA x c w v rest e b) (l:bR w' x.d j v) (g:aJ (fun k=>k=x.d) w w'):cA x j w' v rest e b:=by
 obtain ⟨n,i,m⟩:=h.inp;exact ⟨aJ.below h.base h.base.size g (fun k f=>f▸d.d),l,⟨n,i.mod g (fun a=>d.ne1 a.symm) (fun a=>d.ne2 a.symm) (fun a=>d.ne3 a.symm),m⟩,h.pos,h.err,h.fin,h.bf.mod g (fun k f a=>h.bf.notS0 k f (aG a))⟩
theorem YN (x:Cx) (hx:x.All) (c:DC) (aC:hY x c) (a4:rS x c) (w0:World) (v0:DV) (w:World) (v:DV) (rest:Bs) (Z:Bs) (h:cA x c w v rest none Z) (a2:cS v) (hs:cN x w0 v0 w v) (q:x.B≤w0.heap.size) (N:Nat) (nm:Bs×Bs) (G:Value) (acc:List cO) (F:pK x w0 w v N nm G acc) (u:acc.length≤1000000000)
  (O P:Value) (Q:Exit→Act→World→Prop)
  (a6:∀ a r5,gF x.o rest=.ok (a,r5)→∀ f w' v' e' b' z,cA x c w' v' r5 e' b'→cS v'→cN x w0 v0 w' v'→pK x w0 w' v' N nm z (acc++[a])→Q .normal (fr 731 f [(0,bT x),(28,O),(29,P),(30,z)]) w')
  (E:∀ k,gF x.o rest=.error k→∀ f w' v',iQ x c w' v' k→cN x w0 v0 w' v'→Q .ret (fr 731 f [(2,.nilIface),(3,v'.err)]) w') (f:Nat→Value) :
  (dQ 176).wp prog Q (fr 731 f [(0,bT x),(28,O),(29,P),(30,G)]) w:=by
 have B:Below w.heap.size w (w.alloc (.cells #[aB [],aB [],aB []] 103)):=(Below.refl _ w).alloc (dF _) _
 have H:uH x c w0 v0 (w.alloc (.cells #[aB [],aB [],aB []] 103)) v rest none N nm G acc w.heap.size #[aB [],aB [],aB []]:=
  ⟨⟨Z,h.below hx.toOk B⟩,a2,hs.below B,F.below B,⟨aL.new w _ _,h.newS1,hs.mod.size,by have:=F.name.lt;omega,fun he=>by have:=(aS F.row he).1;omega⟩⟩
 have ⟨HX,HD,b4,b5,n,m⟩:=gT hx aC a4 a6 E q;have HN:=Lh u;have a8:=Lh (((H.set q 0 (aB [])).set q 1 (aB [])).set q 2 (aB []));have V:=Lh H;have W:=Lh (GG x.o rest);clear hx aC a4 a6 E q u B H h a2 hs F;unfold dQ;conv=>arg 2;whnf
 refine vT 177 ?_;refine cG [0,28,29,30,31] fun f=>?_;obtain ⟨l,I⟩:=cK w.heap.size;obtain ⟨w1,M⟩:=cK (w.alloc (.cells #[aB [],aB [],aB []] 103));have y:Hx (uH x c w0 v0 w1 v rest none N nm G acc l #[aB [],aB [],aB []]):=by rw [M,I];exact V.o
 rw [show w.alloc (.cells #[.string ⟨#[]⟩,.string ⟨#[]⟩,.string ⟨#[]⟩] 103)=w1 from M.symm,←I];clear a8 V M I;obtain ⟨b1,a7⟩:=y.o.rd;have a5:=Lh (xG x HX.o.toFit c HD.o w1 v rest none b1 a7);clear a7;refine vg ?_;intro K hK K hK K hK;refine a5.o.mono ?_;rintro e2 w2 ⟨U,D,C⟩;have d:=Lh (y.o.cell.step D);have b2:=Lh (y.o.keep.step D);have X:=Lh (y.o.stp.trans D);have J:=d.o.blk.cell;have L:=d.o.blk.frozen;have b7:x.d≠l:=fun e=>d.o.S (aG (aG e.symm));have b9:l≠x.d:=fun e=>b7 e.symm;clear D a5;cases u:cL x.o.fails rest with
 | error k=>
  rw [u] at C;obtain ⟨o,rfl,a3⟩:=C;have g:=Lh (show gF x.o rest=.error k by rw [W.o,u]);have hm:aJ (fun i=>i=l) w2 ((w2.setCell ⟨l,0,none⟩ (aB o.1)).setCell ⟨l,1,none⟩ (aB o.2)):=((aJ.refl (fun i=>i=l) w2).setCell (p:=⟨l,0,none⟩) (aG rfl) _).setCell (p:=⟨l,1,none⟩) (aG rfl) _;have Y:=Lh (X.o.fresh (hm.mono (fun i _ hi=>hi▸d.o.B)));rcases a3 with S|⟨rfl,r,b,T⟩
  ·have A:=S.other hm b9 (fQ m.o d.o.B);obtain ⟨t1,u1,cT⟩:=S.err.iface;have b0:=Lh A;have hc:=A.dec.cell;have hf:=A.dec.frozen;have HU:=Lh cT;clear S A hm u;(repeat revert K);refine vS ?_;intro K hK K hK
   ((refine cG [0] fun f=>?_);go_quiet (fail);((repeat revert K);refine vg ?_;intro K hK);refine Qk [2,3] fun f=>?_)
   rw [←HU.o];exact n.o _ g.o f _ U (b0.o.drewN _) (Y.o.drawn _)
  ·have s:=T.mod hm (fun k F he=>d.o.S (he▸F)) (fun k F=>F▸fQ m.o d.o.B);have he:U.err=.nilIface:=s.err;have hc:=s.dec.cell;have hf:=s.dec.frozen;have b6:=Lh (fun c1=>gH HX.o.toOk s c1);clear T s hm u;(repeat revert K);refine vS ?_;intro K hK K hK K hK;refine (b6.o _).mono ?_;rintro e3 w3 ⟨a9,rfl,hS⟩;have c2:=hS.dec.cell;have c3:=hS.dec.frozen;have R:=Lh hS;clear hS hc hf he J L;(repeat revert K);refine vS ?_;intro K hK K hK
   ((refine cG [0] fun f=>?_);go_quiet (fail);((repeat revert K);refine vg ?_;intro K hK);refine Qk [2,3] fun f=>?_)
   exact n.o _ g.o f _ { U with err:=vZ a9 } (R.o.err.drewN _) ((Y.o.trans R.o.stp).drawn _)
 | ok p=>
  obtain ⟨o,r⟩:=p;rw [u] at C;obtain ⟨rfl,b,aA,T⟩:=C;have g:=Lh (show gF x.o rest=gI x.o o r by rw [W.o,u]);have bA:Hx (uH x c w0 v0 w2 U r none N nm G acc l #[aB [],aB [],aB []]):=⟨⟨b,T⟩,T.nonnil aA,X.o,b2.o,d.o⟩;have bC:Hx (uH x c w0 v0 ((w2.setCell ⟨l,0,none⟩ (aB o.1)).setCell ⟨l,1,none⟩ (aB o.2)) U r none N nm G acc l #[aB o.1,aB o.2,aB []]):=(bA.o.set m.o 0 (aB o.1)).set m.o 1 (aB o.2);clear T u;go_simp;(repeat revert K);refine vT 182 ?_;refine cG [0,28,29,30,31] fun f=>?_;refine bB (R6 x HX.o c HD.o b4.o w0 v0 _ U r m.o N nm G acc HN.o l o bC.o O P _ ?_ ?_ f) (by kernel_rfl)
  ·intro a r5 j f w' v' e' b' z hr a1 t a0;have ⟨HR,b3,R,HK⟩:=kS hr a1 t a0;have HG:=Lh (show gF x.o rest=.ok (a,r5) by rw [g.o,j]);clear hr a1 t a0 j J L;refine vg ?_;exact b5.o a r5 HG.o f w' v' e' b' z HR.o b3.o R.o HK.o
  ·intro k j f w' v' S t;have ⟨HE,R⟩:=cB S t;have HG:=Lh (show gF x.o rest=.error k by rw [g.o,j]);clear S t j J L;refine vg ?_;exact n.o k HG.o f w' v' HE.o R.o
def B2 (x:Cx) (c:DC) (w:World) (v:DV) (R:Except EK (((Bs×Bs)×List cO)×Bool×Bs)) (t e:Value) (w':World):Prop:=
 ∃ v',cN x w v w' v'∧match R with
  | .error k=>t=.nilIface∧e=v'.err∧iQ x c w' v' k
  | .ok ((nm,ats),em,r)=>e=.nilIface∧∃ b,cA x (c.closing nm em) w' v' r none b∧iB w' v'.bufv w.heap.size t (.start nm ats)∧v'.nb=-1
theorem UU (x:Cx) (G:x.All) (c:DC) (w0:World) (v0:DV) (w:World) (v:DV) (rest:Bs) (b:Bs) (h:cA x c w v rest none b) (n:v.nb=-1) (F:cN x w0 v0 w v) (r:Nat) (nm:Bs×Bs) (u:Value) (acc:List cO) (a:pK x w0 w v r nm u acc) (em:Bool)
  (Q:Exit→Act→World→Prop) (D:∀ f w' t e,B2 x c w0 v0 (.ok ((nm,acc),em,rest)) t e w'→Q .ret (fr 731 f [(2,t),(3,e)]) w') (f:Nat→Value) :
  (dQ 198).wp prog Q (fr 731 f [(0,bT x),(28,.pointer (some ⟨r,0,none⟩)),(29,.bool em),(30,u)]) w:=by
 have O:=h.dec.cell;have P:=h.dec.frozen;have J:=a.name.cell;have L:=a.name.frozen;obtain ⟨g0,l,z⟩:∃ g d,u=.slice (some ⟨g,0,none⟩) acc.length d:=by
  rcases a.row.2 with ⟨y,_⟩|⟨g,d,cur,y,_⟩
  ·exact absurd y a.ne
  ·exact ⟨g,d,y⟩
 subst z;have o:r≠x.d:=fun e=>a.nbS (aG (aG e));have E:x.d≠r:=fun e=>o e.symm;have ⟨B,H,C,q,j,I⟩:=gT D h F a n G;have m:∀ g,(Value.slice (some ⟨g0,0,none⟩) acc.length l).ownBlock=some g→¬ g=x.d:=fun g M e=>(a.rowS g M).1 (aG (aG e));have s:=Lh m;clear D h F a G m n;unfold dQ;conv=>arg 2;whnf
 cases em with
 | false=>
  refine vg ?_;refine Qk [2,3] fun f=>?_;exact B.o f w _ _ ⟨v,C.o,rfl,b,H.o,⟨_,rfl,q.o.ne,q.o.row⟩,j.o⟩
 | true=>
  refine vg ?_;refine Qk [2,3] fun f=>?_
  have A:aJ (fun k=>k=x.d) w (((w.setCell ⟨x.d,14,none⟩ (.bool true)).setCell ⟨x.d,15,none⟩ (aB nm.1)).setCell ⟨x.d,16,none⟩ (aB nm.2)):=
   (((aJ.refl (fun k=>k=x.d) w).setCell (p:=⟨x.d,14,none⟩) (aG rfl) _).setCell (p:=⟨x.d,15,none⟩) (aG rfl) _).setCell (p:=⟨x.d,16,none⟩) (aG rfl) _
  refine B.o f _ _ _ ⟨v,C.o.s0 (A.mono (fun i _ N=>aG N)) rfl,rfl,b,H.o.turn I.o.toOk ?_ A,⟨_,rfl,q.o.ne,aE q.o.row A s.o⟩,j.o⟩;exact (((show aL w x.d _ _ from H.o.dec).set 14 (.bool true)).set 15 (aB nm.1)).set 16 (aB nm.2)
def OB (f:Bool) (acc:List cO):Bs→Except EK (List cO×Bool×Bs)
 | []=>.error (bY f)
 | c::r3=>if c=62 then .ok (acc,true,r3) else .error .syn
def YO (x:Cx) (c:DC) (w0:World) (v0:DV) (h:Nat) (nm:Bs×Bs) (d:Bs) (k:Nat) (a:Act) (w:World):Prop:=
 ∃ f v rest e b g acc,a=fr 731 f [(0,bT x),(28,.pointer (some ⟨h,0,none⟩)),(29,.bool false),(30,g)]∧cA x c w v rest e b∧cS v∧cN x w0 v0 w v∧pK x w0 w v h nm g acc∧k=rest.length ∧
  (∀ K,rest.length<K→dL x.o (d.length+1) d []=dL x.o K rest acc)∧acc.length+rest.length≤d.length
theorem OC (x:Cx) (hx:x.All) (c:DC) (g8:hY x c) (a8:rS x c) (w:World) (v:DV) (b:UInt8) (rest:Bs) (d2:Bs) (h:cA x c w v rest none d2) (W:v.nb=-1) (Z:(b::rest) <:+ x.T) (Q:Exit→Act→World→Prop)
  (hQ:∀ f w' t e,B2 x c w v (fB x.o (b::rest)) t e w'→Q .ret (fr 731 f [(2,t),(3,e)]) w') (f:Nat→Value) :
  (dQ 152).wp prog Q (fr 731 f [(0,bT x),(4,.int .u8 b.toNat)]) w:=by
 have aC:=Lh (gG x hx.toOk c w v b rest d2 h W Z);have ⟨O,HD,hX,HQ⟩:=kS hx g8 a8 hQ;have d7:=Lh (show x.B≤w.heap.size from h.base.size);have h0:=Lh (show (b::rest).length≤1000000000 from fQ (Z.length_le) hx.len);have H:=Lh h;clear hx g8 a8 hQ h W Z;unfold dQ;conv=>arg 2;whnf
 refine vg ?_;intro K hK K hK;refine aC.o.mono ?_;rintro e1 w1 ⟨rfl,v1,h1,i1,g4,hG,i3⟩;have dI:=Lh ((cN.refl x w v).s0 hG g4);have g2:Below w1.heap.size w1 (w1.alloc (.cells #[.string ⟨#[]⟩,.string ⟨#[]⟩] 89)):=(Below.refl _ w1).alloc (dF _) _;have hL:=Lh (xG x O.o.toFit c HD.o _ v1 (b::rest) none d2 (h1.below O.o.toOk g2));have hq:=aL.new w1 #[.string ⟨#[]⟩,.string ⟨#[]⟩] 89;have f3:=Lh (dI.o.alloc (.cells #[.string ⟨#[]⟩,.string ⟨#[]⟩] 89));have f1:=Lh hq;have c6:=Lh h1.newS1;have gB:=Lh dI.o.mod.size;clear h1 i1 g4 hG i3 aC g2 hq dI;(repeat revert K);refine vS ?_;intro K hK K hK K hK;refine hL.o.mono ?_;rintro e2 w2 ⟨v2,bC,bA⟩;have hD:w1.heap.size<(w1.alloc (.cells #[.string ⟨#[]⟩,.string ⟨#[]⟩] 89)).heap.size:=by simp
 have N:=bC.notS1 c6.o hD;have X:=f1.o.mod bC.mod c6.o;have dT:=Lh (f3.o.trans bC);obtain ⟨S,a7⟩:=cK w1.heap.size;rw [←a7] at N X;have ⟨c7,a0⟩:=cB X N;have A:=Lh (show w.heap.size≤S by rw [a7];exact gB.o);have g7:=X.cell;have g9:=X.frozen;have h5:x.d≠S:=fun e=>N (aG (aG e.symm));have i8:S≠x.d:=fun e=>h5 e.symm;have T:=Lh (fQ d7.o A.o);rw [←a7];clear bC X N hD hL f3 f1 c6 gB a7;cases W:cL x.o.fails (b::rest) with
 | error k=>
  rw [W] at bA;obtain ⟨nm,rfl,a8⟩:=bA;have j:=Lh (show fB x.o (b::rest)=.error k by unfold fB;rw [W]);rcases a8 with u|⟨rfl,r,b',hR⟩
  ·obtain ⟨a5,hm⟩:=qA u c7.o a0.o T.o nm;have L:=Lh (dT.o.new A.o hm);obtain ⟨t1,u1,aA⟩:=u.err.iface;have hO:=Lh a5;have hc:=a5.dec.cell;have hf:=a5.dec.frozen;have HU:=Lh aA;clear u a5 hm W;(repeat revert K);refine vS ?_;intro K hK K hK
   ((refine cG [0] fun f=>?_);go_quiet (fail);((repeat revert K);refine vg ?_;intro K hK);refine Qk [2,3] fun f=>?_)
   exact HQ.o f _ _ _ ⟨v2,L.o.drawn _,by rw [j.o];exact ⟨rfl,HU.o.symm,hO.o.drewN _⟩⟩
  ·obtain ⟨C,a4,hm⟩:=o6 hR c7.o a0.o T.o nm;have L:=Lh (dT.o.new A.o hm);have he:v2.err=.nilIface:=C.err;have hc:=C.dec.cell;have hf:=C.dec.frozen;have d1:=Lh (fun d5=>gH O.o.toOk C d5);clear hR C a4 hm W;(repeat revert K);refine vS ?_;intro K hK K hK K hK;refine (d1.o _).mono ?_;rintro e3 I ⟨a9,rfl,hS⟩;have h4:=hS.dec.cell;have h7:=hS.dec.frozen;have HS:=Lh hS;clear hS hc hf he g7 g9;(repeat revert K);refine vS ?_;intro K hK K hK
   ((refine cG [0] fun f=>?_);go_quiet (fail);((repeat revert K);refine vg ?_;intro K hK);refine Qk [2,3] fun f=>?_)
   exact HQ.o f _ _ _ ⟨_,(L.o.trans HS.o.stp).drawn _,by rw [j.o];exact ⟨rfl,rfl,HS.o.err.drewN _⟩⟩
 | ok p=>
  obtain ⟨nm,r⟩:=p;rw [W] at bA;obtain ⟨rfl,b2,g6,hR⟩:=bA;obtain ⟨C,a4,hm⟩:=o6 hR c7.o a0.o T.o nm;have L:=Lh (dT.o.new A.o hm);have hW:=Lh (hR.nonnil g6);have j:=Lh (show fB x.o (b::rest)=(match dL x.o (r.length+1) r [] with|.error e=>.error e|.ok (ats,em,r2)=>.ok ((nm,ats),em,r2)) by unfold fB;rw [W];rfl);have c9:=Lh (show r.length≤1000000000 from by have:=(jK W).2;have:=h0.o;omega);have ⟨c8,d6⟩:=cB C a4;clear hR C a4 hm W;(repeat revert K);refine vS ?_;intro K hK;refine cG [0,28,29,30] fun f=>?_;obtain ⟨I,G⟩:=cK ((w2.setCell ⟨S,0,none⟩ (aB nm.1)).setCell ⟨S,1,none⟩ (aB nm.2));have d3:Below I.heap.size I (I.alloc (.cells #[] 103)):=(Below.refl _ I).alloc (dF _) _;have f2:=Lh (show cA x c (I.alloc (.cells #[] 103)) v2 r none b2 by rw [G] at d3 ⊢;exact c8.o.below O.o.toOk d3);have f4:=Lh (show cN x w v (I.alloc (.cells #[] 103)) v2 by rw [G];exact L.o.alloc _);have d8:=Lh (show pK x w (I.alloc (.cells #[] 103)) v2 S nm (.slice (some ⟨I.heap.size,0,none⟩) 0 0) [] by
   have hb:aL I S #[aB nm.1,aB nm.2] 89:=by rw [G];exact d6.o
   have hw:w.heap.size≤I.heap.size:=by rw [G];exact L.o.mod.size
   have i2:cA x c I v2 r none b2:=by rw [G];exact c8.o
   refine ⟨hb.alloc _,a0.o,A.o,⟨rfl,aU ⟨I.heap.size,0,#[],rfl,hw,aL.new I #[] 103,dF _,jU _,rfl,rfl⟩⟩,fun g hg=>?_,by simp⟩;have i0:I.heap.size=g:=by simpa [Value.ownBlock] using hg
   subst i0;exact ⟨i2.newS1,by have:=hb.lt;omega⟩)
  rw [show (w2.setCell ⟨S,0,none⟩ (.string ⟨nm.1.toArray⟩)).setCell ⟨S,1,none⟩ (.string ⟨nm.2.toArray⟩)=I from G.symm];have g0:=Lh (show I.heap.size=w2.heap.size by rw [G];simp [World.setCell]);try rw [←g0.o]
  clear G d3 g7 g9;refine wp_loop_ghost_k (YO x c w v S nm r) r.length ⟨f,v2,r,none,b2,_,[],rfl,f2.o,hW.o,f4.o,d8.o,rfl,fun K hK=>qB (by omega) hK,by simp⟩ ?_;clear f2 f4 d8 c8 d6 L;rintro k _ w6 ⟨f,v6,i,e6,b6,av,acc,rfl,h6,c2,hM,hB,hC,g3,c1⟩ J K2 hJ g1;have ⟨HJ,hT,f6,hU,b7,b3⟩:=gT hJ g1 hM hC c2 hB;have c3:=Lh (g3 (i.length+1) (by omega));have b5:=Lh c1;have hN:=Lh (sQ x O.o.toOk c HD.o w6 v6 i e6 b6 h6);clear hJ g1 hM hC c2 hB g3 c1 h6;revert K;refine vg ?_;intro K hK K hK K hK;refine hN.o.mono ?_;rintro e7 w7 ⟨rfl,v7,i7,V⟩;have d0:=Lh (f6.o.s0 V.mod V.bufv);have b4:=Lh (b3.o.step (V.mod.stp V.bufv));have b9:=Lh (b7.o.of_eq V.bufv);have a1:=Lh V.rd;clear V hN f6 b3 b7;cases hw:aT i with
  | nil=>
   have s:=Lh (show fB x.o (b::rest)=.error (bY x.o.fails) by rw [j.o,c3.o];simp only [dL,hw]);have m:=Lh (bN x O.o.toOk c HD.o w7 v7 _ b6 (by have:=a1.o;rw [hw] at this;exact this));clear hw;(repeat revert K);refine vS ?_;intro K hK K hK K hK K hK;refine m.o.mono ?_;rintro e8 w8 ⟨rfl,v8,u,M,R⟩;have B:=Lh (d0.o.s0 R M);obtain ⟨t1,u1,aA⟩:=u.err.iface;have HE:=Lh u;have hc:=u.dec.cell;have hf:=u.dec.frozen;have HU:=Lh aA;clear u R M m;(repeat revert K);refine vS ?_;intro K hK K hK K hK
   ((refine cG [0] fun f=>?_);go_quiet (fail);((repeat revert K);refine vg ?_;intro K hK K hK);refine Qk [2,3] fun f=>?_)
   exact HQ.o f _ _ _ ⟨v8,B.o.drawn _,by rw [s.o];exact ⟨rfl,HU.o.symm,HE.o.drewN _⟩⟩
  | cons b1 r2=>
   have m:=Lh (bK x O.o.toOk c HD.o w7 v7 b1 r2 _ b6 (by have:=a1.o;rw [hw] at this;exact this));have f7:=Lh (show (b1::r2) <:+ x.T by have:=a1.o.suf;rw [hw] at this;exact this);have c4:=Lh (show r2.length+1≤i.length by have:=(eO i).length_le;rw [hw] at this;exact this);have y:=Lh (show dL x.o (r.length+1) r []=(if b1=47 then OB x.o.fails acc r2
   else if b1=62 then .ok (acc,false,r2)
   else match gF x.o (b1::r2) with
    | .error e=>.error e
    | .ok (a,r5)=>dL x.o i.length r5 (acc++[a])) by rw [c3.o,dL.eq_def];simp only [hw];cases r2<;>rfl)
   clear hw c3;(repeat revert K);refine vS ?_;intro K hK K hK K hK K hK;refine m.o.mono ?_;rintro e8 w8 ⟨rfl,v8,h8,hI,M,R,i4⟩;have B:=Lh (d0.o.s0 R M);have z:=Lh (b4.o.step (R.stp M));have cT:=Lh (b9.o.of_eq M);have ⟨a2,d9⟩:=cB h8 hI;clear h8 hI M R i4 m d0 b4 b9 a1;by_cases D:b1=47
   ·subst D;cases r2 with
    | nil=>
     have s:=Lh (show fB x.o (b::rest)=.error (bY x.o.fails) by rw [j.o,y.o];rfl);have m:=Lh (bN x O.o.toOk c HD.o w8 v8 _ b6 a2.o);(repeat revert K);refine vS ?_;intro K hK K hK K hK K hK K hK;refine m.o.mono ?_;rintro e9 w9 ⟨rfl,v9,u,l,o⟩;have P:=Lh (B.o.s0 o l);obtain ⟨t1,u1,aA⟩:=u.err.iface;have HE:=Lh u;have hc:=u.dec.cell;have hf:=u.dec.frozen;have HU:=Lh aA;clear u o l m;(repeat revert K);refine vS ?_;intro K hK K hK K hK K hK
     ((refine cG [0] fun f=>?_);go_quiet (fail);((repeat revert K);refine vg ?_;intro K hK K hK K hK);refine Qk [2,3] fun f=>?_)
     exact HQ.o f _ _ _ ⟨v9,P.o.drawn _,by rw [s.o];exact ⟨rfl,HU.o.symm,HE.o.drewN _⟩⟩
    | cons d r3=>
     have m:=Lh (bK x O.o.toOk c HD.o w8 v8 d r3 _ b6 a2.o);(repeat revert K);refine vS ?_;intro K hK K hK K hK K hK K hK;refine m.o.mono ?_;rintro e9 w9 ⟨rfl,v9,h9,a6,l,o,d4⟩;have P:=Lh (B.o.s0 o l);have U:=Lh (z.o.step (o.stp l));have ⟨a3,hV⟩:=cB h9 a6;clear h9 a6 l o d4 m B z;by_cases F:d=62
     ·subst F;have s:=Lh (show fB x.o (b::rest)=.ok ((nm,acc),true,r3) by rw [j.o,y.o];rfl);go_simp;(repeat revert K);refine vT 198 ?_;refine cG [0,28,29,30] fun f=>?_;refine bB (UU x O.o c w v w9 v9 r3 b6 a3.o hV.o P.o S nm av acc U.o true _ ?_ f) (by kernel_rfl);intro f w' t e V;exact HQ.o f w' t e (by rw [s.o];exact V)
     ·have h3:=eS (n:=62) F rfl;have g5:=pZ (n:=62) F rfl;have s:=Lh (show fB x.o (b::rest)=.error .syn by rw [j.o,y.o,aY rfl];simp only [OB,aQ F]);have d1:=Lh (fun d5=>gH O.o.toOk a3.o d5);clear F;(repeat revert K);refine vS ?_;intro K hK K hK K hK K hK K hK;refine (d1.o _).mono ?_;rintro e5 i9 ⟨a9,rfl,hS⟩;have h4:=hS.dec.cell;have h7:=hS.dec.frozen;have HS:=Lh hS;clear hS;(repeat revert K);refine vS ?_;intro K hK K hK K hK K hK
      ((refine cG [0] fun f=>?_);go_quiet (fail);((repeat revert K);refine vg ?_;intro K hK K hK K hK);refine Qk [2,3] fun f=>?_)
      exact HQ.o f _ _ _ ⟨_,(P.o.trans HS.o.stp).drawn _,by rw [s.o];exact ⟨rfl,rfl,HS.o.err.drewN _⟩⟩
   ·have h3:=eS (n:=47) D rfl;have g5:=pZ (n:=47) D rfl;by_cases E:b1=62
    ·subst E;have s:=Lh (show fB x.o (b::rest)=.ok ((nm,acc),false,r2) by rw [j.o,y.o];rfl);go_simp;(repeat revert K);refine vT 198 ?_;refine cG [0,28,29,30] fun f=>?_;refine bB (UU x O.o c w v w8 v8 r2 b6 a2.o d9.o B.o S nm av acc z.o false _ ?_ f) (by kernel_rfl);intro f w' t e V;exact HQ.o f w' t e (by rw [s.o];exact V)
    ·have i5:=eS (n:=62) E rfl;have i6:=pZ (n:=62) E rfl;have aC:=Lh (gG x O.o.toOk c w8 v8 b1 r2 b6 a2.o d9.o f7.o);have b0:=Lh (show dL x.o (r.length+1) r []=(match gF x.o (b1::r2) with
      | .error e=>.error e
      | .ok (a,r5)=>dL x.o i.length r5 (acc++[a])) by rw [y.o,aQ D,aQ E])
     clear D E;(repeat revert K);refine vS ?_;intro K hK K hK K hK;refine aC.o.mono ?_;rintro e9 w9 ⟨rfl,v9,h9,a6,l,o,d4⟩;have P:=Lh (B.o.s0 o l);have U:=Lh (z.o.step (o.stp l));have e4:=Lh (cT.o.of_eq l);have a3:=Lh h9;clear h9 a6 l o d4 aC B z cT;go_simp;(repeat revert K);refine vT 176 ?_;intro K hK;refine cG [0,28,29,30] fun f=>?_;refine bB (YN x O.o c HD.o hX.o w v w9 v9 (b1::r2) b6 a3.o e4.o P.o d7.o S nm av acc U.o (by have:=b5.o;have:=c9.o;omega) _ _ _ ?_ ?_ f) (by kernel_rfl)
     ·intro a r5 q f w' v' e' b' h2 hr N Y hA;have ⟨HR,e0,HS,HK⟩:=kS hr N Y hA;have c5:=Lh ((nY q).2);have HG:=Lh (show dL x.o (r.length+1) r []=dL x.o i.length r5 (acc++[a]) by rw [b0.o,q]);clear hr N Y hA q;revert K;refine vg ?_;intro K hK;refine hT.o _ _ ⟨r5.length,?_,HJ.o _ _ _ ⟨f,v',r5,e',b',h2,acc++[a],rfl,HR.o,e0.o,HS.o,HK.o,rfl,fun K hK=>?_,?_⟩⟩
      ·rw [hU.o];have:=c5.o;have:=c4.o;simp only [f5] at *;omega
      ·rw [HG.o];exact qB (by have:=c5.o;have:=c4.o;simp only [f5] at *;omega) hK
      ·have:=c5.o;have:=c4.o;have:=b5.o;simp only [fP,f5,List.length_nil] at *;omega
     ·intro k q f w' v' u Y;have ⟨HE,HS⟩:=cB u Y;have HG:=Lh (show fB x.o (b::rest)=.error k by rw [j.o,b0.o,q]);clear u Y q;revert K;refine vg ?_;intro K hK;exact HQ.o f w' _ _ ⟨v',HS.o,by rw [HG.o];exact ⟨rfl,rfl,HE.o⟩⟩
end Go.Proofs.YthapcchcahnfaaaGreatDoor
