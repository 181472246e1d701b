/- Part of the proof that laws.FnStrictIsLoose, laws.FnUnclosed, laws.FnReaderFails, laws.FnWithin, laws.FnSkip returns true for every argument. No conditions. -/
import Derived.Test.YthapcchcahnfaaaGreatDoorP07
import Derived.Test.YthapcchcahnfaaaGreatDoorP10
import Derived.Test.YthapcchcahnfaaaGreatDoorP05
import Derived.Test.YthapcchcahnfaaaGreatDoorP06
import Derived.Test.YthapcchcahnfaaaGreatDoorP11
import Derived.Lib.IndexBytes
import Derived.Deep.LoopGhost
import Derived.LaidEql
import Derived.Lib.BufferWrite
import Derived.Shelf.Spec.DecodeRune
set_option linter.all false
set_option maxHeartbeats 8000000
set_option maxRecDepth 100000
namespace Go.Proofs.YthapcchcahnfaaaGreatDoor
open Go Go.RowKit Tryz
def nX (x:Cx) (w:World) (d:Bs):Prop:=
 ∃ (r q n:Nat) (c:Int) (a:Array Value) (s:ByteArray) (b:Bs),
  aJ w x.br (iT x r q .nilIface c) 235∧aJ w x.rb a 5∧a.size=4096∧aJ w x.rd (vM x s n) 56∧r≤q∧q≤4096∧b.length=q-r ∧
  (∀ j,j<b.length→a[r+j]?=some (.int .u8 (b.getD j 0).toNat))∧d=b++s.data.toList∧n+s.size≤1000000000
def Cx.Sio (x:Cx) (k:Nat):Prop:=k=x.br∨k=x.rb∨k=x.rd
theorem nX.mod {x:Cx} {w w':World} {i:Bs} {S:Nat→Prop} (h:nX x w i) (g:aM S w w') (j:¬ S x.br) (k:¬ S x.rb) (l:¬ S x.rd):nX x w' i:=by
 obtain ⟨r,q,n,m,f,s,o,a,b,c,d,e⟩:=h;exact ⟨r,q,n,m,f,s,o,a.mod g j,b.mod g k,c,d.mod g l,e⟩
theorem PV (x:Cx) (t:x.Ok) (w:World) (r q n:Nat) (L:Int) (c:Array Value) (s:ByteArray) (b:UInt8) (o:Bs)
  (d:aJ w x.br (iT x r q .nilIface L) 235) (g:aJ w x.rb c 5) (B:c.size=4096) (l:aJ w x.rd (vM x s n) 56)
  (J:r<q) (G:q≤4096) (C:(b::o).length=q-r) (f:∀ j,j<(b::o).length→c[r+j]?=some (.int .u8 ((b::o).getD j 0).toNat)) (A:n+s.size≤1000000000) :
  Calls prog 186 #[.pointer (some ⟨x.br,0,none⟩)] w fun e w'=>e=.returned (.tuple #[.int .u8 b.toNat,.nilIface])∧nX x w' (o++s.data.toList)∧aM x.Sio w w'∧w'.heap.size=w.heap.size:=by
 have N:=d.cell;have O:=d.frozen;have M:w.cell? ⟨x.rb,r,none⟩=some (.int .u8 b.toNat):=by rw [g.cell];have:=f 0 (by simp);simpa using this
 have H:((r:Int)==(q:Int))=false:=by simp;omega
 have I:(r:Int)<4096:=by omega
 have D:¬ x.br=x.rb:=t.ne4;have a:¬ x.rb=x.br:=fun h=>t.ne4 h.symm;have F:=Lib.hid t;have z:=Lib.hid l;have y:=Lib.hid g;have u:=Lib.hid d;have v:=Lib.hid f;have E:=Lib.hid C;clear t l g d f C;go_enter func186,ntmps186
 go_wp2;refine wp_loop_once ?_;go_wp2;go_quiet (fail);go_wp2;go_quiet (fail);go_wp2;go_ret2
 have k:aJ ((((w.setCell ⟨x.br,6,none⟩ (.int .i64 (-1))).setCell ⟨x.br,2,none⟩ (.int .i64 ((r:Int)+1))).setCell ⟨x.br,5,none⟩ (.int .i64 b.toNat))) x.br (iT x (r+1:Nat) q .nilIface b.toNat) 235:=by
  have:=((u.out.set 6 (.int .i64 (-1))).set 2 (.int .i64 ((r:Int)+1))).set 5 (.int .i64 b.toNat);rw [show (((r+1:Nat):Int))=(r:Int)+1 from by omega];exact this
 have i:aM x.Sio w (((w.setCell ⟨x.br,6,none⟩ (.int .i64 (-1))).setCell ⟨x.br,2,none⟩ (.int .i64 ((r:Int)+1))).setCell ⟨x.br,5,none⟩ (.int .i64 b.toNat)):=
  (((aM.refl x.Sio w).setCell (p:=⟨x.br,6,none⟩) (aH (aH rfl)) _).setCell (p:=⟨x.br,2,none⟩) (aH (aH rfl)) _).setCell (p:=⟨x.br,5,none⟩) (aH (aH rfl)) _
 have m:wrap64 (b.toNat:Int)=b.toNat:=by have:=UInt8.toNat_lt b;unfold wrap64;omega
 try simp only [m]
 refine ⟨rfl,⟨r+1,q,n,b.toNat,c,s,o,k,?_,B,?_,by omega,G,?_,?_,rfl,A⟩,⟨i.os,i.tape,i.output,i.size,i.block⟩,by simp [World.setCell]⟩
 ·exact ((y.out.set_ne a _).set_ne a _).set_ne a _
 ·have h:x.rd≠x.br:=fun h=>F.out.ne5 h.symm;exact ((z.out.set_ne h _).set_ne h _).set_ne h _
 ·have:=E.out;simp at this;omega
 ·intro j P;have:=v.out (j+1) (by simp;omega);rw [show r+1+j=r+(j+1) by omega];simpa using this
theorem T5 (x:Cx) (j:x.Ok) (w:World) (h:Below x.B x.W0 w) (q n:Nat) (g:Int) (a:Array Value) (s:ByteArray) (i:s.toList.isEmpty=false)
  (b:aJ w x.br (iT x q q .nilIface g) 235) (c:aJ w x.rb a 5) (f:a.size=4096) (d:aJ w x.rd (vM x s n) 56)
  (o:q≤4096) (m:n+s.size≤1000000000) :
  Calls prog 187 #[.pointer (some ⟨x.br,0,none⟩)] w fun e w'=>e=.returned (.tuple #[])∧t7 x w s n a g w':=by
 by_cases l:q=0
 ·subst l;exact IE x j w h n s i a d c f (by omega) (by omega) g b
 ·by_cases k:q=4096
  ·subst k;exact IK x j w h n s i a d c f (by omega) (by omega) g b
  ·exact ID x j w h n s i a d c f (by omega) (by omega) g q (by omega) k o b
theorem IP (x:Cx) (g:x.Ok) (w:World) (d:Below x.B x.W0 w) (q n:Nat) (c:Int) (s:ByteArray) (f:s.toList.isEmpty=true)
  (a:aJ w x.br (iT x q q .nilIface c) 235) (b:aJ w x.rd (vM x s n) 56) (j:q≤4096) :
  Calls prog 187 #[.pointer (some ⟨x.br,0,none⟩)] w fun e w'=>e=.returned (.tuple #[])∧x1 x w c w':=by
 by_cases i:q=0
 ·subst i;exact MC x g w d n s f b c a
 ·by_cases h:q=4096
  ·subst h;exact L8 x g w d n s f b c a
  ·exact L7 x g w d n s f b c q (by omega) h j a
theorem uI (s:ByteArray) (m:Nat):(s.extract m s.size).data.toList=s.data.toList.drop m:=Lib.extract_to_end s m
theorem IQ (l:Bs) (j:Nat) (h:j<l.length):(lO l)[j]?=some (.int .u8 (l.getD j 0).toNat):=by
 simp [lO,List.getD,h]
theorem T6 (l:Bs) (r:List Value) (j:Nat) (h:j<l.length):((lO l++r).toArray:Array Value)[j]?=some (.int .u8 (l.getD j 0).toNat):=by
 rw [List.getElem?_toArray,List.getElem?_append_left (by simpa [lO] using h),IQ l j h]
theorem T7 (x:Cx) (r:x.Ok) (w:World) (U:Below x.B x.W0 w) (q n:Nat) (lb:Int) (g:Array Value) (s:ByteArray) (b:UInt8) (un:Bs) (Y:s.data.toList=b::un)
  (l:aJ w x.br (iT x q q .nilIface lb) 235) (I:aJ w x.rb g 5) (Z:g.size=4096) (J:aJ w x.rd (vM x s n) 56)
  (hq:q≤4096) (X:n+s.size≤1000000000) :
  Calls prog 186 #[.pointer (some ⟨x.br,0,none⟩)] w fun e w'=>e=.returned (.tuple #[.int .u8 b.toNat,.nilIface])∧nX x w' un∧aM x.Sio w w'∧w'.heap.size=w.heap.size:=by
 have hc:=l.cell;have hf:=l.frozen;have a5:((q:Int)==(q:Int))=true:=by simp
 have L:s.toList.isEmpty=false:=by
  have:s.toList=s.data.toList:=by simp [ByteArray.toList_eq]
  rw [this,Y];rfl
 obtain ⟨W,t⟩:∃ W,W=w.setCell ⟨x.br,6,none⟩ (.int .i64 (-1)):=⟨_,rfl⟩;have B:aM x.Sio w W:=by rw [t];exact (aM.refl x.Sio w).setCell (p:=⟨x.br,6,none⟩) (aH (aH rfl)) _
 have u:aJ W x.br (iT x q q .nilIface lb) 235:=by rw [t];exact l.set 6 _
 have y:aJ W x.rb g 5:=by rw [t];exact I.set_ne (fun h=>r.ne4 h.symm) _
 have A:aJ W x.rd (vM x s n) 56:=by rw [t];exact J.set_ne (fun h=>r.ne5 h.symm) _
 have F:Below x.B x.W0 W:=aM.below U U.size B (fun i hi=>by rcases hi with h|h|h<;>subst h;exact r.br;exact r.rb;exact r.rd);have N:W.heap.size=w.heap.size:=by rw [t];simp [World.setCell]
 have d:=Lib.hid (fun k=>T5 x r (W.drewN k) (bP F k) q n lb g s L u y Z A hq X);have aL:=Lib.hid (fun (w:World)=>PV x r w);rw [t] at d;have R:=Lib.hid r;have HS:=Lib.hid Y;have HW:=Lib.hid t;have Q:=Lib.hid B;have S:=Lib.hid N;clear r U J I l Y L B u y A F N t;go_enter func186,ntmps186
 go_wp2;refine wp_loop_rounds 2 ?_;rw [rounds_succ];go_wp2;go_quiet (fail);go_wp2_with fail;obtain ⟨P,H⟩:∃ P,P=nq:=⟨_,rfl⟩;rw [←H];clear H;refine (d.out P).mono ?_;rintro e w1 ⟨rfl,m,m1,m2,m3,a,f,⟨n',a4,z⟩,hm,hz⟩;have a2:=a.cell;have a3:=a.frozen;have o:s.data.toList.length=s.size:=rfl;have a1:w1.cell? ⟨x.rb,0,none⟩=some (.int .u8 b.toNat):=by
  rw [f.cell];rw [HS.out];obtain ⟨O,rfl⟩:∃ O,m=O+1:=⟨m-1,by omega⟩;simp [lO]
 have a6:((0:Int)==(m:Int))=false:=by simp;omega
 have a7:(m:Int)≤4096:=by omega
 have a0:¬ x.br=x.rb:=R.out.ne4;have v:¬ x.rb=x.br:=fun h=>R.out.ne4 h.symm;have C:=Lib.hid a;have D:=Lib.hid f;have E:=Lib.hid z;have HM:=Lib.hid hm;have HZ:=Lib.hid hz;clear a f z hm hz d hc hf;go_wp2;rw [rounds_succ];go_wp2;go_quiet (fail);go_wp2;go_quiet (fail);go_wp2;go_ret2
 have M:wrap64 (b.toNat:Int)=b.toNat:=by have:=UInt8.toNat_lt b;unfold wrap64;omega
 try simp only [M]
 have G:=(C.out.set 2 (.int .i64 1)).set 5 (.int .i64 b.toNat);have T:aM x.Sio w w1:=(Q.out.drewN P).trans (by rw [HW.out];exact HM.out) (fun _ _ h=>h)
 have c:aM x.Sio w ((w1.setCell ⟨x.br,2,none⟩ (.int .i64 1)).setCell ⟨x.br,5,none⟩ (.int .i64 b.toNat)):=
  (T.setCell (p:=⟨x.br,2,none⟩) (aH (aH rfl)) _).setCell (p:=⟨x.br,5,none⟩) (aH (aH rfl)) _
 have aA:un=(s.data.toList.take m).tail++(s.extract m s.size).data.toList:=by
  rw [uI,HS.out];obtain ⟨O,rfl⟩:∃ O,m=O+1:=⟨m-1,by omega⟩;simp
 have aC:w1.heap.size=w.heap.size:=HZ.out.trans (by rw [←HW.out];exact S.out);have o:s.data.toList.length=s.size:=rfl;refine ⟨rfl,⟨1,m,n',b.toNat,_,s.extract m s.size,(s.data.toList.take m).tail,G,(D.out.set_ne v _).set_ne v _,?_,?_,m1,m2,?_,?_,aA,?_⟩,⟨c.os,c.tape,c.output,c.size,c.block⟩,by simp [World.setCell];exact aC⟩
 ·simp [lO,o];omega
 ·have h:x.rd≠x.br:=fun h=>R.out.ne5 h.symm;exact (E.out.set_ne h _).set_ne h _
 ·simp [o];omega
 ·intro j hj;have hl:(s.data.toList.take m).length=m:=by rw [qQ,o];omega
  have V:1+j<(s.data.toList.take m).length:=by
   simp only [List.length_tail] at hj;omega
  rw [T6 _ _ _ V]
  congr 3
  rw [List.getD,List.getD,List.getElem?_tail,Nat.add_comm 1 j]
 ·have:(s.extract m s.size).size=s.size-m:=by simp
  omega
theorem YK (x:Cx) (y:x.Ok) (w:World) (V:Below x.B x.W0 w) (q n:Nat) (O:Int) (b:Array Value) (s:ByteArray) (Y:s.data.toList=[])
  (g:aJ w x.br (iT x q q .nilIface O) 235) (H:aJ w x.rb b 5) (Z:b.size=4096) (J:aJ w x.rd (vM x s n) 56)
  (hq:q≤4096) (X:n+s.size≤1000000000) :
  Calls prog 186 #[.pointer (some ⟨x.br,0,none⟩)] w fun e w'=>e=.returned (.tuple #[.int .u8 0,qR x])∧nX x w' []∧aM x.Sio w w'∧w'.heap.size=w.heap.size:=by
 have hc:=g.cell;have hf:=g.frozen;have a0:((q:Int)==(q:Int))=true:=by simp
 have M:s.toList.isEmpty=true:=by
  have:s.toList=s.data.toList:=by simp [ByteArray.toList_eq]
  rw [this,Y];rfl
 obtain ⟨W,m⟩:∃ W,W=w.setCell ⟨x.br,6,none⟩ (.int .i64 (-1)):=⟨_,rfl⟩;have z:aM x.Sio w W:=by rw [m];exact (aM.refl x.Sio w).setCell (p:=⟨x.br,6,none⟩) (aH (aH rfl)) _
 have o:aJ W x.br (iT x q q .nilIface O) 235:=by rw [m];exact g.set 6 _
 have r:aJ W x.rb b 5:=by rw [m];exact H.set_ne (fun h=>y.ne4 h.symm) _
 have f:aJ W x.rd (vM x s n) 56:=by rw [m];exact J.set_ne (fun h=>y.ne5 h.symm) _
 have D:Below x.B x.W0 W:=aM.below V V.size z (fun i hi=>by rcases hi with h|h|h<;>subst h;exact y.br;exact y.rb;exact y.rd);have N:W.heap.size=w.heap.size:=by rw [m];simp [World.setCell]
 have d:=Lib.hid (fun k=>IP x y (W.drewN k) (bP D k) q n O s M o f hq);rw [m] at d;have HX:=Lib.hid y;have HS:=Lib.hid Y;have S:=Lib.hid m;have P:=Lib.hid z;have T:=Lib.hid N;have Q:=Lib.hid r;have R:=Lib.hid f;have l:(∃ u t,qR x=.iface u t):=by unfold qR;split<;>exact ⟨_,_,rfl⟩
 obtain ⟨u,t,l⟩:=l;have C:=Lib.hid l;clear y V J H g Y M z o r f D N m l;go_enter func186,ntmps186
 go_wp2;refine wp_loop_rounds 2 ?_;rw [rounds_succ];go_wp2;go_quiet (fail);go_wp2_with fail;obtain ⟨A,G⟩:∃ A,A=nq:=⟨_,rfl⟩;rw [←G];clear G;refine (d.out A).mono ?_;rintro e w1 ⟨rfl,a,F,hz⟩;rw [C.out] at a;have aC:=a.cell;have aL:=a.frozen;have a1:((0:Int)==(0:Int))=true:=by simp
 have B:=Lib.hid a;have HM:=Lib.hid F;have HZ:=Lib.hid hz;clear a F hz d hc hf;go_wp2;rw [rounds_succ];go_wp2;go_quiet (fail);go_wp2;go_ret2
 have E:=B.out.set 4 .nilIface;have U:aM x.Sio w w1:=(P.out.drewN A).trans (by rw [S.out];exact HM.out) (fun _ _ h=>aH h);have c:aM x.Sio w (w1.setCell ⟨x.br,4,none⟩ .nilIface):=U.setCell (p:=⟨x.br,4,none⟩) (aH (aH rfl)) _;have aA:w1.heap.size=w.heap.size:=HZ.out.trans (by rw [←S.out];exact T.out);have F:aM (fun k=>k=x.br) (W.drewN A) w1:=by rw [S.out];exact HM.out
 have h1:x.rb≠x.br:=fun h=>HX.out.ne4 h.symm;have h2:x.rd≠x.br:=fun h=>HX.out.ne5 h.symm;have I:aJ w1 x.rb b 5:=(show aJ (W.drewN A) _ _ _ from Q.out).mod F h1;have L:aJ w1 x.rd (vM x s n) 56:=(show aJ (W.drewN A) _ _ _ from R.out).mod F h2;refine ⟨congrArg (fun v=>Ending.returned (.tuple #[.int .u8 0,v])) C.out.symm,⟨0,0,n,O,b,s,[],E,I.set_ne h1 _,Z,L.set_ne h2 _,by omega,by omega,rfl,(fun j hj=>by simp at hj),by rw [HS.out];rfl,X⟩,⟨c.os,c.tape,c.output,c.size,c.block⟩,by simp [World.setCell];exact aA⟩
theorem A4 (x:Cx) (t:x.Ok) (w:World) (v:Below x.B x.W0 w) (b:UInt8) (m:Bs) (h:nX x w (b::m)) :
  Calls prog 186 #[.pointer (some ⟨x.br,0,none⟩)] w fun e w'=>e=.returned (.tuple #[.int .u8 b.toNat,.nilIface])∧nX x w' m∧aM x.Sio w w'∧w'.heap.size=w.heap.size:=by
 obtain ⟨r,q,n,u,c,s,o,d,g,j,i,y,p,l,k,a,f⟩:=h;cases o with
 | nil=>
  have:r=q:=by simp at l;omega
  subst this;exact T7 x t w v r n u c s b m (by simpa using a.symm) d g j i p f
 | cons b' o=>
  simp at a;obtain ⟨rfl,rfl⟩:=a;exact PV x t w r q n u c s b o d g j i (by simp at l;omega) p l k f
theorem DE (x:Cx) (u:x.Ok) (w:World) (k:Below x.B x.W0 w) (h:nX x w []) :
  Calls prog 186 #[.pointer (some ⟨x.br,0,none⟩)] w fun e w'=>e=.returned (.tuple #[.int .u8 0,qR x])∧nX x w' []∧aM x.Sio w w'∧w'.heap.size=w.heap.size:=by
 obtain ⟨r,q,n,v,b,s,y,c,f,i,g,p,o,m,l,j,d⟩:=h;have a:=j.symm;simp only [List.append_eq_nil_iff] at a;obtain ⟨rfl,t⟩:=a;have:r=q:=by simp at m;omega
 subst this;exact YK x u w k r n v b s t c f i g o d
def xW (x:Cx) (v:Value):Option EK→Prop
 | none=>v=.nilIface
 | some .eof=>v=x.eofV
 | some .own=>v=A2
 | some .syn=>∃ a,v=.iface 113 (.pointer (some a))
 | some .other=>∃ a:Addr,v=.iface 196 (.pointer (some a))∧x.B≤a.block
def mT (x:Cx) (w:World) (v:Value) (a:Bs):Prop:=
 (v=.slice none 0 0∧a=[]) ∨
 ∃ g b c,v=.slice (some ⟨g,0,none⟩) a.length b∧aJ w g c 5∧c.size=b∧a.length≤b∧b≤9223372036854775807 ∧
  x.B≤g∧¬ x.S0 g∧∀ j,j<a.length→c[j]?=some (.int .u8 (a.getD j 0).toNat)
def eM:Value→Nat→Prop
 | .slice (some a) _ _,k=>k=a.block
 | _,_=>False
def nY (x:Cx) (v:DV) (rest:Bs):Prop:=
 ∃ pre,x.T=pre++rest∧v.off=pre.length∧v.line=pL pre∧(v.nb≠10→v.lstart=(pre.length:Int)+1-wQ pre)∧(v.nb=10→v.lstart=(pre.length:Int)+1)
structure cK (x:Cx) (c:DC) (w:World) (v:DV) (rest:Bs) (e:Option EK) (buf:Bs):Prop where
 base:Below x.B x.W0 w
 dec:bX w x.d c v
 inp:∃ a,nX x w a∧((v.nb=-1∧rest=a)∨∃ b:UInt8,v.nb=b.toNat∧rest=b::a)
 pos:nY x v rest
 err:xW x v.err e
 fin:e=none∨(e=some (mF x.o.fails)∧rest=[])
 bf:mT x w v.bufv buf
structure iU (x:Cx) (c:DC):Prop where
 r:c.r=.iface 171 (.pointer (some ⟨x.br,0,none⟩))
 strict:c.strict=x.o.strict
structure jM (x:Cx) (c:DC) (w:World) (v:DV) (k:EK):Prop where
 base:Below x.B x.W0 w
 dec:bX w x.d c v
 err:xW x v.err (some k)
def Cx.S1 (x:Cx) (v:DV) (k:Nat):Prop:=x.S0 k∨eM v.bufv k
structure dB (x:Cx) (w:World) (v:DV) (w':World) (v':DV):Prop where
 mod:aM (x.S1 v) w w'
 buf:∀ k,eM v'.bufv k→eM v.bufv k∨w.heap.size≤k
theorem dB.refl (x:Cx) (w:World) (v:DV):dB x w v w v:=⟨aM.refl _ _,fun _ h=>aH h⟩
theorem dB.trans {x:Cx} {a b c:World} {u v t:DV} (h:dB x a u b v) (k:dB x b v c t):dB x a u c t:=
 ⟨h.mod.trans k.mod (fun i e d=>by
   rcases d with d|d
   ·exact aH d
   ·rcases h.buf i d with h'|h'
    ·exact aW h'
    ·omega),
  fun i e=>by
   rcases k.buf i e with h'|h'
   ·exact h.buf i h'
   ·exact aW (fX h.mod.size h')⟩
theorem Cx.Ok.s0 {x:Cx} (a:x.Ok) {k:Nat} (h:x.S0 k):x.B≤k:=by
 rcases h with h|h|h|h<;>subst h
 ·exact a.d
 ·exact a.br
 ·exact a.rb
 ·exact a.rd
theorem mT.mod {x:Cx} {w w':World} {v:Value} {a:Bs} {S:Nat→Prop} (h:mT x w v a) (e:aM S w w') (c:∀ k,eM v k→¬ S k):mT x w' v a:=by
 rcases h with h|⟨g,cap,arr,b,d,r⟩
 ·exact aH h
 ·exact aW ⟨g,cap,arr,b,d.mod e (c g (by rw [b];rfl)),r⟩
theorem mT.notS0 {x:Cx} {w:World} {v:Value} {b:Bs} (h:mT x w v b) (k:Nat) (a:eM v k):¬ x.S0 k:=by
 rcases h with ⟨h,_⟩|⟨g,cap,arr,d,_,_,_,_,_,c,_⟩
 ·rw [h] at a;exact a.elim
 ·rw [d] at a;have:k=g:=a;subst this;exact c
theorem cK.step {x:Cx} (s:x.Ok) {c:DC} {w w':World} {v v':DV} {rest a:Bs} {e f:Option EK} {d:Bs} (h:cK x c w v rest e d) (g:bX w' x.d c v') (o:aM x.S0 w w')
  (l:∃ n,nX x w' n∧((v'.nb=-1∧a=n)∨∃ b:UInt8,v'.nb=b.toNat∧a=b::n)) (m:nY x v' a) (i:xW x v'.err f) (j:f=none∨(f=some (mF x.o.fails)∧a=[]))
  (p:v'.bufv=v.bufv):cK x c w' v' a f d:=
 ⟨aM.below h.base h.base.size o (fun _ q=>s.s0 q),g,l,m,i,j,by rw [p];exact h.bf.mod o (fun k r=>h.bf.notS0 k r)⟩
theorem aM.stp {x:Cx} {w w':World} {v v':DV} (c:aM x.S0 w w') (a:v'.bufv=v.bufv):dB x w v w' v':=
 ⟨c.mono (fun _ _ h=>aH h),fun k b=>aH (by rw [←a];exact b)⟩
theorem wY (pre:Bs) (b:UInt8):pL (pre++[b])=pL pre+if b=10 then 1 else 0:=by
 unfold pL;rw [List.filter_append,fY];by_cases h:b=10<;>simp [h]<;>omega
theorem tI (pre:Bs) (b:UInt8):wQ (pre++[b])=if b=10 then 1 else wQ pre+1:=by
 unfold wQ;rw [List.reverse_append];by_cases h:b=10<;>simp [h]<;>omega
theorem IR (l:Bs):1≤pL l:=by unfold pL;omega
theorem MH (l:Bs):pL l≤l.length+1:=by unfold pL;have:=List.length_filter_le (fun b:UInt8=>b==10) l;omega
theorem PW (l:Bs):wQ l≤l.length+1:=by
 unfold wQ;have:=List.takeWhile_prefix (fun b:UInt8=>b != 10) (l:=l.reverse);have:=this.length_le;simp at this;omega
theorem nY.got {x:Cx} {v:DV} {b:UInt8} {rest:Bs} (h:nY x v (b::rest)) (c:v.nb=-1∨v.nb=b.toNat) (v':DV) (e:v'.nb=-1) (f:v'.off=v.off+1)
  (g:v'.line=if b=10 then v.line+1 else v.line) (i:v'.lstart=if b=10 then v.off+1 else v.lstart):nY x v' rest:=by
 obtain ⟨pre,j,d,k,m,_⟩:=h;refine ⟨pre++[b],by simp [j],by simp [f,d],?_,fun _=>?_,fun o=>by omega⟩
 ·rw [g,wY];by_cases a:b=10<;>simp [a,k]
 ·rw [i,tI];by_cases a:b=10
  ·simp [a,d]
  ·have l:v.nb≠10:=by
    rcases c with h|h
    ·omega
    ·intro n;apply a
     have:(b.toNat:Int)=10:=by omega
     exact UInt8.toNat_inj.1 (by simpa using (show b.toNat=10 by omega))
   rw [aN a,aN a,m l];simp;omega
theorem nY.put {x:Cx} {v:DV} {b:UInt8} {rest:Bs} (h:nY x v rest) (f:(b::rest) <:+ x.T) (q:v.nb=-1) (v':DV) (i:v'.nb=b.toNat) (l:v'.off=v.off-1)
  (m:v'.line=if b=10 then v.line-1 else v.line) (j:v'.lstart=v.lstart):nY x v' (b::rest):=by
 obtain ⟨pre,n,p,o,k,_⟩:=h;obtain ⟨g,d⟩:=f;have e:pre=g++[b]:=by
  have:pre++rest=(g++[b])++rest:=by rw [←n,←d];simp
  exact List.append_cancel_right this
 subst e;refine ⟨g,d.symm,by rw [l,p];simp,?_,fun a=>?_,fun a=>?_⟩
 ·rw [m,o,wY];by_cases c:b=10<;>simp [c]<;>omega
 ·rw [j,k (by omega),tI];have c:b≠10:=by
   intro c;subst c;rw [i] at a;exact a rfl
  rw [aN c];simp;omega
 ·have c:b=10:=by
   rw [i] at a;exact UInt8.toNat_inj.1 (by simpa using (show b.toNat=10 by omega))
  rw [j,k (by omega),tI,aV c];simp
theorem E2 (a:Addr) (w:World):(method 411 171 (.pointer (some a)) "ReadByte").run prog w=.ok (186,.pointer (some a)) w:=by kernel_rfl
theorem KS (a:Array Value) (w:World):(callFunc 186 a).run prog w=.ok (.enter 186 a) w:=enters_of func186 (by kernel_rfl) rfl a w
theorem DF (d:Nat) (c:DC) (v:DV) (w:World) (h:bX w d c v) (a:ByteArray) :
  Calls prog 36 #[.pointer (some ⟨d,0,none⟩),.string a] w fun e w'=>e=.returned (.iface 113 (.pointer (some ⟨w.heap.size,0,none⟩))) ∧
   w'=w.alloc (.cells #[.string a,.int .i64 v.line] 152):=by
 have b:=h.cell;have f:=h.frozen;clear h;go_enter func36,ntmps36
 go_wp2;go_ret
 exact ⟨rfl,rfl⟩
theorem nY.bounds {x:Cx} (b:x.Ok) {v:DV} {rest:Bs} (h:nY x v rest):0≤v.off∧v.off≤1000000000∧1≤v.line∧v.line≤1000000001:=by
 obtain ⟨pre,a,g,f,_⟩:=h;have:=b.len;have c:pre.length≤x.T.length:=by rw [a];simp
 have d:=IR pre;have e:=MH pre;omega
theorem T8 (x:Cx) (r:x.Ok) (c:DC) (w:World) (v:DV) (b:UInt8) (rest n:Bs) (l:Bs) (h:cK x c w v (b::rest) none l) (y:nX x w n) (q:v.nb=b.toNat) (B:rest=n) :
  Calls prog 62 #[.pointer (some ⟨x.d,0,none⟩)] w fun e w'=>e=.returned (.tuple #[.int .u8 b.toNat,.bool true]) ∧
   ∃ v',cK x c w' v' rest none l∧v'.nb=-1∧v'.bufv=v.bufv∧aM x.S0 w w'∧w'.heap.size=w.heap.size:=by
 have O:=h.dec.cell;have P:=h.dec.frozen;obtain ⟨I,J,G,H⟩:=h.pos.bounds r;have A:v.err=.nilIface:=h.err;have F:=UInt8.toNat_lt b;have Q:(b.toNat:Int) % 256=b.toNat:=by omega
 have N:(0:Int)≤(b.toNat:Int):=by omega
 have i:=Lib.hid r;have j:=Lib.hid h;have t:=Lib.hid y;have M:=Lib.hid q;have u:=Lib.hid B;obtain ⟨C,E,L,D,d,s,a⟩:=v;simp only at A q I J G H;subst A q;clear h r y B;by_cases g:b=10
 ·subst g;go_enter func62,ntmps62
  go_wp2;go_ret2
  have o:=(((j.out.dec.set 18 (.int .i64 (-1))).set 21 (.int .i64 (d+1))).set 22 (.int .i64 (a+1))).set 23 (.int .i64 (a+1));have m:=((((aM.refl (fun k=>k=x.d) w).setCell (p:=⟨x.d,18,none⟩) (aH rfl) (.int .i64 (-1))).setCell (p:=⟨x.d,21,none⟩) (aH rfl) (.int .i64 (d+1))).setCell (p:=⟨x.d,22,none⟩) (aH rfl) (.int .i64 (a+1))).setCell (p:=⟨x.d,23,none⟩) (aH rfl) (.int .i64 (a+1));have f:aM x.S0 w _:=m.mono (fun _ _ h=>aH h);refine ⟨rfl,⟨C,E,-1,.nilIface,d+1,a+1,a+1⟩,j.out.step i.out o f ⟨n,t.out.mod m (fun h=>i.out.ne1 h.symm) (fun h=>i.out.ne2 h.symm) (fun h=>i.out.ne3 h.symm),aH ⟨rfl,u.out⟩⟩ ?_ rfl (aH rfl) rfl,rfl,rfl,f,by simp [World.setCell]⟩;exact j.out.pos.got (aW rfl) _ rfl rfl (by simp) (by simp)
 ·have z:((b.toNat:Int)==10)=false:=by
   simp;intro h;exact g (UInt8.toNat_inj.1 (by simpa using (show b.toNat=10 by omega)))
  go_enter func62,ntmps62
  go_wp2;go_ret2
  have o:=(j.out.dec.set 18 (.int .i64 (-1))).set 23 (.int .i64 (a+1));have m:=((aM.refl (fun k=>k=x.d) w).setCell (p:=⟨x.d,18,none⟩) (aH rfl) (.int .i64 (-1))).setCell (p:=⟨x.d,23,none⟩) (aH rfl) (.int .i64 (a+1));have f:aM x.S0 w _:=m.mono (fun _ _ h=>aH h);refine ⟨rfl,⟨C,E,-1,.nilIface,d,s,a+1⟩,j.out.step i.out o f ⟨n,t.out.mod m (fun h=>i.out.ne1 h.symm) (fun h=>i.out.ne2 h.symm) (fun h=>i.out.ne3 h.symm),aH ⟨rfl,u.out⟩⟩ ?_ rfl (aH rfl) rfl,rfl,rfl,f,by simp [World.setCell]⟩;exact j.out.pos.got (aW rfl) _ rfl rfl (by simp [g]) (by simp [g])
theorem PY {b:UInt8} (h:b≠10):((b.toNat:Int)==10)=false:=by
 simp;intro a;exact h (UInt8.toNat_inj.1 (by simpa using (show b.toNat=10 by omega)))
theorem T9 (x:Cx) (D:x.Ok) (c:DC) (B:iU x c) (w:World) (v:DV) (b:UInt8) (rest:Bs) (A:Bs) (h:cK x c w v (b::rest) none A) (L:nX x w (b::rest)) (R:v.nb=-1) :
  Calls prog 62 #[.pointer (some ⟨x.d,0,none⟩)] w fun e w'=>e=.returned (.tuple #[.int .u8 b.toNat,.bool true]) ∧
   ∃ v',cK x c w' v' rest none A∧v'.nb=-1∧v'.bufv=v.bufv∧aM x.S0 w w'∧w'.heap.size=w.heap.size:=by
 have N:=h.dec.cell;have Q:=h.dec.frozen;obtain ⟨W,X,U,V⟩:=h.pos.bounds D;have O:v.err=.nilIface:=h.err;have T:=B.r;have l:=Lib.hid (A4 x D w h.base b rest L);have j:=Lib.hid D;have z:=Lib.hid h;obtain ⟨E,F,Y,S,f,y,d⟩:=v;simp only at O R W X U V;subst O R;have J:=fun a w=>E2 a w;have P:=fun a w=>KS a w;clear h D L B;by_cases q:b=10
 ·subst q;go_enter func62,ntmps62
  go_wp2_with fail;refine l.out.mono ?_;rintro e w1 ⟨rfl,m,i,o⟩;have g:bX w1 x.d c ⟨E,F,-1,.nilIface,f,y,d⟩:=z.out.dec.mod i (by intro h;rcases h with h|h|h;exact j.out.ne1 h;exact j.out.ne2 h;exact j.out.ne3 h);have G:=g.cell;have I:=g.frozen;have s:=Lib.hid g;have r:=Lib.hid m;have t:=Lib.hid i;have u:=Lib.hid o;clear g m i o N Q l;go_wp2;go_ret2
  have H:=(((s.out.set 20 .nilIface).set 21 (.int .i64 (f+1))).set 22 (.int .i64 (d+1))).set 23 (.int .i64 (d+1));have C:=((((aM.refl (fun k=>k=x.d) w1).setCell (p:=⟨x.d,20,none⟩) (aH rfl) .nilIface).setCell (p:=⟨x.d,21,none⟩) (aH rfl) (.int .i64 (f+1))).setCell (p:=⟨x.d,22,none⟩) (aH rfl) (.int .i64 (d+1))).setCell (p:=⟨x.d,23,none⟩) (aH rfl) (.int .i64 (d+1));have n:aM x.S0 w _:=(t.out.mono (fun _ _ h=>aW h)).trans (C.mono (fun _ _ h=>aH h):aM x.S0 w1 _) (fun _ _ h=>h);refine ⟨rfl,⟨E,F,-1,.nilIface,f+1,d+1,d+1⟩,z.out.step j.out H n ⟨rest,r.out.mod C (fun h=>j.out.ne1 h.symm) (fun h=>j.out.ne2 h.symm) (fun h=>j.out.ne3 h.symm),aH ⟨rfl,rfl⟩⟩ ?_ rfl (aH rfl) rfl,rfl,rfl,n,by simp [World.setCell];exact u.out⟩;exact z.out.pos.got (aH rfl) _ rfl rfl (by simp) (by simp)
 ·have M:=PY q;go_enter func62,ntmps62
  go_wp2_with fail;refine l.out.mono ?_;rintro e w1 ⟨rfl,m,i,o⟩;have g:bX w1 x.d c ⟨E,F,-1,.nilIface,f,y,d⟩:=z.out.dec.mod i (by intro h;rcases h with h|h|h;exact j.out.ne1 h;exact j.out.ne2 h;exact j.out.ne3 h);have G:=g.cell;have I:=g.frozen;have s:=Lib.hid g;have r:=Lib.hid m;have t:=Lib.hid i;have u:=Lib.hid o;clear g m i o N Q l;go_wp2;go_ret2
  have H:=(s.out.set 20 .nilIface).set 23 (.int .i64 (d+1));have C:=((aM.refl (fun k=>k=x.d) w1).setCell (p:=⟨x.d,20,none⟩) (aH rfl) .nilIface).setCell (p:=⟨x.d,23,none⟩) (aH rfl) (.int .i64 (d+1));have n:aM x.S0 w _:=(t.out.mono (fun _ _ h=>aW h)).trans (C.mono (fun _ _ h=>aH h):aM x.S0 w1 _) (fun _ _ h=>h);refine ⟨rfl,⟨E,F,-1,.nilIface,f,y,d+1⟩,z.out.step j.out H n ⟨rest,r.out.mod C (fun h=>j.out.ne1 h.symm) (fun h=>j.out.ne2 h.symm) (fun h=>j.out.ne3 h.symm),aH ⟨rfl,rfl⟩⟩ ?_ rfl (aH rfl) rfl,rfl,rfl,n,by simp [World.setCell];exact u.out⟩;exact z.out.pos.got (aH rfl) _ rfl rfl (by simp [q]) (by simp [q])
theorem PZ (x:Cx):xW x (qR x) (some (mF x.o.fails)):=by
 unfold qR mF;split<;>exact rfl
theorem P0 (x:Cx) (J:x.Ok) (c:DC) (q:iU x c) (w:World) (v:DV) (n:Bs) (h:cK x c w v [] none n) :
  Calls prog 62 #[.pointer (some ⟨x.d,0,none⟩)] w fun e w'=>e=.returned (.tuple #[.int .u8 0,.bool false]) ∧
   ∃ v',cK x c w' v' [] (some (mF x.o.fails)) n∧v'.nb=-1∧v'.bufv=v.bufv∧aM x.S0 w w'∧w'.heap.size=w.heap.size:=by
 obtain ⟨un,L,s⟩:=h.inp;have y:v.nb=-1∧un=[]:=by
  rcases s with ⟨T,H⟩|⟨b,_,H⟩
  ·exact ⟨T,H.symm⟩
  ·cases H
 obtain ⟨P,rfl⟩:=y;clear s;have U:=h.dec.cell;have Y:=h.dec.frozen;have M:v.err=.nilIface:=h.err;have W:=q.r;have f:(∃ u t,qR x=.iface u t):=by unfold qR;split<;>exact ⟨_,_,rfl⟩
 obtain ⟨u,t,f⟩:=f;have D:=Lib.hid f;have d:=DE x J w h.base L;rw [f] at d;have d:=Lib.hid d;have l:=Lib.hid J;have F:=Lib.hid h;obtain ⟨Q,S,aA,R,g,A,j⟩:=v;simp only at M P;subst M P;have I:=fun a w=>E2 a w;have N:=fun a w=>KS a w;clear h J L q f;go_enter func62,ntmps62
 go_wp2_with fail;refine d.out.mono ?_;rintro e w1 ⟨rfl,o,m,z⟩;have i:bX w1 x.d c ⟨Q,S,-1,.nilIface,g,A,j⟩:=F.out.dec.mod m (by intro h;rcases h with h|h|h;exact l.out.ne1 h;exact l.out.ne2 h;exact l.out.ne3 h);have V:=i.cell;have Z:=i.frozen;have C:=Lib.hid i;have B:=Lib.hid o;have E:=Lib.hid m;have G:=Lib.hid z;clear i o m z U Y d;go_wp2;go_ret2
 have X:=C.out.set 20 (.iface u t);have O:=(aM.refl (fun k=>k=x.d) w1).setCell (p:=⟨x.d,20,none⟩) (aH rfl) (.iface u t);have r:aM x.S0 w _:=(E.out.mono (fun _ _ h=>aW h)).trans (O.mono (fun _ _ h=>aH h):aM x.S0 w1 _) (fun _ _ h=>h);refine ⟨rfl,⟨Q,S,-1,.iface u t,g,A,j⟩,F.out.step l.out X r ⟨[],B.out.mod O (fun h=>l.out.ne1 h.symm) (fun h=>l.out.ne2 h.symm) (fun h=>l.out.ne3 h.symm),aH ⟨rfl,rfl⟩⟩ F.out.pos (by rw [←D.out];exact PZ x) (aW ⟨rfl,rfl⟩) rfl,rfl,rfl,r,by simp [World.setCell];exact G.out⟩
theorem P1 (c:DC) (d:Nat) (w:World) (v:DV) (h:bX w d c v) (u:TypeId) (t:Value) (b:v.err=.iface u t) :
  Calls prog 62 #[.pointer (some ⟨d,0,none⟩)] w fun e w'=>e=.returned (.tuple #[.int .u8 0,.bool false])∧w=w':=by
 have a:=h.cell;have f:=h.frozen;clear h;go_enter func62,ntmps62
 go_wp2;go_ret2
 exact ⟨rfl,rfl⟩
theorem gP {P:Program} {c t u:TypeId} {g:Array (String×TypeId)} (a b:Value) (w:World) (e:P.underlying c=some (.interface g)) (f:t≠u) :
  (binOp .eql c (.iface t a) (.iface u b)).run P w=.ok (.bool false) w:=by
 have h:∀ d:Nat,(Op.equalIn (d+1) c (.iface t a) (.iface u b)).run P w=.ok false w:=fun d=>by
  simp [Op.equalIn,run_underlying e,f]
 simp only [binOp];simp [Op.equal,Op.maxDepth,h 9999]
theorem s8:(prog.info? 196).map (·.comparable)=some true:=by kernel_rfl
theorem KT:(prog.info? 198).map (·.size)=some 1:=by kernel_rfl
theorem DG (a:Addr) (w:World):(binOp .eql 59 (.iface 196 (.pointer (some a))) (.iface 196 (.pointer (some a)))).run prog w=.ok (.bool true) w:=by
 have b:=s8;have d:=KT;cases c:prog.info? 196 with
 | none=>rw [c] at b;cases b
 | some i=>
  cases e:prog.info? 198 with
  | none=>rw [e] at d;cases d
  | some j=>
   rw [c] at b;exact run_eql_iface_ptr_same w a underlying59 underlying196 c (by simpa using b) e
theorem DH (a:Value) (b:Value) (w:World):(binOp .eql 59 (.iface 116 a) (.iface 196 b)).run prog w=.ok (.bool false) w:=
 gP a b w underlying59 (by decide)
theorem UA (a:Value) (b:Value) (w:World):(binOp .eql 59 (.iface 113 a) (.iface 196 b)).run prog w=.ok (.bool false) w:=
 gP a b w underlying59 (by decide)
theorem fL {b c:UInt8} {n:Int} (h:b≠c) (a:(c.toNat:Int)=n):((b.toNat:Int)==n)=false:=by
 subst a;simp;intro d;exact h (UInt8.toNat_inj.1 (by omega))
theorem cK.suf {x:Cx} {c:DC} {w:World} {v:DV} {rest:Bs} {e:Option EK} {a:Bs} (h:cK x c w v rest e a):rest <:+ x.T:=by
 obtain ⟨pre,b,_⟩:=h.pos;exact ⟨pre,b.symm⟩
theorem o8 (x:Cx) (j:x.Ok) (c:DC) (d:iU x c) (w:World) (v:DV) (b:UInt8) (rest:Bs) (e:Option EK) (a:Bs) (h:cK x c w v (b::rest) e a) :
  Calls prog 62 #[.pointer (some ⟨x.d,0,none⟩)] w fun e w'=>e=.returned (.tuple #[.int .u8 b.toNat,.bool true]) ∧
   ∃ v',cK x c w' v' rest none a∧v'.nb=-1∧v'.bufv=v.bufv∧aM x.S0 w w'∧w'.heap.size=w.heap.size:=by
 have k:e=none:=by rcases h.fin with h|⟨_,h⟩;exact h;cases h
 subst k;obtain ⟨m,i,g⟩:=h.inp;rcases g with ⟨f,rfl⟩|⟨b',f,l⟩
 ·exact T9 x j c d w v b rest a h i f
 ·cases l;exact T8 x j c w v b rest rest a h i f rfl
theorem sH (x:Cx) (m:x.Ok) (c:DC) (f:iU x c) (w:World) (v:DV) (e:Option EK) (a:Bs) (h:cK x c w v [] e a) :
  Calls prog 62 #[.pointer (some ⟨x.d,0,none⟩)] w fun e w'=>e=.returned (.tuple #[.int .u8 0,.bool false]) ∧
   ∃ v',cK x c w' v' [] (some (mF x.o.fails)) a∧v'.nb=-1∧v'.bufv=v.bufv∧aM x.S0 w w'∧w'.heap.size=w.heap.size:=by
 have l:v.nb=-1:=by
  obtain ⟨o,n,i⟩:=h.inp;rcases i with ⟨k,j⟩|⟨b,_,j⟩
  ·exact k
  ·cases j
 rcases h.fin with g|⟨g,_⟩
 ·subst g;exact P0 x m c f w v a h
 ·subst g;have d:∃ u t,v.err=.iface u t:=by
   have:=h.err;unfold mF at this;split at this<;>exact ⟨_,_,this⟩
  obtain ⟨u,t,d⟩:=d;refine (P1 c x.d w v h.dec u t d).mono ?_;rintro e w' ⟨rfl,rfl⟩;exact ⟨rfl,v,h,l,rfl,aM.refl _ _,rfl⟩
theorem gU (x:Cx) (y:x.Ok) (c:DC) (w:World) (v:DV) (b:UInt8) (rest:Bs) (n:Bs) (h:cK x c w v rest none n) (u:v.nb=-1) (j:(b::rest) <:+ x.T) :
  Calls prog 63 #[.pointer (some ⟨x.d,0,none⟩),.int .u8 b.toNat] w fun e w'=>e=.returned (.tuple #[]) ∧
   ∃ v',cK x c w' v' (b::rest) none n∧v'.nb=b.toNat∧v'.bufv=v.bufv∧aM x.S0 w w'∧w'.heap.size=w.heap.size:=by
 obtain ⟨O,D,q⟩:=h.inp;have r:rest=O:=by
  rcases q with ⟨_,C⟩|⟨b,P,C⟩
  ·exact C
  ·omega
 subst r;clear q;have Q:=h.dec.cell;have R:=h.dec.frozen;obtain ⟨L,M,I,J⟩:=h.pos.bounds y;have H:=UInt8.toNat_lt b;have i:=Lib.hid y;have g:=Lib.hid h;have z:=Lib.hid D;have A:=Lib.hid u;have B:=Lib.hid j;obtain ⟨F,G,N,l,d,s,a⟩:=v;simp only at u L M I J;clear h y D j u;by_cases m:b=10
 ·subst m;go_enter func63,ntmps63
  go_wp2;go_end0
  have t:=((g.out.dec.set 21 (.int .i64 (d-1))).set 18 (.int .i64 10)).set 23 (.int .i64 (a-1));have o:=(((aM.refl (fun k=>k=x.d) w).setCell (p:=⟨x.d,21,none⟩) (aH rfl) (.int .i64 (d-1))).setCell (p:=⟨x.d,18,none⟩) (aH rfl) (.int .i64 10)).setCell (p:=⟨x.d,23,none⟩) (aH rfl) (.int .i64 (a-1));have f:aM x.S0 w _:=o.mono (fun _ _ h=>aH h);refine ⟨rfl,⟨F,G,10,l,d-1,s,a-1⟩,g.out.step i.out t f ⟨rest,z.out.mod o (fun h=>i.out.ne1 h.symm) (fun h=>i.out.ne2 h.symm) (fun h=>i.out.ne3 h.symm),aW ⟨10,rfl,rfl⟩⟩ ?_ g.out.err (aH rfl) rfl,rfl,rfl,f,by simp [World.setCell]⟩;exact g.out.pos.put B.out A.out _ rfl rfl (by simp) rfl
 ·have E:=PY m;go_enter func63,ntmps63
  go_wp2;go_end0
  have t:=(g.out.dec.set 18 (.int .i64 b.toNat)).set 23 (.int .i64 (a-1));have o:=((aM.refl (fun k=>k=x.d) w).setCell (p:=⟨x.d,18,none⟩) (aH rfl) (.int .i64 b.toNat)).setCell (p:=⟨x.d,23,none⟩) (aH rfl) (.int .i64 (a-1));have f:aM x.S0 w _:=o.mono (fun _ _ h=>aH h);refine ⟨rfl,⟨F,G,b.toNat,l,d,s,a-1⟩,g.out.step i.out t f ⟨rest,z.out.mod o (fun h=>i.out.ne1 h.symm) (fun h=>i.out.ne2 h.symm) (fun h=>i.out.ne3 h.symm),aW ⟨b,rfl,rfl⟩⟩ ?_ g.out.err (aH rfl) rfl,rfl,rfl,f,by simp [World.setCell]⟩;exact g.out.pos.put B.out A.out _ rfl rfl (by simp [m]) rfl
theorem bO (x:Cx) (i:x.Ok) (c:DC) (f:iU x c) (w:World) (v:DV) (b:UInt8) (rest:Bs) (e:Option EK) (d:Bs) (h:cK x c w v (b::rest) e d) :
  Calls prog 65 #[.pointer (some ⟨x.d,0,none⟩)] w fun e w'=>e=.returned (.tuple #[.int .u8 b.toNat,.bool true]) ∧
   ∃ v',cK x c w' v' rest none d∧v'.nb=-1∧v'.bufv=v.bufv∧aM x.S0 w w'∧w'.heap.size=w.heap.size:=by
 have a:=Lib.hid (o8 x i c f w v b rest e d h);clear h i f;go_enter func65,ntmps65
 go_wp2_with fail;refine a.out.mono ?_;rintro e w1 ⟨rfl,g⟩;have j:=Lib.hid g;clear g a;go_wp2;go_ret2
 exact ⟨rfl,j.out⟩
theorem bS (x:Cx) (H:x.Ok) (c:DC) (t:iU x c) (w:World) (v:DV) (e:Option EK) (q:Bs) (h:cK x c w v [] e q) :
  Calls prog 65 #[.pointer (some ⟨x.d,0,none⟩)] w fun e w'=>e=.returned (.tuple #[.int .u8 0,.bool false]) ∧
   ∃ v',jM x c w' v' (cE x.o.fails)∧v'.bufv=v.bufv∧aM x.S0 w w':=by
 have j:=Lib.hid (sH x H c t w v e q h);have D:=Lib.hid H;clear h H t;go_enter func65,ntmps65
 go_wp2_with fail;refine j.out.mono ?_;rintro e w1 ⟨rfl,m,l,G,r,u,I⟩;have E:=l.dec.cell;have F:=l.dec.frozen;have N:w1.cell? ⟨0,0,none⟩=some x.eofV:=by rw [←D.out.eof];exact l.base.cell D.out.gB
 have d:=l.err;have z:=Lib.hid l;have o:=Lib.hid r;have p:=Lib.hid u;have O:=Lib.hid (fun k J=>DF x.d c m (w1.drewN k) l.dec J);clear l r u I G j;have R:=fun a w=>DG a w;have S:=fun a b w=>DH a b w;cases g:x.o.fails
 ·have M:m.err=x.eofV:=by rw [g] at d;exact d
  clear d;go_wp2;go_quiet (fail);go_wp2_with fail;refine (O.out _ _).mono ?_;rintro e L ⟨rfl,i⟩;have f:bX L x.d c m:=by rw [i];exact aJ.alloc (show aJ (w1.drewN _) _ _ _ from z.out.dec) _
  have y:aM x.S0 w L:=by rw [i];exact (p.out.drewN _).alloc _
  have P:=f.cell;have Q:=f.frozen;have B:=Lib.hid f;have C:=Lib.hid y;have n:=Lib.hid z.out.base;have s:Below x.B x.W0 L:=by rw [i];exact (bP n.out _).alloc n.out.size _
  have A:=Lib.hid s;clear i f y s E F;go_wp2;go_ret2
  rw [show cE x.o.fails=.syn by rw [g];rfl];exact ⟨rfl,{ m with err:=.iface 113 (.pointer (some ⟨w1.heap.size,0,none⟩)) },⟨A.out.setCell D.out.d _,B.out.set 20 _,⟨_,rfl⟩⟩,o.out,C.out.setCell (aH (aH rfl)) _⟩
 ·have M:m.err=A2:=by rw [g] at d;exact d
  clear d;go_wp2;go_quiet (fail);go_wp2;go_ret2
  rw [show cE x.o.fails=.own by rw [g];rfl];exact ⟨rfl,m,⟨bP z.out.base _,z.out.dec,M⟩,o.out,p.out.drewN _⟩
structure YL (x:Cx) (c:DC) (w:World) (v:DV) (rest:Bs) (buf:Bs) (w':World) (v':DV) (a:Option EK):Prop where
 rd:cK x c w' v' (aT rest) a buf
 bufv:v'.bufv=v.bufv
 mod:aM x.S0 w w'
theorem uJ (x:Cx) (Y:x.Ok) (c:DC) (F:iU x c) (w:World) (v:DV) (rest:Bs) (e:Option EK) (i:Bs) (h:cK x c w v rest e i) :
  Calls prog 67 #[.pointer (some ⟨x.d,0,none⟩)] w fun en w'=>en=.returned (.tuple #[])∧∃ v' e',YL x c w v rest i w' v' e':=by
 have Q:=Lib.hid Y;have V:=Lib.hid F;have H:=Lib.hid h;clear h Y F;go_enter func67,ntmps67
 go_wp2;go_loopg [2,3] rest.length (fun k _ _ wr=>∃ J M d,d.length=k∧aT d=aT rest∧cK x c wr J d M i∧J.bufv=v.bufv∧aM x.S0 w wr)
 case atStart=>exact ⟨v,e,rest,rfl,rfl,H.out,rfl,aM.refl _ _⟩
 case round=>
  obtain ⟨J,M,d,R,z,D,u,y⟩:=hrel;cases d with
  | nil=>
   have a:=Lib.hid (sH x Q.out c V.out wr J M i D);have t:=Lib.hid z;have q:=Lib.hid u;have s:=Lib.hid y;clear D u y z R;go_wp2_with fail;refine a.out.mono ?_;rintro W U ⟨rfl,L,A,j,f,g,p⟩;have N:=Lib.hid A;have m:=Lib.hid f;have n:=Lib.hid g;clear A f g p j a;go_wp2;(try simp only [Exit.inBlock,Exit.then]);refine bodyPost_ret (results_none rfl _ _ _) rfl ?_
   exact ⟨rfl,L,_,by rw [←t.out];exact N.out,m.out.trans q.out,s.out.trans n.out (fun _ _ h=>h)⟩
  | cons b r=>
   have a:=Lib.hid (o8 x Q.out c V.out wr J b r M i D);have t:=Lib.hid z;have q:=Lib.hid u;have s:=Lib.hid y;have HK:=Lib.hid R;have C:=Lib.hid D.suf;clear D u y z R;by_cases l:mG b=true
   ·have B:b=32∨b=13∨b=10∨b=9:=by
     simpa [mG,or_assoc] using l
    have o:Hid (aT r=aT rest):=by
     have:=t.out;rw [aT,aV l] at this;exact this
    clear l;rcases B with rfl|rfl|rfl|rfl
    all_goals
     go_wp2_with fail;refine a.out.mono ?_;rintro W U ⟨rfl,L,A,j,f,g,p⟩;have N:=Lib.hid A;have m:=Lib.hid f;have n:=Lib.hid g;clear A f g p j a;go_wp2;go_roundg r.length
     case measure=>have:=HK.out;simp at this;omega
     case rel=>exact ⟨L,none,r,rfl,o.out,N.out,m.out.trans q.out,s.out.trans n.out (fun _ _ h=>h)⟩
   ·have B:b≠32∧b≠13∧b≠10∧b≠9:=by
     refine ⟨?_,?_,?_,?_⟩<;>(intro h;subst h;exact l rfl)
    have o:Hid (aT rest=b::r):=by
     have:=t.out;rw [aT,aN l] at this;exact this.symm
    have t1:((b.toNat:Int)==32)=false:=fL B.1 rfl;have t2:((b.toNat:Int)==13)=false:=fL B.2.1 rfl;have t3:((b.toNat:Int)==10)=false:=fL B.2.2.1 rfl;have t4:((b.toNat:Int)==9)=false:=fL B.2.2.2 rfl;clear l B;go_wp2_with fail;refine a.out.mono ?_;rintro W U ⟨rfl,L,A,j,f,g,p⟩;have I:=Lib.hid (gU x Q.out c U L b r i A j C.out);have m:=Lib.hid f;have n:=Lib.hid g;clear A f g p j a;go_wp2_with fail;refine I.out.mono ?_;rintro e3 w3 ⟨rfl,v3,X,S,E,G,T⟩;have Z:=Lib.hid X;have O:=Lib.hid E;have P:=Lib.hid G;clear X E G T S I;go_wp2;(try simp only [Exit.inBlock,Exit.then]);refine bodyPost_ret (results_none rfl _ _ _) rfl ?_
    exact ⟨rfl,v3,none,by rw [o.out];exact Z.out,O.out.trans (m.out.trans q.out),(s.out.trans n.out (fun _ _ h=>h)).trans P.out (fun _ _ h=>h)⟩
theorem cK.buf {x:Cx} (m:x.Ok) {c:DC} {w w':World} {v v':DV} {rest:Bs} {e:Option EK} {n j:Bs} (h:cK x c w v rest e n) (o:bX w' x.d c v') (u:aM (fun k=>k=x.d∨eM v.bufv k) w w')
  (s:v'.nb=v.nb) (A:v'.err=v.err) (B:v'.line=v.line) (C:v'.lstart=v.lstart) (D:v'.off=v.off) (y:mT x w' v'.bufv j):cK x c w' v' rest e j:=by
 have p:∀ k,x.Sio k→¬ (k=x.d∨eM v.bufv k):=by
  intro k t f;rcases f with f|f
  ·subst f;rcases t with h|h|h
   ·exact m.ne1 h
   ·exact m.ne2 h
   ·exact m.ne3 h
  ·exact h.bf.notS0 k f (aW t)
 refine ⟨aM.below h.base h.base.size u ?_,o,?_,?_,by rw [A];exact h.err,h.fin,y⟩
 ·intro i l;rcases l with l|l
  ·subst l;exact m.d
  ·rcases h.bf with ⟨r,_⟩|⟨g,cap,arr,r,_,_,_,_,G,_,_⟩
   ·rw [r] at l;exact l.elim
   ·rw [r] at l;have:i=g:=l;omega
 ·obtain ⟨F,E,q⟩:=h.inp;exact ⟨F,E.mod u (p _ (aH rfl)) (p _ (aW (aH rfl))) (p _ (aW (aW rfl))),by rw [s];exact q⟩
 ·obtain ⟨pre,a,b,z,d⟩:=h.pos;exact ⟨pre,a,by rw [D];exact b,by rw [B];exact z,by rw [s,C];exact d⟩
theorem pW (x:Cx) (C:x.Ok) (c:DC) (w:World) (v:DV) (rest:Bs) (e:Option EK) (r:Bs) (h:cK x c w v rest e r) :
  Calls prog 69 #[.pointer (some ⟨x.d,7,none⟩)] w fun F w'=>F=.returned (.tuple #[])∧∃ v',cK x c w' v' rest e []∧v'.nb=v.nb∧(∀ k,eM v'.bufv k↔eM v.bufv k)∧aM x.S0 w w'∧w'.heap.size=w.heap.size:=by
 have J:=h.dec.cell;have L:=h.dec.frozen;have A:=Lib.hid C;have H:=Lib.hid h;obtain ⟨N,O,q,b,a,o,d⟩:=v;have t:=h.bf;clear h C;rcases t with ⟨n,I⟩|⟨g,cap,arr,n,B,z,M,u,s,m,i⟩
 ·simp only at n;subst n;go_enter func69,ntmps69
  go_wp2;go_end0
  have y:=((H.out.dec.set 7 (.slice none 0 0)).set 8 (.int .i64 0)).set 9 (.int .i8 0);have l:=(((aM.refl (fun k=>k=x.d) w).setCell (p:=⟨x.d,7,none⟩) (aH rfl) (.slice none 0 0)).setCell (p:=⟨x.d,8,none⟩) (aH rfl) (.int .i64 0)).setCell (p:=⟨x.d,9,none⟩) (aH rfl) (.int .i8 0);exact ⟨rfl,⟨.slice none 0 0,0,q,b,a,o,d⟩,H.out.buf A.out y (l.mono (fun _ _ h=>aH h)) rfl rfl rfl rfl rfl (aH ⟨rfl,rfl⟩),rfl,fun k=>Iff.rfl,l.mono (fun _ _ h=>aH h),by simp [World.setCell]⟩
 ·simp only at n;subst n;have E:=Lib.hid B;have D:=Lib.hid i;clear B i;go_enter func69,ntmps69
  go_wp2;go_end0
  have y:=((H.out.dec.set 7 (.slice (some ⟨g,0,none⟩) 0 cap)).set 8 (.int .i64 0)).set 9 (.int .i8 0);have l:=(((aM.refl (fun k=>k=x.d) w).setCell (p:=⟨x.d,7,none⟩) (aH rfl) (.slice (some ⟨g,0,none⟩) 0 cap)).setCell (p:=⟨x.d,8,none⟩) (aH rfl) (.int .i64 0)).setCell (p:=⟨x.d,9,none⟩) (aH rfl) (.int .i8 0);have f:g≠x.d:=fun h=>m (aH h)
  exact ⟨rfl,⟨.slice (some ⟨g,0,none⟩) 0 cap,0,q,b,a,o,d⟩,H.out.buf A.out y (l.mono (fun _ _ h=>aH h)) rfl rfl rfl rfl rfl
   (aW ⟨g,cap,arr,rfl,((E.out.set_ne f _).set_ne f _).set_ne f _,z,iW _,u,s,m,fun j G=>by simp at G⟩),rfl,fun k=>Iff.rfl,l.mono (fun _ _ h=>aH h),by simp [World.setCell]⟩
theorem mX (x:Cx) (c:DC) (w:World) (v:DV) (rest:Bs) (e:Option EK) (a:Bs) (h:cK x c w v rest e a) :
  Calls prog 71 #[.pointer (some ⟨x.d,7,none⟩)] w fun o w'=>o=.returned v.bufv∧∃ k,w'=w.drewN k:=by
 have y:=h.dec.cell;have z:=h.dec.frozen;have d:=h.bf;obtain ⟨B,C,t,m,l,s,n⟩:=v;clear h;rcases d with ⟨j,u⟩|⟨g,cap,arr,j,q,r,A,p,b,i,f⟩
 all_goals
  simp only at j;subst j;try clear q f b i
  go_enter func71,ntmps71
  go_wp2;go_quiet (fail);go_wp2;go_ret
  exact ⟨rfl,_,rfl⟩
theorem BS (x:Cx) (c:DC) (w:World) (v:DV) (rest:Bs) (e:Option EK) (a:Bs) (h:cK x c w v rest e a) :
  Calls prog 76 #[.pointer (some ⟨x.d,7,none⟩)] w fun o w'=>o=.returned (.int .i64 a.length)∧∃ k,w'=w.drewN k:=by
 have z:=h.dec.cell;have A:=h.dec.frozen;have f:=h.bf;obtain ⟨C,D,y,m,l,u,n⟩:=v;clear h;rcases f with ⟨b,p⟩|⟨g,cap,arr,b,r,t,B,q,d,j,i⟩
 ·simp only at b;subst b p;go_enter func76,ntmps76
  go_wp2;go_quiet (fail);go_wp2;go_ret
  exact ⟨rfl,_,rfl⟩
 ·simp only at b;subst b;have s:(a.length:Int)≤9223372036854775807:=by omega
  clear r i d j;go_enter func76,ntmps76
  go_wp2;go_quiet (fail);go_wp2;go_ret
  exact ⟨by simp,_,rfl⟩
theorem wZ (d:Nat) (c:DC) (v:DV) (w:World) (h:bX w d c v) (g b a n:Nat) (f:v.bufv=.slice (some ⟨g,0,none⟩) b a) (t:b+n≤a) (r:a≤9223372036854775807) :
  Calls prog 103 #[.pointer (some ⟨d,7,none⟩),.int .i64 n] w fun k w'=>k=.returned (.tuple #[.int .i64 b,.bool true])∧w'=w.setCell ⟨d,7,none⟩ (.slice (some ⟨g,0,none⟩) (b+n) a):=by
 have l:=h.cell;have s:=h.frozen;obtain ⟨u,x,o,i,e,m,j⟩:=v;simp only at f;subst f;clear h;have p:(n:Int)≤(a:Int)-(b:Int):=by omega
 have q:(b:Int)+(n:Int)≤(a:Int):=by omega
 go_enter func103,ntmps103
 go_wp2;go_ret2
 exact ⟨rfl,rfl⟩
theorem pX (d:Nat) (c:DC) (v:DV) (w:World) (h:bX w d c v) (a:Option Addr) (e b n:Nat) (g:v.bufv=.slice a e b) (s:e≤b) (t:b<e+n) (q:b≤9223372036854775807) :
  Calls prog 103 #[.pointer (some ⟨d,7,none⟩),.int .i64 n] w fun k w'=>k=.returned (.tuple #[.int .i64 0,.bool false])∧w=w':=by
 have l:=h.cell;have r:=h.frozen;obtain ⟨u,x,o,i,f,m,j⟩:=v;simp only at g;subst g;clear h;have p:¬ ((n:Int)≤(b:Int)-(e:Int)):=by omega
 go_enter func103,ntmps103
 go_wp2;go_ret2
 exact ⟨rfl,rfl⟩
structure y4 (x:Cx) (c:DC) (w:World) (v:DV) (buf:Bs) (n:Nat) (w':World) (g cap:Nat) (a:Array Value):Prop where
 dec:bX w' x.d c { v with bufv:=.slice (some ⟨g,0,none⟩) (buf.length+n) cap }
 blk:aJ w' g a 5
 sz:a.size=cap
 cp:buf.length+n≤cap
 cm:cap≤9223372036854775807
 new:w.heap.size≤g
 el:∀ j,j<buf.length→a[j]?=some (.int .u8 (buf.getD j 0).toNat)
 mod:aM (fun k=>k=x.d) w w'
theorem XV:(prog.info? 5).map (fun i=>(i.zero,i.size,i.bytes))=some (some (.int .u8 0),1,1):=by kernel_rfl
theorem Fc (n:Nat) (e:n≤64) (w:World):(Instr.makeSlice 81 (.int .i64 n) (.int .i64 64)).run prog w=.ok (.slice (some ⟨w.heap.size,0,none⟩) n 64) (w.alloc (.cells (madeCells #[.int .u8 0] 64) 5)):=by
 obtain ⟨i,c,d,a,b⟩:=info_parts XV;have:=run_make w 81 5 i (.int .u8 0) underlying81 c d .i64 .i64 n 64 (by omega) (by omega) (by rw [b];omega) (by omega);rw [a] at this;simpa [Value.cells] using this
theorem P2 (x:Cx) (C:x.Ok) (c:DC) (w:World) (v:DV) (rest:Bs) (e:Option EK) (h:cK x c w v rest e []) (A:v.bufv=.slice none 0 0) (n:Nat) (V:1≤n) (z:n≤64) :
  Calls prog 104 #[.pointer (some ⟨x.d,7,none⟩),.int .i64 n] w fun E w'=>E=.returned (.int .i64 0)∧∃ g u t,y4 x c w v [] n w' g u t:=by
 have F:=h.dec.cell;have J:=h.dec.frozen;have l:=Lib.hid (BS x c w v rest e [] h);have R:=Lib.hid C;have H:=Lib.hid h;have m:=Lib.hid (fun k=>pX x.d c v (w.drewN k) h.dec none 0 0 n A (by omega) (by omega) (by omega));obtain ⟨W,D,r,f,b,q,i⟩:=v;simp only at A;subst A;clear h C;have U:(n:Int)≤64:=by omega
 go_enter func104,ntmps104
 go_wp2_with fail;refine l.out.mono ?_;rintro S w1 ⟨rfl,k,rfl⟩;go_wp2_with fail;refine (m.out _).mono ?_;rintro T X ⟨rfl,rfl⟩;have G:∀ o,(w.drewN k).cell? ⟨x.d,o,none⟩=(pP c ⟨.slice none 0 0,D,r,f,b,q,i⟩)[o]?:=F;have L:∀ o,(w.drewN k).frozen? ⟨x.d,o,none⟩=false:=J;have B:=fun (w:World) (a:Option Addr) (n c:Nat)=>Lib.run_eql_slice_nil (P:=prog) w 81 5 a n c 0 0 underlying81;have Q:=Fc n z;have d:bX ((w.drewN k).alloc (.cells (madeCells #[.int .u8 0] 64) 5)) x.d c ⟨.slice none 0 0,D,r,f,b,q,i⟩:=aJ.alloc (show aJ (w.drewN k) _ _ _ from H.out.dec) _;have I:=d.cell;have M:=d.frozen;have s:=Lib.hid d;clear d;go_wp2;go_ret
 have O:=((((aM.refl (fun k=>k=x.d) w).drewN k).alloc (.cells (madeCells #[.int .u8 0] 64) 5)).setCell (p:=⟨x.d,7,none⟩) (aH rfl) (.slice (some ⟨w.heap.size,0,none⟩) n 64));have y:w.heap.size≠x.d:=fun h=>by have:=H.out.dec.lt;omega
 refine ⟨rfl,w.heap.size,64,madeCells #[.int .u8 0] 64,?_,?_,size_madeCells _ _,by simp;omega,by omega,dD _,fun j N=>by simp at N,O⟩
 ·have:=s.out.set 7 (.slice (some ⟨w.heap.size,0,none⟩) n 64);rw [show ([]:Bs).length+n=n by simp];exact this
 ·exact (show aJ ((w.drewN k).alloc (.cells (madeCells #[.int .u8 0] 64) 5)) w.heap.size _ _ from aJ.new (w.drewN k) _ _).set_ne y _
theorem BU (x:Cx) (hx:x.Ok) (c:DC) (w:World) (v:DV) (rest:Bs) (e:Option EK) (b:Bs) (h:cK x c w v rest e b) (g f:Nat) (m:Array Value) (hv:v.bufv=.slice (some ⟨g,0,none⟩) b.length f)
  (hg:aJ w g m 5) (aC:m.size=f) (A:b.length≤f) (y:∀ j,j<b.length→m[j]?=some (.int .u8 (b.getD j 0).toNat))
  (n:Nat) (hn:1≤n) (hr:f<b.length+n) (G:b.length+n≤100000000000000) :
  Calls prog 104 #[.pointer (some ⟨x.d,7,none⟩),.int .i64 n] w fun en w'=>en=.returned (.int .i64 b.length)∧∃ g f m,y4 x c w v b n w' g f m:=by
 have hc:=h.dec.cell;have hf:=h.dec.frozen;have t:=Lib.hid (BS x c w v rest e b h);have HX:=Lib.hid hx;have H:=Lib.hid h;have I:=Lib.hid (fun k=>pX x.d c v (w.drewN k) h.dec _ _ _ n hv A hr (by omega));have E:=Lib.hid (fun k=>Tryz.bytes_growSlice_row g b.length f n m (w.drewN k) hg aC A hn (by omega) (by omega) (by
  intro u hu;obtain ⟨j,Y,rfl⟩:=List.mem_iff_getElem.1 hu;have Z:j<b.length:=by simp at Y;omega
  have:=y j Z;simp only [List.getElem_take];rw [Array.getElem?_eq_some_iff] at this;obtain ⟨h1,N⟩:=this;simp [N,Value.oneCell']))
 have D:=Lib.hid y;have a3:¬ ((9223372036854775807:Int)-(f:Int)-(n:Int)<(f:Int)):=by omega
 have hq:¬ ((n:Int)≤(f:Int) / 2-(b.length:Int)):=by omega
 have a1:(f:Int)≤100000000000000:=by omega
 have V:(0:Int)≤(b.length:Int):=by omega
 have W:(b.length:Int)≤100000000000000:=by omega
 have a8:(n:Int)≤100000000000000:=by omega
 have a9:IntKind.i64.wrap (n:Int)=n:=IntWalk.i64_in _ (by omega);obtain ⟨sb,sl,a0,J,C,aL,M⟩:=v;simp only at hv;subst hv;clear h hx y hg;obtain ⟨L,O⟩:∃ L,L=b.length:=⟨_,rfl⟩;rw [←O] at hc t E D hq V W H A hr G;have U:=Lib.hid O;rw [←O];clear O;have hz:((L:Int)==0)=true∨((L:Int)==0)=false:=by cases ((L:Int)==0)<;>simp
 rcases hz with hz|hz
 all_goals
  go_enter func104,ntmps104
  go_wp2_with fail;refine t.out.mono ?_;rintro e1 w1 ⟨rfl,k,rfl⟩;have a4:∀ o,(w.drewN k).cell? ⟨x.d,o,none⟩=(pP c ⟨.slice (some ⟨g,0,none⟩) L f,sl,a0,J,C,aL,M⟩)[o]?:=hc;have a6:∀ o,(w.drewN k).frozen? ⟨x.d,o,none⟩=false:=hf;have a2:=fun (w:World) (a:Option Addr) (n c:Nat)=>Lib.run_eql_slice_nil (P:=prog) w 81 5 a n c 0 0 underlying81;go_wp2_with fail;refine (I.out _).mono ?_;rintro e2 w2 ⟨rfl,rfl⟩;go_wp2_with fail;(refine lX [0,0,0,0,1,0,0,0,1,1,0,0,0,1,0,1,2,0,0,2] [0,1,2,3,5,6,7,10,11,12,14,4,8,9,13,15,16,17,18,19] ?_;refine vP ?_;repeat with_reducible intro nq)
  refine bK rfl rfl (fun nq K hK=>?_);go_simp;go_at_call 121
  refine (E.out _).mono ?_;rintro e3 w3 ⟨d,r,rfl,k1,k2,k3,k4,k5,B⟩;have s:=aJ.mod (w:=w) (w':=w3) (S:=fun _=>False) H.out.dec ⟨B.os,B.tape,B.output,B.size,fun i X _=>B.block i X⟩ id;have a5:=s.cell;have a7:=s.frozen;have Q:=Lib.hid s;have R:=Lib.hid k1;have T:=Lib.hid k3;have q:=Lib.hid B;have h4:(L:Int)+(n:Int)≤(d:Int):=by omega
  have h5:(d:Int)≤9223372036854775807:=by unfold maxLen at k5;omega
  clear s k1 k3 B k5;go_wp2_with fail;refine hK.out _ _ ?_;clear hK K;(refine vP ?_;repeat with_reducible intro nq)
  go_wp2;go_ret
  have z:w.heap.size≠x.d:=fun h=>by have:=H.out.dec.lt;omega
  have aA:aM (fun k=>k=x.d) w w3:=⟨q.out.os,q.out.tape,q.out.output,q.out.size,fun i X _=>q.out.block i X⟩;have hb:aJ w3 w.heap.size r 5:=R.out;refine ⟨by trivial,w.heap.size,d,r,?_,?_,by assumption,by rw [←U.out];assumption,by omega,dD _,?_,?_⟩
  ·rw [←U.out];exact ((Q.out.set 7 (.slice (some ⟨w.heap.size,0,none⟩) L d)).set 8 (.int .i64 0)).set 7 (.slice (some ⟨w.heap.size,0,none⟩) (L+n) d)
  ·exact ((hb.set_ne (a:=⟨x.d,7,none⟩) z (.slice (some ⟨w.heap.size,0,none⟩) L d)).set_ne (a:=⟨x.d,8,none⟩) z (.int .i64 0)).set_ne (a:=⟨x.d,7,none⟩) z (.slice (some ⟨w.heap.size,0,none⟩) (L+n) d)
  ·intro j Y;have F:j<L:=by rw [U.out];exact Y
   have h1:=D.out j F;have N:=congrArg (fun l=>l[j]?) T.out;simp only [List.getElem?_take,F,if_true,Array.getElem?_toList] at N;rw [N];exact h1
  ·exact (((((aA.drewN _).setCell (p:=⟨x.d,7,none⟩) (aH rfl) (.slice (some ⟨w.heap.size,0,none⟩) L d)).drewN _).setCell (p:=⟨x.d,8,none⟩) (aH rfl) (.int .i64 0)).setCell (p:=⟨x.d,7,none⟩) (aH rfl) (.slice (some ⟨w.heap.size,0,none⟩) (L+n) d))
theorem P3 (x:Cx) (q:x.Ok) (c:DC) (w:World) (v:DV) (rest:Bs) (e:Option EK) (b:Bs) (h:cK x c w v rest e b) (n:Nat) (p:1≤n) (l:n≤64)
  (B:∀ a o d,v.bufv=.slice (some a) o d→d<b.length+n) (i:b.length+n≤100000000000000) :
  Calls prog 104 #[.pointer (some ⟨x.d,7,none⟩),.int .i64 n] w fun r w'=>r=.returned (.int .i64 b.length)∧∃ g d f,y4 x c w v b n w' g d f:=by
 rcases h.bf with ⟨j,t⟩|⟨g,d,f,j,y,m,z,u,s,A,k⟩
 ·subst t;exact P2 x q c w v rest e h j n p l
 ·exact BU x q c w v rest e b h g d f j y m z k n p (B _ _ _ j) i
theorem cK.s0lt {x:Cx} {c:DC} {w:World} {v:DV} {rest:Bs} {e:Option EK} {b:Bs} (h:cK x c w v rest e b) (k:Nat) (a:x.S0 k):k<w.heap.size:=by
 obtain ⟨l,⟨r,q,n,j,d,s,m,f,g,_,i,_⟩,_⟩:=h.inp;rcases a with a|a|a|a<;>subst a
 ·exact aJ.lt h.dec
 ·exact f.lt
 ·exact g.lt
 ·exact i.lt
theorem cK.more {x:Cx} (I:x.Ok) {c:DC} {w:World} {v:DV} {rest:Bs} {e:Option EK} {d:Bs} (h:cK x c w v rest e d) (o:Bs) (w':World) (v':DV) (g i:Nat) (f:Array Value)
  (s:bX w' x.d c v') (p:v'.bufv=.slice (some ⟨g,0,none⟩) (d.length+o.length) i) (r:aJ w' g f 5) (J:f.size=i) (A:d.length+o.length≤i) (z:i≤9223372036854775807)
  (n:(eM v.bufv g∧x.B≤g∧¬ x.S0 g)∨w.heap.size≤g) (B:∀ j,j<d.length→f[j]?=some (.int .u8 (d.getD j 0).toNat)) (t:∀ j,j<o.length→f[d.length+j]?=some (.int .u8 (o.getD j 0).toNat))
  (y:aM (fun k=>k=x.d∨eM v.bufv k) w w') (u:v'.nb=v.nb) (C:v'.err=v.err) (D:v'.line=v.line) (E:v'.lstart=v.lstart) (F:v'.off=v.off) :
  cK x c w' v' rest e (d++o)∧v'.nb=v.nb∧dB x w v w' v':=by
 have q:x.B≤g∧¬ x.S0 g:=by
  rcases n with ⟨_,b,c⟩|n
  ·exact ⟨b,c⟩
  ·refine ⟨fX ?_ n,fun H=>?_⟩
   ·exact h.base.size
   ·have:=h.s0lt g H;omega
 refine ⟨h.buf I s y u C D E F (aW ⟨g,i,f,by rw [fY];exact p,r,J,by rw [fY];exact A,z,q.1,q.2,fun j G=>?_⟩),u,⟨y.mono (fun k _ l=>by
  rcases l with l|l
  ·exact aH (aH l)
  ·exact aW l),fun k l=>?_⟩⟩
 ·rw [fY] at G;by_cases m:j<d.length
  ·rw [B j m];simp [sR,List.getElem?_append_left m]
  ·have:=t (j-d.length) (by omega);rw [show d.length+(j-d.length)=j by omega] at this;rw [this];simp [sR,EG (Nat.le_of_not_lt m)]
 ·rw [p] at l;have:k=g:=l;subst this;rcases n with ⟨a,_⟩|n
  ·exact aH a
  ·exact aW n
theorem uK {w w':World} {g:Nat} (h:w'.heap[g]?=w.heap[g]?) (j:Nat):w'.cell? ⟨g,j,none⟩=w.cell? ⟨g,j,none⟩:=by
 unfold World.cell?;simp [h]
def UB (v:DV) (a:Bs) (w w':World):Prop:=∀ g l b,v.bufv=.slice (some ⟨g,0,none⟩) l b→∀ j,j<a.length→w'.cell? ⟨g,j,none⟩=w.cell? ⟨g,j,none⟩
theorem gJ (x:Cx) (hx:x.Ok) (c:DC) (w:World) (v:DV) (rest:Bs) (e:Option EK) (f:Bs) (h:cK x c w v rest e f) (b:UInt8) (b2:f.length≤50000000000000) :
  Calls prog 70 #[.pointer (some ⟨x.d,7,none⟩),.int .u8 b.toNat] w fun en w'=>en=.returned .nilIface∧∃ v',(cK x c w' v' rest e (f++[b])∧v'.nb=v.nb∧dB x w v w' v')∧UB v f w w':=by
 have HX:=Lib.hid hx;have B:bX (w.setCell ⟨x.d,9,none⟩ (.int .i8 0)) x.d c { v with lastRead:=0 }:=h.dec.set 9 (.int .i8 0);have Y:aM (fun k=>k=x.d∨eM v.bufv k) w (w.setCell ⟨x.d,9,none⟩ (.int .i8 0)):=(aM.refl _ w).setCell (aH (aH rfl)) _;have U:∀ k,eM v.bufv k→k≠x.d:=fun k hk e=>h.bf.notS0 k hk (aH e);have h9:cK x c (w.setCell ⟨x.d,9,none⟩ (.int .i8 0)) { v with lastRead:=0 } rest e f:=h.buf hx B Y rfl rfl rfl rfl rfl (h.bf.mod ((aM.refl (fun k=>k=x.d) w).setCell (p:=⟨x.d,9,none⟩) (aH rfl) _) U)
 have V:(∃ g d m,v.bufv=.slice (some ⟨g,0,none⟩) f.length d∧aJ w g m 5∧m.size=d∧f.length+1≤d∧d≤9223372036854775807∧x.B≤g∧¬ x.S0 g∧(∀ j,j<f.length→m[j]?=some (.int .u8 (f.getD j 0).toNat))) ∨
   (∃ a l d,v.bufv=.slice a l d∧l≤d∧d<l+1∧d≤9223372036854775807∧∀ a b1 d,v.bufv=.slice (some a) b1 d→d<f.length+1):=by
  rcases h.bf with ⟨s,hb⟩|⟨g,d,m,s,hg,E,X,r,I,D,J⟩
  ·exact aW ⟨none,0,0,s,by omega,by omega,by omega,fun a l c' h'=>by rw [s] at h';cases h'⟩
  ·by_cases hr:f.length+1≤d
   ·exact aH ⟨g,d,m,s,hg,E,hr,r,I,D,J⟩
   ·exact aW ⟨_,_,_,s,X,by omega,r,fun a l c' h'=>by rw [s] at h';cases h';omega⟩
 have H:=Lib.hid h;have H9:=Lib.hid h9;have a6:=Lib.hid Y;have hc:=h.dec.cell;have hf:=h.dec.frozen;have HB:=Lib.hid U;have aA:(0:Int)≤(f.length:Int):=by omega
 clear h h9 Y U hx;rcases V with ⟨g,d,m,s,hg,E,X,r,I,D,J⟩|⟨a,l,d,s,X,hr,r,a3⟩
 ·have M:=Lib.hid (wZ x.d c { v with lastRead:=0 } _ B g f.length d 1 s X r);have W:x.d≠g:=fun e=>D (aH e.symm);have o:g≠x.d:=fun e=>D (aH e);have a9:=hg.cell;have bA:=hg.frozen;have a5:=Lib.hid J;have F:=Lib.hid hg;have a1:(f.length:Int)<(f.length:Int)+1:=by omega
  have A:∃ u,m[f.length]?=some u:=by
   have:f.length<m.size:=by omega
   exact ⟨_,Array.getElem?_eq_getElem this⟩
  obtain ⟨u,hu⟩:=A;obtain ⟨sb,sl,O,t,q,N,y⟩:=v;simp only at s;subst s;obtain ⟨L,T⟩:∃ L,L=f.length:=⟨_,rfl⟩;have z:=Lib.hid T;rw [←T] at hc M aA a1 hu X;have a4:=Lib.hid I;clear T hg J B I;go_enter func70,ntmps70
  go_wp2_with fail;refine M.out.mono ?_;rintro e1 w1 ⟨rfl,rfl⟩;go_wp2;go_ret
  have R:aJ w g m 5:=F.out;refine ⟨by trivial,⟨.slice (some ⟨g,0,none⟩) (L+1) d,0,O,t,q,N,y⟩,(H.out.more HX.out [b] _ _ g d (m.setIfInBounds L (.int .u8 b.toNat)) ?_ (by rw [z.out];rfl) ?_ (by simpa using E) (by rw [←z.out];exact X) r (aH ⟨rfl,a4.out,D⟩) ?_ ?_ ?_ rfl rfl rfl rfl rfl),?_⟩
  ·exact aJ.set_ne (a:=⟨g,L,none⟩) (show aJ _ x.d _ _ from (H.out.dec.set 9 (.int .i8 0)).set 7 (.slice (some ⟨g,0,none⟩) (L+1) d)) W (.int .u8 b.toNat)
  ·exact ((R.set_ne (a:=⟨x.d,9,none⟩) o (.int .i8 0)).set_ne (a:=⟨x.d,7,none⟩) o (.slice (some ⟨g,0,none⟩) (L+1) d)).set L (.int .u8 b.toNat)
  ·intro j C;rw [Array.getElem?_setIfInBounds_ne (by have:=z.out;omega)];exact a5.out j C
  ·intro j C;have:j=0:=by simpa using C
   subst this;rw [←z.out,Array.getElem?_setIfInBounds];have:L<m.size:=by omega
   simp [this]
  ·exact (((aM.refl _ w).setCell (p:=⟨x.d,9,none⟩) (aH (aH rfl)) (.int .i8 0)).setCell (p:=⟨x.d,7,none⟩) (aH (aH rfl)) (.slice (some ⟨g,0,none⟩) (L+1) d)).setCell (p:=⟨g,L,none⟩) (aH (aW rfl)) (.int .u8 b.toNat)
  ·intro g' l' n Z j C;cases Z;have S:=(((R.set_ne (a:=⟨x.d,9,none⟩) o (.int .i8 0)).set_ne (a:=⟨x.d,7,none⟩) o (.slice (some ⟨g,0,none⟩) (L+1) d)).set L (.int .u8 b.toNat)).cell j;rw [Array.getElem?_setIfInBounds_ne (by have:=z.out;omega)] at S;exact S.trans (R.cell j).symm
 ·have M:=Lib.hid (pX x.d c { v with lastRead:=0 } _ B a l d 1 s X hr r);have a0:=Lib.hid (P3 x HX.out c _ { v with lastRead:=0 } rest e f H9.out 1 (by omega) (by omega) a3 (by omega));obtain ⟨sb,sl,O,t,q,N,y⟩:=v;simp only at s;subst s;have a8:(f.length:Int)≤50000000000000:=by omega
  clear B a3;obtain ⟨L,T⟩:∃ L,L=f.length:=⟨_,rfl⟩;have z:=Lib.hid T;rw [←T] at a0 aA a8;clear T;go_enter func70,ntmps70
  go_wp2_with fail;refine M.out.mono ?_;rintro e1 w1 ⟨rfl,rfl⟩;go_wp2_with fail;refine a0.out.mono ?_;rintro e1 w1 ⟨rfl,g,n,m,P⟩;have a1:(L:Int)<(L:Int)+1:=by omega
  have aL:=P.dec;have G:bX w1 x.d c ⟨.slice (some ⟨g,0,none⟩) (L+1) n,0,O,t,q,N,y⟩:=by rw [z.out];exact aL
  have b3:=G.cell;have b4:=aJ.frozen G;have a9:=P.blk.cell;have bA:=P.blk.frozen;have aC:L+1≤n:=by rw [z.out];exact P.cp
  have E:=P.sz;have A:∃ u,m[L]?=some u:=by
   have:L<m.size:=by omega
   exact ⟨_,Array.getElem?_eq_getElem this⟩
  obtain ⟨u,hu⟩:=A;have o:g≠x.d:=fun e=>by
   have S:=aJ.lt H9.out.dec;have h2:=P.new;omega
  have W:x.d≠g:=fun e=>o e.symm;have F:=Lib.hid P;have HD:=Lib.hid G;clear P aL G hc hf;go_wp2;go_ret
  have Q:(w.setCell ⟨x.d,9,none⟩ (.int .i8 0)).heap.size=w.heap.size:=by simp [World.setCell]
  refine ⟨by trivial,⟨.slice (some ⟨g,0,none⟩) (L+1) n,0,O,t,q,N,y⟩,(H.out.more HX.out [b] _ _ g n (m.setIfInBounds L (.int .u8 b.toNat)) ?_ (by rw [z.out];rfl) ?_ (by simpa using E) (by rw [←z.out];exact aC) F.out.cm (aW (by have:=F.out.new;omega)) ?_ ?_ ?_ rfl rfl rfl rfl rfl),?_⟩
  ·exact aJ.set_ne (a:=⟨g,L,none⟩) (show aJ _ x.d _ _ from HD.out) W (.int .u8 b.toNat)
  ·exact F.out.blk.set L (.int .u8 b.toNat)
  ·intro j C;rw [Array.getElem?_setIfInBounds_ne (by have:=z.out;omega)];exact F.out.el j C
  ·intro j C;have:j=0:=by simpa using C
   subst this;rw [←z.out,Array.getElem?_setIfInBounds];have:L<m.size:=by omega
   simp [this]
  ·refine aM.setCell ?_ (p:=⟨g,L,none⟩) (aW (by have:=F.out.new;show w.heap.size≤g;omega)) (.int .u8 b.toNat);exact a6.out.trans F.out.mod (fun i _ hi=>aH hi)
  ·intro g' l' n Z j C;have a7:=H.out.bf;rcases a7 with ⟨S,h2⟩|⟨g0,cap0,arr0,S,h2,_,_,_,_,h7,_⟩
   ·rw [h2] at C;simp at C
   ·simp only at S Z;rw [S] at Z;simp only [Value.slice.injEq,kD,Addr.mk.injEq] at Z;obtain ⟨⟨bC,_⟩,_⟩:=Z;subst bC;have bL:=h2.lt;have a2:g0≠x.d:=fun e=>h7 (aH e);have b0:g0≠g:=fun e=>by
     have:=F.out.new;rw [Q] at this;omega
    refine uK ?_ j;rw [eK _ _ _ _ b0];have hm:=F.out.mod.block g0 (by rw [Q];exact bL) a2;rw [hm];exact eK w ⟨x.d,9,none⟩ _ g0 a2
theorem gK (x:Cx) (j:x.Ok) (c:DC) (w:World) (v:DV) (rest:Bs) (e:Option EK) (a:Bs) (h:cK x c w v rest e a) (b:UInt8) (d:a.length≤50000000000000) :
  Calls prog 70 #[.pointer (some ⟨x.d,7,none⟩),.int .u8 b.toNat] w fun f w'=>f=.returned .nilIface∧∃ v',cK x c w' v' rest e (a++[b])∧v'.nb=v.nb∧dB x w v w' v':=
 (gJ x j c w v rest e a h b d).mono fun _ _ ⟨i,v',g,_⟩=>⟨i,v',g⟩
theorem KU (a:Array Value) (l n:Nat) (b:Bs) (f:n=b.length) (c:l+n≤a.size) (j:Nat) (d:j<l):(a.toList.take l++Lib.byteCells b++a.toList.drop (l+n)).toArray[j]?=a[j]?:=by
 have e:(a.toList.take l).length=l:=by simp;omega
 simp only [List.getElem?_toArray,r8];rw [List.getElem?_append_left (by omega),List.getElem?_take,aV d,Array.getElem?_toList]
theorem KV (a:Array Value) (l n:Nat) (b:Bs) (f:n=b.length) (c:l+n≤a.size) (j:Nat) (d:j<b.length):(a.toList.take l++Lib.byteCells b++a.toList.drop (l+n)).toArray[l+j]?=some (.int .u8 (b.getD j 0).toNat):=by
 have e:(a.toList.take l).length=l:=by simp;omega
 simp only [List.getElem?_toArray,r8];rw [EG (by omega),e,Nat.add_sub_cancel_left,List.getElem?_append_left (by rw [Lib.byteCells_length];exact d)];simp [Lib.byteCells,sR,List.getElem?_eq_getElem d]
theorem E3 (a:Array Value) (l n:Nat) (b:Bs) (d:n=b.length) (c:l+n≤a.size):(a.toList.take l++Lib.byteCells b++a.toList.drop (l+n)).toArray.size=a.size:=by
 simp only [List.size_toArray,fY,qQ,eY,Array.length_toList,Lib.byteCells_length];omega
theorem m8 (s:ByteArray):s.size=s.data.toList.length:=rfl
def dH (v:DV):Prop:=∃ k,eM v.bufv k
theorem cK.more' {x:Cx} (B:x.Ok) {c:DC} {w:World} {v:DV} {rest:Bs} {e:Option EK} {a:Bs} (h:cK x c w v rest e a) (f:Bs) (w':World) (v':DV) (g d:Nat) (b:Array Value)
  (m:bX w' x.d c v') (i:v'.bufv=.slice (some ⟨g,0,none⟩) (a.length+f.length) d) (l:aJ w' g b 5) (C:b.size=d) (p:a.length+f.length≤d) (o:d≤9223372036854775807)
  (z:(eM v.bufv g∧x.B≤g∧¬ x.S0 g)∨w.heap.size≤g) (q:∀ j,j<a.length→b[j]?=some (.int .u8 (a.getD j 0).toNat)) (n:∀ j,j<f.length→b[a.length+j]?=some (.int .u8 (f.getD j 0).toNat))
  (A:aM (fun k=>k=x.d∨eM v.bufv k) w w') (r:v'.nb=v.nb) (s:v'.err=v.err) (t:v'.line=v.line) (u:v'.lstart=v.lstart) (y:v'.off=v.off) :
  (cK x c w' v' rest e (a++f)∧v'.nb=v.nb∧dB x w v w' v')∧dH v':=
 ⟨h.more B f w' v' g d b m i l C p o z q n A r s t u y,g,by rw [i];rfl⟩
theorem A6 (x:Cx) (hx:x.Ok) (c:DC) (w:World) (v:DV) (rest:Bs) (e:Option EK) (b:Bs) (h:cK x c w v rest e b) (a7:v.bufv≠.slice none 0 0) (s:ByteArray) (hs:s.size≤1000000000000) (b2:b.length≤50000000000000) :
  Calls prog 98 #[.pointer (some ⟨x.d,7,none⟩),.string s] w fun en w'=>en=.returned (.tuple #[.int .i64 s.size,.nilIface])∧∃ v',(cK x c w' v' rest e (b++s.data.toList)∧v'.nb=v.nb∧dB x w v w' v')∧dH v':=by
 have HX:=Lib.hid hx;have z:bX (w.setCell ⟨x.d,9,none⟩ (.int .i8 0)) x.d c { v with lastRead:=0 }:=h.dec.set 9 (.int .i8 0);have U:aM (fun k=>k=x.d∨eM v.bufv k) w (w.setCell ⟨x.d,9,none⟩ (.int .i8 0)):=(aM.refl _ w).setCell (aH (aH rfl)) _;have aC:∀ k,eM v.bufv k→k≠x.d:=fun k hk e=>h.bf.notS0 k hk (aH e);have h9:cK x c (w.setCell ⟨x.d,9,none⟩ (.int .i8 0)) { v with lastRead:=0 } rest e b:=h.buf hx z U rfl rfl rfl rfl rfl (h.bf.mod ((aM.refl (fun k=>k=x.d) w).setCell (p:=⟨x.d,9,none⟩) (aH rfl) _) aC);rcases h.bf with ⟨I,hb⟩|⟨g,d,arr,I,W,a8,hl,T,Q,A,E⟩
 ·exact absurd I a7
 clear a7;have F:aJ (w.setCell ⟨x.d,9,none⟩ (.int .i8 0)) g arr 5:=W.set_ne (a:=⟨x.d,9,none⟩) (fun e=>A (aH e)) _;have S:b.length+s.size≤d∨d<b.length+s.size:=by omega
 have H:=Lib.hid h;have H9:=Lib.hid h9;have bC:=Lib.hid U;have hc:=h.dec.cell;have hf:=h.dec.frozen;have Z:(0:Int)≤(b.length:Int):=by omega
 have c2:(0:Int)≤(s.size:Int):=by omega
 have bL:x.d≠g:=fun e=>A (aH e.symm);have n:g≠x.d:=fun e=>A (aH e);have aA:(b.length:Int)≤50000000000000:=by omega
 have c3:(s.size:Int)≤1000000000000:=by omega
 have Y:=Lib.hid E;have HG:=Lib.hid W;have X:=Lib.hid Q;clear h h9 U aC hx;rcases S with V|V
 ·have t:=Lib.hid (wZ x.d c { v with lastRead:=0 } _ z g b.length d s.size I V T);have b7:=W.cell;have b9:=W.frozen;obtain ⟨sb,sl,C,o,m,B,q⟩:=v;simp only at I;subst I
  have l:=Lib.run_copy_row_string (P:=prog) ((w.setCell ⟨x.d,9,none⟩ (.int .i8 0)).setCell ⟨x.d,7,none⟩ (.slice (some ⟨g,0,none⟩) (b.length+s.size) d)) 81 9 3 5 g b.length s.size (d-b.length) s arr 5 underlying81 qW
   (F.set_ne (a:=⟨x.d,7,none⟩) n _) (dD _) (by omega)
  obtain ⟨L,R⟩:∃ L,L=b.length:=⟨_,rfl⟩;have r:=Lib.hid R;rw [←R] at hc t Z hl l V aA;have cT:(L:Int)+(s.size:Int)≤(d:Int):=by omega
  have b0:(L:Int)≤(L:Int)+(s.size:Int):=by omega
  have b1:(L:Int)+(s.size:Int)≤100000000000000:=by omega
  clear R W E z Q F;by_cases aL:d=L
  ·have hz:s.size=0:=by omega
   have bA:=fun (w:World) (a:Addr)=>Lib.run_copy_empty_string (P:=prog) w 81 9 3 5 (some a) 0 0 s underlying81 (by rw [Option.isSome_map];kernel_rfl) hz;have HZ:=Lib.hid hz;rw [hz] at t;have b5:=Lib.hid aL;clear l hz;have b4:s.size=0:=HZ.out;go_enter func98,ntmps98
   go_wp2_with fail;refine t.out.mono ?_;rintro e1 w1 ⟨rfl,rfl⟩;go_wp2;go_ret2
   have M:aJ w g arr 5:=HG.out;have N:s.data.toList=[]:=tZ HZ.out;refine ⟨by rw [HZ.out];rfl,⟨.slice (some ⟨g,0,none⟩) L L,0,C,o,m,B,q⟩,H.out.more' HX.out s.data.toList _ _ g L arr ?_ (by rw [r.out,N];rfl) ?_ (by omega) (by rw [←r.out,N];simp) (by omega) (aH ⟨rfl,X.out,A⟩) Y.out (by rw [N];simp) ?_ rfl rfl rfl rfl rfl⟩
   ·exact (H.out.dec.set 9 (.int .i8 0)).set 7 (.slice (some ⟨g,0,none⟩) L L)
   ·exact (M.set_ne (a:=⟨x.d,9,none⟩) n (.int .i8 0)).set_ne (a:=⟨x.d,7,none⟩) n (.slice (some ⟨g,0,none⟩) L L)
   ·exact (((aM.refl _ w).setCell (p:=⟨x.d,9,none⟩) (aH (aH rfl)) (.int .i8 0)).setCell (p:=⟨x.d,7,none⟩) (aH (aH rfl)) (.slice (some ⟨g,0,none⟩) L L))
  ·have a0:(L:Int)<(d:Int):=by omega
   rw [r8] at l;go_enter func98,ntmps98
   go_wp2_with fail;refine t.out.mono ?_;rintro e1 w1 ⟨rfl,rfl⟩;go_wp2;go_ret2
   have M:aJ w g arr 5:=HG.out
   refine ⟨rfl,⟨.slice (some ⟨g,0,none⟩) (L+s.size) d,0,C,o,m,B,q⟩,H.out.more' HX.out s.data.toList _ _ g d (arr.toList.take L++Lib.byteCells s.data.toList++arr.toList.drop (L+s.size)).toArray ?_ (by rw [r.out];rfl) ?_
    (by rw [E3 _ _ _ _ (m8 s) (by omega)];exact a8) (by rw [←r.out];exact V) T (aH ⟨rfl,X.out,A⟩)
    (fun j G=>by rw [KU _ _ _ _ (m8 s) (by omega) _ (by rw [r.out];exact G)];exact Y.out j G) (fun j G=>by rw [←r.out,KV _ _ _ _ (m8 s) (by omega) _ G]) ?_ rfl rfl rfl rfl rfl⟩
   ·exact aJ.row_ne (show aJ _ x.d _ _ from (H.out.dec.set 9 (.int .i8 0)).set 7 (.slice (some ⟨g,0,none⟩) (L+s.size) d)) bL _
   ·rw [r8];exact ((M.set_ne (a:=⟨x.d,9,none⟩) n (.int .i8 0)).set_ne (a:=⟨x.d,7,none⟩) n (.slice (some ⟨g,0,none⟩) (L+s.size) d)).row _
   ·exact (((aM.refl _ w).setCell (p:=⟨x.d,9,none⟩) (aH (aH rfl)) (.int .i8 0)).setCell (p:=⟨x.d,7,none⟩) (aH (aH rfl)) (.slice (some ⟨g,0,none⟩) (L+s.size) d)).setRow (g:=g) (aH (aW rfl)) _
 ·have t:=Lib.hid (pX x.d c { v with lastRead:=0 } _ z (some ⟨g,0,none⟩) b.length d s.size I hl V T);have a6:=Lib.hid (BU x HX.out c _ { v with lastRead:=0 } rest e b H9.out g d arr I F a8 hl E s.size (by omega) V (by omega));obtain ⟨sb,sl,C,o,m,B,q⟩:=v;simp only at I;subst I;clear z W F E Q;obtain ⟨L,R⟩:∃ L,L=b.length:=⟨_,rfl⟩;have r:=Lib.hid R;rw [←R] at a6 Z aA hc V hl;clear R;have b1:(L:Int)+(s.size:Int)≤100000000000000:=by omega
  have b0:(L:Int)≤(L:Int)+(s.size:Int):=by omega
  go_enter func98,ntmps98
  go_wp2_with fail;refine t.out.mono ?_;rintro e1 w1 ⟨rfl,rfl⟩;go_wp2_with fail;refine a6.out.mono ?_;rintro e1 w1 ⟨rfl,O,f,y,J⟩;have a3:=J.dec;have D:bX w1 x.d c ⟨.slice (some ⟨O,0,none⟩) (L+s.size) f,0,C,o,m,B,q⟩:=by rw [r.out];exact a3
  have b6:=D.cell;have b8:=aJ.frozen D;have a1:L+s.size≤f:=by rw [r.out];exact J.cp
  have a9:=J.sz;have l:=Lib.run_copy_row_string (P:=prog) w1 81 9 3 5 O L s.size (f-L) s y 5 underlying81 qW J.blk (dD _) (by omega);rw [r8] at l;have a0:(L:Int)<(f:Int):=by omega
  have aL:¬ f=L:=by omega
  have a2:f≤9223372036854775807:=J.cm;have c1:(L:Int)+(s.size:Int)≤(f:Int):=by omega
  have a4:O≠x.d:=fun e=>by
   have h1:=aJ.lt H9.out.dec;have h2:=J.new;omega
  have a5:x.d≠O:=fun e=>a4 e.symm;have u:=Lib.hid J;have HD:=Lib.hid D;clear J a3 D hc hf;go_wp2;go_ret2
  have b3:(w.setCell ⟨x.d,9,none⟩ (.int .i8 0)).heap.size=w.heap.size:=by simp [World.setCell]
  refine ⟨rfl,⟨.slice (some ⟨O,0,none⟩) (L+s.size) f,0,C,o,m,B,q⟩,H.out.more' HX.out s.data.toList _ _ O f (y.toList.take L++Lib.byteCells s.data.toList++y.toList.drop (L+s.size)).toArray ?_ (by rw [r.out];rfl) ?_
    (by rw [E3 _ _ _ _ (m8 s) (by omega)];exact a9) (by rw [←r.out];exact a1) a2 (aW (by have:=u.out.new;omega))
    (fun j G=>by rw [KU _ _ _ _ (m8 s) (by omega) _ (by rw [r.out];exact G)];exact u.out.el j G) (fun j G=>by rw [←r.out,KV _ _ _ _ (m8 s) (by omega) _ G]) ?_ rfl rfl rfl rfl rfl⟩
  ·exact aJ.row_ne (show aJ _ x.d _ _ from HD.out) a5 _
  ·rw [r8];exact u.out.blk.row _
  ·refine aM.setRow ?_ (g:=O) (aW (by have:=u.out.new;omega)) _;exact bC.out.trans u.out.mod (fun i _ hi=>aH hi)
theorem mT.take {x:Cx} {w:World} {g:Nat} {b:Nat} {a:Bs} {c:Array Value} (n:Nat) (p:n≤a.length) (m:aJ w g c 5) (h:c.size=b) (o:a.length≤b) (e:b≤9223372036854775807) (k:x.B≤g) (l:¬ x.S0 g)
  (f:∀ j,j<a.length→c[j]?=some (.int .u8 (a.getD j 0).toNat)):mT x w (.slice (some ⟨g,0,none⟩) n b) (a.take n):=by
 have d:(a.take n).length=n:=by simp;omega
 refine aW ⟨g,b,c,by rw [d],m,h,by omega,e,k,l,fun j i=>?_⟩;rw [d] at i;rw [f j (by omega)];simp [sR,i]
theorem y5 (x:Cx) (D:x.Ok) (c:DC) (w:World) (v:DV) (rest:Bs) (e:Option EK) (d:Bs) (h:cK x c w v rest e d) (n:Nat) (S:n≤d.length) :
  Calls prog 75 #[.pointer (some ⟨x.d,7,none⟩),.int .i64 n] w fun X w'=>X=.returned (.tuple #[])∧∃ v',cK x c w' v' rest e (d.take n)∧v'.nb=v.nb∧(∀ k,eM v'.bufv k↔eM v.bufv k)∧aM x.S0 w w'∧w'.heap.size=w.heap.size:=by
 have Z:=h.dec.cell;have hf:=h.dec.frozen;have O:=Lib.hid (pW x D c w v rest e d h);have r:bX (w.setCell ⟨x.d,9,none⟩ (.int .i8 0)) x.d c { v with lastRead:=0 }:=h.dec.set 9 (.int .i8 0);have t:aM (fun k=>k=x.d∨eM v.bufv k) w (w.setCell ⟨x.d,9,none⟩ (.int .i8 0)):=(aM.refl _ w).setCell (aH (aH rfl)) _;have q:∀ k,eM v.bufv k→k≠x.d:=fun k hk e=>h.bf.notS0 k hk (aH e);have I:cK x c (w.setCell ⟨x.d,9,none⟩ (.int .i8 0)) { v with lastRead:=0 } rest e d:=h.buf D r t rfl rfl rfl rfl rfl (h.bf.mod ((aM.refl (fun k=>k=x.d) w).setCell (p:=⟨x.d,9,none⟩) (aH rfl) _) q);have C:=Lib.hid (BS x c _ _ rest e d I);have aC:(0:Int)≤(n:Int):=by omega
 have E:((n:Int)==0)=true∨((n:Int)==0)=false:=by cases ((n:Int)==0)<;>simp
 have V:=Lib.hid D;rcases E with E|E
 ·have:n=0:=by simpa using E
  clear Z hf h I r t q D;go_enter func75,ntmps75
  go_wp2_with fail;refine O.out.mono ?_;rintro W w1 ⟨rfl,G⟩;have G:=Lib.hid G;go_wp2;(try simp only [Exit.inBlock,Exit.then])
  refine bodyPost_ret (results_none rfl _ _ _) rfl ?_;subst this;exact ⟨rfl,G.out⟩
 ·have aL:n≠0:=by simpa using E
  rcases h.bf with ⟨Q,Y⟩|⟨g,b,arr,Q,R,P,hl,L,B,u,s⟩
  ·subst Y;simp at S;omega
  have aA:x.d≠g:=fun e=>u (aH e.symm);have o:g≠x.d:=fun e=>u (aH e);have H:=Lib.hid h;have U:=Lib.hid R;have T:=Lib.hid s;have J:=Lib.hid (fun (w':World) (M:aJ w' g arr 5)=>mT.take (x:=x) n S M P hl L B u s);have h1:(n:Int)≤(d.length:Int):=by omega
  have h2:(d.length:Int)≤(b:Int):=by omega
  have h3:(n:Int)≤(b:Int):=by omega
  have h4:(b:Int)≤9223372036854775807:=by omega
  have hw:IntKind.i64.wrap (n:Int)=n:=IntWalk.i64_in _ (by omega);obtain ⟨sb,sl,z,l,f,y,m⟩:=v;simp only at Q;subst Q;clear h I r t q D R s B;go_enter func75,ntmps75
  go_wp2_with fail;refine C.out.mono ?_;rintro W w1 ⟨rfl,k,rfl⟩;go_wp2;(refine lX [0,0,0,0,1,0,0,0,1,0,1,1,0,0,2] [0,1,2,3,5,6,7,9,4,8,10,11,12,13,14] ?_;refine vP ?_;repeat with_reducible intro nq)
  go_wp2;go_end0
  have hd:bX ((w.setCell ⟨x.d,9,none⟩ (.int .i8 0)).setCell ⟨x.d,7,none⟩ (.slice (some ⟨g,0,none⟩) n b)) x.d c ⟨.slice (some ⟨g,0,none⟩) n b,0,z,l,f,y,m⟩:=(H.out.dec.set 9 (.int .i8 0)).set 7 (.slice (some ⟨g,0,none⟩) n b);have F:aJ w g arr 5:=U.out;have N:=(F.set_ne (a:=⟨x.d,9,none⟩) o (.int .i8 0)).set_ne (a:=⟨x.d,7,none⟩) o (.slice (some ⟨g,0,none⟩) n b);have A:aM (fun k=>k=x.d) w ((w.setCell ⟨x.d,9,none⟩ (.int .i8 0)).setCell ⟨x.d,7,none⟩ (.slice (some ⟨g,0,none⟩) n b)):=((aM.refl (fun k=>k=x.d) w).setCell (p:=⟨x.d,9,none⟩) (aH rfl) (.int .i8 0)).setCell (p:=⟨x.d,7,none⟩) (aH rfl) (.slice (some ⟨g,0,none⟩) n b);have j:=H.out.buf V.out (v':=⟨.slice (some ⟨g,0,none⟩) n b,0,z,l,f,y,m⟩) hd (A.mono (fun _ _ h=>aH h)) rfl rfl rfl rfl rfl (J.out _ N);refine ⟨rfl,⟨.slice (some ⟨g,0,none⟩) n b,0,z,l,f,y,m⟩,?_,rfl,fun k=>Iff.rfl,?_,?_⟩
  ·exact ⟨⟨j.base.os,j.base.tape,j.base.output,j.base.size,j.base.block⟩,j.dec,j.inp,j.pos,j.err,j.fin,j.bf⟩
  ·exact ⟨A.os,A.tape,A.output,A.size,fun i hi hs=>A.block i hi (fun h=>hs (aH h))⟩
  ·simp [World.setCell]
theorem E4 (b:UInt8):jU b=true↔(65≤b.toNat∧b.toNat≤90)∨(97≤b.toNat∧b.toNat≤122)∨(48≤b.toNat∧b.toNat≤57)∨b.toNat=95∨b.toNat=58∨b.toNat=46∨b.toNat=45:=by
 simp only [jU,Bool.or_eq_true,G9,KF,beq_iff_eq,UInt8.le_iff_toNat_le,←UInt8.toNat_inj];have c:(65:UInt8).toNat=65:=rfl;have d:(90:UInt8).toNat=90:=rfl;have e:(97:UInt8).toNat=97:=rfl;have f:(122:UInt8).toNat=122:=rfl;have g:(48:UInt8).toNat=48:=rfl;have h:(57:UInt8).toNat=57:=rfl;have i:(95:UInt8).toNat=95:=rfl;have j:(58:UInt8).toNat=58:=rfl;have k:(46:UInt8).toNat=46:=rfl;have a:(45:UInt8).toNat=45:=rfl;rw [c,d,e,f,g,h,i,j,k,a];omega
theorem y6 (b:UInt8) (w:World):Calls prog 116 #[.int .u8 b.toNat] w fun e w'=>e=.returned (.bool (jU b))∧w=w':=by
 have c:=Lib.hid (E4 b);obtain ⟨n,d⟩:∃ n,n=b.toNat:=⟨_,rfl⟩;rw [←d] at c ⊢;have i:=Lib.hid d;clear d;have a:n<45∨n=45∨n=46∨n=47∨(48≤n∧n≤57)∨n=58∨(59≤n∧n≤64)∨(65≤n∧n≤90)∨(91≤n∧n≤94)∨n=95∨n=96∨(97≤n∧n≤122)∨123≤n:=by omega
 rcases a with h|h|h|h|h|h|h|h|h|h|h|h|h
 all_goals
  have f:=Lib.hid h;first|have:(65:Int)≤(n:Int):=by omega|have:¬ ((65:Int)≤(n:Int)):=by omega
  first|have:(n:Int)≤90:=by omega|have:¬ ((n:Int)≤90):=by omega
  first|have:(97:Int)≤(n:Int):=by omega|have:¬ ((97:Int)≤(n:Int)):=by omega
  first|have:(n:Int)≤122:=by omega|have:¬ ((n:Int)≤122):=by omega
  first|have:(48:Int)≤(n:Int):=by omega|have:¬ ((48:Int)≤(n:Int)):=by omega
  first|have:(n:Int)≤57:=by omega|have:¬ ((n:Int)≤57):=by omega
  first|have:(((n:Int))==(95))=true:=by (simp;omega)|have:(((n:Int))==(95))=false:=by (simp;omega)
  first|have:(((n:Int))==(58))=true:=by (simp;omega)|have:(((n:Int))==(58))=false:=by (simp;omega)
  first|have:(((n:Int))==(46))=true:=by (simp;omega)|have:(((n:Int))==(46))=false:=by (simp;omega)
  first|have:(((n:Int))==(45))=true:=by (simp;omega)|have:(((n:Int))==(45))=false:=by (simp;omega)
  clear h;go_enter func116,ntmps116
  go_wp2;go_ret
  refine ⟨?_,rfl⟩;have:=f.out
  first
   | (rw [show jU b=true from c.out.2 (by omega)];rfl)
   | (rw [show jU b=false from by
     rw [←Bool.not_eq_true];intro g;have:=c.out.1 g;omega];rfl)
theorem xA {b:UInt8} (h:(128:Int)≤(b.toNat:Int)):dC b=true:=by
 have a:(128:UInt8).toNat=128:=rfl;simp only [dC,Bool.or_eq_true,KF,UInt8.le_iff_toNat_le,a];exact aH (by omega)
theorem nZ {b:UInt8} (h:(b.toNat:Int)<128):dC b=jU b:=by
 have a:(128:UInt8).toNat=128:=rfl;have:¬ (128≤b):=by rw [UInt8.le_iff_toNat_le,a];omega
 simp [dC,this]
theorem dB.s0 {x:Cx} {w w1 w':World} {v a v':DV} (h:dB x w v w1 a) (c:aM x.S0 w1 w') (b:v'.bufv=a.bufv):dB x w v w' v':=h.trans (c.stp b)
theorem y7 (x:Cx) (hx:x.Ok) (c:DC) (aL:iU x c) (w:World) (v:DV) (rest:Bs) (e:Option EK) (g:Bs) (h:cK x c w v rest e g) (G:g.length ≤ 10000000000000) :
    Calls prog 95 #[.pointer (some ⟨x.d,0,none⟩)] w fun en w'=>∃ v',dB x w v w' v' ∧
      (((aD rest).2=[]∧en=.returned (.bool false)∧jM x c w' v' (cE x.o.fails)) ∨
       ((aD rest).2 ≠ []∧(aD rest).1=[]∧en=.returned (.bool false)∧cK x c w' v' rest none g) ∨
       ((aD rest).2 ≠ []∧(aD rest).1 ≠ []∧en=.returned (.bool true)∧cK x c w' v' (aD rest).2 none (g ++ (aD rest).1))):=by
  have E:=Lib.hid hx;have HD:=Lib.hid aL;have H:=Lib.hid h;have a0:rest.length ≤ 1000000000:=fX (h.suf.length_le) hx.len;clear h hx aL;cases rest with
  | nil=>
    have a:=Lib.hid (bS x E.out c HD.out w v e g H.out);go_enter func95,ntmps95
    go_wp2_with fail;refine a.out.mono ?_;rintro e1 w1 ⟨rfl,p⟩;have N:=Lib.hid p;clear p;go_wp2;go_ret
    obtain ⟨v1,F,i,m⟩:=N.out;exact ⟨v1,m.stp i,aH ⟨rfl,rfl,F⟩⟩
  | cons b r=>
    have a:=Lib.hid (bO x E.out c HD.out w v b r e g H.out);have o:=Lib.hid H.out.suf;have a4:=Lib.hid (y6 b);by_cases d:dC b=true
    · have l:((128:Int) ≤ (b.toNat:Int)) ∨ ((b.toNat:Int) < 128∧jU b=true):=by
        rcases Int.lt_or_le (b.toNat:Int) 128 with h|h
        · exact aW ⟨h,by rw [← nZ h];exact d⟩
        · exact aH h
      have D:=Lib.hid (show (aD (b :: r)).1=b :: (aD r).1 by simp [aD,d]);have X:=Lib.hid (show (aD (b :: r)).2=(aD r).2 by simp [aD,d]);clear d;have a5:r.length ≤ 1000000000:=by simp at a0;omega
      have b0:=Lib.hid a5;have C:=Lib.hid G;clear a0 G a5;rcases l with b9|⟨a1,aC⟩
      all_goals
        go_enter func95,ntmps95
        go_wp2_with fail;refine a.out.mono ?_;rintro e1 w1 ⟨rfl,v1,F,A,i,m,R⟩;have s:=Lib.hid (gK x E.out c w1 v1 r none g F b (by have:=C.out;omega));have t:=Lib.hid i;have y:=Lib.hid m;clear F i m R A a;go_wp2_with fail
        try
          refine (a4.out _).mono ?_;rintro e2 w2 ⟨rfl,rfl⟩;go_wp2_with fail
        refine s.out.mono ?_;rintro e3 w3 ⟨rfl,v3,h3,a2,a9⟩;have b1:=Lib.hid ((y.out.stp t.out).trans a9);have H3:=Lib.hid h3;clear h3 a2 a9 s t y;go_wp2;go_loopg [2,3] r.length (fun k _ _ wr=>∃ v4 T pre,T.length=k∧dB x w v wr v4∧cK x c wr v4 T none (g ++ pre)∧pre.length + T.length=r.length + 1∧(aD (b :: r)).1=pre ++ (aD T).1∧(aD (b :: r)).2=(aD T).2)
        case atStart=>exact ⟨v3,r,[b],rfl,b1.out,H3.out,by simp;omega,D.out,X.out⟩
        case round=>
          obtain ⟨v4,T,pre,hk,bA,h4,a8,a6,a7⟩:=hrel;have HK:=Lib.hid hk;have O:=Lib.hid bA;have V:=Lib.hid a8;have U:=Lib.hid a6;have M:=Lib.hid a7;have H4:=Lib.hid h4;clear hk bA a8 a6 a7 h4;cases T with
          | nil=>
            have a:=Lib.hid (bS x E.out c HD.out wr v4 none _ H4.out);go_wp2_with fail;refine a.out.mono ?_;rintro e1 w1 ⟨rfl,p⟩;have N:=Lib.hid p;clear p;go_wp2;(try simp only [Exit.inBlock,Exit.then])
            go_ret
            obtain ⟨v5,P,j,n⟩:=N.out;exact ⟨v5,O.out.s0 n j,aH ⟨M.out,rfl,P⟩⟩
          | cons f r5=>
            have a:=Lib.hid (bO x E.out c HD.out wr v4 f r5 none _ H4.out);have o:=Lib.hid H4.out.suf;have J:=Lib.hid (y6 f);by_cases d:dC f=true
            · have l:((128:Int) ≤ (f.toNat:Int)) ∨ ((f.toNat:Int) < 128∧jU f=true):=by
                rcases Int.lt_or_le (f.toNat:Int) 128 with h|h
                · exact aW ⟨h,by rw [← nZ h];exact d⟩
                · exact aH h
              have Z:=Lib.hid (show (aD (f :: r5)).1=f :: (aD r5).1 by simp [aD,d]);have aA:=Lib.hid (show (aD (f :: r5)).2=(aD r5).2 by simp [aD,d]);clear d;rcases l with b8|⟨I,Q⟩
              all_goals
                go_wp2_with fail;refine a.out.mono ?_;rintro e1 w1 ⟨rfl,v5,P,B,j,n,S⟩;have s:=Lib.hid (gK x E.out c w1 v5 r5 none _ P f (by
                  have F:=C.out;have h2:=V.out;have h3:=b0.out;simp at h2 ⊢;omega))
                have u:=Lib.hid j;have z:=Lib.hid n;clear P j n S B a;go_wp2_with fail
                try
                  refine (J.out _).mono ?_;rintro e2 w2 ⟨rfl,rfl⟩;go_wp2_with fail
                refine s.out.mono ?_;rintro e3 w3 ⟨rfl,v6,h6,a3,bC⟩;have b2:=Lib.hid ((O.out.s0 z.out u.out).trans bC);have H6:=Lib.hid h6;clear h6 a3 bC s u z;go_wp2;go_roundg r5.length
                case measure=>have:=HK.out;simp at this;omega
                case rel=>exact ⟨v6,r5,pre ++ [f],rfl,b2.out,by rw [← r8];exact H6.out,by have:=V.out;simp at this ⊢;omega,by rw [U.out,Z.out];simp,by rw [M.out,aA.out]⟩
            · have I:(f.toNat:Int) < 128:=by
                rcases Int.lt_or_le (f.toNat:Int) 128 with h|h
                · exact h
                · exact absurd (xA h) d
              have Q:jU f=false:=by rw [← nZ I];simpa using d
              have Y:=Lib.hid (show aD (f :: r5)=([],f :: r5) by simp [aD,d]);clear d;go_wp2_with fail;refine a.out.mono ?_;rintro e1 w1 ⟨rfl,v5,P,B,j,n,S⟩;have q:=Lib.hid (gU x E.out c w1 v5 f r5 _ P B o.out);have u:=Lib.hid j;have z:=Lib.hid n;clear P j n S B a;go_wp2_with fail;refine (J.out _).mono ?_;rintro e2 w2 ⟨rfl,rfl⟩;go_wp2_with fail;refine q.out.mono ?_;rintro e3 w3 ⟨rfl,p⟩;have N:=Lib.hid p;clear p q;go_wp2;(try simp only [Exit.inBlock,Exit.then])
              go_ret
              obtain ⟨v6,h6,a3,b5,b7,c1⟩:=N.out;have L:(aD (b :: r)).2=f :: r5:=by rw [M.out,Y.out]
              have bL:(aD (b :: r)).1=pre:=by rw [U.out,Y.out];simp
              refine ⟨v6,(O.out.s0 z.out u.out).s0 b7 b5,aW (aW ⟨by rw [L];simp,by rw [D.out];simp,rfl,?_⟩)⟩;rw [L,bL];exact h6
    · have a1:(b.toNat:Int) < 128:=by
        rcases Int.lt_or_le (b.toNat:Int) 128 with h|h
        · exact h
        · exact absurd (xA h) d
      have aC:jU b=false:=by rw [← nZ a1];simpa using d
      have W:=Lib.hid (show aD (b :: r)=([],b :: r) by simp [aD,d]);clear d;go_enter func95,ntmps95
      go_wp2_with fail;refine a.out.mono ?_;rintro e1 w1 ⟨rfl,v1,F,A,i,m,R⟩;have q:=Lib.hid (gU x E.out c w1 v1 b r g F A o.out);have t:=Lib.hid i;have y:=Lib.hid m;clear F i m R A a;go_wp2_with fail;refine (a4.out _).mono ?_;rintro e2 w2 ⟨rfl,rfl⟩;go_wp2_with fail;refine q.out.mono ?_;rintro e3 w3 ⟨rfl,p⟩;have N:=Lib.hid p;clear p q;go_wp2;go_ret
      obtain ⟨v3,h3,a2,b3,b6,cT⟩:=N.out;exact ⟨v3,(y.out.stp t.out).s0 b6 b3,aW (aH ⟨by rw [W.out];simp,by rw [W.out],rfl,h3⟩)⟩
theorem eZ {p:Prop} (H:p:=by first|kernel_rfl|(intro w;kernel_rfl)|(intro w;rfl)|decide):p:=H
def YM:Go.Shelf.Ren:=⟨fun|32=>99|49=>120|n=>n,
 fun|0=>0|3=>3|4=>4|5=>5|21=>21|25=>176|30=>81|33=>188|66=>253|68=>255|69=>256|n=>n,
 fun|2=>6|3=>7|n=>n⟩
theorem UC:Go.Proofs.Lays7.n32 prog YM:={
 mixed:=eZ,
 f32:=eZ,
 f49:=eZ,
 t0:=eZ,
 a0:=eZ,
 z0:=eZ,
 v0:=eZ,
 i0:=eZ,
 t3:=eZ,
 a3:=eZ,
 z3:=eZ,
 v3:=eZ,
 i3:=eZ,
 t4:=eZ,
 a4:=eZ,
 z4:=eZ,
 v4:=eZ,
 i4:=eZ,
 t5:=eZ,
 a5:=eZ,
 z5:=eZ,
 v5:=eZ,
 i5:=eZ,
 t21:=eZ,
 a21:=eZ,
 z21:=eZ,
 v21:=eZ,
 i21:=eZ,
 t25:=eZ,
 a25:=eZ,
 z25:=eZ,
 v25:=eZ,
 i25:=eZ,
 t30:=eZ,
 a30:=eZ,
 z30:=eZ,
 v30:=eZ,
 i30:=eZ,
 t33:=eZ,
 a33:=eZ,
 z33:=eZ,
 v33:=eZ,
 i33:=eZ,
 t66:=eZ,
 a66:=eZ,
 z66:=eZ,
 t68:=eZ,
 a68:=eZ,
 z68:=eZ,
 v68:=eZ,
 i68:=eZ,
 t69:=eZ,
 a69:=eZ,
 z69:=eZ,
 v69:=eZ,
 i69:=eZ,
 g2:=eZ,
 g3:=eZ }
theorem DI (s:ByteArray) (b a c:Nat) (w:World) (d:Lib.Utf8Tabs 6 7 w) (f:∀ j,j<s.size→w.cell? ⟨b,a+j,none⟩=some (.int .u8 (s.get! j).toNat)) :
  Calls prog 99 #[.slice (some ⟨b,a,none⟩) s.size c] w fun e w'=>e=.returned (.tuple #[.int .i32 (Lib.decodeGo s).1,.int .i64 (Lib.decodeGo s).2])∧Below w.heap.size w w':=
 Any7.utf8_DecodeRune UC s b a c w d f
def tJ (P:Program) (b:Array Oper):List Oper→Act→World→Option (Act×World)
 | [],a,w=>some (a,w)
 | o::l,a,w=>
  if Region.wanted o (yielded b a.tmps) then
   match (execOp a.eval o).run P w with
   | .ok (.value v) w'=>tJ P b l (a.put o.dst v) w'
   | .ok .skip w'=>tJ P b l (a.put o.dst undef) w'
   | _=>none
  else tJ P b l (a.put o.dst undef) w
theorem pY {P:Program} {c:Array Oper} {Q:Exit→Act→World→Prop}:∀ (l:List Oper) (a:Act) (w:World) (r:Act×World),tJ P c l a w=some r→Q .normal r.1 r.2→wpList P c Q l a w
 | [],a,w,r,h,b=>by simp only [tJ,kD] at h;subst h;exact b
 | o::l,a,w,r,h,b=>by
  unfold tJ at h;unfold wpList;split at h
  ·rename_i d;rw [aV d];refine aH ?_;unfold Oper.wp;generalize (execOp a.eval o).run P w=res at *;cases res with
   | ok n w'=>
    cases n<;>simp only [Oper.upon]<;>simp only [reduceCtorEq] at h
    ·exact pY l _ _ r h b
    ·exact pY l _ _ r h b
   | halt x w'=>simp only [reduceCtorEq] at h
  ·rename_i d;rw [aN d];exact pY l _ _ r h b
def f8 (P:Program):Code→Act→World→Option (Bool×Act×World)
 | .skip,a,w=>some (false,a,w)
 | .region _ ops false,a,w=>(tJ P ops ops.toList a w).map fun r=>(false,r.1,r.2)
 | .seq x y,a,w=>match f8 P x a w with
  | some (false,a',w')=>f8 P y a' w'
  | r=>r
 | .ret,a,w=>some (true,a,w)
 | _,_,_=>none
theorem DJ {P:Program}:∀ (c:Code) (Q:Exit→Act→World→Prop) (a:Act) (w:World) (r:Bool×Act×World),f8 P c a w=some r→Q (if r.1 then .ret else .normal) r.2.1 r.2.2→c.wp P Q a w
 | .skip,Q,a,w,r,h,d=>by simp only [f8,kD] at h;subst h;exact wp_skip (by simpa using d)
 | .ret,Q,a,w,r,h,d=>by simp only [f8,kD] at h;subst h;exact wp_ret (by simpa using d)
 | .region id ops false,Q,a,w,r,h,d=>by
  simp only [f8,Option.map_eq_some_iff] at h;obtain ⟨s,g,rfl⟩:=h;have:=pY (Q:=Q) ops.toList a w s g (by simpa using d);exact wp_region_list this
 | .seq x y,Q,a,w,r,h,d=>by
  unfold f8 at h;split at h
  ·rename_i f w' e;exact wp_seq (DJ x _ a w _ e (by simpa [Exit.then] using DJ y Q f w' r h d))
  ·rename_i e;obtain ⟨b,f,w'⟩:=r;cases b with
   | false=>exact absurd h (e _ _)
   | true=>exact wp_seq (DJ x _ a w _ h (by simpa [Exit.then] using d))
 | .region id ops true,Q,a,w,r,h,d=>by simp [f8] at h
 | .cond ..,_,_,_,_,h,_=>by simp [f8] at h
 | .block ..,_,_,_,_,h,_=>by simp [f8] at h
 | .loop ..,_,_,_,_,h,_=>by simp [f8] at h
 | .rangeFunc ..,_,_,_,_,h,_=>by simp [f8] at h
 | .exit ..,_,_,_,_,h,_=>by simp [f8] at h
 | .scope ..,_,_,_,_,h,_=>by simp [f8] at h
 | .label ..,_,_,_,_,h,_=>by simp [f8] at h
 | .goto ..,_,_,_,_,h,_=>by simp [f8] at h
 | .refuse ..,_,_,_,_,h,_=>by simp [f8] at h
theorem BV {P:Program} {f:FuncId} {fn:Func} {c:Code} {d:Array Value} {w w':World} {v:Value} (t:Tmp) (n:P.funcs[f]?=some fn) (m:fn.body=some c) (g:fn.results=#[.tmp t])
  (h:(f8 P c { tmps:=d++Array.replicate (fn.ntmps-d.size) undef,defers:=[] } w).map (fun r=>(r.1,r.2.1.tmps.getD t undef,r.2.1.defers.isEmpty,r.2.2))=some (true,v,true,w')) :
  Calls P f d w fun e j=>e=.returned v∧j=w':=by
 rw [Option.map_eq_some_iff] at h;obtain ⟨⟨b,a,w1⟩,k,i⟩:=h;simp only [bR] at i;obtain ⟨rfl,i,l,rfl⟩:=i;refine calls_of_wp n m (DJ c _ _ w _ k ?_);simp only [if_true];exact bodyPost_ret (results_tmp g _ _ _) (by simpa using l) ⟨by rw [i],rfl⟩
def lY (T:Array Lib.Rg):Array Value:=(T.toList.flatMap fun r=>[Value.int .u16 r.1,.int .u16 r.2.1,.int .u16 r.2.2]).toArray
def pA (T:Lib.RTab) (w:World):World:=(w.alloc (.cells (lY T.r16) 248)).alloc (.cells #[.slice (some ⟨w.heap.size,0,none⟩) T.r16.size T.r16.size,.slice none 0 0,.int .i64 0] 245)
end Go.Proofs.YthapcchcahnfaaaGreatDoor
