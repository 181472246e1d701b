/- Part of the proof that laws.FnWithin returns true for every argument. No conditions. -/
import Derived.Test.YthapcchcahnfaaaGreatDoorQ04
import Derived.Test.YthapcchcahnfaaaGreatDoorQ20
import Derived.Maps.OwnSet
import Derived.Maps.StringElems
import Derived.Test.YthapcchcahnfaaaGreatDoorQ21
import Derived.Test.YthapcchcahnfaaaGreatDoorQ24
import Derived.Test.YthapcchcahnfaaaGreatDoorQ10
set_option linter.all false
set_option maxHeartbeats 8000000
set_option maxRecDepth 100000
namespace Go.Proofs.YthapcchcahnfaaaGreatDoor
open Go Go.RowKit Go.Proofs.Tryz
theorem WX:Maps.Keyed prog 9:=Maps.string_keyed underlying9
def kT (w:World) (m n:Nat) (a:Bs→Option Bs):Prop:=
 ∃ D:DataW Unit,w.ownsMap prog 9 (plainElem prog 9) m n D∧∀ k,(a k=none→∀ z,D.atKey (.string k) z=z)∧(∀ s,a k=some s→∀ z,D.atKey (.string k) z=.lit (.string s))∧Maps.has D (.string k)=(a k).isSome
theorem GT (s:Bs) (h:s.length≤maxLen):keyOf prog 9 (aB s)=some (.string s):=by
 have:=WideMaps.keyOf_string_mk (P:=prog) (k:=9) underlying9 (s:=⟨s.toArray⟩) h;simpa using this
theorem kT.made (w:World):kT (w.alloc (.map #[] 0)) w.heap.size 0 (fun _=>none):=
 ⟨.map [],World.ownsMap_made w _ _ _,fun k=>⟨fun _ z=>rfl,⟨fun s h=>(by cases h),rfl⟩⟩⟩
theorem kT.lt {w:World} {m n:Nat} {a:Bs→Option Bs} (h:kT w m n a):m<w.heap.size:=by
 obtain ⟨D,h,_⟩:=h;exact h.lt
theorem kT.mod {w w':World} {m n:Nat} {b:Bs→Option Bs} {S:Nat→Prop} (h:kT w m n b) (j:aK S w w') (i:¬ S m):kT w' m n b:=by
 obtain ⟨D,e,f⟩:=h;refine ⟨D,?_,f⟩;obtain ⟨d,c,a,F,k,g⟩:=e;exact ⟨d,c,(j.block m (by
  rcases Nat.lt_or_ge m w.heap.size with h'|h'
  ·exact h'
  ·simp [Array.getElem?_eq_none h'] at a) i).trans a,F,k,g⟩
theorem SX (w:World):(zeroValue 9).run prog w=.ok (.string ⟨#[]⟩) w:=by kernel_rfl
theorem JD (s:Bs) (h:s.length≤maxLen):plainElem (H:=Unit) prog 9 (aB s)=some (.lit (.string s),[]):=by
 have:=plainElem_string (H:=Unit) (P:=prog) (e:=9) underlying9 (s:=⟨s.toArray⟩) h;simpa using this
theorem kT.look {w:World} {m n:Nat} {a:Bs→Option Bs} (h:kT w m n a) (k:Bs) (c:k.length≤maxLen) :
  (Instr.lookup 75 (.map (some m)) (aB k) true).run prog w=.ok (.tuple #[aB ((a k).getD []),.bool (a k).isSome]) w:=by
 obtain ⟨D,p,q⟩:=h;obtain ⟨j,l,o⟩:=q k;obtain ⟨v,y,r,u⟩:=p.look_ok (t:=75) (e:=9) WX underlying75 (SX w) (zd:=.lit (.string [])) (zp:=[]) (JD [] (by simp)) (GT k c);rw [r,o];obtain ⟨s,rfl,x,_⟩:=plainElem_string_inv underlying9 u;have i:DataW.lit (H:=Unit) (.string s.data.toList)=.lit (.string ((a k).getD [])):=by
  have b:=(congrArg Prod.fst x).symm;simp only at b;rw [b];cases g:a k with
  | none=>rw [j g];rfl
  | some t=>rw [l t g];rfl
 have d:s.data.toList=(a k).getD []:=by
  simp only [DataW.lit.injEq,Lit.string.injEq] at i;exact i
 have f:s=⟨((a k).getD []).toArray⟩:=by
  apply ByteArray.ext;apply Array.toList_inj.1;rw [d]
 rw [f]
theorem lB {w w':World} {m:Nat} (h:w.mapTurned w' m):aK (fun k=>k=m) w w':=by
 have g:=h.grown;exact ⟨g.os,g.tape,g.output,g.size,fun k a b=>g.block k a (by simpa using b)⟩
theorem tE (s:Bs):WideAt.IsKeyLit (.string s):=trivial
theorem kT.store {w:World} {m n:Nat} {j:Bs→Option Bs} (h:kT w m n j) (r:n<maxLen) (k v:Bs) (f:k.length≤maxLen) (A:v.length≤maxLen) :
  ∃ w',(Instr.mapUpdate 75 (.map (some m)) (aB k) (aB v)).run prog w=.ok () w'∧kT w' m (n+1) (gT j k (some v))∧w.mapTurned w' m:=by
 obtain ⟨D,b,q⟩:=h;obtain ⟨w',x,u,y⟩:=b.store (t:=75) (e:=9) WX underlying75 r (GT k f) (JD v A);refine ⟨w',x,⟨_,u,fun i=>?_⟩,y⟩;unfold gT;by_cases d:i=k
 ·subst d;simp only [if_true];refine ⟨fun c=>(by cases c),fun s g z=>?_,?_⟩
  ·cases g;exact Maps.atKey_put_same b.isMap (tE _) _ _
  ·exact Maps.has_put_same b.isMap (tE _) _
 ·simp only [aM d];have a:Lit.string i≠Lit.string k:=by simpa using d
  obtain ⟨l,o,p⟩:=q i;exact ⟨fun c z=>by rw [Maps.atKey_put_other a];exact l c z,fun s g z=>by rw [Maps.atKey_put_other a];exact o s g z,by rw [Maps.has_put_other a];exact p⟩
theorem kT.drop {w:World} {m n:Nat} {g:Bs→Option Bs} (h:kT w m n g) (k:Bs) (c:k.length≤maxLen) (ty:TypeId) :
  ∃ w',(Builtin.delete_ #[75,9] ty #[.map (some m),aB k]).run prog w=.ok (.tuple #[]) w'∧kT w' m n (gT g k none)∧w.mapTurned w' m:=by
 obtain ⟨D,o,p⟩:=h;obtain ⟨w',u,r,v⟩:=o.drop (t:=75) (e:=9) WX underlying75 (GT k c) ty;refine ⟨w',u,⟨_,r,fun f=>?_⟩,v⟩;unfold gT;by_cases b:f=k
 ·subst b;simp only [if_true];exact ⟨fun _ z=>Maps.atKey_del_same z,fun s d=>(by cases d),Maps.has_del_same⟩
 ·simp only [aM b];have a:Lit.string f≠Lit.string k:=by simpa using b
  obtain ⟨i,j,l⟩:=p f;exact ⟨fun q z=>by rw [Maps.atKey_del_other a];exact i q z,fun s d z=>by rw [Maps.atKey_del_other a];exact j s d z,by rw [Maps.has_del_other a];exact l⟩
@[go_sem] def jF (b:Value) (k:Int) (d a:Bs) (c:Bool):Array Value:=#[b,.int .i64 k,aB d,aB a,.bool c]
def iJ (w:World):Value→List gZ→List Nat→Prop
 | p,[],[]=>p=.pointer none
 | p,e::l,b::bs=>p=.pointer (some ⟨b,0,none⟩)∧∃ a c,aJ w b (jF a e.kind e.space e.loc c) 95∧(e.kind=1→c=e.ok)∧iJ w a l bs
 | _,_,_=>False
theorem iJ.mod {w w':World} {S:Nat→Prop} (f:aK S w w'):∀ {p:Value} {l:List gZ} {a:List Nat},iJ w p l a→(∀ b∈a,¬ S b)→iJ w' p l a
 | p,[],[],h,_=>h
 | p,e::l,b::a,h,d=>by
  obtain ⟨k,n,o,g,j,m⟩:=h;exact ⟨k,n,o,g.mod f (d b (by simp)),j,iJ.mod f m (fun c i=>d c (by simp [i]))⟩
 | _,[],_::_,h,_=>h.elim
 | _,_::_,[],h,_=>h.elim
theorem iJ.lt {w:World}:∀ {p:Value} {l:List gZ} {d:List Nat},iJ w p l d→∀ b∈d,b<w.heap.size
 | p,[],[],h,b,f=>by simp at f
 | p,e::l,b::d,h,c,a=>by
  obtain ⟨j,k,m,f,i,g⟩:=h;simp only [l6] at a;rcases a with rfl|a
  ·exact f.lt
  ·exact g.lt c a
 | _,[],_::_,h,_,_=>h.elim
 | _,_::_,[],h,_,_=>h.elim
structure mC (x:Cx) (w:World) (c:DC) (v:DV) (m:Nat) (d a:List Nat) (n:Nat) (stk:List gZ) (ns:Bs→Option Bs):Prop where
 stk:iJ w c.stk stk d
 free:∃ e,iJ w c.free e a
 map:c.ns=.map (some m)
 ns:kT w m n ns
 nodup:(m::(d++a)).Nodup
 base:∀ b∈m::(d++a),x.B≤b
 s1:∀ b∈m::(d++a),¬ x.S1 v b
theorem mC.lt {x:Cx} {w:World} {c:DC} {v:DV} {m:Nat} {f e:List Nat} {n:Nat} {d:List gZ} {i:Bs→Option Bs} (h:mC x w c v m f e n d i):∀ b∈m::(f++e),b<w.heap.size:=by
 intro b a;simp only [l6,List.mem_append] at a;rcases a with rfl|a|a
 ·exact h.ns.lt
 ·exact h.stk.lt b a
 ·obtain ⟨j,g⟩:=h.free;exact g.lt b a
theorem mC.mod {x:Cx} {w w':World} {c:DC} {v v':DV} {m:Nat} {e d:List Nat} {n:Nat} {a:List gZ} {j:Bs→Option Bs} {S:Nat→Prop} (h:mC x w c v m e d n a j) (i:aK S w w') (f:∀ b∈m::(e++d),¬ S b) (o:∀ b∈m::(e++d),¬ x.S1 v' b):mC x w' c v' m e d n a j:=by
 obtain ⟨k,l⟩:=h.free;exact ⟨h.stk.mod i (fun b g=>f b (by simp [g])),⟨k,l.mod i (fun b g=>f b (by simp [g]))⟩,h.map,h.ns.mod i (f m (by simp)),h.nodup,h.base,o⟩
theorem mC.step {x:Cx} {w w':World} {c:DC} {v v':DV} {m:Nat} {j f:List Nat} {n:Nat} {e:List gZ} {i:Bs→Option Bs} (h:mC x w c v m j f n e i) (g:cU x w v w' v'):mC x w' c v' m j f n e i:=by
 refine h.mod g.mod (fun b d=>h.s1 b d) (fun b d a=>?_);rcases a with a|a
 ·exact h.s1 b d (aG a)
 ·rcases g.buf b a with a|a
  ·exact h.s1 b d (aX a)
  ·have:=h.lt b d;omega
theorem tF {P:Program} {b:Array Oper} {d:Bool} {Q:Exit→Act→World→Prop} {a:Act} {w:World} (n:Nat) (h:(Code.region n b d).wp P Q a w):(Code.region n b d).wp P Q a w:=h
theorem aE {w w':World} {a:Nat} {e:TypeId} {b:Nat} {v:Value} {n:Nat} {d:List Value} {S:Nat→Prop} (h:w.ownsRow a e b v n d) (m:aK S w w') (j:∀ g,v.ownBlock=some g→¬ S g):w'.ownsRow a e b v n d:=by
 obtain ⟨f,c⟩:=h;refine ⟨f,?_⟩;rcases c with c|⟨g,cap,cur,rfl,k,l,i⟩
 ·exact aG c
 ·exact aX ⟨g,cap,cur,rfl,k,(show aJ w g cur e from l).mod m (j g rfl),i⟩
theorem WY:(prog.info? 103).map (fun i=>(i.zero,i.size,i.bytes))=some (some (.agg #[.string ⟨#[]⟩,.string ⟨#[]⟩,.string ⟨#[]⟩]),3,48):=by kernel_rfl
theorem LM (c:World) (b:Nat) (g:b≤c.heap.size) (v:Value) (acc:List cV) (x:acc.length≤1000000000) (h:c.ownsRow b 103 3 v acc.length (aO acc)) (a:cV) :
  ∃ v' f,(Builtin.append_ #[99,99] 99 #[v,.slice (some ⟨c.heap.size,0,none⟩) 1 1]).run prog (c.alloc (.cells #[aB a.1,aB a.2.1,aB a.2.2] 103))=.ok v' f ∧
   f.ownsRow b 103 3 v' (acc++[a]).length (aO (acc++[a]))∧(c.alloc (.cells #[aB a.1,aB a.2.1,aB a.2.2] 103)).grownBy f v.ownBlock∧v'≠.slice none 0 0∧(v'.ownBlock=v.ownBlock∨v'.ownBlock=some (c.heap.size+1)):=by
 obtain ⟨i,q,w,m,n⟩:=info_parts WY
 obtain ⟨v',f,t,s,o,d,e⟩:=run_append_own_at (P:=prog) (c.alloc (.cells #[aB a.1,aB a.2.1,aB a.2.2] 103)) b 99 99 103 i _ 3 48 underlying99 q w m n rfl (by omega) v acc.length (aO acc) (h.alloc _) ⟨c.heap.size,0,none⟩ 1 1 [aB a.1,aB a.2.1,aB a.2.2] rfl
  (by
   intro j u r;have g:=aJ.new c #[aB a.1,aB a.2.1,aB a.2.2] 103;rw [show ((⟨c.heap.size,0,none⟩:Addr).add j)=⟨c.heap.size,j,none⟩ by cases j<;>simp [Addr.add],g.cell];simpa using r)
  (by
   intro u k;simp only [l6,zF,or_false] at k;rcases k with rfl|rfl|rfl<;>rfl)
  (by unfold maxLen;omega) (by omega) (by simp;omega)
 refine ⟨v',f,t,?_,o,fun p=>by have:=(d.1 p).2;omega,by simpa using e⟩;have l:aO (acc++[a])=aO acc++[aB a.1,aB a.2.1,aB a.2.2]:=by simp [aO]
 rw [l,fU];exact s
structure pN (x:Cx) (w0:World) (w:World) (v:DV) (nb:Nat) (nm:Bs×Bs) (a:Value) (acc:List cV):Prop where
 name:aJ w nb #[aB nm.1,aB nm.2] 89
 nbS:¬ x.S1 v nb
 nbB:w0.heap.size≤nb
 row:w.ownsRow w0.heap.size 103 3 a acc.length (aO acc)
 rowS:∀ g,a.ownBlock=some g→¬ x.S1 v g∧g≠nb
 ne:a≠.slice none 0 0
theorem aS {w:World} {a:Nat} {e:TypeId} {c:Nat} {v:Value} {n:Nat} {k:List Value} (h:w.ownsRow a e c v n k) {g:Nat} (d:v.ownBlock=some g):g<w.heap.size∧a≤g:=by
 obtain ⟨_,f⟩:=h;rcases f with ⟨rfl,_⟩|⟨g',cap,cur,rfl,i,j,_⟩
 ·cases d
 ·have:g'=g:=by simpa [Value.ownBlock] using d
  subst this;exact ⟨aJ.lt (w:=w) (b:=g') (cs:=cur) (t:=e) j,i⟩
theorem pN.step {x:Cx} {w0 w w':World} {v v':DV} {d:Nat} {nm:Bs×Bs} {c:Value} {acc:List cV} (h:pN x w0 w v d nm c acc) (b:cU x w v w' v'):pN x w0 w' v' d nm c acc:=
 ⟨h.name.mod b.mod h.nbS,b.notS1 h.nbS h.name.lt,h.nbB,aE h.row b.mod (fun g a=>(h.rowS g a).1),fun g a=>⟨b.notS1 (h.rowS g a).1 (aS h.row a).1,(h.rowS g a).2⟩,h.ne⟩
theorem pN.other {x:Cx} {w0 w w':World} {v:DV} {b:Nat} {nm:Bs×Bs} {a:Value} {acc:List cV} (h:pN x w0 w v b nm a acc) {q:Nat} (c:aK (fun k=>k=q) w w') (d:b≠q) (e:a.ownBlock≠some q):pN x w0 w' v b nm a acc:=
 ⟨h.name.mod c d,h.nbS,h.nbB,aE h.row c (fun g i f=>e (f▸i)),h.rowS,h.ne⟩
theorem pN.below {x:Cx} {w0 w w':World} {v:DV} {c:Nat} {nm:Bs×Bs} {a:Value} {acc:List cV} (h:pN x w0 w v c nm a acc) (b:Below w.heap.size w w'):pN x w0 w' v c nm a acc:=
 ⟨h.name.mod (S:=fun _=>False) (aH b _) id,h.nbS,h.nbB,aE (S:=fun _=>False) h.row (aH b _) (fun _ _=>id),h.rowS,h.ne⟩
theorem EF (x:Cx) (M:x.All) (c:DC) (w0:World) (w:World) (v:DV) (rest:Bs) (e:Option EK) (q:Bs) (h:cD x c w v rest e q) (G:w0.heap.size≤w.heap.size) (z:x.B≤w0.heap.size) (I:Nat) (nm:Bs×Bs) (o:Value) (acc:List cV) (b:pN x w0 w v I nm o acc) (E:acc.length≤1000000000)
  (J:Nat) (a:cV) (A:aJ w J #[aB a.1,aB a.2.1,aB a.2.2] 103) (u y:Value) (Q:Exit→Act→World→Prop)
  (L:∀ f w' j,cD x c w' v rest e q→aK (fun k=>w0.heap.size≤k) w w'→pN x w0 w' v I nm j (acc++[a])→Q .normal (fr 731 f [(0,bV x),(28,u),(29,y),(30,j)]) w') (f:Nat→Value) :
  (dY 197).wp prog Q (fr 731 f [(0,bV x),(28,u),(29,y),(30,o),(31,.pointer (some ⟨J,0,none⟩))]) w:=by
 obtain ⟨j,N,n,m,t,F,d⟩:=LM w w0.heap.size G o acc E b.row a;have R:=A.cell;have S:=A.frozen;have ⟨P,l,H,p,O,V⟩:=iD L b h t m M;clear L b h t m A M;unfold dY;conv=>arg 2;whnf
 refine vB ?_;refine fI rfl (.tmp 715) (.tmp 717) _ _ rfl _ _ _ (by rw [cB (by decide)];(try simp only [aL,aP,aR,aZ,Nat.reduceEqDiff,↓reduceIte]);(try rfl)) (by rw [cB (by decide)];(try simp only [aL,aP,aR,aZ,Nat.reduceEqDiff,↓reduceIte]);(try rfl)) n ?_;clear n;rw [fO (by decide)];refine vg ?_;refine Qk [0,28,29,30] fun f=>?_;have B:aK (fun _=>False) w (w.alloc (.cells #[aB a.1,aB a.2.1,aB a.2.2] 103)):=aH ((Below.refl _ w).alloc (dC _) _) _;have D:aK (fun k=>o.ownBlock=some k) w N:=(B.mono (fun _ _ h=>h.elim)).trans (S':=fun k=>o.ownBlock=some k) ⟨p.o.os,p.o.tape,p.o.output,p.o.size,fun k b E=>p.o.block k b (fun s=>E s.symm)⟩ (fun i _ U=>U);have r:∀ k,o.ownBlock=some k→w0.heap.size≤k:=fun k b=>(aS l.o.row b).2;refine P.o f N j (H.o.mod D (fun k b s=>(l.o.rowS k s).1 b) (fun k b=>gA z (r k b))) (D.mono (fun k _ b=>r k b)) ⟨l.o.name.mod D (fun s=>(l.o.rowS I s).2 rfl),l.o.nbS,l.o.nbB,O.o,fun g C=>?_,F⟩;rcases d with d|d
 ·exact l.o.rowS g (d▸C)
 ·rw [d] at C;have T:w.heap.size+1=g:=by simpa using C
  exact ⟨fun b=>by have:=H.o.s1lt g b;omega,by have:=l.o.name.lt;omega⟩
theorem cU.fresh {x:Cx} {w0 w1 b:World} {v0 a:DV} (h:cU x w0 v0 w1 a) (c:aK (fun k=>w0.heap.size≤k) w1 b):cU x w0 v0 b a:=
 ⟨h.mod.trans c (fun i d e=>by omega),h.buf⟩
structure JE (x:Cx) (w0:World) (w:World) (v:DV) (nb:Nat) (b:Value) (a:Nat) (cs:Array Value):Prop where
 blk:aJ w a cs 103
 S:¬ x.S1 v a
 B:w0.heap.size≤a
 n:nb≠a
 r:b.ownBlock≠some a
theorem JE.step {x:Cx} {w0 w w':World} {v v':DV} {d:Nat} {b:Value} {a:Nat} {cs:Array Value} (h:JE x w0 w v d b a cs) (c:cU x w v w' v'):JE x w0 w' v' d b a cs:=
 ⟨h.blk.mod c.mod h.S,c.notS1 h.S h.blk.lt,h.B,h.n,h.r⟩
structure uP (x:Cx) (c:DC) (w0:World) (v0:DV) (w:World) (v:DV) (rest:Bs) (e:Option EK) (nb:Nat) (nm:Bs×Bs) (a:Value) (acc:List cV) (d:Nat) (cs:Array Value):Prop where
 rd:∃ b,cD x c w v rest e b
 nn:dA v
 stp:cU x w0 v0 w v
 keep:pN x w0 w v nb nm a acc
 cell:JE x w0 w v nb a d cs
theorem uP.step {x:Cx} {c:DC} {w0:World} {v0:DV} {w:World} {v:DV} {rest:Bs} {e:Option EK} {j:Nat} {nm:Bs×Bs} {g:Value} {acc:List cV} {f:Nat} {cs:Array Value} (h:uP x c w0 v0 w v rest e j nm g acc f cs) {w':World} {v':DV} {a:Bs} {i:Option EK} (d:cU x w v w' v') (l:∃ b,cD x c w' v' a i b) (k:dA v'):uP x c w0 v0 w' v' a i j nm g acc f cs:=
 ⟨l,k,h.stp.trans d,h.keep.step d,h.cell.step d⟩
theorem uP.set {x:Cx} {c:DC} {w0:World} {v0:DV} {w:World} {v:DV} {rest:Bs} {e:Option EK} {j:Nat} {nm:Bs×Bs} {i:Value} {acc:List cV} {a:Nat} {cs:Array Value} (h:uP x c w0 v0 w v rest e j nm i acc a cs) (f:x.B≤w0.heap.size) (o:Nat) (u:Value):uP x c w0 v0 (w.setCell ⟨a,o,none⟩ u) v rest e j nm i acc a (cs.setIfInBounds o u):=by
 have g:aK (fun k=>k=a) w (w.setCell ⟨a,o,none⟩ u):=(aK.refl (fun k=>k=a) w).setCell (p:=⟨a,o,none⟩) (aG rfl) u;obtain ⟨b,l⟩:=h.rd;exact ⟨⟨b,l.mod g (fun k d m=>h.cell.S (m▸d)) (fun k d=>d▸gA f h.cell.B)⟩,h.nn,h.stp.fresh (g.mono (fun k _ d=>d▸h.cell.B)),h.keep.other g h.cell.n h.cell.r,⟨h.cell.blk.set o u,h.cell.S,h.cell.B,h.cell.n,h.cell.r⟩⟩
def gN (o:cP) (nm:Bs×Bs) (r:Bs):Except EK (cV×Bs):=
 match aQ r with
 | []=>.error (bW o.fails)
 | b::r4=>
  if b=61 then
   match cK o (aQ r4) with
   | .error e=>.error e
   | .ok (v,r5)=>.ok ((nm.1,nm.2,v),r5)
  else if o.strict then .error .syn else .ok ((nm.1,nm.2,nm.2),b::r4)
theorem GU (o:cP) (r:Bs):fC o r=match bZ o.fails r with
 | .error e=>.error e
 | .ok (nm,r2)=>gN o nm r2:=by
 unfold fC gN;rfl
theorem SY (x:Cx) (hx:x.All) (c:DC) (X:iF x c) (bA:rX x c) (w0:World) (v0:DV) (w:World) (v:DV) (rest:Bs) (a3:x.B≤w0.heap.size) (nb:Nat) (nm:Bs×Bs) (av:Value) (acc:List cV) (hn:acc.length≤1000000000) (O:Nat) (i:Bs×Bs)
  (h:uP x c w0 v0 w v rest none nb nm av acc O #[aB i.1,aB i.2,aB []]) (L M:Value) (Q:Exit→Act→World→Prop)
  (bC:∀ a r5,gN x.o i rest=.ok (a,r5)→∀ f w' v' e' b' t,cD x c w' v' r5 e' b'→dA v'→cU x w0 v0 w' v'→pN x w0 w' v' nb nm t (acc++[a])→Q .normal (fr 731 f [(0,bV x),(28,L),(29,M),(30,t)]) w')
  (P:∀ k,gN x.o i rest=.error k→∀ f w' v',iX x c w' v' k→cU x w0 v0 w' v'→Q .ret (fr 731 f [(2,.nilIface),(3,v'.err)]) w') (f:Nat→Value) :
  (dY 182).wp prog Q (fr 731 f [(0,bV x),(28,L),(29,M),(30,av),(31,.pointer (some ⟨O,0,none⟩))]) w:=by
 have ⟨N,HD,b4,a0,y⟩:=pI hx X bA bC P;obtain ⟨b0,b1⟩:=h.rd;have D:=Lh (sZ x hx.toOk c X w v rest none b0 b1);have ⟨HA,F,HN⟩:=lQ h a3 hn;clear hx X bA bC P h b1 a3 hn;unfold dY;conv=>arg 2;whnf
 refine vg ?_;intro K hK K hK;refine D.o.mono ?_;rintro e1 w1 ⟨rfl,v1,c7,q⟩;have E:=Lh (HA.o.step (q.mod.stp q.bufv) ⟨b0,q.rd⟩ (HA.o.nn.of_eq q.bufv));have H:=Lh q.rd;clear q D HA;cases hw:aQ rest with
 | nil=>
  have o:=Lh (show gN x.o i rest=.error (bW x.o.fails) by unfold gN;rw [hw]);have B:=Lh (bM x N.o.toOk c HD.o w1 v1 _ b0 (by have:=H.o;rw [hw] at this;exact this));clear hw;(repeat revert K);refine vS ?_;intro K hK K hK K hK;refine B.o.mono ?_;rintro e2 w2 ⟨rfl,v2,z,u,A⟩;have b5:=Lh (E.o.stp.s0 A u);obtain ⟨t1,u1,aA⟩:=z.err.iface;have HE:=Lh z;have hc:=z.dec.cell;have hf:=z.dec.frozen;have HU:=Lh aA;clear z A u B;(repeat revert K);refine vS ?_;intro K hK K hK
  ((refine cM [0] fun f=>?_);go_quiet (fail);((repeat revert K);refine vg ?_;intro K hK);refine Qk [2,3] fun f=>?_)
  rw [←HU.o];exact y.o _ o.o f _ v2 (HE.o.drewN _) (b5.o.drawn _)
 | cons b r4=>
  have B:=Lh (bK x N.o.toOk c HD.o w1 v1 b r4 _ b0 (by have:=H.o;rw [hw] at this;exact this));have a2:=Lh (show (b::r4) <:+ x.T by have:=H.o.suf;rw [hw] at this;exact this)
  have I:=Lh (show gN x.o i rest=(if b=61 then
   match cK x.o (aQ r4) with
   | .error e=>.error e
   | .ok (v,r5)=>.ok ((i.1,i.2,v),r5)
  else if x.o.strict then .error .syn else .ok ((i.1,i.2,i.2),b::r4)) by unfold gN;rw [hw])
  clear hw;(repeat revert K);refine vS ?_;intro K hK K hK K hK;refine B.o.mono ?_;rintro e2 w2 ⟨rfl,v2,h2,a8,u,A,c3⟩;have p:=Lh (E.o.step (A.stp u) ⟨b0,h2⟩ (E.o.nn.of_eq u));have ⟨s,aC⟩:=cH h2 a8;clear h2 a8 u A c3 B E H;by_cases T:b=61
  ·subst T;have D:=Lh (sZ x N.o.toOk c HD.o w2 v2 r4 none b0 s.o);(repeat revert K);refine vS ?_;intro K hK K hK K hK;refine D.o.mono ?_;rintro e3 w3 ⟨rfl,v3,b9,q⟩;have r:=Lh (p.o.step (q.mod.stp q.bufv) ⟨b0,q.rd⟩ (p.o.nn.of_eq q.bufv));have a4:=Lh (LC x N.o c HD.o b4.o w3 v3 (aQ r4) b9 b0 q.rd (p.o.nn.of_eq q.bufv));clear q D p s aC;(repeat revert K);refine vS ?_;intro K hK K hK K hK;refine a4.o.mono ?_;rintro e4 w4 ⟨v4,b2,J⟩;have a1:=Lh b2;clear b2 a4;cases m:cK x.o (aQ r4) with
   | error k=>
    rw [m] at J;obtain ⟨rfl,z⟩:=J;have o:=Lh (show gN x.o i rest=.error k by rw [I.o,aT rfl,m]);obtain ⟨t1,u1,aA⟩:=z.err.iface;have hc:=z.dec.cell;have hf:=z.dec.frozen;have ⟨HE,HU⟩:=cH z aA;clear z m;have q1:=fun w=>OR w;(repeat revert K);refine vS ?_;intro K hK K hK K hK
    ((refine cM [0] fun f=>?_);go_quiet (fail);((repeat revert K);refine vg ?_;intro K hK K hK);refine Qk [2,3] fun f=>?_)
    rw [←HU.o];exact y.o _ o.o f _ v4 (HE.o.drewN _) ((r.o.stp.trans a1.o).drawn _)
   | ok dr=>
    obtain ⟨d,r'⟩:=dr;rw [m] at J;obtain ⟨g,b8,e',b',rfl,hR,V,a6,c1,_⟩:=J;have o:=Lh (show gN x.o i rest=.ok ((i.1,i.2,d),r') by rw [I.o,aT rfl,m]);have a5:=(hR.bf.part V a6 c1).1;have cT:=uN d w4 g 0 b8 a5;have G:=Lh (show dA v4 from ⟨g,by rw [V];rfl⟩);have R:=Lh (r.o.step a1.o ⟨b',hR⟩ G.o);have W:=R.o.cell.blk.cell;have Y:=R.o.cell.blk.frozen;have HR:=Lh hR;clear hR V a6 m a5;have q1:=fun a l c w=>GP a l c w;have S:=Lh (R.o.set F.o 2 (aB d));go_simp;(repeat ((fail_if_success with_reducible refine tF 197 ?_);(first|(with_reducible first|refine zA fun K hK=>?_|refine zB ?_|refine zC ?_)|((with_reducible first|refine zD rfl fun K hK=>?_|refine zE fun K hK=>?_);go_simp)|(with_reducible first|((repeat ((fail_if_success refine hK _ _ ?_);clear hK K));refine hK _ _ ?_;clear hK K)|refine zt ?_|refine zf ?_|refine zG ?_|refine zR ?_|refine zK ?_|refine zL ?_|refine zN ?_|refine zS ?_)|simp only [Exit.then,Exit.inBlock,Exit.noGoto,↓reduceIte,Nat.reduceEqDiff]|simp only [undef,reduceCtorEq,↓reduceIte])));refine cM [0,28,29,30,31] fun f=>?_;have j:Hx (uP x c w0 v0 (w4.setCell ⟨O,2,none⟩ (aB d)) v4 r' e' nb nm av acc O #[aB i.1,aB i.2,aB d]):=S.o;obtain ⟨b6,C⟩:=j.o.rd;refine bB (EF x N.o c w0 _ v4 r' e' b6 C (j.o.stp.mod.size) F.o nb nm av acc j.o.keep HN.o O (i.1,i.2,d) j.o.cell.blk L M _ ?_ f) (by kernel_rfl);intro f w' t hr hm hk;have ⟨HH,HK⟩:=cH hr hk;have HS:=Lh (j.o.stp.fresh hm);clear hr hm hk C W Y q1 cT;refine vg ?_;exact a0.o _ _ o.o f w' v4 e' b6 t HH.o G.o HS.o HK.o
  ·have c8:=eZ (n:=61) T rfl;have c6:=qE (n:=61) T rfl;have hc:=s.o.dec.cell;have hf:=s.o.dec.frozen;cases Z:c.strict with
   | true=>
    have o:=Lh (show gN x.o i rest=.error .syn by rw [I.o,aM T,aT (by rw [←HD.o.strict];exact Z)]);have b7:=Lh (fun c5=>gL N.o.toOk s.o c5);clear T;(repeat revert K);refine vS ?_;intro K hK K hK K hK K hK;refine (b7.o _).mono ?_;rintro e5 w5 ⟨a9,rfl,hS⟩;have c9:=hS.dec.cell;have dI:=hS.dec.frozen;have HS:=Lh hS;clear hS hc hf;(repeat revert K);refine vS ?_;intro K hK K hK K hK
    ((refine cM [0] fun f=>?_);go_quiet (fail);((repeat revert K);refine vg ?_;intro K hK K hK);refine Qk [2,3] fun f=>?_)
    exact y.o _ o.o f _ { v2 with err:=wI a9 } (HS.o.err.drewN _) ((p.o.stp.trans HS.o.stp).drawn _)
   | false=>
    have o:=Lh (show gN x.o i rest=.ok ((i.1,i.2,i.2),b::r4) by rw [I.o,aM T,aM (by rw [←HD.o.strict,Z];simp)]);have b3:=Lh (gK x N.o.toOk c w2 v2 b r4 b0 s.o aC.o a2.o);clear T;(repeat revert K);refine vS ?_;intro K hK K hK K hK;refine b3.o.mono ?_;rintro e3 w3 ⟨rfl,v3,h3,c2,U,a7,c4⟩;have r:=Lh (p.o.step (a7.stp U) ⟨b0,h3⟩ (p.o.nn.of_eq U));have W:=r.o.cell.blk.cell;have Y:=r.o.cell.blk.frozen;clear h3 c2 U a7 c4 b3 hc hf Z;have S:=Lh (r.o.set F.o 2 (aB i.2));go_simp;(repeat ((fail_if_success with_reducible refine tF 197 ?_);(first|(with_reducible first|refine zA fun K hK=>?_|refine zB ?_|refine zC ?_)|((with_reducible first|refine zD rfl fun K hK=>?_|refine zE fun K hK=>?_);go_simp)|(with_reducible first|((repeat ((fail_if_success refine hK _ _ ?_);clear hK K));refine hK _ _ ?_;clear hK K)|refine zt ?_|refine zf ?_|refine zG ?_|refine zR ?_|refine zK ?_|refine zL ?_|refine zN ?_|refine zS ?_)|simp only [Exit.then,Exit.inBlock,Exit.noGoto,↓reduceIte,Nat.reduceEqDiff]|simp only [undef,reduceCtorEq,↓reduceIte])));refine cM [0,28,29,30,31] fun f=>?_;have j:Hx (uP x c w0 v0 (w3.setCell ⟨O,2,none⟩ (aB i.2)) v3 (b::r4) none nb nm av acc O #[aB i.1,aB i.2,aB i.2]):=S.o;obtain ⟨b6,C⟩:=j.o.rd;refine bB (EF x N.o c w0 _ v3 (b::r4) none b6 C (j.o.stp.mod.size) F.o nb nm av acc j.o.keep HN.o O (i.1,i.2,i.2) j.o.cell.blk L M _ ?_ f) (by kernel_rfl);intro f w' t hr hm hk;have ⟨HH,HK⟩:=cH hr hk;have HS:=Lh (j.o.stp.fresh hm);have G:=Lh j.o.nn;clear hr hm hk C W Y;refine vg ?_;exact a0.o _ _ o.o f w' v3 none b6 t HH.o G.o HS.o HK.o
theorem iX.other {x:Cx} {c:DC} {w w':World} {v:DV} {k:EK} (h:iX x c w v k) {q:Nat} (a:aK (fun i=>i=q) w w') (f:q≠x.d) (b:x.B≤q):iX x c w' v k:=
 ⟨aK.below h.base h.base.size a (fun i e=>e▸b),aJ.mod h.dec a (fun d=>f d.symm),h.err⟩
theorem cD.turn {x:Cx} (d:x.Ok) {c j:DC} {w w':World} {v:DV} {rest:Bs} {e:Option EK} {b:Bs} (h:cD x c w v rest e b) (l:bU w' x.d j v) (g:aK (fun k=>k=x.d) w w'):cD x j w' v rest e b:=by
 obtain ⟨n,i,m⟩:=h.inp;exact ⟨aK.below h.base h.base.size g (fun k f=>f▸d.d),l,⟨n,i.mod g (fun a=>d.ne1 a.symm) (fun a=>d.ne2 a.symm) (fun a=>d.ne3 a.symm),m⟩,h.pos,h.err,h.fin,h.bf.mod g (fun k f a=>h.bf.notS0 k f (aG a))⟩
theorem Y7 (x:Cx) (hx:x.All) (c:DC) (aC:iF x c) (a4:rX x c) (w0:World) (v0:DV) (w:World) (v:DV) (rest:Bs) (Z:Bs) (h:cD x c w v rest none Z) (a2:dA v) (hs:cU x w0 v0 w v) (q:x.B≤w0.heap.size) (N:Nat) (nm:Bs×Bs) (G:Value) (acc:List cV) (F:pN x w0 w v N nm G acc) (u:acc.length≤1000000000)
  (O P:Value) (Q:Exit→Act→World→Prop)
  (a6:∀ a r5,fC x.o rest=.ok (a,r5)→∀ f w' v' e' b' z,cD x c w' v' r5 e' b'→dA v'→cU x w0 v0 w' v'→pN x w0 w' v' N nm z (acc++[a])→Q .normal (fr 731 f [(0,bV x),(28,O),(29,P),(30,z)]) w')
  (E:∀ k,fC x.o rest=.error k→∀ f w' v',iX x c w' v' k→cU x w0 v0 w' v'→Q .ret (fr 731 f [(2,.nilIface),(3,v'.err)]) w') (f:Nat→Value) :
  (dY 176).wp prog Q (fr 731 f [(0,bV x),(28,O),(29,P),(30,G)]) w:=by
 have B:Below w.heap.size w (w.alloc (.cells #[aB [],aB [],aB []] 103)):=(Below.refl _ w).alloc (dC _) _
 have H:uP x c w0 v0 (w.alloc (.cells #[aB [],aB [],aB []] 103)) v rest none N nm G acc w.heap.size #[aB [],aB [],aB []]:=
  ⟨⟨Z,h.below hx.toOk B⟩,a2,hs.below B,F.below B,⟨aJ.new w _ _,h.newS1,hs.mod.size,by have:=F.name.lt;omega,fun he=>by have:=(aS F.row he).1;omega⟩⟩
 have ⟨HX,HD,b4,b5,n,m⟩:=iD hx aC a4 a6 E q;have HN:=Lh u;have a8:=Lh (((H.set q 0 (aB [])).set q 1 (aB [])).set q 2 (aB []));have V:=Lh H;have W:=Lh (GU x.o rest);clear hx aC a4 a6 E q u B H h a2 hs F;unfold dY;conv=>arg 2;whnf
 refine vT 177 ?_;refine cM [0,28,29,30,31] fun f=>?_;obtain ⟨l,I⟩:=cR w.heap.size;obtain ⟨w1,M⟩:=cR (w.alloc (.cells #[aB [],aB [],aB []] 103));have y:Hx (uP x c w0 v0 w1 v rest none N nm G acc l #[aB [],aB [],aB []]):=by rw [M,I];exact V.o
 rw [show w.alloc (.cells #[.string ⟨#[]⟩,.string ⟨#[]⟩,.string ⟨#[]⟩] 103)=w1 from M.symm,←I];clear a8 V M I;obtain ⟨b1,a7⟩:=y.o.rd;have a5:=Lh (x4 x HX.o.toFit c HD.o w1 v rest none b1 a7);clear a7;refine vg ?_;intro K hK K hK K hK;refine a5.o.mono ?_;rintro e2 w2 ⟨U,D,C⟩;have d:=Lh (y.o.cell.step D);have b2:=Lh (y.o.keep.step D);have X:=Lh (y.o.stp.trans D);have J:=d.o.blk.cell;have L:=d.o.blk.frozen;have b7:x.d≠l:=fun e=>d.o.S (aG (aG e.symm));have b8:l≠x.d:=fun e=>b7 e.symm;clear D a5;cases u:bZ x.o.fails rest with
 | error k=>
  rw [u] at C;obtain ⟨o,rfl,a3⟩:=C;have g:=Lh (show fC x.o rest=.error k by rw [W.o,u]);have hm:aK (fun i=>i=l) w2 ((w2.setCell ⟨l,0,none⟩ (aB o.1)).setCell ⟨l,1,none⟩ (aB o.2)):=((aK.refl (fun i=>i=l) w2).setCell (p:=⟨l,0,none⟩) (aG rfl) _).setCell (p:=⟨l,1,none⟩) (aG rfl) _;have Y:=Lh (X.o.fresh (hm.mono (fun i _ hi=>hi▸d.o.B)));rcases a3 with S|⟨rfl,r,b,T⟩
  ·have A:=S.other hm b8 (gA m.o d.o.B);obtain ⟨t1,u1,b9⟩:=S.err.iface;have b0:=Lh A;have hc:=A.dec.cell;have hf:=A.dec.frozen;have HU:=Lh b9;clear S A hm u;(repeat revert K);refine vS ?_;intro K hK K hK
   ((refine cM [0] fun f=>?_);go_quiet (fail);((repeat revert K);refine vg ?_;intro K hK);refine Qk [2,3] fun f=>?_)
   rw [←HU.o];exact n.o _ g.o f _ U (b0.o.drewN _) (Y.o.drawn _)
  ·have s:=T.mod hm (fun k F he=>d.o.S (he▸F)) (fun k F=>F▸gA m.o d.o.B);have he:U.err=.nilIface:=s.err;have hc:=s.dec.cell;have hf:=s.dec.frozen;have b6:=Lh (fun cT=>gL HX.o.toOk s cT);clear T s hm u;(repeat revert K);refine vS ?_;intro K hK K hK K hK;refine (b6.o _).mono ?_;rintro e3 w3 ⟨a9,rfl,hS⟩;have c1:=hS.dec.cell;have c2:=hS.dec.frozen;have R:=Lh hS;clear hS hc hf he J L;(repeat revert K);refine vS ?_;intro K hK K hK
   ((refine cM [0] fun f=>?_);go_quiet (fail);((repeat revert K);refine vg ?_;intro K hK);refine Qk [2,3] fun f=>?_)
   exact n.o _ g.o f _ { U with err:=wI a9 } (R.o.err.drewN _) ((Y.o.trans R.o.stp).drawn _)
 | ok p=>
  obtain ⟨o,r⟩:=p;rw [u] at C;obtain ⟨rfl,b,aA,T⟩:=C;have g:=Lh (show fC x.o rest=gN x.o o r by rw [W.o,u]);have bA:Hx (uP x c w0 v0 w2 U r none N nm G acc l #[aB [],aB [],aB []]):=⟨⟨b,T⟩,T.nonnil aA,X.o,b2.o,d.o⟩;have bC:Hx (uP x c w0 v0 ((w2.setCell ⟨l,0,none⟩ (aB o.1)).setCell ⟨l,1,none⟩ (aB o.2)) U r none N nm G acc l #[aB o.1,aB o.2,aB []]):=(bA.o.set m.o 0 (aB o.1)).set m.o 1 (aB o.2);clear T u;go_simp;(repeat revert K);refine vT 182 ?_;refine cM [0,28,29,30,31] fun f=>?_;refine bB (SY x HX.o c HD.o b4.o w0 v0 _ U r m.o N nm G acc HN.o l o bC.o O P _ ?_ ?_ f) (by kernel_rfl)
  ·intro a r5 j f w' v' e' b' z hr a1 t a0;have ⟨HR,b3,R,HK⟩:=kY hr a1 t a0;have HG:=Lh (show fC x.o rest=.ok (a,r5) by rw [g.o,j]);clear hr a1 t a0 j J L;refine vg ?_;exact b5.o a r5 HG.o f w' v' e' b' z HR.o b3.o R.o HK.o
  ·intro k j f w' v' S t;have ⟨HE,R⟩:=cH S t;have HG:=Lh (show fC x.o rest=.error k by rw [g.o,j]);clear S t j J L;refine vg ?_;exact n.o k HG.o f w' v' HE.o R.o
def CC (x:Cx) (c:DC) (w:World) (v:DV) (R:Except EK (((Bs×Bs)×List cV)×Bool×Bs)) (t e:Value) (w':World):Prop:=
 ∃ v',cU x w v w' v'∧match R with
  | .error k=>t=.nilIface∧e=v'.err∧iX x c w' v' k
  | .ok ((nm,ats),em,r)=>e=.nilIface∧∃ b,cD x (c.closing nm em) w' v' r none b∧iT w' v'.bufv w.heap.size t (.start nm ats)∧v'.nb=-1
theorem VD (x:Cx) (G:x.All) (c:DC) (w0:World) (v0:DV) (w:World) (v:DV) (rest:Bs) (b:Bs) (h:cD x c w v rest none b) (n:v.nb=-1) (F:cU x w0 v0 w v) (r:Nat) (nm:Bs×Bs) (u:Value) (acc:List cV) (a:pN x w0 w v r nm u acc) (em:Bool)
  (Q:Exit→Act→World→Prop) (D:∀ f w' t e,CC x c w0 v0 (.ok ((nm,acc),em,rest)) t e w'→Q .ret (fr 731 f [(2,t),(3,e)]) w') (f:Nat→Value) :
  (dY 198).wp prog Q (fr 731 f [(0,bV x),(28,.pointer (some ⟨r,0,none⟩)),(29,.bool em),(30,u)]) w:=by
 have O:=h.dec.cell;have P:=h.dec.frozen;have J:=a.name.cell;have L:=a.name.frozen;obtain ⟨g0,l,z⟩:∃ g d,u=.slice (some ⟨g,0,none⟩) acc.length d:=by
  rcases a.row.2 with ⟨y,_⟩|⟨g,d,cur,y,_⟩
  ·exact absurd y a.ne
  ·exact ⟨g,d,y⟩
 subst z;have o:r≠x.d:=fun e=>a.nbS (aG (aG e));have E:x.d≠r:=fun e=>o e.symm;have ⟨B,H,C,q,j,I⟩:=iD D h F a n G;have m:∀ g,(Value.slice (some ⟨g0,0,none⟩) acc.length l).ownBlock=some g→¬ g=x.d:=fun g M e=>(a.rowS g M).1 (aG (aG e));have s:=Lh m;clear D h F a G m n;unfold dY;conv=>arg 2;whnf
 cases em with
 | false=>
  refine vg ?_;refine Qk [2,3] fun f=>?_;exact B.o f w _ _ ⟨v,C.o,rfl,b,H.o,⟨_,rfl,q.o.ne,q.o.row⟩,j.o⟩
 | true=>
  refine vg ?_;refine Qk [2,3] fun f=>?_
  have A:aK (fun k=>k=x.d) w (((w.setCell ⟨x.d,14,none⟩ (.bool true)).setCell ⟨x.d,15,none⟩ (aB nm.1)).setCell ⟨x.d,16,none⟩ (aB nm.2)):=
   (((aK.refl (fun k=>k=x.d) w).setCell (p:=⟨x.d,14,none⟩) (aG rfl) _).setCell (p:=⟨x.d,15,none⟩) (aG rfl) _).setCell (p:=⟨x.d,16,none⟩) (aG rfl) _
  refine B.o f _ _ _ ⟨v,C.o.s0 (A.mono (fun i _ N=>aG N)) rfl,rfl,b,H.o.turn I.o.toOk ?_ A,⟨_,rfl,q.o.ne,aE q.o.row A s.o⟩,j.o⟩;exact (((show aJ w x.d _ _ from H.o.dec).set 14 (.bool true)).set 15 (aB nm.1)).set 16 (aB nm.2)
def O5 (f:Bool) (acc:List cV):Bs→Except EK (List cV×Bool×Bs)
 | []=>.error (bW f)
 | c::r3=>if c=62 then .ok (acc,true,r3) else .error .syn
def Y8 (x:Cx) (c:DC) (w0:World) (v0:DV) (h:Nat) (nm:Bs×Bs) (d:Bs) (k:Nat) (a:Act) (w:World):Prop:=
 ∃ f v rest e b g acc,a=fr 731 f [(0,bV x),(28,.pointer (some ⟨h,0,none⟩)),(29,.bool false),(30,g)]∧cD x c w v rest e b∧dA v∧cU x w0 v0 w v∧pN x w0 w v h nm g acc∧k=rest.length ∧
  (∀ K,rest.length<K→cI x.o (d.length+1) d []=cI x.o K rest acc)∧acc.length+rest.length≤d.length
theorem O6 (x:Cx) (hx:x.All) (c:DC) (g5:iF x c) (a8:rX x c) (w:World) (v:DV) (b:UInt8) (rest:Bs) (d1:Bs) (h:cD x c w v rest none d1) (W:v.nb=-1) (Z:(b::rest) <:+ x.T) (Q:Exit→Act→World→Prop)
  (hQ:∀ f w' t e,CC x c w v (dX x.o (b::rest)) t e w'→Q .ret (fr 731 f [(2,t),(3,e)]) w') (f:Nat→Value) :
  (dY 152).wp prog Q (fr 731 f [(0,bV x),(4,.int .u8 b.toNat)]) w:=by
 have aC:=Lh (gK x hx.toOk c w v b rest d1 h W Z);have ⟨O,HD,hU,HQ⟩:=kY hx g5 a8 hQ;have d6:=Lh (show x.B≤w.heap.size from h.base.size);have hV:=Lh (show (b::rest).length≤1000000000 from gA (Z.length_le) hx.len);have H:=Lh h;clear hx g5 a8 hQ h W Z;unfold dY;conv=>arg 2;whnf
 refine vg ?_;intro K hK K hK;refine aC.o.mono ?_;rintro e1 w1 ⟨rfl,v1,h1,h5,g1,hB,i0⟩;have c9:=Lh ((cU.refl x w v).s0 hB g1);have gB:Below w1.heap.size w1 (w1.alloc (.cells #[.string ⟨#[]⟩,.string ⟨#[]⟩] 89)):=(Below.refl _ w1).alloc (dC _) _;have hD:=Lh (x4 x O.o.toFit c HD.o _ v1 (b::rest) none d1 (h1.below O.o.toOk gB));have hq:=aJ.new w1 #[.string ⟨#[]⟩,.string ⟨#[]⟩] 89;have f1:=Lh (c9.o.alloc (.cells #[.string ⟨#[]⟩,.string ⟨#[]⟩] 89));have e4:=Lh hq;have c5:=Lh h1.newS1;have f6:=Lh c9.o.mod.size;clear h1 h5 g1 hB i0 aC gB hq c9;(repeat revert K);refine vS ?_;intro K hK K hK K hK;refine hD.o.mono ?_;rintro e2 w2 ⟨v2,bC,bA⟩;have hA:w1.heap.size<(w1.alloc (.cells #[.string ⟨#[]⟩,.string ⟨#[]⟩] 89)).heap.size:=by simp
 have N:=bC.notS1 c5.o hA;have X:=e4.o.mod bC.mod c5.o;have dI:=Lh (f1.o.trans bC);obtain ⟨S,a7⟩:=cR w1.heap.size;rw [←a7] at N X;have ⟨c6,a0⟩:=cH X N;have A:=Lh (show w.heap.size≤S by rw [a7];exact f6.o);have g4:=X.cell;have g6:=X.frozen;have h2:x.d≠S:=fun e=>N (aG (aG e.symm));have i5:S≠x.d:=fun e=>h2 e.symm;have T:=Lh (gA d6.o A.o);rw [←a7];clear bC X N hA hD f1 e4 c5 f6 a7;cases W:bZ x.o.fails (b::rest) with
 | error k=>
  rw [W] at bA;obtain ⟨nm,rfl,a8⟩:=bA;have j:=Lh (show dX x.o (b::rest)=.error k by unfold dX;rw [W]);rcases a8 with u|⟨rfl,r,b',hR⟩
  ·obtain ⟨a5,hm⟩:=qF u c6.o a0.o T.o nm;have L:=Lh (dI.o.new A.o hm);obtain ⟨t1,u1,aA⟩:=u.err.iface;have hL:=Lh a5;have hc:=a5.dec.cell;have hf:=a5.dec.frozen;have HU:=Lh aA;clear u a5 hm W;(repeat revert K);refine vS ?_;intro K hK K hK
   ((refine cM [0] fun f=>?_);go_quiet (fail);((repeat revert K);refine vg ?_;intro K hK);refine Qk [2,3] fun f=>?_)
   exact HQ.o f _ _ _ ⟨v2,L.o.drawn _,by rw [j.o];exact ⟨rfl,HU.o.symm,hL.o.drewN _⟩⟩
  ·obtain ⟨C,a4,hm⟩:=pC hR c6.o a0.o T.o nm;have L:=Lh (dI.o.new A.o hm);have he:v2.err=.nilIface:=C.err;have hc:=C.dec.cell;have hf:=C.dec.frozen;have d0:=Lh (fun d4=>gL O.o.toOk C d4);clear hR C a4 hm W;(repeat revert K);refine vS ?_;intro K hK K hK K hK;refine (d0.o _).mono ?_;rintro e3 I ⟨a9,rfl,hS⟩;have h0:=hS.dec.cell;have h3:=hS.dec.frozen;have HS:=Lh hS;clear hS hc hf he g4 g6;(repeat revert K);refine vS ?_;intro K hK K hK
   ((refine cM [0] fun f=>?_);go_quiet (fail);((repeat revert K);refine vg ?_;intro K hK);refine Qk [2,3] fun f=>?_)
   exact HQ.o f _ _ _ ⟨_,(L.o.trans HS.o.stp).drawn _,by rw [j.o];exact ⟨rfl,rfl,HS.o.err.drewN _⟩⟩
 | ok p=>
  obtain ⟨nm,r⟩:=p;rw [W] at bA;obtain ⟨rfl,b2,g3,hR⟩:=bA;obtain ⟨C,a4,hm⟩:=pC hR c6.o a0.o T.o nm;have L:=Lh (dI.o.new A.o hm);have hT:=Lh (hR.nonnil g3);have j:=Lh (show dX x.o (b::rest)=(match cI x.o (r.length+1) r [] with|.error e=>.error e|.ok (ats,em,r2)=>.ok ((nm,ats),em,r2)) by unfold dX;rw [W];rfl);have c8:=Lh (show r.length≤1000000000 from by have:=(jL W).2;have:=hV.o;omega);have ⟨c7,d5⟩:=cH C a4;clear hR C a4 hm W;(repeat revert K);refine vS ?_;intro K hK;refine cM [0,28,29,30] fun f=>?_;obtain ⟨I,G⟩:=cR ((w2.setCell ⟨S,0,none⟩ (aB nm.1)).setCell ⟨S,1,none⟩ (aB nm.2));have d2:Below I.heap.size I (I.alloc (.cells #[] 103)):=(Below.refl _ I).alloc (dC _) _;have f0:=Lh (show cD x c (I.alloc (.cells #[] 103)) v2 r none b2 by rw [G] at d2 ⊢;exact c7.o.below O.o.toOk d2);have f2:=Lh (show cU x w v (I.alloc (.cells #[] 103)) v2 by rw [G];exact L.o.alloc _);have d7:=Lh (show pN x w (I.alloc (.cells #[] 103)) v2 S nm (.slice (some ⟨I.heap.size,0,none⟩) 0 0) [] by
   have hb:aJ I S #[aB nm.1,aB nm.2] 89:=by rw [G];exact d5.o
   have hw:w.heap.size≤I.heap.size:=by rw [G];exact L.o.mod.size
   have h7:cD x c I v2 r none b2:=by rw [G];exact c7.o
   refine ⟨hb.alloc _,a0.o,A.o,⟨rfl,aX ⟨I.heap.size,0,#[],rfl,hw,aJ.new I #[] 103,dC _,kW _,rfl,rfl⟩⟩,fun g hg=>?_,by simp⟩;have h4:I.heap.size=g:=by simpa [Value.ownBlock] using hg
   subst h4;exact ⟨h7.newS1,by have:=hb.lt;omega⟩)
  rw [show (w2.setCell ⟨S,0,none⟩ (.string ⟨nm.1.toArray⟩)).setCell ⟨S,1,none⟩ (.string ⟨nm.2.toArray⟩)=I from G.symm];have f7:=Lh (show I.heap.size=w2.heap.size by rw [G];simp [World.setCell]);try rw [←f7.o]
  clear G d2 g4 g6;refine wp_loop_ghost_k (Y8 x c w v S nm r) r.length ⟨f,v2,r,none,b2,_,[],rfl,f0.o,hT.o,f2.o,d7.o,rfl,fun K hK=>nD (by omega) hK,by simp⟩ ?_;clear f0 f2 d7 c7 d5 L;rintro k _ w6 ⟨f,v6,i,e6,b6,av,acc,rfl,h6,c1,hG,g8,g9,g0,cT⟩ J K2 hJ f9;have ⟨HJ,hM,f3,hN,b7,b3⟩:=iD hJ f9 hG g9 c1 g8;have c2:=Lh (g0 (i.length+1) (by omega));have b5:=Lh cT;have hI:=Lh (sZ x O.o.toOk c HD.o w6 v6 i e6 b6 h6);clear hJ f9 hG g9 c1 g8 g0 cT h6;revert K;refine vg ?_;intro K hK K hK K hK;refine hI.o.mono ?_;rintro e7 w7 ⟨rfl,v7,i4,V⟩;have dT:=Lh (f3.o.s0 V.mod V.bufv);have b4:=Lh (b3.o.step (V.mod.stp V.bufv));have b8:=Lh (b7.o.of_eq V.bufv);have a1:=Lh V.rd;clear V hI f3 b3 b7;cases hw:aQ i with
  | nil=>
   have s:=Lh (show dX x.o (b::rest)=.error (bW x.o.fails) by rw [j.o,c2.o];simp only [cI,hw]);have m:=Lh (bM x O.o.toOk c HD.o w7 v7 _ b6 (by have:=a1.o;rw [hw] at this;exact this));clear hw;(repeat revert K);refine vS ?_;intro K hK K hK K hK K hK;refine m.o.mono ?_;rintro e8 w8 ⟨rfl,v8,u,M,R⟩;have B:=Lh (dT.o.s0 R M);obtain ⟨t1,u1,aA⟩:=u.err.iface;have HE:=Lh u;have hc:=u.dec.cell;have hf:=u.dec.frozen;have HU:=Lh aA;clear u R M m;(repeat revert K);refine vS ?_;intro K hK K hK K hK
   ((refine cM [0] fun f=>?_);go_quiet (fail);((repeat revert K);refine vg ?_;intro K hK K hK);refine Qk [2,3] fun f=>?_)
   exact HQ.o f _ _ _ ⟨v8,B.o.drawn _,by rw [s.o];exact ⟨rfl,HU.o.symm,HE.o.drewN _⟩⟩
  | cons b1 r2=>
   have m:=Lh (bK x O.o.toOk c HD.o w7 v7 b1 r2 _ b6 (by have:=a1.o;rw [hw] at this;exact this));have f4:=Lh (show (b1::r2) <:+ x.T by have:=a1.o.suf;rw [hw] at this;exact this);have c3:=Lh (show r2.length+1≤i.length by have:=(eV i).length_le;rw [hw] at this;exact this);have y:=Lh (show cI x.o (r.length+1) r []=(if b1=47 then O5 x.o.fails acc r2
   else if b1=62 then .ok (acc,false,r2)
   else match fC x.o (b1::r2) with
    | .error e=>.error e
    | .ok (a,r5)=>cI x.o i.length r5 (acc++[a])) by rw [c2.o,cI.eq_def];simp only [hw];cases r2<;>rfl)
   clear hw c2;(repeat revert K);refine vS ?_;intro K hK K hK K hK K hK;refine m.o.mono ?_;rintro e8 w8 ⟨rfl,v8,h8,hC,M,R,i1⟩;have B:=Lh (dT.o.s0 R M);have z:=Lh (b4.o.step (R.stp M));have b9:=Lh (b8.o.of_eq M);have ⟨a2,d8⟩:=cH h8 hC;clear h8 hC M R i1 m dT b4 b8 a1;by_cases D:b1=47
   ·subst D;cases r2 with
    | nil=>
     have s:=Lh (show dX x.o (b::rest)=.error (bW x.o.fails) by rw [j.o,y.o];rfl);have m:=Lh (bM x O.o.toOk c HD.o w8 v8 _ b6 a2.o);(repeat revert K);refine vS ?_;intro K hK K hK K hK K hK K hK;refine m.o.mono ?_;rintro e9 w9 ⟨rfl,v9,u,l,o⟩;have P:=Lh (B.o.s0 o l);obtain ⟨t1,u1,aA⟩:=u.err.iface;have HE:=Lh u;have hc:=u.dec.cell;have hf:=u.dec.frozen;have HU:=Lh aA;clear u o l m;(repeat revert K);refine vS ?_;intro K hK K hK K hK K hK
     ((refine cM [0] fun f=>?_);go_quiet (fail);((repeat revert K);refine vg ?_;intro K hK K hK K hK);refine Qk [2,3] fun f=>?_)
     exact HQ.o f _ _ _ ⟨v9,P.o.drawn _,by rw [s.o];exact ⟨rfl,HU.o.symm,HE.o.drewN _⟩⟩
    | cons d r3=>
     have m:=Lh (bK x O.o.toOk c HD.o w8 v8 d r3 _ b6 a2.o);(repeat revert K);refine vS ?_;intro K hK K hK K hK K hK K hK;refine m.o.mono ?_;rintro e9 w9 ⟨rfl,v9,h9,a6,l,o,d3⟩;have P:=Lh (B.o.s0 o l);have U:=Lh (z.o.step (o.stp l));have ⟨a3,hO⟩:=cH h9 a6;clear h9 a6 l o d3 m B z;by_cases F:d=62
     ·subst F;have s:=Lh (show dX x.o (b::rest)=.ok ((nm,acc),true,r3) by rw [j.o,y.o];rfl);go_simp;(repeat revert K);refine vT 198 ?_;refine cM [0,28,29,30] fun f=>?_;refine bB (VD x O.o c w v w9 v9 r3 b6 a3.o hO.o P.o S nm av acc U.o true _ ?_ f) (by kernel_rfl);intro f w' t e V;exact HQ.o f w' t e (by rw [s.o];exact V)
     ·have hX:=eZ (n:=62) F rfl;have g2:=qE (n:=62) F rfl;have s:=Lh (show dX x.o (b::rest)=.error .syn by rw [j.o,y.o,aT rfl];simp only [O5,aM F]);have d0:=Lh (fun d4=>gL O.o.toOk a3.o d4);clear F;(repeat revert K);refine vS ?_;intro K hK K hK K hK K hK K hK;refine (d0.o _).mono ?_;rintro e5 i6 ⟨a9,rfl,hS⟩;have h0:=hS.dec.cell;have h3:=hS.dec.frozen;have HS:=Lh hS;clear hS;(repeat revert K);refine vS ?_;intro K hK K hK K hK K hK
      ((refine cM [0] fun f=>?_);go_quiet (fail);((repeat revert K);refine vg ?_;intro K hK K hK K hK);refine Qk [2,3] fun f=>?_)
      exact HQ.o f _ _ _ ⟨_,(P.o.trans HS.o.stp).drawn _,by rw [s.o];exact ⟨rfl,rfl,HS.o.err.drewN _⟩⟩
   ·have hX:=eZ (n:=47) D rfl;have g2:=qE (n:=47) D rfl;by_cases E:b1=62
    ·subst E;have s:=Lh (show dX x.o (b::rest)=.ok ((nm,acc),false,r2) by rw [j.o,y.o];rfl);go_simp;(repeat revert K);refine vT 198 ?_;refine cM [0,28,29,30] fun f=>?_;refine bB (VD x O.o c w v w8 v8 r2 b6 a2.o d8.o B.o S nm av acc z.o false _ ?_ f) (by kernel_rfl);intro f w' t e V;exact HQ.o f w' t e (by rw [s.o];exact V)
    ·have i2:=eZ (n:=62) E rfl;have i3:=qE (n:=62) E rfl;have aC:=Lh (gK x O.o.toOk c w8 v8 b1 r2 b6 a2.o d8.o f4.o);have b0:=Lh (show cI x.o (r.length+1) r []=(match fC x.o (b1::r2) with
      | .error e=>.error e
      | .ok (a,r5)=>cI x.o i.length r5 (acc++[a])) by rw [y.o,aM D,aM E])
     clear D E;(repeat revert K);refine vS ?_;intro K hK K hK K hK;refine aC.o.mono ?_;rintro e9 w9 ⟨rfl,v9,h9,a6,l,o,d3⟩;have P:=Lh (B.o.s0 o l);have U:=Lh (z.o.step (o.stp l));have e0:=Lh (b9.o.of_eq l);have a3:=Lh h9;clear h9 a6 l o d3 aC B z b9;go_simp;(repeat revert K);refine vT 176 ?_;intro K hK;refine cM [0,28,29,30] fun f=>?_;refine bB (Y7 x O.o c HD.o hU.o w v w9 v9 (b1::r2) b6 a3.o e0.o P.o d6.o S nm av acc U.o (by have:=b5.o;have:=c8.o;omega) _ _ _ ?_ ?_ f) (by kernel_rfl)
     ·intro a r5 q f w' v' e' b' hW hr N Y g7;have ⟨HR,d9,HS,HK⟩:=kY hr N Y g7;have c4:=Lh ((oB q).2);have HG:=Lh (show cI x.o (r.length+1) r []=cI x.o i.length r5 (acc++[a]) by rw [b0.o,q]);clear hr N Y g7 q;revert K;refine vg ?_;intro K hK;refine hM.o _ _ ⟨r5.length,?_,HJ.o _ _ _ ⟨f,v',r5,e',b',hW,acc++[a],rfl,HR.o,d9.o,HS.o,HK.o,rfl,fun K hK=>?_,?_⟩⟩
      ·rw [hN.o];have:=c4.o;have:=c3.o;simp only [gF] at *;omega
      ·rw [HG.o];exact nD (by have:=c4.o;have:=c3.o;simp only [gF] at *;omega) hK
      ·have:=c4.o;have:=c3.o;have:=b5.o;simp only [fU,gF,List.length_nil] at *;omega
     ·intro k q f w' v' u Y;have ⟨HE,HS⟩:=cH u Y;have HG:=Lh (show dX x.o (b::rest)=.error k by rw [j.o,b0.o,q]);clear u Y q;revert K;refine vg ?_;intro K hK;exact HQ.o f w' _ _ ⟨v',HS.o,by rw [HG.o];exact ⟨rfl,rfl,HE.o⟩⟩
end Go.Proofs.YthapcchcahnfaaaGreatDoor
