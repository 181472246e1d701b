/- Part of the proof that laws.FnStrictIsLoose, laws.FnUnclosed, laws.FnReaderFails, laws.FnWithin, laws.FnSkip returns true for every argument. No conditions. -/
import Derived.Test.YthapcchcahnfaaaGreatDoorP04
import Derived.Test.YthapcchcahnfaaaGreatDoorP20
import Derived.Maps.OwnSet
import Derived.Maps.StringElems
import Derived.Test.YthapcchcahnfaaaGreatDoorP21
import Derived.Test.YthapcchcahnfaaaGreatDoorP24
import Derived.Test.YthapcchcahnfaaaGreatDoorP16
set_option linter.all false
set_option maxHeartbeats 8000000
set_option maxRecDepth 100000
namespace Go.Proofs.YthapcchcahnfaaaGreatDoor
open Go Go.RowKit Tryz
theorem ZD:Maps.Keyed prog 9:=Maps.string_keyed underlying9
def kO (w:World) (m n:Nat) (a:Bs→Option Bs):Prop:=
 ∃ D:DataW Unit,w.ownsMap prog 9 (plainElem prog 9) m n D∧∀ k,(a k=none→∀ z,D.atKey (.string k) z=z)∧(∀ s,a k=some s→∀ z,D.atKey (.string k) z=.lit (.string s))∧Maps.has D (.string k)=(a k).isSome
theorem JD (s:Bs) (h:s.length≤maxLen):keyOf prog 9 (aB s)=some (.string s):=by
 have:=WideMaps.keyOf_string_mk (P:=prog) (k:=9) underlying9 (s:=⟨s.toArray⟩) h;simpa using this
theorem kO.made (w:World):kO (w.alloc (.map #[] 0)) w.heap.size 0 (fun _=>none):=
 ⟨.map [],World.ownsMap_made w _ _ _,fun k=>⟨fun _ z=>rfl,⟨fun s h=>(by cases h),rfl⟩⟩⟩
theorem kO.lt {w:World} {m n:Nat} {a:Bs→Option Bs} (h:kO w m n a):m<w.heap.size:=by
 obtain ⟨D,h,_⟩:=h;exact h.lt
theorem kO.mod {w w':World} {m n:Nat} {b:Bs→Option Bs} {S:Nat→Prop} (h:kO w m n b) (j:aM S w w') (i:¬ S m):kO w' m n b:=by
 obtain ⟨D,e,f⟩:=h;refine ⟨D,?_,f⟩;obtain ⟨d,c,a,F,k,g⟩:=e;exact ⟨d,c,(j.block m (by
  rcases Nat.lt_or_ge m w.heap.size with h'|h'
  ·exact h'
  ·simp [Array.getElem?_eq_none h'] at a) i).trans a,F,k,g⟩
theorem VF (w:World):(zeroValue 9).run prog w=.ok (.string ⟨#[]⟩) w:=by kernel_rfl
theorem K8 (s:Bs) (h:s.length≤maxLen):plainElem (H:=Unit) prog 9 (aB s)=some (.lit (.string s),[]):=by
 have:=plainElem_string (H:=Unit) (P:=prog) (e:=9) underlying9 (s:=⟨s.toArray⟩) h;simpa using this
theorem kO.look {w:World} {m n:Nat} {a:Bs→Option Bs} (h:kO w m n a) (k:Bs) (c:k.length≤maxLen) :
  (Instr.lookup 75 (.map (some m)) (aB k) true).run prog w=.ok (.tuple #[aB ((a k).getD []),.bool (a k).isSome]) w:=by
 obtain ⟨D,p,q⟩:=h;obtain ⟨j,l,o⟩:=q k;obtain ⟨v,y,r,u⟩:=p.look_ok (t:=75) (e:=9) ZD underlying75 (VF w) (zd:=.lit (.string [])) (zp:=[]) (K8 [] (by simp)) (JD k c);rw [r,o];obtain ⟨s,rfl,x,_⟩:=plainElem_string_inv underlying9 u;have i:DataW.lit (H:=Unit) (.string s.data.toList)=.lit (.string ((a k).getD [])):=by
  have b:=(congrArg Prod.fst x).symm;simp only at b;rw [b];cases g:a k with
  | none=>rw [j g];rfl
  | some t=>rw [l t g];rfl
 have d:s.data.toList=(a k).getD []:=by
  simp only [DataW.lit.injEq,Lit.string.injEq] at i;exact i
 have f:s=⟨((a k).getD []).toArray⟩:=by
  apply ByteArray.ext;apply Array.toList_inj.1;rw [d]
 rw [f]
theorem lR {w w':World} {m:Nat} (h:w.mapTurned w' m):aM (fun k=>k=m) w w':=by
 have g:=h.grown;exact ⟨g.os,g.tape,g.output,g.size,fun k a b=>g.block k a (by simpa using b)⟩
theorem uR (s:Bs):WideAt.IsKeyLit (.string s):=trivial
theorem kO.store {w:World} {m n:Nat} {j:Bs→Option Bs} (h:kO w m n j) (r:n<maxLen) (k v:Bs) (f:k.length≤maxLen) (A:v.length≤maxLen) :
  ∃ w',(Instr.mapUpdate 75 (.map (some m)) (aB k) (aB v)).run prog w=.ok () w'∧kO w' m (n+1) (iA j k (some v))∧w.mapTurned w' m:=by
 obtain ⟨D,b,q⟩:=h;obtain ⟨w',x,u,y⟩:=b.store (t:=75) (e:=9) ZD underlying75 r (JD k f) (K8 v A);refine ⟨w',x,⟨_,u,fun i=>?_⟩,y⟩;unfold iA;by_cases d:i=k
 ·subst d;simp only [if_true];refine ⟨fun c=>(by cases c),fun s g z=>?_,?_⟩
  ·cases g;exact Maps.atKey_put_same b.isMap (uR _) _ _
  ·exact Maps.has_put_same b.isMap (uR _) _
 ·simp only [aN d];have a:Lit.string i≠Lit.string k:=by simpa using d
  obtain ⟨l,o,p⟩:=q i;exact ⟨fun c z=>by rw [Maps.atKey_put_other a];exact l c z,fun s g z=>by rw [Maps.atKey_put_other a];exact o s g z,by rw [Maps.has_put_other a];exact p⟩
theorem kO.drop {w:World} {m n:Nat} {g:Bs→Option Bs} (h:kO w m n g) (k:Bs) (c:k.length≤maxLen) (ty:TypeId) :
  ∃ w',(Builtin.delete_ #[75,9] ty #[.map (some m),aB k]).run prog w=.ok (.tuple #[]) w'∧kO w' m n (iA g k none)∧w.mapTurned w' m:=by
 obtain ⟨D,o,p⟩:=h;obtain ⟨w',u,r,v⟩:=o.drop (t:=75) (e:=9) ZD underlying75 (JD k c) ty;refine ⟨w',u,⟨_,r,fun f=>?_⟩,v⟩;unfold iA;by_cases b:f=k
 ·subst b;simp only [if_true];exact ⟨fun _ z=>Maps.atKey_del_same z,fun s d=>(by cases d),Maps.has_del_same⟩
 ·simp only [aN b];have a:Lit.string f≠Lit.string k:=by simpa using b
  obtain ⟨i,j,l⟩:=p f;exact ⟨fun q z=>by rw [Maps.atKey_del_other a];exact i q z,fun s d z=>by rw [Maps.atKey_del_other a];exact j s d z,by rw [Maps.has_del_other a];exact l⟩
@[go_sem] def jX (b:Value) (k:Int) (d a:Bs) (c:Bool):Array Value:=#[b,.int .i64 k,aB d,aB a,.bool c]
def iY (w:World):Value→List gT→List Nat→Prop
 | p,[],[]=>p=.pointer none
 | p,e::l,b::bs=>p=.pointer (some ⟨b,0,none⟩)∧∃ a c,aJ w b (jX a e.kind e.space e.loc c) 95∧(e.kind=1→c=e.ok)∧iY w a l bs
 | _,_,_=>False
theorem iY.mod {w w':World} {S:Nat→Prop} (f:aM S w w'):∀ {p:Value} {l:List gT} {a:List Nat},iY w p l a→(∀ b∈a,¬ S b)→iY w' p l a
 | p,[],[],h,_=>h
 | p,e::l,b::a,h,d=>by
  obtain ⟨k,n,o,g,j,m⟩:=h;exact ⟨k,n,o,g.mod f (d b (by simp)),j,iY.mod f m (fun c i=>d c (by simp [i]))⟩
 | _,[],_::_,h,_=>h.elim
 | _,_::_,[],h,_=>h.elim
theorem iY.lt {w:World}:∀ {p:Value} {l:List gT} {d:List Nat},iY w p l d→∀ b∈d,b<w.heap.size
 | p,[],[],h,b,f=>by simp at f
 | p,e::l,b::d,h,c,a=>by
  obtain ⟨j,k,m,f,i,g⟩:=h;simp only [mH] at a;rcases a with rfl|a
  ·exact f.lt
  ·exact g.lt c a
 | _,[],_::_,h,_,_=>h.elim
 | _,_::_,[],h,_,_=>h.elim
structure m5 (x:Cx) (w:World) (c:DC) (v:DV) (m:Nat) (d a:List Nat) (n:Nat) (stk:List gT) (ns:Bs→Option Bs):Prop where
 stk:iY w c.stk stk d
 free:∃ e,iY w c.free e a
 map:c.ns=.map (some m)
 ns:kO w m n ns
 nodup:(m::(d++a)).Nodup
 base:∀ b∈m::(d++a),x.B≤b
 s1:∀ b∈m::(d++a),¬ x.S1 v b
theorem m5.lt {x:Cx} {w:World} {c:DC} {v:DV} {m:Nat} {f e:List Nat} {n:Nat} {d:List gT} {i:Bs→Option Bs} (h:m5 x w c v m f e n d i):∀ b∈m::(f++e),b<w.heap.size:=by
 intro b a;simp only [mH,List.mem_append] at a;rcases a with rfl|a|a
 ·exact h.ns.lt
 ·exact h.stk.lt b a
 ·obtain ⟨j,g⟩:=h.free;exact g.lt b a
theorem m5.mod {x:Cx} {w w':World} {c:DC} {v v':DV} {m:Nat} {e d:List Nat} {n:Nat} {a:List gT} {j:Bs→Option Bs} {S:Nat→Prop} (h:m5 x w c v m e d n a j) (i:aM S w w') (f:∀ b∈m::(e++d),¬ S b) (o:∀ b∈m::(e++d),¬ x.S1 v' b):m5 x w' c v' m e d n a j:=by
 obtain ⟨k,l⟩:=h.free;exact ⟨h.stk.mod i (fun b g=>f b (by simp [g])),⟨k,l.mod i (fun b g=>f b (by simp [g]))⟩,h.map,h.ns.mod i (f m (by simp)),h.nodup,h.base,o⟩
theorem m5.step {x:Cx} {w w':World} {c:DC} {v v':DV} {m:Nat} {j f:List Nat} {n:Nat} {e:List gT} {i:Bs→Option Bs} (h:m5 x w c v m j f n e i) (g:dB x w v w' v'):m5 x w' c v' m j f n e i:=by
 refine h.mod g.mod (fun b d=>h.s1 b d) (fun b d a=>?_);rcases a with a|a
 ·exact h.s1 b d (aH a)
 ·rcases g.buf b a with a|a
  ·exact h.s1 b d (aW a)
  ·have:=h.lt b d;omega
theorem uS {P:Program} {b:Array Oper} {d:Bool} {Q:Exit→Act→World→Prop} {a:Act} {w:World} (n:Nat) (h:(Code.region n b d).wp P Q a w):(Code.region n b d).wp P Q a w:=h
theorem aE {w w':World} {a:Nat} {e:TypeId} {b:Nat} {v:Value} {n:Nat} {d:List Value} {S:Nat→Prop} (h:w.ownsRow a e b v n d) (m:aM S w w') (j:∀ g,v.ownBlock=some g→¬ S g):w'.ownsRow a e b v n d:=by
 obtain ⟨f,c⟩:=h;refine ⟨f,?_⟩;rcases c with c|⟨g,cap,cur,rfl,k,l,i⟩
 ·exact aH c
 ·exact aW ⟨g,cap,cur,rfl,k,(show aJ w g cur e from l).mod m (j g rfl),i⟩
theorem ZE:(prog.info? 103).map (fun i=>(i.zero,i.size,i.bytes))=some (some (.agg #[.string ⟨#[]⟩,.string ⟨#[]⟩,.string ⟨#[]⟩]),3,48):=by kernel_rfl
theorem NL (c:World) (b:Nat) (g:b≤c.heap.size) (v:Value) (acc:List cZ) (x:acc.length≤1000000000) (h:c.ownsRow b 103 3 v acc.length (aR acc)) (a:cZ) :
  ∃ v' f,(Builtin.append_ #[99,99] 99 #[v,.slice (some ⟨c.heap.size,0,none⟩) 1 1]).run prog (c.alloc (.cells #[aB a.1,aB a.2.1,aB a.2.2] 103))=.ok v' f ∧
   f.ownsRow b 103 3 v' (acc++[a]).length (aR (acc++[a]))∧(c.alloc (.cells #[aB a.1,aB a.2.1,aB a.2.2] 103)).grownBy f v.ownBlock∧v'≠.slice none 0 0∧(v'.ownBlock=v.ownBlock∨v'.ownBlock=some (c.heap.size+1)):=by
 obtain ⟨i,q,w,m,n⟩:=info_parts ZE
 obtain ⟨v',f,t,s,o,d,e⟩:=run_append_own_at (P:=prog) (c.alloc (.cells #[aB a.1,aB a.2.1,aB a.2.2] 103)) b 99 99 103 i _ 3 48 underlying99 q w m n rfl (by omega) v acc.length (aR acc) (h.alloc _) ⟨c.heap.size,0,none⟩ 1 1 [aB a.1,aB a.2.1,aB a.2.2] rfl
  (by
   intro j u r;have g:=aJ.new c #[aB a.1,aB a.2.1,aB a.2.2] 103;rw [show ((⟨c.heap.size,0,none⟩:Addr).add j)=⟨c.heap.size,j,none⟩ by cases j<;>simp [Addr.add],g.cell];simpa using r)
  (by
   intro u k;simp only [mH,xZ,or_false] at k;rcases k with rfl|rfl|rfl<;>rfl)
  (by unfold maxLen;omega) (by omega) (by simp;omega)
 refine ⟨v',f,t,?_,o,fun p=>by have:=(d.1 p).2;omega,by simpa using e⟩;have l:aR (acc++[a])=aR acc++[aB a.1,aB a.2.1,aB a.2.2]:=by simp [aR]
 rw [l,fY];exact s
structure qS (x:Cx) (w0:World) (w:World) (v:DV) (nb:Nat) (nm:Bs×Bs) (a:Value) (acc:List cZ):Prop where
 name:aJ w nb #[aB nm.1,aB nm.2] 89
 nbS:¬ x.S1 v nb
 nbB:w0.heap.size≤nb
 row:w.ownsRow w0.heap.size 103 3 a acc.length (aR acc)
 rowS:∀ g,a.ownBlock=some g→¬ x.S1 v g∧g≠nb
 ne:a≠.slice none 0 0
theorem aU {w:World} {a:Nat} {e:TypeId} {c:Nat} {v:Value} {n:Nat} {k:List Value} (h:w.ownsRow a e c v n k) {g:Nat} (d:v.ownBlock=some g):g<w.heap.size∧a≤g:=by
 obtain ⟨_,f⟩:=h;rcases f with ⟨rfl,_⟩|⟨g',cap,cur,rfl,i,j,_⟩
 ·cases d
 ·have:g'=g:=by simpa [Value.ownBlock] using d
  subst this;exact ⟨aJ.lt (w:=w) (b:=g') (cs:=cur) (t:=e) j,i⟩
theorem qS.step {x:Cx} {w0 w w':World} {v v':DV} {d:Nat} {nm:Bs×Bs} {c:Value} {acc:List cZ} (h:qS x w0 w v d nm c acc) (b:dB x w v w' v'):qS x w0 w' v' d nm c acc:=
 ⟨h.name.mod b.mod h.nbS,b.notS1 h.nbS h.name.lt,h.nbB,aE h.row b.mod (fun g a=>(h.rowS g a).1),fun g a=>⟨b.notS1 (h.rowS g a).1 (aU h.row a).1,(h.rowS g a).2⟩,h.ne⟩
theorem qS.other {x:Cx} {w0 w w':World} {v:DV} {b:Nat} {nm:Bs×Bs} {a:Value} {acc:List cZ} (h:qS x w0 w v b nm a acc) {q:Nat} (c:aM (fun k=>k=q) w w') (d:b≠q) (e:a.ownBlock≠some q):qS x w0 w' v b nm a acc:=
 ⟨h.name.mod c d,h.nbS,h.nbB,aE h.row c (fun g i f=>e (f▸i)),h.rowS,h.ne⟩
theorem qS.below {x:Cx} {w0 w w':World} {v:DV} {c:Nat} {nm:Bs×Bs} {a:Value} {acc:List cZ} (h:qS x w0 w v c nm a acc) (b:Below w.heap.size w w'):qS x w0 w' v c nm a acc:=
 ⟨h.name.mod (S:=fun _=>False) (aG b _) id,h.nbS,h.nbB,aE (S:=fun _=>False) h.row (aG b _) (fun _ _=>id),h.rowS,h.ne⟩
theorem F2 (x:Cx) (M:x.All) (c:DC) (w0:World) (w:World) (v:DV) (rest:Bs) (e:Option EK) (q:Bs) (h:cK x c w v rest e q) (G:w0.heap.size≤w.heap.size) (z:x.B≤w0.heap.size) (I:Nat) (nm:Bs×Bs) (o:Value) (acc:List cZ) (b:qS x w0 w v I nm o acc) (E:acc.length≤1000000000)
  (J:Nat) (a:cZ) (A:aJ w J #[aB a.1,aB a.2.1,aB a.2.2] 103) (u y:Value) (Q:Exit→Act→World→Prop)
  (L:∀ f w' j,cK x c w' v rest e q→aM (fun k=>w0.heap.size≤k) w w'→qS x w0 w' v I nm j (acc++[a])→Q .normal (fr 731 f [(0,cB x),(28,u),(29,y),(30,j)]) w') (f:Nat→Value) :
  (eH 197).wp prog Q (fr 731 f [(0,cB x),(28,u),(29,y),(30,o),(31,.pointer (some ⟨J,0,none⟩))]) w:=by
 obtain ⟨j,N,n,m,t,F,d⟩:=NL w w0.heap.size G o acc E b.row a;have R:=A.cell;have S:=A.frozen;have ⟨P,l,H,p,O,V⟩:=iH L b h t m M;clear L b h t m A M;unfold eH;conv=>arg 2;whnf
 refine vB ?_;refine eV rfl (.tmp 715) (.tmp 717) _ _ rfl _ _ _ (by rw [cC (by decide)];(try simp only [aK,aQ,aS,aX,Nat.reduceEqDiff,↓reduceIte]);(try rfl)) (by rw [cC (by decide)];(try simp only [aK,aQ,aS,aX,Nat.reduceEqDiff,↓reduceIte]);(try rfl)) n ?_;clear n;rw [fR (by decide)];refine vg ?_;refine Qk [0,28,29,30] fun f=>?_;have B:aM (fun _=>False) w (w.alloc (.cells #[aB a.1,aB a.2.1,aB a.2.2] 103)):=aG ((Below.refl _ w).alloc (dD _) _) _;have D:aM (fun k=>o.ownBlock=some k) w N:=(B.mono (fun _ _ h=>h.elim)).trans (S':=fun k=>o.ownBlock=some k) ⟨p.o.os,p.o.tape,p.o.output,p.o.size,fun k b E=>p.o.block k b (fun s=>E s.symm)⟩ (fun i _ U=>U);have r:∀ k,o.ownBlock=some k→w0.heap.size≤k:=fun k b=>(aU l.o.row b).2;refine P.o f N j (H.o.mod D (fun k b s=>(l.o.rowS k s).1 b) (fun k b=>fX z (r k b))) (D.mono (fun k _ b=>r k b)) ⟨l.o.name.mod D (fun s=>(l.o.rowS I s).2 rfl),l.o.nbS,l.o.nbB,O.o,fun g C=>?_,F⟩;rcases d with d|d
 ·exact l.o.rowS g (d▸C)
 ·rw [d] at C;have T:w.heap.size+1=g:=by simpa using C
  exact ⟨fun b=>by have:=H.o.s1lt g b;omega,by have:=l.o.name.lt;omega⟩
theorem dB.fresh {x:Cx} {w0 w1 b:World} {v0 a:DV} (h:dB x w0 v0 w1 a) (c:aM (fun k=>w0.heap.size≤k) w1 b):dB x w0 v0 b a:=
 ⟨h.mod.trans c (fun i d e=>by omega),h.buf⟩
structure LA (x:Cx) (w0:World) (w:World) (v:DV) (nb:Nat) (b:Value) (a:Nat) (cs:Array Value):Prop where
 blk:aJ w a cs 103
 S:¬ x.S1 v a
 B:w0.heap.size≤a
 n:nb≠a
 r:b.ownBlock≠some a
theorem LA.step {x:Cx} {w0 w w':World} {v v':DV} {d:Nat} {b:Value} {a:Nat} {cs:Array Value} (h:LA x w0 w v d b a cs) (c:dB x w v w' v'):LA x w0 w' v' d b a cs:=
 ⟨h.blk.mod c.mod h.S,c.notS1 h.S h.blk.lt,h.B,h.n,h.r⟩
structure wH (x:Cx) (c:DC) (w0:World) (v0:DV) (w:World) (v:DV) (rest:Bs) (e:Option EK) (nb:Nat) (nm:Bs×Bs) (a:Value) (acc:List cZ) (d:Nat) (cs:Array Value):Prop where
 rd:∃ b,cK x c w v rest e b
 nn:dH v
 stp:dB x w0 v0 w v
 keep:qS x w0 w v nb nm a acc
 cell:LA x w0 w v nb a d cs
theorem wH.step {x:Cx} {c:DC} {w0:World} {v0:DV} {w:World} {v:DV} {rest:Bs} {e:Option EK} {j:Nat} {nm:Bs×Bs} {g:Value} {acc:List cZ} {f:Nat} {cs:Array Value} (h:wH x c w0 v0 w v rest e j nm g acc f cs) {w':World} {v':DV} {a:Bs} {i:Option EK} (d:dB x w v w' v') (l:∃ b,cK x c w' v' a i b) (k:dH v'):wH x c w0 v0 w' v' a i j nm g acc f cs:=
 ⟨l,k,h.stp.trans d,h.keep.step d,h.cell.step d⟩
theorem wH.set {x:Cx} {c:DC} {w0:World} {v0:DV} {w:World} {v:DV} {rest:Bs} {e:Option EK} {j:Nat} {nm:Bs×Bs} {i:Value} {acc:List cZ} {a:Nat} {cs:Array Value} (h:wH x c w0 v0 w v rest e j nm i acc a cs) (f:x.B≤w0.heap.size) (o:Nat) (u:Value):wH x c w0 v0 (w.setCell ⟨a,o,none⟩ u) v rest e j nm i acc a (cs.setIfInBounds o u):=by
 have g:aM (fun k=>k=a) w (w.setCell ⟨a,o,none⟩ u):=(aM.refl (fun k=>k=a) w).setCell (p:=⟨a,o,none⟩) (aH rfl) u;obtain ⟨b,l⟩:=h.rd;exact ⟨⟨b,l.mod g (fun k d m=>h.cell.S (m▸d)) (fun k d=>d▸fX f h.cell.B)⟩,h.nn,h.stp.fresh (g.mono (fun k _ d=>d▸h.cell.B)),h.keep.other g h.cell.n h.cell.r,⟨h.cell.blk.set o u,h.cell.S,h.cell.B,h.cell.n,h.cell.r⟩⟩
def gX (o:cM) (nm:Bs×Bs) (r:Bs):Except EK (cZ×Bs):=
 match aT r with
 | []=>.error (cE o.fails)
 | b::r4=>
  if b=61 then
   match cS o (aT r4) with
   | .error e=>.error e
   | .ok (v,r5)=>.ok ((nm.1,nm.2,v),r5)
  else if o.strict then .error .syn else .ok ((nm.1,nm.2,nm.2),b::r4)
theorem JE (o:cM) (r:Bs):fO o r=match cH o.fails r with
 | .error e=>.error e
 | .ok (nm,r2)=>gX o nm r2:=by
 unfold fO gX;rfl
theorem VG (x:Cx) (hx:x.All) (c:DC) (X:iU x c) (a8:tC x c) (w0:World) (v0:DV) (w:World) (v:DV) (rest:Bs) (a2:x.B≤w0.heap.size) (nb:Nat) (nm:Bs×Bs) (av:Value) (acc:List cZ) (hn:acc.length≤1000000000) (O:Nat) (i:Bs×Bs)
  (h:wH x c w0 v0 w v rest none nb nm av acc O #[aB i.1,aB i.2,aB []]) (L M:Value) (Q:Exit→Act→World→Prop)
  (bA:∀ a r5,gX x.o i rest=.ok (a,r5)→∀ f w' v' e' b' t,cK x c w' v' r5 e' b'→dH v'→dB x w0 v0 w' v'→qS x w0 w' v' nb nm t (acc++[a])→Q .normal (fr 731 f [(0,cB x),(28,L),(29,M),(30,t)]) w')
  (P:∀ k,gX x.o i rest=.error k→∀ f w' v',jM x c w' v' k→dB x w0 v0 w' v'→Q .ret (fr 731 f [(2,.nilIface),(3,v'.err)]) w') (f:Nat→Value) :
  (eH 182).wp prog Q (fr 731 f [(0,cB x),(28,L),(29,M),(30,av),(31,.pointer (some ⟨O,0,none⟩))]) w:=by
 have ⟨N,HD,b2,aL,y⟩:=o4 hx X a8 bA P;obtain ⟨b0,bC⟩:=h.rd;have D:=Lh (uJ x hx.toOk c X w v rest none b0 bC);have ⟨HA,F,HN⟩:=mJ h a2 hn;clear hx X a8 bA P h bC a2 hn;unfold eH;conv=>arg 2;whnf
 refine vg ?_;intro K hK K hK;refine D.o.mono ?_;rintro e1 w1 ⟨rfl,v1,c5,q⟩;have E:=Lh (HA.o.step (q.mod.stp q.bufv) ⟨b0,q.rd⟩ (HA.o.nn.of_eq q.bufv));have H:=Lh q.rd;clear q D HA;cases hw:aT rest with
 | nil=>
  have o:=Lh (show gX x.o i rest=.error (cE x.o.fails) by unfold gX;rw [hw]);have B:=Lh (bS x N.o.toOk c HD.o w1 v1 _ b0 (by have:=H.o;rw [hw] at this;exact this));clear hw;(repeat revert K);refine vS ?_;intro K hK K hK K hK;refine B.o.mono ?_;rintro e2 w2 ⟨rfl,v2,z,u,A⟩;have b3:=Lh (E.o.stp.s0 A u);obtain ⟨t1,u1,aA⟩:=z.err.iface;have HE:=Lh z;have hc:=z.dec.cell;have hf:=z.dec.frozen;have HU:=Lh aA;clear z A u B;(repeat revert K);refine vS ?_;intro K hK K hK
  ((refine cP [0] fun f=>?_);go_quiet (fail);((repeat revert K);refine vg ?_;intro K hK);refine Qk [2,3] fun f=>?_)
  rw [←HU.o];exact y.o _ o.o f _ v2 (HE.o.drewN _) (b3.o.drawn _)
 | cons b r4=>
  have B:=Lh (bO x N.o.toOk c HD.o w1 v1 b r4 _ b0 (by have:=H.o;rw [hw] at this;exact this));have a1:=Lh (show (b::r4) <:+ x.T by have:=H.o.suf;rw [hw] at this;exact this)
  have I:=Lh (show gX x.o i rest=(if b=61 then
   match cS x.o (aT r4) with
   | .error e=>.error e
   | .ok (v,r5)=>.ok ((i.1,i.2,v),r5)
  else if x.o.strict then .error .syn else .ok ((i.1,i.2,i.2),b::r4)) by unfold gX;rw [hw])
  clear hw;(repeat revert K);refine vS ?_;intro K hK K hK K hK;refine B.o.mono ?_;rintro e2 w2 ⟨rfl,v2,h2,a7,u,A,c1⟩;have p:=Lh (E.o.step (A.stp u) ⟨b0,h2⟩ (E.o.nn.of_eq u));have ⟨s,aC⟩:=cN h2 a7;clear h2 a7 u A c1 B E H;by_cases T:b=61
  ·subst T;have D:=Lh (uJ x N.o.toOk c HD.o w2 v2 r4 none b0 s.o);(repeat revert K);refine vS ?_;intro K hK K hK K hK;refine D.o.mono ?_;rintro e3 w3 ⟨rfl,v3,b7,q⟩;have r:=Lh (p.o.step (q.mod.stp q.bufv) ⟨b0,q.rd⟩ (p.o.nn.of_eq q.bufv));have a3:=Lh (M6 x N.o c HD.o b2.o w3 v3 (aT r4) b7 b0 q.rd (p.o.nn.of_eq q.bufv));clear q D p s aC;(repeat revert K);refine vS ?_;intro K hK K hK K hK;refine a3.o.mono ?_;rintro e4 w4 ⟨v4,bL,J⟩;have a0:=Lh bL;clear bL a3;cases m:cS x.o (aT r4) with
   | error k=>
    rw [m] at J;obtain ⟨rfl,z⟩:=J;have o:=Lh (show gX x.o i rest=.error k by rw [I.o,aV rfl,m]);obtain ⟨t1,u1,aA⟩:=z.err.iface;have hc:=z.dec.cell;have hf:=z.dec.frozen;have ⟨HE,HU⟩:=cN z aA;clear z m;have q1:=fun w=>QS w;(repeat revert K);refine vS ?_;intro K hK K hK K hK
    ((refine cP [0] fun f=>?_);go_quiet (fail);((repeat revert K);refine vg ?_;intro K hK K hK);refine Qk [2,3] fun f=>?_)
    rw [←HU.o];exact y.o _ o.o f _ v4 (HE.o.drewN _) ((r.o.stp.trans a0.o).drawn _)
   | ok dr=>
    obtain ⟨d,r'⟩:=dr;rw [m] at J;obtain ⟨g,b5,e',b',rfl,hR,V,a5,b9,_⟩:=J;have o:=Lh (show gX x.o i rest=.ok ((i.1,i.2,d),r') by rw [I.o,aV rfl,m]);have a4:=(hR.bf.part V a5 b9).1;have b8:=wE d w4 g 0 b5 a4;have G:=Lh (show dH v4 from ⟨g,by rw [V];rfl⟩);have R:=Lh (r.o.step a0.o ⟨b',hR⟩ G.o);have W:=R.o.cell.blk.cell;have Y:=R.o.cell.blk.frozen;have HR:=Lh hR;clear hR V a5 m a4;have q1:=fun a l c w=>I8 a l c w;have S:=Lh (R.o.set F.o 2 (aB d));go_simp;(repeat ((fail_if_success with_reducible refine uS 197 ?_);(first|(with_reducible first|refine zA fun K hK=>?_|refine zB ?_|refine zC ?_)|((with_reducible first|refine zD rfl fun K hK=>?_|refine zE fun K hK=>?_);go_simp)|(with_reducible first|((repeat ((fail_if_success refine hK _ _ ?_);clear hK K));refine hK _ _ ?_;clear hK K)|refine zt ?_|refine zf ?_|refine zG ?_|refine zR ?_|refine zK ?_|refine zL ?_|refine zN ?_|refine zS ?_)|simp only [Exit.then,Exit.inBlock,Exit.noGoto,↓reduceIte,Nat.reduceEqDiff]|simp only [undef,reduceCtorEq,↓reduceIte])));refine cP [0,28,29,30,31] fun f=>?_;have j:Hx (wH x c w0 v0 (w4.setCell ⟨O,2,none⟩ (aB d)) v4 r' e' nb nm av acc O #[aB i.1,aB i.2,aB d]):=S.o;obtain ⟨b6,C⟩:=j.o.rd;refine bB (F2 x N.o c w0 _ v4 r' e' b6 C (j.o.stp.mod.size) F.o nb nm av acc j.o.keep HN.o O (i.1,i.2,d) j.o.cell.blk L M _ ?_ f) (by kernel_rfl);intro f w' t hr hm hk;have ⟨HH,HK⟩:=cN hr hk;have HS:=Lh (j.o.stp.fresh hm);clear hr hm hk C W Y q1 b8;refine vg ?_;exact aL.o _ _ o.o f w' v4 e' b6 t HH.o G.o HS.o HK.o
  ·have c6:=fL (n:=61) T rfl;have c4:=rG (n:=61) T rfl;have hc:=s.o.dec.cell;have hf:=s.o.dec.frozen;cases Z:c.strict with
   | true=>
    have o:=Lh (show gX x.o i rest=.error .syn by rw [I.o,aN T,aV (by rw [←HD.o.strict];exact Z)]);have b4:=Lh (fun c3=>gV N.o.toOk s.o c3);clear T;(repeat revert K);refine vS ?_;intro K hK K hK K hK K hK;refine (b4.o _).mono ?_;rintro e5 w5 ⟨a9,rfl,hS⟩;have c7:=hS.dec.cell;have c8:=hS.dec.frozen;have HS:=Lh hS;clear hS hc hf;(repeat revert K);refine vS ?_;intro K hK K hK K hK
    ((refine cP [0] fun f=>?_);go_quiet (fail);((repeat revert K);refine vg ?_;intro K hK K hK);refine Qk [2,3] fun f=>?_)
    exact y.o _ o.o f _ { v2 with err:=xX a9 } (HS.o.err.drewN _) ((p.o.stp.trans HS.o.stp).drawn _)
   | false=>
    have o:=Lh (show gX x.o i rest=.ok ((i.1,i.2,i.2),b::r4) by rw [I.o,aN T,aN (by rw [←HD.o.strict,Z];simp)]);have b1:=Lh (gU x N.o.toOk c w2 v2 b r4 b0 s.o aC.o a1.o);clear T;(repeat revert K);refine vS ?_;intro K hK K hK K hK;refine b1.o.mono ?_;rintro e3 w3 ⟨rfl,v3,h3,cT,U,a6,c2⟩;have r:=Lh (p.o.step (a6.stp U) ⟨b0,h3⟩ (p.o.nn.of_eq U));have W:=r.o.cell.blk.cell;have Y:=r.o.cell.blk.frozen;clear h3 cT U a6 c2 b1 hc hf Z;have S:=Lh (r.o.set F.o 2 (aB i.2));go_simp;(repeat ((fail_if_success with_reducible refine uS 197 ?_);(first|(with_reducible first|refine zA fun K hK=>?_|refine zB ?_|refine zC ?_)|((with_reducible first|refine zD rfl fun K hK=>?_|refine zE fun K hK=>?_);go_simp)|(with_reducible first|((repeat ((fail_if_success refine hK _ _ ?_);clear hK K));refine hK _ _ ?_;clear hK K)|refine zt ?_|refine zf ?_|refine zG ?_|refine zR ?_|refine zK ?_|refine zL ?_|refine zN ?_|refine zS ?_)|simp only [Exit.then,Exit.inBlock,Exit.noGoto,↓reduceIte,Nat.reduceEqDiff]|simp only [undef,reduceCtorEq,↓reduceIte])));refine cP [0,28,29,30,31] fun f=>?_;have j:Hx (wH x c w0 v0 (w3.setCell ⟨O,2,none⟩ (aB i.2)) v3 (b::r4) none nb nm av acc O #[aB i.1,aB i.2,aB i.2]):=S.o;obtain ⟨b6,C⟩:=j.o.rd;refine bB (F2 x N.o c w0 _ v3 (b::r4) none b6 C (j.o.stp.mod.size) F.o nb nm av acc j.o.keep HN.o O (i.1,i.2,i.2) j.o.cell.blk L M _ ?_ f) (by kernel_rfl);intro f w' t hr hm hk;have ⟨HH,HK⟩:=cN hr hk;have HS:=Lh (j.o.stp.fresh hm);have G:=Lh j.o.nn;clear hr hm hk C W Y;refine vg ?_;exact aL.o _ _ o.o f w' v3 none b6 t HH.o G.o HS.o HK.o
theorem jM.other {x:Cx} {c:DC} {w w':World} {v:DV} {k:EK} (h:jM x c w v k) {q:Nat} (a:aM (fun i=>i=q) w w') (f:q≠x.d) (b:x.B≤q):jM x c w' v k:=
 ⟨aM.below h.base h.base.size a (fun i e=>e▸b),aJ.mod h.dec a (fun d=>f d.symm),h.err⟩
theorem cK.turn {x:Cx} (d:x.Ok) {c j:DC} {w w':World} {v:DV} {rest:Bs} {e:Option EK} {b:Bs} (h:cK x c w v rest e b) (l:bX w' x.d j v) (g:aM (fun k=>k=x.d) w w'):cK x j w' v rest e b:=by
 obtain ⟨n,i,m⟩:=h.inp;exact ⟨aM.below h.base h.base.size g (fun k f=>f▸d.d),l,⟨n,i.mod g (fun a=>d.ne1 a.symm) (fun a=>d.ne2 a.symm) (fun a=>d.ne3 a.symm),m⟩,h.pos,h.err,h.fin,h.bf.mod g (fun k f a=>h.bf.notS0 k f (aH a))⟩
theorem Ce (x:Cx) (hx:x.All) (c:DC) (aC:iU x c) (a3:tC x c) (w0:World) (v0:DV) (w:World) (v:DV) (rest:Bs) (Z:Bs) (h:cK x c w v rest none Z) (a1:dH v) (hs:dB x w0 v0 w v) (q:x.B≤w0.heap.size) (N:Nat) (nm:Bs×Bs) (G:Value) (acc:List cZ) (F:qS x w0 w v N nm G acc) (u:acc.length≤1000000000)
  (O P:Value) (Q:Exit→Act→World→Prop)
  (a5:∀ a r5,fO x.o rest=.ok (a,r5)→∀ f w' v' e' b' z,cK x c w' v' r5 e' b'→dH v'→dB x w0 v0 w' v'→qS x w0 w' v' N nm z (acc++[a])→Q .normal (fr 731 f [(0,cB x),(28,O),(29,P),(30,z)]) w')
  (E:∀ k,fO x.o rest=.error k→∀ f w' v',jM x c w' v' k→dB x w0 v0 w' v'→Q .ret (fr 731 f [(2,.nilIface),(3,v'.err)]) w') (f:Nat→Value) :
  (eH 176).wp prog Q (fr 731 f [(0,cB x),(28,O),(29,P),(30,G)]) w:=by
 have B:Below w.heap.size w (w.alloc (.cells #[aB [],aB [],aB []] 103)):=(Below.refl _ w).alloc (dD _) _
 have H:wH x c w0 v0 (w.alloc (.cells #[aB [],aB [],aB []] 103)) v rest none N nm G acc w.heap.size #[aB [],aB [],aB []]:=
  ⟨⟨Z,h.below hx.toOk B⟩,a1,hs.below B,F.below B,⟨aJ.new w _ _,h.newS1,hs.mod.size,by have:=F.name.lt;omega,fun he=>by have:=(aU F.row he).1;omega⟩⟩
 have ⟨HX,HD,b2,b3,n,m⟩:=iH hx aC a3 a5 E q;have HN:=Lh u;have a7:=Lh (((H.set q 0 (aB [])).set q 1 (aB [])).set q 2 (aB []));have V:=Lh H;have W:=Lh (JE x.o rest);clear hx aC a3 a5 E q u B H h a1 hs F;unfold eH;conv=>arg 2;whnf
 refine vT 177 ?_;refine cP [0,28,29,30,31] fun f=>?_;obtain ⟨l,I⟩:=cY w.heap.size;obtain ⟨w1,M⟩:=cY (w.alloc (.cells #[aB [],aB [],aB []] 103));have y:Hx (wH x c w0 v0 w1 v rest none N nm G acc l #[aB [],aB [],aB []]):=by rw [M,I];exact V.o
 rw [show w.alloc (.cells #[.string ⟨#[]⟩,.string ⟨#[]⟩,.string ⟨#[]⟩] 103)=w1 from M.symm,←I];clear a7 V M I;obtain ⟨b1,a6⟩:=y.o.rd;have a4:=Lh (zF x HX.o.toFit c HD.o w1 v rest none b1 a6);clear a6;refine vg ?_;intro K hK K hK K hK;refine a4.o.mono ?_;rintro e2 w2 ⟨U,D,C⟩;have d:=Lh (y.o.cell.step D);have bL:=Lh (y.o.keep.step D);have X:=Lh (y.o.stp.trans D);have J:=d.o.blk.cell;have L:=d.o.blk.frozen;have b5:x.d≠l:=fun e=>d.o.S (aH (aH e.symm));have b6:l≠x.d:=fun e=>b5 e.symm;clear D a4;cases u:cH x.o.fails rest with
 | error k=>
  rw [u] at C;obtain ⟨o,rfl,a2⟩:=C;have g:=Lh (show fO x.o rest=.error k by rw [W.o,u]);have hm:aM (fun i=>i=l) w2 ((w2.setCell ⟨l,0,none⟩ (aB o.1)).setCell ⟨l,1,none⟩ (aB o.2)):=((aM.refl (fun i=>i=l) w2).setCell (p:=⟨l,0,none⟩) (aH rfl) _).setCell (p:=⟨l,1,none⟩) (aH rfl) _;have Y:=Lh (X.o.fresh (hm.mono (fun i _ hi=>hi▸d.o.B)));rcases a2 with S|⟨rfl,r,b,T⟩
  ·have A:=S.other hm b6 (fX m.o d.o.B);obtain ⟨t1,u1,b7⟩:=S.err.iface;have bC:=Lh A;have hc:=A.dec.cell;have hf:=A.dec.frozen;have HU:=Lh b7;clear S A hm u;(repeat revert K);refine vS ?_;intro K hK K hK
   ((refine cP [0] fun f=>?_);go_quiet (fail);((repeat revert K);refine vg ?_;intro K hK);refine Qk [2,3] fun f=>?_)
   rw [←HU.o];exact n.o _ g.o f _ U (bC.o.drewN _) (Y.o.drawn _)
  ·have s:=T.mod hm (fun k F he=>d.o.S (he▸F)) (fun k F=>F▸fX m.o d.o.B);have he:U.err=.nilIface:=s.err;have hc:=s.dec.cell;have hf:=s.dec.frozen;have b4:=Lh (fun b8=>gV HX.o.toOk s b8);clear T s hm u;(repeat revert K);refine vS ?_;intro K hK K hK K hK;refine (b4.o _).mono ?_;rintro e3 w3 ⟨a9,rfl,hS⟩;have b9:=hS.dec.cell;have cT:=hS.dec.frozen;have R:=Lh hS;clear hS hc hf he J L;(repeat revert K);refine vS ?_;intro K hK K hK
   ((refine cP [0] fun f=>?_);go_quiet (fail);((repeat revert K);refine vg ?_;intro K hK);refine Qk [2,3] fun f=>?_)
   exact n.o _ g.o f _ { U with err:=xX a9 } (R.o.err.drewN _) ((Y.o.trans R.o.stp).drawn _)
 | ok p=>
  obtain ⟨o,r⟩:=p;rw [u] at C;obtain ⟨rfl,b,aA,T⟩:=C;have g:=Lh (show fO x.o rest=gX x.o o r by rw [W.o,u]);have a8:Hx (wH x c w0 v0 w2 U r none N nm G acc l #[aB [],aB [],aB []]):=⟨⟨b,T⟩,T.nonnil aA,X.o,bL.o,d.o⟩;have bA:Hx (wH x c w0 v0 ((w2.setCell ⟨l,0,none⟩ (aB o.1)).setCell ⟨l,1,none⟩ (aB o.2)) U r none N nm G acc l #[aB o.1,aB o.2,aB []]):=(a8.o.set m.o 0 (aB o.1)).set m.o 1 (aB o.2);clear T u;go_simp;(repeat revert K);refine vT 182 ?_;refine cP [0,28,29,30,31] fun f=>?_;refine bB (VG x HX.o c HD.o b2.o w0 v0 _ U r m.o N nm G acc HN.o l o bA.o O P _ ?_ ?_ f) (by kernel_rfl)
  ·intro a r5 j f w' v' e' b' z hr a0 t aL;have ⟨HR,b0,R,HK⟩:=kV hr a0 t aL;have HG:=Lh (show fO x.o rest=.ok (a,r5) by rw [g.o,j]);clear hr a0 t aL j J L;refine vg ?_;exact b3.o a r5 HG.o f w' v' e' b' z HR.o b0.o R.o HK.o
  ·intro k j f w' v' S t;have ⟨HE,R⟩:=cN S t;have HG:=Lh (show fO x.o rest=.error k by rw [g.o,j]);clear S t j J L;refine vg ?_;exact n.o k HG.o f w' v' HE.o R.o
def DU (x:Cx) (c:DC) (w:World) (v:DV) (R:Except EK (((Bs×Bs)×List cZ)×Bool×Bs)) (t e:Value) (w':World):Prop:=
 ∃ v',dB x w v w' v'∧match R with
  | .error k=>t=.nilIface∧e=v'.err∧jM x c w' v' k
  | .ok ((nm,ats),em,r)=>e=.nilIface∧∃ b,cK x (c.closing nm em) w' v' r none b∧iR w' v'.bufv w.heap.size t (.start nm ats)∧v'.nb=-1
theorem XZ (x:Cx) (G:x.All) (c:DC) (w0:World) (v0:DV) (w:World) (v:DV) (rest:Bs) (b:Bs) (h:cK x c w v rest none b) (n:v.nb=-1) (F:dB x w0 v0 w v) (r:Nat) (nm:Bs×Bs) (u:Value) (acc:List cZ) (a:qS x w0 w v r nm u acc) (em:Bool)
  (Q:Exit→Act→World→Prop) (D:∀ f w' t e,DU x c w0 v0 (.ok ((nm,acc),em,rest)) t e w'→Q .ret (fr 731 f [(2,t),(3,e)]) w') (f:Nat→Value) :
  (eH 198).wp prog Q (fr 731 f [(0,cB x),(28,.pointer (some ⟨r,0,none⟩)),(29,.bool em),(30,u)]) w:=by
 have O:=h.dec.cell;have P:=h.dec.frozen;have J:=a.name.cell;have L:=a.name.frozen;obtain ⟨g0,l,z⟩:∃ g d,u=.slice (some ⟨g,0,none⟩) acc.length d:=by
  rcases a.row.2 with ⟨y,_⟩|⟨g,d,cur,y,_⟩
  ·exact absurd y a.ne
  ·exact ⟨g,d,y⟩
 subst z;have o:r≠x.d:=fun e=>a.nbS (aH (aH e));have E:x.d≠r:=fun e=>o e.symm;have ⟨B,H,C,q,j,I⟩:=iH D h F a n G;have m:∀ g,(Value.slice (some ⟨g0,0,none⟩) acc.length l).ownBlock=some g→¬ g=x.d:=fun g M e=>(a.rowS g M).1 (aH (aH e));have s:=Lh m;clear D h F a G m n;unfold eH;conv=>arg 2;whnf
 cases em with
 | false=>
  refine vg ?_;refine Qk [2,3] fun f=>?_;exact B.o f w _ _ ⟨v,C.o,rfl,b,H.o,⟨_,rfl,q.o.ne,q.o.row⟩,j.o⟩
 | true=>
  refine vg ?_;refine Qk [2,3] fun f=>?_
  have A:aM (fun k=>k=x.d) w (((w.setCell ⟨x.d,14,none⟩ (.bool true)).setCell ⟨x.d,15,none⟩ (aB nm.1)).setCell ⟨x.d,16,none⟩ (aB nm.2)):=
   (((aM.refl (fun k=>k=x.d) w).setCell (p:=⟨x.d,14,none⟩) (aH rfl) _).setCell (p:=⟨x.d,15,none⟩) (aH rfl) _).setCell (p:=⟨x.d,16,none⟩) (aH rfl) _
  refine B.o f _ _ _ ⟨v,C.o.s0 (A.mono (fun i _ N=>aH N)) rfl,rfl,b,H.o.turn I.o.toOk ?_ A,⟨_,rfl,q.o.ne,aE q.o.row A s.o⟩,j.o⟩;exact (((show aJ w x.d _ _ from H.o.dec).set 14 (.bool true)).set 15 (aB nm.1)).set 16 (aB nm.2)
def Q9 (f:Bool) (acc:List cZ):Bs→Except EK (List cZ×Bool×Bs)
 | []=>.error (cE f)
 | c::r3=>if c=62 then .ok (acc,true,r3) else .error .syn
def Cf (x:Cx) (c:DC) (w0:World) (v0:DV) (h:Nat) (nm:Bs×Bs) (d:Bs) (k:Nat) (a:Act) (w:World):Prop:=
 ∃ f v rest e b g acc,a=fr 731 f [(0,cB x),(28,.pointer (some ⟨h,0,none⟩)),(29,.bool false),(30,g)]∧cK x c w v rest e b∧dH v∧dB x w0 v0 w v∧qS x w0 w v h nm g acc∧k=rest.length ∧
  (∀ K,rest.length<K→cQ x.o (d.length+1) d []=cQ x.o K rest acc)∧acc.length+rest.length≤d.length
theorem RA (x:Cx) (hx:x.All) (c:DC) (g2:iU x c) (a7:tC x c) (w:World) (v:DV) (b:UInt8) (rest:Bs) (dT:Bs) (h:cK x c w v rest none dT) (W:v.nb=-1) (Z:(b::rest) <:+ x.T) (Q:Exit→Act→World→Prop)
  (hQ:∀ f w' t e,DU x c w v (eG x.o (b::rest)) t e w'→Q .ret (fr 731 f [(2,t),(3,e)]) w') (f:Nat→Value) :
  (eH 152).wp prog Q (fr 731 f [(0,cB x),(4,.int .u8 b.toNat)]) w:=by
 have aC:=Lh (gU x hx.toOk c w v b rest dT h W Z);have ⟨O,HD,hN,HQ⟩:=kV hx g2 a7 hQ;have d4:=Lh (show x.B≤w.heap.size from h.base.size);have hO:=Lh (show (b::rest).length≤1000000000 from fX (Z.length_le) hx.len);have H:=Lh h;clear hx g2 a7 hQ h W Z;unfold eH;conv=>arg 2;whnf
 refine vg ?_;intro K hK K hK;refine aC.o.mono ?_;rintro e1 w1 ⟨rfl,v1,h1,h2,f9,g8,h4⟩;have c7:=Lh ((dB.refl x w v).s0 g8 f9);have f6:Below w1.heap.size w1 (w1.alloc (.cells #[.string ⟨#[]⟩,.string ⟨#[]⟩] 89)):=(Below.refl _ w1).alloc (dD _) _;have hA:=Lh (zF x O.o.toFit c HD.o _ v1 (b::rest) none dT (h1.below O.o.toOk f6));have hq:=aJ.new w1 #[.string ⟨#[]⟩,.string ⟨#[]⟩] 89;have e4:=Lh (c7.o.alloc (.cells #[.string ⟨#[]⟩,.string ⟨#[]⟩] 89));have d9:=Lh hq;have c3:=Lh h1.newS1;have f3:=Lh c7.o.mod.size;clear h1 h2 f9 g8 h4 aC f6 hq c7;(repeat revert K);refine vS ?_;intro K hK K hK K hK;refine hA.o.mono ?_;rintro e2 w2 ⟨v2,bA,a8⟩;have g7:w1.heap.size<(w1.alloc (.cells #[.string ⟨#[]⟩,.string ⟨#[]⟩] 89)).heap.size:=by simp
 have N:=bA.notS1 c3.o g7;have X:=d9.o.mod bA.mod c3.o;have c8:=Lh (e4.o.trans bA);obtain ⟨S,a6⟩:=cY w1.heap.size;rw [←a6] at N X;have ⟨c4,aL⟩:=cN X N;have A:=Lh (show w.heap.size≤S by rw [a6];exact f3.o);have g1:=X.cell;have g3:=X.frozen;have hW:x.d≠S:=fun e=>N (aH (aH e.symm));have i2:S≠x.d:=fun e=>hW e.symm;have T:=Lh (fX d4.o A.o);rw [←a6];clear bA X N g7 hA e4 d9 c3 f3 a6;cases W:cH x.o.fails (b::rest) with
 | error k=>
  rw [W] at a8;obtain ⟨nm,rfl,a7⟩:=a8;have j:=Lh (show eG x.o (b::rest)=.error k by unfold eG;rw [W]);rcases a7 with u|⟨rfl,r,b',hR⟩
  ·obtain ⟨a4,hm⟩:=rH u c4.o aL.o T.o nm;have L:=Lh (c8.o.new A.o hm);obtain ⟨t1,u1,aA⟩:=u.err.iface;have hD:=Lh a4;have hc:=a4.dec.cell;have hf:=a4.dec.frozen;have HU:=Lh aA;clear u a4 hm W;(repeat revert K);refine vS ?_;intro K hK K hK
   ((refine cP [0] fun f=>?_);go_quiet (fail);((repeat revert K);refine vg ?_;intro K hK);refine Qk [2,3] fun f=>?_)
   exact HQ.o f _ _ _ ⟨v2,L.o.drawn _,by rw [j.o];exact ⟨rfl,HU.o.symm,hD.o.drewN _⟩⟩
  ·obtain ⟨C,a3,hm⟩:=qA hR c4.o aL.o T.o nm;have L:=Lh (c8.o.new A.o hm);have he:v2.err=.nilIface:=C.err;have hc:=C.dec.cell;have hf:=C.dec.frozen;have dI:=Lh (fun d2=>gV O.o.toOk C d2);clear hR C a3 hm W;(repeat revert K);refine vS ?_;intro K hK K hK K hK;refine (dI.o _).mono ?_;rintro e3 I ⟨a9,rfl,hS⟩;have hV:=hS.dec.cell;have hX:=hS.dec.frozen;have HS:=Lh hS;clear hS hc hf he g1 g3;(repeat revert K);refine vS ?_;intro K hK K hK
   ((refine cP [0] fun f=>?_);go_quiet (fail);((repeat revert K);refine vg ?_;intro K hK);refine Qk [2,3] fun f=>?_)
   exact HQ.o f _ _ _ ⟨_,(L.o.trans HS.o.stp).drawn _,by rw [j.o];exact ⟨rfl,rfl,HS.o.err.drewN _⟩⟩
 | ok p=>
  obtain ⟨nm,r⟩:=p;rw [W] at a8;obtain ⟨rfl,b2,g0,hR⟩:=a8;obtain ⟨C,a3,hm⟩:=qA hR c4.o aL.o T.o nm;have L:=Lh (c8.o.new A.o hm);have hM:=Lh (hR.nonnil g0);have j:=Lh (show eG x.o (b::rest)=(match cQ x.o (r.length+1) r [] with|.error e=>.error e|.ok (ats,em,r2)=>.ok ((nm,ats),em,r2)) by unfold eG;rw [W];rfl);have c6:=Lh (show r.length≤1000000000 from by have:=(kE W).2;have:=hO.o;omega);have ⟨c5,d3⟩:=cN C a3;clear hR C a3 hm W;(repeat revert K);refine vS ?_;intro K hK;refine cP [0,28,29,30] fun f=>?_;obtain ⟨I,G⟩:=cY ((w2.setCell ⟨S,0,none⟩ (aB nm.1)).setCell ⟨S,1,none⟩ (aB nm.2));have d0:Below I.heap.size I (I.alloc (.cells #[] 103)):=(Below.refl _ I).alloc (dD _) _;have e0:=Lh (show cK x c (I.alloc (.cells #[] 103)) v2 r none b2 by rw [G] at d0 ⊢;exact c5.o.below O.o.toOk d0);have f0:=Lh (show dB x w v (I.alloc (.cells #[] 103)) v2 by rw [G];exact L.o.alloc _);have d5:=Lh (show qS x w (I.alloc (.cells #[] 103)) v2 S nm (.slice (some ⟨I.heap.size,0,none⟩) 0 0) [] by
   have hb:aJ I S #[aB nm.1,aB nm.2] 89:=by rw [G];exact d3.o
   have hw:w.heap.size≤I.heap.size:=by rw [G];exact L.o.mod.size
   have h3:cK x c I v2 r none b2:=by rw [G];exact c5.o
   refine ⟨hb.alloc _,aL.o,A.o,⟨rfl,aW ⟨I.heap.size,0,#[],rfl,hw,aJ.new I #[] 103,dD _,iW _,rfl,rfl⟩⟩,fun g hg=>?_,by simp⟩;have h0:I.heap.size=g:=by simpa [Value.ownBlock] using hg
   subst h0;exact ⟨h3.newS1,by have:=hb.lt;omega⟩)
  rw [show (w2.setCell ⟨S,0,none⟩ (.string ⟨nm.1.toArray⟩)).setCell ⟨S,1,none⟩ (.string ⟨nm.2.toArray⟩)=I from G.symm];have f4:=Lh (show I.heap.size=w2.heap.size by rw [G];simp [World.setCell]);try rw [←f4.o]
  clear G d0 g1 g3;refine wp_loop_ghost_k (Cf x c w v S nm r) r.length ⟨f,v2,r,none,b2,_,[],rfl,e0.o,hM.o,f0.o,d5.o,rfl,fun K hK=>oB (by omega) hK,by simp⟩ ?_;clear e0 f0 d5 c5 d3 L;rintro k _ w6 ⟨f,v6,i,e6,b6,av,acc,rfl,h6,b9,hB,g5,g6,f7,b8⟩ J K2 hJ f5;have ⟨HJ,hG,f1,hI,b4,bL⟩:=iH hJ f5 hB g6 b9 g5;have cT:=Lh (f7 (i.length+1) (by omega));have b3:=Lh b8;have hC:=Lh (uJ x O.o.toOk c HD.o w6 v6 i e6 b6 h6);clear hJ f5 hB g6 b9 g5 f7 b8 h6;revert K;refine vg ?_;intro K hK K hK K hK;refine hC.o.mono ?_;rintro e7 w7 ⟨rfl,v7,i1,V⟩;have c9:=Lh (f1.o.s0 V.mod V.bufv);have b0:=Lh (bL.o.step (V.mod.stp V.bufv));have b5:=Lh (b4.o.of_eq V.bufv);have a0:=Lh V.rd;clear V hC f1 bL b4;cases hw:aT i with
  | nil=>
   have s:=Lh (show eG x.o (b::rest)=.error (cE x.o.fails) by rw [j.o,cT.o];simp only [cQ,hw]);have m:=Lh (bS x O.o.toOk c HD.o w7 v7 _ b6 (by have:=a0.o;rw [hw] at this;exact this));clear hw;(repeat revert K);refine vS ?_;intro K hK K hK K hK K hK;refine m.o.mono ?_;rintro e8 w8 ⟨rfl,v8,u,M,R⟩;have B:=Lh (c9.o.s0 R M);obtain ⟨t1,u1,aA⟩:=u.err.iface;have HE:=Lh u;have hc:=u.dec.cell;have hf:=u.dec.frozen;have HU:=Lh aA;clear u R M m;(repeat revert K);refine vS ?_;intro K hK K hK K hK
   ((refine cP [0] fun f=>?_);go_quiet (fail);((repeat revert K);refine vg ?_;intro K hK K hK);refine Qk [2,3] fun f=>?_)
   exact HQ.o f _ _ _ ⟨v8,B.o.drawn _,by rw [s.o];exact ⟨rfl,HU.o.symm,HE.o.drewN _⟩⟩
  | cons b1 r2=>
   have m:=Lh (bO x O.o.toOk c HD.o w7 v7 b1 r2 _ b6 (by have:=a0.o;rw [hw] at this;exact this));have f2:=Lh (show (b1::r2) <:+ x.T by have:=a0.o.suf;rw [hw] at this;exact this);have c1:=Lh (show r2.length+1≤i.length by have:=(fH i).length_le;rw [hw] at this;exact this);have y:=Lh (show cQ x.o (r.length+1) r []=(if b1=47 then Q9 x.o.fails acc r2
   else if b1=62 then .ok (acc,false,r2)
   else match fO x.o (b1::r2) with
    | .error e=>.error e
    | .ok (a,r5)=>cQ x.o i.length r5 (acc++[a])) by rw [cT.o,cQ.eq_def];simp only [hw];cases r2<;>rfl)
   clear hw cT;(repeat revert K);refine vS ?_;intro K hK K hK K hK K hK;refine m.o.mono ?_;rintro e8 w8 ⟨rfl,v8,h8,g9,M,R,h5⟩;have B:=Lh (c9.o.s0 R M);have z:=Lh (b0.o.step (R.stp M));have b7:=Lh (b5.o.of_eq M);have ⟨a1,d6⟩:=cN h8 g9;clear h8 g9 M R h5 m c9 b0 b5 a0;by_cases D:b1=47
   ·subst D;cases r2 with
    | nil=>
     have s:=Lh (show eG x.o (b::rest)=.error (cE x.o.fails) by rw [j.o,y.o];rfl);have m:=Lh (bS x O.o.toOk c HD.o w8 v8 _ b6 a1.o);(repeat revert K);refine vS ?_;intro K hK K hK K hK K hK K hK;refine m.o.mono ?_;rintro e9 w9 ⟨rfl,v9,u,l,o⟩;have P:=Lh (B.o.s0 o l);obtain ⟨t1,u1,aA⟩:=u.err.iface;have HE:=Lh u;have hc:=u.dec.cell;have hf:=u.dec.frozen;have HU:=Lh aA;clear u o l m;(repeat revert K);refine vS ?_;intro K hK K hK K hK K hK
     ((refine cP [0] fun f=>?_);go_quiet (fail);((repeat revert K);refine vg ?_;intro K hK K hK K hK);refine Qk [2,3] fun f=>?_)
     exact HQ.o f _ _ _ ⟨v9,P.o.drawn _,by rw [s.o];exact ⟨rfl,HU.o.symm,HE.o.drewN _⟩⟩
    | cons d r3=>
     have m:=Lh (bO x O.o.toOk c HD.o w8 v8 d r3 _ b6 a1.o);(repeat revert K);refine vS ?_;intro K hK K hK K hK K hK K hK;refine m.o.mono ?_;rintro e9 w9 ⟨rfl,v9,h9,a5,l,o,d1⟩;have P:=Lh (B.o.s0 o l);have U:=Lh (z.o.step (o.stp l));have ⟨a2,hL⟩:=cN h9 a5;clear h9 a5 l o d1 m B z;by_cases F:d=62
     ·subst F;have s:=Lh (show eG x.o (b::rest)=.ok ((nm,acc),true,r3) by rw [j.o,y.o];rfl);go_simp;(repeat revert K);refine vT 198 ?_;refine cP [0,28,29,30] fun f=>?_;refine bB (XZ x O.o c w v w9 v9 r3 b6 a2.o hL.o P.o S nm av acc U.o true _ ?_ f) (by kernel_rfl);intro f w' t e V;exact HQ.o f w' t e (by rw [s.o];exact V)
     ·have hU:=fL (n:=62) F rfl;have gB:=rG (n:=62) F rfl;have s:=Lh (show eG x.o (b::rest)=.error .syn by rw [j.o,y.o,aV rfl];simp only [Q9,aN F]);have dI:=Lh (fun d2=>gV O.o.toOk a2.o d2);clear F;(repeat revert K);refine vS ?_;intro K hK K hK K hK K hK K hK;refine (dI.o _).mono ?_;rintro e5 i3 ⟨a9,rfl,hS⟩;have hV:=hS.dec.cell;have hX:=hS.dec.frozen;have HS:=Lh hS;clear hS;(repeat revert K);refine vS ?_;intro K hK K hK K hK K hK
      ((refine cP [0] fun f=>?_);go_quiet (fail);((repeat revert K);refine vg ?_;intro K hK K hK K hK);refine Qk [2,3] fun f=>?_)
      exact HQ.o f _ _ _ ⟨_,(P.o.trans HS.o.stp).drawn _,by rw [s.o];exact ⟨rfl,rfl,HS.o.err.drewN _⟩⟩
   ·have hU:=fL (n:=47) D rfl;have gB:=rG (n:=47) D rfl;by_cases E:b1=62
    ·subst E;have s:=Lh (show eG x.o (b::rest)=.ok ((nm,acc),false,r2) by rw [j.o,y.o];rfl);go_simp;(repeat revert K);refine vT 198 ?_;refine cP [0,28,29,30] fun f=>?_;refine bB (XZ x O.o c w v w8 v8 r2 b6 a1.o d6.o B.o S nm av acc z.o false _ ?_ f) (by kernel_rfl);intro f w' t e V;exact HQ.o f w' t e (by rw [s.o];exact V)
    ·have h7:=fL (n:=62) E rfl;have i0:=rG (n:=62) E rfl;have aC:=Lh (gU x O.o.toOk c w8 v8 b1 r2 b6 a1.o d6.o f2.o);have bC:=Lh (show cQ x.o (r.length+1) r []=(match fO x.o (b1::r2) with
      | .error e=>.error e
      | .ok (a,r5)=>cQ x.o i.length r5 (acc++[a])) by rw [y.o,aN D,aN E])
     clear D E;(repeat revert K);refine vS ?_;intro K hK K hK K hK;refine aC.o.mono ?_;rintro e9 w9 ⟨rfl,v9,h9,a5,l,o,d1⟩;have P:=Lh (B.o.s0 o l);have U:=Lh (z.o.step (o.stp l));have d8:=Lh (b7.o.of_eq l);have a2:=Lh h9;clear h9 a5 l o d1 aC B z b7;go_simp;(repeat revert K);refine vT 176 ?_;intro K hK;refine cP [0,28,29,30] fun f=>?_;refine bB (Ce x O.o c HD.o hN.o w v w9 v9 (b1::r2) b6 a2.o d8.o P.o d4.o S nm av acc U.o (by have:=b3.o;have:=c6.o;omega) _ _ _ ?_ ?_ f) (by kernel_rfl)
     ·intro a r5 q f w' v' e' b' hT hr N Y g4;have ⟨HR,d7,HS,HK⟩:=kV hr N Y g4;have c2:=Lh ((oY q).2);have HG:=Lh (show cQ x.o (r.length+1) r []=cQ x.o i.length r5 (acc++[a]) by rw [bC.o,q]);clear hr N Y g4 q;revert K;refine vg ?_;intro K hK;refine hG.o _ _ ⟨r5.length,?_,HJ.o _ _ _ ⟨f,v',r5,e',b',hT,acc++[a],rfl,HR.o,d7.o,HS.o,HK.o,rfl,fun K hK=>?_,?_⟩⟩
      ·rw [hI.o];have:=c2.o;have:=c1.o;simp only [gN] at *;omega
      ·rw [HG.o];exact oB (by have:=c2.o;have:=c1.o;simp only [gN] at *;omega) hK
      ·have:=c2.o;have:=c1.o;have:=b3.o;simp only [fY,gN,List.length_nil] at *;omega
     ·intro k q f w' v' u Y;have ⟨HE,HS⟩:=cN u Y;have HG:=Lh (show eG x.o (b::rest)=.error k by rw [j.o,bC.o,q]);clear u Y q;revert K;refine vg ?_;intro K hK;exact HQ.o f w' _ _ ⟨v',HS.o,by rw [HG.o];exact ⟨rfl,rfl,HE.o⟩⟩
end Go.Proofs.YthapcchcahnfaaaGreatDoor
