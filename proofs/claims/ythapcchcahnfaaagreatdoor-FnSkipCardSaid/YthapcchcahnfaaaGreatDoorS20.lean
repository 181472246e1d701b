/- Part of the proof that laws.FnSkip returns true for every argument. No conditions. -/
import Derived.Test.YthapcchcahnfaaaGreatDoorS08
import Derived.Test.YthapcchcahnfaaaGreatDoorS19
import Derived.Maps.OwnSet
import Derived.Maps.StringElems
set_option linter.all false
set_option maxHeartbeats 8000000
set_option maxRecDepth 100000
namespace Go.Proofs.YthapcchcahnfaaaGreatDoor
open Go Go.RowKit Go.Proofs.Tryz
theorem VS:Maps.Keyed prog 9:=Maps.string_keyed underlying9
def kU (w:World) (m n:Nat) (a:Bs→Option Bs):Prop:=
 ∃ D:DataW Unit,w.ownsMap prog 9 (plainElem prog 9) m n D∧∀ k,(a k=none→∀ z,D.atKey (.string k) z=z)∧(∀ s,a k=some s→∀ z,D.atKey (.string k) z=.lit (.string s))∧Maps.has D (.string k)=(a k).isSome
theorem GE (s:Bs) (h:s.length≤maxLen):keyOf prog 9 (aB s)=some (.string s):=by
 have:=WideMaps.keyOf_string_mk (P:=prog) (k:=9) underlying9 (s:=⟨s.toArray⟩) h;simpa using this
theorem kU.made (w:World):kU (w.alloc (.map #[] 0)) w.heap.size 0 (fun _=>none):=
 ⟨.map [],World.ownsMap_made w _ _ _,fun k=>⟨fun _ z=>rfl,⟨fun s h=>(by cases h),rfl⟩⟩⟩
theorem kU.lt {w:World} {m n:Nat} {a:Bs→Option Bs} (h:kU w m n a):m<w.heap.size:=by
 obtain ⟨D,h,_⟩:=h;exact h.lt
theorem kU.mod {w w':World} {m n:Nat} {b:Bs→Option Bs} {S:Nat→Prop} (h:kU w m n b) (j:aJ S w w') (i:¬ S m):kU w' m n b:=by
 obtain ⟨D,e,f⟩:=h;refine ⟨D,?_,f⟩;obtain ⟨d,c,a,F,k,g⟩:=e;exact ⟨d,c,(j.block m (by
  rcases Nat.lt_or_ge m w.heap.size with h'|h'
  ·exact h'
  ·simp [Array.getElem?_eq_none h'] at a) i).trans a,F,k,g⟩
theorem R0 (w:World):(zeroValue 9).run prog w=.ok (.string ⟨#[]⟩) w:=by kernel_rfl
theorem IX (s:Bs) (h:s.length≤maxLen):plainElem (H:=Unit) prog 9 (aB s)=some (.lit (.string s),[]):=by
 have:=plainElem_string (H:=Unit) (P:=prog) (e:=9) underlying9 (s:=⟨s.toArray⟩) h;simpa using this
theorem kU.look {w:World} {m n:Nat} {a:Bs→Option Bs} (h:kU w m n a) (k:Bs) (c:k.length≤maxLen) :
  (Instr.lookup 75 (.map (some m)) (aB k) true).run prog w=.ok (.tuple #[aB ((a k).getD []),.bool (a k).isSome]) w:=by
 obtain ⟨D,p,q⟩:=h;obtain ⟨j,l,o⟩:=q k;obtain ⟨v,y,r,u⟩:=p.look_ok (t:=75) (e:=9) VS underlying75 (R0 w) (zd:=.lit (.string [])) (zp:=[]) (IX [] (by simp)) (GE k c);rw [r,o];obtain ⟨s,rfl,x,_⟩:=plainElem_string_inv underlying9 u;have i:DataW.lit (H:=Unit) (.string s.data.toList)=.lit (.string ((a k).getD [])):=by
  have b:=(congrArg Prod.fst x).symm;simp only at b;rw [b];cases g:a k with
  | none=>rw [j g];rfl
  | some t=>rw [l t g];rfl
 have d:s.data.toList=(a k).getD []:=by
  simp only [DataW.lit.injEq,Lit.string.injEq] at i;exact i
 have f:s=⟨((a k).getD []).toArray⟩:=by
  apply ByteArray.ext;apply Array.toList_inj.1;rw [d]
 rw [f]
theorem kZ {w w':World} {m:Nat} (h:w.mapTurned w' m):aJ (fun k=>k=m) w w':=by
 have g:=h.grown;exact ⟨g.os,g.tape,g.output,g.size,fun k a b=>g.block k a (by simpa using b)⟩
theorem s6 (s:Bs):WideAt.IsKeyLit (.string s):=trivial
theorem kU.store {w:World} {m n:Nat} {j:Bs→Option Bs} (h:kU w m n j) (r:n<maxLen) (k v:Bs) (f:k.length≤maxLen) (A:v.length≤maxLen) :
  ∃ w',(Instr.mapUpdate 75 (.map (some m)) (aB k) (aB v)).run prog w=.ok () w'∧kU w' m (n+1) (gO j k (some v))∧w.mapTurned w' m:=by
 obtain ⟨D,b,q⟩:=h;obtain ⟨w',x,u,y⟩:=b.store (t:=75) (e:=9) VS underlying75 r (GE k f) (IX v A);refine ⟨w',x,⟨_,u,fun i=>?_⟩,y⟩;unfold gO;by_cases d:i=k
 ·subst d;simp only [if_true];refine ⟨fun c=>(by cases c),fun s g z=>?_,?_⟩
  ·cases g;exact Maps.atKey_put_same b.isMap (s6 _) _ _
  ·exact Maps.has_put_same b.isMap (s6 _) _
 ·simp only [aQ d];have a:Lit.string i≠Lit.string k:=by simpa using d
  obtain ⟨l,o,p⟩:=q i;exact ⟨fun c z=>by rw [Maps.atKey_put_other a];exact l c z,fun s g z=>by rw [Maps.atKey_put_other a];exact o s g z,by rw [Maps.has_put_other a];exact p⟩
theorem kU.drop {w:World} {m n:Nat} {g:Bs→Option Bs} (h:kU w m n g) (k:Bs) (c:k.length≤maxLen) (ty:TypeId) :
  ∃ w',(Builtin.delete_ #[75,9] ty #[.map (some m),aB k]).run prog w=.ok (.tuple #[]) w'∧kU w' m n (gO g k none)∧w.mapTurned w' m:=by
 obtain ⟨D,o,p⟩:=h;obtain ⟨w',u,r,v⟩:=o.drop (t:=75) (e:=9) VS underlying75 (GE k c) ty;refine ⟨w',u,⟨_,r,fun f=>?_⟩,v⟩;unfold gO;by_cases b:f=k
 ·subst b;simp only [if_true];exact ⟨fun _ z=>Maps.atKey_del_same z,fun s d=>(by cases d),Maps.has_del_same⟩
 ·simp only [aQ b];have a:Lit.string f≠Lit.string k:=by simpa using b
  obtain ⟨i,j,l⟩:=p f;exact ⟨fun q z=>by rw [Maps.atKey_del_other a];exact i q z,fun s d z=>by rw [Maps.atKey_del_other a];exact j s d z,by rw [Maps.has_del_other a];exact l⟩
@[go_sem] def jA (b:Value) (k:Int) (d a:Bs) (c:Bool):Array Value:=#[b,.int .i64 k,aB d,aB a,.bool c]
def iA (w:World):Value→List iH→List Nat→Prop
 | p,[],[]=>p=.pointer none
 | p,e::l,b::bs=>p=.pointer (some ⟨b,0,none⟩)∧∃ a c,aL w b (jA a e.kind e.space e.loc c) 95∧(e.kind=1→c=e.ok)∧iA w a l bs
 | _,_,_=>False
theorem iA.mod {w w':World} {S:Nat→Prop} (f:aJ S w w'):∀ {p:Value} {l:List iH} {a:List Nat},iA w p l a→(∀ b∈a,¬ S b)→iA w' p l a
 | p,[],[],h,_=>h
 | p,e::l,b::a,h,d=>by
  obtain ⟨k,n,o,g,j,m⟩:=h;exact ⟨k,n,o,g.mod f (d b (by simp)),j,iA.mod f m (fun c i=>d c (by simp [i]))⟩
 | _,[],_::_,h,_=>h.elim
 | _,_::_,[],h,_=>h.elim
theorem iA.lt {w:World}:∀ {p:Value} {l:List iH} {d:List Nat},iA w p l d→∀ b∈d,b<w.heap.size
 | p,[],[],h,b,f=>by simp at f
 | p,e::l,b::d,h,c,a=>by
  obtain ⟨j,k,m,f,i,g⟩:=h;simp only [mF] at a;rcases a with rfl|a
  ·exact f.lt
  ·exact g.lt c a
 | _,[],_::_,h,_,_=>h.elim
 | _,_::_,[],h,_,_=>h.elim
structure mC (x:Cx) (w:World) (c:DC) (v:DV) (m:Nat) (d a:List Nat) (n:Nat) (stk:List iH) (ns:Bs→Option Bs):Prop where
 stk:iA w c.stk stk d
 free:∃ e,iA w c.free e a
 map:c.ns=.map (some m)
 ns:kU w m n ns
 nodup:(m::(d++a)).Nodup
 base:∀ b∈m::(d++a),x.B≤b
 s1:∀ b∈m::(d++a),¬ x.S1 v b
theorem mC.lt {x:Cx} {w:World} {c:DC} {v:DV} {m:Nat} {f e:List Nat} {n:Nat} {d:List iH} {i:Bs→Option Bs} (h:mC x w c v m f e n d i):∀ b∈m::(f++e),b<w.heap.size:=by
 intro b a;simp only [mF,List.mem_append] at a;rcases a with rfl|a|a
 ·exact h.ns.lt
 ·exact h.stk.lt b a
 ·obtain ⟨j,g⟩:=h.free;exact g.lt b a
theorem mC.mod {x:Cx} {w w':World} {c:DC} {v v':DV} {m:Nat} {e d:List Nat} {n:Nat} {a:List iH} {j:Bs→Option Bs} {S:Nat→Prop} (h:mC x w c v m e d n a j) (i:aJ S w w') (f:∀ b∈m::(e++d),¬ S b) (o:∀ b∈m::(e++d),¬ x.S1 v' b):mC x w' c v' m e d n a j:=by
 obtain ⟨k,l⟩:=h.free;exact ⟨h.stk.mod i (fun b g=>f b (by simp [g])),⟨k,l.mod i (fun b g=>f b (by simp [g]))⟩,h.map,h.ns.mod i (f m (by simp)),h.nodup,h.base,o⟩
theorem mC.step {x:Cx} {w w':World} {c:DC} {v v':DV} {m:Nat} {j f:List Nat} {n:Nat} {e:List iH} {i:Bs→Option Bs} (h:mC x w c v m j f n e i) (g:cN x w v w' v'):mC x w' c v' m j f n e i:=by
 refine h.mod g.mod (fun b d=>h.s1 b d) (fun b d a=>?_);rcases a with a|a
 ·exact h.s1 b d (aG a)
 ·rcases g.buf b a with a|a
  ·exact h.s1 b d (aU a)
  ·have:=h.lt b d;omega
end Go.Proofs.YthapcchcahnfaaaGreatDoor
