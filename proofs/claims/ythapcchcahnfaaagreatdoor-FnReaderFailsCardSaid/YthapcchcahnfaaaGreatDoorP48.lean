/- Part of the proof that laws.FnStrictIsLoose, laws.FnUnclosed, laws.FnReaderFails, laws.FnWithin, laws.FnSkip returns true for every argument. No conditions. -/
import Derived.Test.YthapcchcahnfaaaGreatDoorP47
import Derived.Test.YthapcchcahnfaaaGreatDoorP38
set_option linter.all false
set_option maxHeartbeats 8000000
set_option maxRecDepth 100000
namespace Go.Proofs.YthapcchcahnfaaaGreatDoor
open Go Go.RowKit
structure lJ (T:Bs) (w:World) (P:List (aO×St)) (v:Value) (b:Option Addr):Prop where
 run:∃ c,qO T w v P c
 src:0<P.length→∃ g a,b=some ⟨g,a,none⟩∧g<w.heap.size∧∀ i p,((bV T P).map dU)[i]?=some p→iS w g (a+i*6) w.heap.size p
 ats:∀ p∈fE T P,p.attrs.length≤1000000000
 len:P.length≤1000000000
 txt:dP ((bV T P).map dU)≤4611686018427387904
theorem G2 (a b:List cD):dP a≤dP (a++b):=by
 unfold dP;rw [List.map_append,List.sum_append];omega
theorem lJ.pop {T:Bs} {w:World} {P:List (aO×St)} {t:aO×St} {g n a:Nat} {e:Option Addr} (q:n=P.length) (h:lJ T w (P++[t]) (.slice (some ⟨g,0,none⟩) (n+1) a) e):lJ T w P (.slice (some ⟨g,0,none⟩) n a) e:=by
 subst q;have d:(bV T (P++[t])).map dU=(bV T P).map dU++(bV T [t]).map dU:=by simp [bV]
 obtain ⟨s,⟨⟨b,m⟩,⟨f,o⟩⟩⟩:=h.run;refine ⟨⟨_,⟨⟨b,qJ (by simpa using m)⟩,⟨f,cI.popR (n:=8) (fun _ _ h=>h.len) o⟩⟩⟩,fun _=>?_,fun p c=>h.ats p ?_,by have:=h.len;simp at this;omega,fX (G2 _ _) (by rw [←d];exact h.txt)⟩
 ·obtain ⟨g,r,j,k,l⟩:=h.src (by simp);refine ⟨g,r,j,k,fun i p c=>l i p ?_⟩;rw [d,List.getElem?_append_left (A1.1 c).1];exact c
 ·unfold fE at c ⊢;rw [List.map_append];exact List.mem_append_left _ c
theorem iS.below {w w':World} {g o:Nat} {p:cD} (h:iS w g o w.heap.size p) (n:g<w.heap.size) (b:Below w.heap.size w w'):iS w' g o w'.heap.size p:=by
 obtain ⟨r,t,s,c0,c,d,e,f,i,l,m⟩:=h.ex;have a:∀ j v,w.cell? ⟨g,j,none⟩=some v→w'.cell? ⟨g,j,none⟩=some v:=fun j v h=>(b.cell (p:=⟨g,j,none⟩) n).trans h;exact ⟨r,t,s,a _ _ c0,a _ _ c,a _ _ d,a _ _ e,a _ _ f,a _ _ i,aE (S:=fun _=>False) l (aG b _) (fun _ _=>id),fun k q=>oX (m k q) b.size⟩
theorem tV {T:Bs} {w:World} {P:List (aO×St)} {v:Value} {s:Option Addr} (h:lJ T w P v s) :
  Calls Tryz.prog 11 #[v] w fun e w'=>∃ A C,e=.returned (.slice A P.length C)∧Below w.heap.size w w'∧∀ t w1,Below w'.heap.size w' w1→Calls Tryz.prog 10 #[.slice A P.length C,.slice s P.length t,.bool true] w1 fun f H=>f=.returned (.bool true)∧Below w1.heap.size w1 H:=by
 obtain ⟨I,F⟩:=h.run;refine (CI T w v P I F h.len h.ats).mono ?_;rintro e w' ⟨out,rfl,l,n⟩;obtain ⟨A,C,rfl,r⟩:=G1 n;have j:=iD T P;rw [j];refine ⟨A,C,rfl,l,fun t w1 b=>?_⟩;have x:∀ {B:Option Addr} {u:World},Below u.heap.size u w1→(0<((bV T P).map dU).length→∃ g a,B=some ⟨g,a,none⟩∧g<u.heap.size∧∀ i p,((bV T P).map dU)[i]?=some p→iS u g (a+i*6) u.heap.size p)→(0<((bV T P).map dU).length→∃ g a,B=some ⟨g,a,none⟩∧g<w1.heap.size∧∀ i p,((bV T P).map dU)[i]?=some p→iS w1 g (a+i*6) w1.heap.size p):=fun c k d=>by
  obtain ⟨g,a,y,f,z⟩:=k d;exact ⟨g,a,y,oX f c.size,fun i p d=>(z i p d).below f c⟩
 have k:=S3 w1 ((bV T P).map dU) (by rw [j];exact h.len) h.txt (fun q E=>by
  obtain ⟨i,D,o⟩:=List.getElem_of_mem E;obtain ⟨p,m,_,_,_,G,_,_⟩:=oL (q:=q) (i:=i) (by rw [List.getElem?_eq_getElem D,o]);rw [←G];exact h.ats p (List.mem_of_getElem? m)) A s C t (x b r) (x (l.trans (b.mono l.size)) (fun d=>h.src (by rw [←j];exact d))) true
 rw [j] at k;exact k
theorem tW {T:Bs} {w:World} {P:List (aO×St)} {v:Value} {b:Option Addr} (h:lJ T w P v b) :
  Calls Tryz.prog 11 #[v] w fun e w'=>∃ A C,e=.returned (.slice A P.length C)∧Below w.heap.size w w'∧∀ a,Calls Tryz.prog 10 #[.slice A P.length C,.slice b P.length a,.bool true] w' fun c i=>c=.returned (.bool true)∧Below w'.heap.size w' i:=
 (tV h).mono fun _ _ ⟨A,C,f,d,g⟩=>⟨A,C,f,d,fun a=>g a _ (Below.refl _ _)⟩
end Go.Proofs.YthapcchcahnfaaaGreatDoor
