/- Part of the proof that laws.FnStrictIsLoose, laws.FnUnclosed, laws.FnReaderFails, laws.FnWithin, laws.FnSkip returns true for every argument. No conditions. -/
import Derived.Test.YthapcchcahnfaaaGreatDoorP47
import Derived.Test.YthapcchcahnfaaaGreatDoorP43
import Derived.Test.YthapcchcahnfaaaGreatDoorP22
import Derived.Test.YthapcchcahnfaaaGreatDoorP45
import Derived.OpenShut
import Derived.Carry
set_option linter.all false
set_option maxHeartbeats 8000000
set_option maxRecDepth 100000
namespace Go.Proofs.YthapcchcahnfaaaGreatDoor
open Go Go.RowKit Go.Proofs.Tryz
theorem An (T:Bs) (w:World) (h:65536<T.length):Calls prog 4 #[aB T] w fun e w'=>e=.returned (.bool true)∧Below w.heap.size w w':=by
 by_cases a:(2147483647:Int)<(T.length:Int)
 ·refine eI 37 func4 [_] fun f=>?_;simp only [aF];refine vg ?_;intro K hK;refine cO ?_;exact ⟨rfl,Below.refl _ w⟩
 have b:(65536:Int)<(T.length:Int):=by omega
 refine eI 37 func4 [_] fun f=>?_;simp only [aF];refine vg ?_;intro K hK;refine cO ?_;exact ⟨rfl,Below.refl _ w⟩
theorem Ej (T:Bs) (hT:T.length≤65536) (w:World) (hE:oQ w) :
  Calls prog 4 #[aB T] w fun e w'=>e=.returned (.bool true)∧Below w.heap.size w w':=by
 have h2:¬ (2147483647:Int)<(T.length:Int):=by omega
 have h4:¬ (65536:Int)<(T.length:Int):=by omega
 have M:lN ([]:aP):=fun p hp=>by cases hp
 have v:=AS T (by omega) ⟨false,[],[]⟩ M (.slice none 0 0) w ⟨w.heap.size,T,false,.slice none 0 0,[]⟩ rfl ⟨none,0,0,rfl⟩ ⟨iW _,aH ⟨rfl,rfl⟩⟩ (rW _ _ rfl (l4 _ _ rfl)) (l4 _ _ rfl);have n:=Lh v;obtain ⟨o,O⟩:∃ o:cM,o=⟨false,false,none,[],[],false⟩:=⟨_,rfl⟩;have ht:=fun (w':World) (hb:Below w.heap.size w w')=>rR T (by omega) o (by rw [O]) (by rw [O]) none 0 none 0 0 [] w' (hE.below hb) (by rw [O];exact X2.nil _ _ _) ⟨iW _,iW _,fun h=>absurd h (Nat.lt_irrefl _)⟩;have e1:NJ o.raw (!o.strict) (.slice none o.auto.length 0) o.space=.agg #[.bool false,.bool true,.slice none 0 0,.slice none 0 0,.string ⟨#[]⟩]:=by rw [O];simp
 have e2:o.fails=false:=by rw [O]
 simp only [e1,e2] at ht;have HT:=Lh ht;have b1:=Lh (fun (w':World) (hb:Below w.heap.size w w')=>LO w' (hE.below hb));have ⟨U,H⟩:=cN O hT;have a8:=Lh (oK (o:=⟨false,[],[]⟩) M T (by omega));clear v ht e1 e2 O hE hT M;refine eI 37 func4 [_] fun f=>?_;simp only [aF];refine vg ?_;intro K hK K hK;refine n.o.mono ?_;rintro e1 w1 ⟨out,xs,rfl,aL,d,a⟩;have z:=Lh aL;obtain ⟨oA,oC,rfl,Q⟩:=sP (by rw [List.length_map];exact d) a;have ⟨A,F⟩:=cN a d;obtain ⟨vn,B⟩:=cY (qN (cV ⟨false,[],[]⟩ T).2);rw [←B];have u:(vn≠0)∨∃ l0,eD bG o (St.init T) l0 .eof∧(cV ⟨false,[],[]⟩ T).1=bV T l0∧vn=0:=by
  cases h7:(cV ⟨false,[],[]⟩ T).2 with
  | some kk=>
   left;rw [B,h7];cases kk<;>simp [qN,SV.num]
  | none=>
   right;have a2:o.space=[]:=by rw [U.o]
   obtain ⟨l0,h8,h9⟩:=uP bG o (by rw [U.o]) (by rw [U.o];exact aW rfl) (by rw [U.o]) T (by rw [a2];exact h7);rw [a2] at h9;rw [show mF o.fails=.eof by rw [U.o];rfl] at h8;exact ⟨l0,h8,h9,by rw [B,h7];rfl⟩
 have m:=Lh u;clear aL d a B u Q n;rcases m.o with hz|⟨l0,y,c,rfl⟩
 ·have b3:(vn != 0)=true:=by simpa using hz
  have b4:(vn==0)=false:=by simpa using hz
  clear hz;(repeat revert K);refine vS ?_;intro K hK;refine cO ?_;exact ⟨rfl,z.o⟩
 have ⟨r,b⟩:=cN y c;clear y c m;(repeat revert K);refine vS ?_;intro K hK K hK;refine (HT.o w1 z.o).mono ?_;rintro e2 w2 ⟨l,e,tv,ys,rfl,a5,I,g,j,a9⟩;obtain ⟨rfl,rfl⟩:=CK a5 r.o;have s:∀ p∈fE T l,p.attrs.length≤1000000000:=fun p hp=>by
  unfold fE at hp;obtain ⟨ts,h1,rfl⟩:=List.mem_map.1 hp;have h9:=vD (by rw [U.o]) r.o rfl ts h1 (T.take (T.length-ts.2.rest.length));have h8:=H.o;have h7:(St.init T).rest.length=T.length:=rfl;omega
 have V:=Lh s;have N:l.length≤1000000000:=by have:=H.o;omega
 have a7:=Lh N;have Y:=Lh (CI T w2 tv l ys ⟨⟨_,g⟩,⟨_,j⟩⟩ N s);have W:=Lh (z.o.trans (I.mono z.o.size));have D:=I;have C:=Lh D;obtain ⟨b5,b7,b6,rfl⟩:=iG g;clear a5 I D g j a9 s N;try simp only [EK.code]
 (repeat revert K);refine vS ?_;intro K hK K hK;refine Y.o.mono ?_;rintro e3 w3 ⟨b2,rfl,J,a3⟩;have X:=Lh (W.o.trans (J.mono W.o.size));obtain ⟨aA,aC,rfl,a4⟩:=G1 a3;have t:Below w1.heap.size w1 w3:=C.o.trans (J.mono C.o.size);have x:=aE (S:=fun _=>False) F.o (aG t _) (fun _ _=>id);have k:=A.o.mono (fun _ _ hh=>kC.below hh t);obtain ⟨bA,bC,L,P⟩:=sP (w:=w3) (by rw [List.length_map];exact x) k;have R:=a8.o;rw [b.o] at L P R;rw [b.o];simp only [Value.slice.injEq] at L;obtain ⟨rfl,_,rfl⟩:=L;have Z:∀ q∈(bV T l).map dU,q.attrs.length≤1000000000:=fun q hq=>by
  obtain ⟨i,hi,b0⟩:=List.getElem_of_mem hq;obtain ⟨p,bL,_,_,_,k4,_,_⟩:=oL (q:=q) (i:=i) (by rw [List.getElem?_eq_getElem hi,b0]);rw [←k4];exact V.o p (List.mem_of_getElem? bL)
 have G:=Lh (S3 w3 ((bV T l).map dU) (by rw [iD];exact a7.o) (yH R H.o) Z aA oA aC oC a4 P true);rw [List.length_map] at G;clear a3 J t x k a4 P R Z Y;(repeat revert K);refine vS ?_;intro K hK K hK;refine G.o.mono ?_;rintro e4 w4 ⟨rfl,a0⟩;have E:=Lh (X.o.trans (a0.mono X.o.size));clear a0 G;(repeat revert K);refine vS ?_;intro K hK K hK;refine (b1.o w4 E.o).mono ?_;rintro e5 w5 ⟨rfl,a1⟩;have a6:=Lh (E.o.trans (a1.mono E.o.size));clear a1;(repeat revert K);refine vS ?_;refine cO ?_;exact ⟨rfl,a6.o⟩
end Go.Proofs.YthapcchcahnfaaaGreatDoor
namespace Go.Proofs.YthapcchcahnfaaaGreatDoor
open Go Go.RowKit Go.ChangeShapes Go.WideShapes Go.ChangeAt Go.Shelf Go.Proofs.Tryz
theorem XI (T:Bs) (w:World) (a:oQ w):Calls prog 4 #[aB T] w fun e w'=>e=.returned (.bool true)∧Below w.heap.size w w':=by
 by_cases h:T.length≤65536
 ·exact Ej T h w a
 ·exact An T w (by omega)
theorem OL (os:Os) (b:os.Started) (H:Type) (enc:TypeId×Value→H) :
  ReturnsInHanded {} Tryz.checked os 4 .any (fun w a=>(Rows.fnStrictIsLooseSpec.pre enc prog Tryz.f4 [] false w a∧laidMetH prog dX w)∧sizedMet enc prog Tryz.f4 (OpenSpec.ofChange Rows.fnStrictIsLooseSpec) false w a)
   (Rows.fnStrictIsLooseSpec.post enc prog Tryz.f4 false true false false):=by
 refine returnsInHanded_of_change_and (C:=Tryz.checked) (X:=fun w _=>laidMetH prog dX w) (fun _ _ _ z h=>h.of_heap z) own b (by kernel_rfl) func4
  (ChangeSpec.witness_shaped (enc:=enc) (C:=Tryz.checked) (os:=os) (X:=fun w _=>laidMetH prog dX w) false (lS os) #[.string ⟨#[]⟩] 8 (World.layVars_os _ _ _)
   (World.shaped_of_ZipB (by kernel_rfl) (by kernel_rfl)) (by kernel_rfl) (by kernel_rfl) (by kernel_rfl)
   (rY os _)) ?_
 intro W f a o D i d n _ _ s _;have c:∀ (j:Nat) t v,Tryz.f4.params[j]?=some t→a[j]?=some v→Value.okWide prog W .any f t v:=d;have g:=n;obtain ⟨p,q,k,u,rfl,_,_⟩:=n;have m:DataW.TrodAll enc prog W 0 (fun _=>true) true Tryz.f4.params.toList a.toList o p:=k;rw [Tryz.params4] at m c;obtain ⟨v0,B,rfl,rfl,r⟩:=trodAll_one m;obtain ⟨rfl,rfl⟩:=trodVars_none u;obtain ⟨A,rfl,rfl,rfl,l⟩:=Go.ChangeMaps.open_string underlying9 (c 0 9 v0 rfl rfl) r;simp only [List.append_nil] at g;refine (XI A.data.toList W (vF s)).mono fun e W' ⟨y,x⟩=>?_;subst y;exact ⟨_,rfl,_,_,_,[],[],[],g,trodAll_mk1 (shut_bool underlying4 _),trodAll_mk1 (Go.ChangeMaps.shut_string underlying9 l),rfl,x.frame _,fun h=>by cases h⟩
end Go.Proofs.YthapcchcahnfaaaGreatDoor
