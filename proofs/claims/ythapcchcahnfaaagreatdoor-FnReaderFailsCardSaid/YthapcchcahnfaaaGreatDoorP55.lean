/- Part of the proof that laws.FnStrictIsLoose, laws.FnUnclosed, laws.FnReaderFails, laws.FnWithin, laws.FnSkip returns true for every argument. No conditions. -/
import Derived.Test.YthapcchcahnfaaaGreatDoorP48
import Derived.Test.YthapcchcahnfaaaGreatDoorP43
import Derived.Test.YthapcchcahnfaaaGreatDoorP22
import Derived.Test.YthapcchcahnfaaaGreatDoorP45
import Derived.OpenShut
import Derived.Carry
set_option linter.all false
set_option maxHeartbeats 8000000
set_option maxRecDepth 100000
namespace Go.Proofs.YthapcchcahnfaaaGreatDoor
open Go Go.RowKit Go.Proofs.Tryz
theorem Ap (T:Bs) (b:Option Addr) (a c:Nat) (w:World) (h:65536<T.length∨2147483647<a):Calls prog 3 #[aB T,.slice b a c] w fun e w'=>e=.returned (.bool true)∧Below w.heap.size w w':=by
 by_cases d:(2147483647:Int)<(T.length:Int)
 ·refine eI 103 func3 [_,_] fun f=>?_;simp only [aF];refine vg ?_;intro K hK;refine cO ?_;exact ⟨rfl,Below.refl _ w⟩
 by_cases g:(2147483647:Int)<(a:Int)
 ·refine eI 103 func3 [_,_] fun f=>?_;simp only [aF];refine vg ?_;intro K hK;refine cO ?_;exact ⟨rfl,Below.refl _ w⟩
 have i:(65536:Int)<(T.length:Int):=by omega
 refine eI 103 func3 [_,_] fun f=>?_;simp only [aF];refine vg ?_;intro K hK;refine cO ?_;exact ⟨rfl,Below.refl _ w⟩
theorem Em (T:Bs) (hT:T.length≤65536) (a8:Option Addr) (V a9:Nat) (c3:List Int) (d1:V≤2147483647) (w:World) (hE:oQ w) (I:F1 w a8 V a9 c3) :
  Calls prog 3 #[aB T,.slice a8 V a9] w fun e w'=>e=.returned (.bool true)∧Below w.heap.size w w':=by
 have h2:¬ (2147483647:Int)<(T.length:Int):=by omega
 have h3:¬ (2147483647:Int)<(V:Int):=by omega
 have h4:¬ (65536:Int)<(T.length:Int):=by omega
 have a4:lN ([]:aP):=fun p I=>by cases I
 have M:=Lh (AS T (by omega) ⟨false,[],[]⟩ a4 (.slice none 0 0) w ⟨w.heap.size,T,false,.slice none 0 0,[]⟩ rfl ⟨none,0,0,rfl⟩ ⟨iW _,aH ⟨rfl,rfl⟩⟩ (rW _ _ rfl (l4 _ _ rfl)) (l4 _ _ rfl));obtain ⟨o,ho⟩:∃ o:cM,o=⟨false,true,none,[],[],true⟩:=⟨_,rfl⟩;have ht:=fun (w':World) (hb:Below w.heap.size w w')=>rR T (by omega) o (by rw [ho]) (by rw [ho]) none 0 a8 V a9 c3 w' (hE.below hb) (by rw [ho];exact X2.nil _ _ _) (I.below hb);have e1:NJ o.raw (!o.strict) (.slice none o.auto.length 0) o.space=.agg #[.bool false,.bool false,.slice none 0 0,.slice none 0 0,.string ⟨#[]⟩]:=by rw [ho];simp
 have e2:o.fails=true:=by rw [ho]
 simp only [e1,e2] at ht;have HT:=Lh ht;have a5:=Lh (fun (w':World) (hb:Below w.heap.size w w')=>LO w' (hE.below hb));have ⟨HO,a3⟩:=cN ho hT;have bL:=Lh (oK (o:=⟨false,[],[]⟩) a4 T (by omega));clear ht e1 e2 ho hE I hT a4;refine eI 103 func3 [_,_] fun f=>?_;simp only [aF];refine vg ?_;intro K hK K hK;refine M.o.mono ?_;rintro e1 w1 ⟨out,xs,rfl,b1,F,u⟩;have X:=Lh b1;obtain ⟨oA,oC,rfl,a6⟩:=sP (by rw [List.length_map];exact F) u;have ⟨G,N⟩:=cN u F;obtain ⟨n,hn⟩:=cY (((cV ⟨false,[],[]⟩ T).1.map dU).length);rw [←hn];obtain ⟨vn,a1⟩:=cY (qN (cV ⟨false,[],[]⟩ T).2);rw [←a1];have R:(vn≠0)∨∃ l0,eD bG o (St.init T) l0 .own∧(cV ⟨false,[],[]⟩ T).1=bV T l0∧vn=0:=by
  cases h7:(cV ⟨false,[],[]⟩ T).2 with
  | some kk=>
   left;rw [a1,h7];cases kk<;>simp [qN,SV.num]
  | none=>
   right;have b8:o.space=[]:=by rw [HO.o]
   obtain ⟨l0,h8,h9⟩:=uP bG o (by rw [HO.o]) (by rw [HO.o];exact aH rfl) (by rw [HO.o]) T (by rw [b8];exact h7);rw [b8] at h9;rw [show mF o.fails=.own by rw [HO.o];rfl] at h8;exact ⟨l0,h8,h9,by rw [a1,h7];rfl⟩
 have ⟨L,HN⟩:=cN R hn;clear b1 F u a1 R a6 M hn;rcases L.o with hz|⟨l0,U,C,rfl⟩
 ·have d2:(vn != 0)=true:=by simpa using hz
  have d3:(vn==0)=false:=by simpa using hz
  clear hz;(repeat revert K);refine vS ?_;intro K hK;refine cO ?_;exact ⟨rfl,X.o⟩
 have ⟨D,b⟩:=cN U C;clear U C L;(repeat revert K);refine vS ?_;intro K hK K hK;refine (HT.o w1 X.o).mono ?_;rintro e2 w2 ⟨l,e,tv,ys,rfl,c2,Z,j,v,c7⟩;obtain ⟨rfl,rfl⟩:=CK c2 D.o;have O:∀ p∈fE T l,p.attrs.length≤1000000000:=fun p I=>by
  unfold fE at I;obtain ⟨ts,h1,rfl⟩:=List.mem_map.1 I;have h9:=vD (by rw [HO.o]) D.o rfl ts h1 (T.take (T.length-ts.2.rest.length));have h8:=a3.o;have h7:(St.init T).rest.length=T.length:=rfl;omega
 have b7:l.length≤1000000000:=by have:=a3.o;omega
 have a0:n=l.length:=by rw [HN.o,b.o,iD]
 have q:=aE (S:=fun _=>False) N.o (aG Z _) (fun _ _=>id);have c:=G.o.mono (fun _ _ hh=>kC.below hh Z);rw [b.o] at q c;rw [show (bV T l).length=l.length by simp [bV],←a0] at q;have a7:=bL.o;rw [b.o] at a7;obtain ⟨c4,s,bA,rfl⟩:=iG j;have cT:=qF j;rw [←a0] at cT;subst cT;have c1:0<l.length→∃ g ro,oA=some ⟨g,ro,none⟩∧g<w2.heap.size∧∀ i p,((bV T l).map dU)[i]?=some p→iS w2 g (ro+i*6) w2.heap.size p:=fun W=>by
  obtain ⟨g,c6,he,_,b6,_,_,E⟩:=eW q (by omega);simp only [Value.slice.injEq] at he;obtain ⟨rfl,_,rfl⟩:=he;exact ⟨g,0,rfl,b6,fun i p I=>by rw [Nat.zero_add];exact oJ c E I⟩
 have Y:=Lh (show lJ T w2 l (.slice c4 s bA) oA from ⟨⟨ys,⟨⟨_,j⟩,⟨_,v⟩⟩⟩,c1,O,b7,yH a7 a3.o⟩);have H:=Lh (X.o.trans (Z.mono X.o.size));have a2:=Lh a0;have bC:=Lh (show ∀ P t,l=P++[t]→∃ g g2 k a,oA=some ⟨g,0,none⟩∧c4=some ⟨g2,0,none⟩∧s=P.length+1∧s≤oC∧s≤bA∧w2.cell? ⟨g,P.length*6,none⟩=some (.int .i64 (k:Nat))∧w2.cell? ⟨g,P.length*6+5,none⟩=some (.int .i64 (a:Nat))∧w2.cell? ⟨g2,P.length*8,none⟩=some (.int .i64 (k:Nat))∧w2.cell? ⟨g2,P.length*8+5,none⟩=some (.int .i64 (a:Nat)) from fun P t he=>by
  have dT:l.length=P.length+1:=by rw [he];simp
  obtain ⟨g,c6,b4,_,b6,b2,_,E⟩:=eW q (by omega);simp only [Value.slice.injEq] at b4;obtain ⟨rfl,_,rfl⟩:=b4;obtain ⟨g2,c9,b5,_,dI,b3,_,aL⟩:=eW j (by omega);simp only [Value.slice.injEq] at b5;obtain ⟨rfl,_,rfl⟩:=b5;have hi:l[P.length]?=some t:=by rw [he];simp
  obtain ⟨⟨_,_,_,_,_,d0,_,_,_,_,d5,_⟩,_⟩:=qG v aL hi (O _ (by unfold fE;exact List.mem_map.2 ⟨t,List.mem_of_getElem? hi,rfl⟩));have hq:((bV T l).map dU)[P.length]?=some (dU (t.1,T.length-t.2.rest.length)):=by
   unfold bV;rw [List.getElem?_map,List.getElem?_map,hi];rfl
  obtain ⟨p,I,k1,_,_,_,_,k6⟩:=oL hq;have b9:t.1.itok (T.take (T.length-t.2.rest.length))=p:=by
   unfold fE at I;rw [List.getElem?_map,hi] at I;simpa using I
  obtain ⟨_,_,_,c0,_,_,_,_,c5,_⟩:=(oJ c E hq).ex;rw [b9,k1] at d0;rw [b9,k6] at d5;exact ⟨g,g2,_,_,rfl,rfl,by omega,by omega,by omega,c0,c5,d0,d5⟩)
 clear c2 Z j v c7 O b7 q c a7 c1 a0 D b HN bL N G;try simp only [EK.code]
 rcases List.eq_nil_or_concat l with W|⟨P,t,W⟩
 ·have c8:s=0:=by rw [a2.o,W];rfl
  subst c8;have b0:l.length=0:=by rw [W];rfl
  have h:=Lh (tW Y.o);rw [b0] at h;clear W b0;(repeat revert K);refine vS ?_;intro K hK K hK;refine h.o.mono ?_;rintro e3 w3 ⟨aA,aC,rfl,z,r⟩;have x:=Lh (H.o.trans (z.mono H.o.size));have y:=Lh r;clear z r h;(repeat revert K);refine vS ?_;intro K hK K hK;refine (y.o _).mono ?_;rintro e4 w4 ⟨rfl,A⟩;have d:=Lh (x.o.trans (A.mono x.o.size));clear A y;(repeat revert K);refine vS ?_;intro K hK K hK;refine (a5.o w4 d.o).mono ?_;rintro e5 w5 ⟨rfl,B⟩;have J:=Lh (d.o.trans (B.mono d.o.size));clear B;(repeat revert K);refine vS ?_;refine cO ?_;exact ⟨rfl,J.o⟩
 rw [List.concat_eq_append] at W;obtain ⟨g,g2,k,a,rfl,rfl,hs,b2,b3,c0,c5,d0,d5⟩:=bC.o P t W;obtain ⟨m,hm⟩:=cY P.length;rw [←hm] at hs c0 c5 d0 d5;have r:m+1≤1000000000:=by have:=Y.o.len;rw [←a2.o] at this;omega
 have t1:(0:Int)<(s:Int):=by omega
 have d4:0<s:=by omega
 have d6:m<s:=by omega
 have t2:(0:Int)≤(m:Int):=by omega
 have t3:(m:Int)<(s:Int):=by omega
 have wi:IntKind.i64.wrap ((s:Int)-1)=((m:Nat):Int):=by rw [IntKind.wrap_i64];omega
 have s1:(m:Int)≤(oC:Int):=by omega
 have s2:(m:Int)≤(bA:Int):=by omega
 have ⟨HS,HM⟩:=cN hs hm;clear hs hm r b2 b3;have Q:((k:Int)==3)=false∨(k=3∧((a:Int)==(T.length:Int))=false)∨k=3∧a=T.length:=by
  by_cases hk:k=3
  ·by_cases ha:a=T.length
   ·exact aW (aW ⟨hk,ha⟩)
   ·exact aW (aH ⟨hk,by rw [lV];omega⟩)
  ·exact aH (by rw [lV];omega)
 rcases Q with hk|⟨rfl,hk⟩|⟨rfl,rfl⟩;rotate_left 2
 ·have h:=Lh (tW (lJ.pop (n:=m) HM.o (by have h9:=Y.o;rw [W,HS.o] at h9;exact h9)));rw [←HM.o] at h;clear W;(repeat revert K);refine vS ?_;intro K hK K hK;refine h.o.mono ?_;rintro e3 w3 ⟨aA,aC,rfl,z,r⟩;have x:=Lh (H.o.trans (z.mono H.o.size));have y:=Lh r;clear z r h c0 c5 d0 d5;(repeat revert K);refine vS ?_;intro K hK K hK;refine (y.o _).mono ?_;rintro e4 w4 ⟨rfl,A⟩;have d:=Lh (x.o.trans (A.mono x.o.size));clear A y;(repeat revert K);refine vS ?_;intro K hK K hK;refine (a5.o w4 d.o).mono ?_;rintro e5 w5 ⟨rfl,B⟩;have J:=Lh (d.o.trans (B.mono d.o.size));clear B;(repeat revert K);refine vS ?_;refine cO ?_;exact ⟨rfl,J.o⟩
 all_goals
  have h:=Lh (tW Y.o);rw [←a2.o] at h;clear W;(repeat revert K);refine vS ?_;intro K hK K hK;refine h.o.mono ?_;rintro e3 w3 ⟨aA,aC,rfl,z,r⟩;have x:=Lh (H.o.trans (z.mono H.o.size));have y:=Lh r;clear z r h c0 c5 d0 d5;(repeat revert K);refine vS ?_;intro K hK K hK;refine (y.o _).mono ?_;rintro e4 w4 ⟨rfl,A⟩;have d:=Lh (x.o.trans (A.mono x.o.size));clear A y;(repeat revert K);refine vS ?_;intro K hK K hK;refine (a5.o w4 d.o).mono ?_;rintro e5 w5 ⟨rfl,B⟩;have J:=Lh (d.o.trans (B.mono d.o.size));clear B;(repeat revert K);refine vS ?_;refine cO ?_;exact ⟨rfl,J.o⟩
end Go.Proofs.YthapcchcahnfaaaGreatDoor
namespace Go.Proofs.YthapcchcahnfaaaGreatDoor
open Go Go.RowKit Go.ChangeShapes Go.WideShapes Go.ChangeAt Go.Shelf Go.Proofs.Tryz
theorem XK (T:Bs) (b:Option Addr) (a c:Nat) (d:List Int) (w:World) (f:oQ w) (g:F1 w b a c d):Calls prog 3 #[aB T,.slice b a c] w fun e w'=>e=.returned (.bool true)∧Below w.heap.size w w':=by
 by_cases h:T.length≤65536∧a≤2147483647
 ·exact Em T h.1 b a c d h.2 w f g
 ·exact Ap T b a c w (by omega)
theorem ON (os:Os) (g:os.Started) (H:Type) (enc:TypeId×Value→H) :
  ReturnsInHanded {} Tryz.checked os 3 .any (fun w c=>(Rows.fnReaderFailsSpec.pre enc prog Tryz.f3 [] false w c∧laidMetH prog dX w)∧sizedMet enc prog Tryz.f3 (OpenSpec.ofChange Rows.fnReaderFailsSpec) false w c)
   (Rows.fnReaderFailsSpec.post enc prog Tryz.f3 false true false false):=by
 refine returnsInHanded_of_change_and (C:=Tryz.checked) (X:=fun w _=>laidMetH prog dX w) (fun _ _ _ hh h=>h.of_heap hh) own g (by kernel_rfl) func3
  (ChangeSpec.witness_shaped (enc:=enc) (C:=Tryz.checked) (os:=os) (X:=fun w _=>laidMetH prog dX w) false (lS os) #[.string ⟨#[]⟩,.slice none 0 0] 8 (World.layVars_os _ _ _)
   (World.shaped_of_ZipB (by kernel_rfl) (by kernel_rfl)) (by kernel_rfl) (by kernel_rfl) (by kernel_rfl)
   (rY os _)) ?_
 intro W r c S gs x n M _ _ U _;have f:∀ (j:Nat) t v,Tryz.f3.params[j]?=some t→c[j]?=some v→Value.okWide prog W .any r t v:=n;have i:=M;obtain ⟨p,q,A,V,rfl,_,_⟩:=M;have L:DataW.TrodAll enc prog W 0 (fun _=>true) true Tryz.f3.params.toList c.toList S p:=A;rw [Tryz.params3] at L f;obtain ⟨v0,v1,d0,d1,p0,p1,rfl,rfl,rfl,T,J⟩:=trodAll_two L;obtain ⟨rfl,rfl⟩:=trodVars_none V;obtain ⟨x0,rfl,rfl,rfl,E⟩:=Go.ChangeMaps.open_string underlying9 (f 0 9 v0 rfl rfl) T;obtain ⟨Q,R,G,rfl⟩:=Go.WideShapes.okWide_slice underlying22 (f 1 22 _ rfl rfl);have z:=J;have m:∃ o,F1 W Q R G o:=by
  obtain ⟨I,Z⟩:=J;rcases Go.ChangeShapes.open_ints underlying22 underlying3 (by kernel_rfl) Z with ⟨d,_⟩|⟨a,len,cap,zs,d,_,B,u,s,_,l,_⟩
  ·simp [Value.cells] at d;obtain ⟨rfl,rfl,rfl⟩:=d;exact ⟨[],by omega,by omega,fun h=>by omega⟩
  ·simp [Value.cells] at d;obtain ⟨rfl,rfl,rfl⟩:=d;have aA:zs.length=G:=by simpa using s
   refine ⟨zs,by unfold maxLen at u;omega,B,fun hp=>?_⟩;obtain ⟨b,F,rfl,O⟩:=ints_at l (by omega);exact ⟨b,F,rfl,World.block_lt_of_cell? W _ (O 0 (by omega)),fun j hj=>O j (by omega)⟩
 obtain ⟨o,m⟩:=m;simp only [List.append_nil,List.nil_append] at i;refine (XK x0.data.toList Q R G o W (vF U) m).mono fun e W' ⟨Y,N⟩=>?_;subst Y;have D:∀ y∈p1,y.block<W.heap.size:=fun y hy=>by simpa using i.lt y (by simp [hy])
 have k:=trodAll_mk2 (Go.ChangeMaps.shut_string underlying9 E) (Below.trod (P:=prog) (by kernel_rfl) (by kernel_rfl) (of_decide_eq_true (by kernel_rfl)) z N D);exact ⟨_,rfl,_,_,_,[],_,[],i,trodAll_mk1 (shut_bool underlying4 _),k,rfl,N.frame _,fun h=>by cases h⟩
end Go.Proofs.YthapcchcahnfaaaGreatDoor
