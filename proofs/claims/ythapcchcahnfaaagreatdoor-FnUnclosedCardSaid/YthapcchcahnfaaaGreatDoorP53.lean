/- Part of the proof that laws.FnStrictIsLoose, laws.FnUnclosed, laws.FnReaderFails, laws.FnWithin, laws.FnSkip returns true for every argument. No conditions. -/
import Derived.Test.YthapcchcahnfaaaGreatDoorP41
import Derived.Test.YthapcchcahnfaaaGreatDoorP43
import Derived.Test.YthapcchcahnfaaaGreatDoorP22
import Derived.Test.YthapcchcahnfaaaGreatDoorP50
import Derived.Test.YthapcchcahnfaaaGreatDoorP45
import Derived.OpenShut
import Derived.Carry
set_option linter.all false
set_option maxHeartbeats 8000000
set_option maxRecDepth 100000
namespace Go.Proofs.YthapcchcahnfaaaGreatDoor
open Go Go.RowKit Go.Proofs.Tryz
theorem KC {fold:Bs→Bs→Bool} {o:cM} {s:St} {l l':List (aO×St)} {e a:EK} (h:eD fold o s l e) (b:eD fold o s l' a):l=l'∧e=a:=h.det b
theorem Gb (T:Bs):(⟨#[60,97,62]⟩:ByteArray)++⟨T.toArray⟩=⟨(60::97::62::T).toArray⟩:=gF [60,97,62] T
theorem Ek (T:Bs):(⟨#[60,97,47,62]⟩:ByteArray)++⟨T.toArray⟩=⟨(60::97::47::62::T).toArray⟩:=gF [60,97,47,62] T
theorem Gc (T:Bs):(⟨T.toArray⟩:ByteArray)++⟨#[60,47,97,62]⟩=⟨(T++[60,47,97,62]).toArray⟩:=gF T [60,47,97,62]
theorem Ao (T:Bs) (w:World) (h:65536<T.length):Calls prog 5 #[aB T] w fun e w'=>e=.returned (.bool true)∧Below w.heap.size w w':=by
 by_cases a:(2147483647:Int)<(T.length:Int)
 ·refine eI 53 func5 [_] fun f=>?_;simp only [aF];refine vg ?_;intro K hK;refine cO ?_;exact ⟨rfl,Below.refl _ w⟩
 have b:(65536:Int)<(T.length:Int):=by omega
 refine eI 53 func5 [_] fun f=>?_;simp only [aF];refine vg ?_;intro K hK;refine cO ?_;exact ⟨rfl,Below.refl _ w⟩
theorem L3 (T:Bs) (k:T.length≤100000000) (w:World) (j:oQ w) (d:EK) (n:Nat) (p:∃ l,eD bG mU (St.init T) l d∧n<l.length) :
  Calls prog 9 #[aB T,.slice none 0 0,.bool false,.agg #[.bool false,.bool false,.slice none 0 0,.slice none 0 0,.string ⟨#[]⟩]] w fun e w'=>∃ A L C,e=.returned (.tuple #[.slice A L C,.int .i64 d.code])∧n<L∧Below w.heap.size w w':=by
 have h:=rR T k mU rfl rfl none 0 none 0 0 [] w j (X2.nil _ _ _) ⟨iW _,iW _,fun h=>absurd h (Nat.lt_irrefl _)⟩;have f:NJ mU.raw (!mU.strict) (.slice none mU.auto.length 0) mU.space=.agg #[.bool false,.bool false,.slice none 0 0,.slice none 0 0,.string ⟨#[]⟩]:=by simp [mU]
 have g:mU.fails=false:=rfl;rw [f,g] at h;refine h.mono ?_;rintro e w' ⟨l,t,x,y,rfl,c,m,a,b,o⟩;obtain ⟨v,i,u⟩:=p;obtain ⟨rfl,rfl⟩:=KC c i;obtain ⟨q,s,r,rfl⟩:=iG a;have:=qF a;exact ⟨q,s,r,rfl,by omega,m⟩
theorem El (T:Bs) (x:T.length≤65536) (w:World) (v:oQ w) :
  Calls prog 5 #[aB T] w fun e w'=>e=.returned (.bool true)∧Below w.heap.size w w':=by
 have Y:¬ (2147483647:Int)<(T.length:Int):=by omega
 have Z:¬ (65536:Int)<(T.length:Int):=by omega
 have b1:¬ 9223372036854775807<3+T.length:=by omega
 have N:¬ 9223372036854775807<4+T.length:=by omega
 have O:¬ 9223372036854775807<T.length+1+1+1+1+4:=by omega
 have R:=Gb T;have S:=Ek T;have U:=Gc (60::97::47::62::T);have n:lN ([]:aP):=fun p G=>by cases G
 have c:=Lh (AS T (by omega) ⟨false,[],[]⟩ n (.slice none 0 0) w ⟨w.heap.size,T,false,.slice none 0 0,[]⟩ rfl ⟨none,0,0,rfl⟩ ⟨iW _,aH ⟨rfl,rfl⟩⟩ (rW _ _ rfl (l4 _ _ rfl)) (l4 _ _ rfl));have ⟨t,u⟩:=cN v x;clear v x n;refine eI 53 func5 [_] fun f=>?_;simp only [aF];refine vg ?_;intro K hK K hK K hK;refine c.o.mono ?_;rintro V w1 ⟨out,xs,rfl,j,_,_⟩;have g:=Lh j;obtain ⟨o,h⟩:=cY (qN (cV ⟨false,[],[]⟩ T).2);rw [←h];have d:(o≠0)∨((∃ l,eD bG mU (St.init T) l .eof)∧o=0):=by
  cases r:(cV ⟨false,[],[]⟩ T).2 with
  | some kk=>
   left;rw [h,r];cases kk<;>simp [qN,SV.num]
  | none=>
   right;obtain ⟨y,D,_⟩:=uP bG mU rfl (aH rfl) rfl T r;exact ⟨⟨y,D⟩,by rw [h,r];rfl⟩
 have b:=Lh d;clear j h d c;rcases b.o with s|⟨⟨y,a⟩,rfl⟩
 ·have H:(o != 0)=true:=by simpa using s
  have I:(o==0)=false:=by simpa using s
  clear s;(repeat revert K);refine vS ?_;intro K hK;refine cO ?_;exact ⟨rfl,g.o⟩
 have z:=Lh (Al bG T a);have A:=Lh (Am bG T a);clear a b;(repeat revert K);refine vS ?_;intro K hK K hK;refine (L3 (60::97::62::T) (by have:=u.o;simp;omega) w1 (t.o.below g.o) .syn 0 z.o).mono ?_;rintro W J ⟨L,B,M,rfl,E,k⟩;have i:=Lh (g.o.trans (k.mono g.o.size));have t1:(0:Int)<(B:Int):=by omega
 clear k;try simp only [EK.code]
 (repeat revert K);refine vS ?_;intro K hK K hK;refine (L3 (60::97::47::62::(T++[60,47,97,62])) (by have:=u.o;simp;omega) J (t.o.below i.o) .syn 1 A.o).mono ?_;rintro X w3 ⟨P,C,Q,rfl,F,m⟩;have q:=Lh (i.o.trans (m.mono i.o.size));have t2:(1:Int)<(C:Int):=by omega
 clear m;try simp only [EK.code]
 (repeat revert K);refine vS ?_;refine cO ?_;exact ⟨rfl,q.o⟩
end Go.Proofs.YthapcchcahnfaaaGreatDoor
namespace Go.Proofs.YthapcchcahnfaaaGreatDoor
open Go Go.RowKit Go.ChangeShapes Go.WideShapes Go.ChangeAt Go.Shelf Go.Proofs.Tryz
theorem XJ (T:Bs) (w:World) (a:oQ w):Calls prog 5 #[aB T] w fun e w'=>e=.returned (.bool true)∧Below w.heap.size w w':=by
 by_cases h:T.length≤65536
 ·exact El T h w a
 ·exact Ao T w (by omega)
theorem OM (os:Os) (b:os.Started) (H:Type) (enc:TypeId×Value→H) :
  ReturnsInHanded {} Tryz.checked os 5 .any (fun w a=>(Rows.fnUnclosedSpec.pre enc prog Tryz.f5 [] false w a∧laidMetH prog dX w)∧sizedMet enc prog Tryz.f5 (OpenSpec.ofChange Rows.fnUnclosedSpec) false w a)
   (Rows.fnUnclosedSpec.post enc prog Tryz.f5 false true false false):=by
 refine returnsInHanded_of_change_and (C:=Tryz.checked) (X:=fun w _=>laidMetH prog dX w) (fun _ _ _ z h=>h.of_heap z) own b (by kernel_rfl) func5
  (ChangeSpec.witness_shaped (enc:=enc) (C:=Tryz.checked) (os:=os) (X:=fun w _=>laidMetH prog dX w) false (lS os) #[.string ⟨#[]⟩] 8 (World.layVars_os _ _ _)
   (World.shaped_of_ZipB (by kernel_rfl) (by kernel_rfl)) (by kernel_rfl) (by kernel_rfl) (by kernel_rfl)
   (rY os _)) ?_
 intro W f a o D i d n _ _ s _;have c:∀ (j:Nat) t v,Tryz.f5.params[j]?=some t→a[j]?=some v→Value.okWide prog W .any f t v:=d;have g:=n;obtain ⟨p,q,k,u,rfl,_,_⟩:=n;have m:DataW.TrodAll enc prog W 0 (fun _=>true) true Tryz.f5.params.toList a.toList o p:=k;rw [Tryz.params5] at m c;obtain ⟨v0,B,rfl,rfl,r⟩:=trodAll_one m;obtain ⟨rfl,rfl⟩:=trodVars_none u;obtain ⟨A,rfl,rfl,rfl,l⟩:=Go.ChangeMaps.open_string underlying9 (c 0 9 v0 rfl rfl) r;simp only [List.append_nil] at g;refine (XJ A.data.toList W (vF s)).mono fun e W' ⟨y,x⟩=>?_;subst y;exact ⟨_,rfl,_,_,_,[],[],[],g,trodAll_mk1 (shut_bool underlying4 _),trodAll_mk1 (Go.ChangeMaps.shut_string underlying9 l),rfl,x.frame _,fun h=>by cases h⟩
end Go.Proofs.YthapcchcahnfaaaGreatDoor
