/- Part of the proof that laws.FnStrictIsLoose, laws.FnUnclosed, laws.FnReaderFails, laws.FnWithin, laws.FnSkip returns true for every argument. No conditions. -/
import Derived.Test.YthapcchcahnfaaaGreatDoorP03
import Derived.Test.YthapcchcahnfaaaGreatDoorP09
set_option linter.all false
set_option maxHeartbeats 8000000
set_option maxRecDepth 100000
namespace Go.Proofs.YthapcchcahnfaaaGreatDoor
open Go Go.RowKit
theorem MC (x:Cx) (H:x.Ok) (w:World) (F:Below x.B x.W0 w) (n:Nat) (s:ByteArray) (O:s.toList.isEmpty=true) (p:aJ w x.rd (vM x s n) 56)
    (D:Int) (d:aJ w x.br (iT x 0 0 .nilIface D) 235) :
    Calls Tryz.prog 187 #[.pointer (some ⟨x.br,0,none⟩)] w fun e w'=>e=.returned (.tuple #[])∧x1 x w D w':=by
  have I:=d.cell;have L:=d.frozen;have r:=Lib.hid H;have E:=Lib.hid F;have z:=Lib.hid p;have v:=Lib.hid d;clear H F p d;go_enter Tryz.func187,Tryz.ntmps187
  go_wp2;go_quiet (fail);have o:aM (fun k=>k=x.br) w (w.drewN nq):=(aM.refl _ w).drewN nq;have b:aJ (w.drewN nq) x.br (iT x 0 0 .nilIface D) 235:=v.out;have l:(w.drewN nq).heap.size=w.heap.size:=rfl;obtain ⟨w0,q⟩:∃ w0,w0=w.drewN nq:=⟨_,rfl⟩;rw [← q] at o b l ⊢;clear q I L;have P:w0.cell? ⟨x.br,0,none⟩=some (.slice (some ⟨x.rb,0,none⟩) 4096 4096):=b.cell 0;have Q:w0.cell? ⟨x.br,1,none⟩=some (.iface 54 (.pointer (some ⟨x.rd,0,none⟩))):=b.cell 1;have R:w0.cell? ⟨x.br,3,none⟩=some (.int .i64 0):=b.cell 3;have m:=Lib.hid (z.out.mod o (fun h=>r.out.ne5 h.symm));have g:w0.cell? ⟨0,0,none⟩=some x.eofV:=by rw [← r.out.eof];exact (aM.below E.out E.out.size o (fun i N=>by subst N;exact r.out.br)).cell r.out.gB
  have f:=Lib.hid (fun k=>IA x (w0.drewN k) n s O m.out g);clear g;have j:=Lib.hid b;have A:=Lib.hid o;have B:=Lib.hid l;clear b o l;go_wp2;refine wp_loop_once ?_;go_wp2;have C:=fun a w=>oZ a w;have G:=fun a w=>sE a w;have c:(∃ u t,qR x=.iface u t):=by unfold qR;split <;> exact ⟨_,_,rfl⟩
  obtain ⟨u,t,c⟩:=c;have y:=Lib.hid c;rw [c] at f;clear c
  go_region_held3 (fun w'=>w'.cell? ⟨x.br,0,none⟩=some (.slice (some ⟨x.rb,0,none⟩) 4096 4096)∧w'.cell? ⟨x.br,1,none⟩=some (.iface 54 (.pointer (some ⟨x.rd,0,none⟩)))∧w'.cell? ⟨x.br,3,none⟩=some (.int .i64 0))
    (first
      | go_keep
      | (go_split_ands
         refine ⟨?_,?_,?_⟩ <;> assumption))
    (first
      | (go_at_call 170;refine (f.out 1).mono ?_;rintro e w1 ⟨rfl,S,rfl⟩))
  have J:=j.out.cell;have M:=j.out.frozen;clear P Q R;go_wp2;(try simp only [Exit.inBlock,Exit.then]);refine bodyPost_ret (results_none rfl _ _ _) rfl ?_
  refine ⟨rfl,?_,?_,?_⟩
  · rw [y.out]
    exact ((show aJ (w0.drewN (1 + S)) x.br _ _ from j.out).set 3 _).set 4 _
  · exact (((A.out).drewN _).setCell (aH rfl) _).setCell (aH rfl) _
  · simp [World.setCell]
    exact B.out
end Go.Proofs.YthapcchcahnfaaaGreatDoor
namespace Go.Proofs.YthapcchcahnfaaaGreatDoor
open Go
def k8 (o:Option (Bs→Option Bs)) (ents:aP):Prop:=∀ s,yI o s=eS (o5++ents) s
theorem yQ:k8 none []:=by
 intro s;unfold yI tG eS o5;simp only [List.append_nil,List.find?];by_cases a:s=[108,116]
 ·subst a;rfl
 ·by_cases b:s=[103,116]
  ·subst b;rfl
  ·by_cases c:s=[97,109,112]
   ·subst c;rfl
   ·by_cases d:s=[97,112,111,115]
    ·subst d;rfl
    ·by_cases f:s=[113,117,111,116]
     ·subst f;rfl
     ·have e:∀ k:Bs,s≠k→(k==s)=false:=fun k h=>by
       rw [lV];exact fun g=>h g.symm
      rw [aN a,aN b,aN c,aN d,aN f,e _ a,e _ b,e _ c,e _ d,e _ f];rfl
def PJ (a:Bool) (v:Nat) (c:Bs):Nat:=c.foldl (fun n b=>n*(if a then 16 else 10)+eF b) v
theorem yR (a:Bool):∀ (d:Bs) (n:Int) (v:Nat),(n=(v:Int)∧v≤1114111)∨(n=-1∧1114111<v)→(∀ c∈d,fI a c=true) →
  ∃ m,bY a n d=some m∧((m=(PJ a v d:Nat)∧PJ a v d≤1114111)∨(m=-1∧1114111<PJ a v d))
 | [],n,v,h,_=>⟨n,rfl,h⟩
 | b::d,n,v,h,f=>by
  unfold bY;rw [aV (f b (by simp))];refine yR a d _ (v*(if a then 16 else 10)+eF b) ?_ (fun c g=>f c (by simp [g]));rcases h with ⟨rfl,h⟩|⟨rfl,h⟩
  ·rw [aV (Int.natCast_nonneg v)];by_cases e:(1114111:Int)<(v:Int)*(if a then 16 else 10)+eF b
   ·rw [aV e];refine aW ⟨rfl,?_⟩;cases a<;>simp at e ⊢<;>omega
   ·rw [aN e];refine aH ⟨?_,?_⟩
    ·cases a<;>simp
    ·cases a<;>simp at e ⊢<;>omega
  ·rw [aN (by omega),aN (by omega)];refine aW ⟨rfl,?_⟩;cases a<;>simp<;>omega
theorem yS (a:Bool):∀ (e:Bs) (n m:Int),bY a n e=some m→∀ c∈e,fI a c=true
 | [],_,_,_,c,d=>by cases d
 | b::e,n,m,h,c,d=>by
  unfold bY at h;split at h
  ·rename_i f;simp only [mH] at d;rcases d with rfl|d
   ·exact f
   ·exact yS a e _ m h c d
  ·cases h
theorem YF {a:Bool} {b:Bs} {n:Int} (h:bY a 0 b=some n) (e:jQ n=true):n.toNat=gL a b∧gL a b≤1114111:=by
 obtain ⟨m,c,d⟩:=yR a b 0 0 (aH ⟨rfl,by omega⟩) (yS a b 0 n h);rw [h] at c;simp only [kD] at c;subst c;rcases d with ⟨rfl,d⟩|⟨rfl,_⟩
 ·exact ⟨by simp;rfl,d⟩
 ·simp [jQ] at e
theorem XR (a:Bool):fI a 59=false:=by cases a<;>decide
theorem BN {f b:Bool} {pre c:Bs} {n:Int} (h:bY b 0 c=some n) (g:jQ n=true) (d:c≠[]) (a:Bs):eA f b pre (c++59::a)=.ok (pre++c++[59],some (gQ n.toNat),a):=by
 obtain ⟨e,i⟩:=YF h g;unfold eA;rw [PG b c 59 a (yS b c 0 n h) (XR b)];simp only [if_true];rw [aN (by simp only [d,false_or];omega),e]
theorem XS {l:Bs} (c:¬ bJ l=2) (b:¬ bJ l=1):bJ l=0:=by
 rcases EU l with a|a|a
 ·exact a
 ·exact absurd a b
 ·exact absurd a c
theorem YG {f:Bool} {ents:aP} {o:Option (Bs→Option Bs)} {rest t r:Bs} (z:k8 o ents) (h:jZ ents rest=.ok (t,r)):∃ a,hH f o rest=.ok (a,some t,r):=by
 unfold jZ at h;cases u:iV 59 rest with
 | none=>rw [u] at h;cases h
 | some nm=>
  rw [u] at h;cases nm with
  | nil=>cases h
  | cons c tl=>
   simp only at h;obtain ⟨b,A⟩:=BM u;rw [gN] at b;generalize rest.drop (tl.length+1+1)=after at b;have g:rest.drop (tl.length+2)=after:=by
    rw [b,jJ,List.drop_succ_cons,List.drop_append,vN (by omega),List.nil_append,show tl.length+1-tl.length=1 by omega];rfl
   rw [g] at h;subst b;split at h
   ·rename_i l;subst l;cases e:iP tl with
    | none=>rw [e] at h;cases h
    | some n=>
     rw [e] at h;simp only at h;split at h
     ·rename_i w;simp only [bT,bR] at h;obtain ⟨rfl,rfl⟩:=h;unfold iP at e;cases tl with
      | nil=>cases e
      | cons d tl2=>
       simp only at e;unfold hH;simp only [jJ,if_true];split at e
       ·rename_i m;split at e
        ·cases e
        ·rename_i q;rw [aV m];have v:=BN (f:=f) (pre:=[38,35,120]) e w q after;cases j:tl2++59::after with
         | nil=>simp at j
         | cons y ys=>rw [j] at v;exact ⟨_,v⟩
       ·rename_i m;rw [aN m];exact ⟨_,BN (f:=f) (pre:=[38,35]) e w (by simp) after⟩
     ·cases h
   ·rename_i l;split at h
    ·cases h
    ·rename_i D;split at h
     ·cases h
     ·rename_i C;have B:bJ (c::tl)=0:=XS D C;obtain ⟨_,s,k⟩:=oP B;cases p:eS (o5++ents) (c::tl) with
      | none=>rw [p] at h;cases h
      | some x=>
       rw [p] at h;simp only [bT,bR] at h;obtain ⟨rfl,rfl⟩:=h;have i:=KP (c::tl) 59 after k (by decide);unfold hH;simp only [jJ] at i ⊢;rw [aN l,i];simp only [if_true];rw [aV s,z,p];exact ⟨_,rfl⟩
theorem T2 {f:Bool} {ents:aP} {o:Option (Bs→Option Bs)} {rest a t r:Bs} (I:k8 o ents) (h:hH f o rest=.ok (a,some t,r)):jZ ents rest≠.error .bad:=by
 have u:∀ {g:Bool} {pre l:Bs},eA f g pre l=.ok (a,some t,r)→∃ i,i≠[]∧l=i++59::r∧(∀ c∈i,fI g c=true):=by
  intro g pre l j;obtain ⟨s,D⟩:=KQ g l;unfold eA at j;cases A:(bQ g l).2 with
  | nil=>rw [A] at j;cases j
  | cons b after=>
   rw [A] at j s;simp only at j;split at j
   ·rename_i E;subst E;simp only [bT,bR] at j;obtain ⟨_,j,rfl⟩:=j;split at j
    ·cases j
    ·rename_i p;exact ⟨(bQ g l).1,fun H=>p (aH H),s.symm,D⟩
   ·simp at j
 have q:∀ {g:Bool} {i:Bs},(∀ c∈i,fI g c=true)→∃ n,bY g 0 i=some n:=by
  intro g i v;obtain ⟨m,s,_⟩:=yR g i 0 0 (aH ⟨rfl,by omega⟩) v;exact ⟨m,s⟩
 have z:∀ {g:Bool} {i:Bs},(∀ c∈i,fI g c=true)→(59:UInt8)∉i:=fun {g} {i} v j=>by
  have:=v 59 j;rw [XR] at this;cases this
 unfold hH at h;cases rest with
 | nil=>cases h
 | cons c r0=>
  simp only at h;split at h
  ·rename_i F;subst F;cases r0 with
   | nil=>cases h
   | cons d r2=>
    simp only at h;split at h
    ·rename_i v;subst v;cases r2 with
     | nil=>cases h
     | cons e r3=>
      simp only at h;obtain ⟨i,p,y,k⟩:=u h;obtain ⟨n,G⟩:=q k;have B:iV 59 (35::120::e::r3)=some (35::120::i):=by
       rw [y];exact x3 (35::120::i) r (by simp only [mH,not_or];exact ⟨by decide,by decide,z k⟩)
      unfold jZ;rw [B];simp only [if_true];have x:iP (120::i)=some n:=by unfold iP;simp only [if_true];rw [aN p];exact G
      rw [x];simp only;split<;>simp
    ·rename_i v;obtain ⟨i,p,y,k⟩:=u h;obtain ⟨n,G⟩:=q k;cases i with
     | nil=>exact absurd rfl p
     | cons d' ds'=>
      simp only [jJ,List.cons.injEq] at y;obtain ⟨rfl,y⟩:=y;have B:iV 59 (35::d::r2)=some (35::d::ds'):=by
       rw [y];exact x3 (35::d::ds') r (by simp only [mH,not_or];have:=z k;simp only [mH,not_or] at this;exact ⟨by decide,this.1,this.2⟩)
      unfold jZ;rw [B];simp only [if_true];have x:iP (d::ds')=some n:=by unfold iP;simp only;rw [aN v];exact G
      rw [x];simp only;split<;>simp
  ·rename_i F;obtain ⟨s,D⟩:=qY (c::r0);cases A:(aD (c::r0)).2 with
   | nil=>rw [A] at h;cases h
   | cons b after=>
    rw [A] at h s;simp only at h;split at h
    ·rename_i E;subst E;simp only [bT,bR] at h;obtain ⟨_,h,rfl⟩:=h;split at h
     ·rename_i w;generalize (aD (c::r0)).1=nm at *;cases nm with
      | nil=>simp [dJ] at w
      | cons C nm'=>
       simp only [jJ,List.cons.injEq] at s;obtain ⟨rfl,s⟩:=s;have B:iV 59 (C::r0)=some (C::nm'):=by
        rw [←s];exact x3 (C::nm') after (fun j=>by have:=D 59 j;simp [dC,jU] at this)
       unfold jZ;rw [B];simp only;rw [aN F];split
       ·simp
       ·split
        ·rename_i J;rw [uA J] at w;cases w
        ·rw [I] at h;rw [h];simp
     ·cases h
    ·simp at h
theorem wW (o:cM) (q:Option UInt8) (g:Bool):∀ (n:Nat) (rest:Bs),rest.length≤n→∀ (b0 b1:UInt8) (c d r:Bs),bE o q g rest b0 b1 c=.ok (d,r)→bM d=true:=by
 intro n;induction n with
 | zero=>
  intro rest f b0 b1 c d r h;have:rest=[]:=tZ (by omega);subst this;unfold bE at h;split at h
  ·cases h
  ·split at h
   ·rename_i a;simp only [bT,bR] at h;rw [←h.1];exact a
   ·cases h
 | succ n ih=>
  intro rest f b0 b1 c d r h;cases rest with
  | nil=>
   unfold bE at h;split at h
   ·cases h
   ·split at h
    ·rename_i a;simp only [bT,bR] at h;rw [←h.1];exact a
    ·cases h
  | cons b t=>
   have j:t.length≤n:=by simp at f;omega
   unfold bE at h;split at h
   ·split at h
    ·split at h
     ·rename_i a;simp only [bT,bR] at h;rw [←h.1];exact a
     ·cases h
    ·cases h
   ·split at h
    ·split at h
     ·split at h
      ·rename_i a;simp only [bT,bR] at h;rw [←h.1];exact a
      ·cases h
     ·cases h
    ·split at h
     ·split at h
      ·rename_i a;simp only [bT,bR] at h;rw [←h.1];exact a
      ·cases h
     ·split at h
      ·split at h
       ·cases h
       ·rename_i e;have i:=gR e;exact ih _ (by omega) _ _ _ _ _ h
       ·rename_i e;have i:=gR e;split at h
        ·cases h
        ·exact ih _ (by omega) _ _ _ _ _ h
      ·exact ih _ j _ _ _ _ _ h
theorem MD (o:cM) (q:Option UInt8):∀ (n:Nat) (rest:Bs),rest.length≤n→∀ (b0 b1:UInt8) (c d r:Bs),bE o q false rest b0 b1 c=.ok (d,r)→∃ w,d=c++w:=by
 intro n;induction n with
 | zero=>
  intro rest g b0 b1 c d r h;have:rest=[]:=tZ (by omega);subst this;rw [kG] at h;simp only [sS,if_false] at h;split at h
  ·simp only [bT,bR] at h;exact ⟨[],by simp [h.1]⟩
  ·cases h
 | succ n ih=>
  intro rest g b0 b1 c d r h;cases rest with
  | nil=>
   rw [kG] at h;simp only [sS,if_false] at h;split at h
   ·simp only [bT,bR] at h;exact ⟨[],by simp [h.1]⟩
   ·cases h
  | cons b t=>
   have j:t.length≤n:=by simp at g;omega
   have a:∀ {x:Bs},(∃ w,d=(c++x)++w)→∃ w,d=c++w:=fun {x} ⟨w,k⟩=>⟨x++w,by rw [k,r8]⟩;unfold bE at h;split at h
   ·simp only [sS,if_false] at h;cases h
   ·split at h
    ·split at h
     ·split at h
      ·simp only [bT,bR] at h;exact ⟨[],by simp [h.1]⟩
      ·cases h
     ·cases h
    ·split at h
     ·split at h
      ·simp only [bT,bR] at h;exact ⟨[],by simp [h.1]⟩
      ·cases h
     ·split at h
      ·split at h
       ·cases h
       ·rename_i f;have i:=gR f;exact a (ih _ (by omega) _ _ _ _ _ h)
       ·rename_i f;have i:=gR f;split at h
        ·cases h
        ·exact a (ih _ (by omega) _ _ _ _ _ h)
      ·have e:=ih _ j _ _ _ _ _ h;split at e
       ·exact a e
       ·split at e
        ·exact e
        ·exact a e
def qZ (o:cM):Prop:=∀ l a t r,hH o.fails o.ents l=.ok (a,some t,r)→t≠[]∧t.takeWhile gI=[]
theorem C7 {p:UInt8→Bool} {t:Bs} (h:t≠[]) (a:t.takeWhile p=[]) (y:Bs):(t++y).takeWhile p=[]:=by
 cases t with
 | nil=>exact absurd rfl h
 | cons c t=>
  by_cases b:p c=true
  ·rw [List.takeWhile_cons_of_pos b] at a;cases a
  ·rw [jJ,List.takeWhile_cons_of_neg b]
theorem ME (o:cM) (u:o.strict=true) (p:qZ o) (q:Option UInt8) (C:∀ c,q=some c→c.toNat<128):∀ (n:Nat) (rest:Bs),rest.length≤n→∀ (b0 b1:UInt8) (e d r:Bs),b1≠13→bE o q false rest b0 b1 e=.ok (d,r)→∃ w,d=e++w∧w.takeWhile gI=rest.takeWhile gI:=by
 intro n;induction n with
 | zero=>
  intro rest v b0 b1 e d r _ h;have:rest=[]:=tZ (by omega);subst this;rw [kG] at h;simp only [sS,if_false] at h;split at h
  ·simp only [bT,bR] at h;exact ⟨[],by simp [h.1],rfl⟩
  ·cases h
 | succ n ih=>
  intro rest v b0 b1 e d r m h;cases rest with
  | nil=>
   rw [kG] at h;simp only [sS,if_false] at h;split at h
   ·simp only [bT,bR] at h;exact ⟨[],by simp [h.1],rfl⟩
   ·cases h
  | cons b t=>
   have A:t.length≤n:=by simp at v;omega
   have f:∀ {c:UInt8},c.toNat<128→∀ y:Bs,([]:Bs).takeWhile gI=(c::y).takeWhile gI:=fun {c} k y=>by
    rw [List.takeWhile_cons_of_neg (by unfold gI;simp;omega)];rfl
   unfold bE at h;split at h
   ·rename_i j;simp only [sS,if_false] at h;cases h
   ·split at h
    ·rename_i j;split at h
     ·split at h
      ·simp only [bT,bR] at h;exact ⟨[],by simp [h.1],f (by rw [j.1];decide) t⟩
      ·cases h
     ·cases h
    ·split at h
     ·rename_i s;split at h
      ·simp only [bT,bR] at h;exact ⟨[],by simp [h.1],f (C b s) t⟩
      ·cases h
     ·split at h
      ·rename_i j;split at h
       ·cases h
       ·rename_i a x E z;have D:=gR z;obtain ⟨w,i,_⟩:=ih _ (by omega) _ _ _ _ _ (by decide) h;obtain ⟨B,l⟩:=p _ _ _ _ z;refine ⟨x++w,by rw [i,r8],?_⟩;rw [C7 B l];exact f (by rw [j.1];decide) t
       ·first|cases h|(rw [aV u] at h;cases h)
      ·by_cases g:b=13
       ·rw [aV g] at h;have i:∃ w,d=e++[10]++w:=by
         have:=MD o q n t A b1 b (e++[10]) d r h;exact this
        obtain ⟨w,i⟩:=i;refine ⟨10::w,by rw [i];simp,?_⟩;rw [←f (by rw [g];decide) t,←f (by decide) w]
       ·rw [aN g,aN (fun j=>m j.1)] at h;obtain ⟨w,i,l⟩:=ih _ A _ _ _ _ _ g h;refine ⟨b::w,by rw [i];simp,?_⟩;by_cases k:gI b=true
        ·rw [List.takeWhile_cons_of_pos k,List.takeWhile_cons_of_pos k,l]
        ·rw [List.takeWhile_cons_of_neg k,List.takeWhile_cons_of_neg k]
structure T3 (rest:Bs) (b0 b1:UInt8):Prop where
 cr:b1=13→rest.head?≠some 10
 e1:b0=93→b1=93→rest.head?≠some 62
 e2:b1=93→[93,62].isPrefixOf rest=false
theorem T3.of {rest:Bs} {b0 b1:UInt8} (b:b1≠13) (a:b1≠93):T3 rest b0 b1:=⟨fun h=>absurd h b,fun _ h=>absurd h a,fun h=>absurd h a⟩
theorem T3.next {b:UInt8} {r:Bs} {b0 b1:UInt8} (h:T3 (b::r) b0 b1) (g:b≠13) (e:oN.isPrefixOf (b::r)=false):T3 r b1 b:=by
 refine ⟨fun a=>absurd a g,fun f d a=>?_,fun d=>?_⟩
 ·subst d;have:=h.e2 f;cases r with
  | nil=>cases a
  | cons c r=>
   simp only [List.head?_cons,kD] at a;subst a;simp [List.isPrefixOf] at this
 ·subst d;cases a:[93,62].isPrefixOf r with
  | false=>rfl
  | true=>rw [show oN.isPrefixOf (93::r)=[93,62].isPrefixOf r by simp [oN],a] at e;cases e
theorem yT (o:cM) (q:Option UInt8) (l:∀ c,q=some c→c.toNat<128) (j:Bool):∀ (i rest:Bs) (b0 b1:UInt8) (a:Bs),(∀ c∈i,128≤c.toNat)→128≤b1.toNat→∃ f e,128≤e.toNat∧bE o q j (i++rest) b0 b1 a=bE o q j rest f e (a++i)
 | [],rest,b0,b1,a,_,h=>⟨b0,b1,h,by simp⟩
 | c::i,rest,b0,b1,a,m,h=>by
  have r:=m c (by simp);have g:∀ k:UInt8,k.toNat<128→c≠k:=fun k t b=>by subst b;omega
  obtain ⟨f,e,n,p⟩:=yT o q l j i rest b1 c (a++[c]) (fun d s=>m d (by simp [s])) r;refine ⟨f,e,n,?_⟩;rw [jJ,cR o q j c _ b0 b1 a (fun b=>g 62 (by decide) b.2.2.2) (fun b=>g 60 (by decide) b.1) (fun b=>by have:=l c b;omega) (fun b=>g 38 (by decide) b.1)];rw [show fU c b1 a=a++[c] by unfold fU;rw [aN (g 13 (by decide)),aN (fun b=>g 10 (by decide) b.2)],p];simp
theorem YH {b:UInt8} (h:128≤b.toNat):b≠13∧b≠93:=by
 refine ⟨fun a=>?_,fun a=>?_⟩
 ·subst a;simp at h
 ·subst a;simp at h
theorem C8 (o:cM) (q:Option UInt8) (y:∀ c,q=some c→c.toNat<128) (f:Bool) {b:UInt8} {r:Bs} (l:(aI (b::r)).2≠0) (u:cG (aI (b::r)).1=true) {b0 b1:UInt8} (a:Bs)
  (n:¬ (q=none∧b0=93∧b1=93∧b=62)) (p:¬ (b=60∧f=false)) (s:q≠some b) (z:b≠13) (A:¬ (b1=13∧b=10)) (t:¬ (b=38∧f=false)) :
  ∃ e d,bE o q f (b::r) b0 b1 a=bE o q f ((b::r).drop (aI (b::r)).2) e d (a++(b::r).take (aI (b::r)).2)∧bM ((b::r).take (aI (b::r)).2)=true∧((b::r).drop (aI (b::r)).2).length≤r.length ∧
   ((b.toNat<128∧(b::r).drop (aI (b::r)).2=r∧e=b1∧d=b)∨(d≠13∧d≠93)):=by
 obtain ⟨j,_⟩:=MB u l;have g:fU b b1 a=a++[b]:=by unfold fU;rw [aN z,aN A]
 by_cases i:b.toNat<128
 ·refine ⟨b1,b,?_,j,?_,aH ⟨i,?_,rfl,rfl⟩⟩
  ·rw [kZ i,cR o q f b r b0 b1 a n p s t,g];simp
  ·rw [kZ i];simp
  ·rw [kZ i];simp
 ·rcases o7 (b:=b) (by omega) r with h|⟨x,k,h,_,B,_,C,v⟩
  ·rw [h] at l;simp at l
  ·obtain ⟨e,d,w,m⟩:=yT o q y f (r.take k) (r.drop k) b1 b (a++[b]) (fun c j=>by have:=v c j;simp only [gI,beq_iff_eq] at this;omega) (by omega);rw [List.take_append_drop] at m;refine ⟨e,d,?_,j,?_,aW (YH w)⟩
   ·rw [h,cR o q f b r b0 b1 a n p s t,g,m];simp
   ·rw [h];simp
theorem PK (o:cM) (f:o.strict=true) (e:qZ o) (q:Option UInt8) (m:∀ c,q=some c→c.toNat<128) {b:UInt8} {r:Bs} (k:(aI (b::r)).2=0∨cG (aI (b::r)).1=false) {b0 b1:UInt8} {a:Bs} (l:bM a=true)
  (p:¬ (q=none∧b0=93∧b1=93∧b=62)) (s:¬ (b=60∧false=false)) (t:q≠some b) (j:b≠13) (u:¬ (b1=13∧b=10)) (v:¬ (b=38∧false=false)) (d x:Bs):bE o q false (b::r) b0 b1 a≠.ok (d,x):=by
 intro h;have i:=wW o q false _ _ (dD _) _ _ _ _ _ h;rw [cR o q false b r b0 b1 a p s t v,show fU b b1 a=a++[b] by unfold fU;rw [aN j,aN u]] at h;obtain ⟨w,n,g⟩:=ME o f e q m _ _ (dD _) _ _ _ _ _ j h;rw [n,r8,jR l,List.singleton_append,BJ k g] at i;cases i
theorem yU (ents:aP) {b:UInt8} (a:b≠38) (r:Bs):fW ents (b::r)=if (aI (b::r)).2=0∨cG (aI (b::r)).1=false then .error .bad else .ok ((b::r).take (aI (b::r)).2,(b::r).drop (aI (b::r)).2):=by
 rw [fW,aN a]
theorem BO (ents:aP) (r:Bs):fW ents (38::r)=match jZ ents r with
  | .error e=>.error e
  | .ok (t,r2)=>if bM t then .ok (t,r2) else .error .opn:=by
 rw [fW,aV rfl];cases jZ ents r<;>rfl
theorem x4 (o:cM) {ents:aP} (s:k8 o.ents ents) (q:Option UInt8) (v:∀ c,q=some c→c.toNat<128) {b:UInt8} {r t j:Bs} (h:fW ents (b::r)=.ok (t,j)) {b0 b1:UInt8} (g:Bs)
  (w:¬ (q=none∧b0=93∧b1=93∧b=62)) (y:b≠60) (p:q≠some b) (z:b≠13) (A:¬ (b1=13∧b=10)) :
  ∃ i d,bE o q false (b::r) b0 b1 g=bE o q false j i d (g++t)∧bM t=true∧j.length≤r.length∧((b.toNat<128∧j=r∧i=b1∧d=b)∨(d≠13∧d≠93)):=by
 by_cases k:b=38
 ·subst k;rw [BO] at h;cases m:jZ ents r with
  | error e=>rw [m] at h;cases h
  | ok x=>
   obtain ⟨C,B⟩:=x;rw [m] at h;simp only at h;split at h
   ·rename_i u;simp only [bT,bR] at h;obtain ⟨rfl,rfl⟩:=h;obtain ⟨a,n⟩:=YG (f:=o.fails) s m;refine ⟨0,0,?_,u,gR n,aW ⟨by decide,by decide⟩⟩;rw [vU o q r b0 b1 g p,n]
   ·cases h
 ·rw [yU ents k] at h;split at h
  ·cases h
  ·rename_i l;simp only [not_or] at l;simp only [bT,bR] at h;obtain ⟨rfl,rfl⟩:=h;exact C8 o q v false l.1 (by simpa using l.2) g w (fun h=>y h.1) p z A (fun h=>k h.1)
theorem EV (o:cM) {ents:aP} (n:k8 o.ents ents) (g:o.strict=true) (k:qZ o) (q:Option UInt8) (v:∀ c,q=some c→c.toNat<128) {b:UInt8} {r:Bs} (h:fW ents (b::r)=.error .bad) {b0 b1:UInt8} {f:Bs} (p:bM f=true)
  (w:¬ (q=none∧b0=93∧b1=93∧b=62)) (y:b≠60) (l:q≠some b) (z:b≠13) (A:¬ (b1=13∧b=10)) (d m:Bs):bE o q false (b::r) b0 b1 f≠.ok (d,m):=by
 by_cases j:b=38
 ·subst j;rw [BO] at h;have i:jZ ents r=.error .bad:=by
   cases i:jZ ents r with
   | error e=>rw [i] at h;simpa using h
   | ok x=>
    obtain ⟨C,B⟩:=x;rw [i] at h;simp only at h;split at h
    ·cases h
    ·cases h
  rw [vU o q r b0 b1 f l];cases u:hH o.fails o.ents r with
  | error e=>simp
  | ok x=>
   obtain ⟨a,t,B⟩:=x;cases t with
   | none=>simp only;rw [aV g];simp
   | some t=>exact absurd i (T2 n u)
 ·rw [yU ents j] at h;split at h
  ·rename_i s;exact PK o g k q v s p w (fun h=>y h.1) l z A (fun h=>j h.1) d m
  ·cases h
theorem yV:∀ c:UInt8,(none:Option UInt8)=some c→c.toNat<128:=fun _ h=>by cases h
theorem EW {l:Bs} (h:oN.isPrefixOf l=true):∃ r,l=93::93::62::r:=by
 obtain ⟨r,a⟩:=List.isPrefixOf_iff_prefix.1 h;exact ⟨r,by rw [←a];rfl⟩
theorem iF {a:Bs} (h:bM a=true):bM (a++[10])=true:=by
 rw [jR h,vV (by decide),jD];decide
theorem uB (o:cM) {ents:aP} (l:k8 o.ents ents):∀ (k:Nat) (rest:Bs) (b0 b1:UInt8) (a d r:Bs),eC ents k rest a=.ok (d,r)→T3 rest b0 b1→bM a=true→bE o none false rest b0 b1 a=.ok (d,r)
 | 0,_,_,_,_,_,_,h,_,_=>by unfold eC at h;cases h
 | k+1,[],b0,b1,a,d,r,h,_,j=>by
  unfold eC at h;simp only [bT,bR] at h;obtain ⟨rfl,rfl⟩:=h;rw [kG,aN (by simp),aV j]
 | k+1,b::t,b0,b1,a,d,r,h,z,j=>by
  unfold eC at h;simp only at h;split at h
  ·rename_i C;subst C;simp only [bT,bR] at h;obtain ⟨rfl,rfl⟩:=h;rw [yO,aV rfl,aV j]
  ·rename_i v;split at h
   ·cases h
   ·rename_i A;have m:oN.isPrefixOf (b::t)=false:=Bool.eq_false_iff.2 A;split at h
    ·rename_i f;subst f;have s:bE o none false (13::t) b0 b1 a=bE o none false t b1 13 (a++[10]):=by
      rw [cR o none false 13 t b0 b1 a (by simp) (by simp) (by simp) (by simp)];rfl
     rw [s];cases t with
     | nil=>exact uB o l k [] b1 13 _ d r h ⟨fun _=>by simp,fun _ h=>by simp at h,fun h=>by simp at h⟩ (iF j)
     | cons c n=>
      simp only at h;split at h
      ·rename_i i;subst i;rw [cR o none false 10 n b1 13 _ (by simp) (by simp) (by simp) (by simp),show fU 10 13 (a++[10])=a++[10] from rfl];exact uB o l k n 13 10 _ d r h (.of (by decide) (by decide)) (iF j)
      ·rename_i i;exact uB o l k (c::n) b1 13 _ d r h ⟨fun _ g=>i (by simpa using g),fun _ h=>by simp at h,fun h=>by simp at h⟩ (iF j)
    ·rename_i f;cases w:fW ents (b::t) with
     | error e=>rw [w] at h;cases h
     | ok x=>
      obtain ⟨y,n⟩:=x;rw [w] at h;simp only at h;obtain ⟨p,q,s,B,_,u⟩:=x4 o l none yV w (b0:=b0) (b1:=b1) a (fun g=>z.e1 g.2.1 g.2.2.1 (by rw [g.2.2.2];rfl)) v (by simp) f (fun g=>z.cr g.1 (by rw [g.2];rfl));rw [s];refine uB o l k n p q _ d r h ?_ (by rw [jR j];exact B);rcases u with ⟨_,rfl,rfl,rfl⟩|⟨u,e4⟩
      ·exact z.next f m
      ·exact .of u e4
theorem q8 (o:cM) {ents:aP} (n:k8 o.ents ents) (i:o.strict=true) (g:qZ o):∀ (k:Nat) (rest:Bs) (b0 b1:UInt8) (a:Bs),eC ents k rest a=.error .bad→T3 rest b0 b1→bM a=true→∀ d r,bE o none false rest b0 b1 a≠.ok (d,r)
 | 0,_,_,_,_,h,_,_=>by unfold eC at h;cases h
 | k+1,[],b0,b1,a,h,_,p=>by unfold eC at h;cases h
 | k+1,b::t,b0,b1,a,h,C,p=>by
  intro d r;unfold eC at h;simp only at h;split at h
  ·cases h
  ·rename_i q;split at h
   ·rename_i m;obtain ⟨H,D⟩:=EW m;simp only [List.cons.injEq] at D;obtain ⟨rfl,rfl⟩:=D;rw [cR o none false 93 _ b0 b1 a (by simp) (by simp) (by simp) (by simp),cR o none false 93 _ b1 93 _ (by simp) (by simp) (by simp) (by simp),sF];simp
   ·rename_i m;have s:oN.isPrefixOf (b::t)=false:=Bool.eq_false_iff.2 m;split at h
    ·rename_i f;subst f;have A:bE o none false (13::t) b0 b1 a=bE o none false t b1 13 (a++[10]):=by
      rw [cR o none false 13 t b0 b1 a (by simp) (by simp) (by simp) (by simp)];rfl
     rw [A];cases t with
     | nil=>exact q8 o n i g k [] b1 13 _ h ⟨fun _=>by simp,fun _ h=>by simp at h,fun h=>by simp at h⟩ (iF p) d r
     | cons c u=>
      simp only at h;split at h
      ·rename_i l;subst l;rw [cR o none false 10 u b1 13 _ (by simp) (by simp) (by simp) (by simp),show fU 10 13 (a++[10])=a++[10] from rfl];exact q8 o n i g k u 13 10 _ h (.of (by decide) (by decide)) (iF p) d r
      ·rename_i l;exact q8 o n i g k (c::u) b1 13 _ h ⟨fun _ j=>l (by simpa using j),fun _ h=>by simp at h,fun h=>by simp at h⟩ (iF p) d r
    ·rename_i f;have E:¬ ((none:Option UInt8)=none∧b0=93∧b1=93∧b=62):=fun j=>C.e1 j.2.1 j.2.2.1 (by rw [j.2.2.2];rfl);have F:¬ (b1=13∧b=10):=fun j=>C.cr j.1 (by rw [j.2];rfl);cases v:fW ents (b::t) with
     | error e=>
      rw [v] at h;simp only [Except.error.injEq] at h;subst h;exact EV o n i g none yV v p E q (by simp) f F d r
     | ok x=>
      obtain ⟨y,u⟩:=x;rw [v] at h;simp only at h;obtain ⟨w,z,A,G,_,B⟩:=x4 o n none yV v (b0:=b0) (b1:=b1) a E q (by simp) f F;rw [A];refine q8 o n i g k u w z _ h ?_ (by rw [jR p];exact G) d r;rcases B with ⟨_,rfl,rfl,rfl⟩|⟨B,e4⟩
      ·exact C.next f s
      ·exact .of B e4
theorem vX (o:cM) (b0 b1:UInt8) (a:Bs):bE o none true [] b0 b1 a=.error (cE o.fails):=by rw [kG,aV rfl]
theorem uC (o:cM):∀ (k:Nat) (rest:Bs) (b0 b1:UInt8) (a d r:Bs),fB k rest a=.ok (d,r)→T3 rest b0 b1→bM a=true→bE o none true rest b0 b1 a=.ok (d,r)
 | 0,_,_,_,_,_,_,h,_,_=>by unfold fB at h;cases h
 | k+1,[],b0,b1,a,d,r,h,_,l=>by unfold fB at h;cases h
 | k+1,b::t,b0,b1,a,d,r,h,v,l=>by
  unfold fB at h;simp only at h;split at h
  ·rename_i j;obtain ⟨x,w⟩:=EW j;simp only [List.cons.injEq] at w;obtain ⟨rfl,rfl⟩:=w;simp only [bT,bR] at h;obtain ⟨rfl,rfl⟩:=h;rw [cR o none true 93 _ b0 b1 a (by simp) (by simp) (by simp) (by simp),cR o none true 93 _ b1 93 _ (by simp) (by simp) (by simp) (by simp),sF,aV rfl];have e:fU 93 93 (fU 93 b1 a)=a++[93,93]:=by simp [fU]
   rw [e];have u:(a++[93,93]).take ((a++[93,93]).length-2)=a:=by rw [fY,show a.length+[(93:UInt8),93].length-2=a.length from rfl,List.take_left' rfl]
   rw [u,aV l];rfl
  ·rename_i j;have n:oN.isPrefixOf (b::t)=false:=Bool.eq_false_iff.2 j;split at h
   ·rename_i g;subst g;have s:bE o none true (13::t) b0 b1 a=bE o none true t b1 13 (a++[10]):=by
     rw [cR o none true 13 t b0 b1 a (by simp) (by simp) (by simp) (by simp)];rfl
    rw [s];cases t with
    | nil=>exact uC o k [] b1 13 _ d r h ⟨fun _=>by simp,fun _ h=>by simp at h,fun h=>by simp at h⟩ (iF l)
    | cons c r2=>
     simp only at h;split at h
     ·rename_i i;subst i;rw [cR o none true 10 r2 b1 13 _ (by simp) (by simp) (by simp) (by simp),show fU 10 13 (a++[10])=a++[10] from rfl];exact uC o k r2 13 10 _ d r h (.of (by decide) (by decide)) (iF l)
     ·rename_i i;exact uC o k (c::r2) b1 13 _ d r h ⟨fun _ f=>i (by simpa using f),fun _ h=>by simp at h,fun h=>by simp at h⟩ (iF l)
   ·rename_i g;split at h
    ·cases h
    ·rename_i f;simp only [not_or] at f;obtain ⟨p,q,s,u,_,m⟩:=C8 o none yV true f.1 (by simpa using f.2) (b0:=b0) (b1:=b1) a (fun f=>v.e1 f.2.1 f.2.2.1 (by rw [f.2.2.2];rfl)) (by simp) (by simp) g (fun f=>v.cr f.1 (by rw [f.2];rfl)) (by simp);rw [s];refine uC o k _ p q _ d r h ?_ (by rw [jR l];exact u);rcases m with ⟨_,m,rfl,rfl⟩|⟨m,e4⟩
     ·rw [m];exact v.next g n
     ·exact .of m e4
theorem IH (o:cM):∀ (n:Nat) (rest:Bs),rest.length≤n→∀ (b0 b1:UInt8) (e d r:Bs),(b1=93→∃ y,e=y++[93])→(b0=93→b1=93→∃ y,e=y++[93,93])→bE o none true rest b0 b1 e=.ok (d,r)→∃ w,d++[93,93]=e++w∧(b1≠13→w.takeWhile gI=rest.takeWhile gI):=by
 intro n;induction n with
 | zero=>
  intro rest p b0 b1 e d r _ _ h;have:rest=[]:=tZ (by omega);subst this;rw [vX] at h;cases h
 | succ n ih=>
  intro rest p b0 b1 e d r v x h;cases rest with
  | nil=>rw [vX] at h;cases h
  | cons b t=>
   have m:t.length≤n:=by simp at p;omega
   have i:∀ {c:UInt8},c.toNat<128→∀ y:Bs,(c::y).takeWhile gI=[]:=fun {c} k y=>List.takeWhile_cons_of_neg (by unfold gI;simp;omega);by_cases j:b0=93∧b1=93∧b=62
   ·obtain ⟨rfl,rfl,rfl⟩:=j;obtain ⟨y,rfl⟩:=x rfl rfl;rw [sF,aV rfl] at h;have q:(y++[93,93]).take ((y++[93,93]).length-2)=y:=by rw [fY,show y.length+[(93:UInt8),93].length-2=y.length from rfl,List.take_left' rfl]
    rw [q] at h;split at h
    ·simp only [bT,bR] at h;exact ⟨[],by rw [h.1];simp,fun _=>(i (by decide) t).symm⟩
    ·cases h
   ·rw [cR o none true b t b0 b1 e (fun a=>j a.2) (by simp) (by simp) (by simp)] at h;unfold fU at h;by_cases f:b=13
    ·rw [aV f] at h;obtain ⟨w,l,_⟩:=ih t m b1 b _ d r (fun a=>by rw [f] at a;cases a) (fun _ a=>by rw [f] at a;cases a) h;refine ⟨10::w,by rw [l];simp,fun _=>?_⟩;rw [i (by rw [f];decide) t,i (by decide) w]
    ·rw [aN f] at h;by_cases g:b1=13∧b=10
     ·rw [aV g] at h;obtain ⟨w,l,_⟩:=ih t m b1 b _ d r (fun a=>by rw [g.2] at a;cases a) (fun _ a=>by rw [g.2] at a;cases a) h;exact ⟨w,l,fun a=>absurd g.1 a⟩
     ·rw [aN g] at h;obtain ⟨w,l,s⟩:=ih t m b1 b _ d r (fun a=>⟨e,by rw [a]⟩) (fun u a=>by obtain ⟨y,rfl⟩:=v u;exact ⟨y,by rw [a];simp⟩) h;refine ⟨b::w,by rw [l];simp,fun _=>?_⟩;by_cases k:gI b=true
      ·rw [List.takeWhile_cons_of_pos k,List.takeWhile_cons_of_pos k,s f]
      ·rw [List.takeWhile_cons_of_neg k,List.takeWhile_cons_of_neg k]
theorem XT {b:UInt8} {r:Bs} (h:(aI (b::r)).2=0∨cG (aI (b::r)).1=false):b≠93:=by
 rintro rfl;rw [kZ (by decide)] at h;rcases h with h|h
 ·cases h
 ·exact absurd h (by decide)
theorem q9 (o:cM):∀ (k:Nat) (rest:Bs) (b0 b1:UInt8) (a:Bs),fB k rest a=.error .bad→T3 rest b0 b1→bM a=true→∀ d r,bE o none true rest b0 b1 a≠.ok (d,r)
 | 0,_,_,_,_,h,_,_=>by unfold fB at h;cases h
 | k+1,[],b0,b1,a,h,_,i=>by intro d r;rw [vX];simp
 | k+1,b::t,b0,b1,a,h,u,i=>by
  intro d r;unfold fB at h;simp only at h;split at h
  ·cases h
  ·rename_i v;have l:oN.isPrefixOf (b::t)=false:=Bool.eq_false_iff.2 v;split at h
   ·rename_i f;subst f;have p:bE o none true (13::t) b0 b1 a=bE o none true t b1 13 (a++[10]):=by
     rw [cR o none true 13 t b0 b1 a (by simp) (by simp) (by simp) (by simp)];rfl
    rw [p];cases t with
    | nil=>exact q9 o k [] b1 13 _ h ⟨fun _=>by simp,fun _ h=>by simp at h,fun h=>by simp at h⟩ (iF i) d r
    | cons c r2=>
     simp only at h;split at h
     ·rename_i g;subst g;rw [cR o none true 10 r2 b1 13 _ (by simp) (by simp) (by simp) (by simp),show fU 10 13 (a++[10])=a++[10] from rfl];exact q9 o k r2 13 10 _ h (.of (by decide) (by decide)) (iF i) d r
     ·rename_i g;exact q9 o k (c::r2) b1 13 _ h ⟨fun _ e=>g (by simpa using e),fun _ h=>by simp at h,fun h=>by simp at h⟩ (iF i) d r
   ·rename_i f;have z:¬ ((none:Option UInt8)=none∧b0=93∧b1=93∧b=62):=fun e=>u.e1 e.2.1 e.2.2.1 (by rw [e.2.2.2];rfl);have A:¬ (b1=13∧b=10):=fun e=>u.cr e.1 (by rw [e.2];rfl);split at h
    ·rename_i e;intro q;have s:=wW o none true _ _ (dD _) _ _ _ _ _ q;rw [cR o none true b t b0 b1 a z (by simp) (by simp) (by simp),show fU b b1 a=a++[b] by unfold fU;rw [aN f,aN A]] at q;obtain ⟨w,C,x⟩:=IH o _ _ (dD _) b1 b _ d r (fun h=>absurd h (XT e)) (fun _ h=>absurd h (XT e)) q;have y:bM (d++[93,93])=true:=by rw [jR s];decide +kernel
     rw [C,r8,jR i,List.singleton_append,BJ e (x f)] at y;cases y
    ·rename_i e;simp only [not_or] at e;obtain ⟨m,n,p,B,_,j⟩:=C8 o none yV true e.1 (by simpa using e.2) (b0:=b0) (b1:=b1) a z (by simp) (by simp) f A (by simp);rw [p];refine q9 o k _ m n _ h ?_ (by rw [jR i];exact B) d r;rcases j with ⟨_,j,rfl,rfl⟩|⟨j,e4⟩
     ·rw [j];exact u.next f l
     ·exact .of j e4
theorem XU (o:cM) {ents:aP} (w:k8 o.ents ents) (q:UInt8) (u:q=34∨q=39):∀ (k:Nat) (rest:Bs) (b0 b1:UInt8) (a d r:Bs),qX ents q k rest a=.ok (d,r)→bM a=true→bE o (some q) false rest b0 b1 a=.ok (d,r)
 | 0,_,_,_,_,_,_,h,_=>by unfold qX at h;cases h
 | k+1,[],_,_,_,_,_,h,_=>by unfold qX at h;cases h
 | k+1,b::t,b0,b1,a,d,r,h,z=>by
  have v:∀ c,some q=some c→c.toNat<128:=fun c f=>by
   simp only [kD] at f;subst f;rcases u with rfl|rfl<;>decide
  unfold qX at h;simp only at h;split at h
  ·rename_i C;subst C;simp only [bT,bR] at h;obtain ⟨rfl,rfl⟩:=h;rw [wV o false b t b0 b1 a (by rcases u with rfl|rfl<;>simp),aV z]
  ·rename_i p;split at h
   ·cases h
   ·rename_i n;split at h
    ·cases h
    ·rename_i g;have m:b≠13:=fun f=>g (by rw [f];exact ⟨by decide,by decide⟩);have l:b≠10:=fun f=>g (by rw [f];exact ⟨by decide,by decide⟩);cases s:fW ents (b::t) with
     | error e=>rw [s] at h;cases h
     | ok x=>
      obtain ⟨y,D⟩:=x;rw [s] at h;simp only at h;obtain ⟨i,j,A,B,_,_⟩:=x4 o w (some q) v s (b0:=b0) (b1:=b1) a (by simp) n (fun f=>p (by simpa using f.symm)) m (fun f=>l f.2);rw [A];exact XU o w q u k D i j _ d r h (by rw [jR z];exact B)
theorem PL (o:cM) {ents:aP} (A:k8 o.ents ents) (n:o.strict=true) (l:qZ o) (q:UInt8) (C:q=34∨q=39):∀ (k:Nat) (rest:Bs) (b0 b1:UInt8) (a d r:Bs),qX ents q k rest a=.error .bad→bM a=true→bE o (some q) false rest b0 b1 a=.ok (d,r)→r=[]
 | 0,_,_,_,_,_,_,h,_,_=>by unfold qX at h;cases h
 | k+1,[],b0,b1,a,d,r,_,u,h=>by
  rw [kG,aN (by simp),aV u] at h;simp only [bT,bR] at h;exact h.2.symm
 | k+1,b::t,b0,b1,a,d,r,h,u,p=>by
  have m:∀ c,some q=some c→c.toNat<128:=fun c f=>by
   simp only [kD] at f;subst f;rcases C with rfl|rfl<;>decide
  unfold qX at h;simp only at h;split at h
  ·cases h
  ·rename_i B;split at h
   ·rename_i g;subst g;rw [yO,aN (by simp)] at p;cases p
   ·rename_i g;split at h
    ·cases h
    ·rename_i s;have j:b≠13:=fun f=>s (by rw [f];exact ⟨by decide,by decide⟩);have i:b≠10:=fun f=>s (by rw [f];exact ⟨by decide,by decide⟩);have D:some q≠some b:=fun f=>B (by simpa using f.symm);cases v:fW ents (b::t) with
     | error e=>
      rw [v] at h;simp only [Except.error.injEq] at h;subst h;exact absurd p (EV o A n l (some q) m v u (by simp) g D j (fun f=>i f.2) d r)
     | ok x=>
      obtain ⟨y,G⟩:=x;rw [v] at h;simp only at h;obtain ⟨w,z,E,F,_,_⟩:=x4 o A (some q) m v (b0:=b0) (b1:=b1) a (by simp) g D j (fun f=>i f.2);rw [E] at p;exact PL o A n l q C k G w z _ d r h (by rw [jR u];exact F) p
theorem C9 (f : Bool) : ∀ (rest : Bs), (∀ (b0 b1 : UInt8) (a : Bs), b1 ≠ 45 → bZ f rest b0 b1 a = match dY [45, 45] rest with
      | none=>.error (cE f)
      | some (_,[])=>.error (cE f)
      | some (s,c :: r)=>if c=62 then .ok (a ++ s,r) else .error .syn) ∧
    (∀ (b0:UInt8) (a:Bs),b0 ≠ 45 → bZ f rest b0 45 (a ++ [45])=match dY [45,45] (45 :: rest) with
      | none=>.error (cE f)
      | some (_,[])=>.error (cE f)
      | some (s,c :: r)=>if c=62 then .ok (a ++ s,r) else .error .syn)
  | []=>by
    refine ⟨fun b0 b1 a _=>by simp [bZ,dY],fun b0 a _=>?_⟩;simp [bZ,dY,List.isPrefixOf]
  | b :: r=>by
    obtain ⟨h,k⟩:=C9 f r;refine ⟨fun b0 b1 a i=>?_,fun b0 a i=>?_⟩
    · rw [bZ,aN (fun e=>i e.2)]
      by_cases d:b=45
      · subst d
        rw [k b1 a i]
      · rw [h b1 b _ d]
        have g:[45,45].isPrefixOf (b :: r)=false:=by
          simp only [List.isPrefixOf,Bool.and_eq_false_iff,lV];exact aH (fun e=>d e.symm)
        rw [dY,g];simp only [sS,if_false];cases dY [45,45] r with
        | none=>rfl
        | some x=>
          obtain ⟨s,l⟩:=x;cases l with
          | nil=>rfl
          | cons c l=>simp
    · rw [bZ,aN (fun e=>i e.1)]
      by_cases d:b=45
      · subst d
        have g:[45,45].isPrefixOf (45 :: 45 :: r)=true:=by simp [List.isPrefixOf]
        rw [dY,g,aV rfl];cases r with
        | nil=>simp [bZ]
        | cons c l=>
          rw [bZ,aV ⟨rfl,rfl⟩];simp
      · rw [h 45 b _ d]
        have g:[45,45].isPrefixOf (45 :: b :: r)=false:=by
          simp only [List.isPrefixOf,Bool.and_eq_false_iff,lV];exact aW (aH (fun e=>d e.symm))
        have j:[45,45].isPrefixOf (b :: r)=false:=by
          simp only [List.isPrefixOf,Bool.and_eq_false_iff,lV];exact aH (fun e=>d e.symm)
        rw [dY,g];simp only [sS,if_false];rw [dY,j];simp only [sS,if_false];cases dY [45,45] r with
        | none=>rfl
        | some x=>
          obtain ⟨s,l⟩:=x;cases l with
          | nil=>rfl
          | cons c l=>simp
theorem II {f:Bool} {rest s r:Bs} (h:dR rest=.ok (s,r)):bZ f rest 0 0 []=.ok (s,r):=by
 rw [(C9 f rest).1 0 0 [] (by decide)];unfold dR at h;cases b:dY [45,45] rest with
 | none=>rw [b] at h;cases h
 | some x=>
  obtain ⟨y,l⟩:=x;rw [b] at h;cases l with
  | nil=>cases h
  | cons c l=>
   simp only at h ⊢;split at h
   ·rename_i a;split at h
    ·simp only [bT,bR] at h;obtain ⟨rfl,rfl⟩:=h;rw [aV a];rfl
    ·cases h
   ·cases h
theorem EX {f:Bool} {rest:Bs} (h:dR rest=.error .bad) (d r:Bs):bZ f rest 0 0 []≠.ok (d,r):=by
 rw [(C9 f rest).1 0 0 [] (by decide)];unfold dR at h;cases b:dY [45,45] rest with
 | none=>simp
 | some x=>
  obtain ⟨y,l⟩:=x;rw [b] at h;cases l with
  | nil=>simp
  | cons c l=>
   simp only at h ⊢;split at h
   ·split at h<;>cases h
   ·rename_i a;rw [aN a];simp
theorem yW (f : Bool) : ∀ (rest : Bs), (∀ (b0 : UInt8) (a : Bs), b0 ≠ 63 → gH f rest b0 a = match dY [63, 62] rest with
      | none=>.error (cE f)
      | some (s,r)=>.ok (a ++ s,r)) ∧
    (∀ (a:Bs),gH f rest 63 (a ++ [63])=match dY [63,62] (63 :: rest) with
      | none=>.error (cE f)
      | some (s,r)=>.ok (a ++ s,r))
  | []=>by
    refine ⟨fun b0 a _=>by simp [gH,dY],fun a=>?_⟩;simp [gH,dY,List.isPrefixOf]
  | b :: r=>by
    obtain ⟨h,i⟩:=yW f r;refine ⟨fun b0 a k=>?_,fun a=>?_⟩
    · rw [gH,aN (fun d=>k d.1)]
      by_cases c:b=63
      · subst c
        rw [i a]
      · rw [h b _ c]
        have g:[63,62].isPrefixOf (b :: r)=false:=by
          simp only [List.isPrefixOf,Bool.and_eq_false_iff,lV];exact aH (fun d=>c d.symm)
        rw [dY,g];simp only [sS,if_false];cases dY [63,62] r with
        | none=>rfl
        | some x=>simp
    · rw [gH]
      by_cases e:b=62
      · subst e
        have g:[63,62].isPrefixOf (63 :: 62 :: r)=true:=by simp [List.isPrefixOf]
        rw [aV ⟨rfl,rfl⟩,dY,g,aV rfl];simp
      · rw [aN (fun d=>e d.2)]
        have g:[63,62].isPrefixOf (63 :: b :: r)=false:=by
          simp only [List.isPrefixOf,Bool.and_eq_false_iff,lV];exact aW (aH (fun d=>e d.symm))
        rw [dY,g];simp only [sS,if_false];by_cases c:b=63
        · subst c
          rw [i];cases dY [63,62] (63 :: r) with
          | none=>rfl
          | some x=>simp
        · rw [h b _ c]
          have j:[63,62].isPrefixOf (b :: r)=false:=by
            simp only [List.isPrefixOf,Bool.and_eq_false_iff,lV];exact aH (fun d=>c d.symm)
          rw [dY,j];simp only [sS,if_false];cases dY [63,62] r with
          | none=>rfl
          | some x=>simp
theorem mW {l:Bs} (h:eU l=true):bJ l=0∧(58:UInt8)∉l:=by
 unfold eU at h;simp only [G9,Bool.not_eq_true',beq_iff_eq] at h;refine ⟨h.2,fun a=>?_⟩;have:=h.1;rw [List.contains_iff_mem.2 a] at this;cases this
theorem uD {f:Bool} {rest:Bs} (h:bJ (aD rest).1=0):eE f rest=if (aD rest).2=[] then .error (cE f) else .ok (aD rest):=by
 obtain ⟨a,b,_⟩:=oP h;unfold eE;rw [aN a,aV b]
theorem BP {f:Bool} {rest:Bs} (h:bJ (aD rest).1=1) (x:Bs×Bs):eE f rest≠.ok x:=by
 have a:=uA h;unfold eE;split
 ·simp
 ·split
  ·simp
  ·rw [a];simp
theorem PM:(kW.all fun s=>CV s)=true:=by decide +kernel
theorem T4 (o:cM) {first:Bool} {rest f s r:Bs} (h:fV first rest=.ok ((f,s),r)):vL o rest=.ok (.proc f s,r):=by
 unfold fV at h;split at h
 ·cases h
 ·split at h
  ·cases h
  ·rename_i l;obtain ⟨k,_⟩:=mW (by simpa using l);split at h
   ·cases h
   ·rename_i y n a;split at h
    ·cases h
    ·rename_i e;simp only [bT,bR] at h;obtain ⟨⟨rfl,rfl⟩,rfl⟩:=h;have c:(aD rest).2≠[]:=fun b=>by rw [b] at a;simp [aT,dY] at a
     unfold vL;rw [uD k,aN c];simp only;rw [(yW o.fails (aT (aD rest).2)).1 0 [] (by decide),a];simp only [List.nil_append];rw [aN];rintro ⟨m,j⟩;simp only [not_or] at e;have g:xV (aD rest).1=true:=by rw [m];decide
     have i:first=true∧(aD rest).1=nA∧kW.contains y=true:=Classical.byContradiction fun b=>e.2.2 ⟨g,b⟩
     have d:=List.all_eq_true.1 PM y (List.contains_iff_mem.1 i.2.2);rw [j] at d;cases d
theorem EY (o:cM) {first:Bool} {rest:Bs} (h:fV first rest=.error .bad) (x:aO×Bs):vL o rest≠.ok x∧vL o rest≠.error .other:=by
 unfold fV at h;split at h
 ·rename_i c;unfold vL;cases a:eE o.fails rest with
  | error e=>
   refine ⟨by simp,?_⟩;unfold eE at a;intro d;simp only [Except.error.injEq] at d;subst d;repeat' split at a
   all_goals first
    | cases a
    | (simp only [Except.error.injEq] at a;unfold cE at a;split at a<;>cases a)
  | ok y=>exact absurd a (BP c y)
 ·split at h
  ·cases h
  ·rename_i a;obtain ⟨c,_⟩:=mW (by simpa using a);split at h
   ·rename_i f;unfold vL;rw [uD c];by_cases b:(aD rest).2=[]
    ·rw [aV b];exact ⟨by simp,by cases o.fails<;>simp [cE]⟩
    ·rw [aN b];simp only;rw [(yW o.fails (aT (aD rest).2)).1 0 [] (by decide),f];exact ⟨by simp,by cases o.fails<;>simp [cE]⟩
   ·split at h<;>cases h
def nG (c:UInt8):Bool:=c != 60&&c != 62&&c != 34&&c != 39
theorem BQ (f:Bool):∀ (s r a:Bs),(∀ c∈s,nG c=true)→dW f (s++62::r) 0 0 a=.ok (a++s,r)
 | [],r,a,_=>by rw [List.nil_append,dW];simp
 | c::s,r,a,h=>by
  have g:=h c (by simp);simp only [nG,G9,bne_iff_ne] at g;obtain ⟨⟨⟨i,e⟩,j⟩,k⟩:=g;have ih:=BQ f s r (a++[c]) (fun d l=>h d (by simp [l]));rw [jJ,dW,aN (fun b=>e b.2.1),fT.eq_def];split
  ·rename_i m;rw [ih];simp
  ·rw [aN (by simp),aN (fun b=>b.elim k j)];try rw [aN e,aN i]
   rw [ih];simp
theorem yX:∀ {l r:Bs},mP l=some r→∃ s,l=s++62::r∧∀ c∈s,nG c=true
 | [],r,h=>by cases h
 | b::l,r,h=>by
  unfold mP at h;split at h
  ·rename_i e;simp only [kD] at h;subst h;subst e;exact ⟨[],rfl,by simp⟩
  ·rename_i e;split at h
   ·cases h
   ·rename_i d;simp only [not_or] at d;obtain ⟨s,rfl,f⟩:=yX h;refine ⟨b::s,rfl,fun c a=>?_⟩;simp only [mH] at a;rcases a with rfl|a
    ·simp only [nG,G9,bne_iff_ne];exact ⟨⟨⟨d.1,e⟩,d.2.2.1⟩,d.2.2.2⟩
    ·exact f c a
theorem PN:∀ (l:Bs),∃ a,l=a++aT l∧∀ c∈a,mG c=true
 | []=>⟨[],rfl,by simp⟩
 | b::r=>by
  unfold aT;split
  ·rename_i g;obtain ⟨a,e,f⟩:=PN r;refine ⟨b::a,by rw [jJ,←e],fun c d=>?_⟩;simp only [mH] at d;rcases d with rfl|d
   ·exact g
   ·exact f c d
  ·exact ⟨[],rfl,by simp⟩
theorem PO {c:UInt8} (h:mG c=true):nG c=true:=by
 simp only [mG,Bool.or_eq_true,beq_iff_eq] at h;rcases h with ((rfl|rfl)|rfl)|rfl<;>decide
theorem PP {c:UInt8} (h:dC c=true):nG c=true:=by
 simp only [nG,G9,bne_iff_ne];refine ⟨⟨⟨?_,?_⟩,?_⟩,?_⟩<;>(rintro rfl;revert h;decide)
theorem YI (o:cM) {rest d r:Bs} (h:pR rest=.ok (d,r)):dW o.fails ([79,67,84,89,80,69]++rest) 0 0 [68]=.ok (sV++d,r):=by
 unfold pR at h;split at h
 ·cases h
 ·split at h
  ·cases h
  ·rename_i f p;split at h
   ·simp only [bT,bR] at h;obtain ⟨rfl,rfl⟩:=h;obtain ⟨a,i,j⟩:=PN rest;obtain ⟨k,l⟩:=qY (aT rest);obtain ⟨s,m,n⟩:=yX p;generalize (aD (aT rest)).1=w at *;have e:rest=(a++w++s)++62::f:=by rw [i,←k,m];simp
    have g:rest.take (rest.length-f.length-1)=a++w++s:=by
     rw [e,fY,gN,show (a++w++s).length+(f.length+1)-f.length-1=(a++w++s).length by omega,List.take_left' rfl]
    rw [g];have:=BQ o.fails ([79,67,84,89,80,69]++(a++w++s)) f [68] (fun c b=>by
     rw [List.mem_append] at b;rcases b with b|b
     ·revert c;decide
     ·rw [List.mem_append,List.mem_append] at b;rcases b with (b|b)|b
      ·exact PO (j c b)
      ·exact PP (l c b)
      ·exact n c b)
    rw [e,←r8];exact this
   ·cases h
theorem PQ {p:UInt8→Bool} {c:UInt8}:∀ {l:Bs},c∈l.takeWhile p→p c=true
 | [],h=>by cases h
 | b::r,h=>by
  by_cases a:p b=true
  ·rw [List.takeWhile_cons_of_pos a,mH] at h;rcases h with rfl|h
   ·exact a
   ·exact PQ h
  ·rw [List.takeWhile_cons_of_neg a] at h;cases h
theorem IJ {l p a:Bs} (h:jY l=some (p,a)):eP l=(p,a)∧eO l≤1:=by
 unfold jY at h;have f:l=l.takeWhile (· != 58)++l.dropWhile (· != 58):=List.takeWhile_append_dropWhile.symm;have i:((l.takeWhile (· != 58)).filter (·==58))=[]:=by
  rw [List.filter_eq_nil_iff];intro c d;have:=PQ d;simpa using this
 unfold eP eO;cases b:l.dropWhile (· != 58) with
 | nil=>
  rw [b] at h;simp only [kD,bR] at h;obtain ⟨rfl,rfl⟩:=h;refine ⟨rfl,?_⟩;rw [b,List.append_nil] at f;rw [f,i];simp
 | cons c y=>
  rw [b] at h;simp only at h;split at h
  ·cases h
  ·rename_i k;split at h
   ·cases h
   ·rename_i j;simp only [kD,bR] at h;obtain ⟨rfl,rfl⟩:=h;refine ⟨by simp only;rw [aN j],?_⟩;have g:y.filter (·==58)=[]:=by
     rw [List.filter_eq_nil_iff];intro c d e;have:c=58:=by simpa using e
     subst this;exact k (List.contains_iff_mem.2 d)
    conv=>lhs;rw [f,b,List.filter_append,i,List.nil_append]
    rw [List.filter_cons,g];split<;>simp
theorem nT {f:Bool} {rest r:Bs} {nm:Bs×Bs} (h:fZ rest=.ok (nm,r)):(r≠[]→cH f rest=.ok (nm,r))∧(r=[]→cH f rest=.error (cE f))∧nm.2≠[]∧r.length<rest.length:=by
 unfold fZ at h;split at h
 ·cases h
 ·rename_i m;split at h
  ·cases h
  ·rename_i n;have d:=XS n m;split at h
   ·cases h
   ·rename_i p l k;split at h
    ·cases h
    ·rename_i e;simp only [not_or] at e;simp only [bT,bR] at h;obtain ⟨rfl,rfl⟩:=h;obtain ⟨g,o⟩:=IJ k;obtain ⟨b,_,_⟩:=oP d;have j:l≠[]:=fun i=>e.1 (by rw [i];decide);have a:(aD rest).2.length<rest.length:=by
      have:=congrArg List.length (qY rest).1;rw [fY] at this;have:0<(aD rest).1.length:=List.length_pos_iff.2 b;omega
     refine ⟨fun c=>?_,fun c=>?_,j,a⟩
     ·unfold cH;rw [uD d,aN c];simp only;rw [aN (by omega),g]
     ·unfold cH;rw [uD d,aV c]
theorem yY {f:Bool} {rest:Bs} (h:fZ rest=.error .bad) (x:(Bs×Bs)×Bs):cH f rest≠.ok x:=by
 unfold fZ at h;split at h
 ·rename_i b;unfold cH;cases a:eE f rest with
  | error e=>simp
  | ok y=>exact absurd a (BP b y)
 ·split at h
  ·cases h
  ·split at h
   ·cases h
   ·split at h<;>cases h
end Go.Proofs.YthapcchcahnfaaaGreatDoor
