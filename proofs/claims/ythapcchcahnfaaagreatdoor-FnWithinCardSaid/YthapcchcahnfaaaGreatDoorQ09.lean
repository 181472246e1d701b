/- Part of the proof that laws.FnWithin returns true for every argument. No conditions. -/
import Derived.Test.YthapcchcahnfaaaGreatDoorQ03
import Derived.Test.YthapcchcahnfaaaGreatDoorQ04
import Derived.Test.YthapcchcahnfaaaGreatDoorQ02
set_option linter.all false
set_option maxHeartbeats 8000000
set_option maxRecDepth 100000
namespace Go.Proofs.YthapcchcahnfaaaGreatDoor
open Go Go.RowKit
theorem FY (x:Cx) (U:x.Ok) (w:World) (S:Below x.B x.W0 w) (n:Nat) (s:ByteArray) (hs:s.toList.isEmpty=false) (f:Array Value) (B:aJ w x.rd (uY x s n) 56) (A:aJ w x.rb f 5) (Q:f.size=4096)
   (P:s.size ≤ 1000000000) (hn:n ≤ 1000000000) (D:Int) (g:aJ w x.br (iH x 0 0 .nilIface D) 235) :
    Calls Tryz.prog 187 #[.pointer (some ⟨x.br,0,none⟩)] w fun e w'=>e=.returned (.tuple #[])∧sP x w s n f D w':=by
  have V:=g.cell;have X:=g.frozen;have d:=Lib.hid U;have R:=Lib.hid S;have H:=Lib.hid B;have G:=Lib.hid A;have F:=Lib.hid g;clear U S B A g;go_enter Tryz.func187,Tryz.ntmps187
  go_wp2;go_quiet (fail);have o:aK (fun k=>k=x.br) w (w.drewN nq):=(aK.refl _ w).drewN nq;have b:aJ (w.drewN nq) x.br (iH x 0 0 .nilIface D) 235:=F.out;have l:(w.drewN nq).heap.size=w.heap.size:=rfl;obtain ⟨w0,C⟩:∃ w0,w0=w.drewN nq:=⟨_,rfl⟩;rw [← C] at o b l ⊢;clear C V X;have k0:w0.cell? ⟨x.br,0,none⟩=some (.slice (some ⟨x.rb,0,none⟩) 4096 4096):=b.cell 0;have k1:w0.cell? ⟨x.br,1,none⟩=some (.iface 54 (.pointer (some ⟨x.rd,0,none⟩))):=b.cell 1;have k3:w0.cell? ⟨x.br,3,none⟩=some (.int .i64 0):=b.cell 3;have t:=Lib.hid (H.out.mod o (fun h=>d.out.ne5 h.symm));have r:=Lib.hid (G.out.mod o (fun h=>d.out.ne4 h.symm));have v:=Lib.hid (fun k=>BJ x d.out (w0.drewN k) (cL (aK.below R.out R.out.size o (fun i Z=>by subst Z;exact d.out.br)) k) n s hs f t.out r.out Q P hn);have q:=Lib.hid b;have I:=Lib.hid o;have J:=Lib.hid l;clear b o l;go_wp2;refine wp_loop_once ?_;go_wp2;have N:=fun a w=>oE a w;have T:=fun a w=>qX a w
  go_region_held3 (fun w'=>w'.cell? ⟨x.br,0,none⟩=some (.slice (some ⟨x.rb,0,none⟩) 4096 4096)∧w'.cell? ⟨x.br,1,none⟩=some (.iface 54 (.pointer (some ⟨x.rd,0,none⟩)))∧w'.cell? ⟨x.br,3,none⟩=some (.int .i64 0))
    (first
      | go_keep
      | (go_split_ands
         have O:=((show aJ (w0.drewN 1) x.br _ _ from q.out).mod p.mod (by intro h;rcases h with h|h;exact d.out.ne4 h;exact d.out.ne5 h)).cell;exact ⟨O 0,O 1,O 3⟩))
    (first
      | (go_at_call 170;refine (v.out 1).mono ?_;rintro e w1 ⟨m,rfl,p⟩))
  have c:aJ w1 x.br (iH x 0 0 .nilIface D) 235:=(show aJ (w0.drewN 1) x.br _ _ from q.out).mod p.mod (by intro h;rcases h with h|h;exact d.out.ne4 h;exact d.out.ne5 h);have W:=c.cell;have Y:=c.frozen;have E:=Lib.hid c;have j:=Lib.hid p;have aA:(m:Int) ≤ 4096:=by have:=p.m2;omega
  have aC:¬ ((m:Int) < 0):=by omega
  have a0:(0:Int) < (m:Int):=by have:=p.m1;omega
  clear c p k0 k1 k3;go_wp2;(try simp only [Exit.inBlock,Exit.then]);refine bodyPost_ret (results_none rfl _ _ _) rfl ?_
  have u:aJ (w1.setCell ⟨x.br,3,none⟩ (.int .i64 m)) x.br (iH x 0 m .nilIface D) 235:=E.out.set 3 _;have y:x.rb ≠ x.br:=fun h=>d.out.ne4 h.symm;have z:x.rd ≠ x.br:=fun h=>d.out.ne5 h.symm;refine ⟨rfl,m,j.out.m1,j.out.m2,j.out.m3,u,j.out.row.set_ne y _,?_,?_,?_⟩
  · obtain ⟨n',L,M⟩:=j.out.rd
    exact ⟨n',L,M.set_ne z _⟩
  · have L:aK (fun k=>k=x.br ∨ k=x.rb ∨ k=x.rd) (w0.drewN 1) w1:=j.out.mod.mono (fun i _ h=>by rcases h with h|h <;> simp [h])
    have M:aK (fun k=>k=x.br ∨ k=x.rb ∨ k=x.rd) w (w0.drewN 1):=(I.out.mono (fun i _ h=>aG h)).drewN 1;exact (M.trans L (fun _ _ h=>h)).setCell (aG (aG rfl)) _
  · have:=j.out.size
    simp [World.setCell];rw [this];exact J.out
end Go.Proofs.YthapcchcahnfaaaGreatDoor
namespace Go.Proofs.YthapcchcahnfaaaGreatDoor
open Go
theorem VW:((List.range 256).all fun r=>(!lJ r||fV r)&&(!rL r||iC r)&&(!(lJ r&&!rL r)||!iC r)&&(!(r<128&&!lJ r)||(!fV r&&!iC r)))=true:=by decide +kernel
theorem NA {r:Nat} (h:r<256):(lJ r=true→fV r=true)∧(rL r=true→iC r=true)∧(lJ r=true→rL r=false→iC r=false)∧(r<128→lJ r=false→fV r=false∧iC r=false):=by
 have e:=List.all_eq_true.1 VW r (List.mem_range.2 h);cases a:lJ r<;>cases b:rL r<;>cases c:fV r<;>cases d:iC r<;>simp_all<;>omega
theorem IX {r:Nat} (h:lJ r=true):r<256:=by
 simp only [lJ,rL,Bool.or_eq_true,FO,IN,beq_iff_eq,bne_iff_ne] at h;omega
theorem NB:∀ n,n<128→lJ n=cW (UInt8.ofNat n):=by decide +kernel
theorem AB {b:UInt8} (h:b.toNat<128):lJ b.toNat=cW b:=by
 rw [NB _ h];simp
theorem AC (l:Bs) (h:l≠[]):(aI l).2=0↔(dF l).1=65533∧(dF l).2=1:=by
 cases l with
 | nil=>exact absurd rfl h
 | cons b r=>
  have:=xI b r;unfold aI;split
  ·simp_all
  ·constructor
   ·omega
   ·intro a;simp_all
theorem wL (l:Bs) (h:¬ (aI l).2=0):aI l=dF l:=by
 by_cases a:(dF l).1=65533∧(dF l).2=1
 ·exact absurd (by unfold aI;rw [aT a]) h
 ·unfold aI;rw [aM a]
def Q8 (first:Bool):Nat→Bool:=if first then iC else fV
theorem DB:Q8 true=iC:=by unfold Q8;exact aT rfl
theorem IY:Q8 false=fV:=by unfold Q8;exact aM (by simp)
theorem BP:∀ (n:Nat) (first:Bool) (k:Nat) (l:Bs),hH n first k l=0→k=0∧(l.length≤n→eE (Q8 first) n l=true∧∀ b∈l,cW b=true)
 | 0,first,k,l,h=>by
  refine ⟨h,fun f=>?_⟩;have:l=[]:=tZ (by omega);subst this;exact ⟨rfl,by simp⟩
 | n+1,first,k,l,h=>by
  unfold hH at h;split at h
  ·rename_i f;subst f;exact ⟨h,fun _=>⟨by unfold eE;simp,by simp⟩⟩
  ·rename_i f;split at h
   ·omega
   ·rename_i v;split at h
    ·have:=(BP n false 1 _ h).1;omega
    ·rename_i m;obtain ⟨y,A⟩:=BP n false k _ h;have j:¬ (aI l).2=0:=fun e=>v (aG e);have a:lJ (aI l).1=true:=by
      cases e:lJ (aI l).1 with
      | true=>rfl
      | false=>exact absurd (aG e) m
     refine ⟨y,fun u=>?_⟩;have B:(aI l).2≤l.length∧1≤(aI l).2:=by
      cases l with
      | nil=>exact absurd rfl f
      | cons b r=>have:=xI b r;rw [wL _ j];omega
     obtain ⟨g,p⟩:=A (by rw [eO];omega);have q:=IX a;have s:=NA q;refine ⟨?_,fun b d=>?_⟩
     ·unfold eE;rw [aM f,aM (fun e=>j ((AC l f).2 e))];rw [wL l j] at a g m s;have z:Q8 first (dF l).1=true:=by
       cases first with
       | false=>rw [IY];exact s.1 a
       | true=>
        rw [DB];refine s.2.1 ?_;cases e:rL (dF l).1 with
        | true=>rfl
        | false=>exact absurd (aX ⟨rfl,e⟩) m
      rw [aT z];rw [IY] at g;exact g
     ·rw [←List.take_append_drop (aI l).2 l,List.mem_append] at d;rcases d with d|d
      ·cases l with
       | nil=>exact absurd rfl f
       | cons c r=>
        by_cases t:c.toNat<128
        ·rw [kD t] at d a;simp only [List.take_succ_cons,List.take_zero,List.mem_singleton] at d;subst d;rw [←AB t];exact a
        ·rcases oH (b:=c) (by omega) r with o|⟨x,k9,o,_,_,_,_,w⟩
         ·rw [o] at j;exact absurd rfl j
         ·rw [o] at d;simp only [List.take_succ_cons,l6] at d;have i:128≤b.toNat:=by
           rcases d with rfl|d
           ·omega
           ·have:=w b d;simp only [fZ,beq_iff_eq] at this;omega
          unfold cW;simp only [Bool.or_eq_true,IN];left;exact UInt8.le_iff_toNat_le.2 i
      ·exact p b d
theorem NC:∀ (n:Nat) (first:Bool) (k:Nat) (l:Bs),hH n first k l=1→l.length≤n→k=1∨eE (Q8 first) n l=false
 | 0,first,k,l,h,_=>aG h
 | n+1,first,k,l,h,o=>by
  unfold hH at h;split at h
  ·exact aG h
  ·rename_i g;split at h
   ·omega
   ·rename_i m;have j:¬ (aI l).2=0:=fun f=>m (aG f);have s:(aI l).2≤l.length∧1≤(aI l).2:=by
     cases l with
     | nil=>exact absurd rfl g
     | cons b r=>have:=xI b r;rw [wL _ j];omega
    have q:eE (Q8 first) (n+1) l=if Q8 first (aI l).1 then eE fV n (l.drop (aI l).2) else false:=by
     conv=>lhs;unfold eE
     rw [aM g,aM (fun f=>j ((AC l g).2 f)),wL l j]
    rw [q];split at h
    ·rename_i c;refine aX ?_;have p:Q8 first (aI l).1=false:=by
      cases a:lJ (aI l).1 with
      | true=>
       rcases c with c|⟨rfl,c⟩
       ·rw [a] at c;cases c
       ·rw [DB];exact (NA (IX a)).2.2.1 a c
      | false=>
       have i:(aI l).1<128:=by
        rcases Nat.lt_or_ge (aI l).1 128 with e|e
        ·exact e
        ·exact absurd (aX ⟨e,a⟩) m
       have:=(NA (r:=(aI l).1) (by omega)).2.2.2 i a;cases first
       ·rw [IY];exact this.1
       ·rw [DB];exact this.2
     rw [p];rfl
    ·rename_i c;rcases NC n false k _ h (by rw [eO];omega) with d|d
     ·exact aG d
     ·refine aX ?_;rw [IY] at d;rw [d];split<;>rfl
theorem nT {l:Bs} (h:bH l=0):l≠[]∧dB l=true∧∀ b∈l,cW b=true:=by
 unfold bH at h;obtain ⟨d,e⟩:=BP _ _ _ _ h;have c:l≠[]:=fun g=>by rw [aT g] at d;omega
 obtain ⟨a,f⟩:=e (dC _);rw [DB] at a;exact ⟨c,by unfold dB;rw [aM c];exact a,f⟩
theorem sR {l:Bs} (h:bH l=1):dB l=false:=by
 unfold dB;split
 ·rfl
 ·rename_i b;unfold bH at h;rw [aM b] at h;rcases NC _ _ _ _ h (dC _) with a|a
  ·omega
  ·rw [DB] at a;exact a
theorem FZ:∀ (n:Nat) (first:Bool) (k:Nat) (l:Bs),k≤1→hH n first k l≤2
 | 0,_,k,_,h=>by unfold hH;omega
 | n+1,first,k,l,h=>by
  unfold hH;repeat' split
  ·omega
  ·omega
  ·exact FZ n false 1 _ (by omega)
  ·exact FZ n false k _ h
theorem DD (l:Bs):bH l=0∨bH l=1∨bH l=2:=by
 have:=FZ l.length true (if l=[] then 1 else 0) l (by split<;>omega);unfold bH;omega
theorem AD {c:UInt8}:∀ {l a:Bs},iG c l=some a→l=a++c::l.drop (a.length+1)∧c∉a
 | [],a,h=>by simp [iG] at h
 | b::r,a,h=>by
  unfold iG at h;split at h
  ·rename_i d;simp only [kQ] at h;subst h;subst d;simp
  ·rename_i d;rw [Option.map_eq_some_iff] at h;obtain ⟨x,i,rfl⟩:=h;obtain ⟨e,f⟩:=AD i;refine ⟨?_,?_⟩
   ·rw [iZ,gF,List.drop_succ_cons,←e]
   ·simp only [l6,not_or];exact ⟨fun g=>d g.symm,f⟩
theorem wM {c:UInt8}:∀ (a r:Bs),c∉a→iG c (a++c::r)=some a
 | [],r,_=>by simp [iG]
 | b::a,r,h=>by
  simp only [l6,not_or] at h;rw [iZ,iG,aM (fun d=>h.1 d.symm),wM a r h.2];rfl
theorem IZ:∀ (a:Bs) (b:UInt8) (r:Bs),(∀ c∈a,cW c=true)→cW b=false→aD (a++b::r)=(a,b::r)
 | [],b,r,_,e=>by simp [aD,e]
 | c::a,b,r,h,e=>by
  rw [iZ,aD,aT (h c (by simp)),IZ a b r (fun d f=>h d (by simp [f])) e]
theorem pT:∀ (l:Bs),(aD l).1++(aD l).2=l∧∀ c∈(aD l).1,cW c=true
 | []=>by simp [aD]
 | b::r=>by
  unfold aD;split
  ·rename_i f;obtain ⟨d,e⟩:=pT r;refine ⟨by simp [d],fun c a=>?_⟩;simp only [l6] at a;rcases a with rfl|a
   ·exact f
   ·exact e c a
  ·simp
theorem ND (e:Bool):∀ (a:Bs) (b:UInt8) (r:Bs),(∀ c∈a,eW e c=true)→eW e b=false→bL e (a++b::r)=(a,b::r)
 | [],b,r,_,f=>by simp [bL,f]
 | c::a,b,r,h,f=>by
  rw [iZ,bL,aT (h c (by simp)),ND e a b r (fun d g=>h d (by simp [g])) f]
theorem I0 (a:Bool):∀ (l:Bs),(bL a l).1++(bL a l).2=l∧∀ c∈(bL a l).1,eW a c=true
 | []=>by simp [bL]
 | b::r=>by
  unfold bL;split
  ·rename_i g;obtain ⟨e,f⟩:=I0 a r;refine ⟨by simp [e],fun c d=>?_⟩;simp only [l6] at d;rcases d with rfl|d
   ·exact g
   ·exact f c d
  ·simp
def kE (o:Option (Bs→Option Bs)) (ents:aN):Prop:=∀ s,xA o s=eJ (oF++ents) s
theorem xJ:kE none []:=by
 intro s;unfold xA sB eJ oF;simp only [List.append_nil,List.find?];by_cases a:s=[108,116]
 ·subst a;rfl
 ·by_cases b:s=[103,116]
  ·subst b;rfl
  ·by_cases c:s=[97,109,112]
   ·subst c;rfl
   ·by_cases d:s=[97,112,111,115]
    ·subst d;rfl
    ·by_cases f:s=[113,117,111,116]
     ·subst f;rfl
     ·have e:∀ k:Bs,s≠k→(k==s)=false:=fun k h=>by
       rw [m6];exact fun g=>h g.symm
      rw [aM a,aM b,aM c,aM d,aM f,e _ a,e _ b,e _ c,e _ d,e _ f];rfl
def NE (a:Bool) (v:Nat) (c:Bs):Nat:=c.foldl (fun n b=>n*(if a then 16 else 10)+dW b) v
theorem xK (a:Bool):∀ (d:Bs) (n:Int) (v:Nat),(n=(v:Int)∧v≤1114111)∨(n=-1∧1114111<v)→(∀ c∈d,eW a c=true) →
  ∃ m,bQ a n d=some m∧((m=(NE a v d:Nat)∧NE a v d≤1114111)∨(m=-1∧1114111<NE a v d))
 | [],n,v,h,_=>⟨n,rfl,h⟩
 | b::d,n,v,h,f=>by
  unfold bQ;rw [aT (f b (by simp))];refine xK a d _ (v*(if a then 16 else 10)+dW b) ?_ (fun c g=>f c (by simp [g]));rcases h with ⟨rfl,h⟩|⟨rfl,h⟩
  ·rw [aT (Int.natCast_nonneg v)];by_cases e:(1114111:Int)<(v:Int)*(if a then 16 else 10)+dW b
   ·rw [aT e];refine aX ⟨rfl,?_⟩;cases a<;>simp at e ⊢<;>omega
   ·rw [aM e];refine aG ⟨?_,?_⟩
    ·cases a<;>simp
    ·cases a<;>simp at e ⊢<;>omega
  ·rw [aM (by omega),aM (by omega)];refine aX ⟨rfl,?_⟩;cases a<;>simp<;>omega
theorem xL (a:Bool):∀ (e:Bs) (n m:Int),bQ a n e=some m→∀ c∈e,eW a c=true
 | [],_,_,_,c,d=>by cases d
 | b::e,n,m,h,c,d=>by
  unfold bQ at h;split at h
  ·rename_i f;simp only [l6] at d;rcases d with rfl|d
   ·exact f
   ·exact xL a e _ m h c d
  ·cases h
theorem VX {a:Bool} {b:Bs} {n:Int} (h:bQ a 0 b=some n) (e:jB n=true):n.toNat=gC a b∧gC a b≤1114111:=by
 obtain ⟨m,c,d⟩:=xK a b 0 0 (aG ⟨rfl,by omega⟩) (xL a b 0 n h);rw [h] at c;simp only [kQ] at c;subst c;rcases d with ⟨rfl,d⟩|⟨rfl,_⟩
 ·exact ⟨by simp;rfl,d⟩
 ·simp [jB] at e
theorem U4 (a:Bool):eW a 59=false:=by cases a<;>decide
theorem AE {f b:Bool} {pre c:Bs} {n:Int} (h:bQ b 0 c=some n) (g:jB n=true) (d:c≠[]) (a:Bs):dO f b pre (c++59::a)=.ok (pre++c++[59],some (gH n.toNat),a):=by
 obtain ⟨e,i⟩:=VX h g;unfold dO;rw [ND b c 59 a (xL b c 0 n h) (U4 b)];simp only [if_true];rw [aM (by simp only [d,false_or];omega),e]
theorem U5 {l:Bs} (c:¬ bH l=2) (b:¬ bH l=1):bH l=0:=by
 rcases DD l with a|a|a
 ·exact a
 ·exact absurd a b
 ·exact absurd a c
theorem VY {f:Bool} {ents:aN} {o:Option (Bs→Option Bs)} {rest t r:Bs} (z:kE o ents) (h:jI ents rest=.ok (t,r)):∃ a,gR f o rest=.ok (a,some t,r):=by
 unfold jI at h;cases u:iG 59 rest with
 | none=>rw [u] at h;cases h
 | some nm=>
  rw [u] at h;cases nm with
  | nil=>cases h
  | cons c tl=>
   simp only at h;obtain ⟨b,A⟩:=AD u;rw [gF] at b;generalize rest.drop (tl.length+1+1)=after at b;have g:rest.drop (tl.length+2)=after:=by
    rw [b,iZ,List.drop_succ_cons,List.drop_append,t6 (by omega),List.nil_append,show tl.length+1-tl.length=1 by omega];rfl
   rw [g] at h;subst b;split at h
   ·rename_i l;subst l;cases e:iE tl with
    | none=>rw [e] at h;cases h
    | some n=>
     rw [e] at h;simp only at h;split at h
     ·rename_i w;simp only [bT,bP] at h;obtain ⟨rfl,rfl⟩:=h;unfold iE at e;cases tl with
      | nil=>cases e
      | cons d tl2=>
       simp only at e;unfold gR;simp only [iZ,if_true];split at e
       ·rename_i m;split at e
        ·cases e
        ·rename_i q;rw [aT m];have v:=AE (f:=f) (pre:=[38,35,120]) e w q after;cases j:tl2++59::after with
         | nil=>simp at j
         | cons y ys=>rw [j] at v;exact ⟨_,v⟩
       ·rename_i m;rw [aM m];exact ⟨_,AE (f:=f) (pre:=[38,35]) e w (by simp) after⟩
     ·cases h
   ·rename_i l;split at h
    ·cases h
    ·rename_i D;split at h
     ·cases h
     ·rename_i C;have B:bH (c::tl)=0:=U5 D C;obtain ⟨_,s,k⟩:=nT B;cases p:eJ (oF++ents) (c::tl) with
      | none=>rw [p] at h;cases h
      | some x=>
       rw [p] at h;simp only [bT,bP] at h;obtain ⟨rfl,rfl⟩:=h;have i:=IZ (c::tl) 59 after k (by decide);unfold gR;simp only [iZ] at i ⊢;rw [aM l,i];simp only [if_true];rw [aT s,z,p];exact ⟨_,rfl⟩
theorem RH {f:Bool} {ents:aN} {o:Option (Bs→Option Bs)} {rest a t r:Bs} (I:kE o ents) (h:gR f o rest=.ok (a,some t,r)):jI ents rest≠.error .bad:=by
 have u:∀ {g:Bool} {pre l:Bs},dO f g pre l=.ok (a,some t,r)→∃ i,i≠[]∧l=i++59::r∧(∀ c∈i,eW g c=true):=by
  intro g pre l j;obtain ⟨s,D⟩:=I0 g l;unfold dO at j;cases A:(bL g l).2 with
  | nil=>rw [A] at j;cases j
  | cons b after=>
   rw [A] at j s;simp only at j;split at j
   ·rename_i E;subst E;simp only [bT,bP] at j;obtain ⟨_,j,rfl⟩:=j;split at j
    ·cases j
    ·rename_i p;exact ⟨(bL g l).1,fun H=>p (aG H),s.symm,D⟩
   ·simp at j
 have q:∀ {g:Bool} {i:Bs},(∀ c∈i,eW g c=true)→∃ n,bQ g 0 i=some n:=by
  intro g i v;obtain ⟨m,s,_⟩:=xK g i 0 0 (aG ⟨rfl,by omega⟩) v;exact ⟨m,s⟩
 have z:∀ {g:Bool} {i:Bs},(∀ c∈i,eW g c=true)→(59:UInt8)∉i:=fun {g} {i} v j=>by
  have:=v 59 j;rw [U4] at this;cases this
 unfold gR at h;cases rest with
 | nil=>cases h
 | cons c r0=>
  simp only at h;split at h
  ·rename_i F;subst F;cases r0 with
   | nil=>cases h
   | cons d r2=>
    simp only at h;split at h
    ·rename_i v;subst v;cases r2 with
     | nil=>cases h
     | cons e r3=>
      simp only at h;obtain ⟨i,p,y,k⟩:=u h;obtain ⟨n,G⟩:=q k;have B:iG 59 (35::120::e::r3)=some (35::120::i):=by
       rw [y];exact wM (35::120::i) r (by simp only [l6,not_or];exact ⟨by decide,by decide,z k⟩)
      unfold jI;rw [B];simp only [if_true];have x:iE (120::i)=some n:=by unfold iE;simp only [if_true];rw [aM p];exact G
      rw [x];simp only;split<;>simp
    ·rename_i v;obtain ⟨i,p,y,k⟩:=u h;obtain ⟨n,G⟩:=q k;cases i with
     | nil=>exact absurd rfl p
     | cons d' ds'=>
      simp only [iZ,List.cons.injEq] at y;obtain ⟨rfl,y⟩:=y;have B:iG 59 (35::d::r2)=some (35::d::ds'):=by
       rw [y];exact wM (35::d::ds') r (by simp only [l6,not_or];have:=z k;simp only [l6,not_or] at this;exact ⟨by decide,this.1,this.2⟩)
      unfold jI;rw [B];simp only [if_true];have x:iE (d::ds')=some n:=by unfold iE;simp only;rw [aM v];exact G
      rw [x];simp only;split<;>simp
  ·rename_i F;obtain ⟨s,D⟩:=pT (c::r0);cases A:(aD (c::r0)).2 with
   | nil=>rw [A] at h;cases h
   | cons b after=>
    rw [A] at h s;simp only at h;split at h
    ·rename_i E;subst E;simp only [bT,bP] at h;obtain ⟨_,h,rfl⟩:=h;split at h
     ·rename_i w;generalize (aD (c::r0)).1=nm at *;cases nm with
      | nil=>simp [dB] at w
      | cons C nm'=>
       simp only [iZ,List.cons.injEq] at s;obtain ⟨rfl,s⟩:=s;have B:iG 59 (C::r0)=some (C::nm'):=by
        rw [←s];exact wM (C::nm') after (fun j=>by have:=D 59 j;simp [cW,jD] at this)
       unfold jI;rw [B];simp only;rw [aM F];split
       ·simp
       ·split
        ·rename_i J;rw [sR J] at w;cases w
        ·rw [I] at h;rw [h];simp
     ·cases h
    ·simp at h
theorem vD (o:cP) (q:Option UInt8) (g:Bool):∀ (n:Nat) (rest:Bs),rest.length≤n→∀ (b0 b1:UInt8) (c d r:Bs),bD o q g rest b0 b1 c=.ok (d,r)→bI d=true:=by
 intro n;induction n with
 | zero=>
  intro rest f b0 b1 c d r h;have:rest=[]:=tZ (by omega);subst this;unfold bD at h;split at h
  ·cases h
  ·split at h
   ·rename_i a;simp only [bT,bP] at h;rw [←h.1];exact a
   ·cases h
 | succ n ih=>
  intro rest f b0 b1 c d r h;cases rest with
  | nil=>
   unfold bD at h;split at h
   ·cases h
   ·split at h
    ·rename_i a;simp only [bT,bP] at h;rw [←h.1];exact a
    ·cases h
  | cons b t=>
   have j:t.length≤n:=by simp at f;omega
   unfold bD at h;split at h
   ·split at h
    ·split at h
     ·rename_i a;simp only [bT,bP] at h;rw [←h.1];exact a
     ·cases h
    ·cases h
   ·split at h
    ·split at h
     ·split at h
      ·rename_i a;simp only [bT,bP] at h;rw [←h.1];exact a
      ·cases h
     ·cases h
    ·split at h
     ·split at h
      ·rename_i a;simp only [bT,bP] at h;rw [←h.1];exact a
      ·cases h
     ·split at h
      ·split at h
       ·cases h
       ·rename_i e;have i:=gI e;exact ih _ (by omega) _ _ _ _ _ h
       ·rename_i e;have i:=gI e;split at h
        ·cases h
        ·exact ih _ (by omega) _ _ _ _ _ h
      ·exact ih _ j _ _ _ _ _ h
theorem KD (o:cP) (q:Option UInt8):∀ (n:Nat) (rest:Bs),rest.length≤n→∀ (b0 b1:UInt8) (c d r:Bs),bD o q false rest b0 b1 c=.ok (d,r)→∃ w,d=c++w:=by
 intro n;induction n with
 | zero=>
  intro rest g b0 b1 c d r h;have:rest=[]:=tZ (by omega);subst this;rw [jO] at h;simp only [rQ,if_false] at h;split at h
  ·simp only [bT,bP] at h;exact ⟨[],by simp [h.1]⟩
  ·cases h
 | succ n ih=>
  intro rest g b0 b1 c d r h;cases rest with
  | nil=>
   rw [jO] at h;simp only [rQ,if_false] at h;split at h
   ·simp only [bT,bP] at h;exact ⟨[],by simp [h.1]⟩
   ·cases h
  | cons b t=>
   have j:t.length≤n:=by simp at g;omega
   have a:∀ {x:Bs},(∃ w,d=(c++x)++w)→∃ w,d=c++w:=fun {x} ⟨w,k⟩=>⟨x++w,by rw [k,rR]⟩;unfold bD at h;split at h
   ·simp only [rQ,if_false] at h;cases h
   ·split at h
    ·split at h
     ·split at h
      ·simp only [bT,bP] at h;exact ⟨[],by simp [h.1]⟩
      ·cases h
     ·cases h
    ·split at h
     ·split at h
      ·simp only [bT,bP] at h;exact ⟨[],by simp [h.1]⟩
      ·cases h
     ·split at h
      ·split at h
       ·cases h
       ·rename_i f;have i:=gI f;exact a (ih _ (by omega) _ _ _ _ _ h)
       ·rename_i f;have i:=gI f;split at h
        ·cases h
        ·exact a (ih _ (by omega) _ _ _ _ _ h)
      ·have e:=ih _ j _ _ _ _ _ h;split at e
       ·exact a e
       ·split at e
        ·exact e
        ·exact a e
def pU (o:cP):Prop:=∀ l a t r,gR o.fails o.ents l=.ok (a,some t,r)→t≠[]∧t.takeWhile fZ=[]
theorem BQ {p:UInt8→Bool} {t:Bs} (h:t≠[]) (a:t.takeWhile p=[]) (y:Bs):(t++y).takeWhile p=[]:=by
 cases t with
 | nil=>exact absurd rfl h
 | cons c t=>
  by_cases b:p c=true
  ·rw [List.takeWhile_cons_of_pos b] at a;cases a
  ·rw [iZ,List.takeWhile_cons_of_neg b]
theorem KE (o:cP) (u:o.strict=true) (p:pU o) (q:Option UInt8) (C:∀ c,q=some c→c.toNat<128):∀ (n:Nat) (rest:Bs),rest.length≤n→∀ (b0 b1:UInt8) (e d r:Bs),b1≠13→bD o q false rest b0 b1 e=.ok (d,r)→∃ w,d=e++w∧w.takeWhile fZ=rest.takeWhile fZ:=by
 intro n;induction n with
 | zero=>
  intro rest v b0 b1 e d r _ h;have:rest=[]:=tZ (by omega);subst this;rw [jO] at h;simp only [rQ,if_false] at h;split at h
  ·simp only [bT,bP] at h;exact ⟨[],by simp [h.1],rfl⟩
  ·cases h
 | succ n ih=>
  intro rest v b0 b1 e d r m h;cases rest with
  | nil=>
   rw [jO] at h;simp only [rQ,if_false] at h;split at h
   ·simp only [bT,bP] at h;exact ⟨[],by simp [h.1],rfl⟩
   ·cases h
  | cons b t=>
   have A:t.length≤n:=by simp at v;omega
   have f:∀ {c:UInt8},c.toNat<128→∀ y:Bs,([]:Bs).takeWhile fZ=(c::y).takeWhile fZ:=fun {c} k y=>by
    rw [List.takeWhile_cons_of_neg (by unfold fZ;simp;omega)];rfl
   unfold bD at h;split at h
   ·rename_i j;simp only [rQ,if_false] at h;cases h
   ·split at h
    ·rename_i j;split at h
     ·split at h
      ·simp only [bT,bP] at h;exact ⟨[],by simp [h.1],f (by rw [j.1];decide) t⟩
      ·cases h
     ·cases h
    ·split at h
     ·rename_i s;split at h
      ·simp only [bT,bP] at h;exact ⟨[],by simp [h.1],f (C b s) t⟩
      ·cases h
     ·split at h
      ·rename_i j;split at h
       ·cases h
       ·rename_i a x E z;have D:=gI z;obtain ⟨w,i,_⟩:=ih _ (by omega) _ _ _ _ _ (by decide) h;obtain ⟨B,l⟩:=p _ _ _ _ z;refine ⟨x++w,by rw [i,rR],?_⟩;rw [BQ B l];exact f (by rw [j.1];decide) t
       ·first|cases h|(rw [aT u] at h;cases h)
      ·by_cases g:b=13
       ·rw [aT g] at h;have i:∃ w,d=e++[10]++w:=by
         have:=KD o q n t A b1 b (e++[10]) d r h;exact this
        obtain ⟨w,i⟩:=i;refine ⟨10::w,by rw [i];simp,?_⟩;rw [←f (by rw [g];decide) t,←f (by decide) w]
       ·rw [aM g,aM (fun j=>m j.1)] at h;obtain ⟨w,i,l⟩:=ih _ A _ _ _ _ _ g h;refine ⟨b::w,by rw [i];simp,?_⟩;by_cases k:fZ b=true
        ·rw [List.takeWhile_cons_of_pos k,List.takeWhile_cons_of_pos k,l]
        ·rw [List.takeWhile_cons_of_neg k,List.takeWhile_cons_of_neg k]
structure RI (rest:Bs) (b0 b1:UInt8):Prop where
 cr:b1=13→rest.head?≠some 10
 e1:b0=93→b1=93→rest.head?≠some 62
 e2:b1=93→[93,62].isPrefixOf rest=false
theorem RI.of {rest:Bs} {b0 b1:UInt8} (b:b1≠13) (a:b1≠93):RI rest b0 b1:=⟨fun h=>absurd h b,fun _ h=>absurd h a,fun h=>absurd h a⟩
theorem RI.next {b:UInt8} {r:Bs} {b0 b1:UInt8} (h:RI (b::r) b0 b1) (g:b≠13) (e:nR.isPrefixOf (b::r)=false):RI r b1 b:=by
 refine ⟨fun a=>absurd a g,fun f d a=>?_,fun d=>?_⟩
 ·subst d;have:=h.e2 f;cases r with
  | nil=>cases a
  | cons c r=>
   simp only [List.head?_cons,kQ] at a;subst a;simp [List.isPrefixOf] at this
 ·subst d;cases a:[93,62].isPrefixOf r with
  | false=>rfl
  | true=>rw [show nR.isPrefixOf (93::r)=[93,62].isPrefixOf r by simp [nR],a] at e;cases e
theorem xM (o:cP) (q:Option UInt8) (l:∀ c,q=some c→c.toNat<128) (j:Bool):∀ (i rest:Bs) (b0 b1:UInt8) (a:Bs),(∀ c∈i,128≤c.toNat)→128≤b1.toNat→∃ f e,128≤e.toNat∧bD o q j (i++rest) b0 b1 a=bD o q j rest f e (a++i)
 | [],rest,b0,b1,a,_,h=>⟨b0,b1,h,by simp⟩
 | c::i,rest,b0,b1,a,m,h=>by
  have r:=m c (by simp);have g:∀ k:UInt8,k.toNat<128→c≠k:=fun k t b=>by subst b;omega
  obtain ⟨f,e,n,p⟩:=xM o q l j i rest b1 c (a++[c]) (fun d s=>m d (by simp [s])) r;refine ⟨f,e,n,?_⟩;rw [iZ,cJ o q j c _ b0 b1 a (fun b=>g 62 (by decide) b.2.2.2) (fun b=>g 60 (by decide) b.1) (fun b=>by have:=l c b;omega) (fun b=>g 38 (by decide) b.1)];rw [show fK c b1 a=a++[c] by unfold fK;rw [aM (g 13 (by decide)),aM (fun b=>g 10 (by decide) b.2)],p];simp
theorem VZ {b:UInt8} (h:128≤b.toNat):b≠13∧b≠93:=by
 refine ⟨fun a=>?_,fun a=>?_⟩
 ·subst a;simp at h
 ·subst a;simp at h
theorem BR (o:cP) (q:Option UInt8) (y:∀ c,q=some c→c.toNat<128) (f:Bool) {b:UInt8} {r:Bs} (l:(aI (b::r)).2≠0) (u:bY (aI (b::r)).1=true) {b0 b1:UInt8} (a:Bs)
  (n:¬ (q=none∧b0=93∧b1=93∧b=62)) (p:¬ (b=60∧f=false)) (s:q≠some b) (z:b≠13) (A:¬ (b1=13∧b=10)) (t:¬ (b=38∧f=false)) :
  ∃ e d,bD o q f (b::r) b0 b1 a=bD o q f ((b::r).drop (aI (b::r)).2) e d (a++(b::r).take (aI (b::r)).2)∧bI ((b::r).take (aI (b::r)).2)=true∧((b::r).drop (aI (b::r)).2).length≤r.length ∧
   ((b.toNat<128∧(b::r).drop (aI (b::r)).2=r∧e=b1∧d=b)∨(d≠13∧d≠93)):=by
 obtain ⟨j,_⟩:=J8 u l;have g:fK b b1 a=a++[b]:=by unfold fK;rw [aM z,aM A]
 by_cases i:b.toNat<128
 ·refine ⟨b1,b,?_,j,?_,aG ⟨i,?_,rfl,rfl⟩⟩
  ·rw [kD i,cJ o q f b r b0 b1 a n p s t,g];simp
  ·rw [kD i];simp
  ·rw [kD i];simp
 ·rcases oH (b:=b) (by omega) r with h|⟨x,k,h,_,B,_,C,v⟩
  ·rw [h] at l;simp at l
  ·obtain ⟨e,d,w,m⟩:=xM o q y f (r.take k) (r.drop k) b1 b (a++[b]) (fun c j=>by have:=v c j;simp only [fZ,beq_iff_eq] at this;omega) (by omega);rw [List.take_append_drop] at m;refine ⟨e,d,?_,j,?_,aX (VZ w)⟩
   ·rw [h,cJ o q f b r b0 b1 a n p s t,g,m];simp
   ·rw [h];simp
theorem NF (o:cP) (f:o.strict=true) (e:pU o) (q:Option UInt8) (m:∀ c,q=some c→c.toNat<128) {b:UInt8} {r:Bs} (k:(aI (b::r)).2=0∨bY (aI (b::r)).1=false) {b0 b1:UInt8} {a:Bs} (l:bI a=true)
  (p:¬ (q=none∧b0=93∧b1=93∧b=62)) (s:¬ (b=60∧false=false)) (t:q≠some b) (j:b≠13) (u:¬ (b1=13∧b=10)) (v:¬ (b=38∧false=false)) (d x:Bs):bD o q false (b::r) b0 b1 a≠.ok (d,x):=by
 intro h;have i:=vD o q false _ _ (dC _) _ _ _ _ _ h;rw [cJ o q false b r b0 b1 a p s t v,show fK b b1 a=a++[b] by unfold fK;rw [aM j,aM u]] at h;obtain ⟨w,n,g⟩:=KE o f e q m _ _ (dC _) _ _ _ _ _ j h;rw [n,rR,jC l,List.singleton_append,AA k g] at i;cases i
theorem xN (ents:aN) {b:UInt8} (a:b≠38) (r:Bs):fN ents (b::r)=if (aI (b::r)).2=0∨bY (aI (b::r)).1=false then .error .bad else .ok ((b::r).take (aI (b::r)).2,(b::r).drop (aI (b::r)).2):=by
 rw [fN,aM a]
theorem AF (ents:aN) (r:Bs):fN ents (38::r)=match jI ents r with
  | .error e=>.error e
  | .ok (t,r2)=>if bI t then .ok (t,r2) else .error .opn:=by
 rw [fN,aT rfl];cases jI ents r<;>rfl
theorem wN (o:cP) {ents:aN} (s:kE o.ents ents) (q:Option UInt8) (v:∀ c,q=some c→c.toNat<128) {b:UInt8} {r t j:Bs} (h:fN ents (b::r)=.ok (t,j)) {b0 b1:UInt8} (g:Bs)
  (w:¬ (q=none∧b0=93∧b1=93∧b=62)) (y:b≠60) (p:q≠some b) (z:b≠13) (A:¬ (b1=13∧b=10)) :
  ∃ i d,bD o q false (b::r) b0 b1 g=bD o q false j i d (g++t)∧bI t=true∧j.length≤r.length∧((b.toNat<128∧j=r∧i=b1∧d=b)∨(d≠13∧d≠93)):=by
 by_cases k:b=38
 ·subst k;rw [AF] at h;cases m:jI ents r with
  | error e=>rw [m] at h;cases h
  | ok x=>
   obtain ⟨C,B⟩:=x;rw [m] at h;simp only at h;split at h
   ·rename_i u;simp only [bT,bP] at h;obtain ⟨rfl,rfl⟩:=h;obtain ⟨a,n⟩:=VY (f:=o.fails) s m;refine ⟨0,0,?_,u,gI n,aX ⟨by decide,by decide⟩⟩;rw [uD o q r b0 b1 g p,n]
   ·cases h
 ·rw [xN ents k] at h;split at h
  ·cases h
  ·rename_i l;simp only [not_or] at l;simp only [bT,bP] at h;obtain ⟨rfl,rfl⟩:=h;exact BR o q v false l.1 (by simpa using l.2) g w (fun h=>y h.1) p z A (fun h=>k h.1)
theorem DE (o:cP) {ents:aN} (n:kE o.ents ents) (g:o.strict=true) (k:pU o) (q:Option UInt8) (v:∀ c,q=some c→c.toNat<128) {b:UInt8} {r:Bs} (h:fN ents (b::r)=.error .bad) {b0 b1:UInt8} {f:Bs} (p:bI f=true)
  (w:¬ (q=none∧b0=93∧b1=93∧b=62)) (y:b≠60) (l:q≠some b) (z:b≠13) (A:¬ (b1=13∧b=10)) (d m:Bs):bD o q false (b::r) b0 b1 f≠.ok (d,m):=by
 by_cases j:b=38
 ·subst j;rw [AF] at h;have i:jI ents r=.error .bad:=by
   cases i:jI ents r with
   | error e=>rw [i] at h;simpa using h
   | ok x=>
    obtain ⟨C,B⟩:=x;rw [i] at h;simp only at h;split at h
    ·cases h
    ·cases h
  rw [uD o q r b0 b1 f l];cases u:gR o.fails o.ents r with
  | error e=>simp
  | ok x=>
   obtain ⟨a,t,B⟩:=x;cases t with
   | none=>simp only;rw [aT g];simp
   | some t=>exact absurd i (RH n u)
 ·rw [xN ents j] at h;split at h
  ·rename_i s;exact NF o g k q v s p w (fun h=>y h.1) l z A (fun h=>j h.1) d m
  ·cases h
theorem xO:∀ c:UInt8,(none:Option UInt8)=some c→c.toNat<128:=fun _ h=>by cases h
theorem DF {l:Bs} (h:nR.isPrefixOf l=true):∃ r,l=93::93::62::r:=by
 obtain ⟨r,a⟩:=List.isPrefixOf_iff_prefix.1 h;exact ⟨r,by rw [←a];rfl⟩
theorem gX {a:Bs} (h:bI a=true):bI (a++[10])=true:=by
 rw [jC h,uF (by decide),iO];decide
theorem sS (o:cP) {ents:aN} (l:kE o.ents ents):∀ (k:Nat) (rest:Bs) (b0 b1:UInt8) (a d r:Bs),dU ents k rest a=.ok (d,r)→RI rest b0 b1→bI a=true→bD o none false rest b0 b1 a=.ok (d,r)
 | 0,_,_,_,_,_,_,h,_,_=>by unfold dU at h;cases h
 | k+1,[],b0,b1,a,d,r,h,_,j=>by
  unfold dU at h;simp only [bT,bP] at h;obtain ⟨rfl,rfl⟩:=h;rw [jO,aM (by simp),aT j]
 | k+1,b::t,b0,b1,a,d,r,h,z,j=>by
  unfold dU at h;simp only at h;split at h
  ·rename_i C;subst C;simp only [bT,bP] at h;obtain ⟨rfl,rfl⟩:=h;rw [xH,aT rfl,aT j]
  ·rename_i v;split at h
   ·cases h
   ·rename_i A;have m:nR.isPrefixOf (b::t)=false:=Bool.eq_false_iff.2 A;split at h
    ·rename_i f;subst f;have s:bD o none false (13::t) b0 b1 a=bD o none false t b1 13 (a++[10]):=by
      rw [cJ o none false 13 t b0 b1 a (by simp) (by simp) (by simp) (by simp)];rfl
     rw [s];cases t with
     | nil=>exact sS o l k [] b1 13 _ d r h ⟨fun _=>by simp,fun _ h=>by simp at h,fun h=>by simp at h⟩ (gX j)
     | cons c n=>
      simp only at h;split at h
      ·rename_i i;subst i;rw [cJ o none false 10 n b1 13 _ (by simp) (by simp) (by simp) (by simp),show fK 10 13 (a++[10])=a++[10] from rfl];exact sS o l k n 13 10 _ d r h (.of (by decide) (by decide)) (gX j)
      ·rename_i i;exact sS o l k (c::n) b1 13 _ d r h ⟨fun _ g=>i (by simpa using g),fun _ h=>by simp at h,fun h=>by simp at h⟩ (gX j)
    ·rename_i f;cases w:fN ents (b::t) with
     | error e=>rw [w] at h;cases h
     | ok x=>
      obtain ⟨y,n⟩:=x;rw [w] at h;simp only at h;obtain ⟨p,q,s,B,_,u⟩:=wN o l none xO w (b0:=b0) (b1:=b1) a (fun g=>z.e1 g.2.1 g.2.2.1 (by rw [g.2.2.2];rfl)) v (by simp) f (fun g=>z.cr g.1 (by rw [g.2];rfl));rw [s];refine sS o l k n p q _ d r h ?_ (by rw [jC j];exact B);rcases u with ⟨_,rfl,rfl,rfl⟩|⟨u,e4⟩
      ·exact z.next f m
      ·exact .of u e4
theorem pV (o:cP) {ents:aN} (n:kE o.ents ents) (i:o.strict=true) (g:pU o):∀ (k:Nat) (rest:Bs) (b0 b1:UInt8) (a:Bs),dU ents k rest a=.error .bad→RI rest b0 b1→bI a=true→∀ d r,bD o none false rest b0 b1 a≠.ok (d,r)
 | 0,_,_,_,_,h,_,_=>by unfold dU at h;cases h
 | k+1,[],b0,b1,a,h,_,p=>by unfold dU at h;cases h
 | k+1,b::t,b0,b1,a,h,C,p=>by
  intro d r;unfold dU at h;simp only at h;split at h
  ·cases h
  ·rename_i q;split at h
   ·rename_i m;obtain ⟨H,D⟩:=DF m;simp only [List.cons.injEq] at D;obtain ⟨rfl,rfl⟩:=D;rw [cJ o none false 93 _ b0 b1 a (by simp) (by simp) (by simp) (by simp),cJ o none false 93 _ b1 93 _ (by simp) (by simp) (by simp) (by simp),qY];simp
   ·rename_i m;have s:nR.isPrefixOf (b::t)=false:=Bool.eq_false_iff.2 m;split at h
    ·rename_i f;subst f;have A:bD o none false (13::t) b0 b1 a=bD o none false t b1 13 (a++[10]):=by
      rw [cJ o none false 13 t b0 b1 a (by simp) (by simp) (by simp) (by simp)];rfl
     rw [A];cases t with
     | nil=>exact pV o n i g k [] b1 13 _ h ⟨fun _=>by simp,fun _ h=>by simp at h,fun h=>by simp at h⟩ (gX p) d r
     | cons c u=>
      simp only at h;split at h
      ·rename_i l;subst l;rw [cJ o none false 10 u b1 13 _ (by simp) (by simp) (by simp) (by simp),show fK 10 13 (a++[10])=a++[10] from rfl];exact pV o n i g k u 13 10 _ h (.of (by decide) (by decide)) (gX p) d r
      ·rename_i l;exact pV o n i g k (c::u) b1 13 _ h ⟨fun _ j=>l (by simpa using j),fun _ h=>by simp at h,fun h=>by simp at h⟩ (gX p) d r
    ·rename_i f;have E:¬ ((none:Option UInt8)=none∧b0=93∧b1=93∧b=62):=fun j=>C.e1 j.2.1 j.2.2.1 (by rw [j.2.2.2];rfl);have F:¬ (b1=13∧b=10):=fun j=>C.cr j.1 (by rw [j.2];rfl);cases v:fN ents (b::t) with
     | error e=>
      rw [v] at h;simp only [Except.error.injEq] at h;subst h;exact DE o n i g none xO v p E q (by simp) f F d r
     | ok x=>
      obtain ⟨y,u⟩:=x;rw [v] at h;simp only at h;obtain ⟨w,z,A,G,_,B⟩:=wN o n none xO v (b0:=b0) (b1:=b1) a E q (by simp) f F;rw [A];refine pV o n i g k u w z _ h ?_ (by rw [jC p];exact G) d r;rcases B with ⟨_,rfl,rfl,rfl⟩|⟨B,e4⟩
      ·exact C.next f s
      ·exact .of B e4
theorem uH (o:cP) (b0 b1:UInt8) (a:Bs):bD o none true [] b0 b1 a=.error (bW o.fails):=by rw [jO,aT rfl]
theorem sU (o:cP):∀ (k:Nat) (rest:Bs) (b0 b1:UInt8) (a d r:Bs),eP k rest a=.ok (d,r)→RI rest b0 b1→bI a=true→bD o none true rest b0 b1 a=.ok (d,r)
 | 0,_,_,_,_,_,_,h,_,_=>by unfold eP at h;cases h
 | k+1,[],b0,b1,a,d,r,h,_,l=>by unfold eP at h;cases h
 | k+1,b::t,b0,b1,a,d,r,h,v,l=>by
  unfold eP at h;simp only at h;split at h
  ·rename_i j;obtain ⟨x,w⟩:=DF j;simp only [List.cons.injEq] at w;obtain ⟨rfl,rfl⟩:=w;simp only [bT,bP] at h;obtain ⟨rfl,rfl⟩:=h;rw [cJ o none true 93 _ b0 b1 a (by simp) (by simp) (by simp) (by simp),cJ o none true 93 _ b1 93 _ (by simp) (by simp) (by simp) (by simp),qY,aT rfl];have e:fK 93 93 (fK 93 b1 a)=a++[93,93]:=by simp [fK]
   rw [e];have u:(a++[93,93]).take ((a++[93,93]).length-2)=a:=by rw [fU,show a.length+[(93:UInt8),93].length-2=a.length from rfl,List.take_left' rfl]
   rw [u,aT l];rfl
  ·rename_i j;have n:nR.isPrefixOf (b::t)=false:=Bool.eq_false_iff.2 j;split at h
   ·rename_i g;subst g;have s:bD o none true (13::t) b0 b1 a=bD o none true t b1 13 (a++[10]):=by
     rw [cJ o none true 13 t b0 b1 a (by simp) (by simp) (by simp) (by simp)];rfl
    rw [s];cases t with
    | nil=>exact sU o k [] b1 13 _ d r h ⟨fun _=>by simp,fun _ h=>by simp at h,fun h=>by simp at h⟩ (gX l)
    | cons c r2=>
     simp only at h;split at h
     ·rename_i i;subst i;rw [cJ o none true 10 r2 b1 13 _ (by simp) (by simp) (by simp) (by simp),show fK 10 13 (a++[10])=a++[10] from rfl];exact sU o k r2 13 10 _ d r h (.of (by decide) (by decide)) (gX l)
     ·rename_i i;exact sU o k (c::r2) b1 13 _ d r h ⟨fun _ f=>i (by simpa using f),fun _ h=>by simp at h,fun h=>by simp at h⟩ (gX l)
   ·rename_i g;split at h
    ·cases h
    ·rename_i f;simp only [not_or] at f;obtain ⟨p,q,s,u,_,m⟩:=BR o none xO true f.1 (by simpa using f.2) (b0:=b0) (b1:=b1) a (fun f=>v.e1 f.2.1 f.2.2.1 (by rw [f.2.2.2];rfl)) (by simp) (by simp) g (fun f=>v.cr f.1 (by rw [f.2];rfl)) (by simp);rw [s];refine sU o k _ p q _ d r h ?_ (by rw [jC l];exact u);rcases m with ⟨_,m,rfl,rfl⟩|⟨m,e4⟩
     ·rw [m];exact v.next g n
     ·exact .of m e4
theorem F0 (o:cP):∀ (n:Nat) (rest:Bs),rest.length≤n→∀ (b0 b1:UInt8) (e d r:Bs),(b1=93→∃ y,e=y++[93])→(b0=93→b1=93→∃ y,e=y++[93,93])→bD o none true rest b0 b1 e=.ok (d,r)→∃ w,d++[93,93]=e++w∧(b1≠13→w.takeWhile fZ=rest.takeWhile fZ):=by
 intro n;induction n with
 | zero=>
  intro rest p b0 b1 e d r _ _ h;have:rest=[]:=tZ (by omega);subst this;rw [uH] at h;cases h
 | succ n ih=>
  intro rest p b0 b1 e d r v x h;cases rest with
  | nil=>rw [uH] at h;cases h
  | cons b t=>
   have m:t.length≤n:=by simp at p;omega
   have i:∀ {c:UInt8},c.toNat<128→∀ y:Bs,(c::y).takeWhile fZ=[]:=fun {c} k y=>List.takeWhile_cons_of_neg (by unfold fZ;simp;omega);by_cases j:b0=93∧b1=93∧b=62
   ·obtain ⟨rfl,rfl,rfl⟩:=j;obtain ⟨y,rfl⟩:=x rfl rfl;rw [qY,aT rfl] at h;have q:(y++[93,93]).take ((y++[93,93]).length-2)=y:=by rw [fU,show y.length+[(93:UInt8),93].length-2=y.length from rfl,List.take_left' rfl]
    rw [q] at h;split at h
    ·simp only [bT,bP] at h;exact ⟨[],by rw [h.1];simp,fun _=>(i (by decide) t).symm⟩
    ·cases h
   ·rw [cJ o none true b t b0 b1 e (fun a=>j a.2) (by simp) (by simp) (by simp)] at h;unfold fK at h;by_cases f:b=13
    ·rw [aT f] at h;obtain ⟨w,l,_⟩:=ih t m b1 b _ d r (fun a=>by rw [f] at a;cases a) (fun _ a=>by rw [f] at a;cases a) h;refine ⟨10::w,by rw [l];simp,fun _=>?_⟩;rw [i (by rw [f];decide) t,i (by decide) w]
    ·rw [aM f] at h;by_cases g:b1=13∧b=10
     ·rw [aT g] at h;obtain ⟨w,l,_⟩:=ih t m b1 b _ d r (fun a=>by rw [g.2] at a;cases a) (fun _ a=>by rw [g.2] at a;cases a) h;exact ⟨w,l,fun a=>absurd g.1 a⟩
     ·rw [aM g] at h;obtain ⟨w,l,s⟩:=ih t m b1 b _ d r (fun a=>⟨e,by rw [a]⟩) (fun u a=>by obtain ⟨y,rfl⟩:=v u;exact ⟨y,by rw [a];simp⟩) h;refine ⟨b::w,by rw [l];simp,fun _=>?_⟩;by_cases k:fZ b=true
      ·rw [List.takeWhile_cons_of_pos k,List.takeWhile_cons_of_pos k,s f]
      ·rw [List.takeWhile_cons_of_neg k,List.takeWhile_cons_of_neg k]
theorem U6 {b:UInt8} {r:Bs} (h:(aI (b::r)).2=0∨bY (aI (b::r)).1=false):b≠93:=by
 rintro rfl;rw [kD (by decide)] at h;rcases h with h|h
 ·cases h
 ·exact absurd h (by decide)
theorem pW (o:cP):∀ (k:Nat) (rest:Bs) (b0 b1:UInt8) (a:Bs),eP k rest a=.error .bad→RI rest b0 b1→bI a=true→∀ d r,bD o none true rest b0 b1 a≠.ok (d,r)
 | 0,_,_,_,_,h,_,_=>by unfold eP at h;cases h
 | k+1,[],b0,b1,a,h,_,i=>by intro d r;rw [uH];simp
 | k+1,b::t,b0,b1,a,h,u,i=>by
  intro d r;unfold eP at h;simp only at h;split at h
  ·cases h
  ·rename_i v;have l:nR.isPrefixOf (b::t)=false:=Bool.eq_false_iff.2 v;split at h
   ·rename_i f;subst f;have p:bD o none true (13::t) b0 b1 a=bD o none true t b1 13 (a++[10]):=by
     rw [cJ o none true 13 t b0 b1 a (by simp) (by simp) (by simp) (by simp)];rfl
    rw [p];cases t with
    | nil=>exact pW o k [] b1 13 _ h ⟨fun _=>by simp,fun _ h=>by simp at h,fun h=>by simp at h⟩ (gX i) d r
    | cons c r2=>
     simp only at h;split at h
     ·rename_i g;subst g;rw [cJ o none true 10 r2 b1 13 _ (by simp) (by simp) (by simp) (by simp),show fK 10 13 (a++[10])=a++[10] from rfl];exact pW o k r2 13 10 _ h (.of (by decide) (by decide)) (gX i) d r
     ·rename_i g;exact pW o k (c::r2) b1 13 _ h ⟨fun _ e=>g (by simpa using e),fun _ h=>by simp at h,fun h=>by simp at h⟩ (gX i) d r
   ·rename_i f;have z:¬ ((none:Option UInt8)=none∧b0=93∧b1=93∧b=62):=fun e=>u.e1 e.2.1 e.2.2.1 (by rw [e.2.2.2];rfl);have A:¬ (b1=13∧b=10):=fun e=>u.cr e.1 (by rw [e.2];rfl);split at h
    ·rename_i e;intro q;have s:=vD o none true _ _ (dC _) _ _ _ _ _ q;rw [cJ o none true b t b0 b1 a z (by simp) (by simp) (by simp),show fK b b1 a=a++[b] by unfold fK;rw [aM f,aM A]] at q;obtain ⟨w,C,x⟩:=F0 o _ _ (dC _) b1 b _ d r (fun h=>absurd h (U6 e)) (fun _ h=>absurd h (U6 e)) q;have y:bI (d++[93,93])=true:=by rw [jC s];decide +kernel
     rw [C,rR,jC i,List.singleton_append,AA e (x f)] at y;cases y
    ·rename_i e;simp only [not_or] at e;obtain ⟨m,n,p,B,_,j⟩:=BR o none xO true e.1 (by simpa using e.2) (b0:=b0) (b1:=b1) a z (by simp) (by simp) f A (by simp);rw [p];refine pW o k _ m n _ h ?_ (by rw [jC i];exact B) d r;rcases j with ⟨_,j,rfl,rfl⟩|⟨j,e4⟩
     ·rw [j];exact u.next f l
     ·exact .of j e4
theorem U7 (o:cP) {ents:aN} (w:kE o.ents ents) (q:UInt8) (u:q=34∨q=39):∀ (k:Nat) (rest:Bs) (b0 b1:UInt8) (a d r:Bs),pS ents q k rest a=.ok (d,r)→bI a=true→bD o (some q) false rest b0 b1 a=.ok (d,r)
 | 0,_,_,_,_,_,_,h,_=>by unfold pS at h;cases h
 | k+1,[],_,_,_,_,_,h,_=>by unfold pS at h;cases h
 | k+1,b::t,b0,b1,a,d,r,h,z=>by
  have v:∀ c,some q=some c→c.toNat<128:=fun c f=>by
   simp only [kQ] at f;subst f;rcases u with rfl|rfl<;>decide
  unfold pS at h;simp only at h;split at h
  ·rename_i C;subst C;simp only [bT,bP] at h;obtain ⟨rfl,rfl⟩:=h;rw [vA o false b t b0 b1 a (by rcases u with rfl|rfl<;>simp),aT z]
  ·rename_i p;split at h
   ·cases h
   ·rename_i n;split at h
    ·cases h
    ·rename_i g;have m:b≠13:=fun f=>g (by rw [f];exact ⟨by decide,by decide⟩);have l:b≠10:=fun f=>g (by rw [f];exact ⟨by decide,by decide⟩);cases s:fN ents (b::t) with
     | error e=>rw [s] at h;cases h
     | ok x=>
      obtain ⟨y,D⟩:=x;rw [s] at h;simp only at h;obtain ⟨i,j,A,B,_,_⟩:=wN o w (some q) v s (b0:=b0) (b1:=b1) a (by simp) n (fun f=>p (by simpa using f.symm)) m (fun f=>l f.2);rw [A];exact U7 o w q u k D i j _ d r h (by rw [jC z];exact B)
theorem NG (o:cP) {ents:aN} (A:kE o.ents ents) (n:o.strict=true) (l:pU o) (q:UInt8) (C:q=34∨q=39):∀ (k:Nat) (rest:Bs) (b0 b1:UInt8) (a d r:Bs),pS ents q k rest a=.error .bad→bI a=true→bD o (some q) false rest b0 b1 a=.ok (d,r)→r=[]
 | 0,_,_,_,_,_,_,h,_,_=>by unfold pS at h;cases h
 | k+1,[],b0,b1,a,d,r,_,u,h=>by
  rw [jO,aM (by simp),aT u] at h;simp only [bT,bP] at h;exact h.2.symm
 | k+1,b::t,b0,b1,a,d,r,h,u,p=>by
  have m:∀ c,some q=some c→c.toNat<128:=fun c f=>by
   simp only [kQ] at f;subst f;rcases C with rfl|rfl<;>decide
  unfold pS at h;simp only at h;split at h
  ·cases h
  ·rename_i B;split at h
   ·rename_i g;subst g;rw [xH,aM (by simp)] at p;cases p
   ·rename_i g;split at h
    ·cases h
    ·rename_i s;have j:b≠13:=fun f=>s (by rw [f];exact ⟨by decide,by decide⟩);have i:b≠10:=fun f=>s (by rw [f];exact ⟨by decide,by decide⟩);have D:some q≠some b:=fun f=>B (by simpa using f.symm);cases v:fN ents (b::t) with
     | error e=>
      rw [v] at h;simp only [Except.error.injEq] at h;subst h;exact absurd p (DE o A n l (some q) m v u (by simp) g D j (fun f=>i f.2) d r)
     | ok x=>
      obtain ⟨y,G⟩:=x;rw [v] at h;simp only at h;obtain ⟨w,z,E,F,_,_⟩:=wN o A (some q) m v (b0:=b0) (b1:=b1) a (by simp) g D j (fun f=>i f.2);rw [E] at p;exact NG o A n l q C k G w z _ d r h (by rw [jC u];exact F) p
theorem BS (f : Bool) : ∀ (rest : Bs), (∀ (b0 b1 : UInt8) (a : Bs), b1 ≠ 45 → bR f rest b0 b1 a = match dM [45, 45] rest with
      | none=>.error (bW f)
      | some (_,[])=>.error (bW f)
      | some (s,c :: r)=>if c=62 then .ok (a ++ s,r) else .error .syn) ∧
    (∀ (b0:UInt8) (a:Bs),b0 ≠ 45 → bR f rest b0 45 (a ++ [45])=match dM [45,45] (45 :: rest) with
      | none=>.error (bW f)
      | some (_,[])=>.error (bW f)
      | some (s,c :: r)=>if c=62 then .ok (a ++ s,r) else .error .syn)
  | []=>by
    refine ⟨fun b0 b1 a _=>by simp [bR,dM],fun b0 a _=>?_⟩;simp [bR,dM,List.isPrefixOf]
  | b :: r=>by
    obtain ⟨h,k⟩:=BS f r;refine ⟨fun b0 b1 a i=>?_,fun b0 a i=>?_⟩
    · rw [bR,aM (fun e=>i e.2)]
      by_cases d:b=45
      · subst d
        rw [k b1 a i]
      · rw [h b1 b _ d]
        have g:[45,45].isPrefixOf (b :: r)=false:=by
          simp only [List.isPrefixOf,Bool.and_eq_false_iff,m6];exact aG (fun e=>d e.symm)
        rw [dM,g];simp only [rQ,if_false];cases dM [45,45] r with
        | none=>rfl
        | some x=>
          obtain ⟨s,l⟩:=x;cases l with
          | nil=>rfl
          | cons c l=>simp
    · rw [bR,aM (fun e=>i e.1)]
      by_cases d:b=45
      · subst d
        have g:[45,45].isPrefixOf (45 :: 45 :: r)=true:=by simp [List.isPrefixOf]
        rw [dM,g,aT rfl];cases r with
        | nil=>simp [bR]
        | cons c l=>
          rw [bR,aT ⟨rfl,rfl⟩];simp
      · rw [h 45 b _ d]
        have g:[45,45].isPrefixOf (45 :: b :: r)=false:=by
          simp only [List.isPrefixOf,Bool.and_eq_false_iff,m6];exact aX (aG (fun e=>d e.symm))
        have j:[45,45].isPrefixOf (b :: r)=false:=by
          simp only [List.isPrefixOf,Bool.and_eq_false_iff,m6];exact aG (fun e=>d e.symm)
        rw [dM,g];simp only [rQ,if_false];rw [dM,j];simp only [rQ,if_false];cases dM [45,45] r with
        | none=>rfl
        | some x=>
          obtain ⟨s,l⟩:=x;cases l with
          | nil=>rfl
          | cons c l=>simp
theorem F1 {f:Bool} {rest s r:Bs} (h:dJ rest=.ok (s,r)):bR f rest 0 0 []=.ok (s,r):=by
 rw [(BS f rest).1 0 0 [] (by decide)];unfold dJ at h;cases b:dM [45,45] rest with
 | none=>rw [b] at h;cases h
 | some x=>
  obtain ⟨y,l⟩:=x;rw [b] at h;cases l with
  | nil=>cases h
  | cons c l=>
   simp only at h ⊢;split at h
   ·rename_i a;split at h
    ·simp only [bT,bP] at h;obtain ⟨rfl,rfl⟩:=h;rw [aT a];rfl
    ·cases h
   ·cases h
theorem DG {f:Bool} {rest:Bs} (h:dJ rest=.error .bad) (d r:Bs):bR f rest 0 0 []≠.ok (d,r):=by
 rw [(BS f rest).1 0 0 [] (by decide)];unfold dJ at h;cases b:dM [45,45] rest with
 | none=>simp
 | some x=>
  obtain ⟨y,l⟩:=x;rw [b] at h;cases l with
  | nil=>simp
  | cons c l=>
   simp only at h ⊢;split at h
   ·split at h<;>cases h
   ·rename_i a;rw [aM a];simp
theorem xP (f : Bool) : ∀ (rest : Bs), (∀ (b0 : UInt8) (a : Bs), b0 ≠ 63 → fY f rest b0 a = match dM [63, 62] rest with
      | none=>.error (bW f)
      | some (s,r)=>.ok (a ++ s,r)) ∧
    (∀ (a:Bs),fY f rest 63 (a ++ [63])=match dM [63,62] (63 :: rest) with
      | none=>.error (bW f)
      | some (s,r)=>.ok (a ++ s,r))
  | []=>by
    refine ⟨fun b0 a _=>by simp [fY,dM],fun a=>?_⟩;simp [fY,dM,List.isPrefixOf]
  | b :: r=>by
    obtain ⟨h,i⟩:=xP f r;refine ⟨fun b0 a k=>?_,fun a=>?_⟩
    · rw [fY,aM (fun d=>k d.1)]
      by_cases c:b=63
      · subst c
        rw [i a]
      · rw [h b _ c]
        have g:[63,62].isPrefixOf (b :: r)=false:=by
          simp only [List.isPrefixOf,Bool.and_eq_false_iff,m6];exact aG (fun d=>c d.symm)
        rw [dM,g];simp only [rQ,if_false];cases dM [63,62] r with
        | none=>rfl
        | some x=>simp
    · rw [fY]
      by_cases e:b=62
      · subst e
        have g:[63,62].isPrefixOf (63 :: 62 :: r)=true:=by simp [List.isPrefixOf]
        rw [aT ⟨rfl,rfl⟩,dM,g,aT rfl];simp
      · rw [aM (fun d=>e d.2)]
        have g:[63,62].isPrefixOf (63 :: b :: r)=false:=by
          simp only [List.isPrefixOf,Bool.and_eq_false_iff,m6];exact aX (aG (fun d=>e d.symm))
        rw [dM,g];simp only [rQ,if_false];by_cases c:b=63
        · subst c
          rw [i];cases dM [63,62] (63 :: r) with
          | none=>rfl
          | some x=>simp
        · rw [h b _ c]
          have j:[63,62].isPrefixOf (b :: r)=false:=by
            simp only [List.isPrefixOf,Bool.and_eq_false_iff,m6];exact aG (fun d=>c d.symm)
          rw [dM,j];simp only [rQ,if_false];cases dM [63,62] r with
          | none=>rfl
          | some x=>simp
theorem l7 {l:Bs} (h:eL l=true):bH l=0∧(58:UInt8)∉l:=by
 unfold eL at h;simp only [FO,Bool.not_eq_true',beq_iff_eq] at h;refine ⟨h.2,fun a=>?_⟩;have:=h.1;rw [List.contains_iff_mem.2 a] at this;cases this
theorem sV {f:Bool} {rest:Bs} (h:bH (aD rest).1=0):dV f rest=if (aD rest).2=[] then .error (bW f) else .ok (aD rest):=by
 obtain ⟨a,b,_⟩:=nT h;unfold dV;rw [aM a,aT b]
theorem AG {f:Bool} {rest:Bs} (h:bH (aD rest).1=1) (x:Bs×Bs):dV f rest≠.ok x:=by
 have a:=sR h;unfold dV;split
 ·simp
 ·split
  ·simp
  ·rw [a];simp
theorem NH:(kA.all fun s=>BF s)=true:=by decide +kernel
theorem RJ (o:cP) {first:Bool} {rest f s r:Bs} (h:fL first rest=.ok ((f,s),r)):tY o rest=.ok (.proc f s,r):=by
 unfold fL at h;split at h
 ·cases h
 ·split at h
  ·cases h
  ·rename_i l;obtain ⟨k,_⟩:=l7 (by simpa using l);split at h
   ·cases h
   ·rename_i y n a;split at h
    ·cases h
    ·rename_i e;simp only [bT,bP] at h;obtain ⟨⟨rfl,rfl⟩,rfl⟩:=h;have c:(aD rest).2≠[]:=fun b=>by rw [b] at a;simp [aQ,dM] at a
     unfold tY;rw [sV k,aM c];simp only;rw [(xP o.fails (aQ (aD rest).2)).1 0 [] (by decide),a];simp only [List.nil_append];rw [aM];rintro ⟨m,j⟩;simp only [not_or] at e;have g:wF (aD rest).1=true:=by rw [m];decide
     have i:first=true∧(aD rest).1=mM∧kA.contains y=true:=Classical.byContradiction fun b=>e.2.2 ⟨g,b⟩
     have d:=List.all_eq_true.1 NH y (List.contains_iff_mem.1 i.2.2);rw [j] at d;cases d
theorem DH (o:cP) {first:Bool} {rest:Bs} (h:fL first rest=.error .bad) (x:aU×Bs):tY o rest≠.ok x∧tY o rest≠.error .other:=by
 unfold fL at h;split at h
 ·rename_i c;unfold tY;cases a:dV o.fails rest with
  | error e=>
   refine ⟨by simp,?_⟩;unfold dV at a;intro d;simp only [Except.error.injEq] at d;subst d;repeat' split at a
   all_goals first
    | cases a
    | (simp only [Except.error.injEq] at a;unfold bW at a;split at a<;>cases a)
  | ok y=>exact absurd a (AG c y)
 ·split at h
  ·cases h
  ·rename_i a;obtain ⟨c,_⟩:=l7 (by simpa using a);split at h
   ·rename_i f;unfold tY;rw [sV c];by_cases b:(aD rest).2=[]
    ·rw [aT b];exact ⟨by simp,by cases o.fails<;>simp [bW]⟩
    ·rw [aM b];simp only;rw [(xP o.fails (aQ (aD rest).2)).1 0 [] (by decide),f];exact ⟨by simp,by cases o.fails<;>simp [bW]⟩
   ·split at h<;>cases h
def mS (c:UInt8):Bool:=c != 60&&c != 62&&c != 34&&c != 39
theorem AH (f:Bool):∀ (s r a:Bs),(∀ c∈s,mS c=true)→dL f (s++62::r) 0 0 a=.ok (a++s,r)
 | [],r,a,_=>by rw [List.nil_append,dL];simp
 | c::s,r,a,h=>by
  have g:=h c (by simp);simp only [mS,FO,bne_iff_ne] at g;obtain ⟨⟨⟨i,e⟩,j⟩,k⟩:=g;have ih:=AH f s r (a++[c]) (fun d l=>h d (by simp [l]));rw [iZ,dL,aM (fun b=>e b.2.1),fJ.eq_def];split
  ·rename_i m;rw [ih];simp
  ·rw [aM (by simp),aM (fun b=>b.elim k j)];try rw [aM e,aM i]
   rw [ih];simp
theorem xQ:∀ {l r:Bs},lX l=some r→∃ s,l=s++62::r∧∀ c∈s,mS c=true
 | [],r,h=>by cases h
 | b::l,r,h=>by
  unfold lX at h;split at h
  ·rename_i e;simp only [kQ] at h;subst h;subst e;exact ⟨[],rfl,by simp⟩
  ·rename_i e;split at h
   ·cases h
   ·rename_i d;simp only [not_or] at d;obtain ⟨s,rfl,f⟩:=xQ h;refine ⟨b::s,rfl,fun c a=>?_⟩;simp only [l6] at a;rcases a with rfl|a
    ·simp only [mS,FO,bne_iff_ne];exact ⟨⟨⟨d.1,e⟩,d.2.2.1⟩,d.2.2.2⟩
    ·exact f c a
theorem NI:∀ (l:Bs),∃ a,l=a++aQ l∧∀ c∈a,lR c=true
 | []=>⟨[],rfl,by simp⟩
 | b::r=>by
  unfold aQ;split
  ·rename_i g;obtain ⟨a,e,f⟩:=NI r;refine ⟨b::a,by rw [iZ,←e],fun c d=>?_⟩;simp only [l6] at d;rcases d with rfl|d
   ·exact g
   ·exact f c d
  ·exact ⟨[],rfl,by simp⟩
theorem NJ {c:UInt8} (h:lR c=true):mS c=true:=by
 simp only [lR,Bool.or_eq_true,beq_iff_eq] at h;rcases h with ((rfl|rfl)|rfl)|rfl<;>decide
theorem NK {c:UInt8} (h:cW c=true):mS c=true:=by
 simp only [mS,FO,bne_iff_ne];refine ⟨⟨⟨?_,?_⟩,?_⟩,?_⟩<;>(rintro rfl;revert h;decide)
theorem V0 (o:cP) {rest d r:Bs} (h:oZ rest=.ok (d,r)):dL o.fails ([79,67,84,89,80,69]++rest) 0 0 [68]=.ok (rM++d,r):=by
 unfold oZ at h;split at h
 ·cases h
 ·split at h
  ·cases h
  ·rename_i f p;split at h
   ·simp only [bT,bP] at h;obtain ⟨rfl,rfl⟩:=h;obtain ⟨a,i,j⟩:=NI rest;obtain ⟨k,l⟩:=pT (aQ rest);obtain ⟨s,m,n⟩:=xQ p;generalize (aD (aQ rest)).1=w at *;have e:rest=(a++w++s)++62::f:=by rw [i,←k,m];simp
    have g:rest.take (rest.length-f.length-1)=a++w++s:=by
     rw [e,fU,gF,show (a++w++s).length+(f.length+1)-f.length-1=(a++w++s).length by omega,List.take_left' rfl]
    rw [g];have:=AH o.fails ([79,67,84,89,80,69]++(a++w++s)) f [68] (fun c b=>by
     rw [List.mem_append] at b;rcases b with b|b
     ·revert c;decide
     ·rw [List.mem_append,List.mem_append] at b;rcases b with (b|b)|b
      ·exact NJ (j c b)
      ·exact NK (l c b)
      ·exact n c b)
    rw [e,←rR];exact this
   ·cases h
theorem NL {p:UInt8→Bool} {c:UInt8}:∀ {l:Bs},c∈l.takeWhile p→p c=true
 | [],h=>by cases h
 | b::r,h=>by
  by_cases a:p b=true
  ·rw [List.takeWhile_cons_of_pos a,l6] at h;rcases h with rfl|h
   ·exact a
   ·exact NL h
  ·rw [List.takeWhile_cons_of_neg a] at h;cases h
theorem F2 {l p a:Bs} (h:jH l=some (p,a)):eG l=(p,a)∧eF l≤1:=by
 unfold jH at h;have f:l=l.takeWhile (· != 58)++l.dropWhile (· != 58):=List.takeWhile_append_dropWhile.symm;have i:((l.takeWhile (· != 58)).filter (·==58))=[]:=by
  rw [List.filter_eq_nil_iff];intro c d;have:=NL d;simpa using this
 unfold eG eF;cases b:l.dropWhile (· != 58) with
 | nil=>
  rw [b] at h;simp only [kQ,bP] at h;obtain ⟨rfl,rfl⟩:=h;refine ⟨rfl,?_⟩;rw [b,List.append_nil] at f;rw [f,i];simp
 | cons c y=>
  rw [b] at h;simp only at h;split at h
  ·cases h
  ·rename_i k;split at h
   ·cases h
   ·rename_i j;simp only [kQ,bP] at h;obtain ⟨rfl,rfl⟩:=h;refine ⟨by simp only;rw [aM j],?_⟩;have g:y.filter (·==58)=[]:=by
     rw [List.filter_eq_nil_iff];intro c d e;have:c=58:=by simpa using e
     subst this;exact k (List.contains_iff_mem.2 d)
    conv=>lhs;rw [f,b,List.filter_append,i,List.nil_append]
    rw [List.filter_cons,g];split<;>simp
theorem nC {f:Bool} {rest r:Bs} {nm:Bs×Bs} (h:fP rest=.ok (nm,r)):(r≠[]→bZ f rest=.ok (nm,r))∧(r=[]→bZ f rest=.error (bW f))∧nm.2≠[]∧r.length<rest.length:=by
 unfold fP at h;split at h
 ·cases h
 ·rename_i m;split at h
  ·cases h
  ·rename_i n;have d:=U5 n m;split at h
   ·cases h
   ·rename_i p l k;split at h
    ·cases h
    ·rename_i e;simp only [not_or] at e;simp only [bT,bP] at h;obtain ⟨rfl,rfl⟩:=h;obtain ⟨g,o⟩:=F2 k;obtain ⟨b,_,_⟩:=nT d;have j:l≠[]:=fun i=>e.1 (by rw [i];decide);have a:(aD rest).2.length<rest.length:=by
      have:=congrArg List.length (pT rest).1;rw [fU] at this;have:0<(aD rest).1.length:=List.length_pos_iff.2 b;omega
     refine ⟨fun c=>?_,fun c=>?_,j,a⟩
     ·unfold bZ;rw [sV d,aM c];simp only;rw [aM (by omega),g]
     ·unfold bZ;rw [sV d,aT c]
theorem xR {f:Bool} {rest:Bs} (h:fP rest=.error .bad) (x:(Bs×Bs)×Bs):bZ f rest≠.ok x:=by
 unfold fP at h;split at h
 ·rename_i b;unfold bZ;cases a:dV f rest with
  | error e=>simp
  | ok y=>exact absurd a (AG b y)
 ·split at h
  ·cases h
  ·split at h
   ·cases h
   ·split at h<;>cases h
theorem I1 (o:cP) {ents:aN} (n:kE o.ents ents) {rest r:Bs} {a:cV} (h:eH ents rest=.ok (a,r)):fC o rest=.ok (a,r):=by
 unfold eH at h;cases g:fP rest with
 | error e=>rw [g] at h;cases h
 | ok x=>
  obtain ⟨nm,l⟩:=x;rw [g] at h;obtain ⟨t,_,_,_⟩:=nC (f:=o.fails) g;cases c:aQ l with
  | nil=>simp only [c] at h;cases h
  | cons b r2=>
   simp only [c] at h;have i:l≠[]:=fun s=>by rw [s] at c;cases c
   unfold fC;rw [t i];simp only [c];split at h
   ·rename_i p;rw [aT p];cases d:aQ r2 with
    | nil=>rw [d] at h;cases h
    | cons q r3=>
     rw [d] at h;simp only at h;split at h
     ·rename_i k;cases j:pS ents q (r3.length+1) r3 [] with
      | error e=>rw [j] at h;cases h
      | ok y=>
       obtain ⟨v,u⟩:=y;rw [j] at h;simp only [bT,bP] at h;obtain ⟨rfl,rfl⟩:=h;have m:=U7 o n q k _ _ 0 0 [] v u j iO;unfold cK;simp only;rw [aT k,m]
     ·cases h
   ·cases h
theorem NM (o:cP) {ents:aN} (w:kE o.ents ents) (d:o.strict=true) (m:pU o) {rest r:Bs} {a:cV} (h:eH ents rest=.error .bad) (c:fC o rest=.ok (a,r)):r=[]:=by
 unfold eH at h;cases j:fP rest with
 | error e=>
  rw [j] at h;simp only [Except.error.injEq] at h;subst h;unfold fC at c;cases t:bZ o.fails rest with
  | error e=>rw [t] at c;cases c
  | ok x=>exact absurd t (xR j x)
 | ok x=>
  obtain ⟨nm,u⟩:=x;rw [j] at h;obtain ⟨A,B,_,_⟩:=nC (f:=o.fails) j;unfold fC at c;by_cases g:u=[]
  ·rw [B g] at c;cases c
  ·rw [A g] at c;cases s:aQ u with
   | nil=>simp only [s] at c;cases c
   | cons b r2=>
    simp only [s] at h c;split at h
    ·rename_i l;rw [aT l] at c;cases i:aQ r2 with
     | nil=>rw [i] at c;simp [cK] at c
     | cons q r3=>
      rw [i] at h c;simp only at h;unfold cK at c;simp only at c;split at h
      ·rename_i k;rw [aT k] at c;cases p:pS ents q (r3.length+1) r3 [] with
       | ok y=>rw [p] at h;cases h
       | error e=>
        rw [p] at h;simp only [Except.error.injEq] at h;subst h;cases n:bD o (some q) false r3 0 0 [] with
        | error e=>rw [n] at c;cases c
        | ok z=>
         obtain ⟨v,C⟩:=z;rw [n] at c;simp only [bT,bP] at c;obtain ⟨_,rfl⟩:=c;exact NG o w d m q k _ _ 0 0 [] v C p iO n
      ·rename_i k;rw [aM k,aT d] at c;cases c
    ·rename_i l;rw [aM l,aT d] at c;cases c
theorem DI (o:cP) {ents:aN} (j:kE o.ents ents):∀ (k:Nat) (rest:Bs) (acc d:List cV) (em:Bool) (r:Bs),dD ents k rest acc=.ok (d,em,r)→cI o k rest acc=.ok (d,em,r)
 | 0,_,_,_,_,_,h=>by unfold dD at h;cases h
 | k+1,rest,acc,d,em,r,h=>by
  unfold dD at h;unfold cI;cases l:aQ rest with
  | nil=>simp only [l] at h;cases h
  | cons b t=>
   simp only [l] at h ⊢;split at h
   ·rename_i m;subst m;simp only [bT,bP] at h;obtain ⟨rfl,rfl,rfl⟩:=h;rw [aM (by decide),aT rfl]
   ·rename_i g;split at h
    ·rename_i f;rw [aT f];cases t with
     | nil=>cases h
     | cons c t2=>
      simp only at h ⊢;split at h
      ·rename_i n;rw [aT n];simp only [bT,bP] at h ⊢;exact h
      ·cases h
    ·rename_i f;rw [aM f,aM g];cases i:eH ents (b::t) with
     | error e=>rw [i] at h;cases h
     | ok x=>
      obtain ⟨a,p⟩:=x;rw [i] at h;rw [I1 o j i];simp only at h ⊢;split at h
      ·cases h
      ·split at h
       ·cases h
       ·exact DI o j k p _ d em r h
theorem AI (o:cP) {ents:aN} (l:kE o.ents ents) (g:o.strict=true) (f:pU o):∀ (k:Nat) (rest:Bs) (acc:List cV),dD ents k rest acc=.error .bad→∀ x,cI o k rest acc≠.ok x
 | 0,_,_,h=>by unfold dD at h;cases h
 | k+1,rest,acc,h=>by
  intro x;unfold dD at h;unfold cI;cases q:aQ rest with
  | nil=>simp
  | cons b t=>
   simp only [q] at h ⊢;split at h
   ·cases h
   ·rename_i j;split at h
    ·rename_i d;rw [aT d];cases t with
     | nil=>simp
     | cons c t2=>
      simp only at h ⊢;split at h
      ·cases h
      ·rename_i n;rw [aM n];simp
    ·rename_i d;rw [aM d,aM j];cases i:eH ents (b::t) with
     | error e=>
      rw [i] at h;simp only [Except.error.injEq] at h;subst h;cases p:fC o (b::t) with
      | error e=>simp
      | ok y=>
       obtain ⟨a,m⟩:=y;have:=NM o l g f i p;subst this;simp only;cases k with
       | zero=>unfold cI;simp
       | succ k=>unfold cI;simp [aQ]
     | ok y=>
      obtain ⟨a,m⟩:=y;rw [i] at h;rw [I1 o l i];simp only at h ⊢;split at h
      ·cases h
      ·split at h
       ·cases h
       ·exact AI o l g f k m _ h x
end Go.Proofs.YthapcchcahnfaaaGreatDoor
