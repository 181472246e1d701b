/- Part of the proof that laws.FnWithin returns true for every argument. No conditions. -/
import Derived.Test.YthapcchcahnfaaaGreatDoorQ03
import Derived.Test.YthapcchcahnfaaaGreatDoorQ02
import Derived.Test.YthapcchcahnfaaaGreatDoorQ10
set_option linter.all false
set_option maxHeartbeats 8000000
set_option maxRecDepth 100000
namespace Go.Proofs.YthapcchcahnfaaaGreatDoor
open Go Go.RowKit
theorem F3 (x:Cx) (Y:x.Ok) (w:World) (W:Below x.B x.W0 w) (n:Nat) (s:ByteArray) (hs:s.toList.isEmpty=false) (g:Array Value) (C:aJ w x.rd (uY x s n) 56) (B:aJ w x.rb g 5) (S:g.size=4096)
   (R:s.size ≤ 1000000000) (hn:n ≤ 1000000000) (E:Int) (j:aJ w x.br (iH x 4096 4096 .nilIface E) 235) :
    Calls Tryz.prog 187 #[.pointer (some ⟨x.br,0,none⟩)] w fun e w'=>e=.returned (.tuple #[])∧sP x w s n g E w':=by
  have F:=j.cell;have hf:=j.frozen;have f:=Lib.hid Y;have V:=Lib.hid W;have J:=Lib.hid C;have I:=Lib.hid B;have H:=Lib.hid j;clear Y W C B j;have T:w.cell? ⟨x.br,0,none⟩=some (.slice (some ⟨x.rb,0,none⟩) 4096 4096):=F 0;have k2:w.cell? ⟨x.br,2,none⟩=some (.int .i64 4096):=F 2;have U:w.cell? ⟨x.br,3,none⟩=some (.int .i64 4096):=F 3;clear F;go_enter Tryz.func187,Tryz.ntmps187
  go_wp2
  go_region_held3 (fun w'=>w'.cell? ⟨x.br,0,none⟩=some (.slice (some ⟨x.rb,0,none⟩) 4096 4096)∧w'.cell? ⟨x.br,2,none⟩=some (.int .i64 4096)∧w'.cell? ⟨x.br,3,none⟩=some (.int .i64 4096))
    (go_keep)
    (first
      | (refine jY rfl (.tmp 13) (.tmp 26) 81 81 rfl 5 Tryz.underlying81 pR _ _ _ _ _ _ rfl rfl (by simp) ?_))
  go_wp2;go_region
  go_wp2;go_quiet (fail);obtain ⟨w0,d⟩:∃ w0,w0=((w.setCell ⟨x.br,3,none⟩ (.int .i64 0)).setCell ⟨x.br,2,none⟩ (.int .i64 0)).drew.drew.drewN nq:=⟨_,rfl⟩;have u:aK (fun k=>k=x.br) w w0:=by
    rw [d];exact ((((aK.refl (fun k=>k=x.br) w).setCell (p:=⟨x.br,3,none⟩) (aG rfl) _).setCell (p:=⟨x.br,2,none⟩) (aG rfl) _).drew.drew.drewN nq)
  have b:aJ w0 x.br (iH x 0 0 .nilIface E) 235:=by
    rw [d];exact (H.out.set 3 _).set 2 _
  have D:w0.heap.size=w.heap.size:=by rw [d];simp [World.setCell]
  rw [show (((w.setCell ⟨x.br,3,none⟩ (.int .i64 0)).setCell ⟨x.br,2,none⟩ (.int .i64 0)).drew.drew.drewN nq)=w0 from d.symm];clear d hf T k2 U;have T:w0.cell? ⟨x.br,0,none⟩=some (.slice (some ⟨x.rb,0,none⟩) 4096 4096):=b.cell 0;have k1:w0.cell? ⟨x.br,1,none⟩=some (.iface 54 (.pointer (some ⟨x.rd,0,none⟩))):=b.cell 1;have U:w0.cell? ⟨x.br,3,none⟩=some (.int .i64 0):=b.cell 3;have t:=Lib.hid (J.out.mod u (fun h=>f.out.ne5 h.symm));have r:=Lib.hid (I.out.mod u (fun h=>f.out.ne4 h.symm));have y:=Lib.hid (fun k=>BJ x f.out (w0.drewN k) (cL (aK.below V.out V.out.size u (fun i hi=>by subst hi;exact f.out.br)) k) n s hs g t.out r.out S R hn);have q:=Lib.hid b;have L:=Lib.hid u;have M:=Lib.hid D;clear b u D;go_wp2;refine wp_loop_once ?_;go_wp2;have P:=fun a w=>oE a w;have X:=fun a w=>qX a w
  go_region_held3 (fun w'=>w'.cell? ⟨x.br,0,none⟩=some (.slice (some ⟨x.rb,0,none⟩) 4096 4096)∧w'.cell? ⟨x.br,1,none⟩=some (.iface 54 (.pointer (some ⟨x.rd,0,none⟩)))∧w'.cell? ⟨x.br,3,none⟩=some (.int .i64 0))
    (first
      | go_keep
      | (go_split_ands
         have Q:=((show aJ (w0.drewN 1) x.br _ _ from q.out).mod o.mod (by intro h;rcases h with h|h;exact f.out.ne4 h;exact f.out.ne5 h)).cell;exact ⟨Q 0,Q 1,Q 3⟩))
    (first
      | (go_at_call 170;refine (y.out 1).mono ?_;rintro e w1 ⟨m,rfl,o⟩))
  have c:aJ w1 x.br (iH x 0 0 .nilIface E) 235:=(show aJ (w0.drewN 1) x.br _ _ from q.out).mod o.mod (by intro h;rcases h with h|h;exact f.out.ne4 h;exact f.out.ne5 h);have Z:=c.cell;have aA:=c.frozen;have G:=Lib.hid c;have l:=Lib.hid o;have aC:(m:Int) ≤ 4096:=by have:=o.m2;omega
  have a0:¬ ((m:Int) < 0):=by omega
  have a1:(0:Int) < (m:Int):=by have:=o.m1;omega
  clear c o T k1 U;go_wp2;(try simp only [Exit.inBlock,Exit.then]);refine bodyPost_ret (results_none rfl _ _ _) rfl ?_
  have v:aJ (w1.setCell ⟨x.br,3,none⟩ (.int .i64 m)) x.br (iH x 0 m .nilIface E) 235:=G.out.set 3 _;have z:x.rb ≠ x.br:=fun h=>f.out.ne4 h.symm;have A:x.rd ≠ x.br:=fun h=>f.out.ne5 h.symm;refine ⟨rfl,m,l.out.m1,l.out.m2,l.out.m3,v,l.out.row.set_ne z _,?_,?_,?_⟩
  · obtain ⟨n',N,O⟩:=l.out.rd
    exact ⟨n',N,O.set_ne A _⟩
  · have N:aK (fun k=>k=x.br ∨ k=x.rb ∨ k=x.rd) (w0.drewN 1) w1:=l.out.mod.mono (fun i _ h=>by rcases h with h|h <;> simp [h])
    have O:aK (fun k=>k=x.br ∨ k=x.rb ∨ k=x.rd) w (w0.drewN 1):=(L.out.mono (fun i _ h=>aG h)).drewN 1;exact (O.trans N (fun _ _ h=>h)).setCell (aG (aG rfl)) _
  · have:=l.out.size
    simp [World.setCell];rw [this];exact M.out
end Go.Proofs.YthapcchcahnfaaaGreatDoor
namespace Go.Proofs.YthapcchcahnfaaaGreatDoor
open Go
def AJ:cP:=⟨false,true,none,[],[],false⟩
theorem kZ {z:Bs} {b:UInt8} {r:Bs}:∀ {a:Bs},aQ a=b::r→aQ (a++z)=b::(r++z)
 | [],h=>by simp [aQ] at h
 | c::a,h=>by
  rw [iZ];unfold aQ at h ⊢;by_cases d:lR c=true
  ·rw [aT d] at h ⊢;exact kZ h
  ·rw [aM d] at h ⊢;simp only [List.cons.injEq] at h;rw [h.1,h.2]
theorem o5 {z:Bs} {b:UInt8} {r:Bs}:∀ {a n:Bs},aD a=(n,b::r)→aD (a++z)=(n,b::(r++z))
 | [],n,h=>by simp [aD] at h
 | c::a,n,h=>by
  rw [iZ];unfold aD at h ⊢;by_cases d:cW c=true
  ·rw [aT d] at h ⊢;simp only [bP] at h;have e:aD a=((aD a).1,b::r):=by rw [←h.2]
   rw [o5 e,h.1]
  ·rw [aM d] at h ⊢;simp only [bP,List.cons.injEq] at h;rw [h.1,h.2.1,h.2.2]
theorem vF {d:Bool} {z:Bs} {b:UInt8} {r:Bs}:∀ {a n:Bs},bL d a=(n,b::r)→bL d (a++z)=(n,b::(r++z))
 | [],n,h=>by simp [bL] at h
 | c::a,n,h=>by
  rw [iZ];unfold bL at h ⊢;by_cases e:eW d c=true
  ·rw [aT e] at h ⊢;simp only [bP] at h;have f:bL d a=((bL d a).1,b::r):=by rw [←h.2]
   rw [vF f,h.1]
  ·rw [aM e] at h ⊢;simp only [bP,List.cons.injEq] at h;rw [h.1,h.2.1,h.2.2]
theorem vG {z:Bs} {b:UInt8} {r:Bs}:∀ {a n:Bs},dZ a=(n,b::r)→dZ (a++z)=(n,b::(r++z))
 | [],n,h=>by simp [dZ] at h
 | c::a,n,h=>by
  rw [iZ];unfold dZ at h ⊢;by_cases d:oQ c=true
  ·rw [aT d] at h ⊢;simp only [bP] at h;have e:dZ a=((dZ a).1,b::r):=by rw [←h.2]
   rw [vG e,h.1]
  ·rw [aM d] at h ⊢;simp only [bP,List.cons.injEq] at h;rw [h.1,h.2.1,h.2.2]
theorem AK {f:Bool} {a z n r:Bs} (h:dV f a=.ok (n,r)):r≠[]∧dV f (a++z)=.ok (n,r++z):=by
 unfold dV at h;split at h
 ·cases h
 ·rename_i j;cases i:(aD a).2 with
  | nil=>exact absurd i j
  | cons b q=>
   have c:aD a=((aD a).1,b::q):=by rw [←i]
   have d:=o5 (z:=z) c;split at h
   ·cases h
   ·rename_i e;split at h
    ·rename_i g;simp only [bT] at h;rw [h] at c d e g;simp only [bP] at c d;obtain ⟨_,rfl⟩:=c;refine ⟨by simp,?_⟩;unfold dV;rw [d];rw [aM (by simp),aM e,aT g];simp
    ·cases h
theorem pX {f:Bool} {a z r:Bs} {nm:Bs×Bs} (h:bZ f a=.ok (nm,r)):r≠[]∧bZ f (a++z)=.ok (nm,r++z):=by
 unfold bZ at h;cases b:dV f a with
 | error e=>rw [b] at h;cases h
 | ok p=>
  obtain ⟨s,q⟩:=p;obtain ⟨c,d⟩:=AK (z:=z) b;rw [b] at h;simp only at h;split at h
  ·cases h
  ·rename_i g;simp only [bT,bP] at h;obtain ⟨rfl,rfl⟩:=h;refine ⟨c,?_⟩;unfold bZ;rw [d];simp only [aM g]
theorem xS {fails c:Bool} {pre a z d r:Bs} {t:Option Bs} (h:dO fails c pre a=.ok (d,t,r)):dO fails c pre (a++z)=.ok (d,t,r++z):=by
 unfold dO at h;cases e:(bL c a).2 with
 | nil=>rw [e] at h;cases h
 | cons b q=>
  have g:bL c a=((bL c a).1,b::q):=by rw [←e]
  have i:=vF (z:=z) g;rw [e] at h;simp only at h;unfold dO;rw [i];simp only;by_cases f:b=59
  ·rw [aT f] at h ⊢;simp only [bT,bP] at h ⊢;exact ⟨h.1,h.2.1,by rw [h.2.2]⟩
  ·rw [aM f] at h ⊢;simp only [bT,bP] at h ⊢;exact ⟨h.1,h.2.1,by rw [←h.2.2];rfl⟩
theorem DJ {fails:Bool} {ents:Option (Bs→Option Bs)} {a z f r:Bs} {t:Option Bs} (h:gR fails ents a=.ok (f,t,r)):gR fails ents (a++z)=.ok (f,t,r++z):=by
 cases a with
 | nil=>unfold gR at h;cases h
 | cons c a=>
  rw [iZ];unfold gR at h ⊢;by_cases k:c=35
  ·simp only [aT k] at h ⊢;cases a with
   | nil=>cases h
   | cons d a2=>
    simp only [iZ] at h ⊢;by_cases l:d=120
    ·simp only [aT l] at h ⊢;cases a2 with
     | nil=>cases h
     | cons e a3=>
      simp only [iZ] at h ⊢;have:=xS (z:=z) h;simpa using this
    ·simp only [aM l] at h ⊢;have:=xS (z:=z) h;simpa using this
  ·simp only [aM k] at h ⊢;cases g:(aD (c::a)).2 with
   | nil=>rw [g] at h;cases h
   | cons b q=>
    have m:aD (c::a)=((aD (c::a)).1,b::q):=by rw [←g]
    have i:=o5 (z:=z) m;rw [iZ] at i;rw [g] at h;simp only at h;rw [i];simp only;by_cases j:b=59
    ·rw [aT j] at h ⊢;simp only [bT,bP] at h ⊢;exact ⟨h.1,h.2.1,by rw [h.2.2]⟩
    ·rw [aM j] at h ⊢;simp only [bT,bP] at h ⊢;exact ⟨h.1,h.2.1,by rw [←h.2.2];rfl⟩
theorem uI (o:cP) (q:Option UInt8) (s:Bool) (z:Bs):∀ (n:Nat) (a:Bs),a.length≤n→∀ (b0 b1:UInt8) (e d r:Bs),bD o q s a b0 b1 e=.ok (d,r)→(r≠[]∨s=true∨(q=none∧s=false∧∃ t,z=60::t))→bD o q s (a++z) b0 b1 e=.ok (d,r++z):=by
 intro n;induction n with
 | zero=>
  intro a B b0 b1 e d r h j;have:a=[]:=tZ (by omega);subst this;rw [bD.eq_def] at h;simp only at h;by_cases m:s=true
  ·rw [aT m] at h;cases h
  ·rw [aM m] at h;by_cases p:bI e=true
   ·rw [aT p] at h;simp only [bT,bP] at h;obtain ⟨rfl,rfl⟩:=h;rcases j with j|j|⟨rfl,rfl,t,rfl⟩
    ·exact absurd rfl j
    ·exact absurd j m
    ·rw [List.nil_append,bD.eq_def];simp only;rw [aM (by simp),aT (by simp)];simp [p]
   ·rw [aM p] at h;cases h
 | succ n ih=>
  intro a B b0 b1 e d r h j;cases a with
  | nil=>exact ih [] (by simp) b0 b1 e d r h j
  | cons b a=>
   have w:a.length≤n:=by simp at B;omega
   rw [iZ];rw [bD.eq_def] at h;rw [bD.eq_def];simp only at h ⊢;split
   ·rename_i u;rw [aT u] at h;split
    ·rename_i k;rw [aT k] at h;split
     ·rename_i f;rw [aT f] at h;simp only [bT,bP] at h ⊢;exact ⟨h.1,by rw [h.2]⟩
     ·rename_i f;rw [aM f] at h;cases h
    ·rename_i k;rw [aM k] at h;cases h
   ·rename_i u;rw [aM u] at h;split
    ·rename_i k;rw [aT k] at h;split
     ·rename_i f;rw [aT f] at h;split
      ·rename_i g;rw [aT g] at h;simp only [bT,bP] at h ⊢;exact ⟨h.1,by rw [←h.2];rfl⟩
      ·rename_i g;rw [aM g] at h;cases h
     ·rename_i f;rw [aM f] at h;cases h
    ·rename_i k;rw [aM k] at h;split
     ·rename_i f;rw [aT f] at h;split
      ·rename_i g;rw [aT g] at h;simp only [bT,bP] at h ⊢;exact ⟨h.1,by rw [h.2]⟩
      ·rename_i g;rw [aM g] at h;cases h
     ·rename_i f;rw [aM f] at h;split
      ·rename_i g;rw [aT g] at h;split at h
       ·cases h
       ·rename_i A t y i;have l:=DJ (z:=z) i;have v:=ih y (by have:=eI (gW i);omega) _ _ _ _ _ h j;split
        ·rename_i c;rw [l] at c;cases c
        ·rename_i c;rw [l] at c;simp only [bT,bP,kQ] at c;obtain ⟨_,rfl,rfl⟩:=c;exact v
        ·rename_i c;rw [l] at c;simp only [bT,bP] at c;cases c.2.1
       ·rename_i A y i;have l:=DJ (z:=z) i;split at h
        ·cases h
        ·rename_i x;have v:=ih y (by have:=eI (gW i);omega) _ _ _ _ _ h j;split
         ·rename_i c;rw [l] at c;cases c
         ·rename_i c;rw [l] at c;simp only [bT,bP] at c;cases c.2.1
         ·rename_i c;rw [l] at c;simp only [bT,bP] at c;obtain ⟨rfl,_,rfl⟩:=c;rw [aM x];exact v
      ·rename_i g;rw [aM g] at h;exact ih a w _ _ _ _ _ h j
theorem BU {o:cP} {a z d r:Bs} (h:cK o a=.ok (d,r)) (j:r≠[]):cK o (a++z)=.ok (d,r++z):=by
 cases a with
 | nil=>unfold cK at h;cases h
 | cons q a=>
  rw [iZ];unfold cK at h ⊢;(try simp only at h ⊢)
  by_cases g:q=34∨q=39
  ·rw [aT g] at h ⊢;exact uI o _ _ z a.length a (dC _) _ _ _ _ _ h (aG j)
  ·rw [aM g] at h ⊢;by_cases i:o.strict=true
   ·rw [aT i] at h;cases h
   ·rw [aM i] at h ⊢;cases f:(dZ (q::a)).2 with
    | nil=>rw [f] at h;cases h
    | cons b t=>
     have c:dZ (q::a)=((dZ (q::a)).1,b::t):=by rw [←f]
     have e:=vG (z:=z) c;rw [iZ] at e;rw [f] at h;simp only [bT] at h;rw [h] at c e;simp only [bP] at c;rw [e];simp only;rw [c.2];rfl
theorem KF {o:cP} {a z r:Bs} {t:cV} (h:fC o a=.ok (t,r)) (w:r≠[]):fC o (a++z)=.ok (t,r++z):=by
 unfold fC at h;cases g:bZ o.fails a with
 | error e=>rw [g] at h;cases h
 | ok p=>
  obtain ⟨nm,q⟩:=p;have m:=(pX (z:=z) g).2;rw [g] at h;simp only at h;cases j:aQ q with
  | nil=>rw [j] at h;cases h
  | cons b r4=>
   have n:=kZ (z:=z) j;rw [j] at h;simp only at h;unfold fC;rw [m];simp only;rw [n];simp only;by_cases l:b=61
   ·rw [aT l] at h ⊢;cases f:cK o (aQ r4) with
    | error e=>rw [f] at h;cases h
    | ok p2=>
     obtain ⟨v,x⟩:=p2;rw [f] at h;simp only [bT,bP] at h;obtain ⟨rfl,rfl⟩:=h;have i:aQ r4≠[]:=fun u=>by rw [u] at f;unfold cK at f;cases f
     cases d:aQ r4 with
     | nil=>exact absurd d i
     | cons c r6=>
      have s:=kZ (z:=z) d;have k:=BU (z:=z) f w;rw [d,iZ] at k;rw [s,k]
   ·rw [aM l] at h ⊢;by_cases d:o.strict=true
    ·rw [aT d] at h;cases h
    ·rw [aM d] at h ⊢;simp only [bT,bP] at h ⊢;exact ⟨h.1,by rw [←h.2];rfl⟩
theorem xU {o:cP} {z:Bs}:∀ {k:Nat} {a:Bs} {acc d:List cV} {em:Bool} {r:Bs},cI o k a acc=.ok (d,em,r)→cI o k (a++z) acc=.ok (d,em,r++z)
 | 0,_,_,_,_,_,h=>by unfold cI at h;cases h
 | k+1,a,acc,d,em,r,h=>by
  unfold cI at h ⊢;cases j:aQ a with
  | nil=>rw [j] at h;cases h
  | cons b r2=>
   have q:=kZ (z:=z) j;rw [j] at h;rw [q];simp only at h ⊢;by_cases m:b=47
   ·rw [aT m] at h ⊢;cases r2 with
    | nil=>cases h
    | cons c r3=>
     simp only [iZ] at h ⊢;by_cases n:c=62
     ·rw [aT n] at h ⊢;simp only [bT,bP] at h ⊢;exact ⟨h.1,h.2.1,by rw [h.2.2]⟩
     ·rw [aM n] at h;cases h
   ·rw [aM m] at h ⊢;by_cases f:b=62
    ·rw [aT f] at h ⊢;simp only [bT,bP] at h ⊢;exact ⟨h.1,h.2.1,by rw [h.2.2]⟩
    ·rw [aM f] at h ⊢;cases g:fC o (b::r2) with
     | error e=>rw [g] at h;cases h
     | ok p=>
      obtain ⟨u,t⟩:=p;rw [g] at h;simp only at h;have i:t≠[]:=fun s=>by
       rw [s] at h;cases k with
       | zero=>unfold cI at h;cases h
       | succ k=>unfold cI at h;simp [aQ] at h
      have l:=KF (z:=z) g i;rw [iZ] at l;rw [l];simp only;exact xU h
theorem sW {f:Bool} {z:Bs}:∀ {a:Bs} {b0 b1:UInt8} {c d r:Bs},bR f a b0 b1 c=.ok (d,r)→bR f (a++z) b0 b1 c=.ok (d,r++z)
 | [],_,_,_,_,_,h=>by unfold bR at h;cases h
 | b::a,b0,b1,c,d,r,h=>by
  rw [iZ];unfold bR at h ⊢;by_cases e:b0=45∧b1=45
  ·rw [aT e] at h ⊢;by_cases g:b=62
   ·rw [aT g] at h ⊢;simp only [bT,bP] at h ⊢;exact ⟨h.1,by rw [h.2]⟩
   ·rw [aM g] at h;cases h
  ·rw [aM e] at h ⊢;exact sW h
theorem AL {f:Bool} {z:Bs}:∀ {a:Bs} {b0:UInt8} {c d r:Bs},fY f a b0 c=.ok (d,r)→fY f (a++z) b0 c=.ok (d,r++z)
 | [],_,_,_,_,h=>by unfold fY at h;cases h
 | b::a,b0,c,d,r,h=>by
  rw [iZ];unfold fY at h ⊢;by_cases e:b0=63∧b=62
  ·rw [aT e] at h ⊢;simp only [bT,bP] at h ⊢;exact ⟨h.1,by rw [h.2]⟩
  ·rw [aM e] at h ⊢;exact AL h
theorem sX {f:Bool} {z:Bs}:∀ {a:Bs} {b0 b1:UInt8} {r:Bs},cC f a b0 b1=.ok r→cC f (a++z) b0 b1=.ok (r++z)
 | [],_,_,_,h=>by unfold cC at h;cases h
 | b::a,b0,b1,r,h=>by
  rw [iZ];unfold cC at h ⊢;by_cases c:b0=45∧b1=45∧b=62
  ·rw [aT c] at h ⊢;simp only [bT] at h ⊢;rw [h]
  ·rw [aM c] at h ⊢;exact sX h
theorem AM {f:Bool} {z:Bs} {n:Nat} (j:∀ a:Bs,a.length≤n→∀ (c:UInt8) (i:Int) (e d r:Bs),dL f a c i e=.ok (d,r)→dL f (a++z) c i e=.ok (d,r++z))
  (o:∀ a:Bs,a.length<n→∀ (b c:UInt8) (i:Int) (e d r:Bs),fJ f b a c i e=.ok (d,r)→fJ f b (a++z) c i e=.ok (d,r++z)) (a:Bs) (k:a.length≤n) (b c:UInt8) (i:Int) (e d r:Bs) (h:fJ f b a c i e=.ok (d,r)):fJ f b (a++z) c i e=.ok (d,r++z):=by
 rw [fJ.eq_def] at h;rw [fJ.eq_def];by_cases q:b=c
 ·rw [aT q] at h ⊢;exact j a k _ _ _ _ _ h
 rw [aM q] at h ⊢;by_cases s:c≠0
 ·rw [aT s] at h ⊢;exact j a k _ _ _ _ _ h
 rw [aM s] at h ⊢;by_cases t:b=39∨b=34
 ·rw [aT t] at h ⊢;exact j a k _ _ _ _ _ h
 rw [aM t] at h ⊢;by_cases u:b=62
 ·rw [aT u] at h ⊢;exact j a k _ _ _ _ _ h
 rw [aM u] at h ⊢;by_cases v:b=60
 rotate_left
 ·rw [aM v] at h ⊢;exact j a k _ _ _ _ _ h
 rw [aT v] at h ⊢;cases a with
 | nil=>cases h
 | cons c1 r1=>
  simp only [iZ] at h ⊢;have l:r1.length<n:=by simp at k;omega
  by_cases w:c1=33
  rotate_left
  ·rw [aM w] at h ⊢;exact o r1 l _ _ _ _ _ _ h
  rw [aT w] at h ⊢;cases r1 with
  | nil=>cases h
  | cons c2 r2=>
   simp only [iZ] at h ⊢;have m:r2.length<n:=by simp at l;omega
   by_cases x:c2=45
   rotate_left
   ·rw [aM x] at h ⊢;exact o r2 m _ _ _ _ _ _ h
   rw [aT x] at h ⊢;cases r2 with
   | nil=>cases h
   | cons c3 r3=>
    simp only [iZ] at h ⊢;have p:r3.length<n:=by simp at m;omega
    by_cases y:c3=45
    rotate_left
    ·rw [aM y] at h ⊢;exact o r3 p _ _ _ _ _ _ h
    rw [aT y] at h ⊢;split at h
    ·cases h
    ·rename_i C B;have A:=sX (z:=z) B;split
     ·rename_i g;rw [A] at g;cases g
     ·rename_i g;rw [A] at g;simp only [bT] at g;subst g;exact j C (by have:=iM B;omega) _ _ _ _ _ h
theorem I2 (f:Bool) (z:Bs):∀ n:Nat,(∀ a:Bs,a.length≤n→∀ (c:UInt8) (g:Int) (e d r:Bs),dL f a c g e=.ok (d,r)→dL f (a++z) c g e=.ok (d,r++z)) ∧
  (∀ a:Bs,a.length≤n→∀ (b c:UInt8) (g:Int) (e d r:Bs),fJ f b a c g e=.ok (d,r)→fJ f b (a++z) c g e=.ok (d,r++z))
 | 0=>by
  have i:∀ a:Bs,a.length≤0→∀ (c:UInt8) (g:Int) (e d r:Bs),dL f a c g e=.ok (d,r)→dL f (a++z) c g e=.ok (d,r++z):=by
   intro a j c g e d r h;have:a=[]:=tZ (by omega);subst this;rw [dL.eq_def] at h;cases h
  exact ⟨i,AM i (fun a j=>absurd j (Nat.not_lt_zero _))⟩
 | n+1=>by
  have ih:=I2 f z n;have i:∀ a:Bs,a.length≤n+1→∀ (c:UInt8) (g:Int) (e d r:Bs),dL f a c g e=.ok (d,r)→dL f (a++z) c g e=.ok (d,r++z):=by
   intro a j c g e d r h;cases a with
   | nil=>rw [dL.eq_def] at h;cases h
   | cons b a=>
    rw [iZ];rw [dL.eq_def] at h;rw [dL.eq_def];simp only at h ⊢;by_cases k:c=0∧b=62∧g=0
    ·rw [aT k] at h ⊢;simp only [bT,bP] at h ⊢;exact ⟨h.1,by rw [h.2]⟩
    ·rw [aM k] at h ⊢;exact ih.2 a (by simp at j;omega) _ _ _ _ _ _ h
  exact ⟨i,AM i (fun a j=>ih.2 a (by omega))⟩
theorem xV {f:Bool} {z:Bs}:∀ {p a r:Bs},dH f p a=.ok r→dH f p (a++z)=.ok (r++z)
 | [],a,r,h=>by unfold dH at h ⊢;simp only [bT] at h ⊢;rw [h]
 | q::p,[],r,h=>by unfold dH at h;cases h
 | q::p,b::a,r,h=>by
  rw [iZ];unfold dH at h ⊢;by_cases c:b=q
  ·rw [aT c] at h ⊢;exact xV h
  ·rw [aM c] at h;cases h
theorem NN {o:cP} {a z r:Bs} {t:aU} (h:jW o a=.ok (t,r)):jW o (a++z)=.ok (t,r++z):=by
 unfold jW at h;cases c:bZ o.fails a with
 | error e=>rw [c] at h;cases h
 | ok p=>
  obtain ⟨nm,q⟩:=p;have g:=(pX (z:=z) c).2;rw [c] at h;simp only at h;cases d:aQ q with
  | nil=>rw [d] at h;cases h
  | cons b r2=>
   have i:=kZ (z:=z) d;rw [d] at h;simp only at h;unfold jW;rw [g];simp only;rw [i];simp only;by_cases f:b=62
   ·rw [aT f] at h ⊢;simp only [bT,bP] at h ⊢;exact ⟨h.1,by rw [h.2]⟩
   ·rw [aM f] at h;cases h
theorem RK {o:cP} {a z r:Bs} {t:aU} (h:tY o a=.ok (t,r)):tY o (a++z)=.ok (t,r++z):=by
 unfold tY at h;cases d:dV o.fails a with
 | error e=>rw [d] at h;cases h
 | ok p=>
  obtain ⟨s,q⟩:=p;have k:=(AK (z:=z) d).2;rw [d] at h;simp only at h;cases b:fY o.fails (aQ q) 0 [] with
  | error e=>rw [b] at h;cases h
  | ok p2=>
   obtain ⟨j,n⟩:=p2;have f:aQ q≠[]:=fun m=>by rw [m] at b;unfold fY at b;cases b
   have i:=AL (z:=z) b;rw [b] at h;simp only at h;unfold tY;rw [k];simp only;cases g:aQ q with
   | nil=>exact absurd g f
   | cons c q2=>
    rw [g,iZ] at i;rw [kZ (z:=z) g,i];simp only;split at h
    ·cases h
    ·rename_i l;rw [aM l];simp only [bT,bP] at h ⊢;exact ⟨h.1,by rw [h.2]⟩
theorem KG {o:cP} {a z r:Bs} {t:aU} (h:gJ o a=.ok (t,r)):gJ o (a++z)=.ok (t,r++z):=by
 cases a with
 | nil=>unfold gJ at h;cases h
 | cons b a=>
  rw [iZ];unfold gJ at h ⊢;(try simp only at h ⊢)
  by_cases k:b=45
  ·rw [aT k] at h ⊢;cases a with
   | nil=>cases h
   | cons c a2=>
    simp only [iZ] at h ⊢;by_cases d:c=45
    ·rw [aT d] at h ⊢;cases f:bR o.fails a2 0 0 [] with
     | error e=>rw [f] at h;cases h
     | ok p=>
      rw [f] at h;rw [sW (z:=z) f];simp only [bT,bP] at h ⊢;exact ⟨h.1,by rw [h.2]⟩
    ·rw [aM d] at h;cases h
  ·rw [aM k] at h ⊢;by_cases d:b=91
   ·rw [aT d] at h ⊢;cases i:dH o.fails [67,68,65,84,65,91] a with
    | error e=>rw [i] at h;cases h
    | ok r2=>
     rw [i] at h;rw [xV (z:=z) i];simp only at h ⊢;cases j:bD o none true r2 0 0 [] with
     | error e=>rw [j] at h;cases h
     | ok p=>
      rw [j] at h;rw [uI o none true z r2.length r2 (dC _) _ _ _ _ _ j (aX (aG rfl))];simp only [bT,bP] at h ⊢;exact ⟨h.1,by rw [h.2]⟩
   ·rw [aM d] at h ⊢;cases g:dL o.fails a 0 0 [b] with
    | error e=>rw [g] at h;cases h
    | ok p=>
     rw [g] at h;rw [(I2 o.fails z a.length).1 a (dC _) _ _ _ _ _ g];simp only [bT,bP] at h ⊢;exact ⟨h.1,by rw [h.2]⟩
theorem F4 {o:cP} {a z r:Bs} {x:(Bs×Bs)×List cV} {em:Bool} (h:dX o a=.ok (x,em,r)):dX o (a++z)=.ok (x,em,r++z):=by
 unfold dX at h;cases d:bZ o.fails a with
 | error e=>rw [d] at h;cases h
 | ok p=>
  obtain ⟨nm,q⟩:=p;have g:=(pX (z:=z) d).2;rw [d] at h;simp only at h;cases f:cI o (q.length+1) q [] with
  | error e=>rw [f] at h;cases h
  | ok p2=>
   obtain ⟨b,c,j⟩:=p2;have i:cI o ((q++z).length+1) q []=.ok (b,c,j):=by
    rw [←f];exact nD (by rw [fU];omega) (Nat.lt_succ_self _)
   rw [f] at h;simp only [bT,bP] at h;unfold dX;rw [g];simp only;rw [xU (z:=z) i];simp only [bT,bP];exact ⟨h.1,h.2.1,by rw [h.2.2]⟩
theorem NO {o:cP} {s q:St} {t:aU} {y:Bs} (h:eC o s=.ok (t,q)):eC o { s with rest:=s.rest++60::y }=.ok (t,{ q with rest:=q.rest++60::y,ended:=false }):=by
 obtain ⟨rest,f,g,w,x,next⟩:=s;unfold eC at h;unfold eC;(try simp only at h ⊢)
 cases f with
 | true=>simp at h
 | false=>
  simp only [rQ,if_false] at h ⊢;cases g with
  | some nm=>
   simp only [bT,bP] at h ⊢;obtain ⟨rfl,rfl⟩:=h;exact ⟨rfl,rfl⟩
  | none=>
   simp only at h ⊢;cases rest with
   | nil=>cases h
   | cons b r=>
    simp only [iZ] at h ⊢;by_cases u:b≠60
    ·rw [aT u] at h ⊢;cases n:bD o none false (b::r) 0 0 [] with
     | error e=>rw [n] at h;cases h
     | ok p=>
      obtain ⟨d,m⟩:=p;have i:=uI o none false (60::y) (b::r).length (b::r) (dC _) _ _ _ _ _ n (aX (aX ⟨rfl,rfl,y,rfl⟩));rw [iZ] at i;rw [n] at h;rw [i];simp only [bT,bP] at h ⊢;obtain ⟨rfl,rfl⟩:=h;refine ⟨rfl,?_⟩;simp
    ·rw [aM u] at h ⊢;cases r with
     | nil=>cases h
     | cons c m=>
      simp only [iZ] at h ⊢;by_cases k:c=47
      ·rw [aT k] at h ⊢;cases a:jW o m with
       | error e=>rw [a] at h;cases h
       | ok p=>
        rw [a] at h;rw [NN (z:=60::y) a];simp only [bT,bP] at h ⊢;obtain ⟨rfl,rfl⟩:=h;exact ⟨rfl,rfl⟩
      rw [aM k] at h ⊢;by_cases l:c=63
      ·rw [aT l] at h ⊢;cases a:tY o m with
       | error e=>rw [a] at h;cases h
       | ok p=>
        rw [a] at h;rw [RK (z:=60::y) a];simp only [bT,bP] at h ⊢;obtain ⟨rfl,rfl⟩:=h;exact ⟨rfl,rfl⟩
      rw [aM l] at h ⊢;by_cases j:c=33
      ·rw [aT j] at h ⊢;cases a:gJ o m with
       | error e=>rw [a] at h;cases h
       | ok p=>
        rw [a] at h;rw [KG (z:=60::y) a];simp only [bT,bP] at h ⊢;obtain ⟨rfl,rfl⟩:=h;exact ⟨rfl,rfl⟩
      rw [aM j] at h ⊢;cases a:dX o (c::m) with
      | error e=>rw [a] at h;cases h
      | ok p=>
       obtain ⟨⟨nm,v⟩,em,A⟩:=p;have i:=F4 (z:=60::y) a;rw [iZ] at i;rw [a] at h;rw [i];simp only [bT,bP] at h ⊢;obtain ⟨rfl,rfl⟩:=h;exact ⟨rfl,rfl⟩
def St.ext (s:St) (y:Bs) (E:List gZ):St:={ s with rest:=s.rest++60::y,ended:=false,stk:=s.stk++E }
def xW (E:List gZ):Prop:=∀ e a,E=e::a→e.kind=0
theorem qZ (E:List gZ):∀ (a:List cV) (b:List gZ) (c:Bs→Option Bs),dR a (b++E) c=((dR a b c).1++E,(dR a b c).2)
 | [],b,c=>rfl
 | (sp,loc,v)::a,b,c=>by
  unfold dR;by_cases d:sp=bE
  ·have e:¬ (sp=[]∧loc=bE):=fun h=>by rw [d] at h;cases h.1
   simp only [aT d,aM e];rw [←iZ];exact qZ E a _ _
  ·by_cases e:sp=[]∧loc=bE
   ·simp only [aM d,aT e];rw [←iZ];exact qZ E a _ _
   ·simp only [aM d,aM e];exact qZ E a _ _
theorem AN {E:List gZ} (c:xW E):∀ (a:List gZ) (b:Bs→Option Bs),fD (a++E) b=((fD a b).1++E,(fD a b).2)
 | [],b=>by
  rw [List.nil_append];cases E with
  | nil=>rfl
  | cons e E'=>
   unfold fD;rw [aT (c e E' rfl)];rfl
 | e::a,b=>by
  rw [iZ];unfold fD;by_cases h:e.kind=0
  ·rw [aT h,aT h];rfl
  ·rw [aM h,aM h];exact AN c a _
theorem KH {o:cP} {y:Bs} {E:List gZ} (l:xW E) {t k:aU} {s j:St} (h:cG o t s=.ok (k,j)):cG o t (s.ext y E)=.ok (k,j.ext y E):=by
 cases t with
 | start nm ats=>
  unfold cG at h ⊢;simp only [bT,bP,St.ext] at h ⊢;rw [qZ];obtain ⟨rfl,rfl⟩:=h;exact ⟨rfl,rfl⟩
 | fin nm=>
  unfold cG at h ⊢;simp only [lS,St.ext] at h ⊢;cases i:s.stk with
  | nil=>rw [i] at h;cases h
  | cons e stk=>
   rw [i] at h;rw [iZ];simp only at h ⊢;by_cases f:e.kind≠0
   ·rw [aT f] at h;cases h
   rw [aM f] at h ⊢;by_cases g:e.loc≠nm.2
   ·rw [aT g] at h ⊢;by_cases c:o.strict=true
    ·rw [aT c] at h;cases h
    ·rw [aM c] at h ⊢;simp only [bT,bP] at h ⊢;obtain ⟨rfl,rfl⟩:=h;exact ⟨rfl,rfl⟩
   ·rw [aM g] at h ⊢;by_cases c:e.space≠nm.1
    ·rw [aT c] at h;cases h
    ·rw [aM c] at h ⊢;rw [AN l];simp only [bT,bP] at h ⊢;obtain ⟨rfl,rfl⟩:=h;exact ⟨rfl,rfl⟩
 | text d=>unfold cG at h ⊢;simp only [bT,bP] at h ⊢;obtain ⟨rfl,rfl⟩:=h;exact ⟨rfl,rfl⟩
 | comment d=>unfold cG at h ⊢;simp only [bT,bP] at h ⊢;obtain ⟨rfl,rfl⟩:=h;exact ⟨rfl,rfl⟩
 | dir d=>unfold cG at h ⊢;simp only [bT,bP] at h ⊢;obtain ⟨rfl,rfl⟩:=h;exact ⟨rfl,rfl⟩
 | proc a b=>unfold cG at h ⊢;simp only [bT,bP] at h ⊢;obtain ⟨rfl,rfl⟩:=h;exact ⟨rfl,rfl⟩
theorem NP {o:cP} {s m:St} {t:aU} (h:eC o s=.ok (t,m)) (k:List gZ):m.stk=s.stk∧eC o { s with stk:=k }=.ok (t,{ m with stk:=k }):=by
 obtain ⟨rest,f,d,l,v,next⟩:=s;unfold eC at h ⊢;simp only at h ⊢;cases f with
 | true=>simp at h
 | false=>
  simp only [rQ,if_false] at h ⊢;cases d with
  | some nm=>
   simp only [bT,bP] at h ⊢;obtain ⟨rfl,rfl⟩:=h;exact ⟨rfl,rfl,rfl⟩
  | none=>
   simp only at h ⊢;cases rest with
   | nil=>cases h
   | cons b r=>
    simp only at h ⊢;by_cases n:b≠60
    ·rw [aT n] at h ⊢;cases q:bD o none false (b::r) 0 0 [] with
     | error e=>rw [q] at h;cases h
     | ok p=>
      rw [q] at h;simp only [bT,bP] at h ⊢;obtain ⟨rfl,rfl⟩:=h;exact ⟨rfl,rfl,rfl⟩
    ·rw [aM n] at h ⊢;cases r with
     | nil=>cases h
     | cons c r2=>
      simp only at h ⊢;by_cases i:c=47
      ·rw [aT i] at h ⊢;cases a:jW o r2 with
       | error e=>rw [a] at h;cases h
       | ok p=>rw [a] at h;simp only [bT,bP] at h ⊢;obtain ⟨rfl,rfl⟩:=h;exact ⟨rfl,rfl,rfl⟩
      rw [aM i] at h ⊢;by_cases j:c=63
      ·rw [aT j] at h ⊢;cases a:tY o r2 with
       | error e=>rw [a] at h;cases h
       | ok p=>rw [a] at h;simp only [bT,bP] at h ⊢;obtain ⟨rfl,rfl⟩:=h;exact ⟨rfl,rfl,rfl⟩
      rw [aM j] at h ⊢;by_cases g:c=33
      ·rw [aT g] at h ⊢;cases a:gJ o r2 with
       | error e=>rw [a] at h;cases h
       | ok p=>rw [a] at h;simp only [bT,bP] at h ⊢;obtain ⟨rfl,rfl⟩:=h;exact ⟨rfl,rfl,rfl⟩
      rw [aM g] at h ⊢;cases a:dX o (c::r2) with
      | error e=>rw [a] at h;cases h
      | ok p=>
       obtain ⟨⟨nm,u⟩,em,w⟩:=p;rw [a] at h;simp only [bT,bP] at h ⊢;obtain ⟨rfl,rfl⟩:=h;exact ⟨rfl,rfl,rfl⟩
theorem KI {o:cP} {t:aU} {s:St}:cG o t s≠.error .eof:=by
 intro h;cases t with
 | start nm ats=>unfold cG at h;cases h
 | fin nm=>
  unfold cG at h;simp only [lS] at h;repeat' split at h
  all_goals cases h
 | text d=>unfold cG at h;cases h
 | comment d=>unfold cG at h;cases h
 | dir d=>unfold cG at h;cases h
 | proc a b=>unfold cG at h;cases h
theorem NQ {fold:Bs→Bs→Bool} {o:cP} (b:o.raw=false) (c:o.strict=true) {s f:St} {t:aU} (u:s.next=none) (h:fT fold o s=.ok (t,f)):f.ended=true→f.rest=[]∧f.toClose=none:=by
 intro i;unfold fT at h;rw [aM (by rw [b];simp)] at h;unfold kR at h;rw [u] at h;simp only at h;cases j:eC o s with
 | error e=>rw [j] at h;cases h
 | ok p=>
  obtain ⟨A,l⟩:=p;rw [j] at h;simp only [aT c] at h;obtain ⟨w1,x,_,_,_,a,_⟩:=oD h;obtain ⟨z,_,_,_,_,v,w⟩:=iN j;have y:f.toClose=l.toClose:=by
   rcases a with a|⟨a,_⟩
   ·exact a
   ·rw [c] at a;cases a
  rw [w1,y];rw [x] at i;refine ⟨v i,?_⟩;rcases w with ⟨nm,_,_,g⟩|⟨_,_,g,n⟩
  ·rw [g]
  ·cases r:l.toClose with
   | none=>rfl
   | some nm=>
    obtain ⟨d,q⟩:=g i;obtain ⟨m,k⟩:=n nm r;rw [q] at k;cases k
theorem NR {fold:Bs→Bs→Bool} {o:cP} (b:o.raw=false) (c:o.strict=true) {y:Bs} {E:List gZ} (l:xW E) {s g:St} {t:aU} (d:s.next=none) (h:fT fold o s=.ok (t,g)):g.next=none∧fT fold o (s.ext y E)=.ok (t,g.ext y E):=by
 have m:∀ s:St,fT fold o s=kR fold o s:=fun s=>by unfold fT;rw [aM (by rw [b];simp)]
 rw [m] at h ⊢;unfold kR at h ⊢;rw [d] at h;have f:(s.ext y E).next=none:=d;rw [f];simp only at h ⊢;cases a:eC o s with
 | error e=>rw [a] at h;cases h
 | ok p=>
  obtain ⟨v,i⟩:=p;rw [a] at h;simp only [aT c] at h;obtain ⟨q,r⟩:=NP (NO (y:=y) a) (s.stk++E);have u:eC o (s.ext y E)=.ok (v,i.ext y E):=by
   have j:=(iN a).1;have k:i.stk=s.stk:=q;simpa [St.ext,j,k] using r
  rw [u];simp only [aT c];have n:=KH (y:=y) l h;refine ⟨?_,n⟩;have:=(iN a).2.2.2.1;rw [←d,←this];exact (oD h).2.2.1
theorem RL {fold:Bs→Bs→Bool} {o:cP} (d:o.raw=false) (i:o.strict=true) {y:Bs} {E:List gZ} (z:xW E) {s:St} {l:List (aU×St)} (h:jX fold o s l .eof):s.next=none→(s.ended=true→s.rest=[]∧s.toClose=none)→∃ t,∀ (r:List (aU×St)) (k:EK),jX fold o { rest:=60::y,ended:=false,toClose:=none,stk:=E,ns:=t,next:=none } r k→jX fold o (s.ext y E) (l.map (fun p=>(p.1,p.2.ext y E))++r) k:=by
 have B:∀ s:St,fT fold o s=kR fold o s:=fun s=>by unfold fT;rw [aM (by rw [d];simp)]
 generalize v:EK.eof=e at h;induction h with
 | stop c=>
  rename_i s e;intro n g;subst v;rw [B] at c;unfold kR at c;rw [n] at c;simp only at c;cases j:eC o s with
  | ok p=>rw [j] at c;obtain ⟨G,F⟩:=p;simp only [aT i] at c;exact absurd c KI
  | error e=>
   rw [j] at c;simp only [Except.error.injEq] at c;by_cases m:e=.eof∧s.stk≠[]
   ·rw [aT m] at c;cases c
   ·rw [aM m] at c;subst c;have q:s.stk=[]:=by
     cases A:s.stk with
     | nil=>rfl
     | cons a b=>exact absurd ⟨rfl,by rw [A];simp⟩ m
    have w:s.rest=[]∧s.toClose=none:=by
     cases f:s.ended with
     | true=>exact g f
     | false=>
      refine ⟨MU (fun h=>(g h).1) j,?_⟩;cases m:s.toClose with
      | none=>rfl
      | some nm=>unfold eC at j;rw [f,m] at j;simp at j
    have:s.ext y E={ rest:=60::y,ended:=false,toClose:=none,stk:=E,ns:=s.ns,next:=none }:=by
     unfold St.ext;rw [w.1,w.2,q,n];rfl
    refine ⟨s.ns,fun r k u=>?_⟩;rw [List.map_nil,List.nil_append,this];exact u
 | more c _ ih=>
  intro n g;obtain ⟨C,D⟩:=NR (y:=y) d i z n c;obtain ⟨t,x⟩:=ih v C (NQ d i n c);refine ⟨t,fun r k u=>?_⟩;rw [List.map_cons,iZ];exact .more D (x r k u)
def wG:gZ:={ kind:=0,space:=[],loc:=[97],ok:=false }
theorem RM:xW [wG]:=fun e a h=>by
 simp only [List.cons.injEq] at h;rw [←h.1];rfl
def By (T:Bs):St:={ rest:=T,ended:=false,toClose:=none,stk:=[wG],ns:=fun _=>none,next:=none }
theorem V1 (fold:Bs→Bs→Bool) (T:Bs):fT fold AJ (St.init (60::97::62::T))=.ok (.start ([],[97]) [],By T):=by rfl
theorem RN (fold:Bs→Bs→Bool) (a:Bs→Option Bs):fT fold AJ { rest:=[60,47,97,62],ended:=false,toClose:=none,stk:=[wG],ns:=a,next:=none }=.ok (.fin (cQ AJ a ([],[97]) true),{ rest:=[],ended:=false,toClose:=none,stk:=[],ns:=a,next:=none }):=by rfl
theorem V2 (fold:Bs→Bs→Bool) (a:Bs→Option Bs):∃ nm,fT fold AJ { rest:=[60,47,97,62],ended:=false,toClose:=none,stk:=[wG],ns:=a,next:=none }=.ok (.fin (nm,[97]),{ rest:=[],ended:=false,toClose:=none,stk:=[],ns:=a,next:=none }):=by
 have h:∃ nm,cQ AJ a ([],[97]) true=(nm,[97]):=by
  unfold cQ;rw [aM (by decide),aM (by decide),aM (by decide)];simp only;split
  ·exact ⟨_,rfl⟩
  ·split
   ·exact ⟨_,rfl⟩
   ·exact ⟨_,rfl⟩
 obtain ⟨nm,h⟩:=h;exact ⟨nm,by rw [RN,h]⟩
theorem NS (fold:Bs→Bs→Bool) (a:Bs→Option Bs):fT fold AJ { rest:=[],ended:=false,toClose:=none,stk:=[],ns:=a,next:=none }=.error .eof:=by rfl
theorem F5 (fold:Bs→Bs→Bool) (T:Bs) {l:List (aU×St)} (h:jX fold AJ (St.init T) l .eof):∃ p q,jX fold AJ (St.init (60::97::62::(T++[60,47,97,62]))) (p::(l.map (fun p=>(p.1,p.2.ext [47,97,62] [wG]))++[q])) .eof∧(∃ nm b,p.1=.start nm b)∧∃ nm,q.1=.fin nm:=by
 obtain ⟨a,c⟩:=RL (y:=[47,97,62]) (E:=[wG]) rfl rfl RM h rfl (fun h=>by cases h);obtain ⟨nm,d⟩:=V2 fold a;have e:=c [(.fin (nm,[97]),{ rest:=[],ended:=false,toClose:=none,stk:=[],ns:=a,next:=none })] .eof (.more d (.stop (NS fold a)));exact ⟨_,_,.more (V1 fold _) (show jX fold AJ (By (T++[60,47,97,62])) _ .eof from e),⟨_,_,rfl⟩,⟨_,rfl⟩⟩
end Go.Proofs.YthapcchcahnfaaaGreatDoor
