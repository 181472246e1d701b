/- Part of the proof that laws.FnWithin returns true for every argument. No conditions. -/
import Derived.Test.YthapcchcahnfaaaGreatDoorQ32
import Derived.Test.YthapcchcahnfaaaGreatDoorQ35
import Derived.Test.YthapcchcahnfaaaGreatDoorQ29
import Derived.Test.YthapcchcahnfaaaGreatDoorQ11
import Derived.Test.YthapcchcahnfaaaGreatDoorQ36
import Derived.Test.YthapcchcahnfaaaGreatDoorQ18
set_option linter.all false
set_option maxHeartbeats 8000000
set_option maxRecDepth 100000
namespace Go.Proofs.YthapcchcahnfaaaGreatDoor
open Go Go.RowKit Go.Proofs.Tryz
inductive cF {α:Type} (P:α→List Value→Prop):List α→List Value→Prop
 | nil:cF P [] []
 | snoc {l a xs ys}:cF P l xs→P a ys→cF P (l++[a]) (xs++ys)
theorem cF.mono {α:Type} {P b:α→List Value→Prop} (e:∀ a d,P a d→b a d) {l:List α} {c:List Value} (h:cF P l c):cF b l c:=by
 induction h with
 | nil=>exact .nil
 | snoc _ f ih=>exact .snoc ih (e _ _ f)
theorem cF.len {α:Type} {P:α→List Value→Prop} {n:Nat} (d:∀ a c,P a c→c.length=n) {l:List α} {b:List Value} (h:cF P l b):b.length=l.length*n:=by
 induction h with
 | nil=>simp
 | snoc _ e ih=>rw [fU,ih,d _ _ e,fU];simp [Nat.add_mul]
theorem cF.get {α:Type} {P:α→List Value→Prop} {n:Nat} (s:∀ a c,P a c→c.length=n) {l:List α} {p:List Value} (h:cF P l p) {i:Nat} {a:α} (b:l[i]?=some a):∃ c,P a c∧∀ j,j<n→p[i*n+j]?=c[j]?:=by
 induction h with
 | nil=>simp at b
 | snoc u t ih=>
  rename_i g v k m;have f:=u.len s;rcases Nat.lt_or_ge i g.length with d|d
  ·rw [List.getElem?_append_left d] at b;obtain ⟨c,q,r⟩:=ih b;refine ⟨c,q,fun j o=>?_⟩;have:i*n+j<k.length:=by
    rw [f];have:(i+1)*n≤g.length*n:=Nat.mul_le_mul_right n d;rw [Nat.add_mul] at this;omega
   rw [List.getElem?_append_left this];exact r j o
  ·have e:i=g.length:=by
    have:=(FP.1 b).1;simp at this;omega
   subst e;rw [C0 (dC _)] at b;simp at b;subst b;refine ⟨m,t,fun j o=>?_⟩;rw [C0 (by rw [f];omega),f]
   congr 1;omega
def pJ (w:World) (b:Nat) (G:Nat→Prop) (T:Bs) (a:aU×St) (h:List Value):Prop:=
 ∃ c e d f g,h=lN (a.1.itok (T.take (T.length-a.2.rest.length))).kind (a.1.itok (T.take (T.length-a.2.rest.length))).space (a.1.itok (T.take (T.length-a.2.rest.length))).loc (.slice c e d) (a.1.itok (T.take (T.length-a.2.rest.length))).text (a.1.itok (T.take (T.length-a.2.rest.length))).at' f g ∧
  w.ownsRow b 67 3 (.slice c e d) (a.1.itok (T.take (T.length-a.2.rest.length))).attrs.length (aO (a.1.itok (T.take (T.length-a.2.rest.length))).attrs)∧(∀ k,(Value.slice c e d).ownBlock=some k→G k)∧f=((a.1.itok (T.take (T.length-a.2.rest.length))).line:Nat)∧g=((a.1.itok (T.take (T.length-a.2.rest.length))).col:Nat)
theorem pJ.len {w:World} {a:Nat} {G:Nat→Prop} {T:Bs} {c:aU×St} {b:List Value} (h:pJ w a G T c b):b.length=8:=by
 obtain ⟨_,_,_,_,_,rfl,_⟩:=h;rfl
theorem pJ.mod {w w':World} {a:Nat} {G G':Nat→Prop} {T:Bs} {f:aU×St} {g:List Value} {S:Nat→Prop} (h:pJ w a G T f g) (j:aK S w w') (d:∀ k,G k→k<w.heap.size→¬ S k∧G' k):pJ w' a G' T f g:=by
 obtain ⟨n,p,o,l,m,rfl,c,e,i⟩:=h;refine ⟨n,p,o,l,m,rfl,aE c j (fun k b=>(d k (e k b) (aS c b).1).1),fun k b=>(d k (e k b) (aS c b).1).2,i⟩
theorem nL.ts {x:Cx} {c:DC} {w:World} {v:DV} {s:St} {m:Nat} {b a:List Nat} {n B:Nat} {e:Value} {d:aU} (h:nL x c w v s m b a n B e d):TS x c w v s m b a n:=
 ⟨h.cfg,h.rd,h.own,h.sok,h.nok,h.tcl,by have:=h.bnd;omega,h.nxt⟩
theorem G3 (x:Cx) (F:x.All) (o:kL x.W0) (d:3<x.B) (c:DC) (w:World) (v:DV) (s:St) (m:Nat) (G z:List Nat) (n:Nat) (h:TS x c w v s m G z n) (u:s.next=none) :
  Calls prog 17 #[bV x] w fun O w'=>∃ t e,O=.returned (.tuple #[t,e])∧lD x w v c (eC x.o s) m G z t e w':=by
 have j:=Lh (EH x F o d c h.cfg.dc h.cfg.no w v s h.rd);have ⟨H,M,y⟩:=lQ h F u;clear h F o d u;refine eT 8 func17 [_] fun f=>?_;simp only [aF];refine vg ?_;intro K hK K hK;refine j.o.mono ?_;rintro S w1 ⟨t,e,rfl,i⟩;have L:=Lh i;clear i j;(repeat revert K);refine vS ?_;refine jV ?_;refine ⟨t,e,rfl,?_⟩;have i:=L.o;unfold cS at i;unfold lD;cases a:eC x.o s with
 | error k=>
  rw [a] at i;obtain ⟨v',q,rfl,rfl,I,P⟩:=i;exact ⟨rfl,I.err,I.base,P,q.mod.mono (fun _ _ B=>aG B)⟩
 | ok p=>
  obtain ⟨U,T⟩:=p;rw [a] at i;obtain ⟨R,N,q,rfl,r,D,J,C⟩:=i;obtain ⟨E,_,_⟩:=H.o.raw M.o y.o a q r D J C;refine ⟨rfl,N,R,G,z,n,E.ts,⟨_,J⟩,q.mod.mono (fun _ _ B=>aG B),fun b l=>aG l,fun b l=>?_,fun g Q=>aG (by rw [←r.toD.next];exact Q)⟩;rcases l with l|l
  ·exact aG (aG l)
  ·rcases q.buf b l with A|A
   ·exact aG (aX A)
   ·exact aX A
structure CH (w:World):Prop extends Env w where
 af:kL w
 afB:3<w.heap.size
 et:w.cell? ⟨1,0,none⟩=some (CX 59)
 etB:1<w.heap.size
 eofB:∀ a:Addr,w.cell? ⟨0,0,none⟩=some (m7 a)→∃ cs t,aJ w a.block cs t
theorem CH.below {w w':World} (h:CH w) (b:Below w.heap.size w w'):CH w':=by
 refine ⟨h.toEnv.below b,h.af.below b,rS h.afB b.size,by rw [b.cell (p:=⟨_,0,none⟩) h.etB];exact h.et,rS h.etB b.size,fun a d=>?_⟩;rw [b.cell (p:=⟨_,0,none⟩) h.gB] at d;obtain ⟨cs,t,c⟩:=h.eofB a d;exact ⟨cs,t,aJ.mod (S:=fun _=>False) c (aH b _) id⟩
theorem kT.of {w:World} {m:Nat} (h:w.heap[m]?=some (.map #[] 0)):kT w m 0 (fun _=>none):=by
 have l:m<w.heap.size:=by
  rcases Nat.lt_or_ge m w.heap.size with h'|h'
  ·exact h'
  ·rw [Array.getElem?_eq_none h'] at h;cases h
 obtain ⟨w0,b⟩:∃ w0:World,w0.heap.size=m:=⟨{ w with heap:=w.heap.extract 0 m },by simp;omega⟩;have a:=kT.made w0;rw [b] at a;obtain ⟨D,⟨f,e,c,F,k,i⟩,g⟩:=a;have j:(w0.alloc (.map #[] 0)).heap[m]?=some (.map #[] 0):=by
  show (w0.heap.push _)[m]?=_;rw [←b];simp
 rw [j] at c;exact ⟨D,⟨f,e,h.trans c,F,k,i⟩,g⟩
theorem kU.lt {x:Cx} {w:World} {v:DV} {c:DC} {s:St} {own:List Nat} (h:kU x w v c s own) {g:Nat} (a:dP c.nextTok g):g<w.heap.size:=by
 unfold kU at h;cases b:s.next with
 | none=>rw [b] at h;rw [show c.nextTok=.nilIface from h] at a;exact a.elim
 | some tk=>rw [b] at h;obtain ⟨_,_,_,d,_⟩:=h;exact (d.lt a).2
theorem TS.mod {x:Cx} {c:DC} {w w':World} {v:DV} {s:St} {m:Nat} {o i:List Nat} {n:Nat} {S:Nat→Prop} (h:TS x c w v s m o i n) (l:aK S w w') (d:∀ k,S k→¬ x.S1 v k∧k∉m::(o++i)∧x.B≤k∧¬ dP c.nextTok k):TS x c w' v s m o i n:=by
 obtain ⟨e,b,r,p,q⟩:=h.rd.rd;exact ⟨h.cfg,⟨⟨e,b,r.mod l (fun k f a=>(d k a).1 f) (fun k f=>(d k f).2.2.1),p,q⟩,h.rd.nc,h.rd.tc,h.rd.nb⟩,h.own.mod l (fun b j a=>(d b a).2.1 j) h.own.s1,h.sok,h.nok,h.tcl,h.bnd,h.nxt.step l (fun k f a=>(d k a).1 (aX f)) (fun g t a=>(d g a).2.2.2 t) rfl rfl rfl (fun b j=>aG j)⟩
structure CI (x:Cx) (v:DV) (b:Value) (m:Nat) (c a:List Nat) (w:World) (k:Nat):Prop where
 lt:k<w.heap.size
 s1:¬ x.S1 v k
 own:k∉m::(c++a)
 pend:¬ dP b k
theorem CI.step {x:Cx} {v v':DV} {j e:Value} {m:Nat} {l i f c:List Nat} {w w':World} {k:Nat} (h:CI x v j m l i w k) (q:w.heap.size≤w'.heap.size) (n:∀ b∈m::(f++c),b∈m::(l++i)∨w.heap.size≤b) (o:∀ b,x.S1 v' b→x.S1 v b∨w.heap.size≤b) (p:∀ g,dP e g→dP j g∨w.heap.size≤g):CI x v' e m f c w' k:=by
 refine ⟨rS h.lt q,fun d=>?_,fun d=>?_,fun d=>?_⟩
 ·rcases o k d with a|a
  ·exact h.s1 a
  ·have:=h.lt;omega
 ·rcases n k d with a|a
  ·exact h.own a
  ·have:=h.lt;omega
 ·rcases p k d with a|a
  ·exact h.pend a
  ·have:=h.lt;omega
theorem CI.same {x:Cx} {v:DV} {b:Value} {m:Nat} {c a:List Nat} {w w':World} {k:Nat} (h:CI x v b m c a w k) (d:w.heap.size≤w'.heap.size):CI x v b m c a w' k:=⟨rS h.lt d,h.s1,h.own,h.pend⟩
theorem TS.new {x:Cx} {c:DC} {w w':World} {v:DV} {s:St} {m:Nat} {f d:List Nat} {n:Nat} (h:TS x c w v s m f d n) {k:Nat} (j:w.heap.size≤k) (g:k<w'.heap.size):CI x v c.nextTok m f d w' k:=by
 obtain ⟨e,b,i,_,_⟩:=h.rd.rd;exact ⟨g,fun a=>by have:=i.s1lt k a;omega,fun a=>by have:=h.own.lt k a;omega,fun a=>by have:=h.nxt.lt a;omega⟩
theorem EU (m:World) (g:Nat) (r:g≤m.heap.size) (v:Value) (n:Nat) (E:n≤1000000000) (q:List Value) (h:m.ownsRow g 38 8 v n q) (e:Int) (d k:Bs) (b:Value) (x:b.oneCell'=true) (f:Bs) (a l c:Int) :
  ∃ v' p,(Builtin.append_ #[26,26] 26 #[v,.slice (some ⟨m.heap.size,0,none⟩) 1 1]).run prog (m.alloc (.cells #[.int .i64 e,aB d,aB k,b,aB f,.int .i64 a,.int .i64 l,.int .i64 c] 38))=.ok v' p ∧
   p.ownsRow g 38 8 v' (n+1) (q++lN e d k b f a l c)∧(m.alloc (.cells #[.int .i64 e,aB d,aB k,b,aB f,.int .i64 a,.int .i64 l,.int .i64 c] 38)).grownBy p v.ownBlock∧(v'.ownBlock=v.ownBlock∨v'.ownBlock=some (m.heap.size+1)):=by
 obtain ⟨i,z,D,t,w⟩:=info_parts SW
 obtain ⟨v',p,C,B,y,_,o⟩:=run_append_own_at (P:=prog) (m.alloc (.cells #[.int .i64 e,aB d,aB k,b,aB f,.int .i64 a,.int .i64 l,.int .i64 c] 38)) g 26 26 38 i _ 8 104 underlying26 z D t w rfl (by omega) v n q (h.alloc _) ⟨m.heap.size,0,none⟩ 1 1 (lN e d k b f a l c) rfl
  (by
   intro j u A;have r:=aJ.new m #[.int .i64 e,aB d,aB k,b,aB f,.int .i64 a,.int .i64 l,.int .i64 c] 38;rw [show ((⟨m.heap.size,0,none⟩:Addr).add j)=⟨m.heap.size,j,none⟩ by cases j<;>simp [Addr.add],r.cell];simpa [lN] using A)
  (by
   intro u s;simp only [lN,l6,zF,or_false] at s;rcases s with rfl|rfl|rfl|rfl|rfl|rfl|rfl|rfl<;>first|rfl|exact x)
  (by unfold maxLen;omega) (by omega) (by simp;omega)
 exact ⟨v',p,C,B,y,by simpa using o⟩
abbrev oN (o:cP) (a:Value):Array Value:=#[.bool o.raw,.bool (!o.strict),.slice none 0 0,a,aB o.space]
structure CJ (x:Cx) (c:DC) (w:World) (v:DV) (s:St) (m:Nat) (b a:List Nat) (n:Nat) (b0:Nat) (l:List (aU×St)) (f:List Value) (d g:Value):Prop where
 ts:TS x c w v s m b a n
 opt:aJ w b0 (oN x.o g) 32
 b0f:CI x v c.nextTok m b a w b0
 tvb:d.ownBlock≠some b0
 row:w.ownsRow b0 38 8 d l.length f
 tvf:∀ k,d.ownBlock=some k→CI x v c.nextTok m b a w k
 rows:cF (pJ w b0 (fun k=>CI x v c.nextTok m b a w k∧d.ownBlock≠some k) x.T) l f
 run:∀ l' e,jX cN x.o s l' e→jX cN x.o (St.init x.T) (l++l') e
 next:x.o.raw=true→s.next=none
 mu:l.length+s.mu2≤(St.init x.T).mu2
def ZZ (x:Cx) (d:Value) (m:Nat) (b0:Nat) (k:Nat) (a:Act) (w:World):Prop:=
 ∃ f c v s g e n l h b,a=fr 45 f [(7,.pointer (some ⟨b0,0,none⟩)),(10,bV x),(11,b)]∧CJ x c w v s m g e n b0 l h b d∧k=s.mu2
def L3 (T:Bs) (o:cP) (w:World) (c:Ending) (w':World):Prop:=
 ∃ l e a b,c=.returned (.tuple #[a,.int .i64 (EK.code e)])∧jX cN o (St.init T) l e∧Below w.heap.size w w'∧w'.ownsRow w.heap.size 38 8 a l.length b∧cF (pJ w' w.heap.size (fun _=>True) T) l b∧l.length≤8*T.length
theorem CJ.step {x:Cx} (O:x.Ok) {G:Value} {c:DC} {w:World} {v:DV} {s:St} {m:Nat} {y u:List Nat} {n:Nat} {b0:Nat} {l:List (aU×St)} {F:List Value} {A:Value} (h:CJ x c w v s m y u n b0 l F A G) {H:aU} {q:St} (f:fT cN x.o s=.ok (H,q))
  {t:DC} {w':World} {v':DV} {i d:List Nat} {L:Nat} (J:TS x t w' v' q m i d L) (r:aK (fun b=>x.S1 v b∨b∈m::(y++u)∨dP c.nextTok b) w w') (B:∀ b∈m::(i++d),b∈m::(y++u)∨w.heap.size≤b) (C:∀ b,x.S1 v' b→x.S1 v b∨w.heap.size≤b) (D:∀ g,dP t.nextTok g→dP c.nextTok g∨w.heap.size≤g) :
  aJ w' b0 (oN x.o G) 32∧CI x v' t.nextTok m i d w' b0∧w'.ownsRow b0 38 8 A l.length F∧(∀ k,A.ownBlock=some k→CI x v' t.nextTok m i d w' k)∧cF (pJ w' b0 (fun k=>CI x v' t.nextTok m i d w' k∧A.ownBlock≠some k) x.T) l F ∧
   (∀ l' e,jX cN x.o q l' e→jX cN x.o (St.init x.T) (l++(H,q)::l') e)∧(x.o.raw=true→q.next=none)∧l.length+1+q.mu2≤(St.init x.T).mu2∧q.mu2<s.mu2:=by
 obtain ⟨M,P,N⟩:=PJ f;have p:∀ k,CI x v c.nextTok m y u w k→¬ (x.S1 v k∨k∈m::(y++u)∨dP c.nextTok k):=fun k E j=>by
  rcases j with j|j|j
  ·exact E.s1 j
  ·exact E.own j
  ·exact E.pend j
 refine ⟨h.opt.mod r (p _ h.b0f),h.b0f.step r.size B C D,aE h.row r (fun k o=>p k (h.tvf k o)),fun k o=>(h.tvf k o).step r.size B C D,
  h.rows.mono (fun a Q z=>z.mod r (fun k o _=>⟨p k o.1,o.1.step r.size B C D,o.2⟩)),fun l' e I=>?_,fun z=>(N z).trans (h.next z),by have:=h.mu;omega,M⟩
 exact h.run _ e (.more f I)
theorem CJ.lay {x:Cx} {au:Value} {c:DC} {v:DV} {s:St} {m:Nat} {Z P:List Nat} {n:Nat} {b0:Nat} {l:List (aU×St)} {xs:List Value} {w:Value} {u q N:World} {j:aU}
  (hB:x.B≤b0) (I:TS x c u v s m Z P n) (T:aJ u b0 (oN x.o au) 32) (D:CI x v c.nextTok m Z P u b0) (B:w.ownBlock≠some b0) (U:u.ownsRow b0 38 8 w l.length xs) (p:∀ k,w.ownBlock=some k→CI x v c.nextTok m Z P u k)
  (H:cF (pJ u b0 (fun k=>CI x v c.nextTok m Z P u k∧w.ownBlock≠some k) x.T) l xs) (V:∀ l' e,jX cN x.o s l' e→jX cN x.o (St.init x.T) (l++(j,s)::l') e) (G:x.o.raw=true→s.next=none) (a0:l.length+1+s.mu2≤(St.init x.T).mu2)
  (R:Below u.heap.size u q) {J:Option Addr} {M L:Nat} {i6 i7:Int} (C:q.ownsRow u.heap.size 67 3 (.slice J M L) (j.itok (x.T.take (x.T.length-s.rest.length))).attrs.length (aO (j.itok (x.T.take (x.T.length-s.rest.length))).attrs))
  {o:Obj} {t:Value} (A:N.ownsRow b0 38 8 t (l.length+1) (xs++lN (j.itok (x.T.take (x.T.length-s.rest.length))).kind (j.itok (x.T.take (x.T.length-s.rest.length))).space (j.itok (x.T.take (x.T.length-s.rest.length))).loc (.slice J M L) (j.itok (x.T.take (x.T.length-s.rest.length))).text (j.itok (x.T.take (x.T.length-s.rest.length))).at' i6 i7))
  (r:(q.alloc o).grownBy N w.ownBlock) (d:t.ownBlock=w.ownBlock∨t.ownBlock=some (q.heap.size+1)) (hi:i6=((j.itok (x.T.take (x.T.length-s.rest.length))).line:Nat)∧i7=((j.itok (x.T.take (x.T.length-s.rest.length))).col:Nat)) :
  CJ x c N v s m Z P n b0 (l++[(j,s)]) (xs++lN (j.itok (x.T.take (x.T.length-s.rest.length))).kind (j.itok (x.T.take (x.T.length-s.rest.length))).space (j.itok (x.T.take (x.T.length-s.rest.length))).loc (.slice J M L) (j.itok (x.T.take (x.T.length-s.rest.length))).text (j.itok (x.T.take (x.T.length-s.rest.length))).at' i6 i7) t au:=by
 have aC:aK (fun _=>False) u q:=aH R _;have E:aK (fun k=>w.ownBlock=some k) q N:=(aH ((Below.refl _ q).alloc (dC _) o) _).trans (S':=fun k=>w.ownBlock=some k) ⟨r.os,r.tape,r.output,r.size,fun k b hn=>r.block k b (fun z=>hn z.symm)⟩ (fun i _ hi=>hi);have f:aK (fun k=>w.ownBlock=some k) u N:=(aC.mono (fun _ _ h=>h.elim)).trans E (fun _ _ h=>h);have Y:=R.size;have a2:=E.size;have a3:q.heap.size+1≤N.heap.size:=by have O:=r.size;rw [show (q.alloc o).heap.size=q.heap.size+1 from Array.size_push _] at O;exact O
 have a1:∀ k,w.ownBlock=some k→b0≤k:=fun k b=>(aS U b).2;have W:=I.mod f (fun k b=>⟨(p k b).s1,(p k b).own,gA hB (a1 k b),(p k b).pend⟩);have X:∀ k,t.ownBlock=some k→k<N.heap.size:=fun k b=>(aS A b).1;have F:∀ k,k<q.heap.size→w.ownBlock≠some k→t.ownBlock≠some k:=fun k b hn z=>by
  rcases d with d|d
  ·exact hn (d▸z)
  ·rw [d] at z;have:q.heap.size+1=k:=by simpa using z
   omega
 refine ⟨W,T.mod f B,D.same f.size,F b0 (rS D.lt Y) B,by rw [fU];exact A,fun k b=>?_,?_,fun l' e ht=>?_,G,by rw [fU];exact a0⟩
 ·rcases d with d|d
  ·exact (p k (d▸b)).same f.size
  ·have O:q.heap.size+1=k:=by rw [d] at b;simpa using b
   exact I.new (by omega) (X k b)
 ·refine .snoc (H.mono (fun a ys hr=>hr.mod f (fun k b aA=>⟨b.2,b.1.same f.size,F k (rS aA Y) b.2⟩))) ?_;have y:∀ k,(Value.slice J M L).ownBlock=some k→k<q.heap.size∧u.heap.size≤k:=fun k b=>aS C b;have Q:q.ownsRow b0 67 3 (.slice J M L) (j.itok (x.T.take (x.T.length-s.rest.length))).attrs.length (aO (j.itok (x.T.take (x.T.length-s.rest.length))).attrs):=by
   refine ⟨C.1,?_⟩;rcases C.2 with O|⟨g,cap,cur,e1,e2,e3⟩
   ·exact aG O
   ·exact aX ⟨g,cap,cur,e1,gA (Nat.le_of_lt D.lt) e2,e3⟩
  have S:∀ k,(Value.slice J M L).ownBlock=some k→w.ownBlock≠some k:=fun k b z=>by
   have h8:=(y k b).2;have O:=(p k z).lt;omega
  exact ⟨J,M,L,i6,i7,rfl,aE Q E (fun k b z=>S k b z),fun k b=>⟨I.new (y k b).2 (rS (y k b).1 a2),F k (y k b).1 (S k b)⟩,hi⟩
 ·rw [rR];exact V l' e ht
noncomputable def CK (n:Nat):Code:=((Tryz.f9.body).bind (Code.partAt n)).getD .skip
theorem EV {T rest:Bs} (h:rest <:+ T):T=T.take (T.length-rest.length)++rest:=by
 obtain ⟨p,rfl⟩:=h;have:(p++rest).length-rest.length=p.length:=by rw [fU];omega
 rw [this,List.take_left' rfl]
theorem cD.line_col {x:Cx} {c:DC} {w:World} {v:DV} {rest:Bs} {e:Option EK} {b:Bs} (g:cD x c w v rest e b) (d:v.nb≠10) (f:aU) {pre:Bs} (a:x.T=pre++rest) :
  v.line=((f.itok pre).line:Nat)∧v.off-v.lstart+1=((f.itok pre).col:Nat):=by
 obtain ⟨p,h,m,i,k,_⟩:=g.pos;have j:p=pre:=List.append_cancel_right (by rw [←h,←a]);subst j;have l:=k d;cases f<;>exact ⟨i,by show _=((uW p:Nat):Int);omega⟩
structure P5 (x:Cx) (h:Value) (m b0:Nat) (s:St) (l:List (aU×St)) (g:List Value) (Q:Exit→Act→World→Prop):Prop where
 on:∀ f c w v d j i n l' b a,CJ x c w v d m j i n b0 l' b a h→d.mu2<s.mu2→Q .normal (fr 45 f [(7,.pointer (some ⟨b0,0,none⟩)),(10,bV x),(11,a)]) w
 err:∀ f w e k,jX cN x.o (St.init x.T) l k→Below x.B x.W0 w→w.ownsRow b0 38 8 e l.length g→cF (pJ w b0 (fun _=>True) x.T) l g→Q .ret (fr 45 f [(8,e),(9,.int .i64 (EK.code k))]) w
theorem P6 (x:Cx) (E:x.All) (q:∃ cs t,aJ x.W0 x.eofA.block cs t) (r:x.W0.cell? ⟨1,0,none⟩=some (CX 59)) (c:1<x.B)
  (H:Value) (m b0:Nat) (s:St) (l:List (aU×St)) (z:List Value) (y:Value) (k:EK) (g:jX cN x.o (St.init x.T) l k) (w:World) (d:w.ownsRow b0 38 8 y l.length z) (b:cF (pJ w b0 (fun _=>True) x.T) l z)
  (t e:Value) (v:wH x e (some k)) (u:Below x.B x.W0 w) (D:jT w e k) (Q:Exit→Act→World→Prop) (B:P5 x H m b0 s l z Q) (f:Nat→Value) :
  (CK 8).wp prog Q (fr 45 f [(7,.pointer (some ⟨b0,0,none⟩)),(10,bV x),(11,y),(12,t),(13,e)]) w:=by
 have p:=Lh (XI x E.toOk q r c u v D);obtain ⟨L,M,rfl⟩:=v.iface;have ⟨G,n,j,h,A⟩:=pI B g d b u;clear E q r c g d b v u D B;conv=>arg 2;unfold CK;whnf
 refine vg ?_;intro K hK K hK K hK;refine p.o.mono ?_;rintro J F ⟨rfl,o⟩;have i:=Lh o;clear o p;(repeat revert K);refine vS ?_;intro K hK;refine Qk [8,9] fun f=>?_;have C:aK (fun _=>False) w F:=aH i.o _;exact G.o.err f F y k n.o (A.o.trans (i.o.mono A.o.size)) (aE j.o C (fun _ _=>id)) (h.o.mono (fun a N I=>I.mod C (fun k _ _=>⟨id,trivial⟩)))
theorem VM (x:Cx) (hx:x.All) (hT:x.T.length≤100000000) (au:Value) (m b0:Nat) (hB:x.B≤b0) (c0:DC) (w0:World) (v0:DV) (s:St) (r o:List Nat) (n0:Nat) (l:List (aU×St)) (xs:List Value) (tv:Value) (h:CJ x c0 w0 v0 s m r o n0 b0 l xs tv au)
  (u:aU) (H:St) (a:fT cN x.o s=.ok (u,H)) (c:DC) (w:World) (v:DV) (sb fb:List Nat) (n:Nat) (d:TS x c w v H m sb fb n) (t:Value) (BT:Nat) (ht:iT w v.bufv BT t u) (hm:aK (fun b=>x.S1 v0 b∨b∈m::(r++o)∨dP c0.nextTok b) w0 w) (h1:∀ b∈m::(sb++fb),b∈m::(r++o)∨w0.heap.size≤b) (h2:∀ b,x.S1 v b→x.S1 v0 b∨w0.heap.size≤b) (h3:∀ g,dP c.nextTok g→dP c0.nextTok g∨w0.heap.size≤g) (D:∀ nm z,u=.start nm z→z.length≤1000000000)
  (Q:Exit→Act→World→Prop) (hQ:P5 x au m b0 s l xs Q) (f:Nat→Value) :
  (CK 8).wp prog Q (fr 45 f [(7,.pointer (some ⟨b0,0,none⟩)),(10,bV x),(11,tv),(12,t),(13,.nilIface)]) w:=by
 obtain ⟨a1,a2,a3,a4,a5,a6,a7,W,a9⟩:=h.step hx.toOk a d hm h1 h2 h3;obtain ⟨e0,bf,A,_,_⟩:=d.rd.rd;have P:=Lh (A.line_col d.rd.nb u (EV A.suf));have q:=Lh (XB x hx.toOk c w v H.rest e0 bf A _ (EV A.suf) BT t u ht D);have i:(St.init x.T).mu2=8*x.T.length:=by rw [lC rfl];unfold St.mu St.init;simp
 have E:l.length≤1000000000:=by rw [i] at W;omega
 have R:=Lh E;have HA:=Lh (And.intro a1 (And.intro a2 (And.intro a3 (And.intro a4 (And.intro a5 (And.intro a6 (And.intro a7 (And.intro W a9))))))));have U:=Lh d;have V:=Lh h.tvb;have ⟨HQ,N⟩:=cH hQ hB;clear hx hT hB h a d ht hm h1 h2 h3 D hQ a1 a2 a3 a4 a5 a6 a7 W a9 A i E;obtain ⟨p,G⟩:=cR (u.itok (x.T.take (x.T.length-H.rest.length)));rw [←G] at q;have HP:=Lh G;clear G;conv=>arg 2;unfold CK;whnf
 refine vg ?_;intro K hK;refine q.o.mono ?_;rintro e3 w3 ⟨⟨sa,sl,sc,rfl,B⟩,e⟩;obtain ⟨b1,I,J,X,Y,Z,b7,b8,b9⟩:=HA.o;obtain ⟨aA,w4,k,j,C,F⟩:=EU w3 b0 (gA (Nat.le_of_lt I.lt) e.size) tv l.length R.o xs (aE (S:=fun _=>False) J (aH e _) (fun _ _=>id)) p.kind p.space p.loc (.slice sa sl sc) rfl p.text p.at' v.line (v.off-v.lstart+1);have ⟨L,M,y,O,T⟩:=pI B e j C F;clear q B e j C F b1 I J X Y Z b7 b8 b9;go_simp;revert K;refine vB ?_;refine fI rfl (.tmp 39) (.tmp 43) _ _ rfl _ _ _ (by rw [cB (by decide)];(try simp only [aL,aP,aR,aZ,Nat.reduceEqDiff,↓reduceIte]);(try rfl)) (by rw [cB (by decide)];(try simp only [aL,aP,aR,aZ,Nat.reduceEqDiff,↓reduceIte]);(try rfl)) k ?_;clear k;rw [fO (by decide)];refine vg ?_;refine Qk [7,10,11] fun f=>?_;obtain ⟨b1,I,J,X,Y,Z,b7,b8,b9⟩:=HA.o;have G:=HP.o;subst G;exact HQ.o.on f c w4 v H sb fb n _ _ aA (CJ.lay N.o U.o b1 I V.o J X Y Z b7 b8 M.o L.o y.o O.o T.o P.o) b9
structure At (w:World) (A:Option Addr) (C:Nat) (l:List Bs):Prop where
 n:l.length≤1000000000000
 c:l.length≤C
 at':0<l.length→∃ b o,A=some ⟨b,o,none⟩∧b<w.heap.size∧∀ j a,l[j]?=some a→w.cell? ⟨b,o+j,none⟩=some (aB a)∧a.length≤1000000000000
theorem At.nil (w:World) (A:Option Addr) (C:Nat):At w A C []:=⟨by simp,by simp,fun h=>(by simp at h)⟩
theorem P7 (T:Bs) (hT:T.length≤100000000) (o:cP) (e2:o.ents=none) (bA:o.auto=[]) (i:Option Addr) (p:Nat) (H:Option Addr) (L I:Nat) (f0:List Int) (w:World) (hE:CH w) (d3:At w i p o.auto) (E:Y6 w H L I f0) :
  Calls prog 9 #[aB T,.slice H L I,.bool o.fails,WW o.raw (!o.strict) (.slice i o.auto.length p) o.space] w (L3 T o w):=by
 obtain ⟨a9,he,hl⟩:=hE.eof;obtain ⟨x,P⟩:=cR (SU w T o a9 H L I f0);have B:=Lh (show x.All by rw [P];exact O4 hE.toEnv (by omega) o he hl E);have b7:=Lh (show ∃ cs t,aJ x.W0 x.eofA.block cs t by rw [P];exact hE.eofB a9 he);have d0:=Lh (show x.W0.cell? ⟨1,0,none⟩=some (CX 59) by rw [P];exact hE.et);have a8:=Lh (show 1<x.B by rw [P];exact hE.etB);have dT:=Lh (show kL x.W0 by rw [P];exact hE.af);have a7:=Lh (show 3<x.B by rw [P];exact hE.afB);have c9:x.o=o:=by rw [P];rfl
 have e7:x.T=T:=by rw [P];rfl
 have e8:x.W0=w:=by rw [P];rfl
 have e6:x.B=w.heap.size:=by rw [P];rfl
 have b5:x.rd=w.heap.size+1:=by rw [P];rfl
 have d9:x.d=w.heap.size+4:=by rw [P];rfl
 have d5:x.br=w.heap.size+5:=by rw [P];rfl
 have b3:x.rb=w.heap.size+6:=by rw [P];rfl
 have ⟨HX,y,q,a0,M,c1⟩:=iD P c9 e7 e8 e6 hT;have b6:=Lh d3;have f4:=Lh (show x.o.auto=[] by rw [c9];exact bA);have ⟨b8,f3,aA,f2,d1⟩:=pI e2 d9 b5 d5 b3;clear bA P hT hE he hl E d3 e2 c9 e7 e8 e6;have b0:=Lh (fun (w':World) (hs:w'.heap.size=w.heap.size+2)=>LL x w' o.raw (!o.strict) i o.auto.length p o.space (by omega) (by omega) (by omega));clear d9 d5 b3 b5;refine eT 45 func9 [_,_,_,_] fun f=>?_;simp only [aF];refine vg ?_;intro K hK K hK;rw [show (w.heap.size+1)=x.rd from aA.o.symm];have b4:aJ ((w.alloc (.cells #[.bool o.raw,.bool (!o.strict),.slice none 0 0,.slice i o.auto.length p,aB o.space] 32)).alloc (.cells #[aB T,.slice H L I,.int .i64 0,.bool o.fails] 56)) x.rd #[aB T,.slice H L I,.int .i64 0,.bool o.fails] 56:=by
  have:=aJ.new (w.alloc (.cells #[.bool o.raw,.bool (!o.strict),.slice none 0 0,.slice i o.auto.length p,aB o.space] 32)) #[aB T,.slice H L I,.int .i64 0,.bool o.fails] 56;rw [aA.o];simpa using this
 have b2:aJ ((w.alloc (.cells #[.bool o.raw,.bool (!o.strict),.slice none 0 0,.slice i o.auto.length p,aB o.space] 32)).alloc (.cells #[aB T,.slice H L I,.int .i64 0,.bool o.fails] 56)) w.heap.size (oN o (.slice i o.auto.length p)) 32:=(aJ.new w _ _).alloc _;have bC:Below w.heap.size w ((w.alloc (.cells #[.bool o.raw,.bool (!o.strict),.slice none 0 0,.slice i o.auto.length p,aB o.space] 32)).alloc (.cells #[aB T,.slice H L I,.int .i64 0,.bool o.fails] 56)):=((Below.refl _ w).alloc (dC _) _).alloc (by simp) _;have a4:((w.alloc (.cells #[.bool o.raw,.bool (!o.strict),.slice none 0 0,.slice i o.auto.length p,aB o.space] 32)).alloc (.cells #[aB T,.slice H L I,.int .i64 0,.bool o.fails] 56)).heap.size=w.heap.size+2:=by simp
 refine (b0.o _ (by simp)).mono ?_;rintro e1 w1 ⟨rfl,a6,d7,d4,e4,c7⟩;rw [a4] at c7;have f1:=Lh (bC.trans (a6.mono (by simp;omega)));obtain ⟨c,Z⟩:∃ c:DC,c={ c0 x (w.heap.size+2+1) with strict:=o.strict,auto:=.slice i o.auto.length p,space:=⟨o.space.toArray⟩ }:=⟨_,rfl⟩;have d8:bU w1 x.d c v0:=by
  rw [Z];have F:=d7;rw [a4] at F;simpa using F
 have a2:aJ w1 x.rd _ _:=aJ.mod (S:=fun _=>False) b4 (aH a6 _) id;have a1:aJ w1 w.heap.size (oN o (.slice i o.auto.length p)) 32:=aJ.mod (S:=fun _=>False) b2 (aH a6 _) id;have hR:cD x c w1 v0 T none []:=Bh (c:=c) (by have:=c1.o;omega) x HX.o f1.o d8 d4 e4 (by rw [HX.o] at a2 ⊢;exact a2);have e3:kT w1 (w.heap.size+2+1) 0 (fun _=>none):=kT.of c7;have c5:∀ k,x.S1 v0 k→k=w.heap.size+4∨k=w.heap.size+5∨k=w.heap.size+6∨k=w.heap.size+1:=by
  have h1:=f3.o;have h2:=aA.o;have h3:=f2.o;have h4:=d1.o;rintro k ((h|h|h|h)|h)
  ·omega
  ·omega
  ·omega
  ·omega
  ·exact h.elim
 have e5:TS x c w1 v0 (St.init T) (w.heap.size+2+1) [] [] 0:=by
  refine ⟨⟨⟨by rw [Z];rfl,by rw [Z,y.o]⟩,⟨by rw [Z];rfl,by rw [y.o];exact b8.o⟩,by rw [Z,y.o],⟨i,o.auto.length,p,by rw [Z],by rw [y.o],b6.o.n,b6.o.c,fun h=>by rw [y.o,M.o,a0.o];exact b6.o.at' h⟩⟩,
   ⟨⟨none,[],hR,fun h=>(by cases h),fun h=>absurd rfl h⟩,by rw [Z];rfl,fun nm h=>(by cases h),(show (-1:Int)≠10 by decide)⟩,
   ⟨by rw [Z];exact rfl,⟨[],by rw [Z];exact rfl⟩,by rw [Z];rfl,e3,by simp,fun b hb=>?_,fun b hb hs=>?_⟩,fun e he=>(by cases he),fun k u h=>(by cases h),fun nm h=>(by cases h),?_,kU.none rfl (by rw [Z];rfl)⟩
  ·simp only [List.append_nil,l6,zF,or_false] at hb;rw [hb,M.o];omega
  ·simp only [List.append_nil,l6,zF,or_false] at hb;have:=c5 b hs;omega
  ·rw [q.o];simp [St.init,qL]
 have O:CJ x c w1 v0 (St.init T) (w.heap.size+2+1) [] [] 0 w.heap.size [] [] (.slice none 0 0) (.slice i o.auto.length p):=by
  refine ⟨e5,by rw [y.o];exact a1,⟨a1.lt,fun hs=>by have:=c5 _ hs;omega,fun G=>?_,fun G=>by rw [show c.nextTok=.nilIface by rw [Z];rfl] at G;exact G.elim⟩,by simp [Value.ownBlock],⟨rfl,aG ⟨rfl,rfl⟩⟩,fun k hk=>(by cases hk),.nil,fun l' e ht=>(by rw [q.o];simpa using ht),fun _=>rfl,by rw [q.o];simp⟩;simp only [List.append_nil,l6,zF,or_false] at G;omega
 have g:=Lh O;clear a6 d7 d4 e4 c7 d8 Z a2 b4 b2 bC b0 a1 hR e3 c5 e5 O a4;(repeat revert K);refine vS ?_;refine cM [7,10,11] fun f=>?_;obtain ⟨m,hm⟩:=cR (w.heap.size+2+1);rw [←hm] at g;clear hm;refine wp_loop_ghost_k (ZZ x (.slice i o.auto.length p) m w.heap.size) (St.init T).mu2 ⟨f,c,v0,St.init T,[],[],0,[],[],.slice none 0 0,rfl,g.o,rfl⟩ ?_;clear g;rintro k _ w2 ⟨f,c,v,s,sb,fb,n,l,xs,tv,rfl,O,hk⟩ J K2 hJ d2;have ⟨HJ,a5,g,HK⟩:=kY hJ d2 O hk;have d6:∀ j,w2.cell? ⟨w.heap.size,j,none⟩=(oN o (.slice i o.auto.length p))[j]?:=by have h:=O.opt.cell;rw [y.o] at h;exact h
 have e0:=O.opt.frozen;have b1:s.mu2≤8*T.length:=by
  have h1:=O.mu;have h2:(St.init x.T).mu2=8*T.length:=by rw [lC rfl,q.o];unfold St.mu St.init;simp
  omega
 have f7:=Lh b1;clear hJ d2 O hk b1;have c6:o.raw=true∨o.raw=false:=by cases o.raw<;>simp
 rcases c6 with Y|Y
 ·have a3:fT cN x.o s=eC x.o s:=by unfold fT;rw [y.o,Y];rfl
  have cT:=Lh a3;have aC:=Lh (G3 x B.o dT.o a7.o c w2 v s m sb fb n  g.o.ts (g.o.next (by rw [y.o];exact Y)));clear a3;refine vg ?_;intro K hK K hK;refine aC.o.mono ?_;rintro e1 w3 ⟨t,e,rfl,E⟩;rw [←cT.o] at E;have HP:=Lh E;clear E aC d6 e0;go_simp;(repeat revert K);refine vT 8 ?_;refine cM [7,10,11,12,13] fun f=>?_;have E:=HP.o;unfold lD at E;cases r:fT cN x.o s with
  | error kk=>
   rw [r] at E;obtain ⟨_,p2,p3,p4,p5⟩:=E;have N:∀ k,CI x v c.nextTok m sb fb w2 k→¬ (x.S1 v k∨k∈m::(sb++fb)∨dP c.nextTok k):=fun k hf G=>by
    rcases G with G|G|G
    ·exact hf.s1 G
    ·exact hf.own G
    ·exact hf.pend G
   refine bB (P6 x B.o b7.o d0.o a8.o (.slice i o.auto.length p) m w.heap.size s l xs tv kk ?_ w3 (aE g.o.row p5 (fun k hk=>N k (g.o.tvf k hk))) (g.o.rows.mono (fun a ys hr=>hr.mod p5 (fun k hk _=>⟨N k hk.1,trivial⟩))) t e p2 p3 p4 _ ⟨fun f c' w' v' s' W Q n' l' X A D R=>?_,fun f w' A V U C z d=>?_⟩ f) (by kernel_rfl)
   ·have F:=g.o.run [] kk (.stop r);simpa using F
   ·refine a5.o _ _ ⟨s'.mu2,by rw [HK.o];exact R,HJ.o _ _ _ ⟨f,c',v',s',W,Q,n',l',X,A,rfl,D,rfl⟩⟩
   ·refine jV ?_;rw [M.o,a0.o] at C;rw [q.o] at d;refine ⟨l,V,A,xs,rfl,?_,C,z,d,?_⟩
    ·have F:=U;rw [y.o,q.o] at F;exact F
    ·have h1:=g.o.mu;have h2:(St.init x.T).mu2=8*T.length:=by rw [lC rfl,q.o];unfold St.mu St.init;simp
     omega
  | ok pr=>
   obtain ⟨tk,s2⟩:=pr;rw [r] at E;obtain ⟨rfl,c3,v3,dI,c2,n3,g1,⟨BT,g2⟩,g3,g4,g5,g6⟩:=E;refine bB (VM x B.o (by rw [q.o];exact c1.o) (.slice i o.auto.length p) m w.heap.size (by rw [M.o];exact dC _) c w2 v s sb fb n l xs tv g.o tk s2 r c3 w3 v3 dI c2 n3 g1 t BT g2 g3 g4 g5 g6 (fun nm f6 ht=>?_) _ ⟨fun f c' w' v' s' W Q n' l' X A D R=>?_,fun f w' A V U C z d=>?_⟩ f) (by kernel_rfl)
   ·subst ht;obtain ⟨e9,b9,c4,_,_⟩:=g.o.ts.rd.rd;have F:=A2 (by rw [y.o];exact b8.o) r c4.suf.length_le g.o.ts.tcl (fun tk c8=>by
     have h:=g.o.ts.nxt;unfold kU at h;rw [c8] at h;obtain ⟨_,_,_,_,h4,_⟩:=h;exact h4)
    have h7:=B.o.toOk.len;omega
   ·refine a5.o _ _ ⟨s'.mu2,by rw [HK.o];exact R,HJ.o _ _ _ ⟨f,c',v',s',W,Q,n',l',X,A,rfl,D,rfl⟩⟩
   ·refine jV ?_;rw [M.o,a0.o] at C;rw [q.o] at d;refine ⟨l,V,A,xs,rfl,?_,C,z,d,?_⟩
    ·have F:=U;rw [y.o,q.o] at F;exact F
    ·have h1:=g.o.mu;have h2:(St.init x.T).mu2=8*T.length:=by rw [lC rfl,q.o];unfold St.mu St.init;simp
     omega
 ·have a3:fT cN x.o s=kR cN x.o s:=by unfold fT;rw [y.o,Y];rfl
  have cT:=Lh a3;have aC:=Lh (TT x B.o dT.o a7.o f4.o b7.o c w2 v s m sb fb n g.o.ts);clear a3;refine vg ?_;intro K hK K hK;refine aC.o.mono ?_;rintro e1 w3 ⟨t,e,rfl,E⟩;rw [←cT.o] at E;have HP:=Lh E;clear E aC d6 e0;go_simp;(repeat revert K);refine vT 8 ?_;refine cM [7,10,11,12,13] fun f=>?_;have E:=HP.o;unfold lD at E;cases r:fT cN x.o s with
  | error kk=>
   rw [r] at E;obtain ⟨_,p2,p3,p4,p5⟩:=E;have N:∀ k,CI x v c.nextTok m sb fb w2 k→¬ (x.S1 v k∨k∈m::(sb++fb)∨dP c.nextTok k):=fun k hf G=>by
    rcases G with G|G|G
    ·exact hf.s1 G
    ·exact hf.own G
    ·exact hf.pend G
   refine bB (P6 x B.o b7.o d0.o a8.o (.slice i o.auto.length p) m w.heap.size s l xs tv kk ?_ w3 (aE g.o.row p5 (fun k hk=>N k (g.o.tvf k hk))) (g.o.rows.mono (fun a ys hr=>hr.mod p5 (fun k hk _=>⟨N k hk.1,trivial⟩))) t e p2 p3 p4 _ ⟨fun f c' w' v' s' W Q n' l' X A D R=>?_,fun f w' A V U C z d=>?_⟩ f) (by kernel_rfl)
   ·have F:=g.o.run [] kk (.stop r);simpa using F
   ·refine a5.o _ _ ⟨s'.mu2,by rw [HK.o];exact R,HJ.o _ _ _ ⟨f,c',v',s',W,Q,n',l',X,A,rfl,D,rfl⟩⟩
   ·refine jV ?_;rw [M.o,a0.o] at C;rw [q.o] at d;refine ⟨l,V,A,xs,rfl,?_,C,z,d,?_⟩
    ·have F:=U;rw [y.o,q.o] at F;exact F
    ·have h1:=g.o.mu;have h2:(St.init x.T).mu2=8*T.length:=by rw [lC rfl,q.o];unfold St.mu St.init;simp
     omega
  | ok pr=>
   obtain ⟨tk,s2⟩:=pr;rw [r] at E;obtain ⟨rfl,c3,v3,dI,c2,n3,g1,⟨BT,g2⟩,g3,g4,g5,g6⟩:=E;refine bB (VM x B.o (by rw [q.o];exact c1.o) (.slice i o.auto.length p) m w.heap.size (by rw [M.o];exact dC _) c w2 v s sb fb n l xs tv g.o tk s2 r c3 w3 v3 dI c2 n3 g1 t BT g2 g3 g4 g5 g6 (fun nm f6 ht=>?_) _ ⟨fun f c' w' v' s' W Q n' l' X A D R=>?_,fun f w' A V U C z d=>?_⟩ f) (by kernel_rfl)
   ·subst ht;obtain ⟨e9,b9,c4,_,_⟩:=g.o.ts.rd.rd;have F:=A2 (by rw [y.o];exact b8.o) r c4.suf.length_le g.o.ts.tcl (fun tk c8=>by
     have h:=g.o.ts.nxt;unfold kU at h;rw [c8] at h;obtain ⟨_,_,_,_,h4,_⟩:=h;exact h4)
    have h7:=B.o.toOk.len;omega
   ·refine a5.o _ _ ⟨s'.mu2,by rw [HK.o];exact R,HJ.o _ _ _ ⟨f,c',v',s',W,Q,n',l',X,A,rfl,D,rfl⟩⟩
   ·refine jV ?_;rw [M.o,a0.o] at C;rw [q.o] at d;refine ⟨l,V,A,xs,rfl,?_,C,z,d,?_⟩
    ·have F:=U;rw [y.o,q.o] at F;exact F
    ·have h1:=g.o.mu;have h2:(St.init x.T).mu2=8*T.length:=by rw [lC rfl,q.o];unfold St.mu St.init;simp
     omega
noncomputable def P8 (n:Nat):Code:=((Tryz.f11.body).bind (Code.partAt n)).getD .skip
theorem CL:(prog.info? 68).map (fun i=>(i.zero,i.size,i.bytes))=some (some (.agg #[.string ⟨#[]⟩,.string ⟨#[]⟩,.string ⟨#[]⟩]),3,48):=by kernel_rfl
theorem G4 (c:World) (b:Nat) (f:b≤c.heap.size) (v:Value) (acc:List cV) (w:acc.length≤1000000000) (h:c.ownsRow b 68 3 v acc.length (aO acc)) (a:cV) :
  ∃ v' e,(Builtin.append_ #[33,33] 33 #[v,.slice (some ⟨c.heap.size,0,none⟩) 1 1]).run prog (c.alloc (.cells #[aB a.1,aB a.2.1,aB a.2.2] 68))=.ok v' e ∧
   e.ownsRow b 68 3 v' (acc++[a]).length (aO (acc++[a]))∧(c.alloc (.cells #[aB a.1,aB a.2.1,aB a.2.2] 68)).grownBy e v.ownBlock∧(v'.ownBlock=v.ownBlock∨v'.ownBlock=some (c.heap.size+1)):=by
 obtain ⟨i,p,t,m,n⟩:=info_parts CL
 obtain ⟨v',e,s,r,o,g,d⟩:=run_append_own_at (P:=prog) (c.alloc (.cells #[aB a.1,aB a.2.1,aB a.2.2] 68)) b 33 33 68 i _ 3 48 underlying33 p t m n rfl (by omega) v acc.length (aO acc) (h.alloc _) ⟨c.heap.size,0,none⟩ 1 1 [aB a.1,aB a.2.1,aB a.2.2] rfl
  (by
   intro j u q;have f:=aJ.new c #[aB a.1,aB a.2.1,aB a.2.2] 68;rw [show ((⟨c.heap.size,0,none⟩:Addr).add j)=⟨c.heap.size,j,none⟩ by cases j<;>simp [Addr.add],f.cell];simpa using q)
  (by
   intro u k;simp only [l6,zF,or_false] at k;rcases k with rfl|rfl|rfl<;>rfl)
  (by unfold maxLen;omega) (by omega) (by simp;omega)
 refine ⟨v',e,s,?_,o,by simpa using d⟩;have l:aO (acc++[a])=aO acc++[aB a.1,aB a.2.1,aB a.2.2]:=by simp [aO]
 rw [l,fU];exact r
def Z0 (w1:World) (g h l c d:Value) (i:Value) (b:List cV) (k:Nat) (a:Act) (w:World):Prop:=
 ∃ f j e,a=fr 50 f [(3,g),(5,h),(6,e),(9,l),(10,c),(11,d),(16,i),(17,.int .i64 b.length),(18,.int .i64 (j:Nat))]∧Below w1.heap.size w1 w∧w.ownsRow w1.heap.size 68 3 e (b.take j).length (aO (b.take j))∧k=b.length-j∧j≤b.length
theorem Bn (w1:World) (o3 p5 v9 z A:Value) (T:Option Addr) (V U:Nat) (b:List cV) (s:b.length≤1000000000) (x:w1.ownsRow 0 67 3 (.slice T V U) b.length (aO b)) (Q:Exit→Act→World→Prop)
  (hQ:∀ f w' p,Below w1.heap.size w1 w'→w'.ownsRow w1.heap.size 68 3 p b.length (aO b)→Q .normal (fr 50 f [(3,o3),(5,p5),(6,p),(9,v9),(10,z),(11,A)]) w') (f:Nat→Value) (c1:Code) (aC:c1=.loop (P8 7)) :
  c1.wp prog (Exit.inBlock 2 Q) (fr 50 f [(3,o3),(5,p5),(6,.slice none 0 0),(9,v9),(10,z),(11,A),(16,.slice T V U),(17,.int .i64 b.length),(18,.int .i64 0)]) w1:=by
 subst aC;have ⟨HQ,o,F⟩:=lQ hQ s x;refine wp_loop_ghost_k (Z0 w1 o3 p5 v9 z A (.slice T V U) b) b.length ⟨f,0,.slice none 0 0,rfl,Below.refl _ w1,⟨rfl,aG ⟨rfl,rfl⟩⟩,by simp,kW _⟩ ?_;clear hQ s x;rintro k _ w ⟨f,j,p,rfl,hb,u,C,hj⟩ J K2 hJ G;have ⟨HJ,X,D,d,HK⟩:=pI hJ G hb u C;clear hJ G hb u C;unfold P8;conv=>arg 2;whnf
 by_cases O:j<b.length
 ·have h1:(j:Int)<(b.length:Int):=by omega
  have h0:(0:Int)≤(j:Int):=by omega
  have a6:IntKind.i64.wrap ((j:Int)+1)=((j+1:Nat):Int):=by rw [IntKind.wrap_i64];have:=o.o;omega
  obtain ⟨a,ha⟩:∃ a,b[j]?=some a:=⟨b[j],by simp [O]⟩;obtain ⟨g,h,c,P,M,r⟩:∃ g h c,Value.slice T V U=.slice (some ⟨g,0,none⟩) b.length h∧aJ w1 g c 67∧c.toList.take (b.length*3)=aO b:=by
   rcases F.o.2 with ⟨_,h9⟩|⟨g,h,c,h3,_,h4,_,_,_,h5⟩
   ·omega
   ·exact ⟨g,h,c,h3,h4,h5⟩
  simp only [Value.slice.injEq] at P;obtain ⟨rfl,rfl,rfl⟩:=P;have m:aJ w g c 67:=aJ.mod (S:=fun _=>False) M (aH D.o _) id;obtain ⟨k1,k2,k3⟩:=tG r ha;have H:w.cell? ⟨g,j*3,none⟩=some (aB a.1):=(m.cell _).trans k1;have I:w.cell? ⟨g,j*3+1,none⟩=some (aB a.2.1):=(m.cell _).trans k2;have L:w.cell? ⟨g,j*3+2,none⟩=some (aB a.2.2):=(m.cell _).trans k3;have e:b.take (j+1)=b.take j++[a]:=by rw [List.take_succ,ha];rfl
  have a3:(b.take j).length=j:=by simp;omega
  obtain ⟨B,n⟩:=cR (w.alloc (.cells #[aB a.1,aB a.2.1,aB a.2.2] 67));have l:Below w.heap.size w B:=by rw [n];exact (Below.refl _ w).alloc (dC _) _
  have y:aJ B w.heap.size #[aB a.1,aB a.2.1,aB a.2.2] 67:=by rw [n];exact aJ.new w _ _
  have R:=D.o.size;obtain ⟨Z,w4,v,t,N,a2⟩:=G4 B w1.heap.size (gA R l.size) p (b.take j) (by have:=o.o;omega) (aE (S:=fun _=>False) d.o (aH l _) (fun _ _=>id)) a;have a4:=y.cell;have a5:=y.frozen;have ⟨E,HO,W,Y⟩:=kY N t l e;clear k1 k2 k3 ha N t a2 l y e a3 R m M r;(repeat ((fail_if_success with_reducible refine tF 9 ?_);(first|(with_reducible first|refine zA fun K hK=>?_|refine zB ?_|refine zC ?_)|((with_reducible first|refine zD rfl fun K hK=>?_|refine zE fun K hK=>?_);go_simp)|(with_reducible first|((repeat ((fail_if_success refine hK _ _ ?_);clear hK K));refine hK _ _ ?_;clear hK K)|refine zt ?_|refine zf ?_|refine zG ?_|refine zR ?_|refine zK ?_|refine zL ?_|refine zN ?_|refine zS ?_)|simp only [Exit.then,Exit.inBlock,Exit.noGoto,↓reduceIte,Nat.reduceEqDiff]|simp only [undef,reduceCtorEq,↓reduceIte])));rw [show w.alloc (.cells #[.string ⟨List.toArray a.1⟩,.string ⟨List.toArray a.2.1⟩,.string ⟨List.toArray a.2.2⟩] 67)=B from n.symm];clear n H I L;revert K;refine vB ?_;intro K hK;refine fI rfl (.tmp 22) (.tmp 30) _ _ rfl _ _ _ (by rw [cB (by decide)];(try simp only [aL,aP,aR,aZ,Nat.reduceEqDiff,↓reduceIte]);(try rfl)) (by rw [cB (by decide)];(try simp only [aL,aP,aR,aZ,Nat.reduceEqDiff,↓reduceIte]);(try rfl)) v ?_;clear v;rw [fO (by decide)];revert K;refine vg ?_;refine Kk [3,5,6,9,10,11,16,17,18] fun f=>?_;have a1:aK (fun k=>p.ownBlock=some k) B w4:=(aH ((Below.refl _ B).alloc (dC _) _) _).trans (S':=fun k=>p.ownBlock=some k) ⟨E.o.os,E.o.tape,E.o.output,E.o.size,fun k C hn=>E.o.block k C (fun he=>hn he.symm)⟩ (fun i _ hi=>hi);have aA:∀ k,p.ownBlock=some k→w1.heap.size≤k:=fun k C=>(aS d.o C).2;have q:Below w1.heap.size w1 B:=D.o.trans (W.o.mono D.o.size);refine X.o _ _ ⟨b.length-(j+1),by rw [HK.o];omega,HJ.o _ _ _ ⟨f,j+1,Z,rfl,aK.below q q.size a1 aA,?_,rfl,O⟩⟩;rw [Y.o];exact HO.o
 ·have a0:j=b.length:=by omega
  subst a0;have h1:¬ ((b.length:Int)<(b.length:Int)):=by omega
  refine vg ?_;intro K hK;refine Qk [3,5,6,9,10,11] fun f=>?_;have h2:=d.o;rw [List.take_length] at h2;exact HQ.o f w p D.o h2
theorem tM:(prog.info? 35).map (fun i=>(i.zero,i.size,i.bytes))=some (some (.agg #[.int .i64 0,.string ⟨#[]⟩,.string ⟨#[]⟩,.slice none 0 0,.string ⟨#[]⟩,.int .i64 0]),6,88):=by kernel_rfl
def eS (p:cA) (a:Value):List Value:=[.int .i64 p.kind,aB p.space,aB p.loc,a,aB p.text,.int .i64 p.at']
theorem G5 (b:World) (a:Nat) (l:a≤b.heap.size) (v:Value) (n:Nat) (z:n≤1000000000) (k:List Value) (h:b.ownsRow a 35 6 v n k) (p:cA) (c:Option Addr) (e d:Nat) :
  ∃ v' g,(Builtin.append_ #[23,23] 23 #[v,.slice (some ⟨b.heap.size,0,none⟩) 1 1]).run prog (b.alloc (.cells #[.int .i64 p.kind,aB p.space,aB p.loc,.slice c e d,aB p.text,.int .i64 p.at'] 35))=.ok v' g ∧
   g.ownsRow a 35 6 v' (n+1) (k++eS p (.slice c e d))∧(b.alloc (.cells #[.int .i64 p.kind,aB p.space,aB p.loc,.slice c e d,aB p.text,.int .i64 p.at'] 35)).grownBy g v.ownBlock∧(v'.ownBlock=v.ownBlock∨v'.ownBlock=some (b.heap.size+1)):=by
 obtain ⟨i,s,y,o,q⟩:=info_parts tM
 obtain ⟨v',g,x,w,r,_,f⟩:=run_append_own_at (P:=prog) (b.alloc (.cells #[.int .i64 p.kind,aB p.space,aB p.loc,.slice c e d,aB p.text,.int .i64 p.at'] 35)) a 23 23 35 i _ 6 88 underlying23 s y o q rfl (by omega) v n k (h.alloc _) ⟨b.heap.size,0,none⟩ 1 1 (eS p (.slice c e d)) rfl
  (by
   intro j u t;have l:=aJ.new b #[.int .i64 p.kind,aB p.space,aB p.loc,.slice c e d,aB p.text,.int .i64 p.at'] 35;rw [show ((⟨b.heap.size,0,none⟩:Addr).add j)=⟨b.heap.size,j,none⟩ by cases j<;>simp [Addr.add],l.cell];simpa [eS] using t)
  (by
   intro u m;simp only [eS,l6,zF,or_false] at m;rcases m with rfl|rfl|rfl|rfl|rfl|rfl<;>rfl)
  (by unfold maxLen;omega) (by omega) (by simp;omega)
 exact ⟨v',g,x,w,r,by simpa using f⟩
def mD (w:World) (a:Nat) (G:Nat→Prop) (p:cA) (e:List Value):Prop:=
 ∃ b d c,e=eS p (.slice b d c)∧w.ownsRow a 68 3 (.slice b d c) p.attrs.length (aO p.attrs)∧∀ k,(Value.slice b d c).ownBlock=some k→G k
theorem mD.mod {w w':World} {a:Nat} {G G':Nat→Prop} {p:cA} {f:List Value} {S:Nat→Prop} (h:mD w a G p f) (g:aK S w w') (d:∀ k,G k→k<w.heap.size→¬ S k∧G' k):mD w' a G' p f:=by
 obtain ⟨i,l,j,rfl,c,e⟩:=h;exact ⟨i,l,j,rfl,aE c g (fun k b=>(d k (e k b) (aS c b).1).1),fun k b=>(d k (e k b) (aS c b).1).2⟩
structure CM (w:World) (g o:Nat) (p:cA):Prop where
 ex:∃ a c b d e,w.cell? ⟨g,o,none⟩=some (.int .i64 p.kind)∧w.cell? ⟨g,o+1,none⟩=some (aB p.space)∧w.cell? ⟨g,o+2,none⟩=some (aB p.loc)∧w.cell? ⟨g,o+3,none⟩=some (.slice a c b)∧w.cell? ⟨g,o+4,none⟩=some (aB p.text)∧w.cell? ⟨g,o+5,none⟩=some (.int .i64 p.at') ∧
  w.cell? ⟨g,o+6,none⟩=some (.int .i64 d)∧w.cell? ⟨g,o+7,none⟩=some (.int .i64 e)∧w.ownsRow 0 67 3 (.slice a c b) p.attrs.length (aO p.attrs)
 len:p.attrs.length≤1000000000
def Cf (w0:World) (c:Value) (l:List cA) (k:Nat) (a:Act) (w:World):Prop:=
 ∃ f i out b,a=fr 50 f [(3,out),(9,c),(10,.int .i64 l.length),(11,.int .i64 (i:Nat))]∧Below w0.heap.size w0 w∧w.ownsRow w0.heap.size 35 6 out i b∧cF (mD w w0.heap.size (fun k=>out.ownBlock≠some k)) (l.take i) b∧k=l.length-i∧i≤l.length
theorem TZ (w0:World) (l:List cA) (N:l.length≤1000000000) (g ro E:Nat) (hg:g<w0.heap.size) (U:∀ i p,l[i]?=some p→CM w0 g (ro+i*8) p) :
  Calls prog 11 #[.slice (some ⟨g,ro,none⟩) l.length E] w0 fun en w'=>∃ out xs,en=.returned out∧Below w0.heap.size w0 w'∧w'.ownsRow w0.heap.size 35 6 out l.length xs∧cF (mD w' w0.heap.size (fun _=>True)) l xs:=by
 have ⟨H,L,bA⟩:=lQ N U hg;clear N U hg;refine eT 50 func11 [_] fun f=>?_;simp only [aF];refine vg ?_;intro K hK;refine cM [3,9,10,11] fun f=>?_;refine wp_loop_ghost_k (Cf w0 (.slice (some ⟨g,ro,none⟩) l.length E) l) l.length ⟨f,0,.slice none 0 0,[],rfl,Below.refl _ w0,⟨rfl,aG ⟨rfl,rfl⟩⟩,.nil,by simp,kW _⟩ ?_;rintro k _ w ⟨f,i,out,xs,rfl,hb,R,y,b,hi⟩ J K2 hJ a0;have ⟨HJ,bC,W,m,s,HK⟩:=iD hJ a0 hb R y b;clear hJ a0 hb R y b;by_cases a5:i<l.length
 ·have h1:(i:Int)<(l.length:Int):=by omega
  have h0:(0:Int)≤(i:Int):=by omega
  have d1:IntKind.i64.wrap ((i:Int)+1)=((i+1:Nat):Int):=by rw [IntKind.wrap_i64];have:=H.o;omega
  obtain ⟨p,hp⟩:∃ p,l[i]?=some p:=⟨l[i],by simp [a5]⟩;obtain ⟨sa,sl,sc,i6,i7,c0,c1,c2,c3,c4,c5,c6,c7,X⟩:=(L.o i p hp).ex;have a9:=(L.o i p hp).len;have a3:∀ j,w.cell? ⟨g,j,none⟩=w0.cell? ⟨g,j,none⟩:=fun j=>W.o.cell (p:=⟨g,j,none⟩) bA.o;rw [←a3] at c0 c1 c2 c3 c4 c5 c6 c7;obtain ⟨w1,n⟩:=cR (w.alloc (.cells #[.int .i64 p.kind,aB p.space,aB p.loc,.slice sa sl sc,aB p.text,.int .i64 p.at',.int .i64 i6,.int .i64 i7] 38));have Y:Below w.heap.size w w1:=by rw [n];exact (Below.refl _ w).alloc (dC _) _
  have F:aJ w1 w.heap.size #[.int .i64 p.kind,aB p.space,aB p.loc,.slice sa sl sc,aB p.text,.int .i64 p.at',.int .i64 i6,.int .i64 i7] 38:=by rw [n];exact aJ.new w _ _
  have M:w1.ownsRow 0 67 3 (.slice sa sl sc) p.attrs.length (aO p.attrs):=aE (S:=fun _=>False) (aE (S:=fun _=>False) X (aH (W.o) _) (fun _ _=>id)) (aH Y _) (fun _ _=>id);have b6:sl=p.attrs.length:=by
   rcases X.2 with ⟨t,h8⟩|⟨g9,cap9,cur9,t,_⟩
   ·simp only [Value.slice.injEq] at t;rw [t.2.1,h8]
   ·simp only [Value.slice.injEq] at t;exact t.2.1
  subst b6;have z:l.take (i+1)=l.take i++[p]:=by rw [List.take_succ,hp];rfl
  have aC:=Lh (fun o3 p5 v9 cT c8 Q hQ f c1 e=>Bn w1 o3 p5 v9 cT c8 sa p.attrs.length sc p.attrs a9 M Q hQ f c1 e);have ⟨D,aA,b1⟩:=lQ Y F z;clear X M a9 a3 hp z;revert K;refine vT 5 ?_;intro K hK K hK;rw [show w.alloc (.cells #[.int .i64 p.kind,.string ⟨List.toArray p.space⟩,.string ⟨List.toArray p.loc⟩,.slice sa p.attrs.length sc,.string ⟨List.toArray p.text⟩,.int .i64 p.at',.int .i64 i6,.int .i64 i7] 38)=w1 from n.symm];clear n c0 c1 c2 c3 c4 c5 c6 c7 Y;have b3:=F.cell;have b4:=F.frozen;clear F;(repeat revert K);refine vg ?_;intro K hK K hK K hK;refine cM [3,5,6,9,10,11,16,17,18] fun f=>?_;refine aC.o _ _ _ _ _ _ ?_ f _ (by kernel_rfl);intro f r av u d;obtain ⟨A,C,B,rfl⟩:=nU d;have b7:=W.o.size;have b8:=D.o.size;have b9:=u.size;have x:aK (fun _=>False) w r:=(aH D.o _).trans (aH u _) (fun _ _ h=>h);obtain ⟨V,w4,T,P,a4,q⟩:=G5 r w0.heap.size (by omega) out i (by have:=H.o;omega) xs (aE m.o x (fun _ _=>id)) p A C B;have v:aJ r w.heap.size _ _:=aJ.mod (S:=fun _=>False) aA.o (aH u _) id;have c9:=v.cell;have dI:=v.frozen;have ⟨dT,c,Z,HO,b0,I⟩:=iD u d a4 P q x;clear u d a4 P q x v aC b3 b4 b7 b8 b9;(repeat revert K);refine vB ?_;intro K hK K hK;refine fI rfl (.tmp 33) (.tmp 46) _ _ rfl _ _ _ (by rw [cB (by decide)];(try simp only [aL,aP,aR,aZ,Nat.reduceEqDiff,↓reduceIte]);(try rfl)) (by rw [cB (by decide)];(try simp only [aL,aP,aR,aZ,Nat.reduceEqDiff,↓reduceIte]);(try rfl)) T ?_;clear T;rw [fO (by decide)];(repeat revert K);refine vg ?_;intro K hK;refine Kk [3,9,10,11] fun f=>?_;have a6:aK (fun k=>out.ownBlock=some k) r w4:=(aH ((Below.refl _ r).alloc (dC _) _) _).trans (S':=fun k=>out.ownBlock=some k) ⟨Z.o.os,Z.o.tape,Z.o.output,Z.o.size,fun k b hn=>Z.o.block k b (fun G=>hn G.symm)⟩ (fun i _ hi=>hi);have O:aK (fun k=>out.ownBlock=some k) w w4:=(I.o.mono (fun _ _ h=>h.elim)).trans a6 (fun _ _ h=>h);have b2:∀ k,out.ownBlock=some k→w0.heap.size≤k:=fun k b=>(aS m.o b).2;have d0:r.heap.size+1≤w4.heap.size:=by have t:=Z.o.size;rw [show ∀ o:Obj,(r.alloc o).heap.size=r.heap.size+1 from fun o=>Array.size_push _] at t;exact t
  have a7:∀ k,k<r.heap.size→out.ownBlock≠some k→V.ownBlock≠some k:=fun k b hn G=>by
   rcases b0.o with q|q
   ·exact hn (q▸G)
   ·rw [q] at G;have:r.heap.size+1=k:=by simpa using G
    omega
  refine bC.o _ _ ⟨l.length-(i+1),by rw [HK.o];omega,HJ.o _ _ _ ⟨f,i+1,V,_,rfl,aK.below W.o W.o.size O b2,HO.o,?_,rfl,a5⟩⟩;rw [b1.o];refine .snoc (s.o.mono (fun a ys hr=>hr.mod O (fun k b hl=>⟨b,a7 k (rS hl I.o.size) b⟩))) ?_;have a2:∀ k,(Value.slice A C B).ownBlock=some k→k<r.heap.size∧w1.heap.size≤k:=fun k b=>aS c.o b;have a8:∀ k,(Value.slice A C B).ownBlock=some k→out.ownBlock≠some k:=fun k b G=>by
   have h8:=(a2 k b).2;have t:=(aS m.o G).1;have h7:=aA.o.lt;have h6:=D.o.size;omega
  have a1:r.ownsRow w0.heap.size 68 3 (.slice A C B) p.attrs.length (aO p.attrs):=by
   refine ⟨c.o.1,?_⟩;rcases c.o.2 with t|⟨g,E,cur,e1,e2,e3⟩
   ·exact aG t
   ·exact aX ⟨g,E,cur,e1,gA (gA W.o.size D.o.size) e2,e3⟩
  exact ⟨A,C,B,rfl,aE a1 a6 (fun k b G=>a8 k b G),fun k b=>a7 k (a2 k b).1 (a8 k b)⟩
 ·have b5:i=l.length:=by omega
  subst b5;have h1:¬ ((l.length:Int)<(l.length:Int)):=by omega
  revert K;refine vg ?_;refine cX ?_;have h2:=s.o;rw [List.take_length] at h2;exact ⟨out,xs,rfl,W.o,m.o,h2.mono (fun a ys hr=>hr.mod (aK.refl (fun _=>False) w) (fun _ _ _=>⟨id,trivial⟩))⟩
theorem gY {w:World} {b:Nat} {e:TypeId} {r:Nat} {v:Value} {n:Nat} {j:List Value} (h:w.ownsRow b e r v n j) (t:0<n):∃ g a,v=.slice (some ⟨g,0,none⟩) n a∧b≤g∧g<w.heap.size∧n≤a∧a≤maxLen∧∀ k u,j[k]?=some u→w.cell? ⟨g,k,none⟩=some u:=by
 rcases h.2 with ⟨_,f⟩|⟨g,a,cur,l,m,o,p,q,s,f⟩
 ·omega
 ·have i:aJ w g cur e:=o;refine ⟨g,a,l,m,i.lt,p,q,fun k u c=>?_⟩;rw [i.cell];rw [←f] at c;have d:=(FP.1 c).1;rw [List.getElem?_take,aT (by simp at d;omega),Array.getElem?_toList] at c;exact c
theorem CN {w:World} {e g:Nat} {T:Bs} {l:List (aU×St)} {s:List Value} {G:Nat→Prop} (d:cF (pJ w e G T) l s) (c:∀ k u,s[k]?=some u→w.cell? ⟨g,k,none⟩=some u) {i:Nat} {a:aU×St} (v:l[i]?=some a) (f:(a.1.itok (T.take (T.length-a.2.rest.length))).attrs.length≤1000000000) :
  CM w g (i*8) (a.1.itok (T.take (T.length-a.2.rest.length))):=by
 obtain ⟨C,⟨p,r,q,A,B,rfl,o,_⟩,z⟩:=d.get (n:=8) (fun _ _ h=>h.len) v;have b:∀ j u,j<8→(lN _ _ _ _ _ _ _ _)[j]?=some u→w.cell? ⟨g,i*8+j,none⟩=some u:=fun j u x y=>c _ _ ((z j x).trans y);have m:w.ownsRow 0 67 3 (.slice p r q) (a.1.itok (T.take (T.length-a.2.rest.length))).attrs.length (aO (a.1.itok (T.take (T.length-a.2.rest.length))).attrs):=by
  refine ⟨o.1,?_⟩;rcases o.2 with t|⟨g9,cap,cur,e1,e2,e3⟩
  ·exact aG t
  ·exact aX ⟨g9,cap,cur,e1,kW _,e3⟩
 exact ⟨⟨p,r,q,A,B,b 0 _ (by omega) rfl,b 1 _ (by omega) rfl,b 2 _ (by omega) rfl,b 3 _ (by omega) rfl,b 4 _ (by omega) rfl,b 5 _ (by omega) rfl,b 6 _ (by omega) rfl,b 7 _ (by omega) rfl,m⟩,f⟩
theorem nN {e t:TypeId} {z:Value} {c d:Nat} (o:(prog.info? e).map (fun i=>(i.zero,i.size,i.bytes))=some (some z,c,d)) (N:prog.underlying t=some (.slice e)) (y:z.cells.size=c) (x:0<c) (p:d≤100)
  (W:World) (f:Nat) (G:f≤W.heap.size) (v:Value) (n:Nat) (B:n≤1000000000) (A:List Value) (h:W.ownsRow f e c v n A) (b:Nat) (a:List Value) (Q:a.length=c) (m:∀ j u,a[j]?=some u→W.cell? ⟨b,j,none⟩=some u) (D:∀ u∈a,u.oneCell'=true) :
  ∃ v' s,(Builtin.append_ #[t,t] t #[v,.slice (some ⟨b,0,none⟩) 1 1]).run prog W=.ok v' s∧s.ownsRow f e c v' (n+1) (A++a)∧aK (fun k=>v.ownBlock=some k) W s∧(v'.ownBlock=v.ownBlock∨v'.ownBlock=some W.heap.size)∧∃ g l,v'=.slice (some ⟨g,0,none⟩) (n+1) l:=by
 obtain ⟨i,I,O,E,F⟩:=info_parts o
 obtain ⟨v',s,M,C,q,_,r⟩:=run_append_own_at (P:=prog) W f t t e i z c d N I O E F y x v n A h ⟨b,0,none⟩ 1 1 a (by omega)
  (fun j u J=>by rw [show ((⟨b,0,none⟩:Addr).add j)=⟨b,j,none⟩ by cases j<;>simp [Addr.add]];exact m j u J) D (by unfold maxLen;omega)
  (by
   have w:(n+1)*d≤(n+1)*100:=Nat.mul_le_mul_left _ p;omega) G
 refine ⟨v',s,M,C,⟨q.os,q.tape,q.output,q.size,fun k L B=>q.block k L (fun H=>B H.symm)⟩,r,?_⟩;rcases C.2 with ⟨_,w⟩|⟨g,l,cur,w,_⟩
 ·omega
 ·exact ⟨g,l,w⟩
def fW (x:PX) (c:PC) (k:Nat):Prop:=k=x.p∨c.out.ownBlock=some k∨c.op.ownBlock=some k∨c.bd.ownBlock=some k
def cO (l:aN):List Value:=l.flatMap fun p=>[aB p.1,aB p.2]
def EW (w:World) (a:Nat) (G:Nat→Prop) (l:aN) (e:List Value):Prop:=
 ∃ b d c,e=[.slice b d c]∧w.ownsRow a 177 2 (.slice b d c) l.length (cO l)∧(∀ k,(Value.slice b d c).ownBlock=some k→G k)∧l.length≤1000000000
structure dN (x:PX) (base:Nat) (w:World) (c:PC) (opens:List Bs) (bound:List aN) (out:List cA):Prop where
 blk:aV x w c
 pb:base≤x.p
 out:∃ a,w.ownsRow base 35 6 c.out out.length a∧cF (mD w base (fun k=>¬ fW x c k)) out a
 op:∃ a,w.ownsRow base 9 1 c.op opens.length a∧cF (fun b d=>d=[aB b]) opens.reverse a
 bd:∃ a,w.ownsRow base 47 1 c.bd bound.length a∧cF (EW w base (fun k=>¬ fW x c k)) bound.reverse a
 s1:c.out.ownBlock≠some x.p∧c.op.ownBlock≠some x.p∧c.bd.ownBlock≠some x.p
 s2:∀ k,c.out.ownBlock=some k→c.op.ownBlock≠some k∧c.bd.ownBlock≠some k
 s3:∀ k,c.op.ownBlock=some k→c.bd.ownBlock≠some k
theorem dN.size {x:PX} {a:Nat} {w:World} {c:PC} {opens:List Bs} {bound:List aN} {out:List cA} (h:dN x a w c opens bound out):a≤w.heap.size:=by
 have b:=h.pb;have d:=aJ.lt h.blk;omega
theorem dN.busy {x:PX} {b:Nat} {w:World} {c:PC} {opens:List Bs} {bound:List aN} {out:List cA} (h:dN x b w c opens bound out) {k:Nat} (a:fW x c k):b≤k∧k<w.heap.size:=by
 obtain ⟨_,e,_⟩:=h.out;obtain ⟨_,f,_⟩:=h.op;obtain ⟨_,d,_⟩:=h.bd;rcases a with rfl|a|a|a
 ·exact ⟨h.pb,aJ.lt h.blk⟩
 ·exact ⟨(aS e a).2,(aS e a).1⟩
 ·exact ⟨(aS f a).2,(aS f a).1⟩
 ·exact ⟨(aS d a).2,(aS d a).1⟩
theorem EW.mod {w w':World} {a:Nat} {G G':Nat→Prop} {l:aN} {f:List Value} {S:Nat→Prop} (h:EW w a G l f) (i:aK S w w') (d:∀ k,G k→k<w.heap.size→¬ S k∧G' k):EW w' a G' l f:=by
 obtain ⟨j,n,m,rfl,c,e,g⟩:=h;exact ⟨j,n,m,rfl,aE c i (fun k b=>(d k (e k b) (aS c b).1).1),fun k b=>(d k (e k b) (aS c b).1).2,g⟩
theorem dN.own2 {x:PX} {e:Nat} {w w':World} {c f:PC} {opens d:List Bs} {bound a:List aN} {out:List cA} (h:dN x e w c opens bound out) (E:aV x w' f) (q:aK (fun k=>k=x.p) w w') (s:f.out=c.out) (m:f.op.ownBlock=c.op.ownBlock) (n:f.bd.ownBlock=c.bd.ownBlock)
  (j:∃ l,w.ownsRow e 9 1 f.op d.length l∧cF (fun b y=>y=[aB b]) d.reverse l) (t:∃ l,w.ownsRow e 47 1 f.bd a.length l∧cF (EW w e (fun k=>¬ fW x c k)) a.reverse l):dN x e w' f d a out:=by
 have B:∀ k,fW x f k↔fW x c k:=fun k=>by unfold fW;rw [s,m,n]
 have z:∀ k,¬ fW x c k→k<w.heap.size→¬ k=x.p∧¬ fW x f k:=fun k A _=>⟨fun i=>A (aG i),fun p=>A ((B k).1 p)⟩;obtain ⟨l,D,v⟩:=h.out;obtain ⟨y,j,r⟩:=j;obtain ⟨F,C,u⟩:=t;refine ⟨E,h.pb,⟨l,?_,v.mono (fun _ _ p=>p.mod q z)⟩,⟨y,?_,r⟩,⟨F,?_,u.mono (fun _ _ p=>p.mod q z)⟩,?_,?_,?_⟩
 ·rw [s];exact aE D q (fun g o i=>h.s1.1 (by rw [←i];exact o))
 ·exact aE j q (fun g o i=>h.s1.2.1 (by rw [←i,←m];exact o))
 ·exact aE C q (fun g o i=>h.s1.2.2 (by rw [←i,←n];exact o))
 ·rw [s,m,n];exact h.s1
 ·rw [s,m,n];exact h.s2
 ·rw [m,n];exact h.s3
theorem dN.own {x:PX} {a:Nat} {w w':World} {c b:PC} {opens:List Bs} {bound:List aN} {out:List cA} (h:dN x a w c opens bound out) (i:aV x w' b) (g:aK (fun k=>k=x.p) w w') (f:b.out=c.out) (d:b.op=c.op) (e:b.bd=c.bd):dN x a w' b opens bound out:=
 h.own2 i g f (by rw [d]) (by rw [e]) (by rw [d];exact h.op) (by rw [e];exact h.bd)
theorem dN.fresh {x:PX} {a:Nat} {w w':World} {c:PC} {opens:List Bs} {bound:List aN} {out:List cA} (h:dN x a w c opens bound out) (b:aK (fun _=>False) w w'):dN x a w' c opens bound out:=
 h.own (h.blk.mod b id) (b.mono (fun _ _ h=>h.elim)) rfl rfl rfl
theorem dN.addOut {x:PX} {b:Nat} {w n:World} {c:PC} {opens:List Bs} {bound:List aN} {out:List cA} (h:dN x b w c opens bound out) (p:cA) (y:Option Addr) (A z:Nat) (l:w.ownsRow b 68 3 (.slice y A z) p.attrs.length (aO p.attrs)) (o:∀ k,(Value.slice y A z).ownBlock=some k→¬ fW x c k)
  {v':Value} {E:List Value} (L:w.ownsRow b 35 6 c.out out.length E) (D:cF (mD w b (fun k=>¬ fW x c k)) out E) (H:n.ownsRow b 35 6 v' (out.length+1) (E++eS p (.slice y A z))) (G:aK (fun k=>c.out.ownBlock=some k) w n) (u:v'.ownBlock=c.out.ownBlock∨v'.ownBlock=some w.heap.size) :
  dN x b (n.setCell ⟨x.p,5,none⟩ v') { c with out:=v' } opens bound (out++[p]):=by
 have m:∀ k,v'.ownBlock=some k→c.out.ownBlock=some k∨w.heap.size≤k:=fun k d=>by
  rcases u with u|u
  ·exact aG (u▸d)
  ·rw [u] at d;right;simp at d;omega
 have f:aK (fun k=>k=x.p∨c.out.ownBlock=some k) w (n.setCell ⟨x.p,5,none⟩ v'):=aK.setCell (S:=fun k=>k=x.p∨c.out.ownBlock=some k) (G.mono (fun _ _ h=>aX h)) (p:=⟨x.p,5,none⟩) (aG (aG rfl)) v';have q:aK (fun k=>k=x.p) n (n.setCell ⟨x.p,5,none⟩ v'):=aK.setCell (S:=fun k=>k=x.p) (aK.refl _ _) (p:=⟨x.p,5,none⟩) (aG rfl) v';have J:=aJ.lt h.blk;have v:∀ k,¬ fW x c k→k<w.heap.size→¬ (k=x.p∨c.out.ownBlock=some k)∧¬ fW x { c with out:=v' } k:=fun k d I=>by
  refine ⟨fun a=>d (a.elim aG (fun h=>aX (aG h))),fun e=>?_⟩;rcases e with e|e|e|e
  ·exact d (aG e)
  ·rcases m k e with j|j
   ·exact d (aX (aG j))
   ·omega
  ·exact d (aX (aX (aG e)))
  ·exact d (aX (aX (aX e)))
 obtain ⟨M,s,t⟩:=h.op;obtain ⟨N,F,C⟩:=h.bd;have r:v'.ownBlock≠some x.p:=fun a=>by
  rcases m _ a with j|j
  ·exact h.s1.1 j
  ·omega
 refine ⟨?_,h.pb,⟨_,?_,.snoc (D.mono (fun _ _ e=>e.mod f v)) ⟨y,A,z,rfl,?_,?_⟩⟩,⟨M,?_,t⟩,⟨N,?_,C.mono (fun _ _ e=>e.mod f v)⟩,⟨r,h.s1.2⟩,?_,h.s3⟩
 ·have B:aV x n c:=h.blk.mod G h.s1.1;have:=B.set 5 v';simpa [fR] using this
 ·rw [fU];exact aE H q (fun g i a=>r (by rw [←a];exact i))
 ·exact aE l f (fun g i=>(v g (o g i) (aS l i).1).1)
 ·exact fun k d=>(v k (o k d) (aS l d).1).2
 ·refine aE s f (fun g i a=>?_);rcases a with a|a
  ·exact h.s1.2.1 (by rw [←a];exact i)
  ·exact (h.s2 g a).1 i
 ·refine aE F f (fun g i a=>?_);rcases a with a|a
  ·exact h.s1.2.2 (by rw [←a];exact i)
  ·exact (h.s2 g a).2 i
 ·intro k d;rcases m k d with j|j
  ·exact h.s2 k j
  ·exact ⟨fun a=>by have:=(aS s a).1;omega,fun a=>by have:=(aS F a).1;omega⟩
abbrev P9 (p:cA) (a:Option Addr) (c b:Nat) (i:Int):Value:=.agg #[.int .i64 p.kind,aB p.space,aB p.loc,.slice a c b,aB p.text,.int .i64 i]
theorem G6 (x:PX) (a:Nat) (w:World) (c:PC) (opens:List Bs) (bound:List aN) (out:List cA) (h:dN x a w c opens bound out) (y:out.length≤1000000000) (p:cA) (d:Option Addr) (l g:Nat) (i0:Int) (N:w.ownsRow a 68 3 (.slice d l g) p.attrs.length (aO p.attrs)) (Q:∀ k,(Value.slice d l g).ownBlock=some k→¬ fW x c k) :
  Calls prog 48 #[jA x,P9 p d l g i0] w fun e w'=>e=.returned (.bool true)∧Below a w w'∧∃ v',dN x a w' { c with out:=v' } opens bound (out++[{ p with at':=c.at' }]):=by
 obtain ⟨xs,W,t⟩:=h.out;obtain ⟨wa,r⟩:=cR (w.alloc (.cells #[.int .i64 p.kind,aB p.space,aB p.loc,.slice d l g,aB p.text,.int .i64 i0] 35));have E:aK (fun _=>False) w wa:=by rw [r];exact (aK.refl _ w).alloc _
 have o:aJ wa w.heap.size #[.int .i64 p.kind,aB p.space,aB p.loc,.slice d l g,aB p.text,.int .i64 i0] 35:=by rw [r];exact aJ.new w _ _
 have G:=h.blk.mod E id;have X:=G.cell;have hf:=G.frozen;have a1:=o.cell;have a2:=o.frozen;have ⟨H,M,a0,Y,aA,J⟩:=iD h W t N Q E;have ⟨Z,I⟩:=cH o y;clear h W t N Q E o G y;refine eT 20 func48 [_,_] fun f=>?_;simp only [aF];refine vT 1 ?_;rw [←r];clear r;refine vg ?_;intro K hK;obtain ⟨v,n⟩:=cR (wa.setCell ⟨w.heap.size,5,none⟩ (.int .i64 c.at'));rw [←n];have U:aV x v c:=by rw [n];exact aJ.set_ne (H.o.blk.mod J.o id) (fun he=>by have:=aJ.lt H.o.blk;simp at he;omega) _
 have O:aJ v w.heap.size #[.int .i64 p.kind,aB p.space,aB p.loc,.slice d l g,aB p.text,.int .i64 c.at'] 35:=by
  have:=Z.o.set 5 (.int .i64 c.at');rw [n];simpa using this
 have T:aK (fun _=>False) w v:=by rw [n];exact aK.setCell (S:=fun _=>False) J.o (p:=⟨w.heap.size,5,none⟩) (aX (dC _)) _
 have ⟨D,B,aC⟩:=lQ U O T;clear n U O T X hf a1 a2;refine s9 [0,0,0,0,1,1,3,2,0,0,2] (.one 0 (.one 1 (.one 2 (.one 3 (.one 4 (.one 5 (.one 6 (.one 7 (.one 8 (.one 9 (.one 10 .nil))))))))))) (fun w'=>aV x w' c∧aJ w' w.heap.size #[.int .i64 p.kind,aB p.space,aB p.loc,.slice d l g,aB p.text,.int .i64 c.at'] 35) (by kernel_rfl) (by kernel_rfl) ?_;(repeat (first|(with_reducible refine lL ?_)|((with_reducible refine jS rfl rfl (fun K hK=>?_));go_simp;refine hK _ ?_;clear hK K)|((with_reducible refine kI rfl rfl (fun K hK=>?_));go_simp;refine hK.out _ _ ?_;clear hK K)));refine pB rfl rfl ⟨D.o,B.o⟩ rfl (some 14) rfl c.out (fun w' m=>?_) ?_
 ·have X:=m.1.cell;clear m;go_simp
 rw [fO (by decide)];refine pB rfl rfl ⟨D.o,B.o⟩ rfl (some 15) rfl (P9 p d l g c.at') (fun w' m=>?_) ?_
 ·have X:=m.2.cell;clear m;go_simp
 rw [fO (by decide)];refine k8 rfl rfl (fun K hK=>?_);go_simp;refine hK.out _ _ ?_ ?_
 ·exact ⟨aJ.alloc (w:=v.drew) D.o _,aJ.alloc (w:=v.drew) B.o _⟩
 clear hK K;obtain ⟨wd,s⟩:=cR ((v.alloc (.cells #[.int .i64 p.kind,aB p.space,aB p.loc,.slice d l g,aB p.text,.int .i64 c.at'] 35)).drew);rw [←s];have q:aK (fun _=>False) w wd:=by rw [s];exact (aC.o.alloc _).drew
 have P:aJ wd v.heap.size #[.int .i64 p.kind,aB p.space,aB p.loc,.slice d l g,aB p.text,.int .i64 c.at'] 35:=by rw [s];exact (aJ.new v _ _).drew
 have V:=H.o.size
 obtain ⟨v',w4,A,z,R,hv,gv,cv,a3⟩:=nN tM underlying23 rfl (by decide) (by decide) wd a (gA V q.size) c.out out.length I.o xs (aE (S:=fun _=>False) M.o q (fun _ _=>id)) v.heap.size (eS { p with at':=c.at' } (.slice d l g)) rfl
  (fun j u hj=>by rw [P.cell];simpa [eS] using hj)
  (fun u hu=>by
   simp only [eS,l6,zF,or_false] at hu;rcases hu with rfl|rfl|rfl|rfl|rfl|rfl<;>rfl)
 have ⟨L,C,HV,b⟩:=kY z R hv q;clear s P z R hv q V;refine OI rfl rfl rfl (some 17) rfl (.tmp 14) (.tmp 16) _ _ rfl _ _ v' (by rw [cB (by decide)];(try simp only [aL,aP,aR,aZ,Nat.reduceEqDiff,↓reduceIte]);(try rfl)) (by rw [cB (by decide)];(try simp only [aL,aP,aR,aZ,Nat.reduceEqDiff,↓reduceIte]);(try rfl)) A ?_;rw [fO (by decide)];clear A;subst a3;have F:aV x w4 c:=(H.o.blk.mod b.o id).mod C.o H.o.s1.1;have X:=F.cell;have hf:=F.frozen;clear F;(repeat (first|(with_reducible refine lL ?_)|((with_reducible refine jS rfl rfl (fun K hK=>?_));go_simp;refine hK _ ?_;clear hK K)|((with_reducible refine kI rfl rfl (fun K hK=>?_));go_simp;refine hK.out _ _ ?_;clear hK K)));revert K;refine vg ?_;refine cX ?_;have hd:=H.o.fresh b.o;have t:=a0.o.mono (fun _ _ hh=>mD.mod (G':=fun k=>¬ fW x c k) hh b.o (fun k hk _=>⟨id,hk⟩));have hR:=hd.addOut { p with at':=c.at' } d l g (aE (S:=fun _=>False) Y.o b.o (fun _ _=>id)) aA.o (aE (S:=fun _=>False) M.o b.o (fun _ _=>id)) t L.o C.o HV.o;refine ⟨rfl,?_,_,hR⟩;refine aK.below (Below.refl _ w) H.o.size (aK.setCell (S:=fun k=>fW x c k) ((b.o.mono (S':=fun k=>fW x c k) (fun _ _ h=>h.elim)).trans (C.o.mono (S':=fun k=>fW x c k) (fun _ _ h=>aX (aG h))) (fun _ _ h=>h)) (p:=⟨x.p,5,none⟩) (aG (aG rfl)) _) (fun i hi=>(H.o.busy hi).1)
theorem iL (x:PX) (f:x.T.length≤1000000000) (w:World) (c:PC) (h:aV x w c) (g:c.at'≤x.T.length) (s:Bs) (i:s.length≤1000000000) (b:s.isPrefixOf (x.T.drop c.at')=true):Calls prog 26 #[jA x,aB s] w fun e w'=>e=.returned (.bool true)∧aV x w' { c with at':=c.at'+s.length }∧aK (fun k=>k=x.p) w w':=by
 refine (uK x f w c h g s i).mono ?_;rintro e w' ⟨rfl,a,d⟩;rw [b,aT rfl] at a;rw [b];exact ⟨rfl,a,d⟩
theorem iA (x:PX) (f:x.T.length≤1000000000) (w:World) (c:PC) (h:aV x w c) (g:c.at'≤x.T.length) (s:Bs) (i:s.length≤1000000000) (b:s.isPrefixOf (x.T.drop c.at')=false):Calls prog 26 #[jA x,aB s] w fun e w'=>e=.returned (.bool false)∧aV x w' c∧aK (fun k=>k=x.p) w w':=by
 refine (uK x f w c h g s i).mono ?_;rintro e w' ⟨rfl,a,d⟩;rw [b,aM (by simp)] at a;rw [b];exact ⟨rfl,a,d⟩
theorem nV (x:PX) (w:World) (c:PC) (h:aV x w c) (b:x.T.length≤c.at'):Calls prog 14 #[jA x] w fun e w'=>e=.returned (.bool true)∧∃ k,w'=w.drewN k:=by
 refine (s7 x w c h).mono ?_;rintro e w' ⟨rfl,a⟩;exact ⟨by rw [decide_eq_true (by omega)],a⟩
theorem nW (x:PX) (w:World) (c:PC) (h:aV x w c) (b:c.at'<x.T.length):Calls prog 14 #[jA x] w fun e w'=>e=.returned (.bool false)∧∃ k,w'=w.drewN k:=by
 refine (s7 x w c h).mono ?_;rintro e w' ⟨rfl,a⟩;exact ⟨by rw [decide_eq_false (by omega)],a⟩
theorem nX {s T:Bs} {a:Nat} (h:s.isPrefixOf (T.drop a)=true) (b:a≤T.length):a+s.length≤T.length:=by
 have:=B3 h;rw [eO] at this;omega
def fX (x:PX) (a:Nat) (out:List cA) (w:World) (r:Except SV (List aU×gS)) (e:Ending) (w':World):Prop:=
 Below a w w'∧match r with
  | .ok q=>e=.returned (.bool true)∧∃ b,dN x a w' b q.2.opens q.2.bound (out++q.1.map fun t=>{ t.itok [] with at':=b.at' })∧b.at'≤x.T.length∧q.2.rest=x.T.drop b.at'
  | .error k=>e=.returned (.bool false)∧∃ b d c,dN x a w' b d c out∧b.verd=k.num
theorem fX.err {x:PX} {b:Nat} {out:List cA} {w w1 w':World} {c:PC} {opens:List Bs} {bound:List aN} {r:Except SV (List aU×gS)} {k:SV} {a:Nat} (h:dN x b w c opens bound out) (f:aV x w' { c with at':=a,verd:=k.num }) (d:aK (fun k=>k=x.p) w w') (g:r=.error k):fX x b out w r (.returned (.bool false)) w':=by
 subst g;exact ⟨aK.below (Below.refl _ w) h.size d (fun i e=>by rw [e];exact h.pb),rfl,_,opens,bound,h.own f d rfl rfl rfl,rfl⟩
theorem rD (x:PX) (b:Nat) (w w1:World) (c:PC) (opens:List Bs) (bound:List aN) (out:List cA) (h:dN x b w c opens bound out) (f:out.length≤1000000000) (a:Nat) (l:a≤x.T.length) (p:aV x w1 { c with at':=a }) (g:aK (fun k=>k=x.p) w w1) (t:aU) (d:(t.itok []).attrs=[]) (r:Except SV (List aU×gS)) (q:r=.ok ([t],⟨x.T.drop a,opens,bound⟩)) :
  Calls prog 48 #[jA x,P9 (t.itok []) none 0 0 0] w1 fun e w'=>e=.returned (.bool true)∧fX x b out w r (.returned (.bool true)) w':=by
 have j:dN x b w1 { c with at':=a } opens bound out:=h.own p g rfl rfl rfl;refine (G6 x b w1 { c with at':=a } opens bound out j f (t.itok []) none 0 0 0 ⟨by rw [d];rfl,aG ⟨rfl,by rw [d];rfl⟩⟩ (fun k o=>by cases o)).mono ?_;rintro e w' ⟨rfl,m,v',s⟩;refine ⟨rfl,(aK.below (Below.refl _ w) h.size g (fun i n=>by rw [n];exact h.pb)).trans m,?_⟩;subst q;exact ⟨rfl,_,s,l,rfl⟩
def QA (l:Bs):Int:=match l with
 | []=>1
 | b::_=>if b=45∨b=91 then 1 else 2
theorem QB (x:PX) (w:World) (c:PC) (h:aV x w c):Calls prog 33 #[jA x,aB [45,45],aB [91,67,68,65,84,65,91]] w fun e w'=>e=.returned (.int .i64 (QA (x.T.drop c.at')))∧∃ k,w'=w.drewN k:=by
 have j:=Lh h;refine eT 37 func33 [_,_,_] fun f=>?_;simp only [aF];have A:∀ h,(⟨#[45,45]⟩:ByteArray)[0]'h=45:=fun _=>rfl;have B:∀ h,(⟨#[91,67,68,65,84,65,91]⟩:ByteArray)[0]'h=91:=fun _=>rfl;by_cases i:c.at'<x.T.length
 ·have l:=Lh (fun q=>nW x (w.drewN q) c h i);clear h;obtain ⟨b,o⟩:=cR (x.T.getD c.at' 0);have z:∀ h,(⟨x.T.toArray⟩:ByteArray)[c.at']'h=b:=by rw [o];exact iP x.T c.at' i
  have m:=Lh (show QA (x.T.drop c.at')=if b=45∨b=91 then 1 else 2 by rw [bX x.T c.at' i,o];rfl);have C:(0:Int)≤(c.at':Int):=by omega
  have D:(c.at':Int)<(x.T.length:Int):=by omega
  clear o;by_cases d:b=45
  ·have a:=Lh (m.o.trans (aT (aG d)));subst d;refine vg ?_;intro K hK K hK;(refine lI [0,2,0,0,0,0,1,0,0,0,1,0,0,0,0,0,0,0,0,0,1,0,0,0,1,0,0,0,0,0] [0,1,2,3,4,5,6,7,8,9,10,11,12,13,14,15,16,17,18,19,20,21,22,23,24,25,26,27,28,29] ?_;refine vP ?_;repeat with_reducible intro nq)
   refine bN rfl rfl (fun nq K hK=>?_);go_simp;refine (l.o _).mono ?_;rintro n r ⟨rfl,p,rfl⟩;have s:=j.o.cell;have t:=j.o.frozen;go_simp;refine hK.out _ _ ?_;clear hK K;(refine vP ?_;repeat with_reducible intro nq)
   (repeat revert K);refine vg ?_;intro K hK;refine cX ?_;exact ⟨by rw [a.o],_,rfl⟩
  have u:((b.toNat:Int)==45)=false:=nM d;by_cases g:b=91
  ·have a:=Lh (m.o.trans (aT (aX g)));subst g;refine vg ?_;intro K hK K hK;(refine lI [0,2,0,0,0,0,1,0,0,0,1,0,0,0,0,0,0,0,0,0,1,0,0,0,1,0,0,0,0,0] [0,1,2,3,4,5,6,7,8,9,10,11,12,13,14,15,16,17,18,19,20,21,22,23,24,25,26,27,28,29] ?_;refine vP ?_;repeat with_reducible intro nq)
   refine bN rfl rfl (fun nq K hK=>?_);go_simp;refine (l.o _).mono ?_;rintro n r ⟨rfl,p,rfl⟩;have s:=j.o.cell;have t:=j.o.frozen;go_simp;refine hK.out _ _ ?_;clear hK K;(refine vP ?_;repeat with_reducible intro nq)
   (repeat revert K);refine vg ?_;intro K hK;refine cX ?_;exact ⟨by rw [a.o],_,rfl⟩
  have v:((b.toNat:Int)==91)=false:=nM g;have a:=Lh (m.o.trans (aM (fun y=>y.elim d g)));clear d g;refine vg ?_;intro K hK K hK;(refine lI [0,2,0,0,0,0,1,0,0,0,1,0,0,0,0,0,0,0,0,0,1,0,0,0,1,0,0,0,0,0] [0,1,2,3,4,5,6,7,8,9,10,11,12,13,14,15,16,17,18,19,20,21,22,23,24,25,26,27,28,29] ?_;refine vP ?_;repeat with_reducible intro nq)
  refine bN rfl rfl (fun nq K hK=>?_);go_simp;refine (l.o _).mono ?_;rintro n r ⟨rfl,p,rfl⟩;have s:=j.o.cell;have t:=j.o.frozen;go_simp;refine hK.out _ _ ?_;clear hK K;(refine vP ?_;repeat with_reducible intro nq)
  (repeat revert K);refine vg ?_;refine cX ?_;exact ⟨by rw [a.o],_,rfl⟩
 ·have l:=Lh (fun q=>nV x (w.drewN q) c h (by omega));have m:=Lh (show QA (x.T.drop c.at')=1 by rw [t6 (by omega)];rfl);clear h;refine vg ?_;intro K hK K hK;(refine lI [0,2,0,0,0,0,1,0,0,0,1,0,0,0,0,0,0,0,0,0,1,0,0,0,1,0,0,0,0,0] [0,1,2,3,4,5,6,7,8,9,10,11,12,13,14,15,16,17,18,19,20,21,22,23,24,25,26,27,28,29] ?_;refine vP ?_;repeat with_reducible intro nq)
  refine bN rfl rfl (fun nq K hK=>?_);go_simp;refine (l.o _).mono ?_;rintro n r ⟨rfl,p,rfl⟩;go_simp;refine hK.out _ _ ?_;clear hK K;(refine vP ?_;repeat with_reducible intro nq)
  (repeat revert K);refine vg ?_;intro K hK;refine cX ?_;exact ⟨by rw [m.o],_,rfl⟩
end Go.Proofs.YthapcchcahnfaaaGreatDoor
