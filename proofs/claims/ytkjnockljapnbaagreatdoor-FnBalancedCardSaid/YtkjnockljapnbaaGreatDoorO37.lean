/- Part of the proof that laws.FnBalanced returns true for every argument (Sj). No condition of its own. -/
import Derived.Test.YtkjnockljapnbaaGreatDoorO36
import Derived.Test.YtkjnockljapnbaaGreatDoorO17
set_option linter.all false
set_option maxHeartbeats 8000000
set_option maxRecDepth 100000
namespace Go.Proofs.YtkjnockljapnbaaGreatDoor
open Go Go.RowKit
theorem popElement_c (x:Cx) (hx:x.All) (c:DC) (w:World) (v:DV) (s:St) (m:Nat) (sb fb:List Nat) (n:Nat) (tb:Nat) (nm:Bs × Bs) (h:PeSt x c w v s m sb fb n tb nm) :
    Calls Tryz.prog 29 #[decP x,.pointer (some ⟨tb,0,none⟩)] w fun en w'=>PopEPost x c w v s nm m sb fb n tb en w':=by
  cases hs:s.stk with
  | nil=>exact popE_nil x hx c w v s m sb fb n tb nm h hs
  | cons e stk'=>
    rcases (h.sok e (by rw [hs];simp)).1 with hk|hk
    · exact popE_elem x hx c w v s m sb fb n tb nm h e stk' hs hk
    · exact popE_ns x hx c w v s m sb fb n tb nm h e stk' hs hk
theorem StkAt.head {w:World} {p:Value} {l:List Ent} {bs:List Nat} (h:StkAt w p l bs) (hok:StkOk l) :
    (p=.pointer none∧l=[]) ∨ ∃ q e l' nx ok,p=.pointer (some ⟨q,0,none⟩)∧l=e :: l'∧(e.kind=0 ∨ e.kind=1)∧Blk w q (skCells nx e.kind e.space e.loc ok) 88∧q ∈ bs:=by
  rcases h.ptr with ⟨h1,_,h2⟩|⟨q,e,l',bs',rfl,rfl,rfl⟩
  · exact Or.inl ⟨h1,h2⟩
  · obtain ⟨_,nx,ok,hb,_,_⟩:=h
    exact Or.inr ⟨q,e,l',nx,ok,rfl,rfl,(hok e (by simp)).1,hb,by simp⟩
def AutoAt (x:Cx) (v:Value):Prop:=∃ A N C,v=.slice A N C∧N=x.o.auto.length∧N ≤ 1000000000000∧N ≤ C∧(0 < N → ∃ b o,A=some ⟨b,o,none⟩∧b < x.B∧∀ j a,x.o.auto[j]?=some a → x.W0.cell? ⟨b,o + j,none⟩=some (strV a)∧a.length ≤ 1000000000000)
structure CfgOk (x:Cx) (c:DC):Prop where
  dc:DcOk x c
  no:NoEnt x c
  sp:c.space=⟨x.o.space.toArray⟩
  auto:AutoAt x c.auto
theorem CfgOk.same {x:Cx} {c c':DC} (h:CfgOk x c) (k:SameD c c'):CfgOk x c':=by
  obtain ⟨p,q,dp,b,t1,t2,rfl⟩:=k
  exact ⟨⟨h.dc.r,h.dc.strict⟩,⟨h.no.ent,h.no.ents⟩,h.sp,h.auto⟩
def tokBlk:Value → Nat → Prop
  | .iface _ (.agg #[_,_,.slice (some a) _ _]),k=>k=a.block
  | _,_=>False
theorem DataAt.slice {w:World} {bv s:Value} {d:Bs} (h:DataAt w bv s d):∃ a l c,s=.slice (some a) l c:=by
  obtain ⟨g,cap,n,h,_⟩:=h.ex
  exact ⟨_,_,_,h⟩
theorem BytesAt.mod {w w':World} {g o:Nat} {d:Bs} {S:Nat → Prop} (h:BytesAt w g o d) (hm:Mod S w w') (hS:¬ S g):BytesAt w' g o d:=by
  intro j hj
  have h1:=h j hj
  have hl:=World.block_lt_of_cell? w _ h1
  rw [← h1]
  exact World.cell?_of_block (w:=w) (hm.block g hl hS)
theorem TokAt.mod {w w':World} {bv:Value} {B:Nat} {tv:Value} {tk:RTok} {S:Nat → Prop} (h:TokAt w bv B tv tk) (hm:Mod S w w') (hb:∀ k,bufBlk bv k → ¬ S k) (ht:∀ g,tokBlk tv g → ¬ S g):TokAt w' bv B tv tk:=by
  have hd:∀ {s:Value} {d:Bs},DataAt w bv s d → DataAt w' bv s d:=by
    rintro s d ⟨g,cap,n,h1,h2,h3,h4,h5⟩
    exact ⟨g,cap,n,h1,h2,h3.mod hm (hb g (by rw [h2];rfl)),h4,h5⟩
  cases tk with
  | text d=>obtain ⟨s,h1,h2⟩:=h;exact ⟨s,h1,hd h2⟩
  | comment d=>obtain ⟨s,h1,h2⟩:=h;exact ⟨s,h1,hd h2⟩
  | dir d=>obtain ⟨s,h1,h2⟩:=h;exact ⟨s,h1,hd h2⟩
  | proc tg d=>obtain ⟨s,h1,h2⟩:=h;exact ⟨s,h1,hd h2⟩
  | fin nm=>exact h
  | start nm ats=>
    obtain ⟨s,rfl,h2,h3⟩:=h
    refine ⟨s,rfl,h2,ownsRow_mod h3 hm (fun k hk=>?_)⟩
    rcases h3.2 with ⟨h4,_⟩|⟨g,cap,cur,h4,_⟩
    · exact absurd h4 h2
    · subst h4
      have:g=k:=by simpa [Value.ownBlock] using hk
      subst this
      exact ht g rfl
theorem TokAt.lt {w:World} {bv:Value} {B:Nat} {tv:Value} {tk:RTok} (h:TokAt w bv B tv tk) {g:Nat} (hg:tokBlk tv g):B ≤ g∧g < w.heap.size:=by
  cases tk with
  | start nm ats=>
    obtain ⟨sv,rfl,hne,h1,h2⟩:=h
    rcases h2 with ⟨rfl,h2⟩|⟨g',cap,cur,rfl,h3,h4,_⟩
    · exact absurd rfl hne
    · have:g=g':=hg
      subst this
      exact ⟨h3,(show Blk w g cur 96 from h4).lt⟩
  | fin nm=>rw [show tv=enV nm from h] at hg;exact hg.elim
  | text d=>obtain ⟨sv,rfl,hd⟩:=h;obtain ⟨_,_,_,rfl⟩:=hd.slice;exact hg.elim
  | comment d=>obtain ⟨sv,rfl,hd⟩:=h;obtain ⟨_,_,_,rfl⟩:=hd.slice;exact hg.elim
  | dir d=>obtain ⟨sv,rfl,hd⟩:=h;obtain ⟨_,_,_,rfl⟩:=hd.slice;exact hg.elim
  | proc tg d=>obtain ⟨sv,rfl,hd⟩:=h;exact hg.elim
def nextW:Option RTok → Nat
  | some (.start _ ats)=>1 + ats.length
  | _=>0
def NxAt (x:Cx) (w:World) (v:DV) (c:DC) (s:St) (own:List Nat):Prop:=
  match s.next with
  | none=>c.nextTok=.nilIface
  | some tk=>∃ B,x.B ≤ B∧B ≤ w.heap.size∧TokAt w v.bufv B c.nextTok tk∧TkLe x.T.length tk∧(∀ g,tokBlk c.nextTok g → g ∉ own∧¬ x.S1 v g)∧((∀ d,tk ≠ .text d) → s.ended=false∧v.err=.nilIface)
theorem NxAt.step {x:Cx} {w w':World} {v:DV} {c c':DC} {s s':St} {own own':List Nat} {S:Nat → Prop} (h:NxAt x w v c s own) (hm:Mod S w w') (hb:∀ k,bufBlk v.bufv k → ¬ S k) (ht:∀ g,tokBlk c.nextTok g → ¬ S g) (hn:s'.next=s.next) (hc:c'.nextTok=c.nextTok) (he:s'.ended=s.ended)
    (hsub:∀ b ∈ own',b ∈ own ∨ w.heap.size ≤ b):NxAt x w' v c' s' own':=by
  unfold NxAt at h ⊢
  rw [hn,hc,he]
  cases hx:s.next with
  | none=>rw [hx] at h;exact h
  | some tk=>
    rw [hx] at h
    obtain ⟨B,h1,h2,h3,h4,h5,h6⟩:=h
    refine ⟨B,h1,Nat.le_trans h2 hm.size,h3.mod hm hb ht,h4,fun g hg=>⟨fun hh=>?_,(h5 g hg).2⟩,h6⟩
    rcases hsub g hh with h9|h9
    · exact (h5 g hg).1 h9
    · have:=(h3.lt hg).2;omega
theorem NxAt.none {x:Cx} {w:World} {v:DV} {c:DC} {s:St} {own:List Nat} (h1:s.next=none) (h2:c.nextTok=.nilIface):NxAt x w v c s own:=by
  unfold NxAt;rw [h1];exact h2
structure TS (x:Cx) (c:DC) (w:World) (v:DV) (s:St) (m:Nat) (sb fb:List Nat) (n:Nat):Prop where
  cfg:CfgOk x c
  rd:RdTS x c w v s
  own:Own x w c v m sb fb n s.stk s.ns
  sok:StkOk s.stk
  nok:NsOk s.ns
  tcl:∀ nm,s.toClose=some nm → nm.1.length ≤ x.T.length∧nm.2.length ≤ x.T.length
  bnd:n + s.stk.length + 2 * s.rest.length + 2 * nextW s.next ≤ 2 * x.T.length
  nxt:NxAt x w v c s (m :: (sb ++ fb))
def TkPost (x:Cx) (w:World) (v:DV) (c:DC) (R:Except EK (RTok × St)) (m:Nat) (sb fb:List Nat) (t e:Value) (w':World):Prop:=
  match R with
  | .error k=>t=.nilIface∧ErrV x e (some k)∧Below x.B x.W0 w'∧OthAt w' e k∧Mod (fun b=>x.S1 v b ∨ b ∈ m :: (sb ++ fb) ∨ tokBlk c.nextTok b) w w'
  | .ok (tk,s')=>e=.nilIface∧∃ c' v' sb' fb' n',TS x c' w' v' s' m sb' fb' n'∧(∃ B,TokAt w' v'.bufv B t tk)∧Mod (fun b=>x.S1 v b ∨ b ∈ m :: (sb ++ fb) ∨ tokBlk c.nextTok b) w w' ∧
      (∀ b ∈ m :: (sb' ++ fb'),b ∈ m :: (sb ++ fb) ∨ w.heap.size ≤ b)∧(∀ b,x.S1 v' b → x.S1 v b ∨ w.heap.size ≤ b)∧∀ g,tokBlk c'.nextTok g → tokBlk c.nextTok g ∨ w.heap.size ≤ g
end Go.Proofs.YtkjnockljapnbaaGreatDoor
