/- Part of the proof that laws.FnBeginning, laws.FnPlaces returns true for every argument (Pd, Pf, Pg, Ph). No condition of its own. -/
import Derived.Test.YtkjnockljapnbaaGreatDoorK03
import Derived.Test.YtkjnockljapnbaaGreatDoorK24
import Derived.Test.YtkjnockljapnbaaGreatDoorK48
import Derived.Test.YtkjnockljapnbaaGreatDoorK49
import Derived.OpenShut
import Derived.Carry
set_option linter.all false
set_option maxHeartbeats 8000000
set_option maxRecDepth 100000
namespace Go.Proofs.YtkjnockljapnbaaGreatDoor
open Go
theorem lastAt_take {T:Bs}:∀ (l:List (RTok × St)) (a i:Nat) (t:RTok) (s:St),l[i]?=some (t,s) → lastAt T a (l.take (i + 1))=s.at' T
  | [],_,_,_,_,h=>by simp at h
  | (t0,s0) :: l,a,0,t,s,h=>by
    simp only [List.getElem?_cons_zero,Option.some.injEq,Prod.mk.injEq] at h
    obtain ⟨rfl,rfl⟩:=h
    simp [lastAt]
  | (t0,s0) :: l,a,i + 1,t,s,h=>by
    simp only [List.getElem?_cons_succ] at h
    rw [List.take_succ_cons]
    show lastAt T (s0.at' T) (l.take (i + 1))=_
    exact lastAt_take l _ i t s h
theorem PlOk.get {T:Bs}:∀ (l:List (RTok × St)) (a:Nat) (ps:Bool) (i:Nat) (t:RTok) (s:St),PlOk T a ps l → l[i]?=some (t,s) →
    lastAt T a (l.take i) ≤ s.at' T∧s.at' T ≤ T.length∧(s.at' T=lastAt T a (l.take i) → t.isFin=true∧((i=0∧ps=true) ∨ ∃ j u,i=j + 1∧l[j]?=some u∧u.1.isStart=true))
  | [],_,_,_,_,_,_,h=>by simp at h
  | (t0,s0) :: l,a,ps,0,t,s,hp,h=>by
    simp only [List.getElem?_cons_zero,Option.some.injEq,Prod.mk.injEq] at h
    obtain ⟨rfl,rfl⟩:=h
    obtain ⟨h1,h2,h3,_⟩:=hp
    exact ⟨h1,h2,fun hh=>⟨(h3 hh).1,Or.inl ⟨rfl,(h3 hh).2⟩⟩⟩
  | (t0,s0) :: l,a,ps,i + 1,t,s,hp,h=>by
    simp only [List.getElem?_cons_succ] at h
    obtain ⟨_,_,_,h4⟩:=hp
    obtain ⟨k1,k2,k3⟩:=PlOk.get l (s0.at' T) t0.isStart i t s h4 h
    rw [List.take_succ_cons]
    refine ⟨k1,k2,fun hh=>⟨(k3 hh).1,Or.inr ?_⟩⟩
    rcases (k3 hh).2 with ⟨rfl,h6⟩|⟨j,u,rfl,h6,h7⟩
    · exact ⟨0,(t0,s0),rfl,rfl,h6⟩
    · exact ⟨j + 1,u,rfl,h6,h7⟩
theorem places_plain {fold:Bs → Bs → Bool} {o:Opt} (ha:o.auto=[]) (hst:o.strict=true) (T:Bs) {l:List (RTok × St)} {e:EK} (h:Toks fold o (St.init T) l e) :
    (∀ i t s,l[i]?=some (t,s) → lastAt T 0 (l.take i) ≤ s.at' T∧s.at' T ≤ T.length∧(s.at' T=lastAt T 0 (l.take i) → t.isFin=true∧∃ j u,i=j + 1∧l[j]?=some u∧u.1.isStart=true))∧(e=.eof → lastAt T 0 l=T.length):=by
  have h0:(St.init T).at' T=0:=by simp [St.at',St.init]
  obtain ⟨h1,h2⟩:=places ha hst T l (St.init T) e false h rfl (List.suffix_refl _) (fun hh=>absurd rfl hh) (fun hh=>by cases hh)
  rw [h0] at h1 h2
  refine ⟨fun i t s hi=>?_,h2⟩
  obtain ⟨k1,k2,k3⟩:=PlOk.get l 0 false i t s h1 hi
  refine ⟨k1,k2,fun hh=>⟨(k3 hh).1,?_⟩⟩
  rcases (k3 hh).2 with ⟨_,h6⟩|h6
  · cases h6
  · exact h6
theorem isFin_kind {t:RTok} (h:t.isFin=true) (pre:Bs):(t.itok pre).kind=2:=by cases t <;> simp_all [RTok.isFin,RTok.itok]
theorem isStart_kind {t:RTok} (h:t.isStart=true) (pre:Bs):(t.itok pre).kind=1:=by cases t <;> simp_all [RTok.isStart,RTok.itok]
end Go.Proofs.YtkjnockljapnbaaGreatDoor
namespace Go.Proofs.YtkjnockljapnbaaGreatDoor
open Go Go.RowKit
def PoInv (T:Bs) (n:Nat) (w0:World) (k:Nat) (a:Act) (w:World):Prop:=
  ∃ f i,a=fr 25 f [(0,strV T),(4,.int .i64 (lineOf (T.take i):Nat)),(5,.int .i64 (colOf (T.take i):Nat)),(10,.int .i64 (n:Nat)),(11,.int .i64 (i:Nat))]∧w=w0∧k=n - i∧i ≤ n
theorem position_c (T:Bs) (hT:T.length ≤ 1000000000) (n:Nat) (hn:n ≤ T.length) (w:World) :
    Calls Tryz.prog 14 #[strV T,.int .i64 (n:Nat)] w fun e w'=>e=.returned (.tuple #[.int .i64 (lineOf (T.take n):Nat),.int .i64 (colOf (T.take n):Nat)])∧w'=w:=by
  have hmin:min (n:Int) (T.length:Int)=(n:Int):=by omega
  have HT:=Lib.hid hT
  have HN:=Lib.hid hn
  clear hT hn
  refine calls_fr (vs:=[_,_]) 25 Tryz.func14 rfl rfl (Nat.le_of_ble_eq_true rfl) fun f=>?_
  simp only [argSlots]
  (repeat (first|(with_reducible first|refine zA fun K hK=>?_|refine zB ?_|refine zC ?_)|((with_reducible first|refine zD rfl fun K hK=>?_|refine zE fun K hK=>?_);go_simp)|(with_reducible first|((repeat ((fail_if_success refine hK _ _ ?_);clear hK K));refine hK _ _ ?_;clear hK K)|refine zT (by go_simp;first|done|omega) ?_|refine zF (by go_simp;first|done|omega) ?_|refine zG ?_|refine zR ?_|refine zK ?_|refine zL ?_|refine zN ?_|refine zS ?_)|simp only [Exit.then,Exit.inBlock,Exit.noGoto,↓reduceIte,Nat.reduceEqDiff]|simp only [undef,reduceCtorEq,↓reduceIte]))
  (refine wp_keep [0,4,5,10,11] (fun f=>?_);simp only [keep_cons,keep_nil,lk_cons,lk_nil,Nat.reduceEqDiff,↓reduceIte])
  refine wp_loop_ghost_k (PoInv T n w) n ⟨f,0,rfl,rfl,by simp,Nat.zero_le _⟩ ?_
  rintro k _ _ ⟨f,i,rfl,rfl,hk,hi⟩ J K2 hJ hK2
  have HJ:=Lib.hid hJ
  have HK2:=Lib.hid hK2
  have HK:=Lib.hid hk
  clear hJ hK2 hk hmin
  by_cases hlt:i < n
  · have h1:(i:Int) < (n:Int):=by omega
    have h0:(0:Int) ≤ (i:Int):=by omega
    have h2:(i:Int) < (T.length:Int):=by have:=HN.out;omega
    have hil:i < T.length:=by have:=HN.out;omega
    obtain ⟨b,hb⟩:∃ b,b=T.getD i 0:=⟨_,rfl⟩
    have hix:∀ h,(⟨T.toArray⟩:ByteArray)[i]'h=b:=by
      intro h;rw [hb];exact ixc T i h
    have htk:T.take (i + 1)=T.take i ++ [b]:=by
      rw [hb,List.take_succ,List.getElem?_eq_getElem hil,List.getD_eq_getElem?_getD,List.getElem?_eq_getElem hil];rfl
    have hl:=lineOf_snoc (T.take i) b
    have hc:=colOf_snoc (T.take i) b
    rw [← htk] at hl hc
    have hll:=lineOf_le (T.take i)
    have hcl:=colOf_le (T.take i)
    have hln:(T.take i).length ≤ 1000000000:=by rw [List.length_take];have:=HT.out;omega
    obtain ⟨ln,hlnd⟩:∃ ln,ln=lineOf (T.take i):=⟨_,rfl⟩
    obtain ⟨cl,hcld⟩:∃ cl,cl=colOf (T.take i):=⟨_,rfl⟩
    rw [← hlnd] at hl hll
    rw [← hcld] at hc hcl
    have HL:=Lib.hid hl
    have HC:=Lib.hid hc
    rw [← hlnd,← hcld]
    have hw1:IntKind.i64.wrap ((i:Int) + 1)=((i + 1:Nat):Int):=by rw [IntKind.wrap_i64];have:=HT.out;omega
    have hw2:IntKind.i64.wrap ((ln:Int) + 1)=((ln + 1:Nat):Int):=by rw [IntKind.wrap_i64];omega
    have hw3:IntKind.i64.wrap ((cl:Int) + 1)=((cl + 1:Nat):Int):=by rw [IntKind.wrap_i64];omega
    clear hlnd hcld hll hcl hln htk hl hc hb hil
    by_cases h10:b=10
    · subst h10
      have h11:(((10:UInt8).toNat:Int) == 10)=true:=rfl
      (repeat (first|(with_reducible first|refine zA fun K hK=>?_|refine zB ?_|refine zC ?_)|((with_reducible first|refine zD rfl fun K hK=>?_|refine zE fun K hK=>?_);go_simp)|(with_reducible first|((repeat ((fail_if_success refine hK _ _ ?_);clear hK K));refine hK _ _ ?_;clear hK K)|refine zT (by go_simp;first|done|omega) ?_|refine zF (by go_simp;first|done|omega) ?_|refine zG ?_|refine zR ?_|refine zK ?_|refine zL ?_|refine zN ?_|refine zS ?_)|simp only [Exit.then,Exit.inBlock,Exit.noGoto,↓reduceIte,Nat.reduceEqDiff]|simp only [undef,reduceCtorEq,↓reduceIte]))
      (refine K_keep [0,4,5,10,11] (fun f=>?_);simp only [keep_cons,keep_nil,lk_cons,lk_nil,Nat.reduceEqDiff,↓reduceIte])
      refine HK2.out _ _ ⟨n - (i + 1),by rw [HK.out];omega,HJ.out _ _ _ ⟨f,i + 1,?_,rfl,rfl,hlt⟩⟩
      rw [HL.out,HC.out];rfl
    · have h11:=u8ne10 h10
      have HN10:=Lib.hid h10
      clear h10
      (repeat (first|(with_reducible first|refine zA fun K hK=>?_|refine zB ?_|refine zC ?_)|((with_reducible first|refine zD rfl fun K hK=>?_|refine zE fun K hK=>?_);go_simp)|(with_reducible first|((repeat ((fail_if_success refine hK _ _ ?_);clear hK K));refine hK _ _ ?_;clear hK K)|refine zT (by go_simp;first|done|omega) ?_|refine zF (by go_simp;first|done|omega) ?_|refine zG ?_|refine zR ?_|refine zK ?_|refine zL ?_|refine zN ?_|refine zS ?_)|simp only [Exit.then,Exit.inBlock,Exit.noGoto,↓reduceIte,Nat.reduceEqDiff]|simp only [undef,reduceCtorEq,↓reduceIte]))
      (refine K_keep [0,4,5,10,11] (fun f=>?_);simp only [keep_cons,keep_nil,lk_cons,lk_nil,Nat.reduceEqDiff,↓reduceIte])
      refine HK2.out _ _ ⟨n - (i + 1),by rw [HK.out];omega,HJ.out _ _ _ ⟨f,i + 1,?_,rfl,rfl,hlt⟩⟩
      rw [HL.out,HC.out,if_neg HN10.out,if_neg HN10.out];rfl
  · have hii:i=n:=by omega
    subst hii
    have h1:¬ ((i:Int) < (i:Int)):=by omega
    (repeat (first|(with_reducible first|refine zA fun K hK=>?_|refine zB ?_|refine zC ?_)|((with_reducible first|refine zD rfl fun K hK=>?_|refine zE fun K hK=>?_);go_simp)|(with_reducible first|((repeat ((fail_if_success refine hK _ _ ?_);clear hK K));refine hK _ _ ?_;clear hK K)|refine zT (by go_simp;first|done|omega) ?_|refine zF (by go_simp;first|done|omega) ?_|refine zG ?_|refine zR ?_|refine zK ?_|refine zL ?_|refine zN ?_|refine zS ?_)|simp only [Exit.then,Exit.inBlock,Exit.noGoto,↓reduceIte,Nat.reduceEqDiff]|simp only [undef,reduceCtorEq,↓reduceIte]))
    (refine fr_out2 rfl (by decide) (by decide) (by simp only [lk_cons,lk_nil,Nat.reduceEqDiff,↓reduceIte];rfl) (by simp only [lk_cons,lk_nil,Nat.reduceEqDiff,↓reduceIte];rfl) ?_)
    exact ⟨rfl,rfl⟩
end Go.Proofs.YtkjnockljapnbaaGreatDoor
namespace Go.Proofs.YtkjnockljapnbaaGreatDoor
open Go Go.RowKit
theorem tok_cells {w:World} {base g:Nat} {T:Bs} {l:List (RTok × St)} {xs:List Value} {G:Nat → Prop} (hrows:RowsAt (RowOk w base G T) l xs) (hcell:∀ k u,xs[k]?=some u → w.cell? ⟨g,k,none⟩=some u) {i:Nat} {ts:RTok × St} (hi:l[i]?=some ts) {p:ITok} (hp:p=ts.1.itok (T.take (T.length - ts.2.rest.length))) :
    ∃ sa sl sc,w.cell? ⟨g,i * 8,none⟩=some (.int .i64 p.kind)∧w.cell? ⟨g,i * 8 + 1,none⟩=some (strV p.space)∧w.cell? ⟨g,i * 8 + 2,none⟩=some (strV p.loc)∧w.cell? ⟨g,i * 8 + 3,none⟩=some (.slice sa sl sc)∧w.cell? ⟨g,i * 8 + 4,none⟩=some (strV p.text)∧w.cell? ⟨g,i * 8 + 5,none⟩=some (.int .i64 p.at') ∧
      w.cell? ⟨g,i * 8 + 6,none⟩=some (.int .i64 p.line)∧w.cell? ⟨g,i * 8 + 7,none⟩=some (.int .i64 p.col):=by
  subst hp
  obtain ⟨ys,⟨sa,sl,sc,i6,i7,rfl,hr,_,rfl,rfl⟩,hy⟩:=hrows.get (n:=8) (fun _ _ h=>h.len) hi
  have hc:∀ j u,j < 8 → (tokCells _ _ _ _ _ _ _ _)[j]?=some u → w.cell? ⟨g,i * 8 + j,none⟩=some u:=fun j u hj hu=>hcell _ _ ((hy j hj).trans hu)
  exact ⟨sa,sl,sc,hc 0 _ (by omega) rfl,hc 1 _ (by omega) rfl,hc 2 _ (by omega) rfl,hc 3 _ (by omega) rfl,hc 4 _ (by omega) rfl,hc 5 _ (by omega) rfl,hc 6 _ (by omega) rfl,hc 7 _ (by omega) rfl⟩
theorem itok_pos (t:RTok) (pre:Bs):(t.itok pre).at'=pre.length∧(t.itok pre).line=lineOf pre∧(t.itok pre).col=colOf pre:=by cases t <;> exact ⟨rfl,rfl,rfl⟩
noncomputable def plsCode (n:Nat):Code:=((Tryz.f7.body).bind (Code.partAt n)).getD .skip
def PlsInv (T:Bs) (tv ce:Value) (l:List (RTok × St)) (w1:World) (k:Nat) (a:Act) (w:World):Prop:=
  ∃ f i,a=fr 106 f [(0,strV T),(7,tv),(8,ce),(9,.int .i64 (lastAt T 0 (l.take i):Nat)),(33,tv),(34,.int .i64 l.length),(35,.int .i64 (i:Nat))]∧Below w1.heap.size w1 w∧k=l.length - i∧i ≤ l.length
theorem plsLoop (T:Bs) (hT:T.length ≤ 65536) (w1:World) (l:List (RTok × St)) (hl:l.length ≤ 1000000000) (ce:Value) (g cap:Nat) (hg:0 < l.length → g < w1.heap.size)
    (hcells:∀ i ts,l[i]?=some ts → ∀ p,p=ts.1.itok (T.take (T.length - ts.2.rest.length)) → ∃ sa sl sc,w1.cell? ⟨g,i * 8,none⟩=some (.int .i64 p.kind)∧w1.cell? ⟨g,i * 8 + 1,none⟩=some (strV p.space)∧w1.cell? ⟨g,i * 8 + 2,none⟩=some (strV p.loc)∧w1.cell? ⟨g,i * 8 + 3,none⟩=some (.slice sa sl sc)∧w1.cell? ⟨g,i * 8 + 4,none⟩=some (strV p.text)∧w1.cell? ⟨g,i * 8 + 5,none⟩=some (.int .i64 p.at') ∧
      w1.cell? ⟨g,i * 8 + 6,none⟩=some (.int .i64 p.line)∧w1.cell? ⟨g,i * 8 + 7,none⟩=some (.int .i64 p.col))
    (hpl:∀ i t s,l[i]?=some (t,s) → lastAt T 0 (l.take i) ≤ s.at' T∧s.at' T ≤ T.length∧(s.at' T=lastAt T 0 (l.take i) → t.isFin=true∧∃ j u,i=j + 1∧l[j]?=some u∧u.1.isStart=true))
    (tv:Value) (htv:tv=.slice (some ⟨g,0,none⟩) l.length cap ∨ l=[])
    (Q:Exit → Act → World → Prop) (hQ:∀ f w',Below w1.heap.size w1 w' → Q .normal (fr 106 f [(0,strV T),(8,ce),(9,.int .i64 (lastAt T 0 l:Nat))]) w') (f:Nat → Value) (c1:Code) (hc1:c1=.loop (plsCode 8)) :
    c1.wp Tryz.prog (Exit.inBlock 0 Q) (fr 106 f [(0,strV T),(7,tv),(8,ce),(9,.int .i64 0),(33,tv),(34,.int .i64 l.length),(35,.int .i64 0)]) w1:=by
  subst hc1
  have HQ:=Lib.hid hQ
  have HT:=Lib.hid hT
  have HL:=Lib.hid hl
  have HG:=Lib.hid hg
  have HCE:=Lib.hid hcells
  have HPL:=Lib.hid hpl
  have HTV:=Lib.hid htv
  refine wp_loop_ghost_k (PlsInv T tv ce l w1) l.length ⟨f,0,rfl,Below.refl _ w1,by simp,Nat.zero_le _⟩ ?_
  clear hQ hT hl hg hcells hpl htv
  rintro k _ w ⟨f,i,rfl,hb,hk,hi⟩ J K2 hJ hK2
  have HJ:=Lib.hid hJ
  have HK2:=Lib.hid hK2
  have HB:=Lib.hid hb
  have HK:=Lib.hid hk
  clear hJ hK2 hb hk
  unfold plsCode
  conv=>arg 2;whnf
  by_cases hlt:i < l.length
  · have h1:(i:Int) < (l.length:Int):=by omega
    have h0:(0:Int) ≤ (i:Int):=by omega
    have hw1:IntKind.i64.wrap ((i:Int) + 1)=((i + 1:Nat):Int):=by rw [IntKind.wrap_i64];have:=HL.out;omega
    obtain ⟨⟨t,s⟩,hts⟩:∃ ts,l[i]?=some ts:=⟨l[i],by simp [hlt]⟩
    have hgl:=HG.out (by omega)
    obtain ⟨tv',rfl⟩:∃ u,tv=u:=⟨_,rfl⟩
    have htv:tv=.slice (some ⟨g,0,none⟩) l.length cap:=by
      rcases HTV.out with h|h
      · exact h
      · rw [h] at hlt;simp at hlt
    subst htv
    obtain ⟨pre,hpre⟩:∃ pre,pre=T.take (T.length - s.rest.length):=⟨_,rfl⟩
    obtain ⟨p,hp⟩:∃ p,p=t.itok (T.take (T.length - s.rest.length)):=⟨_,rfl⟩
    obtain ⟨sa,sl,sc,c0,c1,c2,c3,c4,c5,c6,c7⟩:=HCE.out i (t,s) hts p hp
    obtain ⟨k1,k2,k3⟩:=HPL.out i t s hts
    have hcw:∀ j,w.cell? ⟨g,j,none⟩=w1.cell? ⟨g,j,none⟩:=fun j=>HB.out.cell (p:=⟨g,j,none⟩) hgl
    rw [← hcw] at c0 c1 c2 c3 c4 c5 c6 c7
    obtain ⟨q1,q2,q3⟩:=itok_pos t (T.take (T.length - s.rest.length))
    rw [← hp] at q1 q2 q3
    have hA:s.at' T=p.at':=by rw [q1,List.length_take];unfold St.at';omega
    have hpA:T.take p.at'=T.take (T.length - s.rest.length):=by rw [← hA];rfl
    rw [← hpA] at q2 q3
    have hlast:=lastAt_take (T:=T) l 0 i t s hts
    rw [hA] at k1 k2 k3 hlast
    obtain ⟨at0,hat0⟩:∃ a,a=lastAt T 0 (l.take i):=⟨_,rfl⟩
    rw [← hat0] at k1 k3 ⊢
    have HLAST:=Lib.hid hlast
    obtain ⟨wa,hwa⟩:∃ wa,wa=w.alloc (.cells #[.int .i64 p.kind,strV p.space,strV p.loc,.slice sa sl sc,strV p.text,.int .i64 p.at',.int .i64 p.line,.int .i64 p.col] 33):=⟨_,rfl⟩
    have hbl:Below w.heap.size w wa:=by rw [hwa];exact (Below.refl _ w).alloc (Nat.le_refl _) _
    have hba:Blk wa w.heap.size #[.int .i64 p.kind,strV p.space,strV p.loc,.slice sa sl sc,strV p.text,.int .i64 p.at',.int .i64 p.line,.int .i64 p.col] 33:=by rw [hwa];exact Blk.new w _ _
    have HBW:=Lib.hid (HB.out.trans (hbl.mono HB.out.size))
    have HPO:=Lib.hid (position_c T (by have:=HT.out;omega) p.at' k2)
    have hcase:(((p.at':Int) == (at0:Int))=false∧¬ (p.at':Int) < (at0:Int)) ∨ (p.at'=at0∧p.kind=2∧∃ j,i=j + 1∧wa.cell? ⟨g,j * 8,none⟩=some (.int .i64 1)):=by
      by_cases he:p.at'=at0
      · obtain ⟨h5,j,u,rfl,h6,h7⟩:=k3 he
        refine Or.inr ⟨he,by rw [hp];exact isFin_kind h5 _,j,rfl,?_⟩
        obtain ⟨_,_,_,d0,_⟩:=HCE.out j u h6 _ rfl
        rw [isStart_kind h7] at d0
        rw [HBW.out.cell (p:=⟨g,j * 8,none⟩) hgl]
        exact d0
      · refine Or.inl ⟨?_,by omega⟩
        simp;omega
    have hc8:=hba.cell
    have HBA:=Lib.hid hba
    have hne3:((p.line:Int) != (p.line:Int))=false:=by simp
    have hne4:((p.col:Int) != (p.col:Int))=false:=by simp
    have hk2i:¬ (T.length:Int) < (p.at':Int):=by omega
    rw [← q2,← q3] at HPO
    clear hp hpre k1 k3 hcw q1 q2 q3 hA hpA hlast hbl hat0 hts hba
    (repeat ((fail_if_success with_reducible refine wp_stop 10 ?_);(fail_if_success with_reducible refine wp_stop2 10 ?_);(first|(with_reducible first|refine zA fun K hK=>?_|refine zB ?_|refine zC ?_)|((with_reducible first|refine zD rfl fun K hK=>?_|refine zE fun K hK=>?_);go_simp)|(with_reducible first|((repeat ((fail_if_success refine hK _ _ ?_);clear hK K));refine hK _ _ ?_;clear hK K)|refine zT (by go_simp;first|done|omega) ?_|refine zF (by go_simp;first|done|omega) ?_|refine zG ?_|refine zR ?_|refine zK ?_|refine zL ?_|refine zN ?_|refine zS ?_)|simp only [Exit.then,Exit.inBlock,Exit.noGoto,↓reduceIte,Nat.reduceEqDiff]|simp only [undef,reduceCtorEq,↓reduceIte])))
    rw [show w.alloc (.cells #[.int .i64 p.kind,.string ⟨List.toArray p.space⟩,.string ⟨List.toArray p.loc⟩,.slice sa sl sc,.string ⟨List.toArray p.text⟩,.int .i64 p.at',.int .i64 p.line,.int .i64 p.col] 33)=wa from hwa.symm]
    clear hwa c0 c1 c2 c3 c4 c5 c6 c7
    rcases hcase with ⟨e1,e2⟩|⟨e1,e2,j,rfl,e3⟩
    · (repeat (first|(with_reducible first|refine zA fun K hK=>?_|refine zB ?_|refine zC ?_)|((with_reducible first|refine zD rfl fun K hK=>?_|refine zE fun K hK=>?_);go_simp)|(with_reducible first|((repeat ((fail_if_success refine hK _ _ ?_);clear hK K));refine hK _ _ ?_;clear hK K)|refine zT (by go_simp;first|done|omega) ?_|refine zF (by go_simp;first|done|omega) ?_|refine zG ?_|refine zR ?_|refine zK ?_|refine zL ?_|refine zN ?_|refine zS ?_)|simp only [Exit.then,Exit.inBlock,Exit.noGoto,↓reduceIte,Nat.reduceEqDiff]|simp only [undef,reduceCtorEq,↓reduceIte]))
      refine (HPO.out wa).mono ?_
      rintro e2 w2 ⟨rfl,rfl⟩
      go_simp
      (repeat (first|(with_reducible first|refine zA fun K hK=>?_|refine zB ?_|refine zC ?_)|((with_reducible first|refine zD rfl fun K hK=>?_|refine zE fun K hK=>?_);go_simp)|(with_reducible first|((repeat ((fail_if_success refine hK _ _ ?_);clear hK K));refine hK _ _ ?_;clear hK K)|refine zT (by go_simp;first|done|omega) ?_|refine zF (by go_simp;first|done|omega) ?_|refine zG ?_|refine zR ?_|refine zK ?_|refine zL ?_|refine zN ?_|refine zS ?_)|simp only [Exit.then,Exit.inBlock,Exit.noGoto,↓reduceIte,Nat.reduceEqDiff]|simp only [undef,reduceCtorEq,↓reduceIte]))
      (refine K_keep [0,7,8,9,33,34,35] (fun f=>?_);simp only [keep_cons,keep_nil,lk_cons,lk_nil,Nat.reduceEqDiff,↓reduceIte])
      exact HK2.out _ _ ⟨l.length - (i + 1),by rw [HK.out];omega,HJ.out _ _ _ ⟨f,i + 1,by rw [HLAST.out];rfl,HBW.out,rfl,hlt⟩⟩
    · subst e1
      rw [e2] at hc8
      have hw2:IntKind.i64.wrap (j:Int)=(j:Int):=by rw [IntKind.wrap_i64];have:=HL.out;omega
      have hj0:(0:Int) ≤ (j:Int):=by omega
      have hw4:IntKind.i64.wrap ((j:Int) + 1 + 1)=((j + 1 + 1:Nat):Int):=by rw [IntKind.wrap_i64];have:=HL.out;omega
      have hj1:(j:Int) < (l.length:Int):=by omega
      (repeat (first|(with_reducible first|refine zA fun K hK=>?_|refine zB ?_|refine zC ?_)|((with_reducible first|refine zD rfl fun K hK=>?_|refine zE fun K hK=>?_);go_simp)|(with_reducible first|((repeat ((fail_if_success refine hK _ _ ?_);clear hK K));refine hK _ _ ?_;clear hK K)|refine zT (by go_simp;first|done|omega) ?_|refine zF (by go_simp;first|done|omega) ?_|refine zG ?_|refine zR ?_|refine zK ?_|refine zL ?_|refine zN ?_|refine zS ?_)|simp only [Exit.then,Exit.inBlock,Exit.noGoto,↓reduceIte,Nat.reduceEqDiff]|simp only [undef,reduceCtorEq,↓reduceIte]))
      refine (HPO.out wa).mono ?_
      rintro e2 w2 ⟨rfl,rfl⟩
      go_simp
      (repeat (first|(with_reducible first|refine zA fun K hK=>?_|refine zB ?_|refine zC ?_)|((with_reducible first|refine zD rfl fun K hK=>?_|refine zE fun K hK=>?_);go_simp)|(with_reducible first|((repeat ((fail_if_success refine hK _ _ ?_);clear hK K));refine hK _ _ ?_;clear hK K)|refine zT (by go_simp;first|done|omega) ?_|refine zF (by go_simp;first|done|omega) ?_|refine zG ?_|refine zR ?_|refine zK ?_|refine zL ?_|refine zN ?_|refine zS ?_)|simp only [Exit.then,Exit.inBlock,Exit.noGoto,↓reduceIte,Nat.reduceEqDiff]|simp only [undef,reduceCtorEq,↓reduceIte]))
      (refine K_keep [0,7,8,9,33,34,35] (fun f=>?_);simp only [keep_cons,keep_nil,lk_cons,lk_nil,Nat.reduceEqDiff,↓reduceIte])
      exact HK2.out _ _ ⟨l.length - (j + 1 + 1),by rw [HK.out];omega,HJ.out _ _ _ ⟨f,j + 1 + 1,by rw [HLAST.out];rfl,HBW.out,rfl,hlt⟩⟩
  · have hii:i=l.length:=by omega
    subst hii
    have h1:¬ ((l.length:Int) < (l.length:Int)):=by omega
    rw [List.take_length]
    (repeat (first|(with_reducible first|refine zA fun K hK=>?_|refine zB ?_|refine zC ?_)|((with_reducible first|refine zD rfl fun K hK=>?_|refine zE fun K hK=>?_);go_simp)|(with_reducible first|((repeat ((fail_if_success refine hK _ _ ?_);clear hK K));refine hK _ _ ?_;clear hK K)|refine zT (by go_simp;first|done|omega) ?_|refine zF (by go_simp;first|done|omega) ?_|refine zG ?_|refine zR ?_|refine zK ?_|refine zL ?_|refine zN ?_|refine zS ?_)|simp only [Exit.then,Exit.inBlock,Exit.noGoto,↓reduceIte,Nat.reduceEqDiff]|simp only [undef,reduceCtorEq,↓reduceIte]))
    refine Q_keep [0,8,9] (fun f=>?_);simp only [keep_cons,keep_nil,lk_cons,lk_nil,Nat.reduceEqDiff,↓reduceIte]
    exact HQ.out f w HB.out
theorem placesBig (T:Bs) (pcA:Option Addr) (pcN pcC:Nat) (raw:Bool) (w:World) (h:65536 < T.length ∨ 2147483647 < pcN):Calls Tryz.prog 7 #[strV T,.slice pcA pcN pcC,.bool raw] w fun e w'=>e=.returned (.bool true)∧Below w.heap.size w w':=by
  by_cases h2:(2147483647:Int) < (T.length:Int)
  · refine calls_fr (vs:=[_,_,_]) 106 Tryz.func7 rfl rfl (Nat.le_of_ble_eq_true rfl) fun f=>?_
    simp only [argSlots]
    (repeat (first|(with_reducible first|refine zA fun K hK=>?_|refine zB ?_|refine zC ?_)|((with_reducible first|refine zD rfl fun K hK=>?_|refine zE fun K hK=>?_);go_simp)|(with_reducible first|((repeat ((fail_if_success refine hK _ _ ?_);clear hK K));refine hK _ _ ?_;clear hK K)|refine zT (by go_simp;first|done|omega) ?_|refine zF (by go_simp;first|done|omega) ?_|refine zG ?_|refine zR ?_|refine zK ?_|refine zL ?_|refine zN ?_|refine zS ?_)|simp only [Exit.then,Exit.inBlock,Exit.noGoto,↓reduceIte,Nat.reduceEqDiff]|simp only [undef,reduceCtorEq,↓reduceIte]))
    (refine fr_out1 rfl (by decide) (by simp only [lk_cons,lk_nil,Nat.reduceEqDiff,↓reduceIte];rfl) ?_)
    exact ⟨rfl,Below.refl _ w⟩
  by_cases h3:(2147483647:Int) < (pcN:Int)
  · refine calls_fr (vs:=[_,_,_]) 106 Tryz.func7 rfl rfl (Nat.le_of_ble_eq_true rfl) fun f=>?_
    simp only [argSlots]
    (repeat (first|(with_reducible first|refine zA fun K hK=>?_|refine zB ?_|refine zC ?_)|((with_reducible first|refine zD rfl fun K hK=>?_|refine zE fun K hK=>?_);go_simp)|(with_reducible first|((repeat ((fail_if_success refine hK _ _ ?_);clear hK K));refine hK _ _ ?_;clear hK K)|refine zT (by go_simp;first|done|omega) ?_|refine zF (by go_simp;first|done|omega) ?_|refine zG ?_|refine zR ?_|refine zK ?_|refine zL ?_|refine zN ?_|refine zS ?_)|simp only [Exit.then,Exit.inBlock,Exit.noGoto,↓reduceIte,Nat.reduceEqDiff]|simp only [undef,reduceCtorEq,↓reduceIte]))
    (refine fr_out1 rfl (by decide) (by simp only [lk_cons,lk_nil,Nat.reduceEqDiff,↓reduceIte];rfl) ?_)
    exact ⟨rfl,Below.refl _ w⟩
  have h4:(65536:Int) < (T.length:Int):=by omega
  refine calls_fr (vs:=[_,_,_]) 106 Tryz.func7 rfl rfl (Nat.le_of_ble_eq_true rfl) fun f=>?_
  simp only [argSlots]
  (repeat (first|(with_reducible first|refine zA fun K hK=>?_|refine zB ?_|refine zC ?_)|((with_reducible first|refine zD rfl fun K hK=>?_|refine zE fun K hK=>?_);go_simp)|(with_reducible first|((repeat ((fail_if_success refine hK _ _ ?_);clear hK K));refine hK _ _ ?_;clear hK K)|refine zT (by go_simp;first|done|omega) ?_|refine zF (by go_simp;first|done|omega) ?_|refine zG ?_|refine zR ?_|refine zK ?_|refine zL ?_|refine zN ?_|refine zS ?_)|simp only [Exit.then,Exit.inBlock,Exit.noGoto,↓reduceIte,Nat.reduceEqDiff]|simp only [undef,reduceCtorEq,↓reduceIte]))
  (refine fr_out1 rfl (by decide) (by simp only [lk_cons,lk_nil,Nat.reduceEqDiff,↓reduceIte];rfl) ?_)
  exact ⟨rfl,Below.refl _ w⟩
theorem places_c (T:Bs) (hT:T.length ≤ 65536) (pcA:Option Addr) (pcN pcC:Nat) (pcs:List Int) (hpn:pcN ≤ 2147483647) (raw:Bool) (w:World) (hE:EnvA w) (hp:PcOk w pcA pcN pcC pcs) :
    Calls Tryz.prog 7 #[strV T,.slice pcA pcN pcC,.bool raw] w fun e w'=>e=.returned (.bool true)∧Below w.heap.size w w':=by
  have h2:¬ (2147483647:Int) < (T.length:Int):=by omega
  have h3:¬ (2147483647:Int) < (pcN:Int):=by omega
  have h4:¬ (65536:Int) < (T.length:Int):=by omega
  obtain ⟨o,ho⟩:∃ o:Opt,o=⟨raw,true,none,[],[],false⟩:=⟨_,rfl⟩
  have ht:=tokens_c T (by omega) o (by rw [ho]) (by rw [ho]) pcA pcN pcC pcs w hE hp
  have e1:optV o.raw (!o.strict) (.slice none 0 0) o.space=.agg #[.bool raw,.bool false,.slice none 0 0,.slice none 0 0,.string ⟨#[]⟩]:=by rw [ho];simp
  have e2:o.fails=false:=by rw [ho]
  simp only [e1,e2] at ht
  have HT:=Lib.hid ht
  have HO:=Lib.hid ho
  have HE:=Lib.hid hE
  have HTL:=Lib.hid hT
  clear ht ho hE hT e1 e2 hp hpn
  refine calls_fr (vs:=[_,_,_]) 106 Tryz.func7 rfl rfl (Nat.le_of_ble_eq_true rfl) fun f=>?_
  simp only [argSlots]
  (repeat (first|(with_reducible first|refine zA fun K hK=>?_|refine zB ?_|refine zC ?_)|((with_reducible first|refine zD rfl fun K hK=>?_|refine zE fun K hK=>?_);go_simp)|(with_reducible first|((repeat ((fail_if_success refine hK _ _ ?_);clear hK K));refine hK _ _ ?_;clear hK K)|refine zT (by go_simp;first|done|omega) ?_|refine zF (by go_simp;first|done|omega) ?_|refine zG ?_|refine zR ?_|refine zK ?_|refine zL ?_|refine zN ?_|refine zS ?_)|simp only [Exit.then,Exit.inBlock,Exit.noGoto,↓reduceIte,Nat.reduceEqDiff]|simp only [undef,reduceCtorEq,↓reduceIte]))
  refine HT.out.mono ?_
  rintro e1 w1 ⟨l,e,tv,xs,rfl,htk,hb1,hrow,hrows,hll⟩
  obtain ⟨hpl,hend⟩:=places_plain (fold:=fun _ _=>false) (o:=o) (by rw [HO.out]) (by rw [HO.out]) T (htk _)
  have HPL:=Lib.hid hpl
  have HEND:=Lib.hid hend
  have HB1:=Lib.hid hb1
  have HROWS:=Lib.hid hrows
  have HROW:=Lib.hid hrow
  have hrd:=Lib.hid (fun (w':World) (hb:Below w.heap.size w w')=>reads_c w' (HE.out.below hb))
  have HL9:=Lib.hid (show l.length ≤ 1000000000 by have:=HTL.out;omega)
  obtain ⟨sa1,sl1,sc1,rfl⟩:=ownsRow_slice hrow
  have hq1:=row_len hrow
  subst hq1
  clear htk hb1 hrow hrows hll hpl hend HT
  go_simp
  (repeat (first|(with_reducible first|refine zA fun K hK=>?_|refine zB ?_|refine zC ?_)|((with_reducible first|refine zD rfl fun K hK=>?_|refine zE fun K hK=>?_);go_simp)|(with_reducible first|((repeat ((fail_if_success refine hK _ _ ?_);clear hK K));refine hK _ _ ?_;clear hK K)|refine zT (by go_simp;first|done|omega) ?_|refine zF (by go_simp;first|done|omega) ?_|refine zG ?_|refine zR ?_|refine zK ?_|refine zL ?_|refine zN ?_|refine zS ?_)|simp only [Exit.then,Exit.inBlock,Exit.noGoto,↓reduceIte,Nat.reduceEqDiff]|simp only [undef,reduceCtorEq,↓reduceIte]))
  (refine wp_keep [0,7,8,9,33,34,35] (fun f=>?_);simp only [keep_cons,keep_nil,lk_cons,lk_nil,Nat.reduceEqDiff,↓reduceIte])
  have hcs:∃ g,(0 < l.length → g < w1.heap.size∧Value.slice sa1 l.length sc1=.slice (some ⟨g,0,none⟩) l.length sc1∧∀ k u,xs[k]?=some u → w1.cell? ⟨g,k,none⟩=some u):=by
    rcases Nat.eq_zero_or_pos l.length with h0|hpos
    · exact ⟨0,fun h=>by omega⟩
    · obtain ⟨g,cap,he,_,hg,_,_,hcell⟩:=row_cell HROW.out hpos
      simp only [Value.slice.injEq] at he
      obtain ⟨rfl,_,rfl⟩:=he
      exact ⟨g,fun _=>⟨hg,rfl,hcell⟩⟩
  obtain ⟨g,hcs⟩:=hcs
  refine plsLoop T HTL.out w1 l HL9.out _ g sc1 (fun h=>(hcs h).1) (fun i ts hi p hp=>tok_cells HROWS.out (hcs (Nat.lt_of_le_of_lt (Nat.zero_le _) (List.getElem?_eq_some_iff.1 hi).1)).2.2 hi hp) HPL.out _ ?_ _ ?_ f _ (by kernel_rfl)
  · rcases Nat.eq_zero_or_pos l.length with h0|hpos
    · exact Or.inr (List.eq_nil_of_length_eq_zero h0)
    · exact Or.inl (hcs hpos).2.1
  · intro f w' hb'
    have HBX:=Lib.hid (HB1.out.trans (hb'.mono HB1.out.size))
    clear hb' hcs
    have hc:e=.eof ∨ ((EK.code e:Nat):Int)=1 ∨ ((EK.code e:Nat):Int)=2 ∨ ((EK.code e:Nat):Int)=3:=by cases e <;> simp [EK.code]
    rcases hc with rfl|hc|hc|hc
    · rw [HEND.out rfl,show (((EK.eof).code:Nat):Int)=0 from rfl]
      (repeat (first|(with_reducible first|refine zA fun K hK=>?_|refine zB ?_|refine zC ?_)|((with_reducible first|refine zD rfl fun K hK=>?_|refine zE fun K hK=>?_);go_simp)|(with_reducible first|((repeat ((fail_if_success refine hK _ _ ?_);clear hK K));refine hK _ _ ?_;clear hK K)|refine zT (by go_simp;first|done|omega) ?_|refine zF (by go_simp;first|done|omega) ?_|refine zG ?_|refine zR ?_|refine zK ?_|refine zL ?_|refine zN ?_|refine zS ?_)|simp only [Exit.then,Exit.inBlock,Exit.noGoto,↓reduceIte,Nat.reduceEqDiff]|simp only [undef,reduceCtorEq,↓reduceIte]))
      refine (hrd.out w' HBX.out).mono ?_
      rintro e4 w4 ⟨rfl,hb4⟩
      have HB4:=Lib.hid hb4
      clear hb4
      go_simp
      (repeat (first|(with_reducible first|refine zA fun K hK=>?_|refine zB ?_|refine zC ?_)|((with_reducible first|refine zD rfl fun K hK=>?_|refine zE fun K hK=>?_);go_simp)|(with_reducible first|((repeat ((fail_if_success refine hK _ _ ?_);clear hK K));refine hK _ _ ?_;clear hK K)|refine zT (by go_simp;first|done|omega) ?_|refine zF (by go_simp;first|done|omega) ?_|refine zG ?_|refine zR ?_|refine zK ?_|refine zL ?_|refine zN ?_|refine zS ?_)|simp only [Exit.then,Exit.inBlock,Exit.noGoto,↓reduceIte,Nat.reduceEqDiff]|simp only [undef,reduceCtorEq,↓reduceIte]))
      (refine fr_out1 rfl (by decide) (by simp only [lk_cons,lk_nil,Nat.reduceEqDiff,↓reduceIte];rfl) ?_)
      exact ⟨rfl,HBX.out.trans (HB4.out.mono HBX.out.size)⟩
    all_goals
      rw [hc]
      clear hc
      (repeat (first|(with_reducible first|refine zA fun K hK=>?_|refine zB ?_|refine zC ?_)|((with_reducible first|refine zD rfl fun K hK=>?_|refine zE fun K hK=>?_);go_simp)|(with_reducible first|((repeat ((fail_if_success refine hK _ _ ?_);clear hK K));refine hK _ _ ?_;clear hK K)|refine zT (by go_simp;first|done|omega) ?_|refine zF (by go_simp;first|done|omega) ?_|refine zG ?_|refine zR ?_|refine zK ?_|refine zL ?_|refine zN ?_|refine zS ?_)|simp only [Exit.then,Exit.inBlock,Exit.noGoto,↓reduceIte,Nat.reduceEqDiff]|simp only [undef,reduceCtorEq,↓reduceIte]))
      refine (hrd.out w' HBX.out).mono ?_
      rintro e4 w4 ⟨rfl,hb4⟩
      have HB4:=Lib.hid hb4
      clear hb4
      go_simp
      (repeat (first|(with_reducible first|refine zA fun K hK=>?_|refine zB ?_|refine zC ?_)|((with_reducible first|refine zD rfl fun K hK=>?_|refine zE fun K hK=>?_);go_simp)|(with_reducible first|((repeat ((fail_if_success refine hK _ _ ?_);clear hK K));refine hK _ _ ?_;clear hK K)|refine zT (by go_simp;first|done|omega) ?_|refine zF (by go_simp;first|done|omega) ?_|refine zG ?_|refine zR ?_|refine zK ?_|refine zL ?_|refine zN ?_|refine zS ?_)|simp only [Exit.then,Exit.inBlock,Exit.noGoto,↓reduceIte,Nat.reduceEqDiff]|simp only [undef,reduceCtorEq,↓reduceIte]))
      (refine fr_out1 rfl (by decide) (by simp only [lk_cons,lk_nil,Nat.reduceEqDiff,↓reduceIte];rfl) ?_)
      exact ⟨rfl,HBX.out.trans (HB4.out.mono HBX.out.size)⟩
end Go.Proofs.YtkjnockljapnbaaGreatDoor
namespace Go.Proofs.YtkjnockljapnbaaGreatDoor
open Go Go.RowKit Go.ChangeShapes Go.WideShapes Go.ChangeAt Go.Shelf
theorem pls_all (T:Bs) (pcA:Option Addr) (pcN pcC:Nat) (pcs:List Int) (raw:Bool) (w:World) (hE:EnvA w) (hp:PcOk w pcA pcN pcC pcs):Calls Tryz.prog 7 #[strV T,.slice pcA pcN pcC,.bool raw] w fun e w'=>e=.returned (.bool true)∧Below w.heap.size w w':=by
  by_cases h:T.length ≤ 65536∧pcN ≤ 2147483647
  · exact places_c T h.1 pcA pcN pcC pcs h.2 raw w hE hp
  · exact placesBig T pcA pcN pcC raw w (by omega)
theorem plsLifted (os:Os) (started:os.Started) (H:Type) (enc:TypeId × Value → H) :
    ReturnsInHanded {} Tryz.checked os 7 .any (fun w args=>(Rows.fnPlacesSpec.pre enc Tryz.prog Tryz.f7 [] false w args∧laidMetH Tryz.prog theLaid w)∧sizedMet enc Tryz.prog Tryz.f7 (OpenSpec.ofChange Rows.fnPlacesSpec) false w args)
      (Rows.fnPlacesSpec.post enc Tryz.prog Tryz.f7 false true false false):=by
  refine returnsInHanded_of_change_and (C:=Tryz.checked) (X:=fun w _=>laidMetH Tryz.prog theLaid w) (fun _ _ _ hh h=>h.of_heap hh) own started (by kernel_rfl) Tryz.func7
    (ChangeSpec.witness_shaped (enc:=enc) (C:=Tryz.checked) (os:=os) (X:=fun w _=>laidMetH Tryz.prog theLaid w) false (laidWorld os) #[.string ⟨#[]⟩,.slice none 0 0,.bool false] 8 (World.layVars_os _ _ _)
      (World.shaped_of_ZipB (by kernel_rfl) (by kernel_rfl)) (by kernel_rfl) (by kernel_rfl) (by kernel_rfl)
      (laid_met os _)) ?_
  intro W base args ds gs before hval0 hW _ _ hL _
  have hval:∀ (j:Nat) t v,Tryz.f7.params[j]?=some t → args[j]?=some v → Value.okWide Tryz.prog W .any base t v:=hval0
  have hW':=hW
  obtain ⟨p,q,hA0,hV,rfl,_,_⟩:=hW
  have hA:DataW.TrodAll enc Tryz.prog W 0 (fun _=>true) true Tryz.f7.params.toList args.toList ds p:=hA0
  rw [Tryz.params7] at hA hval
  obtain ⟨v0,v1,v2,d0,d1,d2,p0,p1,p2,rfl,rfl,rfl,h0,h1,h2⟩:=trodAll_three hA
  obtain ⟨rfl,rfl⟩:=trodVars_none hV
  obtain ⟨x0,rfl,rfl,rfl,hx0⟩:=Go.ChangeMaps.open_string Tryz.underlying9 (hval 0 9 v0 rfl rfl) h0
  obtain ⟨pa,pl,pc,rfl⟩:=Go.WideShapes.okWide_slice Tryz.underlying22 (hval 1 22 _ rfl rfl)
  have h1k:=h1
  have hpc:∃ pcs,PcOk W pa pl pc pcs:=by
    obtain ⟨fuel,hf⟩:=h1
    rcases Go.ChangeShapes.open_ints Tryz.underlying22 Tryz.underlying3 (by kernel_rfl) hf with ⟨hcs,_⟩|⟨a,len,cap,zs,hcs,_,hle,hmax,hall,_,hcell,_⟩
    · simp [Value.cells] at hcs
      obtain ⟨rfl,rfl,rfl⟩:=hcs
      exact ⟨[],by omega,by omega,fun h=>by omega⟩
    · simp [Value.cells] at hcs
      obtain ⟨rfl,rfl,rfl⟩:=hcs
      have hzl:zs.length=pc:=by simpa using hall
      refine ⟨zs,by unfold maxLen at hmax;omega,hle,fun hp=>?_⟩
      obtain ⟨b,off,rfl,hc⟩:=ints_at hcell (by omega)
      exact ⟨b,off,rfl,World.block_lt_of_cell? W _ (hc 0 (by omega)),fun j hj=>hc j (by omega)⟩
  obtain ⟨pcs,hpc⟩:=hpc
  obtain ⟨b2,rfl,rfl,rfl⟩:=RowKit.open_bool Tryz.underlying4 (hval 2 4 v2 rfl rfl) h2
  simp only [List.append_nil,List.nil_append] at hW'
  refine (pls_all x0.data.toList pa pl pc pcs b2 W (env_all hL) hpc).mono fun e W' ⟨he,hb⟩=>?_
  subst he
  have hlt:∀ y ∈ p1,y.block < W.heap.size:=fun y hy=>by simpa using hW'.lt y (by simp [hy])
  have hargs:=trodAll_mk3 (Go.ChangeMaps.shut_string Tryz.underlying9 hx0) (Below.trod (P:=Tryz.prog) (by kernel_rfl) (by kernel_rfl) (of_decide_eq_true (by kernel_rfl)) h1k hb hlt) (shut_bool Tryz.underlying4 b2)
  exact ⟨_,rfl,_,_,_,[],_,[],hW',trodAll_mk1 (shut_bool Tryz.underlying4 _),hargs,rfl,hb.frame _,fun h=>by cases h⟩
end Go.Proofs.YtkjnockljapnbaaGreatDoor
