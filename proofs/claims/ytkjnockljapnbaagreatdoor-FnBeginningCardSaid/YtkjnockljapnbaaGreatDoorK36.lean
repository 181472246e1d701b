/- Part of the proof that laws.FnBeginning, laws.FnPlaces returns true for every argument (Sc, Sd). No condition of its own. -/
import Derived.Test.YtkjnockljapnbaaGreatDoorK35
set_option linter.all false
set_option maxHeartbeats 8000000
set_option maxRecDepth 100000
namespace Go.Proofs.YtkjnockljapnbaaGreatDoor
open Go Go.RowKit
structure OwnStep (x:Cx) (c:DC) (w:World) (v:DV) (m:Nat) (sb fb:List Nat) (c':DC) (w':World) (sb' fb':List Nat):Prop where
  dec:DecAt w' x.d c' v
  cs:∃ p q dp,c'={ c with stk:=p,free:=q,depth:=dp }
  mod:Mod (fun b=>b=x.d ∨ b ∈ m :: (sb ++ fb)) w w'
  sub:∀ b ∈ m :: (sb' ++ fb'),b ∈ m :: (sb ++ fb) ∨ w.heap.size ≤ b
theorem OwnStep.trans {x:Cx} {c c1 c2:DC} {w w1 w2:World} {v:DV} {m:Nat} {sb fb sb1 fb1 sb2 fb2:List Nat} (h:OwnStep x c w v m sb fb c1 w1 sb1 fb1) (k:OwnStep x c1 w1 v m sb1 fb1 c2 w2 sb2 fb2):OwnStep x c w v m sb fb c2 w2 sb2 fb2:=by
  obtain ⟨p,q,dp,rfl⟩:=h.cs
  obtain ⟨p2,q2,dp2,rfl⟩:=k.cs
  refine ⟨k.dec,⟨p2,q2,dp2,rfl⟩,h.mod.trans k.mod (fun i hi hs=>?_),fun b hb=>?_⟩
  · rcases hs with hs|hs
    · exact Or.inl hs
    · rcases h.sub i hs with h2|h2
      · exact Or.inr h2
      · omega
  · rcases k.sub b hb with h2|h2
    · exact h.sub b h2
    · exact Or.inr (Nat.le_trans h.mod.size h2)
theorem StkAt.isPtr {w:World} {p:Value} {l:List Ent} {bs:List Nat} (h:StkAt w p l bs):∃ a,p=.pointer a:=by
  rcases h.ptr with ⟨h,_⟩|⟨_,_,_,_,h,_⟩
  · exact ⟨_,h⟩
  · exact ⟨_,h⟩
theorem Own.pushed {x:Cx} (hx:x.Ok) {w w1 w':World} {c:DC} {v:DV} {m:Nat} {sb fb:List Nat} {n:Nat} {stk:List Ent} {ns:Bs → Option Bs} (h:Own x w c v m sb fb n stk ns) (hs1:∀ k,x.S1 v k → k < w.heap.size) (hB:x.B ≤ w.heap.size) {k:Int} {q:Nat} {fb':List Nat} (hp:PushPost x c w v k fb w1 q fb')
    (hm:Mod (fun b=>b=q) w1 w') (e:Ent) (ok:Bool) (hok:e.kind=1 → ok=e.ok) (hb:Blk w' q (skCells c.stk e.kind e.space e.loc ok) 88) :
    ∃ c',OwnStep x c w v m sb fb c' w' (q :: sb) fb'∧Own x w' c' v m (q :: sb) fb' n (e :: stk) ns:=by
  obtain ⟨c',hd,⟨nx,dp,rfl,fl,hfl⟩⟩:=hp.dec
  have hnd:=h.nodup
  have hxd:∀ b ∈ m :: (sb ++ fb),b ≠ x.d:=fun b hb he=>h.s1 b hb (Or.inl (Or.inl he))
  have hqn:q ∉ m :: sb∧q ∉ fb'∧q ≠ x.d∧x.B ≤ q∧¬ x.S1 v q∧(q ∈ fb ∨ w.heap.size ≤ q)∧(∀ b ∈ fb',b ∈ fb):=by
    rcases hp.fbs with rfl|⟨rfl,rfl,rfl⟩
    · have hnd2:(m :: (sb ++ q :: fb')).Nodup:=hnd
      have hq1:q ∈ m :: (sb ++ q :: fb'):=by simp
      refine ⟨?_,?_,hxd q hq1,h.base q hq1,h.s1 q hq1,Or.inl (by simp),fun b hb=>by simp [hb]⟩
      · intro hh
        have h3:(m :: sb ++ q :: fb').Nodup:=hnd2
        exact (List.nodup_append.1 h3).2.2 q hh q (by simp) rfl
      · intro hh
        have h3:(m :: sb ++ q :: fb').Nodup:=hnd2
        exact (List.nodup_cons.1 (List.nodup_append.1 h3).2.1).1 hh
    · refine ⟨fun hh=>?_,by simp,?_,hB,fun hh=>Nat.lt_irrefl _ (hs1 _ hh),Or.inr (Nat.le_refl _),by simp⟩
      · have:=h.lt w.heap.size (by simp at hh ⊢;exact hh)
        omega
      · intro he
        have:=hs1 x.d (Or.inl (Or.inl rfl));omega
  obtain ⟨q1,q2,q3,q4,q5,q6,q7⟩:=hqn
  have hmw:Mod (fun b=>b=x.d ∨ b=q) w w':=hp.mod.trans hm (fun i _ hi=>Or.inr hi)
  have hns:∀ b ∈ m :: (sb ++ fb'),¬ (b=x.d ∨ b=q):=by
    intro b hbm hh
    have hbm2:b=m ∨ b ∈ sb ∨ b ∈ fb':=by simpa using hbm
    have hb2:b ∈ m :: (sb ++ fb):=by
      rcases hbm2 with h|h|h
      · simp [h]
      · simp [h]
      · simp [q7 b h]
    rcases hh with hh|hh
    · exact hxd b hb2 hh
    · rw [hh] at hbm2
      rcases hbm2 with h|h|h
      · exact q1 (by simp [h])
      · exact q1 (by simp [h])
      · exact q2 h
  refine ⟨_,⟨Blk.mod hd hm (fun he=>q3 he.symm),⟨_,_,_,rfl⟩,?_,?_⟩,⟨⟨rfl,c.stk,ok,hb,hok,h.stk.mod hmw (fun b hb=>hns b (by simp [hb]))⟩,⟨fl,hfl.mod hm (fun b hb he=>q2 (he ▸ hb))⟩,h.map,h.ns.mod hmw (hns m (by simp)),?_,?_,?_⟩⟩
  · refine ⟨hmw.os,hmw.tape,hmw.output,hmw.size,fun i hi hn=>hmw.block i hi (fun hh=>hn ?_)⟩
    rcases hh with hh|hh
    · exact Or.inl hh
    · subst hh
      rcases q6 with h6|h6
      · exact Or.inr (by simp [h6])
      · omega
  · intro b hb
    simp only [List.mem_cons,List.mem_append,List.cons_append] at hb
    rcases hb with h9|h9|h9|h9
    · exact Or.inl (by simp [h9])
    · subst h9
      rcases q6 with h6|h6
      · exact Or.inl (by simp [h6])
      · exact Or.inr h6
    · exact Or.inl (by simp [h9])
    · exact Or.inl (by simp [q7 b h9])
  · have h3:(m :: sb ++ fb).Nodup:=hnd
    have h4:=List.nodup_append.1 h3
    have hmsb:=List.nodup_cons.1 h4.1
    have hfb':fb'.Nodup:=by
      rcases hp.fbs with rfl|⟨rfl,rfl,rfl⟩
      · exact (List.nodup_cons.1 h4.2.1).2
      · simp
    rw [List.nodup_cons]
    refine ⟨?_,?_⟩
    · intro hh
      simp only [List.cons_append,List.mem_cons,List.mem_append] at hh
      rcases hh with h9|h9|h9
      · exact q1 (by simp [h9])
      · exact hmsb.1 h9
      · exact h4.2.2 m (by simp) m (q7 m h9) rfl
    · rw [List.cons_append,List.nodup_cons]
      refine ⟨?_,?_⟩
      · intro hh
        rcases List.mem_append.1 hh with h9|h9
        · exact q1 (by simp [h9])
        · exact q2 h9
      · rw [List.nodup_append]
        exact ⟨hmsb.2,hfb',fun a ha b hb=>h4.2.2 a (by simp [ha]) b (q7 b hb)⟩
  · intro b hb
    simp only [List.mem_cons,List.mem_append,List.cons_append] at hb
    rcases hb with h9|h9|h9|h9
    · exact h.base b (by simp [h9])
    · subst h9;exact q4
    · exact h.base b (by simp [h9])
    · exact h.base b (by simp [q7 b h9])
  · intro b hb
    simp only [List.mem_cons,List.mem_append,List.cons_append] at hb
    rcases hb with h9|h9|h9|h9
    · exact h.s1 b (by simp [h9])
    · subst h9;exact q5
    · exact h.s1 b (by simp [h9])
    · exact h.s1 b (by simp [q7 b h9])
theorem Own.freeNd {x:Cx} {w:World} {c:DC} {v:DV} {m:Nat} {sb fb:List Nat} {n:Nat} {stk:List Ent} {ns:Bs → Option Bs} (h:Own x w c v m sb fb n stk ns):fb.Nodup∧∀ b ∈ fb,b ≠ x.d:=by
  have h3:(m :: sb ++ fb).Nodup:=h.nodup
  exact ⟨(List.nodup_append.1 h3).2.1,fun b hb he=>h.s1 b (by simp [hb]) (Or.inl (Or.inl he))⟩
theorem pushNs_c (x:Cx) (hx:x.Ok) (c:DC) (w:World) (v:DV) (hd:DecAt w x.d c v) (hs1:∀ k,x.S1 v k → k < w.heap.size) (hB:x.B ≤ w.heap.size) (m:Nat) (sb fb:List Nat) (n:Nat) (stk:List Ent) (ns:Bs → Option Bs) (h:Own x w c v m sb fb n stk ns) (loc url:Bs) (ok:Bool) :
    Calls Tryz.prog 26 #[decP x,strV loc,strV url,.bool ok] w fun en w'=>en=.returned (.tuple #[])∧∃ c' sb' fb',OwnStep x c w v m sb fb c' w' sb' fb'∧Own x w' c' v m sb' fb' n ({ kind:=1,space:=url,loc:=loc,ok:=ok } :: stk) ns:=by
  obtain ⟨fl,hfl⟩:=h.free
  obtain ⟨a,ha⟩:=h.stk.isPtr
  have hpu:=Lib.hid (push_c x c w v hd 1 (Or.inr rfl) a ha fl fb hfl h.freeNd.2 h.freeNd.1)
  have H:=Lib.hid h
  have HX:=Lib.hid hx
  have HS1:=Lib.hid hs1
  have HB:=Lib.hid hB
  clear h hx hd hs1 hB hfl ha
  refine calls_fr (vs:=[_,_,_,_]) 25 Tryz.func26 rfl rfl (Nat.le_of_ble_eq_true rfl) fun f=>?_
  simp only [argSlots]
  (repeat (first|(with_reducible first|refine zA fun K hK=>?_|refine zB ?_|refine zC ?_)|((with_reducible first|refine zD rfl fun K hK=>?_|refine zE fun K hK=>?_);go_simp)|(with_reducible first|((repeat ((fail_if_success refine hK _ _ ?_);clear hK K));refine hK _ _ ?_;clear hK K)|refine zT (by go_simp;first|done|omega) ?_|refine zF (by go_simp;first|done|omega) ?_|refine zG ?_|refine zR ?_|refine zK ?_|refine zL ?_|refine zN ?_|refine zS ?_)|simp only [Exit.then,Exit.inBlock,Exit.noGoto,↓reduceIte,Nat.reduceEqDiff]|simp only [undef,reduceCtorEq,↓reduceIte]))
  refine hpu.out.mono ?_
  rintro e1 w1 ⟨q,fb',rfl,hp⟩
  obtain ⟨sp0,loc0,ok0,hb⟩:=hp.blk
  have hcq:=hb.cell
  have hfq:=hb.frozen
  have HBQ:=Lib.hid hb
  have HP:=Lib.hid hp
  clear hb hp hpu
  go_simp
  (repeat (first|(with_reducible first|refine zA fun K hK=>?_|refine zB ?_|refine zC ?_)|((with_reducible first|refine zD rfl fun K hK=>?_|refine zE fun K hK=>?_);go_simp)|(with_reducible first|((repeat ((fail_if_success refine hK _ _ ?_);clear hK K));refine hK _ _ ?_;clear hK K)|refine zT (by go_simp;first|done|omega) ?_|refine zF (by go_simp;first|done|omega) ?_|refine zG ?_|refine zR ?_|refine zK ?_|refine zL ?_|refine zN ?_|refine zS ?_)|simp only [Exit.then,Exit.inBlock,Exit.noGoto,↓reduceIte,Nat.reduceEqDiff]|simp only [undef,reduceCtorEq,↓reduceIte]))
  refine fr_normal ?_
  (refine fr_ret0 rfl ?_)
  have hm:Mod (fun b=>b=q) w1 (((w1.setCell ⟨q,3,none⟩ (strV loc)).setCell ⟨q,2,none⟩ (strV url)).setCell ⟨q,4,none⟩ (.bool ok)):=(((Mod.refl (fun b=>b=q) w1).setCell (p:=⟨q,3,none⟩) (Or.inl rfl) _).setCell (p:=⟨q,2,none⟩) (Or.inl rfl) _).setCell (p:=⟨q,4,none⟩) (Or.inl rfl) _
  obtain ⟨c',h1,h2⟩:=H.out.pushed HX.out HS1.out HB.out HP.out hm { kind:=1,space:=url,loc:=loc,ok:=ok } ok (fun _=>rfl) (((HBQ.out.set 3 (strV loc)).set 2 (strV url)).set 4 (.bool ok))
  exact ⟨rfl,c',_,_,h1,h2⟩
theorem pushElement_c (x:Cx) (hx:x.Ok) (c:DC) (w:World) (v:DV) (hd:DecAt w x.d c v) (hs1:∀ k,x.S1 v k → k < w.heap.size) (hB:x.B ≤ w.heap.size) (m:Nat) (sb fb:List Nat) (n:Nat) (stk:List Ent) (ns:Bs → Option Bs) (h:Own x w c v m sb fb n stk ns) (nm:Bs × Bs) :
    Calls Tryz.prog 27 #[decP x,.agg #[strV nm.1,strV nm.2]] w fun en w'=>en=.returned (.tuple #[])∧∃ c' sb' fb',OwnStep x c w v m sb fb c' w' sb' fb'∧Own x w' c' v m sb' fb' n ({ kind:=0,space:=nm.1,loc:=nm.2,ok:=false } :: stk) ns:=by
  have hal:Mod (fun _=>False) w (w.alloc (.cells #[strV nm.1,strV nm.2] 82)):=mod_none ((Below.refl _ w).alloc (Nat.le_refl _) _) _
  have hd1:DecAt (w.alloc (.cells #[strV nm.1,strV nm.2] 82)) x.d c v:=(show Blk w x.d _ _ from hd).alloc _
  have h1:Own x (w.alloc (.cells #[strV nm.1,strV nm.2] 82)) c v m sb fb n stk ns:=h.mod hal (fun _ _=>id) h.s1
  obtain ⟨fl,hfl⟩:=h1.free
  obtain ⟨a,ha⟩:=h1.stk.isPtr
  have hpu:=Lib.hid (push_c x c _ v hd1 0 (Or.inl rfl) a ha fl fb hfl h1.freeNd.2 h1.freeNd.1)
  have hnb:=Blk.new w #[strV nm.1,strV nm.2] 82
  have HNB:=Lib.hid hnb
  have H:=Lib.hid h1
  have H0:=Lib.hid h
  have HX:=Lib.hid hx
  have HS1:=Lib.hid hs1
  have HB:=Lib.hid hB
  have HAL:=Lib.hid hal
  clear h h1 hx hd hd1 hs1 hB hfl ha hnb hal
  refine calls_fr (vs:=[_,_]) 11 Tryz.func27 rfl rfl (Nat.le_of_ble_eq_true rfl) fun f=>?_
  simp only [argSlots]
  (repeat (first|(with_reducible first|refine zA fun K hK=>?_|refine zB ?_|refine zC ?_)|((with_reducible first|refine zD rfl fun K hK=>?_|refine zE fun K hK=>?_);go_simp)|(with_reducible first|((repeat ((fail_if_success refine hK _ _ ?_);clear hK K));refine hK _ _ ?_;clear hK K)|refine zT (by go_simp;first|done|omega) ?_|refine zF (by go_simp;first|done|omega) ?_|refine zG ?_|refine zR ?_|refine zK ?_|refine zL ?_|refine zN ?_|refine zS ?_)|simp only [Exit.then,Exit.inBlock,Exit.noGoto,↓reduceIte,Nat.reduceEqDiff]|simp only [undef,reduceCtorEq,↓reduceIte]))
  refine hpu.out.mono ?_
  rintro e1 w1 ⟨q,fb',rfl,hp⟩
  obtain ⟨sp0,loc0,ok0,hb⟩:=hp.blk
  have hcq:=hb.cell
  have hfq:=hb.frozen
  have HBQ:=Lib.hid hb
  have HP:=Lib.hid hp
  have hnq:w.heap.size ≠ x.d∧w.heap.size ≠ q:=by
    refine ⟨fun e=>?_,fun e=>?_⟩
    · have:=HS1.out x.d (Or.inl (Or.inl rfl));omega
    · rcases hp.fbs with h9|⟨_,_,h9⟩
      · have:=H0.out.lt q (by rw [h9];simp);omega
      · simp at h9;omega
  have hnb1:=HNB.out.mod hp.mod (fun hh=>by rcases hh with hh|hh;exact hnq.1 hh;exact hnq.2 hh)
  have hcn:=hnb1.cell
  have hfn:=hnb1.frozen
  clear hb hp hpu hnb1
  go_simp
  (repeat (first|(with_reducible first|refine zA fun K hK=>?_|refine zB ?_|refine zC ?_)|((with_reducible first|refine zD rfl fun K hK=>?_|refine zE fun K hK=>?_);go_simp)|(with_reducible first|((repeat ((fail_if_success refine hK _ _ ?_);clear hK K));refine hK _ _ ?_;clear hK K)|refine zT (by go_simp;first|done|omega) ?_|refine zF (by go_simp;first|done|omega) ?_|refine zG ?_|refine zR ?_|refine zK ?_|refine zL ?_|refine zN ?_|refine zS ?_)|simp only [Exit.then,Exit.inBlock,Exit.noGoto,↓reduceIte,Nat.reduceEqDiff]|simp only [undef,reduceCtorEq,↓reduceIte]))
  refine fr_normal ?_
  (refine fr_ret0 rfl ?_)
  have hm:Mod (fun b=>b=q) w1 ((w1.setCell ⟨q,2,none⟩ (strV nm.1)).setCell ⟨q,3,none⟩ (strV nm.2)):=((Mod.refl (fun b=>b=q) w1).setCell (p:=⟨q,2,none⟩) (Or.inl rfl) _).setCell (p:=⟨q,3,none⟩) (Or.inl rfl) _
  obtain ⟨c',h1,h2⟩:=H.out.pushed HX.out (fun k hk=>Nat.lt_of_lt_of_le (HS1.out k hk) HAL.out.size) (Nat.le_trans HB.out HAL.out.size) HP.out hm { kind:=0,space:=nm.1,loc:=nm.2,ok:=false } ok0 (fun h=>by cases h) ((HBQ.out.set 2 (strV nm.1)).set 3 (strV nm.2))
  refine ⟨rfl,c',_,_,⟨h1.dec,h1.cs,(HAL.out.mono (fun _ _ h=>h.elim)).trans h1.mod (fun _ _ h=>h),fun b hb=>?_⟩,h2⟩
  rcases h1.sub b hb with h9|h9
  · exact Or.inl h9
  · exact Or.inr (Nat.le_trans HAL.out.size h9)
end Go.Proofs.YtkjnockljapnbaaGreatDoor
namespace Go.Proofs.YtkjnockljapnbaaGreatDoor
open Go Go.RowKit
theorem NsAt.drewN {w:World} {m n:Nat} {ns:Bs → Option Bs} (h:NsAt w m n ns) (k:Nat):NsAt (w.drewN k) m n ns:=h.mod (S:=fun _=>False) (mod_none (show Below w.heap.size w (w.drewN k) from ⟨rfl,rfl,rfl,Nat.le_refl _,fun _ _=>rfl⟩) _) id
abbrev xmlnsL:Bs:=[120,109,108,110,115]
theorem set_same {cs:Array Value} {o:Nat} {v:Value} (h:cs[o]?=some v):cs.setIfInBounds o v=cs:=by
  apply Array.ext
  · simp
  · intro i h1 h2
    rw [Array.getElem_setIfInBounds h2]
    split
    · rename_i e;subst e
      rw [Array.getElem?_eq_getElem h2] at h
      simpa using h.symm
    · rfl
def TrPost (w:World) (g:Nat) (cs:Array Value) (t:TypeId) (o:Nat) (s:Bs) (w':World):Prop:=
  Mod (fun k=>k=g) w w'∧Blk w' g (cs.setIfInBounds o (strV s)) t∧w'.heap.size=w.heap.size
theorem TrPost.keep {w:World} {g:Nat} {cs:Array Value} {t:TypeId} {o:Nat} {s:Bs} (hb:Blk w g cs t) (h:cs[o]?=some (strV s)) (k:Nat):TrPost w g cs t o s (w.drewN k):=
  ⟨(Mod.refl _ w).drewN k,by rw [set_same h];exact hb,rfl⟩
theorem TrPost.one {w:World} {g:Nat} {cs:Array Value} {t:TypeId} {o:Nat} (s:Bs) (hb:Blk w g cs t) (k:Nat):TrPost w g cs t o s ((w.drewN k).setCell ⟨g,o,none⟩ (strV s)):=
  ⟨((Mod.refl (fun k=>k=g) w).drewN k).setCell (p:=⟨g,o,none⟩) (Or.inl rfl) _,(show Blk (w.drewN k) g cs t from hb).set o (strV s),by simp [World.setCell]⟩
theorem translate_c (x:Cx) (c:DC) (w:World) (v:DV) (hd:DecAt w x.d c v) (m n:Nat) (ns:Bs → Option Bs) (hmap:c.ns=.map (some m)) (hns:NsAt w m n ns) (hsp:c.space=⟨x.o.space.toArray⟩)
    (g:Nat) (cs:Array Value) (t:TypeId) (hb:Blk w g cs t) (hgd:g ≠ x.d) (hgm:g ≠ m) (o:Nat) (nm:Bs × Bs) (h0:cs[o]?=some (strV nm.1)) (h1:cs[o + 1]?=some (strV nm.2)) (hl:nm.1.length ≤ 1000000000) (el:Bool) :
    Calls Tryz.prog 28 #[decP x,.pointer (some ⟨g,o,none⟩),.bool el] w fun en w'=>en=.returned (.tuple #[])∧TrPost w g cs t o (transL x.o ns nm el).1 w':=by
  have hdg:x.d ≠ g:=fun e=>hgd e.symm
  have hc:=hd.cell
  have hf:=hd.frozen
  have hcg0:w.cell? ⟨g,o,none⟩=some (strV nm.1):=(hb.cell o).trans h0
  have hcg1:w.cell? ⟨g,o + 1,none⟩=some (strV nm.2):=(hb.cell (o + 1)).trans h1
  have hfg:=hb.frozen
  have HB:=Lib.hid hb
  have HD:=Lib.hid hd
  have HNS:=Lib.hid hns
  have H0:=Lib.hid h0
  obtain ⟨c1,c2,c3,c4,c5,c6,c7,c8,c9,c10,c11,c12,c13⟩:=c
  simp only at hmap hsp
  subst hmap hsp
  clear hb hd hns h0 h1
  obtain ⟨sp,lo⟩:=nm
  simp only at hcg0 hcg1 hl
  by_cases e1:sp=xmlnsL
  · subst e1
    refine calls_fr (vs:=[_,_,_]) 75 Tryz.func28 rfl rfl (Nat.le_of_ble_eq_true rfl) fun f=>?_
    simp only [argSlots]
    (repeat (first|(with_reducible first|refine zA fun K hK=>?_|refine zB ?_|refine zC ?_)|((with_reducible first|refine zD rfl fun K hK=>?_|refine zE fun K hK=>?_);go_simp)|(with_reducible first|((repeat ((fail_if_success refine hK _ _ ?_);clear hK K));refine hK _ _ ?_;clear hK K)|refine zT (by go_simp;first|done|omega) ?_|refine zF (by go_simp;first|done|omega) ?_|refine zG ?_|refine zR ?_|refine zK ?_|refine zL ?_|refine zN ?_|refine zS ?_)|simp only [Exit.then,Exit.inBlock,Exit.noGoto,↓reduceIte,Nat.reduceEqDiff]|simp only [undef,reduceCtorEq,↓reduceIte]))
    (refine fr_ret0 rfl ?_)
    exact ⟨rfl,TrPost.keep HB.out H0.out 0⟩
  obtain ⟨a1,a2⟩:=lbne e1
  by_cases e2:sp=[]
  · subst e2
    cases el with
    | false=>
      refine calls_fr (vs:=[_,_,_]) 75 Tryz.func28 rfl rfl (Nat.le_of_ble_eq_true rfl) fun f=>?_
      simp only [argSlots]
      (repeat (first|(with_reducible first|refine zA fun K hK=>?_|refine zB ?_|refine zC ?_)|((with_reducible first|refine zD rfl fun K hK=>?_|refine zE fun K hK=>?_);go_simp)|(with_reducible first|((repeat ((fail_if_success refine hK _ _ ?_);clear hK K));refine hK _ _ ?_;clear hK K)|refine zT (by go_simp;first|done|omega) ?_|refine zF (by go_simp;first|done|omega) ?_|refine zG ?_|refine zR ?_|refine zK ?_|refine zL ?_|refine zN ?_|refine zS ?_)|simp only [Exit.then,Exit.inBlock,Exit.noGoto,↓reduceIte,Nat.reduceEqDiff]|simp only [undef,reduceCtorEq,↓reduceIte]))
      (refine fr_ret0 rfl ?_)
      exact ⟨rfl,TrPost.keep HB.out H0.out 0⟩
    | true=>
      by_cases e3:lo=xmlnsL
      · subst e3
        refine calls_fr (vs:=[_,_,_]) 75 Tryz.func28 rfl rfl (Nat.le_of_ble_eq_true rfl) fun f=>?_
        simp only [argSlots]
        (repeat (first|(with_reducible first|refine zA fun K hK=>?_|refine zB ?_|refine zC ?_)|((with_reducible first|refine zD rfl fun K hK=>?_|refine zE fun K hK=>?_);go_simp)|(with_reducible first|((repeat ((fail_if_success refine hK _ _ ?_);clear hK K));refine hK _ _ ?_;clear hK K)|refine zT (by go_simp;first|done|omega) ?_|refine zF (by go_simp;first|done|omega) ?_|refine zG ?_|refine zR ?_|refine zK ?_|refine zL ?_|refine zN ?_|refine zS ?_)|simp only [Exit.then,Exit.inBlock,Exit.noGoto,↓reduceIte,Nat.reduceEqDiff]|simp only [undef,reduceCtorEq,↓reduceIte]))
        (refine fr_ret0 rfl ?_)
        exact ⟨rfl,TrPost.keep HB.out H0.out 0⟩
      obtain ⟨b1,b2⟩:=lbne e3
      have hlk:=fun k=>(HNS.out.drewN k).look [] (by simp)
      have HT:=Lib.hid (show transL x.o ns ([],lo) true=(match ns [] with|some v=>(v,lo)|none=>(x.o.space,lo)) by
        unfold transL
        rw [if_neg (show ¬ (([]:Bs)=xmlnsB) by decide),if_neg (by simp),if_neg (by rintro ⟨_,_,h⟩;exact e3 h)]
        simp only [show ¬ (([]:Bs)=xmlB) by decide,if_false]
        cases ns [] <;> rfl)
      clear e1 e3
      cases hn:ns [] with
      | some u=>
        rw [hn] at hlk
        simp only [Option.isSome_some,Option.getD_some] at hlk
        have HT2:=Lib.hid (show (transL x.o ns ([],lo) true).1=u by rw [HT.out,hn])
        refine calls_fr (vs:=[_,_,_]) 75 Tryz.func28 rfl rfl (Nat.le_of_ble_eq_true rfl) fun f=>?_
        simp only [argSlots]
        (repeat (first|(with_reducible first|refine zA fun K hK=>?_|refine zB ?_|refine zC ?_)|((with_reducible first|refine zD rfl fun K hK=>?_|refine zE fun K hK=>?_);go_simp)|(with_reducible first|((repeat ((fail_if_success refine hK _ _ ?_);clear hK K));refine hK _ _ ?_;clear hK K)|refine zT (by go_simp;first|done|omega) ?_|refine zF (by go_simp;first|done|omega) ?_|refine zG ?_|refine zR ?_|refine zK ?_|refine zL ?_|refine zN ?_|refine zS ?_)|simp only [Exit.then,Exit.inBlock,Exit.noGoto,↓reduceIte,Nat.reduceEqDiff]|simp only [undef,reduceCtorEq,↓reduceIte]))
        (refine wp_keep [0,1] (fun f=>?_);simp only [keep_cons,keep_nil,lk_cons,lk_nil,Nat.reduceEqDiff,↓reduceIte])
        go_quiet (fail)
        (repeat (first|(with_reducible first|refine zA fun K hK=>?_|refine zB ?_|refine zC ?_)|((with_reducible first|refine zD rfl fun K hK=>?_|refine zE fun K hK=>?_);go_simp)|(with_reducible first|((repeat ((fail_if_success refine hK _ _ ?_);clear hK K));refine hK _ _ ?_;clear hK K)|refine zT (by go_simp;first|done|omega) ?_|refine zF (by go_simp;first|done|omega) ?_|refine zG ?_|refine zR ?_|refine zK ?_|refine zL ?_|refine zN ?_|refine zS ?_)|simp only [Exit.then,Exit.inBlock,Exit.noGoto,↓reduceIte,Nat.reduceEqDiff]|simp only [undef,reduceCtorEq,↓reduceIte]))
        refine fr_normal ?_
        (refine fr_ret0 rfl ?_)
        rw [HT2.out]
        exact ⟨rfl,TrPost.one u HB.out _⟩
      | none=>
        rw [hn] at hlk
        simp only [Option.isSome_none,Option.getD_none] at hlk
        have HT2:=Lib.hid (show (transL x.o ns ([],lo) true).1=x.o.space by rw [HT.out,hn])
        refine calls_fr (vs:=[_,_,_]) 75 Tryz.func28 rfl rfl (Nat.le_of_ble_eq_true rfl) fun f=>?_
        simp only [argSlots]
        (repeat (first|(with_reducible first|refine zA fun K hK=>?_|refine zB ?_|refine zC ?_)|((with_reducible first|refine zD rfl fun K hK=>?_|refine zE fun K hK=>?_);go_simp)|(with_reducible first|((repeat ((fail_if_success refine hK _ _ ?_);clear hK K));refine hK _ _ ?_;clear hK K)|refine zT (by go_simp;first|done|omega) ?_|refine zF (by go_simp;first|done|omega) ?_|refine zG ?_|refine zR ?_|refine zK ?_|refine zL ?_|refine zN ?_|refine zS ?_)|simp only [Exit.then,Exit.inBlock,Exit.noGoto,↓reduceIte,Nat.reduceEqDiff]|simp only [undef,reduceCtorEq,↓reduceIte]))
        (refine wp_keep [0,1] (fun f=>?_);simp only [keep_cons,keep_nil,lk_cons,lk_nil,Nat.reduceEqDiff,↓reduceIte])
        go_quiet (fail)
        (repeat (first|(with_reducible first|refine zA fun K hK=>?_|refine zB ?_|refine zC ?_)|((with_reducible first|refine zD rfl fun K hK=>?_|refine zE fun K hK=>?_);go_simp)|(with_reducible first|((repeat ((fail_if_success refine hK _ _ ?_);clear hK K));refine hK _ _ ?_;clear hK K)|refine zT (by go_simp;first|done|omega) ?_|refine zF (by go_simp;first|done|omega) ?_|refine zG ?_|refine zR ?_|refine zK ?_|refine zL ?_|refine zN ?_|refine zS ?_)|simp only [Exit.then,Exit.inBlock,Exit.noGoto,↓reduceIte,Nat.reduceEqDiff]|simp only [undef,reduceCtorEq,↓reduceIte]))
        refine fr_normal ?_
        (refine fr_ret0 rfl ?_)
        rw [HT2.out]
        exact ⟨rfl,TrPost.one x.o.space HB.out _⟩
  obtain ⟨b1,b2⟩:=lbne e2
  by_cases e3:sp=xmlL
  · subst e3
    have hb1:Blk (w.setCell ⟨g,o,none⟩ (strV xmlURLB)) g (cs.setIfInBounds o (strV xmlURLB)) t:=(show Blk w g cs t from HB.out).set o (strV xmlURLB)
    have hns1:NsAt (w.setCell ⟨g,o,none⟩ (strV xmlURLB)) m n ns:=HNS.out.mod (S:=fun k=>k=g) ((Mod.refl (fun k=>k=g) w).setCell (p:=⟨g,o,none⟩) (Or.inl rfl) _) (fun e=>hgm e.symm)
    have hlk:=fun k=>(hns1.drewN k).look xmlURLB (by decide)
    have HB1:=Lib.hid hb1
    have HTW:=Lib.hid (show ∀ s k,TrPost w g cs t o s (((w.setCell ⟨g,o,none⟩ (strV xmlURLB)).drewN k).setCell ⟨g,o,none⟩ (strV s)) from fun s k=>by
      refine ⟨(((Mod.refl (fun i=>i=g) w).setCell (p:=⟨g,o,none⟩) (Or.inl rfl) _).drewN k).setCell (p:=⟨g,o,none⟩) (Or.inl rfl) _,?_,by simp [World.setCell]⟩
      have:=(show Blk ((w.setCell ⟨g,o,none⟩ (strV xmlURLB)).drewN k) g _ t from hb1).set o (strV s)
      simpa using this)
    have HTU:=Lib.hid (show ∀ k,TrPost w g cs t o xmlURLB ((w.setCell ⟨g,o,none⟩ (strV xmlURLB)).drewN k) from fun k=>
      ⟨((Mod.refl (fun i=>i=g) w).setCell (p:=⟨g,o,none⟩) (Or.inl rfl) _).drewN k,hb1,by simp [World.setCell]⟩)
    have HT:=Lib.hid (show transL x.o ns (xmlL,lo) el=(match ns xmlURLB with|some v=>(v,lo)|none=>(xmlURLB,lo)) by
      unfold transL
      rw [if_neg (show ¬ (xmlL=xmlnsB) by decide),if_neg (by simp),if_neg (by rintro ⟨h,_⟩;exact h rfl)]
      simp only [show xmlL=xmlB from rfl,if_true,show ¬ (xmlURLB=[]) by decide,if_false]
      cases ns xmlURLB <;> rfl)
    clear e1 e2 hb1 hns1
    cases hn:ns xmlURLB with
    | some u=>
      rw [hn] at hlk
      simp only [Option.isSome_some,Option.getD_some,strV,xmlURLB] at hlk
      have HT2:=Lib.hid (show (transL x.o ns (xmlL,lo) el).1=u by rw [HT.out,hn])
      cases el
      all_goals
        refine calls_fr (vs:=[_,_,_]) 75 Tryz.func28 rfl rfl (Nat.le_of_ble_eq_true rfl) fun f=>?_
        simp only [argSlots]
        (repeat (first|(with_reducible first|refine zA fun K hK=>?_|refine zB ?_|refine zC ?_)|((with_reducible first|refine zD rfl fun K hK=>?_|refine zE fun K hK=>?_);go_simp)|(with_reducible first|((repeat ((fail_if_success refine hK _ _ ?_);clear hK K));refine hK _ _ ?_;clear hK K)|refine zT (by go_simp;first|done|omega) ?_|refine zF (by go_simp;first|done|omega) ?_|refine zG ?_|refine zR ?_|refine zK ?_|refine zL ?_|refine zN ?_|refine zS ?_)|simp only [Exit.then,Exit.inBlock,Exit.noGoto,↓reduceIte,Nat.reduceEqDiff]|simp only [undef,reduceCtorEq,↓reduceIte]))
        (refine wp_keep [0,1] (fun f=>?_);simp only [keep_cons,keep_nil,lk_cons,lk_nil,Nat.reduceEqDiff,↓reduceIte])
        go_quiet (fail)
        (repeat (first|(with_reducible first|refine zA fun K hK=>?_|refine zB ?_|refine zC ?_)|((with_reducible first|refine zD rfl fun K hK=>?_|refine zE fun K hK=>?_);go_simp)|(with_reducible first|((repeat ((fail_if_success refine hK _ _ ?_);clear hK K));refine hK _ _ ?_;clear hK K)|refine zT (by go_simp;first|done|omega) ?_|refine zF (by go_simp;first|done|omega) ?_|refine zG ?_|refine zR ?_|refine zK ?_|refine zL ?_|refine zN ?_|refine zS ?_)|simp only [Exit.then,Exit.inBlock,Exit.noGoto,↓reduceIte,Nat.reduceEqDiff]|simp only [undef,reduceCtorEq,↓reduceIte]))
        refine fr_normal ?_
        (refine fr_ret0 rfl ?_)
        rw [HT2.out]
        exact ⟨rfl,HTW.out u _⟩
    | none=>
      rw [hn] at hlk
      simp only [Option.isSome_none,Option.getD_none,strV,xmlURLB] at hlk
      have HT2:=Lib.hid (show (transL x.o ns (xmlL,lo) el).1=xmlURLB by rw [HT.out,hn])
      cases el
      all_goals
        refine calls_fr (vs:=[_,_,_]) 75 Tryz.func28 rfl rfl (Nat.le_of_ble_eq_true rfl) fun f=>?_
        simp only [argSlots]
        (repeat (first|(with_reducible first|refine zA fun K hK=>?_|refine zB ?_|refine zC ?_)|((with_reducible first|refine zD rfl fun K hK=>?_|refine zE fun K hK=>?_);go_simp)|(with_reducible first|((repeat ((fail_if_success refine hK _ _ ?_);clear hK K));refine hK _ _ ?_;clear hK K)|refine zT (by go_simp;first|done|omega) ?_|refine zF (by go_simp;first|done|omega) ?_|refine zG ?_|refine zR ?_|refine zK ?_|refine zL ?_|refine zN ?_|refine zS ?_)|simp only [Exit.then,Exit.inBlock,Exit.noGoto,↓reduceIte,Nat.reduceEqDiff]|simp only [undef,reduceCtorEq,↓reduceIte]))
        (refine wp_keep [0,1] (fun f=>?_);simp only [keep_cons,keep_nil,lk_cons,lk_nil,Nat.reduceEqDiff,↓reduceIte])
        go_quiet (fail)
        (repeat (first|(with_reducible first|refine zA fun K hK=>?_|refine zB ?_|refine zC ?_)|((with_reducible first|refine zD rfl fun K hK=>?_|refine zE fun K hK=>?_);go_simp)|(with_reducible first|((repeat ((fail_if_success refine hK _ _ ?_);clear hK K));refine hK _ _ ?_;clear hK K)|refine zT (by go_simp;first|done|omega) ?_|refine zF (by go_simp;first|done|omega) ?_|refine zG ?_|refine zR ?_|refine zK ?_|refine zL ?_|refine zN ?_|refine zS ?_)|simp only [Exit.then,Exit.inBlock,Exit.noGoto,↓reduceIte,Nat.reduceEqDiff]|simp only [undef,reduceCtorEq,↓reduceIte]))
        refine fr_normal ?_
        (refine fr_ret0 rfl ?_)
        rw [HT2.out]
        exact ⟨rfl,HTU.out _⟩
  · obtain ⟨d1,d2⟩:=lbne e3
    have hlk:=fun k=>(HNS.out.drewN k).look sp (by unfold maxLen;omega)
    have HT:=Lib.hid (show transL x.o ns (sp,lo) el=(match ns sp with|some v=>(v,lo)|none=>(sp,lo)) by
      unfold transL
      rw [if_neg (show ¬ (sp=xmlnsB) from e1),if_neg (by rintro ⟨h,_⟩;exact e2 h),if_neg (by rintro ⟨_,h,_⟩;exact e2 h)]
      simp only [show ¬ (sp=xmlB) from e3,if_false,e2]
      cases ns sp <;> rfl)
    clear e1 e2 e3
    cases hn:ns sp with
    | some u=>
      rw [hn] at hlk
      simp only [Option.isSome_some,Option.getD_some] at hlk
      have HT2:=Lib.hid (show (transL x.o ns (sp,lo) el).1=u by rw [HT.out,hn])
      cases el
      all_goals
        refine calls_fr (vs:=[_,_,_]) 75 Tryz.func28 rfl rfl (Nat.le_of_ble_eq_true rfl) fun f=>?_
        simp only [argSlots]
        (repeat (first|(with_reducible first|refine zA fun K hK=>?_|refine zB ?_|refine zC ?_)|((with_reducible first|refine zD rfl fun K hK=>?_|refine zE fun K hK=>?_);go_simp)|(with_reducible first|((repeat ((fail_if_success refine hK _ _ ?_);clear hK K));refine hK _ _ ?_;clear hK K)|refine zT (by go_simp;first|done|omega) ?_|refine zF (by go_simp;first|done|omega) ?_|refine zG ?_|refine zR ?_|refine zK ?_|refine zL ?_|refine zN ?_|refine zS ?_)|simp only [Exit.then,Exit.inBlock,Exit.noGoto,↓reduceIte,Nat.reduceEqDiff]|simp only [undef,reduceCtorEq,↓reduceIte]))
        (refine wp_keep [0,1] (fun f=>?_);simp only [keep_cons,keep_nil,lk_cons,lk_nil,Nat.reduceEqDiff,↓reduceIte])
        go_quiet (fail)
        (repeat (first|(with_reducible first|refine zA fun K hK=>?_|refine zB ?_|refine zC ?_)|((with_reducible first|refine zD rfl fun K hK=>?_|refine zE fun K hK=>?_);go_simp)|(with_reducible first|((repeat ((fail_if_success refine hK _ _ ?_);clear hK K));refine hK _ _ ?_;clear hK K)|refine zT (by go_simp;first|done|omega) ?_|refine zF (by go_simp;first|done|omega) ?_|refine zG ?_|refine zR ?_|refine zK ?_|refine zL ?_|refine zN ?_|refine zS ?_)|simp only [Exit.then,Exit.inBlock,Exit.noGoto,↓reduceIte,Nat.reduceEqDiff]|simp only [undef,reduceCtorEq,↓reduceIte]))
        refine fr_normal ?_
        (refine fr_ret0 rfl ?_)
        rw [HT2.out]
        exact ⟨rfl,TrPost.one u HB.out _⟩
    | none=>
      rw [hn] at hlk
      simp only [Option.isSome_none,Option.getD_none] at hlk
      have HT2:=Lib.hid (show (transL x.o ns (sp,lo) el).1=sp by rw [HT.out,hn])
      cases el
      all_goals
        refine calls_fr (vs:=[_,_,_]) 75 Tryz.func28 rfl rfl (Nat.le_of_ble_eq_true rfl) fun f=>?_
        simp only [argSlots]
        (repeat (first|(with_reducible first|refine zA fun K hK=>?_|refine zB ?_|refine zC ?_)|((with_reducible first|refine zD rfl fun K hK=>?_|refine zE fun K hK=>?_);go_simp)|(with_reducible first|((repeat ((fail_if_success refine hK _ _ ?_);clear hK K));refine hK _ _ ?_;clear hK K)|refine zT (by go_simp;first|done|omega) ?_|refine zF (by go_simp;first|done|omega) ?_|refine zG ?_|refine zR ?_|refine zK ?_|refine zL ?_|refine zN ?_|refine zS ?_)|simp only [Exit.then,Exit.inBlock,Exit.noGoto,↓reduceIte,Nat.reduceEqDiff]|simp only [undef,reduceCtorEq,↓reduceIte]))
        (refine wp_keep [0,1] (fun f=>?_);simp only [keep_cons,keep_nil,lk_cons,lk_nil,Nat.reduceEqDiff,↓reduceIte])
        go_quiet (fail)
        (repeat (first|(with_reducible first|refine zA fun K hK=>?_|refine zB ?_|refine zC ?_)|((with_reducible first|refine zD rfl fun K hK=>?_|refine zE fun K hK=>?_);go_simp)|(with_reducible first|((repeat ((fail_if_success refine hK _ _ ?_);clear hK K));refine hK _ _ ?_;clear hK K)|refine zT (by go_simp;first|done|omega) ?_|refine zF (by go_simp;first|done|omega) ?_|refine zG ?_|refine zR ?_|refine zK ?_|refine zL ?_|refine zN ?_|refine zS ?_)|simp only [Exit.then,Exit.inBlock,Exit.noGoto,↓reduceIte,Nat.reduceEqDiff]|simp only [undef,reduceCtorEq,↓reduceIte]))
        refine fr_normal ?_
        (refine fr_ret0 rfl ?_)
        rw [HT2.out]
        exact ⟨rfl,TrPost.keep HB.out H0.out _⟩
end Go.Proofs.YtkjnockljapnbaaGreatDoor
