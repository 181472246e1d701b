/- Part of the proof that laws.FnBeginning, laws.FnPlaces returns true for every argument (Se, Sf). No condition of its own. -/
import Derived.Test.YtkjnockljapnbaaGreatDoorK36
set_option linter.all false
set_option maxHeartbeats 8000000
set_option maxRecDepth 100000
namespace Go.Proofs.YtkjnockljapnbaaGreatDoor
open Go Go.RowKit
theorem Own.popped {x:Cx} {w w':World} {c:DC} {v:DV} {m q:Nat} {sb fb:List Nat} {n:Nat} {e:Ent} {stk:List Ent} {ns:Bs → Option Bs} (h:Own x w c v m (q :: sb) fb n (e :: stk) ns) {fl:List Ent} (hp:PopPost x c w v e stk sb fl fb w' q) :
    ∃ c',OwnStep x c w v m (q :: sb) fb c' w' sb (q :: fb)∧Own x w' c' v m sb (q :: fb) n stk ns∧(∃ nx,c'.free=.pointer (some ⟨q,0,none⟩)∧∃ ok,Blk w' q (skCells nx e.kind e.space e.loc ok) 88∧(e.kind=1 → ok=e.ok)):=by
  obtain ⟨c',hd,nx,dp,rfl,hst⟩:=hp.dec
  have hperm:∀ b,b ∈ m :: (sb ++ q :: fb) ↔ b ∈ m :: ((q :: sb) ++ fb):=by
    intro b
    simp only [List.mem_cons,List.mem_append,List.cons_append]
    constructor
    · rintro (h|h|h|h)
      · exact Or.inl h
      · exact Or.inr (Or.inr (Or.inl h))
      · exact Or.inr (Or.inl h)
      · exact Or.inr (Or.inr (Or.inr h))
    · rintro (h|h|h|h)
      · exact Or.inl h
      · exact Or.inr (Or.inr (Or.inl h))
      · exact Or.inr (Or.inl h)
      · exact Or.inr (Or.inr (Or.inr h))
  have hxd:∀ b ∈ m :: ((q :: sb) ++ fb),b ≠ x.d:=fun b hb he=>h.s1 b hb (Or.inl (Or.inl he))
  have hmq:¬ (m=x.d ∨ m=q):=by
    rintro (he|he)
    · exact hxd m (by simp) he
    · have:=(List.nodup_cons.1 h.nodup).1
      exact this (by simp [he])
  refine ⟨_,⟨hd,⟨_,_,_,rfl⟩,hp.mod.mono (fun b _ hb=>?_),fun b hb=>Or.inl ((hperm b).1 hb)⟩,⟨hst,⟨_,hp.free⟩,h.map,h.ns.mod hp.mod hmq,?_,fun b hb=>h.base b ((hperm b).1 hb),fun b hb=>h.s1 b ((hperm b).1 hb)⟩,?_⟩
  · rcases hb with hb|hb
    · exact Or.inl hb
    · exact Or.inr (by simp [hb])
  · have h1:(m :: (q :: sb ++ fb)).Nodup:=h.nodup
    have:(m :: (q :: sb ++ fb)).Perm (m :: (sb ++ q :: fb)):=by
      refine List.Perm.cons m ?_
      exact (List.perm_middle).symm
    exact this.nodup_iff.1 h1
  · obtain ⟨_,nx2,ok,hb,hk,_⟩:=hp.free
    exact ⟨nx2,rfl,ok,hb,hk⟩
theorem Own.turned {x:Cx} {w w':World} {c:DC} {v:DV} {m:Nat} {sb fb:List Nat} {n n':Nat} {stk:List Ent} {ns ns':Bs → Option Bs} (h:Own x w c v m sb fb n stk ns) (hm:Mod (fun k=>k=m) w w') (hn:NsAt w' m n' ns'):Own x w' c v m sb fb n' stk ns':=by
  obtain ⟨fl,hf⟩:=h.free
  have hnm:∀ b ∈ sb ++ fb,¬ b=m:=fun b hb he=>(List.nodup_cons.1 h.nodup).1 (he ▸ hb)
  exact ⟨h.stk.mod hm (fun b hb=>hnm b (by simp [hb])),⟨fl,hf.mod hm (fun b hb=>hnm b (by simp [hb]))⟩,h.map,hn,h.nodup,h.base,h.s1⟩
noncomputable def peCode (n:Nat):Code:=((Tryz.f29.body).bind (Code.partAt n)).getD .skip
def StkOk (stk:List Ent):Prop:=∀ e ∈ stk,(e.kind=0 ∨ e.kind=1)∧e.space.length ≤ 100000000000∧e.loc.length ≤ 100000000000
def UnInv (x:Cx) (c0:DC) (w0:World) (v:DV) (m:Nat) (sb0 fb0:List Nat) (n0:Nat) (stk0:List Ent) (ns0:Bs → Option Bs) (k:Nat) (a:Act) (w:World):Prop:=
  ∃ f c sb fb n stk ns,a=fr 179 f [(0,decP x)]∧OwnStep x c0 w0 v m sb0 fb0 c w sb fb∧Own x w c v m sb fb n stk ns∧k=stk.length∧undoL stk0 ns0=undoL stk ns∧n + stk.length ≤ n0 + stk0.length∧StkOk stk
theorem OwnStep.refl {x:Cx} {c:DC} {w:World} {v:DV} (hd:DecAt w x.d c v) (m:Nat) (sb fb:List Nat):OwnStep x c w v m sb fb c w sb fb:=
  ⟨hd,⟨c.stk,c.free,c.depth,rfl⟩,Mod.refl _ _,fun _ hb=>Or.inl hb⟩
theorem peUndo (x:Cx) (hx:x.Ok) (c0:DC) (w0:World) (v:DV) (hd:DecAt w0 x.d c0 v) (m:Nat) (sb0 fb0:List Nat) (n0:Nat) (stk0:List Ent) (ns0:Bs → Option Bs) (h:Own x w0 c0 v m sb0 fb0 n0 stk0 ns0) (hok:StkOk stk0) (hn:n0 + stk0.length ≤ 100000000000) (Q:Exit → Act → World → Prop)
    (hQ:∀ f c w sb fb n,OwnStep x c0 w0 v m sb0 fb0 c w sb fb → Own x w c v m sb fb n (undoL stk0 ns0).1 (undoL stk0 ns0).2 → n + (undoL stk0 ns0).1.length ≤ n0 + stk0.length → Q .normal (fr 179 f [(0,decP x)]) w) (f:Nat → Value) (c1:Code) (hc1:c1=.loop (peCode 21)) :
    c1.wp Tryz.prog (Exit.inBlock 1 Q) (fr 179 f [(0,decP x)]) w0:=by
  subst hc1
  have HX:=Lib.hid hx
  have HQ:=Lib.hid hQ
  have HN:=Lib.hid hn
  refine wp_loop_ghost_k (UnInv x c0 w0 v m sb0 fb0 n0 stk0 ns0) stk0.length ⟨f,c0,sb0,fb0,n0,stk0,ns0,rfl,OwnStep.refl hd m sb0 fb0,h,rfl,rfl,Nat.le_refl _,hok⟩ ?_
  clear h hok hd hx hQ hn
  rintro k _ w ⟨f,c,sb,fb,n,stk,ns,rfl,hs,ho,hk,hu,hn,hok⟩ J K2 hJ hK2
  have HJ:=Lib.hid hJ
  have HK2:=Lib.hid hK2
  have HS:=Lib.hid hs
  have HO:=Lib.hid ho
  have HK:=Lib.hid hk
  have HU:=Lib.hid hu
  have HNN:=Lib.hid hn
  have HOK:=Lib.hid hok
  have hc:=hs.dec.cell
  have hf:=hs.dec.frozen
  have HD:=Lib.hid hs.dec
  clear hJ hK2 hs hk hu hn hok
  unfold peCode
  conv=>arg 2;whnf
  rcases ho.stk.ptr with ⟨h1,h2,h3⟩|⟨q,e,stk',sb',h1,h2,h3⟩
  · subst h2 h3
    clear ho
    (repeat (first|(with_reducible first|refine zA fun K hK=>?_|refine zB ?_|refine zC ?_)|((with_reducible first|refine zD rfl fun K hK=>?_|refine zE fun K hK=>?_);go_simp)|(with_reducible first|((repeat ((fail_if_success refine hK _ _ ?_);clear hK K));refine hK _ _ ?_;clear hK K)|refine zT (by go_simp;first|done|omega) ?_|refine zF (by go_simp;first|done|omega) ?_|refine zG ?_|refine zR ?_|refine zK ?_|refine zL ?_|refine zN ?_|refine zS ?_)|simp only [Exit.then,Exit.inBlock,Exit.noGoto,↓reduceIte,Nat.reduceEqDiff]|simp only [undef,reduceCtorEq,↓reduceIte]))
    refine Q_keep [0] (fun f=>?_);simp only [keep_cons,keep_nil,lk_cons,lk_nil,Nat.reduceEqDiff,↓reduceIte]
    have hu2:=HU.out
    rw [show undoL [] ns=([],ns) from rfl] at hu2
    refine HQ.out f c w [] fb n HS.out ?_ ?_
    · rw [hu2];exact HO.out
    · rw [hu2];exact HNN.out
  · subst h2 h3
    have hst:=ho.stk
    obtain ⟨_,nx,ok,hb,hke,hrest⟩:=hst
    have hcq:=hb.cell
    have hfq:=hb.frozen
    have hek:=(HOK.out e (by simp)).1
    rcases hek with hek|hek
    · have hu2:=HU.out
      have hu3:undoL (e :: stk') ns=(e :: stk',ns):=by unfold undoL;rw [if_pos hek]
      rw [hu3] at hu2
      have HU2:=Lib.hid hu2
      clear ho hb hke hrest hu2 hu3
      rw [hek] at hcq
      (repeat (first|(with_reducible first|refine zA fun K hK=>?_|refine zB ?_|refine zC ?_)|((with_reducible first|refine zD rfl fun K hK=>?_|refine zE fun K hK=>?_);go_simp)|(with_reducible first|((repeat ((fail_if_success refine hK _ _ ?_);clear hK K));refine hK _ _ ?_;clear hK K)|refine zT (by go_simp;first|done|omega) ?_|refine zF (by go_simp;first|done|omega) ?_|refine zG ?_|refine zR ?_|refine zK ?_|refine zL ?_|refine zN ?_|refine zS ?_)|simp only [Exit.then,Exit.inBlock,Exit.noGoto,↓reduceIte,Nat.reduceEqDiff]|simp only [undef,reduceCtorEq,↓reduceIte]))
      refine Q_keep [0] (fun f=>?_);simp only [keep_cons,keep_nil,lk_cons,lk_nil,Nat.reduceEqDiff,↓reduceIte]
      refine HQ.out f c w (q :: sb') fb n HS.out ?_ ?_
      · rw [HU2.out];exact HO.out
      · rw [HU2.out];exact HNN.out
    · have hu3:undoL (e :: stk') ns=undoL stk' (setNs ns e.loc (if e.ok then some e.space else none)):=by
        conv=>lhs;unfold undoL
        rw [if_neg (by rw [hek];decide)]
      have HU3:=Lib.hid (HU.out.trans hu3)
      obtain ⟨fl,hfl⟩:=ho.free
      have h3:(m :: ((q :: sb') ++ fb)).Nodup:=ho.nodup
      have hpop:=Lib.hid (pop_c x c w v HD.out q e (Or.inr hek) stk' sb' ho.stk fl fb hfl (fun b hb he=>ho.s1 b (List.mem_cons_of_mem _ hb) (Or.inl (Or.inl he))) (List.nodup_cons.1 h3).2)
      have HEK:=Lib.hid hek
      rw [hek] at hcq
      clear ho hb hke hrest hu3 hfl h3
      (repeat (first|(with_reducible first|refine zA fun K hK=>?_|refine zB ?_|refine zC ?_)|((with_reducible first|refine zD rfl fun K hK=>?_|refine zE fun K hK=>?_);go_simp)|(with_reducible first|((repeat ((fail_if_success refine hK _ _ ?_);clear hK K));refine hK _ _ ?_;clear hK K)|refine zT (by go_simp;first|done|omega) ?_|refine zF (by go_simp;first|done|omega) ?_|refine zG ?_|refine zR ?_|refine zK ?_|refine zL ?_|refine zN ?_|refine zS ?_)|simp only [Exit.then,Exit.inBlock,Exit.noGoto,↓reduceIte,Nat.reduceEqDiff]|simp only [undef,reduceCtorEq,↓reduceIte]))
      refine hpop.out.mono ?_
      rintro e1 w1 ⟨rfl,hp⟩
      obtain ⟨c1,hs1,ho1,nx1,hfr1,ok1,hb1,hk1⟩:=HO.out.popped hp
      have hok1:=hk1 HEK.out
      subst hok1
      have hc:=hs1.dec.cell
      have hf:=hs1.dec.frozen
      have hcq:=hb1.cell
      have hfq:=hb1.frozen
      have hmap:=ho1.map
      have HS1:=Lib.hid hs1
      have HO1:=Lib.hid ho1
      have HD1:=Lib.hid hs1.dec
      have HES:=Lib.hid (HOK.out e (by simp)).2
      obtain ⟨p1,p2,p3,p4,p5,p6,p7,p8,p9,p10,p11,p12,p13⟩:=c1
      simp only at hmap
      subst hmap
      clear hp hs1 ho1 hb1 hk1 hpop hfr1
      cases heo:e.ok with
      | true=>
        go_simp
        (repeat (first|(with_reducible first|refine zA fun K hK=>?_|refine zB ?_|refine zC ?_)|((with_reducible first|refine zD rfl fun K hK=>?_|refine zE fun K hK=>?_);go_simp)|(with_reducible first|((repeat ((fail_if_success refine hK _ _ ?_);clear hK K));refine hK _ _ ?_;clear hK K)|refine zT (by go_simp;first|done|omega) ?_|refine zF (by go_simp;first|done|omega) ?_|refine zG ?_|refine zR ?_|refine zK ?_|refine zL ?_|refine zN ?_|refine zS ?_)|simp only [Exit.then,Exit.inBlock,Exit.noGoto,↓reduceIte,Nat.reduceEqDiff]|simp only [undef,reduceCtorEq,↓reduceIte]))
        (refine wp_region_pi [0,0,0,1,0,0,0,0,1,0,0,0,0,1,2] [0,1,2,3,4,5,6,7,8,9,10,11,12,13,14] (by kernel_rfl) (by kernel_rfl) ?_;repeat (first|(with_reducible refine wpPi_nil (fun nq=>?_))|((with_reducible refine wpPi_free rfl rfl (fun K hK=>?_));go_simp;refine hK _ ?_;clear hK K)|((with_reducible refine wpPi_quiet rfl rfl (fun K hK=>?_));go_simp;refine hK _ ?_;clear hK K)|((with_reducible refine wpPi_eff rfl rfl (fun nq K hK=>?_));go_simp;refine hK.out _ _ ?_;clear hK K)))
        refine wpPi_eff rfl rfl (fun nq K hK=>?_)
        obtain ⟨w2,hr2,hn2,ht2⟩:=(HO1.out.ns.drewN nq).store (by have h9:n + (e :: stk').length ≤ n0 + stk0.length:=HNN.out;have:=HN.out;unfold maxLen;rw [List.length_cons] at h9;omega) e.loc e.space (by have:=HES.out.2;unfold maxLen;omega) (by have:=HES.out.1;unfold maxLen;omega)
        have HN2:=Lib.hid hn2
        have HT2:=Lib.hid ht2
        clear hn2 ht2
        go_simp
        refine hK.out _ _ ?_
        clear hK K
        (repeat (first|(with_reducible refine wpPi_nil (fun nq=>?_))|((with_reducible refine wpPi_free rfl rfl (fun K hK=>?_));go_simp;refine hK _ ?_;clear hK K)|((with_reducible refine wpPi_quiet rfl rfl (fun K hK=>?_));go_simp;refine hK _ ?_;clear hK K)|((with_reducible refine wpPi_eff rfl rfl (fun nq K hK=>?_));go_simp;refine hK.out _ _ ?_;clear hK K)))
        (try (repeat (first|(with_reducible first|refine zA fun K hK=>?_|refine zB ?_|refine zC ?_)|((with_reducible first|refine zD rfl fun K hK=>?_|refine zE fun K hK=>?_);go_simp)|(with_reducible first|((repeat ((fail_if_success refine hK _ _ ?_);clear hK K));refine hK _ _ ?_;clear hK K)|refine zT (by go_simp;first|done|omega) ?_|refine zF (by go_simp;first|done|omega) ?_|refine zG ?_|refine zR ?_|refine zK ?_|refine zL ?_|refine zN ?_|refine zS ?_)|simp only [Exit.then,Exit.inBlock,Exit.noGoto,↓reduceIte,Nat.reduceEqDiff]|simp only [undef,reduceCtorEq,↓reduceIte])))
        have hm2:Mod (fun k=>k=m) w1 (w2.drewN nq):=((show Mod (fun k=>k=m) w1 (w1.drewN _) from (Mod.refl _ w1).drewN _).trans (turned_mod HT2.out) (fun _ _ h=>h)).drewN nq
        have hO2:=HO1.out.turned hm2 (HN2.out.drewN nq)
        have hmd:x.d ≠ m:=fun e=>HO1.out.s1 m (by simp) (Or.inl (Or.inl e.symm))
        have hS2:OwnStep x ⟨p1,p2,p3,p4,p5,p6,p7,p8,p9,p10,p11,p12,.map (some m)⟩ w1 v m sb' (q :: fb) ⟨p1,p2,p3,p4,p5,p6,p7,p8,p9,p10,p11,p12,.map (some m)⟩ (w2.drewN nq) sb' (q :: fb):=⟨Blk.mod HD1.out hm2 hmd,⟨_,_,_,rfl⟩,hm2.mono (fun _ _ h=>Or.inr (by simp [h])),fun _ hb=>Or.inl hb⟩
        (refine K_keep [0] (fun f=>?_);simp only [keep_cons,keep_nil,lk_cons,lk_nil,Nat.reduceEqDiff,↓reduceIte])
        refine HK2.out _ _ ⟨stk'.length,by rw [HK.out];simp,HJ.out _ _ _ ⟨f,_,sb',q :: fb,n + 1,stk',_,rfl,HS.out.trans (HS1.out.trans hS2),hO2,rfl,?_,?_,fun e' he'=>HOK.out e' (by simp [he'])⟩⟩
        · rw [HU3.out,heo];rfl
        · have h9:n + (e :: stk').length ≤ n0 + stk0.length:=HNN.out;rw [List.length_cons] at h9;omega
      | false=>
        go_simp
        (repeat (first|(with_reducible first|refine zA fun K hK=>?_|refine zB ?_|refine zC ?_)|((with_reducible first|refine zD rfl fun K hK=>?_|refine zE fun K hK=>?_);go_simp)|(with_reducible first|((repeat ((fail_if_success refine hK _ _ ?_);clear hK K));refine hK _ _ ?_;clear hK K)|refine zT (by go_simp;first|done|omega) ?_|refine zF (by go_simp;first|done|omega) ?_|refine zG ?_|refine zR ?_|refine zK ?_|refine zL ?_|refine zN ?_|refine zS ?_)|simp only [Exit.then,Exit.inBlock,Exit.noGoto,↓reduceIte,Nat.reduceEqDiff]|simp only [undef,reduceCtorEq,↓reduceIte]))
        (refine wp_region_pi [0,0,0,1,0,0,0,0,1,2] [0,1,2,3,4,5,6,7,8,9] (by kernel_rfl) (by kernel_rfl) ?_;repeat (first|(with_reducible refine wpPi_nil (fun nq=>?_))|((with_reducible refine wpPi_free rfl rfl (fun K hK=>?_));go_simp;refine hK _ ?_;clear hK K)|((with_reducible refine wpPi_quiet rfl rfl (fun K hK=>?_));go_simp;refine hK _ ?_;clear hK K)|((with_reducible refine wpPi_eff rfl rfl (fun nq K hK=>?_));go_simp;refine hK.out _ _ ?_;clear hK K)))
        refine wpPi_eff rfl rfl (fun nq K hK=>?_)
        obtain ⟨w2,hr2,hn2,ht2⟩:=(HO1.out.ns.drewN nq).drop e.loc (by have:=HES.out.2;unfold maxLen;omega) 0
        have HN2:=Lib.hid hn2
        have HT2:=Lib.hid ht2
        clear hn2 ht2
        go_simp
        refine hK.out _ _ ?_
        clear hK K
        (repeat (first|(with_reducible refine wpPi_nil (fun nq=>?_))|((with_reducible refine wpPi_free rfl rfl (fun K hK=>?_));go_simp;refine hK _ ?_;clear hK K)|((with_reducible refine wpPi_quiet rfl rfl (fun K hK=>?_));go_simp;refine hK _ ?_;clear hK K)|((with_reducible refine wpPi_eff rfl rfl (fun nq K hK=>?_));go_simp;refine hK.out _ _ ?_;clear hK K)))
        (try (repeat (first|(with_reducible first|refine zA fun K hK=>?_|refine zB ?_|refine zC ?_)|((with_reducible first|refine zD rfl fun K hK=>?_|refine zE fun K hK=>?_);go_simp)|(with_reducible first|((repeat ((fail_if_success refine hK _ _ ?_);clear hK K));refine hK _ _ ?_;clear hK K)|refine zT (by go_simp;first|done|omega) ?_|refine zF (by go_simp;first|done|omega) ?_|refine zG ?_|refine zR ?_|refine zK ?_|refine zL ?_|refine zN ?_|refine zS ?_)|simp only [Exit.then,Exit.inBlock,Exit.noGoto,↓reduceIte,Nat.reduceEqDiff]|simp only [undef,reduceCtorEq,↓reduceIte])))
        have hm2:Mod (fun k=>k=m) w1 (w2.drewN nq):=((show Mod (fun k=>k=m) w1 (w1.drewN _) from (Mod.refl _ w1).drewN _).trans (turned_mod HT2.out) (fun _ _ h=>h)).drewN nq
        have hO2:=HO1.out.turned hm2 (HN2.out.drewN nq)
        have hmd:x.d ≠ m:=fun e=>HO1.out.s1 m (by simp) (Or.inl (Or.inl e.symm))
        have hS2:OwnStep x ⟨p1,p2,p3,p4,p5,p6,p7,p8,p9,p10,p11,p12,.map (some m)⟩ w1 v m sb' (q :: fb) ⟨p1,p2,p3,p4,p5,p6,p7,p8,p9,p10,p11,p12,.map (some m)⟩ (w2.drewN nq) sb' (q :: fb):=⟨Blk.mod HD1.out hm2 hmd,⟨_,_,_,rfl⟩,hm2.mono (fun _ _ h=>Or.inr (by simp [h])),fun _ hb=>Or.inl hb⟩
        (refine K_keep [0] (fun f=>?_);simp only [keep_cons,keep_nil,lk_cons,lk_nil,Nat.reduceEqDiff,↓reduceIte])
        refine HK2.out _ _ ⟨stk'.length,by rw [HK.out];simp,HJ.out _ _ _ ⟨f,_,sb',q :: fb,n,stk',_,rfl,HS.out.trans (HS1.out.trans hS2),hO2,rfl,?_,?_,fun e' he'=>HOK.out e' (by simp [he'])⟩⟩
        · rw [HU3.out,heo];rfl
        · have h9:n + (e :: stk').length ≤ n0 + stk0.length:=HNN.out;rw [List.length_cons] at h9;omega
end Go.Proofs.YtkjnockljapnbaaGreatDoor
namespace Go.Proofs.YtkjnockljapnbaaGreatDoor
open Go Go.RowKit
def SameD (c c':DC):Prop:=∃ p q dp b t1 t2,c'={ c with stk:=p,free:=q,depth:=dp,needClose:=b,tcs:=t1,tcl:=t2 }
theorem SameD.refl (c:DC):SameD c c:=⟨c.stk,c.free,c.depth,c.needClose,c.tcs,c.tcl,rfl⟩
theorem SameD.trans {a b c:DC} (h:SameD a b) (k:SameD b c):SameD a c:=by
  obtain ⟨_,_,_,_,_,_,rfl⟩:=h
  obtain ⟨p,q,dp,b,t1,t2,rfl⟩:=k
  exact ⟨p,q,dp,b,t1,t2,rfl⟩
theorem SameC.toD {c c':DC} (h:SameC c c'):SameD c c':=by
  obtain ⟨b,p,q,rfl⟩:=h
  exact ⟨c.stk,c.free,c.depth,b,p,q,rfl⟩
theorem OwnStep.same {x:Cx} {c:DC} {w:World} {v:DV} {m:Nat} {sb fb:List Nat} {c':DC} {w':World} {sb' fb':List Nat} (h:OwnStep x c w v m sb fb c' w' sb' fb'):SameD c c':=by
  obtain ⟨p,q,dp,rfl⟩:=h.cs
  exact ⟨p,q,dp,c.needClose,c.tcs,c.tcl,rfl⟩
theorem RdS.own {x:Cx} (hx:x.Ok) {c c':DC} {w w':World} {v:DV} {rest:Bs} {e:Option EK} {buf:Bs} (h:RdS x c w v rest e buf) (hd:DecAt w' x.d c' v) {S:Nat → Prop} (hm:Mod S w w') (hS:∀ k,S k → k=x.d ∨ (¬ x.S1 v k∧x.B ≤ k)):RdS x c' w' v rest e buf:=by
  obtain ⟨un,hun,hu⟩:=h.inp
  have hn:∀ k,x.S1 v k → k ≠ x.d → ¬ S k:=fun k hk hne hs=>by
    rcases hS k hs with h1|h1
    · exact hne h1
    · exact h1.1 hk
  exact ⟨Mod.below h.base h.base.size hm (fun k hk=>by rcases hS k hk with h1|h1;exact h1 ▸ hx.d;exact h1.2),hd,
    ⟨un,hun.mod hm (hn _ (Or.inl (Or.inr (Or.inl rfl))) (fun e=>hx.ne1 e.symm)) (hn _ (Or.inl (Or.inr (Or.inr (Or.inl rfl)))) (fun e=>hx.ne2 e.symm)) (hn _ (Or.inl (Or.inr (Or.inr (Or.inr rfl)))) (fun e=>hx.ne3 e.symm)),hu⟩,
    h.pos,h.err,h.fin,h.bf.mod hm (fun k hk=>hn k (Or.inr hk) (fun e=>h.bf.notS0 k hk (Or.inl e)))⟩
theorem SynW.drewN {x:Cx} {c:DC} {w:World} {v:DV} {w':World} {a:Addr} (h:SynW x c w v w' a) (k:Nat):SynW x c w v (w'.drewN k) a:=
  ⟨h.dec,show ErrS x c ((w'.setCell ⟨x.d,20,none⟩ (synV a)).drewN k) { v with err:=synV a } .syn from h.err.drewN k,show Stp x w v ((w'.setCell ⟨x.d,20,none⟩ (synV a)).drewN k) { v with err:=synV a } from h.stp.drawn k⟩
theorem popMod {x:Cx} {v:DV} {m:Nat} {sb fb:List Nat} {tb:Nat} {w w2 w':World} (h:Mod (fun b=>b=x.d ∨ b ∈ m :: (sb ++ fb)) w w2) (k:Mod (x.S1 v) w2 w'):Mod (fun b=>x.S1 v b ∨ b ∈ m :: (sb ++ fb) ∨ b=tb) w w':=
  (h.mono (fun i _ hi=>by
    rcases hi with hi|hi
    · exact Or.inl (Or.inl (Or.inl hi))
    · exact Or.inr (Or.inl hi))).trans (k.mono (fun _ _ hi=>Or.inl hi)) (fun _ _ hi=>hi)
def PopEPost (x:Cx) (c:DC) (w:World) (v:DV) (s:St) (nm:Bs × Bs) (m:Nat) (sb fb:List Nat) (n:Nat) (tb:Nat) (en:Ending) (w':World):Prop:=
  match popL x.o nm s with
  | .error k=>en=.returned (.bool false)∧∃ c' v',ErrS x c' w' v' k∧Mod (fun b=>x.S1 v b ∨ b ∈ m :: (sb ++ fb) ∨ b=tb) w w'
  | .ok (tk,s')=>∃ nm',tk=.fin nm'∧en=.returned (.bool true)∧∃ c' sb' fb' n',RdTS x c' w' v s'∧Own x w' c' v m sb' fb' n' s'.stk s'.ns∧Blk w' tb #[strV nm'.1,strV nm'.2] 103∧SameD c c' ∧
      Mod (fun b=>b=x.d ∨ b ∈ m :: (sb ++ fb) ∨ b=tb) w w'∧(∀ b ∈ m :: (sb' ++ fb'),b ∈ m :: (sb ++ fb) ∨ w.heap.size ≤ b)∧n' + s'.stk.length ≤ n + s.stk.length
structure PeSt (x:Cx) (c:DC) (w:World) (v:DV) (s:St) (m:Nat) (sb fb:List Nat) (n:Nat) (tb:Nat) (nm:Bs × Bs):Prop where
  rd0:s.ended=false∧∃ b,RdS x c w v s.rest none b
  strict:c.strict=x.o.strict
  rts:RdTS x c w v s
  own:Own x w c v m sb fb n s.stk s.ns
  sok:StkOk s.stk
  bnd:n + s.stk.length ≤ 100000000000
  sp:c.space=⟨x.o.space.toArray⟩
  tok:Blk w tb #[strV nm.1,strV nm.2] 103
  tS:¬ x.S1 v tb
  tO:tb ∉ m :: (sb ++ fb)
  tB:x.B ≤ tb
  l1:nm.1.length ≤ 1000000000
  l2:nm.2.length ≤ 1000000000
theorem popE_nil (x:Cx) (hx:x.All) (c:DC) (w:World) (v:DV) (s:St) (m:Nat) (sb fb:List Nat) (n:Nat) (tb:Nat) (nm:Bs × Bs) (h:PeSt x c w v s m sb fb n tb nm) (hs:s.stk=[]) :
    Calls Tryz.prog 29 #[decP x,.pointer (some ⟨tb,0,none⟩)] w fun en w'=>PopEPost x c w v s nm m sb fb n tb en w':=by
  obtain ⟨e0,b0,hR,_,_⟩:=h.rts.rd
  have hstk:c.stk=.pointer none:=by
    have:=h.own.stk
    rw [hs] at this
    rcases this.ptr with ⟨h1,_⟩|⟨_,_,_,_,_,_,h1⟩
    · exact h1
    · cases h1
  have hpn:=Lib.hid (pop_nil x c w v hR.dec hstk)
  have hct:=h.tok.cell
  have hft:=h.tok.frozen
  have HR:=Lib.hid hR
  have HX:=Lib.hid hx
  have HP:=Lib.hid (show popL x.o nm s=.error .syn by unfold popL;rw [hs])
  have hl:=h.l2
  have hl1:¬ 9223372036854775807 < 25 + nm.2.length:=by omega
  have hl2:¬ 9223372036854775807 < 25 + nm.2.length + 1:=by omega
  have hl3:¬ 9223372036854775807 < 25 + (nm.2.length + 1):=by omega
  have HT:=Lib.hid h.tok
  clear hR hx h hl hs hstk
  refine calls_fr (vs:=[_,_]) 179 Tryz.func29 rfl rfl (Nat.le_of_ble_eq_true rfl) fun f=>?_
  simp only [argSlots]
  (repeat (first|(with_reducible first|refine zA fun K hK=>?_|refine zB ?_|refine zC ?_)|((with_reducible first|refine zD rfl fun K hK=>?_|refine zE fun K hK=>?_);go_simp)|(with_reducible first|((repeat ((fail_if_success refine hK _ _ ?_);clear hK K));refine hK _ _ ?_;clear hK K)|refine zT (by go_simp;first|done|omega) ?_|refine zF (by go_simp;first|done|omega) ?_|refine zG ?_|refine zR ?_|refine zK ?_|refine zL ?_|refine zN ?_|refine zS ?_)|simp only [Exit.then,Exit.inBlock,Exit.noGoto,↓reduceIte,Nat.reduceEqDiff]|simp only [undef,reduceCtorEq,↓reduceIte]))
  refine hpn.out.mono ?_
  rintro e1 w1 ⟨rfl,rfl⟩
  clear hpn
  have hal:Below w1.heap.size w1 (w1.alloc (.cells #[strV nm.1,strV nm.2] 82)):=(Below.refl _ w1).alloc (Nat.le_refl _) _
  go_simp
  (repeat (first|(with_reducible first|refine zA fun K hK=>?_|refine zB ?_|refine zC ?_)|((with_reducible first|refine zD rfl fun K hK=>?_|refine zE fun K hK=>?_);go_simp)|(with_reducible first|((repeat ((fail_if_success refine hK _ _ ?_);clear hK K));refine hK _ _ ?_;clear hK K)|refine zT (by go_simp;first|done|omega) ?_|refine zF (by go_simp;first|done|omega) ?_|refine zG ?_|refine zR ?_|refine zK ?_|refine zL ?_|refine zN ?_|refine zS ?_)|simp only [Exit.then,Exit.inBlock,Exit.noGoto,↓reduceIte,Nat.reduceEqDiff]|simp only [undef,reduceCtorEq,↓reduceIte]))
  have HSY:=Lib.hid (fun msg=>synErr_g HX.out.toOk (HR.out.below HX.out.toOk hal) msg)
  refine (HSY.out _).mono ?_
  rintro e3 w3 ⟨a9,rfl,hS⟩
  have hc2:=hS.dec.cell
  have hf2:=hS.dec.frozen
  have HS:=Lib.hid hS
  clear hS hct hft
  go_simp
  (repeat (first|(with_reducible first|refine zA fun K hK=>?_|refine zB ?_|refine zC ?_)|((with_reducible first|refine zD rfl fun K hK=>?_|refine zE fun K hK=>?_);go_simp)|(with_reducible first|((repeat ((fail_if_success refine hK _ _ ?_);clear hK K));refine hK _ _ ?_;clear hK K)|refine zT (by go_simp;first|done|omega) ?_|refine zF (by go_simp;first|done|omega) ?_|refine zG ?_|refine zR ?_|refine zK ?_|refine zL ?_|refine zN ?_|refine zS ?_)|simp only [Exit.then,Exit.inBlock,Exit.noGoto,↓reduceIte,Nat.reduceEqDiff]|simp only [undef,reduceCtorEq,↓reduceIte]))
  (refine fr_out1 rfl (by decide) (by simp only [lk_cons,lk_nil,Nat.reduceEqDiff,↓reduceIte];rfl) ?_)
  unfold PopEPost
  rw [HP.out]
  exact ⟨rfl,c,_,HS.out.err,popMod (mod_none ((Below.refl _ w1).alloc (Nat.le_refl _) _) _) HS.out.stp.mod⟩
theorem popE_ns (x:Cx) (hx:x.All) (c:DC) (w:World) (v:DV) (s:St) (m:Nat) (sb fb:List Nat) (n:Nat) (tb:Nat) (nm:Bs × Bs) (h:PeSt x c w v s m sb fb n tb nm) (e:Ent) (stk':List Ent) (hs:s.stk=e :: stk') (hk:e.kind=1) :
    Calls Tryz.prog 29 #[decP x,.pointer (some ⟨tb,0,none⟩)] w fun en w'=>PopEPost x c w v s nm m sb fb n tb en w':=by
  obtain ⟨e0,b0,hR,_,_⟩:=h.rts.rd
  have ho:=h.own
  rw [hs] at ho
  obtain ⟨q,e',l',sb',h1,h2,h3⟩:∃ q e' l' sb',c.stk=.pointer (some ⟨q,0,none⟩)∧sb=q :: sb'∧e :: stk'=e' :: l':=by
    rcases ho.stk.ptr with ⟨_,_,h1⟩|⟨q,e',l',sb',h1,h2,h3⟩
    · cases h1
    · exact ⟨q,e',l',sb',h1,h2,h3⟩
  obtain ⟨rfl,rfl⟩:=List.cons.inj h3
  subst h2
  obtain ⟨fl,hfl⟩:=ho.free
  have hnd:(m :: ((q :: sb') ++ fb)).Nodup:=ho.nodup
  have hpop:=Lib.hid (pop_c x c w v hR.dec q e (Or.inr hk) stk' sb' ho.stk fl fb hfl (fun b hb he=>ho.s1 b (List.mem_cons_of_mem _ hb) (Or.inl (Or.inl he))) (List.nodup_cons.1 hnd).2)
  have HP:=Lib.hid (show popL x.o nm s=.error .syn by unfold popL;rw [hs];simp only;rw [if_pos (by rw [hk];decide)])
  have hl:=h.l2
  have hl1:¬ 9223372036854775807 < 25 + nm.2.length:=by omega
  have hl2:¬ 9223372036854775807 < 25 + nm.2.length + 1:=by omega
  have HT:=Lib.hid h.tok
  have HR:=Lib.hid hR
  have HX:=Lib.hid hx
  have HO:=Lib.hid ho
  have HTO:=Lib.hid h.tO
  have HTS:=Lib.hid h.tS
  have HEK:=Lib.hid hk
  clear hR hx h hl hs h3 hfl hnd ho hk h1
  refine calls_fr (vs:=[_,_]) 179 Tryz.func29 rfl rfl (Nat.le_of_ble_eq_true rfl) fun f=>?_
  simp only [argSlots]
  (repeat (first|(with_reducible first|refine zA fun K hK=>?_|refine zB ?_|refine zC ?_)|((with_reducible first|refine zD rfl fun K hK=>?_|refine zE fun K hK=>?_);go_simp)|(with_reducible first|((repeat ((fail_if_success refine hK _ _ ?_);clear hK K));refine hK _ _ ?_;clear hK K)|refine zT (by go_simp;first|done|omega) ?_|refine zF (by go_simp;first|done|omega) ?_|refine zG ?_|refine zR ?_|refine zK ?_|refine zL ?_|refine zN ?_|refine zS ?_)|simp only [Exit.then,Exit.inBlock,Exit.noGoto,↓reduceIte,Nat.reduceEqDiff]|simp only [undef,reduceCtorEq,↓reduceIte]))
  refine hpop.out.mono ?_
  rintro e1 w1 ⟨rfl,hp⟩
  obtain ⟨c1,hs1,ho1,nx1,hfr1,ok1,hb1,hk1⟩:=HO.out.popped hp
  have HSM:=Lib.hid hs1.mod
  have hmt:¬ (tb=x.d ∨ tb=q):=by
    rintro (he|he)
    · exact HTS.out (Or.inl (Or.inl he))
    · exact HTO.out (by simp [he])
  have ht1:=HT.out.mod hp.mod hmt
  have hct:=ht1.cell
  have hft:=ht1.frozen
  have hR1:=HR.out.own HX.out.toOk hs1.dec hs1.mod (fun k hk=>by
    rcases hk with hk|hk
    · exact Or.inl hk
    · exact Or.inr ⟨HO.out.s1 k hk,HO.out.base k hk⟩)
  have hal:Below w1.heap.size w1 (w1.alloc (.cells #[strV nm.1,strV nm.2] 82)):=(Below.refl _ w1).alloc (Nat.le_refl _) _
  have hba:=hb1.alloc (.cells #[strV nm.1,strV nm.2] 82)
  have hcq:=hba.cell
  have hfq:=hba.frozen
  rw [HEK.out] at hcq
  have HSY:=Lib.hid (fun msg=>synErr_g HX.out.toOk (hR1.below HX.out.toOk hal) msg)
  clear hp hs1 ho1 hb1 hk1 hpop hfr1 ht1 hR1 hal hba
  go_simp
  (repeat (first|(with_reducible first|refine zA fun K hK=>?_|refine zB ?_|refine zC ?_)|((with_reducible first|refine zD rfl fun K hK=>?_|refine zE fun K hK=>?_);go_simp)|(with_reducible first|((repeat ((fail_if_success refine hK _ _ ?_);clear hK K));refine hK _ _ ?_;clear hK K)|refine zT (by go_simp;first|done|omega) ?_|refine zF (by go_simp;first|done|omega) ?_|refine zG ?_|refine zR ?_|refine zK ?_|refine zL ?_|refine zN ?_|refine zS ?_)|simp only [Exit.then,Exit.inBlock,Exit.noGoto,↓reduceIte,Nat.reduceEqDiff]|simp only [undef,reduceCtorEq,↓reduceIte]))
  refine (HSY.out _).mono ?_
  rintro e3 w3 ⟨a9,rfl,hS⟩
  have hc2:=hS.dec.cell
  have hf2:=hS.dec.frozen
  have HS:=Lib.hid hS
  clear hS hct hft hcq hfq
  go_simp
  (repeat (first|(with_reducible first|refine zA fun K hK=>?_|refine zB ?_|refine zC ?_)|((with_reducible first|refine zD rfl fun K hK=>?_|refine zE fun K hK=>?_);go_simp)|(with_reducible first|((repeat ((fail_if_success refine hK _ _ ?_);clear hK K));refine hK _ _ ?_;clear hK K)|refine zT (by go_simp;first|done|omega) ?_|refine zF (by go_simp;first|done|omega) ?_|refine zG ?_|refine zR ?_|refine zK ?_|refine zL ?_|refine zN ?_|refine zS ?_)|simp only [Exit.then,Exit.inBlock,Exit.noGoto,↓reduceIte,Nat.reduceEqDiff]|simp only [undef,reduceCtorEq,↓reduceIte]))
  (refine fr_out1 rfl (by decide) (by simp only [lk_cons,lk_nil,Nat.reduceEqDiff,↓reduceIte];rfl) ?_)
  unfold PopEPost
  rw [HP.out]
  exact ⟨rfl,c1,_,HS.out.err,popMod (HSM.out.trans (mod_none ((Below.refl _ w1).alloc (Nat.le_refl _) _) (fun b=>b=x.d ∨ b ∈ m :: ((q :: sb') ++ fb))) (fun _ _ h=>h)) HS.out.stp.mod⟩
end Go.Proofs.YtkjnockljapnbaaGreatDoor
