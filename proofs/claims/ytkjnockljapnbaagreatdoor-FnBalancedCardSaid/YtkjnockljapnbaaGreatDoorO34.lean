/- Part of the proof that laws.FnBalanced returns true for every argument (Sf). No condition of its own. -/
import Derived.Test.YtkjnockljapnbaaGreatDoorO33
set_option linter.all false
set_option maxHeartbeats 8000000
set_option maxRecDepth 100000
namespace Go.Proofs.YtkjnockljapnbaaGreatDoor
open Go Go.RowKit
def SameD (c c':DC):Prop:=∃ p q dp b t1 t2,c'={ c with stk:=p,free:=q,depth:=dp,needClose:=b,tcs:=t1,tcl:=t2 }
theorem SameD.refl (c:DC):SameD c c:=⟨c.stk,c.free,c.depth,c.needClose,c.tcs,c.tcl,rfl⟩
theorem SameD.trans {a b c:DC} (h:SameD a b) (k:SameD b c):SameD a c:=by
  obtain ⟨_,_,_,_,_,_,rfl⟩:=h
  obtain ⟨p,q,dp,b,t1,t2,rfl⟩:=k
  exact ⟨p,q,dp,b,t1,t2,rfl⟩
theorem SameC.toD {c c':DC} (h:SameC c c'):SameD c c':=by
  obtain ⟨b,p,q,rfl⟩:=h
  exact ⟨c.stk,c.free,c.depth,b,p,q,rfl⟩
theorem OwnStep.same {x:Cx} {c:DC} {w:World} {v:DV} {m:Nat} {sb fb:List Nat} {c':DC} {w':World} {sb' fb':List Nat} (h:OwnStep x c w v m sb fb c' w' sb' fb'):SameD c c':=by
  obtain ⟨p,q,dp,rfl⟩:=h.cs
  exact ⟨p,q,dp,c.needClose,c.tcs,c.tcl,rfl⟩
theorem RdS.own {x:Cx} (hx:x.Ok) {c c':DC} {w w':World} {v:DV} {rest:Bs} {e:Option EK} {buf:Bs} (h:RdS x c w v rest e buf) (hd:DecAt w' x.d c' v) {S:Nat → Prop} (hm:Mod S w w') (hS:∀ k,S k → k=x.d ∨ (¬ x.S1 v k∧x.B ≤ k)):RdS x c' w' v rest e buf:=by
  obtain ⟨un,hun,hu⟩:=h.inp
  have hn:∀ k,x.S1 v k → k ≠ x.d → ¬ S k:=fun k hk hne hs=>by
    rcases hS k hs with h1|h1
    · exact hne h1
    · exact h1.1 hk
  exact ⟨Mod.below h.base h.base.size hm (fun k hk=>by rcases hS k hk with h1|h1;exact h1 ▸ hx.d;exact h1.2),hd,
    ⟨un,hun.mod hm (hn _ (Or.inl (Or.inr (Or.inl rfl))) (fun e=>hx.ne1 e.symm)) (hn _ (Or.inl (Or.inr (Or.inr (Or.inl rfl)))) (fun e=>hx.ne2 e.symm)) (hn _ (Or.inl (Or.inr (Or.inr (Or.inr rfl)))) (fun e=>hx.ne3 e.symm)),hu⟩,
    h.pos,h.err,h.fin,h.bf.mod hm (fun k hk=>hn k (Or.inr hk) (fun e=>h.bf.notS0 k hk (Or.inl e)))⟩
theorem SynW.drewN {x:Cx} {c:DC} {w:World} {v:DV} {w':World} {a:Addr} (h:SynW x c w v w' a) (k:Nat):SynW x c w v (w'.drewN k) a:=
  ⟨h.dec,show ErrS x c ((w'.setCell ⟨x.d,20,none⟩ (synV a)).drewN k) { v with err:=synV a } .syn from h.err.drewN k,show Stp x w v ((w'.setCell ⟨x.d,20,none⟩ (synV a)).drewN k) { v with err:=synV a } from h.stp.drawn k⟩
theorem popMod {x:Cx} {v:DV} {m:Nat} {sb fb:List Nat} {tb:Nat} {w w2 w':World} (h:Mod (fun b=>b=x.d ∨ b ∈ m :: (sb ++ fb)) w w2) (k:Mod (x.S1 v) w2 w'):Mod (fun b=>x.S1 v b ∨ b ∈ m :: (sb ++ fb) ∨ b=tb) w w':=
  (h.mono (fun i _ hi=>by
    rcases hi with hi|hi
    · exact Or.inl (Or.inl (Or.inl hi))
    · exact Or.inr (Or.inl hi))).trans (k.mono (fun _ _ hi=>Or.inl hi)) (fun _ _ hi=>hi)
def PopEPost (x:Cx) (c:DC) (w:World) (v:DV) (s:St) (nm:Bs × Bs) (m:Nat) (sb fb:List Nat) (n:Nat) (tb:Nat) (en:Ending) (w':World):Prop:=
  match popL x.o nm s with
  | .error k=>en=.returned (.bool false)∧∃ c' v',ErrS x c' w' v' k∧Mod (fun b=>x.S1 v b ∨ b ∈ m :: (sb ++ fb) ∨ b=tb) w w'
  | .ok (tk,s')=>∃ nm',tk=.fin nm'∧en=.returned (.bool true)∧∃ c' sb' fb' n',RdTS x c' w' v s'∧Own x w' c' v m sb' fb' n' s'.stk s'.ns∧Blk w' tb #[strV nm'.1,strV nm'.2] 103∧SameD c c' ∧
      Mod (fun b=>b=x.d ∨ b ∈ m :: (sb ++ fb) ∨ b=tb) w w'∧(∀ b ∈ m :: (sb' ++ fb'),b ∈ m :: (sb ++ fb) ∨ w.heap.size ≤ b)∧n' + s'.stk.length ≤ n + s.stk.length
structure PeSt (x:Cx) (c:DC) (w:World) (v:DV) (s:St) (m:Nat) (sb fb:List Nat) (n:Nat) (tb:Nat) (nm:Bs × Bs):Prop where
  fit:(s.ended=false∧∃ b,RdS x c w v s.rest none b) ∨ ∃ e stk',s.stk=e :: stk'∧e.kind=0∧nm=(e.space,e.loc)
  strict:c.strict=x.o.strict
  rts:RdTS x c w v s
  own:Own x w c v m sb fb n s.stk s.ns
  sok:StkOk s.stk
  bnd:n + s.stk.length ≤ 100000000000
  sp:c.space=⟨x.o.space.toArray⟩
  tok:Blk w tb #[strV nm.1,strV nm.2] 103
  tS:¬ x.S1 v tb
  tO:tb ∉ m :: (sb ++ fb)
  tB:x.B ≤ tb
  l1:nm.1.length ≤ 100000000000
  l2:nm.2.length ≤ 100000000000
theorem popE_nil (x:Cx) (hx:x.All) (c:DC) (w:World) (v:DV) (s:St) (m:Nat) (sb fb:List Nat) (n:Nat) (tb:Nat) (nm:Bs × Bs) (h:PeSt x c w v s m sb fb n tb nm) (hs:s.stk=[]) :
    Calls Tryz.prog 29 #[decP x,.pointer (some ⟨tb,0,none⟩)] w fun en w'=>PopEPost x c w v s nm m sb fb n tb en w':=by
  obtain ⟨e0,b0,hR,_,_⟩:=h.rts.rd
  have hstk:c.stk=.pointer none:=by
    have:=h.own.stk
    rw [hs] at this
    rcases this.ptr with ⟨h1,_⟩|⟨_,_,_,_,_,_,h1⟩
    · exact h1
    · cases h1
  have hpn:=Lib.hid (pop_nil x c w v hR.dec hstk)
  have hct:=h.tok.cell
  have hft:=h.tok.frozen
  have HR:=Lib.hid hR
  have HX:=Lib.hid hx
  have HP:=Lib.hid (show popL x.o nm s=.error .syn by unfold popL;rw [hs])
  have hl:=h.l2
  have hl1:¬ 9223372036854775807 < 25 + nm.2.length:=by omega
  have hl2:¬ 9223372036854775807 < 25 + nm.2.length + 1:=by omega
  have hl3:¬ 9223372036854775807 < 25 + (nm.2.length + 1):=by omega
  have HT:=Lib.hid h.tok
  clear hR hx h hl hs hstk
  refine calls_fr (vs:=[_,_]) 179 Tryz.func29 rfl rfl (Nat.le_of_ble_eq_true rfl) fun f=>?_
  simp only [argSlots]
  (repeat (first|(with_reducible first|refine zA fun K hK=>?_|refine zB ?_|refine zC ?_)|((with_reducible first|refine zD rfl fun K hK=>?_|refine zE fun K hK=>?_);go_simp)|(with_reducible first|((repeat ((fail_if_success refine hK _ _ ?_);clear hK K));refine hK _ _ ?_;clear hK K)|refine zt ?_|refine zf ?_|refine zG ?_|refine zR ?_|refine zK ?_|refine zL ?_|refine zN ?_|refine zS ?_)|simp only [Exit.then,Exit.inBlock,Exit.noGoto,↓reduceIte,Nat.reduceEqDiff]|simp only [undef,reduceCtorEq,↓reduceIte]))
  refine hpn.out.mono ?_
  rintro e1 w1 ⟨rfl,rfl⟩
  clear hpn
  have hal:Below w1.heap.size w1 (w1.alloc (.cells #[strV nm.1,strV nm.2] 82)):=(Below.refl _ w1).alloc (Nat.le_refl _) _
  go_simp
  (repeat (first|(with_reducible first|refine zA fun K hK=>?_|refine zB ?_|refine zC ?_)|((with_reducible first|refine zD rfl fun K hK=>?_|refine zE fun K hK=>?_);go_simp)|(with_reducible first|((repeat ((fail_if_success refine hK _ _ ?_);clear hK K));refine hK _ _ ?_;clear hK K)|refine zt ?_|refine zf ?_|refine zG ?_|refine zR ?_|refine zK ?_|refine zL ?_|refine zN ?_|refine zS ?_)|simp only [Exit.then,Exit.inBlock,Exit.noGoto,↓reduceIte,Nat.reduceEqDiff]|simp only [undef,reduceCtorEq,↓reduceIte]))
  have HSY:=Lib.hid (fun msg=>synErr_g HX.out.toOk (HR.out.below HX.out.toOk hal) msg)
  refine (HSY.out _).mono ?_
  rintro e3 w3 ⟨a9,rfl,hS⟩
  have hc2:=hS.dec.cell
  have hf2:=hS.dec.frozen
  have HS:=Lib.hid hS
  clear hS hct hft
  go_simp
  (repeat (first|(with_reducible first|refine zA fun K hK=>?_|refine zB ?_|refine zC ?_)|((with_reducible first|refine zD rfl fun K hK=>?_|refine zE fun K hK=>?_);go_simp)|(with_reducible first|((repeat ((fail_if_success refine hK _ _ ?_);clear hK K));refine hK _ _ ?_;clear hK K)|refine zt ?_|refine zf ?_|refine zG ?_|refine zR ?_|refine zK ?_|refine zL ?_|refine zN ?_|refine zS ?_)|simp only [Exit.then,Exit.inBlock,Exit.noGoto,↓reduceIte,Nat.reduceEqDiff]|simp only [undef,reduceCtorEq,↓reduceIte]))
  (refine fr_out1 rfl (by decide) (by simp only [lk_cons,lk_nil,Nat.reduceEqDiff,↓reduceIte];rfl) ?_)
  unfold PopEPost
  rw [HP.out]
  exact ⟨rfl,c,_,HS.out.err,popMod (mod_none ((Below.refl _ w1).alloc (Nat.le_refl _) _) _) HS.out.stp.mod⟩
theorem popE_ns (x:Cx) (hx:x.All) (c:DC) (w:World) (v:DV) (s:St) (m:Nat) (sb fb:List Nat) (n:Nat) (tb:Nat) (nm:Bs × Bs) (h:PeSt x c w v s m sb fb n tb nm) (e:Ent) (stk':List Ent) (hs:s.stk=e :: stk') (hk:e.kind=1) :
    Calls Tryz.prog 29 #[decP x,.pointer (some ⟨tb,0,none⟩)] w fun en w'=>PopEPost x c w v s nm m sb fb n tb en w':=by
  obtain ⟨e0,b0,hR,_,_⟩:=h.rts.rd
  have ho:=h.own
  rw [hs] at ho
  obtain ⟨q,e',l',sb',h1,h2,h3⟩:∃ q e' l' sb',c.stk=.pointer (some ⟨q,0,none⟩)∧sb=q :: sb'∧e :: stk'=e' :: l':=by
    rcases ho.stk.ptr with ⟨_,_,h1⟩|⟨q,e',l',sb',h1,h2,h3⟩
    · cases h1
    · exact ⟨q,e',l',sb',h1,h2,h3⟩
  obtain ⟨rfl,rfl⟩:=List.cons.inj h3
  subst h2
  obtain ⟨fl,hfl⟩:=ho.free
  have hnd:(m :: ((q :: sb') ++ fb)).Nodup:=ho.nodup
  have hpop:=Lib.hid (pop_c x c w v hR.dec q e (Or.inr hk) stk' sb' ho.stk fl fb hfl (fun b hb he=>ho.s1 b (List.mem_cons_of_mem _ hb) (Or.inl (Or.inl he))) (List.nodup_cons.1 hnd).2)
  have HP:=Lib.hid (show popL x.o nm s=.error .syn by unfold popL;rw [hs];simp only;rw [if_pos (by rw [hk];decide)])
  have hl:=h.l2
  have hl1:¬ 9223372036854775807 < 25 + nm.2.length:=by omega
  have hl2:¬ 9223372036854775807 < 25 + nm.2.length + 1:=by omega
  have HT:=Lib.hid h.tok
  have HR:=Lib.hid hR
  have HX:=Lib.hid hx
  have HO:=Lib.hid ho
  have HTO:=Lib.hid h.tO
  have HTS:=Lib.hid h.tS
  have HEK:=Lib.hid hk
  clear hR hx h hl hs h3 hfl hnd ho hk h1
  refine calls_fr (vs:=[_,_]) 179 Tryz.func29 rfl rfl (Nat.le_of_ble_eq_true rfl) fun f=>?_
  simp only [argSlots]
  (repeat (first|(with_reducible first|refine zA fun K hK=>?_|refine zB ?_|refine zC ?_)|((with_reducible first|refine zD rfl fun K hK=>?_|refine zE fun K hK=>?_);go_simp)|(with_reducible first|((repeat ((fail_if_success refine hK _ _ ?_);clear hK K));refine hK _ _ ?_;clear hK K)|refine zt ?_|refine zf ?_|refine zG ?_|refine zR ?_|refine zK ?_|refine zL ?_|refine zN ?_|refine zS ?_)|simp only [Exit.then,Exit.inBlock,Exit.noGoto,↓reduceIte,Nat.reduceEqDiff]|simp only [undef,reduceCtorEq,↓reduceIte]))
  refine hpop.out.mono ?_
  rintro e1 w1 ⟨rfl,hp⟩
  obtain ⟨c1,hs1,ho1,nx1,hfr1,ok1,hb1,hk1⟩:=HO.out.popped hp
  have HSM:=Lib.hid hs1.mod
  have hmt:¬ (tb=x.d ∨ tb=q):=by
    rintro (he|he)
    · exact HTS.out (Or.inl (Or.inl he))
    · exact HTO.out (by simp [he])
  have ht1:=HT.out.mod hp.mod hmt
  have hct:=ht1.cell
  have hft:=ht1.frozen
  have hR1:=HR.out.own HX.out.toOk hs1.dec hs1.mod (fun k hk=>by
    rcases hk with hk|hk
    · exact Or.inl hk
    · exact Or.inr ⟨HO.out.s1 k hk,HO.out.base k hk⟩)
  have hal:Below w1.heap.size w1 (w1.alloc (.cells #[strV nm.1,strV nm.2] 82)):=(Below.refl _ w1).alloc (Nat.le_refl _) _
  have hba:=hb1.alloc (.cells #[strV nm.1,strV nm.2] 82)
  have hcq:=hba.cell
  have hfq:=hba.frozen
  rw [HEK.out] at hcq
  have HSY:=Lib.hid (fun msg=>synErr_g HX.out.toOk (hR1.below HX.out.toOk hal) msg)
  clear hp hs1 ho1 hb1 hk1 hpop hfr1 ht1 hR1 hal hba
  go_simp
  (repeat (first|(with_reducible first|refine zA fun K hK=>?_|refine zB ?_|refine zC ?_)|((with_reducible first|refine zD rfl fun K hK=>?_|refine zE fun K hK=>?_);go_simp)|(with_reducible first|((repeat ((fail_if_success refine hK _ _ ?_);clear hK K));refine hK _ _ ?_;clear hK K)|refine zt ?_|refine zf ?_|refine zG ?_|refine zR ?_|refine zK ?_|refine zL ?_|refine zN ?_|refine zS ?_)|simp only [Exit.then,Exit.inBlock,Exit.noGoto,↓reduceIte,Nat.reduceEqDiff]|simp only [undef,reduceCtorEq,↓reduceIte]))
  refine (HSY.out _).mono ?_
  rintro e3 w3 ⟨a9,rfl,hS⟩
  have hc2:=hS.dec.cell
  have hf2:=hS.dec.frozen
  have HS:=Lib.hid hS
  clear hS hct hft hcq hfq
  go_simp
  (repeat (first|(with_reducible first|refine zA fun K hK=>?_|refine zB ?_|refine zC ?_)|((with_reducible first|refine zD rfl fun K hK=>?_|refine zE fun K hK=>?_);go_simp)|(with_reducible first|((repeat ((fail_if_success refine hK _ _ ?_);clear hK K));refine hK _ _ ?_;clear hK K)|refine zt ?_|refine zf ?_|refine zG ?_|refine zR ?_|refine zK ?_|refine zL ?_|refine zN ?_|refine zS ?_)|simp only [Exit.then,Exit.inBlock,Exit.noGoto,↓reduceIte,Nat.reduceEqDiff]|simp only [undef,reduceCtorEq,↓reduceIte]))
  (refine fr_out1 rfl (by decide) (by simp only [lk_cons,lk_nil,Nat.reduceEqDiff,↓reduceIte];rfl) ?_)
  unfold PopEPost
  rw [HP.out]
  exact ⟨rfl,c1,_,HS.out.err,popMod (HSM.out.trans (mod_none ((Below.refl _ w1).alloc (Nat.le_refl _) _) (fun b=>b=x.d ∨ b ∈ m :: ((q :: sb') ++ fb))) (fun _ _ h=>h)) HS.out.stp.mod⟩
end Go.Proofs.YtkjnockljapnbaaGreatDoor
