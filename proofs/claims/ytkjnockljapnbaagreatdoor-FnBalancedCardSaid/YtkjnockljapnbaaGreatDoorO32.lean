/- Part of the proof that laws.FnBalanced returns true for every argument (Sb, Sc). No condition of its own. -/
import Derived.Test.YtkjnockljapnbaaGreatDoorO18
import Derived.Test.YtkjnockljapnbaaGreatDoorO31
set_option linter.all false
set_option maxHeartbeats 8000000
set_option maxRecDepth 100000
namespace Go.Proofs.YtkjnockljapnbaaGreatDoor
open Go Go.RowKit
structure PushPost (x:Cx) (c:DC) (w:World) (v:DV) (k:Int) (fb:List Nat) (w':World) (q:Nat) (fb':List Nat):Prop where
  dec:∃ c',DecAt w' x.d c' v∧∃ nx dp,c'={ c with stk:=.pointer (some ⟨q,0,none⟩),free:=nx,depth:=dp }∧∃ fl,StkAt w' nx fl fb'
  blk:∃ sp loc ok,Blk w' q (skCells c.stk k sp loc ok) 88
  mod:Mod (fun b=>b=x.d ∨ b=q) w w'
  fbs:(fb=q :: fb') ∨ (fb=[]∧fb'=[]∧q=w.heap.size)
theorem StkAt.ptr {w:World} {p:Value} {l:List Ent} {bs:List Nat} (h:StkAt w p l bs):(p=.pointer none∧bs=[]∧l=[]) ∨ ∃ q e l' bs',p=.pointer (some ⟨q,0,none⟩)∧bs=q :: bs'∧l=e :: l':=by
  cases l with
  | nil=>
    cases bs with
    | nil=>exact Or.inl ⟨h,rfl,rfl⟩
    | cons b bs=>exact h.elim
  | cons e l=>
    cases bs with
    | nil=>exact h.elim
    | cons b bs=>exact Or.inr ⟨b,e,l,bs,h.1,rfl,rfl⟩
noncomputable def puCode (n:Nat):Code:=((Tryz.f51.body).bind (Code.partAt n)).getD .skip
noncomputable def poCode (n:Nat):Code:=((Tryz.f52.body).bind (Code.partAt n)).getD .skip
theorem pushTail (x:Cx) (c:DC) (w:World) (v:DV) (hd:DecAt w x.d c v) (k:Int) (hk:k=0 ∨ k=1) (q:Nat) (hqd:q ≠ x.d) (nx:Value) (k0:Int) (sp loc:Bs) (ok:Bool) (hq:Blk w q (skCells nx k0 sp loc ok) 88) (a:Option Addr) (hstk:c.stk=.pointer a) (Q:Exit → Act → World → Prop)
    (hQ:∀ f w' c',DecAt w' x.d c' v → (∃ dp,c'={ c with stk:=.pointer (some ⟨q,0,none⟩),depth:=dp }) → Blk w' q (skCells c.stk k sp loc ok) 88 → Mod (fun b=>b=x.d ∨ b=q) w w' → Q .ret (fr 45 f [(4,.pointer (some ⟨q,0,none⟩))]) w') (f:Nat → Value) :
    (puCode 5).wp Tryz.prog Q (fr 45 f [(0,decP x),(1,.int .i64 k),(5,.pointer (some ⟨q,0,none⟩))]) w:=by
  have hc:=hd.cell
  have hf:=hd.frozen
  have hcq:=hq.cell
  have hfq:=hq.frozen
  have hdq:x.d ≠ q:=fun e=>hqd e.symm
  have HD:=Lib.hid hd
  have HB:=Lib.hid hq
  have HQ:=Lib.hid hQ
  clear hd hq hQ
  obtain ⟨c1,c2,c3,c4,c5,c6,c7,c8,c9,c10,c11,c12,c13⟩:=c
  simp only at hstk
  subst hstk
  unfold puCode
  conv=>arg 2;whnf
  have hm:∀ (S:Nat → Prop),S x.d → S q → ∀ (u1 u2 u3:Value),Mod S w (((w.setCell ⟨q,0,none⟩ u1).setCell ⟨q,1,none⟩ u2).setCell ⟨x.d,11,none⟩ u3):=fun S h1 h2 u1 u2 u3=>
    (((Mod.refl S w).setCell (p:=⟨q,0,none⟩) (Or.inl h2) u1).setCell (p:=⟨q,1,none⟩) (Or.inl h2) u2).setCell (p:=⟨x.d,11,none⟩) (Or.inl h1) u3
  have HM:=Lib.hid hm
  clear hm
  rcases hk with rfl|rfl
  · (repeat (first|(with_reducible first|refine zA fun K hK=>?_|refine zB ?_|refine zC ?_)|((with_reducible first|refine zD rfl fun K hK=>?_|refine zE fun K hK=>?_);go_simp)|(with_reducible first|((repeat ((fail_if_success refine hK _ _ ?_);clear hK K));refine hK _ _ ?_;clear hK K)|refine zt ?_|refine zf ?_|refine zG ?_|refine zR ?_|refine zK ?_|refine zL ?_|refine zN ?_|refine zS ?_)|simp only [Exit.then,Exit.inBlock,Exit.noGoto,↓reduceIte,Nat.reduceEqDiff]|simp only [undef,reduceCtorEq,↓reduceIte]))
    refine Q_keep [4] (fun f=>?_);simp only [keep_cons,keep_nil,lk_cons,lk_nil,Nat.reduceEqDiff,↓reduceIte]
    refine HQ.out f _ _ ?_ ⟨IntKind.i64.wrap (c7 + 1),rfl⟩ ?_ ?_
    · exact ((((show Blk w x.d _ _ from HD.out).set_ne (a:=⟨q,0,none⟩) hdq (.pointer a)).set_ne (a:=⟨q,1,none⟩) hdq (.int .i64 0)).set 12 (.int .i64 (IntKind.i64.wrap (c7 + 1)))).set 11 (.pointer (some ⟨q,0,none⟩))
    · exact ((((show Blk w q _ _ from HB.out).set 0 (.pointer a)).set 1 (.int .i64 0)).set_ne (a:=⟨x.d,12,none⟩) hqd (.int .i64 (IntKind.i64.wrap (c7 + 1)))).set_ne (a:=⟨x.d,11,none⟩) hqd (.pointer (some ⟨q,0,none⟩))
    · exact ((((Mod.refl (fun b=>b=x.d ∨ b=q) w).setCell (p:=⟨q,0,none⟩) (Or.inl (Or.inr rfl)) _).setCell (p:=⟨q,1,none⟩) (Or.inl (Or.inr rfl)) _).setCell (p:=⟨x.d,12,none⟩) (Or.inl (Or.inl rfl)) _).setCell (p:=⟨x.d,11,none⟩) (Or.inl (Or.inl rfl)) _
  · (repeat (first|(with_reducible first|refine zA fun K hK=>?_|refine zB ?_|refine zC ?_)|((with_reducible first|refine zD rfl fun K hK=>?_|refine zE fun K hK=>?_);go_simp)|(with_reducible first|((repeat ((fail_if_success refine hK _ _ ?_);clear hK K));refine hK _ _ ?_;clear hK K)|refine zt ?_|refine zf ?_|refine zG ?_|refine zR ?_|refine zK ?_|refine zL ?_|refine zN ?_|refine zS ?_)|simp only [Exit.then,Exit.inBlock,Exit.noGoto,↓reduceIte,Nat.reduceEqDiff]|simp only [undef,reduceCtorEq,↓reduceIte]))
    refine Q_keep [4] (fun f=>?_);simp only [keep_cons,keep_nil,lk_cons,lk_nil,Nat.reduceEqDiff,↓reduceIte]
    refine HQ.out f _ _ ?_ ⟨c7,rfl⟩ ?_ ?_
    · exact (((show Blk w x.d _ _ from HD.out).set_ne (a:=⟨q,0,none⟩) hdq (.pointer a)).set_ne (a:=⟨q,1,none⟩) hdq (.int .i64 1)).set 11 (.pointer (some ⟨q,0,none⟩))
    · exact (((show Blk w q _ _ from HB.out).set 0 (.pointer a)).set 1 (.int .i64 1)).set_ne (a:=⟨x.d,11,none⟩) hqd (.pointer (some ⟨q,0,none⟩))
    · exact HM.out _ (Or.inl rfl) (Or.inr rfl) _ _ _
theorem push_c (x:Cx) (c:DC) (w:World) (v:DV) (hd:DecAt w x.d c v) (k:Int) (hk:k=0 ∨ k=1) (a:Option Addr) (hstk:c.stk=.pointer a) (fl:List Ent) (fb:List Nat) (hfree:StkAt w c.free fl fb) (hxd:∀ b ∈ fb,b ≠ x.d) (hnd:fb.Nodup) :
    Calls Tryz.prog 51 #[decP x,.int .i64 k] w fun en w'=>∃ q fb',en=.returned (.pointer (some ⟨q,0,none⟩))∧PushPost x c w v k fb w' q fb':=by
  have hc:=hd.cell
  have hf:=hd.frozen
  have HD:=Lib.hid hd
  have HK:=Lib.hid hk
  rcases hfree.ptr with ⟨h1,rfl,rfl⟩|⟨q,e,l',bs',h1,rfl,rfl⟩
  · have hdn:x.d ≠ w.heap.size:=by have:=Blk.lt hd;omega
    clear hfree hxd hnd hd hk
    obtain ⟨c1,c2,c3,c4,c5,c6,c7,c8,c9,c10,c11,c12,c13⟩:=c
    simp only at hstk h1
    subst hstk h1
    refine calls_fr (vs:=[_,_]) 45 Tryz.func51 rfl rfl (Nat.le_of_ble_eq_true rfl) fun f=>?_
    simp only [argSlots]
    (repeat ((fail_if_success with_reducible refine wp_stop 5 ?_);(fail_if_success with_reducible refine wp_stop2 5 ?_);(first|(with_reducible first|refine zA fun K hK=>?_|refine zB ?_|refine zC ?_)|((with_reducible first|refine zD rfl fun K hK=>?_|refine zE fun K hK=>?_);go_simp)|(with_reducible first|((repeat ((fail_if_success refine hK _ _ ?_);clear hK K));refine hK _ _ ?_;clear hK K)|refine zt ?_|refine zf ?_|refine zG ?_|refine zR ?_|refine zK ?_|refine zL ?_|refine zN ?_|refine zS ?_)|simp only [Exit.then,Exit.inBlock,Exit.noGoto,↓reduceIte,Nat.reduceEqDiff]|simp only [undef,reduceCtorEq,↓reduceIte])))
    (refine wp_keep [0,1,5] (fun f=>?_);simp only [keep_cons,keep_nil,lk_cons,lk_nil,Nat.reduceEqDiff,↓reduceIte])
    refine wp_code (pushTail x _ _ v ((show Blk w x.d _ _ from HD.out).alloc _) k HK.out w.heap.size (fun e=>hdn e.symm) _ _ [] [] _ (Blk.new w #[.pointer none,.int .i64 0,strV [],strV [],.bool false] 88) a rfl _ ?_ f) (by kernel_rfl)
    rintro f w' c' hd' ⟨dp,rfl⟩ hb' hm'
    (refine fr_out1 rfl (by decide) (by simp only [lk_cons,lk_nil,Nat.reduceEqDiff,↓reduceIte];rfl) ?_)
    refine ⟨w.heap.size,[],rfl,⟨_,hd',_,dp,rfl,[],rfl⟩,⟨[],[],false,hb'⟩,?_,Or.inr ⟨rfl,rfl,rfl⟩⟩
    exact (mod_none ((Below.refl _ w).alloc (Nat.le_refl _) _) _).trans hm' (fun i _ hi=>hi)
  · have hqd:q ≠ x.d:=hxd q (by simp)
    obtain ⟨hp,nx,ok,hb,hke,hrest⟩:=hfree
    obtain ⟨an,han⟩:∃ an,nx=.pointer an:=by
      rcases hrest.ptr with ⟨h,_⟩|⟨_,_,_,_,h,_⟩
      · exact ⟨_,h⟩
      · exact ⟨_,h⟩
    subst han
    have hcq:=hb.cell
    have hfq:=hb.frozen
    have hdq:x.d ≠ q:=fun e=>hqd e.symm
    have HB:=Lib.hid hb
    have HR:=Lib.hid hrest
    have HND:=Lib.hid (show ∀ b ∈ bs',b ≠ x.d∧b ≠ q from fun b hbb=>⟨hxd b (by simp [hbb]),fun e=>by
      rw [List.nodup_cons] at hnd
      exact hnd.1 (e ▸ hbb)⟩)
    clear hxd hnd hd hk hp hke hrest hb
    obtain ⟨c1,c2,c3,c4,c5,c6,c7,c8,c9,c10,c11,c12,c13⟩:=c
    simp only at hstk h1
    subst hstk h1
    refine calls_fr (vs:=[_,_]) 45 Tryz.func51 rfl rfl (Nat.le_of_ble_eq_true rfl) fun f=>?_
    simp only [argSlots]
    (repeat ((fail_if_success with_reducible refine wp_stop 5 ?_);(fail_if_success with_reducible refine wp_stop2 5 ?_);(first|(with_reducible first|refine zA fun K hK=>?_|refine zB ?_|refine zC ?_)|((with_reducible first|refine zD rfl fun K hK=>?_|refine zE fun K hK=>?_);go_simp)|(with_reducible first|((repeat ((fail_if_success refine hK _ _ ?_);clear hK K));refine hK _ _ ?_;clear hK K)|refine zt ?_|refine zf ?_|refine zG ?_|refine zR ?_|refine zK ?_|refine zL ?_|refine zN ?_|refine zS ?_)|simp only [Exit.then,Exit.inBlock,Exit.noGoto,↓reduceIte,Nat.reduceEqDiff]|simp only [undef,reduceCtorEq,↓reduceIte])))
    (refine wp_keep [0,1,5] (fun f=>?_);simp only [keep_cons,keep_nil,lk_cons,lk_nil,Nat.reduceEqDiff,↓reduceIte])
    have hd1:DecAt (w.setCell ⟨x.d,13,none⟩ (.pointer an)) x.d ⟨c1,c2,c3,c4,c5,.pointer a,c7,.pointer an,c9,c10,c11,c12,c13⟩ v:=(show Blk w x.d _ _ from HD.out).set 13 (.pointer an)
    have hb1:Blk (w.setCell ⟨x.d,13,none⟩ (.pointer an)) q _ _:=(show Blk w q _ _ from HB.out).set_ne (a:=⟨x.d,13,none⟩) hqd (.pointer an)
    refine wp_code (pushTail x _ _ v hd1 k HK.out q hqd _ _ _ _ _ hb1 a rfl _ ?_ f) (by kernel_rfl)
    rintro f w' c' hd' ⟨dp,rfl⟩ hb' hm'
    (refine fr_out1 rfl (by decide) (by simp only [lk_cons,lk_nil,Nat.reduceEqDiff,↓reduceIte];rfl) ?_)
    have hm0:Mod (fun b=>b=x.d ∨ b=q) w w':=((Mod.refl (fun b=>b=x.d ∨ b=q) w).setCell (p:=⟨x.d,13,none⟩) (Or.inl (Or.inl rfl)) (.pointer an)).trans hm' (fun _ _ h=>h)
    refine ⟨q,bs',rfl,⟨_,hd',.pointer an,dp,rfl,l',HR.out.mod hm0 (fun b hbb=>by
      rintro (h|h)
      · exact (HND.out b hbb).1 h
      · exact (HND.out b hbb).2 h)⟩,⟨_,_,_,hb'⟩,hm0,Or.inl rfl⟩
theorem pop_nil (x:Cx) (c:DC) (w:World) (v:DV) (hd:DecAt w x.d c v) (hstk:c.stk=.pointer none) :
    Calls Tryz.prog 52 #[decP x] w fun en w'=>en=.returned (.pointer none)∧w'=w:=by
  have hc:=hd.cell
  have hf:=hd.frozen
  clear hd
  refine calls_fr (vs:=[_]) 41 Tryz.func52 rfl rfl (Nat.le_of_ble_eq_true rfl) fun f=>?_
  simp only [argSlots]
  (repeat (first|(with_reducible first|refine zA fun K hK=>?_|refine zB ?_|refine zC ?_)|((with_reducible first|refine zD rfl fun K hK=>?_|refine zE fun K hK=>?_);go_simp)|(with_reducible first|((repeat ((fail_if_success refine hK _ _ ?_);clear hK K));refine hK _ _ ?_;clear hK K)|refine zt ?_|refine zf ?_|refine zG ?_|refine zR ?_|refine zK ?_|refine zL ?_|refine zN ?_|refine zS ?_)|simp only [Exit.then,Exit.inBlock,Exit.noGoto,↓reduceIte,Nat.reduceEqDiff]|simp only [undef,reduceCtorEq,↓reduceIte]))
  (refine fr_out1 rfl (by decide) (by simp only [lk_cons,lk_nil,Nat.reduceEqDiff,↓reduceIte];rfl) ?_)
  exact ⟨rfl,rfl⟩
structure PopPost (x:Cx) (c:DC) (w:World) (v:DV) (e:Ent) (stk':List Ent) (sb':List Nat) (fl:List Ent) (fb:List Nat) (w':World) (q:Nat):Prop where
  dec:∃ c',DecAt w' x.d c' v∧∃ nx dp,c'={ c with stk:=nx,free:=.pointer (some ⟨q,0,none⟩),depth:=dp }∧StkAt w' nx stk' sb'
  free:StkAt w' (.pointer (some ⟨q,0,none⟩)) (e :: fl) (q :: fb)
  mod:Mod (fun b=>b=x.d ∨ b=q) w w'
theorem popTail (x:Cx) (c:DC) (w:World) (v:DV) (hd:DecAt w x.d c v) (q:Nat) (hqd:q ≠ x.d) (an:Option Addr) (k0:Int) (sp loc:Bs) (ok:Bool) (hq:Blk w q (skCells (.pointer an) k0 sp loc ok) 88) (a:Option Addr) (hfr:c.free=.pointer a) (Q:Exit → Act → World → Prop)
    (hQ:∀ f w',DecAt w' x.d { c with stk:=.pointer an,free:=.pointer (some ⟨q,0,none⟩) } v → Blk w' q (skCells (.pointer a) k0 sp loc ok) 88 → Mod (fun b=>b=x.d ∨ b=q) w w' → Q .normal (fr 41 f [(3,.pointer (some ⟨q,0,none⟩))]) w') (f:Nat → Value) :
    (poCode 5).wp Tryz.prog Q (fr 41 f [(0,decP x),(3,.pointer (some ⟨q,0,none⟩))]) w:=by
  have hc:=hd.cell
  have hf:=hd.frozen
  have hcq:=hq.cell
  have hfq:=hq.frozen
  have hdq:x.d ≠ q:=fun e=>hqd e.symm
  have HD:=Lib.hid hd
  have HB:=Lib.hid hq
  have HQ:=Lib.hid hQ
  clear hd hq hQ
  obtain ⟨c1,c2,c3,c4,c5,c6,c7,c8,c9,c10,c11,c12,c13⟩:=c
  simp only at hfr
  subst hfr
  unfold poCode
  conv=>arg 2;whnf
  (repeat (first|(with_reducible first|refine zA fun K hK=>?_|refine zB ?_|refine zC ?_)|((with_reducible first|refine zD rfl fun K hK=>?_|refine zE fun K hK=>?_);go_simp)|(with_reducible first|((repeat ((fail_if_success refine hK _ _ ?_);clear hK K));refine hK _ _ ?_;clear hK K)|refine zt ?_|refine zf ?_|refine zG ?_|refine zR ?_|refine zK ?_|refine zL ?_|refine zN ?_|refine zS ?_)|simp only [Exit.then,Exit.inBlock,Exit.noGoto,↓reduceIte,Nat.reduceEqDiff]|simp only [undef,reduceCtorEq,↓reduceIte]))
  refine Q_keep [3] (fun f=>?_);simp only [keep_cons,keep_nil,lk_cons,lk_nil,Nat.reduceEqDiff,↓reduceIte]
  refine HQ.out f _ ?_ ?_ ?_
  · exact (((show Blk w x.d _ _ from HD.out).set 11 (.pointer an)).set_ne (a:=⟨q,0,none⟩) hdq (.pointer a)).set 13 (.pointer (some ⟨q,0,none⟩))
  · exact (((show Blk w q _ _ from HB.out).set_ne (a:=⟨x.d,11,none⟩) hqd (.pointer an)).set 0 (.pointer a)).set_ne (a:=⟨x.d,13,none⟩) hqd (.pointer (some ⟨q,0,none⟩))
  · exact (((Mod.refl (fun b=>b=x.d ∨ b=q) w).setCell (p:=⟨x.d,11,none⟩) (Or.inl (Or.inl rfl)) _).setCell (p:=⟨q,0,none⟩) (Or.inl (Or.inr rfl)) _).setCell (p:=⟨x.d,13,none⟩) (Or.inl (Or.inl rfl)) _
theorem pop_c (x:Cx) (c:DC) (w:World) (v:DV) (hd:DecAt w x.d c v) (q:Nat) (e:Ent) (he:e.kind=0 ∨ e.kind=1) (stk':List Ent) (sb':List Nat) (hstk:StkAt w c.stk (e :: stk') (q :: sb')) (fl:List Ent) (fb:List Nat) (hfree:StkAt w c.free fl fb)
    (hxd:∀ b ∈ (q :: sb') ++ fb,b ≠ x.d) (hnd:((q :: sb') ++ fb).Nodup) :
    Calls Tryz.prog 52 #[decP x] w fun en w'=>en=.returned (.pointer (some ⟨q,0,none⟩))∧PopPost x c w v e stk' sb' fl fb w' q:=by
  have hc:=hd.cell
  have hf:=hd.frozen
  have HD:=Lib.hid hd
  have hqd:q ≠ x.d:=hxd q (by simp)
  have hdq:x.d ≠ q:=fun e=>hqd e.symm
  obtain ⟨hp,nx,ok,hb,hke,hrest⟩:=hstk
  obtain ⟨an,han⟩:∃ an,nx=.pointer an:=by
    rcases hrest.ptr with ⟨h,_⟩|⟨_,_,_,_,h,_⟩
    · exact ⟨_,h⟩
    · exact ⟨_,h⟩
  subst han
  obtain ⟨fa,hfa⟩:∃ fa,c.free=.pointer fa:=by
    rcases hfree.ptr with ⟨h,_⟩|⟨_,_,_,_,h,_⟩
    · exact ⟨_,h⟩
    · exact ⟨_,h⟩
  have hcq:=hb.cell
  have hfq:=hb.frozen
  have HB:=Lib.hid hb
  have HR:=Lib.hid hrest
  have HFREE:=Lib.hid hfree
  have HKE:=Lib.hid hke
  have HND:=Lib.hid (show ∀ b,b ∈ sb' ∨ b ∈ fb → ¬ (b=x.d ∨ b=q) from fun b hbb hh=>by
    rw [List.cons_append,List.nodup_cons] at hnd
    rcases hh with hh|hh
    · exact hxd b (by rcases hbb with h|h <;> simp [h]) hh
    · subst hh;exact hnd.1 (by rcases hbb with h|h <;> simp [h]))
  clear hxd hnd hd hke hrest hb hfree
  obtain ⟨c1,c2,c3,c4,c5,c6,c7,c8,c9,c10,c11,c12,c13⟩:=c
  simp only at hp hfa
  subst hp hfa
  obtain ⟨ek,esp,eloc,eok⟩:=e
  simp only at he
  have hfin:∀ dp w',DecAt w' x.d ⟨c1,c2,c3,c4,c5,.pointer an,dp,.pointer (some ⟨q,0,none⟩),c9,c10,c11,c12,c13⟩ v → Blk w' q (skCells (.pointer fa) (ek:Int) esp eloc ok) 88 → Mod (fun b=>b=x.d ∨ b=q) w w' →
      PopPost x ⟨c1,c2,c3,c4,c5,.pointer (some ⟨q,0,none⟩),c7,.pointer fa,c9,c10,c11,c12,c13⟩ w v ⟨ek,esp,eloc,eok⟩ stk' sb' fl fb w' q:=fun dp w' h1 h2 h3=>
    ⟨⟨_,h1,.pointer an,dp,rfl,HR.out.mod h3 (fun b hb=>HND.out b (Or.inl hb))⟩,⟨rfl,.pointer fa,ok,h2,HKE.out,HFREE.out.mod h3 (fun b hb=>HND.out b (Or.inr hb))⟩,h3⟩
  have HF:=Lib.hid hfin
  clear hfin
  rcases he with rfl|rfl
  · refine calls_fr (vs:=[_]) 41 Tryz.func52 rfl rfl (Nat.le_of_ble_eq_true rfl) fun f=>?_
    simp only [argSlots]
    (repeat ((fail_if_success with_reducible refine wp_stop 5 ?_);(fail_if_success with_reducible refine wp_stop2 5 ?_);(first|(with_reducible first|refine zA fun K hK=>?_|refine zB ?_|refine zC ?_)|((with_reducible first|refine zD rfl fun K hK=>?_|refine zE fun K hK=>?_);go_simp)|(with_reducible first|((repeat ((fail_if_success refine hK _ _ ?_);clear hK K));refine hK _ _ ?_;clear hK K)|refine zt ?_|refine zf ?_|refine zG ?_|refine zR ?_|refine zK ?_|refine zL ?_|refine zN ?_|refine zS ?_)|simp only [Exit.then,Exit.inBlock,Exit.noGoto,↓reduceIte,Nat.reduceEqDiff]|simp only [undef,reduceCtorEq,↓reduceIte])))
    (refine wp_keep [0,3] (fun f=>?_);simp only [keep_cons,keep_nil,lk_cons,lk_nil,Nat.reduceEqDiff,↓reduceIte])
    have hd1:DecAt (w.setCell ⟨x.d,12,none⟩ (.int .i64 (IntKind.i64.wrap (c7 - 1)))) x.d ⟨c1,c2,c3,c4,c5,.pointer (some ⟨q,0,none⟩),IntKind.i64.wrap (c7 - 1),.pointer fa,c9,c10,c11,c12,c13⟩ v:=(show Blk w x.d _ _ from HD.out).set 12 (.int .i64 (IntKind.i64.wrap (c7 - 1)))
    have hb1:Blk (w.setCell ⟨x.d,12,none⟩ (.int .i64 (IntKind.i64.wrap (c7 - 1)))) q _ _:=(show Blk w q _ _ from HB.out).set_ne (a:=⟨x.d,12,none⟩) hqd (.int .i64 (IntKind.i64.wrap (c7 - 1)))
    refine wp_code (popTail x _ _ v hd1 q hqd _ _ _ _ _ hb1 fa rfl _ ?_ f) (by kernel_rfl)
    intro f w' h1 h2 h3
    have H1:=Lib.hid h1
    have H2:=Lib.hid h2
    have H3:=Lib.hid (((Mod.refl (fun b=>b=x.d ∨ b=q) w).setCell (p:=⟨x.d,12,none⟩) (Or.inl (Or.inl rfl)) (.int .i64 (IntKind.i64.wrap (c7 - 1)))).trans h3 (fun _ _ h=>h))
    clear h1 h2 h3 hd1 hb1 hc hf hcq hfq
    (repeat (first|(with_reducible first|refine zA fun K hK=>?_|refine zB ?_|refine zC ?_)|((with_reducible first|refine zD rfl fun K hK=>?_|refine zE fun K hK=>?_);go_simp)|(with_reducible first|((repeat ((fail_if_success refine hK _ _ ?_);clear hK K));refine hK _ _ ?_;clear hK K)|refine zt ?_|refine zf ?_|refine zG ?_|refine zR ?_|refine zK ?_|refine zL ?_|refine zN ?_|refine zS ?_)|simp only [Exit.then,Exit.inBlock,Exit.noGoto,↓reduceIte,Nat.reduceEqDiff]|simp only [undef,reduceCtorEq,↓reduceIte]))
    (refine fr_out1 rfl (by decide) (by simp only [lk_cons,lk_nil,Nat.reduceEqDiff,↓reduceIte];rfl) ?_)
    exact ⟨rfl,HF.out _ _ H1.out H2.out H3.out⟩
  · refine calls_fr (vs:=[_]) 41 Tryz.func52 rfl rfl (Nat.le_of_ble_eq_true rfl) fun f=>?_
    simp only [argSlots]
    (repeat ((fail_if_success with_reducible refine wp_stop 5 ?_);(fail_if_success with_reducible refine wp_stop2 5 ?_);(first|(with_reducible first|refine zA fun K hK=>?_|refine zB ?_|refine zC ?_)|((with_reducible first|refine zD rfl fun K hK=>?_|refine zE fun K hK=>?_);go_simp)|(with_reducible first|((repeat ((fail_if_success refine hK _ _ ?_);clear hK K));refine hK _ _ ?_;clear hK K)|refine zt ?_|refine zf ?_|refine zG ?_|refine zR ?_|refine zK ?_|refine zL ?_|refine zN ?_|refine zS ?_)|simp only [Exit.then,Exit.inBlock,Exit.noGoto,↓reduceIte,Nat.reduceEqDiff]|simp only [undef,reduceCtorEq,↓reduceIte])))
    (refine wp_keep [0,3] (fun f=>?_);simp only [keep_cons,keep_nil,lk_cons,lk_nil,Nat.reduceEqDiff,↓reduceIte])
    refine wp_code (popTail x _ _ v HD.out q hqd _ _ _ _ _ HB.out fa rfl _ ?_ f) (by kernel_rfl)
    intro f w' h1 h2 h3
    have H1:=Lib.hid h1
    have H2:=Lib.hid h2
    have H3:=Lib.hid h3
    clear h1 h2 h3 hc hf hcq hfq
    (repeat (first|(with_reducible first|refine zA fun K hK=>?_|refine zB ?_|refine zC ?_)|((with_reducible first|refine zD rfl fun K hK=>?_|refine zE fun K hK=>?_);go_simp)|(with_reducible first|((repeat ((fail_if_success refine hK _ _ ?_);clear hK K));refine hK _ _ ?_;clear hK K)|refine zt ?_|refine zf ?_|refine zG ?_|refine zR ?_|refine zK ?_|refine zL ?_|refine zN ?_|refine zS ?_)|simp only [Exit.then,Exit.inBlock,Exit.noGoto,↓reduceIte,Nat.reduceEqDiff]|simp only [undef,reduceCtorEq,↓reduceIte]))
    (refine fr_out1 rfl (by decide) (by simp only [lk_cons,lk_nil,Nat.reduceEqDiff,↓reduceIte];rfl) ?_)
    exact ⟨rfl,HF.out _ _ H1.out H2.out H3.out⟩
end Go.Proofs.YtkjnockljapnbaaGreatDoor
namespace Go.Proofs.YtkjnockljapnbaaGreatDoor
open Go Go.RowKit
structure OwnStep (x:Cx) (c:DC) (w:World) (v:DV) (m:Nat) (sb fb:List Nat) (c':DC) (w':World) (sb' fb':List Nat):Prop where
  dec:DecAt w' x.d c' v
  cs:∃ p q dp,c'={ c with stk:=p,free:=q,depth:=dp }
  mod:Mod (fun b=>b=x.d ∨ b ∈ m :: (sb ++ fb)) w w'
  sub:∀ b ∈ m :: (sb' ++ fb'),b ∈ m :: (sb ++ fb) ∨ w.heap.size ≤ b
theorem OwnStep.trans {x:Cx} {c c1 c2:DC} {w w1 w2:World} {v:DV} {m:Nat} {sb fb sb1 fb1 sb2 fb2:List Nat} (h:OwnStep x c w v m sb fb c1 w1 sb1 fb1) (k:OwnStep x c1 w1 v m sb1 fb1 c2 w2 sb2 fb2):OwnStep x c w v m sb fb c2 w2 sb2 fb2:=by
  obtain ⟨p,q,dp,rfl⟩:=h.cs
  obtain ⟨p2,q2,dp2,rfl⟩:=k.cs
  refine ⟨k.dec,⟨p2,q2,dp2,rfl⟩,h.mod.trans k.mod (fun i hi hs=>?_),fun b hb=>?_⟩
  · rcases hs with hs|hs
    · exact Or.inl hs
    · rcases h.sub i hs with h2|h2
      · exact Or.inr h2
      · omega
  · rcases k.sub b hb with h2|h2
    · exact h.sub b h2
    · exact Or.inr (Nat.le_trans h.mod.size h2)
theorem StkAt.isPtr {w:World} {p:Value} {l:List Ent} {bs:List Nat} (h:StkAt w p l bs):∃ a,p=.pointer a:=by
  rcases h.ptr with ⟨h,_⟩|⟨_,_,_,_,h,_⟩
  · exact ⟨_,h⟩
  · exact ⟨_,h⟩
theorem Own.pushed {x:Cx} (hx:x.Ok) {w w1 w':World} {c:DC} {v:DV} {m:Nat} {sb fb:List Nat} {n:Nat} {stk:List Ent} {ns:Bs → Option Bs} (h:Own x w c v m sb fb n stk ns) (hs1:∀ k,x.S1 v k → k < w.heap.size) (hB:x.B ≤ w.heap.size) {k:Int} {q:Nat} {fb':List Nat} (hp:PushPost x c w v k fb w1 q fb')
    (hm:Mod (fun b=>b=q) w1 w') (e:Ent) (ok:Bool) (hok:e.kind=1 → ok=e.ok) (hb:Blk w' q (skCells c.stk e.kind e.space e.loc ok) 88) :
    ∃ c',OwnStep x c w v m sb fb c' w' (q :: sb) fb'∧Own x w' c' v m (q :: sb) fb' n (e :: stk) ns:=by
  obtain ⟨c',hd,⟨nx,dp,rfl,fl,hfl⟩⟩:=hp.dec
  have hnd:=h.nodup
  have hxd:∀ b ∈ m :: (sb ++ fb),b ≠ x.d:=fun b hb he=>h.s1 b hb (Or.inl (Or.inl he))
  have hqn:q ∉ m :: sb∧q ∉ fb'∧q ≠ x.d∧x.B ≤ q∧¬ x.S1 v q∧(q ∈ fb ∨ w.heap.size ≤ q)∧(∀ b ∈ fb',b ∈ fb):=by
    rcases hp.fbs with rfl|⟨rfl,rfl,rfl⟩
    · have hnd2:(m :: (sb ++ q :: fb')).Nodup:=hnd
      have hq1:q ∈ m :: (sb ++ q :: fb'):=by simp
      refine ⟨?_,?_,hxd q hq1,h.base q hq1,h.s1 q hq1,Or.inl (by simp),fun b hb=>by simp [hb]⟩
      · intro hh
        have h3:(m :: sb ++ q :: fb').Nodup:=hnd2
        exact (List.nodup_append.1 h3).2.2 q hh q (by simp) rfl
      · intro hh
        have h3:(m :: sb ++ q :: fb').Nodup:=hnd2
        exact (List.nodup_cons.1 (List.nodup_append.1 h3).2.1).1 hh
    · refine ⟨fun hh=>?_,by simp,?_,hB,fun hh=>Nat.lt_irrefl _ (hs1 _ hh),Or.inr (Nat.le_refl _),by simp⟩
      · have:=h.lt w.heap.size (by simp at hh ⊢;exact hh)
        omega
      · intro he
        have:=hs1 x.d (Or.inl (Or.inl rfl));omega
  obtain ⟨q1,q2,q3,q4,q5,q6,q7⟩:=hqn
  have hmw:Mod (fun b=>b=x.d ∨ b=q) w w':=hp.mod.trans hm (fun i _ hi=>Or.inr hi)
  have hns:∀ b ∈ m :: (sb ++ fb'),¬ (b=x.d ∨ b=q):=by
    intro b hbm hh
    have hbm2:b=m ∨ b ∈ sb ∨ b ∈ fb':=by simpa using hbm
    have hb2:b ∈ m :: (sb ++ fb):=by
      rcases hbm2 with h|h|h
      · simp [h]
      · simp [h]
      · simp [q7 b h]
    rcases hh with hh|hh
    · exact hxd b hb2 hh
    · rw [hh] at hbm2
      rcases hbm2 with h|h|h
      · exact q1 (by simp [h])
      · exact q1 (by simp [h])
      · exact q2 h
  refine ⟨_,⟨Blk.mod hd hm (fun he=>q3 he.symm),⟨_,_,_,rfl⟩,?_,?_⟩,⟨⟨rfl,c.stk,ok,hb,hok,h.stk.mod hmw (fun b hb=>hns b (by simp [hb]))⟩,⟨fl,hfl.mod hm (fun b hb he=>q2 (he ▸ hb))⟩,h.map,h.ns.mod hmw (hns m (by simp)),?_,?_,?_⟩⟩
  · refine ⟨hmw.os,hmw.tape,hmw.output,hmw.size,fun i hi hn=>hmw.block i hi (fun hh=>hn ?_)⟩
    rcases hh with hh|hh
    · exact Or.inl hh
    · subst hh
      rcases q6 with h6|h6
      · exact Or.inr (by simp [h6])
      · omega
  · intro b hb
    simp only [List.mem_cons,List.mem_append,List.cons_append] at hb
    rcases hb with h9|h9|h9|h9
    · exact Or.inl (by simp [h9])
    · subst h9
      rcases q6 with h6|h6
      · exact Or.inl (by simp [h6])
      · exact Or.inr h6
    · exact Or.inl (by simp [h9])
    · exact Or.inl (by simp [q7 b h9])
  · have h3:(m :: sb ++ fb).Nodup:=hnd
    have h4:=List.nodup_append.1 h3
    have hmsb:=List.nodup_cons.1 h4.1
    have hfb':fb'.Nodup:=by
      rcases hp.fbs with rfl|⟨rfl,rfl,rfl⟩
      · exact (List.nodup_cons.1 h4.2.1).2
      · simp
    rw [List.nodup_cons]
    refine ⟨?_,?_⟩
    · intro hh
      simp only [List.cons_append,List.mem_cons,List.mem_append] at hh
      rcases hh with h9|h9|h9
      · exact q1 (by simp [h9])
      · exact hmsb.1 h9
      · exact h4.2.2 m (by simp) m (q7 m h9) rfl
    · rw [List.cons_append,List.nodup_cons]
      refine ⟨?_,?_⟩
      · intro hh
        rcases List.mem_append.1 hh with h9|h9
        · exact q1 (by simp [h9])
        · exact q2 h9
      · rw [List.nodup_append]
        exact ⟨hmsb.2,hfb',fun a ha b hb=>h4.2.2 a (by simp [ha]) b (q7 b hb)⟩
  · intro b hb
    simp only [List.mem_cons,List.mem_append,List.cons_append] at hb
    rcases hb with h9|h9|h9|h9
    · exact h.base b (by simp [h9])
    · subst h9;exact q4
    · exact h.base b (by simp [h9])
    · exact h.base b (by simp [q7 b h9])
  · intro b hb
    simp only [List.mem_cons,List.mem_append,List.cons_append] at hb
    rcases hb with h9|h9|h9|h9
    · exact h.s1 b (by simp [h9])
    · subst h9;exact q5
    · exact h.s1 b (by simp [h9])
    · exact h.s1 b (by simp [q7 b h9])
theorem Own.freeNd {x:Cx} {w:World} {c:DC} {v:DV} {m:Nat} {sb fb:List Nat} {n:Nat} {stk:List Ent} {ns:Bs → Option Bs} (h:Own x w c v m sb fb n stk ns):fb.Nodup∧∀ b ∈ fb,b ≠ x.d:=by
  have h3:(m :: sb ++ fb).Nodup:=h.nodup
  exact ⟨(List.nodup_append.1 h3).2.1,fun b hb he=>h.s1 b (by simp [hb]) (Or.inl (Or.inl he))⟩
theorem pushNs_c (x:Cx) (hx:x.Ok) (c:DC) (w:World) (v:DV) (hd:DecAt w x.d c v) (hs1:∀ k,x.S1 v k → k < w.heap.size) (hB:x.B ≤ w.heap.size) (m:Nat) (sb fb:List Nat) (n:Nat) (stk:List Ent) (ns:Bs → Option Bs) (h:Own x w c v m sb fb n stk ns) (loc url:Bs) (ok:Bool) :
    Calls Tryz.prog 26 #[decP x,strV loc,strV url,.bool ok] w fun en w'=>en=.returned (.tuple #[])∧∃ c' sb' fb',OwnStep x c w v m sb fb c' w' sb' fb'∧Own x w' c' v m sb' fb' n ({ kind:=1,space:=url,loc:=loc,ok:=ok } :: stk) ns:=by
  obtain ⟨fl,hfl⟩:=h.free
  obtain ⟨a,ha⟩:=h.stk.isPtr
  have hpu:=Lib.hid (push_c x c w v hd 1 (Or.inr rfl) a ha fl fb hfl h.freeNd.2 h.freeNd.1)
  have H:=Lib.hid h
  have HX:=Lib.hid hx
  have HS1:=Lib.hid hs1
  have HB:=Lib.hid hB
  clear h hx hd hs1 hB hfl ha
  refine calls_fr (vs:=[_,_,_,_]) 25 Tryz.func26 rfl rfl (Nat.le_of_ble_eq_true rfl) fun f=>?_
  simp only [argSlots]
  (repeat (first|(with_reducible first|refine zA fun K hK=>?_|refine zB ?_|refine zC ?_)|((with_reducible first|refine zD rfl fun K hK=>?_|refine zE fun K hK=>?_);go_simp)|(with_reducible first|((repeat ((fail_if_success refine hK _ _ ?_);clear hK K));refine hK _ _ ?_;clear hK K)|refine zt ?_|refine zf ?_|refine zG ?_|refine zR ?_|refine zK ?_|refine zL ?_|refine zN ?_|refine zS ?_)|simp only [Exit.then,Exit.inBlock,Exit.noGoto,↓reduceIte,Nat.reduceEqDiff]|simp only [undef,reduceCtorEq,↓reduceIte]))
  refine hpu.out.mono ?_
  rintro e1 w1 ⟨q,fb',rfl,hp⟩
  obtain ⟨sp0,loc0,ok0,hb⟩:=hp.blk
  have hcq:=hb.cell
  have hfq:=hb.frozen
  have HBQ:=Lib.hid hb
  have HP:=Lib.hid hp
  clear hb hp hpu
  go_simp
  (repeat (first|(with_reducible first|refine zA fun K hK=>?_|refine zB ?_|refine zC ?_)|((with_reducible first|refine zD rfl fun K hK=>?_|refine zE fun K hK=>?_);go_simp)|(with_reducible first|((repeat ((fail_if_success refine hK _ _ ?_);clear hK K));refine hK _ _ ?_;clear hK K)|refine zt ?_|refine zf ?_|refine zG ?_|refine zR ?_|refine zK ?_|refine zL ?_|refine zN ?_|refine zS ?_)|simp only [Exit.then,Exit.inBlock,Exit.noGoto,↓reduceIte,Nat.reduceEqDiff]|simp only [undef,reduceCtorEq,↓reduceIte]))
  refine fr_normal ?_
  (refine fr_ret0 rfl ?_)
  have hm:Mod (fun b=>b=q) w1 (((w1.setCell ⟨q,3,none⟩ (strV loc)).setCell ⟨q,2,none⟩ (strV url)).setCell ⟨q,4,none⟩ (.bool ok)):=(((Mod.refl (fun b=>b=q) w1).setCell (p:=⟨q,3,none⟩) (Or.inl rfl) _).setCell (p:=⟨q,2,none⟩) (Or.inl rfl) _).setCell (p:=⟨q,4,none⟩) (Or.inl rfl) _
  obtain ⟨c',h1,h2⟩:=H.out.pushed HX.out HS1.out HB.out HP.out hm { kind:=1,space:=url,loc:=loc,ok:=ok } ok (fun _=>rfl) (((HBQ.out.set 3 (strV loc)).set 2 (strV url)).set 4 (.bool ok))
  exact ⟨rfl,c',_,_,h1,h2⟩
theorem pushElement_c (x:Cx) (hx:x.Ok) (c:DC) (w:World) (v:DV) (hd:DecAt w x.d c v) (hs1:∀ k,x.S1 v k → k < w.heap.size) (hB:x.B ≤ w.heap.size) (m:Nat) (sb fb:List Nat) (n:Nat) (stk:List Ent) (ns:Bs → Option Bs) (h:Own x w c v m sb fb n stk ns) (nm:Bs × Bs) :
    Calls Tryz.prog 27 #[decP x,.agg #[strV nm.1,strV nm.2]] w fun en w'=>en=.returned (.tuple #[])∧∃ c' sb' fb',OwnStep x c w v m sb fb c' w' sb' fb'∧Own x w' c' v m sb' fb' n ({ kind:=0,space:=nm.1,loc:=nm.2,ok:=false } :: stk) ns:=by
  have hal:Mod (fun _=>False) w (w.alloc (.cells #[strV nm.1,strV nm.2] 82)):=mod_none ((Below.refl _ w).alloc (Nat.le_refl _) _) _
  have hd1:DecAt (w.alloc (.cells #[strV nm.1,strV nm.2] 82)) x.d c v:=(show Blk w x.d _ _ from hd).alloc _
  have h1:Own x (w.alloc (.cells #[strV nm.1,strV nm.2] 82)) c v m sb fb n stk ns:=h.mod hal (fun _ _=>id) h.s1
  obtain ⟨fl,hfl⟩:=h1.free
  obtain ⟨a,ha⟩:=h1.stk.isPtr
  have hpu:=Lib.hid (push_c x c _ v hd1 0 (Or.inl rfl) a ha fl fb hfl h1.freeNd.2 h1.freeNd.1)
  have hnb:=Blk.new w #[strV nm.1,strV nm.2] 82
  have HNB:=Lib.hid hnb
  have H:=Lib.hid h1
  have H0:=Lib.hid h
  have HX:=Lib.hid hx
  have HS1:=Lib.hid hs1
  have HB:=Lib.hid hB
  have HAL:=Lib.hid hal
  clear h h1 hx hd hd1 hs1 hB hfl ha hnb hal
  refine calls_fr (vs:=[_,_]) 11 Tryz.func27 rfl rfl (Nat.le_of_ble_eq_true rfl) fun f=>?_
  simp only [argSlots]
  (repeat (first|(with_reducible first|refine zA fun K hK=>?_|refine zB ?_|refine zC ?_)|((with_reducible first|refine zD rfl fun K hK=>?_|refine zE fun K hK=>?_);go_simp)|(with_reducible first|((repeat ((fail_if_success refine hK _ _ ?_);clear hK K));refine hK _ _ ?_;clear hK K)|refine zt ?_|refine zf ?_|refine zG ?_|refine zR ?_|refine zK ?_|refine zL ?_|refine zN ?_|refine zS ?_)|simp only [Exit.then,Exit.inBlock,Exit.noGoto,↓reduceIte,Nat.reduceEqDiff]|simp only [undef,reduceCtorEq,↓reduceIte]))
  refine hpu.out.mono ?_
  rintro e1 w1 ⟨q,fb',rfl,hp⟩
  obtain ⟨sp0,loc0,ok0,hb⟩:=hp.blk
  have hcq:=hb.cell
  have hfq:=hb.frozen
  have HBQ:=Lib.hid hb
  have HP:=Lib.hid hp
  have hnq:w.heap.size ≠ x.d∧w.heap.size ≠ q:=by
    refine ⟨fun e=>?_,fun e=>?_⟩
    · have:=HS1.out x.d (Or.inl (Or.inl rfl));omega
    · rcases hp.fbs with h9|⟨_,_,h9⟩
      · have:=H0.out.lt q (by rw [h9];simp);omega
      · simp at h9;omega
  have hnb1:=HNB.out.mod hp.mod (fun hh=>by rcases hh with hh|hh;exact hnq.1 hh;exact hnq.2 hh)
  have hcn:=hnb1.cell
  have hfn:=hnb1.frozen
  clear hb hp hpu hnb1
  go_simp
  (repeat (first|(with_reducible first|refine zA fun K hK=>?_|refine zB ?_|refine zC ?_)|((with_reducible first|refine zD rfl fun K hK=>?_|refine zE fun K hK=>?_);go_simp)|(with_reducible first|((repeat ((fail_if_success refine hK _ _ ?_);clear hK K));refine hK _ _ ?_;clear hK K)|refine zt ?_|refine zf ?_|refine zG ?_|refine zR ?_|refine zK ?_|refine zL ?_|refine zN ?_|refine zS ?_)|simp only [Exit.then,Exit.inBlock,Exit.noGoto,↓reduceIte,Nat.reduceEqDiff]|simp only [undef,reduceCtorEq,↓reduceIte]))
  refine fr_normal ?_
  (refine fr_ret0 rfl ?_)
  have hm:Mod (fun b=>b=q) w1 ((w1.setCell ⟨q,2,none⟩ (strV nm.1)).setCell ⟨q,3,none⟩ (strV nm.2)):=((Mod.refl (fun b=>b=q) w1).setCell (p:=⟨q,2,none⟩) (Or.inl rfl) _).setCell (p:=⟨q,3,none⟩) (Or.inl rfl) _
  obtain ⟨c',h1,h2⟩:=H.out.pushed HX.out (fun k hk=>Nat.lt_of_lt_of_le (HS1.out k hk) HAL.out.size) (Nat.le_trans HB.out HAL.out.size) HP.out hm { kind:=0,space:=nm.1,loc:=nm.2,ok:=false } ok0 (fun h=>by cases h) ((HBQ.out.set 2 (strV nm.1)).set 3 (strV nm.2))
  refine ⟨rfl,c',_,_,⟨h1.dec,h1.cs,(HAL.out.mono (fun _ _ h=>h.elim)).trans h1.mod (fun _ _ h=>h),fun b hb=>?_⟩,h2⟩
  rcases h1.sub b hb with h9|h9
  · exact Or.inl h9
  · exact Or.inr (Nat.le_trans HAL.out.size h9)
end Go.Proofs.YtkjnockljapnbaaGreatDoor
