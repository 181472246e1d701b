/- Part of the proof that laws.FnBeginning, laws.FnPlaces returns true for every argument (Sm, Cf). No condition of its own. -/
import Derived.Test.YtkjnockljapnbaaGreatDoorK42
import Derived.Test.YtkjnockljapnbaaGreatDoorK44
set_option linter.all false
set_option maxHeartbeats 8000000
set_option maxRecDepth 100000
namespace Go.Proofs.YtkjnockljapnbaaGreatDoor
open Go Go.RowKit
theorem err_eql {x:Cx} (hx:x.Ok) (heb:∃ cs t,Blk x.W0 x.eofA.block cs t) {k:EK} {e:Value} {w:World} (hb:Below x.B x.W0 w) (he:ErrV x e (some k)) (ho:OthAt w e k) :
    (binOp .eql 55 e x.eofV).run Tryz.prog w=.ok (.bool (decide (k=.eof))) w:=by
  cases k with
  | eof=>rw [show e=x.eofV from he];exact eql_eof _ w
  | own=>rw [show e=ownV from he];exact eql_own _ _ w
  | syn=>obtain ⟨a,he⟩:=he;rw [he];exact eql_syn _ _ w
  | other=>
    obtain ⟨a,h1,h2⟩:=he
    obtain ⟨a',cs,t,h3,h4⟩:=ho rfl
    rw [h1] at h3
    simp only [Value.iface.injEq,Value.pointer.injEq,Option.some.injEq,true_and] at h3
    subst h3
    obtain ⟨cs2,t2,h5⟩:=heb
    have h6:Blk w x.eofA.block cs2 t2:=by
      unfold Blk at h5 ⊢
      rw [← h5];exact hb.block _ hx.eofL
    rw [h1]
    have q1:=errComparable
    have q2:=errElem
    cases hi:Tryz.prog.info? 177 with
    | none=>rw [hi] at q1;cases q1
    | some i=>
      cases hj:Tryz.prog.info? 179 with
      | none=>rw [hj] at q2;cases q2
      | some j=>
        rw [hi] at q1
        rw [hj] at q2
        have hne:a ≠ x.eofA:=fun e=>by rw [e] at h2;have:=hx.eofL;omega
        refine run_eql_iface_ptr_other w Tryz.underlying55 Tryz.underlying177 hi (by simpa using q1) hj ?_ hne h4 h6
        have:j.size=1:=by simpa using q2
        omega
theorem DataAt.slice {w:World} {bv s:Value} {d:Bs} (h:DataAt w bv s d):∃ a l c,s=.slice (some a) l c:=by
  obtain ⟨g,cap,n,h,_⟩:=h.ex
  exact ⟨_,_,_,h⟩
theorem TokAt.blk {w:World} {bv:Value} {B:Nat} {tv:Value} {tk:RTok} (h:TokAt w bv B tv tk) {g:Nat} (hg:tokBlk tv g):B ≤ g:=by
  cases tk with
  | start nm ats=>
    obtain ⟨sv,rfl,hne,h1,h2⟩:=h
    rcases h2 with ⟨rfl,h2⟩|⟨g',cap,cur,rfl,h3,_⟩
    · exact absurd rfl hne
    · have:g=g':=hg
      omega
  | fin nm=>rw [show tv=enV nm from h] at hg;exact hg.elim
  | text d=>obtain ⟨sv,rfl,hd⟩:=h;obtain ⟨_,_,_,rfl⟩:=hd.slice;exact hg.elim
  | comment d=>obtain ⟨sv,rfl,hd⟩:=h;obtain ⟨_,_,_,rfl⟩:=hd.slice;exact hg.elim
  | dir d=>obtain ⟨sv,rfl,hd⟩:=h;obtain ⟨_,_,_,rfl⟩:=hd.slice;exact hg.elim
  | proc tg d=>obtain ⟨sv,rfl,hd⟩:=h;exact hg.elim
theorem TokAt.iface {w:World} {bv:Value} {B:Nat} {tv:Value} {tk:RTok} (h:TokAt w bv B tv tk):∃ ty u,tv=.iface ty u:=by
  cases tk with
  | start nm ats=>obtain ⟨sv,rfl,_⟩:=h;exact ⟨_,_,rfl⟩
  | fin nm=>exact ⟨_,_,h⟩
  | text d=>obtain ⟨sv,rfl,_⟩:=h;exact ⟨_,_,rfl⟩
  | comment d=>obtain ⟨sv,rfl,_⟩:=h;exact ⟨_,_,rfl⟩
  | dir d=>obtain ⟨sv,rfl,_⟩:=h;exact ⟨_,_,rfl⟩
  | proc tg d=>obtain ⟨sv,rfl,_⟩:=h;exact ⟨_,_,rfl⟩
theorem Own.same {x:Cx} {w:World} {c c':DC} {v:DV} {m:Nat} {sb fb:List Nat} {n:Nat} {stk:List Ent} {ns:Bs → Option Bs} (h:Own x w c v m sb fb n stk ns) (hc:SameC c c'):Own x w c' v m sb fb n stk ns:=by
  obtain ⟨_,_,_,rfl⟩:=hc
  exact ⟨h.stk,h.free,h.map,h.ns,h.nodup,h.base,h.s1⟩
theorem TS.raw {x:Cx} (hx:x.All) {c:DC} {w:World} {v:DV} {s:St} {m:Nat} {sb fb:List Nat} {n:Nat} (h:TS x c w v s m sb fb n) {tk:RTok} {s1:St} (hr:rawL x.o s=.ok (tk,s1)) {c1:DC} {w1:World} {v1:DV} (hs:Stp x w v w1 v1) (hc:SameC c c1) (hrd:RdTS x c1 w1 v1 s1) {t:Value} (ht:TokAt w1 v1.bufv w.heap.size t tk)
    (hnt:(∀ d,tk ≠ .text d) → s1.ended=false∧∃ b,RdS x c1 w1 v1 s1.rest none b):RawSt x c1 w1 v1 s1 m sb fb n w.heap.size t tk:=by
  obtain ⟨e0,b0,hR,_,_⟩:=h.rd.rd
  have hlen:s.rest.length ≤ x.T.length:=hR.suf.length_le
  obtain ⟨k1,k2,k3,k4,k5,k6,k7⟩:=rawL_ok hr
  obtain ⟨l1,l2⟩:=rawL_le h.cfg.no.ents hr hlen h.tcl
  refine ⟨h.cfg.same hc.toD,hrd,?_,by rw [k2];exact h.sok,by rw [k3];exact h.nok,l2,l1,?_,ht,hR.base.size,hs.mod.size,h.own.lt,hR.s0lt,hnt⟩
  · rw [k2,k3];exact (h.own.step hs).same hc
  · have h9:=h.bnd
    rw [k2]
    rcases k7 with ⟨nm,_,rfl,rfl⟩|⟨_,h8,_⟩
    · simp only;omega
    · cases tk with
      | start nm ats=>simp only [RTok.wt] at h8;simp only;omega
      | _=>simp only [RTok.wt] at h8;simp only;omega
theorem token_c (x:Cx) (hx:x.All) (haf:AfTab x.W0) (hafB:3 < x.B) (heb:∃ cs t,Blk x.W0 x.eofA.block cs t) (c:DC) (w:World) (v:DV) (s:St) (m:Nat) (sb fb:List Nat) (n:Nat) (h:TS x c w v s m sb fb n) :
    Calls Tryz.prog 17 #[decP x] w fun en w'=>∃ t e,en=.returned (.tuple #[t,e])∧TkPost x w v (tok0 x.o s) m sb fb t e w':=by
  obtain ⟨e0,b0,hR,_,_⟩:=h.rd.rd
  have hraw:=Lib.hid (rawTok_c x hx haf hafB c h.cfg.dc h.cfg.no w v s h.rd)
  have hc:=hR.dec.cell
  have hf:=hR.dec.frozen
  have hnx:=h.cfg.next
  have q1:=fun w=>ptrNil w
  have q2:=fun w=>anyNil w
  have q3:=fun w=>anyNilE w
  have hgB:=hx.gB
  have heof:x.W0.cell? ⟨0,0,none⟩=some x.eofV:=hx.eof
  have HX:=Lib.hid hx
  have HEB:=Lib.hid heb
  have HEOF:=Lib.hid (show ∀ w',Below x.B x.W0 w' → w'.cell? ⟨0,0,none⟩=some x.eofV from fun w' hb=>by rw [← heof];exact hb.cell hgB)
  have HR:=Lib.hid hR
  have H:=Lib.hid h
  have hhead:=h.own.stk.head h.sok
  clear h hR hx heb haf hafB heof hgB
  have HOK:Hid (∀ (tk:RTok) (s1:St) (c1:DC) (w1:World) (v1:DV) (t:Value),rawL x.o s=.ok (tk,s1) → Stp x w v w1 v1 → SameC c c1 → RdTS x c1 w1 v1 s1 → TokAt w1 v1.bufv w.heap.size t tk → ((∀ d,tk ≠ .text d) → s1.ended=false∧∃ b,RdS x c1 w1 v1 s1.rest none b) →
      ∀ f,(tkCode 14).wp Tryz.prog (bodyPost Tryz.prog Tryz.f17 (fun en w'=>∃ t e,en=.returned (.tuple #[t,e])∧TkPost x w v (tok0 x.o s) m sb fb t e w')) (fr 204 f [(0,decP x),(4,t),(5,.nilIface)]) w1):=Lib.hid (by
    intro tk s1 c1 w1 v1 t hr hs hsc hrd ht hnt f
    have hst:=H.out.raw HX.out hr hs hsc hrd ht hnt
    obtain ⟨e1,b1,hR1,_,_⟩:=hrd.rd
    have hQ:∀ f w' t' e,WkPost x w1 v1 (workL x.o tk s1) m sb fb w.heap.size t t' e w' → bodyPost Tryz.prog Tryz.f17 (fun en w'=>∃ t e,en=.returned (.tuple #[t,e])∧TkPost x w v (tok0 x.o s) m sb fb t e w') .ret (fr 204 f [(2,t'),(3,e)]) w':=by
      intro f w' t' e hp
      refine fr_out2 rfl (by decide) (by decide) (by simp only [keep_cons,keep_nil,lk_cons,lk_nil,Nat.reduceEqDiff,↓reduceIte]) (by simp only [keep_cons,keep_nil,lk_cons,lk_nil,Nat.reduceEqDiff,↓reduceIte]) ⟨t',e,rfl,?_⟩
      have ht0:tok0 x.o s=workL x.o tk s1:=by unfold tok0;rw [hr]
      rw [ht0]
      unfold TkPost
      unfold WkPost at hp
      cases hw:workL x.o tk s1 with
      | error k=>
        rw [hw] at hp
        obtain ⟨p1,p2,p3,p4,p5⟩:=hp
        exact ⟨p1,p2,p3,p4,(hs.mod.mono (fun _ _ hk=>Or.inl hk)).trans p5 (fun i hi hk=>by
          rcases hk with hk|hk
          · rcases hk with hk|hk
            · exact Or.inl (Or.inl hk)
            · rcases hs.buf i hk with h9|h9
              · exact Or.inl (Or.inr h9)
              · omega
          · exact Or.inr hk)⟩
      | ok p=>
        obtain ⟨tk2,s2⟩:=p
        rw [hw] at hp
        obtain ⟨he,c2,v2,sb2,fb2,n2,g1,g2,g3,g4,g5,g6⟩:=hp
        refine ⟨he,c2,v2,sb2,fb2,n2,g1,g2,?_,fun b hb=>?_,fun b hb=>?_,g6⟩
        · refine (hs.mod.mono (fun _ _ hk=>Or.inl hk)).trans g3 (fun i hi hk=>?_)
          rcases hk with hk|hk|hk
          · exact Or.inl (Or.inl (Or.inl hk))
          · exact Or.inr hk
          · have:=ht.blk hk;omega
        · rcases g4 b hb with h9|h9
          · exact Or.inl h9
          · exact Or.inr (Nat.le_trans hs.mod.size h9)
        · rcases hb with hb|hb
          · exact Or.inl (Or.inl hb)
          · rw [g5] at hb
            rcases hs.buf b hb with h9|h9
            · exact Or.inl (Or.inr h9)
            · exact Or.inr h9
    refine tk14 x c1 hst.cfg.auto w1 v1 hR1.dec hst.own.stk hst.sok t _ (fun f=>?_) f
    cases tk with
    | start nm ats=>exact tkStart x HX.out c1 w1 v1 s1 m sb fb n w.heap.size t nm ats hst _ hQ f
    | fin nm=>exact tkFin x HX.out c1 w1 v1 s1 m sb fb n w.heap.size t nm hst _ hQ f
    | text d=>exact tkPlain x c1 w1 v1 s1 m sb fb n w.heap.size t _ hst (by simp) (by simp) _ hQ f
    | comment d=>exact tkPlain x c1 w1 v1 s1 m sb fb n w.heap.size t _ hst (by simp) (by simp) _ hQ f
    | dir d=>exact tkPlain x c1 w1 v1 s1 m sb fb n w.heap.size t _ hst (by simp) (by simp) _ hQ f
    | proc tg d=>exact tkPlain x c1 w1 v1 s1 m sb fb n w.heap.size t _ hst (by simp) (by simp) _ hQ f)
  rcases hhead with ⟨hs1,hs2⟩|⟨q,en,l',nx,ok,hs1,hs2,hk,hb,hqm⟩
  · refine calls_fr (vs:=[_]) 204 Tryz.func17 rfl rfl (Nat.le_of_ble_eq_true rfl) fun f=>?_
    simp only [argSlots]
    (repeat (first|(with_reducible first|refine zA fun K hK=>?_|refine zB ?_|refine zC ?_)|((with_reducible first|refine zD rfl fun K hK=>?_|refine zE fun K hK=>?_);go_simp)|(with_reducible first|((repeat ((fail_if_success refine hK _ _ ?_);clear hK K));refine hK _ _ ?_;clear hK K)|refine zT (by go_simp;first|done|omega) ?_|refine zF (by go_simp;first|done|omega) ?_|refine zG ?_|refine zR ?_|refine zK ?_|refine zL ?_|refine zN ?_|refine zS ?_)|simp only [Exit.then,Exit.inBlock,Exit.noGoto,↓reduceIte,Nat.reduceEqDiff]|simp only [undef,reduceCtorEq,↓reduceIte]))
    refine hraw.out.mono ?_
    rintro e1 w1 ⟨t,e,rfl,hp⟩
    clear hraw hc hf hnx
    cases hres:rawL x.o s with
    | error k=>
      unfold RawTokPost at hp
      rw [hres] at hp
      obtain ⟨v1,hs,rfl,rfl,hE,hO⟩:=hp
      obtain ⟨t1,u1,hu1⟩:=hE.err.iface
      have hq:=err_eql HX.out.toOk HEB.out hE.base hE.err hO
      have hev:=HEOF.out w1 hE.base
      rw [hu1] at hq ⊢
      have HU:=Lib.hid hu1
      have HSTP:=Lib.hid hs
      have hc1:=hE.dec.cell
      have hf1:=hE.dec.frozen
      have HE:=Lib.hid hE
      have HO:=Lib.hid hO
      have HT0:=Lib.hid (show tok0 x.o s=.error (if k=.eof∧s.stk ≠ [] then .syn else k) by unfold tok0;rw [hres])
      clear HOK hs hE hu1 hO hres
      by_cases hke:k=.eof
      · rw [decide_eq_true hke] at hq
        have HKE:=Lib.hid hke
        clear hke
        go_simp
        (repeat (first|(with_reducible first|refine zA fun K hK=>?_|refine zB ?_|refine zC ?_)|((with_reducible first|refine zD rfl fun K hK=>?_|refine zE fun K hK=>?_);go_simp)|(with_reducible first|((repeat ((fail_if_success refine hK _ _ ?_);clear hK K));refine hK _ _ ?_;clear hK K)|refine zT (by go_simp;first|done|omega) ?_|refine zF (by go_simp;first|done|omega) ?_|refine zG ?_|refine zR ?_|refine zK ?_|refine zL ?_|refine zN ?_|refine zS ?_)|simp only [Exit.then,Exit.inBlock,Exit.noGoto,↓reduceIte,Nat.reduceEqDiff]|simp only [undef,reduceCtorEq,↓reduceIte]))
        (refine fr_out2 rfl (by decide) (by decide) (by simp only [lk_cons,lk_nil,Nat.reduceEqDiff,↓reduceIte];rfl) (by simp only [lk_cons,lk_nil,Nat.reduceEqDiff,↓reduceIte];rfl) ?_)
        refine ⟨_,_,rfl,?_⟩
        rw [HT0.out,if_neg (fun hh=>hh.2 hs2)]
        exact ⟨rfl,by rw [← HU.out];exact HE.out.err,HE.out.base,by rw [← HU.out];exact HO.out,HSTP.out.mod.mono (fun _ _ hk=>Or.inl hk)⟩
      · rw [decide_eq_false hke] at hq
        have HKE:=Lib.hid hke
        clear hke
        go_simp
        (repeat (first|(with_reducible first|refine zA fun K hK=>?_|refine zB ?_|refine zC ?_)|((with_reducible first|refine zD rfl fun K hK=>?_|refine zE fun K hK=>?_);go_simp)|(with_reducible first|((repeat ((fail_if_success refine hK _ _ ?_);clear hK K));refine hK _ _ ?_;clear hK K)|refine zT (by go_simp;first|done|omega) ?_|refine zF (by go_simp;first|done|omega) ?_|refine zG ?_|refine zR ?_|refine zK ?_|refine zL ?_|refine zN ?_|refine zS ?_)|simp only [Exit.then,Exit.inBlock,Exit.noGoto,↓reduceIte,Nat.reduceEqDiff]|simp only [undef,reduceCtorEq,↓reduceIte]))
        (refine fr_out2 rfl (by decide) (by decide) (by simp only [lk_cons,lk_nil,Nat.reduceEqDiff,↓reduceIte];rfl) (by simp only [lk_cons,lk_nil,Nat.reduceEqDiff,↓reduceIte];rfl) ?_)
        refine ⟨_,_,rfl,?_⟩
        rw [HT0.out,if_neg (fun hh=>HKE.out hh.1)]
        exact ⟨rfl,by rw [← HU.out];exact HE.out.err,HE.out.base,by rw [← HU.out];exact HO.out,HSTP.out.mod.mono (fun _ _ hk=>Or.inl hk)⟩
    | ok p=>
      obtain ⟨tk,s1⟩:=p
      unfold RawTokPost at hp
      rw [hres] at hp
      obtain ⟨v1,c1,hs,rfl,hsc,hrd,ht,hnt⟩:=hp
      have HGO:=Lib.hid (HOK.out tk s1 c1 w1 v1 t hres hs hsc hrd ht hnt)
      obtain ⟨ty,u,rfl⟩:=ht.iface
      clear HOK hs hsc hrd ht hnt hres
      go_simp
      (repeat ((fail_if_success with_reducible refine wp_stop 14 ?_);(fail_if_success with_reducible refine wp_stop2 14 ?_);(first|(with_reducible first|refine zA fun K hK=>?_|refine zB ?_|refine zC ?_)|((with_reducible first|refine zD rfl fun K hK=>?_|refine zE fun K hK=>?_);go_simp)|(with_reducible first|((repeat ((fail_if_success refine hK _ _ ?_);clear hK K));refine hK _ _ ?_;clear hK K)|refine zT (by go_simp;first|done|omega) ?_|refine zF (by go_simp;first|done|omega) ?_|refine zG ?_|refine zR ?_|refine zK ?_|refine zL ?_|refine zN ?_|refine zS ?_)|simp only [Exit.then,Exit.inBlock,Exit.noGoto,↓reduceIte,Nat.reduceEqDiff]|simp only [undef,reduceCtorEq,↓reduceIte])))
      (refine wp_keep [0,4,5] (fun f=>?_);simp only [keep_cons,keep_nil,lk_cons,lk_nil,Nat.reduceEqDiff,↓reduceIte])
      exact wp_code (HGO.out f) (by kernel_rfl)
  · have hcq:=hb.cell
    have hfq:=hb.frozen
    have HB:=Lib.hid hb
    have HQS:=Lib.hid (H.out.own.s1 q (by simp [hqm]))
    have HS2:=Lib.hid hs2
    obtain ⟨ek,esp,eloc,eok⟩:=en
    simp only at hk hcq
    clear hb hqm hs2
    rcases hk with rfl|rfl
    · refine calls_fr (vs:=[_]) 204 Tryz.func17 rfl rfl (Nat.le_of_ble_eq_true rfl) fun f=>?_
      simp only [argSlots]
      (repeat (first|(with_reducible first|refine zA fun K hK=>?_|refine zB ?_|refine zC ?_)|((with_reducible first|refine zD rfl fun K hK=>?_|refine zE fun K hK=>?_);go_simp)|(with_reducible first|((repeat ((fail_if_success refine hK _ _ ?_);clear hK K));refine hK _ _ ?_;clear hK K)|refine zT (by go_simp;first|done|omega) ?_|refine zF (by go_simp;first|done|omega) ?_|refine zG ?_|refine zR ?_|refine zK ?_|refine zL ?_|refine zN ?_|refine zS ?_)|simp only [Exit.then,Exit.inBlock,Exit.noGoto,↓reduceIte,Nat.reduceEqDiff]|simp only [undef,reduceCtorEq,↓reduceIte]))
      refine hraw.out.mono ?_
      rintro e1 w1 ⟨t,e,rfl,hp⟩
      clear hraw hc hf hnx
      cases hres:rawL x.o s with
      | error k=>
        unfold RawTokPost at hp
        rw [hres] at hp
        obtain ⟨v1,hs,rfl,rfl,hE,hO⟩:=hp
        obtain ⟨t1,u1,hu1⟩:=hE.err.iface
        have hq:=err_eql HX.out.toOk HEB.out hE.base hE.err hO
        have hev:=HEOF.out w1 hE.base
        rw [hu1] at hq ⊢
        have HU:=Lib.hid hu1
        have HSTP:=Lib.hid hs
        have hc1:=hE.dec.cell
        have hf1:=hE.dec.frozen
        have HE:=Lib.hid hE
        have HO:=Lib.hid hO
        have HT0:=Lib.hid (show tok0 x.o s=.error (if k=.eof∧s.stk ≠ [] then .syn else k) by unfold tok0;rw [hres])
        have hb1:=(show Blk w q _ _ from HB.out).mod hs.mod HQS.out
        have hcq:=hb1.cell
        have hfq:=hb1.frozen
        clear hb1
        clear HOK hs hE hu1 hO hres
        by_cases hke:k=.eof
        · rw [decide_eq_true hke] at hq
          have HKE:=Lib.hid hke
          clear hke
          have hse:=Lib.hid (fun msg=>synErr x.d c v1 w1 HE.out.dec msg)
          go_simp
          (repeat (first|(with_reducible first|refine zA fun K hK=>?_|refine zB ?_|refine zC ?_)|((with_reducible first|refine zD rfl fun K hK=>?_|refine zE fun K hK=>?_);go_simp)|(with_reducible first|((repeat ((fail_if_success refine hK _ _ ?_);clear hK K));refine hK _ _ ?_;clear hK K)|refine zT (by go_simp;first|done|omega) ?_|refine zF (by go_simp;first|done|omega) ?_|refine zG ?_|refine zR ?_|refine zK ?_|refine zL ?_|refine zN ?_|refine zS ?_)|simp only [Exit.then,Exit.inBlock,Exit.noGoto,↓reduceIte,Nat.reduceEqDiff]|simp only [undef,reduceCtorEq,↓reduceIte]))
          refine (hse.out _).mono ?_
          rintro e2 w2 ⟨rfl,rfl⟩
          go_simp
          (repeat (first|(with_reducible first|refine zA fun K hK=>?_|refine zB ?_|refine zC ?_)|((with_reducible first|refine zD rfl fun K hK=>?_|refine zE fun K hK=>?_);go_simp)|(with_reducible first|((repeat ((fail_if_success refine hK _ _ ?_);clear hK K));refine hK _ _ ?_;clear hK K)|refine zT (by go_simp;first|done|omega) ?_|refine zF (by go_simp;first|done|omega) ?_|refine zG ?_|refine zR ?_|refine zK ?_|refine zL ?_|refine zN ?_|refine zS ?_)|simp only [Exit.then,Exit.inBlock,Exit.noGoto,↓reduceIte,Nat.reduceEqDiff]|simp only [undef,reduceCtorEq,↓reduceIte]))
          (refine fr_out2 rfl (by decide) (by decide) (by simp only [lk_cons,lk_nil,Nat.reduceEqDiff,↓reduceIte];rfl) (by simp only [lk_cons,lk_nil,Nat.reduceEqDiff,↓reduceIte];rfl) ?_)
          refine ⟨_,_,rfl,?_⟩
          rw [HT0.out,if_pos ⟨HKE.out,by rw [HS2.out];simp⟩]
          exact ⟨rfl,⟨_,rfl⟩,Mod.below HE.out.base HE.out.base.size (mod_none ((Below.refl _ w1).alloc (Nat.le_refl _) _) (fun _=>False)) (fun _ h=>h.elim),OthAt.no (by decide),(HSTP.out.mod.mono (fun _ _ hk=>Or.inl hk)).trans (mod_none ((Below.refl _ w1).alloc (Nat.le_refl _) _) (fun _=>False)) (fun _ _ h=>h.elim)⟩
        · rw [decide_eq_false hke] at hq
          have HKE:=Lib.hid hke
          clear hke
          go_simp
          (repeat (first|(with_reducible first|refine zA fun K hK=>?_|refine zB ?_|refine zC ?_)|((with_reducible first|refine zD rfl fun K hK=>?_|refine zE fun K hK=>?_);go_simp)|(with_reducible first|((repeat ((fail_if_success refine hK _ _ ?_);clear hK K));refine hK _ _ ?_;clear hK K)|refine zT (by go_simp;first|done|omega) ?_|refine zF (by go_simp;first|done|omega) ?_|refine zG ?_|refine zR ?_|refine zK ?_|refine zL ?_|refine zN ?_|refine zS ?_)|simp only [Exit.then,Exit.inBlock,Exit.noGoto,↓reduceIte,Nat.reduceEqDiff]|simp only [undef,reduceCtorEq,↓reduceIte]))
          (refine fr_out2 rfl (by decide) (by decide) (by simp only [lk_cons,lk_nil,Nat.reduceEqDiff,↓reduceIte];rfl) (by simp only [lk_cons,lk_nil,Nat.reduceEqDiff,↓reduceIte];rfl) ?_)
          refine ⟨_,_,rfl,?_⟩
          rw [HT0.out,if_neg (fun hh=>HKE.out hh.1)]
          exact ⟨rfl,by rw [← HU.out];exact HE.out.err,HE.out.base,by rw [← HU.out];exact HO.out,HSTP.out.mod.mono (fun _ _ hk=>Or.inl hk)⟩
      | ok p=>
        obtain ⟨tk,s1⟩:=p
        unfold RawTokPost at hp
        rw [hres] at hp
        obtain ⟨v1,c1,hs,rfl,hsc,hrd,ht,hnt⟩:=hp
        have HGO:=Lib.hid (HOK.out tk s1 c1 w1 v1 t hres hs hsc hrd ht hnt)
        obtain ⟨ty,u,rfl⟩:=ht.iface
        clear HOK hs hsc hrd ht hnt hres
        go_simp
        (repeat ((fail_if_success with_reducible refine wp_stop 14 ?_);(fail_if_success with_reducible refine wp_stop2 14 ?_);(first|(with_reducible first|refine zA fun K hK=>?_|refine zB ?_|refine zC ?_)|((with_reducible first|refine zD rfl fun K hK=>?_|refine zE fun K hK=>?_);go_simp)|(with_reducible first|((repeat ((fail_if_success refine hK _ _ ?_);clear hK K));refine hK _ _ ?_;clear hK K)|refine zT (by go_simp;first|done|omega) ?_|refine zF (by go_simp;first|done|omega) ?_|refine zG ?_|refine zR ?_|refine zK ?_|refine zL ?_|refine zN ?_|refine zS ?_)|simp only [Exit.then,Exit.inBlock,Exit.noGoto,↓reduceIte,Nat.reduceEqDiff]|simp only [undef,reduceCtorEq,↓reduceIte])))
        (refine wp_keep [0,4,5] (fun f=>?_);simp only [keep_cons,keep_nil,lk_cons,lk_nil,Nat.reduceEqDiff,↓reduceIte])
        exact wp_code (HGO.out f) (by kernel_rfl)
    · refine calls_fr (vs:=[_]) 204 Tryz.func17 rfl rfl (Nat.le_of_ble_eq_true rfl) fun f=>?_
      simp only [argSlots]
      (repeat (first|(with_reducible first|refine zA fun K hK=>?_|refine zB ?_|refine zC ?_)|((with_reducible first|refine zD rfl fun K hK=>?_|refine zE fun K hK=>?_);go_simp)|(with_reducible first|((repeat ((fail_if_success refine hK _ _ ?_);clear hK K));refine hK _ _ ?_;clear hK K)|refine zT (by go_simp;first|done|omega) ?_|refine zF (by go_simp;first|done|omega) ?_|refine zG ?_|refine zR ?_|refine zK ?_|refine zL ?_|refine zN ?_|refine zS ?_)|simp only [Exit.then,Exit.inBlock,Exit.noGoto,↓reduceIte,Nat.reduceEqDiff]|simp only [undef,reduceCtorEq,↓reduceIte]))
      refine hraw.out.mono ?_
      rintro e1 w1 ⟨t,e,rfl,hp⟩
      clear hraw hc hf hnx
      cases hres:rawL x.o s with
      | error k=>
        unfold RawTokPost at hp
        rw [hres] at hp
        obtain ⟨v1,hs,rfl,rfl,hE,hO⟩:=hp
        obtain ⟨t1,u1,hu1⟩:=hE.err.iface
        have hq:=err_eql HX.out.toOk HEB.out hE.base hE.err hO
        have hev:=HEOF.out w1 hE.base
        rw [hu1] at hq ⊢
        have HU:=Lib.hid hu1
        have HSTP:=Lib.hid hs
        have hc1:=hE.dec.cell
        have hf1:=hE.dec.frozen
        have HE:=Lib.hid hE
        have HO:=Lib.hid hO
        have HT0:=Lib.hid (show tok0 x.o s=.error (if k=.eof∧s.stk ≠ [] then .syn else k) by unfold tok0;rw [hres])
        have hb1:=(show Blk w q _ _ from HB.out).mod hs.mod HQS.out
        have hcq:=hb1.cell
        have hfq:=hb1.frozen
        clear hb1
        clear HOK hs hE hu1 hO hres
        by_cases hke:k=.eof
        · rw [decide_eq_true hke] at hq
          have HKE:=Lib.hid hke
          clear hke
          have hse:=Lib.hid (fun msg=>synErr x.d c v1 w1 HE.out.dec msg)
          go_simp
          (repeat (first|(with_reducible first|refine zA fun K hK=>?_|refine zB ?_|refine zC ?_)|((with_reducible first|refine zD rfl fun K hK=>?_|refine zE fun K hK=>?_);go_simp)|(with_reducible first|((repeat ((fail_if_success refine hK _ _ ?_);clear hK K));refine hK _ _ ?_;clear hK K)|refine zT (by go_simp;first|done|omega) ?_|refine zF (by go_simp;first|done|omega) ?_|refine zG ?_|refine zR ?_|refine zK ?_|refine zL ?_|refine zN ?_|refine zS ?_)|simp only [Exit.then,Exit.inBlock,Exit.noGoto,↓reduceIte,Nat.reduceEqDiff]|simp only [undef,reduceCtorEq,↓reduceIte]))
          refine (hse.out _).mono ?_
          rintro e2 w2 ⟨rfl,rfl⟩
          go_simp
          (repeat (first|(with_reducible first|refine zA fun K hK=>?_|refine zB ?_|refine zC ?_)|((with_reducible first|refine zD rfl fun K hK=>?_|refine zE fun K hK=>?_);go_simp)|(with_reducible first|((repeat ((fail_if_success refine hK _ _ ?_);clear hK K));refine hK _ _ ?_;clear hK K)|refine zT (by go_simp;first|done|omega) ?_|refine zF (by go_simp;first|done|omega) ?_|refine zG ?_|refine zR ?_|refine zK ?_|refine zL ?_|refine zN ?_|refine zS ?_)|simp only [Exit.then,Exit.inBlock,Exit.noGoto,↓reduceIte,Nat.reduceEqDiff]|simp only [undef,reduceCtorEq,↓reduceIte]))
          (refine fr_out2 rfl (by decide) (by decide) (by simp only [lk_cons,lk_nil,Nat.reduceEqDiff,↓reduceIte];rfl) (by simp only [lk_cons,lk_nil,Nat.reduceEqDiff,↓reduceIte];rfl) ?_)
          refine ⟨_,_,rfl,?_⟩
          rw [HT0.out,if_pos ⟨HKE.out,by rw [HS2.out];simp⟩]
          exact ⟨rfl,⟨_,rfl⟩,Mod.below HE.out.base HE.out.base.size (mod_none ((Below.refl _ w1).alloc (Nat.le_refl _) _) (fun _=>False)) (fun _ h=>h.elim),OthAt.no (by decide),(HSTP.out.mod.mono (fun _ _ hk=>Or.inl hk)).trans (mod_none ((Below.refl _ w1).alloc (Nat.le_refl _) _) (fun _=>False)) (fun _ _ h=>h.elim)⟩
        · rw [decide_eq_false hke] at hq
          have HKE:=Lib.hid hke
          clear hke
          go_simp
          (repeat (first|(with_reducible first|refine zA fun K hK=>?_|refine zB ?_|refine zC ?_)|((with_reducible first|refine zD rfl fun K hK=>?_|refine zE fun K hK=>?_);go_simp)|(with_reducible first|((repeat ((fail_if_success refine hK _ _ ?_);clear hK K));refine hK _ _ ?_;clear hK K)|refine zT (by go_simp;first|done|omega) ?_|refine zF (by go_simp;first|done|omega) ?_|refine zG ?_|refine zR ?_|refine zK ?_|refine zL ?_|refine zN ?_|refine zS ?_)|simp only [Exit.then,Exit.inBlock,Exit.noGoto,↓reduceIte,Nat.reduceEqDiff]|simp only [undef,reduceCtorEq,↓reduceIte]))
          (refine fr_out2 rfl (by decide) (by decide) (by simp only [lk_cons,lk_nil,Nat.reduceEqDiff,↓reduceIte];rfl) (by simp only [lk_cons,lk_nil,Nat.reduceEqDiff,↓reduceIte];rfl) ?_)
          refine ⟨_,_,rfl,?_⟩
          rw [HT0.out,if_neg (fun hh=>HKE.out hh.1)]
          exact ⟨rfl,by rw [← HU.out];exact HE.out.err,HE.out.base,by rw [← HU.out];exact HO.out,HSTP.out.mod.mono (fun _ _ hk=>Or.inl hk)⟩
      | ok p=>
        obtain ⟨tk,s1⟩:=p
        unfold RawTokPost at hp
        rw [hres] at hp
        obtain ⟨v1,c1,hs,rfl,hsc,hrd,ht,hnt⟩:=hp
        have HGO:=Lib.hid (HOK.out tk s1 c1 w1 v1 t hres hs hsc hrd ht hnt)
        obtain ⟨ty,u,rfl⟩:=ht.iface
        clear HOK hs hsc hrd ht hnt hres
        go_simp
        (repeat ((fail_if_success with_reducible refine wp_stop 14 ?_);(fail_if_success with_reducible refine wp_stop2 14 ?_);(first|(with_reducible first|refine zA fun K hK=>?_|refine zB ?_|refine zC ?_)|((with_reducible first|refine zD rfl fun K hK=>?_|refine zE fun K hK=>?_);go_simp)|(with_reducible first|((repeat ((fail_if_success refine hK _ _ ?_);clear hK K));refine hK _ _ ?_;clear hK K)|refine zT (by go_simp;first|done|omega) ?_|refine zF (by go_simp;first|done|omega) ?_|refine zG ?_|refine zR ?_|refine zK ?_|refine zL ?_|refine zN ?_|refine zS ?_)|simp only [Exit.then,Exit.inBlock,Exit.noGoto,↓reduceIte,Nat.reduceEqDiff]|simp only [undef,reduceCtorEq,↓reduceIte])))
        (refine wp_keep [0,4,5] (fun f=>?_);simp only [keep_cons,keep_nil,lk_cons,lk_nil,Nat.reduceEqDiff,↓reduceIte])
        exact wp_code (HGO.out f) (by kernel_rfl)
end Go.Proofs.YtkjnockljapnbaaGreatDoor
namespace Go.Proofs.YtkjnockljapnbaaGreatDoor
open Go Go.RowKit
theorem code_c (x:Cx) (hx:x.Ok) (heb:∃ cs t,Blk x.W0 x.eofA.block cs t) (hg:x.W0.cell? ⟨1,0,none⟩=some (rtI 55)) (hgl:1 < x.B) {k:EK} {e:Value} {w:World} (hb:Below x.B x.W0 w) (he:ErrV x e (some k)) (ho:OthAt w e k) :
    Calls Tryz.prog 18 #[e] w fun en w'=>en=.returned (.int .i64 (EK.code k))∧Below w.heap.size w w':=by
  obtain ⟨wa,hwa⟩:∃ wa,wa=w.alloc (.cells #[.pointer none] 106):=⟨_,rfl⟩
  have hba:Below w.heap.size w wa:=by rw [hwa];exact (Below.refl _ w).alloc (Nat.le_refl _) _
  have hB:x.B ≤ w.heap.size:=hb.size
  have hb2:Below x.B x.W0 wa:=hb.trans (hba.mono hB)
  have ho2:OthAt wa e k:=fun hk=>by
    obtain ⟨a,cs,t,h1,h2⟩:=ho hk
    exact ⟨a,cs,t,h1,Blk.mod (S:=fun _=>False) h2 (mod_none hba _) id⟩
  have hq:=err_eql hx heb hb2 he ho2
  have heof:wa.cell? ⟨0,0,none⟩=some x.eofV:=by rw [← hx.eof];exact hb2.cell hx.gB
  have hnb:Blk wa w.heap.size #[.pointer none] 106:=by rw [hwa];exact Blk.new w _ _
  have HG:=Lib.hid (show wa.cell? ⟨1,0,none⟩=some (rtI 55) from by rw [hb2.cell (p:=⟨_,0,none⟩) hgl];exact hg)
  have HGL:=Lib.hid (show 1 < wa.heap.size from Nat.lt_of_lt_of_le hgl hb2.size)
  have HBA:=Lib.hid hba
  have HNB:=Lib.hid hnb
  clear hb ho hb2 ho2 hx heb hg hgl hnb hba hB
  subst hwa
  cases k with
  | eof=>
    rw [show e=x.eofV from he] at hq ⊢
    simp only [decide_true] at hq
    clear he
    refine calls_fr (vs:=[_]) 21 Tryz.func18 rfl rfl (Nat.le_of_ble_eq_true rfl) fun f=>?_
    simp only [argSlots]
    (repeat (first|(with_reducible first|refine zA fun K hK=>?_|refine zB ?_|refine zC ?_)|((with_reducible first|refine zD rfl fun K hK=>?_|refine zE fun K hK=>?_);go_simp)|(with_reducible first|((repeat ((fail_if_success refine hK _ _ ?_);clear hK K));refine hK _ _ ?_;clear hK K)|refine zT (by go_simp;first|done|omega) ?_|refine zF (by go_simp;first|done|omega) ?_|refine zG ?_|refine zR ?_|refine zK ?_|refine zL ?_|refine zN ?_|refine zS ?_)|simp only [Exit.then,Exit.inBlock,Exit.noGoto,↓reduceIte,Nat.reduceEqDiff]|simp only [undef,reduceCtorEq,↓reduceIte]))
    (refine fr_out1 rfl (by decide) (by simp only [lk_cons,lk_nil,Nat.reduceEqDiff,↓reduceIte];rfl) ?_)
    exact ⟨rfl,HBA.out⟩
  | own=>
    rw [show e=ownV from he] at hq ⊢
    rw [decide_eq_false (by decide)] at hq
    have his:=Lib.hid (fun w=>isOwn_own w)
    clear he
    refine calls_fr (vs:=[_]) 21 Tryz.func18 rfl rfl (Nat.le_of_ble_eq_true rfl) fun f=>?_
    simp only [argSlots]
    (repeat (first|(with_reducible first|refine zA fun K hK=>?_|refine zB ?_|refine zC ?_)|((with_reducible first|refine zD rfl fun K hK=>?_|refine zE fun K hK=>?_);go_simp)|(with_reducible first|((repeat ((fail_if_success refine hK _ _ ?_);clear hK K));refine hK _ _ ?_;clear hK K)|refine zT (by go_simp;first|done|omega) ?_|refine zF (by go_simp;first|done|omega) ?_|refine zG ?_|refine zR ?_|refine zK ?_|refine zL ?_|refine zN ?_|refine zS ?_)|simp only [Exit.then,Exit.inBlock,Exit.noGoto,↓reduceIte,Nat.reduceEqDiff]|simp only [undef,reduceCtorEq,↓reduceIte]))
    refine (his.out _).mono ?_
    rintro e1 w1 ⟨rfl,rfl⟩
    go_simp
    (repeat (first|(with_reducible first|refine zA fun K hK=>?_|refine zB ?_|refine zC ?_)|((with_reducible first|refine zD rfl fun K hK=>?_|refine zE fun K hK=>?_);go_simp)|(with_reducible first|((repeat ((fail_if_success refine hK _ _ ?_);clear hK K));refine hK _ _ ?_;clear hK K)|refine zT (by go_simp;first|done|omega) ?_|refine zF (by go_simp;first|done|omega) ?_|refine zG ?_|refine zR ?_|refine zK ?_|refine zL ?_|refine zN ?_|refine zS ?_)|simp only [Exit.then,Exit.inBlock,Exit.noGoto,↓reduceIte,Nat.reduceEqDiff]|simp only [undef,reduceCtorEq,↓reduceIte]))
    (refine fr_out1 rfl (by decide) (by simp only [lk_cons,lk_nil,Nat.reduceEqDiff,↓reduceIte];rfl) ?_)
    exact ⟨rfl,HBA.out⟩
  | syn=>
    obtain ⟨a,rfl⟩:=he
    rw [decide_eq_false (by decide)] at hq
    have his:=Lib.hid (fun w=>isOwn_syn (.pointer (some a)) w)
    have has:=Lib.hid (as_syn a ⟨w.heap.size,0,none⟩ (.pointer none) _ HG.out HGL.out (HNB.out.cell 0) (HNB.out.frozen 0))
    refine calls_fr (vs:=[_]) 21 Tryz.func18 rfl rfl (Nat.le_of_ble_eq_true rfl) fun f=>?_
    simp only [argSlots]
    (repeat (first|(with_reducible first|refine zA fun K hK=>?_|refine zB ?_|refine zC ?_)|((with_reducible first|refine zD rfl fun K hK=>?_|refine zE fun K hK=>?_);go_simp)|(with_reducible first|((repeat ((fail_if_success refine hK _ _ ?_);clear hK K));refine hK _ _ ?_;clear hK K)|refine zT (by go_simp;first|done|omega) ?_|refine zF (by go_simp;first|done|omega) ?_|refine zG ?_|refine zR ?_|refine zK ?_|refine zL ?_|refine zN ?_|refine zS ?_)|simp only [Exit.then,Exit.inBlock,Exit.noGoto,↓reduceIte,Nat.reduceEqDiff]|simp only [undef,reduceCtorEq,↓reduceIte]))
    refine (his.out _).mono ?_
    rintro e1 w1 ⟨rfl,rfl⟩
    go_simp
    (repeat (first|(with_reducible first|refine zA fun K hK=>?_|refine zB ?_|refine zC ?_)|((with_reducible first|refine zD rfl fun K hK=>?_|refine zE fun K hK=>?_);go_simp)|(with_reducible first|((repeat ((fail_if_success refine hK _ _ ?_);clear hK K));refine hK _ _ ?_;clear hK K)|refine zT (by go_simp;first|done|omega) ?_|refine zF (by go_simp;first|done|omega) ?_|refine zG ?_|refine zR ?_|refine zK ?_|refine zL ?_|refine zN ?_|refine zS ?_)|simp only [Exit.then,Exit.inBlock,Exit.noGoto,↓reduceIte,Nat.reduceEqDiff]|simp only [undef,reduceCtorEq,↓reduceIte]))
    refine has.out.mono ?_
    rintro e2 w2 ⟨rfl,hm⟩
    have HM:=Lib.hid hm
    clear hm heof hq
    go_simp
    (repeat (first|(with_reducible first|refine zA fun K hK=>?_|refine zB ?_|refine zC ?_)|((with_reducible first|refine zD rfl fun K hK=>?_|refine zE fun K hK=>?_);go_simp)|(with_reducible first|((repeat ((fail_if_success refine hK _ _ ?_);clear hK K));refine hK _ _ ?_;clear hK K)|refine zT (by go_simp;first|done|omega) ?_|refine zF (by go_simp;first|done|omega) ?_|refine zG ?_|refine zR ?_|refine zK ?_|refine zL ?_|refine zN ?_|refine zS ?_)|simp only [Exit.then,Exit.inBlock,Exit.noGoto,↓reduceIte,Nat.reduceEqDiff]|simp only [undef,reduceCtorEq,↓reduceIte]))
    (refine fr_out1 rfl (by decide) (by simp only [lk_cons,lk_nil,Nat.reduceEqDiff,↓reduceIte];rfl) ?_)
    refine ⟨rfl,?_⟩
    exact Mod.below HBA.out HBA.out.size HM.out (fun k hk=>by rw [hk];exact Nat.le_refl _)
  | other=>
    obtain ⟨a,rfl,_⟩:=he
    rw [decide_eq_false (by decide)] at hq
    have his:=Lib.hid (fun w=>isOwn_err (.pointer (some a)) w)
    have has:=Lib.hid (as_err (.pointer (some a)) ⟨w.heap.size,0,none⟩ (.pointer none) _ HG.out HGL.out (HNB.out.cell 0) (HNB.out.frozen 0))
    refine calls_fr (vs:=[_]) 21 Tryz.func18 rfl rfl (Nat.le_of_ble_eq_true rfl) fun f=>?_
    simp only [argSlots]
    (repeat (first|(with_reducible first|refine zA fun K hK=>?_|refine zB ?_|refine zC ?_)|((with_reducible first|refine zD rfl fun K hK=>?_|refine zE fun K hK=>?_);go_simp)|(with_reducible first|((repeat ((fail_if_success refine hK _ _ ?_);clear hK K));refine hK _ _ ?_;clear hK K)|refine zT (by go_simp;first|done|omega) ?_|refine zF (by go_simp;first|done|omega) ?_|refine zG ?_|refine zR ?_|refine zK ?_|refine zL ?_|refine zN ?_|refine zS ?_)|simp only [Exit.then,Exit.inBlock,Exit.noGoto,↓reduceIte,Nat.reduceEqDiff]|simp only [undef,reduceCtorEq,↓reduceIte]))
    refine (his.out _).mono ?_
    rintro e1 w1 ⟨rfl,rfl⟩
    go_simp
    (repeat (first|(with_reducible first|refine zA fun K hK=>?_|refine zB ?_|refine zC ?_)|((with_reducible first|refine zD rfl fun K hK=>?_|refine zE fun K hK=>?_);go_simp)|(with_reducible first|((repeat ((fail_if_success refine hK _ _ ?_);clear hK K));refine hK _ _ ?_;clear hK K)|refine zT (by go_simp;first|done|omega) ?_|refine zF (by go_simp;first|done|omega) ?_|refine zG ?_|refine zR ?_|refine zK ?_|refine zL ?_|refine zN ?_|refine zS ?_)|simp only [Exit.then,Exit.inBlock,Exit.noGoto,↓reduceIte,Nat.reduceEqDiff]|simp only [undef,reduceCtorEq,↓reduceIte]))
    refine has.out.mono ?_
    rintro e2 w2 ⟨rfl,hb3⟩
    have HB3:=Lib.hid hb3
    clear hb3 heof hq
    go_simp
    (repeat (first|(with_reducible first|refine zA fun K hK=>?_|refine zB ?_|refine zC ?_)|((with_reducible first|refine zD rfl fun K hK=>?_|refine zE fun K hK=>?_);go_simp)|(with_reducible first|((repeat ((fail_if_success refine hK _ _ ?_);clear hK K));refine hK _ _ ?_;clear hK K)|refine zT (by go_simp;first|done|omega) ?_|refine zF (by go_simp;first|done|omega) ?_|refine zG ?_|refine zR ?_|refine zK ?_|refine zL ?_|refine zN ?_|refine zS ?_)|simp only [Exit.then,Exit.inBlock,Exit.noGoto,↓reduceIte,Nat.reduceEqDiff]|simp only [undef,reduceCtorEq,↓reduceIte]))
    (refine fr_out1 rfl (by decide) (by simp only [lk_cons,lk_nil,Nat.reduceEqDiff,↓reduceIte];rfl) ?_)
    exact ⟨rfl,HBA.out.trans (HB3.out.mono HBA.out.size)⟩
end Go.Proofs.YtkjnockljapnbaaGreatDoor
