/- Part of the proof that laws.FnBeginning, laws.FnPlaces returns true for every argument (Wn). No condition of its own. -/
import Derived.Test.YtkjnockljapnbaaGreatDoorK27
import Derived.Test.YtkjnockljapnbaaGreatDoorK28
import Derived.Test.YtkjnockljapnbaaGreatDoorK17
set_option linter.all false
set_option maxHeartbeats 8000000
set_option maxRecDepth 100000
namespace Go.Proofs.YtkjnockljapnbaaGreatDoor
open Go Go.RowKit
abbrev xmlL:Bs:=[120,109,108]
theorem errNew_c (m:ByteArray) (w:World):Calls Tryz.prog 46 #[.string m] w fun e w'=>∃ a:Addr,e=.returned (errV a)∧w.heap.size ≤ a.block∧Below w.heap.size w w'∧∃ cs t,Blk w' a.block cs t:=by
  refine calls_fr (vs:=[_]) 7 Tryz.func46 rfl rfl (Nat.le_of_ble_eq_true rfl) fun f=>?_
  simp only [argSlots]
  (repeat (first|(with_reducible first|refine zA fun K hK=>?_|refine zB ?_|refine zC ?_)|((with_reducible first|refine zD rfl fun K hK=>?_|refine zE fun K hK=>?_);go_simp)|(with_reducible first|((repeat ((fail_if_success refine hK _ _ ?_);clear hK K));refine hK _ _ ?_;clear hK K)|refine zT (by go_simp;first|done|omega) ?_|refine zF (by go_simp;first|done|omega) ?_|refine zG ?_|refine zR ?_|refine zK ?_|refine zL ?_|refine zN ?_|refine zS ?_)|simp only [Exit.then,Exit.inBlock,Exit.noGoto,↓reduceIte,Nat.reduceEqDiff]|simp only [undef,reduceCtorEq,↓reduceIte]))
  (refine fr_out1 rfl (by decide) (by simp only [lk_cons,lk_nil,Nat.reduceEqDiff,↓reduceIte];rfl) ?_)
  exact ⟨⟨w.heap.size,0,none⟩,rfl,Nat.le_refl _,(Below.refl _ w).alloc (Nat.le_refl _) _,_,_,Blk.new w _ _⟩
theorem RdS.oth {x:Cx} (hx:x.Ok) {c:DC} {w w':World} {v:DV} {rest:Bs} {e:Option EK} {buf:Bs} (h:RdS x c w v rest e buf) (hb:Below w.heap.size w w') (a:Addr) (ha:w.heap.size ≤ a.block) :
    DecAt w' x.d c v∧ErrS x c (w'.setCell ⟨x.d,20,none⟩ (errV a)) { v with err:=errV a } .other∧Stp x w v (w'.setCell ⟨x.d,20,none⟩ (errV a)) { v with err:=errV a }:=
  ⟨Blk.mod (S:=fun _=>False) h.dec (mod_none hb _) id,
   ⟨(Mod.below h.base h.base.size (mod_none hb (fun _=>False)) (fun _ h=>h.elim)).setCell hx.d _,(show Blk _ x.d _ _ from Blk.mod (S:=fun _=>False) h.dec (mod_none hb _) id).set 20 _,⟨a,rfl,Nat.le_trans h.base.size ha⟩⟩,
   (Stp.refl x w v).syn hb _⟩
def OthAt (w:World) (e:Value) (k:EK):Prop:=k=.other → ∃ a cs t,e=errV a∧Blk w a.block cs t
theorem OthAt.no {w:World} {e:Value} {k:EK} (h:k ≠ .other):OthAt w e k:=fun hh=>absurd hh h
def RawPostO (x:Cx) (c:DC) (w:World) (v:DV) (R:Except EK (RTok × Bs)) (t e:Value) (w':World):Prop:=RawPost x c w v R t e w'∧∀ k,R=.error k → OthAt w' e k
theorem RawPost.o {x:Cx} {c:DC} {w:World} {v:DV} {R:Except EK (RTok × Bs)} {t e:Value} {w':World} (h:RawPost x c w v R t e w') (hn:NoO R):RawPostO x c w v R t e w':=
  ⟨h,fun k hk=>OthAt.no (fun hh=>by subst hh;exact hn hk)⟩
def piEnd (o:Opt) (tg d r:Bs):Except EK (RTok × Bs):=if tg=xmlL∧declOk d=false then .error .other else .ok (.proc tg d,r)
theorem lbne {s p:Bs} (h:¬ s=p):(s == p)=false∧(s != p)=true:=by
  have h1:(s == p)=false:=by simpa using h
  exact ⟨h1,by simp [h]⟩
theorem upTo_len (c:UInt8):∀ (l r:Bs),upTo c l=some r → r.length ≤ l.length
  | [],r,h=>by unfold upTo at h;cases h
  | b :: l,r,h=>by
    unfold upTo at h
    split at h
    · simp only [Option.some.injEq] at h;subst h;simp
    · rw [Option.map_eq_some_iff] at h
      obtain ⟨q,hq,rfl⟩:=h
      have:=upTo_len c l q hq
      simp;omega
theorem pinstL_len (p:Bs):∀ (n:Nat) (s:Bs),s.length ≤ n → (pinstL p s).length ≤ s.length:=by
  intro n
  induction n with
  | zero=>
    intro s hs
    have:s=[]:=List.eq_nil_of_length_eq_zero (by omega)
    subst this
    rw [pinstL.eq_def,if_pos rfl];simp
  | succ n ih=>
    intro s hs
    rw [pinstL.eq_def]
    split
    · simp
    · split
      · simp
      · simp
      · rename_i c t h
        have h1:=findSub_len h
        simp only [List.length_cons] at h1
        split
        · cases hu:upTo c t with
          | none=>simp
          | some q=>have:=upTo_len c t q hu;simp;omega
        · have:=ih t (by omega)
          omega
theorem nilFuncEq (w:World):(binOp .eql 69 .nilFunc .nilFunc).run Tryz.prog w=.ok (.bool true) w:=by kernel_rfl
theorem piDecl (x:Cx) (hx:x.All) (haf:AfTab x.W0) (hafB:3 < x.B) (c:DC) (w:World) (v:DV) (r:Bs) (b:Bs) (h:RdS x c w v r none b) (hnb:v.nb=-1) (tg d:Bs) (g cap:Nat) (hby:BytesAt w g 0 d) (hl:d.length ≤ 1000000000) (hcl:d.length ≤ cap) (hcm:cap ≤ 9223372036854775807) (n:Nat) (hbv:v.bufv=.slice (some ⟨g,0,none⟩) n cap)
    (Q:Exit → Act → World → Prop) (hQ:∀ f w' t e,RawPostO x c w v (piEnd x.o tg d r) t e w' → Q .ret (fr 731 f [(2,t),(3,e)]) w') (f:Nat → Value) :
    (rwCode 54).wp Tryz.prog Q (fr 731 f [(0,decP x),(8,strV tg),(10,.slice (some ⟨g,0,none⟩) d.length cap)]) w:=by
  have HX:=Lib.hid hx
  have HQ:=Lib.hid hQ
  have H:=Lib.hid h
  have HBV:=Lib.hid hbv
  have HAF:=Lib.hid (show ∀ w',Below x.B x.W0 w' → AfTab w' from fun w' hb=>haf.below hb)
  have HU8:=Lib.hid (fun w' (hb:Below x.B x.W0 w')=>hx.toFit.tabs hb)
  have HDAT:=Lib.hid (show ∀ w',Below w.heap.size w w' → DataAt w' v.bufv (.slice (some ⟨g,0,none⟩) d.length cap) d from fun w' hb=>⟨g,cap,n,rfl,hbv,hby.below hb,hcl,hcm⟩)
  have hcv:=conv_part d w g 0 cap hby
  have HL:=Lib.hid hl
  have HNB:=Lib.hid hnb
  clear hx haf hafB hQ h hby hbv hl hcl hcm hnb
  have HTOK:=Lib.hid (show ∀ w',Below w.heap.size w w' → piEnd x.o tg d r=.ok (.proc tg d,r) → RawPostO x c w v (piEnd x.o tg d r) (pvV tg (.slice (some ⟨g,0,none⟩) d.length cap)) .nilIface w' from
    fun w' hb he=>⟨⟨v,(Stp.refl x w v).below hb,by rw [he];exact ⟨rfl,none,b,H.out.below HX.out.toOk hb,⟨_,rfl,HDAT.out w' hb⟩,Or.inl rfl,HNB.out⟩⟩,fun k hk=>by rw [he] at hk;cases hk⟩)
  unfold rwCode
  conv=>arg 2;whnf
  by_cases hxml:tg=xmlL
  · subst hxml
    have hv:=Lib.hid (procInst_c [118,101,114,115,105,111,110] verP rfl (by decide) d HL.out w)
    have he:=Lib.hid (procInst_c [101,110,99,111,100,105,110,103] encP rfl (by decide) d HL.out w)
    (repeat (first|(with_reducible first|refine zA fun K hK=>?_|refine zB ?_|refine zC ?_)|((with_reducible first|refine zD rfl fun K hK=>?_|refine zE fun K hK=>?_);go_simp)|(with_reducible first|((repeat ((fail_if_success refine hK _ _ ?_);clear hK K));refine hK _ _ ?_;clear hK K)|refine zT (by go_simp;first|done|omega) ?_|refine zF (by go_simp;first|done|omega) ?_|refine zG ?_|refine zR ?_|refine zK ?_|refine zL ?_|refine zN ?_|refine zS ?_)|simp only [Exit.then,Exit.inBlock,Exit.noGoto,↓reduceIte,Nat.reduceEqDiff]|simp only [undef,reduceCtorEq,↓reduceIte]))
    refine hv.out.mono ?_
    rintro e1 w1 ⟨rfl,rfl⟩
    obtain ⟨ver,hver⟩:∃ ver,ver=pinstL verP d:=⟨_,rfl⟩
    obtain ⟨enc,henc⟩:∃ enc,enc=pinstL encP d:=⟨_,rfl⟩
    have HPE:=Lib.hid (show piEnd x.o xmlL d r=if (ver == [] || ver == [49,46,48]) && (enc == [] || isUtf8 enc) then .ok (.proc xmlL d,r) else .error .other by
      unfold piEnd declOk
      rw [← hver,← henc]
      cases ((ver == [] || ver == [49,46,48]) && (enc == [] || isUtf8 enc)) <;> simp)
    rw [← hver]
    rw [← henc] at he
    have HENCL:=Lib.hid (show enc.length ≤ 1000000000 by rw [henc];exact Nat.le_trans (pinstL_len encP d.length d (Nat.le_refl _)) HL.out)
    clear hver henc hv hcv
    by_cases hv0:ver=[] ∨ ver=[49,46,48]
    · have hvt:(ver == [] || ver == [49,46,48])=true:=by
        rcases hv0 with rfl|rfl <;> rfl
      have HVT:=Lib.hid hvt
      clear hvt
      have hcs:(ver=[]) ∨ ((ver == [])=false∧(ver != [])=true∧ver=[49,46,48]):=by
        rcases hv0 with rfl|rfl
        · exact Or.inl rfl
        · exact Or.inr ⟨rfl,rfl,rfl⟩
      clear hv0
      rcases hcs with rfl|⟨q1,q2,rfl⟩
      all_goals
        go_simp
        (repeat (first|(with_reducible first|refine zA fun K hK=>?_|refine zB ?_|refine zC ?_)|((with_reducible first|refine zD rfl fun K hK=>?_|refine zE fun K hK=>?_);go_simp)|(with_reducible first|((repeat ((fail_if_success refine hK _ _ ?_);clear hK K));refine hK _ _ ?_;clear hK K)|refine zT (by go_simp;first|done|omega) ?_|refine zF (by go_simp;first|done|omega) ?_|refine zG ?_|refine zR ?_|refine zK ?_|refine zL ?_|refine zN ?_|refine zS ?_)|simp only [Exit.then,Exit.inBlock,Exit.noGoto,↓reduceIte,Nat.reduceEqDiff]|simp only [undef,reduceCtorEq,↓reduceIte]))
        refine he.out.mono ?_
        rintro e2 w2 ⟨rfl,rfl⟩
        by_cases he0:enc=[]
        · subst he0
          go_simp
          (repeat (first|(with_reducible first|refine zA fun K hK=>?_|refine zB ?_|refine zC ?_)|((with_reducible first|refine zD rfl fun K hK=>?_|refine zE fun K hK=>?_);go_simp)|(with_reducible first|((repeat ((fail_if_success refine hK _ _ ?_);clear hK K));refine hK _ _ ?_;clear hK K)|refine zT (by go_simp;first|done|omega) ?_|refine zF (by go_simp;first|done|omega) ?_|refine zG ?_|refine zR ?_|refine zK ?_|refine zL ?_|refine zN ?_|refine zS ?_)|simp only [Exit.then,Exit.inBlock,Exit.noGoto,↓reduceIte,Nat.reduceEqDiff]|simp only [undef,reduceCtorEq,↓reduceIte]))
          refine Q_keep [2,3] (fun f=>?_);simp only [keep_cons,keep_nil,lk_cons,lk_nil,Nat.reduceEqDiff,↓reduceIte]
          exact HQ.out f _ _ _ (HTOK.out _ (Below.refl _ _) (by rw [HPE.out];rfl))
        · obtain ⟨n1,n2⟩:=lbne he0
          by_cases he1:enc=[117,116,102,45,56]
          · subst he1
            go_simp
            (repeat (first|(with_reducible first|refine zA fun K hK=>?_|refine zB ?_|refine zC ?_)|((with_reducible first|refine zD rfl fun K hK=>?_|refine zE fun K hK=>?_);go_simp)|(with_reducible first|((repeat ((fail_if_success refine hK _ _ ?_);clear hK K));refine hK _ _ ?_;clear hK K)|refine zT (by go_simp;first|done|omega) ?_|refine zF (by go_simp;first|done|omega) ?_|refine zG ?_|refine zR ?_|refine zK ?_|refine zL ?_|refine zN ?_|refine zS ?_)|simp only [Exit.then,Exit.inBlock,Exit.noGoto,↓reduceIte,Nat.reduceEqDiff]|simp only [undef,reduceCtorEq,↓reduceIte]))
            refine Q_keep [2,3] (fun f=>?_);simp only [keep_cons,keep_nil,lk_cons,lk_nil,Nat.reduceEqDiff,↓reduceIte]
            exact HQ.out f _ _ _ (HTOK.out _ (Below.refl _ _) (by rw [HPE.out];rfl))
          · obtain ⟨n3,n4⟩:=lbne he1
            by_cases he2:enc=[85,84,70,45,56]
            · subst he2
              go_simp
              (repeat (first|(with_reducible first|refine zA fun K hK=>?_|refine zB ?_|refine zC ?_)|((with_reducible first|refine zD rfl fun K hK=>?_|refine zE fun K hK=>?_);go_simp)|(with_reducible first|((repeat ((fail_if_success refine hK _ _ ?_);clear hK K));refine hK _ _ ?_;clear hK K)|refine zT (by go_simp;first|done|omega) ?_|refine zF (by go_simp;first|done|omega) ?_|refine zG ?_|refine zR ?_|refine zK ?_|refine zL ?_|refine zN ?_|refine zS ?_)|simp only [Exit.then,Exit.inBlock,Exit.noGoto,↓reduceIte,Nat.reduceEqDiff]|simp only [undef,reduceCtorEq,↓reduceIte]))
              refine Q_keep [2,3] (fun f=>?_);simp only [keep_cons,keep_nil,lk_cons,lk_nil,Nat.reduceEqDiff,↓reduceIte]
              exact HQ.out f _ _ _ (HTOK.out _ (Below.refl _ _) (by rw [HPE.out];rfl))
            · obtain ⟨n5,n6⟩:=lbne he2
              have hef:=Lib.hid (equalFold_utf8 enc HENCL.out w2 (HAF.out _ H.out.base) (HU8.out _ H.out.base))
              have HPE2:=Lib.hid (show piEnd x.o xmlL d r=if isUtf8 enc then .ok (.proc xmlL d,r) else .error .other by rw [HPE.out,HVT.out,n1];simp)
              clear he0 he1 he2
              go_simp
              (repeat (first|(with_reducible first|refine zA fun K hK=>?_|refine zB ?_|refine zC ?_)|((with_reducible first|refine zD rfl fun K hK=>?_|refine zE fun K hK=>?_);go_simp)|(with_reducible first|((repeat ((fail_if_success refine hK _ _ ?_);clear hK K));refine hK _ _ ?_;clear hK K)|refine zT (by go_simp;first|done|omega) ?_|refine zF (by go_simp;first|done|omega) ?_|refine zG ?_|refine zR ?_|refine zK ?_|refine zL ?_|refine zN ?_|refine zS ?_)|simp only [Exit.then,Exit.inBlock,Exit.noGoto,↓reduceIte,Nat.reduceEqDiff]|simp only [undef,reduceCtorEq,↓reduceIte]))
              refine hef.out.mono ?_
              rintro e3 w3 ⟨rfl,hb3⟩
              have HB3:=Lib.hid hb3
              have hd3:=(H.out.below HX.out.toOk hb3).dec
              have hc3:=hd3.cell
              have hf3:=hd3.frozen
              clear hb3 hd3 hef
              cases hiu:isUtf8 enc with
              | true=>
                go_simp
                (repeat (first|(with_reducible first|refine zA fun K hK=>?_|refine zB ?_|refine zC ?_)|((with_reducible first|refine zD rfl fun K hK=>?_|refine zE fun K hK=>?_);go_simp)|(with_reducible first|((repeat ((fail_if_success refine hK _ _ ?_);clear hK K));refine hK _ _ ?_;clear hK K)|refine zT (by go_simp;first|done|omega) ?_|refine zF (by go_simp;first|done|omega) ?_|refine zG ?_|refine zR ?_|refine zK ?_|refine zL ?_|refine zN ?_|refine zS ?_)|simp only [Exit.then,Exit.inBlock,Exit.noGoto,↓reduceIte,Nat.reduceEqDiff]|simp only [undef,reduceCtorEq,↓reduceIte]))
                refine Q_keep [2,3] (fun f=>?_);simp only [keep_cons,keep_nil,lk_cons,lk_nil,Nat.reduceEqDiff,↓reduceIte]
                exact HQ.out f _ _ _ (HTOK.out _ HB3.out (by rw [HPE2.out,hiu];rfl))
              | false=>
                have hen:=Lib.hid (fun m=>errNew_c m w3)
                have hnf:=fun w=>nilFuncEq w
                go_simp
                (repeat (first|(with_reducible first|refine zA fun K hK=>?_|refine zB ?_|refine zC ?_)|((with_reducible first|refine zD rfl fun K hK=>?_|refine zE fun K hK=>?_);go_simp)|(with_reducible first|((repeat ((fail_if_success refine hK _ _ ?_);clear hK K));refine hK _ _ ?_;clear hK K)|refine zT (by go_simp;first|done|omega) ?_|refine zF (by go_simp;first|done|omega) ?_|refine zG ?_|refine zR ?_|refine zK ?_|refine zL ?_|refine zN ?_|refine zS ?_)|simp only [Exit.then,Exit.inBlock,Exit.noGoto,↓reduceIte,Nat.reduceEqDiff]|simp only [undef,reduceCtorEq,↓reduceIte]))
                refine (hen.out _).mono ?_
                rintro e4 w4 ⟨a4,rfl,ha4,hb4,cs4,ty4,hbl4⟩
                have hR3:=H.out.below HX.out.toOk HB3.out
                obtain ⟨hd4,hE4,hS4⟩:=hR3.oth HX.out.toOk hb4 a4 ha4
                have hc4:=hd4.cell
                have hf4:=hd4.frozen
                have HE4:=Lib.hid hE4
                have HO4:=Lib.hid (show ∀ n,Blk ((w4.setCell ⟨x.d,20,none⟩ (errV a4)).drewN n) a4.block cs4 ty4 from fun n=>Blk.mod (S:=fun k=>k=x.d) hbl4 (((Mod.refl (fun k=>k=x.d) w4).setCell (p:=⟨x.d,20,none⟩) (Or.inl rfl) _).drewN n) (fun hh=>by have h1:=hR3.dec.lt;omega))
                have HS4:=Lib.hid (((Stp.refl x w2 v).below HB3.out).trans hS4)
                clear hR3 hd4 hE4 hS4 hb4 hen hc3 hf3 hbl4
                go_simp
                (repeat (first|(with_reducible first|refine zA fun K hK=>?_|refine zB ?_|refine zC ?_)|((with_reducible first|refine zD rfl fun K hK=>?_|refine zE fun K hK=>?_);go_simp)|(with_reducible first|((repeat ((fail_if_success refine hK _ _ ?_);clear hK K));refine hK _ _ ?_;clear hK K)|refine zT (by go_simp;first|done|omega) ?_|refine zF (by go_simp;first|done|omega) ?_|refine zG ?_|refine zR ?_|refine zK ?_|refine zL ?_|refine zN ?_|refine zS ?_)|simp only [Exit.then,Exit.inBlock,Exit.noGoto,↓reduceIte,Nat.reduceEqDiff]|simp only [undef,reduceCtorEq,↓reduceIte]))
                ((refine wp_keep [0] (fun f=>?_);simp only [keep_cons,keep_nil,lk_cons,lk_nil,Nat.reduceEqDiff,↓reduceIte]);go_quiet (fail);(repeat (first|(with_reducible first|refine zA fun K hK=>?_|refine zB ?_|refine zC ?_)|((with_reducible first|refine zD rfl fun K hK=>?_|refine zE fun K hK=>?_);go_simp)|(with_reducible first|((repeat ((fail_if_success refine hK _ _ ?_);clear hK K));refine hK _ _ ?_;clear hK K)|refine zT (by go_simp;first|done|omega) ?_|refine zF (by go_simp;first|done|omega) ?_|refine zG ?_|refine zR ?_|refine zK ?_|refine zL ?_|refine zN ?_|refine zS ?_)|simp only [Exit.then,Exit.inBlock,Exit.noGoto,↓reduceIte,Nat.reduceEqDiff]|simp only [undef,reduceCtorEq,↓reduceIte]));refine Q_keep [2,3] (fun f=>?_);simp only [keep_cons,keep_nil,lk_cons,lk_nil,Nat.reduceEqDiff,↓reduceIte])
                exact HQ.out f _ _ _ ⟨⟨_,HS4.out.drawn _,by rw [HPE2.out,hiu];exact ⟨rfl,rfl,HE4.out.drewN _⟩⟩,fun _ _ _=>⟨_,_,_,rfl,HO4.out _⟩⟩
    · have hv1:¬ ver=[]:=fun h=>hv0 (Or.inl h)
      have hv2:¬ ver=[49,46,48]:=fun h=>hv0 (Or.inr h)
      obtain ⟨n1,n2⟩:=lbne hv1
      obtain ⟨n3,n4⟩:=lbne hv2
      have HPE2:=Lib.hid (show piEnd x.o xmlL d r=.error .other by rw [HPE.out,n1,n3];rfl)
      have hen:=Lib.hid (fun m=>errNew_c m w1)
      clear hv0 hv1 hv2
      go_simp
      (repeat (first|(with_reducible first|refine zA fun K hK=>?_|refine zB ?_|refine zC ?_)|((with_reducible first|refine zD rfl fun K hK=>?_|refine zE fun K hK=>?_);go_simp)|(with_reducible first|((repeat ((fail_if_success refine hK _ _ ?_);clear hK K));refine hK _ _ ?_;clear hK K)|refine zT (by go_simp;first|done|omega) ?_|refine zF (by go_simp;first|done|omega) ?_|refine zG ?_|refine zR ?_|refine zK ?_|refine zL ?_|refine zN ?_|refine zS ?_)|simp only [Exit.then,Exit.inBlock,Exit.noGoto,↓reduceIte,Nat.reduceEqDiff]|simp only [undef,reduceCtorEq,↓reduceIte]))
      refine (hen.out _).mono ?_
      rintro e4 w4 ⟨a4,rfl,ha4,hb4,cs4,ty4,hbl4⟩
      obtain ⟨hd4,hE4,hS4⟩:=H.out.oth HX.out.toOk hb4 a4 ha4
      have hc4:=hd4.cell
      have hf4:=hd4.frozen
      have HE4:=Lib.hid hE4
      have HO4:=Lib.hid (show ∀ n,Blk ((w4.setCell ⟨x.d,20,none⟩ (errV a4)).drewN n) a4.block cs4 ty4 from fun n=>Blk.mod (S:=fun k=>k=x.d) hbl4 (((Mod.refl (fun k=>k=x.d) w4).setCell (p:=⟨x.d,20,none⟩) (Or.inl rfl) _).drewN n) (fun hh=>by have h1:=H.out.dec.lt;omega))
      have HS4:=Lib.hid hS4
      clear hd4 hE4 hS4 hb4 hen hbl4
      go_simp
      (repeat (first|(with_reducible first|refine zA fun K hK=>?_|refine zB ?_|refine zC ?_)|((with_reducible first|refine zD rfl fun K hK=>?_|refine zE fun K hK=>?_);go_simp)|(with_reducible first|((repeat ((fail_if_success refine hK _ _ ?_);clear hK K));refine hK _ _ ?_;clear hK K)|refine zT (by go_simp;first|done|omega) ?_|refine zF (by go_simp;first|done|omega) ?_|refine zG ?_|refine zR ?_|refine zK ?_|refine zL ?_|refine zN ?_|refine zS ?_)|simp only [Exit.then,Exit.inBlock,Exit.noGoto,↓reduceIte,Nat.reduceEqDiff]|simp only [undef,reduceCtorEq,↓reduceIte]))
      ((refine wp_keep [0] (fun f=>?_);simp only [keep_cons,keep_nil,lk_cons,lk_nil,Nat.reduceEqDiff,↓reduceIte]);go_quiet (fail);(repeat (first|(with_reducible first|refine zA fun K hK=>?_|refine zB ?_|refine zC ?_)|((with_reducible first|refine zD rfl fun K hK=>?_|refine zE fun K hK=>?_);go_simp)|(with_reducible first|((repeat ((fail_if_success refine hK _ _ ?_);clear hK K));refine hK _ _ ?_;clear hK K)|refine zT (by go_simp;first|done|omega) ?_|refine zF (by go_simp;first|done|omega) ?_|refine zG ?_|refine zR ?_|refine zK ?_|refine zL ?_|refine zN ?_|refine zS ?_)|simp only [Exit.then,Exit.inBlock,Exit.noGoto,↓reduceIte,Nat.reduceEqDiff]|simp only [undef,reduceCtorEq,↓reduceIte]));refine Q_keep [2,3] (fun f=>?_);simp only [keep_cons,keep_nil,lk_cons,lk_nil,Nat.reduceEqDiff,↓reduceIte])
      exact HQ.out f _ _ _ ⟨⟨_,HS4.out.drawn _,by rw [HPE2.out];exact ⟨rfl,rfl,HE4.out.drewN _⟩⟩,fun _ _ _=>⟨_,_,_,rfl,HO4.out _⟩⟩
  · obtain ⟨n1,n2⟩:=lbne hxml
    have HPE2:=Lib.hid (show piEnd x.o tg d r=.ok (.proc tg d,r) by unfold piEnd;rw [if_neg (fun h=>hxml h.1)])
    clear hxml
    (repeat (first|(with_reducible first|refine zA fun K hK=>?_|refine zB ?_|refine zC ?_)|((with_reducible first|refine zD rfl fun K hK=>?_|refine zE fun K hK=>?_);go_simp)|(with_reducible first|((repeat ((fail_if_success refine hK _ _ ?_);clear hK K));refine hK _ _ ?_;clear hK K)|refine zT (by go_simp;first|done|omega) ?_|refine zF (by go_simp;first|done|omega) ?_|refine zG ?_|refine zR ?_|refine zK ?_|refine zL ?_|refine zN ?_|refine zS ?_)|simp only [Exit.then,Exit.inBlock,Exit.noGoto,↓reduceIte,Nat.reduceEqDiff]|simp only [undef,reduceCtorEq,↓reduceIte]))
    refine Q_keep [2,3] (fun f=>?_);simp only [keep_cons,keep_nil,lk_cons,lk_nil,Nat.reduceEqDiff,↓reduceIte]
    exact HQ.out f _ _ _ (HTOK.out _ (Below.refl _ _) HPE2.out)
end Go.Proofs.YtkjnockljapnbaaGreatDoor
