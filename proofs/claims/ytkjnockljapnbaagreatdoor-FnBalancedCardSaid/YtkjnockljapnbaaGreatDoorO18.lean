/- Part of the proof that laws.FnBalanced returns true for every argument (Sa, Wa). No condition of its own. -/
import Derived.Test.YtkjnockljapnbaaGreatDoorO03
import Derived.Test.YtkjnockljapnbaaGreatDoorO11
import Derived.Maps.OwnSet
import Derived.Maps.StringElems
import Derived.Test.YtkjnockljapnbaaGreatDoorO17
set_option linter.all false
set_option maxHeartbeats 8000000
set_option maxRecDepth 100000
namespace Go.Proofs.YtkjnockljapnbaaGreatDoor
open Go Go.RowKit
theorem mapK:Maps.Keyed Tryz.prog 9:=Maps.string_keyed Tryz.underlying9
def NsAt (w:World) (m n:Nat) (ns:Bs → Option Bs):Prop:=
  ∃ D:DataW Unit,w.ownsMap Tryz.prog 9 (plainElem Tryz.prog 9) m n D∧∀ k,(ns k=none → ∀ z,D.atKey (.string k) z=z)∧(∀ s,ns k=some s → ∀ z,D.atKey (.string k) z=.lit (.string s))∧Maps.has D (.string k)=(ns k).isSome
theorem strKey (s:Bs) (h:s.length ≤ maxLen):keyOf Tryz.prog 9 (strV s)=some (.string s):=by
  have:=WideMaps.keyOf_string_mk (P:=Tryz.prog) (k:=9) Tryz.underlying9 (s:=⟨s.toArray⟩) h
  simpa using this
theorem NsAt.made (w:World):NsAt (w.alloc (.map #[] 0)) w.heap.size 0 (fun _=>none):=
  ⟨.map [],World.ownsMap_made w _ _ _,fun k=>⟨fun _ z=>rfl,⟨fun s h=>(by cases h),rfl⟩⟩⟩
theorem NsAt.lt {w:World} {m n:Nat} {ns:Bs → Option Bs} (h:NsAt w m n ns):m < w.heap.size:=by
  obtain ⟨D,h,_⟩:=h;exact h.lt
theorem NsAt.mono {w:World} {m n n':Nat} {ns:Bs → Option Bs} (h:NsAt w m n ns) (hn:n ≤ n'):NsAt w m n' ns:=by
  obtain ⟨D,h,h2⟩:=h;exact ⟨D,h.mono hn,h2⟩
theorem NsAt.mod {w w':World} {m n:Nat} {ns:Bs → Option Bs} {S:Nat → Prop} (h:NsAt w m n ns) (hm:Mod S w w') (hS:¬ S m):NsAt w' m n ns:=by
  obtain ⟨D,h1,h2⟩:=h
  refine ⟨D,?_,h2⟩
  obtain ⟨es,cl,hb,F,hs,hD⟩:=h1
  exact ⟨es,cl,(hm.block m (by
    rcases Nat.lt_or_ge m w.heap.size with h'|h'
    · exact h'
    · simp [Array.getElem?_eq_none h'] at hb) hS).trans hb,F,hs,hD⟩
theorem strZero (w:World):(zeroValue 9).run Tryz.prog w=.ok (.string ⟨#[]⟩) w:=by kernel_rfl
theorem strElem (s:Bs) (h:s.length ≤ maxLen):plainElem (H:=Unit) Tryz.prog 9 (strV s)=some (.lit (.string s),[]):=by
  have:=plainElem_string (H:=Unit) (P:=Tryz.prog) (e:=9) Tryz.underlying9 (s:=⟨s.toArray⟩) h
  simpa using this
theorem NsAt.look {w:World} {m n:Nat} {ns:Bs → Option Bs} (h:NsAt w m n ns) (k:Bs) (hkl:k.length ≤ maxLen) :
    (Instr.lookup 68 (.map (some m)) (strV k) true).run Tryz.prog w=.ok (.tuple #[strV ((ns k).getD []),.bool (ns k).isSome]) w:=by
  obtain ⟨D,h1,h2⟩:=h
  obtain ⟨a1,a2,a3⟩:=h2 k
  obtain ⟨v,ps,hr,hv⟩:=h1.look_ok (t:=68) (e:=9) mapK Tryz.underlying68 (strZero w) (zd:=.lit (.string [])) (zp:=[]) (strElem [] (by simp)) (strKey k hkl)
  rw [hr,a3]
  obtain ⟨s,rfl,hz,_⟩:=plainElem_string_inv Tryz.underlying9 hv
  have hs:DataW.lit (H:=Unit) (.string s.data.toList)=.lit (.string ((ns k).getD [])):=by
    have hz1:=(congrArg Prod.fst hz).symm
    simp only at hz1
    rw [hz1]
    cases hk:ns k with
    | none=>rw [a1 hk];rfl
    | some t=>rw [a2 t hk];rfl
  have hs2:s.data.toList=(ns k).getD []:=by
    simp only [DataW.lit.injEq,Lit.string.injEq] at hs;exact hs
  have hs3:s=⟨((ns k).getD []).toArray⟩:=by
    apply ByteArray.ext;apply Array.toList_inj.1;rw [hs2]
  rw [hs3]
theorem turned_mod {w w':World} {m:Nat} (h:w.mapTurned w' m):Mod (fun k=>k=m) w w':=by
  have g:=h.grown
  exact ⟨g.os,g.tape,g.output,g.size,fun k hk hn=>g.block k hk (by simpa using hn)⟩
theorem isKeyLit_str (s:Bs):WideAt.IsKeyLit (.string s):=trivial
theorem NsAt.store {w:World} {m n:Nat} {ns:Bs → Option Bs} (h:NsAt w m n ns) (hn:n < maxLen) (k v:Bs) (hkl:k.length ≤ maxLen) (hv:v.length ≤ maxLen) :
    ∃ w',(Instr.mapUpdate 68 (.map (some m)) (strV k) (strV v)).run Tryz.prog w=.ok () w'∧NsAt w' m (n + 1) (setNs ns k (some v))∧w.mapTurned w' m:=by
  obtain ⟨D,h1,h2⟩:=h
  obtain ⟨w',hr,ho,ht⟩:=h1.store (t:=68) (e:=9) mapK Tryz.underlying68 hn (strKey k hkl) (strElem v hv)
  refine ⟨w',hr,⟨_,ho,fun k'=>?_⟩,ht⟩
  unfold setNs
  by_cases hk:k'=k
  · subst hk
    simp only [if_true]
    refine ⟨fun hh=>(by cases hh),fun s hs z=>?_,?_⟩
    · cases hs;exact Maps.atKey_put_same h1.isMap (isKeyLit_str _) _ _
    · exact Maps.has_put_same h1.isMap (isKeyLit_str _) _
  · simp only [if_neg hk]
    have hne:Lit.string k' ≠ Lit.string k:=by simpa using hk
    obtain ⟨a1,a2,a3⟩:=h2 k'
    exact ⟨fun hh z=>by rw [Maps.atKey_put_other hne];exact a1 hh z,fun s hs z=>by rw [Maps.atKey_put_other hne];exact a2 s hs z,by rw [Maps.has_put_other hne];exact a3⟩
theorem NsAt.drop {w:World} {m n:Nat} {ns:Bs → Option Bs} (h:NsAt w m n ns) (k:Bs) (hkl:k.length ≤ maxLen) (ty:TypeId) :
    ∃ w',(Builtin.delete_ #[68,9] ty #[.map (some m),strV k]).run Tryz.prog w=.ok (.tuple #[]) w'∧NsAt w' m n (setNs ns k none)∧w.mapTurned w' m:=by
  obtain ⟨D,h1,h2⟩:=h
  obtain ⟨w',hr,ho,ht⟩:=h1.drop (t:=68) (e:=9) mapK Tryz.underlying68 (strKey k hkl) ty
  refine ⟨w',hr,⟨_,ho,fun k'=>?_⟩,ht⟩
  unfold setNs
  by_cases hk:k'=k
  · subst hk
    simp only [if_true]
    exact ⟨fun _ z=>Maps.atKey_del_same z,fun s hs=>(by cases hs),Maps.has_del_same⟩
  · simp only [if_neg hk]
    have hne:Lit.string k' ≠ Lit.string k:=by simpa using hk
    obtain ⟨a1,a2,a3⟩:=h2 k'
    exact ⟨fun hh z=>by rw [Maps.atKey_del_other hne];exact a1 hh z,fun s hs z=>by rw [Maps.atKey_del_other hne];exact a2 s hs z,by rw [Maps.has_del_other hne];exact a3⟩
@[go_sem] def skCells (nx:Value) (k:Int) (sp loc:Bs) (ok:Bool):Array Value:=#[nx,.int .i64 k,strV sp,strV loc,.bool ok]
def StkAt (w:World):Value → List Ent → List Nat → Prop
  | p,[],[]=>p=.pointer none
  | p,e :: l,b :: bs=>p=.pointer (some ⟨b,0,none⟩)∧∃ nx ok,Blk w b (skCells nx e.kind e.space e.loc ok) 88∧(e.kind=1 → ok=e.ok)∧StkAt w nx l bs
  | _,_,_=>False
theorem StkAt.mod {w w':World} {S:Nat → Prop} (hm:Mod S w w'):∀ {p:Value} {l:List Ent} {bs:List Nat},StkAt w p l bs → (∀ b ∈ bs,¬ S b) → StkAt w' p l bs
  | p,[],[],h,_=>h
  | p,e :: l,b :: bs,h,hS=>by
    obtain ⟨hp,nx,ok,hb,hk,hr⟩:=h
    exact ⟨hp,nx,ok,hb.mod hm (hS b (by simp)),hk,StkAt.mod hm hr (fun c hc=>hS c (by simp [hc]))⟩
  | _,[],_ :: _,h,_=>h.elim
  | _,_ :: _,[],h,_=>h.elim
theorem StkAt.lt {w:World}:∀ {p:Value} {l:List Ent} {bs:List Nat},StkAt w p l bs → ∀ b ∈ bs,b < w.heap.size
  | p,[],[],h,b,hb=>by simp at hb
  | p,e :: l,b :: bs,h,c,hc=>by
    obtain ⟨hp,nx,ok,hb,hk,hr⟩:=h
    simp only [List.mem_cons] at hc
    rcases hc with rfl|hc
    · exact hb.lt
    · exact hr.lt c hc
  | _,[],_ :: _,h,_,_=>h.elim
  | _,_ :: _,[],h,_,_=>h.elim
structure Own (x:Cx) (w:World) (c:DC) (v:DV) (m:Nat) (sb fb:List Nat) (n:Nat) (stk:List Ent) (ns:Bs → Option Bs):Prop where
  stk:StkAt w c.stk stk sb
  free:∃ fl,StkAt w c.free fl fb
  map:c.ns=.map (some m)
  ns:NsAt w m n ns
  nodup:(m :: (sb ++ fb)).Nodup
  base:∀ b ∈ m :: (sb ++ fb),x.B ≤ b
  s1:∀ b ∈ m :: (sb ++ fb),¬ x.S1 v b
theorem Own.lt {x:Cx} {w:World} {c:DC} {v:DV} {m:Nat} {sb fb:List Nat} {n:Nat} {stk:List Ent} {ns:Bs → Option Bs} (h:Own x w c v m sb fb n stk ns):∀ b ∈ m :: (sb ++ fb),b < w.heap.size:=by
  intro b hb
  simp only [List.mem_cons,List.mem_append] at hb
  rcases hb with rfl|hb|hb
  · exact h.ns.lt
  · exact h.stk.lt b hb
  · obtain ⟨fl,hf⟩:=h.free;exact hf.lt b hb
theorem Own.mod {x:Cx} {w w':World} {c:DC} {v v':DV} {m:Nat} {sb fb:List Nat} {n:Nat} {stk:List Ent} {ns:Bs → Option Bs} {S:Nat → Prop} (h:Own x w c v m sb fb n stk ns) (hm:Mod S w w') (hS:∀ b ∈ m :: (sb ++ fb),¬ S b) (hv:∀ b ∈ m :: (sb ++ fb),¬ x.S1 v' b):Own x w' c v' m sb fb n stk ns:=by
  obtain ⟨fl,hf⟩:=h.free
  exact ⟨h.stk.mod hm (fun b hb=>hS b (by simp [hb])),⟨fl,hf.mod hm (fun b hb=>hS b (by simp [hb]))⟩,h.map,h.ns.mod hm (hS m (by simp)),h.nodup,h.base,hv⟩
theorem Own.step {x:Cx} {w w':World} {c:DC} {v v':DV} {m:Nat} {sb fb:List Nat} {n:Nat} {stk:List Ent} {ns:Bs → Option Bs} (h:Own x w c v m sb fb n stk ns) (hs:Stp x w v w' v'):Own x w' c v' m sb fb n stk ns:=by
  refine h.mod hs.mod (fun b hb=>h.s1 b hb) (fun b hb hk=>?_)
  rcases hk with hk|hk
  · exact h.s1 b hb (Or.inl hk)
  · rcases hs.buf b hk with hk|hk
    · exact h.s1 b hb (Or.inr hk)
    · have:=h.lt b hb;omega
end Go.Proofs.YtkjnockljapnbaaGreatDoor
namespace Go.Proofs.YtkjnockljapnbaaGreatDoor
open Go Go.RowKit
theorem unq_cases (d:UInt8):(unqByte d=true∧((97 ≤ d.toNat∧d.toNat ≤ 122) ∨ (65 ≤ d.toNat∧d.toNat ≤ 90) ∨ (48 ≤ d.toNat∧d.toNat ≤ 57) ∨ d.toNat=95 ∨ d.toNat=58 ∨ d.toNat=45)) ∨
    (unqByte d=false∧(d.toNat < 45 ∨ (46 ≤ d.toNat∧d.toNat ≤ 47) ∨ (59 ≤ d.toNat∧d.toNat ≤ 64) ∨ (91 ≤ d.toNat∧d.toNat ≤ 94) ∨ d.toNat=96 ∨ 123 ≤ d.toNat)):=by
  have h:unqByte d=true ↔ ((97 ≤ d.toNat∧d.toNat ≤ 122) ∨ (65 ≤ d.toNat∧d.toNat ≤ 90) ∨ (48 ≤ d.toNat∧d.toNat ≤ 57) ∨ d.toNat=95 ∨ d.toNat=58 ∨ d.toNat=45):=by
    simp only [unqByte,Bool.or_eq_true,Bool.and_eq_true,decide_eq_true_eq,beq_iff_eq,UInt8.le_iff_toNat_le,← UInt8.toNat_inj]
    simp only [show (97:UInt8).toNat=97 from rfl,show (122:UInt8).toNat=122 from rfl,show (65:UInt8).toNat=65 from rfl,show (90:UInt8).toNat=90 from rfl,show (48:UInt8).toNat=48 from rfl,show (57:UInt8).toNat=57 from rfl,show (95:UInt8).toNat=95 from rfl,show (58:UInt8).toNat=58 from rfl,show (45:UInt8).toNat=45 from rfl]
    omega
  cases hu:unqByte d
  · right
    refine ⟨rfl,?_⟩
    have:¬ _:=fun hh=>by rw [h.2 hh] at hu;cases hu
    omega
  · left
    exact ⟨rfl,h.1 hu⟩
def AvInv (x:Cx) (c:DC) (w0:World) (v0:DV) (l0:Bs) (k:Nat) (a:Act) (w:World):Prop:=
  ∃ f v rest pre,a=fr 91 f [(0,decP x)]∧RdS x c w v rest none pre∧Stp x w0 v0 w v∧NonNil v∧k=rest.length∧pre.length + rest.length=l0.length∧spanUnq l0=(pre ++ (spanUnq rest).1,(spanUnq rest).2)
theorem attrval_c (x:Cx) (hx:x.All) (c:DC) (hdc:DcOk x c) (hno:NoEnt x c) (w:World) (v:DV) (rest:Bs) (e:Option EK) (buf:Bs) (h:RdS x c w v rest e buf) (hnn:NonNil v) :
    Calls Tryz.prog 50 #[decP x] w fun en w'=>∃ v',Stp x w v w' v'∧TextPost x c (some 0) false w' v' en (attrvalL x.o rest):=by
  have HX:=Lib.hid hx
  have HD:=Lib.hid hdc
  have HNO:=Lib.hid hno
  have HNN:=Lib.hid hnn
  cases rest with
  | nil=>
    have hg:=Lib.hid (mustgetc_none x hx.toOk c hdc w v e buf h)
    clear h hx hdc hno hnn
    refine calls_fr (vs:=[_]) 91 Tryz.func50 rfl rfl (Nat.le_of_ble_eq_true rfl) fun f=>?_
    simp only [argSlots]
    (repeat (first|(with_reducible first|refine zA fun K hK=>?_|refine zB ?_|refine zC ?_)|((with_reducible first|refine zD rfl fun K hK=>?_|refine zE fun K hK=>?_);go_simp)|(with_reducible first|((repeat ((fail_if_success refine hK _ _ ?_);clear hK K));refine hK _ _ ?_;clear hK K)|refine zt ?_|refine zf ?_|refine zG ?_|refine zR ?_|refine zK ?_|refine zL ?_|refine zN ?_|refine zS ?_)|simp only [Exit.then,Exit.inBlock,Exit.noGoto,↓reduceIte,Nat.reduceEqDiff]|simp only [undef,reduceCtorEq,↓reduceIte]))
    refine hg.out.mono ?_
    rintro e1 w1 ⟨rfl,v1,h1,hb1,hm1⟩
    have HS1:=Lib.hid (show Stp x w v w1 v1 from Stp.ofS0 hm1 (fun k=>by rw [hb1]))
    have H1:=Lib.hid h1
    clear h1 hb1 hm1 hg
    go_simp
    (repeat (first|(with_reducible first|refine zA fun K hK=>?_|refine zB ?_|refine zC ?_)|((with_reducible first|refine zD rfl fun K hK=>?_|refine zE fun K hK=>?_);go_simp)|(with_reducible first|((repeat ((fail_if_success refine hK _ _ ?_);clear hK K));refine hK _ _ ?_;clear hK K)|refine zt ?_|refine zf ?_|refine zG ?_|refine zR ?_|refine zK ?_|refine zL ?_|refine zN ?_|refine zS ?_)|simp only [Exit.then,Exit.inBlock,Exit.noGoto,↓reduceIte,Nat.reduceEqDiff]|simp only [undef,reduceCtorEq,↓reduceIte]))
    (refine fr_out1 rfl (by decide) (by simp only [lk_cons,lk_nil,Nat.reduceEqDiff,↓reduceIte];rfl) ?_)
    exact ⟨v1,HS1.out,rfl,H1.out⟩
  | cons b r=>
    have hg:=Lib.hid (mustgetc_some x hx.toOk c hdc w v b r e buf h)
    have HSUF:=Lib.hid h.suf
    clear h hx hdc hno hnn
    refine calls_fr (vs:=[_]) 91 Tryz.func50 rfl rfl (Nat.le_of_ble_eq_true rfl) fun f=>?_
    simp only [argSlots]
    (repeat (first|(with_reducible first|refine zA fun K hK=>?_|refine zB ?_|refine zC ?_)|((with_reducible first|refine zD rfl fun K hK=>?_|refine zE fun K hK=>?_);go_simp)|(with_reducible first|((repeat ((fail_if_success refine hK _ _ ?_);clear hK K));refine hK _ _ ?_;clear hK K)|refine zt ?_|refine zf ?_|refine zG ?_|refine zR ?_|refine zK ?_|refine zL ?_|refine zN ?_|refine zS ?_)|simp only [Exit.then,Exit.inBlock,Exit.noGoto,↓reduceIte,Nat.reduceEqDiff]|simp only [undef,reduceCtorEq,↓reduceIte]))
    refine hg.out.mono ?_
    rintro e1 w1 ⟨rfl,v1,h1,hn1,hb1,hm1,hz1⟩
    have HS1:=Lib.hid (show Stp x w v w1 v1 from Stp.ofS0 hm1 (fun k=>by rw [hb1]))
    have HNN1:=Lib.hid (HNN.out.of_eq hb1)
    have H1:=Lib.hid h1
    have HN1:=Lib.hid hn1
    have hc1:=h1.dec.cell
    have hf1:=h1.dec.frozen
    clear h1 hn1 hb1 hm1 hz1 hg
    by_cases hq:b=34 ∨ b=39
    · have hq':(((b.toNat:Int) == 34)=true) ∨ (((b.toNat:Int) == 34)=false∧((b.toNat:Int) == 39)=true):=by
        rcases hq with rfl|rfl
        · exact Or.inl rfl
        · exact Or.inr ⟨rfl,rfl⟩
      have hbw:IntKind.i64.wrap (b.toNat:Int)=(b.toNat:Int):=by have:=b.toNat_lt;rw [IntKind.wrap_i64];omega
      have htx:=Lib.hid (text_c x HX.out c HD.out HNO.out (some b) false w1 v1 r none buf H1.out (fun _=>HNN1.out) (fun hh=>by cases hh))
      have HQ:=Lib.hid hq
      clear hq
      rcases hq' with q1|⟨q1,q2⟩
      all_goals
        go_simp
        (repeat (first|(with_reducible first|refine zA fun K hK=>?_|refine zB ?_|refine zC ?_)|((with_reducible first|refine zD rfl fun K hK=>?_|refine zE fun K hK=>?_);go_simp)|(with_reducible first|((repeat ((fail_if_success refine hK _ _ ?_);clear hK K));refine hK _ _ ?_;clear hK K)|refine zt ?_|refine zf ?_|refine zG ?_|refine zR ?_|refine zK ?_|refine zL ?_|refine zN ?_|refine zS ?_)|simp only [Exit.then,Exit.inBlock,Exit.noGoto,↓reduceIte,Nat.reduceEqDiff]|simp only [undef,reduceCtorEq,↓reduceIte]))
        refine htx.out.mono ?_
        rintro e2 w2 ⟨v2,hS,hP⟩
        have HS2:=Lib.hid (HS1.out.trans hS)
        have HP2:=Lib.hid hP
        clear hS hP htx
        have hav:attrvalL x.o (b :: r)=textL x.o (some b) false r 0 0 []:=by
          simp only [attrvalL];rw [if_pos HQ.out]
        have HAV:=Lib.hid hav
        clear hav
        cases hT:textL x.o (some b) false r 0 0 [] with
        | error k=>
          have hP:=HP2.out
          rw [hT] at hP
          obtain ⟨rfl,hE⟩:=hP
          have HE:=Lib.hid hE
          clear hE
          go_simp
          (repeat (first|(with_reducible first|refine zA fun K hK=>?_|refine zB ?_|refine zC ?_)|((with_reducible first|refine zD rfl fun K hK=>?_|refine zE fun K hK=>?_);go_simp)|(with_reducible first|((repeat ((fail_if_success refine hK _ _ ?_);clear hK K));refine hK _ _ ?_;clear hK K)|refine zt ?_|refine zf ?_|refine zG ?_|refine zR ?_|refine zK ?_|refine zL ?_|refine zN ?_|refine zS ?_)|simp only [Exit.then,Exit.inBlock,Exit.noGoto,↓reduceIte,Nat.reduceEqDiff]|simp only [undef,reduceCtorEq,↓reduceIte]))
          (refine fr_out1 rfl (by decide) (by simp only [lk_cons,lk_nil,Nat.reduceEqDiff,↓reduceIte];rfl) ?_)
          exact ⟨v2,HS2.out,by rw [HAV.out,hT];exact ⟨rfl,HE.out⟩⟩
        | ok p=>
          obtain ⟨d,r'⟩:=p
          have hP:=HP2.out
          rw [hT] at hP
          obtain ⟨g,cap,e',b',rfl,hR,hv,ht,hl,_⟩:=hP
          have HR:=Lib.hid hR
          have HV:=Lib.hid hv
          have HTK:=Lib.hid ht
          have HTT:=Lib.hid hT
          clear hR hv ht hT
          go_simp
          (repeat (first|(with_reducible first|refine zA fun K hK=>?_|refine zB ?_|refine zC ?_)|((with_reducible first|refine zD rfl fun K hK=>?_|refine zE fun K hK=>?_);go_simp)|(with_reducible first|((repeat ((fail_if_success refine hK _ _ ?_);clear hK K));refine hK _ _ ?_;clear hK K)|refine zt ?_|refine zf ?_|refine zG ?_|refine zR ?_|refine zK ?_|refine zL ?_|refine zN ?_|refine zS ?_)|simp only [Exit.then,Exit.inBlock,Exit.noGoto,↓reduceIte,Nat.reduceEqDiff]|simp only [undef,reduceCtorEq,↓reduceIte]))
          (refine fr_out1 rfl (by decide) (by simp only [lk_cons,lk_nil,Nat.reduceEqDiff,↓reduceIte];rfl) ?_)
          exact ⟨v2,HS2.out,by rw [HAV.out,HTT.out];exact ⟨g,cap,e',b',rfl,HR.out,HV.out,HTK.out,hl,fun hh=>(by cases hh),fun hh=>(by cases hh)⟩⟩
    · have q1:((b.toNat:Int) == 34)=false:=u8ne (c:=34) (fun hh=>hq (Or.inl hh)) rfl
      have q2:((b.toNat:Int) == 39)=false:=u8ne (c:=39) (fun hh=>hq (Or.inr hh)) rfl
      have hav:attrvalL x.o (b :: r)=if c.strict then .error .syn else match (spanUnq (b :: r)).2 with|[]=>.error (mustE x.o.fails)|_=>.ok (spanUnq (b :: r)):=by
        simp only [attrvalL];rw [if_neg hq,HD.out.strict]
        rfl
      have HAV:=Lib.hid hav
      clear hav hq
      cases hst:c.strict with
      | true=>
        have HSY:=Lib.hid (fun msg=>synErr_w HX.out.toOk H1.out msg)
        go_simp
        (repeat (first|(with_reducible first|refine zA fun K hK=>?_|refine zB ?_|refine zC ?_)|((with_reducible first|refine zD rfl fun K hK=>?_|refine zE fun K hK=>?_);go_simp)|(with_reducible first|((repeat ((fail_if_success refine hK _ _ ?_);clear hK K));refine hK _ _ ?_;clear hK K)|refine zt ?_|refine zf ?_|refine zG ?_|refine zR ?_|refine zK ?_|refine zL ?_|refine zN ?_|refine zS ?_)|simp only [Exit.then,Exit.inBlock,Exit.noGoto,↓reduceIte,Nat.reduceEqDiff]|simp only [undef,reduceCtorEq,↓reduceIte]))
        refine (HSY.out _).mono ?_
        rintro e2 w2 ⟨rfl,hS⟩
        have hc2:=hS.dec.cell
        have hf2:=hS.dec.frozen
        have HS:=Lib.hid hS
        clear hS
        go_simp
        (repeat (first|(with_reducible first|refine zA fun K hK=>?_|refine zB ?_|refine zC ?_)|((with_reducible first|refine zD rfl fun K hK=>?_|refine zE fun K hK=>?_);go_simp)|(with_reducible first|((repeat ((fail_if_success refine hK _ _ ?_);clear hK K));refine hK _ _ ?_;clear hK K)|refine zt ?_|refine zf ?_|refine zG ?_|refine zR ?_|refine zK ?_|refine zL ?_|refine zN ?_|refine zS ?_)|simp only [Exit.then,Exit.inBlock,Exit.noGoto,↓reduceIte,Nat.reduceEqDiff]|simp only [undef,reduceCtorEq,↓reduceIte]))
        (refine fr_out1 rfl (by decide) (by simp only [lk_cons,lk_nil,Nat.reduceEqDiff,↓reduceIte];rfl) ?_)
        exact ⟨_,HS1.out.trans HS.out.stp,by rw [HAV.out,hst,if_pos rfl];exact ⟨rfl,HS.out.err⟩⟩
      | false=>
        have hug:=Lib.hid (ungetc_c x HX.out.toOk c w1 v1 b r buf H1.out HN1.out HSUF.out)
        go_simp
        (repeat (first|(with_reducible first|refine zA fun K hK=>?_|refine zB ?_|refine zC ?_)|((with_reducible first|refine zD rfl fun K hK=>?_|refine zE fun K hK=>?_);go_simp)|(with_reducible first|((repeat ((fail_if_success refine hK _ _ ?_);clear hK K));refine hK _ _ ?_;clear hK K)|refine zt ?_|refine zf ?_|refine zG ?_|refine zR ?_|refine zK ?_|refine zL ?_|refine zN ?_|refine zS ?_)|simp only [Exit.then,Exit.inBlock,Exit.noGoto,↓reduceIte,Nat.reduceEqDiff]|simp only [undef,reduceCtorEq,↓reduceIte]))
        refine hug.out.mono ?_
        rintro e2 w2 ⟨rfl,v2,h2,hn2,hb2,hm2,hz2⟩
        have HS2:=Lib.hid (HS1.out.trans (show Stp x w1 v1 w2 v2 from Stp.ofS0 hm2 (fun k=>by rw [hb2])))
        have HNN2:=Lib.hid (HNN1.out.of_eq hb2)
        have hrs:=Lib.hid (reset_c x HX.out.toOk c w2 v2 (b :: r) none buf h2)
        clear h2 hn2 hb2 hm2 hz2 hug hc1 hf1
        go_simp
        (repeat (first|(with_reducible first|refine zA fun K hK=>?_|refine zB ?_|refine zC ?_)|((with_reducible first|refine zD rfl fun K hK=>?_|refine zE fun K hK=>?_);go_simp)|(with_reducible first|((repeat ((fail_if_success refine hK _ _ ?_);clear hK K));refine hK _ _ ?_;clear hK K)|refine zt ?_|refine zf ?_|refine zG ?_|refine zR ?_|refine zK ?_|refine zL ?_|refine zN ?_|refine zS ?_)|simp only [Exit.then,Exit.inBlock,Exit.noGoto,↓reduceIte,Nat.reduceEqDiff]|simp only [undef,reduceCtorEq,↓reduceIte]))
        refine hrs.out.mono ?_
        rintro e3 w3 ⟨rfl,v3,h3,hn3,hb3,hm3,hz3⟩
        have HS3:=Lib.hid (HS2.out.trans (show Stp x w2 v2 w3 v3 from Stp.ofS0 hm3 hb3))
        have HNN3:=Lib.hid (HNN2.out.of_iff hb3)
        have H3:=Lib.hid h3
        clear h3 hn3 hb3 hm3 hz3 hrs
        go_simp
        (repeat (first|(with_reducible first|refine zA fun K hK=>?_|refine zB ?_|refine zC ?_)|((with_reducible first|refine zD rfl fun K hK=>?_|refine zE fun K hK=>?_);go_simp)|(with_reducible first|((repeat ((fail_if_success refine hK _ _ ?_);clear hK K));refine hK _ _ ?_;clear hK K)|refine zt ?_|refine zf ?_|refine zG ?_|refine zR ?_|refine zK ?_|refine zL ?_|refine zN ?_|refine zS ?_)|simp only [Exit.then,Exit.inBlock,Exit.noGoto,↓reduceIte,Nat.reduceEqDiff]|simp only [undef,reduceCtorEq,↓reduceIte]))
        (refine wp_keep [0] (fun f=>?_);simp only [keep_cons,keep_nil,lk_cons,lk_nil,Nat.reduceEqDiff,↓reduceIte])
        have HST:=Lib.hid hst
        clear q1 q2 hst
        refine wp_loop_ghost_k (AvInv x c w v (b :: r)) (b :: r).length ⟨f,v3,b :: r,[],rfl,H3.out,HS3.out,HNN3.out,rfl,by simp,rfl⟩ ?_
        rintro k _ w4 ⟨f,v4,rest,pre,rfl,h4,hs4,hn4,hk,hlen,hsp⟩ J K2 hJ hK2
        have HJ:=Lib.hid hJ
        have HK2:=Lib.hid hK2
        have HS4:=Lib.hid hs4
        have HN4:=Lib.hid hn4
        have HKK:=Lib.hid hk
        have HSP:=Lib.hid hsp
        have HLEN:=Lib.hid hlen
        have HBL:=Lib.hid (show (b :: r).length ≤ 1000000000 from Nat.le_trans (HSUF.out.length_le) HX.out.len)
        clear hJ hK2 hs4 hn4 hk hsp hlen
        cases rest with
        | nil=>
          have hg:=Lib.hid (mustgetc_none x HX.out.toOk c HD.out w4 v4 none pre h4)
          clear h4
          (repeat (first|(with_reducible first|refine zA fun K hK=>?_|refine zB ?_|refine zC ?_)|((with_reducible first|refine zD rfl fun K hK=>?_|refine zE fun K hK=>?_);go_simp)|(with_reducible first|((repeat ((fail_if_success refine hK _ _ ?_);clear hK K));refine hK _ _ ?_;clear hK K)|refine zt ?_|refine zf ?_|refine zG ?_|refine zR ?_|refine zK ?_|refine zL ?_|refine zN ?_|refine zS ?_)|simp only [Exit.then,Exit.inBlock,Exit.noGoto,↓reduceIte,Nat.reduceEqDiff]|simp only [undef,reduceCtorEq,↓reduceIte]))
          refine hg.out.mono ?_
          rintro e5 w5 ⟨rfl,v5,h5,hb5,hm5⟩
          have HS5:=Lib.hid (HS4.out.trans (show Stp x w4 v4 w5 v5 from Stp.ofS0 hm5 (fun k=>by rw [hb5])))
          have H5:=Lib.hid h5
          clear h5 hb5 hm5 hg
          go_simp
          (repeat (first|(with_reducible first|refine zA fun K hK=>?_|refine zB ?_|refine zC ?_)|((with_reducible first|refine zD rfl fun K hK=>?_|refine zE fun K hK=>?_);go_simp)|(with_reducible first|((repeat ((fail_if_success refine hK _ _ ?_);clear hK K));refine hK _ _ ?_;clear hK K)|refine zt ?_|refine zf ?_|refine zG ?_|refine zR ?_|refine zK ?_|refine zL ?_|refine zN ?_|refine zS ?_)|simp only [Exit.then,Exit.inBlock,Exit.noGoto,↓reduceIte,Nat.reduceEqDiff]|simp only [undef,reduceCtorEq,↓reduceIte]))
          (refine fr_out1 rfl (by decide) (by simp only [lk_cons,lk_nil,Nat.reduceEqDiff,↓reduceIte];rfl) ?_)
          refine ⟨v5,HS5.out,?_⟩
          rw [HAV.out,HST.out,HSP.out]
          exact ⟨rfl,H5.out⟩
        | cons d t=>
          have hsuf:=Lib.hid h4.suf
          have hg:=Lib.hid (mustgetc_some x HX.out.toOk c HD.out w4 v4 d t none pre h4)
          clear h4
          (repeat (first|(with_reducible first|refine zA fun K hK=>?_|refine zB ?_|refine zC ?_)|((with_reducible first|refine zD rfl fun K hK=>?_|refine zE fun K hK=>?_);go_simp)|(with_reducible first|((repeat ((fail_if_success refine hK _ _ ?_);clear hK K));refine hK _ _ ?_;clear hK K)|refine zt ?_|refine zf ?_|refine zG ?_|refine zR ?_|refine zK ?_|refine zL ?_|refine zN ?_|refine zS ?_)|simp only [Exit.then,Exit.inBlock,Exit.noGoto,↓reduceIte,Nat.reduceEqDiff]|simp only [undef,reduceCtorEq,↓reduceIte]))
          refine hg.out.mono ?_
          rintro e5 w5 ⟨rfl,v5,h5,hn5,hb5,hm5,hz5⟩
          have HS5:=Lib.hid (HS4.out.trans (show Stp x w4 v4 w5 v5 from Stp.ofS0 hm5 (fun k=>by rw [hb5])))
          have HNN5:=Lib.hid (HN4.out.of_eq hb5)
          have H5:=Lib.hid h5
          have HN5:=Lib.hid hn5
          clear h5 hn5 hb5 hm5 hz5 hg
          rcases unq_cases d with ⟨hu,hd⟩|⟨hu,hd⟩
          · have hlim:pre.length ≤ 50000000000000:=by have:=HLEN.out;have:=HBL.out;simp at *;omega
            have hwb:=Lib.hid (writeByte_k x HX.out.toOk c w5 v5 t none pre H5.out d hlim)
            have HU:=Lib.hid hu
            clear hu hlim
            rcases hd with hd|hd|hd|hd|hd|hd
            all_goals
              first|have:((97:Int) ≤ (d.toNat:Int)):=by omega|have:¬ (((97:Int) ≤ (d.toNat:Int))):=by omega
              first|have:((d.toNat:Int) ≤ 122):=by omega|have:¬ (((d.toNat:Int) ≤ 122)):=by omega
              first|have:((65:Int) ≤ (d.toNat:Int)):=by omega|have:¬ (((65:Int) ≤ (d.toNat:Int))):=by omega
              first|have:((d.toNat:Int) ≤ 90):=by omega|have:¬ (((d.toNat:Int) ≤ 90)):=by omega
              first|have:((48:Int) ≤ (d.toNat:Int)):=by omega|have:¬ (((48:Int) ≤ (d.toNat:Int))):=by omega
              first|have:((d.toNat:Int) ≤ 57):=by omega|have:¬ (((d.toNat:Int) ≤ 57)):=by omega
              first|have:((((d.toNat:Int))) == (95))=true:=by (simp;omega)|have:((((d.toNat:Int))) == (95))=false:=by (simp;omega)
              first|have:((((d.toNat:Int))) == (58))=true:=by (simp;omega)|have:((((d.toNat:Int))) == (58))=false:=by (simp;omega)
              first|have:((((d.toNat:Int))) == (45))=true:=by (simp;omega)|have:((((d.toNat:Int))) == (45))=false:=by (simp;omega)
              clear hd
              go_simp
              (repeat (first|(with_reducible first|refine zA fun K hK=>?_|refine zB ?_|refine zC ?_)|((with_reducible first|refine zD rfl fun K hK=>?_|refine zE fun K hK=>?_);go_simp)|(with_reducible first|((repeat ((fail_if_success refine hK _ _ ?_);clear hK K));refine hK _ _ ?_;clear hK K)|refine zt ?_|refine zf ?_|refine zG ?_|refine zR ?_|refine zK ?_|refine zL ?_|refine zN ?_|refine zS ?_)|simp only [Exit.then,Exit.inBlock,Exit.noGoto,↓reduceIte,Nat.reduceEqDiff]|simp only [undef,reduceCtorEq,↓reduceIte]))
              refine hwb.out.mono ?_
              rintro e6 w6 ⟨rfl,v6,⟨h6,hn6,hs6⟩,hnn6⟩
              clear hwb
              go_simp
              (repeat (first|(with_reducible first|refine zA fun K hK=>?_|refine zB ?_|refine zC ?_)|((with_reducible first|refine zD rfl fun K hK=>?_|refine zE fun K hK=>?_);go_simp)|(with_reducible first|((repeat ((fail_if_success refine hK _ _ ?_);clear hK K));refine hK _ _ ?_;clear hK K)|refine zt ?_|refine zf ?_|refine zG ?_|refine zR ?_|refine zK ?_|refine zL ?_|refine zN ?_|refine zS ?_)|simp only [Exit.then,Exit.inBlock,Exit.noGoto,↓reduceIte,Nat.reduceEqDiff]|simp only [undef,reduceCtorEq,↓reduceIte]))
              (refine K_keep [0] (fun f=>?_);simp only [keep_cons,keep_nil,lk_cons,lk_nil,Nat.reduceEqDiff,↓reduceIte])
              refine HK2.out _ _ ⟨t.length,by rw [HKK.out];simp,HJ.out _ _ _ ⟨f,v6,t,pre ++ [d],rfl,h6,HS5.out.trans hs6,h6.nonnil (by simp),rfl,?_,?_⟩⟩
              · have:=HLEN.out;simp at this ⊢;omega
              · rw [HSP.out];rw [spanUnq,if_pos HU.out];simp
          · have hug:=Lib.hid (ungetc_c x HX.out.toOk c w5 v5 d t pre H5.out HN5.out hsuf.out)
            have HU:=Lib.hid hu
            clear hu
            rcases hd with hd|hd|hd|hd|hd|hd
            all_goals
              first|have:((97:Int) ≤ (d.toNat:Int)):=by omega|have:¬ (((97:Int) ≤ (d.toNat:Int))):=by omega
              first|have:((d.toNat:Int) ≤ 122):=by omega|have:¬ (((d.toNat:Int) ≤ 122)):=by omega
              first|have:((65:Int) ≤ (d.toNat:Int)):=by omega|have:¬ (((65:Int) ≤ (d.toNat:Int))):=by omega
              first|have:((d.toNat:Int) ≤ 90):=by omega|have:¬ (((d.toNat:Int) ≤ 90)):=by omega
              first|have:((48:Int) ≤ (d.toNat:Int)):=by omega|have:¬ (((48:Int) ≤ (d.toNat:Int))):=by omega
              first|have:((d.toNat:Int) ≤ 57):=by omega|have:¬ (((d.toNat:Int) ≤ 57)):=by omega
              first|have:((((d.toNat:Int))) == (95))=true:=by (simp;omega)|have:((((d.toNat:Int))) == (95))=false:=by (simp;omega)
              first|have:((((d.toNat:Int))) == (58))=true:=by (simp;omega)|have:((((d.toNat:Int))) == (58))=false:=by (simp;omega)
              first|have:((((d.toNat:Int))) == (45))=true:=by (simp;omega)|have:((((d.toNat:Int))) == (45))=false:=by (simp;omega)
              clear hd
              go_simp
              (repeat (first|(with_reducible first|refine zA fun K hK=>?_|refine zB ?_|refine zC ?_)|((with_reducible first|refine zD rfl fun K hK=>?_|refine zE fun K hK=>?_);go_simp)|(with_reducible first|((repeat ((fail_if_success refine hK _ _ ?_);clear hK K));refine hK _ _ ?_;clear hK K)|refine zt ?_|refine zf ?_|refine zG ?_|refine zR ?_|refine zK ?_|refine zL ?_|refine zN ?_|refine zS ?_)|simp only [Exit.then,Exit.inBlock,Exit.noGoto,↓reduceIte,Nat.reduceEqDiff]|simp only [undef,reduceCtorEq,↓reduceIte]))
              refine hug.out.mono ?_
              rintro e6 w6 ⟨rfl,v6,h6,hn6,hb6,hm6,hz6⟩
              have HS6:=Lib.hid (HS5.out.trans (show Stp x w5 v5 w6 v6 from Stp.ofS0 hm6 (fun k=>by rw [hb6])))
              have HNN6:=Lib.hid (HNN5.out.of_eq hb6)
              have hby:=Lib.hid (bytes_c x c w6 v6 (d :: t) none pre h6)
              have H6:=Lib.hid h6
              clear h6 hn6 hb6 hm6 hz6 hug
              go_simp
              (repeat (first|(with_reducible first|refine zA fun K hK=>?_|refine zB ?_|refine zC ?_)|((with_reducible first|refine zD rfl fun K hK=>?_|refine zE fun K hK=>?_);go_simp)|(with_reducible first|((repeat ((fail_if_success refine hK _ _ ?_);clear hK K));refine hK _ _ ?_;clear hK K)|refine zt ?_|refine zf ?_|refine zG ?_|refine zR ?_|refine zK ?_|refine zL ?_|refine zN ?_|refine zS ?_)|simp only [Exit.then,Exit.inBlock,Exit.noGoto,↓reduceIte,Nat.reduceEqDiff]|simp only [undef,reduceCtorEq,↓reduceIte]))
              refine hby.out.mono ?_
              rintro e7 w7 ⟨rfl,k7,rfl⟩
              clear hby
              go_simp
              (repeat (first|(with_reducible first|refine zA fun K hK=>?_|refine zB ?_|refine zC ?_)|((with_reducible first|refine zD rfl fun K hK=>?_|refine zE fun K hK=>?_);go_simp)|(with_reducible first|((repeat ((fail_if_success refine hK _ _ ?_);clear hK K));refine hK _ _ ?_;clear hK K)|refine zt ?_|refine zf ?_|refine zG ?_|refine zR ?_|refine zK ?_|refine zL ?_|refine zN ?_|refine zS ?_)|simp only [Exit.then,Exit.inBlock,Exit.noGoto,↓reduceIte,Nat.reduceEqDiff]|simp only [undef,reduceCtorEq,↓reduceIte]))
              (refine fr_out1 rfl (by decide) (by simp only [lk_cons,lk_nil,Nat.reduceEqDiff,↓reduceIte];rfl) ?_)
              refine ⟨v6,HS6.out.trans (Stp.drewN _),?_⟩
              have h2:spanUnq (b :: r)=(pre,d :: t):=by
                rw [HSP.out,spanUnq,if_neg (by rw [HU.out];simp)];simp
              rw [HAV.out,HST.out,h2]
              rcases H6.out.bf with ⟨h1,_⟩|⟨g,cap,arr,hv,_⟩
              · exact absurd h1 HNN6.out.ne
              · exact ⟨g,cap,none,pre,by rw [hv],H6.out.drewN HX.out.toOk _,hv,by rw [List.take_length],Nat.le_refl _,fun hh=>(by cases hh),fun hh=>(by cases hh)⟩
end Go.Proofs.YtkjnockljapnbaaGreatDoor
