/- Part of the proof that laws.FnBeginning, laws.FnPlaces returns true for every argument (Bx, Wb, Ws, Tr). No condition of its own. -/
import Derived.Test.YtkjnockljapnbaaGreatDoorK09
import Derived.Lib.BufferWrite
set_option linter.all false
set_option maxHeartbeats 8000000
set_option maxRecDepth 100000
namespace Go.Proofs.YtkjnockljapnbaaGreatDoor
open Go Go.RowKit
theorem grow_some (x:Cx) (hx:x.Ok) (c:DC) (w:World) (v:DV) (rest:Bs) (e:Option EK) (buf:Bs) (h:RdS x c w v rest e buf) (g cap:Nat) (arr:Array Value) (hv:v.bufv=.slice (some ⟨g,0,none⟩) buf.length cap)
    (hg:Blk w g arr 5) (hsz:arr.size=cap) (hlc:buf.length ≤ cap) (hel:∀ j,j < buf.length → arr[j]?=some (.int .u8 (buf.getD j 0).toNat))
    (n:Nat) (hn:1 ≤ n) (hr:cap < buf.length + n) (hlim:buf.length + n ≤ 100000000000000) :
    Calls Tryz.prog 70 #[.pointer (some ⟨x.d,7,none⟩),.int .i64 n] w fun en w'=>en=.returned (.int .i64 buf.length)∧∃ g cap arr,GrowPost x c w v buf n w' g cap arr:=by
  have hc:=h.dec.cell
  have hf:=h.dec.frozen
  have hlen:=Lib.hid (len_c x c w v rest e buf h)
  have HX:=Lib.hid hx
  have H:=Lib.hid h
  have htry:=Lib.hid (fun k=>tryGrow_no x.d c v (w.drewN k) h.dec _ _ _ n hv hlc hr (by omega))
  have hgr:=Lib.hid (fun k=>Tryz.bytes_growSlice_row g buf.length cap n arr (w.drewN k) hg hsz hlc hn (by omega) (by omega) (by
    intro u hu
    obtain ⟨j,hj,rfl⟩:=List.mem_iff_getElem.1 hu
    have hj':j < buf.length:=by simp at hj;omega
    have:=hel j hj'
    simp only [List.getElem_take]
    rw [Array.getElem?_eq_some_iff] at this
    obtain ⟨h1,h2⟩:=this
    simp [h2,Value.oneCell']))
  have HEL:=Lib.hid hel
  have hmax:¬ ((9223372036854775807:Int) - (cap:Int) - (n:Int) < (cap:Int)):=by omega
  have hq:¬ ((n:Int) ≤ (cap:Int) / 2 - (buf.length:Int)):=by omega
  have hcap:(cap:Int) ≤ 100000000000000:=by omega
  have hb0:(0:Int) ≤ (buf.length:Int):=by omega
  have hbl:(buf.length:Int) ≤ 100000000000000:=by omega
  have hnl:(n:Int) ≤ 100000000000000:=by omega
  have hwn:IntKind.i64.wrap (n:Int)=n:=IntWalk.i64_in _ (by omega)
  obtain ⟨sb,sl,snb,serr,sline,sls,soff⟩:=v
  simp only at hv
  subst hv
  clear h hx hel hg
  obtain ⟨L,hL⟩:∃ L,L=buf.length:=⟨_,rfl⟩
  rw [← hL] at hc hlen hgr HEL hq hb0 hbl H hlc hr hlim
  have HL:=Lib.hid hL
  rw [← hL]
  clear hL
  have hz:((L:Int) == 0)=true ∨ ((L:Int) == 0)=false:=by cases ((L:Int) == 0) <;> simp
  rcases hz with hz|hz
  all_goals
    go_enter Tryz.func70,Tryz.ntmps70
    go_wp2_with fail
    refine hlen.out.mono ?_
    rintro e1 w1 ⟨rfl,k,rfl⟩
    have hc':∀ o,(w.drewN k).cell? ⟨x.d,o,none⟩=(dcells c ⟨.slice (some ⟨g,0,none⟩) L cap,sl,snb,serr,sline,sls,soff⟩)[o]?:=hc
    have hf':∀ o,(w.drewN k).frozen? ⟨x.d,o,none⟩=false:=hf
    have heql:=fun (w:World) (a:Option Addr) (n c:Nat)=>Lib.run_eql_slice_nil (P:=Tryz.prog) w 74 5 a n c 0 0 Tryz.underlying74
    go_wp2_with fail
    refine (htry.out _).mono ?_
    rintro e2 w2 ⟨rfl,rfl⟩
    go_wp2_with fail
    (refine wp_region_pi [0,0,0,0,1,0,0,0,1,1,0,0,0,1,0,1,2,0,0,2] [0,1,2,3,5,6,7,10,11,12,14,4,8,9,13,15,16,17,18,19] (by kernel_rfl) (by kernel_rfl) ?_;repeat (first|(with_reducible refine wpPi_nil (fun nq=>?_))|((with_reducible refine wpPi_free rfl rfl (fun K hK=>?_));go_simp;refine hK _ ?_;clear hK K)|((with_reducible refine wpPi_quiet rfl rfl (fun K hK=>?_));go_simp;refine hK _ ?_;clear hK K)|((with_reducible refine wpPi_eff rfl rfl (fun nq K hK=>?_));go_simp;refine hK.out _ _ ?_;clear hK K)))
    refine wpPi_eff rfl rfl (fun nq K hK=>?_)
    go_simp
    go_at_call 85
    refine (hgr.out _).mono ?_
    rintro e3 w3 ⟨cap2,cells,rfl,k1,k2,k3,k4,k5,k6⟩
    have hd3:=Blk.mod (w:=w) (w':=w3) (S:=fun _=>False) H.out.dec ⟨k6.os,k6.tape,k6.output,k6.size,fun i hi _=>k6.block i hi⟩ id
    have hc3:=hd3.cell
    have hf3:=hd3.frozen
    have HD3:=Lib.hid hd3
    have HK1:=Lib.hid k1
    have HK3:=Lib.hid k3
    have HK6:=Lib.hid k6
    have h4:(L:Int) + (n:Int) ≤ (cap2:Int):=by omega
    have h5:(cap2:Int) ≤ 9223372036854775807:=by unfold maxLen at k5;omega
    clear hd3 k1 k3 k6 k5
    go_wp2_with fail
    refine hK.out _ _ ?_
    clear hK K
    (repeat (first|(with_reducible refine wpPi_nil (fun nq=>?_))|((with_reducible refine wpPi_free rfl rfl (fun K hK=>?_));go_simp;refine hK _ ?_;clear hK K)|((with_reducible refine wpPi_quiet rfl rfl (fun K hK=>?_));go_simp;refine hK _ ?_;clear hK K)|((with_reducible refine wpPi_eff rfl rfl (fun nq K hK=>?_));go_simp;refine hK.out _ _ ?_;clear hK K)))
    go_wp2
    go_ret
    have hgd:w.heap.size ≠ x.d:=fun h=>by have:=H.out.dec.lt;omega
    have hm3:Mod (fun k=>k=x.d) w w3:=⟨HK6.out.os,HK6.out.tape,HK6.out.output,HK6.out.size,fun i hi _=>HK6.out.block i hi⟩
    have hb:Blk w3 w.heap.size cells 5:=HK1.out
    refine ⟨by trivial,w.heap.size,cap2,cells,?_,?_,by assumption,by rw [← HL.out];assumption,by omega,Nat.le_refl _,?_,?_⟩
    · rw [← HL.out]
      exact ((HD3.out.set 7 (.slice (some ⟨w.heap.size,0,none⟩) L cap2)).set 8 (.int .i64 0)).set 7 (.slice (some ⟨w.heap.size,0,none⟩) (L + n) cap2)
    · exact ((hb.set_ne (a:=⟨x.d,7,none⟩) hgd (.slice (some ⟨w.heap.size,0,none⟩) L cap2)).set_ne (a:=⟨x.d,8,none⟩) hgd (.int .i64 0)).set_ne (a:=⟨x.d,7,none⟩) hgd (.slice (some ⟨w.heap.size,0,none⟩) (L + n) cap2)
    · intro j hj
      have hjL:j < L:=by rw [HL.out];exact hj
      have h1:=HEL.out j hjL
      have h2:=congrArg (fun l=>l[j]?) HK3.out
      simp only [List.getElem?_take,hjL,if_true,Array.getElem?_toList] at h2
      rw [h2];exact h1
    · exact (((((hm3.drewN _).setCell (p:=⟨x.d,7,none⟩) (Or.inl rfl) (.slice (some ⟨w.heap.size,0,none⟩) L cap2)).drewN _).setCell (p:=⟨x.d,8,none⟩) (Or.inl rfl) (.int .i64 0)).setCell (p:=⟨x.d,7,none⟩) (Or.inl rfl) (.slice (some ⟨w.heap.size,0,none⟩) (L + n) cap2))
end Go.Proofs.YtkjnockljapnbaaGreatDoor
namespace Go.Proofs.YtkjnockljapnbaaGreatDoor
open Go Go.RowKit
theorem grow_any (x:Cx) (hx:x.Ok) (c:DC) (w:World) (v:DV) (rest:Bs) (e:Option EK) (buf:Bs) (h:RdS x c w v rest e buf) (n:Nat) (hn:1 ≤ n) (hn2:n ≤ 64)
    (hr:∀ a len cap,v.bufv=.slice (some a) len cap → cap < buf.length + n) (hlim:buf.length + n ≤ 100000000000000) :
    Calls Tryz.prog 70 #[.pointer (some ⟨x.d,7,none⟩),.int .i64 n] w fun en w'=>en=.returned (.int .i64 buf.length)∧∃ g cap arr,GrowPost x c w v buf n w' g cap arr:=by
  rcases h.bf with ⟨hv,hb⟩|⟨g,cap,arr,hv,hg,hsz,hl,hcp,hBg,hnS,hel⟩
  · subst hb;exact grow_nil x hx c w v rest e h hv n hn hn2
  · exact grow_some x hx c w v rest e buf h g cap arr hv hg hsz hl hel n hn (hr _ _ _ hv) hlim
theorem RdS.s0lt {x:Cx} {c:DC} {w:World} {v:DV} {rest:Bs} {e:Option EK} {buf:Bs} (h:RdS x c w v rest e buf) (k:Nat) (hk:x.S0 k):k < w.heap.size:=by
  obtain ⟨un,⟨r,q,n,lb,arr,s,us,h1,h2,_,h3,_⟩,_⟩:=h.inp
  rcases hk with hk|hk|hk|hk <;> subst hk
  · exact Blk.lt h.dec
  · exact h1.lt
  · exact h2.lt
  · exact h3.lt
theorem RdS.more {x:Cx} (hx:x.Ok) {c:DC} {w:World} {v:DV} {rest:Bs} {e:Option EK} {buf:Bs} (h:RdS x c w v rest e buf) (bs:Bs) (w':World) (v':DV) (g cap:Nat) (arr:Array Value)
    (dec:DecAt w' x.d c v') (hbv:v'.bufv=.slice (some ⟨g,0,none⟩) (buf.length + bs.length) cap) (blk:Blk w' g arr 5) (sz:arr.size=cap) (cp:buf.length + bs.length ≤ cap) (cm:cap ≤ 9223372036854775807)
    (hg:(bufBlk v.bufv g∧x.B ≤ g∧¬ x.S0 g) ∨ w.heap.size ≤ g) (el:∀ j,j < buf.length → arr[j]?=some (.int .u8 (buf.getD j 0).toNat)) (el2:∀ j,j < bs.length → arr[buf.length + j]?=some (.int .u8 (bs.getD j 0).toNat))
    (hm:Mod (fun k=>k=x.d ∨ bufBlk v.bufv k) w w') (h1:v'.nb=v.nb) (h2:v'.err=v.err) (h3:v'.line=v.line) (h4:v'.lstart=v.lstart) (h5:v'.off=v.off) :
    RdS x c w' v' rest e (buf ++ bs)∧v'.nb=v.nb∧Stp x w v w' v':=by
  have hgg:x.B ≤ g∧¬ x.S0 g:=by
    rcases hg with ⟨_,b,c⟩|hg
    · exact ⟨b,c⟩
    · refine ⟨Nat.le_trans ?_ hg,fun hs=>?_⟩
      · exact h.base.size
      · have:=h.s0lt g hs;omega
  refine ⟨h.buf hx dec hm h1 h2 h3 h4 h5 (Or.inr ⟨g,cap,arr,by rw [List.length_append];exact hbv,blk,sz,by rw [List.length_append];exact cp,cm,hgg.1,hgg.2,fun j hj=>?_⟩),h1,⟨hm.mono (fun k _ hk=>by
    rcases hk with hk|hk
    · exact Or.inl (Or.inl hk)
    · exact Or.inr hk),fun k hk=>?_⟩⟩
  · rw [List.length_append] at hj
    by_cases hjl:j < buf.length
    · rw [el j hjl];simp [List.getD_eq_getElem?_getD,List.getElem?_append_left hjl]
    · have:=el2 (j - buf.length) (by omega)
      rw [show buf.length + (j - buf.length)=j by omega] at this
      rw [this];simp [List.getD_eq_getElem?_getD,List.getElem?_append_right (Nat.le_of_not_lt hjl)]
  · rw [hbv] at hk
    have:k=g:=hk
    subst this
    rcases hg with ⟨a,_⟩|hg
    · exact Or.inl a
    · exact Or.inr hg
theorem cell_of_heap {w w':World} {g:Nat} (h:w'.heap[g]?=w.heap[g]?) (j:Nat):w'.cell? ⟨g,j,none⟩=w.cell? ⟨g,j,none⟩:=by
  unfold World.cell?;simp [h]
def OldKept (v:DV) (buf:Bs) (w w':World):Prop:=∀ g l cap,v.bufv=.slice (some ⟨g,0,none⟩) l cap → ∀ j,j < buf.length → w'.cell? ⟨g,j,none⟩=w.cell? ⟨g,j,none⟩
theorem writeByte_k (x:Cx) (hx:x.Ok) (c:DC) (w:World) (v:DV) (rest:Bs) (e:Option EK) (buf:Bs) (h:RdS x c w v rest e buf) (b:UInt8) (hlim:buf.length ≤ 50000000000000) :
    Calls Tryz.prog 43 #[.pointer (some ⟨x.d,7,none⟩),.int .u8 b.toNat] w fun en w'=>en=.returned .nilIface∧∃ v',(RdS x c w' v' rest e (buf ++ [b])∧v'.nb=v.nb∧Stp x w v w' v')∧OldKept v buf w w':=by
  have HX:=Lib.hid hx
  have hd9:DecAt (w.setCell ⟨x.d,9,none⟩ (.int .i8 0)) x.d c { v with lastRead:=0 }:=h.dec.set 9 (.int .i8 0)
  have hm9:Mod (fun k=>k=x.d ∨ bufBlk v.bufv k) w (w.setCell ⟨x.d,9,none⟩ (.int .i8 0)):=(Mod.refl _ w).setCell (Or.inl (Or.inl rfl)) _
  have hbx:∀ k,bufBlk v.bufv k → k ≠ x.d:=fun k hk e=>h.bf.notS0 k hk (Or.inl e)
  have h9:RdS x c (w.setCell ⟨x.d,9,none⟩ (.int .i8 0)) { v with lastRead:=0 } rest e buf:=h.buf hx hd9 hm9 rfl rfl rfl rfl rfl (h.bf.mod ((Mod.refl (fun k=>k=x.d) w).setCell (p:=⟨x.d,9,none⟩) (Or.inl rfl) _) hbx)
  have hcase:(∃ g cap arr,v.bufv=.slice (some ⟨g,0,none⟩) buf.length cap∧Blk w g arr 5∧arr.size=cap∧buf.length + 1 ≤ cap∧cap ≤ 9223372036854775807∧x.B ≤ g∧¬ x.S0 g∧(∀ j,j < buf.length → arr[j]?=some (.int .u8 (buf.getD j 0).toNat))) ∨
      (∃ a l cap,v.bufv=.slice a l cap∧l ≤ cap∧cap < l + 1∧cap ≤ 9223372036854775807∧∀ a len cap,v.bufv=.slice (some a) len cap → cap < buf.length + 1):=by
    rcases h.bf with ⟨hv,hb⟩|⟨g,cap,arr,hv,hg,hsz,hl,hcp,hBg,hnS,hel⟩
    · exact Or.inr ⟨none,0,0,hv,by omega,by omega,by omega,fun a l c' h'=>by rw [hv] at h';cases h'⟩
    · by_cases hr:buf.length + 1 ≤ cap
      · exact Or.inl ⟨g,cap,arr,hv,hg,hsz,hr,hcp,hBg,hnS,hel⟩
      · exact Or.inr ⟨_,_,_,hv,hl,by omega,hcp,fun a l c' h'=>by rw [hv] at h';cases h';omega⟩
  have H:=Lib.hid h
  have H9:=Lib.hid h9
  have HM9:=Lib.hid hm9
  have hc:=h.dec.cell
  have hf:=h.dec.frozen
  have HB:=Lib.hid hbx
  have hb0:(0:Int) ≤ (buf.length:Int):=by omega
  clear h h9 hm9 hbx hx
  rcases hcase with ⟨g,cap,arr,hv,hg,hsz,hl,hcp,hBg,hnS,hel⟩|⟨a,l,cap,hv,hl,hr,hcp,hrr⟩
  · have hty:=Lib.hid (tryGrow_yes x.d c { v with lastRead:=0 } _ hd9 g buf.length cap 1 hv hl hcp)
    have hgd:x.d ≠ g:=fun e=>hnS (Or.inl e.symm)
    have hgd':g ≠ x.d:=fun e=>hnS (Or.inl e)
    have hcg:=hg.cell
    have hfg:=hg.frozen
    have HEL:=Lib.hid hel
    have HG:=Lib.hid hg
    have hil:(buf.length:Int) < (buf.length:Int) + 1:=by omega
    have hcur:∃ u,arr[buf.length]?=some u:=by
      have:buf.length < arr.size:=by omega
      exact ⟨_,Array.getElem?_eq_getElem this⟩
    obtain ⟨u,hu⟩:=hcur
    obtain ⟨sb,sl,snb,serr,sline,sls,soff⟩:=v
    simp only at hv
    subst hv
    obtain ⟨L,hL⟩:∃ L,L=buf.length:=⟨_,rfl⟩
    have HL:=Lib.hid hL
    rw [← hL] at hc hty hb0 hil hu hl
    have HBg:=Lib.hid hBg
    clear hL hg hel hd9 hBg
    go_enter Tryz.func43,Tryz.ntmps43
    go_wp2_with fail
    refine hty.out.mono ?_
    rintro e1 w1 ⟨rfl,rfl⟩
    go_wp2
    go_ret
    have HGo:Blk w g arr 5:=HG.out
    refine ⟨by trivial,⟨.slice (some ⟨g,0,none⟩) (L + 1) cap,0,snb,serr,sline,sls,soff⟩,(H.out.more HX.out [b] _ _ g cap (arr.setIfInBounds L (.int .u8 b.toNat)) ?_ (by rw [HL.out];rfl) ?_ (by simpa using hsz) (by rw [← HL.out];exact hl) hcp (Or.inl ⟨rfl,HBg.out,hnS⟩) ?_ ?_ ?_ rfl rfl rfl rfl rfl),?_⟩
    · exact Blk.set_ne (a:=⟨g,L,none⟩) (show Blk _ x.d _ _ from (H.out.dec.set 9 (.int .i8 0)).set 7 (.slice (some ⟨g,0,none⟩) (L + 1) cap)) hgd (.int .u8 b.toNat)
    · exact ((HGo.set_ne (a:=⟨x.d,9,none⟩) hgd' (.int .i8 0)).set_ne (a:=⟨x.d,7,none⟩) hgd' (.slice (some ⟨g,0,none⟩) (L + 1) cap)).set L (.int .u8 b.toNat)
    · intro j hj
      rw [Array.getElem?_setIfInBounds_ne (by have:=HL.out;omega)];exact HEL.out j hj
    · intro j hj
      have:j=0:=by simpa using hj
      subst this
      rw [← HL.out,Array.getElem?_setIfInBounds]
      have:L < arr.size:=by omega
      simp [this]
    · exact (((Mod.refl _ w).setCell (p:=⟨x.d,9,none⟩) (Or.inl (Or.inl rfl)) (.int .i8 0)).setCell (p:=⟨x.d,7,none⟩) (Or.inl (Or.inl rfl)) (.slice (some ⟨g,0,none⟩) (L + 1) cap)).setCell (p:=⟨g,L,none⟩) (Or.inl (Or.inr rfl)) (.int .u8 b.toNat)
    · intro g' l' cap' he j hj
      cases he
      have h1:=(((HGo.set_ne (a:=⟨x.d,9,none⟩) hgd' (.int .i8 0)).set_ne (a:=⟨x.d,7,none⟩) hgd' (.slice (some ⟨g,0,none⟩) (L + 1) cap)).set L (.int .u8 b.toNat)).cell j
      rw [Array.getElem?_setIfInBounds_ne (by have:=HL.out;omega)] at h1
      exact h1.trans (HGo.cell j).symm
  · have hty:=Lib.hid (tryGrow_no x.d c { v with lastRead:=0 } _ hd9 a l cap 1 hv hl hr hcp)
    have hgr:=Lib.hid (grow_any x HX.out c _ { v with lastRead:=0 } rest e buf H9.out 1 (by omega) (by omega) hrr (by omega))
    obtain ⟨sb,sl,snb,serr,sline,sls,soff⟩:=v
    simp only at hv
    subst hv
    have hbl:(buf.length:Int) ≤ 50000000000000:=by omega
    clear hd9 hrr
    obtain ⟨L,hL⟩:∃ L,L=buf.length:=⟨_,rfl⟩
    have HL:=Lib.hid hL
    rw [← hL] at hgr hb0 hbl
    clear hL
    go_enter Tryz.func43,Tryz.ntmps43
    go_wp2_with fail
    refine hty.out.mono ?_
    rintro e1 w1 ⟨rfl,rfl⟩
    go_wp2_with fail
    refine hgr.out.mono ?_
    rintro e1 w1 ⟨rfl,g,cap',arr,hG⟩
    have hil:(L:Int) < (L:Int) + 1:=by omega
    have hd':=hG.dec
    have HD':DecAt w1 x.d c ⟨.slice (some ⟨g,0,none⟩) (L + 1) cap',0,snb,serr,sline,sls,soff⟩:=by rw [HL.out];exact hd'
    have hc1:=HD'.cell
    have hf1:=Blk.frozen HD'
    have hcg:=hG.blk.cell
    have hfg:=hG.blk.frozen
    have hcp':L + 1 ≤ cap':=by rw [HL.out];exact hG.cp
    have hsz:=hG.sz
    have hcur:∃ u,arr[L]?=some u:=by
      have:L < arr.size:=by omega
      exact ⟨_,Array.getElem?_eq_getElem this⟩
    obtain ⟨u,hu⟩:=hcur
    have hgd':g ≠ x.d:=fun e=>by
      have h1:=Blk.lt H9.out.dec
      have h2:=hG.new
      omega
    have hgd:x.d ≠ g:=fun e=>hgd' e.symm
    have HG:=Lib.hid hG
    have HD:=Lib.hid HD'
    clear hG hd' HD' hc hf
    go_wp2
    go_ret
    have hsz0:(w.setCell ⟨x.d,9,none⟩ (.int .i8 0)).heap.size=w.heap.size:=by simp [World.setCell]
    refine ⟨by trivial,⟨.slice (some ⟨g,0,none⟩) (L + 1) cap',0,snb,serr,sline,sls,soff⟩,(H.out.more HX.out [b] _ _ g cap' (arr.setIfInBounds L (.int .u8 b.toNat)) ?_ (by rw [HL.out];rfl) ?_ (by simpa using hsz) (by rw [← HL.out];exact hcp') HG.out.cm (Or.inr (by have:=HG.out.new;omega)) ?_ ?_ ?_ rfl rfl rfl rfl rfl),?_⟩
    · exact Blk.set_ne (a:=⟨g,L,none⟩) (show Blk _ x.d _ _ from HD.out) hgd (.int .u8 b.toNat)
    · exact HG.out.blk.set L (.int .u8 b.toNat)
    · intro j hj
      rw [Array.getElem?_setIfInBounds_ne (by have:=HL.out;omega)];exact HG.out.el j hj
    · intro j hj
      have:j=0:=by simpa using hj
      subst this
      rw [← HL.out,Array.getElem?_setIfInBounds]
      have:L < arr.size:=by omega
      simp [this]
    · refine Mod.setCell ?_ (p:=⟨g,L,none⟩) (Or.inr (by have:=HG.out.new;show w.heap.size ≤ g;omega)) (.int .u8 b.toNat)
      exact HM9.out.trans HG.out.mod (fun i _ hi=>Or.inl hi)
    · intro g' l' cap' he j hj
      have hbf:=H.out.bf
      rcases hbf with ⟨h1,h2⟩|⟨g0,cap0,arr0,h1,h2,_,_,_,_,h7,_⟩
      · rw [h2] at hj;simp at hj
      · simp only at h1 he
        rw [h1] at he
        simp only [Value.slice.injEq,Option.some.injEq,Addr.mk.injEq] at he
        obtain ⟨⟨hg0,_⟩,_⟩:=he
        subst hg0
        have hlt:=h2.lt
        have hnd:g0 ≠ x.d:=fun e=>h7 (Or.inl e)
        have hng:g0 ≠ g:=fun e=>by
          have:=HG.out.new
          rw [hsz0] at this
          omega
        refine cell_of_heap ?_ j
        rw [heap_setCell_ne _ _ _ _ hng]
        have hm:=HG.out.mod.block g0 (by rw [hsz0];exact hlt) hnd
        rw [hm]
        exact heap_setCell_ne w ⟨x.d,9,none⟩ _ g0 hnd
theorem writeByte_c (x:Cx) (hx:x.Ok) (c:DC) (w:World) (v:DV) (rest:Bs) (e:Option EK) (buf:Bs) (h:RdS x c w v rest e buf) (b:UInt8) (hlim:buf.length ≤ 50000000000000) :
    Calls Tryz.prog 43 #[.pointer (some ⟨x.d,7,none⟩),.int .u8 b.toNat] w fun en w'=>en=.returned .nilIface∧∃ v',RdS x c w' v' rest e (buf ++ [b])∧v'.nb=v.nb∧Stp x w v w' v':=
  (writeByte_k x hx c w v rest e buf h b hlim).mono fun _ _ ⟨he,v',h1,_⟩=>⟨he,v',h1⟩
end Go.Proofs.YtkjnockljapnbaaGreatDoor
namespace Go.Proofs.YtkjnockljapnbaaGreatDoor
open Go Go.RowKit
theorem row_old (cur:Array Value) (l n:Nat) (bs:Bs) (hn:n=bs.length) (hfit:l + n ≤ cur.size) (j:Nat) (hj:j < l):(cur.toList.take l ++ Lib.byteCells bs ++ cur.toList.drop (l + n)).toArray[j]?=cur[j]?:=by
  have hl:(cur.toList.take l).length=l:=by simp;omega
  simp only [List.getElem?_toArray,List.append_assoc]
  rw [List.getElem?_append_left (by omega),List.getElem?_take,if_pos hj,Array.getElem?_toList]
theorem row_new (cur:Array Value) (l n:Nat) (bs:Bs) (hn:n=bs.length) (hfit:l + n ≤ cur.size) (j:Nat) (hj:j < bs.length):(cur.toList.take l ++ Lib.byteCells bs ++ cur.toList.drop (l + n)).toArray[l + j]?=some (.int .u8 (bs.getD j 0).toNat):=by
  have hl:(cur.toList.take l).length=l:=by simp;omega
  simp only [List.getElem?_toArray,List.append_assoc]
  rw [List.getElem?_append_right (by omega),hl,Nat.add_sub_cancel_left,List.getElem?_append_left (by rw [Lib.byteCells_length];exact hj)]
  simp [Lib.byteCells,List.getD_eq_getElem?_getD,List.getElem?_eq_getElem hj]
theorem row_size (cur:Array Value) (l n:Nat) (bs:Bs) (hn:n=bs.length) (hfit:l + n ≤ cur.size):(cur.toList.take l ++ Lib.byteCells bs ++ cur.toList.drop (l + n)).toArray.size=cur.size:=by
  simp only [List.size_toArray,List.length_append,List.length_take,List.length_drop,Array.length_toList,Lib.byteCells_length];omega
theorem size_list (s:ByteArray):s.size=s.data.toList.length:=rfl
def NonNil (v:DV):Prop:=∃ k,bufBlk v.bufv k
theorem RdS.more' {x:Cx} (hx:x.Ok) {c:DC} {w:World} {v:DV} {rest:Bs} {e:Option EK} {buf:Bs} (h:RdS x c w v rest e buf) (bs:Bs) (w':World) (v':DV) (g cap:Nat) (arr:Array Value)
    (dec:DecAt w' x.d c v') (hbv:v'.bufv=.slice (some ⟨g,0,none⟩) (buf.length + bs.length) cap) (blk:Blk w' g arr 5) (sz:arr.size=cap) (cp:buf.length + bs.length ≤ cap) (cm:cap ≤ 9223372036854775807)
    (hg:(bufBlk v.bufv g∧x.B ≤ g∧¬ x.S0 g) ∨ w.heap.size ≤ g) (el:∀ j,j < buf.length → arr[j]?=some (.int .u8 (buf.getD j 0).toNat)) (el2:∀ j,j < bs.length → arr[buf.length + j]?=some (.int .u8 (bs.getD j 0).toNat))
    (hm:Mod (fun k=>k=x.d ∨ bufBlk v.bufv k) w w') (h1:v'.nb=v.nb) (h2:v'.err=v.err) (h3:v'.line=v.line) (h4:v'.lstart=v.lstart) (h5:v'.off=v.off) :
    (RdS x c w' v' rest e (buf ++ bs)∧v'.nb=v.nb∧Stp x w v w' v')∧NonNil v':=
  ⟨h.more hx bs w' v' g cap arr dec hbv blk sz cp cm hg el el2 hm h1 h2 h3 h4 h5,g,by rw [hbv];rfl⟩
theorem writeString_k (x:Cx) (hx:x.Ok) (c:DC) (w:World) (v:DV) (rest:Bs) (e:Option EK) (buf:Bs) (h:RdS x c w v rest e buf) (hnn:v.bufv ≠ .slice none 0 0) (s:ByteArray) (hs:s.size ≤ 1000000000000) (hlim:buf.length ≤ 50000000000000) :
    Calls Tryz.prog 64 #[.pointer (some ⟨x.d,7,none⟩),.string s] w fun en w'=>en=.returned (.tuple #[.int .i64 s.size,.nilIface])∧∃ v',(RdS x c w' v' rest e (buf ++ s.data.toList)∧v'.nb=v.nb∧Stp x w v w' v')∧NonNil v':=by
  have HX:=Lib.hid hx
  have hd9:DecAt (w.setCell ⟨x.d,9,none⟩ (.int .i8 0)) x.d c { v with lastRead:=0 }:=h.dec.set 9 (.int .i8 0)
  have hm9:Mod (fun k=>k=x.d ∨ bufBlk v.bufv k) w (w.setCell ⟨x.d,9,none⟩ (.int .i8 0)):=(Mod.refl _ w).setCell (Or.inl (Or.inl rfl)) _
  have hbx:∀ k,bufBlk v.bufv k → k ≠ x.d:=fun k hk e=>h.bf.notS0 k hk (Or.inl e)
  have h9:RdS x c (w.setCell ⟨x.d,9,none⟩ (.int .i8 0)) { v with lastRead:=0 } rest e buf:=h.buf hx hd9 hm9 rfl rfl rfl rfl rfl (h.bf.mod ((Mod.refl (fun k=>k=x.d) w).setCell (p:=⟨x.d,9,none⟩) (Or.inl rfl) _) hbx)
  rcases h.bf with ⟨hv,hb⟩|⟨g,cap,arr,hv,hg,hsz,hl,hcp,hBg,hnS,hel⟩
  · exact absurd hv hnn
  clear hnn
  have hg9:Blk (w.setCell ⟨x.d,9,none⟩ (.int .i8 0)) g arr 5:=hg.set_ne (a:=⟨x.d,9,none⟩) (fun e=>hnS (Or.inl e)) _
  have hcase:buf.length + s.size ≤ cap ∨ cap < buf.length + s.size:=by omega
  have H:=Lib.hid h
  have H9:=Lib.hid h9
  have HM9:=Lib.hid hm9
  have hc:=h.dec.cell
  have hf:=h.dec.frozen
  have hb0:(0:Int) ≤ (buf.length:Int):=by omega
  have hs0:(0:Int) ≤ (s.size:Int):=by omega
  have hgd:x.d ≠ g:=fun e=>hnS (Or.inl e.symm)
  have hgd':g ≠ x.d:=fun e=>hnS (Or.inl e)
  have hbl:(buf.length:Int) ≤ 50000000000000:=by omega
  have hsl:(s.size:Int) ≤ 1000000000000:=by omega
  have HEL:=Lib.hid hel
  have HG:=Lib.hid hg
  have HBg:=Lib.hid hBg
  clear h h9 hm9 hbx hx
  rcases hcase with hr|hr
  · have hty:=Lib.hid (tryGrow_yes x.d c { v with lastRead:=0 } _ hd9 g buf.length cap s.size hv hr hcp)
    have hcg:=hg.cell
    have hfg:=hg.frozen
    obtain ⟨sb,sl,snb,serr,sline,sls,soff⟩:=v
    simp only at hv
    subst hv
    have hcopy:=Lib.run_copy_row_string (P:=Tryz.prog) ((w.setCell ⟨x.d,9,none⟩ (.int .i8 0)).setCell ⟨x.d,7,none⟩ (.slice (some ⟨g,0,none⟩) (buf.length + s.size) cap)) 74 9 3 5 g buf.length s.size (cap - buf.length) s arr 5 Tryz.underlying74 u8info
      (hg9.set_ne (a:=⟨x.d,7,none⟩) hgd' _) (Nat.le_refl _) (by omega)
    obtain ⟨L,hL⟩:∃ L,L=buf.length:=⟨_,rfl⟩
    have HL:=Lib.hid hL
    rw [← hL] at hc hty hb0 hl hcopy hr hbl
    have hr2:(L:Int) + (s.size:Int) ≤ (cap:Int):=by omega
    have hr3:(L:Int) ≤ (L:Int) + (s.size:Int):=by omega
    have hr4:(L:Int) + (s.size:Int) ≤ 100000000000000:=by omega
    clear hL hg hel hd9 hBg hg9
    by_cases hcl:cap=L
    · have hz:s.size=0:=by omega
      have hcopy0:=fun (w:World) (a:Addr)=>Lib.run_copy_empty_string (P:=Tryz.prog) w 74 9 3 5 (some a) 0 0 s Tryz.underlying74 (by rw [Option.isSome_map];kernel_rfl) hz
      have HZ:=Lib.hid hz
      rw [hz] at hty
      have HCL:=Lib.hid hcl
      clear hcopy hz
      have hsz2:s.size=0:=HZ.out
      go_enter Tryz.func64,Tryz.ntmps64
      go_wp2_with fail
      refine hty.out.mono ?_
      rintro e1 w1 ⟨rfl,rfl⟩
      go_wp2
      go_ret2
      have HGo:Blk w g arr 5:=HG.out
      have HZ2:s.data.toList=[]:=List.eq_nil_of_length_eq_zero HZ.out
      refine ⟨by rw [HZ.out];rfl,⟨.slice (some ⟨g,0,none⟩) L L,0,snb,serr,sline,sls,soff⟩,H.out.more' HX.out s.data.toList _ _ g L arr ?_ (by rw [HL.out,HZ2];rfl) ?_ (by omega) (by rw [← HL.out,HZ2];simp) (by omega) (Or.inl ⟨rfl,HBg.out,hnS⟩) HEL.out (by rw [HZ2];simp) ?_ rfl rfl rfl rfl rfl⟩
      · exact (H.out.dec.set 9 (.int .i8 0)).set 7 (.slice (some ⟨g,0,none⟩) L L)
      · exact (HGo.set_ne (a:=⟨x.d,9,none⟩) hgd' (.int .i8 0)).set_ne (a:=⟨x.d,7,none⟩) hgd' (.slice (some ⟨g,0,none⟩) L L)
      · exact (((Mod.refl _ w).setCell (p:=⟨x.d,9,none⟩) (Or.inl (Or.inl rfl)) (.int .i8 0)).setCell (p:=⟨x.d,7,none⟩) (Or.inl (Or.inl rfl)) (.slice (some ⟨g,0,none⟩) L L))
    · have hcl2:(L:Int) < (cap:Int):=by omega
      rw [List.append_assoc] at hcopy
      go_enter Tryz.func64,Tryz.ntmps64
      go_wp2_with fail
      refine hty.out.mono ?_
      rintro e1 w1 ⟨rfl,rfl⟩
      go_wp2
      go_ret2
      have HGo:Blk w g arr 5:=HG.out
      refine ⟨rfl,⟨.slice (some ⟨g,0,none⟩) (L + s.size) cap,0,snb,serr,sline,sls,soff⟩,H.out.more' HX.out s.data.toList _ _ g cap (arr.toList.take L ++ Lib.byteCells s.data.toList ++ arr.toList.drop (L + s.size)).toArray ?_ (by rw [HL.out];rfl) ?_
        (by rw [row_size _ _ _ _ (size_list s) (by omega)];exact hsz) (by rw [← HL.out];exact hr) hcp (Or.inl ⟨rfl,HBg.out,hnS⟩)
        (fun j hj=>by rw [row_old _ _ _ _ (size_list s) (by omega) _ (by rw [HL.out];exact hj)];exact HEL.out j hj) (fun j hj=>by rw [← HL.out,row_new _ _ _ _ (size_list s) (by omega) _ hj]) ?_ rfl rfl rfl rfl rfl⟩
      · exact Blk.row_ne (show Blk _ x.d _ _ from (H.out.dec.set 9 (.int .i8 0)).set 7 (.slice (some ⟨g,0,none⟩) (L + s.size) cap)) hgd _
      · rw [List.append_assoc]
        exact ((HGo.set_ne (a:=⟨x.d,9,none⟩) hgd' (.int .i8 0)).set_ne (a:=⟨x.d,7,none⟩) hgd' (.slice (some ⟨g,0,none⟩) (L + s.size) cap)).row _
      · exact (((Mod.refl _ w).setCell (p:=⟨x.d,9,none⟩) (Or.inl (Or.inl rfl)) (.int .i8 0)).setCell (p:=⟨x.d,7,none⟩) (Or.inl (Or.inl rfl)) (.slice (some ⟨g,0,none⟩) (L + s.size) cap)).setRow (g:=g) (Or.inl (Or.inr rfl)) _
  · have hty:=Lib.hid (tryGrow_no x.d c { v with lastRead:=0 } _ hd9 (some ⟨g,0,none⟩) buf.length cap s.size hv hl hr hcp)
    have hgr:=Lib.hid (grow_some x HX.out c _ { v with lastRead:=0 } rest e buf H9.out g cap arr hv hg9 hsz hl hel s.size (by omega) hr (by omega))
    obtain ⟨sb,sl,snb,serr,sline,sls,soff⟩:=v
    simp only at hv
    subst hv
    clear hd9 hg hg9 hel hBg
    obtain ⟨L,hL⟩:∃ L,L=buf.length:=⟨_,rfl⟩
    have HL:=Lib.hid hL
    rw [← hL] at hgr hb0 hbl hc hr hl
    clear hL
    have hr4:(L:Int) + (s.size:Int) ≤ 100000000000000:=by omega
    have hr3:(L:Int) ≤ (L:Int) + (s.size:Int):=by omega
    go_enter Tryz.func64,Tryz.ntmps64
    go_wp2_with fail
    refine hty.out.mono ?_
    rintro e1 w1 ⟨rfl,rfl⟩
    go_wp2_with fail
    refine hgr.out.mono ?_
    rintro e1 w1 ⟨rfl,g',cap',arr',hG⟩
    have hd':=hG.dec
    have HD':DecAt w1 x.d c ⟨.slice (some ⟨g',0,none⟩) (L + s.size) cap',0,snb,serr,sline,sls,soff⟩:=by rw [HL.out];exact hd'
    have hc1:=HD'.cell
    have hf1:=Blk.frozen HD'
    have hcp':L + s.size ≤ cap':=by rw [HL.out];exact hG.cp
    have hsz':=hG.sz
    have hcopy:=Lib.run_copy_row_string (P:=Tryz.prog) w1 74 9 3 5 g' L s.size (cap' - L) s arr' 5 Tryz.underlying74 u8info hG.blk (Nat.le_refl _) (by omega)
    rw [List.append_assoc] at hcopy
    have hcl2:(L:Int) < (cap':Int):=by omega
    have hcl:¬ cap'=L:=by omega
    have hcpm:cap' ≤ 9223372036854775807:=hG.cm
    have hr5:(L:Int) + (s.size:Int) ≤ (cap':Int):=by omega
    have hgd1:g' ≠ x.d:=fun e=>by
      have h1:=Blk.lt H9.out.dec
      have h2:=hG.new
      omega
    have hgd2:x.d ≠ g':=fun e=>hgd1 e.symm
    have HG':=Lib.hid hG
    have HD:=Lib.hid HD'
    clear hG hd' HD' hc hf
    go_wp2
    go_ret2
    have hsz0:(w.setCell ⟨x.d,9,none⟩ (.int .i8 0)).heap.size=w.heap.size:=by simp [World.setCell]
    refine ⟨rfl,⟨.slice (some ⟨g',0,none⟩) (L + s.size) cap',0,snb,serr,sline,sls,soff⟩,H.out.more' HX.out s.data.toList _ _ g' cap' (arr'.toList.take L ++ Lib.byteCells s.data.toList ++ arr'.toList.drop (L + s.size)).toArray ?_ (by rw [HL.out];rfl) ?_
        (by rw [row_size _ _ _ _ (size_list s) (by omega)];exact hsz') (by rw [← HL.out];exact hcp') hcpm (Or.inr (by have:=HG'.out.new;omega))
        (fun j hj=>by rw [row_old _ _ _ _ (size_list s) (by omega) _ (by rw [HL.out];exact hj)];exact HG'.out.el j hj) (fun j hj=>by rw [← HL.out,row_new _ _ _ _ (size_list s) (by omega) _ hj]) ?_ rfl rfl rfl rfl rfl⟩
    · exact Blk.row_ne (show Blk _ x.d _ _ from HD.out) hgd2 _
    · rw [List.append_assoc]
      exact HG'.out.blk.row _
    · refine Mod.setRow ?_ (g:=g') (Or.inr (by have:=HG'.out.new;omega)) _
      exact HM9.out.trans HG'.out.mod (fun i _ hi=>Or.inl hi)
end Go.Proofs.YtkjnockljapnbaaGreatDoor
namespace Go.Proofs.YtkjnockljapnbaaGreatDoor
open Go Go.RowKit
theorem BufAt.take {x:Cx} {w:World} {g:Nat} {cap:Nat} {buf:Bs} {arr:Array Value} (n:Nat) (hn:n ≤ buf.length) (hg:Blk w g arr 5) (hsz:arr.size=cap) (hl:buf.length ≤ cap) (hcp:cap ≤ 9223372036854775807) (hB:x.B ≤ g) (hS:¬ x.S0 g)
    (hel:∀ j,j < buf.length → arr[j]?=some (.int .u8 (buf.getD j 0).toNat)):BufAt x w (.slice (some ⟨g,0,none⟩) n cap) (buf.take n):=by
  have hlen:(buf.take n).length=n:=by simp;omega
  refine Or.inr ⟨g,cap,arr,by rw [hlen],hg,hsz,by omega,hcp,hB,hS,fun j hj=>?_⟩
  rw [hlen] at hj
  rw [hel j (by omega)]
  simp [List.getD_eq_getElem?_getD,hj]
theorem truncate_c (x:Cx) (hx:x.Ok) (c:DC) (w:World) (v:DV) (rest:Bs) (e:Option EK) (buf:Bs) (h:RdS x c w v rest e buf) (n:Nat) (hn:n ≤ buf.length) :
    Calls Tryz.prog 48 #[.pointer (some ⟨x.d,7,none⟩),.int .i64 n] w fun en w'=>en=.returned (.tuple #[])∧∃ v',RdS x c w' v' rest e (buf.take n)∧v'.nb=v.nb∧(∀ k,bufBlk v'.bufv k ↔ bufBlk v.bufv k)∧Mod x.S0 w w'∧w'.heap.size=w.heap.size:=by
  have hc:=h.dec.cell
  have hf:=h.dec.frozen
  have hrs:=Lib.hid (reset_c x hx c w v rest e buf h)
  have hd9:DecAt (w.setCell ⟨x.d,9,none⟩ (.int .i8 0)) x.d c { v with lastRead:=0 }:=h.dec.set 9 (.int .i8 0)
  have hm9:Mod (fun k=>k=x.d ∨ bufBlk v.bufv k) w (w.setCell ⟨x.d,9,none⟩ (.int .i8 0)):=(Mod.refl _ w).setCell (Or.inl (Or.inl rfl)) _
  have hbx:∀ k,bufBlk v.bufv k → k ≠ x.d:=fun k hk e=>h.bf.notS0 k hk (Or.inl e)
  have h9:RdS x c (w.setCell ⟨x.d,9,none⟩ (.int .i8 0)) { v with lastRead:=0 } rest e buf:=h.buf hx hd9 hm9 rfl rfl rfl rfl rfl (h.bf.mod ((Mod.refl (fun k=>k=x.d) w).setCell (p:=⟨x.d,9,none⟩) (Or.inl rfl) _) hbx)
  have hlen:=Lib.hid (len_c x c _ _ rest e buf h9)
  have hn0:(0:Int) ≤ (n:Int):=by omega
  have hz:((n:Int) == 0)=true ∨ ((n:Int) == 0)=false:=by cases ((n:Int) == 0) <;> simp
  have HX:=Lib.hid hx
  rcases hz with hz|hz
  · have:n=0:=by simpa using hz
    clear hc hf h h9 hd9 hm9 hbx hx
    go_enter Tryz.func48,Tryz.ntmps48
    go_wp2_with fail
    refine hrs.out.mono ?_
    rintro e1 w1 ⟨rfl,HV⟩
    have HV:=Lib.hid HV
    go_wp2
    (try simp only [Exit.inBlock,Exit.then])
    refine bodyPost_ret (results_none rfl _ _ _) rfl ?_
    subst this
    exact ⟨rfl,HV.out⟩
  · have hn1:n ≠ 0:=by simpa using hz
    rcases h.bf with ⟨hv,hb⟩|⟨g,cap,arr,hv,hg,hsz,hl,hcp,hBg,hnS,hel⟩
    · subst hb;simp at hn;omega
    have hgd:x.d ≠ g:=fun e=>hnS (Or.inl e.symm)
    have hgd':g ≠ x.d:=fun e=>hnS (Or.inl e)
    have H:=Lib.hid h
    have HG:=Lib.hid hg
    have HEL:=Lib.hid hel
    have hbf:=Lib.hid (fun (w':World) (hg':Blk w' g arr 5)=>BufAt.take (x:=x) n hn hg' hsz hl hcp hBg hnS hel)
    have h1:(n:Int) ≤ (buf.length:Int):=by omega
    have h2:(buf.length:Int) ≤ (cap:Int):=by omega
    have h3:(n:Int) ≤ (cap:Int):=by omega
    have h4:(cap:Int) ≤ 9223372036854775807:=by omega
    have hw:IntKind.i64.wrap (n:Int)=n:=IntWalk.i64_in _ (by omega)
    obtain ⟨sb,sl,snb,serr,sline,sls,soff⟩:=v
    simp only at hv
    subst hv
    clear h h9 hd9 hm9 hbx hx hg hel hBg
    go_enter Tryz.func48,Tryz.ntmps48
    go_wp2_with fail
    refine hlen.out.mono ?_
    rintro e1 w1 ⟨rfl,k,rfl⟩
    go_wp2
    (refine wp_region_pi [0,0,0,0,1,0,0,0,1,0,1,1,0,0,2] [0,1,2,3,5,6,7,9,4,8,10,11,12,13,14] (by kernel_rfl) (by kernel_rfl) ?_;repeat (first|(with_reducible refine wpPi_nil (fun nq=>?_))|((with_reducible refine wpPi_free rfl rfl (fun K hK=>?_));go_simp;refine hK _ ?_;clear hK K)|((with_reducible refine wpPi_quiet rfl rfl (fun K hK=>?_));go_simp;refine hK _ ?_;clear hK K)|((with_reducible refine wpPi_eff rfl rfl (fun nq K hK=>?_));go_simp;refine hK.out _ _ ?_;clear hK K)))
    go_wp2
    go_end0
    have hd:DecAt ((w.setCell ⟨x.d,9,none⟩ (.int .i8 0)).setCell ⟨x.d,7,none⟩ (.slice (some ⟨g,0,none⟩) n cap)) x.d c ⟨.slice (some ⟨g,0,none⟩) n cap,0,snb,serr,sline,sls,soff⟩:=(H.out.dec.set 9 (.int .i8 0)).set 7 (.slice (some ⟨g,0,none⟩) n cap)
    have HGo:Blk w g arr 5:=HG.out
    have hg2:=(HGo.set_ne (a:=⟨x.d,9,none⟩) hgd' (.int .i8 0)).set_ne (a:=⟨x.d,7,none⟩) hgd' (.slice (some ⟨g,0,none⟩) n cap)
    have hm:Mod (fun k=>k=x.d) w ((w.setCell ⟨x.d,9,none⟩ (.int .i8 0)).setCell ⟨x.d,7,none⟩ (.slice (some ⟨g,0,none⟩) n cap)):=((Mod.refl (fun k=>k=x.d) w).setCell (p:=⟨x.d,9,none⟩) (Or.inl rfl) (.int .i8 0)).setCell (p:=⟨x.d,7,none⟩) (Or.inl rfl) (.slice (some ⟨g,0,none⟩) n cap)
    have hr:=H.out.buf HX.out (v':=⟨.slice (some ⟨g,0,none⟩) n cap,0,snb,serr,sline,sls,soff⟩) hd (hm.mono (fun _ _ h=>Or.inl h)) rfl rfl rfl rfl rfl (hbf.out _ hg2)
    refine ⟨rfl,⟨.slice (some ⟨g,0,none⟩) n cap,0,snb,serr,sline,sls,soff⟩,?_,rfl,fun k=>Iff.rfl,?_,?_⟩
    · exact ⟨⟨hr.base.os,hr.base.tape,hr.base.output,hr.base.size,hr.base.block⟩,hr.dec,hr.inp,hr.pos,hr.err,hr.fin,hr.bf⟩
    · exact ⟨hm.os,hm.tape,hm.output,hm.size,fun i hi hs=>hm.block i hi (fun h=>hs (Or.inl h))⟩
    · simp [World.setCell]
end Go.Proofs.YtkjnockljapnbaaGreatDoor
