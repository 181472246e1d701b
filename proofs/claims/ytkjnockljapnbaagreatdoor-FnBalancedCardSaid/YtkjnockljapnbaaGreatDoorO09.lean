/- Part of the proof that laws.FnBalanced returns true for every argument (Ws, Tr, Nm, Dr). No condition of its own. -/
import Derived.Test.YtkjnockljapnbaaGreatDoorO08
import Derived.Lib.BufferWrite
import Derived.Shelf.Spec.DecodeRune
set_option linter.all false
set_option maxHeartbeats 8000000
set_option maxRecDepth 100000
namespace Go.Proofs.YtkjnockljapnbaaGreatDoor
open Go Go.RowKit
theorem row_old (cur:Array Value) (l n:Nat) (bs:Bs) (hn:n=bs.length) (hfit:l + n ≤ cur.size) (j:Nat) (hj:j < l):(cur.toList.take l ++ Lib.byteCells bs ++ cur.toList.drop (l + n)).toArray[j]?=cur[j]?:=by
  have hl:(cur.toList.take l).length=l:=by simp;omega
  simp only [List.getElem?_toArray,List.append_assoc]
  rw [List.getElem?_append_left (by omega),List.getElem?_take,if_pos hj,Array.getElem?_toList]
theorem row_new (cur:Array Value) (l n:Nat) (bs:Bs) (hn:n=bs.length) (hfit:l + n ≤ cur.size) (j:Nat) (hj:j < bs.length):(cur.toList.take l ++ Lib.byteCells bs ++ cur.toList.drop (l + n)).toArray[l + j]?=some (.int .u8 (bs.getD j 0).toNat):=by
  have hl:(cur.toList.take l).length=l:=by simp;omega
  simp only [List.getElem?_toArray,List.append_assoc]
  rw [List.getElem?_append_right (by omega),hl,Nat.add_sub_cancel_left,List.getElem?_append_left (by rw [Lib.byteCells_length];exact hj)]
  simp [Lib.byteCells,List.getD_eq_getElem?_getD,List.getElem?_eq_getElem hj]
theorem row_size (cur:Array Value) (l n:Nat) (bs:Bs) (hn:n=bs.length) (hfit:l + n ≤ cur.size):(cur.toList.take l ++ Lib.byteCells bs ++ cur.toList.drop (l + n)).toArray.size=cur.size:=by
  simp only [List.size_toArray,List.length_append,List.length_take,List.length_drop,Array.length_toList,Lib.byteCells_length];omega
theorem size_list (s:ByteArray):s.size=s.data.toList.length:=rfl
def NonNil (v:DV):Prop:=∃ k,bufBlk v.bufv k
theorem RdS.more' {x:Cx} (hx:x.Ok) {c:DC} {w:World} {v:DV} {rest:Bs} {e:Option EK} {buf:Bs} (h:RdS x c w v rest e buf) (bs:Bs) (w':World) (v':DV) (g cap:Nat) (arr:Array Value)
    (dec:DecAt w' x.d c v') (hbv:v'.bufv=.slice (some ⟨g,0,none⟩) (buf.length + bs.length) cap) (blk:Blk w' g arr 5) (sz:arr.size=cap) (cp:buf.length + bs.length ≤ cap) (cm:cap ≤ 9223372036854775807)
    (hg:(bufBlk v.bufv g∧x.B ≤ g∧¬ x.S0 g) ∨ w.heap.size ≤ g) (el:∀ j,j < buf.length → arr[j]?=some (.int .u8 (buf.getD j 0).toNat)) (el2:∀ j,j < bs.length → arr[buf.length + j]?=some (.int .u8 (bs.getD j 0).toNat))
    (hm:Mod (fun k=>k=x.d ∨ bufBlk v.bufv k) w w') (h1:v'.nb=v.nb) (h2:v'.err=v.err) (h3:v'.line=v.line) (h4:v'.lstart=v.lstart) (h5:v'.off=v.off) :
    (RdS x c w' v' rest e (buf ++ bs)∧v'.nb=v.nb∧Stp x w v w' v')∧NonNil v':=
  ⟨h.more hx bs w' v' g cap arr dec hbv blk sz cp cm hg el el2 hm h1 h2 h3 h4 h5,g,by rw [hbv];rfl⟩
theorem writeString_k (x:Cx) (hx:x.Ok) (c:DC) (w:World) (v:DV) (rest:Bs) (e:Option EK) (buf:Bs) (h:RdS x c w v rest e buf) (hnn:v.bufv ≠ .slice none 0 0) (s:ByteArray) (hs:s.size ≤ 1000000000000) (hlim:buf.length ≤ 50000000000000) :
    Calls Tryz.prog 64 #[.pointer (some ⟨x.d,7,none⟩),.string s] w fun en w'=>en=.returned (.tuple #[.int .i64 s.size,.nilIface])∧∃ v',(RdS x c w' v' rest e (buf ++ s.data.toList)∧v'.nb=v.nb∧Stp x w v w' v')∧NonNil v':=by
  have HX:=Lib.hid hx
  have hd9:DecAt (w.setCell ⟨x.d,9,none⟩ (.int .i8 0)) x.d c { v with lastRead:=0 }:=h.dec.set 9 (.int .i8 0)
  have hm9:Mod (fun k=>k=x.d ∨ bufBlk v.bufv k) w (w.setCell ⟨x.d,9,none⟩ (.int .i8 0)):=(Mod.refl _ w).setCell (Or.inl (Or.inl rfl)) _
  have hbx:∀ k,bufBlk v.bufv k → k ≠ x.d:=fun k hk e=>h.bf.notS0 k hk (Or.inl e)
  have h9:RdS x c (w.setCell ⟨x.d,9,none⟩ (.int .i8 0)) { v with lastRead:=0 } rest e buf:=h.buf hx hd9 hm9 rfl rfl rfl rfl rfl (h.bf.mod ((Mod.refl (fun k=>k=x.d) w).setCell (p:=⟨x.d,9,none⟩) (Or.inl rfl) _) hbx)
  rcases h.bf with ⟨hv,hb⟩|⟨g,cap,arr,hv,hg,hsz,hl,hcp,hBg,hnS,hel⟩
  · exact absurd hv hnn
  clear hnn
  have hg9:Blk (w.setCell ⟨x.d,9,none⟩ (.int .i8 0)) g arr 5:=hg.set_ne (a:=⟨x.d,9,none⟩) (fun e=>hnS (Or.inl e)) _
  have hcase:buf.length + s.size ≤ cap ∨ cap < buf.length + s.size:=by omega
  have H:=Lib.hid h
  have H9:=Lib.hid h9
  have HM9:=Lib.hid hm9
  have hc:=h.dec.cell
  have hf:=h.dec.frozen
  have hb0:(0:Int) ≤ (buf.length:Int):=by omega
  have hs0:(0:Int) ≤ (s.size:Int):=by omega
  have hgd:x.d ≠ g:=fun e=>hnS (Or.inl e.symm)
  have hgd':g ≠ x.d:=fun e=>hnS (Or.inl e)
  have hbl:(buf.length:Int) ≤ 50000000000000:=by omega
  have hsl:(s.size:Int) ≤ 1000000000000:=by omega
  have HEL:=Lib.hid hel
  have HG:=Lib.hid hg
  have HBg:=Lib.hid hBg
  clear h h9 hm9 hbx hx
  rcases hcase with hr|hr
  · have hty:=Lib.hid (tryGrow_yes x.d c { v with lastRead:=0 } _ hd9 g buf.length cap s.size hv hr hcp)
    have hcg:=hg.cell
    have hfg:=hg.frozen
    obtain ⟨sb,sl,snb,serr,sline,sls,soff⟩:=v
    simp only at hv
    subst hv
    have hcopy:=Lib.run_copy_row_string (P:=Tryz.prog) ((w.setCell ⟨x.d,9,none⟩ (.int .i8 0)).setCell ⟨x.d,7,none⟩ (.slice (some ⟨g,0,none⟩) (buf.length + s.size) cap)) 74 9 3 5 g buf.length s.size (cap - buf.length) s arr 5 Tryz.underlying74 u8info
      (hg9.set_ne (a:=⟨x.d,7,none⟩) hgd' _) (Nat.le_refl _) (by omega)
    obtain ⟨L,hL⟩:∃ L,L=buf.length:=⟨_,rfl⟩
    have HL:=Lib.hid hL
    rw [← hL] at hc hty hb0 hl hcopy hr hbl
    have hr2:(L:Int) + (s.size:Int) ≤ (cap:Int):=by omega
    have hr3:(L:Int) ≤ (L:Int) + (s.size:Int):=by omega
    have hr4:(L:Int) + (s.size:Int) ≤ 100000000000000:=by omega
    clear hL hg hel hd9 hBg hg9
    by_cases hcl:cap=L
    · have hz:s.size=0:=by omega
      have hcopy0:=fun (w:World) (a:Addr)=>Lib.run_copy_empty_string (P:=Tryz.prog) w 74 9 3 5 (some a) 0 0 s Tryz.underlying74 (by rw [Option.isSome_map];kernel_rfl) hz
      have HZ:=Lib.hid hz
      rw [hz] at hty
      have HCL:=Lib.hid hcl
      clear hcopy hz
      have hsz2:s.size=0:=HZ.out
      go_enter Tryz.func64,Tryz.ntmps64
      go_wp2_with fail
      refine hty.out.mono ?_
      rintro e1 w1 ⟨rfl,rfl⟩
      go_wp2
      go_ret2
      have HGo:Blk w g arr 5:=HG.out
      have HZ2:s.data.toList=[]:=List.eq_nil_of_length_eq_zero HZ.out
      refine ⟨by rw [HZ.out];rfl,⟨.slice (some ⟨g,0,none⟩) L L,0,snb,serr,sline,sls,soff⟩,H.out.more' HX.out s.data.toList _ _ g L arr ?_ (by rw [HL.out,HZ2];rfl) ?_ (by omega) (by rw [← HL.out,HZ2];simp) (by omega) (Or.inl ⟨rfl,HBg.out,hnS⟩) HEL.out (by rw [HZ2];simp) ?_ rfl rfl rfl rfl rfl⟩
      · exact (H.out.dec.set 9 (.int .i8 0)).set 7 (.slice (some ⟨g,0,none⟩) L L)
      · exact (HGo.set_ne (a:=⟨x.d,9,none⟩) hgd' (.int .i8 0)).set_ne (a:=⟨x.d,7,none⟩) hgd' (.slice (some ⟨g,0,none⟩) L L)
      · exact (((Mod.refl _ w).setCell (p:=⟨x.d,9,none⟩) (Or.inl (Or.inl rfl)) (.int .i8 0)).setCell (p:=⟨x.d,7,none⟩) (Or.inl (Or.inl rfl)) (.slice (some ⟨g,0,none⟩) L L))
    · have hcl2:(L:Int) < (cap:Int):=by omega
      rw [List.append_assoc] at hcopy
      go_enter Tryz.func64,Tryz.ntmps64
      go_wp2_with fail
      refine hty.out.mono ?_
      rintro e1 w1 ⟨rfl,rfl⟩
      go_wp2
      go_ret2
      have HGo:Blk w g arr 5:=HG.out
      refine ⟨rfl,⟨.slice (some ⟨g,0,none⟩) (L + s.size) cap,0,snb,serr,sline,sls,soff⟩,H.out.more' HX.out s.data.toList _ _ g cap (arr.toList.take L ++ Lib.byteCells s.data.toList ++ arr.toList.drop (L + s.size)).toArray ?_ (by rw [HL.out];rfl) ?_
        (by rw [row_size _ _ _ _ (size_list s) (by omega)];exact hsz) (by rw [← HL.out];exact hr) hcp (Or.inl ⟨rfl,HBg.out,hnS⟩)
        (fun j hj=>by rw [row_old _ _ _ _ (size_list s) (by omega) _ (by rw [HL.out];exact hj)];exact HEL.out j hj) (fun j hj=>by rw [← HL.out,row_new _ _ _ _ (size_list s) (by omega) _ hj]) ?_ rfl rfl rfl rfl rfl⟩
      · exact Blk.row_ne (show Blk _ x.d _ _ from (H.out.dec.set 9 (.int .i8 0)).set 7 (.slice (some ⟨g,0,none⟩) (L + s.size) cap)) hgd _
      · rw [List.append_assoc]
        exact ((HGo.set_ne (a:=⟨x.d,9,none⟩) hgd' (.int .i8 0)).set_ne (a:=⟨x.d,7,none⟩) hgd' (.slice (some ⟨g,0,none⟩) (L + s.size) cap)).row _
      · exact (((Mod.refl _ w).setCell (p:=⟨x.d,9,none⟩) (Or.inl (Or.inl rfl)) (.int .i8 0)).setCell (p:=⟨x.d,7,none⟩) (Or.inl (Or.inl rfl)) (.slice (some ⟨g,0,none⟩) (L + s.size) cap)).setRow (g:=g) (Or.inl (Or.inr rfl)) _
  · have hty:=Lib.hid (tryGrow_no x.d c { v with lastRead:=0 } _ hd9 (some ⟨g,0,none⟩) buf.length cap s.size hv hl hr hcp)
    have hgr:=Lib.hid (grow_some x HX.out c _ { v with lastRead:=0 } rest e buf H9.out g cap arr hv hg9 hsz hl hel s.size (by omega) hr (by omega))
    obtain ⟨sb,sl,snb,serr,sline,sls,soff⟩:=v
    simp only at hv
    subst hv
    clear hd9 hg hg9 hel hBg
    obtain ⟨L,hL⟩:∃ L,L=buf.length:=⟨_,rfl⟩
    have HL:=Lib.hid hL
    rw [← hL] at hgr hb0 hbl hc hr hl
    clear hL
    have hr4:(L:Int) + (s.size:Int) ≤ 100000000000000:=by omega
    have hr3:(L:Int) ≤ (L:Int) + (s.size:Int):=by omega
    go_enter Tryz.func64,Tryz.ntmps64
    go_wp2_with fail
    refine hty.out.mono ?_
    rintro e1 w1 ⟨rfl,rfl⟩
    go_wp2_with fail
    refine hgr.out.mono ?_
    rintro e1 w1 ⟨rfl,g',cap',arr',hG⟩
    have hd':=hG.dec
    have HD':DecAt w1 x.d c ⟨.slice (some ⟨g',0,none⟩) (L + s.size) cap',0,snb,serr,sline,sls,soff⟩:=by rw [HL.out];exact hd'
    have hc1:=HD'.cell
    have hf1:=Blk.frozen HD'
    have hcp':L + s.size ≤ cap':=by rw [HL.out];exact hG.cp
    have hsz':=hG.sz
    have hcopy:=Lib.run_copy_row_string (P:=Tryz.prog) w1 74 9 3 5 g' L s.size (cap' - L) s arr' 5 Tryz.underlying74 u8info hG.blk (Nat.le_refl _) (by omega)
    rw [List.append_assoc] at hcopy
    have hcl2:(L:Int) < (cap':Int):=by omega
    have hcl:¬ cap'=L:=by omega
    have hcpm:cap' ≤ 9223372036854775807:=hG.cm
    have hr5:(L:Int) + (s.size:Int) ≤ (cap':Int):=by omega
    have hgd1:g' ≠ x.d:=fun e=>by
      have h1:=Blk.lt H9.out.dec
      have h2:=hG.new
      omega
    have hgd2:x.d ≠ g':=fun e=>hgd1 e.symm
    have HG':=Lib.hid hG
    have HD:=Lib.hid HD'
    clear hG hd' HD' hc hf
    go_wp2
    go_ret2
    have hsz0:(w.setCell ⟨x.d,9,none⟩ (.int .i8 0)).heap.size=w.heap.size:=by simp [World.setCell]
    refine ⟨rfl,⟨.slice (some ⟨g',0,none⟩) (L + s.size) cap',0,snb,serr,sline,sls,soff⟩,H.out.more' HX.out s.data.toList _ _ g' cap' (arr'.toList.take L ++ Lib.byteCells s.data.toList ++ arr'.toList.drop (L + s.size)).toArray ?_ (by rw [HL.out];rfl) ?_
        (by rw [row_size _ _ _ _ (size_list s) (by omega)];exact hsz') (by rw [← HL.out];exact hcp') hcpm (Or.inr (by have:=HG'.out.new;omega))
        (fun j hj=>by rw [row_old _ _ _ _ (size_list s) (by omega) _ (by rw [HL.out];exact hj)];exact HG'.out.el j hj) (fun j hj=>by rw [← HL.out,row_new _ _ _ _ (size_list s) (by omega) _ hj]) ?_ rfl rfl rfl rfl rfl⟩
    · exact Blk.row_ne (show Blk _ x.d _ _ from HD.out) hgd2 _
    · rw [List.append_assoc]
      exact HG'.out.blk.row _
    · refine Mod.setRow ?_ (g:=g') (Or.inr (by have:=HG'.out.new;omega)) _
      exact HM9.out.trans HG'.out.mod (fun i _ hi=>Or.inl hi)
end Go.Proofs.YtkjnockljapnbaaGreatDoor
namespace Go.Proofs.YtkjnockljapnbaaGreatDoor
open Go Go.RowKit
theorem BufAt.take {x:Cx} {w:World} {g:Nat} {cap:Nat} {buf:Bs} {arr:Array Value} (n:Nat) (hn:n ≤ buf.length) (hg:Blk w g arr 5) (hsz:arr.size=cap) (hl:buf.length ≤ cap) (hcp:cap ≤ 9223372036854775807) (hB:x.B ≤ g) (hS:¬ x.S0 g)
    (hel:∀ j,j < buf.length → arr[j]?=some (.int .u8 (buf.getD j 0).toNat)):BufAt x w (.slice (some ⟨g,0,none⟩) n cap) (buf.take n):=by
  have hlen:(buf.take n).length=n:=by simp;omega
  refine Or.inr ⟨g,cap,arr,by rw [hlen],hg,hsz,by omega,hcp,hB,hS,fun j hj=>?_⟩
  rw [hlen] at hj
  rw [hel j (by omega)]
  simp [List.getD_eq_getElem?_getD,hj]
theorem truncate_c (x:Cx) (hx:x.Ok) (c:DC) (w:World) (v:DV) (rest:Bs) (e:Option EK) (buf:Bs) (h:RdS x c w v rest e buf) (n:Nat) (hn:n ≤ buf.length) :
    Calls Tryz.prog 48 #[.pointer (some ⟨x.d,7,none⟩),.int .i64 n] w fun en w'=>en=.returned (.tuple #[])∧∃ v',RdS x c w' v' rest e (buf.take n)∧v'.nb=v.nb∧(∀ k,bufBlk v'.bufv k ↔ bufBlk v.bufv k)∧Mod x.S0 w w'∧w'.heap.size=w.heap.size:=by
  have hc:=h.dec.cell
  have hf:=h.dec.frozen
  have hrs:=Lib.hid (reset_c x hx c w v rest e buf h)
  have hd9:DecAt (w.setCell ⟨x.d,9,none⟩ (.int .i8 0)) x.d c { v with lastRead:=0 }:=h.dec.set 9 (.int .i8 0)
  have hm9:Mod (fun k=>k=x.d ∨ bufBlk v.bufv k) w (w.setCell ⟨x.d,9,none⟩ (.int .i8 0)):=(Mod.refl _ w).setCell (Or.inl (Or.inl rfl)) _
  have hbx:∀ k,bufBlk v.bufv k → k ≠ x.d:=fun k hk e=>h.bf.notS0 k hk (Or.inl e)
  have h9:RdS x c (w.setCell ⟨x.d,9,none⟩ (.int .i8 0)) { v with lastRead:=0 } rest e buf:=h.buf hx hd9 hm9 rfl rfl rfl rfl rfl (h.bf.mod ((Mod.refl (fun k=>k=x.d) w).setCell (p:=⟨x.d,9,none⟩) (Or.inl rfl) _) hbx)
  have hlen:=Lib.hid (len_c x c _ _ rest e buf h9)
  have hn0:(0:Int) ≤ (n:Int):=by omega
  have hz:((n:Int) == 0)=true ∨ ((n:Int) == 0)=false:=by cases ((n:Int) == 0) <;> simp
  have HX:=Lib.hid hx
  rcases hz with hz|hz
  · have:n=0:=by simpa using hz
    clear hc hf h h9 hd9 hm9 hbx hx
    go_enter Tryz.func48,Tryz.ntmps48
    go_wp2_with fail
    refine hrs.out.mono ?_
    rintro e1 w1 ⟨rfl,HV⟩
    have HV:=Lib.hid HV
    go_wp2
    (try simp only [Exit.inBlock,Exit.then])
    refine bodyPost_ret (results_none rfl _ _ _) rfl ?_
    subst this
    exact ⟨rfl,HV.out⟩
  · have hn1:n ≠ 0:=by simpa using hz
    rcases h.bf with ⟨hv,hb⟩|⟨g,cap,arr,hv,hg,hsz,hl,hcp,hBg,hnS,hel⟩
    · subst hb;simp at hn;omega
    have hgd:x.d ≠ g:=fun e=>hnS (Or.inl e.symm)
    have hgd':g ≠ x.d:=fun e=>hnS (Or.inl e)
    have H:=Lib.hid h
    have HG:=Lib.hid hg
    have HEL:=Lib.hid hel
    have hbf:=Lib.hid (fun (w':World) (hg':Blk w' g arr 5)=>BufAt.take (x:=x) n hn hg' hsz hl hcp hBg hnS hel)
    have h1:(n:Int) ≤ (buf.length:Int):=by omega
    have h2:(buf.length:Int) ≤ (cap:Int):=by omega
    have h3:(n:Int) ≤ (cap:Int):=by omega
    have h4:(cap:Int) ≤ 9223372036854775807:=by omega
    have hw:IntKind.i64.wrap (n:Int)=n:=IntWalk.i64_in _ (by omega)
    obtain ⟨sb,sl,snb,serr,sline,sls,soff⟩:=v
    simp only at hv
    subst hv
    clear h h9 hd9 hm9 hbx hx hg hel hBg
    go_enter Tryz.func48,Tryz.ntmps48
    go_wp2_with fail
    refine hlen.out.mono ?_
    rintro e1 w1 ⟨rfl,k,rfl⟩
    go_wp2
    (refine wp_region_pi [0,0,0,0,1,0,0,0,1,0,1,1,0,0,2] [0,1,2,3,5,6,7,9,4,8,10,11,12,13,14] (by kernel_rfl) (by kernel_rfl) ?_;repeat (first|(with_reducible refine wpPi_nil (fun nq=>?_))|((with_reducible refine wpPi_free rfl rfl (fun K hK=>?_));go_simp;refine hK _ ?_;clear hK K)|((with_reducible refine wpPi_quiet rfl rfl (fun K hK=>?_));go_simp;refine hK _ ?_;clear hK K)|((with_reducible refine wpPi_eff rfl rfl (fun nq K hK=>?_));go_simp;refine hK.out _ _ ?_;clear hK K)))
    go_wp2
    go_end0
    have hd:DecAt ((w.setCell ⟨x.d,9,none⟩ (.int .i8 0)).setCell ⟨x.d,7,none⟩ (.slice (some ⟨g,0,none⟩) n cap)) x.d c ⟨.slice (some ⟨g,0,none⟩) n cap,0,snb,serr,sline,sls,soff⟩:=(H.out.dec.set 9 (.int .i8 0)).set 7 (.slice (some ⟨g,0,none⟩) n cap)
    have HGo:Blk w g arr 5:=HG.out
    have hg2:=(HGo.set_ne (a:=⟨x.d,9,none⟩) hgd' (.int .i8 0)).set_ne (a:=⟨x.d,7,none⟩) hgd' (.slice (some ⟨g,0,none⟩) n cap)
    have hm:Mod (fun k=>k=x.d) w ((w.setCell ⟨x.d,9,none⟩ (.int .i8 0)).setCell ⟨x.d,7,none⟩ (.slice (some ⟨g,0,none⟩) n cap)):=((Mod.refl (fun k=>k=x.d) w).setCell (p:=⟨x.d,9,none⟩) (Or.inl rfl) (.int .i8 0)).setCell (p:=⟨x.d,7,none⟩) (Or.inl rfl) (.slice (some ⟨g,0,none⟩) n cap)
    have hr:=H.out.buf HX.out (v':=⟨.slice (some ⟨g,0,none⟩) n cap,0,snb,serr,sline,sls,soff⟩) hd (hm.mono (fun _ _ h=>Or.inl h)) rfl rfl rfl rfl rfl (hbf.out _ hg2)
    refine ⟨rfl,⟨.slice (some ⟨g,0,none⟩) n cap,0,snb,serr,sline,sls,soff⟩,?_,rfl,fun k=>Iff.rfl,?_,?_⟩
    · exact ⟨⟨hr.base.os,hr.base.tape,hr.base.output,hr.base.size,hr.base.block⟩,hr.dec,hr.inp,hr.pos,hr.err,hr.fin,hr.bf⟩
    · exact ⟨hm.os,hm.tape,hm.output,hm.size,fun i hi hs=>hm.block i hi (fun h=>hs (Or.inl h))⟩
    · simp [World.setCell]
end Go.Proofs.YtkjnockljapnbaaGreatDoor
namespace Go.Proofs.YtkjnockljapnbaaGreatDoor
open Go Go.RowKit
theorem ascName_iff (b:UInt8):ascName b=true ↔ (65 ≤ b.toNat∧b.toNat ≤ 90) ∨ (97 ≤ b.toNat∧b.toNat ≤ 122) ∨ (48 ≤ b.toNat∧b.toNat ≤ 57) ∨ b.toNat=95 ∨ b.toNat=58 ∨ b.toNat=46 ∨ b.toNat=45:=by
  simp only [ascName,Bool.or_eq_true,Bool.and_eq_true,decide_eq_true_eq,beq_iff_eq,UInt8.le_iff_toNat_le,← UInt8.toNat_inj]
  have e1:(65:UInt8).toNat=65:=rfl
  have e2:(90:UInt8).toNat=90:=rfl
  have e3:(97:UInt8).toNat=97:=rfl
  have e4:(122:UInt8).toNat=122:=rfl
  have e5:(48:UInt8).toNat=48:=rfl
  have e6:(57:UInt8).toNat=57:=rfl
  have e7:(95:UInt8).toNat=95:=rfl
  have e8:(58:UInt8).toNat=58:=rfl
  have e9:(46:UInt8).toNat=46:=rfl
  have e0:(45:UInt8).toNat=45:=rfl
  rw [e1,e2,e3,e4,e5,e6,e7,e8,e9,e0]
  omega
theorem nameByte_c (b:UInt8) (w:World):Calls Tryz.prog 80 #[.int .u8 b.toNat] w fun e w'=>e=.returned (.bool (ascName b))∧w=w':=by
  have hA:=Lib.hid (ascName_iff b)
  obtain ⟨n,hn⟩:∃ n,n=b.toNat:=⟨_,rfl⟩
  rw [← hn] at hA ⊢
  have HN:=Lib.hid hn
  clear hn
  have hsplit:n < 45 ∨ n=45 ∨ n=46 ∨ n=47 ∨ (48 ≤ n∧n ≤ 57) ∨ n=58 ∨ (59 ≤ n∧n ≤ 64) ∨ (65 ≤ n∧n ≤ 90) ∨ (91 ≤ n∧n ≤ 94) ∨ n=95 ∨ n=96 ∨ (97 ≤ n∧n ≤ 122) ∨ 123 ≤ n:=by omega
  rcases hsplit with h|h|h|h|h|h|h|h|h|h|h|h|h
  all_goals
    have HH:=Lib.hid h
    first|have:(65:Int) ≤ (n:Int):=by omega|have:¬ ((65:Int) ≤ (n:Int)):=by omega
    first|have:(n:Int) ≤ 90:=by omega|have:¬ ((n:Int) ≤ 90):=by omega
    first|have:(97:Int) ≤ (n:Int):=by omega|have:¬ ((97:Int) ≤ (n:Int)):=by omega
    first|have:(n:Int) ≤ 122:=by omega|have:¬ ((n:Int) ≤ 122):=by omega
    first|have:(48:Int) ≤ (n:Int):=by omega|have:¬ ((48:Int) ≤ (n:Int)):=by omega
    first|have:(n:Int) ≤ 57:=by omega|have:¬ ((n:Int) ≤ 57):=by omega
    first|have:(((n:Int)) == (95))=true:=by (simp;omega)|have:(((n:Int)) == (95))=false:=by (simp;omega)
    first|have:(((n:Int)) == (58))=true:=by (simp;omega)|have:(((n:Int)) == (58))=false:=by (simp;omega)
    first|have:(((n:Int)) == (46))=true:=by (simp;omega)|have:(((n:Int)) == (46))=false:=by (simp;omega)
    first|have:(((n:Int)) == (45))=true:=by (simp;omega)|have:(((n:Int)) == (45))=false:=by (simp;omega)
    clear h
    go_enter Tryz.func80,Tryz.ntmps80
    go_wp2
    go_ret
    refine ⟨?_,rfl⟩
    have:=HH.out
    first
      | (rw [show ascName b=true from hA.out.2 (by omega)];rfl)
      | (rw [show ascName b=false from by
          rw [← Bool.not_eq_true];intro hh
          have:=hA.out.1 hh;omega];rfl)
theorem nameByte_hi {b:UInt8} (h:(128:Int) ≤ (b.toNat:Int)):nameByte b=true:=by
  have h1:(128:UInt8).toNat=128:=rfl
  simp only [nameByte,Bool.or_eq_true,decide_eq_true_eq,UInt8.le_iff_toNat_le,h1]
  exact Or.inl (by omega)
theorem nameByte_lo {b:UInt8} (h:(b.toNat:Int) < 128):nameByte b=ascName b:=by
  have h1:(128:UInt8).toNat=128:=rfl
  have:¬ (128 ≤ b):=by rw [UInt8.le_iff_toNat_le,h1];omega
  simp [nameByte,this]
theorem Stp.s0 {x:Cx} {w w1 w':World} {v v1 v':DV} (h:Stp x w v w1 v1) (hm:Mod x.S0 w1 w') (hb:v'.bufv=v1.bufv):Stp x w v w' v':=h.trans (hm.stp hb)
theorem readName_c (x:Cx) (hx:x.Ok) (c:DC) (hdc:DcOk x c) (w:World) (v:DV) (rest:Bs) (e:Option EK) (buf:Bs) (h:RdS x c w v rest e buf) (hlim:buf.length ≤ 10000000000000) :
    Calls Tryz.prog 61 #[.pointer (some ⟨x.d,0,none⟩)] w fun en w'=>∃ v',Stp x w v w' v' ∧
      (((spanName rest).2=[]∧en=.returned (.bool false)∧ErrS x c w' v' (mustE x.o.fails)) ∨
       ((spanName rest).2 ≠ []∧(spanName rest).1=[]∧en=.returned (.bool false)∧RdS x c w' v' rest none buf) ∨
       ((spanName rest).2 ≠ []∧(spanName rest).1 ≠ []∧en=.returned (.bool true)∧RdS x c w' v' (spanName rest).2 none (buf ++ (spanName rest).1))):=by
  have HX:=Lib.hid hx
  have HD:=Lib.hid hdc
  have H:=Lib.hid h
  have hll:rest.length ≤ 1000000000:=Nat.le_trans (h.suf.length_le) hx.len
  clear h hx hdc
  cases rest with
  | nil=>
    have hcon:=Lib.hid (mustgetc_none x HX.out c HD.out w v e buf H.out)
    go_enter Tryz.func61,Tryz.ntmps61
    go_wp2_with fail
    refine hcon.out.mono ?_
    rintro e1 w1 ⟨rfl,hq⟩
    have HQ:=Lib.hid hq
    clear hq
    go_wp2
    go_ret
    obtain ⟨v1,h1,hb1,hm1⟩:=HQ.out
    exact ⟨v1,hm1.stp hb1,Or.inl ⟨rfl,rfl,h1⟩⟩
  | cons b r=>
    have hcon:=Lib.hid (mustgetc_some x HX.out c HD.out w v b r e buf H.out)
    have HSUF:=Lib.hid H.out.suf
    have hnb:=Lib.hid (nameByte_c b)
    by_cases hnm:nameByte b=true
    · have hcase:((128:Int) ≤ (b.toNat:Int)) ∨ ((b.toNat:Int) < 128∧ascName b=true):=by
        rcases Int.lt_or_le (b.toNat:Int) 128 with h|h
        · exact Or.inr ⟨h,by rw [← nameByte_lo h];exact hnm⟩
        · exact Or.inl h
      have HSP1:=Lib.hid (show (spanName (b :: r)).1=b :: (spanName r).1 by simp [spanName,hnm])
      have HSP2:=Lib.hid (show (spanName (b :: r)).2=(spanName r).2 by simp [spanName,hnm])
      clear hnm
      have hnn:r.length ≤ 1000000000:=by simp at hll;omega
      have HLL:=Lib.hid hnn
      have HLIM:=Lib.hid hlim
      clear hll hlim hnn
      rcases hcase with hhi|⟨hlo,hasc⟩
      all_goals
        go_enter Tryz.func61,Tryz.ntmps61
        go_wp2_with fail
        refine hcon.out.mono ?_
        rintro e1 w1 ⟨rfl,v1,h1,hn1,hb1,hm1,hz1⟩
        have hwb:=Lib.hid (writeByte_c x HX.out c w1 v1 r none buf h1 b (by have:=HLIM.out;omega))
        have HB1:=Lib.hid hb1
        have HM1:=Lib.hid hm1
        clear h1 hb1 hm1 hz1 hn1 hcon
        go_wp2_with fail
        try
          refine (hnb.out _).mono ?_
          rintro e2 w2 ⟨rfl,rfl⟩
          go_wp2_with fail
        refine hwb.out.mono ?_
        rintro e3 w3 ⟨rfl,v3,h3,hn3,hs3⟩
        have HS3:=Lib.hid ((HM1.out.stp HB1.out).trans hs3)
        have H3:=Lib.hid h3
        clear h3 hn3 hs3 hwb HB1 HM1
        go_wp2
        go_loopg [2,3] r.length (fun k _ _ wr=>∃ v4 r4 pre,r4.length=k∧Stp x w v wr v4∧RdS x c wr v4 r4 none (buf ++ pre)∧pre.length + r4.length=r.length + 1∧(spanName (b :: r)).1=pre ++ (spanName r4).1∧(spanName (b :: r)).2=(spanName r4).2)
        case atStart=>exact ⟨v3,r,[b],rfl,HS3.out,H3.out,by simp;omega,HSP1.out,HSP2.out⟩
        case round=>
          obtain ⟨v4,r4,pre,hk,hs4,h4,hpl,hp1,hp2⟩:=hrel
          have HK:=Lib.hid hk
          have HS4:=Lib.hid hs4
          have HPL:=Lib.hid hpl
          have HP1:=Lib.hid hp1
          have HP2:=Lib.hid hp2
          have H4:=Lib.hid h4
          clear hk hs4 hpl hp1 hp2 h4
          cases r4 with
          | nil=>
            have hcon:=Lib.hid (mustgetc_none x HX.out c HD.out wr v4 none _ H4.out)
            go_wp2_with fail
            refine hcon.out.mono ?_
            rintro e1 w1 ⟨rfl,hq⟩
            have HQ:=Lib.hid hq
            clear hq
            go_wp2
            (try simp only [Exit.inBlock,Exit.then])
            go_ret
            obtain ⟨v5,h5,hb5,hm5⟩:=HQ.out
            exact ⟨v5,HS4.out.s0 hm5 hb5,Or.inl ⟨HP2.out,rfl,h5⟩⟩
          | cons b4 r5=>
            have hcon:=Lib.hid (mustgetc_some x HX.out c HD.out wr v4 b4 r5 none _ H4.out)
            have HSUF:=Lib.hid H4.out.suf
            have hnb4:=Lib.hid (nameByte_c b4)
            by_cases hnm:nameByte b4=true
            · have hcase:((128:Int) ≤ (b4.toNat:Int)) ∨ ((b4.toNat:Int) < 128∧ascName b4=true):=by
                rcases Int.lt_or_le (b4.toNat:Int) 128 with h|h
                · exact Or.inr ⟨h,by rw [← nameByte_lo h];exact hnm⟩
                · exact Or.inl h
              have HSQ1:=Lib.hid (show (spanName (b4 :: r5)).1=b4 :: (spanName r5).1 by simp [spanName,hnm])
              have HSQ2:=Lib.hid (show (spanName (b4 :: r5)).2=(spanName r5).2 by simp [spanName,hnm])
              clear hnm
              rcases hcase with hhi4|⟨hlo4,hasc4⟩
              all_goals
                go_wp2_with fail
                refine hcon.out.mono ?_
                rintro e1 w1 ⟨rfl,v5,h5,hn5,hb5,hm5,hz5⟩
                have hwb:=Lib.hid (writeByte_c x HX.out c w1 v5 r5 none _ h5 b4 (by
                  have h1:=HLIM.out
                  have h2:=HPL.out
                  have h3:=HLL.out
                  simp at h2 ⊢;omega))
                have HB5:=Lib.hid hb5
                have HM5:=Lib.hid hm5
                clear h5 hb5 hm5 hz5 hn5 hcon
                go_wp2_with fail
                try
                  refine (hnb4.out _).mono ?_
                  rintro e2 w2 ⟨rfl,rfl⟩
                  go_wp2_with fail
                refine hwb.out.mono ?_
                rintro e3 w3 ⟨rfl,v6,h6,hn6,hs6⟩
                have HS6:=Lib.hid ((HS4.out.s0 HM5.out HB5.out).trans hs6)
                have H6:=Lib.hid h6
                clear h6 hn6 hs6 hwb HB5 HM5
                go_wp2
                go_roundg r5.length
                case measure=>have:=HK.out;simp at this;omega
                case rel=>exact ⟨v6,r5,pre ++ [b4],rfl,HS6.out,by rw [← List.append_assoc];exact H6.out,by have:=HPL.out;simp at this ⊢;omega,by rw [HP1.out,HSQ1.out];simp,by rw [HP2.out,HSQ2.out]⟩
            · have hlo4:(b4.toNat:Int) < 128:=by
                rcases Int.lt_or_le (b4.toNat:Int) 128 with h|h
                · exact h
                · exact absurd (nameByte_hi h) hnm
              have hasc4:ascName b4=false:=by rw [← nameByte_lo hlo4];simpa using hnm
              have HSQ:=Lib.hid (show spanName (b4 :: r5)=([],b4 :: r5) by simp [spanName,hnm])
              clear hnm
              go_wp2_with fail
              refine hcon.out.mono ?_
              rintro e1 w1 ⟨rfl,v5,h5,hn5,hb5,hm5,hz5⟩
              have hun:=Lib.hid (ungetc_c x HX.out c w1 v5 b4 r5 _ h5 hn5 HSUF.out)
              have HB5:=Lib.hid hb5
              have HM5:=Lib.hid hm5
              clear h5 hb5 hm5 hz5 hn5 hcon
              go_wp2_with fail
              refine (hnb4.out _).mono ?_
              rintro e2 w2 ⟨rfl,rfl⟩
              go_wp2_with fail
              refine hun.out.mono ?_
              rintro e3 w3 ⟨rfl,hq⟩
              have HQ:=Lib.hid hq
              clear hq hun
              go_wp2
              (try simp only [Exit.inBlock,Exit.then])
              go_ret
              obtain ⟨v6,h6,hn6,hb6,hm6,hz6⟩:=HQ.out
              have hsp2:(spanName (b :: r)).2=b4 :: r5:=by rw [HP2.out,HSQ.out]
              have hsp1:(spanName (b :: r)).1=pre:=by rw [HP1.out,HSQ.out];simp
              refine ⟨v6,(HS4.out.s0 HM5.out HB5.out).s0 hm6 hb6,Or.inr (Or.inr ⟨by rw [hsp2];simp,by rw [HSP1.out];simp,rfl,?_⟩)⟩
              rw [hsp2,hsp1];exact h6
    · have hlo:(b.toNat:Int) < 128:=by
        rcases Int.lt_or_le (b.toNat:Int) 128 with h|h
        · exact h
        · exact absurd (nameByte_hi h) hnm
      have hasc:ascName b=false:=by rw [← nameByte_lo hlo];simpa using hnm
      have HSP:=Lib.hid (show spanName (b :: r)=([],b :: r) by simp [spanName,hnm])
      clear hnm
      go_enter Tryz.func61,Tryz.ntmps61
      go_wp2_with fail
      refine hcon.out.mono ?_
      rintro e1 w1 ⟨rfl,v1,h1,hn1,hb1,hm1,hz1⟩
      have hun:=Lib.hid (ungetc_c x HX.out c w1 v1 b r buf h1 hn1 HSUF.out)
      have HB1:=Lib.hid hb1
      have HM1:=Lib.hid hm1
      clear h1 hb1 hm1 hz1 hn1 hcon
      go_wp2_with fail
      refine (hnb.out _).mono ?_
      rintro e2 w2 ⟨rfl,rfl⟩
      go_wp2_with fail
      refine hun.out.mono ?_
      rintro e3 w3 ⟨rfl,hq⟩
      have HQ:=Lib.hid hq
      clear hq hun
      go_wp2
      go_ret
      obtain ⟨v3,h3,hn3,hb3,hm3,hz3⟩:=HQ.out
      exact ⟨v3,(HM1.out.stp HB1.out).s0 hm3 hb3,Or.inr (Or.inl ⟨by rw [HSP.out];simp,by rw [HSP.out],rfl,h3⟩)⟩
end Go.Proofs.YtkjnockljapnbaaGreatDoor
namespace Go.Proofs.YtkjnockljapnbaaGreatDoor
open Go Go.RowKit
def dr_ren:Go.Shelf.Ren:=⟨fun|32=>65|49=>84|n=>n,
  fun|0=>0|3=>3|4=>4|5=>5|21=>21|25=>119|30=>74|33=>167|66=>234|68=>236|69=>237|n=>n,
  fun|2=>6|3=>7|n=>n⟩
theorem dr_lays:Go.Proofs.Lays7.n32 Tryz.prog dr_ren:={
  mixed:=by first|kernel_rfl|(intro w;kernel_rfl)|(intro w;rfl)|decide,
  f32:=by first|kernel_rfl|(intro w;kernel_rfl)|(intro w;rfl)|decide,
  f49:=by first|kernel_rfl|(intro w;kernel_rfl)|(intro w;rfl)|decide,
  t0:=by first|kernel_rfl|(intro w;kernel_rfl)|(intro w;rfl)|decide,
  a0:=by first|kernel_rfl|(intro w;kernel_rfl)|(intro w;rfl)|decide,
  z0:=by first|kernel_rfl|(intro w;kernel_rfl)|(intro w;rfl)|decide,
  v0:=by first|kernel_rfl|(intro w;kernel_rfl)|(intro w;rfl)|decide,
  i0:=by first|kernel_rfl|(intro w;kernel_rfl)|(intro w;rfl)|decide,
  t3:=by first|kernel_rfl|(intro w;kernel_rfl)|(intro w;rfl)|decide,
  a3:=by first|kernel_rfl|(intro w;kernel_rfl)|(intro w;rfl)|decide,
  z3:=by first|kernel_rfl|(intro w;kernel_rfl)|(intro w;rfl)|decide,
  v3:=by first|kernel_rfl|(intro w;kernel_rfl)|(intro w;rfl)|decide,
  i3:=by first|kernel_rfl|(intro w;kernel_rfl)|(intro w;rfl)|decide,
  t4:=by first|kernel_rfl|(intro w;kernel_rfl)|(intro w;rfl)|decide,
  a4:=by first|kernel_rfl|(intro w;kernel_rfl)|(intro w;rfl)|decide,
  z4:=by first|kernel_rfl|(intro w;kernel_rfl)|(intro w;rfl)|decide,
  v4:=by first|kernel_rfl|(intro w;kernel_rfl)|(intro w;rfl)|decide,
  i4:=by first|kernel_rfl|(intro w;kernel_rfl)|(intro w;rfl)|decide,
  t5:=by first|kernel_rfl|(intro w;kernel_rfl)|(intro w;rfl)|decide,
  a5:=by first|kernel_rfl|(intro w;kernel_rfl)|(intro w;rfl)|decide,
  z5:=by first|kernel_rfl|(intro w;kernel_rfl)|(intro w;rfl)|decide,
  v5:=by first|kernel_rfl|(intro w;kernel_rfl)|(intro w;rfl)|decide,
  i5:=by first|kernel_rfl|(intro w;kernel_rfl)|(intro w;rfl)|decide,
  t21:=by first|kernel_rfl|(intro w;kernel_rfl)|(intro w;rfl)|decide,
  a21:=by first|kernel_rfl|(intro w;kernel_rfl)|(intro w;rfl)|decide,
  z21:=by first|kernel_rfl|(intro w;kernel_rfl)|(intro w;rfl)|decide,
  v21:=by first|kernel_rfl|(intro w;kernel_rfl)|(intro w;rfl)|decide,
  i21:=by first|kernel_rfl|(intro w;kernel_rfl)|(intro w;rfl)|decide,
  t25:=by first|kernel_rfl|(intro w;kernel_rfl)|(intro w;rfl)|decide,
  a25:=by first|kernel_rfl|(intro w;kernel_rfl)|(intro w;rfl)|decide,
  z25:=by first|kernel_rfl|(intro w;kernel_rfl)|(intro w;rfl)|decide,
  v25:=by first|kernel_rfl|(intro w;kernel_rfl)|(intro w;rfl)|decide,
  i25:=by first|kernel_rfl|(intro w;kernel_rfl)|(intro w;rfl)|decide,
  t30:=by first|kernel_rfl|(intro w;kernel_rfl)|(intro w;rfl)|decide,
  a30:=by first|kernel_rfl|(intro w;kernel_rfl)|(intro w;rfl)|decide,
  z30:=by first|kernel_rfl|(intro w;kernel_rfl)|(intro w;rfl)|decide,
  v30:=by first|kernel_rfl|(intro w;kernel_rfl)|(intro w;rfl)|decide,
  i30:=by first|kernel_rfl|(intro w;kernel_rfl)|(intro w;rfl)|decide,
  t33:=by first|kernel_rfl|(intro w;kernel_rfl)|(intro w;rfl)|decide,
  a33:=by first|kernel_rfl|(intro w;kernel_rfl)|(intro w;rfl)|decide,
  z33:=by first|kernel_rfl|(intro w;kernel_rfl)|(intro w;rfl)|decide,
  v33:=by first|kernel_rfl|(intro w;kernel_rfl)|(intro w;rfl)|decide,
  i33:=by first|kernel_rfl|(intro w;kernel_rfl)|(intro w;rfl)|decide,
  t66:=by first|kernel_rfl|(intro w;kernel_rfl)|(intro w;rfl)|decide,
  a66:=by first|kernel_rfl|(intro w;kernel_rfl)|(intro w;rfl)|decide,
  z66:=by first|kernel_rfl|(intro w;kernel_rfl)|(intro w;rfl)|decide,
  t68:=by first|kernel_rfl|(intro w;kernel_rfl)|(intro w;rfl)|decide,
  a68:=by first|kernel_rfl|(intro w;kernel_rfl)|(intro w;rfl)|decide,
  z68:=by first|kernel_rfl|(intro w;kernel_rfl)|(intro w;rfl)|decide,
  v68:=by first|kernel_rfl|(intro w;kernel_rfl)|(intro w;rfl)|decide,
  i68:=by first|kernel_rfl|(intro w;kernel_rfl)|(intro w;rfl)|decide,
  t69:=by first|kernel_rfl|(intro w;kernel_rfl)|(intro w;rfl)|decide,
  a69:=by first|kernel_rfl|(intro w;kernel_rfl)|(intro w;rfl)|decide,
  z69:=by first|kernel_rfl|(intro w;kernel_rfl)|(intro w;rfl)|decide,
  v69:=by first|kernel_rfl|(intro w;kernel_rfl)|(intro w;rfl)|decide,
  i69:=by first|kernel_rfl|(intro w;kernel_rfl)|(intro w;rfl)|decide,
  g2:=by first|kernel_rfl|(intro w;kernel_rfl)|(intro w;rfl)|decide,
  g3:=by first|kernel_rfl|(intro w;kernel_rfl)|(intro w;rfl)|decide }
theorem decodeRune_c (s:ByteArray) (b off cap:Nat) (w:World) (hT:Lib.Utf8Tabs 6 7 w) (hp:∀ j,j < s.size → w.cell? ⟨b,off + j,none⟩=some (.int .u8 (s.get! j).toNat)) :
    Calls Tryz.prog 65 #[.slice (some ⟨b,off,none⟩) s.size cap] w fun e w'=>e=.returned (.tuple #[.int .i32 (Lib.decodeGo s).1,.int .i64 (Lib.decodeGo s).2])∧Below w.heap.size w w':=
  Any7.utf8_DecodeRune dr_lays s b off cap w hT hp
end Go.Proofs.YtkjnockljapnbaaGreatDoor
