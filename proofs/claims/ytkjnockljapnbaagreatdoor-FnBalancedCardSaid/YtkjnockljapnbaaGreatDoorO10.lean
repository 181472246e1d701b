/- Part of the proof that laws.FnBalanced returns true for every argument (Run, Ta, Tc, Is, In2, Na). No condition of its own. -/
import Derived.Test.YtkjnockljapnbaaGreatDoorO09
import Derived.Test.YtkjnockljapnbaaGreatDoorO07
import Derived.Shelf.Unicode.PredsPay
import Derived.Lib.SlBytesRow
set_option linter.all false
set_option maxHeartbeats 8000000
set_option maxRecDepth 100000
namespace Go.Proofs.YtkjnockljapnbaaGreatDoor
open Go Go.RowKit
def runOps (P:Program) (ops:Array Oper):List Oper → Act → World → Option (Act × World)
  | [],a,w=>some (a,w)
  | o :: l,a,w=>
    if Region.wanted o (yielded ops a.tmps) then
      match (execOp a.eval o).run P w with
      | .ok (.value v) w'=>runOps P ops l (a.put o.dst v) w'
      | .ok .skip w'=>runOps P ops l (a.put o.dst undef) w'
      | _=>none
    else runOps P ops l (a.put o.dst undef) w
theorem wpList_run {P:Program} {ops:Array Oper} {Q:Exit → Act → World → Prop}:∀ (l:List Oper) (a:Act) (w:World) (r:Act × World),runOps P ops l a w=some r → Q .normal r.1 r.2 → wpList P ops Q l a w
  | [],a,w,r,h,hq=>by simp only [runOps,Option.some.injEq] at h;subst h;exact hq
  | o :: l,a,w,r,h,hq=>by
    unfold runOps at h
    unfold wpList
    split at h
    · rename_i hw
      rw [if_pos hw]
      refine Or.inl ?_
      unfold Oper.wp
      generalize (execOp a.eval o).run P w=res at *
      cases res with
      | ok n w'=>
        cases n <;> simp only [Oper.upon] <;> simp only [reduceCtorEq] at h
        · exact wpList_run l _ _ r h hq
        · exact wpList_run l _ _ r h hq
      | halt x w'=>simp only [reduceCtorEq] at h
    · rename_i hw
      rw [if_neg hw]
      exact wpList_run l _ _ r h hq
def runCode (P:Program):Code → Act → World → Option (Bool × Act × World)
  | .skip,a,w=>some (false,a,w)
  | .region _ ops false,a,w=>(runOps P ops ops.toList a w).map fun r=>(false,r.1,r.2)
  | .seq x y,a,w=>match runCode P x a w with
    | some (false,a',w')=>runCode P y a' w'
    | r=>r
  | .ret,a,w=>some (true,a,w)
  | _,_,_=>none
theorem wp_run {P:Program}:∀ (c:Code) (Q:Exit → Act → World → Prop) (a:Act) (w:World) (r:Bool × Act × World),runCode P c a w=some r → Q (if r.1 then .ret else .normal) r.2.1 r.2.2 → c.wp P Q a w
  | .skip,Q,a,w,r,h,hq=>by simp only [runCode,Option.some.injEq] at h;subst h;exact wp_skip (by simpa using hq)
  | .ret,Q,a,w,r,h,hq=>by simp only [runCode,Option.some.injEq] at h;subst h;exact wp_ret (by simpa using hq)
  | .region id ops false,Q,a,w,r,h,hq=>by
    simp only [runCode,Option.map_eq_some_iff] at h
    obtain ⟨s,hs,rfl⟩:=h
    have:=wpList_run (Q:=Q) ops.toList a w s hs (by simpa using hq)
    exact wp_region_list this
  | .seq x y,Q,a,w,r,h,hq=>by
    unfold runCode at h
    split at h
    · rename_i a' w' hx
      exact wp_seq (wp_run x _ a w _ hx (by simpa [Exit.then] using wp_run y Q a' w' r h hq))
    · rename_i hx
      obtain ⟨b,a',w'⟩:=r
      cases b with
      | false=>exact absurd h (hx _ _)
      | true=>exact wp_seq (wp_run x _ a w _ h (by simpa [Exit.then] using hq))
  | .region id ops true,Q,a,w,r,h,hq=>by simp [runCode] at h
  | .cond ..,_,_,_,_,h,_=>by simp [runCode] at h
  | .block ..,_,_,_,_,h,_=>by simp [runCode] at h
  | .loop ..,_,_,_,_,h,_=>by simp [runCode] at h
  | .rangeFunc ..,_,_,_,_,h,_=>by simp [runCode] at h
  | .exit ..,_,_,_,_,h,_=>by simp [runCode] at h
  | .scope ..,_,_,_,_,h,_=>by simp [runCode] at h
  | .label ..,_,_,_,_,h,_=>by simp [runCode] at h
  | .goto ..,_,_,_,_,h,_=>by simp [runCode] at h
  | .refuse ..,_,_,_,_,h,_=>by simp [runCode] at h
theorem calls_run {P:Program} {f:FuncId} {fn:Func} {c:Code} {args:Array Value} {w w':World} {v:Value} (t:Tmp) (hf:P.funcs[f]?=some fn) (hb:fn.body=some c) (hres:fn.results=#[.tmp t])
    (h:(runCode P c { tmps:=args ++ Array.replicate (fn.ntmps - args.size) undef,defers:=[] } w).map (fun r=>(r.1,r.2.1.tmps.getD t undef,r.2.1.defers.isEmpty,r.2.2))=some (true,v,true,w')) :
    Calls P f args w fun e w''=>e=.returned v∧w''=w':=by
  rw [Option.map_eq_some_iff] at h
  obtain ⟨⟨b,a,w1⟩,h1,h2⟩:=h
  simp only [Prod.mk.injEq] at h2
  obtain ⟨rfl,h2,h3,rfl⟩:=h2
  refine calls_of_wp hf hb (wp_run c _ _ w _ h1 ?_)
  simp only [if_true]
  exact bodyPost_ret (results_tmp hres _ _ _) (by simpa using h3) ⟨by rw [h2],rfl⟩
def rgCells (T:Array Lib.Rg):Array Value:=(T.toList.flatMap fun r=>[Value.int .u16 r.1,.int .u16 r.2.1,.int .u16 r.2.2]).toArray
def tabWorld (T:Lib.RTab) (w:World):World:=(w.alloc (.cells (rgCells T.r16) 229)).alloc (.cells #[.slice (some ⟨w.heap.size,0,none⟩) T.r16.size T.r16.size,.slice none 0 0,.int .i64 0] 226)
end Go.Proofs.YtkjnockljapnbaaGreatDoor
namespace Go.Proofs.YtkjnockljapnbaaGreatDoor
open Go Go.RowKit
theorem first_c (w:World):Calls Tryz.prog 82 #[] w fun e w'=>e=.returned (.pointer (some ⟨(w.alloc (.cells (rgCells firstT.r16) 229)).heap.size,0,none⟩))∧w'=tabWorld firstT w:=
  calls_run 0 Tryz.func82 rfl rfl (by kernel_rfl)
end Go.Proofs.YtkjnockljapnbaaGreatDoor
namespace Go.Proofs.YtkjnockljapnbaaGreatDoor
open Go Go.RowKit
theorem second_c (w:World):Calls Tryz.prog 83 #[] w fun e w'=>e=.returned (.pointer (some ⟨(w.alloc (.cells (rgCells secondT.r16) 229)).heap.size,0,none⟩))∧w'=tabWorld secondT w:=
  calls_run 0 Tryz.func83 rfl rfl (by kernel_rfl)
end Go.Proofs.YtkjnockljapnbaaGreatDoor
namespace Go.Proofs.YtkjnockljapnbaaGreatDoor
open Go Go.RowKit
theorem rgCells_at:∀ (T:List Lib.Rg) (i:Nat),i < T.length → ∀ j,j < 3 → (T.flatMap fun r=>[Value.int .u16 r.1,.int .u16 r.2.1,.int .u16 r.2.2])[i * 3 + j]?=([Value.int .u16 (T.getD i (0,0,0)).1,.int .u16 (T.getD i (0,0,0)).2.1,.int .u16 (T.getD i (0,0,0)).2.2])[j]?
  | [],i,hi,_,_=>by simp at hi
  | r :: T,0,_,j,hj=>by
    simp only [List.flatMap_cons,Nat.zero_mul,Nat.zero_add]
    rw [List.getElem?_append_left (by simpa using hj)]
    simp
  | r :: T,i + 1,hi,j,hj=>by
    simp only [List.flatMap_cons]
    rw [List.getElem?_append_right (by simp;omega),show (i + 1) * 3 + j - [Value.int .u16 r.1,.int .u16 r.2.1,.int .u16 r.2.2].length=i * 3 + j by simp;omega,rgCells_at T i (by simpa using hi) j hj]
    simp
theorem tab_at (T:Lib.RTab) (h32:T.r32=#[]) (hoff:T.off=0) (w:World):Lib.RTabAt (w.alloc (.cells (rgCells T.r16) 229)).heap.size 0 T (tabWorld T w):=by
  have h1:Blk (tabWorld T w) (w.alloc (.cells (rgCells T.r16) 229)).heap.size #[.slice (some ⟨w.heap.size,0,none⟩) T.r16.size T.r16.size,.slice none 0 0,.int .i64 0] 226:=Blk.new _ _ _
  have h2:Blk (tabWorld T w) w.heap.size (rgCells T.r16) 229:=(Blk.new w (rgCells T.r16) _).alloc _
  refine ⟨some ⟨w.heap.size,0,none⟩,none,w.heap.size,0,T.r16.size,0,0,0,by rw [h1.cell];rfl,by rw [h1.cell,h32];rfl,by rw [h1.cell,hoff];rfl,fun _=>rfl,fun h=>by rw [h32] at h;simp at h,?_,fun i hi=>by rw [h32] at hi;simp at hi,Nat.le_refl _⟩
  intro i hi
  have hi':i < T.r16.toList.length:=by simpa using hi
  have e:=fun j hj=>rgCells_at T.r16.toList i hi' j hj
  have g:T.r16.toList.getD i (0,0,0)=T.r16.getD i (0,0,0):=by simp [Array.getD,List.getD_eq_getElem?_getD,hi]
  rw [g] at e
  refine ⟨?_,?_,?_⟩
  · rw [h2.cell];have:=e 0 (by omega);simpa [rgCells] using this
  · rw [h2.cell];have:=e 1 (by omega);simpa [rgCells,Nat.add_assoc] using this
  · rw [h2.cell];have:=e 2 (by omega);simpa [rgCells,Nat.add_assoc] using this
theorem rgOk_of (B:Nat) (T:Array Lib.Rg) (h:T.toList.all (fun r=>decide (r.1 < B) && decide (r.2.1 < B) && decide (r.2.2 < B) && decide (1 ≤ r.2.2))=true):Lib.RgOk B T:=by
  intro i hi
  have hm:T.getD i (0,0,0) ∈ T.toList:=by simp [Array.getD,hi]
  have:=List.all_eq_true.1 h _ hm
  simp only [Bool.and_eq_true,decide_eq_true_eq] at this
  exact ⟨this.1.1.1,this.1.1.2,this.1.2,this.2⟩
theorem first_ok:Lib.RTabOk firstT:=⟨rgOk_of _ _ (by kernel_rfl),rgOk_of _ _ rfl,by show (firstT.r16.size ≤ _);rw [show firstT.r16.size=190 by kernel_rfl];omega,by show (0:Nat) ≤ _;omega,by show (0:Nat) < _;omega,by show (0:Nat) ≤ _;omega⟩
theorem second_ok:Lib.RTabOk secondT:=⟨rgOk_of _ _ (by kernel_rfl),rgOk_of _ _ rfl,by show (secondT.r16.size ≤ _);rw [show secondT.r16.size=112 by kernel_rfl];omega,by show (0:Nat) ≤ _;omega,by show (0:Nat) < _;omega,by show (0:Nat) ≤ _;omega⟩
theorem tabWorld_below (T:Lib.RTab) (w:World):Below w.heap.size w (tabWorld T w):=((Below.refl w.heap.size w).alloc (Nat.le_refl _) _).alloc (by simp) _
theorem first_t (w:World):Calls Tryz.prog 82 #[] w fun e w'=>∃ Tb,e=.returned (.pointer (some ⟨Tb,0,none⟩))∧Lib.RTabAt Tb 0 firstT w'∧Below w.heap.size w w':=
  (first_c w).mono fun e w' ⟨he,hw⟩=>⟨_,he,by rw [hw];exact tab_at _ rfl rfl w,by rw [hw];exact tabWorld_below _ w⟩
theorem second_t (w:World):Calls Tryz.prog 83 #[] w fun e w'=>∃ Tb,e=.returned (.pointer (some ⟨Tb,0,none⟩))∧Lib.RTabAt Tb 0 secondT w'∧Below w.heap.size w w':=
  (second_c w).mono fun e w' ⟨he,hw⟩=>⟨_,he,by rw [hw];exact tab_at _ rfl rfl w,by rw [hw];exact tabWorld_below _ w⟩
end Go.Proofs.YtkjnockljapnbaaGreatDoor
namespace Go.Proofs.YtkjnockljapnbaaGreatDoor
open Go Go.RowKit
def BytesAt (w:World) (b off:Nat) (l:Bs):Prop:=∀ j,j < l.length → w.cell? ⟨b,off + j,none⟩=some (.int .u8 (l.getD j 0).toNat)
theorem BytesAt.below {w w':World} {b off:Nat} {l:Bs} (h:BytesAt w b off l) (hb:Below w.heap.size w w'):BytesAt w' b off l:=fun j hj=>cell_below hb (h j hj)
theorem BytesAt.drop {w:World} {b off:Nat} {l:Bs} (h:BytesAt w b off l) (n:Nat):BytesAt w b (off + n) (l.drop n):=by
  intro j hj
  simp only [List.length_drop] at hj
  have:=h (n + j) (by omega)
  rw [← Nat.add_assoc] at this
  rw [this]
  simp [List.getD_eq_getElem?_getD,List.getElem?_drop]
theorem dec_c (l:Bs) (b off cap:Nat) (w:World) (hT:Lib.Utf8Tabs 6 7 w) (hp:BytesAt w b off l) :
    Calls Tryz.prog 65 #[.slice (some ⟨b,off,none⟩) l.length cap] w fun e w'=>e=.returned (.tuple #[.int .i32 (decL l).1,.int .i64 (decL l).2])∧Below w.heap.size w w':=by
  have hs:(⟨l.toArray⟩:ByteArray).size=l.length:=rfl
  have:=decodeRune_c ⟨l.toArray⟩ b off cap w hT (fun j hj=>by
    rw [hs] at hj
    rw [hp j hj]
    have:(⟨l.toArray⟩:ByteArray).get! j=l.getD j 0:=by simp [ByteArray.get!,List.getD_eq_getElem?_getD,hj]
    rw [this])
  rw [hs] at this
  exact this
theorem decL_pos (l:Bs) (h:l ≠ []):1 ≤ (decL l).2:=by
  have:(⟨l.toArray⟩:ByteArray).size=l.length:=rfl
  have hn:l.length ≠ 0:=by simpa using h
  unfold decL Lib.decodeGoB
  rw [this,if_neg hn]
  exact Lib.width_pos _ _
theorem decL_le (l:Bs):(decL l).1 ≤ 1114111:=by
  unfold decL Lib.decodeGoB
  split
  · decide
  · exact Lib.rune_le _ _
theorem isName_c (l:Bs) (b off cap:Nat) (w:World) (hne:l ≠ []) (hT:Lib.Utf8Tabs 6 7 w) (hp:BytesAt w b off l) (hl:l.length ≤ 100000000000000) (hcl:l.length ≤ cap) (hcm:cap ≤ 9223372036854775807) :
    Calls Tryz.prog 62 #[.slice (some ⟨b,off,none⟩) l.length cap] w fun e w'=>e=.returned (.bool (isNameL l))∧Below w.heap.size w w':=by
  have hlen:((l.length:Int) == 0)=false:=by simpa using hne
  have hdr:=Lib.hid (dec_c l b off cap w hT hp)
  have HIS:=Lib.hid (show isNameL l=(if (decL l).1=65533∧(decL l).2=1 then false else if nmStart (decL l).1 then nameFrom nmCont (l.length - 1) (l.drop (decL l).2) else false) by
    have : l.length = (l.length - 1) + 1 := by have : l.length ≠ 0 := by simpa using hne
                                               omega
    unfold isNameL
    rw [if_neg hne]
    conv=>lhs;rw [this]
    rw [nameFrom,if_neg hne])
  have HT:=Lib.hid hT
  have HP:=Lib.hid hp
  have hr1:=decL_le l
  have hn1:=decL_pos l hne
  have hfc:=Lib.hid first_t
  have hsc:=Lib.hid second_t
  have his:=Lib.hid (fun (Tb:Nat) (r:Nat) (w:World) (hr:r ≤ 1114111) (hA:Lib.RTabAt Tb 0 firstT w)=>Tryz.unicode_Is_any Tb 0 firstT r w (by omega) (by omega) hA first_ok)
  have hi2:=Lib.hid (fun (Tb:Nat) (r:Nat) (w:World) (hr:r ≤ 1114111) (hA:Lib.RTabAt Tb 0 secondT w)=>Tryz.unicode_Is_any Tb 0 secondT r w (by omega) (by omega) hA second_ok)
  obtain ⟨r,hr⟩:∃ r,r=(decL l).1:=⟨_,rfl⟩
  obtain ⟨n,hn⟩:∃ n,n=(decL l).2:=⟨_,rfl⟩
  rw [← hr] at hdr HIS hr1
  rw [← hn] at hdr HIS hn1
  have HR1:=Lib.hid hr1
  clear hr hn hT hp hr1
  have hbad:(((r:Int) == 65533)=false) ∨ (((r:Int) == 65533)=true∧((n:Int) == 1)=false) ∨ (((r:Int) == 65533)=true∧((n:Int) == 1)=true):=by
    cases ((r:Int) == 65533) <;> cases ((n:Int) == 1) <;> simp
  rcases hbad with hb|⟨hb,hb2⟩|⟨hb,hb2⟩
  case inr.inr=>
    go_enter Tryz.func62,Tryz.ntmps62
    go_wp2_with fail
    refine hdr.out.mono ?_
    rintro e1 w1 ⟨rfl,hb1⟩
    have HB1:=Lib.hid hb1
    clear hb1
    go_wp2
    go_ret
    refine ⟨?_,HB1.out⟩
    rw [HIS.out, if_pos ⟨by have : (r : Int) = 65533 := by simpa using hb
                            omega, by have : (n : Int) = 1 := by simpa using hb2
                                      omega⟩];rfl
  all_goals
    have HIS2:Hid (isNameL l=(if nmStart r then nameFrom nmCont (l.length - 1) (l.drop n) else false)):=by
      have:=HIS.out
      rw [if_neg (by intro h;simp_all)] at this
      exact this
    go_enter Tryz.func62,Tryz.ntmps62
    go_wp2_with fail
    refine hdr.out.mono ?_
    rintro e1 w1 ⟨rfl,hb1⟩
    have HB1:=Lib.hid hb1
    clear hb1
    go_wp2_with fail
    refine (hfc.out _).mono ?_
    rintro e2 w2 ⟨Tb,rfl,hA,hb2'⟩
    have hcall:=Lib.hid (his.out Tb r w2 HR1.out hA)
    have HB2:=Lib.hid (HB1.out.trans (hb2'.mono HB1.out.size))
    clear hA hb2'
    go_wp2_with fail
    refine hcall.out.mono ?_
    rintro e3 w3 ⟨rfl,hb3⟩
    have HB3:=Lib.hid (HB2.out.trans (hb3.mono HB2.out.size))
    clear hb3 hcall
    have hst:Lib.isGo firstT (r:Int)=false ∨ Lib.isGo firstT (r:Int)=true:=by cases Lib.isGo firstT (r:Int) <;> simp
    rcases hst with hst|hst
    · go_wp2
      go_ret
      refine ⟨?_,HB3.out⟩
      rw [HIS2.out,if_neg (by unfold nmStart;rw [hst];simp)];rfl
    · have HIS3:Hid (isNameL l=nameFrom nmCont (l.length - 1) (l.drop n)):=by
        have:=HIS2.out
        rw [if_pos (by unfold nmStart;exact hst)] at this
        exact this
      go_wp2
      clear hst hb hlen hdr
      go_loopg [0,3,4] l.length (fun k s _ nv wr=>∃ (lc:Bs) (o cp nn:Nat),s=.slice (some ⟨b,o,none⟩) lc.length cp∧nv=.int .i64 nn∧lc.length=k∧lc.length ≤ 100000000000000∧1 ≤ nn∧lc.length ≤ cp∧cp ≤ 9223372036854775807∧(∃ m,lc=l.drop m∧o=off + m)∧(∃ f,lc.length ≤ f + 1∧isNameL l=nameFrom nmCont f (lc.drop nn))∧Below w.heap.size w wr)
      case atStart=>exact ⟨l,off,cap,n,rfl,rfl,rfl,hl,hn1,hcl,hcm,⟨0,rfl,rfl⟩,⟨l.length - 1,by omega,HIS3.out⟩,HB3.out⟩
      case round=>
        obtain ⟨lc,o,cp,nn,rfl,rfl,hk,hl',hn',hcl',hcm',⟨m,hm1,hm2⟩,⟨f,hf,hnf⟩,hbw⟩:=hrel
        have HM1:=Lib.hid hm1
        have HM2:=Lib.hid hm2
        have hpc:BytesAt wr b o lc:=by rw [hm1,hm2];exact (HP.out.below hbw).drop m
        have HK:=Lib.hid hk
        have HF:=Lib.hid hf
        have HNF:=Lib.hid hnf
        have HBW:=Lib.hid hbw
        have hnd:((nn:Int) < (lc.length:Int)) ∨ ¬ ((nn:Int) < (lc.length:Int)):=by omega
        rcases hnd with hnd|hnd
        · have hdrop:=hpc.drop nn
          have hdr:=dec_c (lc.drop nn) b (o + nn) (cp - nn) wr (Utf8Tabs_below HT.out hbw) hdrop
          rw [List.length_drop] at hdr
          have hne':lc.drop nn ≠ []:=by
            intro h
            have:=congrArg List.length h
            simp at this;omega
          have hfs:∃ f',f=f' + 1:=⟨f - 1,by omega⟩
          obtain ⟨f',rfl⟩:=hfs
          have HNF2:Hid (isNameL l=(if (decL (lc.drop nn)).1=65533∧(decL (lc.drop nn)).2=1 then false else if nmCont (decL (lc.drop nn)).1 then nameFrom nmCont f' ((lc.drop nn).drop (decL (lc.drop nn)).2) else false)):=by
            have:=hnf
            rw [nameFrom,if_neg hne'] at this
            exact this
          have hr1:=decL_le (lc.drop nn)
          have hn2:=decL_pos (lc.drop nn) hne'
          obtain ⟨r2,hr2⟩:∃ r,r=(decL (lc.drop nn)).1:=⟨_,rfl⟩
          obtain ⟨n2,hn2e⟩:∃ n,n=(decL (lc.drop nn)).2:=⟨_,rfl⟩
          rw [← hr2] at hdr HNF2 hr1
          rw [← hn2e] at hdr HNF2 hn2
          have HDR:=Lib.hid hdr
          have HR2:=Lib.hid hr1
          have HN2:=Lib.hid hn2
          have hcn:¬ cp=nn:=by omega
          have q1:(0:Int) ≤ (nn:Int):=by omega
          have q2:(lc.length:Int) ≤ (cp:Int):=by omega
          have q3:(nn:Int) ≤ (lc.length:Int):=by omega
          have q4:(nn:Int) ≤ (cp:Int):=by omega
          have q5:(lc.length:Int) ≤ 100000000000000:=by omega
          have HL':=Lib.hid (And.intro hn' (And.intro hl' (And.intro hcl' hcm')))
          clear hm1 hm2 hk hf hnf hbw hpc hdrop hne' hdr hr1 hn2 hr2 hn2e hl' hn' hcl' hcm'
          have hbad:(((r2:Int) == 65533)=false) ∨ (((r2:Int) == 65533)=true∧((n2:Int) == 1)=false) ∨ (((r2:Int) == 65533)=true∧((n2:Int) == 1)=true):=by
            cases ((r2:Int) == 65533) <;> cases ((n2:Int) == 1) <;> simp
          rcases hbad with hb|⟨hb,hb2⟩|⟨hb,hb2⟩
          case inr.inr=>
            go_wp2_with fail
            refine HDR.out.mono ?_
            rintro e1 w1 ⟨rfl,hb1⟩
            have HB1:=Lib.hid hb1
            clear hb1
            go_wp2
            (try simp only [Exit.inBlock,Exit.then])
            go_ret
            refine ⟨?_,HBW.out.trans (HB1.out.mono HBW.out.size)⟩
            rw [HNF2.out, if_pos ⟨by have : (r2 : Int) = 65533 := by simpa using hb
                                     omega, by have : (n2 : Int) = 1 := by simpa using hb2
                                               omega⟩];rfl
          all_goals
            have HNF3:Hid (isNameL l=(if nmCont r2 then nameFrom nmCont f' ((lc.drop nn).drop n2) else false)):=by
              have:=HNF2.out
              rw [if_neg (by
                rintro ⟨h1,h2⟩
                rw [h1] at hb
                try rw [h2] at hb2
                simp_all)] at this
              exact this
            go_wp2_with fail
            refine HDR.out.mono ?_
            rintro e1 w1 ⟨rfl,hb1⟩
            have HB1:=Lib.hid (HBW.out.trans (hb1.mono HBW.out.size))
            clear hb1
            go_wp2_with fail
            refine (hfc.out _).mono ?_
            rintro e2 w2 ⟨Tb,rfl,hA,hb2'⟩
            have hcall:=Lib.hid (his.out Tb r2 w2 HR2.out hA)
            have HB2:=Lib.hid (HB1.out.trans (hb2'.mono HB1.out.size))
            clear hA hb2'
            go_wp2_with fail
            refine hcall.out.mono ?_
            rintro e3 w3 ⟨rfl,hb3⟩
            have HB3:=Lib.hid (HB2.out.trans (hb3.mono HB2.out.size))
            clear hb3 hcall
            have hst:Lib.isGo firstT (r2:Int)=false ∨ Lib.isGo firstT (r2:Int)=true:=by cases Lib.isGo firstT (r2:Int) <;> simp
            rcases hst with hst|hst
            · go_wp2_with fail
              refine (hsc.out _).mono ?_
              rintro e4 w4 ⟨Tb4,rfl,hA,hb4'⟩
              have hcall:=Lib.hid (hi2.out Tb4 r2 w4 HR2.out hA)
              have HB4:=Lib.hid (HB3.out.trans (hb4'.mono HB3.out.size))
              clear hA hb4'
              go_wp2_with fail
              refine hcall.out.mono ?_
              rintro e5 w5 ⟨rfl,hb5⟩
              have HB5:=Lib.hid (HB4.out.trans (hb5.mono HB4.out.size))
              clear hb5 hcall
              have hst2:Lib.isGo secondT (r2:Int)=false ∨ Lib.isGo secondT (r2:Int)=true:=by cases Lib.isGo secondT (r2:Int) <;> simp
              rcases hst2 with hst2|hst2
              · go_wp2
                (try simp only [Exit.inBlock,Exit.then])
                go_ret
                refine ⟨?_,HB5.out⟩
                rw [HNF3.out,if_neg (by unfold nmCont;rw [hst,hst2];simp)];rfl
              · have HNF4:=Lib.hid (show isNameL l=nameFrom nmCont f' ((lc.drop nn).drop n2) by rw [HNF3.out,if_pos (by unfold nmCont;rw [hst2];simp)])
                go_wp2
                go_roundg (lc.length - nn)
                case measure=>have:=HK.out;have:=HL'.out;omega
                case rel=>exact ⟨lc.drop nn,o + nn,cp - nn,n2,by rw [List.length_drop],rfl,by rw [List.length_drop],by rw [List.length_drop];have:=HL'.out;omega,HN2.out,by rw [List.length_drop];have:=HL'.out;omega,by have:=HL'.out;omega,⟨m + nn,by rw [HM1.out,List.drop_drop],by rw [HM2.out];omega⟩,⟨f',by rw [List.length_drop];have:=HF.out;have:=HL'.out;omega,HNF4.out⟩,HB5.out⟩
            · have HNF4:=Lib.hid (show isNameL l=nameFrom nmCont f' ((lc.drop nn).drop n2) by rw [HNF3.out,if_pos (by unfold nmCont;rw [hst];simp)])
              go_wp2
              go_roundg (lc.length - nn)
              case measure=>have:=HK.out;have:=HL'.out;omega
              case rel=>exact ⟨lc.drop nn,o + nn,cp - nn,n2,by rw [List.length_drop],rfl,by rw [List.length_drop],by rw [List.length_drop];have:=HL'.out;omega,HN2.out,by rw [List.length_drop];have:=HL'.out;omega,by have:=HL'.out;omega,⟨m + nn,by rw [HM1.out,List.drop_drop],by rw [HM2.out];omega⟩,⟨f',by rw [List.length_drop];have:=HF.out;have:=HL'.out;omega,HNF4.out⟩,HB3.out⟩
        · have HNF2:=Lib.hid (show isNameL l=true by
            rw [hnf,show lc.drop nn=[] by apply List.drop_eq_nil_of_le;omega]
            cases f <;> simp [nameFrom])
          clear hm1 hm2 hk hf hnf hbw hpc
          go_wp2
          (try simp only [Exit.inBlock,Exit.then])
          go_ret
          exact ⟨by rw [HNF2.out];rfl,HBW.out⟩
end Go.Proofs.YtkjnockljapnbaaGreatDoor
namespace Go.Proofs.YtkjnockljapnbaaGreatDoor
open Go Go.RowKit
structure Cx.Fit (x:Cx):Prop extends Cx.Ok x where
  u8:Lib.Utf8Tabs 6 7 x.W0
theorem Cx.Fit.tabs {x:Cx} (hx:x.Fit) {w:World} (h:Below x.B x.W0 w):Lib.Utf8Tabs 6 7 w:=Utf8Tabs_below hx.u8 h
abbrev strV (s:Bs):Value:=.string ⟨s.toArray⟩
theorem Stp.ofS0 {x:Cx} {w w':World} {v v':DV} (hm:Mod x.S0 w w') (hb:∀ k,bufBlk v'.bufv k ↔ bufBlk v.bufv k):Stp x w v w' v':=
  ⟨hm.mono (fun _ _ h=>Or.inl h),fun k hk=>Or.inl ((hb k).1 hk)⟩
theorem BufAt.bytes {x:Cx} {w:World} {v:Value} {buf:Bs} (h:BufAt x w v buf) (hne:buf ≠ []):∃ g cap,v=.slice (some ⟨g,0,none⟩) buf.length cap∧BytesAt w g 0 buf∧buf.length ≤ cap∧cap ≤ 9223372036854775807∧x.B ≤ g∧¬ x.S0 g∧g < w.heap.size:=by
  rcases h with ⟨_,hb⟩|⟨g,cap,arr,hv,hg,hsz,hl,hcp,hB,hS,hel⟩
  · exact absurd hb hne
  · exact ⟨g,cap,hv,fun j hj=>by rw [Nat.zero_add,hg.cell];exact hel j hj,hl,hcp,hB,hS,hg.lt⟩
theorem BytesAt.toBytes {w:World} {b off:Nat} {l:Bs} (h:BytesAt w b off l):Lib.Bytes w b off ⟨l.toArray⟩:=by
  intro i hi
  have hi':i < l.length:=hi
  rw [h i hi']
  simp [List.getD_eq_getElem?_getD,hi']
  rfl
theorem conv_str (l:Bs) (w:World) (b off cap:Nat) (h:BytesAt w b off l):(convert 74 9 (.slice (some ⟨b,off,none⟩) l.length cap)).run Tryz.prog w=.ok (strV l) w:=
  Lib.run_convert_whole (P:=Tryz.prog) w 74 5 9 Tryz.underlying74 Tryz.underlying5 Tryz.underlying9 b off ⟨l.toArray⟩ h.toBytes cap
theorem spanName_sum (l:Bs):(spanName l).1.length + (spanName l).2.length=l.length:=by
  induction l with
  | nil=>rfl
  | cons b r ih=>unfold spanName;split <;> simp <;> omega
def NoName (x:Cx) (c:DC) (w:World) (v:DV) (k:EK):Prop:=ErrS x c w v k ∨ (k=.syn∧∃ r b,RdS x c w v r none b)
def NamePost (x:Cx) (c:DC) (w':World) (v':DV) (en:Ending):Except EK (Bs × Bs) → Prop
  | .error k=>en=.returned (.tuple #[.string ⟨#[]⟩,.bool false])∧NoName x c w' v' k
  | .ok (s,r)=>en=.returned (.tuple #[strV s,.bool true])∧RdS x c w' v' r none s
theorem mod_none {w w':World} (hb:Below w.heap.size w w') (S:Nat → Prop):Mod S w w':=⟨hb.os,hb.tape,hb.output,hb.size,fun i hi _=>hb.block i hi⟩
theorem RdS.syn {x:Cx} {c:DC} {w w':World} {v:DV} {rest:Bs} {e:Option EK} {buf:Bs} (h:RdS x c w v rest e buf) (hx:x.Ok) (hb:Below w.heap.size w w') (a:Addr) :
    ErrS x c (w'.setCell ⟨x.d,20,none⟩ (.iface 106 (.pointer (some a)))) { v with err:=.iface 106 (.pointer (some a)) } .syn:=
  ⟨(Mod.below h.base h.base.size (mod_none hb (fun _=>False)) (fun _ h=>h.elim)).setCell hx.d _,(show Blk _ x.d _ _ from Blk.mod (S:=fun _=>False) h.dec (mod_none hb _) id).set 20 _,⟨a,rfl⟩⟩
theorem Stp.syn {x:Cx} {w0 w w':World} {v0 v:DV} (h:Stp x w0 v0 w v) (hb:Below w.heap.size w w') (u:Value):Stp x w0 v0 (w'.setCell ⟨x.d,20,none⟩ u) { v with err:=u }:=
  h.s0 ((mod_none hb x.S0).setCell (p:=⟨x.d,20,none⟩) (Or.inl (Or.inl rfl)) u) rfl
theorem RdS.below {x:Cx} {c:DC} {w w':World} {v:DV} {rest:Bs} {e:Option EK} {buf:Bs} (h:RdS x c w v rest e buf) (hx:x.Ok) (hb:Below w.heap.size w w'):RdS x c w' v rest e buf:=by
  obtain ⟨un,hun,hu⟩:=h.inp
  exact h.step hx (Blk.mod (S:=fun _=>False) h.dec (mod_none hb _) id) (mod_none hb _) ⟨un,hun.mod (mod_none hb (fun _=>False)) id id id,hu⟩ h.pos h.err h.fin rfl
theorem nameL_end {f:Bool} {rest:Bs} (h:(spanName rest).2=[]):nameL f rest=.error (mustE f):=by unfold nameL;rw [if_pos h]
theorem nameL_none {f:Bool} {rest:Bs} (h:(spanName rest).2 ≠ []) (h1:(spanName rest).1=[]):nameL f rest=.error .syn:=by unfold nameL;rw [if_neg h,if_pos h1]
theorem nameL_some {f:Bool} {rest:Bs} (h:(spanName rest).2 ≠ []) (h1:(spanName rest).1 ≠ []):nameL f rest=if isNameL (spanName rest).1 then .ok (spanName rest) else .error .syn:=by unfold nameL;rw [if_neg h,if_neg h1]
theorem name_c (x:Cx) (hx:x.Fit) (c:DC) (hdc:DcOk x c) (w:World) (v:DV) (rest:Bs) (e:Option EK) (buf:Bs) (h:RdS x c w v rest e buf) :
    Calls Tryz.prog 41 #[.pointer (some ⟨x.d,0,none⟩)] w fun en w'=>∃ v',Stp x w v w' v' ∧
      NamePost x c w' v' en (nameL x.o.fails rest):=by
  have HX:=Lib.hid hx
  have HD:=Lib.hid hdc
  have HLL:=Lib.hid (show rest.length ≤ 1000000000 from Nat.le_trans (h.suf.length_le) hx.len)
  have hrs:=Lib.hid (reset_c x hx.toOk c w v rest e buf h)
  clear h hx hdc
  go_enter Tryz.func41,Tryz.ntmps41
  go_wp2_with fail
  refine hrs.out.mono ?_
  rintro e1 w1 ⟨rfl,v1,h1,hn1,hb1,hm1,hz1⟩
  have hrn:=Lib.hid (readName_c x HX.out.toOk c HD.out w1 v1 rest e [] h1 (by simp))
  have HS1:=Lib.hid (Stp.ofS0 hm1 hb1)
  clear h1 hn1 hb1 hm1 hz1 hrs
  go_wp2_with fail
  refine hrn.out.mono ?_
  rintro e2 w2 ⟨v2,hs2,hq⟩
  have HS2:=Lib.hid (HS1.out.trans hs2)
  clear hs2 hrn
  rcases hq with ⟨hsp,rfl,he⟩|⟨hsp,hs1,rfl,hr⟩|⟨hsp,hs1,rfl,hr⟩
  · have HE:=Lib.hid he
    have HSP:=Lib.hid hsp
    clear he hsp
    go_wp2
    go_ret2
    refine ⟨v2,HS2.out,?_⟩
    rw [nameL_end HSP.out]
    exact ⟨rfl,Or.inl HE.out⟩
  · have HR:=Lib.hid hr
    have HSP:=Lib.hid hsp
    have HS1:=Lib.hid hs1
    clear hr hsp hs1
    go_wp2
    go_ret2
    refine ⟨v2,HS2.out,?_⟩
    rw [nameL_none HSP.out HS1.out]
    exact ⟨rfl,Or.inr ⟨rfl,_,_,HR.out⟩⟩
  · rw [List.nil_append] at hr
    obtain ⟨l,hl⟩:∃ l,l=(spanName rest).1:=⟨_,rfl⟩
    have hll:l.length ≤ 1000000000:=by have:=spanName_sum rest;have:=HLL.out;rw [hl];omega
    have HNL:=Lib.hid (show nameL x.o.fails rest=if isNameL l then .ok (l,(spanName rest).2) else .error .syn by
      rw [nameL_some hsp hs1,hl])
    rw [← hl] at hr hs1
    obtain ⟨g,cap,hv,hbytes,hlc,hcm,hBg,hSg,hglt⟩:=hr.bf.bytes hs1
    have hby:=Lib.hid (bytes_c x c w2 v2 _ none l hr)
    have hin:=Lib.hid (fun k=>isName_c l g 0 cap (w2.drewN k) hs1 (HX.out.tabs (Below_drewN hr.base k)) hbytes (by omega) hlc hcm)
    have HR:=Lib.hid hr
    have HBY:=Lib.hid hbytes
    clear hr hbytes hsp hl hBg hSg
    rw [hv] at hby
    go_wp2_with fail
    refine hby.out.mono ?_
    rintro e3 w3 ⟨rfl,k,rfl⟩
    go_wp2_with fail
    refine (hin.out k).mono ?_
    rintro e4 w4 ⟨rfl,hb4⟩
    have hb4':Below w2.heap.size w2 w4:=⟨hb4.os,hb4.tape,hb4.output,hb4.size,hb4.block⟩
    have h4:=HR.out.below HX.out.toOk hb4'
    have HS4:=Lib.hid (HS2.out.s0 (mod_none hb4' _) rfl)
    have hconv:=conv_str l w4 g 0 cap (HBY.out.below hb4')
    have H4:=Lib.hid h4
    clear hb4 hb4' hin hby h4
    have hcase:isNameL l=true ∨ isNameL l=false:=by cases isNameL l <;> simp
    rcases hcase with hc|hc
    · have HN:=Lib.hid (show nameL x.o.fails rest=.ok (l,(spanName rest).2) by rw [HNL.out,if_pos hc])
      go_wp2
      go_ret2
      refine ⟨v2,HS4.out,?_⟩
      rw [HN.out]
      exact ⟨rfl,H4.out⟩
    · have HN:=Lib.hid (show nameL x.o.fails rest=.error .syn by rw [HNL.out,hc];rfl)
      have hsy:=Lib.hid (synErr x.d c v2 w4 H4.out.dec)
      go_wp2_with fail
      refine (hsy.out _).mono ?_
      rintro e5 w5 ⟨rfl,hw5⟩
      have hb5:Below w4.heap.size w4 w5:=by rw [hw5];exact (Below.refl _ w4).alloc (Nat.le_refl _) _
      have hd5:DecAt w5 x.d c v2:=Blk.mod (S:=fun _=>False) H4.out.dec (mod_none hb5 _) id
      have hc5:=hd5.cell
      have hf5:=hd5.frozen
      have HB5:=Lib.hid hb5
      clear hw5 hd5 hb5
      go_wp2
      go_ret2
      refine ⟨{ v2 with err:=.iface 106 (.pointer (some ⟨w4.heap.size,0,none⟩)) },HS4.out.syn HB5.out _,?_⟩
      rw [HN.out]
      exact ⟨rfl,Or.inl (H4.out.syn HX.out.toOk HB5.out _)⟩
end Go.Proofs.YtkjnockljapnbaaGreatDoor
