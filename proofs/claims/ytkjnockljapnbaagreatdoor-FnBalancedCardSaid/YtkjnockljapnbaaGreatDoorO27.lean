/- Part of the proof that laws.FnBalanced returns true for every argument (Vg, Wj, Wk). No condition of its own. -/
import Derived.Test.YtkjnockljapnbaaGreatDoorO26
import Derived.LoopN
import Derived.Maps.AppendAt
import Derived.Test.YtkjnockljapnbaaGreatDoorO23
set_option linter.all false
set_option maxHeartbeats 8000000
set_option maxRecDepth 100000
namespace Go.Proofs.YtkjnockljapnbaaGreatDoor
open Go Go.RowKit
theorem PosAt.col {x:Cx} {v:DV} {rest:Bs} (hx:x.Ok) (h:PosAt x v rest) (hn:v.nb ≠ 10):-1000000000000 ≤ v.off - v.lstart∧v.off - v.lstart ≤ 1000000000000:=by
  obtain ⟨pre,hT,ho,_,hs,_⟩:=h
  have h1:=hs hn
  have h2:=colOf_le pre
  have h3:pre.length ≤ x.T.length:=by rw [hT];simp
  have h4:=hx.len
  omega
theorem BufAt.part {x:Cx} {w:World} {v:Value} {b d:Bs} {g cap:Nat} (h:BufAt x w v b) (hv:v=.slice (some ⟨g,0,none⟩) b.length cap) (hd:d=b.take d.length) (hl:d.length ≤ b.length):BytesAt w g 0 d∧g < w.heap.size:=by
  rcases h with ⟨h1,_⟩|⟨g',cap',arr,h1,hg,_,_,_,_,_,hel⟩
  · rw [h1] at hv;cases hv
  · rw [h1] at hv
    simp only [Value.slice.injEq,Option.some.injEq,Addr.mk.injEq] at hv
    obtain ⟨⟨rfl,_⟩,_⟩:=hv
    refine ⟨fun j hj=>?_,hg.lt⟩
    rw [Nat.zero_add,hg.cell,hel j (by omega)]
    have:d.getD j 0=b.getD j 0:=by
      rw [hd]
      simp only [List.getD_eq_getElem?_getD,List.getElem?_take]
      rw [if_pos hj]
    rw [this]
theorem tokInfo:(Tryz.prog.info? 33).map (fun i=>(i.zero,i.size,i.bytes))=some (some (tokV 0 [] [] (.slice none 0 0) [] 0 0 0),8,104):=by kernel_rfl
theorem wpList_app {P:Program} {ops:Array Oper} {rest:List Oper} {o:Oper} {a:Act} {w w':World} {Q:Exit → Act → World → Prop} (hg:o.guard=none) (s x:Operand) (t u:TypeId) (ho:o.op=.call { callee:=.builtin .append,args:=#[s,x],argTypes:=#[t,u] }) (vs vx v':Value)
    (hs:a.eval s=vs) (hx:a.eval x=vx) (hrun:(Builtin.append_ #[t,u] o.type #[vs,vx]).run P w=.ok v' w') (h:wpList P ops Q rest (a.put o.dst v') w'):wpList P ops Q (o :: rest) a w:=by
  refine wpList_plain hg fun K hK=>?_
  have h2:=hK _ _ h
  unfold Oper.wp
  simp only [execOp,ho,resolve,invoke,builtin]
  simp [hs,hx,hrun,Result.andThen]
  exact h2
def tokCells (kind:Int) (space loc:Bs) (attrs:Value) (text:Bs) (a l c:Int):List Value:=[.int .i64 kind,strV space,strV loc,attrs,strV text,.int .i64 a,.int .i64 l,.int .i64 c]
end Go.Proofs.YtkjnockljapnbaaGreatDoor
namespace Go.Proofs.YtkjnockljapnbaaGreatDoor
open Go Go.RowKit
theorem wp_stop0 {P:Program} {ops:Array Oper} {d:Bool} {Q:Exit → Act → World → Prop} {a:Act} {w:World} (n:Nat) (h:(Code.region n ops d).wp P Q a w):(Code.region n ops d).wp P Q a w:=h
theorem ownsRow_mod {w w':World} {base:Nat} {e:TypeId} {size:Nat} {v:Value} {n:Nat} {xs:List Value} {S:Nat → Prop} (h:w.ownsRow base e size v n xs) (hm:Mod S w w') (hS:∀ g,v.ownBlock=some g → ¬ S g):w'.ownsRow base e size v n xs:=by
  obtain ⟨h1,h2⟩:=h
  refine ⟨h1,?_⟩
  rcases h2 with h2|⟨g,cap,cur,rfl,hb,hc,h3⟩
  · exact Or.inl h2
  · exact Or.inr ⟨g,cap,cur,rfl,hb,(show Blk w g cur e from hc).mod hm (hS g rfl),h3⟩
theorem atInfo:(Tryz.prog.info? 96).map (fun i=>(i.zero,i.size,i.bytes))=some (some (.agg #[.string ⟨#[]⟩,.string ⟨#[]⟩,.string ⟨#[]⟩]),3,48):=by kernel_rfl
theorem at_append (w3:World) (base:Nat) (hb:base ≤ w3.heap.size) (v:Value) (acc:List At3) (hn:acc.length ≤ 1000000000) (h:w3.ownsRow base 96 3 v acc.length (atCells acc)) (a:At3) :
    ∃ v' w4,(Builtin.append_ #[92,92] 92 #[v,.slice (some ⟨w3.heap.size,0,none⟩) 1 1]).run Tryz.prog (w3.alloc (.cells #[strV a.1,strV a.2.1,strV a.2.2] 96))=.ok v' w4 ∧
      w4.ownsRow base 96 3 v' (acc ++ [a]).length (atCells (acc ++ [a]))∧(w3.alloc (.cells #[strV a.1,strV a.2.1,strV a.2.2] 96)).grownBy w4 v.ownBlock∧v' ≠ .slice none 0 0∧(v'.ownBlock=v.ownBlock ∨ v'.ownBlock=some (w3.heap.size + 1)):=by
  obtain ⟨i,hi,hz,h1,h2⟩:=info_parts atInfo
  obtain ⟨v',w4,hr,ho,hg,hnil,hown⟩:=run_append_own_at (P:=Tryz.prog) (w3.alloc (.cells #[strV a.1,strV a.2.1,strV a.2.2] 96)) base 92 92 96 i _ 3 48 Tryz.underlying92 hi hz h1 h2 rfl (by omega) v acc.length (atCells acc) (h.alloc _) ⟨w3.heap.size,0,none⟩ 1 1 [strV a.1,strV a.2.1,strV a.2.2] rfl
    (by
      intro j u hj
      have hb:=Blk.new w3 #[strV a.1,strV a.2.1,strV a.2.2] 96
      rw [show ((⟨w3.heap.size,0,none⟩:Addr).add j)=⟨w3.heap.size,j,none⟩ by cases j <;> simp [Addr.add],hb.cell]
      simpa using hj)
    (by
      intro u hu
      simp only [List.mem_cons,List.not_mem_nil,or_false] at hu
      rcases hu with rfl|rfl|rfl <;> rfl)
    (by unfold maxLen;omega) (by omega) (by simp;omega)
  refine ⟨v',w4,hr,?_,hg,fun hh=>by have:=(hnil.1 hh).2;omega,by simpa using hown⟩
  have e1:atCells (acc ++ [a])=atCells acc ++ [strV a.1,strV a.2.1,strV a.2.2]:=by simp [atCells]
  rw [e1,List.length_append]
  exact ho
structure Keep (x:Cx) (w0:World) (w:World) (v:DV) (nb:Nat) (nm:Bs × Bs) (av:Value) (acc:List At3):Prop where
  name:Blk w nb #[strV nm.1,strV nm.2] 82
  nbS:¬ x.S1 v nb
  nbB:w0.heap.size ≤ nb
  row:w.ownsRow w0.heap.size 96 3 av acc.length (atCells acc)
  rowS:∀ g,av.ownBlock=some g → ¬ x.S1 v g∧g ≠ nb
  ne:av ≠ .slice none 0 0
theorem ownsRow_lt {w:World} {base:Nat} {e:TypeId} {size:Nat} {v:Value} {n:Nat} {xs:List Value} (h:w.ownsRow base e size v n xs) {g:Nat} (hg:v.ownBlock=some g):g < w.heap.size∧base ≤ g:=by
  obtain ⟨_,h2⟩:=h
  rcases h2 with ⟨rfl,_⟩|⟨g',cap,cur,rfl,hb,hc,_⟩
  · cases hg
  · have:g'=g:=by simpa [Value.ownBlock] using hg
    subst this
    exact ⟨Blk.lt (w:=w) (b:=g') (cs:=cur) (t:=e) hc,hb⟩
theorem Keep.step {x:Cx} {w0 w w':World} {v v':DV} {nb:Nat} {nm:Bs × Bs} {av:Value} {acc:List At3} (h:Keep x w0 w v nb nm av acc) (hs:Stp x w v w' v'):Keep x w0 w' v' nb nm av acc:=
  ⟨h.name.mod hs.mod h.nbS,hs.notS1 h.nbS h.name.lt,h.nbB,ownsRow_mod h.row hs.mod (fun g hg=>(h.rowS g hg).1),fun g hg=>⟨hs.notS1 (h.rowS g hg).1 (ownsRow_lt h.row hg).1,(h.rowS g hg).2⟩,h.ne⟩
theorem Keep.other {x:Cx} {w0 w w':World} {v:DV} {nb:Nat} {nm:Bs × Bs} {av:Value} {acc:List At3} (h:Keep x w0 w v nb nm av acc) {q:Nat} (hm:Mod (fun k=>k=q) w w') (h1:nb ≠ q) (h2:av.ownBlock ≠ some q):Keep x w0 w' v nb nm av acc:=
  ⟨h.name.mod hm h1,h.nbS,h.nbB,ownsRow_mod h.row hm (fun g hg he=>h2 (he ▸ hg)),h.rowS,h.ne⟩
theorem Keep.below {x:Cx} {w0 w w':World} {v:DV} {nb:Nat} {nm:Bs × Bs} {av:Value} {acc:List At3} (h:Keep x w0 w v nb nm av acc) (hb:Below w.heap.size w w'):Keep x w0 w' v nb nm av acc:=
  ⟨h.name.mod (S:=fun _=>False) (mod_none hb _) id,h.nbS,h.nbB,ownsRow_mod (S:=fun _=>False) h.row (mod_none hb _) (fun _ _=>id),h.rowS,h.ne⟩
theorem atAppend (x:Cx) (hx:x.All) (c:DC) (w0:World) (w:World) (v:DV) (rest:Bs) (e:Option EK) (buf:Bs) (h:RdS x c w v rest e buf) (hw0:w0.heap.size ≤ w.heap.size) (hB0:x.B ≤ w0.heap.size) (nb:Nat) (nm:Bs × Bs) (av:Value) (acc:List At3) (hk:Keep x w0 w v nb nm av acc) (hn:acc.length ≤ 1000000000)
    (ab:Nat) (a:At3) (ha:Blk w ab #[strV a.1,strV a.2.1,strV a.2.2] 96) (p28 v29:Value) (Q:Exit → Act → World → Prop)
    (hQ:∀ f w' av',RdS x c w' v rest e buf → Mod (fun k=>w0.heap.size ≤ k) w w' → Keep x w0 w' v nb nm av' (acc ++ [a]) → Q .normal (fr 731 f [(0,decP x),(28,p28),(29,v29),(30,av')]) w') (f:Nat → Value) :
    (rwCode 197).wp Tryz.prog Q (fr 731 f [(0,decP x),(28,p28),(29,v29),(30,av),(31,.pointer (some ⟨ab,0,none⟩))]) w:=by
  obtain ⟨av',w4,hrun,hown,hgr,hne,hob⟩:=at_append w w0.heap.size hw0 av acc hn hk.row a
  have hca:=ha.cell
  have hfa:=ha.frozen
  have HQ:=Lib.hid hQ
  have HK:=Lib.hid hk
  have H:=Lib.hid h
  have HG:=Lib.hid hgr
  have HO:=Lib.hid hown
  have HX:=Lib.hid hx
  clear hQ hk h hgr hown ha hx
  unfold rwCode
  conv=>arg 2;whnf
  (repeat ((fail_if_success at_builtin);(first|(with_reducible first|refine zA fun K hK=>?_|refine zB ?_|refine zC ?_)|((with_reducible first|refine zD rfl fun K hK=>?_|refine zE fun K hK=>?_);go_simp)|(with_reducible first|((repeat ((fail_if_success refine hK _ _ ?_);clear hK K));refine hK _ _ ?_;clear hK K)|refine zt ?_|refine zf ?_|refine zG ?_|refine zR ?_|refine zK ?_|refine zL ?_|refine zN ?_|refine zS ?_)|simp only [Exit.then,Exit.inBlock,Exit.noGoto,↓reduceIte,Nat.reduceEqDiff]|simp only [undef,reduceCtorEq,↓reduceIte])))
  refine wpList_app rfl (.tmp 715) (.tmp 717) _ _ rfl _ _ _ (by rw [fr_eval (by decide)];(try simp only [keep_cons,keep_nil,lk_cons,lk_nil,Nat.reduceEqDiff,↓reduceIte]);(try rfl)) (by rw [fr_eval (by decide)];(try simp only [keep_cons,keep_nil,lk_cons,lk_nil,Nat.reduceEqDiff,↓reduceIte]);(try rfl)) hrun ?_
  clear hrun
  rw [fr_put (by decide)]
  (repeat (first|(with_reducible first|refine zA fun K hK=>?_|refine zB ?_|refine zC ?_)|((with_reducible first|refine zD rfl fun K hK=>?_|refine zE fun K hK=>?_);go_simp)|(with_reducible first|((repeat ((fail_if_success refine hK _ _ ?_);clear hK K));refine hK _ _ ?_;clear hK K)|refine zt ?_|refine zf ?_|refine zG ?_|refine zR ?_|refine zK ?_|refine zL ?_|refine zN ?_|refine zS ?_)|simp only [Exit.then,Exit.inBlock,Exit.noGoto,↓reduceIte,Nat.reduceEqDiff]|simp only [undef,reduceCtorEq,↓reduceIte]))
  refine Q_keep [0,28,29,30] (fun f=>?_);simp only [keep_cons,keep_nil,lk_cons,lk_nil,Nat.reduceEqDiff,↓reduceIte]
  have hal:Mod (fun _=>False) w (w.alloc (.cells #[strV a.1,strV a.2.1,strV a.2.2] 96)):=mod_none ((Below.refl _ w).alloc (Nat.le_refl _) _) _
  have hm:Mod (fun k=>av.ownBlock=some k) w w4:=(hal.mono (fun _ _ h=>h.elim)).trans (S':=fun k=>av.ownBlock=some k) ⟨HG.out.os,HG.out.tape,HG.out.output,HG.out.size,fun k hk hn=>HG.out.block k hk (fun he=>hn he.symm)⟩ (fun i _ hi=>hi)
  have hbg:∀ k,av.ownBlock=some k → w0.heap.size ≤ k:=fun k hk=>(ownsRow_lt HK.out.row hk).2
  refine HQ.out f w4 av' (H.out.mod hm (fun k hk he=>(HK.out.rowS k he).1 hk) (fun k hk=>Nat.le_trans hB0 (hbg k hk))) (hm.mono (fun k _ hk=>hbg k hk)) ⟨HK.out.name.mod hm (fun he=>(HK.out.rowS nb he).2 rfl),HK.out.nbS,HK.out.nbB,HO.out,fun g hg=>?_,hne⟩
  rcases hob with hob|hob
  · exact HK.out.rowS g (hob ▸ hg)
  · rw [hob] at hg
    have hg':w.heap.size + 1=g:=by simpa using hg
    exact ⟨fun hk=>by have:=H.out.s1lt g hk;omega,by have:=HK.out.name.lt;omega⟩
end Go.Proofs.YtkjnockljapnbaaGreatDoor
namespace Go.Proofs.YtkjnockljapnbaaGreatDoor
open Go Go.RowKit
theorem Stp.fresh {x:Cx} {w0 w1 w2:World} {v0 v1:DV} (h:Stp x w0 v0 w1 v1) (hm:Mod (fun k=>w0.heap.size ≤ k) w1 w2):Stp x w0 v0 w2 v1:=
  ⟨h.mod.trans hm (fun i hi hs=>by omega),h.buf⟩
structure ACell (x:Cx) (w0:World) (w:World) (v:DV) (nb:Nat) (av:Value) (ab:Nat) (cs:Array Value):Prop where
  blk:Blk w ab cs 96
  S:¬ x.S1 v ab
  B:w0.heap.size ≤ ab
  n:nb ≠ ab
  r:av.ownBlock ≠ some ab
theorem ACell.step {x:Cx} {w0 w w':World} {v v':DV} {nb:Nat} {av:Value} {ab:Nat} {cs:Array Value} (h:ACell x w0 w v nb av ab cs) (hs:Stp x w v w' v'):ACell x w0 w' v' nb av ab cs:=
  ⟨h.blk.mod hs.mod h.S,hs.notS1 h.S h.blk.lt,h.B,h.n,h.r⟩
structure AtSt (x:Cx) (c:DC) (w0:World) (v0:DV) (w:World) (v:DV) (rest:Bs) (e:Option EK) (nb:Nat) (nm:Bs × Bs) (av:Value) (acc:List At3) (ab:Nat) (cs:Array Value):Prop where
  rd:∃ b,RdS x c w v rest e b
  nn:NonNil v
  stp:Stp x w0 v0 w v
  keep:Keep x w0 w v nb nm av acc
  cell:ACell x w0 w v nb av ab cs
theorem AtSt.step {x:Cx} {c:DC} {w0:World} {v0:DV} {w:World} {v:DV} {rest:Bs} {e:Option EK} {nb:Nat} {nm:Bs × Bs} {av:Value} {acc:List At3} {ab:Nat} {cs:Array Value} (h:AtSt x c w0 v0 w v rest e nb nm av acc ab cs) {w':World} {v':DV} {rest':Bs} {e':Option EK} (hs:Stp x w v w' v') (hr:∃ b,RdS x c w' v' rest' e' b) (hn:NonNil v'):AtSt x c w0 v0 w' v' rest' e' nb nm av acc ab cs:=
  ⟨hr,hn,h.stp.trans hs,h.keep.step hs,h.cell.step hs⟩
theorem AtSt.set {x:Cx} {c:DC} {w0:World} {v0:DV} {w:World} {v:DV} {rest:Bs} {e:Option EK} {nb:Nat} {nm:Bs × Bs} {av:Value} {acc:List At3} {ab:Nat} {cs:Array Value} (h:AtSt x c w0 v0 w v rest e nb nm av acc ab cs) (hB0:x.B ≤ w0.heap.size) (o:Nat) (u:Value):AtSt x c w0 v0 (w.setCell ⟨ab,o,none⟩ u) v rest e nb nm av acc ab (cs.setIfInBounds o u):=by
  have hm:Mod (fun k=>k=ab) w (w.setCell ⟨ab,o,none⟩ u):=(Mod.refl (fun k=>k=ab) w).setCell (p:=⟨ab,o,none⟩) (Or.inl rfl) u
  obtain ⟨b,hb⟩:=h.rd
  exact ⟨⟨b,hb.mod hm (fun k hk he=>h.cell.S (he ▸ hk)) (fun k hk=>hk ▸ Nat.le_trans hB0 h.cell.B)⟩,h.nn,h.stp.fresh (hm.mono (fun k _ hk=>hk ▸ h.cell.B)),h.keep.other hm h.cell.n h.cell.r,⟨h.cell.blk.set o u,h.cell.S,h.cell.B,h.cell.n,h.cell.r⟩⟩
def attrTail (o:Opt) (nm:Bs × Bs) (r:Bs):Except EK (At3 × Bs):=
  match skipWs r with
  | []=>.error (mustE o.fails)
  | b :: r4=>
    if b=61 then
      match attrvalL o (skipWs r4) with
      | .error e=>.error e
      | .ok (v,r5)=>.ok ((nm.1,nm.2,v),r5)
    else if o.strict then .error .syn else .ok ((nm.1,nm.2,nm.2),b :: r4)
theorem attrL_tail (o:Opt) (r:Bs):attrL o r=match nsnameL o.fails r with
  | .error e=>.error e
  | .ok (nm,r2)=>attrTail o nm r2:=by
  unfold attrL attrTail
  rfl
theorem atValue (x:Cx) (hx:x.All) (c:DC) (hdc:DcOk x c) (hno:NoEnt x c) (w0:World) (v0:DV) (w:World) (v:DV) (rest:Bs) (hB0:x.B ≤ w0.heap.size) (nb:Nat) (nm:Bs × Bs) (av:Value) (acc:List At3) (hn:acc.length ≤ 1000000000) (ab:Nat) (an:Bs × Bs)
    (h:AtSt x c w0 v0 w v rest none nb nm av acc ab #[strV an.1,strV an.2,strV []]) (p28 v29:Value) (Q:Exit → Act → World → Prop)
    (hok:∀ a r5,attrTail x.o an rest=.ok (a,r5) → ∀ f w' v' e' b' av',RdS x c w' v' r5 e' b' → NonNil v' → Stp x w0 v0 w' v' → Keep x w0 w' v' nb nm av' (acc ++ [a]) → Q .normal (fr 731 f [(0,decP x),(28,p28),(29,v29),(30,av')]) w')
    (hbad:∀ k,attrTail x.o an rest=.error k → ∀ f w' v',ErrS x c w' v' k → Stp x w0 v0 w' v' → Q .ret (fr 731 f [(2,.nilIface),(3,v'.err)]) w') (f:Nat → Value) :
    (rwCode 182).wp Tryz.prog Q (fr 731 f [(0,decP x),(28,p28),(29,v29),(30,av),(31,.pointer (some ⟨ab,0,none⟩))]) w:=by
  have HX:=Lib.hid hx
  have HD:=Lib.hid hdc
  have HNO:=Lib.hid hno
  have HOK:=Lib.hid hok
  have HBAD:=Lib.hid hbad
  obtain ⟨b0,hrd⟩:=h.rd
  have hsp:=Lib.hid (space_c x hx.toOk c hdc w v rest none b0 hrd)
  have HA:=Lib.hid h
  have HB0:=Lib.hid hB0
  have HN:=Lib.hid hn
  clear hx hdc hno hok hbad h hrd hB0 hn
  unfold rwCode
  conv=>arg 2;whnf
  (repeat (first|(with_reducible first|refine zA fun K hK=>?_|refine zB ?_|refine zC ?_)|((with_reducible first|refine zD rfl fun K hK=>?_|refine zE fun K hK=>?_);go_simp)|(with_reducible first|((repeat ((fail_if_success refine hK _ _ ?_);clear hK K));refine hK _ _ ?_;clear hK K)|refine zt ?_|refine zf ?_|refine zG ?_|refine zR ?_|refine zK ?_|refine zL ?_|refine zN ?_|refine zS ?_)|simp only [Exit.then,Exit.inBlock,Exit.noGoto,↓reduceIte,Nat.reduceEqDiff]|simp only [undef,reduceCtorEq,↓reduceIte]))
  refine hsp.out.mono ?_
  rintro e1 w1 ⟨rfl,v1,e1',hP⟩
  have HA1:=Lib.hid (HA.out.step (hP.mod.stp hP.bufv) ⟨b0,hP.rd⟩ (HA.out.nn.of_eq hP.bufv))
  have HR1:=Lib.hid hP.rd
  clear hP hsp HA
  cases hw:skipWs rest with
  | nil=>
    have HRK:=Lib.hid (show attrTail x.o an rest=.error (mustE x.o.fails) by unfold attrTail;rw [hw])
    have hmg:=Lib.hid (mustgetc_none x HX.out.toOk c HD.out w1 v1 _ b0 (by have:=HR1.out;rw [hw] at this;exact this))
    clear hw
    go_simp
    (repeat (first|(with_reducible first|refine zA fun K hK=>?_|refine zB ?_|refine zC ?_)|((with_reducible first|refine zD rfl fun K hK=>?_|refine zE fun K hK=>?_);go_simp)|(with_reducible first|((repeat ((fail_if_success refine hK _ _ ?_);clear hK K));refine hK _ _ ?_;clear hK K)|refine zt ?_|refine zf ?_|refine zG ?_|refine zR ?_|refine zK ?_|refine zL ?_|refine zN ?_|refine zS ?_)|simp only [Exit.then,Exit.inBlock,Exit.noGoto,↓reduceIte,Nat.reduceEqDiff]|simp only [undef,reduceCtorEq,↓reduceIte]))
    refine hmg.out.mono ?_
    rintro e2 w2 ⟨rfl,v2,hE,hb2,hm2⟩
    have HS2:=Lib.hid (HA1.out.stp.s0 hm2 hb2)
    obtain ⟨t1,u1,hu1⟩:=hE.err.iface
    have HE:=Lib.hid hE
    have hc:=hE.dec.cell
    have hf:=hE.dec.frozen
    have HU:=Lib.hid hu1
    clear hE hm2 hb2 hmg
    go_simp
    (repeat (first|(with_reducible first|refine zA fun K hK=>?_|refine zB ?_|refine zC ?_)|((with_reducible first|refine zD rfl fun K hK=>?_|refine zE fun K hK=>?_);go_simp)|(with_reducible first|((repeat ((fail_if_success refine hK _ _ ?_);clear hK K));refine hK _ _ ?_;clear hK K)|refine zt ?_|refine zf ?_|refine zG ?_|refine zR ?_|refine zK ?_|refine zL ?_|refine zN ?_|refine zS ?_)|simp only [Exit.then,Exit.inBlock,Exit.noGoto,↓reduceIte,Nat.reduceEqDiff]|simp only [undef,reduceCtorEq,↓reduceIte]))
    ((refine wp_keep [0] (fun f=>?_);simp only [keep_cons,keep_nil,lk_cons,lk_nil,Nat.reduceEqDiff,↓reduceIte]);go_quiet (fail);(repeat (first|(with_reducible first|refine zA fun K hK=>?_|refine zB ?_|refine zC ?_)|((with_reducible first|refine zD rfl fun K hK=>?_|refine zE fun K hK=>?_);go_simp)|(with_reducible first|((repeat ((fail_if_success refine hK _ _ ?_);clear hK K));refine hK _ _ ?_;clear hK K)|refine zt ?_|refine zf ?_|refine zG ?_|refine zR ?_|refine zK ?_|refine zL ?_|refine zN ?_|refine zS ?_)|simp only [Exit.then,Exit.inBlock,Exit.noGoto,↓reduceIte,Nat.reduceEqDiff]|simp only [undef,reduceCtorEq,↓reduceIte]));refine Q_keep [2,3] (fun f=>?_);simp only [keep_cons,keep_nil,lk_cons,lk_nil,Nat.reduceEqDiff,↓reduceIte])
    rw [← HU.out]
    exact HBAD.out _ HRK.out f _ v2 (HE.out.drewN _) (HS2.out.drawn _)
  | cons b r4=>
    have hmg:=Lib.hid (mustgetc_some x HX.out.toOk c HD.out w1 v1 b r4 _ b0 (by have:=HR1.out;rw [hw] at this;exact this))
    have HSUF:=Lib.hid (show (b :: r4) <:+ x.T by have:=HR1.out.suf;rw [hw] at this;exact this)
    have HTT:=Lib.hid (show attrTail x.o an rest=(if b=61 then
      match attrvalL x.o (skipWs r4) with
      | .error e=>.error e
      | .ok (v,r5)=>.ok ((an.1,an.2,v),r5)
    else if x.o.strict then .error .syn else .ok ((an.1,an.2,an.2),b :: r4)) by unfold attrTail;rw [hw])
    clear hw
    go_simp
    (repeat (first|(with_reducible first|refine zA fun K hK=>?_|refine zB ?_|refine zC ?_)|((with_reducible first|refine zD rfl fun K hK=>?_|refine zE fun K hK=>?_);go_simp)|(with_reducible first|((repeat ((fail_if_success refine hK _ _ ?_);clear hK K));refine hK _ _ ?_;clear hK K)|refine zt ?_|refine zf ?_|refine zG ?_|refine zR ?_|refine zK ?_|refine zL ?_|refine zN ?_|refine zS ?_)|simp only [Exit.then,Exit.inBlock,Exit.noGoto,↓reduceIte,Nat.reduceEqDiff]|simp only [undef,reduceCtorEq,↓reduceIte]))
    refine hmg.out.mono ?_
    rintro e2 w2 ⟨rfl,v2,h2,hn2,hb2,hm2,hz2⟩
    have HA2:=Lib.hid (HA1.out.step (hm2.stp hb2) ⟨b0,h2⟩ (HA1.out.nn.of_eq hb2))
    have HR2:=Lib.hid h2
    have HN2:=Lib.hid hn2
    clear h2 hn2 hb2 hm2 hz2 hmg HA1 HR1
    by_cases hb:b=61
    · subst hb
      have hsp:=Lib.hid (space_c x HX.out.toOk c HD.out w2 v2 r4 none b0 HR2.out)
      go_simp
      (repeat (first|(with_reducible first|refine zA fun K hK=>?_|refine zB ?_|refine zC ?_)|((with_reducible first|refine zD rfl fun K hK=>?_|refine zE fun K hK=>?_);go_simp)|(with_reducible first|((repeat ((fail_if_success refine hK _ _ ?_);clear hK K));refine hK _ _ ?_;clear hK K)|refine zt ?_|refine zf ?_|refine zG ?_|refine zR ?_|refine zK ?_|refine zL ?_|refine zN ?_|refine zS ?_)|simp only [Exit.then,Exit.inBlock,Exit.noGoto,↓reduceIte,Nat.reduceEqDiff]|simp only [undef,reduceCtorEq,↓reduceIte]))
      refine hsp.out.mono ?_
      rintro e3 w3 ⟨rfl,v3,e3',hP⟩
      have HA3:=Lib.hid (HA2.out.step (hP.mod.stp hP.bufv) ⟨b0,hP.rd⟩ (HA2.out.nn.of_eq hP.bufv))
      have hav:=Lib.hid (attrval_c x HX.out c HD.out HNO.out w3 v3 (skipWs r4) e3' b0 hP.rd (HA2.out.nn.of_eq hP.bufv))
      clear hP hsp HA2 HR2 HN2
      go_simp
      (repeat (first|(with_reducible first|refine zA fun K hK=>?_|refine zB ?_|refine zC ?_)|((with_reducible first|refine zD rfl fun K hK=>?_|refine zE fun K hK=>?_);go_simp)|(with_reducible first|((repeat ((fail_if_success refine hK _ _ ?_);clear hK K));refine hK _ _ ?_;clear hK K)|refine zt ?_|refine zf ?_|refine zG ?_|refine zR ?_|refine zK ?_|refine zL ?_|refine zN ?_|refine zS ?_)|simp only [Exit.then,Exit.inBlock,Exit.noGoto,↓reduceIte,Nat.reduceEqDiff]|simp only [undef,reduceCtorEq,↓reduceIte]))
      refine hav.out.mono ?_
      rintro e4 w4 ⟨v4,hs4,hp4⟩
      have HS4:=Lib.hid hs4
      clear hs4 hav
      cases hres:attrvalL x.o (skipWs r4) with
      | error k=>
        rw [hres] at hp4
        obtain ⟨rfl,hE⟩:=hp4
        have HRK:=Lib.hid (show attrTail x.o an rest=.error k by rw [HTT.out,if_pos rfl,hres])
        obtain ⟨t1,u1,hu1⟩:=hE.err.iface
        have hc:=hE.dec.cell
        have hf:=hE.dec.frozen
        have HE:=Lib.hid hE
        have HU:=Lib.hid hu1
        clear hE hres
        have q1:=fun w=>slNil w
        go_simp
        (repeat (first|(with_reducible first|refine zA fun K hK=>?_|refine zB ?_|refine zC ?_)|((with_reducible first|refine zD rfl fun K hK=>?_|refine zE fun K hK=>?_);go_simp)|(with_reducible first|((repeat ((fail_if_success refine hK _ _ ?_);clear hK K));refine hK _ _ ?_;clear hK K)|refine zt ?_|refine zf ?_|refine zG ?_|refine zR ?_|refine zK ?_|refine zL ?_|refine zN ?_|refine zS ?_)|simp only [Exit.then,Exit.inBlock,Exit.noGoto,↓reduceIte,Nat.reduceEqDiff]|simp only [undef,reduceCtorEq,↓reduceIte]))
        ((refine wp_keep [0] (fun f=>?_);simp only [keep_cons,keep_nil,lk_cons,lk_nil,Nat.reduceEqDiff,↓reduceIte]);go_quiet (fail);(repeat (first|(with_reducible first|refine zA fun K hK=>?_|refine zB ?_|refine zC ?_)|((with_reducible first|refine zD rfl fun K hK=>?_|refine zE fun K hK=>?_);go_simp)|(with_reducible first|((repeat ((fail_if_success refine hK _ _ ?_);clear hK K));refine hK _ _ ?_;clear hK K)|refine zt ?_|refine zf ?_|refine zG ?_|refine zR ?_|refine zK ?_|refine zL ?_|refine zN ?_|refine zS ?_)|simp only [Exit.then,Exit.inBlock,Exit.noGoto,↓reduceIte,Nat.reduceEqDiff]|simp only [undef,reduceCtorEq,↓reduceIte]));refine Q_keep [2,3] (fun f=>?_);simp only [keep_cons,keep_nil,lk_cons,lk_nil,Nat.reduceEqDiff,↓reduceIte])
        rw [← HU.out]
        exact HBAD.out _ HRK.out f _ v4 (HE.out.drewN _) ((HA3.out.stp.trans HS4.out).drawn _)
      | ok dr=>
        obtain ⟨d,r'⟩:=dr
        rw [hres] at hp4
        obtain ⟨g,cap,e',b',rfl,hR,hbv,hd1,hd2,_⟩:=hp4
        have HRK:=Lib.hid (show attrTail x.o an rest=.ok ((an.1,an.2,d),r') by rw [HTT.out,if_pos rfl,hres])
        have hby:=(hR.bf.part hbv hd1 hd2).1
        have hcv:=conv_part d w4 g 0 cap hby
        have HNN:=Lib.hid (show NonNil v4 from ⟨g,by rw [hbv];rfl⟩)
        have HA4:=Lib.hid (HA3.out.step HS4.out ⟨b',hR⟩ HNN.out)
        have hca:=HA4.out.cell.blk.cell
        have hfa:=HA4.out.cell.blk.frozen
        have HR:=Lib.hid hR
        clear hR hbv hd1 hres hby
        have q1:=fun a l c w=>slSome a l c w
        have HA5:=Lib.hid (HA4.out.set HB0.out 2 (strV d))
        go_simp
        (repeat ((fail_if_success with_reducible refine wp_stop0 197 ?_);(first|(with_reducible first|refine zA fun K hK=>?_|refine zB ?_|refine zC ?_)|((with_reducible first|refine zD rfl fun K hK=>?_|refine zE fun K hK=>?_);go_simp)|(with_reducible first|((repeat ((fail_if_success refine hK _ _ ?_);clear hK K));refine hK _ _ ?_;clear hK K)|refine zt ?_|refine zf ?_|refine zG ?_|refine zR ?_|refine zK ?_|refine zL ?_|refine zN ?_|refine zS ?_)|simp only [Exit.then,Exit.inBlock,Exit.noGoto,↓reduceIte,Nat.reduceEqDiff]|simp only [undef,reduceCtorEq,↓reduceIte])))
        (refine wp_keep [0,28,29,30,31] (fun f=>?_);simp only [keep_cons,keep_nil,lk_cons,lk_nil,Nat.reduceEqDiff,↓reduceIte])
        have HA6:Hid (AtSt x c w0 v0 (w4.setCell ⟨ab,2,none⟩ (strV d)) v4 r' e' nb nm av acc ab #[strV an.1,strV an.2,strV d]):=HA5.out
        obtain ⟨b6,hr6⟩:=HA6.out.rd
        refine wp_code (atAppend x HX.out c w0 _ v4 r' e' b6 hr6 (HA6.out.stp.mod.size) HB0.out nb nm av acc HA6.out.keep HN.out ab (an.1,an.2,d) HA6.out.cell.blk p28 v29 _ ?_ f) (by kernel_rfl)
        intro f w' av' hr hm hk
        have HH:=Lib.hid hr
        have HK:=Lib.hid hk
        have HS:=Lib.hid (HA6.out.stp.fresh hm)
        clear hr hm hk hr6 hca hfa q1 hcv
        (repeat (first|(with_reducible first|refine zA fun K hK=>?_|refine zB ?_|refine zC ?_)|((with_reducible first|refine zD rfl fun K hK=>?_|refine zE fun K hK=>?_);go_simp)|(with_reducible first|((repeat ((fail_if_success refine hK _ _ ?_);clear hK K));refine hK _ _ ?_;clear hK K)|refine zt ?_|refine zf ?_|refine zG ?_|refine zR ?_|refine zK ?_|refine zL ?_|refine zN ?_|refine zS ?_)|simp only [Exit.then,Exit.inBlock,Exit.noGoto,↓reduceIte,Nat.reduceEqDiff]|simp only [undef,reduceCtorEq,↓reduceIte]))
        exact HOK.out _ _ HRK.out f w' v4 e' b6 av' HH.out HNN.out HS.out HK.out
    · have hbb:=u8ne (n:=61) hb rfl
      have hbb2:=u8bne (n:=61) hb rfl
      have hc:=HR2.out.dec.cell
      have hf:=HR2.out.dec.frozen
      cases hst:c.strict with
      | true=>
        have HRK:=Lib.hid (show attrTail x.o an rest=.error .syn by rw [HTT.out,if_neg hb,if_pos (by rw [← HD.out.strict];exact hst)])
        have HSY:=Lib.hid (fun msg=>synErr_g HX.out.toOk HR2.out msg)
        clear hb
        go_simp
        (repeat (first|(with_reducible first|refine zA fun K hK=>?_|refine zB ?_|refine zC ?_)|((with_reducible first|refine zD rfl fun K hK=>?_|refine zE fun K hK=>?_);go_simp)|(with_reducible first|((repeat ((fail_if_success refine hK _ _ ?_);clear hK K));refine hK _ _ ?_;clear hK K)|refine zt ?_|refine zf ?_|refine zG ?_|refine zR ?_|refine zK ?_|refine zL ?_|refine zN ?_|refine zS ?_)|simp only [Exit.then,Exit.inBlock,Exit.noGoto,↓reduceIte,Nat.reduceEqDiff]|simp only [undef,reduceCtorEq,↓reduceIte]))
        refine (HSY.out _).mono ?_
        rintro e5 w5 ⟨a9,rfl,hS⟩
        have hc2:=hS.dec.cell
        have hf2:=hS.dec.frozen
        have HS:=Lib.hid hS
        clear hS hc hf
        go_simp
        (repeat (first|(with_reducible first|refine zA fun K hK=>?_|refine zB ?_|refine zC ?_)|((with_reducible first|refine zD rfl fun K hK=>?_|refine zE fun K hK=>?_);go_simp)|(with_reducible first|((repeat ((fail_if_success refine hK _ _ ?_);clear hK K));refine hK _ _ ?_;clear hK K)|refine zt ?_|refine zf ?_|refine zG ?_|refine zR ?_|refine zK ?_|refine zL ?_|refine zN ?_|refine zS ?_)|simp only [Exit.then,Exit.inBlock,Exit.noGoto,↓reduceIte,Nat.reduceEqDiff]|simp only [undef,reduceCtorEq,↓reduceIte]))
        ((refine wp_keep [0] (fun f=>?_);simp only [keep_cons,keep_nil,lk_cons,lk_nil,Nat.reduceEqDiff,↓reduceIte]);go_quiet (fail);(repeat (first|(with_reducible first|refine zA fun K hK=>?_|refine zB ?_|refine zC ?_)|((with_reducible first|refine zD rfl fun K hK=>?_|refine zE fun K hK=>?_);go_simp)|(with_reducible first|((repeat ((fail_if_success refine hK _ _ ?_);clear hK K));refine hK _ _ ?_;clear hK K)|refine zt ?_|refine zf ?_|refine zG ?_|refine zR ?_|refine zK ?_|refine zL ?_|refine zN ?_|refine zS ?_)|simp only [Exit.then,Exit.inBlock,Exit.noGoto,↓reduceIte,Nat.reduceEqDiff]|simp only [undef,reduceCtorEq,↓reduceIte]));refine Q_keep [2,3] (fun f=>?_);simp only [keep_cons,keep_nil,lk_cons,lk_nil,Nat.reduceEqDiff,↓reduceIte])
        exact HBAD.out _ HRK.out f _ { v2 with err:=synV a9 } (HS.out.err.drewN _) ((HA2.out.stp.trans HS.out.stp).drawn _)
      | false=>
        have HRK:=Lib.hid (show attrTail x.o an rest=.ok ((an.1,an.2,an.2),b :: r4) by rw [HTT.out,if_neg hb,if_neg (by rw [← HD.out.strict,hst];simp)])
        have hun:=Lib.hid (ungetc_c x HX.out.toOk c w2 v2 b r4 b0 HR2.out HN2.out HSUF.out)
        clear hb
        go_simp
        (repeat (first|(with_reducible first|refine zA fun K hK=>?_|refine zB ?_|refine zC ?_)|((with_reducible first|refine zD rfl fun K hK=>?_|refine zE fun K hK=>?_);go_simp)|(with_reducible first|((repeat ((fail_if_success refine hK _ _ ?_);clear hK K));refine hK _ _ ?_;clear hK K)|refine zt ?_|refine zf ?_|refine zG ?_|refine zR ?_|refine zK ?_|refine zL ?_|refine zN ?_|refine zS ?_)|simp only [Exit.then,Exit.inBlock,Exit.noGoto,↓reduceIte,Nat.reduceEqDiff]|simp only [undef,reduceCtorEq,↓reduceIte]))
        refine hun.out.mono ?_
        rintro e3 w3 ⟨rfl,v3,h3,hn3,hb3,hm3,hz3⟩
        have HA3:=Lib.hid (HA2.out.step (hm3.stp hb3) ⟨b0,h3⟩ (HA2.out.nn.of_eq hb3))
        have hca:=HA3.out.cell.blk.cell
        have hfa:=HA3.out.cell.blk.frozen
        clear h3 hn3 hb3 hm3 hz3 hun hc hf hst
        have HA5:=Lib.hid (HA3.out.set HB0.out 2 (strV an.2))
        go_simp
        (repeat ((fail_if_success with_reducible refine wp_stop0 197 ?_);(first|(with_reducible first|refine zA fun K hK=>?_|refine zB ?_|refine zC ?_)|((with_reducible first|refine zD rfl fun K hK=>?_|refine zE fun K hK=>?_);go_simp)|(with_reducible first|((repeat ((fail_if_success refine hK _ _ ?_);clear hK K));refine hK _ _ ?_;clear hK K)|refine zt ?_|refine zf ?_|refine zG ?_|refine zR ?_|refine zK ?_|refine zL ?_|refine zN ?_|refine zS ?_)|simp only [Exit.then,Exit.inBlock,Exit.noGoto,↓reduceIte,Nat.reduceEqDiff]|simp only [undef,reduceCtorEq,↓reduceIte])))
        (refine wp_keep [0,28,29,30,31] (fun f=>?_);simp only [keep_cons,keep_nil,lk_cons,lk_nil,Nat.reduceEqDiff,↓reduceIte])
        have HA6:Hid (AtSt x c w0 v0 (w3.setCell ⟨ab,2,none⟩ (strV an.2)) v3 (b :: r4) none nb nm av acc ab #[strV an.1,strV an.2,strV an.2]):=HA5.out
        obtain ⟨b6,hr6⟩:=HA6.out.rd
        refine wp_code (atAppend x HX.out c w0 _ v3 (b :: r4) none b6 hr6 (HA6.out.stp.mod.size) HB0.out nb nm av acc HA6.out.keep HN.out ab (an.1,an.2,an.2) HA6.out.cell.blk p28 v29 _ ?_ f) (by kernel_rfl)
        intro f w' av' hr hm hk
        have HH:=Lib.hid hr
        have HK:=Lib.hid hk
        have HS:=Lib.hid (HA6.out.stp.fresh hm)
        have HNN:=Lib.hid HA6.out.nn
        clear hr hm hk hr6 hca hfa
        (repeat (first|(with_reducible first|refine zA fun K hK=>?_|refine zB ?_|refine zC ?_)|((with_reducible first|refine zD rfl fun K hK=>?_|refine zE fun K hK=>?_);go_simp)|(with_reducible first|((repeat ((fail_if_success refine hK _ _ ?_);clear hK K));refine hK _ _ ?_;clear hK K)|refine zt ?_|refine zf ?_|refine zG ?_|refine zR ?_|refine zK ?_|refine zL ?_|refine zN ?_|refine zS ?_)|simp only [Exit.then,Exit.inBlock,Exit.noGoto,↓reduceIte,Nat.reduceEqDiff]|simp only [undef,reduceCtorEq,↓reduceIte]))
        exact HOK.out _ _ HRK.out f w' v3 none b6 av' HH.out HNN.out HS.out HK.out
end Go.Proofs.YtkjnockljapnbaaGreatDoor
