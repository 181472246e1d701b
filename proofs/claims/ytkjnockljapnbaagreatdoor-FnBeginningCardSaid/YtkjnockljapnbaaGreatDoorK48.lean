/- Part of the proof that laws.FnBeginning, laws.FnPlaces returns true for every argument (Kc, Kd, Ke, Kf, Kg). No condition of its own. -/
import Derived.Test.YtkjnockljapnbaaGreatDoorK47
import Derived.Test.YtkjnockljapnbaaGreatDoorK03
import Derived.Test.YtkjnockljapnbaaGreatDoorK42
set_option linter.all false
set_option maxHeartbeats 8000000
set_option maxRecDepth 100000
namespace Go.Proofs.YtkjnockljapnbaaGreatDoor
open Go Go.RowKit
theorem sptInfo:(Tryz.prog.info? 40).map (fun i=>(i.zero,i.size,i.bytes))=some (some (.agg #[.int .i64 0,.string ⟨#[]⟩,.string ⟨#[]⟩,.slice none 0 0,.string ⟨#[]⟩,.int .i64 0]),6,88):=by kernel_rfl
def plCells (p:ITok) (av:Value):List Value:=[.int .i64 p.kind,strV p.space,strV p.loc,av,strV p.text,.int .i64 p.at']
theorem spt_append (w3:World) (base:Nat) (hb:base ≤ w3.heap.size) (v:Value) (n:Nat) (hn:n ≤ 1000000000) (xs:List Value) (h:w3.ownsRow base 40 6 v n xs) (p:ITok) (sa:Option Addr) (sl sc:Nat) :
    ∃ v' w4,(Builtin.append_ #[36,36] 36 #[v,.slice (some ⟨w3.heap.size,0,none⟩) 1 1]).run Tryz.prog (w3.alloc (.cells #[.int .i64 p.kind,strV p.space,strV p.loc,.slice sa sl sc,strV p.text,.int .i64 p.at'] 40))=.ok v' w4 ∧
      w4.ownsRow base 40 6 v' (n + 1) (xs ++ plCells p (.slice sa sl sc))∧(w3.alloc (.cells #[.int .i64 p.kind,strV p.space,strV p.loc,.slice sa sl sc,strV p.text,.int .i64 p.at'] 40)).grownBy w4 v.ownBlock∧(v'.ownBlock=v.ownBlock ∨ v'.ownBlock=some (w3.heap.size + 1)):=by
  obtain ⟨i,hi,hz,h1,h2⟩:=info_parts sptInfo
  obtain ⟨v',w4,hr,ho,hg,_,hown⟩:=run_append_own_at (P:=Tryz.prog) (w3.alloc (.cells #[.int .i64 p.kind,strV p.space,strV p.loc,.slice sa sl sc,strV p.text,.int .i64 p.at'] 40)) base 36 36 40 i _ 6 88 Tryz.underlying36 hi hz h1 h2 rfl (by omega) v n xs (h.alloc _) ⟨w3.heap.size,0,none⟩ 1 1 (plCells p (.slice sa sl sc)) rfl
    (by
      intro j u hj
      have hb:=Blk.new w3 #[.int .i64 p.kind,strV p.space,strV p.loc,.slice sa sl sc,strV p.text,.int .i64 p.at'] 40
      rw [show ((⟨w3.heap.size,0,none⟩:Addr).add j)=⟨w3.heap.size,j,none⟩ by cases j <;> simp [Addr.add],hb.cell]
      simpa [plCells] using hj)
    (by
      intro u hu
      simp only [plCells,List.mem_cons,List.not_mem_nil,or_false] at hu
      rcases hu with rfl|rfl|rfl|rfl|rfl|rfl <;> rfl)
    (by unfold maxLen;omega) (by omega) (by simp;omega)
  exact ⟨v',w4,hr,ho,hg,by simpa using hown⟩
def PtOk (w:World) (base:Nat) (G:Nat → Prop) (p:ITok) (ys:List Value):Prop:=
  ∃ sa sl sc,ys=plCells p (.slice sa sl sc)∧w.ownsRow base 62 3 (.slice sa sl sc) p.attrs.length (atCells p.attrs)∧∀ k,(Value.slice sa sl sc).ownBlock=some k → G k
theorem PtOk.mod {w w':World} {base:Nat} {G G':Nat → Prop} {p:ITok} {ys:List Value} {S:Nat → Prop} (h:PtOk w base G p ys) (hm:Mod S w w') (hG:∀ k,G k → k < w.heap.size → ¬ S k∧G' k):PtOk w' base G' p ys:=by
  obtain ⟨sa,sl,sc,rfl,hr,hg⟩:=h
  exact ⟨sa,sl,sc,rfl,ownsRow_mod hr hm (fun k hk=>(hG k (hg k hk) (ownsRow_lt hr hk).1).1),fun k hk=>(hG k (hg k hk) (ownsRow_lt hr hk).1).2⟩
structure SrcTok (w:World) (g o:Nat) (p:ITok):Prop where
  ex:∃ sa sl sc i6 i7,w.cell? ⟨g,o,none⟩=some (.int .i64 p.kind)∧w.cell? ⟨g,o + 1,none⟩=some (strV p.space)∧w.cell? ⟨g,o + 2,none⟩=some (strV p.loc)∧w.cell? ⟨g,o + 3,none⟩=some (.slice sa sl sc)∧w.cell? ⟨g,o + 4,none⟩=some (strV p.text)∧w.cell? ⟨g,o + 5,none⟩=some (.int .i64 p.at') ∧
    w.cell? ⟨g,o + 6,none⟩=some (.int .i64 i6)∧w.cell? ⟨g,o + 7,none⟩=some (.int .i64 i7)∧w.ownsRow 0 61 3 (.slice sa sl sc) p.attrs.length (atCells p.attrs)
  len:p.attrs.length ≤ 1000000000
def PlO (w0:World) (tv:Value) (l:List ITok) (k:Nat) (a:Act) (w:World):Prop:=
  ∃ f i out xs,a=fr 50 f [(3,out),(9,tv),(10,.int .i64 l.length),(11,.int .i64 (i:Nat))]∧Below w0.heap.size w0 w∧w.ownsRow w0.heap.size 40 6 out i xs∧RowsAt (PtOk w w0.heap.size (fun k=>out.ownBlock ≠ some k)) (l.take i) xs∧k=l.length - i∧i ≤ l.length
theorem plain_c (w0:World) (l:List ITok) (hlen:l.length ≤ 1000000000) (g ro cap:Nat) (hg:g < w0.heap.size) (hsrc:∀ i p,l[i]?=some p → SrcTok w0 g (ro + i * 8) p) :
    Calls Tryz.prog 11 #[.slice (some ⟨g,ro,none⟩) l.length cap] w0 fun en w'=>∃ out xs,en=.returned out∧Below w0.heap.size w0 w'∧w'.ownsRow w0.heap.size 40 6 out l.length xs∧RowsAt (PtOk w' w0.heap.size (fun _=>True)) l xs:=by
  have HLEN:=Lib.hid hlen
  have HSRC:=Lib.hid hsrc
  have HGL:=Lib.hid hg
  clear hlen hsrc hg
  refine calls_fr (vs:=[_]) 50 Tryz.func11 rfl rfl (Nat.le_of_ble_eq_true rfl) fun f=>?_
  simp only [argSlots]
  (repeat (first|(with_reducible first|refine zA fun K hK=>?_|refine zB ?_|refine zC ?_)|((with_reducible first|refine zD rfl fun K hK=>?_|refine zE fun K hK=>?_);go_simp)|(with_reducible first|((repeat ((fail_if_success refine hK _ _ ?_);clear hK K));refine hK _ _ ?_;clear hK K)|refine zT (by go_simp;first|done|omega) ?_|refine zF (by go_simp;first|done|omega) ?_|refine zG ?_|refine zR ?_|refine zK ?_|refine zL ?_|refine zN ?_|refine zS ?_)|simp only [Exit.then,Exit.inBlock,Exit.noGoto,↓reduceIte,Nat.reduceEqDiff]|simp only [undef,reduceCtorEq,↓reduceIte]))
  (refine wp_keep [3,9,10,11] (fun f=>?_);simp only [keep_cons,keep_nil,lk_cons,lk_nil,Nat.reduceEqDiff,↓reduceIte])
  refine wp_loop_ghost_k (PlO w0 (.slice (some ⟨g,ro,none⟩) l.length cap) l) l.length ⟨f,0,.slice none 0 0,[],rfl,Below.refl _ w0,⟨rfl,Or.inl ⟨rfl,rfl⟩⟩,.nil,by simp,Nat.zero_le _⟩ ?_
  rintro k _ w ⟨f,i,out,xs,rfl,hb,hrow,hrows,hk,hi⟩ J K2 hJ hK2
  have HJ:=Lib.hid hJ
  have HK2:=Lib.hid hK2
  have HB:=Lib.hid hb
  have HROW:=Lib.hid hrow
  have HROWS:=Lib.hid hrows
  have HK:=Lib.hid hk
  clear hJ hK2 hb hrow hrows hk
  by_cases hlt:i < l.length
  · have h1:(i:Int) < (l.length:Int):=by omega
    have h0:(0:Int) ≤ (i:Int):=by omega
    have hw1:IntKind.i64.wrap ((i:Int) + 1)=((i + 1:Nat):Int):=by rw [IntKind.wrap_i64];have:=HLEN.out;omega
    obtain ⟨p,hp⟩:∃ p,l[i]?=some p:=⟨l[i],by simp [hlt]⟩
    obtain ⟨sa,sl,sc,i6,i7,c0,c1,c2,c3,c4,c5,c6,c7,hat⟩:=(HSRC.out i p hp).ex
    have hpl:=(HSRC.out i p hp).len
    have hce:∀ j,w.cell? ⟨g,j,none⟩=w0.cell? ⟨g,j,none⟩:=fun j=>HB.out.cell (p:=⟨g,j,none⟩) HGL.out
    rw [← hce] at c0 c1 c2 c3 c4 c5 c6 c7
    obtain ⟨w1,hw1d⟩:∃ w1,w1=w.alloc (.cells #[.int .i64 p.kind,strV p.space,strV p.loc,.slice sa sl sc,strV p.text,.int .i64 p.at',.int .i64 i6,.int .i64 i7] 33):=⟨_,rfl⟩
    have hbl:Below w.heap.size w w1:=by rw [hw1d];exact (Below.refl _ w).alloc (Nat.le_refl _) _
    have hb5:Blk w1 w.heap.size #[.int .i64 p.kind,strV p.space,strV p.loc,.slice sa sl sc,strV p.text,.int .i64 p.at',.int .i64 i6,.int .i64 i7] 33:=by rw [hw1d];exact Blk.new w _ _
    have hat1:w1.ownsRow 0 61 3 (.slice sa sl sc) p.attrs.length (atCells p.attrs):=ownsRow_mod (S:=fun _=>False) (ownsRow_mod (S:=fun _=>False) hat (mod_none (HB.out) _) (fun _ _=>id)) (mod_none hbl _) (fun _ _=>id)
    have hsl:sl=p.attrs.length:=by
      rcases hat.2 with ⟨h9,h8⟩|⟨g9,cap9,cur9,h9,_⟩
      · simp only [Value.slice.injEq] at h9;rw [h9.2.1,h8]
      · simp only [Value.slice.injEq] at h9;exact h9.2.1
    subst hsl
    have htake:l.take (i + 1)=l.take i ++ [p]:=by rw [List.take_succ,hp];rfl
    have HIN:=Lib.hid (fun o3 p5 v9 v10 v11 Q hQ f c1 e=>plIn w1 o3 p5 v9 v10 v11 sa p.attrs.length sc p.attrs hpl hat1 Q hQ f c1 e)
    have HBL:=Lib.hid hbl
    have HB5:=Lib.hid hb5
    have HTK:=Lib.hid htake
    clear hat hat1 hpl hce hp htake
    (repeat ((fail_if_success with_reducible refine wp_stop 5 ?_);(fail_if_success with_reducible refine wp_stop2 5 ?_);(first|(with_reducible first|refine zA fun K hK=>?_|refine zB ?_|refine zC ?_)|((with_reducible first|refine zD rfl fun K hK=>?_|refine zE fun K hK=>?_);go_simp)|(with_reducible first|((repeat ((fail_if_success refine hK _ _ ?_);clear hK K));refine hK _ _ ?_;clear hK K)|refine zT (by go_simp;first|done|omega) ?_|refine zF (by go_simp;first|done|omega) ?_|refine zG ?_|refine zR ?_|refine zK ?_|refine zL ?_|refine zN ?_|refine zS ?_)|simp only [Exit.then,Exit.inBlock,Exit.noGoto,↓reduceIte,Nat.reduceEqDiff]|simp only [undef,reduceCtorEq,↓reduceIte])))
    rw [show w.alloc (.cells #[.int .i64 p.kind,.string ⟨List.toArray p.space⟩,.string ⟨List.toArray p.loc⟩,.slice sa p.attrs.length sc,.string ⟨List.toArray p.text⟩,.int .i64 p.at',.int .i64 i6,.int .i64 i7] 33)=w1 from hw1d.symm]
    clear hw1d c0 c1 c2 c3 c4 c5 c6 c7 hbl
    have hc5:=hb5.cell
    have hf5:=hb5.frozen
    clear hb5
    (repeat (first|(with_reducible first|refine zA fun K hK=>?_|refine zB ?_|refine zC ?_)|((with_reducible first|refine zD rfl fun K hK=>?_|refine zE fun K hK=>?_);go_simp)|(with_reducible first|((repeat ((fail_if_success refine hK _ _ ?_);clear hK K));refine hK _ _ ?_;clear hK K)|refine zT (by go_simp;first|done|omega) ?_|refine zF (by go_simp;first|done|omega) ?_|refine zG ?_|refine zR ?_|refine zK ?_|refine zL ?_|refine zN ?_|refine zS ?_)|simp only [Exit.then,Exit.inBlock,Exit.noGoto,↓reduceIte,Nat.reduceEqDiff]|simp only [undef,reduceCtorEq,↓reduceIte]))
    (refine wp_keep [3,5,6,9,10,11,16,17,18] (fun f=>?_);simp only [keep_cons,keep_nil,lk_cons,lk_nil,Nat.reduceEqDiff,↓reduceIte])
    refine HIN.out _ _ _ _ _ _ ?_ f _ (by kernel_rfl)
    intro f w2 av hb2 hrow2
    obtain ⟨sa',sl',sc',rfl⟩:=ownsRow_slice hrow2
    have hz0:=HB.out.size
    have hz1:=HBL.out.size
    have hz2:=hb2.size
    have hm02:Mod (fun _=>False) w w2:=(mod_none HBL.out _).trans (mod_none hb2 _) (fun _ _ h=>h)
    obtain ⟨out',w4,hrun,hown,hgr,hob⟩:=spt_append w2 w0.heap.size (by omega) out i (by have:=HLEN.out;omega) xs (ownsRow_mod HROW.out hm02 (fun _ _=>id)) p sa' sl' sc'
    have hb52:Blk w2 w.heap.size _ _:=Blk.mod (S:=fun _=>False) HB5.out (mod_none hb2 _) id
    have hc52:=hb52.cell
    have hf52:=hb52.frozen
    have HB2:=Lib.hid hb2
    have HROW2:=Lib.hid hrow2
    have HG:=Lib.hid hgr
    have HO:=Lib.hid hown
    have HOB:=Lib.hid hob
    have HM02:=Lib.hid hm02
    clear hb2 hrow2 hgr hown hob hm02 hb52 HIN hc5 hf5 hz0 hz1 hz2
    (repeat ((fail_if_success at_builtin);(first|(with_reducible first|refine zA fun K hK=>?_|refine zB ?_|refine zC ?_)|((with_reducible first|refine zD rfl fun K hK=>?_|refine zE fun K hK=>?_);go_simp)|(with_reducible first|((repeat ((fail_if_success refine hK _ _ ?_);clear hK K));refine hK _ _ ?_;clear hK K)|refine zT (by go_simp;first|done|omega) ?_|refine zF (by go_simp;first|done|omega) ?_|refine zG ?_|refine zR ?_|refine zK ?_|refine zL ?_|refine zN ?_|refine zS ?_)|simp only [Exit.then,Exit.inBlock,Exit.noGoto,↓reduceIte,Nat.reduceEqDiff]|simp only [undef,reduceCtorEq,↓reduceIte])))
    refine wpList_app rfl (.tmp 33) (.tmp 46) _ _ rfl _ _ _ (by rw [fr_eval (by decide)];(try simp only [keep_cons,keep_nil,lk_cons,lk_nil,Nat.reduceEqDiff,↓reduceIte]);(try rfl)) (by rw [fr_eval (by decide)];(try simp only [keep_cons,keep_nil,lk_cons,lk_nil,Nat.reduceEqDiff,↓reduceIte]);(try rfl)) hrun ?_
    clear hrun
    rw [fr_put (by decide)]
    (repeat (first|(with_reducible first|refine zA fun K hK=>?_|refine zB ?_|refine zC ?_)|((with_reducible first|refine zD rfl fun K hK=>?_|refine zE fun K hK=>?_);go_simp)|(with_reducible first|((repeat ((fail_if_success refine hK _ _ ?_);clear hK K));refine hK _ _ ?_;clear hK K)|refine zT (by go_simp;first|done|omega) ?_|refine zF (by go_simp;first|done|omega) ?_|refine zG ?_|refine zR ?_|refine zK ?_|refine zL ?_|refine zN ?_|refine zS ?_)|simp only [Exit.then,Exit.inBlock,Exit.noGoto,↓reduceIte,Nat.reduceEqDiff]|simp only [undef,reduceCtorEq,↓reduceIte]))
    (refine K_keep [3,9,10,11] (fun f=>?_);simp only [keep_cons,keep_nil,lk_cons,lk_nil,Nat.reduceEqDiff,↓reduceIte])
    have hm4:Mod (fun k=>out.ownBlock=some k) w2 w4:=(mod_none ((Below.refl _ w2).alloc (Nat.le_refl _) _) _).trans (S':=fun k=>out.ownBlock=some k) ⟨HG.out.os,HG.out.tape,HG.out.output,HG.out.size,fun k hk hn=>HG.out.block k hk (fun he=>hn he.symm)⟩ (fun i _ hi=>hi)
    have hm04:Mod (fun k=>out.ownBlock=some k) w w4:=(HM02.out.mono (fun _ _ h=>h.elim)).trans hm4 (fun _ _ h=>h)
    have hbg:∀ k,out.ownBlock=some k → w0.heap.size ≤ k:=fun k hk=>(ownsRow_lt HROW.out hk).2
    have hnz:w2.heap.size + 1 ≤ w4.heap.size:=by have h9:=HG.out.size;rw [show ∀ o:Obj,(w2.alloc o).heap.size=w2.heap.size + 1 from fun o=>Array.size_push _] at h9;exact h9
    have hne:∀ k,k < w2.heap.size → out.ownBlock ≠ some k → out'.ownBlock ≠ some k:=fun k hk hn he=>by
      rcases HOB.out with hob|hob
      · exact hn (hob ▸ he)
      · rw [hob] at he
        have:w2.heap.size + 1=k:=by simpa using he
        omega
    refine HK2.out _ _ ⟨l.length - (i + 1),by rw [HK.out];omega,HJ.out _ _ _ ⟨f,i + 1,out',_,rfl,Mod.below HB.out HB.out.size hm04 hbg,HO.out,?_,rfl,hlt⟩⟩
    rw [HTK.out]
    refine .snoc (HROWS.out.mono (fun a ys hr=>hr.mod hm04 (fun k hk hl=>⟨hk,hne k (Nat.lt_of_lt_of_le hl HM02.out.size) hk⟩))) ?_
    have hbk:∀ k,(Value.slice sa' sl' sc').ownBlock=some k → k < w2.heap.size∧w1.heap.size ≤ k:=fun k hk=>ownsRow_lt HROW2.out hk
    have hnt:∀ k,(Value.slice sa' sl' sc').ownBlock=some k → out.ownBlock ≠ some k:=fun k hk he=>by
      have h8:=(hbk k hk).2
      have h9:=(ownsRow_lt HROW.out he).1
      have h7:=HB5.out.lt
      have h6:=HBL.out.size
      omega
    have hat0:w2.ownsRow w0.heap.size 62 3 (.slice sa' sl' sc') p.attrs.length (atCells p.attrs):=by
      refine ⟨HROW2.out.1,?_⟩
      rcases HROW2.out.2 with h9|⟨g,cap,cur,e1,e2,e3⟩
      · exact Or.inl h9
      · exact Or.inr ⟨g,cap,cur,e1,Nat.le_trans (Nat.le_trans HB.out.size HBL.out.size) e2,e3⟩
    exact ⟨sa',sl',sc',rfl,ownsRow_mod hat0 hm4 (fun k hk he=>hnt k hk he),fun k hk=>hne k (hbk k hk).1 (hnt k hk)⟩
  · have hii:i=l.length:=by omega
    subst hii
    have h1:¬ ((l.length:Int) < (l.length:Int)):=by omega
    (repeat (first|(with_reducible first|refine zA fun K hK=>?_|refine zB ?_|refine zC ?_)|((with_reducible first|refine zD rfl fun K hK=>?_|refine zE fun K hK=>?_);go_simp)|(with_reducible first|((repeat ((fail_if_success refine hK _ _ ?_);clear hK K));refine hK _ _ ?_;clear hK K)|refine zT (by go_simp;first|done|omega) ?_|refine zF (by go_simp;first|done|omega) ?_|refine zG ?_|refine zR ?_|refine zK ?_|refine zL ?_|refine zN ?_|refine zS ?_)|simp only [Exit.then,Exit.inBlock,Exit.noGoto,↓reduceIte,Nat.reduceEqDiff]|simp only [undef,reduceCtorEq,↓reduceIte]))
    (refine fr_out1 rfl (by decide) (by simp only [lk_cons,lk_nil,Nat.reduceEqDiff,↓reduceIte];rfl) ?_)
    have h2:=HROWS.out
    rw [List.take_length] at h2
    exact ⟨out,xs,rfl,HB.out,HROW.out,h2.mono (fun a ys hr=>hr.mod (Mod.refl (fun _=>False) w) (fun _ _ _=>⟨id,trivial⟩))⟩
end Go.Proofs.YtkjnockljapnbaaGreatDoor
namespace Go.Proofs.YtkjnockljapnbaaGreatDoor
open Go
def rdT:Bs:=[60,97,47,62]
def rdO:Opt:=⟨false,true,none,[],[],false⟩
def rdS1:St:={ rest:=[],ended:=false,toClose:=some ([],[97]),stk:=[{ kind:=0,space:=[],loc:=[97],ok:=false }],ns:=fun _=>none,next:=none }
def rdS2:St:={ rest:=[],ended:=false,toClose:=none,stk:=[],ns:=fun _=>none,next:=none }
theorem rd_a:step0 rdO (St.init rdT)=.ok (.start ([],[97]) [],rdS1):=by rfl
theorem rd_b:step0 rdO rdS1=.ok (.fin ([],[97]),rdS2):=by rfl
theorem rd_c:step0 rdO rdS2=.error .eof:=by rfl
theorem rd_toks (fold:Bs → Bs → Bool):Toks fold rdO (St.init rdT) [(.start ([],[97]) [],rdS1),(.fin ([],[97]),rdS2)] .eof:=
  .more (by rw [stepL_nil rfl rfl];exact rd_a) (.more (by rw [stepL_nil rfl rfl];exact rd_b) (.stop (by rw [stepL_nil rfl rfl];exact rd_c)))
end Go.Proofs.YtkjnockljapnbaaGreatDoor
namespace Go.Proofs.YtkjnockljapnbaaGreatDoor
open Go Go.RowKit
theorem spaNe (a b c:Bs) (w:World):(binOp .neq 62 (.agg #[strV a,strV b,strV c]) (.agg #[strV a,strV b,strV c])).run Tryz.prog w=.ok (.bool false) w:=by
  have e:∀ (d:Nat) (x:Bs) (w:World),(Op.equalIn (d + 1) 9 (strV x) (strV x)).run Tryz.prog w=.ok true w:=fun d x w=>by
    rw [run_equalIn_string w d _ _ _ Tryz.underlying9];simp
  have u1:=Tryz.underlying9
  rw [run_neq_struct,show (10000:Nat)=9999 + 1 from rfl,run_equalIn_agg w 9999 _ _ _ (by kernel_rfl) (by kernel_rfl)]
  simp only [Program.fieldsOf,Tryz.underlying62]
  go_simp
abbrev plV (p:ITok) (sa:Option Addr) (sl sc:Nat):Value:=.agg #[.int .i64 p.kind,strV p.space,strV p.loc,.slice sa sl sc,strV p.text,.int .i64 p.at']
def AlInv (w1:World) (b:Nat) (n:Nat) (k:Nat) (a:Act) (w:World):Prop:=
  ∃ f i,a=fr 59 f [(2,.pointer (some ⟨b,0,none⟩)),(3,.pointer (some ⟨b + 1,0,none⟩)),(43,.int .i64 (n:Nat)),(44,.int .i64 (i:Nat))]∧(∃ j,w=w1.drewN j)∧k=n - i∧i ≤ n
theorem row_cells {w:World} {base:Nat} {e:TypeId} {sa:Option Addr} {sl sc:Nat} {ats:List At3} (h:w.ownsRow base e 3 (.slice sa sl sc) ats.length (atCells ats)) {i:Nat} {a:At3} (ha:ats[i]?=some a) :
    ∃ g,sa=some ⟨g,0,none⟩∧sl=ats.length∧w.cell? ⟨g,i * 3,none⟩=some (strV a.1)∧w.cell? ⟨g,i * 3 + 1,none⟩=some (strV a.2.1)∧w.cell? ⟨g,i * 3 + 2,none⟩=some (strV a.2.2):=by
  have hi:=(List.getElem?_eq_some_iff.1 ha).1
  rcases h.2 with ⟨_,h9⟩|⟨g,cap,cur,h3,_,h4,_,_,_,h5⟩
  · omega
  · simp only [Value.slice.injEq] at h3
    obtain ⟨rfl,rfl,rfl⟩:=h3
    obtain ⟨k1,k2,k3⟩:=at_cell h5 ha
    have hgw:Blk w g cur e:=h4
    exact ⟨g,rfl,rfl,(hgw.cell _).trans k1,(hgw.cell _).trans k2,(hgw.cell _).trans k3⟩
theorem row_len {w:World} {base:Nat} {e:TypeId} {sa:Option Addr} {sl sc n:Nat} {xs:List Value} {sz:Nat} (h:w.ownsRow base e sz (.slice sa sl sc) n xs):sl=n:=by
  rcases h.2 with ⟨h3,h9⟩|⟨g,cap,cur,h3,_⟩
  · simp only [Value.slice.injEq] at h3;omega
  · simp only [Value.slice.injEq] at h3;exact h3.2.1
theorem alike_c (w0:World) (p:ITok) (hlen:p.attrs.length ≤ 1000000000) (b1 b2:Nat) (sa:Option Addr) (sl sc:Nat) (sa':Option Addr) (sl' sc':Nat) (h1:w0.ownsRow b1 62 3 (.slice sa sl sc) p.attrs.length (atCells p.attrs)) (h2:w0.ownsRow b2 62 3 (.slice sa' sl' sc') p.attrs.length (atCells p.attrs)) :
    Calls Tryz.prog 12 #[plV p sa sl sc,plV p sa' sl' sc'] w0 fun en w'=>en=.returned (.bool true)∧Below w0.heap.size w0 w':=by
  have e1:=row_len h1
  have e2:=row_len h2
  subst e1 e2
  obtain ⟨w1,hw1⟩:∃ w1,w1=(w0.alloc (.cells #[.int .i64 p.kind,strV p.space,strV p.loc,.slice sa p.attrs.length sc,strV p.text,.int .i64 p.at'] 40)).alloc (.cells #[.int .i64 p.kind,strV p.space,strV p.loc,.slice sa' p.attrs.length sc',strV p.text,.int .i64 p.at'] 40):=⟨_,rfl⟩
  have hbl:Below w0.heap.size w0 w1:=by rw [hw1];exact ((Below.refl _ w0).alloc (Nat.le_refl _) _).alloc (by simp) _
  have hba:Blk w1 w0.heap.size #[.int .i64 p.kind,strV p.space,strV p.loc,.slice sa p.attrs.length sc,strV p.text,.int .i64 p.at'] 40:=by rw [hw1];exact (Blk.new w0 _ _).alloc _
  have hbb:Blk w1 (w0.heap.size + 1) #[.int .i64 p.kind,strV p.space,strV p.loc,.slice sa' p.attrs.length sc',strV p.text,.int .i64 p.at'] 40:=by
    have:=Blk.new (w0.alloc (.cells #[.int .i64 p.kind,strV p.space,strV p.loc,.slice sa p.attrs.length sc,strV p.text,.int .i64 p.at'] 40)) #[.int .i64 p.kind,strV p.space,strV p.loc,.slice sa' p.attrs.length sc',strV p.text,.int .i64 p.at'] 40
    rw [hw1];simpa using this
  have H1:=Lib.hid (ownsRow_mod (S:=fun _=>False) h1 (mod_none hbl _) (fun _ _=>id))
  have H2:=Lib.hid (ownsRow_mod (S:=fun _=>False) h2 (mod_none hbl _) (fun _ _=>id))
  have HBL:=Lib.hid hbl
  have HA:=Lib.hid hba
  have HB:=Lib.hid hbb
  have HLEN:=Lib.hid hlen
  clear h1 h2 hbl hba hbb hlen
  refine calls_fr (vs:=[_,_]) 59 Tryz.func12 rfl rfl (Nat.le_of_ble_eq_true rfl) fun f=>?_
  simp only [argSlots]
  (repeat ((fail_if_success with_reducible refine wp_stop 1 ?_);(fail_if_success with_reducible refine wp_stop2 1 ?_);(first|(with_reducible first|refine zA fun K hK=>?_|refine zB ?_|refine zC ?_)|((with_reducible first|refine zD rfl fun K hK=>?_|refine zE fun K hK=>?_);go_simp)|(with_reducible first|((repeat ((fail_if_success refine hK _ _ ?_);clear hK K));refine hK _ _ ?_;clear hK K)|refine zT (by go_simp;first|done|omega) ?_|refine zF (by go_simp;first|done|omega) ?_|refine zG ?_|refine zR ?_|refine zK ?_|refine zL ?_|refine zN ?_|refine zS ?_)|simp only [Exit.then,Exit.inBlock,Exit.noGoto,↓reduceIte,Nat.reduceEqDiff]|simp only [undef,reduceCtorEq,↓reduceIte])))
  rw [← hw1]
  clear hw1
  have hca:=HA.out.cell
  have hcb:=HB.out.cell
  (repeat (first|(with_reducible first|refine zA fun K hK=>?_|refine zB ?_|refine zC ?_)|((with_reducible first|refine zD rfl fun K hK=>?_|refine zE fun K hK=>?_);go_simp)|(with_reducible first|((repeat ((fail_if_success refine hK _ _ ?_);clear hK K));refine hK _ _ ?_;clear hK K)|refine zT (by go_simp;first|done|omega) ?_|refine zF (by go_simp;first|done|omega) ?_|refine zG ?_|refine zR ?_|refine zK ?_|refine zL ?_|refine zN ?_|refine zS ?_)|simp only [Exit.then,Exit.inBlock,Exit.noGoto,↓reduceIte,Nat.reduceEqDiff]|simp only [undef,reduceCtorEq,↓reduceIte]))
  (refine wp_keep [2,3,43,44] (fun f=>?_);simp only [keep_cons,keep_nil,lk_cons,lk_nil,Nat.reduceEqDiff,↓reduceIte])
  have HCA:=Lib.hid hca
  have HCB:=Lib.hid hcb
  clear hca hcb
  refine wp_loop_ghost_k (AlInv w1 w0.heap.size p.attrs.length) p.attrs.length ⟨f,0,rfl,⟨0,rfl⟩,by simp,Nat.zero_le _⟩ ?_
  rintro k _ w ⟨f,i,rfl,⟨j,hjw⟩,hk,hi⟩ J K2 hJ hK2
  have HJW:=Lib.hid hjw
  clear hjw
  have HJ:=Lib.hid hJ
  have HK2:=Lib.hid hK2
  have HK:=Lib.hid hk
  clear hJ hK2 hk
  by_cases hlt:i < p.attrs.length
  · have h1:(i:Int) < (p.attrs.length:Int):=by omega
    have h0:(0:Int) ≤ (i:Int):=by omega
    have hw1:IntKind.i64.wrap ((i:Int) + 1)=((i + 1:Nat):Int):=by rw [IntKind.wrap_i64];have:=HLEN.out;omega
    obtain ⟨a,ha⟩:∃ a,p.attrs[i]?=some a:=⟨p.attrs[i],by simp [hlt]⟩
    obtain ⟨ga,rfl,_,a0,a1,a2⟩:=row_cells H1.out ha
    obtain ⟨gb,rfl,_,b0,b1,b2⟩:=row_cells H2.out ha
    have a0':w.cell? ⟨ga,i * 3,none⟩=some (strV a.1):=by rw [HJW.out];exact a0
    have a1':w.cell? ⟨ga,i * 3 + 1,none⟩=some (strV a.2.1):=by rw [HJW.out];exact a1
    have a2':w.cell? ⟨ga,i * 3 + 2,none⟩=some (strV a.2.2):=by rw [HJW.out];exact a2
    have b0':w.cell? ⟨gb,i * 3,none⟩=some (strV a.1):=by rw [HJW.out];exact b0
    have b1':w.cell? ⟨gb,i * 3 + 1,none⟩=some (strV a.2.1):=by rw [HJW.out];exact b1
    have b2':w.cell? ⟨gb,i * 3 + 2,none⟩=some (strV a.2.2):=by rw [HJW.out];exact b2
    have hca3:w.cell? ⟨w0.heap.size,3,none⟩=some (.slice (some ⟨ga,0,none⟩) p.attrs.length sc):=by rw [HJW.out];exact HCA.out 3
    have hcb3:w.cell? ⟨w0.heap.size + 1,3,none⟩=some (.slice (some ⟨gb,0,none⟩) p.attrs.length sc'):=by rw [HJW.out];exact HCB.out 3
    have hne:=fun w=>spaNe a.1 a.2.1 a.2.2 w
    clear ha a0 a1 a2 b0 b1 b2
    (repeat (first|(with_reducible first|refine zA fun K hK=>?_|refine zB ?_|refine zC ?_)|((with_reducible first|refine zD rfl fun K hK=>?_|refine zE fun K hK=>?_);go_simp)|(with_reducible first|((repeat ((fail_if_success refine hK _ _ ?_);clear hK K));refine hK _ _ ?_;clear hK K)|refine zT (by go_simp;first|done|omega) ?_|refine zF (by go_simp;first|done|omega) ?_|refine zG ?_|refine zR ?_|refine zK ?_|refine zL ?_|refine zN ?_|refine zS ?_)|simp only [Exit.then,Exit.inBlock,Exit.noGoto,↓reduceIte,Nat.reduceEqDiff]|simp only [undef,reduceCtorEq,↓reduceIte]))
    (refine wp_keep [2,3,5,43,44] (fun f=>?_);simp only [keep_cons,keep_nil,lk_cons,lk_nil,Nat.reduceEqDiff,↓reduceIte])
    go_quiet (fail)
    (repeat (first|(with_reducible first|refine zA fun K hK=>?_|refine zB ?_|refine zC ?_)|((with_reducible first|refine zD rfl fun K hK=>?_|refine zE fun K hK=>?_);go_simp)|(with_reducible first|((repeat ((fail_if_success refine hK _ _ ?_);clear hK K));refine hK _ _ ?_;clear hK K)|refine zT (by go_simp;first|done|omega) ?_|refine zF (by go_simp;first|done|omega) ?_|refine zG ?_|refine zR ?_|refine zK ?_|refine zL ?_|refine zN ?_|refine zS ?_)|simp only [Exit.then,Exit.inBlock,Exit.noGoto,↓reduceIte,Nat.reduceEqDiff]|simp only [undef,reduceCtorEq,↓reduceIte]))
    (refine K_keep [2,3,43,44] (fun f=>?_);simp only [keep_cons,keep_nil,lk_cons,lk_nil,Nat.reduceEqDiff,↓reduceIte])
    exact HK2.out _ _ ⟨p.attrs.length - (i + 1),by rw [HK.out];omega,HJ.out _ _ _ ⟨f,i + 1,rfl,⟨j + nq,by rw [HJW.out,World.drewN_drewN]⟩,rfl,hlt⟩⟩
  · have hii:i=p.attrs.length:=by omega
    subst hii
    have h1:¬ ((p.attrs.length:Int) < (p.attrs.length:Int)):=by omega
    (repeat (first|(with_reducible first|refine zA fun K hK=>?_|refine zB ?_|refine zC ?_)|((with_reducible first|refine zD rfl fun K hK=>?_|refine zE fun K hK=>?_);go_simp)|(with_reducible first|((repeat ((fail_if_success refine hK _ _ ?_);clear hK K));refine hK _ _ ?_;clear hK K)|refine zT (by go_simp;first|done|omega) ?_|refine zF (by go_simp;first|done|omega) ?_|refine zG ?_|refine zR ?_|refine zK ?_|refine zL ?_|refine zN ?_|refine zS ?_)|simp only [Exit.then,Exit.inBlock,Exit.noGoto,↓reduceIte,Nat.reduceEqDiff]|simp only [undef,reduceCtorEq,↓reduceIte]))
    (refine fr_out1 rfl (by decide) (by simp only [lk_cons,lk_nil,Nat.reduceEqDiff,↓reduceIte];rfl) ?_)
    exact ⟨rfl,by rw [HJW.out];exact Below_drewN HBL.out j⟩
end Go.Proofs.YtkjnockljapnbaaGreatDoor
namespace Go.Proofs.YtkjnockljapnbaaGreatDoor
open Go Go.RowKit
theorem row_cell {w:World} {base:Nat} {e:TypeId} {sz:Nat} {v:Value} {n:Nat} {xs:List Value} (h:w.ownsRow base e sz v n xs) (hn:0 < n):∃ g cap,v=.slice (some ⟨g,0,none⟩) n cap∧base ≤ g∧g < w.heap.size∧n ≤ cap∧cap ≤ maxLen∧∀ k u,xs[k]?=some u → w.cell? ⟨g,k,none⟩=some u:=by
  rcases h.2 with ⟨_,h9⟩|⟨g,cap,cur,h3,h4,h5,h6,h7,h8,h9⟩
  · omega
  · have hb:Blk w g cur e:=h5
    refine ⟨g,cap,h3,h4,hb.lt,h6,h7,fun k u hk=>?_⟩
    rw [hb.cell]
    rw [← h9] at hk
    have hkl:=(List.getElem?_eq_some_iff.1 hk).1
    rw [List.getElem?_take,if_pos (by simp at hkl;omega),Array.getElem?_toList] at hk
    exact hk
theorem tok_src {w:World} {base g:Nat} {T:Bs} {l:List (RTok × St)} {xs:List Value} {G:Nat → Prop} (hrows:RowsAt (RowOk w base G T) l xs) (hcell:∀ k u,xs[k]?=some u → w.cell? ⟨g,k,none⟩=some u) {i:Nat} {ts:RTok × St} (hi:l[i]?=some ts) (hlen:(ts.1.itok (T.take (T.length - ts.2.rest.length))).attrs.length ≤ 1000000000) :
    SrcTok w g (i * 8) (ts.1.itok (T.take (T.length - ts.2.rest.length))):=by
  obtain ⟨ys,⟨sa,sl,sc,i6,i7,rfl,hr,_⟩,hy⟩:=hrows.get (n:=8) (fun _ _ h=>h.len) hi
  have hc:∀ j u,j < 8 → (tokCells _ _ _ _ _ _ _ _)[j]?=some u → w.cell? ⟨g,i * 8 + j,none⟩=some u:=fun j u hj hu=>hcell _ _ ((hy j hj).trans hu)
  have hr0:w.ownsRow 0 61 3 (.slice sa sl sc) (ts.1.itok (T.take (T.length - ts.2.rest.length))).attrs.length (atCells (ts.1.itok (T.take (T.length - ts.2.rest.length))).attrs):=by
    refine ⟨hr.1,?_⟩
    rcases hr.2 with h9|⟨g9,cap,cur,e1,e2,e3⟩
    · exact Or.inl h9
    · exact Or.inr ⟨g9,cap,cur,e1,Nat.zero_le _,e3⟩
  exact ⟨⟨sa,sl,sc,i6,i7,hc 0 _ (by omega) rfl,hc 1 _ (by omega) rfl,hc 2 _ (by omega) rfl,hc 3 _ (by omega) rfl,hc 4 _ (by omega) rfl,hc 5 _ (by omega) rfl,hc 6 _ (by omega) rfl,hc 7 _ (by omega) rfl,hr0⟩,hlen⟩
theorem reads_c (w:World) (hE:EnvA w):Calls Tryz.prog 10 #[] w fun en w'=>en=.returned (.bool true)∧Below w.heap.size w w':=by
  have HT:=Lib.hid (tokens_c rdT (by decide) rdO rfl rfl none 0 0 [] w hE ⟨by omega,by omega,fun h=>by omega⟩)
  clear hE
  refine calls_fr (vs:=[]) 36 Tryz.func10 rfl rfl (Nat.le_of_ble_eq_true rfl) fun f=>?_
  simp only [argSlots]
  (repeat (first|(with_reducible first|refine zA fun K hK=>?_|refine zB ?_|refine zC ?_)|((with_reducible first|refine zD rfl fun K hK=>?_|refine zE fun K hK=>?_);go_simp)|(with_reducible first|((repeat ((fail_if_success refine hK _ _ ?_);clear hK K));refine hK _ _ ?_;clear hK K)|refine zT (by go_simp;first|done|omega) ?_|refine zF (by go_simp;first|done|omega) ?_|refine zG ?_|refine zR ?_|refine zK ?_|refine zL ?_|refine zN ?_|refine zS ?_)|simp only [Exit.then,Exit.inBlock,Exit.noGoto,↓reduceIte,Nat.reduceEqDiff]|simp only [undef,reduceCtorEq,↓reduceIte]))
  refine HT.out.mono ?_
  rintro e1 w1 ⟨l,e,tv,xs,rfl,htk,hb,hrow,hrows,_⟩
  obtain ⟨rfl,rfl⟩:=(htk (fun _ _=>false)).det (rd_toks (fun _ _=>false))
  obtain ⟨g,cap,rfl,hg1,hg2,hn,hcm,hcell⟩:=row_cell hrow (by decide)
  have s0:=tok_src (i:=0) hrows hcell rfl (by decide)
  have s1:=tok_src (i:=1) hrows hcell rfl (by decide)
  obtain ⟨⟨_,_,_,_,_,a0,_⟩,_⟩:=s0
  obtain ⟨⟨_,_,_,_,_,b0,b1,b2,_⟩,_⟩:=s1
  have k0:w1.cell? ⟨g,0,none⟩=some (.int .i64 1):=a0
  have k1:w1.cell? ⟨g,8,none⟩=some (.int .i64 2):=b0
  have k2:w1.cell? ⟨g,10,none⟩=some (.string ⟨#[97]⟩):=b2
  have HB:=Lib.hid hb
  clear a0 b0 b1 b2 htk hb hrow hrows hcell HT
  rw [show ((EK.code .eof:Nat):Int)=0 from rfl]
  go_simp
  (repeat (first|(with_reducible first|refine zA fun K hK=>?_|refine zB ?_|refine zC ?_)|((with_reducible first|refine zD rfl fun K hK=>?_|refine zE fun K hK=>?_);go_simp)|(with_reducible first|((repeat ((fail_if_success refine hK _ _ ?_);clear hK K));refine hK _ _ ?_;clear hK K)|refine zT (by go_simp;first|done|omega) ?_|refine zF (by go_simp;first|done|omega) ?_|refine zG ?_|refine zR ?_|refine zK ?_|refine zL ?_|refine zN ?_|refine zS ?_)|simp only [Exit.then,Exit.inBlock,Exit.noGoto,↓reduceIte,Nat.reduceEqDiff]|simp only [undef,reduceCtorEq,↓reduceIte]))
  (refine fr_out1 rfl (by decide) (by simp only [lk_cons,lk_nil,Nat.reduceEqDiff,↓reduceIte];rfl) ?_)
  exact ⟨rfl,HB.out⟩
end Go.Proofs.YtkjnockljapnbaaGreatDoor
namespace Go.Proofs.YtkjnockljapnbaaGreatDoor
open Go Go.RowKit
theorem toks_ats {fold:Bs → Bs → Bool} {o:Opt} (ha:o.auto=[]) {s:St} {l:List (RTok × St)} {e:EK} (h:Toks fold o s l e):s.next=none → ∀ ts ∈ l,∀ pre,(ts.1.itok pre).attrs.length ≤ s.rest.length:=by
  induction h with
  | stop _=>intro _ ts hts;cases hts
  | more h1 _ ih=>
    intro hn ts hts pre
    rename_i s1 t1 s1' l1 e1 h2
    have hs:step0 o s1=.ok (t1,s1'):=by rw [← stepL_nil (fold:=fold) ha hn];exact h1
    obtain ⟨_,q2,q3⟩:=step0_ok hs
    rcases List.mem_cons.1 hts with rfl|hts
    · cases t1 with
      | start nm ats=>exact step0_ats hs
      | _=>exact Nat.zero_le _
    · exact Nat.le_trans (ih (q3.trans hn) ts hts pre) q2.length_le
theorem PcOk.below {w w':World} {pcA:Option Addr} {pcN pcC:Nat} {pcs:List Int} (h:PcOk w pcA pcN pcC pcs) (hb:Below w.heap.size w w'):PcOk w' pcA pcN pcC pcs:=by
  refine ⟨h.n,h.l,fun hp=>?_⟩
  obtain ⟨pb,po,h1,h2,h3⟩:=h.at' hp
  exact ⟨pb,po,h1,Nat.lt_of_lt_of_le h2 hb.size,fun j hj=>by rw [hb.cell (p:=⟨pb,po + j,none⟩) h2];exact h3 j hj⟩
structure RunAt (T:Bs) (w:World) (tv:Value) (l:List (RTok × St)) (xs:List Value):Prop where
  row:∃ base,w.ownsRow base 33 8 tv l.length xs
  rows:∃ base,RowsAt (RowOk w base (fun _=>True) T) l xs
theorem RunAt.below {T:Bs} {w w':World} {tv:Value} {l:List (RTok × St)} {xs:List Value} (h:RunAt T w tv l xs) (hb:Below w.heap.size w w'):RunAt T w' tv l xs:=by
  obtain ⟨b1,h1⟩:=h.row
  obtain ⟨b2,h2⟩:=h.rows
  exact ⟨⟨b1,ownsRow_mod (S:=fun _=>False) h1 (mod_none hb _) (fun _ _=>id)⟩,⟨b2,h2.mono (fun a ys hr=>hr.mod (mod_none hb (fun _=>False)) (fun _ _ _=>⟨id,trivial⟩))⟩⟩
def plains (T:Bs) (l:List (RTok × St)):List ITok:=l.map fun ts=>ts.1.itok (T.take (T.length - ts.2.rest.length))
structure PlAt (w:World) (L:List ITok) (out:Value):Prop where
  ex:∃ base base' xs,w.ownsRow base 40 6 out L.length xs∧RowsAt (PtOk w base' (fun _=>True)) L xs
theorem PlAt.below {w w':World} {L:List ITok} {out:Value} (h:PlAt w L out) (hb:Below w.heap.size w w'):PlAt w' L out:=by
  obtain ⟨b,b',xs,h1,h2⟩:=h.ex
  exact ⟨b,b',xs,ownsRow_mod (S:=fun _=>False) h1 (mod_none hb _) (fun _ _=>id),h2.mono (fun a ys hr=>hr.mod (mod_none hb (fun _=>False)) (fun _ _ _=>⟨id,trivial⟩))⟩
theorem PlAt.get {w:World} {L:List ITok} {out:Value} (h:PlAt w L out) {i:Nat} {p:ITok} (hi:L[i]?=some p):∃ g cap,out=.slice (some ⟨g,0,none⟩) L.length cap∧L.length ≤ cap∧∃ sa sl sc b,w.ownsRow b 62 3 (.slice sa sl sc) p.attrs.length (atCells p.attrs) ∧
    w.cell? ⟨g,i * 6,none⟩=some (.int .i64 p.kind)∧w.cell? ⟨g,i * 6 + 1,none⟩=some (strV p.space)∧w.cell? ⟨g,i * 6 + 2,none⟩=some (strV p.loc)∧w.cell? ⟨g,i * 6 + 3,none⟩=some (.slice sa sl sc)∧w.cell? ⟨g,i * 6 + 4,none⟩=some (strV p.text)∧w.cell? ⟨g,i * 6 + 5,none⟩=some (.int .i64 p.at'):=by
  obtain ⟨b,b',xs,h1,h2⟩:=h.ex
  have hl:0 < L.length:=Nat.lt_of_le_of_lt (Nat.zero_le _) (List.getElem?_eq_some_iff.1 hi).1
  obtain ⟨g,cap,rfl,_,_,hn,_,hcell⟩:=row_cell h1 hl
  obtain ⟨ys,⟨sa,sl,sc,rfl,hr,_⟩,hy⟩:=h2.get (n:=6) (fun _ _ h=>by obtain ⟨_,_,_,rfl,_⟩:=h;rfl) hi
  have hc:∀ j u,j < 6 → (plCells p (.slice sa sl sc))[j]?=some u → w.cell? ⟨g,i * 6 + j,none⟩=some u:=fun j u hj hu=>hcell _ _ ((hy j hj).trans hu)
  exact ⟨g,cap,rfl,hn,sa,sl,sc,b',hr,hc 0 _ (by omega) rfl,hc 1 _ (by omega) rfl,hc 2 _ (by omega) rfl,hc 3 _ (by omega) rfl,hc 4 _ (by omega) rfl,hc 5 _ (by omega) rfl⟩
theorem SrcTok.below {w w':World} {g o:Nat} {p:ITok} (h:SrcTok w g o p) (hb:Below w.heap.size w w') (hg:g < w.heap.size):SrcTok w' g o p:=by
  obtain ⟨⟨sa,sl,sc,i6,i7,c0,c1,c2,c3,c4,c5,c6,c7,hr⟩,hl⟩:=h
  have hc:∀ j,w'.cell? ⟨g,j,none⟩=w.cell? ⟨g,j,none⟩:=fun j=>hb.cell (p:=⟨g,j,none⟩) hg
  exact ⟨⟨sa,sl,sc,i6,i7,by rw [hc];exact c0,by rw [hc];exact c1,by rw [hc];exact c2,by rw [hc];exact c3,by rw [hc];exact c4,by rw [hc];exact c5,by rw [hc];exact c6,by rw [hc];exact c7,ownsRow_mod (S:=fun _=>False) hr (mod_none hb _) (fun _ _=>id)⟩,hl⟩
end Go.Proofs.YtkjnockljapnbaaGreatDoor
