/- Part of the proof that laws.FnRawTokens returns true for every argument. No conditions. -/
import Derived.Test.YtdjdjbpnbjdaaaaGreatDoorP30
import Derived.Test.YtdjdjbpnbjdaaaaGreatDoorP38
import Derived.Test.YtdjdjbpnbjdaaaaGreatDoorP34
import Derived.Test.YtdjdjbpnbjdaaaaGreatDoorP17
import Derived.Test.YtdjdjbpnbjdaaaaGreatDoorCards
import Derived.Test.YtdjdjbpnbjdaaaaGreatDoorTie
import Derived.WalkKit
import Derived.ProofKit
import Derived.OpenShut
import Derived.Lay
import Derived.LaidSub
import Derived.LaidHandle
import Derived.LaidLaws
import Derived.PinnedBridge
import Derived.Lib.LaidU8T
import Derived.Stop.LaidErr
import Derived.SevenTiedAt
import Derived.Test.YtdjdjbpnbjdaaaaGreatDoorP26
import Derived.Stop.LaidTwo
import Derived.Lib.LaidTab
import Derived.Lib.LaidCase
import Derived.ChangeSame
import Derived.Carry
set_option linter.all false
set_option maxHeartbeats 8000000
set_option maxRecDepth 100000
namespace Go.Proofs.YtdjdjbpnbjdaaaaGreatDoor
open Go Go.RowKit Go.Proofs.Tryz
theorem WT {fold:Bs→Bs→Bool} {o:cU} {s:St} {l l':List (aP×St)} {e e':EK} (h:o8 fold o s l e) (h':o8 fold o s l' e'):l=l'∧e=e':=by
 induction h generalizing l' e' with
 | stop h1=>
  cases h' with
  | stop h2=>rw [h1] at h2;cases h2;exact ⟨rfl,rfl⟩
  | more h2 _=>rw [h1] at h2;cases h2
 | more h1 _ ih=>
  cases h' with
  | stop h2=>rw [h1] at h2;cases h2
  | more h2 h3=>
   rw [h1] at h2
   cases h2
   obtain ⟨rfl,rfl⟩:=ih h3
   exact ⟨rfl,rfl⟩
theorem yL.like {w:World} {g o b:Nat} {p q:cH} (h:yL w g o b p) (h1:p.kind=q.kind) (h2:p.space=q.space) (h3:p.loc=q.loc) (h4:p.attrs=q.attrs) (h5:p.text=q.text) (h6:p.at'=q.at'):yL w g o b q:=by
 obtain ⟨sa,sl,sc,c0,c1,c2,c3,c4,c5,c6,c7⟩:=h.ex
 rw [h1] at c0;rw [h2] at c1;rw [h3] at c2;rw [h5] at c4;rw [h6] at c5;rw [h4] at c6
 exact ⟨sa,sl,sc,c0,c1,c2,c3,c4,c5,c6,c7⟩
theorem BO {T:Bs} {l:List (aP×St)} {i:Nat} {q:cH} (h:((jT T l).map tD)[i]?=some q):∃ p,(lX T l)[i]?=some p∧p.kind=q.kind∧p.space=q.space∧p.loc=q.loc∧p.attrs=q.attrs∧p.text=q.text∧p.at'=q.at':=by
 unfold jT at h
 unfold lX
 rw [List.getElem?_map,List.getElem?_map] at h
 rw [List.getElem?_map]
 cases hl:l[i]? with
 | none=>rw [hl] at h;cases h
 | some ts=>
  rw [hl] at h
  simp only [Option.map_some,oY] at h
  refine ⟨_,rfl,?_⟩
  have qG:(T.take (T.length-ts.2.rest.length)).length=T.length-ts.2.rest.length:=by rw [List.length_take];omega
  rw [←h]
  obtain ⟨tk,s2⟩:=ts
  unfold tD
  cases tk<;>exact ⟨rfl,rfl,rfl,rfl,rfl,by first|exact congrArg _ qG|exact congrArg _ qG.symm|(simp only [aP.itok,qG];done)|(simp only [aP.itok,qG];rfl)⟩
theorem EX (T:Bs) (l:List (aP×St)):((jT T l).map tD).length=l.length:=by simp [jT]
theorem Ei {w:World} {T:Bs} {l:List (aP×St)} {out:Value} (h:a3H w (lX T l) out):∃ A C,out=.slice A ((jT T l).map tD).length C∧(0<((jT T l).map tD).length→∃ g ro,A=some ⟨g,ro,none⟩∧g<w.heap.size∧∀ i p,((jT T l).map tD)[i]?=some p→yL w g (ro+i*6) w.heap.size p):=by
 obtain ⟨b,b',xs,h1,h2⟩:=h.ex
 have vC:(lX T l).length=l.length:=RM T l
 rw [EX]
 rcases h1.2 with ⟨h9,h8⟩|⟨g,cap,cur,h9,_⟩
 ·refine ⟨none,0,by rw [h9];congr 1;omega,fun hp=>by omega⟩
 ·refine ⟨_,cap,by rw [h9,vC],fun hp=>?_⟩
  obtain ⟨g',cap',he,_,FA,_,_,gR⟩:=lT h1 (by omega)
  rw [h9] at he
  simp only [Value.slice.injEq,oY,Addr.mk.injEq] at he
  obtain ⟨⟨rfl,_⟩,_⟩:=he
  refine ⟨_,0,rfl,FA,fun i q hq=>?_⟩
  obtain ⟨p,mG,k1,k2,k3,k4,k5,k6⟩:=BO hq
  rw [Nat.zero_add]
  exact (CG h2 gR mG).like k1 k2 k3 k4 k5 k6
theorem TP {w:World} {base:Nat} {L:List cH} {out:Value} {xs:List Value} {G:Nat→Prop} {base2:Nat} (h1:w.ownsRow base 61 6 out L.length xs) (h2:cS (lB w base2 G) L xs):∃ A C,out=.slice A L.length C∧(0<L.length→∃ g ro,A=some ⟨g,ro,none⟩∧g<w.heap.size∧∀ i p,L[i]?=some p→yL w g (ro+i*6) w.heap.size p):=by
 rcases h1.2 with ⟨h9,h8⟩|⟨g,cap,cur,h9,_⟩
 ·exact ⟨none,0,by rw [h9,h8],fun hp=>by omega⟩
 ·refine ⟨_,cap,h9,fun hp=>?_⟩
  obtain ⟨g',cap',he,_,FA,_,_,gR⟩:=lT h1 hp
  rw [h9] at he
  simp only [Value.slice.injEq,oY,Addr.mk.injEq] at he
  obtain ⟨⟨rfl,_⟩,_⟩:=he
  refine ⟨_,0,rfl,FA,fun i q hq=>?_⟩
  rw [Nat.zero_add]
  exact CG h2 gR hq
theorem lB.below {w w':World} {base:Nat} {p:cH} {ys:List Value} (h:lB w base (fun _=>True) p ys) (hb:Below w.heap.size w w'):lB w' base (fun _=>True) p ys:=
 lB.mod (S:=fun _=>False) h (aH hb _) (fun _ _ _=>⟨id,trivial⟩)
theorem Xg (T:Bs) (pcA:Option Addr) (pcN pcC:Nat) (w:World) (h:65536<T.length∨2147483647<pcN):Calls prog 3 #[aB T,.slice pcA pcN pcC] w fun e w'=>e=.returned (.bool true)∧Below w.heap.size w w':=by
 by_cases h2:(2147483647:Int)<(T.length:Int)
 ·refine eJ 58 func3 [_,_] fun f=>?_
  simp only [aE]
  (refine vg ?_;intro K hK)
  (refine cW ?_)
  exact ⟨rfl,Below.refl _ w⟩
 by_cases h3:(2147483647:Int)<(pcN:Int)
 ·refine eJ 58 func3 [_,_] fun f=>?_
  simp only [aE]
  (refine vg ?_;intro K hK)
  (refine cW ?_)
  exact ⟨rfl,Below.refl _ w⟩
 have h4:(65536:Int)<(T.length:Int):=by omega
 refine eJ 58 func3 [_,_] fun f=>?_
 simp only [aE]
 (refine vg ?_;intro K hK)
 (refine cW ?_)
 exact ⟨rfl,Below.refl _ w⟩
theorem Ml {a n:Nat} (h:a≤n*2147483647) (h2:n≤65536):a≤4611686018427387904:=
 Nat.le_trans h (Nat.le_trans (Nat.mul_le_mul_right _ h2) (Nat.le_of_ble_eq_true rfl))
theorem a3I (T:Bs) (hT:T.length≤65536) (pcA:Option Addr) (pcN pcC:Nat) (pcs:List Int) (GQ:pcN≤2147483647) (w:World) (hE:NE w) (hp:MT w pcA pcN pcC pcs) :
  Calls prog 3 #[aB T,.slice pcA pcN pcC] w fun e w'=>e=.returned (.bool true)∧Below w.heap.size w w':=by
 have h2:¬ (2147483647:Int)<(T.length:Int):=by omega
 have h3:¬ (2147483647:Int)<(pcN:Int):=by omega
 have h4:¬ (65536:Int)<(T.length:Int):=by omega
 have oB:pT ([]:aO):=fun p hp=>by cases hp
 have Qd:=Xf T (by omega) ⟨true,[],[]⟩ oB (.slice none 0 0) w ⟨w.heap.size,T,true,.slice none 0 0,[]⟩ rfl ⟨none,0,0,rfl⟩ ⟨Nat.zero_le _,Or.inl ⟨rfl,rfl⟩⟩ (RD _ _ rfl (G3 _ _ rfl)) (G3 _ _ rfl)
 have Qe:=Lh Qd
 obtain ⟨o,ho⟩:∃ o:cU,o=⟨true,true,none,[],[],false⟩:=⟨_,rfl⟩
 have ht:=fun (w':World) (hb:Below w.heap.size w w')=>NH T (by omega) o (by rw [ho]) (by rw [ho]) none 0 pcA pcN pcC pcs w' (hE.below hb) (by rw [ho];exact AuL.nil _ _ _) (hp.below hb)
 have e1:Sy o.raw (!o.strict) (.slice none o.auto.length 0) o.space=.agg #[.bool true,.bool false,.slice none 0 0,.slice none 0 0,.string ⟨#[]⟩]:=by rw [ho];simp
 have e2:o.fails=false:=by rw [ho]
 simp only [e1,e2] at ht
 have HT:=Lh ht
 have iH:=Lh (fun (w':World) (hb:Below w.heap.size w w')=>Ku w' (hE.below hb))
 have HO:=Lh ho
 have wM:=Lh hT
 have P6:=Lh (OI (o:=⟨true,[],[]⟩) oB T (by omega))
 clear Qd ht e1 e2 ho hE hp hT oB
 refine eJ 58 func3 [_,_] fun f=>?_
 simp only [aE]
 (refine vg ?_;(repeat with_reducible intro K hK))
 refine Qe.out.mono ?_
 rintro e1 w1 ⟨out,xs,rfl,bP,Ej,RN⟩
 have fV:=Lh bP
 obtain ⟨oA,oC,rfl,a3J⟩:=TP (by rw [List.length_map];exact Ej) RN
 have Xh:=Lh RN
 have a3K:=Lh Ej
 obtain ⟨vn,hvn⟩:∃ vn,vn=Ee (gI ⟨true,[],[]⟩ T).2:=⟨_,rfl⟩
 rw [←hvn]
 have iZ:(vn=2)∨∃ l0 k,o8 cG o (St.init T) l0 k∧(gI ⟨true,[],[]⟩ T).1=jT T l0∧((vn=0∧k=.eof)∨(vn=1∧k=.syn)):=by
  by_cases hv:(gI ⟨true,[],[]⟩ T).2=some .opn
  ·left;rw [hvn,hv];rfl
  ·right
   obtain ⟨l0,h8,h9⟩:=Mh cG o (by rw [HO.out]) (by rw [HO.out]) (by rw [HO.out]) (by rw [HO.out]) [] T hv
   refine ⟨l0,_,h8,h9,?_⟩
   cases h7:(gI ⟨true,[],[]⟩ T).2 with
   | none=>left;exact ⟨by rw [hvn,h7];rfl,rfl⟩
   | some kk=>
    right
    cases kk with
    | bad=>exact ⟨by rw [hvn,h7];rfl,rfl⟩
    | opn=>exact absurd h7 hv
 have Qf:=Lh iZ
 clear bP Ej RN hvn iZ a3J Qe
 rcases Qf.out with rfl|⟨l0,k,Qg,TQ,hk⟩
 ·((repeat revert K);refine vS ?_;intro K hK)
  (refine cW ?_)
  exact ⟨rfl,fV.out⟩
 have Qh:=Lh Qg
 have TR:=Lh TQ
 clear Qg TQ Qf
 rcases hk with ⟨rfl,rfl⟩|⟨rfl,rfl⟩
 all_goals
  ((repeat revert K);refine vS ?_;(repeat with_reducible intro K hK))
  refine (HT.out w1 fV.out).mono ?_
  rintro e2 w2 ⟨l,e,tv,ys,rfl,Ft,dJ,D3,Ek,vC⟩
  obtain ⟨rfl,rfl⟩:=WT Ft Qh.out
  have JS:∀ p∈lX T l,p.attrs.length≤1000000000:=fun p hp=>by
   unfold lX at hp
   obtain ⟨ts,h1,rfl⟩:=List.mem_map.1 hp
   have h9:=Eh (by rw [HO.out]) Qh.out rfl ts h1 (T.take (T.length-ts.2.rest.length))
   have h8:=wM.out
   have h7:(St.init T).rest.length=T.length:=rfl
   omega
  have Ax:=Lh JS
  have KT:l.length≤1000000000:=by have:=wM.out;omega
  have HL9:=Lh KT
  have Yg:=Lh (WS T w2 tv l ys ⟨⟨_,D3⟩,⟨_,Ek⟩⟩ KT JS)
  have nK:=Lh (fV.out.trans (dJ.mono fV.out.size))
  have a3L:=dJ
  have a3M:=Lh a3L
  obtain ⟨sa2,sl2,sc2,rfl⟩:=qB D3
  clear Ft dJ a3L D3 Ek vC JS KT
  try simp only [EK.code]
  ((repeat revert K);refine vS ?_;(repeat with_reducible intro K hK))
  refine Yg.out.mono ?_
  rintro e3 w3 ⟨out3,rfl,l9,FF⟩
  have lJ:=Lh (nK.out.trans (l9.mono nK.out.size))
  obtain ⟨aA,aC,rfl,Om⟩:=Ei FF
  have Xi:Below w1.heap.size w1 w3:=a3M.out.trans (l9.mono a3M.out.size)
  have Qi:=aG (S:=fun _=>False) a3K.out (aH Xi _) (fun _ _=>id)
  have El:=Xh.out.mono (fun _ _ hh=>lB.below hh Xi)
  obtain ⟨bA,bC,QJ,hsb⟩:=TP (w:=w3) (by rw [List.length_map];exact Qi) El
  have MD:=P6.out
  rw [TR.out] at QJ hsb MD
  rw [TR.out]
  simp only [Value.slice.injEq] at QJ
  obtain ⟨rfl,_,rfl⟩:=QJ
  have iE:∀ q∈(jT T l).map tD,q.attrs.length≤1000000000:=fun q hq=>by
   obtain ⟨i,hi,hqi⟩:=List.getElem_of_mem hq
   obtain ⟨p,mG,_,_,_,k4,_,_⟩:=BO (q:=q) (i:=i) (by rw [List.getElem?_eq_getElem hi,hqi])
   rw [←k4]
   exact Ax.out p (List.mem_of_getElem? mG)
  have HSM:=Lh (Vn w3 ((jT T l).map tD) (by rw [EX];exact HL9.out) (Ml MD wM.out) iE aA oA aC oC Om hsb true)
  rw [List.length_map] at HSM
  clear FF l9 Xi Qi El Om hsb MD iE Yg
  ((repeat revert K);refine vS ?_;(repeat with_reducible intro K hK))
  refine HSM.out.mono ?_
  rintro e4 w4 ⟨rfl,pC⟩
  have C7:=Lh (lJ.out.trans (pC.mono lJ.out.size))
  clear pC HSM
  ((repeat revert K);refine vS ?_;(repeat with_reducible intro K hK))
  refine (iH.out w4 C7.out).mono ?_
  rintro e5 w5 ⟨rfl,jM⟩
  have vQ:=Lh (C7.out.trans (jM.mono C7.out.size))
  clear jM
  ((repeat revert K);refine vS ?_;(repeat with_reducible intro K hK))
  (refine cW ?_)
  exact ⟨rfl,vQ.out⟩
end Go.Proofs.YtdjdjbpnbjdaaaaGreatDoor
namespace Go.Proofs.YtdjdjbpnbjdaaaaGreatDoor
open Go Go.RowKit Go.ChangeShapes Go.WideShapes Go.ChangeAt Go.Shelf Go.Proofs.Tryz
abbrev iG:List (String×DataW Unit):=Rows.fnRawTokensRow.laid
def TT:Ren:=⟨fun x=>x,fun n=>if n=5 then 5 else if n=119 then 250 else if n=138 then 252 else 253,fun n=>if n=3 then 6 else 7⟩
theorem Mm:U8Types prog TT:=⟨by kernel_rfl,by kernel_rfl,by kernel_rfl,by kernel_rfl⟩
theorem Mn:U8Extra prog TT:=⟨by kernel_rfl,by kernel_rfl,by kernel_rfl,by kernel_rfl,by kernel_rfl,by kernel_rfl,by kernel_rfl⟩
theorem Em (u:TypeId) (h:prog.typeName? 3 u=some "*errors.errorString"):u=192:=
 typeName_ptr_named (nm := "errors.errorString") (by rw [show "*" ++ "errors.errorString" = "*errors.errorString" by decide];kernel_rfl) (by kernel_rfl) (by decide) u (by rw [show "*" ++ "errors.errorString" = "*errors.errorString" by decide];exact h)
theorem uY {w:World} {n:String} {text:List UInt8} {g:Nat} (h:laidMet prog [(n,.iface "*errors.errorString" (.ptr (.agg [.lit (.string text)])))] w) (hg:prog.globalNamed n=some g) (ht:(prog.globals[g]?).map (·.type)=some 49) :
  (∃ a:Addr,w.cell? ⟨g,0,none⟩=some (pD a)∧a.block<w.heap.size)∧g<w.heap.size:=by
 obtain ⟨a,s,hv,hc,_,_⟩:=laid_sentinel h hg ht underlying49 Em underlying192 underlying194 rfl rfl underlying9 (by kernel_rfl) (by kernel_rfl)
 have h1:w.cell? ⟨g,0,none⟩=some (pD a):=by simpa using World.var?_cell hg hv 0
 exact ⟨⟨a,h1,World.block_lt_of_cell? w a hc⟩,World.block_lt_of_cell? w _ h1⟩
theorem Mo:((iG.filter fun x=>x.2.handleName?.isNone).filter fun x=>x.1 == "io.EOF")=[("io.EOF", Rows.laid_io_EOF)]:=by kernel_rfl
theorem Mp:((iG.filter fun x=>x.2.handleName?.isNone).filter fun x=>x.1 == "strconv.ErrSyntax")=[("strconv.ErrSyntax", Rows.laid_strconv_ErrSyntax)]:=by kernel_rfl
theorem Mq:((iG.filter fun x=>x.2.handleName?.isNone).filter fun x=>x.1 == "strconv.ErrRange")=[("strconv.ErrRange", Rows.laid_strconv_ErrRange)]:=by kernel_rfl
theorem Mr:((iG.filter fun x=>x.2.handleName?.isNone).filter fun x=>x.1 == "unicode/utf8.first")=[("unicode/utf8.first", Rows.laid_unicode_utf8_first)]:=by kernel_rfl
theorem Ms:((iG.filter fun x=>x.2.handleName?.isNone).filter fun x=>x.1 == "unicode/utf8.acceptRanges")=[("unicode/utf8.acceptRanges", Rows.laid_unicode_utf8_acceptRanges)]:=by kernel_rfl
theorem Xj:(Rows.laid_unicode_utf8_acceptRanges:DataW Unit)=Lib.acceptData:=by kernel_rfl
theorem Xk:Rows.laid_unicode_utf8_first=Lib.firstData:=Pinned.utf8First_eq
theorem OJ {w:World} (h:laidMetH prog iG w):Env w:=by
 have h':=(laidMetH_iff.1 h).1
 have e1:=h'.filter fun x=>x.1 == "io.EOF"
 have e2:=h'.filter fun x=>x.1 == "strconv.ErrSyntax"
 have e3:=h'.filter fun x=>x.1 == "strconv.ErrRange"
 have e4:=h'.filter fun x=>x.1 == "unicode/utf8.first"
 have e5:=h'.filter fun x=>x.1 == "unicode/utf8.acceptRanges"
 rw [Mo] at e1
 rw [Mp] at e2
 rw [Mq] at e3
 rw [Mr,Xk] at e4
 rw [Ms,Xj] at e5
 obtain ⟨⟨a1,b1,c1⟩,d1⟩:=uY (g:=0) e1 (by kernel_rfl) (by kernel_rfl)
 obtain ⟨⟨a2,b2,c2⟩,d2⟩:=uY (g:=8) e2 (by kernel_rfl) (by kernel_rfl)
 obtain ⟨⟨a3,b3,c3⟩,d3⟩:=uY (g:=9) e3 (by kernel_rfl) (by kernel_rfl)
 have hu:Lib.Utf8Tabs (TT.g 3) (TT.g 4) w:=utf8Tabs_of_readsT Mm Mn (Lib.laidMet.reads e4 (.head _)) (Lib.laidMet.reads e5 (.head _))
 exact ⟨⟨a1,b1,c1⟩,d1,hu,⟨⟨a2,b2⟩,⟨a3,b3⟩⟩,d2,d3⟩
theorem KK {P:Program} {w0:World} {laid:List (String×DataW Unit)} (hf:w0.layFits P laid []=true) (hi:w0.layIfaces P laid (w0.layVars P laid)=true):laidMet P laid (w0.layVars P laid):=by
 have e1:(laid.filter fun x=>(laid.map (·.1)).contains x.1)=laid:=List.filter_eq_self.2 fun x hx=>List.contains_iff_mem.2 (List.mem_map.2 ⟨x,hx,rfl⟩)
 have e2:(laid.filter fun x=>!(laid.map (·.1)).contains x.1)=[]:=List.filter_eq_nil_iff.2 fun x hx=>by rw [List.contains_iff_mem.2 (List.mem_map.2 ⟨x,hx,rfl⟩)];simp
 exact laidMet_layVars (w0:=w0) (laid.map (·.1)) [] (by rw [e1]) (by rw [e1];exact hf) (by rw [e1];exact hi) (by rw [e2];exact LaidIn.none)
abbrev IF:List (String×DataW Unit):=iG.filter fun x=>x.2.handleName?.isNone
noncomputable def a5H:Nat:=((prog.cutTypes.find? (·.1 == "internal/reflectlite.rtype")).map (·.2)).getD 0
noncomputable def a5I:Nat:=((List.range prog.types.size).find? fun t=>prog.rowNamed t [101,114,114,111,114]).getD 0
noncomputable def IG (os:Os):World:=
 { World.holding prog os ⟨#[],#[],[]⟩ with heap:=(World.holding prog os ⟨#[],#[],[]⟩).heap.modify 1 fun
   | .cells _ t frozen=>.cells #[.iface a5H (.agg #[typeHandle prog a5I])] t frozen
   | o=>o }
noncomputable def AJ (os:Os):World:=(IG os).layVars prog IF
theorem En (os:Os) (args:Array Value):laidMetH prog iG ((AJ os).forCall (fun _ _=>0) ⟨#[],args,[]⟩).memory:=by
 refine laidMetH_of_parts ((KK (w0:=IG os) (laid:=IF) (by kernel_rfl) (by kernel_rfl)).of_heap (by simp [AJ,World.memory,World.forCall,Input.heap])) (by kernel_rfl)
theorem own:ownKnob prog.godebug=none:=by kernel_rfl
theorem Mt:((iG.filter fun x=>x.2.handleName?.isNone).filter fun x=>x.1 == "unicode.asciiFold")=[("unicode.asciiFold", Rows.laid_unicode_asciiFold)]:=by kernel_rfl
theorem Xl:(Rows.laid_unicode_asciiFold:DataW Unit)=Lib.tabData .u16 Ye:=by kernel_rfl
theorem Mu:((iG.filter fun x=>x.2.handleName?.isNone).filter fun x=>x.1 == "strconv.ErrSyntax" || x.1 == "io.EOF")=[("strconv.ErrSyntax", Rows.laid_strconv_ErrSyntax),("io.EOF", Rows.laid_io_EOF)]:=by kernel_rfl
theorem Mv:(iG.filter fun x=>x.2.handleName?.isSome)=[("errors.errorType", Rows.laid_errors_errorType)]:=by kernel_rfl
theorem RO:((List.range prog.types.size).all fun ty=>!(prog.rowNamed ty [101,114,114,111,114])||ty==49)=true:=by kernel_rfl
theorem Xm:(prog.cutTypes.find? (·.1 == "internal/reflectlite.rtype")).map (·.2)=some 198:=by kernel_rfl
theorem Eo:(Rows.laid_errors_errorType:DataW Unit).handleName?=some [101,114,114,111,114]:=by kernel_rfl
theorem Mw:typeHandle prog 49=.pointer (some ⟨16,49,none⟩):=by kernel_rfl
theorem Mx {w:World} (h:laidMetH prog iG w):NE w:=by
 have hE:=OJ h
 obtain ⟨h',hh⟩:=laidMetH_iff.1 h
 have e1:=h'.filter fun x=>x.1 == "unicode.asciiFold"
 rw [Mt,Xl] at e1
 have e2:=h'.filter fun x=>x.1 == "strconv.ErrSyntax" || x.1 == "io.EOF"
 rw [Mu] at e2
 have ht:=Lib.tabIs_of_head (g:=3) (t:=222) (e:=221) (n:=128) (by kernel_rfl) (by kernel_rfl) underlying222 underlying221 (by kernel_rfl) (by kernel_rfl) e1
 have bF:Ye.length=128:=by simp [Ye]
 have gR:=fun i (hi:i<Ye.length)=>ht.cell (g:=3) (by kernel_rfl) i hi
 have bB:3<w.heap.size:=World.block_lt_of_cell? w _ (gR 0 (by rw [bF];omega))
 obtain ⟨a0,a1,s0,s1,c0,c1,t0,t1,v0,v1,_,_,_,_,_,_,_,b0,b1⟩:=laid_sentinels2 (g0:=8) (g1:=0) e2 (by kernel_rfl) (by kernel_rfl) (by kernel_rfl) (by kernel_rfl) underlying49 Em underlying192 underlying194 rfl rfl underlying9 (by kernel_rfl) (by kernel_rfl)
 have hv:w.cell? ⟨0,0,none⟩=some (pD a1):=by simpa using World.var?_cell (g:=0) (by kernel_rfl) v1 0
 have het:w.cell? ⟨1,0,none⟩=some (KR 49):=by
  have hx:=hh ("errors.errorType", Rows.laid_errors_errorType) (by rw [Mv];simp)
  have KL:∃ name u ty,(Rows.laid_errors_errorType:DataW Unit).handleName?=some name∧(prog.cutTypes.find? (·.1 == "internal/reflectlite.rtype")).map (·.2)=some u∧ty<prog.types.size∧prog.rowNamed ty name=true ∧
   w.var? prog "errors.errorType" = some #[.iface u (.agg #[typeHandle prog ty])]:=hx
  obtain ⟨name,u,ty,h1,h2,h3,h4,h5⟩:=KL
  rw [Eo] at h1
  rw [Xm] at h2
  simp only [oY] at h1 h2
  subst h1 h2
  have h6:=List.all_eq_true.1 RO ty (List.mem_range.2 h3)
  rw [h4] at h6
  have h7:ty=49:=by simpa using h6
  subst h7
  rw [Mw] at h5
  simpa using World.var?_cell (g:=1) (by kernel_rfl) h5 0
 refine ⟨hE,⟨fun i hi=>gR i (by rw [bF];exact hi),bB⟩,bB,?_,?_,fun a ha=>?_⟩
 ·exact het
 ·exact World.block_lt_of_cell? w _ het
 ·rw [hv] at ha
  simp only [oY,Value.iface.injEq,Value.pointer.injEq,true_and] at ha
  subst ha
  exact ⟨c1,t1,b1⟩
theorem My (T:Bs) (pcA:Option Addr) (pcN pcC:Nat) (pcs:List Int) (w:World) (hE:NE w) (hp:MT w pcA pcN pcC pcs):Calls prog 3 #[aB T,.slice pcA pcN pcC] w fun e w'=>e=.returned (.bool true)∧Below w.heap.size w w':=by
 by_cases h:T.length≤65536∧pcN≤2147483647
 ·exact a3I T h.1 pcA pcN pcC pcs h.2 w hE hp
 ·exact Xg T pcA pcN pcC w (by omega)
theorem WU (os:Os) (started:os.Started) (H:Type) (enc:TypeId×Value→H) :
  ReturnsInHanded {} Tryz.checked os 3 .any (fun w args=>(Rows.fnRawTokensSpec.pre enc prog Tryz.f3 [] false w args∧laidMetH prog iG w)∧sizedMet enc prog Tryz.f3 (OpenSpec.ofChange Rows.fnRawTokensSpec) false w args)
   (Rows.fnRawTokensSpec.post enc prog Tryz.f3 false true false false):=by
 refine returnsInHanded_of_change_and (C:=Tryz.checked) (X:=fun w _=>laidMetH prog iG w) (fun _ _ _ hh h=>h.of_heap hh) own started (by kernel_rfl) func3
  (ChangeSpec.witness_shaped (enc:=enc) (C:=Tryz.checked) (os:=os) (X:=fun w _=>laidMetH prog iG w) false (AJ os) #[.string ⟨#[]⟩,.slice none 0 0] 8 (World.layVars_os _ _ _)
   (World.shaped_of_ZipB (by kernel_rfl) (by kernel_rfl)) (by kernel_rfl) (by kernel_rfl) (by kernel_rfl)
   (En os _)) ?_
 intro W base args ds gs before a3N hW _ _ hL _
 have Xn:∀ (j:Nat) t v,Tryz.f3.params[j]?=some t→args[j]?=some v→Value.okWide prog W .any base t v:=a3N
 have hW':=hW
 obtain ⟨p,q,hA0,hV,rfl,_,_⟩:=hW
 have hA:DataW.TrodAll enc prog W 0 (fun _=>true) true Tryz.f3.params.toList args.toList ds p:=hA0
 rw [Tryz.params3] at hA Xn
 obtain ⟨v0,v1,d0,d1,p0,p1,rfl,rfl,rfl,h0,h1⟩:=trodAll_two hA
 obtain ⟨rfl,rfl⟩:=trodVars_none hV
 obtain ⟨x0,rfl,rfl,rfl,hx0⟩:=Go.ChangeMaps.open_string underlying9 (Xn 0 9 v0 rfl rfl) h0
 obtain ⟨pa,pl,pc,rfl⟩:=Go.WideShapes.okWide_slice underlying22 (Xn 1 22 _ rfl rfl)
 have h1k:=h1
 have Et:∃ pcs,MT W pa pl pc pcs:=by
  obtain ⟨fuel,hf⟩:=h1
  rcases Go.ChangeShapes.open_ints underlying22 underlying3 (by kernel_rfl) hf with ⟨vO,_⟩|⟨a,len,cap,zs,vO,_,iK,Zk,BQ,_,gR,_⟩
  ·simp [Value.cells] at vO
   obtain ⟨rfl,rfl,rfl⟩:=vO
   exact ⟨[],by omega,by omega,fun h=>by omega⟩
  ·simp [Value.cells] at vO
   obtain ⟨rfl,rfl,rfl⟩:=vO
   have hzl:zs.length=pc:=by simpa using BQ
   refine ⟨zs,by unfold maxLen at Zk;omega,iK,fun hp=>?_⟩
   obtain ⟨b,off,rfl,hc⟩:=ints_at gR (by omega)
   exact ⟨b,off,rfl,World.block_lt_of_cell? W _ (hc 0 (by omega)),fun j hj=>hc j (by omega)⟩
 obtain ⟨pcs,Et⟩:=Et
 simp only [List.append_nil,List.nil_append] at hW'
 refine (My x0.data.toList pa pl pc pcs W (Mx hL) Et).mono fun e W' ⟨he,hb⟩=>?_
 subst he
 have bB:∀ y∈p1,y.block<W.heap.size:=fun y hy=>by simpa using hW'.lt y (by simp [hy])
 have a3O:=trodAll_mk2 (Go.ChangeMaps.shut_string underlying9 hx0) (Below.trod (P:=prog) (by kernel_rfl) (by kernel_rfl) (of_decide_eq_true (by kernel_rfl)) h1k hb bB)
 exact ⟨_,rfl,_,_,_,[],_,[],hW',trodAll_mk1 (shut_bool underlying4 _),a3O,rfl,hb.frame _,fun h=>by cases h⟩
end Go.Proofs.YtdjdjbpnbjdaaaaGreatDoor
