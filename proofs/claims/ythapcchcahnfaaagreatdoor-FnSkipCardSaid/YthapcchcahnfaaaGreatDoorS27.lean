/- Part of the proof that laws.FnSkip returns true for every argument. No conditions. -/
import Derived.Test.YthapcchcahnfaaaGreatDoorS02
import Derived.Test.YthapcchcahnfaaaGreatDoorS23
import Derived.Test.YthapcchcahnfaaaGreatDoorCards
import Derived.Test.YthapcchcahnfaaaGreatDoorTie
import Derived.WalkKit
import Derived.ProofKit
import Derived.OpenShut
import Derived.Lay
import Derived.LaidSub
import Derived.LaidHandle
import Derived.LaidLaws
import Derived.PinnedBridge
import Derived.Lib.LaidU8T
import Derived.Stop.LaidErr
import Derived.SevenTiedAt
set_option linter.all false
set_option maxHeartbeats 8000000
set_option maxRecDepth 100000
namespace Go.Proofs.YthapcchcahnfaaaGreatDoor
open Go Go.Proofs.Tryz
theorem xX (f:Bool):bY f≠.other:=by unfold bY;split<;>decide
theorem I3 (f:Bool):mM f≠.other:=by unfold mM;split<;>decide
abbrev sJ {α:Type} (r:Except EK α):Prop:=r≠.error .other
theorem aX {α:Type} (f:Bool):sJ (.error (bY f):Except EK α):=fun h=>xX f (by simpa using h)
theorem bE {α:Type}:sJ (.error .syn:Except EK α):=fun h=>by cases h
theorem bO {α:Type} (a:α):sJ (.ok a:Except EK α):=fun h=>by cases h
theorem AH (f a:Bool) (p r:Bs):sJ (eM f a p r):=by
 unfold eM;split
 ·(first|exact aX _|exact bE|exact bO _)
 ·split<;>(first|exact aX _|exact bE|exact bO _)
theorem R7 (f:Bool) (a:Option (Bs→Option Bs)) (r:Bs):sJ (iG f a r):=by
 unfold iG;split
 ·(first|exact aX _|exact bE|exact bO _)
 ·split
  ·split
   ·(first|exact aX _|exact bE|exact bO _)
   ·split
    ·split
     ·(first|exact aX _|exact bE|exact bO _)
     ·exact AH _ _ _ _
    ·exact AH _ _ _ _
  ·split
   ·(first|exact aX _|exact bE|exact bO _)
   ·split<;>(first|exact aX _|exact bE|exact bO _)
theorem xY (o:cV) (q:Option UInt8) (f:Bool):∀ (n:Nat) (rest:Bs),rest.length≤n→∀ (b0 b1:UInt8) (a:Bs),sJ (bF o q f rest b0 b1 a):=by
 intro n;induction n with
 | zero=>
  intro rest d b0 b1 a;have:rest=[]:=wC (by omega);subst this;unfold bF;split
  ·(first|exact aX _|exact bE|exact bO _)
  ·split<;>(first|exact aX _|exact bE|exact bO _)
 | succ n ih=>
  intro rest d b0 b1 a;cases rest with
  | nil=>
   unfold bF;split
   ·(first|exact aX _|exact bE|exact bO _)
   ·split<;>(first|exact aX _|exact bE|exact bO _)
  | cons b t=>
   have g:t.length≤n:=by simp at d;omega
   unfold bF;split
   ·split
    ·split<;>(first|exact aX _|exact bE|exact bO _)
    ·(first|exact aX _|exact bE|exact bO _)
   ·split
    ·split
     ·split<;>(first|exact aX _|exact bE|exact bO _)
     ·(first|exact aX _|exact bE|exact bO _)
    ·split
     ·split<;>(first|exact aX _|exact bE|exact bO _)
     ·split
      ·split
       ·rename_i e c;intro h;simp only [Except.error.injEq] at h;subst h;exact R7 _ _ _ c
       ·rename_i c;have:=gE c;exact ih _ (by omega) _ _ _
       ·rename_i c;have:=gE c;split
        ·(first|exact aX _|exact bE|exact bO _)
        ·exact ih _ (by omega) _ _ _
      ·exact ih _ g _ _ _
theorem DU (f:Bool) (r:Bs):sJ (eT f r):=by
 unfold eT;split
 ·(first|exact aX _|exact bE|exact bO _)
 ·split
  ·(first|exact aX _|exact bE|exact bO _)
  ·split<;>(first|exact aX _|exact bE|exact bO _)
theorem k8 {α β:Type} {r:Except EK α} {e:EK} (h:sJ r) (b:r=.error e):sJ (.error e:Except EK β):=by
 intro a;simp only [Except.error.injEq] at a;subst a;exact h b
theorem sD (f:Bool) (r:Bs):sJ (cL f r):=by
 unfold cL;split
 ·rename_i a;exact k8 (DU _ _) a
 ·split<;>(first|exact aX _|exact bE|exact bO _)
theorem DW (o:cV) (r:Bs):sJ (dY o r):=by
 unfold dY;split
 ·(first|exact aX _|exact bE|exact bO _)
 ·split
  ·exact xY _ _ _ _ _ (dF _) _ _ _
  ·split
   ·(first|exact aX _|exact bE|exact bO _)
   ·split<;>(first|exact aX _|exact bE|exact bO _)
theorem OE (o:cV) (r:Bs):sJ (gF o r):=by
 unfold gF;split
 ·rename_i a;exact k8 (sD _ _) a
 ·split
  ·(first|exact aX _|exact bE|exact bO _)
  ·split
   ·split
    ·rename_i a;exact k8 (DW _ _) a
    ·(first|exact aX _|exact bE|exact bO _)
   ·split<;>(first|exact aX _|exact bE|exact bO _)
theorem DX {o:cV} {r b:Bs} {a:cO} (h:gF o r=.ok (a,b)):b.length<r.length:=(nY h).2
theorem AI (o:cV):∀ (k:Nat) (rest:Bs) (acc:List cO),rest.length<k→sJ (dL o k rest acc)
 | 0,_,_,h=>by omega
 | k+1,rest,acc,h=>by
  unfold dL;split
  ·(first|exact aX _|exact bE|exact bO _)
  ·rename_i b i e;split
   ·split
    ·(first|exact aX _|exact bE|exact bO _)
    ·split<;>(first|exact aX _|exact bE|exact bO _)
   ·split
    ·(first|exact aX _|exact bE|exact bO _)
    ·split
     ·rename_i c;exact k8 (OE _ _) c
     ·rename_i a f c;have g:=DX c;have d:(aT rest).length≤rest.length:=(eO rest).length_le;rw [e] at d;exact AI o k f _ (by omega)
theorem K7 (o:cV) (r:Bs):sJ (fB o r):=by
 unfold fB;split
 ·rename_i a;exact k8 (sD _ _) a
 ·split
  ·rename_i a;exact k8 (AI _ _ _ _ (Nat.lt_succ_self _)) a
  ·(first|exact aX _|exact bE|exact bO _)
theorem R8 (o:cV) (r:Bs):sJ (m8 o r):=by
 unfold m8;split
 ·rename_i a;exact k8 (sD _ _) a
 ·split
  ·(first|exact aX _|exact bE|exact bO _)
  ·split<;>(first|exact aX _|exact bE|exact bO _)
theorem vD (f:Bool):∀ (r:Bs) (b0 b1:UInt8) (a:Bs),sJ (cE f r b0 b1 a)
 | [],_,_,_=>by unfold cE;(first|exact aX _|exact bE|exact bO _)
 | b::r,b0,b1,a=>by
  unfold cE;split
  ·split<;>(first|exact aX _|exact bE|exact bO _)
  ·exact vD f r _ _ _
theorem vF (f:Bool):∀ (r:Bs) (b0 b1:UInt8),sJ (cY f r b0 b1)
 | [],_,_=>by unfold cY;(first|exact aX _|exact bE|exact bO _)
 | b::r,b0,b1=>by
  unfold cY;split
  ·(first|exact aX _|exact bE|exact bO _)
  ·exact vF f r _ _
theorem V3 (f:Bool):∀ (n:Nat),(∀ (r:Bs),r.length≤n→∀ (b c:UInt8) (d:Int) (a:Bs),sJ (gP f b r c d a))∧(∀ (r:Bs),r.length≤n→∀ (c:UInt8) (d:Int) (a:Bs),sJ (eZ f r c d a)):=by
 intro n;induction n with
 | zero=>
  have g:∀ (r:Bs),r.length≤0→∀ (c:UInt8) (d:Int) (a:Bs),sJ (eZ f r c d a):=by
   intro r e c d a;have:r=[]:=wC (by omega);subst this;unfold eZ;(first|exact aX _|exact bE|exact bO _)
  refine ⟨fun r e b c d a=>?_,g⟩;have:r=[]:=wC (by omega);subst this;unfold gP;repeat' split
  all_goals first|(first|exact aX _|exact bE|exact bO _)|contradiction|exact g _ (by simp) _ _ _
 | succ n ih=>
  have g:∀ (r:Bs),r.length≤n+1→∀ (c:UInt8) (d:Int) (a:Bs),sJ (eZ f r c d a):=by
   intro r e c d a;cases r with
   | nil=>unfold eZ;(first|exact aX _|exact bE|exact bO _)
   | cons b r=>
    unfold eZ;split
    ·(first|exact aX _|exact bE|exact bO _)
    ·exact ih.1 _ (by simp at e;omega) _ _ _ _
  refine ⟨fun r e b c d a=>?_,g⟩;unfold gP;split
  ·exact g _ e _ _ _
  ·split
   ·exact g _ e _ _ _
   ·split
    ·exact g _ e _ _ _
    ·split
     ·exact g _ e _ _ _
     ·split
      ·split
       ·(first|exact aX _|exact bE|exact bO _)
       ·simp only [f5] at e;split
        ·split
         ·(first|exact aX _|exact bE|exact bO _)
         ·simp only [f5] at e;split
          ·split
           ·(first|exact aX _|exact bE|exact bO _)
           ·simp only [f5] at e;split
            ·split
             ·rename_i h;exact k8 (vF _ _ _ _) h
             ·rename_i h;have:=jX h;exact ih.2 _ (by omega) _ _ _
            ·exact ih.1 _ (by omega) _ _ _ _
          ·exact ih.1 _ (by omega) _ _ _ _
        ·exact ih.1 _ (by omega) _ _ _ _
      ·exact g _ e _ _ _
theorem AJ (f:Bool):∀ (p r:Bs),sJ (fA f p r)
 | [],_=>by unfold fA;(first|exact aX _|exact bE|exact bO _)
 | _::_,[]=>by unfold fA;(first|exact aX _|exact bE|exact bO _)
 | p::ps,b::r=>by
  unfold fA;split
  ·exact AJ f ps r
  ·(first|exact aX _|exact bE|exact bO _)
theorem xZ (o:cV) (r:Bs):sJ (jJ o r):=by
 unfold jJ;split
 ·(first|exact aX _|exact bE|exact bO _)
 ·split
  ·split
   ·(first|exact aX _|exact bE|exact bO _)
   ·split
    ·split
     ·rename_i a;exact k8 (vD _ _ _ _ _) a
     ·(first|exact aX _|exact bE|exact bO _)
    ·(first|exact aX _|exact bE|exact bO _)
  ·split
   ·split
    ·rename_i a;exact k8 (AJ _ _ _) a
    ·split
     ·rename_i a;exact k8 (xY _ _ _ _ _ (dF _) _ _ _) a
     ·(first|exact aX _|exact bE|exact bO _)
   ·split
    ·rename_i a;exact k8 ((V3 _ _).2 _ (dF _) _ _ _) a
    ·(first|exact aX _|exact bE|exact bO _)
end Go.Proofs.YthapcchcahnfaaaGreatDoor
namespace Go.Proofs.YthapcchcahnfaaaGreatDoor
open Go Go.RowKit Go.ChangeShapes Go.WideShapes Go.ChangeAt Go.Shelf Go.Proofs.Tryz
abbrev gR:List (String×DataW Unit):=Rows.fnReaderFailsRow.laid
def I4:Ren:=⟨fun x=>x,fun n=>if n=5 then 5 else if n=119 then 253 else if n=138 then 255 else 256,fun n=>if n=3 then 6 else 7⟩
theorem R9:U8Types prog I4:=⟨by kernel_rfl,by kernel_rfl,by kernel_rfl,by kernel_rfl⟩
theorem SA:U8Extra prog I4:=⟨by kernel_rfl,by kernel_rfl,by kernel_rfl,by kernel_rfl,by kernel_rfl,by kernel_rfl,by kernel_rfl⟩
theorem OF (u:TypeId) (h:prog.typeName? 3 u=some "*errors.errorString"):u=196:=
 typeName_ptr_named (nm := "errors.errorString") (by rw [show "*" ++ "errors.errorString" = "*errors.errorString" by decide];kernel_rfl) (by kernel_rfl) (by decide) u (by rw [show "*" ++ "errors.errorString" = "*errors.errorString" by decide];exact h)
theorem qD {w:World} {n:String} {b:List UInt8} {g:Nat} (h:laidMet prog [(n,.iface "*errors.errorString" (.ptr (.agg [.lit (.string b)])))] w) (d:prog.globalNamed n=some g) (f:(prog.globals[g]?).map (·.type)=some 59) :
  (∃ a:Addr,w.cell? ⟨g,0,none⟩=some (m9 a)∧a.block<w.heap.size)∧g<w.heap.size:=by
 obtain ⟨a,s,i,e,_,_⟩:=laid_sentinel h d f underlying59 OF underlying196 underlying198 rfl rfl underlying9 (by kernel_rfl) (by kernel_rfl);have c:w.cell? ⟨g,0,none⟩=some (m9 a):=by simpa using World.var?_cell d i 0
 exact ⟨⟨a,c,World.block_lt_of_cell? w a e⟩,World.block_lt_of_cell? w _ c⟩
theorem SB:((gR.filter fun x=>x.2.handleName?.isNone).filter fun x=>x.1 == "io.EOF")=[("io.EOF", Rows.laid_io_EOF)]:=by kernel_rfl
theorem SC:((gR.filter fun x=>x.2.handleName?.isNone).filter fun x=>x.1 == "strconv.ErrSyntax")=[("strconv.ErrSyntax", Rows.laid_strconv_ErrSyntax)]:=by kernel_rfl
theorem SD:((gR.filter fun x=>x.2.handleName?.isNone).filter fun x=>x.1 == "strconv.ErrRange")=[("strconv.ErrRange", Rows.laid_strconv_ErrRange)]:=by kernel_rfl
theorem SE:((gR.filter fun x=>x.2.handleName?.isNone).filter fun x=>x.1 == "unicode/utf8.first")=[("unicode/utf8.first", Rows.laid_unicode_utf8_first)]:=by kernel_rfl
theorem SF:((gR.filter fun x=>x.2.handleName?.isNone).filter fun x=>x.1 == "unicode/utf8.acceptRanges")=[("unicode/utf8.acceptRanges", Rows.laid_unicode_utf8_acceptRanges)]:=by kernel_rfl
theorem V4:(Rows.laid_unicode_utf8_acceptRanges:DataW Unit)=Lib.acceptData:=by kernel_rfl
theorem V5:Rows.laid_unicode_utf8_first=Lib.firstData:=Pinned.utf8First_eq
theorem DY {w:World} (h:laidMetH prog gR w):Env w:=by
 have a:=(laidMetH_iff.1 h).1
 have b:=a.filter fun x=>x.1 == "io.EOF"
 have c:=a.filter fun x=>x.1 == "strconv.ErrSyntax"
 have d:=a.filter fun x=>x.1 == "strconv.ErrRange"
 have e:=a.filter fun x=>x.1 == "unicode/utf8.first"
 have f:=a.filter fun x=>x.1 == "unicode/utf8.acceptRanges"
 rw [SB] at b;rw [SC] at c;rw [SD] at d;rw [SE,V5] at e;rw [SF,V4] at f;obtain ⟨⟨i,b1,n⟩,o⟩:=qD (g:=0) b (by kernel_rfl) (by kernel_rfl);obtain ⟨⟨j,l,s⟩,p⟩:=qD (g:=8) c (by kernel_rfl) (by kernel_rfl);obtain ⟨⟨k,m,t⟩,q⟩:=qD (g:=9) d (by kernel_rfl) (by kernel_rfl);have r:Lib.Utf8Tabs (I4.g 3) (I4.g 4) w:=utf8Tabs_of_readsT R9 SA (Lib.laidMet.reads e (.head _)) (Lib.laidMet.reads f (.head _));exact ⟨⟨i,b1,n⟩,o,r,⟨⟨j,l⟩,⟨k,m⟩⟩,p,q⟩
theorem B4 {P:Program} {w0:World} {laid:List (String×DataW Unit)} (d:w0.layFits P laid []=true) (e:w0.layIfaces P laid (w0.layVars P laid)=true):laidMet P laid (w0.layVars P laid):=by
 have a:(laid.filter fun x=>(laid.map (·.1)).contains x.1)=laid:=List.filter_eq_self.2 fun x b=>List.contains_iff_mem.2 (List.mem_map.2 ⟨x,b,rfl⟩);have c:(laid.filter fun x=>!(laid.map (·.1)).contains x.1)=[]:=List.filter_eq_nil_iff.2 fun x b=>by rw [List.contains_iff_mem.2 (List.mem_map.2 ⟨x,b,rfl⟩)];simp
 exact laidMet_layVars (w0:=w0) (laid.map (·.1)) [] (by rw [a]) (by rw [a];exact d) (by rw [a];exact e) (by rw [c];exact LaidIn.none)
abbrev AK:List (String×DataW Unit):=gR.filter fun x=>x.2.handleName?.isNone
noncomputable def Ar:Nat:=((prog.cutTypes.find? (·.1 == "internal/reflectlite.rtype")).map (·.2)).getD 0
noncomputable def As:Nat:=((List.range prog.types.size).find? fun t=>prog.rowNamed t [101,114,114,111,114]).getD 0
noncomputable def AL (os:Os):World:=
 { World.holding prog os ⟨#[],#[],[]⟩ with heap:=(World.holding prog os ⟨#[],#[],[]⟩).heap.modify 1 fun
   | .cells _ t frozen=>.cells #[.iface Ar (.agg #[typeHandle prog As])] t frozen
   | o=>o }
noncomputable def uK (os:Os):World:=(AL os).layVars prog AK
theorem OG (os:Os) (a:Array Value):laidMetH prog gR ((uK os).forCall (fun _ _=>0) ⟨#[],a,[]⟩).memory:=by
 refine laidMetH_of_parts ((B4 (w0:=AL os) (laid:=AK) (by kernel_rfl) (by kernel_rfl)).of_heap (by simp [uK,World.memory,World.forCall,Input.heap])) (by kernel_rfl)
theorem own:ownKnob prog.godebug=none:=by kernel_rfl
end Go.Proofs.YthapcchcahnfaaaGreatDoor
