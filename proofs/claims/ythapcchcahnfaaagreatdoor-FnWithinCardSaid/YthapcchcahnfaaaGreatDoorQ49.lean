/- Part of the proof that laws.FnWithin returns true for every argument. No conditions. -/
import Derived.Test.YthapcchcahnfaaaGreatDoorQ24
import Derived.Test.YthapcchcahnfaaaGreatDoorCards
import Derived.Test.YthapcchcahnfaaaGreatDoorTie
import Derived.WalkKit
import Derived.ProofKit
import Derived.OpenShut
import Derived.Lay
import Derived.LaidSub
import Derived.LaidHandle
import Derived.LaidLaws
import Derived.PinnedBridge
import Derived.Lib.LaidU8T
import Derived.Stop.LaidErr
import Derived.SevenTiedAt
set_option linter.all false
set_option maxHeartbeats 8000000
set_option maxRecDepth 100000
namespace Go.Proofs.YthapcchcahnfaaaGreatDoor
open Go Go.RowKit Go.ChangeShapes Go.WideShapes Go.ChangeAt Go.Shelf Go.Proofs.Tryz
abbrev gV:List (String×DataW Unit):=Rows.fnReaderFailsRow.laid
def JX:Ren:=⟨fun x=>x,fun n=>if n=5 then 5 else if n=119 then 253 else if n=138 then 255 else 256,fun n=>if n=3 then 6 else 7⟩
theorem UH:U8Types prog JX:=⟨by kernel_rfl,by kernel_rfl,by kernel_rfl,by kernel_rfl⟩
theorem UI:U8Extra prog JX:=⟨by kernel_rfl,by kernel_rfl,by kernel_rfl,by kernel_rfl,by kernel_rfl,by kernel_rfl,by kernel_rfl⟩
theorem QV (u:TypeId) (h:prog.typeName? 3 u=some "*errors.errorString"):u=196:=
 typeName_ptr_named (nm := "errors.errorString") (by rw [show "*" ++ "errors.errorString" = "*errors.errorString" by decide];kernel_rfl) (by kernel_rfl) (by decide) u (by rw [show "*" ++ "errors.errorString" = "*errors.errorString" by decide];exact h)
theorem qV {w:World} {n:String} {b:List UInt8} {g:Nat} (h:laidMet prog [(n,.iface "*errors.errorString" (.ptr (.agg [.lit (.string b)])))] w) (d:prog.globalNamed n=some g) (f:(prog.globals[g]?).map (·.type)=some 59) :
  (∃ a:Addr,w.cell? ⟨g,0,none⟩=some (m7 a)∧a.block<w.heap.size)∧g<w.heap.size:=by
 obtain ⟨a,s,i,e,_,_⟩:=laid_sentinel h d f underlying59 QV underlying196 underlying198 rfl rfl underlying9 (by kernel_rfl) (by kernel_rfl);have c:w.cell? ⟨g,0,none⟩=some (m7 a):=by simpa using World.var?_cell d i 0
 exact ⟨⟨a,c,World.block_lt_of_cell? w a e⟩,World.block_lt_of_cell? w _ c⟩
theorem UJ:((gV.filter fun x=>x.2.handleName?.isNone).filter fun x=>x.1 == "io.EOF")=[("io.EOF", Rows.laid_io_EOF)]:=by kernel_rfl
theorem UK:((gV.filter fun x=>x.2.handleName?.isNone).filter fun x=>x.1 == "strconv.ErrSyntax")=[("strconv.ErrSyntax", Rows.laid_strconv_ErrSyntax)]:=by kernel_rfl
theorem UL:((gV.filter fun x=>x.2.handleName?.isNone).filter fun x=>x.1 == "strconv.ErrRange")=[("strconv.ErrRange", Rows.laid_strconv_ErrRange)]:=by kernel_rfl
theorem UM:((gV.filter fun x=>x.2.handleName?.isNone).filter fun x=>x.1 == "unicode/utf8.first")=[("unicode/utf8.first", Rows.laid_unicode_utf8_first)]:=by kernel_rfl
theorem UN:((gV.filter fun x=>x.2.handleName?.isNone).filter fun x=>x.1 == "unicode/utf8.acceptRanges")=[("unicode/utf8.acceptRanges", Rows.laid_unicode_utf8_acceptRanges)]:=by kernel_rfl
theorem X4:(Rows.laid_unicode_utf8_acceptRanges:DataW Unit)=Lib.acceptData:=by kernel_rfl
theorem X5:Rows.laid_unicode_utf8_first=Lib.firstData:=Pinned.utf8First_eq
theorem FI {w:World} (h:laidMetH prog gV w):Env w:=by
 have a:=(laidMetH_iff.1 h).1
 have b:=a.filter fun x=>x.1 == "io.EOF"
 have c:=a.filter fun x=>x.1 == "strconv.ErrSyntax"
 have d:=a.filter fun x=>x.1 == "strconv.ErrRange"
 have e:=a.filter fun x=>x.1 == "unicode/utf8.first"
 have f:=a.filter fun x=>x.1 == "unicode/utf8.acceptRanges"
 rw [UJ] at b;rw [UK] at c;rw [UL] at d;rw [UM,X5] at e;rw [UN,X4] at f;obtain ⟨⟨i,b1,n⟩,o⟩:=qV (g:=0) b (by kernel_rfl) (by kernel_rfl);obtain ⟨⟨j,l,s⟩,p⟩:=qV (g:=8) c (by kernel_rfl) (by kernel_rfl);obtain ⟨⟨k,m,t⟩,q⟩:=qV (g:=9) d (by kernel_rfl) (by kernel_rfl);have r:Lib.Utf8Tabs (JX.g 3) (JX.g 4) w:=utf8Tabs_of_readsT UH UI (Lib.laidMet.reads e (.head _)) (Lib.laidMet.reads f (.head _));exact ⟨⟨i,b1,n⟩,o,r,⟨⟨j,l⟩,⟨k,m⟩⟩,p,q⟩
theorem CU {P:Program} {w0:World} {laid:List (String×DataW Unit)} (d:w0.layFits P laid []=true) (e:w0.layIfaces P laid (w0.layVars P laid)=true):laidMet P laid (w0.layVars P laid):=by
 have a:(laid.filter fun x=>(laid.map (·.1)).contains x.1)=laid:=List.filter_eq_self.2 fun x b=>List.contains_iff_mem.2 (List.mem_map.2 ⟨x,b,rfl⟩);have c:(laid.filter fun x=>!(laid.map (·.1)).contains x.1)=[]:=List.filter_eq_nil_iff.2 fun x b=>by rw [List.contains_iff_mem.2 (List.mem_map.2 ⟨x,b,rfl⟩)];simp
 exact laidMet_layVars (w0:=w0) (laid.map (·.1)) [] (by rw [a]) (by rw [a];exact d) (by rw [a];exact e) (by rw [c];exact LaidIn.none)
abbrev BB:List (String×DataW Unit):=gV.filter fun x=>x.2.handleName?.isNone
noncomputable def Bu:Nat:=((prog.cutTypes.find? (·.1 == "internal/reflectlite.rtype")).map (·.2)).getD 0
noncomputable def Bv:Nat:=((List.range prog.types.size).find? fun t=>prog.rowNamed t [101,114,114,111,114]).getD 0
noncomputable def BC (os:Os):World:=
 { World.holding prog os ⟨#[],#[],[]⟩ with heap:=(World.holding prog os ⟨#[],#[],[]⟩).heap.modify 1 fun
   | .cells _ t frozen=>.cells #[.iface Bu (.agg #[typeHandle prog Bv])] t frozen
   | o=>o }
noncomputable def uU (os:Os):World:=(BC os).layVars prog BB
theorem QW (os:Os) (a:Array Value):laidMetH prog gV ((uU os).forCall (fun _ _=>0) ⟨#[],a,[]⟩).memory:=by
 refine laidMetH_of_parts ((CU (w0:=BC os) (laid:=BB) (by kernel_rfl) (by kernel_rfl)).of_heap (by simp [uU,World.memory,World.forCall,Input.heap])) (by kernel_rfl)
theorem own:ownKnob prog.godebug=none:=by kernel_rfl
end Go.Proofs.YthapcchcahnfaaaGreatDoor
