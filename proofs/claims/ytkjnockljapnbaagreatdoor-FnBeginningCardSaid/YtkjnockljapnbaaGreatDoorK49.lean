/- Part of the proof that laws.FnBeginning, laws.FnPlaces returns true for every argument (Lf, Pa). No condition of its own. -/
import Derived.Test.YtkjnockljapnbaaGreatDoorK31
import Derived.Test.YtkjnockljapnbaaGreatDoorCards
import Derived.Test.YtkjnockljapnbaaGreatDoorTie
import Derived.WalkKit
import Derived.ProofKit
import Derived.OpenShut
import Derived.Lay
import Derived.LaidSub
import Derived.LaidHandle
import Derived.LaidLaws
import Derived.PinnedBridge
import Derived.Lib.LaidU8T
import Derived.Stop.LaidErr
import Derived.SevenTiedAt
import Derived.Test.YtkjnockljapnbaaGreatDoorK46
import Derived.Stop.LaidTwo
import Derived.Lib.LaidTab
set_option linter.all false
set_option maxHeartbeats 8000000
set_option maxRecDepth 100000
namespace Go.Proofs.YtkjnockljapnbaaGreatDoor
open Go Go.RowKit Go.ChangeShapes Go.WideShapes Go.ChangeAt Go.Shelf
abbrev theLaid:List (String × DataW Unit):=Rows.fnLooseReferencesRow.laid
def u8Ren:Ren:=⟨fun x=>x,fun n=>if n=5 then 5 else if n=119 then 234 else if n=138 then 236 else 237,fun n=>if n=3 then 6 else 7⟩
theorem u8Types:U8Types Tryz.prog u8Ren:=⟨by kernel_rfl,by kernel_rfl,by kernel_rfl,by kernel_rfl⟩
theorem u8Extra:U8Extra Tryz.prog u8Ren:=⟨by kernel_rfl,by kernel_rfl,by kernel_rfl,by kernel_rfl,by kernel_rfl,by kernel_rfl,by kernel_rfl⟩
theorem errRow (u:TypeId) (h:Tryz.prog.typeName? 3 u=some "*errors.errorString"):u=177:=
  typeName_ptr_named (nm := "errors.errorString") (by rw [show "*" ++ "errors.errorString" = "*errors.errorString" by decide];kernel_rfl) (by kernel_rfl) (by decide) u (by rw [show "*" ++ "errors.errorString" = "*errors.errorString" by decide];exact h)
theorem sentinel_of {w:World} {n:String} {text:List UInt8} {g:Nat} (h:laidMet Tryz.prog [(n,.iface "*errors.errorString" (.ptr (.agg [.lit (.string text)])))] w) (hg:Tryz.prog.globalNamed n=some g) (ht:(Tryz.prog.globals[g]?).map (·.type)=some 55) :
    (∃ a:Addr,w.cell? ⟨g,0,none⟩=some (errV a)∧a.block < w.heap.size)∧g < w.heap.size:=by
  obtain ⟨a,s,hv,hc,_,_⟩:=laid_sentinel h hg ht Tryz.underlying55 errRow Tryz.underlying177 Tryz.underlying179 rfl rfl Tryz.underlying9 (by kernel_rfl) (by kernel_rfl)
  have h1:w.cell? ⟨g,0,none⟩=some (errV a):=by simpa using World.var?_cell hg hv 0
  exact ⟨⟨a,h1,World.block_lt_of_cell? w a hc⟩,World.block_lt_of_cell? w _ h1⟩
theorem one_eof:((theLaid.filter fun x=>x.2.handleName?.isNone).filter fun x=>x.1 == "io.EOF")=[("io.EOF", Rows.laid_io_EOF)]:=by kernel_rfl
theorem one_syn:((theLaid.filter fun x=>x.2.handleName?.isNone).filter fun x=>x.1 == "strconv.ErrSyntax")=[("strconv.ErrSyntax", Rows.laid_strconv_ErrSyntax)]:=by kernel_rfl
theorem one_rng:((theLaid.filter fun x=>x.2.handleName?.isNone).filter fun x=>x.1 == "strconv.ErrRange")=[("strconv.ErrRange", Rows.laid_strconv_ErrRange)]:=by kernel_rfl
theorem one_fst:((theLaid.filter fun x=>x.2.handleName?.isNone).filter fun x=>x.1 == "unicode/utf8.first")=[("unicode/utf8.first", Rows.laid_unicode_utf8_first)]:=by kernel_rfl
theorem one_acc:((theLaid.filter fun x=>x.2.handleName?.isNone).filter fun x=>x.1 == "unicode/utf8.acceptRanges")=[("unicode/utf8.acceptRanges", Rows.laid_unicode_utf8_acceptRanges)]:=by kernel_rfl
theorem acc_eq:(Rows.laid_unicode_utf8_acceptRanges:DataW Unit)=Lib.acceptData:=by kernel_rfl
theorem fst_eq:Rows.laid_unicode_utf8_first=Lib.firstData:=Pinned.utf8First_eq
theorem env_of_laid {w:World} (h:laidMetH Tryz.prog theLaid w):Env w:=by
  have h':=(laidMetH_iff.1 h).1
  have e1:=h'.filter fun x=>x.1 == "io.EOF"
  have e2:=h'.filter fun x=>x.1 == "strconv.ErrSyntax"
  have e3:=h'.filter fun x=>x.1 == "strconv.ErrRange"
  have e4:=h'.filter fun x=>x.1 == "unicode/utf8.first"
  have e5:=h'.filter fun x=>x.1 == "unicode/utf8.acceptRanges"
  rw [one_eof] at e1
  rw [one_syn] at e2
  rw [one_rng] at e3
  rw [one_fst,fst_eq] at e4
  rw [one_acc,acc_eq] at e5
  obtain ⟨⟨a1,b1,c1⟩,d1⟩:=sentinel_of (g:=0) e1 (by kernel_rfl) (by kernel_rfl)
  obtain ⟨⟨a2,b2,c2⟩,d2⟩:=sentinel_of (g:=8) e2 (by kernel_rfl) (by kernel_rfl)
  obtain ⟨⟨a3,b3,c3⟩,d3⟩:=sentinel_of (g:=9) e3 (by kernel_rfl) (by kernel_rfl)
  have hu:Lib.Utf8Tabs (u8Ren.g 3) (u8Ren.g 4) w:=utf8Tabs_of_readsT u8Types u8Extra (Lib.laidMet.reads e4 (.head _)) (Lib.laidMet.reads e5 (.head _))
  exact ⟨⟨a1,b1,c1⟩,d1,hu,⟨⟨a2,b2⟩,⟨a3,b3⟩⟩,d2,d3⟩
theorem laidMet_lay' {P:Program} {w0:World} {laid:List (String × DataW Unit)} (hf:w0.layFits P laid []=true) (hi:w0.layIfaces P laid (w0.layVars P laid)=true):laidMet P laid (w0.layVars P laid):=by
  have e1:(laid.filter fun x=>(laid.map (·.1)).contains x.1)=laid:=List.filter_eq_self.2 fun x hx=>List.contains_iff_mem.2 (List.mem_map.2 ⟨x,hx,rfl⟩)
  have e2:(laid.filter fun x=>!(laid.map (·.1)).contains x.1)=[]:=List.filter_eq_nil_iff.2 fun x hx=>by rw [List.contains_iff_mem.2 (List.mem_map.2 ⟨x,hx,rfl⟩)];simp
  exact laidMet_layVars (w0:=w0) (laid.map (·.1)) [] (by rw [e1]) (by rw [e1];exact hf) (by rw [e1];exact hi) (by rw [e2];exact LaidIn.none)
abbrev plainLaid:List (String × DataW Unit):=theLaid.filter fun x=>x.2.handleName?.isNone
noncomputable def hdlU:Nat:=((Tryz.prog.cutTypes.find? (·.1 == "internal/reflectlite.rtype")).map (·.2)).getD 0
noncomputable def hdlT:Nat:=((List.range Tryz.prog.types.size).find? fun t=>Tryz.prog.rowNamed t [101,114,114,111,114]).getD 0
noncomputable def seedWorld (os:Os):World:=
  { World.holding Tryz.prog os ⟨#[],#[],[]⟩ with heap:=(World.holding Tryz.prog os ⟨#[],#[],[]⟩).heap.modify 1 fun
      | .cells _ t frozen=>.cells #[.iface hdlU (.agg #[typeHandle Tryz.prog hdlT])] t frozen
      | o=>o }
noncomputable def laidWorld (os:Os):World:=(seedWorld os).layVars Tryz.prog plainLaid
theorem laid_met (os:Os) (args:Array Value):laidMetH Tryz.prog theLaid ((laidWorld os).forCall (fun _ _=>0) ⟨#[],args,[]⟩).memory:=by
  refine laidMetH_of_parts ((laidMet_lay' (w0:=seedWorld os) (laid:=plainLaid) (by kernel_rfl) (by kernel_rfl)).of_heap (by simp [laidWorld,World.memory,World.forCall,Input.heap])) (by kernel_rfl)
theorem own:ownKnob Tryz.prog.godebug=none:=by kernel_rfl
end Go.Proofs.YtkjnockljapnbaaGreatDoor
namespace Go.Proofs.YtkjnockljapnbaaGreatDoor
open Go Go.RowKit Go.ChangeShapes Go.WideShapes Go.ChangeAt Go.Shelf
theorem one_asc:((theLaid.filter fun x=>x.2.handleName?.isNone).filter fun x=>x.1 == "unicode.asciiFold")=[("unicode.asciiFold", Rows.laid_unicode_asciiFold)]:=by kernel_rfl
theorem asc_eq:(Rows.laid_unicode_asciiFold:DataW Unit)=Lib.tabData .u16 afL:=by kernel_rfl
theorem two_err:((theLaid.filter fun x=>x.2.handleName?.isNone).filter fun x=>x.1 == "strconv.ErrSyntax" || x.1 == "io.EOF")=[("strconv.ErrSyntax", Rows.laid_strconv_ErrSyntax),("io.EOF", Rows.laid_io_EOF)]:=by kernel_rfl
theorem one_hdl:(theLaid.filter fun x=>x.2.handleName?.isSome)=[("errors.errorType", Rows.laid_errors_errorType)]:=by kernel_rfl
theorem only_error:((List.range Tryz.prog.types.size).all fun ty=>!(Tryz.prog.rowNamed ty [101,114,114,111,114]) || ty == 55)=true:=by kernel_rfl
theorem hdl_rt:(Tryz.prog.cutTypes.find? (·.1 == "internal/reflectlite.rtype")).map (·.2)=some 183:=by kernel_rfl
theorem hdl_name:(Rows.laid_errors_errorType:DataW Unit).handleName?=some [101,114,114,111,114]:=by kernel_rfl
theorem hdl_ptr:typeHandle Tryz.prog 55=.pointer (some ⟨16,55,none⟩):=by kernel_rfl
theorem env_all {w:World} (h:laidMetH Tryz.prog theLaid w):EnvA w:=by
  have hE:=env_of_laid h
  obtain ⟨h',hh⟩:=laidMetH_iff.1 h
  have e1:=h'.filter fun x=>x.1 == "unicode.asciiFold"
  rw [one_asc,asc_eq] at e1
  have e2:=h'.filter fun x=>x.1 == "strconv.ErrSyntax" || x.1 == "io.EOF"
  rw [two_err] at e2
  have ht:=Lib.tabIs_of_head (g:=3) (t:=206) (e:=205) (n:=128) (by kernel_rfl) (by kernel_rfl) Tryz.underlying206 Tryz.underlying205 (by kernel_rfl) (by kernel_rfl) e1
  have hlen:afL.length=128:=by simp [afL]
  have hcell:=fun i (hi:i < afL.length)=>ht.cell (g:=3) (by kernel_rfl) i hi
  have hlt:3 < w.heap.size:=World.block_lt_of_cell? w _ (hcell 0 (by rw [hlen];omega))
  obtain ⟨a0,a1,s0,s1,c0,c1,t0,t1,v0,v1,_,_,_,_,_,_,_,b0,b1⟩:=laid_sentinels2 (g0:=8) (g1:=0) e2 (by kernel_rfl) (by kernel_rfl) (by kernel_rfl) (by kernel_rfl) Tryz.underlying55 errRow Tryz.underlying177 Tryz.underlying179 rfl rfl Tryz.underlying9 (by kernel_rfl) (by kernel_rfl)
  have hv:w.cell? ⟨0,0,none⟩=some (errV a1):=by simpa using World.var?_cell (g:=0) (by kernel_rfl) v1 0
  have het:w.cell? ⟨1,0,none⟩=some (rtI 55):=by
    have hx:=hh ("errors.errorType", Rows.laid_errors_errorType) (by rw [one_hdl];simp)
    have hx2:∃ name u ty,(Rows.laid_errors_errorType:DataW Unit).handleName?=some name∧(Tryz.prog.cutTypes.find? (·.1 == "internal/reflectlite.rtype")).map (·.2)=some u∧ty < Tryz.prog.types.size∧Tryz.prog.rowNamed ty name=true ∧
      w.var? Tryz.prog "errors.errorType" = some #[.iface u (.agg #[typeHandle Tryz.prog ty])]:=hx
    obtain ⟨name,u,ty,h1,h2,h3,h4,h5⟩:=hx2
    rw [hdl_name] at h1
    rw [hdl_rt] at h2
    simp only [Option.some.injEq] at h1 h2
    subst h1 h2
    have h6:=List.all_eq_true.1 only_error ty (List.mem_range.2 h3)
    rw [h4] at h6
    have h7:ty=55:=by simpa using h6
    subst h7
    rw [hdl_ptr] at h5
    simpa using World.var?_cell (g:=1) (by kernel_rfl) h5 0
  refine ⟨hE,⟨fun i hi=>hcell i (by rw [hlen];exact hi),hlt⟩,hlt,?_,?_,fun a ha=>?_⟩
  · exact het
  · exact World.block_lt_of_cell? w _ het
  · rw [hv] at ha
    simp only [Option.some.injEq,Value.iface.injEq,Value.pointer.injEq,true_and] at ha
    subst ha
    exact ⟨c1,t1,b1⟩
end Go.Proofs.YtkjnockljapnbaaGreatDoor
