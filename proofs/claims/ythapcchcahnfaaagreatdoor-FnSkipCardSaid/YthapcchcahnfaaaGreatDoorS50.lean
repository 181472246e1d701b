/- Part of the proof that laws.FnSkip returns true for every argument. No conditions. -/
import Derived.Test.YthapcchcahnfaaaGreatDoorS27
import Derived.Test.YthapcchcahnfaaaGreatDoorS35
import Derived.Stop.LaidTwo
import Derived.Lib.LaidTab
import Derived.Lib.LaidCase
import Derived.PinnedBridge
import Derived.ChangeSame
set_option linter.all false
set_option maxHeartbeats 8000000
set_option maxRecDepth 100000
namespace Go.Proofs.YthapcchcahnfaaaGreatDoor
open Go Go.RowKit Go.ChangeShapes Go.WideShapes Go.ChangeAt Go.Shelf Go.Proofs.Tryz
theorem UA:((gR.filter fun x=>x.2.handleName?.isNone).filter fun x=>x.1 == "unicode.asciiFold")=[("unicode.asciiFold", Rows.laid_unicode_asciiFold)]:=by kernel_rfl
theorem XQ:(Rows.laid_unicode_asciiFold:DataW Unit)=Lib.tabData .u16 X0:=by kernel_rfl
theorem UB:((gR.filter fun x=>x.2.handleName?.isNone).filter fun x=>x.1 == "strconv.ErrSyntax" || x.1 == "io.EOF")=[("strconv.ErrSyntax", Rows.laid_strconv_ErrSyntax),("io.EOF", Rows.laid_io_EOF)]:=by kernel_rfl
theorem UC:(gR.filter fun x=>x.2.handleName?.isSome)=[("errors.errorType", Rows.laid_errors_errorType)]:=by kernel_rfl
theorem IA:((List.range prog.types.size).all fun ty=>!(prog.rowNamed ty [101,114,114,111,114])||ty==59)=true:=by kernel_rfl
theorem XR:(prog.cutTypes.find? (·.1 == "internal/reflectlite.rtype")).map (·.2)=some 202:=by kernel_rfl
theorem QL:(Rows.laid_errors_errorType:DataW Unit).handleName?=some [101,114,114,111,114]:=by kernel_rfl
theorem UD:typeHandle prog 59=.pointer (some ⟨16,59,none⟩):=by kernel_rfl
theorem UE {w:World} (h:laidMetH prog gR w):EB w:=by
 have E:=DY h;obtain ⟨s,F⟩:=laidMetH_iff.1 h
 have q:=s.filter fun x=>x.1 == "unicode.asciiFold"
 rw [UA,XQ] at q
 have r:=s.filter fun x=>x.1 == "strconv.ErrSyntax" || x.1 == "io.EOF"
 rw [UB] at r;have G:=Lib.tabIs_of_head (g:=3) (t:=225) (e:=224) (n:=128) (by kernel_rfl) (by kernel_rfl) underlying225 underlying224 (by kernel_rfl) (by kernel_rfl) q;have d:X0.length=128:=by simp [X0]
 have b:=fun i (o:i<X0.length)=>G.cell (g:=3) (by kernel_rfl) i o;have j:3<w.heap.size:=World.block_lt_of_cell? w _ (b 0 (by rw [d];omega));obtain ⟨M,z,N,O,c0,A,P,J,v0,L,_,_,_,_,_,_,_,b0,b1⟩:=laid_sentinels2 (g0:=8) (g1:=0) r (by kernel_rfl) (by kernel_rfl) (by kernel_rfl) (by kernel_rfl) underlying59 OF underlying196 underlying198 rfl rfl underlying9 (by kernel_rfl) (by kernel_rfl);have H:w.cell? ⟨0,0,none⟩=some (m9 z):=by simpa using World.var?_cell (g:=0) (by kernel_rfl) L 0
 have f:w.cell? ⟨1,0,none⟩=some (D6 59):=by
  have I:=F ("errors.errorType", Rows.laid_errors_errorType) (by rw [UC];simp)
  have p:∃ c u ty,(Rows.laid_errors_errorType:DataW Unit).handleName?=some c∧(prog.cutTypes.find? (·.1 == "internal/reflectlite.rtype")).map (·.2)=some u∧ty<prog.types.size∧prog.rowNamed ty c=true ∧
   w.var? prog "errors.errorType" = some #[.iface u (.agg #[typeHandle prog ty])]:=I
  obtain ⟨c,u,ty,k,l,B,C,v⟩:=p;rw [QL] at k;rw [XR] at l;simp only [jW] at k l;subst k l;have y:=List.all_eq_true.1 IA ty (List.mem_range.2 B);rw [C] at y;have D:ty=59:=by simpa using y
  subst D;rw [UD] at v;simpa using World.var?_cell (g:=1) (by kernel_rfl) v 0
 refine ⟨E,⟨fun i o=>b i (by rw [d];exact o),j⟩,j,?_,?_,fun a m=>?_⟩
 ·exact f
 ·exact World.block_lt_of_cell? w _ f
 ·rw [H] at m;simp only [jW,Value.iface.injEq,Value.pointer.injEq,true_and] at m;subst m;exact ⟨A,J,b1⟩
end Go.Proofs.YthapcchcahnfaaaGreatDoor
