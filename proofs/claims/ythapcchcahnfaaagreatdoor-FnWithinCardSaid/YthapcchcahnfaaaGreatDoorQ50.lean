/- Part of the proof that laws.FnWithin returns true for every argument. No conditions. -/
import Derived.Test.YthapcchcahnfaaaGreatDoorQ37
import Derived.Test.YthapcchcahnfaaaGreatDoorQ49
import Derived.Stop.LaidTwo
import Derived.Lib.LaidTab
import Derived.Lib.LaidCase
import Derived.PinnedBridge
import Derived.ChangeSame
set_option linter.all false
set_option maxHeartbeats 8000000
set_option maxRecDepth 100000
namespace Go.Proofs.YthapcchcahnfaaaGreatDoor
open Go Go.RowKit Go.Proofs.Tryz
theorem MG {o:cP} {s k:St} {nm:Bs×Bs} {f:List cV} (h:xG o s=.ok (.start nm f,k)):f.length≤s.rest.length:=by
 unfold xG at h;split at h
 ·obtain ⟨_,_,_,_,_,_,i⟩:=iN h;rcases i with ⟨_,_,g,_⟩|⟨_,g,_⟩
  ·cases g
  ·simp only [aU.wt] at g;omega
 ·unfold MR at h;cases j:eC o s with
  | error e=>rw [j] at h;cases h
  | ok p=>
   obtain ⟨l,n⟩:=p;rw [j] at h;obtain ⟨_,_,_,_,_,_,i⟩:=iN j;have c:cG o l n=.ok (.start nm f,k):=h;cases l with
   | start nm0 ats0=>
    unfold cG at c;simp only [bT,bP,aU.start.injEq] at c;obtain ⟨⟨_,rfl⟩,_⟩:=c;rcases i with ⟨_,_,g,_⟩|⟨_,g,_⟩
    ·cases g
    ·simp only [aU.wt] at g;simp;omega
   | fin nm0=>
    have:=(oD c).2.2.2.2.1.1 ⟨_,rfl⟩;obtain ⟨_,m⟩:=this;cases m
   | text d=>unfold cG at c;simp at c
   | comment d=>unfold cG at c;simp at c
   | dir d=>unfold cG at c;simp at c
   | proc a b=>unfold cG at c;simp at c
theorem QX {fold:Bs→Bs→Bool} {o:cP} (j:o.auto=[]) {s:St} {l:List (aU×St)} {e:EK} (h:jX fold o s l e):s.next=none→∀ b∈l,∀ pre,(b.1.itok pre).attrs.length≤s.rest.length:=by
 induction h with
 | stop _=>intro _ b a;cases a
 | more i _ ih=>
  intro d b a pre;rename_i n g c r p q;have f:xG o n=.ok (g,c):=by rw [←J2 (fold:=fold) j d];exact i
  obtain ⟨_,k,m⟩:=MT f;rcases l6.1 a with rfl|a
  ·cases g with
   | start nm ats=>exact MG f
   | _=>exact kW _
  ·exact gA (ih (m.trans d) b a pre) k.length_le
end Go.Proofs.YthapcchcahnfaaaGreatDoor
namespace Go.Proofs.YthapcchcahnfaaaGreatDoor
open Go Go.RowKit Go.ChangeShapes Go.WideShapes Go.ChangeAt Go.Shelf Go.Proofs.Tryz
theorem UO:((gV.filter fun x=>x.2.handleName?.isNone).filter fun x=>x.1 == "unicode.asciiFold")=[("unicode.asciiFold", Rows.laid_unicode_asciiFold)]:=by kernel_rfl
theorem X6:(Rows.laid_unicode_asciiFold:DataW Unit)=Lib.tabData .u16 YF:=by kernel_rfl
theorem UP:((gV.filter fun x=>x.2.handleName?.isNone).filter fun x=>x.1 == "strconv.ErrSyntax" || x.1 == "io.EOF")=[("strconv.ErrSyntax", Rows.laid_strconv_ErrSyntax),("io.EOF", Rows.laid_io_EOF)]:=by kernel_rfl
theorem UQ:(gV.filter fun x=>x.2.handleName?.isSome)=[("errors.errorType", Rows.laid_errors_errorType)]:=by kernel_rfl
theorem IJ:((List.range prog.types.size).all fun ty=>!(prog.rowNamed ty [101,114,114,111,114])||ty==59)=true:=by kernel_rfl
theorem X7:(prog.cutTypes.find? (·.1 == "internal/reflectlite.rtype")).map (·.2)=some 202:=by kernel_rfl
theorem QY:(Rows.laid_errors_errorType:DataW Unit).handleName?=some [101,114,114,111,114]:=by kernel_rfl
theorem UR:typeHandle prog 59=.pointer (some ⟨16,59,none⟩):=by kernel_rfl
theorem US {w:World} (h:laidMetH prog gV w):CH w:=by
 have E:=FI h;obtain ⟨s,F⟩:=laidMetH_iff.1 h
 have q:=s.filter fun x=>x.1 == "unicode.asciiFold"
 rw [UO,X6] at q
 have r:=s.filter fun x=>x.1 == "strconv.ErrSyntax" || x.1 == "io.EOF"
 rw [UP] at r;have G:=Lib.tabIs_of_head (g:=3) (t:=225) (e:=224) (n:=128) (by kernel_rfl) (by kernel_rfl) underlying225 underlying224 (by kernel_rfl) (by kernel_rfl) q;have d:YF.length=128:=by simp [YF]
 have b:=fun i (o:i<YF.length)=>G.cell (g:=3) (by kernel_rfl) i o;have j:3<w.heap.size:=World.block_lt_of_cell? w _ (b 0 (by rw [d];omega));obtain ⟨M,z,N,O,c0,A,P,J,v0,L,_,_,_,_,_,_,_,b0,b1⟩:=laid_sentinels2 (g0:=8) (g1:=0) r (by kernel_rfl) (by kernel_rfl) (by kernel_rfl) (by kernel_rfl) underlying59 QV underlying196 underlying198 rfl rfl underlying9 (by kernel_rfl) (by kernel_rfl);have H:w.cell? ⟨0,0,none⟩=some (m7 z):=by simpa using World.var?_cell (g:=0) (by kernel_rfl) L 0
 have f:w.cell? ⟨1,0,none⟩=some (CX 59):=by
  have I:=F ("errors.errorType", Rows.laid_errors_errorType) (by rw [UQ];simp)
  have p:∃ c u ty,(Rows.laid_errors_errorType:DataW Unit).handleName?=some c∧(prog.cutTypes.find? (·.1 == "internal/reflectlite.rtype")).map (·.2)=some u∧ty<prog.types.size∧prog.rowNamed ty c=true ∧
   w.var? prog "errors.errorType" = some #[.iface u (.agg #[typeHandle prog ty])]:=I
  obtain ⟨c,u,ty,k,l,B,C,v⟩:=p;rw [QY] at k;rw [X7] at l;simp only [kQ] at k l;subst k l;have y:=List.all_eq_true.1 IJ ty (List.mem_range.2 B);rw [C] at y;have D:ty=59:=by simpa using y
  subst D;rw [UR] at v;simpa using World.var?_cell (g:=1) (by kernel_rfl) v 0
 refine ⟨E,⟨fun i o=>b i (by rw [d];exact o),j⟩,j,?_,?_,fun a m=>?_⟩
 ·exact f
 ·exact World.block_lt_of_cell? w _ f
 ·rw [H] at m;simp only [kQ,Value.iface.injEq,Value.pointer.injEq,true_and] at m;subst m;exact ⟨A,J,b1⟩
end Go.Proofs.YthapcchcahnfaaaGreatDoor
