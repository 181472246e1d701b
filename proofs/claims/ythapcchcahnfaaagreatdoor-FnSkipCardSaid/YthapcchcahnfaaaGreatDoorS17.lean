/- Part of the proof that laws.FnSkip returns true for every argument. No conditions. -/
import Derived.Test.YthapcchcahnfaaaGreatDoorS16
import Derived.Test.YthapcchcahnfaaaGreatDoorS14
import Derived.Test.YthapcchcahnfaaaGreatDoorS12
set_option linter.all false
set_option maxHeartbeats 8000000
set_option maxRecDepth 100000
namespace Go.Proofs.YthapcchcahnfaaaGreatDoor
open Go Go.RowKit
theorem Ad (l:Bs) (k:Nat):∀ h,(⟨l.toArray⟩:ByteArray)[k]'h=l.getD k 0:=by
 intro h;have a:k<l.length:=by simpa [ByteArray.size] using h
 show l.toArray[k]=_;simp [a]
theorem RM (l:Bs) (k:Nat):(⟨l.toArray⟩:ByteArray).get! k=l.getD k 0:=by
 show l.toArray[k]! = _;by_cases h:k<l.length
 ·simp [h]
 ·simp [h];rfl
theorem VJ (l:Bs) (h:1≤l.length):dB l=Lib.decodeN l.length (l.getD 0 0).toNat (l.getD 1 0).toNat (l.getD 2 0).toNat (l.getD 3 0).toNat:=by
 have a:(⟨l.toArray⟩:ByteArray).size=l.length:=by simp [ByteArray.size]
 unfold dB Lib.decodeGoB;rw [aQ (by omega),Lib.decode_at,RM,RM,RM,RM,a];rfl
theorem VK (l:Bs) (h:dB l=(65533,1)):aI l=(0,0):=by
 unfold aI;rw [h];rfl
theorem X4 (l:Bs) (r n:Nat) (h:dB l=(r,n)) (c:n≠1∨r<128):aI l=(r,n):=by
 unfold aI;rw [h,aQ];rintro ⟨a,b⟩;simp only at a b;omega
theorem mB (l:Bs) (x:l≠[]) (w:World):Calls Tryz.prog 58 #[aB l] w fun e w'=>e=.returned (.tuple #[.int .i64 (aI l).1,.int .i64 (aI l).2])∧w=w':=by
 have j:1≤l.length:=by cases l with
  | nil=>exact absurd rfl x
  | cons=>simp
 have b:=Ad l 0;have f:=Ad l 1;have i:=Ad l 2;have m:=Ad l 3;have q:=VJ l j;generalize l.getD 0 0=c at *;generalize l.getD 1 0=d at *;generalize l.getD 2 0=e at *;generalize l.getD 3 0=g at *;have s:=c.toNat_lt;have t:=d.toNat_lt;have u:=e.toNat_lt;have v:=g.toNat_lt;have a:∀ (h:Lib.decodeN l.length c.toNat d.toNat e.toNat g.toNat=(65533,1)),aI l=(0,0):=fun h=>VK l (q.trans h);have o:∀ r n (_:n≠1∨r<128) (_:Lib.decodeN l.length c.toNat d.toNat e.toNat g.toNat=(r,n)),aI l=(r,n):=fun r n y h=>X4 l r n (q.trans h) y;clear q;by_cases p:c.toNat<128
 ·rw [o c.toNat 1 (aU p) (by unfold Lib.decodeN;rw [aY p])];exact KE l c w j b p
 by_cases z:c.toNat<194∨245≤c.toNat
 ·rw [a (by unfold Lib.decodeN;(repeat' split)<;>first|rfl|(exfalso;omega))];exact NS l c w j b (by omega)
 by_cases A:c.toNat<224
 ·by_cases k:l.length<2
  ·rw [a (by unfold Lib.decodeN;(repeat' split)<;>first|rfl|(exfalso;omega))];exact F0 l c w j k b (by omega)
  by_cases b1:d.toNat / 64=2
  rotate_left
  ·rw [a (by unfold Lib.decodeN;(repeat' split)<;>first|rfl|(exfalso;omega))];exact KF l c d w (by omega) b f (by omega) b1
  ·
   rw [o (c.toNat % 32*64+d.toNat % 64) 2 (aG (by decide)) (by unfold Lib.decodeN;(repeat' split)<;>first|(exfalso;omega)|(congr 1;omega)|rfl)];exact RJ l c d w (by omega) b f (by omega) b1 trivial
 by_cases B:c.toNat<240
 ·by_cases k:l.length<3
  ·rw [a (by unfold Lib.decodeN;(repeat' split)<;>first|rfl|(exfalso;omega))];exact F1 l c w j k b (by omega)
  by_cases b1:d.toNat / 64=2
  rotate_left
  ·rw [a (by unfold Lib.decodeN;(repeat' split)<;>first|rfl|(exfalso;omega))];exact KG l c d w (by omega) b f (by omega) b1
  by_cases b2:e.toNat / 64=2
  rotate_left
  ·rw [a (by unfold Lib.decodeN;(repeat' split)<;>first|rfl|(exfalso;omega))];exact KH l c d e w (by omega) b f i (by omega) b1 b2
  by_cases r1:(c.toNat % 16*64+d.toNat % 64)*64+e.toNat % 64<2048
  ·rw [a (by unfold Lib.decodeN;(repeat' split)<;>first|rfl|(exfalso;omega))];exact KI l c d e w (by omega) b f i (by omega) b1 b2 r1
  by_cases r2:55296≤(c.toNat % 16*64+d.toNat % 64)*64+e.toNat % 64∧(c.toNat % 16*64+d.toNat % 64)*64+e.toNat % 64<57344
  ·rw [a (by unfold Lib.decodeN;(repeat' split)<;>first|rfl|(exfalso;omega))];exact KJ l c d e w (by omega) b f i (by omega) b1 b2 r2
  ·
   rw [o ((c.toNat % 16*64+d.toNat % 64)*64+e.toNat % 64) 3 (aG (by decide)) (by unfold Lib.decodeN;(repeat' split)<;>first|(exfalso;omega)|(congr 1;omega)|rfl)];exact RK l c d e w (by omega) b f i (by omega) b1 b2 (by omega)
 by_cases k:l.length<4
 ·rw [a (by unfold Lib.decodeN;(repeat' split)<;>first|rfl|(exfalso;omega))];exact F2 l c w j k b (by omega)
 by_cases b1:d.toNat / 64=2
 rotate_left
 ·rw [a (by unfold Lib.decodeN;(repeat' split)<;>first|rfl|(exfalso;omega))];exact KK l c d w (by omega) b f (by omega) b1
 by_cases b2:e.toNat / 64=2
 rotate_left
 ·rw [a (by unfold Lib.decodeN;(repeat' split)<;>first|rfl|(exfalso;omega))];exact KL l c d e w (by omega) b f i (by omega) b1 b2
 by_cases b3:g.toNat / 64=2
 rotate_left
 ·rw [a (by unfold Lib.decodeN;(repeat' split)<;>first|rfl|(exfalso;omega))];exact KM l c d e g w (by omega) b f i m (by omega) b1 b2 b3
 by_cases r1:((c.toNat % 8*64+d.toNat % 64)*64+e.toNat % 64)*64+g.toNat % 64<65536
 ·rw [a (by unfold Lib.decodeN;(repeat' split)<;>first|rfl|(exfalso;omega))];exact KN l c d e g w (by omega) b f i m (by omega) b1 b2 b3 r1
 by_cases r2:1114111<((c.toNat % 8*64+d.toNat % 64)*64+e.toNat % 64)*64+g.toNat % 64
 ·rw [a (by unfold Lib.decodeN;(repeat' split)<;>first|rfl|(exfalso;omega))];exact F3 l c d e g w (by omega) b f i m (by omega) b1 b2 b3 r2
 ·
  rw [o (((c.toNat % 8*64+d.toNat % 64)*64+e.toNat % 64)*64+g.toNat % 64) 4 (aG (by decide)) (by unfold Lib.decodeN;(repeat' split)<;>first|(exfalso;omega)|(congr 1;omega)|rfl)];exact RL l c d e g w (by omega) b f i m (by omega) b1 b2 b3 (by omega)
end Go.Proofs.YthapcchcahnfaaaGreatDoor
