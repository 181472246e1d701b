/- Part of the proof that laws.FnSkip returns true for every argument. No conditions. -/
import Derived.Lib.IsU
import Derived.Lib.TrimU
set_option linter.all false
set_option maxHeartbeats 8000000
set_option maxRecDepth 100000
namespace Go.Proofs.YthapcchcahnfaaaGreatDoor
open Go
abbrev Bs:=List UInt8
inductive EK where
 | eof|own|syn|other
 deriving DecidableEq,Repr,Inhabited
structure cV where
 raw:Bool
 strict:Bool
 ents:Option (Bs→Option Bs)
 auto:List Bs
 space:Bs
 fails:Bool
def mM (fails:Bool):EK:=if fails then .own else .eof
def bY (fails:Bool):EK:=if fails then .own else .syn
def iX (c:UInt8):Bool:=(65≤c&&c≤90)||(97≤c&&c≤122)||(48≤c&&c≤57)||c==95||c==58||c==46||c==45
def cW (c:UInt8):Bool:=128≤c||iX c
def dB (l:Bs):Nat×Nat:=Lib.decodeGoB ⟨l.toArray⟩
def iO:Lib.RTab where
 r16:=#[(0x003A,0x003A,1),(0x0041,0x005A,1),(0x005F,0x005F,1),(0x0061,0x007A,1),(0x00C0,0x00D6,1),(0x00D8,0x00F6,1),(0x00F8,0x00FF,1),(0x0100,0x0131,1),(0x0134,0x013E,1),(0x0141,0x0148,1),(0x014A,0x017E,1),
  (0x0180,0x01C3,1),(0x01CD,0x01F0,1),(0x01F4,0x01F5,1),(0x01FA,0x0217,1),(0x0250,0x02A8,1),(0x02BB,0x02C1,1),(0x0386,0x0386,1),(0x0388,0x038A,1),(0x038C,0x038C,1),(0x038E,0x03A1,1),(0x03A3,0x03CE,1),(0x03D0,0x03D6,1),(0x03DA,0x03E0,2),(0x03E2,0x03F3,1),(0x0401,0x040C,1),(0x040E,0x044F,1),(0x0451,0x045C,1),(0x045E,0x0481,1),(0x0490,0x04C4,1),(0x04C7,0x04C8,1),(0x04CB,0x04CC,1),(0x04D0,0x04EB,1),(0x04EE,0x04F5,1),(0x04F8,0x04F9,1),(0x0531,0x0556,1),(0x0559,0x0559,1),(0x0561,0x0586,1),(0x05D0,0x05EA,1),(0x05F0,0x05F2,1),(0x0621,0x063A,1),(0x0641,0x064A,1),(0x0671,0x06B7,1),(0x06BA,0x06BE,1),(0x06C0,0x06CE,1),(0x06D0,0x06D3,1),(0x06D5,0x06D5,1),(0x06E5,0x06E6,1),(0x0905,0x0939,1),(0x093D,0x093D,1),(0x0958,0x0961,1),(0x0985,0x098C,1),(0x098F,0x0990,1),(0x0993,0x09A8,1),(0x09AA,0x09B0,1),(0x09B2,0x09B2,1),(0x09B6,0x09B9,1),(0x09DC,0x09DD,1),(0x09DF,0x09E1,1),(0x09F0,0x09F1,1),(0x0A05,0x0A0A,1),(0x0A0F,0x0A10,1),(0x0A13,0x0A28,1),(0x0A2A,0x0A30,1),(0x0A32,0x0A33,1),(0x0A35,0x0A36,1),(0x0A38,0x0A39,1),(0x0A59,0x0A5C,1),(0x0A5E,0x0A5E,1),(0x0A72,0x0A74,1),(0x0A85,0x0A8B,1),(0x0A8D,0x0A8D,1),(0x0A8F,0x0A91,1),(0x0A93,0x0AA8,1),(0x0AAA,0x0AB0,1),(0x0AB2,0x0AB3,1),(0x0AB5,0x0AB9,1),(0x0ABD,0x0AE0,35),(0x0B05,0x0B0C,1),(0x0B0F,0x0B10,1),(0x0B13,0x0B28,1),(0x0B2A,0x0B30,1),(0x0B32,0x0B33,1),(0x0B36,0x0B39,1),(0x0B3D,0x0B3D,1),(0x0B5C,0x0B5D,1),(0x0B5F,0x0B61,1),(0x0B85,0x0B8A,1),(0x0B8E,0x0B90,1),(0x0B92,0x0B95,1),(0x0B99,0x0B9A,1),(0x0B9C,0x0B9C,1),(0x0B9E,0x0B9F,1),(0x0BA3,0x0BA4,1),(0x0BA8,0x0BAA,1),(0x0BAE,0x0BB5,1),(0x0BB7,0x0BB9,1),(0x0C05,0x0C0C,1),(0x0C0E,0x0C10,1),(0x0C12,0x0C28,1),(0x0C2A,0x0C33,1),(0x0C35,0x0C39,1),(0x0C60,0x0C61,1),(0x0C85,0x0C8C,1),(0x0C8E,0x0C90,1),(0x0C92,0x0CA8,1),(0x0CAA,0x0CB3,1),(0x0CB5,0x0CB9,1),(0x0CDE,0x0CDE,1),(0x0CE0,0x0CE1,1),(0x0D05,0x0D0C,1),(0x0D0E,0x0D10,1),(0x0D12,0x0D28,1),(0x0D2A,0x0D39,1),(0x0D60,0x0D61,1),(0x0E01,0x0E2E,1),(0x0E30,0x0E30,1),(0x0E32,0x0E33,1),(0x0E40,0x0E45,1),(0x0E81,0x0E82,1),(0x0E84,0x0E84,1),(0x0E87,0x0E88,1),(0x0E8A,0x0E8D,3),(0x0E94,0x0E97,1),(0x0E99,0x0E9F,1),(0x0EA1,0x0EA3,1),(0x0EA5,0x0EA7,2),(0x0EAA,0x0EAB,1),(0x0EAD,0x0EAE,1),(0x0EB0,0x0EB0,1),(0x0EB2,0x0EB3,1),(0x0EBD,0x0EBD,1),(0x0EC0,0x0EC4,1),(0x0F40,0x0F47,1),(0x0F49,0x0F69,1),(0x10A0,0x10C5,1),(0x10D0,0x10F6,1),(0x1100,0x1100,1),(0x1102,0x1103,1),(0x1105,0x1107,1),(0x1109,0x1109,1),(0x110B,0x110C,1),(0x110E,0x1112,1),(0x113C,0x1140,2),(0x114C,0x1150,2),(0x1154,0x1155,1),(0x1159,0x1159,1),(0x115F,0x1161,1),(0x1163,0x1169,2),(0x116D,0x116E,1),(0x1172,0x1173,1),(0x1175,0x119E,41),(0x11A8,0x11AB,3),(0x11AE,0x11AF,1),(0x11B7,0x11B8,1),(0x11BA,0x11BA,1),(0x11BC,0x11C2,1),(0x11EB,0x11F0,5),(0x11F9,0x11F9,1),(0x1E00,0x1E9B,1),(0x1EA0,0x1EF9,1),(0x1F00,0x1F15,1),(0x1F18,0x1F1D,1),(0x1F20,0x1F45,1),(0x1F48,0x1F4D,1),(0x1F50,0x1F57,1),(0x1F59,0x1F5B,2),(0x1F5D,0x1F5D,1),(0x1F5F,0x1F7D,1),(0x1F80,0x1FB4,1),(0x1FB6,0x1FBC,1),(0x1FBE,0x1FBE,1),(0x1FC2,0x1FC4,1),(0x1FC6,0x1FCC,1),(0x1FD0,0x1FD3,1),(0x1FD6,0x1FDB,1),(0x1FE0,0x1FEC,1),(0x1FF2,0x1FF4,1),(0x1FF6,0x1FFC,1),(0x2126,0x2126,1),(0x212A,0x212B,1),(0x212E,0x212E,1),(0x2180,0x2182,1),(0x3007,0x3007,1),(0x3021,0x3029,1),(0x3041,0x3094,1),(0x30A1,0x30FA,1),(0x3105,0x312C,1),(0x4E00,0x9FA5,1),(0xAC00,0xD7A3,1)]
 r32:=#[]
 off:=0
def iY:Lib.RTab where
 r16:=#[(0x002D,0x002E,1),(0x0030,0x0039,1),(0x00B7,0x00B7,1),(0x02D0,0x02D1,1),(0x0300,0x0345,1),(0x0360,0x0361,1),(0x0387,0x0387,1),(0x0483,0x0486,1),
  (0x0591,0x05A1,1),(0x05A3,0x05B9,1),(0x05BB,0x05BD,1),(0x05BF,0x05BF,1),(0x05C1,0x05C2,1),(0x05C4,0x0640,124),(0x064B,0x0652,1),(0x0660,0x0669,1),
  (0x0670,0x0670,1),(0x06D6,0x06DC,1),(0x06DD,0x06DF,1),(0x06E0,0x06E4,1),(0x06E7,0x06E8,1),(0x06EA,0x06ED,1),(0x06F0,0x06F9,1),(0x0901,0x0903,1),
  (0x093C,0x093C,1),(0x093E,0x094C,1),(0x094D,0x094D,1),(0x0951,0x0954,1),(0x0962,0x0963,1),(0x0966,0x096F,1),(0x0981,0x0983,1),(0x09BC,0x09BC,1),
  (0x09BE,0x09BF,1),(0x09C0,0x09C4,1),(0x09C7,0x09C8,1),(0x09CB,0x09CD,1),(0x09D7,0x09D7,1),(0x09E2,0x09E3,1),(0x09E6,0x09EF,1),(0x0A02,0x0A3C,58),
  (0x0A3E,0x0A3F,1),(0x0A40,0x0A42,1),(0x0A47,0x0A48,1),(0x0A4B,0x0A4D,1),(0x0A66,0x0A6F,1),(0x0A70,0x0A71,1),(0x0A81,0x0A83,1),(0x0ABC,0x0ABC,1),
  (0x0ABE,0x0AC5,1),(0x0AC7,0x0AC9,1),(0x0ACB,0x0ACD,1),(0x0AE6,0x0AEF,1),(0x0B01,0x0B03,1),(0x0B3C,0x0B3C,1),(0x0B3E,0x0B43,1),(0x0B47,0x0B48,1),
  (0x0B4B,0x0B4D,1),(0x0B56,0x0B57,1),(0x0B66,0x0B6F,1),(0x0B82,0x0B83,1),(0x0BBE,0x0BC2,1),(0x0BC6,0x0BC8,1),(0x0BCA,0x0BCD,1),(0x0BD7,0x0BD7,1),
  (0x0BE7,0x0BEF,1),(0x0C01,0x0C03,1),(0x0C3E,0x0C44,1),(0x0C46,0x0C48,1),(0x0C4A,0x0C4D,1),(0x0C55,0x0C56,1),(0x0C66,0x0C6F,1),(0x0C82,0x0C83,1),
  (0x0CBE,0x0CC4,1),(0x0CC6,0x0CC8,1),(0x0CCA,0x0CCD,1),(0x0CD5,0x0CD6,1),(0x0CE6,0x0CEF,1),(0x0D02,0x0D03,1),(0x0D3E,0x0D43,1),(0x0D46,0x0D48,1),
  (0x0D4A,0x0D4D,1),(0x0D57,0x0D57,1),(0x0D66,0x0D6F,1),(0x0E31,0x0E31,1),(0x0E34,0x0E3A,1),(0x0E46,0x0E46,1),(0x0E47,0x0E4E,1),(0x0E50,0x0E59,1),
  (0x0EB1,0x0EB1,1),(0x0EB4,0x0EB9,1),(0x0EBB,0x0EBC,1),(0x0EC6,0x0EC6,1),(0x0EC8,0x0ECD,1),(0x0ED0,0x0ED9,1),(0x0F18,0x0F19,1),(0x0F20,0x0F29,1),
  (0x0F35,0x0F39,2),(0x0F3E,0x0F3F,1),(0x0F71,0x0F84,1),(0x0F86,0x0F8B,1),(0x0F90,0x0F95,1),(0x0F97,0x0F97,1),(0x0F99,0x0FAD,1),(0x0FB1,0x0FB7,1),
  (0x0FB9,0x0FB9,1),(0x20D0,0x20DC,1),(0x20E1,0x3005,3876),(0x302A,0x302F,1),(0x3031,0x3035,1),(0x3099,0x309A,1),(0x309D,0x309E,1),(0x30FC,0x30FE,1)]
 r32:=#[]
 off:=0
def gY (r:Nat):Bool:=Lib.isGo iO r
def fR (r:Nat):Bool:=Lib.isGo iO r||Lib.isGo iY r
def dV (p:Nat→Bool):Nat→Bs→Bool
 | 0,_=>true
 | k+1,l=>
  if l=[] then true
  else if (dB l).1=65533∧(dB l).2=1 then false
  else if p (dB l).1 then dV fR k (l.drop (dB l).2) else false
def cX (l:Bs):Bool:=if l=[] then false else dV gY l.length l
def bW (r:Nat):Bool:=r==9||r==10||r==13||(32≤r&&r≤0xD7FF)||(0xE000≤r&&r≤0xFFFD)||(0x10000≤r&&r≤0x10FFFF)
def cP:Nat→Bs→Bool
 | 0,_=>true
 | k+1,l=>
  if l=[] then true
  else if (dB l).1=65533∧(dB l).2=1 then false
  else if bW (dB l).1 then cP k (l.drop (dB l).2) else false
def bL (l:Bs):Bool:=cP l.length l
def l6 (b:UInt8):Bool:=b==32||b==13||b==10||b==9
def aT:Bs→Bs
 | []=>[]
 | b::r=>if l6 b then aT r else b::r
def aD:Bs→Bs×Bs
 | []=>([],[])
 | b::r=>if cW b then (b::(aD r).1,(aD r).2) else ([],b::r)
def eT (fails:Bool) (rest:Bs):Except EK (Bs×Bs):=
 if (aD rest).2=[] then .error (bY fails)
 else if (aD rest).1=[] then .error .syn
 else if cX (aD rest).1 then .ok (aD rest) else .error .syn
def dW (s:Bs):Nat:=(s.filter (·==58)).length
def dX (s:Bs):Bs×Bs:=
 match s.dropWhile (· != 58) with
 | []=>([],s)
 | _::loc=>if s.takeWhile (· != 58)=[]∨loc=[] then ([],s) else (s.takeWhile (· != 58),loc)
def cL (fails:Bool) (rest:Bs):Except EK ((Bs×Bs)×Bs):=
 match eT fails rest with
 | .error e=>.error e
 | .ok (s,r)=>if 1<dW s then .error .syn else .ok (dX s,r)
def eU (a:Bool) (b:UInt8):Bool:=(48≤b&&b≤57)||(a&&97≤b&&b≤102)||(a&&65≤b&&b≤70)
def dP (b:UInt8):Nat:=if b≤57 then b.toNat-48 else if 97≤b then b.toNat-87 else b.toNat-55
def fY (a:Bool) (c:Bs):Nat:=c.foldl (fun n b=>n*(if a then 16 else 10)+dP b) 0
def bX (a:Bool):Bs→Bs×Bs
 | []=>([],[])
 | b::r=>if eU a b then (b::(bX a r).1,(bX a r).2) else ([],b::r)
def gD (n:Nat):Bs:=(Utf8.encode n).data.toList
def rV (s:Bs):Option Bs:=
 if s=[108,116] then some [60] else if s=[103,116] then some [62] else if s=[97,109,112] then some [38]
 else if s=[97,112,111,115] then some [39] else if s=[113,117,111,116] then some [34] else none
def wS (ents:Option (Bs→Option Bs)) (s:Bs):Option Bs:=
 match rV s with
 | some t=>some t
 | none=>match ents with|none=>none|some f=>f s
def eM (fails:Bool) (a:Bool) (pre:Bs) (rest:Bs):Except EK (Bs×Option Bs×Bs):=
 match (bX a rest).2 with
 | []=>.error (bY fails)
 | b::after=>
  if b=59 then
   .ok (pre++(bX a rest).1++[59],(if (bX a rest).1=[]∨0x10FFFF<fY a (bX a rest).1 then none else some (gD (fY a (bX a rest).1))),after)
  else .ok (pre++(bX a rest).1,none,b::after)
def iG (fails:Bool) (ents:Option (Bs→Option Bs)):Bs→Except EK (Bs×Option Bs×Bs)
 | []=>.error (bY fails)
 | c::r=>
  if c=35 then
   match r with
   | []=>.error (bY fails)
   | d::r2=>
    if d=120 then (match r2 with|[]=>.error (bY fails)|_=>eM fails true [38,35,120] r2)
    else eM fails false [38,35] (d::r2)
  else
   match (aD (c::r)).2 with
   | []=>.error (bY fails)
   | b::after=>
    if b=59 then .ok (38::(aD (c::r)).1++[59],(if cX (aD (c::r)).1 then wS ents (aD (c::r)).1 else none),after)
    else .ok (38::(aD (c::r)).1,none,b::after)
theorem CP (a:Bool) (l:Bs):(bX a l).2.length≤l.length:=by
 induction l with
 | nil=>simp [bX]
 | cons b r ih=>unfold bX;split<;>simp<;>omega
theorem A7 (l:Bs):(aD l).2.length≤l.length:=by
 induction l with
 | nil=>simp [aD]
 | cons b r ih=>unfold aD;split<;>simp<;>omega
theorem wT {fails c:Bool} {pre rest:Bs} {a:Bs} {t:Option Bs} {r:Bs} (h:eM fails c pre rest=.ok (a,t,r)):r.length≤rest.length:=by
 unfold eM at h;have e:=CP c rest;split at h
 ·cases h
 ·rename_i b d f;rw [f] at e;split at h<;>(simp only [Except.ok.injEq,Prod.mk.injEq] at h;obtain ⟨_,_,rfl⟩:=h;simp at e ⊢;omega)
theorem gE {fails:Bool} {ents:Option (Bs→Option Bs)} {rest:Bs} {a:Bs} {t:Option Bs} {r:Bs} (h:iG fails ents rest=.ok (a,t,r)):r.length≤rest.length:=by
 unfold iG at h;split at h
 ·cases h
 ·rename_i c g;split at h
  ·split at h
   ·cases h
   ·split at h
    ·split at h
     ·cases h
     ·have:=wT h;simp;omega
    ·have:=wT h;simp at this ⊢;omega
  ·have e:=A7 (c::g);split at h
   ·cases h
   ·rename_i b d f;rw [f] at e;split at h<;>(simp only [Except.ok.injEq,Prod.mk.injEq] at h;obtain ⟨_,_,rfl⟩:=h;simp at e ⊢;omega)
def bF (o:cV) (d:Option UInt8) (c:Bool) (rest:Bs) (b0 b1:UInt8) (a:Bs):Except EK (Bs×Bs):=
 match rest with
 | []=>if c then .error (bY o.fails) else if bL a then .ok (a,[]) else .error .syn
 | b::r=>
  if d=none∧b0=93∧b1=93∧b=62 then
   (if c then (if bL (a.take (a.length-2)) then .ok (a.take (a.length-2),r) else .error .syn) else .error .syn)
  else if b=60∧c=false then (if d=none then (if bL a then .ok (a,b::r) else .error .syn) else .error .syn)
  else if d=some b then (if bL a then .ok (a,r) else .error .syn)
  else if b=38∧c=false then
   match _h:iG o.fails o.ents r with
   | .error e=>.error e
   | .ok (_,some t,r')=>bF o d c r' 0 0 (a++t)
   | .ok (raw,none,r')=>if o.strict then .error .syn else bF o d c r' 0 0 (a++raw)
  else bF o d c r b1 b (if b=13 then a++[10] else if b1=13∧b=10 then a else a++[b])
termination_by rest.length
decreasing_by
 all_goals simp_wf
 all_goals first|(have:=gE _h;omega)|omega
def qU (b:UInt8):Bool:=(97≤b&&b≤122)||(65≤b&&b≤90)||(48≤b&&b≤57)||b==95||b==58||b==45
def f9:Bs→Bs×Bs
 | []=>([],[])
 | b::r=>if qU b then (b::(f9 r).1,(f9 r).2) else ([],b::r)
def dY (o:cV):Bs→Except EK (Bs×Bs)
 | []=>.error (bY o.fails)
 | q::r=>
  if q=34∨q=39 then bF o (some q) false r 0 0 []
  else if o.strict then .error .syn
  else match (f9 (q::r)).2 with
   | []=>.error (bY o.fails)
   | _=>.ok (f9 (q::r))
abbrev cO:=Bs×Bs×Bs
def gF (o:cV) (r:Bs):Except EK (cO×Bs):=
 match cL o.fails r with
 | .error e=>.error e
 | .ok (nm,r2)=>
  match aT r2 with
  | []=>.error (bY o.fails)
  | b::r4=>
   if b=61 then
    match dY o (aT r4) with
    | .error e=>.error e
    | .ok (v,r5)=>.ok ((nm.1,nm.2,v),r5)
   else if o.strict then .error .syn else .ok ((nm.1,nm.2,nm.2),b::r4)
def dL (o:cV):Nat→Bs→List cO→Except EK (List cO×Bool×Bs)
 | 0,_,_=>.error .other
 | k+1,rest,acc=>
  match aT rest with
  | []=>.error (bY o.fails)
  | b::r2=>
   if b=47 then
    match r2 with
    | []=>.error (bY o.fails)
    | c::r3=>if c=62 then .ok (acc,true,r3) else .error .syn
   else if b=62 then .ok (acc,false,r2)
   else match gF o (b::r2) with
    | .error e=>.error e
    | .ok (a,r5)=>dL o k r5 (acc++[a])
def cE (fails:Bool):Bs→UInt8→UInt8→Bs→Except EK (Bs×Bs)
 | [],_,_,_=>.error (bY fails)
 | b::r,b0,b1,buf=>
  if b0=45∧b1=45 then (if b=62 then .ok (buf.take (buf.length-2),r) else .error .syn)
  else cE fails r b1 b (buf++[b])
def jI (fails:Bool):Bs→UInt8→Bs→Except EK (Bs×Bs)
 | [],_,_=>.error (bY fails)
 | b::r,b0,buf=>if b0=63∧b=62 then .ok (buf.take (buf.length-1),r) else jI fails r b (buf++[b])
def cY (fails:Bool):Bs→UInt8→UInt8→Except EK Bs
 | [],_,_=>.error (bY fails)
 | b::r,b0,b1=>if b0=45∧b1=45∧b=62 then .ok r else cY fails r b1 b
theorem jX {fails:Bool}:∀ {l:Bs} {b0 b1:UInt8} {r:Bs},cY fails l b0 b1=.ok r→r.length<l.length
 | [],_,_,_,h=>by simp [cY] at h
 | b::l,b0,b1,r,h=>by
  unfold cY at h;split at h
  ·simp only [Except.ok.injEq] at h;subst h;simp
  ·have:=jX h;simp;omega
mutual
def eZ (fails:Bool) (rest:Bs) (d:UInt8) (a:Int) (c:Bs):Except EK (Bs×Bs):=
 match rest with
 | []=>.error (bY fails)
 | b::r=>if d=0∧b=62∧a=0 then .ok (c,r) else gP fails b r d a c
termination_by (rest.length,0)
def gP (fails:Bool) (b:UInt8) (r:Bs) (d:UInt8) (a:Int) (c:Bs):Except EK (Bs×Bs):=
 if b=d then eZ fails r 0 a (c++[b])
 else if d≠0 then eZ fails r d a (c++[b])
 else if b=39∨b=34 then eZ fails r b a (c++[b])
 else if b=62 then eZ fails r d (a-1) (c++[b])
 else if b=60 then
  match r with
  | []=>.error (bY fails)
  | c1::r1=>
   if c1=33 then
    match r1 with
    | []=>.error (bY fails)
    | c2::r2=>
     if c2=45 then
      match r2 with
      | []=>.error (bY fails)
      | c3::r3=>
       if c3=45 then
        match _h:cY fails r3 0 0 with
        | .error e=>.error e
        | .ok r4=>eZ fails r4 d a (c++[32])
       else gP fails c3 r3 d (a+1) (c++[60,33,45])
     else gP fails c2 r2 d (a+1) (c++[60,33])
   else gP fails c1 r1 d (a+1) (c++[60])
 else eZ fails r d a (c++[b])
termination_by (r.length,1)
decreasing_by
 all_goals simp_wf
 all_goals first|(have:=jX _h;simp [Prod.lex_def];omega)|(simp [Prod.lex_def];try omega)
end
def l7 (p:Bs):Bs→Option Bs
 | []=>if p=[] then some [] else none
 | b::r=>if p.isPrefixOf (b::r) then some ((b::r).drop p.length) else l7 p r
theorem pN {p:Bs}:∀ {l r:Bs},l7 p l=some r→r.length≤l.length
 | [],r,h=>by unfold l7 at h;split at h<;>simp_all
 | b::l,r,h=>by
  unfold l7 at h;split at h
  ·simp only [Option.some.injEq] at h;subst h;simp only [List.length_drop];omega
  ·have:=pN h;simp;omega
def hZ (c:UInt8):Bs→Option Bs
 | []=>none
 | b::r=>if b=c then some [] else (hZ c r).map (b::·)
def eN (p:Bs) (a:Bs):Bs:=
 if a=[] then []
 else
  match _h:l7 p a with
  | none=>[]
  | some []=>[]
  | some (c::t)=>if c=39∨c=34 then (hZ c t).getD [] else eN p t
termination_by a.length
decreasing_by have:=pN _h;simp at this;omega
def eI (b:UInt8):UInt8:=if 65≤b&&b≤90 then b+32 else b
def pO (enc:Bs):Bool:=enc.map eI==[117,116,102,45,56]
def QZ:Bs:=[118,101,114,115,105,111,110,61]
def MJ:Bs:=[101,110,99,111,100,105,110,103,61]
def A8 (a:Bs):Bool:=
 (eN QZ a==[]||eN QZ a==[49,46,48])&&(eN MJ a==[]||pO (eN MJ a))
inductive aP where
 | start (name:Bs×Bs) (attrs:List cO)
 | fin (name:Bs×Bs)
 | text (d:Bs)
 | comment (d:Bs)
 | proc (a b:Bs)
 | dir (d:Bs)
 deriving Repr,Inhabited,DecidableEq
def m8 (o:cV) (rest:Bs):Except EK (aP×Bs):=
 match cL o.fails rest with
 | .error e=>.error e
 | .ok (nm,r)=>
  match aT r with
  | []=>.error (bY o.fails)
  | b::r2=>if b=62 then .ok (.fin nm,r2) else .error .syn
def y4 (o:cV) (rest:Bs):Except EK (aP×Bs):=
 match eT o.fails rest with
 | .error e=>.error e
 | .ok (tg,r)=>
  match jI o.fails (aT r) 0 [] with
  | .error e=>.error e
  | .ok (inst,r2)=>if tg=[120,109,108]∧A8 inst=false then .error .other else .ok (.proc tg inst,r2)
def fA (fails:Bool):Bs→Bs→Except EK Bs
 | [],r=>.ok r
 | _::_,[]=>.error (bY fails)
 | p::ps,b::r=>if b=p then fA fails ps r else .error .syn
def jJ (o:cV):Bs→Except EK (aP×Bs)
 | []=>.error (bY o.fails)
 | b::r=>
  if b=45 then
   match r with
   | []=>.error (bY o.fails)
   | c::r2=>
    if c=45 then
     match cE o.fails r2 0 0 [] with
     | .error e=>.error e
     | .ok (d,r3)=>.ok (.comment d,r3)
    else .error .syn
  else if b=91 then
   match fA o.fails [67,68,65,84,65,91] r with
   | .error e=>.error e
   | .ok r2=>
    match bF o none true r2 0 0 [] with
    | .error e=>.error e
    | .ok (d,r3)=>.ok (.text d,r3)
  else
   match eZ o.fails r 0 0 [b] with
   | .error e=>.error e
   | .ok (d,r2)=>.ok (.dir d,r2)
def fB (o:cV) (rest:Bs):Except EK (((Bs×Bs)×List cO)×Bool×Bs):=
 match cL o.fails rest with
 | .error e=>.error e
 | .ok (nm,r)=>
  match dL o (r.length+1) r [] with
  | .error e=>.error e
  | .ok (as,em,r2)=>.ok ((nm,as),em,r2)
structure iH where
 kind:Nat
 space:Bs
 loc:Bs
 ok:Bool
 deriving Repr,Inhabited,DecidableEq
structure St where
 rest:Bs
 ended:Bool
 toClose:Option (Bs×Bs)
 stk:List iH
 ns:Bs→Option Bs
 next:Option aP
def St.init (a:Bs):St:={ rest:=a,ended:=false,toClose:=none,stk:=[],ns:=fun _=>none,next:=none }
def fK (o:cV) (s:St):Except EK (aP×St):=
 if s.ended then .error (mM o.fails)
 else
  match s.toClose with
  | some nm=>.ok (.fin nm,{ s with toClose:=none })
  | none=>
   match s.rest with
   | []=>.error (mM o.fails)
   | b::r=>
    if b≠60 then
     match bF o none false (b::r) 0 0 [] with
     | .error e=>.error e
     | .ok (d,r2)=>.ok (.text d,{ s with rest:=r2,ended:=r2==[] })
    else
     match r with
     | []=>.error (bY o.fails)
     | c::r2=>
      if c=47 then (match m8 o r2 with|.error e=>.error e|.ok (t,r3)=>.ok (t,{ s with rest:=r3 }))
      else if c=63 then (match y4 o r2 with|.error e=>.error e|.ok (t,r3)=>.ok (t,{ s with rest:=r3 }))
      else if c=33 then (match jJ o r2 with|.error e=>.error e|.ok (t,r3)=>.ok (t,{ s with rest:=r3 }))
      else
       match fB o (c::r2) with
       | .error e=>.error e
       | .ok ((nm,as),em,r3)=>.ok (.start nm as,{ s with rest:=r3,toClose:=if em then some nm else none })
def bD:Bs:=[120,109,108,110,115]
def mN:Bs:=[120,109,108]
def dN:Bs:=[104,116,116,112,58,47,47,119,119,119,46,119,51,46,111,114,103,47,88,77,76,47,49,57,57,56,47,110,97,109,101,115,112,97,99,101]
def cR (o:cV) (b:Bs→Option Bs) (nm:Bs×Bs) (a:Bool):Bs×Bs:=
 if nm.1=bD then nm
 else if nm.1=[]∧a=false then nm
 else if nm.1≠mN∧nm.1=[]∧nm.2=bD then nm
 else
  let sp:=if nm.1=mN then dN else nm.1
  match b sp with
  | some v=>(v,nm.2)
  | none=>if sp=[] then (o.space,nm.2) else (sp,nm.2)
def gO (a:Bs→Option Bs) (k:Bs) (v:Option Bs):Bs→Option Bs:=fun x=>if x=k then v else a x
def dH:List cO→List iH→(Bs→Option Bs)→List iH×(Bs→Option Bs)
 | [],stk,ns=>(stk,ns)
 | (sp,loc,v)::as,stk,ns=>
  let (stk,ns):=if sp=bD then ({ kind:=1,space:=(ns loc).getD [],loc:=loc,ok:=(ns loc).isSome }::stk,gO ns loc (some v)) else (stk,ns)
  let (stk,ns):=if sp=[]∧loc=bD then ({ kind:=1,space:=(ns []).getD [],loc:=[],ok:=(ns []).isSome }::stk,gO ns [] (some v)) else (stk,ns)
  dH as stk ns
def fD:List iH→(Bs→Option Bs)→List iH×(Bs→Option Bs)
 | [],ns=>([],ns)
 | e::stk,ns=>if e.kind=0 then (e::stk,ns) else fD stk (gO ns e.loc (if e.ok then some e.space else none))
def lG (o:cV) (nm:Bs×Bs) (s:St):Except EK (aP×St):=
 match s.stk with
 | []=>.error .syn
 | e::stk=>
  if e.kind≠0 then .error .syn
  else if e.loc≠nm.2 then
   if o.strict then .error .syn
   else .ok (.fin (e.space,e.loc),{ s with stk:=stk,toClose:=some nm })
  else if e.space≠nm.1 then .error .syn
  else .ok (.fin (cR o s.ns nm true),{ s with stk:=(fD stk s.ns).1,ns:=(fD stk s.ns).2 })
def cI (o:cV) (t:aP) (s:St):Except EK (aP×St):=
 match t with
 | .start nm as=>
  let (stk,ns):=dH as s.stk s.ns
  .ok (.start (cR o ns nm true) (as.map fun a=>let q:=cR o ns (a.1,a.2.1) false;(q.1,q.2,a.2.2)),
   { s with stk:={ kind:=0,space:=nm.1,loc:=nm.2,ok:=false }::stk,ns:=ns })
 | .fin nm=>lG o nm s
 | t=>.ok (t,s)
def jY (fold:Bs→Bs→Bool) (o:cV) (t:aP) (s:St):Option (Bs×Bs):=
 match s.stk with
 | []=>none
 | e::_=>
  if e.kind≠0 then none
  else if o.auto.any (fun a=>fold a e.loc) then
   match t with
   | .fin nm=>if fold nm.2 e.loc then none else some (e.space,e.loc)
   | _=>some (e.space,e.loc)
  else none
def jT (fold:Bs→Bs→Bool) (o:cV) (s:St):Except EK (aP×St):=
 let got:Except EK (aP×St):=match s.next with
  | some t=>.ok (t,{ s with next:=none })
  | none=>match fK o s with
   | .ok x=>.ok x
   | .error e=>.error (if e=.eof∧s.stk≠[] then .syn else e)
 match got with
 | .error e=>.error e
 | .ok (t,s)=>
  if o.strict then cI o t s
  else match jY fold o t s with
   | none=>cI o t s
   | some nm=>cI o (.fin nm) { s with next:=some t }
def stepL (fold:Bs→Bs→Bool) (o:cV) (s:St):Except EK (aP×St):=if o.raw then fK o s else jT fold o s
structure bS where
 kind:Nat
 space:Bs
 loc:Bs
 attrs:List cO
 text:Bs
 at':Nat
 line:Nat
 col:Nat
 deriving Repr,Inhabited,DecidableEq
def oN (l:Bs):Nat:=1+(l.filter (·==10)).length
def uT (l:Bs):Nat:=1+(l.reverse.takeWhile (· != 10)).length
def aP.itok (t:aP) (pre:Bs):bS:=
 let p:bS:={ kind:=0,space:=[],loc:=[],attrs:=[],text:=[],at':=pre.length,line:=oN pre,col:=uT pre }
 match t with
 | .start nm as=>{ p with kind:=1,space:=nm.1,loc:=nm.2,attrs:=as }
 | .fin nm=>{ p with kind:=2,space:=nm.1,loc:=nm.2 }
 | .text d=>{ p with kind:=3,text:=d }
 | .comment d=>{ p with kind:=4,text:=d }
 | .proc tg i=>{ p with kind:=5,loc:=tg,text:=i }
 | .dir d=>{ p with kind:=6,text:=d }
def EK.code:EK→Nat
 | .eof=>0
 | .syn=>1
 | .own=>2
 | .other=>3
theorem cD {ε α:Type} {a b:α}:((Except.ok a:Except ε α)=.ok b)=(a=b):=Except.ok.injEq a b
theorem b8 {α β:Type} {a c:α} {b d:β}:((a,b)=(c,d))=(a=c∧b=d):=Prod.mk.injEq a b c d
theorem jW {α:Type} {a b:α}:(some a=some b)=(a=b):=Option.some.injEq a b
def eC:=@List.length_drop
def fP:=@List.length_append
def f5:=@List.length_cons
def dF:=@Nat.le_refl
def aQ:=@if_neg
def aY:=@if_pos
def aG:=@Or.inl
def aU:=@Or.inr
def fQ:=@Nat.le_trans
def jU:=@Nat.zero_le
def rF:=@List.getD_eq_getElem?_getD
def lQ:=@beq_eq_false_iff_ne
def wC:=@List.eq_nil_of_length_eq_zero
def tW:=@List.drop_eq_nil_of_le
def pH:=@List.suffix_cons
def rW:=@Bool.false_eq_true
def mF:=@List.mem_cons
def rG:=@List.append_assoc
def pI:=@List.length_take
def FI:=@Bool.and_eq_true
def rH:=@List.cons_append
def pL:=@Nat.lt_of_lt_of_le
def A9:=@List.getElem?_eq_some_iff
def CN:=@List.drop_eq_getElem_cons
def CQ:=@List.getElem?_append_right
def y5:=@List.not_mem_nil
def IC:=@decide_eq_true_eq
end Go.Proofs.YthapcchcahnfaaaGreatDoor
