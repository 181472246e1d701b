/- Part of the proof that laws.FnRawTokens returns true for every argument. No conditions. -/
import Derived.Lib.IsU
import Derived.Lib.TrimU
set_option linter.all false
set_option maxHeartbeats 8000000
set_option maxRecDepth 100000
namespace Go.Proofs.YtdjdjbpnbjdaaaaGreatDoor
open Go
abbrev Bs:=List UInt8
inductive EK where
 | eof|own|syn|other
 deriving DecidableEq,Repr,Inhabited
structure cU where
 raw:Bool
 strict:Bool
 ents:Option (Bs→Option Bs)
 auto:List Bs
 space:Bs
 fails:Bool
def qK (fails:Bool):EK:=if fails then .own else .eof
def bW (fails:Bool):EK:=if fails then .own else .syn
def jZ (c:UInt8):Bool:=(65≤c&&c≤90)||(97≤c&&c≤122)||(48≤c&&c≤57)||c==95||c==58||c==46||c==45
def cP (c:UInt8):Bool:=128≤c||jZ c
def cV (l:Bs):Nat×Nat:=Lib.decodeGoB ⟨l.toArray⟩
def jO:Lib.RTab where
 r16:=#[(0x003A,0x003A,1),(0x0041,0x005A,1),(0x005F,0x005F,1),(0x0061,0x007A,1),(0x00C0,0x00D6,1),(0x00D8,0x00F6,1),(0x00F8,0x00FF,1),(0x0100,0x0131,1),(0x0134,0x013E,1),(0x0141,0x0148,1),(0x014A,0x017E,1),
  (0x0180,0x01C3,1),(0x01CD,0x01F0,1),(0x01F4,0x01F5,1),(0x01FA,0x0217,1),(0x0250,0x02A8,1),(0x02BB,0x02C1,1),(0x0386,0x0386,1),(0x0388,0x038A,1),(0x038C,0x038C,1),(0x038E,0x03A1,1),(0x03A3,0x03CE,1),(0x03D0,0x03D6,1),(0x03DA,0x03E0,2),(0x03E2,0x03F3,1),(0x0401,0x040C,1),(0x040E,0x044F,1),(0x0451,0x045C,1),(0x045E,0x0481,1),(0x0490,0x04C4,1),(0x04C7,0x04C8,1),(0x04CB,0x04CC,1),(0x04D0,0x04EB,1),(0x04EE,0x04F5,1),(0x04F8,0x04F9,1),(0x0531,0x0556,1),(0x0559,0x0559,1),(0x0561,0x0586,1),(0x05D0,0x05EA,1),(0x05F0,0x05F2,1),(0x0621,0x063A,1),(0x0641,0x064A,1),(0x0671,0x06B7,1),(0x06BA,0x06BE,1),(0x06C0,0x06CE,1),(0x06D0,0x06D3,1),(0x06D5,0x06D5,1),(0x06E5,0x06E6,1),(0x0905,0x0939,1),(0x093D,0x093D,1),(0x0958,0x0961,1),(0x0985,0x098C,1),(0x098F,0x0990,1),(0x0993,0x09A8,1),(0x09AA,0x09B0,1),(0x09B2,0x09B2,1),(0x09B6,0x09B9,1),(0x09DC,0x09DD,1),(0x09DF,0x09E1,1),(0x09F0,0x09F1,1),(0x0A05,0x0A0A,1),(0x0A0F,0x0A10,1),(0x0A13,0x0A28,1),(0x0A2A,0x0A30,1),(0x0A32,0x0A33,1),(0x0A35,0x0A36,1),(0x0A38,0x0A39,1),(0x0A59,0x0A5C,1),(0x0A5E,0x0A5E,1),(0x0A72,0x0A74,1),(0x0A85,0x0A8B,1),(0x0A8D,0x0A8D,1),(0x0A8F,0x0A91,1),(0x0A93,0x0AA8,1),(0x0AAA,0x0AB0,1),(0x0AB2,0x0AB3,1),(0x0AB5,0x0AB9,1),(0x0ABD,0x0AE0,35),(0x0B05,0x0B0C,1),(0x0B0F,0x0B10,1),(0x0B13,0x0B28,1),(0x0B2A,0x0B30,1),(0x0B32,0x0B33,1),(0x0B36,0x0B39,1),(0x0B3D,0x0B3D,1),(0x0B5C,0x0B5D,1),(0x0B5F,0x0B61,1),(0x0B85,0x0B8A,1),(0x0B8E,0x0B90,1),(0x0B92,0x0B95,1),(0x0B99,0x0B9A,1),(0x0B9C,0x0B9C,1),(0x0B9E,0x0B9F,1),(0x0BA3,0x0BA4,1),(0x0BA8,0x0BAA,1),(0x0BAE,0x0BB5,1),(0x0BB7,0x0BB9,1),(0x0C05,0x0C0C,1),(0x0C0E,0x0C10,1),(0x0C12,0x0C28,1),(0x0C2A,0x0C33,1),(0x0C35,0x0C39,1),(0x0C60,0x0C61,1),(0x0C85,0x0C8C,1),(0x0C8E,0x0C90,1),(0x0C92,0x0CA8,1),(0x0CAA,0x0CB3,1),(0x0CB5,0x0CB9,1),(0x0CDE,0x0CDE,1),(0x0CE0,0x0CE1,1),(0x0D05,0x0D0C,1),(0x0D0E,0x0D10,1),(0x0D12,0x0D28,1),(0x0D2A,0x0D39,1),(0x0D60,0x0D61,1),(0x0E01,0x0E2E,1),(0x0E30,0x0E30,1),(0x0E32,0x0E33,1),(0x0E40,0x0E45,1),(0x0E81,0x0E82,1),(0x0E84,0x0E84,1),(0x0E87,0x0E88,1),(0x0E8A,0x0E8D,3),(0x0E94,0x0E97,1),(0x0E99,0x0E9F,1),(0x0EA1,0x0EA3,1),(0x0EA5,0x0EA7,2),(0x0EAA,0x0EAB,1),(0x0EAD,0x0EAE,1),(0x0EB0,0x0EB0,1),(0x0EB2,0x0EB3,1),(0x0EBD,0x0EBD,1),(0x0EC0,0x0EC4,1),(0x0F40,0x0F47,1),(0x0F49,0x0F69,1),(0x10A0,0x10C5,1),(0x10D0,0x10F6,1),(0x1100,0x1100,1),(0x1102,0x1103,1),(0x1105,0x1107,1),(0x1109,0x1109,1),(0x110B,0x110C,1),(0x110E,0x1112,1),(0x113C,0x1140,2),(0x114C,0x1150,2),(0x1154,0x1155,1),(0x1159,0x1159,1),(0x115F,0x1161,1),(0x1163,0x1169,2),(0x116D,0x116E,1),(0x1172,0x1173,1),(0x1175,0x119E,41),(0x11A8,0x11AB,3),(0x11AE,0x11AF,1),(0x11B7,0x11B8,1),(0x11BA,0x11BA,1),(0x11BC,0x11C2,1),(0x11EB,0x11F0,5),(0x11F9,0x11F9,1),(0x1E00,0x1E9B,1),(0x1EA0,0x1EF9,1),(0x1F00,0x1F15,1),(0x1F18,0x1F1D,1),(0x1F20,0x1F45,1),(0x1F48,0x1F4D,1),(0x1F50,0x1F57,1),(0x1F59,0x1F5B,2),(0x1F5D,0x1F5D,1),(0x1F5F,0x1F7D,1),(0x1F80,0x1FB4,1),(0x1FB6,0x1FBC,1),(0x1FBE,0x1FBE,1),(0x1FC2,0x1FC4,1),(0x1FC6,0x1FCC,1),(0x1FD0,0x1FD3,1),(0x1FD6,0x1FDB,1),(0x1FE0,0x1FEC,1),(0x1FF2,0x1FF4,1),(0x1FF6,0x1FFC,1),(0x2126,0x2126,1),(0x212A,0x212B,1),(0x212E,0x212E,1),(0x2180,0x2182,1),(0x3007,0x3007,1),(0x3021,0x3029,1),(0x3041,0x3094,1),(0x30A1,0x30FA,1),(0x3105,0x312C,1),(0x4E00,0x9FA5,1),(0xAC00,0xD7A3,1)]
 r32:=#[]
 off:=0
def j9:Lib.RTab where
 r16:=#[(0x002D,0x002E,1),(0x0030,0x0039,1),(0x00B7,0x00B7,1),(0x02D0,0x02D1,1),(0x0300,0x0345,1),(0x0360,0x0361,1),(0x0387,0x0387,1),(0x0483,0x0486,1),
  (0x0591,0x05A1,1),(0x05A3,0x05B9,1),(0x05BB,0x05BD,1),(0x05BF,0x05BF,1),(0x05C1,0x05C2,1),(0x05C4,0x0640,124),(0x064B,0x0652,1),(0x0660,0x0669,1),
  (0x0670,0x0670,1),(0x06D6,0x06DC,1),(0x06DD,0x06DF,1),(0x06E0,0x06E4,1),(0x06E7,0x06E8,1),(0x06EA,0x06ED,1),(0x06F0,0x06F9,1),(0x0901,0x0903,1),
  (0x093C,0x093C,1),(0x093E,0x094C,1),(0x094D,0x094D,1),(0x0951,0x0954,1),(0x0962,0x0963,1),(0x0966,0x096F,1),(0x0981,0x0983,1),(0x09BC,0x09BC,1),
  (0x09BE,0x09BF,1),(0x09C0,0x09C4,1),(0x09C7,0x09C8,1),(0x09CB,0x09CD,1),(0x09D7,0x09D7,1),(0x09E2,0x09E3,1),(0x09E6,0x09EF,1),(0x0A02,0x0A3C,58),
  (0x0A3E,0x0A3F,1),(0x0A40,0x0A42,1),(0x0A47,0x0A48,1),(0x0A4B,0x0A4D,1),(0x0A66,0x0A6F,1),(0x0A70,0x0A71,1),(0x0A81,0x0A83,1),(0x0ABC,0x0ABC,1),
  (0x0ABE,0x0AC5,1),(0x0AC7,0x0AC9,1),(0x0ACB,0x0ACD,1),(0x0AE6,0x0AEF,1),(0x0B01,0x0B03,1),(0x0B3C,0x0B3C,1),(0x0B3E,0x0B43,1),(0x0B47,0x0B48,1),
  (0x0B4B,0x0B4D,1),(0x0B56,0x0B57,1),(0x0B66,0x0B6F,1),(0x0B82,0x0B83,1),(0x0BBE,0x0BC2,1),(0x0BC6,0x0BC8,1),(0x0BCA,0x0BCD,1),(0x0BD7,0x0BD7,1),
  (0x0BE7,0x0BEF,1),(0x0C01,0x0C03,1),(0x0C3E,0x0C44,1),(0x0C46,0x0C48,1),(0x0C4A,0x0C4D,1),(0x0C55,0x0C56,1),(0x0C66,0x0C6F,1),(0x0C82,0x0C83,1),
  (0x0CBE,0x0CC4,1),(0x0CC6,0x0CC8,1),(0x0CCA,0x0CCD,1),(0x0CD5,0x0CD6,1),(0x0CE6,0x0CEF,1),(0x0D02,0x0D03,1),(0x0D3E,0x0D43,1),(0x0D46,0x0D48,1),
  (0x0D4A,0x0D4D,1),(0x0D57,0x0D57,1),(0x0D66,0x0D6F,1),(0x0E31,0x0E31,1),(0x0E34,0x0E3A,1),(0x0E46,0x0E46,1),(0x0E47,0x0E4E,1),(0x0E50,0x0E59,1),
  (0x0EB1,0x0EB1,1),(0x0EB4,0x0EB9,1),(0x0EBB,0x0EBC,1),(0x0EC6,0x0EC6,1),(0x0EC8,0x0ECD,1),(0x0ED0,0x0ED9,1),(0x0F18,0x0F19,1),(0x0F20,0x0F29,1),
  (0x0F35,0x0F39,2),(0x0F3E,0x0F3F,1),(0x0F71,0x0F84,1),(0x0F86,0x0F8B,1),(0x0F90,0x0F95,1),(0x0F97,0x0F97,1),(0x0F99,0x0FAD,1),(0x0FB1,0x0FB7,1),
  (0x0FB9,0x0FB9,1),(0x20D0,0x20DC,1),(0x20E1,0x3005,3876),(0x302A,0x302F,1),(0x3031,0x3035,1),(0x3099,0x309A,1),(0x309D,0x309E,1),(0x30FC,0x30FE,1)]
 r32:=#[]
 off:=0
def iQ (r:Nat):Bool:=Lib.isGo jO r
def f8 (r:Nat):Bool:=Lib.isGo jO r||Lib.isGo j9 r
def dU (p:Nat→Bool):Nat→Bs→Bool
 | 0,_=>true
 | k+1,l=>
  if l=[] then true
  else if (cV l).1=65533∧(cV l).2=1 then false
  else if p (cV l).1 then dU f8 k (l.drop (cV l).2) else false
def cQ (l:Bs):Bool:=if l=[] then false else dU iQ l.length l
def bU (r:Nat):Bool:=r==9||r==10||r==13||(32≤r&&r≤0xD7FF)||(0xE000≤r&&r≤0xFFFD)||(0x10000≤r&&r≤0x10FFFF)
def cM:Nat→Bs→Bool
 | 0,_=>true
 | k+1,l=>
  if l=[] then true
  else if (cV l).1=65533∧(cV l).2=1 then false
  else if bU (cV l).1 then cM k (l.drop (cV l).2) else false
def bI (l:Bs):Bool:=cM l.length l
def nO (b:UInt8):Bool:=b==32||b==13||b==10||b==9
def aM:Bs→Bs
 | []=>[]
 | b::r=>if nO b then aM r else b::r
def aD:Bs→Bs×Bs
 | []=>([],[])
 | b::r=>if cP b then (b::(aD r).1,(aD r).2) else ([],b::r)
def eX (fails:Bool) (rest:Bs):Except EK (Bs×Bs):=
 if (aD rest).2=[] then .error (bW fails)
 else if (aD rest).1=[] then .error .syn
 else if cQ (aD rest).1 then .ok (aD rest) else .error .syn
def dV (s:Bs):Nat:=(s.filter (·==58)).length
def dW (s:Bs):Bs×Bs:=
 match s.dropWhile (· != 58) with
 | []=>([],s)
 | _::loc=>if s.takeWhile (· != 58)=[]∨loc=[] then ([],s) else (s.takeWhile (· != 58),loc)
def cE (fails:Bool) (rest:Bs):Except EK ((Bs×Bs)×Bs):=
 match eX fails rest with
 | .error e=>.error e
 | .ok (s,r)=>if 1<dV s then .error .syn else .ok (dW s,r)
def eY (bQ:Bool) (b:UInt8):Bool:=(48≤b&&b≤57)||(bQ&&97≤b&&b≤102)||(bQ&&65≤b&&b≤70)
def dH (b:UInt8):Nat:=if b≤57 then b.toNat-48 else if 97≤b then b.toNat-87 else b.toNat-55
def gL (bQ:Bool) (ds:Bs):Nat:=ds.foldl (fun n b=>n*(if bQ then 16 else 10)+dH b) 0
def bV (bQ:Bool):Bs→Bs×Bs
 | []=>([],[])
 | b::r=>if eY bQ b then (b::(bV bQ r).1,(bV bQ r).2) else ([],b::r)
def fN (n:Nat):Bs:=(Utf8.encode n).data.toList
def pV (s:Bs):Option Bs:=
 if s=[108,116] then some [60] else if s=[103,116] then some [62] else if s=[97,109,112] then some [38]
 else if s=[97,112,111,115] then some [39] else if s=[113,117,111,116] then some [34] else none
def yZ (ents:Option (Bs→Option Bs)) (s:Bs):Option Bs:=
 match pV s with
 | some t=>some t
 | none=>match ents with|none=>none|some f=>f s
def dY (fails:Bool) (bQ:Bool) (pre:Bs) (rest:Bs):Except EK (Bs×Option Bs×Bs):=
 match (bV bQ rest).2 with
 | []=>.error (bW fails)
 | b::after=>
  if b=59 then
   .ok (pre++(bV bQ rest).1++[59],(if (bV bQ rest).1=[]∨0x10FFFF<gL bQ (bV bQ rest).1 then none else some (fN (gL bQ (bV bQ rest).1))),after)
  else .ok (pre++(bV bQ rest).1,none,b::after)
def iX (fails:Bool) (ents:Option (Bs→Option Bs)):Bs→Except EK (Bs×Option Bs×Bs)
 | []=>.error (bW fails)
 | c::r=>
  if c=35 then
   match r with
   | []=>.error (bW fails)
   | d::r2=>
    if d=120 then (match r2 with|[]=>.error (bW fails)|_=>dY fails true [38,35,120] r2)
    else dY fails false [38,35] (d::r2)
  else
   match (aD (c::r)).2 with
   | []=>.error (bW fails)
   | b::after=>
    if b=59 then .ok (38::(aD (c::r)).1++[59],(if cQ (aD (c::r)).1 then yZ ents (aD (c::r)).1 else none),after)
    else .ok (38::(aD (c::r)).1,none,b::after)
theorem KV (bQ:Bool) (l:Bs):(bV bQ l).2.length≤l.length:=by
 induction l with
 | nil=>simp [bV]
 | cons b r ih=>unfold bV;split<;>simp<;>omega
theorem IH (l:Bs):(aD l).2.length≤l.length:=by
 induction l with
 | nil=>simp [aD]
 | cons b r ih=>unfold aD;split<;>simp<;>omega
theorem CP {fails bQ:Bool} {pre rest:Bs} {a:Bs} {t:Option Bs} {r:Bs} (h:dY fails bQ pre rest=.ok (a,t,r)):r.length≤rest.length:=by
 unfold dY at h
 have hl:=KV bQ rest
 split at h
 ·cases h
 ·rename_i b after hs
  rw [hs] at hl
  split at h<;>(simp only [Except.ok.injEq,Prod.mk.injEq] at h;obtain ⟨_,_,rfl⟩:=h;simp at hl ⊢;omega)
theorem gX {fails:Bool} {ents:Option (Bs→Option Bs)} {rest:Bs} {a:Bs} {t:Option Bs} {r:Bs} (h:iX fails ents rest=.ok (a,t,r)):r.length≤rest.length:=by
 unfold iX at h
 split at h
 ·cases h
 ·rename_i c r0
  split at h
  ·split at h
   ·cases h
   ·split at h
    ·split at h
     ·cases h
     ·have:=CP h;simp;omega
    ·have:=CP h;simp at this ⊢;omega
  ·have hl:=IH (c::r0)
   split at h
   ·cases h
   ·rename_i b after hs
    rw [hs] at hl
    split at h<;>(simp only [Except.ok.injEq,Prod.mk.injEq] at h;obtain ⟨_,_,rfl⟩:=h;simp at hl ⊢;omega)
def aX (o:cU) (quote:Option UInt8) (cdata:Bool) (rest:Bs) (b0 b1:UInt8) (buf:Bs):Except EK (Bs×Bs):=
 match rest with
 | []=>if cdata then .error (bW o.fails) else if bI buf then .ok (buf,[]) else .error .syn
 | b::r=>
  if quote=none∧b0=93∧b1=93∧b=62 then
   (if cdata then (if bI (buf.take (buf.length-2)) then .ok (buf.take (buf.length-2),r) else .error .syn) else .error .syn)
  else if b=60∧cdata=false then (if quote=none then (if bI buf then .ok (buf,b::r) else .error .syn) else .error .syn)
  else if quote=some b then (if bI buf then .ok (buf,r) else .error .syn)
  else if b=38∧cdata=false then
   match _h:iX o.fails o.ents r with
   | .error e=>.error e
   | .ok (_,some t,r')=>aX o quote cdata r' 0 0 (buf++t)
   | .ok (raw,none,r')=>if o.strict then .error .syn else aX o quote cdata r' 0 0 (buf++raw)
  else aX o quote cdata r b1 b (if b=13 then buf++[10] else if b1=13∧b=10 then buf else buf++[b])
termination_by rest.length
decreasing_by
 all_goals simp_wf
 all_goals first|(have:=gX _h;omega)|omega
def uZ (b:UInt8):Bool:=(97≤b&&b≤122)||(65≤b&&b≤90)||(48≤b&&b≤57)||b==95||b==58||b==45
def gT:Bs→Bs×Bs
 | []=>([],[])
 | b::r=>if uZ b then (b::(gT r).1,(gT r).2) else ([],b::r)
def dX (o:cU):Bs→Except EK (Bs×Bs)
 | []=>.error (bW o.fails)
 | q::r=>
  if q=34∨q=39 then aX o (some q) false r 0 0 []
  else if o.strict then .error .syn
  else match (gT (q::r)).2 with
   | []=>.error (bW o.fails)
   | _=>.ok (gT (q::r))
abbrev eI:=Bs×Bs×Bs
def gY (o:cU) (r:Bs):Except EK (eI×Bs):=
 match cE o.fails r with
 | .error e=>.error e
 | .ok (nm,r2)=>
  match aM r2 with
  | []=>.error (bW o.fails)
  | b::r4=>
   if b=61 then
    match dX o (aM r4) with
    | .error e=>.error e
    | .ok (v,r5)=>.ok ((nm.1,nm.2,v),r5)
   else if o.strict then .error .syn else .ok ((nm.1,nm.2,nm.2),b::r4)
def dD (o:cU):Nat→Bs→List eI→Except EK (List eI×Bool×Bs)
 | 0,_,_=>.error .other
 | k+1,rest,acc=>
  match aM rest with
  | []=>.error (bW o.fails)
  | b::r2=>
   if b=47 then
    match r2 with
    | []=>.error (bW o.fails)
    | c::r3=>if c=62 then .ok (acc,true,r3) else .error .syn
   else if b=62 then .ok (acc,false,r2)
   else match gY o (b::r2) with
    | .error e=>.error e
    | .ok (a,r5)=>dD o k r5 (acc++[a])
def bY (fails:Bool):Bs→UInt8→UInt8→Bs→Except EK (Bs×Bs)
 | [],_,_,_=>.error (bW fails)
 | b::r,b0,b1,buf=>
  if b0=45∧b1=45 then (if b=62 then .ok (buf.take (buf.length-2),r) else .error .syn)
  else bY fails r b1 b (buf++[b])
def kJ (fails:Bool):Bs→UInt8→Bs→Except EK (Bs×Bs)
 | [],_,_=>.error (bW fails)
 | b::r,b0,buf=>if b0=63∧b=62 then .ok (buf.take (buf.length-1),r) else kJ fails r b (buf++[b])
def cR (fails:Bool):Bs→UInt8→UInt8→Except EK Bs
 | [],_,_=>.error (bW fails)
 | b::r,b0,b1=>if b0=45∧b1=45∧b=62 then .ok r else cR fails r b1 b
theorem lE {fails:Bool}:∀ {l:Bs} {b0 b1:UInt8} {r:Bs},cR fails l b0 b1=.ok r→r.length<l.length
 | [],_,_,_,h=>by simp [cR] at h
 | b::l,b0,b1,r,h=>by
  unfold cR at h
  split at h
  ·simp only [Except.ok.injEq] at h;subst h;simp
  ·have:=lE h;simp;omega
mutual
def fG (fails:Bool) (rest:Bs) (inq:UInt8) (depth:Int) (buf:Bs):Except EK (Bs×Bs):=
 match rest with
 | []=>.error (bW fails)
 | b::r=>if inq=0∧b=62∧depth=0 then .ok (buf,r) else iD fails b r inq depth buf
termination_by (rest.length,0)
def iD (fails:Bool) (b:UInt8) (r:Bs) (inq:UInt8) (depth:Int) (buf:Bs):Except EK (Bs×Bs):=
 if b=inq then fG fails r 0 depth (buf++[b])
 else if inq≠0 then fG fails r inq depth (buf++[b])
 else if b=39∨b=34 then fG fails r b depth (buf++[b])
 else if b=62 then fG fails r inq (depth-1) (buf++[b])
 else if b=60 then
  match r with
  | []=>.error (bW fails)
  | c1::r1=>
   if c1=33 then
    match r1 with
    | []=>.error (bW fails)
    | c2::r2=>
     if c2=45 then
      match r2 with
      | []=>.error (bW fails)
      | c3::r3=>
       if c3=45 then
        match _h:cR fails r3 0 0 with
        | .error e=>.error e
        | .ok r4=>fG fails r4 inq depth (buf++[32])
       else iD fails c3 r3 inq (depth+1) (buf++[60,33,45])
     else iD fails c2 r2 inq (depth+1) (buf++[60,33])
   else iD fails c1 r1 inq (depth+1) (buf++[60])
 else fG fails r inq depth (buf++[b])
termination_by (r.length,1)
decreasing_by
 all_goals simp_wf
 all_goals first|(have:=lE _h;simp [Prod.lex_def];omega)|(simp [Prod.lex_def];try omega)
end
def nP (p:Bs):Bs→Option Bs
 | []=>if p=[] then some [] else none
 | b::r=>if p.isPrefixOf (b::r) then some ((b::r).drop p.length) else nP p r
theorem tK {p:Bs}:∀ {l r:Bs},nP p l=some r→r.length≤l.length
 | [],r,h=>by unfold nP at h;split at h<;>simp_all
 | b::l,r,h=>by
  unfold nP at h
  split at h
  ·simp only [Option.some.injEq] at h;subst h;simp only [List.length_drop];omega
  ·have:=tK h;simp;omega
def iY (c:UInt8):Bs→Option Bs
 | []=>none
 | b::r=>if b=c then some [] else (iY c r).map (b::·)
def eN (p:Bs) (sub:Bs):Bs:=
 if sub=[] then []
 else
  match _h:nP p sub with
  | none=>[]
  | some []=>[]
  | some (c::t)=>if c=39∨c=34 then (iY c t).getD [] else eN p t
termination_by sub.length
decreasing_by have:=tK _h;simp at this;omega
def eH (b:UInt8):UInt8:=if 65≤b&&b≤90 then b+32 else b
def tL (enc:Bs):Bool:=enc.map eH==[117,116,102,45,56]
def Fu:Bs:=[118,101,114,115,105,111,110,61]
def XC:Bs:=[101,110,99,111,100,105,110,103,61]
def II (inst:Bs):Bool:=
 (eN Fu inst==[]||eN Fu inst==[49,46,48])&&(eN XC inst==[]||tL (eN XC inst))
inductive aP where
 | start (name:Bs×Bs) (attrs:List eI)
 | fin (name:Bs×Bs)
 | text (d:Bs)
 | comment (d:Bs)
 | proc (target inst:Bs)
 | dir (d:Bs)
 deriving Repr,Inhabited,DecidableEq
def o7 (o:cU) (rest:Bs):Except EK (aP×Bs):=
 match cE o.fails rest with
 | .error e=>.error e
 | .ok (nm,r)=>
  match aM r with
  | []=>.error (bW o.fails)
  | b::r2=>if b=62 then .ok (.fin nm,r2) else .error .syn
def FC (o:cU) (rest:Bs):Except EK (aP×Bs):=
 match eX o.fails rest with
 | .error e=>.error e
 | .ok (tg,r)=>
  match kJ o.fails (aM r) 0 [] with
  | .error e=>.error e
  | .ok (inst,r2)=>if tg=[120,109,108]∧II inst=false then .error .other else .ok (.proc tg inst,r2)
def fH (fails:Bool):Bs→Bs→Except EK Bs
 | [],r=>.ok r
 | _::_,[]=>.error (bW fails)
 | p::ps,b::r=>if b=p then fH fails ps r else .error .syn
def kK (o:cU):Bs→Except EK (aP×Bs)
 | []=>.error (bW o.fails)
 | b::r=>
  if b=45 then
   match r with
   | []=>.error (bW o.fails)
   | c::r2=>
    if c=45 then
     match bY o.fails r2 0 0 [] with
     | .error e=>.error e
     | .ok (d,r3)=>.ok (.comment d,r3)
    else .error .syn
  else if b=91 then
   match fH o.fails [67,68,65,84,65,91] r with
   | .error e=>.error e
   | .ok r2=>
    match aX o none true r2 0 0 [] with
    | .error e=>.error e
    | .ok (d,r3)=>.ok (.text d,r3)
  else
   match fG o.fails r 0 0 [b] with
   | .error e=>.error e
   | .ok (d,r2)=>.ok (.dir d,r2)
def fI (o:cU) (rest:Bs):Except EK (((Bs×Bs)×List eI)×Bool×Bs):=
 match cE o.fails rest with
 | .error e=>.error e
 | .ok (nm,r)=>
  match dD o (r.length+1) r [] with
  | .error e=>.error e
  | .ok (as,em,r2)=>.ok ((nm,as),em,r2)
structure mQ where
 kind:Nat
 space:Bs
 loc:Bs
 ok:Bool
 deriving Repr,Inhabited,DecidableEq
structure St where
 rest:Bs
 ended:Bool
 toClose:Option (Bs×Bs)
 stk:List mQ
 ns:Bs→Option Bs
 next:Option aP
def St.init (text:Bs):St:={ rest:=text,ended:=false,toClose:=none,stk:=[],ns:=fun _=>none,next:=none }
def fS (o:cU) (s:St):Except EK (aP×St):=
 if s.ended then .error (qK o.fails)
 else
  match s.toClose with
  | some nm=>.ok (.fin nm,{ s with toClose:=none })
  | none=>
   match s.rest with
   | []=>.error (qK o.fails)
   | b::r=>
    if b≠60 then
     match aX o none false (b::r) 0 0 [] with
     | .error e=>.error e
     | .ok (d,r2)=>.ok (.text d,{ s with rest:=r2,ended:=r2==[] })
    else
     match r with
     | []=>.error (bW o.fails)
     | c::r2=>
      if c=47 then (match o7 o r2 with|.error e=>.error e|.ok (t,r3)=>.ok (t,{ s with rest:=r3 }))
      else if c=63 then (match FC o r2 with|.error e=>.error e|.ok (t,r3)=>.ok (t,{ s with rest:=r3 }))
      else if c=33 then (match kK o r2 with|.error e=>.error e|.ok (t,r3)=>.ok (t,{ s with rest:=r3 }))
      else
       match fI o (c::r2) with
       | .error e=>.error e
       | .ok ((nm,as),em,r3)=>.ok (.start nm as,{ s with rest:=r3,toClose:=if em then some nm else none })
def f9:Bs:=[120,109,108,110,115]
def xR:Bs:=[120,109,108]
def fC:Bs:=[104,116,116,112,58,47,47,119,119,119,46,119,51,46,111,114,103,47,88,77,76,47,49,57,57,56,47,110,97,109,101,115,112,97,99,101]
def dF (o:cU) (ns:Bs→Option Bs) (nm:Bs×Bs) (elem:Bool):Bs×Bs:=
 if nm.1=f9 then nm
 else if nm.1=[]∧elem=false then nm
 else if nm.1≠xR∧nm.1=[]∧nm.2=f9 then nm
 else
  let sp:=if nm.1=xR then fC else nm.1
  match ns sp with
  | some v=>(v,nm.2)
  | none=>if sp=[] then (o.space,nm.2) else (sp,nm.2)
def kL (ns:Bs→Option Bs) (k:Bs) (v:Option Bs):Bs→Option Bs:=fun x=>if x=k then v else ns x
def f0:List eI→List mQ→(Bs→Option Bs)→List mQ×(Bs→Option Bs)
 | [],stk,ns=>(stk,ns)
 | (sp,loc,v)::as,stk,ns=>
  let (stk,ns):=if sp=f9 then ({ kind:=1,space:=(ns loc).getD [],loc:=loc,ok:=(ns loc).isSome }::stk,kL ns loc (some v)) else (stk,ns)
  let (stk,ns):=if sp=[]∧loc=f9 then ({ kind:=1,space:=(ns []).getD [],loc:=[],ok:=(ns []).isSome }::stk,kL ns [] (some v)) else (stk,ns)
  f0 as stk ns
def jK:List mQ→(Bs→Option Bs)→List mQ×(Bs→Option Bs)
 | [],ns=>([],ns)
 | e::stk,ns=>if e.kind=0 then (e::stk,ns) else jK stk (kL ns e.loc (if e.ok then some e.space else none))
def pW (o:cU) (nm:Bs×Bs) (s:St):Except EK (aP×St):=
 match s.stk with
 | []=>.error .syn
 | e::stk=>
  if e.kind≠0 then .error .syn
  else if e.loc≠nm.2 then
   if o.strict then .error .syn
   else .ok (.fin (e.space,e.loc),{ s with stk:=stk,toClose:=some nm })
  else if e.space≠nm.1 then .error .syn
  else .ok (.fin (dF o s.ns nm true),{ s with stk:=(jK stk s.ns).1,ns:=(jK stk s.ns).2 })
def eM (o:cU) (t:aP) (s:St):Except EK (aP×St):=
 match t with
 | .start nm as=>
  let (stk,ns):=f0 as s.stk s.ns
  .ok (.start (dF o ns nm true) (as.map fun a=>let q:=dF o ns (a.1,a.2.1) false;(q.1,q.2,a.2.2)),
   { s with stk:={ kind:=0,space:=nm.1,loc:=nm.2,ok:=false }::stk,ns:=ns })
 | .fin nm=>pW o nm s
 | t=>.ok (t,s)
def nJ (fold:Bs→Bs→Bool) (o:cU) (t:aP) (s:St):Option (Bs×Bs):=
 match s.stk with
 | []=>none
 | e::_=>
  if e.kind≠0 then none
  else if o.auto.any (fun a=>fold a e.loc) then
   match t with
   | .fin nm=>if fold nm.2 e.loc then none else some (e.space,e.loc)
   | _=>some (e.space,e.loc)
  else none
def sW (fold:Bs→Bs→Bool) (o:cU) (s:St):Except EK (aP×St):=
 let got:Except EK (aP×St):=match s.next with
  | some t=>.ok (t,{ s with next:=none })
  | none=>match fS o s with
   | .ok x=>.ok x
   | .error e=>.error (if e=.eof∧s.stk≠[] then .syn else e)
 match got with
 | .error e=>.error e
 | .ok (t,s)=>
  if o.strict then eM o t s
  else match nJ fold o t s with
   | none=>eM o t s
   | some nm=>eM o (.fin nm) { s with next:=some t }
def l8 (fold:Bs→Bs→Bool) (o:cU) (s:St):Except EK (aP×St):=if o.raw then fS o s else sW fold o s
structure cH where
 kind:Nat
 space:Bs
 loc:Bs
 attrs:List eI
 text:Bs
 at':Nat
 line:Nat
 col:Nat
 deriving Repr,Inhabited,DecidableEq
def rM (l:Bs):Nat:=1+(l.filter (·==10)).length
def AK (l:Bs):Nat:=1+(l.reverse.takeWhile (· != 10)).length
def aP.itok (t:aP) (pre:Bs):cH:=
 let p:cH:={ kind:=0,space:=[],loc:=[],attrs:=[],text:=[],at':=pre.length,line:=rM pre,col:=AK pre }
 match t with
 | .start nm as=>{ p with kind:=1,space:=nm.1,loc:=nm.2,attrs:=as }
 | .fin nm=>{ p with kind:=2,space:=nm.1,loc:=nm.2 }
 | .text d=>{ p with kind:=3,text:=d }
 | .comment d=>{ p with kind:=4,text:=d }
 | .proc tg i=>{ p with kind:=5,loc:=tg,text:=i }
 | .dir d=>{ p with kind:=6,text:=d }
def EK.code:EK→Nat
 | .eof=>0
 | .syn=>1
 | .own=>2
 | .other=>3
theorem cI {ε α:Type} {a b:α}:((Except.ok a:Except ε α)=.ok b)=(a=b):=Except.ok.injEq a b
theorem cC {α β:Type} {a c:α} {b d:β}:((a,b)=(c,d))=(a=c∧b=d):=Prod.mk.injEq a b c d
theorem oY {α:Type} {a b:α}:(some a=some b)=(a=b):=Option.some.injEq a b
theorem fO {a b:Bs} (h:a <:+ b):a.length≤b.length:=h.length_le
theorem eO (l:Bs):aM l <:+ l:=by
 induction l with
 | nil=>exact List.suffix_refl _
 | cons b r ih=>unfold aM;split;exact ih.trans (List.suffix_cons b r);exact List.suffix_refl _
theorem rN (l:Bs):(aD l).1++(aD l).2=l:=by
 induction l with
 | nil=>rfl
 | cons b r ih=>unfold aD;split<;>simp [ih]
theorem KW (bQ:Bool) (l:Bs):(bV bQ l).1++(bV bQ l).2=l:=by
 induction l with
 | nil=>rfl
 | cons b r ih=>unfold bV;split<;>simp [ih]
theorem AL (l:Bs):(gT l).1++(gT l).2=l:=by
 induction l with
 | nil=>rfl
 | cons b r ih=>unfold gT;split<;>simp [ih]
theorem IJ (l:Bs):(aD l).2 <:+ l:=⟨_,rN l⟩
theorem KX (bQ:Bool) (l:Bs):(bV bQ l).2 <:+ l:=⟨_,KW bQ l⟩
theorem KY (l:Bs):(gT l).2 <:+ l:=⟨_,AL l⟩
theorem KZ {f:Bool} {l n r:Bs} (h:eX f l=.ok (n,r)):aD l=(n,r)∧r≠[]∧n≠[]∧cQ n=true:=by
 unfold eX at h
 split at h
 ·cases h
 ·rename_i h1
  split at h
  ·cases h
  ·rename_i h2
   split at h
   ·rename_i h3
    simp only [cI] at h
    rw [h] at h1 h2 h3
    exact ⟨h,h1,h2,h3⟩
   ·cases h
theorem y4 {f:Bool} {l n r:Bs} (h:eX f l=.ok (n,r)):r <:+ l∧r.length<l.length:=by
 obtain ⟨h1,_,h3,_⟩:=KZ h
 have h4:=rN l
 rw [h1] at h4
 refine ⟨⟨_,h4⟩,?_⟩
 have:=List.length_pos_iff.2 h3
 rw [←h4];simp;exact this
theorem rO {f:Bool} {l r:Bs} {nm:Bs×Bs} (h:cE f l=.ok (nm,r)):∃ s,eX f l=.ok (s,r)∧¬ 1<dV s∧nm=dW s:=by
 unfold cE at h
 split at h
 ·cases h
 ·rename_i s r' h1
  split at h
  ·cases h
  ·rename_i h2
   simp only [cI,cC] at h
   obtain ⟨rfl,rfl⟩:=h
   exact ⟨s,h1,h2,rfl⟩
theorem kM {f:Bool} {l r:Bs} {nm:Bs×Bs} (h:cE f l=.ok (nm,r)):r <:+ l∧r.length<l.length:=by
 obtain ⟨s,h1,_⟩:=rO h
 exact y4 h1
theorem CQ {fails bQ:Bool} {pre rest a:Bs} {t:Option Bs} {r:Bs} (h:dY fails bQ pre rest=.ok (a,t,r)):r <:+ rest:=by
 unfold dY at h
 have hl:=KX bQ rest
 split at h
 ·cases h
 ·rename_i b after hs
  rw [hs] at hl
  split at h<;>(simp only [cI,cC] at h;obtain ⟨_,_,rfl⟩:=h)
  ·exact (List.suffix_cons b _).trans hl
  ·exact hl
theorem mW {fails:Bool} {ents:Option (Bs→Option Bs)} {rest a:Bs} {t:Option Bs} {r:Bs} (h:iX fails ents rest=.ok (a,t,r)):r <:+ rest:=by
 unfold iX at h
 split at h
 ·cases h
 ·rename_i c r0
  split at h
  ·split at h
   ·cases h
   ·rename_i d r2
    split at h
    ·split at h
     ·cases h
     ·exact ((CQ h).trans (List.suffix_cons d _)).trans (List.suffix_cons c _)
    ·exact (CQ h).trans (List.suffix_cons c _)
  ·have hl:=IJ (c::r0)
   split at h
   ·cases h
   ·rename_i b after hs
    rw [hs] at hl
    split at h<;>(simp only [cI,cC] at h;obtain ⟨_,_,rfl⟩:=h)
    ·exact (List.suffix_cons b _).trans hl
    ·exact hl
theorem TU (o:cU) (q:Option UInt8) (cd:Bool):∀ (n:Nat) (rest:Bs),rest.length≤n→∀ (b0 b1:UInt8) (buf d r:Bs),aX o q cd rest b0 b1 buf=.ok (d,r)→r <:+ rest:=by
 intro n
 induction n with
 | zero=>
  intro rest hn b0 b1 buf d r h
  have:rest=[]:=List.eq_nil_of_length_eq_zero (by omega)
  subst this
  unfold aX at h
  split at h
  ·cases h
  ·split at h
   ·simp only [cI,cC] at h;rw [←h.2];exact List.suffix_refl _
   ·cases h
 | succ n ih=>
  intro rest hn b0 b1 buf d r h
  cases rest with
  | nil=>
   unfold aX at h
   split at h
   ·cases h
   ·split at h
    ·simp only [cI,cC] at h;rw [←h.2];exact List.suffix_refl _
    ·cases h
  | cons b t=>
   have ht:t.length≤n:=by simp at hn;omega
   have hc:=List.suffix_cons b t
   unfold aX at h
   split at h
   ·split at h
    ·split at h
     ·simp only [cI,cC] at h;rw [←h.2];exact hc
     ·cases h
    ·cases h
   ·split at h
    ·split at h
     ·split at h
      ·simp only [cI,cC] at h;rw [←h.2];exact List.suffix_refl _
      ·cases h
     ·cases h
    ·split at h
     ·split at h
      ·simp only [cI,cC] at h;rw [←h.2];exact hc
      ·cases h
     ·split at h
      ·split at h
       ·cases h
       ·rename_i hr
        have hs:=mW hr
        exact ((ih _ (by have:=fO hs;omega) _ _ _ _ _ h).trans hs).trans hc
       ·rename_i hr
        have hs:=mW hr
        split at h
        ·cases h
        ·exact ((ih _ (by have:=fO hs;omega) _ _ _ _ _ h).trans hs).trans hc
      ·exact (ih _ ht _ _ _ _ _ h).trans hc
theorem oG {o:cU} {q:Option UInt8} {cd:Bool} {rest:Bs} {b0 b1:UInt8} {buf d r:Bs} (h:aX o q cd rest b0 b1 buf=.ok (d,r)):r <:+ rest:=TU o q cd rest.length rest (Nat.le_refl _) b0 b1 buf d r h
theorem K1 {o:cU} {b:UInt8} {t d r:Bs} (hb:b≠60) (h:aX o none false (b::t) 0 0 []=.ok (d,r)):r <:+ t:=by
 unfold aX at h
 split at h
 ·rename_i h1;exact absurd h1.2.1 (by decide)
 ·split at h
  ·rename_i h1;exact absurd h1.1 hb
  ·split at h
   ·rename_i h1;cases h1
   ·split at h
    ·split at h
     ·cases h
     ·rename_i hr
      exact (oG h).trans (mW hr)
     ·rename_i hr
      split at h
      ·cases h
      ·exact (oG h).trans (mW hr)
    ·exact oG h
theorem IK {o:cU} {l d r:Bs} (h:dX o l=.ok (d,r)):r <:+ l:=by
 unfold dX at h
 split at h
 ·cases h
 ·rename_i q t
  split at h
  ·exact (oG h).trans (List.suffix_cons q _)
  ·split at h
   ·cases h
   ·split at h
    ·cases h
    ·simp only [cI] at h
     have:=KY (q::t)
     rw [h] at this
     exact this
theorem qL {o:cU} {l:Bs} {a:eI} {r:Bs} (h:gY o l=.ok (a,r)):r <:+ l∧r.length<l.length:=by
 unfold gY at h
 split at h
 ·cases h
 ·rename_i nm r2 h1
  obtain ⟨s1,s2⟩:=kM h1
  have s3:=eO r2
  split at h
  ·cases h
  ·rename_i b r4 h2
   rw [h2] at s3
   split at h
   ·split at h
    ·cases h
    ·rename_i v r5 h3
     simp only [cI,cC] at h
     obtain ⟨_,rfl⟩:=h
     have s4:=(((IK h3).trans (eO r4)).trans (List.suffix_cons b r4)).trans s3
     exact ⟨s4.trans s1,by have:=fO s4;omega⟩
   ·split at h
    ·cases h
    ·simp only [cI,cC] at h
     obtain ⟨_,rfl⟩:=h
     exact ⟨s3.trans s1,by have:=fO s3;omega⟩
theorem CR {o:cU}:∀ {k:Nat} {rest:Bs} {acc as:List eI} {em:Bool} {r:Bs},dD o k rest acc=.ok (as,em,r)→r <:+ rest∧as.length+r.length+1≤acc.length+rest.length
 | 0,_,_,_,_,_,h=>by unfold dD at h;cases h
 | k+1,rest,acc,as,em,r,h=>by
  unfold dD at h
  have s1:=eO rest
  split at h
  ·cases h
  ·rename_i b r2 h1
   rw [h1] at s1
   have l1:=fO s1
   simp only [List.length_cons] at l1
   split at h
   ·split at h
    ·cases h
    ·rename_i c r3
     split at h
     ·simp only [cI,cC] at h
      obtain ⟨rfl,_,rfl⟩:=h
      exact ⟨((List.suffix_cons c _).trans (List.suffix_cons b _)).trans s1,by simp only [List.length_cons] at l1;omega⟩
     ·cases h
   ·split at h
    ·simp only [cI,cC] at h
     obtain ⟨rfl,_,rfl⟩:=h
     exact ⟨(List.suffix_cons b _).trans s1,by omega⟩
    ·split at h
     ·cases h
     ·rename_i a r5 h3
      obtain ⟨s2,s3⟩:=qL h3
      obtain ⟨s4,s5⟩:=CR h
      exact ⟨(s4.trans s2).trans s1,by simp only [List.length_append,List.length_cons,List.length_nil] at s5 s3;omega⟩
theorem xS {f:Bool}:∀ {l:Bs} {b0 b1:UInt8} {buf d r:Bs},bY f l b0 b1 buf=.ok (d,r)→r <:+ l
 | [],_,_,_,_,_,h=>by unfold bY at h;cases h
 | b::l,b0,b1,buf,d,r,h=>by
  unfold bY at h
  split at h
  ·split at h
   ·simp only [cI,cC] at h;rw [←h.2];exact List.suffix_cons b l
   ·cases h
  ·exact (xS h).trans (List.suffix_cons b l)
theorem F0 {f:Bool}:∀ {l:Bs} {b0:UInt8} {buf d r:Bs},kJ f l b0 buf=.ok (d,r)→r <:+ l
 | [],_,_,_,_,h=>by unfold kJ at h;cases h
 | b::l,b0,buf,d,r,h=>by
  unfold kJ at h
  split at h
  ·simp only [cI,cC] at h;rw [←h.2];exact List.suffix_cons b l
  ·exact (F0 h).trans (List.suffix_cons b l)
theorem xU {f:Bool}:∀ {l:Bs} {b0 b1:UInt8} {r:Bs},cR f l b0 b1=.ok r→r <:+ l
 | [],_,_,_,h=>by unfold cR at h;cases h
 | b::l,b0,b1,r,h=>by
  unfold cR at h
  split at h
  ·simp only [cI] at h;rw [←h];exact List.suffix_cons b l
  ·exact (xU h).trans (List.suffix_cons b l)
theorem Fv (f:Bool):∀ n:Nat,(∀ rest:Bs,rest.length≤n→∀ (inq:UInt8) (dp:Int) (buf d r:Bs),fG f rest inq dp buf=.ok (d,r)→r <:+ rest) ∧
  (∀ rest:Bs,rest.length≤n→∀ (b inq:UInt8) (dp:Int) (buf d r:Bs),iD f b rest inq dp buf=.ok (d,r)→r <:+ rest):=by
 intro n
 induction n with
 | zero=>
  have hL:∀ rest:Bs,rest.length≤0→∀ (inq:UInt8) (dp:Int) (buf d r:Bs),fG f rest inq dp buf=.ok (d,r)→r <:+ rest:=by
   intro rest hn inq dp buf d r h
   have:rest=[]:=List.eq_nil_of_length_eq_zero (by omega)
   subst this
   unfold fG at h;cases h
  refine ⟨hL,?_⟩
  intro rest hn b inq dp buf d r h
  have:rest=[]:=List.eq_nil_of_length_eq_zero (by omega)
  subst this
  unfold iD at h
  repeat' split at h
  all_goals first
   | exact hL [] (Nat.le_refl _) _ _ _ _ _ h
   | (cases h;done)
   | (rename_i hq _;cases hq;done)
   | simp_all
 | succ n ih=>
  obtain ⟨ih1,ih2⟩:=ih
  have hL:∀ rest:Bs,rest.length≤n+1→∀ (inq:UInt8) (dp:Int) (buf d r:Bs),fG f rest inq dp buf=.ok (d,r)→r <:+ rest:=by
   intro rest hn inq dp buf d r h
   unfold fG at h
   split at h
   ·cases h
   ·rename_i b t
    split at h
    ·simp only [cI,cC] at h;rw [←h.2];exact List.suffix_cons b _
    ·exact (ih2 _ (by simp at hn;omega) _ _ _ _ _ _ h).trans (List.suffix_cons b _)
  refine ⟨hL,?_⟩
  intro rest hn b inq dp buf d r h
  unfold iD at h
  split at h
  ·exact hL _ hn _ _ _ _ _ h
  ·split at h
   ·exact hL _ hn _ _ _ _ _ h
   ·split at h
    ·exact hL _ hn _ _ _ _ _ h
    ·split at h
     ·exact hL _ hn _ _ _ _ _ h
     ·split at h
      ·split at h
       ·cases h
       ·rename_i c1 r1
        have e1:=List.suffix_cons c1 r1
        split at h
        ·split at h
         ·cases h
         ·rename_i c2 r2
          have e2:=List.suffix_cons c2 r2
          split at h
          ·split at h
           ·cases h
           ·rename_i c3 r3
            have e3:=List.suffix_cons c3 r3
            split at h
            ·split at h
             ·cases h
             ·rename_i r4 hk
              have e4:=xU hk
              have:=fO e4
              exact ((((hL _ (by simp at hn;omega) _ _ _ _ _ h).trans e4).trans e3).trans e2).trans e1
            ·exact (((ih2 _ (by simp at hn;omega) _ _ _ _ _ _ h).trans e3).trans e2).trans e1
          ·exact ((ih2 _ (by simp at hn;omega) _ _ _ _ _ _ h).trans e2).trans e1
        ·exact (ih2 _ (by simp at hn;omega) _ _ _ _ _ _ h).trans e1
      ·exact hL _ hn _ _ _ _ _ h
theorem XD {f:Bool} {rest:Bs} {inq:UInt8} {dp:Int} {buf d r:Bs} (h:fG f rest inq dp buf=.ok (d,r)):r <:+ rest:=(Fv f rest.length).1 rest (Nat.le_refl _) _ _ _ _ _ h
theorem XE {o:cU} {l:Bs} {t:aP} {r:Bs} (h:o7 o l=.ok (t,r)):r <:+ l∧∃ nm,t=.fin nm:=by
 unfold o7 at h
 split at h
 ·cases h
 ·rename_i nm r1 h1
  have s1:=eO r1
  split at h
  ·cases h
  ·rename_i b r2 h2
   rw [h2] at s1
   split at h
   ·simp only [cI,cC] at h
    obtain ⟨rfl,rfl⟩:=h
    exact ⟨((List.suffix_cons b _).trans s1).trans (kM h1).1,nm,rfl⟩
   ·cases h
theorem RP {o:cU} {l:Bs} {t:aP} {r:Bs} (h:FC o l=.ok (t,r)):r <:+ l∧∃ a b,t=.proc a b:=by
 unfold FC at h
 split at h
 ·cases h
 ·rename_i tg r1 h1
  split at h
  ·cases h
  ·rename_i i r2 h2
   split at h
   ·cases h
   ·simp only [cI,cC] at h
    obtain ⟨rfl,rfl⟩:=h
    exact ⟨((F0 h2).trans (eO r1)).trans (y4 h1).1,tg,i,rfl⟩
theorem CS {f:Bool}:∀ {p l r:Bs},fH f p l=.ok r→r <:+ l
 | [],l,r,h=>by unfold fH at h;simp only [cI] at h;rw [h];exact List.suffix_refl _
 | _::_,[],r,h=>by unfold fH at h;cases h
 | p::ps,b::l,r,h=>by
  unfold fH at h
  split at h
  ·exact (CS h).trans (List.suffix_cons b l)
  ·cases h
theorem F1 {o:cU} {l:Bs} {t:aP} {r:Bs} (h:kK o l=.ok (t,r)):r <:+ l∧((∃ d,t=.comment d)∨(∃ d,t=.text d)∨∃ d,t=.dir d):=by
 unfold kK at h
 split at h
 ·cases h
 ·rename_i b r1
  have e1:=List.suffix_cons b r1
  split at h
  ·split at h
   ·cases h
   ·rename_i c r2
    have e2:=List.suffix_cons c r2
    split at h
    ·split at h
     ·cases h
     ·rename_i d r3 h3
      simp only [cI,cC] at h
      obtain ⟨rfl,rfl⟩:=h
      exact ⟨((xS h3).trans e2).trans e1,Or.inl ⟨d,rfl⟩⟩
    ·cases h
  ·split at h
   ·split at h
    ·cases h
    ·rename_i r2 h2
     split at h
     ·cases h
     ·rename_i d r3 h3
      simp only [cI,cC] at h
      obtain ⟨rfl,rfl⟩:=h
      exact ⟨((oG h3).trans (CS h2)).trans e1,Or.inr (Or.inl ⟨d,rfl⟩)⟩
   ·split at h
    ·cases h
    ·rename_i d r2 h2
     simp only [cI,cC] at h
     obtain ⟨rfl,rfl⟩:=h
     exact ⟨(XD h2).trans e1,Or.inr (Or.inr ⟨d,rfl⟩)⟩
theorem CT {o:cU} {l:Bs} {nm:Bs×Bs} {as:List eI} {em:Bool} {r:Bs} (h:fI o l=.ok ((nm,as),em,r)):r <:+ l∧as.length+r.length+2≤l.length:=by
 unfold fI at h
 split at h
 ·cases h
 ·rename_i nm1 r1 h1
  split at h
  ·cases h
  ·rename_i as1 em1 r2 h2
   simp only [cI,cC] at h
   obtain ⟨⟨rfl,rfl⟩,rfl,rfl⟩:=h
   obtain ⟨s1,s2⟩:=kM h1
   obtain ⟨s3,s4⟩:=CR h2
   exact ⟨s3.trans s1,by simp at s4;omega⟩
def aP.wt:aP→Nat
 | .start _ as=>1+as.length
 | _=>1
theorem mS {o:cU} {s s':St} {t:aP} (h:fS o s=.ok (t,s')) :
  s.ended=false∧s'.stk=s.stk∧s'.ns=s.ns∧s'.next=s.next∧s'.rest <:+ s.rest∧(s'.ended=true→s'.rest=[]) ∧
  ((∃ nm,s.toClose=some nm∧t=.fin nm∧s'={ s with toClose:=none }) ∨
   (s.toClose=none∧t.wt+s'.rest.length≤s.rest.length∧(s'.ended=true→∃ d,t=.text d)∧(∀ nm,s'.toClose=some nm→∃ as,t=.start nm as))):=by
 unfold fS at h
 split at h
 ·cases h
 ·rename_i he
  have OK:s.ended=false:=by simpa using he
  refine ⟨OK,?_⟩
  split at h
  ·rename_i nm hc
   simp only [cI,cC] at h
   obtain ⟨rfl,rfl⟩:=h
   exact ⟨rfl,rfl,rfl,List.suffix_refl _,(fun hh=>by rw [OK] at hh;cases hh),Or.inl ⟨nm,hc,rfl,rfl⟩⟩
  ·rename_i hc
   split at h
   ·cases h
   ·rename_i b r hr
    split at h
    ·rename_i hb
     split at h
     ·cases h
     ·rename_i d r2 h2
      simp only [cI,cC] at h
      obtain ⟨rfl,rfl⟩:=h
      have s1:=K1 hb h2
      refine ⟨rfl,rfl,rfl,by rw [hr];exact s1.trans (List.suffix_cons b r),fun hh=>by simpa using hh,Or.inr ⟨hc,?_,fun _=>⟨d,rfl⟩,fun nm hn=>by rw [hc] at hn;cases hn⟩⟩
      have:=fO s1
      simp only [aP.wt,List.length_cons,hr];omega
    ·split at h
     ·cases h
     ·rename_i c r2
      have e1:=(List.suffix_cons c r2).trans (List.suffix_cons b (c::r2))
      split at h
      ·split at h
       ·cases h
       ·rename_i t1 r3 h3
        simp only [cI,cC] at h
        obtain ⟨rfl,rfl⟩:=h
        obtain ⟨s1,nm,rfl⟩:=XE h3
        have:=fO s1
        exact ⟨rfl,rfl,rfl,by rw [hr];exact s1.trans e1,(fun hh=>by rw [OK] at hh;cases hh),Or.inr ⟨hc,by simp only [aP.wt,List.length_cons,hr];omega,(fun hh=>by rw [OK] at hh;cases hh),fun nm hn=>by rw [hc] at hn;cases hn⟩⟩
      ·split at h
       ·split at h
        ·cases h
        ·rename_i t1 r3 h3
         simp only [cI,cC] at h
         obtain ⟨rfl,rfl⟩:=h
         obtain ⟨s1,x,y,rfl⟩:=RP h3
         have:=fO s1
         exact ⟨rfl,rfl,rfl,by rw [hr];exact s1.trans e1,(fun hh=>by rw [OK] at hh;cases hh),Or.inr ⟨hc,by simp only [aP.wt,List.length_cons,hr];omega,(fun hh=>by rw [OK] at hh;cases hh),fun nm hn=>by rw [hc] at hn;cases hn⟩⟩
       ·split at h
        ·split at h
         ·cases h
         ·rename_i t1 r3 h3
          simp only [cI,cC] at h
          obtain ⟨rfl,rfl⟩:=h
          obtain ⟨s1,hk⟩:=F1 h3
          have:=fO s1
          have hw:t1.wt=1:=by rcases hk with ⟨d,rfl⟩|⟨d,rfl⟩|⟨d,rfl⟩<;>rfl
          exact ⟨rfl,rfl,rfl,by rw [hr];exact s1.trans e1,(fun hh=>by rw [OK] at hh;cases hh),Or.inr ⟨hc,by simp only [hw,List.length_cons,hr];omega,(fun hh=>by rw [OK] at hh;cases hh),fun nm hn=>by rw [hc] at hn;cases hn⟩⟩
        ·split at h
         ·cases h
         ·rename_i nm as em r3 h3
          simp only [cI,cC] at h
          obtain ⟨rfl,rfl⟩:=h
          obtain ⟨s1,s2⟩:=CT h3
          refine ⟨rfl,rfl,rfl,by rw [hr];exact s1.trans (List.suffix_cons b _),(fun hh=>by rw [OK] at hh;cases hh),Or.inr ⟨hc,by simp only [aP.wt,List.length_cons,hr] at s2 ⊢;omega,(fun hh=>by rw [OK] at hh;cases hh),fun nm' hn=>?_⟩⟩
          cases em
          ·cases hn
          ·simp at hn;subst hn;exact ⟨as,rfl⟩
inductive o8 (fold:Bs→Bs→Bool) (o:cU):St→List (aP×St)→EK→Prop
 | stop {s e}:l8 fold o s=.error e→o8 fold o s [] e
 | more {s t s' l e}:l8 fold o s=.ok (t,s')→o8 fold o s' l e→o8 fold o s ((t,s')::l) e
theorem o8.det {fold:Bs→Bs→Bool} {o:cU} {s:St} {l l':List (aP×St)} {e e':EK} (h:o8 fold o s l e) (h':o8 fold o s l' e'):l=l'∧e=e':=by
 induction h generalizing l' e' with
 | stop h1=>
  cases h' with
  | stop h2=>rw [h1] at h2;cases h2;exact ⟨rfl,rfl⟩
  | more h2 _=>rw [h1] at h2;cases h2
 | more h1 _ ih=>
  cases h' with
  | stop h2=>rw [h1] at h2;cases h2
  | more h2 h3=>
   rw [h1] at h2
   simp only [cI,cC] at h2
   obtain ⟨rfl,rfl⟩:=h2
   obtain ⟨rfl,rfl⟩:=ih h3
   exact ⟨rfl,rfl⟩
theorem TV {fold:Bs→Bs→Bool} {o:cU} (h:o.auto=[]) (t:aP) (s:St):nJ fold o t s=none:=by
 unfold nJ
 rw [h]
 split
 ·rfl
 ·split<;>simp
def XF (o:cU) (s:St):Except EK (aP×St):=
 match fS o s with
 | .error e=>.error (if e=.eof∧s.stk≠[] then .syn else e)
 | .ok (t,s')=>eM o t s'
theorem XG {fold:Bs→Bs→Bool} {o:cU} (h:o.auto=[]) {s:St} (hn:s.next=none):sW fold o s=XF o s:=by
 unfold sW XF
 rw [hn]
 cases fS o s with
 | error e=>rfl
 | ok p=>
  obtain ⟨t,s'⟩:=p
  simp only [TV h]
  split<;>rfl
def wB (o:cU) (s:St):Except EK (aP×St):=if o.raw then fS o s else XF o s
theorem u5 {fold:Bs→Bs→Bool} {o:cU} (h:o.auto=[]) {s:St} (hn:s.next=none):l8 fold o s=wB o s:=by
 unfold l8 wB
 rw [XG h hn]
theorem u6:∀ (as:List eI) (stk:List mQ) (ns:Bs→Option Bs),(f0 as stk ns).1.length≤stk.length+as.length
 | [],stk,ns=>by simp [f0]
 | (sp,loc,v)::as,stk,ns=>by
  unfold f0
  by_cases h1:sp=f9
  ·have h2:¬ (sp=[]∧loc=f9):=by rintro ⟨h,_⟩;rw [h1] at h;cases h
   simp only [if_pos h1,if_neg h2]
   have:=u6 as ({ kind:=1,space:=(ns loc).getD [],loc:=loc,ok:=(ns loc).isSome }::stk) (kL ns loc (some v))
   simp only [List.length_cons] at this ⊢;omega
  ·by_cases h2:sp=[]∧loc=f9
   ·simp only [if_neg h1,if_pos h2]
    have:=u6 as ({ kind:=1,space:=(ns []).getD [],loc:=[],ok:=(ns []).isSome }::stk) (kL ns [] (some v))
    simp only [List.length_cons] at this ⊢;omega
   ·simp only [if_neg h1,if_neg h2]
    have:=u6 as stk ns
    simp only [List.length_cons] at this ⊢;omega
theorem F2:∀ (stk:List mQ) (ns:Bs→Option Bs),(jK stk ns).1.length≤stk.length
 | [],_=>by simp [jK]
 | e::stk,ns=>by
  unfold jK
  split
  ·exact Nat.le_refl _
  ·have:=F2 stk (kL ns e.loc (if e.ok then some e.space else none))
   simp only [List.length_cons];omega
theorem xV {o:cU} {t t':aP} {s s':St} (h:eM o t s=.ok (t',s')) :
  s'.rest=s.rest∧s'.ended=s.ended∧s'.next=s.next∧((∃ nm as,t=.start nm as)↔(∃ nm as,t'=.start nm as))∧((∃ nm,t=.fin nm)↔∃ nm,t'=.fin nm) ∧
  (s'.toClose=s.toClose∨(o.strict=false∧∃ nm,t=.fin nm))∧((∃ nm,t=.fin nm)→s'.stk.length<s.stk.length)∧((¬ ∃ nm,t=.fin nm)→s'.stk.length+1≤s.stk.length+1+t.wt):=by
 unfold eM at h
 split at h
 ·rename_i nm as
  simp only [cI,cC] at h
  obtain ⟨rfl,rfl⟩:=h
  refine ⟨rfl,rfl,rfl,⟨fun _=>⟨_,_,rfl⟩,fun _=>⟨_,_,rfl⟩⟩,⟨by simp,by simp⟩,Or.inl rfl,by simp,fun _=>?_⟩
  have:=u6 as s.stk s.ns
  simp only [List.length_cons,aP.wt];omega
 ·rename_i nm
  unfold pW at h
  split at h
  ·cases h
  ·rename_i e stk hs
   split at h
   ·cases h
   ·split at h
    ·split at h
     ·cases h
     ·rename_i dA
      simp only [cI,cC] at h
      obtain ⟨rfl,rfl⟩:=h
      refine ⟨rfl,rfl,rfl,⟨by simp,by simp⟩,⟨fun _=>⟨_,rfl⟩,fun _=>⟨_,rfl⟩⟩,Or.inr ⟨by simpa using dA,_,rfl⟩,fun _=>by rw [hs];simp,fun hh=>absurd ⟨_,rfl⟩ hh⟩
    ·split at h
     ·cases h
     ·simp only [cI,cC] at h
      obtain ⟨rfl,rfl⟩:=h
      refine ⟨rfl,rfl,rfl,⟨by simp,by simp⟩,⟨fun _=>⟨_,rfl⟩,fun _=>⟨_,rfl⟩⟩,Or.inl rfl,fun _=>?_,fun hh=>absurd ⟨_,rfl⟩ hh⟩
      have:=F2 stk s.ns
      rw [hs];simp only [List.length_cons];omega
 ·rename_i t1 h1 h2
  simp only [cI,cC] at h
  obtain ⟨rfl,rfl⟩:=h
  refine ⟨rfl,rfl,rfl,Iff.rfl,Iff.rfl,Or.inl rfl,fun ⟨nm,hh⟩=>absurd hh (h2 nm),fun _=>by omega⟩
def St.mu (s:St):Nat:=8*s.rest.length+4*s.stk.length+(if s.toClose.isSome then 1 else 0)
theorem RQ (s:St):(if s.toClose.isSome then 1 else 0)≤1:=by split<;>omega
theorem y5 {o:cU} {s s':St} {t:aP} (h:fS o s=.ok (t,s')):s'.mu<s.mu∧((¬ ∃ nm,t=.fin nm)→s'.mu+4*t.wt<s.mu)∧s'.stk=s.stk∧s'.rest <:+ s.rest:=by
 obtain ⟨_,h1,_,_,h2,_,h3⟩:=mS h
 refine ⟨?_,?_,h1,h2⟩
 ·rcases h3 with ⟨nm,h4,_,rfl⟩|⟨h4,h5,_⟩
  ·unfold St.mu;simp [h4]
  ·have:=RQ s'
   have h6:1≤t.wt:=by unfold aP.wt;split<;>omega
   unfold St.mu;rw [h1,h4];simp;omega
 ·intro hn
  rcases h3 with ⟨nm,_,h4,_⟩|⟨h4,h5,_⟩
  ·exact absurd ⟨nm,h4⟩ hn
  ·have:=RQ s'
   have h6:1≤t.wt:=by unfold aP.wt;split<;>omega
   unfold St.mu;rw [h1,h4];simp;omega
theorem XH {o:cU} {s s':St} {t:aP} (h:wB o s=.ok (t,s')):s'.mu<s.mu∧s'.rest <:+ s.rest∧s'.next=s.next:=by
 unfold wB at h
 split at h
 ·exact ⟨(y5 h).1,(y5 h).2.2.2,(mS h).2.2.2.1⟩
 ·unfold XF at h
  split at h
  ·cases h
  ·rename_i t1 s1 h1
   obtain ⟨m1,m2,m3,m4⟩:=y5 h1
   obtain ⟨w1,w2,w3,w4,w5,w6,w7,w8⟩:=xV h
   refine ⟨?_,by rw [w1];exact m4,w3.trans (mS h1).2.2.2.1⟩
   by_cases hf:∃ nm,t1=.fin nm
   ·have:=w7 hf
    have h5:=RQ s'
    unfold St.mu at m1 ⊢
    rw [w1];split at m1<;>omega
   ·have:=w8 hf
    have h5:=m2 hf
    have h6:s'.toClose=s1.toClose:=by
     rcases w6 with w6|⟨_,w6⟩
     ·exact w6
     ·exact absurd w6 hf
    unfold St.mu at h5 ⊢
    rw [w1,h6];omega
end Go.Proofs.YtdjdjbpnbjdaaaaGreatDoor
