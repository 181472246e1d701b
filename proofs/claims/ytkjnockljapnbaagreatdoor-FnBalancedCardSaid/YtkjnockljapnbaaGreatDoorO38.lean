/- Part of the proof that laws.FnBalanced returns true for every argument (Ha). No condition of its own. -/
import Derived.Test.YtkjnockljapnbaaGreatDoorO01
import Derived.Shelf.Unicode.CaseLaid
set_option linter.all false
set_option maxHeartbeats 8000000
set_option maxRecDepth 100000
namespace Go.Proofs.YtkjnockljapnbaaGreatDoor
open Go Go.Lib
def orbL:List (Nat × Nat):=[(75,107),(83,115),(107,8490),(115,383),(181,924),(197,229),(223,7838),(229,8491),(304,304),(305,305),(383,83),(452,453),(453,454),(454,452),(455,456),(456,457),(457,455),(458,459),(459,460),(460,458),(497,498),(498,499),(499,497),(837,921),(912,8147),(914,946),(917,949),(920,952),(921,953),(922,954),(924,956),(928,960),(929,961),(931,962),(934,966),(937,969),(944,8163),(946,976),(949,1013),(952,977),(953,8126),(954,1008),(956,181),(960,982),(961,1009),(962,963),(963,931),(966,981),(969,8486),(976,914),(977,1012),(981,934),(982,928),(1008,922),(1009,929),(1012,920),(1013,917),(1042,1074),(1044,1076),(1054,1086),(1057,1089),(1058,1090),(1066,1098),(1074,7296),(1076,7297),(1086,7298),(1089,7299),(1090,7300),(1098,7302),(1122,1123),(1123,7303),(7296,1042),(7297,1044),(7298,1054),(7299,1057),(7300,7301),(7301,1058),(7302,1066),(7303,1122),(7304,42570),(7776,7777),(7777,7835),(7835,7776),(7838,223),(8126,837),(8147,912),(8163,944),(8486,937),(8490,75),(8491,197),(42570,42571),(42571,7304),(64261,64262),(64262,64261)]
def ascF (c:Nat):Nat:=if Nat.ble 65 c && Nat.ble c 90 then c + 32 else if Nat.beq c 107 then 8490 else if Nat.beq c 115 then 383 else if Nat.ble 97 c && Nat.ble c 122 then c - 32 else c
theorem bltT {a b:Nat} (h:a < b):Nat.blt a b=true:=Nat.ble_eq_true_of_le h
theorem bltD {a b:Nat} (h:Nat.blt a b=true):a < b:=Nat.le_of_ble_eq_true h
theorem bltF {a b:Nat} (h:¬ a < b):Nat.blt a b=false:=by
  cases hh:Nat.blt a b with
  | false=>rfl
  | true=>exact absurd (bltD hh) h
inductive Tr (α:Type) where
  | e:Tr α
  | n:Tr α → α → Tr α → Tr α
def Tr.list {α:Type}:Tr α → List α
  | .e=>[]
  | .n l x r=>l.list ++ x :: r.list
def Tr.look {α:Type} (lo hi:α → Nat) (k:Nat):Tr α → Option α
  | .e=>none
  | .n l x r=>bif Nat.blt k (lo x) then l.look lo hi k else bif Nat.blt (hi x) k then r.look lo hi k else some x
theorem Tr.look_mem {α:Type} {lo hi:α → Nat} {k:Nat}:∀ {t:Tr α} {x:α},t.look lo hi k=some x → x ∈ t.list∧lo x ≤ k∧k ≤ hi x
  | .e,_,h=>by cases h
  | .n l y r,x,h=>by
    unfold Tr.look at h
    cases h1:Nat.blt k (lo y) with
    | true=>
      rw [h1] at h
      obtain ⟨a,b⟩:=Tr.look_mem (t:=l) h
      exact ⟨by simp [Tr.list,a],b⟩
    | false=>
      rw [h1] at h
      cases h2:Nat.blt (hi y) k with
      | true=>
        rw [h2] at h
        obtain ⟨a,b⟩:=Tr.look_mem (t:=r) h
        exact ⟨by simp [Tr.list,a],b⟩
      | false=>
        rw [h2] at h
        simp only [cond_false,Option.some.injEq] at h
        subst h
        have h3:¬ (k < lo y):=fun hh=>by rw [bltT hh] at h1;cases h1
        have h4:¬ (hi y < k):=fun hh=>by rw [bltT hh] at h2;cases h2
        exact ⟨by simp [Tr.list],by omega,by omega⟩
theorem Tr.look_some {α:Type} {lo hi:α → Nat} {k:Nat}:∀ {t:Tr α} {x:α},t.list.Pairwise (fun a b=>hi a < lo b) → (∀ a ∈ t.list,lo a ≤ hi a) → x ∈ t.list → lo x ≤ k → k ≤ hi x → t.look lo hi k=some x
  | .e,_,_,_,h,_,_=>by simp [Tr.list] at h
  | .n l y r,x,hp,hv,hx,h1,h2=>by
    unfold Tr.list at hp hv hx
    rw [List.pairwise_append] at hp
    obtain ⟨p1,p2,p3⟩:=hp
    rw [List.pairwise_cons] at p2
    obtain ⟨p4,p5⟩:=p2
    unfold Tr.look
    have hy:=hv y (by simp)
    rcases List.mem_append.1 hx with h9|h9
    · have h8:=p3 x h9 y (by simp)
      rw [bltT (show k < lo y by omega)]
      exact Tr.look_some p1 (fun a ha=>hv a (by simp [ha])) h9 h1 h2
    · rcases List.mem_cons.1 h9 with rfl|h9
      · rw [bltF (show ¬ k < lo x by omega),bltF (show ¬ hi x < k by omega)]
        rfl
      · have h8:=p4 x h9
        rw [bltF (show ¬ k < lo y by omega),bltT (show hi y < k by omega)]
        exact Tr.look_some p5 (fun a ha=>hv a (by simp [ha])) h9 h1 h2
def caseTr:Tr CaseRow:=(.n (.n (.n (.n (.n (.n (.n (.n (.n .e (65,90,0,32,0) .e) (97,122,-32,0,-32) .e) (181,181,743,0,743) (.n (.n .e (192,214,0,32,0) .e) (216,222,0,32,0) .e)) (224,246,-32,0,-32) (.n (.n (.n .e (248,254,-32,0,-32) .e) (255,255,121,0,121) .e) (256,303,1114112,1114112,1114112) (.n .e (304,304,0,-199,0) .e))) (305,305,-232,0,-232) (.n (.n (.n (.n .e (306,311,1114112,1114112,1114112) .e) (313,328,1114112,1114112,1114112) .e) (330,375,1114112,1114112,1114112) (.n (.n .e (376,376,0,-121,0) .e) (377,382,1114112,1114112,1114112) .e)) (383,383,-300,0,-300) (.n (.n (.n .e (384,384,195,0,195) .e) (385,385,0,210,0) .e) (386,389,1114112,1114112,1114112) (.n .e (390,390,0,206,0) .e)))) (391,392,1114112,1114112,1114112) (.n (.n (.n (.n (.n .e (393,394,0,205,0) .e) (395,396,1114112,1114112,1114112) .e) (398,398,0,79,0) (.n (.n .e (399,399,0,202,0) .e) (400,400,0,203,0) .e)) (401,402,1114112,1114112,1114112) (.n (.n (.n .e (403,403,0,205,0) .e) (404,404,0,207,0) .e) (405,405,97,0,97) (.n .e (406,406,0,211,0) .e))) (407,407,0,209,0) (.n (.n (.n (.n .e (408,409,1114112,1114112,1114112) .e) (410,410,163,0,163) .e) (411,411,42561,0,42561) (.n .e (412,412,0,211,0) .e)) (413,413,0,213,0) (.n (.n (.n .e (414,414,130,0,130) .e) (415,415,0,214,0) .e) (416,421,1114112,1114112,1114112) (.n .e (422,422,0,218,0) .e))))) (423,424,1114112,1114112,1114112) (.n (.n (.n (.n (.n (.n .e (425,425,0,218,0) .e) (428,429,1114112,1114112,1114112) .e) (430,430,0,218,0) (.n (.n .e (431,432,1114112,1114112,1114112) .e) (433,434,0,217,0) .e)) (435,438,1114112,1114112,1114112) (.n (.n (.n .e (439,439,0,219,0) .e) (440,441,1114112,1114112,1114112) .e) (444,445,1114112,1114112,1114112) (.n .e (447,447,56,0,56) .e))) (452,452,0,2,1) (.n (.n (.n (.n .e (453,453,-1,1,0) .e) (454,454,-2,0,-1) .e) (455,455,0,2,1) (.n .e (456,456,-1,1,0) .e)) (457,457,-2,0,-1) (.n (.n (.n .e (458,458,0,2,1) .e) (459,459,-1,1,0) .e) (460,460,-2,0,-1) (.n .e (461,476,1114112,1114112,1114112) .e)))) (477,477,-79,0,-79) (.n (.n (.n (.n (.n .e (478,495,1114112,1114112,1114112) .e) (497,497,0,2,1) .e) (498,498,-1,1,0) (.n (.n .e (499,499,-2,0,-1) .e) (500,501,1114112,1114112,1114112) .e)) (502,502,0,-97,0) (.n (.n (.n .e (503,503,0,-56,0) .e) (504,543,1114112,1114112,1114112) .e) (544,544,0,-130,0) (.n .e (546,563,1114112,1114112,1114112) .e))) (570,570,0,10795,0) (.n (.n (.n (.n .e (571,572,1114112,1114112,1114112) .e) (573,573,0,-163,0) .e) (574,574,0,10792,0) (.n .e (575,576,10815,0,10815) .e)) (577,578,1114112,1114112,1114112) (.n (.n (.n .e (579,579,0,-195,0) .e) (580,580,0,69,0) .e) (581,581,0,71,0) (.n .e (582,591,1114112,1114112,1114112) .e)))))) (592,592,10783,0,10783) (.n (.n (.n (.n (.n (.n (.n .e (593,593,10780,0,10780) .e) (594,594,10782,0,10782) .e) (595,595,-210,0,-210) (.n (.n .e (596,596,-206,0,-206) .e) (598,599,-205,0,-205) .e)) (601,601,-202,0,-202) (.n (.n (.n .e (603,603,-203,0,-203) .e) (604,604,42319,0,42319) .e) (608,608,-205,0,-205) (.n .e (609,609,42315,0,42315) .e))) (611,611,-207,0,-207) (.n (.n (.n (.n .e (612,612,42343,0,42343) .e) (613,613,42280,0,42280) .e) (614,614,42308,0,42308) (.n .e (616,616,-209,0,-209) .e)) (617,617,-211,0,-211) (.n (.n (.n .e (618,618,42308,0,42308) .e) (619,619,10743,0,10743) .e) (620,620,42305,0,42305) (.n .e (623,623,-211,0,-211) .e)))) (625,625,10749,0,10749) (.n (.n (.n (.n (.n .e (626,626,-213,0,-213) .e) (629,629,-214,0,-214) .e) (637,637,10727,0,10727) (.n (.n .e (640,640,-218,0,-218) .e) (642,642,42307,0,42307) .e)) (643,643,-218,0,-218) (.n (.n (.n .e (647,647,42282,0,42282) .e) (648,648,-218,0,-218) .e) (649,649,-69,0,-69) (.n .e (650,651,-217,0,-217) .e))) (652,652,-71,0,-71) (.n (.n (.n (.n .e (658,658,-219,0,-219) .e) (669,669,42261,0,42261) .e) (670,670,42258,0,42258) (.n .e (837,837,84,0,84) .e)) (880,883,1114112,1114112,1114112) (.n (.n (.n .e (886,887,1114112,1114112,1114112) .e) (891,893,130,0,130) .e) (895,895,0,116,0) (.n .e (902,902,0,38,0) .e))))) (904,906,0,37,0) (.n (.n (.n (.n (.n (.n .e (908,908,0,64,0) .e) (910,911,0,63,0) .e) (913,929,0,32,0) (.n (.n .e (931,939,0,32,0) .e) (940,940,-38,0,-38) .e)) (941,943,-37,0,-37) (.n (.n (.n .e (945,961,-32,0,-32) .e) (962,962,-31,0,-31) .e) (963,971,-32,0,-32) (.n .e (972,972,-64,0,-64) .e))) (973,974,-63,0,-63) (.n (.n (.n (.n .e (975,975,0,8,0) .e) (976,976,-62,0,-62) .e) (977,977,-57,0,-57) (.n .e (981,981,-47,0,-47) .e)) (982,982,-54,0,-54) (.n (.n (.n .e (983,983,-8,0,-8) .e) (984,1007,1114112,1114112,1114112) .e) (1008,1008,-86,0,-86) (.n .e (1009,1009,-80,0,-80) .e)))) (1010,1010,7,0,7) (.n (.n (.n (.n (.n .e (1011,1011,-116,0,-116) .e) (1012,1012,0,-60,0) .e) (1013,1013,-96,0,-96) (.n (.n .e (1015,1016,1114112,1114112,1114112) .e) (1017,1017,0,-7,0) .e)) (1018,1019,1114112,1114112,1114112) (.n (.n (.n .e (1021,1023,0,-130,0) .e) (1024,1039,0,80,0) .e) (1040,1071,0,32,0) (.n .e (1072,1103,-32,0,-32) .e))) (1104,1119,-80,0,-80) (.n (.n (.n (.n .e (1120,1153,1114112,1114112,1114112) .e) (1162,1215,1114112,1114112,1114112) .e) (1216,1216,0,15,0) (.n .e (1217,1230,1114112,1114112,1114112) .e)) (1231,1231,-15,0,-15) (.n (.n (.n .e (1232,1327,1114112,1114112,1114112) .e) (1329,1366,0,48,0) .e) (1377,1414,-48,0,-48) (.n .e (4256,4293,0,7264,0) .e))))))) (4295,4295,0,7264,0) (.n (.n (.n (.n (.n (.n (.n (.n .e (4301,4301,0,7264,0) .e) (4304,4346,3008,0,0) .e) (4349,4351,3008,0,0) (.n (.n .e (5024,5103,0,38864,0) .e) (5104,5109,0,8,0) .e)) (5112,5117,-8,0,-8) (.n (.n (.n .e (7296,7296,-6254,0,-6254) .e) (7297,7297,-6253,0,-6253) .e) (7298,7298,-6244,0,-6244) (.n .e (7299,7300,-6242,0,-6242) .e))) (7301,7301,-6243,0,-6243) (.n (.n (.n (.n .e (7302,7302,-6236,0,-6236) .e) (7303,7303,-6181,0,-6181) .e) (7304,7304,35266,0,35266) (.n .e (7305,7306,1114112,1114112,1114112) .e)) (7312,7354,0,-3008,0) (.n (.n (.n .e (7357,7359,0,-3008,0) .e) (7545,7545,35332,0,35332) .e) (7549,7549,3814,0,3814) (.n .e (7566,7566,35384,0,35384) .e)))) (7680,7829,1114112,1114112,1114112) (.n (.n (.n (.n (.n .e (7835,7835,-59,0,-59) .e) (7838,7838,0,-7615,0) .e) (7840,7935,1114112,1114112,1114112) (.n (.n .e (7936,7943,8,0,8) .e) (7944,7951,0,-8,0) .e)) (7952,7957,8,0,8) (.n (.n (.n .e (7960,7965,0,-8,0) .e) (7968,7975,8,0,8) .e) (7976,7983,0,-8,0) (.n .e (7984,7991,8,0,8) .e))) (7992,7999,0,-8,0) (.n (.n (.n (.n .e (8000,8005,8,0,8) .e) (8008,8013,0,-8,0) .e) (8017,8017,8,0,8) (.n .e (8019,8019,8,0,8) .e)) (8021,8021,8,0,8) (.n (.n (.n .e (8023,8023,8,0,8) .e) (8025,8025,0,-8,0) .e) (8027,8027,0,-8,0) (.n .e (8029,8029,0,-8,0) .e))))) (8031,8031,0,-8,0) (.n (.n (.n (.n (.n (.n .e (8032,8039,8,0,8) .e) (8040,8047,0,-8,0) .e) (8048,8049,74,0,74) (.n (.n .e (8050,8053,86,0,86) .e) (8054,8055,100,0,100) .e)) (8056,8057,128,0,128) (.n (.n (.n .e (8058,8059,112,0,112) .e) (8060,8061,126,0,126) .e) (8064,8071,8,0,8) (.n .e (8072,8079,0,-8,0) .e))) (8080,8087,8,0,8) (.n (.n (.n (.n .e (8088,8095,0,-8,0) .e) (8096,8103,8,0,8) .e) (8104,8111,0,-8,0) (.n .e (8112,8113,8,0,8) .e)) (8115,8115,9,0,9) (.n (.n (.n .e (8120,8121,0,-8,0) .e) (8122,8123,0,-74,0) .e) (8124,8124,0,-9,0) (.n .e (8126,8126,-7205,0,-7205) .e)))) (8131,8131,9,0,9) (.n (.n (.n (.n (.n .e (8136,8139,0,-86,0) .e) (8140,8140,0,-9,0) .e) (8144,8145,8,0,8) (.n (.n .e (8152,8153,0,-8,0) .e) (8154,8155,0,-100,0) .e)) (8160,8161,8,0,8) (.n (.n (.n .e (8165,8165,7,0,7) .e) (8168,8169,0,-8,0) .e) (8170,8171,0,-112,0) (.n .e (8172,8172,0,-7,0) .e))) (8179,8179,9,0,9) (.n (.n (.n (.n .e (8184,8185,0,-128,0) .e) (8186,8187,0,-126,0) .e) (8188,8188,0,-9,0) (.n .e (8486,8486,0,-7517,0) .e)) (8490,8490,0,-8383,0) (.n (.n (.n .e (8491,8491,0,-8262,0) .e) (8498,8498,0,28,0) .e) (8526,8526,-28,0,-28) (.n .e (8544,8559,0,16,0) .e)))))) (8560,8575,-16,0,-16) (.n (.n (.n (.n (.n (.n (.n .e (8579,8580,1114112,1114112,1114112) .e) (9398,9423,0,26,0) .e) (9424,9449,-26,0,-26) (.n (.n .e (11264,11311,0,48,0) .e) (11312,11359,-48,0,-48) .e)) (11360,11361,1114112,1114112,1114112) (.n (.n (.n .e (11362,11362,0,-10743,0) .e) (11363,11363,0,-3814,0) .e) (11364,11364,0,-10727,0) (.n .e (11365,11365,-10795,0,-10795) .e))) (11366,11366,-10792,0,-10792) (.n (.n (.n (.n .e (11367,11372,1114112,1114112,1114112) .e) (11373,11373,0,-10780,0) .e) (11374,11374,0,-10749,0) (.n .e (11375,11375,0,-10783,0) .e)) (11376,11376,0,-10782,0) (.n (.n (.n .e (11378,11379,1114112,1114112,1114112) .e) (11381,11382,1114112,1114112,1114112) .e) (11390,11391,0,-10815,0) (.n .e (11392,11491,1114112,1114112,1114112) .e)))) (11499,11502,1114112,1114112,1114112) (.n (.n (.n (.n (.n .e (11506,11507,1114112,1114112,1114112) .e) (11520,11557,-7264,0,-7264) .e) (11559,11559,-7264,0,-7264) (.n (.n .e (11565,11565,-7264,0,-7264) .e) (42560,42605,1114112,1114112,1114112) .e)) (42624,42651,1114112,1114112,1114112) (.n (.n (.n .e (42786,42799,1114112,1114112,1114112) .e) (42802,42863,1114112,1114112,1114112) .e) (42873,42876,1114112,1114112,1114112) (.n .e (42877,42877,0,-35332,0) .e))) (42878,42887,1114112,1114112,1114112) (.n (.n (.n (.n .e (42891,42892,1114112,1114112,1114112) .e) (42893,42893,0,-42280,0) .e) (42896,42899,1114112,1114112,1114112) (.n .e (42900,42900,48,0,48) .e)) (42902,42921,1114112,1114112,1114112) (.n (.n (.n .e (42922,42922,0,-42308,0) .e) (42923,42923,0,-42319,0) .e) (42924,42924,0,-42315,0) (.n .e (42925,42925,0,-42305,0) .e))))) (42926,42926,0,-42308,0) (.n (.n (.n (.n (.n (.n .e (42928,42928,0,-42258,0) .e) (42929,42929,0,-42282,0) .e) (42930,42930,0,-42261,0) (.n (.n .e (42931,42931,0,928,0) .e) (42932,42947,1114112,1114112,1114112) .e)) (42948,42948,0,-48,0) (.n (.n (.n .e (42949,42949,0,-42307,0) .e) (42950,42950,0,-35384,0) .e) (42951,42954,1114112,1114112,1114112) (.n .e (42955,42955,0,-42343,0) .e))) (42956,42971,1114112,1114112,1114112) (.n (.n (.n (.n .e (42972,42972,0,-42561,0) .e) (42997,42998,1114112,1114112,1114112) .e) (43859,43859,-928,0,-928) (.n .e (43888,43967,-38864,0,-38864) .e)) (65313,65338,0,32,0) (.n (.n (.n .e (65345,65370,-32,0,-32) .e) (66560,66599,0,40,0) .e) (66600,66639,-40,0,-40) (.n .e (66736,66771,0,40,0) .e)))) (66776,66811,-40,0,-40) (.n (.n (.n (.n (.n .e (66928,66938,0,39,0) .e) (66940,66954,0,39,0) .e) (66956,66962,0,39,0) (.n (.n .e (66964,66965,0,39,0) .e) (66967,66977,-39,0,-39) .e)) (66979,66993,-39,0,-39) (.n (.n (.n .e (66995,67001,-39,0,-39) .e) (67003,67004,-39,0,-39) .e) (68736,68786,0,64,0) (.n .e (68800,68850,-64,0,-64) .e))) (68944,68965,0,32,0) (.n (.n (.n (.n .e (68976,68997,-32,0,-32) .e) (71840,71871,0,32,0) .e) (71872,71903,-32,0,-32) (.n .e (93760,93791,0,32,0) .e)) (93792,93823,-32,0,-32) (.n (.n (.n .e (93856,93880,0,27,0) .e) (93883,93907,-27,0,-27) .e) (125184,125217,0,34,0) (.n .e (125218,125251,-34,0,-34) .e))))))))
def orbTr:Tr (Nat × Nat):=(.n (.n (.n (.n (.n (.n (.n .e (75,107) .e) (83,115) .e) (107,8490) (.n (.n .e (115,383) .e) (181,924) .e)) (197,229) (.n (.n (.n .e (223,7838) .e) (229,8491) .e) (304,304) (.n (.n .e (305,305) .e) (383,83) .e))) (452,453) (.n (.n (.n (.n .e (453,454) .e) (454,452) .e) (455,456) (.n (.n .e (456,457) .e) (457,455) .e)) (458,459) (.n (.n (.n .e (459,460) .e) (460,458) .e) (497,498) (.n (.n .e (498,499) .e) (499,497) .e)))) (837,921) (.n (.n (.n (.n (.n .e (912,8147) .e) (914,946) .e) (917,949) (.n (.n .e (920,952) .e) (921,953) .e)) (922,954) (.n (.n (.n .e (924,956) .e) (928,960) .e) (929,961) (.n (.n .e (931,962) .e) (934,966) .e))) (937,969) (.n (.n (.n (.n .e (944,8163) .e) (946,976) .e) (949,1013) (.n (.n .e (952,977) .e) (953,8126) .e)) (954,1008) (.n (.n (.n .e (956,181) .e) (960,982) .e) (961,1009) (.n (.n .e (962,963) .e) (963,931) .e))))) (966,981) (.n (.n (.n (.n (.n (.n .e (969,8486) .e) (976,914) .e) (977,1012) (.n (.n .e (981,934) .e) (982,928) .e)) (1008,922) (.n (.n (.n .e (1009,929) .e) (1012,920) .e) (1013,917) (.n (.n .e (1042,1074) .e) (1044,1076) .e))) (1054,1086) (.n (.n (.n (.n .e (1057,1089) .e) (1058,1090) .e) (1066,1098) (.n (.n .e (1074,7296) .e) (1076,7297) .e)) (1086,7298) (.n (.n (.n .e (1089,7299) .e) (1090,7300) .e) (1098,7302) (.n (.n .e (1122,1123) .e) (1123,7303) .e)))) (7296,1042) (.n (.n (.n (.n (.n .e (7297,1044) .e) (7298,1054) .e) (7299,1057) (.n (.n .e (7300,7301) .e) (7301,1058) .e)) (7302,1066) (.n (.n (.n .e (7303,1122) .e) (7304,42570) .e) (7776,7777) (.n (.n .e (7777,7835) .e) (7835,7776) .e))) (7838,223) (.n (.n (.n (.n .e (8126,837) .e) (8147,912) .e) (8163,944) (.n (.n .e (8486,937) .e) (8490,75) .e)) (8491,197) (.n (.n (.n .e (42570,42571) .e) (42571,7304) .e) (64261,64262) (.n .e (64262,64261) .e))))))
theorem caseTr_list:caseTr.list=caseT:=by decide +kernel
theorem orbTr_list:orbTr.list=orbL:=by decide +kernel
def rowOf (r:Nat):Option CaseRow:=caseTr.look (fun x=>x.1) (fun x=>x.2.1) r
def orbOf (r:Nat):Option (Nat × Nat):=orbTr.look (fun x=>x.1) (fun x=>x.1) r
def convN (c r:Nat) (x:CaseRow):Nat:=(convertR c r x).toNat
def sfoldX (r:Nat) (x:CaseRow):Nat:=bif Nat.beq (convN 1 r x) r then convN 0 r x else convN 1 r x
def sfoldN (r:Nat):Nat:=
  bif Nat.ble 128 r then
    match orbOf r with
    | some p=>p.2
    | none=>
      match rowOf r with
      | some x=>sfoldX r x
      | none=>r
  else ascF r
def forceN (n:Nat) (f:Nat → Bool):Bool:=Nat.rec (f 0) (fun k _=>f (k + 1)) n
theorem forceN_eq (n:Nat) (f:Nat → Bool):forceN n f=f n:=by cases n <;> rfl
def backN (r:Nat):Bool:=forceN (sfoldN r) fun a=>Nat.ble a 1114111 && (Nat.beq a r || forceN (sfoldN a) fun b=>Nat.beq b r || forceN (sfoldN b) fun c=>Nat.beq c r || Nat.beq (sfoldN c) r)
def backRow (x:CaseRow):Bool:=(List.range (x.2.1 - x.1 + 1)).all fun k=>forceN (x.1 + k) backN
theorem back_rows0:((caseT.drop 0).take 28).all backRow=true:=by decide +kernel
theorem back_rows1:((caseT.drop 28).take 28).all backRow=true:=by decide +kernel
theorem back_rows2:((caseT.drop 56).take 28).all backRow=true:=by decide +kernel
theorem back_rows3:((caseT.drop 84).take 28).all backRow=true:=by decide +kernel
theorem back_rows4:((caseT.drop 112).take 28).all backRow=true:=by decide +kernel
theorem back_rows5:((caseT.drop 140).take 28).all backRow=true:=by decide +kernel
theorem back_rows6:((caseT.drop 168).take 28).all backRow=true:=by decide +kernel
theorem back_rows7:((caseT.drop 196).take 28).all backRow=true:=by decide +kernel
theorem back_rows8:((caseT.drop 224).take 28).all backRow=true:=by decide +kernel
theorem back_rows9:((caseT.drop 252).take 28).all backRow=true:=by decide +kernel
theorem back_rows10:((caseT.drop 280).take 28).all backRow=true:=by decide +kernel
theorem back_rows11:((caseT.drop 308).take 28).all backRow=true:=by decide +kernel
theorem back_rows:caseT.all backRow=true:=by
  have h:caseT=(caseT.drop 0).take 28 ++ ((caseT.drop 28).take 28 ++ ((caseT.drop 56).take 28 ++ ((caseT.drop 84).take 28 ++ ((caseT.drop 112).take 28 ++ ((caseT.drop 140).take 28 ++ ((caseT.drop 168).take 28 ++ ((caseT.drop 196).take 28 ++ ((caseT.drop 224).take 28 ++ ((caseT.drop 252).take 28 ++ ((caseT.drop 280).take 28 ++ ((caseT.drop 308).take 28))))))))))):=by
    rw [show ((caseT.drop 0).take 28 ++ ((caseT.drop 28).take 28 ++ ((caseT.drop 56).take 28 ++ ((caseT.drop 84).take 28 ++ ((caseT.drop 112).take 28 ++ ((caseT.drop 140).take 28 ++ ((caseT.drop 168).take 28 ++ ((caseT.drop 196).take 28 ++ ((caseT.drop 224).take 28 ++ ((caseT.drop 252).take 28 ++ ((caseT.drop 280).take 28 ++ ((caseT.drop 308).take 28))))))))))))=caseT by decide +kernel]
  rw [h]
  simp only [List.all_append,Bool.and_eq_true]
  exact ⟨back_rows0,⟨back_rows1,⟨back_rows2,⟨back_rows3,⟨back_rows4,⟨back_rows5,⟨back_rows6,⟨back_rows7,⟨back_rows8,⟨back_rows9,⟨back_rows10,back_rows11⟩⟩⟩⟩⟩⟩⟩⟩⟩⟩⟩
theorem back_asc:((List.range 128).all fun k=>forceN k backN)=true:=by decide +kernel
theorem back_orb:(orbL.all fun p=>backN p.1)=true:=by decide +kernel
theorem back_all (r:Nat) (hr0:r ≤ 1114111):backN r=true:=by
  by_cases h1:r < 128
  · have:=List.all_eq_true.1 back_asc r (List.mem_range.2 h1)
    rwa [forceN_eq] at this
  cases ho:orbOf r with
  | some p=>
    obtain ⟨h3,h2,h5⟩:=Tr.look_mem ho
    rw [orbTr_list] at h3
    have h4:=List.all_eq_true.1 back_orb p h3
    have h6:p.1=r:=Nat.le_antisymm h2 h5
    rw [h6] at h4
    exact h4
  | none=>
    cases hr:rowOf r with
    | some x=>
      obtain ⟨h3,h2,h5⟩:=Tr.look_mem hr
      rw [caseTr_list] at h3
      have h4:=List.all_eq_true.1 (List.all_eq_true.1 back_rows x h3) (r - x.1) (List.mem_range.2 (by have h2':x.1 ≤ r:=h2;have h5':r ≤ x.2.1:=h5;omega))
      rw [forceN_eq,show x.1 + (r - x.1)=r by have h2':x.1 ≤ r:=h2;omega] at h4
      exact h4
    | none=>
      have h5:sfoldN r=r:=by
        unfold sfoldN
        rw [show Nat.ble 128 r=true by simp;omega,ho,hr]
        rfl
      unfold backN
      simp only [forceN_eq,h5]
      simp [hr0]
def sfoldI:Nat → Nat → Nat
  | 0,r=>r
  | n + 1,r=>sfoldI n (sfoldN r)
theorem sfold_le (r:Nat) (hr:r ≤ 1114111):sfoldN r ≤ 1114111:=by
  have h:=back_all r hr
  unfold backN at h
  simp only [forceN_eq,Bool.and_eq_true] at h
  exact Nat.le_of_ble_eq_true h.1
theorem back_ex (r:Nat) (hr:r ≤ 1114111):∃ n,n ≤ 3∧sfoldI n (sfoldN r)=r:=by
  have h:=back_all r hr
  unfold backN at h
  simp only [forceN_eq,Bool.or_eq_true,Bool.and_eq_true] at h
  rcases h.2 with h|h|h|h
  · exact ⟨0,by omega,Nat.eq_of_beq_eq_true h⟩
  · exact ⟨1,by omega,Nat.eq_of_beq_eq_true h⟩
  · exact ⟨2,by omega,Nat.eq_of_beq_eq_true h⟩
  · exact ⟨3,by omega,Nat.eq_of_beq_eq_true h⟩
def pwRow:List CaseRow → Bool
  | []=>true
  | a :: l=>Nat.ble a.1 a.2.1 && l.all (fun b=>Nat.blt a.2.1 b.1) && pwRow l
theorem pwRow_case:pwRow caseT=true:=by decide +kernel
theorem pwRow_get:∀ (l:List CaseRow),pwRow l=true → (∀ (i:Nat) (a:CaseRow),l[i]?=some a → a.1 ≤ a.2.1)∧∀ (i j:Nat) (a b:CaseRow),i < j → l[i]?=some a → l[j]?=some b → a.2.1 < b.1
  | [],_=>⟨fun i a h=>by simp at h,fun i j a b _ h=>by simp at h⟩
  | x :: l,h=>by
    unfold pwRow at h
    simp only [Bool.and_eq_true,Nat.ble_eq,List.all_eq_true] at h
    obtain ⟨⟨h1,h2⟩,h3⟩:=h
    obtain ⟨i1,i2⟩:=pwRow_get l h3
    refine ⟨fun i a ha=>?_,fun i j a b hij ha hb=>?_⟩
    · cases i with
      | zero=>simp at ha;subst ha;exact h1
      | succ i=>exact i1 i a (by simpa using ha)
    · cases j with
      | zero=>omega
      | succ j=>
        have hb':l[j]?=some b:=by simpa using hb
        cases i with
        | zero=>
          simp at ha;subst ha
          exact bltD (h2 b (List.mem_of_getElem? hb'))
        | succ i=>exact i2 i j a b (by omega) (by simpa using ha) hb'
def rowD:CaseRow:=(0,0,0,0,0)
theorem caseA_get (i:Nat):caseA.getD i rowD=(caseT[i]?).getD rowD:=by
  unfold caseA
  rw [Array.getD_eq_getD_getElem?];simp
theorem caseA_get' {i:Nat} {a:CaseRow} (h:caseT[i]?=some a):caseA.getD i rowD=a:=by rw [caseA_get,h];rfl
theorem caseT_len:caseT.length=336:=by
  have h:=caseA_size
  unfold caseA at h
  rw [List.size_toArray] at h
  exact h
theorem caseT_at {i:Nat} (h:i < 336):∃ a,caseT[i]?=some a:=⟨caseT[i]'(by rw [caseT_len];exact h),by rw [List.getElem?_eq_getElem (by rw [caseT_len];exact h)]⟩
theorem lookupIdx_spec (r:Nat):∀ (f lo hi:Nat),hi - lo < f → lo ≤ hi → hi ≤ 336 → (∀ (i:Nat) (a:CaseRow),i < lo → caseT[i]?=some a → a.2.1 < r) → (∀ (i:Nat) (a:CaseRow),hi ≤ i → caseT[i]?=some a → r < a.1) →
    match lookupIdx caseA r f lo hi with
    | some i=>∃ a:CaseRow,caseT[i]?=some a∧a.1 ≤ r∧r ≤ a.2.1
    | none=>∀ (i:Nat) (a:CaseRow),caseT[i]?=some a → ¬ (a.1 ≤ r∧r ≤ a.2.1)
  | 0,_,_,h,_,_,_,_=>by omega
  | f + 1,lo,hi,hf,hlh,hh,hl,hg=>by
    unfold lookupIdx
    have p1:=fun i a h=>(pwRow_get caseT pwRow_case).1 i a h
    have p2:=fun i j a b h=>(pwRow_get caseT pwRow_case).2 i j a b h
    by_cases hlt:lo < hi
    · rw [if_pos hlt]
      obtain ⟨m,hm⟩:∃ m,m=(lo + hi) / 2:=⟨_,rfl⟩
      rw [← hm]
      obtain ⟨a,ha⟩:=caseT_at (show m < 336 by omega)
      have hgm:=caseA_get' ha
      unfold rowD at hgm
      rw [hgm]
      by_cases hin:(a.1:Int) ≤ (r:Int)∧(r:Int) ≤ (a.2.1:Int)
      · rw [if_pos hin]
        exact ⟨a,ha,by omega,by omega⟩
      · rw [if_neg hin]
        have hv:=p1 m a ha
        by_cases hb:(r:Int) < (a.1:Int)
        · rw [if_pos hb]
          refine lookupIdx_spec r f lo m (by omega) (by omega) (by omega) hl (fun i b hi hbi=>?_)
          rcases Nat.lt_or_ge m i with h9|h9
          · have:=p2 m i a b h9 ha hbi;omega
          · have:i=m:=by omega
            subst this
            rw [ha] at hbi;simp only [Option.some.injEq] at hbi;subst hbi;omega
        · rw [if_neg hb]
          refine lookupIdx_spec r f (m + 1) hi (by omega) (by omega) hh (fun i b hi hbi=>?_) hg
          rcases Nat.lt_or_ge i m with h9|h9
          · have:=p2 i m b a h9 hbi ha;omega
          · have:i=m:=by omega
            subst this
            rw [ha] at hbi;simp only [Option.some.injEq] at hbi;subst hbi;omega
    · rw [if_neg hlt]
      intro i b hbi hh2
      rcases Nat.lt_or_ge i lo with h9|h9
      · have:=hl i b h9 hbi;omega
      · have:=hg i b (by omega) hbi;omega
theorem pwRow_list:∀ (l:List CaseRow),pwRow l=true → l.Pairwise (fun a b=>a.2.1 < b.1)∧∀ a ∈ l,a.1 ≤ a.2.1
  | [],_=>⟨.nil,fun a h=>by simp at h⟩
  | x :: l,h=>by
    unfold pwRow at h
    simp only [Bool.and_eq_true,Nat.ble_eq,List.all_eq_true] at h
    obtain ⟨⟨h1,h2⟩,h3⟩:=h
    obtain ⟨i1,i2⟩:=pwRow_list l h3
    refine ⟨.cons (fun b hb=>bltD (h2 b hb)) i1,fun a ha=>?_⟩
    rcases List.mem_cons.1 ha with rfl|ha
    · exact h1
    · exact i2 a ha
theorem rowOf_some {r i:Nat} {a:CaseRow} (ha:caseT[i]?=some a) (h1:a.1 ≤ r) (h2:r ≤ a.2.1):rowOf r=some a:=by
  obtain ⟨p1,p2⟩:=pwRow_list caseT pwRow_case
  rw [← caseTr_list] at p1 p2
  exact Tr.look_some p1 p2 (by rw [caseTr_list];exact List.mem_of_getElem? ha) h1 h2
theorem rowOf_none {r:Nat} (h:∀ (i:Nat) (a:CaseRow),caseT[i]?=some a → ¬ (a.1 ≤ r∧r ≤ a.2.1)):rowOf r=none:=by
  cases hr:rowOf r with
  | none=>rfl
  | some x=>
    obtain ⟨h3,h2,h5⟩:=Tr.look_mem hr
    rw [caseTr_list] at h3
    obtain ⟨j,hj⟩:=List.mem_iff_getElem?.1 h3
    exact absurd ⟨h2,h5⟩ (h j x hj)
theorem lookup_row (r:Nat):match lookupIdx caseA r (caseA.size + 1) 0 caseA.size with
    | some i=>i < 336∧rowOf r=some (caseA.getD i (0,0,0,0,0))∧(caseA.getD i (0,0,0,0,0)).1 ≤ r∧r ≤ (caseA.getD i (0,0,0,0,0)).2.1
    | none=>rowOf r=none:=by
  rw [show caseA.size=336 from caseA_size]
  have h:=lookupIdx_spec r 337 0 336 (by omega) (by omega) (by omega) (fun i a h _=>by omega) (fun i a h ha=>by
    have:=(List.getElem?_eq_some_iff.1 ha).1
    rw [caseT_len] at this;omega)
  cases hx:lookupIdx caseA r 337 0 336 with
  | none=>rw [hx] at h;exact rowOf_none h
  | some i=>
    rw [hx] at h
    obtain ⟨a,ha,h1,h2⟩:=h
    have hi:=(List.getElem?_eq_some_iff.1 ha).1
    rw [caseT_len] at hi
    have hg:=caseA_get' ha
    unfold rowD at hg
    simp only
    rw [hg]
    exact ⟨hi,rowOf_some ha h1 h2,h1,h2⟩
def pwOrb:List (Nat × Nat) → Bool
  | []=>true
  | a :: l=>l.all (fun b=>Nat.blt a.1 b.1) && pwOrb l
theorem pwOrb_orb:pwOrb orbL=true:=by decide +kernel
theorem pwOrb_get:∀ (l:List (Nat × Nat)),pwOrb l=true → ∀ (i j:Nat) (a b:Nat × Nat),i < j → l[i]?=some a → l[j]?=some b → a.1 < b.1
  | [],_=>fun i j a b _ h=>by simp at h
  | x :: l,h=>by
    unfold pwOrb at h
    simp only [Bool.and_eq_true,List.all_eq_true] at h
    obtain ⟨h2,h3⟩:=h
    intro i j a b hij ha hb
    cases j with
    | zero=>omega
    | succ j=>
      have hb':l[j]?=some b:=by simpa using hb
      cases i with
      | zero=>
        simp at ha;subst ha
        exact bltD (h2 b (List.mem_of_getElem? hb'))
      | succ i=>exact pwOrb_get l h3 i j a b (by omega) (by simpa using ha) hb'
theorem orbL_len:orbL.length=94:=by decide
theorem orbL_at {i:Nat} (h:i < 94):∃ a,orbL[i]?=some a:=⟨orbL[i]'(by rw [orbL_len];exact h),by rw [List.getElem?_eq_getElem (by rw [orbL_len];exact h)]⟩
theorem orb_small:(orbL.all fun p=>Nat.ble p.1 65535 && Nat.ble p.2 65535)=true:=by decide +kernel
theorem orb_le {i:Nat} {a:Nat × Nat} (h:orbL[i]?=some a):a.1 ≤ 65535∧a.2 ≤ 65535:=by
  have:=List.all_eq_true.1 orb_small a (List.mem_of_getElem? h)
  simpa using this
structure LowAt (r lo:Nat):Prop where
  le:lo ≤ 94
  low:∀ (i:Nat) (a:Nat × Nat),i < lo → orbL[i]?=some a → a.1 < r
  high:∀ (i:Nat) (a:Nat × Nat),lo ≤ i → orbL[i]?=some a → r ≤ a.1
theorem pwOrb_list:∀ (l:List (Nat × Nat)),pwOrb l=true → l.Pairwise (fun a b=>a.1 < b.1)
  | [],_=>.nil
  | x :: l,h=>by
    unfold pwOrb at h
    simp only [Bool.and_eq_true,List.all_eq_true] at h
    exact .cons (fun b hb=>bltD (h.1 b hb)) (pwOrb_list l h.2)
theorem LowAt.hit {r lo:Nat} (_h:LowAt r lo) {a:Nat × Nat} (ha:orbL[lo]?=some a) (he:a.1=r):orbOf r=some a:=by
  have p1:=pwOrb_list orbL pwOrb_orb
  rw [← orbTr_list] at p1
  exact Tr.look_some (lo:=fun (x:Nat × Nat)=>x.1) (hi:=fun (x:Nat × Nat)=>x.1) p1 (fun _ _=>Nat.le_refl _) (by rw [orbTr_list];exact List.mem_of_getElem? ha) (Nat.le_of_eq he) (Nat.le_of_eq he.symm)
theorem LowAt.miss {r lo:Nat} (h:LowAt r lo) (hn:∀ a:Nat × Nat,orbL[lo]?=some a → a.1 ≠ r):orbOf r=none:=by
  cases hr:orbOf r with
  | none=>rfl
  | some a=>
    exfalso
    obtain ⟨h3,h2,h5⟩:=Tr.look_mem hr
    rw [orbTr_list] at h3
    have hb:a.1=r:=Nat.le_antisymm h2 h5
    obtain ⟨j,hj⟩:=List.mem_iff_getElem?.1 h3
    rcases Nat.lt_trichotomy lo j with h9|h9|h9
    · obtain ⟨c,hc⟩:∃ c,orbL[lo]?=some c:=by
        have:=(List.getElem?_eq_some_iff.1 hj).1
        exact ⟨orbL[lo]'(by omega),by rw [List.getElem?_eq_getElem (by omega)]⟩
      have h1:=pwOrb_get orbL pwOrb_orb lo j c a h9 hc hj
      have h7:=h.high lo c (Nat.le_refl _) hc
      omega
    · subst h9;exact hn a hj hb
    · have:=h.low j a h9 hj;omega
theorem conv_fits (x:CaseRow) (hx:rowFits x=true) (c:Nat) (hc:c < 2) (r:Nat) (h1:x.1 ≤ r) (h2:r ≤ x.2.1):RowKit.wrap32 (convertR c r x)=((convN c r x:Nat):Int):=by
  rw [convert_fits x hx c (by omega) (r:Int) (by omega) (by omega)]
  have hn:0 ≤ convertR c r x:=by
    simp only [rowFits,Bool.and_eq_true,decide_eq_true_eq,List.all_cons,List.all_nil,Bool.or_eq_true,Bool.and_true] at hx
    obtain ⟨⟨_,_⟩,d0,d1,_⟩:=hx
    have hd:x.delta c > 1114111 ∨ (0 ≤ (x.1:Int) + x.delta c∧(x.2.1:Int) + x.delta c < 2147483648):=by
      match c,hc with
      | 0,_=>exact d0
      | 1,_=>exact d1
    unfold convertR
    split <;> omega
  unfold convN
  omega
end Go.Proofs.YtkjnockljapnbaaGreatDoor
