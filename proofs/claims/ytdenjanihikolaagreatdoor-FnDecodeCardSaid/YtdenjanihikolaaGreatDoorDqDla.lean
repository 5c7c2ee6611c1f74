/- told and answered by kind: Tdj. -/
import Derived.Test.YtdenjanihikolaaGreatDoorDqA0
import Derived.Test.YtdenjanihikolaaGreatDoorDqA1
import Derived.Test.YtdenjanihikolaaGreatDoorDqDkg
import Derived.Test.YtdenjanihikolaaGreatDoorDqTdd
import Derived.Test.YtdenjanihikolaaGreatDoorDqTde
import Derived.Test.YtdenjanihikolaaGreatDoorDqTdg
import Derived.Test.YtdenjanihikolaaGreatDoorDqTdq
import Derived.Test.YtdenjanihikolaaGreatDoorDqTdn
import Derived.Test.YtdenjanihikolaaGreatDoorDqBdf
import Derived.Test.YtdenjanihikolaaGreatDoorDqTa
import Derived.Laws.IdiomCopy
import Derived.Test.YtdenjanihikolaaGreatDoorDqDkf
import Derived.Test.YtdenjanihikolaaGreatDoorDqErb
import Derived.Test.YtdenjanihikolaaGreatDoorDqBase
import Derived.Test.YtdenjanihikolaaGreatDoorDqMke
import Derived.Test.YtdenjanihikolaaGreatDoorDqLtr
import Derived.Test.YtdenjanihikolaaGreatDoorDqBdb
import Derived.Test.YtdenjanihikolaaGreatDoorDqPpc
import Derived.Test.YtdenjanihikolaaGreatDoorDqBdk
import Derived.Test.YtdenjanihikolaaGreatDoorDqErf
import Derived.Test.YtdenjanihikolaaGreatDoorDqDkn
import Derived.Test.YtdenjanihikolaaGreatDoorDqDkp
import Derived.Test.YtdenjanihikolaaGreatDoorDqDkq
namespace Go.Proofs.YtdenjanihikolaaGreatDoor
set_option linter.unusedVariables false
set_option linter.unusedSimpArgs false
set_option maxRecDepth 100000
open Go.RowKit Og
theorem dk4 (w:World)(vb:Value)(hb:RdB w vb (([]:List Int)))(hl:(([]:List Int)).length<=100000):Calls Tryz.prog 19 #[.int .i64 4,vb] w (DecOk (DecP 4 ⟨#[]⟩ ⟨#[]⟩ 0 [] [] [] [] [] [] [] []) w):=
 dec_ok 154 214 156 #[] 4 vb _ _ _ w hb (by omega) md4 nd4 cd4 emp4 (fun w1 b v _ _ h1 h2 h3=>dek4 w1 b v h1 h2 hl h3) (fun b w2 _ _=>told_dflt 154 4 _ w2 b (by decide) fun W2 hx hm=>answd_triv 154 4 W2 _ _ (by decide) (by decide) hm)
theorem dk8 (w:World)(vb:Value)(hb:RdB w vb (([]:List Int)))(hl:(([]:List Int)).length<=100000):Calls Tryz.prog 19 #[.int .i64 8,vb] w (DecOk (DecP 8 ⟨#[]⟩ ⟨#[]⟩ 0 [] [] [] [] [] [] [] []) w):=
 dec_ok 157 216 158 #[] 8 vb _ _ _ w hb (by omega) md8 nd8 cd8 emp8 (fun w1 b v _ _ h1 h2 h3=>dek8 w1 b v h1 h2 hl h3) (fun b w2 _ _=>told_dflt 157 8 _ w2 b (by decide) fun W2 hx hm=>answd_triv 157 8 W2 _ _ (by decide) (by decide) hm)
theorem dk10 (w:World)(vb:Value)(hb:RdB w vb (numB 80877104 4++ []))(hl:(numB 80877104 4++ []).length<=100000):Calls Tryz.prog 19 #[.int .i64 10,vb] w (DecOk (DecP 10 ⟨#[]⟩ ⟨#[]⟩ 0 [] [] [] [] [] [] [] []) w):=
 dec_ok 159 219 160 #[] 10 vb _ _ _ w hb (by omega) md10 nd10 cd10 emp10 (fun w1 b v _ _ h1 h2 h3=>dek10 w1 b v h1 h2 hl h3) (fun b w2 _ _=>told_dflt 159 10 _ w2 b (by decide) fun W2 hx hm=>answd_triv 159 10 W2 _ _ (by decide) (by decide) hm)
theorem dk17 (w:World)(vb:Value)(hb:RdB w vb (numB 80877103 4++ []))(hl:(numB 80877103 4++ []).length<=100000):Calls Tryz.prog 19 #[.int .i64 17,vb] w (DecOk (DecP 17 ⟨#[]⟩ ⟨#[]⟩ 0 [] [] [] [] [] [] [] []) w):=
 dec_ok 161 222 162 #[] 17 vb _ _ _ w hb (by omega) md17 nd17 cd17 emp17 (fun w1 b v _ _ h1 h2 h3=>dek17 w1 b v h1 h2 hl h3) (fun b w2 _ _=>told_dflt 161 17 _ w2 b (by decide) fun W2 hx hm=>answd_triv 161 17 W2 _ _ (by decide) (by decide) hm)
theorem dk19 (w:World)(vb:Value)(hb:RdB w vb (([]:List Int)))(hl:(([]:List Int)).length<=100000):Calls Tryz.prog 19 #[.int .i64 19,vb] w (DecOk (DecP 19 ⟨#[]⟩ ⟨#[]⟩ 0 [] [] [] [] [] [] [] []) w):=
 dec_ok 163 225 164 #[] 19 vb _ _ _ w hb (by omega) md19 nd19 cd19 emp19 (fun w1 b v _ _ h1 h2 h3=>dek19 w1 b v h1 h2 hl h3) (fun b w2 _ _=>told_dflt 163 19 _ w2 b (by decide) fun W2 hx hm=>answd_triv 163 19 W2 _ _ (by decide) (by decide) hm)
theorem dk20 (w:World)(vb:Value)(hb:RdB w vb (([]:List Int)))(hl:(([]:List Int)).length<=100000):Calls Tryz.prog 19 #[.int .i64 20,vb] w (DecOk (DecP 20 ⟨#[]⟩ ⟨#[]⟩ 0 [] [] [] [] [] [] [] []) w):=
 dec_ok 165 228 166 #[] 20 vb _ _ _ w hb (by omega) md20 nd20 cd20 emp20 (fun w1 b v _ _ h1 h2 h3=>dek20 w1 b v h1 h2 hl h3) (fun b w2 _ _=>told_dflt 165 20 _ w2 b (by decide) fun W2 hx hm=>answd_triv 165 20 W2 _ _ (by decide) (by decide) hm)
theorem dk30 (w:World)(vb:Value)(hb:RdB w vb (numB 0 4++ []))(hl:(numB 0 4++ []).length<=100000):Calls Tryz.prog 19 #[.int .i64 30,vb] w (DecOk (DecP 30 ⟨#[]⟩ ⟨#[]⟩ 0 [] [] [] [] [] [] [] []) w):=
 dec_ok 167 232 168 #[] 30 vb _ _ _ w hb (by omega) md30 nd30 cd30 emp30 (fun w1 b v _ _ h1 h2 h3=>dek30 w1 b v h1 h2 hl h3) (fun b w2 _ _=>told_dflt 167 30 _ w2 b (by decide) fun W2 hx hm=>answd_triv 167 30 W2 _ _ (by decide) (by decide) hm)
theorem dk31 (w:World)(vb:Value)(hb:RdB w vb (numB 3 4++ []))(hl:(numB 3 4++ []).length<=100000):Calls Tryz.prog 19 #[.int .i64 31,vb] w (DecOk (DecP 31 ⟨#[]⟩ ⟨#[]⟩ 0 [] [] [] [] [] [] [] []) w):=
 dec_ok 169 235 170 #[] 31 vb _ _ _ w hb (by omega) md31 nd31 cd31 emp31 (fun w1 b v _ _ h1 h2 h3=>dek31 w1 b v h1 h2 hl h3) (fun b w2 _ _=>told_dflt 169 31 _ w2 b (by decide) fun W2 hx hm=>answd_triv 169 31 W2 _ _ (by decide) (by decide) hm)
theorem dk33 (w:World)(vb:Value)(hb:RdB w vb (numB 7 4++ []))(hl:(numB 7 4++ []).length<=100000):Calls Tryz.prog 19 #[.int .i64 33,vb] w (DecOk (DecP 33 ⟨#[]⟩ ⟨#[]⟩ 0 [] [] [] [] [] [] [] []) w):=
 dec_ok 171 238 172 #[] 33 vb _ _ _ w hb (by omega) md33 nd33 cd33 emp33 (fun w1 b v _ _ h1 h2 h3=>dek33 w1 b v h1 h2 hl h3) (fun b w2 _ _=>told_dflt 171 33 _ w2 b (by decide) fun W2 hx hm=>answd_triv 171 33 W2 _ _ (by decide) (by decide) hm)
theorem dk39 (w:World)(vb:Value)(hb:RdB w vb (([]:List Int)))(hl:(([]:List Int)).length<=100000):Calls Tryz.prog 19 #[.int .i64 39,vb] w (DecOk (DecP 39 ⟨#[]⟩ ⟨#[]⟩ 0 [] [] [] [] [] [] [] []) w):=
 dec_ok 173 241 174 #[] 39 vb _ _ _ w hb (by omega) md39 nd39 cd39 emp39 (fun w1 b v _ _ h1 h2 h3=>dek39 w1 b v h1 h2 hl h3) (fun b w2 _ _=>told_dflt 173 39 _ w2 b (by decide) fun W2 hx hm=>answd_triv 173 39 W2 _ _ (by decide) (by decide) hm)
theorem dk40 (w:World)(vb:Value)(hb:RdB w vb (([]:List Int)))(hl:(([]:List Int)).length<=100000):Calls Tryz.prog 19 #[.int .i64 40,vb] w (DecOk (DecP 40 ⟨#[]⟩ ⟨#[]⟩ 0 [] [] [] [] [] [] [] []) w):=
 dec_ok 175 244 176 #[] 40 vb _ _ _ w hb (by omega) md40 nd40 cd40 emp40 (fun w1 b v _ _ h1 h2 h3=>dek40 w1 b v h1 h2 hl h3) (fun b w2 _ _=>told_dflt 175 40 _ w2 b (by decide) fun W2 hx hm=>answd_triv 175 40 W2 _ _ (by decide) (by decide) hm)
theorem dk46 (w:World)(vb:Value)(hb:RdB w vb (([]:List Int)))(hl:(([]:List Int)).length<=100000):Calls Tryz.prog 19 #[.int .i64 46,vb] w (DecOk (DecP 46 ⟨#[]⟩ ⟨#[]⟩ 0 [] [] [] [] [] [] [] []) w):=
 dec_ok 177 247 178 #[] 46 vb _ _ _ w hb (by omega) md46 nd46 cd46 emp46 (fun w1 b v _ _ h1 h2 h3=>dek46 w1 b v h1 h2 hl h3) (fun b w2 _ _=>told_dflt 177 46 _ w2 b (by decide) fun W2 hx hm=>answd_triv 177 46 W2 _ _ (by decide) (by decide) hm)
theorem dk50 (w:World)(vb:Value)(hb:RdB w vb (([]:List Int)))(hl:(([]:List Int)).length<=100000):Calls Tryz.prog 19 #[.int .i64 50,vb] w (DecOk (DecP 50 ⟨#[]⟩ ⟨#[]⟩ 0 [] [] [] [] [] [] [] []) w):=
 dec_ok 179 250 180 #[] 50 vb _ _ _ w hb (by omega) md50 nd50 cd50 emp50 (fun w1 b v _ _ h1 h2 h3=>dek50 w1 b v h1 h2 hl h3) (fun b w2 _ _=>told_dflt 179 50 _ w2 b (by decide) fun W2 hx hm=>answd_triv 179 50 W2 _ _ (by decide) (by decide) hm)
theorem dk54 (w:World)(vb:Value)(hb:RdB w vb (([]:List Int)))(hl:(([]:List Int)).length<=100000):Calls Tryz.prog 19 #[.int .i64 54,vb] w (DecOk (DecP 54 ⟨#[]⟩ ⟨#[]⟩ 0 [] [] [] [] [] [] [] []) w):=
 dec_ok 181 253 182 #[] 54 vb _ _ _ w hb (by omega) md54 nd54 cd54 emp54 (fun w1 b v _ _ h1 h2 h3=>dek54 w1 b v h1 h2 hl h3) (fun b w2 _ _=>told_dflt 181 54 _ w2 b (by decide) fun W2 hx hm=>answd_triv 181 54 W2 _ _ (by decide) (by decide) hm)
theorem dk55 (w:World)(vb:Value)(hb:RdB w vb (([]:List Int)))(hl:(([]:List Int)).length<=100000):Calls Tryz.prog 19 #[.int .i64 55,vb] w (DecOk (DecP 55 ⟨#[]⟩ ⟨#[]⟩ 0 [] [] [] [] [] [] [] []) w):=
 dec_ok 183 256 184 #[] 55 vb _ _ _ w hb (by omega) md55 nd55 cd55 emp55 (fun w1 b v _ _ h1 h2 h3=>dek55 w1 b v h1 h2 hl h3) (fun b w2 _ _=>told_dflt 183 55 _ w2 b (by decide) fun W2 hx hm=>answd_triv 183 55 W2 _ _ (by decide) (by decide) hm)
theorem dk1 (n:Int)(hn:0<=n/\n < 4294967296)(d:List Int)(hld:d.length<=500)(hgd:∀y∈d,0<=y/\y < 256)(hd4:d.length=4)(w:World)(vb:Value)(hb:RdB w vb (numB 80877102 4++(numB n 4++d)))(hl:(numB 80877102 4++(numB n 4++d)).length<=100000):Calls Tryz.prog 19 #[.int .i64 1,vb] w (DecOk (DecP 1 ⟨#[]⟩ ⟨#[]⟩ n [] [] [] d [] [] [] []) w):=
 dec_ok 108 147 110 #[.int .u32 0,.slice none 0 0] 1 vb _ _ _ w hb (by omega) md1 nd1 cd1 emp1 (fun w1 b v _ _ h1 h2 h3=>dek1 n d hn hd4 w1 b v h1 h2 hl h3) (fun b w2 hq _=>by obtain⟨A,c,h1,h2⟩:=hq;rw [<-hd4]at h1 h2;exact told1 n d A c w2 b h1 hn (zh h2) hld hgd)
theorem dk2 (n:Int)(hn:0<=n/\n < 256)(a:ByteArray)(ha:plainP a)(w:World)(vb:Value)(hb:RdB w vb (numB n 1++(sby a++0 :: [])))(hl:(numB n 1++(sby a++0 :: [])).length<=100000):Calls Tryz.prog 19 #[.int .i64 2,vb] w (DecOk (DecP 2 a ⟨#[]⟩ n [] [] [] [] [] [] [] []) w):=
 dec_ok 111 150 113 #[.int .u8 0,.string ⟨#[]⟩] 2 vb _ _ _ w hb (by omega) md2 nd2 cd2 emp2 (fun w1 b v _ _ h1 h2 h3=>dek2 n a hn ha w1 b v h1 h2 hl h3) (fun b w2 h1 _=>told2 n a w2 b h1 hn)
theorem dk3 (d:List Int)(hld:d.length<=500)(hgd:∀y∈d,0<=y/\y < 256)(w:World)(vb:Value)(hb:RdB w vb (d))(hl:(d).length<=100000):Calls Tryz.prog 19 #[.int .i64 3,vb] w (DecOk (DecP 3 ⟨#[]⟩ ⟨#[]⟩ 0 [] [] [] d [] [] [] []) w):=
 dec_ok 116 157 118 #[.slice none 0 0] 3 vb _ _ _ w hb (by omega) md3 nd3 cd3 emp3 (fun w1 b v _ _ h1 h2 h3=>dek3 d w1 b v h1 h2 hl h3) (fun b w2 hq _=>by obtain⟨A,c,h1,h2⟩:=hq;exact told3 d A c w2 b h1 (zh h2) hld hgd)
theorem dk5 (a:ByteArray)(ha:plainP a)(w:World)(vb:Value)(hb:RdB w vb (sby a++0 :: []))(hl:(sby a++0 :: []).length<=100000):Calls Tryz.prog 19 #[.int .i64 5,vb] w (DecOk (DecP 5 a ⟨#[]⟩ 0 [] [] [] [] [] [] [] []) w):=
 dec_ok 119 159 121 #[.string ⟨#[]⟩] 5 vb _ _ _ w hb (by omega) md5 nd5 cd5 emp5 (fun w1 b v _ _ h1 h2 h3=>dek5 a ha w1 b v h1 h2 hl h3) (fun b w2 h1 _=>told5 a w2 b h1)
theorem dk6 (n:Int)(hn:0<=n/\n < 256)(a:ByteArray)(ha:plainP a)(w:World)(vb:Value)(hb:RdB w vb (numB n 1++(sby a++0 :: [])))(hl:(numB n 1++(sby a++0 :: [])).length<=100000):Calls Tryz.prog 19 #[.int .i64 6,vb] w (DecOk (DecP 6 a ⟨#[]⟩ n [] [] [] [] [] [] [] []) w):=
 dec_ok 114 153 115 #[.int .u8 0,.string ⟨#[]⟩] 6 vb _ _ _ w hb (by omega) md6 nd6 cd6 emp6 (fun w1 b v _ _ h1 h2 h3=>dek6 n a hn ha w1 b v h1 h2 hl h3) (fun b w2 h1 _=>told6 n a w2 b h1 hn)
theorem dk7 (a:ByteArray)(ha:plainP a)(n:Int)(hn:0<=n/\n < 4294967296)(w:World)(vb:Value)(hb:RdB w vb (sby a++0 :: (numB n 4++ [])))(hl:(sby a++0 :: (numB n 4++ [])).length<=100000):Calls Tryz.prog 19 #[.int .i64 7,vb] w (DecOk (DecP 7 a ⟨#[]⟩ n [] [] [] [] [] [] [] []) w):=
 dec_ok 122 162 124 #[.string ⟨#[]⟩,.int .u32 0] 7 vb _ _ _ w hb (by omega) md7 nd7 cd7 emp7 (fun w1 b v _ _ h1 h2 h3=>dek7 a n ha hn w1 b v h1 h2 hl h3) (fun b w2 h1 _=>told7 a n w2 b h1 hn)
theorem dk11 (d:List Int)(hld:d.length<=500)(hgd:∀y∈d,0<=y/\y < 256)(w:World)(vb:Value)(hb:RdB w vb (d))(hl:(d).length<=100000):Calls Tryz.prog 19 #[.int .i64 11,vb] w (DecOk (DecP 11 ⟨#[]⟩ ⟨#[]⟩ 0 [] [] [] d [] [] [] []) w):=
 dec_ok 132 172 133 #[.slice none 0 0] 11 vb _ _ _ w hb (by omega) md11 nd11 cd11 emp11 (fun w1 b v _ _ h1 h2 h3=>dek11 d w1 b v h1 h2 hl h3) (fun b w2 hq _=>by obtain⟨A,c,h1,h2⟩:=hq;exact told11 d A c w2 b h1 (zh h2) hld hgd)
theorem dk12 (a:ByteArray)(ha:plainP a)(g:ByteArray)(hg:plainP g)(ty:List Int)(hlt:ty.length<=20)(hgt:∀y∈ty,0<=y/\y < 4294967296)(w:World)(vb:Value)(hb:RdB w vb (sby a++0 :: (sby g++0 :: (numB (ty.length:Int) 2++ty.flatMap fun n=>numB n 4))))(hl:(sby a++0 :: (sby g++0 :: (numB (ty.length:Int) 2++ty.flatMap fun n=>numB n 4))).length<=100000):Calls Tryz.prog 19 #[.int .i64 12,vb] w (DecOk (DecP 12 a g 0 [] [] ty [] [] [] [] []) w):=
 dec_ok 134 175 137 #[.string ⟨#[]⟩,.string ⟨#[]⟩,.slice none 0 0] 12 vb _ _ _ w hb (by omega) md12 nd12 cd12 emp12 (fun w1 b v _ _ h1 h2 h3=>dek12 a g ty ha hg hlt hgt w1 b v h1 h2 hl h3) (fun b w2 hq _=>by obtain⟨A,c,h1,h2⟩:=hq;exact told12 a g ty A c w2 b h1 (zh h2) hlt hgt)
theorem dk13 (a:ByteArray)(ha:plainP a)(w:World)(vb:Value)(hb:RdB w vb (sby a++0 :: []))(hl:(sby a++0 :: []).length<=100000):Calls Tryz.prog 19 #[.int .i64 13,vb] w (DecOk (DecP 13 a ⟨#[]⟩ 0 [] [] [] [] [] [] [] []) w):=
 dec_ok 138 178 140 #[.string ⟨#[]⟩] 13 vb _ _ _ w hb (by omega) md13 nd13 cd13 emp13 (fun w1 b v _ _ h1 h2 h3=>dek13 a ha w1 b v h1 h2 hl h3) (fun b w2 h1 _=>told13 a w2 b h1)
theorem dk14 (a:ByteArray)(ha:plainP a)(w:World)(vb:Value)(hb:RdB w vb (sby a++0 :: []))(hl:(sby a++0 :: []).length<=100000):Calls Tryz.prog 19 #[.int .i64 14,vb] w (DecOk (DecP 14 a ⟨#[]⟩ 0 [] [] [] [] [] [] [] []) w):=
 dec_ok 141 181 143 #[.string ⟨#[]⟩] 14 vb _ _ _ w hb (by omega) md14 nd14 cd14 emp14 (fun w1 b v _ _ h1 h2 h3=>dek14 a ha w1 b v h1 h2 hl h3) (fun b w2 h1 _=>told14 a w2 b h1)
theorem dk15 (a:ByteArray)(ha:plainP a)(m:Int)(d:List Int)(hld:d.length<=500)(hgd:∀y∈d,0<=y/\y < 256)(w:World)(vb:Value)(hb:RdB w vb (sby a++0 :: (numB m 4++d)))(hl:(sby a++0 :: (numB m 4++d)).length<=100000):Calls Tryz.prog 19 #[.int .i64 15,vb] w (DecOk (DecP 15 a ⟨#[]⟩ 0 [] [] [] d [] [] [] []) w):=
 dec_ok 144 184 146 #[.string ⟨#[]⟩,.slice none 0 0] 15 vb _ _ _ w hb (by omega) md15 nd15 cd15 emp15 (fun w1 b v _ _ h1 h2 h3=>dek15 a m d ha w1 b v h1 h2 hl h3) (fun b w2 hq _=>by obtain⟨A,c,h1,h2⟩:=hq;exact told15 a d A c w2 b h1 (zh h2) hld hgd)
theorem dk16 (d:List Int)(hld:d.length<=500)(hgd:∀y∈d,0<=y/\y < 256)(w:World)(vb:Value)(hb:RdB w vb (d))(hl:(d).length<=100000):Calls Tryz.prog 19 #[.int .i64 16,vb] w (DecOk (DecP 16 ⟨#[]⟩ ⟨#[]⟩ 0 [] [] [] d [] [] [] []) w):=
 dec_ok 147 187 148 #[.slice none 0 0] 16 vb _ _ _ w hb (by omega) md16 nd16 cd16 emp16 (fun w1 b v _ _ h1 h2 h3=>dek16 d w1 b v h1 h2 hl h3) (fun b w2 hq _=>by obtain⟨A,c,h1,h2⟩:=hq;exact told16 d A c w2 b h1 (zh h2) hld hgd)
theorem dk34 (d:List Int)(hld:d.length<=500)(hgd:∀y∈d,0<=y/\y < 256)(w:World)(vb:Value)(hb:RdB w vb (numB 8 4++d))(hl:(numB 8 4++d).length<=100000):Calls Tryz.prog 19 #[.int .i64 34,vb] w (DecOk (DecP 34 ⟨#[]⟩ ⟨#[]⟩ 0 [] [] [] d [] [] [] []) w):=
 dec_ok 189 262 190 #[.slice none 0 0] 34 vb _ _ _ w hb (by omega) md34 nd34 cd34 emp34 (fun w1 b v _ _ h1 h2 h3=>dek34 d w1 b v h1 h2 hl h3) (fun b w2 hq _=>by obtain⟨A,c,h1,h2⟩:=hq;exact told_dflt 189 34 _ w2 b (by decide) fun W2 hx hm=>answd34 d A c W2 b (w2.heap.size+1) ((hx.block b (zl h1)).trans h1) (zh (h2.ext hx)) hld hgd hm (by have:=zl h1;omega))
theorem dk36 (d:List Int)(hld:d.length<=500)(hgd:∀y∈d,0<=y/\y < 256)(w:World)(vb:Value)(hb:RdB w vb (numB 11 4++d))(hl:(numB 11 4++d).length<=100000):Calls Tryz.prog 19 #[.int .i64 36,vb] w (DecOk (DecP 36 ⟨#[]⟩ ⟨#[]⟩ 0 [] [] [] d [] [] [] []) w):=
 dec_ok 194 268 195 #[.slice none 0 0] 36 vb _ _ _ w hb (by omega) md36 nd36 cd36 emp36 (fun w1 b v _ _ h1 h2 h3=>dek36 d w1 b v h1 h2 hl h3) (fun b w2 hq _=>by obtain⟨A,c,h1,h2⟩:=hq;exact told_dflt 194 36 _ w2 b (by decide) fun W2 hx hm=>answd36 d A c W2 b (w2.heap.size+1) ((hx.block b (zl h1)).trans h1) (zh (h2.ext hx)) hld hgd hm (by have:=zl h1;omega))
theorem dk37 (d:List Int)(hld:d.length<=500)(hgd:∀y∈d,0<=y/\y < 256)(w:World)(vb:Value)(hb:RdB w vb (numB 12 4++d))(hl:(numB 12 4++d).length<=100000):Calls Tryz.prog 19 #[.int .i64 37,vb] w (DecOk (DecP 37 ⟨#[]⟩ ⟨#[]⟩ 0 [] [] [] d [] [] [] []) w):=
 dec_ok 196 271 197 #[.slice none 0 0] 37 vb _ _ _ w hb (by omega) md37 nd37 cd37 emp37 (fun w1 b v _ _ h1 h2 h3=>dek37 d w1 b v h1 h2 hl h3) (fun b w2 hq _=>by obtain⟨A,c,h1,h2⟩:=hq;exact told_dflt 196 37 _ w2 b (by decide) fun W2 hx hm=>answd37 d A c W2 b (w2.heap.size+1) ((hx.block b (zl h1)).trans h1) (zh (h2.ext hx)) hld hgd hm (by have:=zl h1;omega))
theorem dk38 (n:Int)(hn:0<=n/\n < 4294967296)(d:List Int)(hld:d.length<=500)(hgd:∀y∈d,0<=y/\y < 256)(hd4:d.length=4)(w:World)(vb:Value)(hb:RdB w vb (numB n 4++d))(hl:(numB n 4++d).length<=100000):Calls Tryz.prog 19 #[.int .i64 38,vb] w (DecOk (DecP 38 ⟨#[]⟩ ⟨#[]⟩ n [] [] [] d [] [] [] []) w):=
 dec_ok 198 274 199 #[.int .u32 0,.slice none 0 0] 38 vb _ _ _ w hb (by omega) md38 nd38 cd38 emp38 (fun w1 b v _ _ h1 h2 h3=>dek38 n d hn hd4 w1 b v h1 h2 hl h3) (fun b w2 hq _=>by obtain⟨A,c,h1,h2⟩:=hq;rw [<-hd4]at h1 h2;exact told_dflt 198 38 _ w2 b (by decide) fun W2 hx hm=>answd38 n d A c W2 b (w2.heap.size+1) ((hx.block b (zl h1)).trans h1) hn (zh (h2.ext hx)) hld hgd hm (by have:=zl h1;omega))
theorem dk42 (n:Int)(hn:0<=n/\n < 256)(lf:List Int)(hlf:lf.length<=20)(hgf:∀y∈lf,0<=y/\y < 32768)(w:World)(vb:Value)(hb:RdB w vb (numB n 1++(numB (lf.length:Int) 2++lf.flatMap fun n=>numB n 2)))(hl:(numB n 1++(numB (lf.length:Int) 2++lf.flatMap fun n=>numB n 2)).length<=100000):Calls Tryz.prog 19 #[.int .i64 42,vb] w (DecOk (DecP 42 ⟨#[]⟩ ⟨#[]⟩ n lf [] [] [] [] [] [] []) w):=
 dec_ok 203 280 205 #[.int .u8 0,.slice none 0 0] 42 vb _ _ _ w hb (by omega) md42 nd42 cd42 emp42 (fun w1 b v _ _ h1 h2 h3=>dek42 n lf hn hlf (fun y hy=>⟨(hgf y hy).1,by have:=(hgf y hy).2;omega⟩) w1 b v h1 h2 hl h3) (fun b w2 hq _=>by obtain⟨A,c,h1,h2⟩:=hq;exact told_dflt 203 42 _ w2 b (by decide) fun W2 hx hm=>answd42 n lf A c W2 b (w2.heap.size+1) ((hx.block b (zl h1)).trans h1) hn (zh (h2.ext hx)) hlf hgf hm (by have:=zl h1;omega))
theorem dk43 (n:Int)(hn:0<=n/\n < 256)(lf:List Int)(hlf:lf.length<=20)(hgf:∀y∈lf,0<=y/\y < 32768)(w:World)(vb:Value)(hb:RdB w vb (numB n 1++(numB (lf.length:Int) 2++lf.flatMap fun n=>numB n 2)))(hl:(numB n 1++(numB (lf.length:Int) 2++lf.flatMap fun n=>numB n 2)).length<=100000):Calls Tryz.prog 19 #[.int .i64 43,vb] w (DecOk (DecP 43 ⟨#[]⟩ ⟨#[]⟩ n lf [] [] [] [] [] [] []) w):=
 dec_ok 206 283 207 #[.int .u8 0,.slice none 0 0] 43 vb _ _ _ w hb (by omega) md43 nd43 cd43 emp43 (fun w1 b v _ _ h1 h2 h3=>dek43 n lf hn hlf (fun y hy=>⟨(hgf y hy).1,by have:=(hgf y hy).2;omega⟩) w1 b v h1 h2 hl h3) (fun b w2 hq _=>by obtain⟨A,c,h1,h2⟩:=hq;exact told_dflt 206 43 _ w2 b (by decide) fun W2 hx hm=>answd43 n lf A c W2 b (w2.heap.size+1) ((hx.block b (zl h1)).trans h1) hn (zh (h2.ext hx)) hlf hgf hm (by have:=zl h1;omega))
theorem dk44 (n:Int)(hn:0<=n/\n < 256)(lf:List Int)(hlf:lf.length<=20)(hgf:∀y∈lf,0<=y/\y < 32768)(w:World)(vb:Value)(hb:RdB w vb (numB n 1++(numB (lf.length:Int) 2++lf.flatMap fun n=>numB n 2)))(hl:(numB n 1++(numB (lf.length:Int) 2++lf.flatMap fun n=>numB n 2)).length<=100000):Calls Tryz.prog 19 #[.int .i64 44,vb] w (DecOk (DecP 44 ⟨#[]⟩ ⟨#[]⟩ n lf [] [] [] [] [] [] []) w):=
 dec_ok 208 286 209 #[.int .u8 0,.slice none 0 0] 44 vb _ _ _ w hb (by omega) md44 nd44 cd44 emp44 (fun w1 b v _ _ h1 h2 h3=>dek44 n lf hn hlf (fun y hy=>⟨(hgf y hy).1,by have:=(hgf y hy).2;omega⟩) w1 b v h1 h2 hl h3) (fun b w2 hq _=>by obtain⟨A,c,h1,h2⟩:=hq;exact told_dflt 208 44 _ w2 b (by decide) fun W2 hx hm=>answd44 n lf A c W2 b (w2.heap.size+1) ((hx.block b (zl h1)).trans h1) hn (zh (h2.ext hx)) hlf hgf hm (by have:=zl h1;omega))
theorem dk45 (vls:List (Bool×List Int))(hlv:vls.length<=20)(hgv:∀y∈vls,y.2.length<=200/\(y.1=true->y.2.length=0))(hbv:∀y∈vls,∀z∈y.2,0<=z/\z < 256)(w:World)(vb:Value)(hb:RdB w vb (numB (vls.length:Int) 2++vls.flatMap fun x=>valB x.1 x.2))(hl:(numB (vls.length:Int) 2++vls.flatMap fun x=>valB x.1 x.2).length<=100000):Calls Tryz.prog 19 #[.int .i64 45,vb] w (DecOk (DecP 45 ⟨#[]⟩ ⟨#[]⟩ 0 [] [] [] [] vls [] [] []) w):=
 dec_ok 210 289 212 #[.slice none 0 0] 45 vb _ _ _ w hb (by omega) md45 nd45 cd45 emp45 (fun w1 b v _ _ h1 h2 h3=>dek45 vls hlv (fun y hy=>(hgv y hy).1) w1 b v h1 h2 hl h3) (fun b w2 hq _=>by obtain⟨A,c,h1,h2⟩:=hq;exact told_dflt 210 45 _ w2 b (by decide) fun W2 hx hm=>answd45 vls A c W2 b (w2.heap.size+1) ((hx.block b (zl h1)).trans h1) (zh (h2.ext hx (isOpt.ext hx))) hlv hgv hbv hm (by have:=zl h1;omega))
theorem dk51 (n:Int)(hn:0<=n/\n < 4294967296)(a:ByteArray)(ha:plainP a)(g:ByteArray)(hg:plainP g)(w:World)(vb:Value)(hb:RdB w vb (numB n 4++(sby a++0 :: (sby g++0 :: []))))(hl:(numB n 4++(sby a++0 :: (sby g++0 :: []))).length<=100000):Calls Tryz.prog 19 #[.int .i64 51,vb] w (DecOk (DecP 51 a g n [] [] [] [] [] [] [] []) w):=
 dec_ok 222 320 224 #[.int .u32 0,.string ⟨#[]⟩,.string ⟨#[]⟩] 51 vb _ _ _ w hb (by omega) md51 nd51 cd51 emp51 (fun w1 b v _ _ h1 h2 h3=>dek51 n a g hn ha hg w1 b v h1 h2 hl h3) (fun b w2 h1 _=>told_dflt 222 51 _ w2 b (by decide) fun W2 hx hm=>answd51 n a g W2 b (w2.heap.size+1) ((hx.block b (zl h1)).trans h1) hn hm (by have:=zl h1;omega))
theorem dk52 (ty:List Int)(hlt:ty.length<=20)(hgt:∀y∈ty,0<=y/\y < 4294967296)(w:World)(vb:Value)(hb:RdB w vb (numB (ty.length:Int) 2++ty.flatMap fun n=>numB n 4))(hl:(numB (ty.length:Int) 2++ty.flatMap fun n=>numB n 4).length<=100000):Calls Tryz.prog 19 #[.int .i64 52,vb] w (DecOk (DecP 52 ⟨#[]⟩ ⟨#[]⟩ 0 [] [] ty [] [] [] [] []) w):=
 dec_ok 225 323 227 #[.slice none 0 0] 52 vb _ _ _ w hb (by omega) md52 nd52 cd52 emp52 (fun w1 b v _ _ h1 h2 h3=>dek52 ty hlt hgt w1 b v h1 h2 hl h3) (fun b w2 hq _=>by obtain⟨A,c,h1,h2⟩:=hq;exact told_dflt 225 52 _ w2 b (by decide) fun W2 hx hm=>answd52 ty A c W2 b (w2.heap.size+1) ((hx.block b (zl h1)).trans h1) (zh (h2.ext hx)) hlt hgt hm (by have:=zl h1;omega))
theorem dk53 (a:ByteArray)(ha:plainP a)(g:ByteArray)(hg:plainP g)(w:World)(vb:Value)(hb:RdB w vb (sby a++0 :: (sby g++0 :: [])))(hl:(sby a++0 :: (sby g++0 :: [])).length<=100000):Calls Tryz.prog 19 #[.int .i64 53,vb] w (DecOk (DecP 53 a g 0 [] [] [] [] [] [] [] []) w):=
 dec_ok 228 326 229 #[.string ⟨#[]⟩,.string ⟨#[]⟩] 53 vb _ _ _ w hb (by omega) md53 nd53 cd53 emp53 (fun w1 b v _ _ h1 h2 h3=>dek53 a g ha hg w1 b v h1 h2 hl h3) (fun b w2 h1 _=>told_dflt 228 53 _ w2 b (by decide) fun W2 hx hm=>answd53 a g W2 b (w2.heap.size+1) ((hx.block b (zl h1)).trans h1) hm (by have:=zl h1;omega))
theorem dk56 (n:Int)(hn:0<=n/\n < 256)(w:World)(vb:Value)(hb:RdB w vb (numB n 1))(hl:(numB n 1).length<=100000):Calls Tryz.prog 19 #[.int .i64 56,vb] w (DecOk (DecP 56 ⟨#[]⟩ ⟨#[]⟩ n [] [] [] [] [] [] [] []) w):=
 dec_ok 230 329 232 #[.int .u8 0] 56 vb _ _ _ w hb (by omega) md56 nd56 cd56 emp56 (fun w1 b v _ _ h1 h2 h3=>dek56 n hn w1 b v h1 h2 hl h3) (fun b w2 h1 _=>told_dflt 230 56 _ w2 b (by decide) fun W2 hx hm=>answd56 n W2 b (w2.heap.size+1) ((hx.block b (zl h1)).trans h1) hn hm (by have:=zl h1;omega))
theorem numB01:numB 0 1=[0]:=by decide
set_option maxHeartbeats 4000000 in
theorem answd47 (T:Nat->ByteArray)(ps:List Pr)(hN:∀i,numJ i->T i=⟨#[]⟩∨digP (T i))(hp:(qsOf T).Perm ps)(hs:Srt ps)(w:World)(htab:Tab w)(bk mb:Nat)(hblk:w.heap[bk]?=some (.cells (errCells T) 216 (0,0)))(hmb:w.heap[mb]?=some (.cells #[.int .i64 47,.string ⟨#[]⟩,.string ⟨#[]⟩,.int .u32 0,.int .u32 0,.slice none 0 0,.slice none 0 0,.slice none 0 0,.slice none 0 0,.slice none 0 0,.slice none 0 0,.slice none 0 0,.slice none 0 0] 31 (0,0)))(hne:bk≠mb):
 Calls Tryz.prog 65 #[.iface 213 (.pointer (some ⟨bk,0,none⟩)),.pointer (some ⟨mb,0,none⟩)] w (Answd 47 mb (DecP 47 ⟨#[]⟩ ⟨#[]⟩ 0 [] [] [] [] [] [] ps []) w):=by
 have n185:=no185 213 (by decide)
 have n189:=no189 213 (by decide)
 have n191:=no191 213 (by decide)
 have n194:=no194 213 (by decide)
 have n196:=no196 213 (by decide)
 have n198:=no198 213 (by decide)
 have n200:=no200 213 (by decide)
 have n203:=no203 213 (by decide)
 have n206:=no206 213 (by decide)
 have n208:=no208 213 (by decide)
 have n210:=no210 213 (by decide)
 have y213:=yes213
 have HB:=zh hblk
 have HM:=zh hmb
 have HPP:=zh (pairs72 T ps hN hp hs w htab)
 have HMB:=zh (zl hmb)
 clear hN hp hs htab hblk hmb hne
 go_enter Tryz.func65,Tryz.ntmps65
 go_wp2_with (first|(refine wpList_load_row rfl 216 (.tmp 183) rfl bk rfl 216 (errCells T) (0,0) _ HB.out Tryz.underlying216 rfl size216 ?_)|(go_at_call 72;refine HPP.out.mono ?_;rintro e w2 ⟨A2,c2,rfl,hx2,hr2⟩;have HX2:=zh hx2;have HR2:=zh hr2;have HM2:=zh ((hx2.block _ HMB.out).trans HM.out);clear hx2 hr2;have hz:=zc HM2.out 11 (.slice none 0 0) rfl;have hy:=free_slot HM2.out 11))
 (try simp only [Exit.inBlock,Exit.then]);first|refine bodyPost_end (results_none rfl _ _ _) rfl ?_|refine bodyPost_ret (results_none rfl _ _ _) rfl ?_
 refine⟨⟨#[]⟩,⟨#[]⟩,0,0,none,0,0,none,0,0,none,0,0,none,0,0,none,0,0,none,0,0,A2,ps.length,c2,none,0,0,rfl,HX2.out.but.set _ _,slot_setCell (j:=11) HM2.out,fun w3 h3=>⟨none,none,none,none,none,none,A2,none,0,0,0,0,0,0,c2,0,rfl,rdi_nil _ _,rdi_nil _ _,rdi_nil _ _,rdm_nil _ _ _,RdB.nil _,rd1_nil _ _,?_,rdm_nil _ _ _,⟨by decide,by decide⟩,⟨by decide,by decide⟩,nofun,nofun,nofun,nofun⟩⟩
 exact rdm_of (own_stay (w:=w) (w':=w2) (own_zero HR2.out) (fun g hg=>by have:=(HR2.out.lt g hg).1;omega) (fun k h1 h2=>(h3 k h1 (by simpa [World.setCell]using h2)).trans (heap_setCell_other _ _ _ _ (by have:=HMB.out;simp only [ne_eq];omega)))) (rws_flat _ _)
set_option maxHeartbeats 4000000 in
theorem answd48 (T:Nat->ByteArray)(ps:List Pr)(hN:∀i,numJ i->T i=⟨#[]⟩∨digP (T i))(hp:(qsOf T).Perm ps)(hs:Srt ps)(w:World)(htab:Tab w)(bk mb:Nat)(hblk:w.heap[bk]?=some (.cells (errCells T) 218 (0,0)))(hmb:w.heap[mb]?=some (.cells #[.int .i64 48,.string ⟨#[]⟩,.string ⟨#[]⟩,.int .u32 0,.int .u32 0,.slice none 0 0,.slice none 0 0,.slice none 0 0,.slice none 0 0,.slice none 0 0,.slice none 0 0,.slice none 0 0,.slice none 0 0] 31 (0,0)))(hne:bk≠mb):
 Calls Tryz.prog 65 #[.iface 217 (.pointer (some ⟨bk,0,none⟩)),.pointer (some ⟨mb,0,none⟩)] w (Answd 48 mb (DecP 48 ⟨#[]⟩ ⟨#[]⟩ 0 [] [] [] [] [] [] ps []) w):=by
 have n185:=no185 217 (by decide)
 have n189:=no189 217 (by decide)
 have n191:=no191 217 (by decide)
 have n194:=no194 217 (by decide)
 have n196:=no196 217 (by decide)
 have n198:=no198 217 (by decide)
 have n200:=no200 217 (by decide)
 have n203:=no203 217 (by decide)
 have n206:=no206 217 (by decide)
 have n208:=no208 217 (by decide)
 have n210:=no210 217 (by decide)
 have n213:=no213 217 (by decide)
 have y217:=yes217
 have HB:=zh hblk
 have HM:=zh hmb
 have HPP:=zh (pairs72 T ps hN hp hs w htab)
 have HMB:=zh (zl hmb)
 clear hN hp hs htab hblk hmb hne
 go_enter Tryz.func65,Tryz.ntmps65
 go_wp2_with (first|(refine wpList_load_row rfl 218 (.tmp 193) rfl bk rfl 218 (errCells T) (0,0) _ HB.out Tryz.underlying218 rfl size218 ?_)|(go_at_call 72;refine HPP.out.mono ?_;rintro e w2 ⟨A2,c2,rfl,hx2,hr2⟩;have HX2:=zh hx2;have HR2:=zh hr2;have HM2:=zh ((hx2.block _ HMB.out).trans HM.out);clear hx2 hr2;have hz:=zc HM2.out 11 (.slice none 0 0) rfl;have hy:=free_slot HM2.out 11))
 (try simp only [Exit.inBlock,Exit.then]);first|refine bodyPost_end (results_none rfl _ _ _) rfl ?_|refine bodyPost_ret (results_none rfl _ _ _) rfl ?_
 refine⟨⟨#[]⟩,⟨#[]⟩,0,0,none,0,0,none,0,0,none,0,0,none,0,0,none,0,0,none,0,0,A2,ps.length,c2,none,0,0,rfl,HX2.out.but.set _ _,slot_setCell (j:=11) HM2.out,fun w3 h3=>⟨none,none,none,none,none,none,A2,none,0,0,0,0,0,0,c2,0,rfl,rdi_nil _ _,rdi_nil _ _,rdi_nil _ _,rdm_nil _ _ _,RdB.nil _,rd1_nil _ _,?_,rdm_nil _ _ _,⟨by decide,by decide⟩,⟨by decide,by decide⟩,nofun,nofun,nofun,nofun⟩⟩
 exact rdm_of (own_stay (w:=w) (w':=w2) (own_zero HR2.out) (fun g hg=>by have:=(HR2.out.lt g hg).1;omega) (fun k h1 h2=>(h3 k h1 (by simpa [World.setCell]using h2)).trans (heap_setCell_other _ _ _ _ (by have:=HMB.out;simp only [ne_eq];omega)))) (rws_flat _ _)
theorem tOf_num {qs:List Pr} (h:∀y∈qs,fldP y):∀i,numJ i->tOf qs i=⟨#[]⟩∨digP (tOf qs i):=
 tOf_at (Q:=fun i v=>numJ i->v=⟨#[]⟩∨digP v) qs (fun _ _=> .inl rfl) fun y hy hn=>by
  obtain⟨j,hj,he,_⟩:=let_of (h y hy).1
  rw [he,slot_at hj]at hn
  exact .inr (dig_at (h y hy) he hn)
theorem qs_permQ {qs ps:List Pr} (hp:qs.Perm ps)(h:∀y∈ps,letP y.1/\y.2.size≠0)(hs:Srt ps):(qsOf (tOf qs)).Perm ps:=by
 have hn:qs.Pairwise (fun p q=>p.1≠q.1):=hp.symm.pairwise hs.names (fun h e=>h e.symm)
 have h1:=qs_from qs (fun _=>⟨#[]⟩) (fun y hy=>h y (hp.mem_iff.1 hy)) hn (fun _ _=>rfl)
 have h2:qsOf (fun _=>⟨#[]⟩)=[]:=rfl
 rw [h2,List.append_nil]at h1
 exact h1.trans hp
theorem dk0 (a c:ByteArray)(lf lr:List Int)(vls:List (Bool×List Int))(ha:plainP a)(hc:plainP c)(hlf:lf.length<=20)(hgf:∀y∈lf,0<=y/\y < 32768)(hlv:vls.length<=20)(hgv:∀y∈vls,y.2.length<=200/\(y.1=true->y.2.length=0))(hbv:∀y∈vls,∀z∈y.2,0<=z/\z < 256)(hlr:lr.length<=20)(hgr:∀y∈lr,0<=y/\y < 32768)(w:World)(vb:Value)(hb:RdB w vb (sby a++0 :: (sby c++0 :: (numB (lf.length:Int) 2++(lf.flatMap (fun n=>numB n 2)++(numB (vls.length:Int) 2++(vls.flatMap (fun x=>valB x.1 x.2)++(numB (lr.length:Int) 2++lr.flatMap (fun n=>numB n 2)))))))))(hl:(sby a++0 :: (sby c++0 :: (numB (lf.length:Int) 2++(lf.flatMap (fun n=>numB n 2)++(numB (vls.length:Int) 2++(vls.flatMap (fun x=>valB x.1 x.2)++(numB (lr.length:Int) 2++lr.flatMap (fun n=>numB n 2)))))))).length<=100000):Calls Tryz.prog 19 #[.int .i64 0,vb] w (DecOk (DecP 0 a c 0 lf lr [] [] vls [] [] []) w):=
 dec_ok 101 133 107 #[.string ⟨#[]⟩,.string ⟨#[]⟩,.slice none 0 0,.slice none 0 0,.slice none 0 0] 0 vb _ _ _ w hb (by omega) md0 nd0 cd0 emp0 (fun w1 b v _ _ h1 h2 h3=>dek0 a c lf lr vls ha hc hlf hgf hlv (fun y hy=>(hgv y hy).1) hlr hgr w1 b v h1 h2 hl h3) (fun b w2 hq _=>by obtain⟨A1,c1,A2,c2,A3,c3,h1,h2,h3,h4⟩:=hq;exact told0 a c lf A1 c1 vls A2 c2 lr A3 c3 w2 b h1 (zh h2) hlf hgf (zh h3) hlv hgv hbv (zh h4) hlr hgr)
theorem dk18 (ps:List Pr)(hlp:ps.length<=20)(hm:∀y∈ps,plainP y.1/\plainP y.2)(hne:ps≠[])(hsr:Srt ps)(w:World)(vb:Value)(hb:RdB w vb (numB 196608 4++(ps.flatMap prB++ [0])))(hl:(numB 196608 4++(ps.flatMap prB++ [0])).length<=100000):Calls Tryz.prog 19 #[.int .i64 18,vb] w (DecOk (DecP 18 ⟨#[]⟩ ⟨#[]⟩ 196608 [] [] [] [] [] [] ps []) w):=
 dec_ok 149 190 152 #[.int .u32 0,.map none] 18 vb _ _ _ w hb (by omega) md18 nd18 cd18 emp18 (fun w1 b v _ _ h1 h2 h3=>dek18 ps hlp hm hne w1 b v h1 h2 hl h3) (fun b w2 hq _=>by obtain⟨mb,nn,h1,h2,h3⟩:=hq;exact told18 196608 ps w2 b mb nn h1 h2 (by omega) hsr ⟨by decide,by decide⟩ hlp)
theorem dk47 (qs ps:List Pr)(hf:∀y∈ps,fldP y/\plainP y.2/\y.2.size≠0)(hs:Srt ps)(hpm:qs.Perm ps)(w:World)(vb:Value)(hb:RdB w vb (qs.flatMap erB++ [0]))(hl:(qs.flatMap erB++ [0]).length<=100000)(ht:Tab w):Calls Tryz.prog 19 #[.int .i64 47,vb] w (DecOk (DecP 47 ⟨#[]⟩ ⟨#[]⟩ 0 [] [] [] [] [] [] ps []) w):=
 dec_ok 213 292 216 #[.string ⟨#[]⟩,.string ⟨#[]⟩,.string ⟨#[]⟩,.string ⟨#[]⟩,.string ⟨#[]⟩,.string ⟨#[]⟩,.int .i32 0,.int .i32 0,.string ⟨#[]⟩,.string ⟨#[]⟩,.string ⟨#[]⟩,.string ⟨#[]⟩,.string ⟨#[]⟩,.string ⟨#[]⟩,.string ⟨#[]⟩,.string ⟨#[]⟩,.int .i32 0,.string ⟨#[]⟩,.map none] 47 vb _ _ _ w hb (by omega) md47 nd47 cd47 emp47 (fun w1 b v _ _ h1 h2 h3=>dek47 qs (fun y hy=>⟨(hf y (hpm.mem_iff.1 hy)).1,(hf y (hpm.mem_iff.1 hy)).2.1⟩) w1 b v h1 h2 hl h3) (fun b w2 h1 hx=>told_dflt 213 47 _ w2 b (by decide) fun W2 hx2 hm=>answd47 (tOf qs) ps (tOf_num (fun y hy=>(hf y (hpm.mem_iff.1 hy)).1)) (qs_permQ hpm (fun y hy=>⟨(hf y hy).1.1,(hf y hy).2.2⟩) hs) hs W2 (ht.ext (hx.trans hx2)) b (w2.heap.size+1) ((hx2.block b (zl h1)).trans h1) hm (by have:=zl h1;omega))
theorem dk48 (qs ps:List Pr)(hf:∀y∈ps,fldP y/\plainP y.2/\y.2.size≠0)(hs:Srt ps)(hpm:qs.Perm ps)(w:World)(vb:Value)(hb:RdB w vb (qs.flatMap erB++ [0]))(hl:(qs.flatMap erB++ [0]).length<=100000)(ht:Tab w):Calls Tryz.prog 19 #[.int .i64 48,vb] w (DecOk (DecP 48 ⟨#[]⟩ ⟨#[]⟩ 0 [] [] [] [] [] [] ps []) w):=
 dec_ok 217 314 218 #[.string ⟨#[]⟩,.string ⟨#[]⟩,.string ⟨#[]⟩,.string ⟨#[]⟩,.string ⟨#[]⟩,.string ⟨#[]⟩,.int .i32 0,.int .i32 0,.string ⟨#[]⟩,.string ⟨#[]⟩,.string ⟨#[]⟩,.string ⟨#[]⟩,.string ⟨#[]⟩,.string ⟨#[]⟩,.string ⟨#[]⟩,.string ⟨#[]⟩,.int .i32 0,.string ⟨#[]⟩,.map none] 48 vb _ _ _ w hb (by omega) md48 nd48 cd48 emp48 (fun w1 b v _ _ h1 h2 h3=>dek48 qs (fun y hy=>⟨(hf y (hpm.mem_iff.1 hy)).1,(hf y (hpm.mem_iff.1 hy)).2.1⟩) w1 b v h1 h2 hl h3) (fun b w2 h1 hx=>told_dflt 217 48 _ w2 b (by decide) fun W2 hx2 hm=>answd48 (tOf qs) ps (tOf_num (fun y hy=>(hf y (hpm.mem_iff.1 hy)).1)) (qs_permQ hpm (fun y hy=>⟨(hf y hy).1.1,(hf y hy).2.2⟩) hs) hs W2 (ht.ext (hx.trans hx2)) b (w2.heap.size+1) ((hx2.block b (zl h1)).trans h1) hm (by have:=zl h1;omega))
set_option maxHeartbeats 4000000 in
theorem answd41 (a:ByteArray)(Ad:Option Addr)(cd:Nat)(w:World)(bk mb:Nat)(hblk:w.heap[bk]?=some (.cells #[.slice Ad (sby a).length cd] 202 (0,0)))(HD:Hid (RdB w (.slice Ad (sby a).length cd) (sby a)))(hmb:w.heap[mb]?=some (.cells #[.int .i64 41,.string ⟨#[]⟩,.string ⟨#[]⟩,.int .u32 0,.int .u32 0,.slice none 0 0,.slice none 0 0,.slice none 0 0,.slice none 0 0,.slice none 0 0,.slice none 0 0,.slice none 0 0,.slice none 0 0] 31 (0,0)))(hne:bk≠mb):
 Calls Tryz.prog 65 #[.iface 200 (.pointer (some ⟨bk,0,none⟩)),.pointer (some ⟨mb,0,none⟩)] w (Answd 41 mb (DecP 41 a ⟨#[]⟩ 0 [] [] [] [] [] [] [] []) w):=by
 have n185:=no185 200 (by decide)
 have n189:=no189 200 (by decide)
 have n191:=no191 200 (by decide)
 have n194:=no194 200 (by decide)
 have n196:=no196 200 (by decide)
 have n198:=no198 200 (by decide)
 have y200:=yes200
 have HM:=zh hmb
 have hz:=zc HM.out 1 (.string ⟨#[]⟩) rfl
 have hy:=free_slot HM.out 1
 have hq:=zc hblk 0 (.slice Ad (sby a).length cd) rfl
 have hcv:=conv_rd HD.out
 rw [str_sby]at hcv
 have HB:Hid ((w.setCell ⟨mb,1,none⟩ (.string a)).heap[mb]?=some (.cells #[.int .i64 41,.string a,.string ⟨#[]⟩,.int .u32 0,.int .u32 0,.slice none 0 0,.slice none 0 0,.slice none 0 0,.slice none 0 0,.slice none 0 0,.slice none 0 0,.slice none 0 0,.slice none 0 0] 31 (0,0))):=zh (slot_setCell HM.out)
 clear hblk hmb hne
 go_enter Tryz.func65,Tryz.ntmps65
 go_wp2
 (try simp only [Exit.inBlock,Exit.then]);first|refine bodyPost_end (results_none rfl _ _ _) rfl ?_|refine bodyPost_ret (results_none rfl _ _ _) rfl ?_
 exact answd_of ((Ext.refl w).but.set _ _) HB.out (fun _ _=>rdi_nil _ _) (fun _ _=>rdi_nil _ _) (fun _ _=>rdi_nil _ _) (fun _ _=>rdm_nil _ _ _) (fun _ _=>RdB.nil _) (fun _ _=>rd1_nil _ _) ⟨by decide,by decide⟩ (nofun) (nofun) (nofun)
set_option maxHeartbeats 4000000 in
theorem answd32 (d0 d1 d2 d3:Int)(w:World)(bk mb:Nat)(hblk:w.heap[bk]?=some (.cells #[.int .u8 d0,.int .u8 d1,.int .u8 d2,.int .u8 d3] 188 (0,0)))(hgd:∀y∈[d0,d1,d2,d3],0<=y/\y < 256)(hmb:w.heap[mb]?=some (.cells #[.int .i64 32,.string ⟨#[]⟩,.string ⟨#[]⟩,.int .u32 0,.int .u32 0,.slice none 0 0,.slice none 0 0,.slice none 0 0,.slice none 0 0,.slice none 0 0,.slice none 0 0,.slice none 0 0,.slice none 0 0] 31 (0,0)))(hne:bk≠mb):
 Calls Tryz.prog 65 #[.iface 185 (.pointer (some ⟨bk,0,none⟩)),.pointer (some ⟨mb,0,none⟩)] w (Answd 32 mb (DecP 32 ⟨#[]⟩ ⟨#[]⟩ 0 [] [] [] [d0,d1,d2,d3] [] [] [] []) w):=by
 have y185:=yes185
 have HM:=zh hmb
 have HMB:=zh (zl hmb)
 have HD:=zh (rdb4 hblk)
 clear hblk hmb hne
 go_enter Tryz.func65,Tryz.ntmps65
 go_wp2_with (go_at_call 47;refine(copiedK _ [d0,d1,d2,d3] _ HD.out (by simp)).mono ?_;rintro e w2 ⟨A2,c2,rfl,hx2,hk2⟩;have HX2:=zh hx2;have HK2:=zh hk2;have HM2:=zh ((hx2.block _ HMB.out).trans HM.out);clear hx2 hk2;have hz:=zc HM2.out 9 (.slice none 0 0) rfl;have hy:=free_slot HM2.out 9)
 have hB:(w2.setCell ⟨mb,9,none⟩ (.slice A2 ([d0,d1,d2,d3]:List Int).length c2)).heap[mb]?=some (.cells #[.int .i64 32,.string ⟨#[]⟩,.string ⟨#[]⟩,.int .u32 0,.int .u32 0,.slice none 0 0,.slice none 0 0,.slice none 0 0,.slice none 0 0,.slice A2 ([d0,d1,d2,d3]:List Int).length c2,.slice none 0 0,.slice none 0 0,.slice none 0 0] 31 (0,0)):=slot_setCell HM2.out
 have HB:=zh hB
 clear hB
 (try simp only [Exit.inBlock,Exit.then]);first|refine bodyPost_end (results_none rfl _ _ _) rfl ?_|refine bodyPost_ret (results_none rfl _ _ _) rfl ?_
 exact answd_of (HX2.out.but.set _ _) HB.out (fun _ _=>rdi_nil _ _) (fun _ _=>rdi_nil _ _) (fun _ _=>rdi_nil _ _) (fun _ _=>rdm_nil _ _ _) (keeps_put HK2.out HMB.out) (fun _ _=>rd1_nil _ _) ⟨by decide,by decide⟩ (nofun) hgd (nofun)
theorem rdm_one {x:Bool×List Int} {A:Option Addr} {c g:Nat} {w3:World} (hg:w3.heap[g]?=some (.cells #[.bool x.1,.slice A x.2.length c] 58 (0,0)))(hr:RdB w3 (.slice A x.2.length c) x.2):RdM 2 isVal w3 (.slice (some ⟨g,0,none⟩) 1 1) [x]:=by
 refine⟨_,1,rfl,Nat.le_refl _,by unfold maxLen;omega,fun _=>⟨g,0,rfl,fun j hj=>?_⟩⟩
 obtain rfl:j=0:=by simp at hj;omega
 refine⟨fun k=>if k=0 then .bool x.1 else .slice A x.2.length c,fun k hk=>?_,rfl,A,c,rfl,hr⟩
 rcases k with _|_|k
 ·exact zc hg 0 _ rfl
 ·exact zc hg 1 _ rfl
 ·omega
set_option maxHeartbeats 4000000 in
theorem answd49 (x:Bool×List Int)(u:Value)(w:World)(bk mb:Nat)(hblk:w.heap[bk]?=some (.cells #[u] 221 (0,0)))(HU:Hid (isOpt w (optV x) u))(hxl:x.2.length<=200)(hx0:x.1=true->x.2.length=0)(hgb:∀z∈x.2,0<=z/\z < 256)(hmb:w.heap[mb]?=some (.cells #[.int .i64 49,.string ⟨#[]⟩,.string ⟨#[]⟩,.int .u32 0,.int .u32 0,.slice none 0 0,.slice none 0 0,.slice none 0 0,.slice none 0 0,.slice none 0 0,.slice none 0 0,.slice none 0 0,.slice none 0 0] 31 (0,0)))(hne:bk≠mb):
 Calls Tryz.prog 65 #[.iface 219 (.pointer (some ⟨bk,0,none⟩)),.pointer (some ⟨mb,0,none⟩)] w (Answd 49 mb (DecP 49 ⟨#[]⟩ ⟨#[]⟩ 0 [] [] [] [] [x] [] [] []) w):=by
 have hc:Hid (Calls Tryz.prog 69 #[u] w (GaveV x w)):=zh (by
  obtain⟨x1,x2⟩:=x
  have h1:=HU.out
  cases x1 with
  | true=>
    have h2:x2=[]:=List.eq_nil_of_length_eq_zero (hx0 rfl)
    subst h2
    have h3:u=.slice none 0 0:=h1
    rw [h3]
    exact valueOfN w
  | false=>
    obtain⟨p,c,h3,h4⟩:=h1
    rw [h3]at h4⊢
    exact valueOfK x2 p c w h4 (by have:x2.length<=200:=hxl;omega))
 have n185:=no185 219 (by decide)
 have n189:=no189 219 (by decide)
 have n191:=no191 219 (by decide)
 have n194:=no194 219 (by decide)
 have n196:=no196 219 (by decide)
 have n198:=no198 219 (by decide)
 have n200:=no200 219 (by decide)
 have n203:=no203 219 (by decide)
 have n206:=no206 219 (by decide)
 have n208:=no208 219 (by decide)
 have n210:=no210 219 (by decide)
 have n213:=no213 219 (by decide)
 have n217:=no217 219 (by decide)
 have y219:=yes219
 have HM:=zh hmb
 have HMB:=zh (zl hmb)
 have hq:=zc hblk 0 u rfl
 clear hblk hmb hne
 go_enter Tryz.func65,Tryz.ntmps65
 go_wp2_with (go_at_call 69;refine hc.out.mono ?_;rintro e w2 ⟨A2,c2,rfl,hx2,hk2⟩;clear hq;have HX2:=zh hx2;have HK2:=zh hk2;have HM2:=zh ((hx2.block _ HMB.out).trans HM.out);have HM3:=zh (((ext_alloc w2 (.cells #[.bool x.1,.slice A2 x.2.length c2] 58)).block _ (zl HM2.out)).trans HM2.out);clear hx2 hk2;have hz:=zc HM3.out 8 (.slice none 0 0) rfl;have hy:=free_slot HM3.out 8)
 have hB:((w2.alloc (.cells #[.bool x.1,.slice A2 x.2.length c2] 58)).setCell ⟨mb,8,none⟩ (.slice (some ⟨w2.heap.size,0,none⟩) 1 1)).heap[mb]?=some (.cells #[.int .i64 49,.string ⟨#[]⟩,.string ⟨#[]⟩,.int .u32 0,.int .u32 0,.slice none 0 0,.slice none 0 0,.slice none 0 0,.slice (some ⟨w2.heap.size,0,none⟩) 1 1,.slice none 0 0,.slice none 0 0,.slice none 0 0,.slice none 0 0] 31 (0,0)):=slot_setCell HM3.out
 have HB:=zh hB
 clear hB
 (try simp only [Exit.inBlock,Exit.then]);first|refine bodyPost_end (results_none rfl _ _ _) rfl ?_|refine bodyPost_ret (results_none rfl _ _ _) rfl ?_
 refine answd_of (((HX2.out.trans (ext_alloc _ _)).but).set _ _) HB.out (fun _ _=>rdi_nil _ _) (fun _ _=>rdi_nil _ _) (fun _ _=>rdi_nil _ _) ?_ (fun _ _=>RdB.nil _) (fun _ _=>rd1_nil _ _) ⟨by decide,by decide⟩ (nofun) (nofun) (by intro y hy;simp at hy;subst hy;exact hgb)
 have hK:=keeps_put (j:=8) (u:=.slice (some ⟨w2.heap.size,0,none⟩) 1 1) (R:=fun w3=>RdM 2 isVal w3 (.slice (some ⟨w2.heap.size,0,none⟩) 1 1) [x]) (W:=w) (x:=w2.alloc (.cells #[.bool x.1,.slice A2 x.2.length c2] 58)) (fun w3 h3=>?_) HMB.out
 ·exact hK
 ·have h9:=h3 w2.heap.size HX2.out.size (by simp)
  rw [heap_alloc_new]at h9
  exact rdm_one h9 (HK2.out w3 fun k h1 h2=>(h3 k h1 (by simp;omega)).trans ((ext_alloc w2 _).block k h2))
end Go.Proofs.YtdenjanihikolaaGreatDoor
