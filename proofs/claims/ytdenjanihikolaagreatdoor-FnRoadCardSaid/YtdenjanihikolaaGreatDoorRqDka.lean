/- Decode that can: kinds with a Buffer and no loop. -/
import Derived.Test.YtdenjanihikolaaGreatDoorRqA0
import Derived.Test.YtdenjanihikolaaGreatDoorRqA1
import Derived.Test.YtdenjanihikolaaGreatDoorRqDcj
import Derived.Test.YtdenjanihikolaaGreatDoorRqDok
namespace Go.Proofs.YtdenjanihikolaaGreatDoor
set_option linter.unusedVariables false
set_option linter.unusedSimpArgs false
set_option maxRecDepth 100000
set_option maxHeartbeats 4000000
open Go.RowKit
theorem drop_numB (n:Int)(k:Nat)(r:List Int):(numB n k++r).drop k=r:=List.drop_left' (numB_len _ _)
theorem dek4 (w1:World)(b:Nat)(v:Value)(hb:w1.heap[b]?=some (.cells #[] 156 (0,0)))(hv:RdB w1 v (([]:List Int)))(hl:(([]:List Int)).length<=100000)(hof:v.ownBlock≠some b):
 Calls Tryz.prog 214 #[.pointer (some ⟨b,0,none⟩),v] w1 (Deced b (fun b w2=>True) w1):=by
 obtain⟨A,c,hvs⟩:=hv.len
 subst hvs
 have HP:=zh hv.parts
 have HV:Hid (RdN b w1 (.slice A (([]:List Int)).length c) (([]:List Int))):=zh ⟨hv,fun _=>hof⟩
 have HBK:=zh hb
 have HLT:=zh (zl hb)
 clear hv hof hb
 simp only [List.length_nil]
 go_enter Tryz.func214,Tryz.ntmps214
 go_wp2
 go_ret
 exact⟨rfl,(Ext.refl w1).but,trivial⟩
theorem dek8 (w1:World)(b:Nat)(v:Value)(hb:w1.heap[b]?=some (.cells #[] 158 (0,0)))(hv:RdB w1 v (([]:List Int)))(hl:(([]:List Int)).length<=100000)(hof:v.ownBlock≠some b):
 Calls Tryz.prog 216 #[.pointer (some ⟨b,0,none⟩),v] w1 (Deced b (fun b w2=>True) w1):=by
 obtain⟨A,c,hvs⟩:=hv.len
 subst hvs
 have HP:=zh hv.parts
 have HV:Hid (RdN b w1 (.slice A (([]:List Int)).length c) (([]:List Int))):=zh ⟨hv,fun _=>hof⟩
 have HBK:=zh hb
 have HLT:=zh (zl hb)
 clear hv hof hb
 simp only [List.length_nil]
 go_enter Tryz.func216,Tryz.ntmps216
 go_wp2
 go_ret
 exact⟨rfl,(Ext.refl w1).but,trivial⟩
theorem dek19 (w1:World)(b:Nat)(v:Value)(hb:w1.heap[b]?=some (.cells #[] 164 (0,0)))(hv:RdB w1 v (([]:List Int)))(hl:(([]:List Int)).length<=100000)(hof:v.ownBlock≠some b):
 Calls Tryz.prog 225 #[.pointer (some ⟨b,0,none⟩),v] w1 (Deced b (fun b w2=>True) w1):=by
 obtain⟨A,c,hvs⟩:=hv.len
 subst hvs
 have HP:=zh hv.parts
 have HV:Hid (RdN b w1 (.slice A (([]:List Int)).length c) (([]:List Int))):=zh ⟨hv,fun _=>hof⟩
 have HBK:=zh hb
 have HLT:=zh (zl hb)
 clear hv hof hb
 simp only [List.length_nil]
 go_enter Tryz.func225,Tryz.ntmps225
 go_wp2
 go_ret
 exact⟨rfl,(Ext.refl w1).but,trivial⟩
theorem dek20 (w1:World)(b:Nat)(v:Value)(hb:w1.heap[b]?=some (.cells #[] 166 (0,0)))(hv:RdB w1 v (([]:List Int)))(hl:(([]:List Int)).length<=100000)(hof:v.ownBlock≠some b):
 Calls Tryz.prog 228 #[.pointer (some ⟨b,0,none⟩),v] w1 (Deced b (fun b w2=>True) w1):=by
 obtain⟨A,c,hvs⟩:=hv.len
 subst hvs
 have HP:=zh hv.parts
 have HV:Hid (RdN b w1 (.slice A (([]:List Int)).length c) (([]:List Int))):=zh ⟨hv,fun _=>hof⟩
 have HBK:=zh hb
 have HLT:=zh (zl hb)
 clear hv hof hb
 simp only [List.length_nil]
 go_enter Tryz.func228,Tryz.ntmps228
 go_wp2
 go_ret
 exact⟨rfl,(Ext.refl w1).but,trivial⟩
theorem dek39 (w1:World)(b:Nat)(v:Value)(hb:w1.heap[b]?=some (.cells #[] 174 (0,0)))(hv:RdB w1 v (([]:List Int)))(hl:(([]:List Int)).length<=100000)(hof:v.ownBlock≠some b):
 Calls Tryz.prog 241 #[.pointer (some ⟨b,0,none⟩),v] w1 (Deced b (fun b w2=>True) w1):=by
 obtain⟨A,c,hvs⟩:=hv.len
 subst hvs
 have HP:=zh hv.parts
 have HV:Hid (RdN b w1 (.slice A (([]:List Int)).length c) (([]:List Int))):=zh ⟨hv,fun _=>hof⟩
 have HBK:=zh hb
 have HLT:=zh (zl hb)
 clear hv hof hb
 simp only [List.length_nil]
 go_enter Tryz.func241,Tryz.ntmps241
 go_wp2
 go_ret
 exact⟨rfl,(Ext.refl w1).but,trivial⟩
theorem dek40 (w1:World)(b:Nat)(v:Value)(hb:w1.heap[b]?=some (.cells #[] 176 (0,0)))(hv:RdB w1 v (([]:List Int)))(hl:(([]:List Int)).length<=100000)(hof:v.ownBlock≠some b):
 Calls Tryz.prog 244 #[.pointer (some ⟨b,0,none⟩),v] w1 (Deced b (fun b w2=>True) w1):=by
 obtain⟨A,c,hvs⟩:=hv.len
 subst hvs
 have HP:=zh hv.parts
 have HV:Hid (RdN b w1 (.slice A (([]:List Int)).length c) (([]:List Int))):=zh ⟨hv,fun _=>hof⟩
 have HBK:=zh hb
 have HLT:=zh (zl hb)
 clear hv hof hb
 simp only [List.length_nil]
 go_enter Tryz.func244,Tryz.ntmps244
 go_wp2
 go_ret
 exact⟨rfl,(Ext.refl w1).but,trivial⟩
theorem dek46 (w1:World)(b:Nat)(v:Value)(hb:w1.heap[b]?=some (.cells #[] 178 (0,0)))(hv:RdB w1 v (([]:List Int)))(hl:(([]:List Int)).length<=100000)(hof:v.ownBlock≠some b):
 Calls Tryz.prog 247 #[.pointer (some ⟨b,0,none⟩),v] w1 (Deced b (fun b w2=>True) w1):=by
 obtain⟨A,c,hvs⟩:=hv.len
 subst hvs
 have HP:=zh hv.parts
 have HV:Hid (RdN b w1 (.slice A (([]:List Int)).length c) (([]:List Int))):=zh ⟨hv,fun _=>hof⟩
 have HBK:=zh hb
 have HLT:=zh (zl hb)
 clear hv hof hb
 simp only [List.length_nil]
 go_enter Tryz.func247,Tryz.ntmps247
 go_wp2
 go_ret
 exact⟨rfl,(Ext.refl w1).but,trivial⟩
theorem dek50 (w1:World)(b:Nat)(v:Value)(hb:w1.heap[b]?=some (.cells #[] 180 (0,0)))(hv:RdB w1 v (([]:List Int)))(hl:(([]:List Int)).length<=100000)(hof:v.ownBlock≠some b):
 Calls Tryz.prog 250 #[.pointer (some ⟨b,0,none⟩),v] w1 (Deced b (fun b w2=>True) w1):=by
 obtain⟨A,c,hvs⟩:=hv.len
 subst hvs
 have HP:=zh hv.parts
 have HV:Hid (RdN b w1 (.slice A (([]:List Int)).length c) (([]:List Int))):=zh ⟨hv,fun _=>hof⟩
 have HBK:=zh hb
 have HLT:=zh (zl hb)
 clear hv hof hb
 simp only [List.length_nil]
 go_enter Tryz.func250,Tryz.ntmps250
 go_wp2
 go_ret
 exact⟨rfl,(Ext.refl w1).but,trivial⟩
theorem dek54 (w1:World)(b:Nat)(v:Value)(hb:w1.heap[b]?=some (.cells #[] 182 (0,0)))(hv:RdB w1 v (([]:List Int)))(hl:(([]:List Int)).length<=100000)(hof:v.ownBlock≠some b):
 Calls Tryz.prog 253 #[.pointer (some ⟨b,0,none⟩),v] w1 (Deced b (fun b w2=>True) w1):=by
 obtain⟨A,c,hvs⟩:=hv.len
 subst hvs
 have HP:=zh hv.parts
 have HV:Hid (RdN b w1 (.slice A (([]:List Int)).length c) (([]:List Int))):=zh ⟨hv,fun _=>hof⟩
 have HBK:=zh hb
 have HLT:=zh (zl hb)
 clear hv hof hb
 simp only [List.length_nil]
 go_enter Tryz.func253,Tryz.ntmps253
 go_wp2
 go_ret
 exact⟨rfl,(Ext.refl w1).but,trivial⟩
theorem dek55 (w1:World)(b:Nat)(v:Value)(hb:w1.heap[b]?=some (.cells #[] 184 (0,0)))(hv:RdB w1 v (([]:List Int)))(hl:(([]:List Int)).length<=100000)(hof:v.ownBlock≠some b):
 Calls Tryz.prog 256 #[.pointer (some ⟨b,0,none⟩),v] w1 (Deced b (fun b w2=>True) w1):=by
 obtain⟨A,c,hvs⟩:=hv.len
 subst hvs
 have HP:=zh hv.parts
 have HV:Hid (RdN b w1 (.slice A (([]:List Int)).length c) (([]:List Int))):=zh ⟨hv,fun _=>hof⟩
 have HBK:=zh hb
 have HLT:=zh (zl hb)
 clear hv hof hb
 simp only [List.length_nil]
 go_enter Tryz.func256,Tryz.ntmps256
 go_wp2
 go_ret
 exact⟨rfl,(Ext.refl w1).but,trivial⟩
theorem dek10 (w1:World)(b:Nat)(v:Value)(hb:w1.heap[b]?=some (.cells #[] 160 (0,0)))(hv:RdB w1 v (numB 80877104 4++ []))(hl:(numB 80877104 4++ []).length<=100000)(hof:v.ownBlock≠some b):
 Calls Tryz.prog 219 #[.pointer (some ⟨b,0,none⟩),v] w1 (Deced b (fun b w2=>True) w1):=by
 obtain⟨A,c,hvs⟩:=hv.len
 subst hvs
 have HP:=zh hv.parts
 have HV:Hid (RdN b w1 (.slice A (numB 80877104 4++ []).length c) (numB 80877104 4++ [])):=zh ⟨hv,fun _=>hof⟩
 have HBK:=zh hb
 have HLT:=zh (zl hb)
 clear hv hof hb
 simp only [List.length_append,numB_len,List.length_nil]at HV⊢
 go_enter Tryz.func219,Tryz.ntmps219
 go_wp2_with (go_at_call 138;refine(rd32n 80877104 (by decide) _ _ _ ([]) _ HV.out.1).mono ?_;rintro e w6 ⟨rfl,hx6⟩;have HX6:=zh hx6;clear hx6)
 go_ret
 exact⟨rfl,HX6.out.but,trivial⟩
theorem dek17 (w1:World)(b:Nat)(v:Value)(hb:w1.heap[b]?=some (.cells #[] 162 (0,0)))(hv:RdB w1 v (numB 80877103 4++ []))(hl:(numB 80877103 4++ []).length<=100000)(hof:v.ownBlock≠some b):
 Calls Tryz.prog 222 #[.pointer (some ⟨b,0,none⟩),v] w1 (Deced b (fun b w2=>True) w1):=by
 obtain⟨A,c,hvs⟩:=hv.len
 subst hvs
 have HP:=zh hv.parts
 have HV:Hid (RdN b w1 (.slice A (numB 80877103 4++ []).length c) (numB 80877103 4++ [])):=zh ⟨hv,fun _=>hof⟩
 have HBK:=zh hb
 have HLT:=zh (zl hb)
 clear hv hof hb
 simp only [List.length_append,numB_len,List.length_nil]at HV⊢
 go_enter Tryz.func222,Tryz.ntmps222
 go_wp2_with (go_at_call 138;refine(rd32n 80877103 (by decide) _ _ _ ([]) _ HV.out.1).mono ?_;rintro e w6 ⟨rfl,hx6⟩;have HX6:=zh hx6;clear hx6)
 go_ret
 exact⟨rfl,HX6.out.but,trivial⟩
theorem dek30 (w1:World)(b:Nat)(v:Value)(hb:w1.heap[b]?=some (.cells #[] 168 (0,0)))(hv:RdB w1 v (numB 0 4++ []))(hl:(numB 0 4++ []).length<=100000)(hof:v.ownBlock≠some b):
 Calls Tryz.prog 232 #[.pointer (some ⟨b,0,none⟩),v] w1 (Deced b (fun b w2=>True) w1):=by
 obtain⟨A,c,hvs⟩:=hv.len
 subst hvs
 have HP:=zh hv.parts
 have HV:Hid (RdN b w1 (.slice A (numB 0 4++ []).length c) (numB 0 4++ [])):=zh ⟨hv,fun _=>hof⟩
 have HBK:=zh hb
 have HLT:=zh (zl hb)
 clear hv hof hb
 simp only [List.length_append,numB_len,List.length_nil]at HV⊢
 go_enter Tryz.func232,Tryz.ntmps232
 go_wp2_with (go_at_call 138;refine(rd32n 0 (by decide) _ _ _ ([]) _ HV.out.1).mono ?_;rintro e w6 ⟨rfl,hx6⟩;have HX6:=zh hx6;clear hx6)
 go_ret
 exact⟨rfl,HX6.out.but,trivial⟩
theorem dek31 (w1:World)(b:Nat)(v:Value)(hb:w1.heap[b]?=some (.cells #[] 170 (0,0)))(hv:RdB w1 v (numB 3 4++ []))(hl:(numB 3 4++ []).length<=100000)(hof:v.ownBlock≠some b):
 Calls Tryz.prog 235 #[.pointer (some ⟨b,0,none⟩),v] w1 (Deced b (fun b w2=>True) w1):=by
 obtain⟨A,c,hvs⟩:=hv.len
 subst hvs
 have HP:=zh hv.parts
 have HV:Hid (RdN b w1 (.slice A (numB 3 4++ []).length c) (numB 3 4++ [])):=zh ⟨hv,fun _=>hof⟩
 have HBK:=zh hb
 have HLT:=zh (zl hb)
 clear hv hof hb
 simp only [List.length_append,numB_len,List.length_nil]at HV⊢
 go_enter Tryz.func235,Tryz.ntmps235
 go_wp2_with (go_at_call 138;refine(rd32n 3 (by decide) _ _ _ ([]) _ HV.out.1).mono ?_;rintro e w6 ⟨rfl,hx6⟩;have HX6:=zh hx6;clear hx6)
 go_ret
 exact⟨rfl,HX6.out.but,trivial⟩
theorem dek33 (w1:World)(b:Nat)(v:Value)(hb:w1.heap[b]?=some (.cells #[] 172 (0,0)))(hv:RdB w1 v (numB 7 4++ []))(hl:(numB 7 4++ []).length<=100000)(hof:v.ownBlock≠some b):
 Calls Tryz.prog 238 #[.pointer (some ⟨b,0,none⟩),v] w1 (Deced b (fun b w2=>True) w1):=by
 obtain⟨A,c,hvs⟩:=hv.len
 subst hvs
 have HP:=zh hv.parts
 have HV:Hid (RdN b w1 (.slice A (numB 7 4++ []).length c) (numB 7 4++ [])):=zh ⟨hv,fun _=>hof⟩
 have HBK:=zh hb
 have HLT:=zh (zl hb)
 clear hv hof hb
 simp only [List.length_append,numB_len,List.length_nil]at HV⊢
 go_enter Tryz.func238,Tryz.ntmps238
 go_wp2_with (go_at_call 138;refine(rd32n 7 (by decide) _ _ _ ([]) _ HV.out.1).mono ?_;rintro e w6 ⟨rfl,hx6⟩;have HX6:=zh hx6;clear hx6)
 go_ret
 exact⟨rfl,HX6.out.but,trivial⟩
theorem dek34 (d:List Int)(w1:World)(b:Nat)(v:Value)(hb:w1.heap[b]?=some (.cells #[.slice none 0 0] 190 (0,0)))(hv:RdB w1 v (numB 8 4++d))(hl:(numB 8 4++d).length<=100000)(hof:v.ownBlock≠some b):
 Calls Tryz.prog 262 #[.pointer (some ⟨b,0,none⟩),v] w1 (Deced b (fun b w2=>∃A c,w2.heap[b]?=some (.cells #[.slice A d.length c] 190 (0,0))/\RdB w2 (.slice A d.length c) d) w1):=by
 obtain⟨A,c,hvs⟩:=hv.len
 subst hvs
 have HP:=zh hv.parts
 have HV:Hid (RdN b w1 (.slice A (numB 8 4++d).length c) (numB 8 4++d)):=zh ⟨hv,fun _=>hof⟩
 have HBK:=zh hb
 have HLT:=zh (zl hb)
 clear hv hof hb
 have hln:(numB 8 4++d).length=4+d.length:=by rw [List.length_append,numB_len]
 obtain⟨A4,c4,h4,h5⟩:=sl_at A (numB 8 4++d).length c 4 (by omega) HP.out.2.1 HP.out.2.2
 have h6:=h5 b w1 _ HV.out
 rw [hln,show 4+d.length - 4=d.length by omega,show(numB 8 4++d).drop 4=d from List.drop_left' (numB_len _ _)]at h6
 have H6:=zh h6
 simp only [hln,show 4+d.length - 4=d.length by omega]at h4
 clear h5 h6
 rw [hln]at HV⊢
 have hlt:¬((4:Int)+(d.length:Int) < 4):=by omega
 go_enter Tryz.func262,Tryz.ntmps262
 go_wp2_with (go_at_call 138;refine(rd32n 8 (by decide) _ _ _ d _ HV.out.1).mono ?_;rintro e w6 ⟨rfl,hx6⟩;have HX6:=zh hx6;have HB6:=zh ((hx6.block b HLT.out).trans HBK.out);have hz0:=zc HB6.out 0 (.slice none 0 0) rfl;have hy0:=free_slot HB6.out 0;clear hx6)
 go_ret
 exact⟨rfl,HX6.out.but.set _ _,_,_,slot_setCell HB6.out,(H6.out.at_ (HX6.out.but.set _ _)).1⟩
theorem dek36 (d:List Int)(w1:World)(b:Nat)(v:Value)(hb:w1.heap[b]?=some (.cells #[.slice none 0 0] 195 (0,0)))(hv:RdB w1 v (numB 11 4++d))(hl:(numB 11 4++d).length<=100000)(hof:v.ownBlock≠some b):
 Calls Tryz.prog 268 #[.pointer (some ⟨b,0,none⟩),v] w1 (Deced b (fun b w2=>∃A c,w2.heap[b]?=some (.cells #[.slice A d.length c] 195 (0,0))/\RdB w2 (.slice A d.length c) d) w1):=by
 obtain⟨A,c,hvs⟩:=hv.len
 subst hvs
 have HP:=zh hv.parts
 have HV:Hid (RdN b w1 (.slice A (numB 11 4++d).length c) (numB 11 4++d)):=zh ⟨hv,fun _=>hof⟩
 have HBK:=zh hb
 have HLT:=zh (zl hb)
 clear hv hof hb
 have hln:(numB 11 4++d).length=4+d.length:=by rw [List.length_append,numB_len]
 obtain⟨A4,c4,h4,h5⟩:=sl_at A (numB 11 4++d).length c 4 (by omega) HP.out.2.1 HP.out.2.2
 have h6:=h5 b w1 _ HV.out
 rw [hln,show 4+d.length - 4=d.length by omega,show(numB 11 4++d).drop 4=d from List.drop_left' (numB_len _ _)]at h6
 have H6:=zh h6
 simp only [hln,show 4+d.length - 4=d.length by omega]at h4
 clear h5 h6
 rw [hln]at HV⊢
 have hlt:¬((4:Int)+(d.length:Int) < 4):=by omega
 go_enter Tryz.func268,Tryz.ntmps268
 go_wp2_with (go_at_call 138;refine(rd32n 11 (by decide) _ _ _ d _ HV.out.1).mono ?_;rintro e w6 ⟨rfl,hx6⟩;have HX6:=zh hx6;have HB6:=zh ((hx6.block b HLT.out).trans HBK.out);have hz0:=zc HB6.out 0 (.slice none 0 0) rfl;have hy0:=free_slot HB6.out 0;clear hx6)
 go_ret
 exact⟨rfl,HX6.out.but.set _ _,_,_,slot_setCell HB6.out,(H6.out.at_ (HX6.out.but.set _ _)).1⟩
theorem dek37 (d:List Int)(w1:World)(b:Nat)(v:Value)(hb:w1.heap[b]?=some (.cells #[.slice none 0 0] 197 (0,0)))(hv:RdB w1 v (numB 12 4++d))(hl:(numB 12 4++d).length<=100000)(hof:v.ownBlock≠some b):
 Calls Tryz.prog 271 #[.pointer (some ⟨b,0,none⟩),v] w1 (Deced b (fun b w2=>∃A c,w2.heap[b]?=some (.cells #[.slice A d.length c] 197 (0,0))/\RdB w2 (.slice A d.length c) d) w1):=by
 obtain⟨A,c,hvs⟩:=hv.len
 subst hvs
 have HP:=zh hv.parts
 have HV:Hid (RdN b w1 (.slice A (numB 12 4++d).length c) (numB 12 4++d)):=zh ⟨hv,fun _=>hof⟩
 have HBK:=zh hb
 have HLT:=zh (zl hb)
 clear hv hof hb
 have hln:(numB 12 4++d).length=4+d.length:=by rw [List.length_append,numB_len]
 obtain⟨A4,c4,h4,h5⟩:=sl_at A (numB 12 4++d).length c 4 (by omega) HP.out.2.1 HP.out.2.2
 have h6:=h5 b w1 _ HV.out
 rw [hln,show 4+d.length - 4=d.length by omega,show(numB 12 4++d).drop 4=d from List.drop_left' (numB_len _ _)]at h6
 have H6:=zh h6
 simp only [hln,show 4+d.length - 4=d.length by omega]at h4
 clear h5 h6
 rw [hln]at HV⊢
 have hlt:¬((4:Int)+(d.length:Int) < 4):=by omega
 go_enter Tryz.func271,Tryz.ntmps271
 go_wp2_with (go_at_call 138;refine(rd32n 12 (by decide) _ _ _ d _ HV.out.1).mono ?_;rintro e w6 ⟨rfl,hx6⟩;have HX6:=zh hx6;have HB6:=zh ((hx6.block b HLT.out).trans HBK.out);have hz0:=zc HB6.out 0 (.slice none 0 0) rfl;have hy0:=free_slot HB6.out 0;clear hx6)
 go_ret
 exact⟨rfl,HX6.out.but.set _ _,_,_,slot_setCell HB6.out,(H6.out.at_ (HX6.out.but.set _ _)).1⟩
theorem dek3 (d:List Int)(w1:World)(b:Nat)(v:Value)(hb:w1.heap[b]?=some (.cells #[.slice none 0 0] 118 (0,0)))(hv:RdB w1 v (d))(hl:(d).length<=100000)(hof:v.ownBlock≠some b):
 Calls Tryz.prog 157 #[.pointer (some ⟨b,0,none⟩),v] w1 (Deced b (fun b w2=>∃A c,w2.heap[b]?=some (.cells #[.slice A d.length c] 118 (0,0))/\RdB w2 (.slice A d.length c) d) w1):=by
 obtain⟨A,c,hvs⟩:=hv.len
 subst hvs
 have HP:=zh hv.parts
 have HV:Hid (RdN b w1 (.slice A (d).length c) (d)):=zh ⟨hv,fun _=>hof⟩
 have HBK:=zh hb
 have HLT:=zh (zl hb)
 clear hv hof hb
 have hz0:=zc HBK.out 0 (.slice none 0 0) rfl
 have hy0:=free_slot HBK.out 0
 go_enter Tryz.func157,Tryz.ntmps157
 go_wp2
 go_ret
 exact⟨rfl,(Ext.refl w1).but.set _ _,_,_,slot_setCell HBK.out,(HV.out.at_ ((Ext.refl w1).but.set _ _)).1⟩
theorem dek11 (d:List Int)(w1:World)(b:Nat)(v:Value)(hb:w1.heap[b]?=some (.cells #[.slice none 0 0] 133 (0,0)))(hv:RdB w1 v (d))(hl:(d).length<=100000)(hof:v.ownBlock≠some b):
 Calls Tryz.prog 172 #[.pointer (some ⟨b,0,none⟩),v] w1 (Deced b (fun b w2=>∃A c,w2.heap[b]?=some (.cells #[.slice A d.length c] 133 (0,0))/\RdB w2 (.slice A d.length c) d) w1):=by
 obtain⟨A,c,hvs⟩:=hv.len
 subst hvs
 have HP:=zh hv.parts
 have HV:Hid (RdN b w1 (.slice A (d).length c) (d)):=zh ⟨hv,fun _=>hof⟩
 have HBK:=zh hb
 have HLT:=zh (zl hb)
 clear hv hof hb
 have hz0:=zc HBK.out 0 (.slice none 0 0) rfl
 have hy0:=free_slot HBK.out 0
 go_enter Tryz.func172,Tryz.ntmps172
 go_wp2
 go_ret
 exact⟨rfl,(Ext.refl w1).but.set _ _,_,_,slot_setCell HBK.out,(HV.out.at_ ((Ext.refl w1).but.set _ _)).1⟩
theorem dek16 (d:List Int)(w1:World)(b:Nat)(v:Value)(hb:w1.heap[b]?=some (.cells #[.slice none 0 0] 148 (0,0)))(hv:RdB w1 v (d))(hl:(d).length<=100000)(hof:v.ownBlock≠some b):
 Calls Tryz.prog 187 #[.pointer (some ⟨b,0,none⟩),v] w1 (Deced b (fun b w2=>∃A c,w2.heap[b]?=some (.cells #[.slice A d.length c] 148 (0,0))/\RdB w2 (.slice A d.length c) d) w1):=by
 obtain⟨A,c,hvs⟩:=hv.len
 subst hvs
 have HP:=zh hv.parts
 have HV:Hid (RdN b w1 (.slice A (d).length c) (d)):=zh ⟨hv,fun _=>hof⟩
 have HBK:=zh hb
 have HLT:=zh (zl hb)
 clear hv hof hb
 have hz0:=zc HBK.out 0 (.slice none 0 0) rfl
 have hy0:=free_slot HBK.out 0
 go_enter Tryz.func187,Tryz.ntmps187
 go_wp2
 go_ret
 exact⟨rfl,(Ext.refl w1).but.set _ _,_,_,slot_setCell HBK.out,(HV.out.at_ ((Ext.refl w1).but.set _ _)).1⟩
theorem dek56 (n:Int)(hn:0<=n/\n < 256)(w1:World)(b:Nat)(v:Value)(hb:w1.heap[b]?=some (.cells #[.int .u8 0] 232 (0,0)))(hv:RdB w1 v (numB n 1))(hl:(numB n 1).length<=100000)(hof:v.ownBlock≠some b):
 Calls Tryz.prog 329 #[.pointer (some ⟨b,0,none⟩),v] w1 (Deced b (fun b w2=>w2.heap[b]?=some (.cells #[.int .u8 n] 232 (0,0))) w1):=by
 obtain⟨A,c,hvs⟩:=hv.len
 subst hvs
 have HP:=zh hv.parts
 have HV:Hid (RdN b w1 (.slice A (numB n 1).length c) (numB n 1)):=zh ⟨hv,fun _=>hof⟩
 have HBK:=zh hb
 have HLT:=zh (zl hb)
 clear hv hof hb
 have hz0:=zc HBK.out 0 (.int .u8 0) rfl
 have hy0:=free_slot HBK.out 0
 have h9:=HV.out.1
 rw [show numB n 1=[n]from by have:=hn.1;have:=hn.2;simp [numB];omega]at h9
 obtain⟨b5,o5,hA5,hd5⟩:=h9.head
 subst hA5
 clear h9
 rw [numB_len]
 go_enter Tryz.func329,Tryz.ntmps329
 go_wp2
 go_ret
 exact⟨rfl,(Ext.refl w1).but.set _ _,slot_setCell HBK.out⟩
theorem dek5 (a:ByteArray)(ha:plainP a)(w1:World)(b:Nat)(v:Value)(hb:w1.heap[b]?=some (.cells #[.string ⟨#[]⟩] 121 (0,0)))(hv:RdB w1 v (sby a++0 :: []))(hl:(sby a++0 :: []).length<=100000)(hof:v.ownBlock≠some b):
 Calls Tryz.prog 159 #[.pointer (some ⟨b,0,none⟩),v] w1 (Deced b (fun b w2=>w2.heap[b]?=some (.cells #[.string a] 121 (0,0))) w1):=by
 obtain⟨A,c,hvs⟩:=hv.len
 subst hvs
 have HP:=zh hv.parts
 have HV:Hid (RdN b w1 (.slice A (sby a++0 :: []).length c) (sby a++0 :: [])):=zh ⟨hv,fun _=>hof⟩
 have HBK:=zh hb
 have HLT:=zh (zl hb)
 clear hv hof hb
 have hz0:=zc HBK.out 0 (.string ⟨#[]⟩) rfl
 have hy0:=free_slot HBK.out 0
 have hln:(sby a++0 :: []).length=(sby a).length+1:=by simp
 have HPOS:=zh (plain_pos ha)
 have hcv:=conv_rd (show RdB w1 (.slice A (sby a).length c) (sby a)from by
  have h9:=HV.out.1.take (sby a).length (by omega)
  rwa [List.take_left]at h9)
 rw [str_sby]at hcv
 have hc3:(sby a).length+1<=c:=by have:=HP.out.2.1;omega
 rw [hln]at HV⊢
 go_enter Tryz.func159,Tryz.ntmps159
 go_wp2_with (go_at_call 136;refine(idx_found _ _ _ (sby a) [] _ HV.out.1 HPOS.out).mono ?_;rintro e w3 ⟨rfl,hw3⟩;rw [hw3];clear hw3)
 go_ret
 exact⟨rfl,(Ext.refl w1).but.set _ _,slot_setCell HBK.out⟩
theorem dek14 (a:ByteArray)(ha:plainP a)(w1:World)(b:Nat)(v:Value)(hb:w1.heap[b]?=some (.cells #[.string ⟨#[]⟩] 143 (0,0)))(hv:RdB w1 v (sby a++0 :: []))(hl:(sby a++0 :: []).length<=100000)(hof:v.ownBlock≠some b):
 Calls Tryz.prog 181 #[.pointer (some ⟨b,0,none⟩),v] w1 (Deced b (fun b w2=>w2.heap[b]?=some (.cells #[.string a] 143 (0,0))) w1):=by
 obtain⟨A,c,hvs⟩:=hv.len
 subst hvs
 have HP:=zh hv.parts
 have HV:Hid (RdN b w1 (.slice A (sby a++0 :: []).length c) (sby a++0 :: [])):=zh ⟨hv,fun _=>hof⟩
 have HBK:=zh hb
 have HLT:=zh (zl hb)
 clear hv hof hb
 have hz0:=zc HBK.out 0 (.string ⟨#[]⟩) rfl
 have hy0:=free_slot HBK.out 0
 have hln:(sby a++0 :: []).length=(sby a).length+1:=by simp
 have HPOS:=zh (plain_pos ha)
 have hcv:=conv_rd (show RdB w1 (.slice A (sby a).length c) (sby a)from by
  have h9:=HV.out.1.take (sby a).length (by omega)
  rwa [List.take_left]at h9)
 rw [str_sby]at hcv
 have hc3:(sby a).length+1<=c:=by have:=HP.out.2.1;omega
 rw [hln]at HV⊢
 go_enter Tryz.func181,Tryz.ntmps181
 go_wp2_with (go_at_call 136;refine(idx_found _ _ _ (sby a) [] _ HV.out.1 HPOS.out).mono ?_;rintro e w3 ⟨rfl,hw3⟩;rw [hw3];clear hw3)
 go_ret
 exact⟨rfl,(Ext.refl w1).but.set _ _,slot_setCell HBK.out⟩
theorem dek41 (a:ByteArray)(ha:plainP a)(w1:World)(b:Nat)(v:Value)(hb:w1.heap[b]?=some (.cells #[.slice none 0 0] 202 (0,0)))(hv:RdB w1 v (sby a++0 :: []))(hl:(sby a++0 :: []).length<=100000)(hof:v.ownBlock≠some b):
 Calls Tryz.prog 277 #[.pointer (some ⟨b,0,none⟩),v] w1 (Deced b (fun b w2=>∃A c,w2.heap[b]?=some (.cells #[.slice A (sby a).length c] 202 (0,0))/\RdB w2 (.slice A (sby a).length c) (sby a)) w1):=by
 obtain⟨A,c,hvs⟩:=hv.len
 subst hvs
 have HP:=zh hv.parts
 have HV:Hid (RdN b w1 (.slice A (sby a++0 :: []).length c) (sby a++0 :: [])):=zh ⟨hv,fun _=>hof⟩
 have HBK:=zh hb
 have HLT:=zh (zl hb)
 clear hv hof hb
 have hz0:=zc HBK.out 0 (.slice none 0 0) rfl
 have hy0:=free_slot HBK.out 0
 have hln:(sby a++0 :: []).length=(sby a).length+1:=by simp
 have HPOS:=zh (plain_pos ha)
 have H9:Hid (RdN b w1 (.slice A (sby a).length c) (sby a)):=zh (by
  have h9:=HV.out.take (sby a).length (by omega)
  rwa [List.take_left]at h9)
 have hc3:(sby a).length+1<=c:=by have:=HP.out.2.1;omega
 rw [hln]at HV⊢
 go_enter Tryz.func277,Tryz.ntmps277
 go_wp2_with (go_at_call 136;refine(idx_found _ _ _ (sby a) [] _ HV.out.1 HPOS.out).mono ?_;rintro e w3 ⟨rfl,hw3⟩;rw [hw3];clear hw3)
 go_ret
 exact⟨rfl,(Ext.refl w1).but.set _ _,_,_,slot_setCell HBK.out,(H9.out.at_ ((Ext.refl w1).but.set _ _)).1⟩
theorem dek2 (n:Int)(a:ByteArray)(hn:0<=n/\n < 256)(ha:plainP a)(w1:World)(b:Nat)(v:Value)(hb:w1.heap[b]?=some (.cells #[.int .u8 0,.string ⟨#[]⟩] 113 (0,0)))(hv:RdB w1 v (numB n 1++(sby a++0 :: [])))(hl:(numB n 1++(sby a++0 :: [])).length<=100000)(hof:v.ownBlock≠some b):
 Calls Tryz.prog 150 #[.pointer (some ⟨b,0,none⟩),v] w1 (Deced b (fun b w2=>w2.heap[b]?=some (.cells #[.int .u8 n,.string a] 113 (0,0))) w1):=by
 obtain⟨A,c,hvs⟩:=hv.len
 subst hvs
 have HP:=zh hv.parts
 have HV:Hid (RdN b w1 (.slice A (numB n 1++(sby a++0 :: [])).length c) (numB n 1++(sby a++0 :: []))):=zh ⟨hv,fun _=>hof⟩
 have HBK:=zh hb
 have HLT:=zh (zl hb)
 clear hv hof hb
 have hz0:=zc HBK.out 0 (.int .u8 0) rfl
 have hy0:=free_slot HBK.out 0
 have hz1:=zc HBK.out 1 (.string ⟨#[]⟩) rfl
 have hy1:=free_slot HBK.out 1
 have hn1:numB n 1=[n]:=by have:=hn.1;have:=hn.2;simp [numB];omega
 have hln:(numB n 1++(sby a++0 :: [])).length=(sby a).length+2:=by simp [numB_len];omega
 have HPOS:=zh (plain_pos ha)
 have h9:=HV.out.1
 rw [hn1]at h9
 obtain⟨b5,o5,hA5,hd5⟩:=h9.head
 clear h9
 obtain⟨A4,c4,h4,h5⟩:=sl_at A (numB n 1++(sby a++0 :: [])).length c 1 (by omega) HP.out.2.1 HP.out.2.2
 have h6:=h5 b w1 _ HV.out
 rw [drop_numB]at h6
 have H6:=zh h6
 obtain⟨A7,c7,h7,h8⟩:=sl_midr A (numB n 1++(sby a++0 :: [])).length c 1 (sby a).length (by omega) HP.out.2.1 HP.out.2.2
 have h10:=h8 b w1 _ HV.out
 rw [drop_numB,List.take_left]at h10
 have hcv:∀u,(convert 26 9 (.slice A7 (sby a).length c7)).run Tryz.prog (w1.setCell ⟨b,0,none⟩ u)=.ok (.string a) (w1.setCell ⟨b,0,none⟩ u):=fun u=>by
  have h11:=conv_rd (h10.at_ ((Ext.refl w1).but.set 0 u)).1
  rwa [str_sby]at h11
 subst hA5
 clear h5 h6 h8 h10
 simp only [hln,show(sby a).length+2 - 1=(sby a).length+1 by omega]at h4 h7 H6
 have h77:=fun w=>h7 1 (((sby a).length:Int)+2 - 1) w rfl (by push_cast;omega)
 clear h7
 rw [hln]at HV⊢
 go_enter Tryz.func150,Tryz.ntmps150
 go_wp2_with (go_at_call 136;refine(idx_found _ _ _ (sby a) [] _ (H6.out.at_ ((Ext.refl w1).but.set _ _)).1 HPOS.out).mono ?_;rintro e w3 ⟨rfl,hw3⟩;rw [hw3];clear hw3)
 go_ret
 exact⟨rfl,((Ext.refl w1).but.set _ _).set _ _,slot_setCell (slot_setCell HBK.out)⟩
theorem dek6 (n:Int)(a:ByteArray)(hn:0<=n/\n < 256)(ha:plainP a)(w1:World)(b:Nat)(v:Value)(hb:w1.heap[b]?=some (.cells #[.int .u8 0,.string ⟨#[]⟩] 115 (0,0)))(hv:RdB w1 v (numB n 1++(sby a++0 :: [])))(hl:(numB n 1++(sby a++0 :: [])).length<=100000)(hof:v.ownBlock≠some b):
 Calls Tryz.prog 153 #[.pointer (some ⟨b,0,none⟩),v] w1 (Deced b (fun b w2=>w2.heap[b]?=some (.cells #[.int .u8 n,.string a] 115 (0,0))) w1):=by
 obtain⟨A,c,hvs⟩:=hv.len
 subst hvs
 have HP:=zh hv.parts
 have HV:Hid (RdN b w1 (.slice A (numB n 1++(sby a++0 :: [])).length c) (numB n 1++(sby a++0 :: []))):=zh ⟨hv,fun _=>hof⟩
 have HBK:=zh hb
 have HLT:=zh (zl hb)
 clear hv hof hb
 have hz0:=zc HBK.out 0 (.int .u8 0) rfl
 have hy0:=free_slot HBK.out 0
 have hz1:=zc HBK.out 1 (.string ⟨#[]⟩) rfl
 have hy1:=free_slot HBK.out 1
 have hn1:numB n 1=[n]:=by have:=hn.1;have:=hn.2;simp [numB];omega
 have hln:(numB n 1++(sby a++0 :: [])).length=(sby a).length+2:=by simp [numB_len];omega
 have HPOS:=zh (plain_pos ha)
 have h9:=HV.out.1
 rw [hn1]at h9
 obtain⟨b5,o5,hA5,hd5⟩:=h9.head
 clear h9
 obtain⟨A4,c4,h4,h5⟩:=sl_at A (numB n 1++(sby a++0 :: [])).length c 1 (by omega) HP.out.2.1 HP.out.2.2
 have h6:=h5 b w1 _ HV.out
 rw [drop_numB]at h6
 have H6:=zh h6
 obtain⟨A7,c7,h7,h8⟩:=sl_midr A (numB n 1++(sby a++0 :: [])).length c 1 (sby a).length (by omega) HP.out.2.1 HP.out.2.2
 have h10:=h8 b w1 _ HV.out
 rw [drop_numB,List.take_left]at h10
 have hcv:∀u,(convert 26 9 (.slice A7 (sby a).length c7)).run Tryz.prog (w1.setCell ⟨b,0,none⟩ u)=.ok (.string a) (w1.setCell ⟨b,0,none⟩ u):=fun u=>by
  have h11:=conv_rd (h10.at_ ((Ext.refl w1).but.set 0 u)).1
  rwa [str_sby]at h11
 subst hA5
 clear h5 h6 h8 h10
 simp only [hln,show(sby a).length+2 - 1=(sby a).length+1 by omega]at h4 h7 H6
 have h77:=fun w=>h7 1 (((sby a).length:Int)+2 - 1) w rfl (by push_cast;omega)
 clear h7
 rw [hln]at HV⊢
 go_enter Tryz.func153,Tryz.ntmps153
 go_wp2_with (go_at_call 136;refine(idx_found _ _ _ (sby a) [] _ (H6.out.at_ ((Ext.refl w1).but.set _ _)).1 HPOS.out).mono ?_;rintro e w3 ⟨rfl,hw3⟩;rw [hw3];clear hw3)
 go_ret
 exact⟨rfl,((Ext.refl w1).but.set _ _).set _ _,slot_setCell (slot_setCell HBK.out)⟩
theorem dek53 (a g:ByteArray)(ha:plainP a)(hg:plainP g)(w1:World)(b:Nat)(v:Value)(hb:w1.heap[b]?=some (.cells #[.string ⟨#[]⟩,.string ⟨#[]⟩] 229 (0,0)))(hv:RdB w1 v (sby a++0 :: (sby g++0 :: [])))(hl:(sby a++0 :: (sby g++0 :: [])).length<=100000)(hof:v.ownBlock≠some b):
 Calls Tryz.prog 326 #[.pointer (some ⟨b,0,none⟩),v] w1 (Deced b (fun b w2=>w2.heap[b]?=some (.cells #[.string a,.string g] 229 (0,0))) w1):=by
 have HV:Hid (RdN b w1 v (sby a++0 :: (sby g++0 :: []))):=zh ⟨hv,fun _=>hof⟩
 have HBK:=zh hb
 have HLT:=zh (zl hb)
 clear hv hof hb
 have HSa:=zh (plain_ne ha)
 have hla:(sby a).length<=200:=by rw [sby_length];exact ha.1
 have HSg:=zh (plain_ne hg)
 have hlg:(sby g).length<=200:=by rw [sby_length];exact hg.1
 have HF1:Hid True:=zh trivial
 have HLa:Hid ((sby a++0 :: (sby g++0 :: [])).length<=1000000):=zh (by omega)
 have HLg:Hid ((sby g++0 :: []).length<=1000000):=zh (by simp;omega)
 go_enter Tryz.func326,Tryz.ntmps326
 go_wp2_with (first|(go_at_call 165;refine(cur_new (bk:=b) (w1:=w1) HV.out HLT.out (Ext.refl w1).but).mono ?_;rintro e w2 ⟨rfl,hcu,hx⟩;have HC:=zh hcu;(first|have hbk:=upbe3 hx HLT.out HBK.out|have hbk:=upbe1 hx HLT.out HBK.out|have hbk:=upbe hx HLT.out HBK.out);(try simp only [List.setIfInBounds_toArray,List.set_cons_zero,List.set_cons_succ]at hbk);clear HBK;have HBK:=zh hbk;(try clear hz0);(try clear hy0);have hz0:=zc hbk 0 _ rfl;have hy0:=free_slot hbk 0;(try clear hz1);(try clear hy1);have hz1:=zc hbk 1 _ rfl;have hy1:=free_slot hbk 1;clear hbk;clear hcu hx)|(first|(have hflag:=HF1.out;clear HF1 hflag;go_at_call 166;refine(cur_text (s:=sby a) (by first|exact HC.out|exact HC.out.but (zr.but.set _ _)) HSa.out HLa.out).mono ?_;rintro e w3 ⟨A3,c3,rfl,hrd,hcu,hx3⟩;clear HC;have HC:=zh hcu;(try clear hcv);(try clear hc3);have hcv:=conv_rd (show RdB w3 (.slice A3 (sby a).length c3) (sby a)from by(have h9:=hrd.take (sby a).length (by omega);rwa [List.take_left]at h9));rw [str_sby]at hcv;have hc3:(sby a).length+1<=c3:=(by have h9:=hrd.parts.2.1;simpa using h9);(first|have hbk:=upb3 hx3 HLT.out HBK.out|have hbk:=upb1 hx3 HLT.out HBK.out|have hbk:=upb hx3 HLT.out HBK.out);(try simp only [List.setIfInBounds_toArray,List.set_cons_zero,List.set_cons_succ]at hbk);clear HBK;have HBK:=zh hbk;(try clear hz0);(try clear hy0);have hz0:=zc hbk 0 _ rfl;have hy0:=free_slot hbk 0;(try clear hz1);(try clear hy1);have hz1:=zc hbk 1 _ rfl;have hy1:=free_slot hbk 1;clear hbk;clear hcu hx3 hrd)|(go_at_call 166;refine(cur_text (s:=sby g) (by first|exact HC.out|exact HC.out.but (zr.but.set _ _)) HSg.out HLg.out).mono ?_;rintro e w3 ⟨A3,c3,rfl,hrd,hcu,hx3⟩;clear HC;have HC:=zh hcu;(try clear hcv);(try clear hc3);have hcv:=conv_rd (show RdB w3 (.slice A3 (sby g).length c3) (sby g)from by(have h9:=hrd.take (sby g).length (by omega);rwa [List.take_left]at h9));rw [str_sby]at hcv;have hc3:(sby g).length+1<=c3:=(by have h9:=hrd.parts.2.1;simpa using h9);(first|have hbk:=upb3 hx3 HLT.out HBK.out|have hbk:=upb1 hx3 HLT.out HBK.out|have hbk:=upb hx3 HLT.out HBK.out);(try simp only [List.setIfInBounds_toArray,List.set_cons_zero,List.set_cons_succ]at hbk);clear HBK;have HBK:=zh hbk;(try clear hz0);(try clear hy0);have hz0:=zc hbk 0 _ rfl;have hy0:=free_slot hbk 0;(try clear hz1);(try clear hy1);have hz1:=zc hbk 1 _ rfl;have hy1:=free_slot hbk 1;clear hbk;clear hcu hx3 hrd)))
 go_ret
 exact⟨rfl,(HC.out.bel.set _ _).set _ _,slot_setCell (slot_setCell HBK.out)⟩
theorem dek13 (a:ByteArray)(ha:plainP a)(w1:World)(b:Nat)(v:Value)(hb:w1.heap[b]?=some (.cells #[.string ⟨#[]⟩] 140 (0,0)))(hv:RdB w1 v (sby a++0 :: []))(hl:(sby a++0 :: []).length<=100000)(hof:v.ownBlock≠some b):
 Calls Tryz.prog 178 #[.pointer (some ⟨b,0,none⟩),v] w1 (Deced b (fun b w2=>w2.heap[b]?=some (.cells #[.string a] 140 (0,0))) w1):=by
 have HV:Hid (RdN b w1 v (sby a++0 :: [])):=zh ⟨hv,fun _=>hof⟩
 have HBK:=zh hb
 have HLT:=zh (zl hb)
 clear hv hof hb
 have HSa:=zh (plain_ne ha)
 have hla:(sby a).length<=200:=by rw [sby_length];exact ha.1
 have HLa:Hid ((sby a++0 :: []).length<=1000000):=zh (by omega)
 go_enter Tryz.func178,Tryz.ntmps178
 go_wp2_with (first|(go_at_call 165;refine(cur_new (bk:=b) (w1:=w1) HV.out HLT.out (Ext.refl w1).but).mono ?_;rintro e w2 ⟨rfl,hcu,hx⟩;have HC:=zh hcu;(first|have hbk:=upbe3 hx HLT.out HBK.out|have hbk:=upbe1 hx HLT.out HBK.out|have hbk:=upbe hx HLT.out HBK.out);(try simp only [List.setIfInBounds_toArray,List.set_cons_zero,List.set_cons_succ]at hbk);clear HBK;have HBK:=zh hbk;(try clear hz0);(try clear hy0);have hz0:=zc hbk 0 _ rfl;have hy0:=free_slot hbk 0;clear hbk;clear hcu hx)|(go_at_call 166;refine(cur_text (s:=sby a) (by first|exact HC.out|exact HC.out.but (zr.but.set _ _)) HSa.out HLa.out).mono ?_;rintro e w3 ⟨A3,c3,rfl,hrd,hcu,hx3⟩;clear HC;have HC:=zh hcu;(try clear hcv);(try clear hc3);have hcv:=conv_rd (show RdB w3 (.slice A3 (sby a).length c3) (sby a)from by(have h9:=hrd.take (sby a).length (by omega);rwa [List.take_left]at h9));rw [str_sby]at hcv;have hc3:(sby a).length+1<=c3:=(by have h9:=hrd.parts.2.1;simpa using h9);(first|have hbk:=upb3 hx3 HLT.out HBK.out|have hbk:=upb1 hx3 HLT.out HBK.out|have hbk:=upb hx3 HLT.out HBK.out);(try simp only [List.setIfInBounds_toArray,List.set_cons_zero,List.set_cons_succ]at hbk);clear HBK;have HBK:=zh hbk;(try clear hz0);(try clear hy0);have hz0:=zc hbk 0 _ rfl;have hy0:=free_slot hbk 0;clear hbk;clear hcu hx3 hrd))
 go_ret
 exact⟨rfl,HC.out.bel.set _ _,slot_setCell HBK.out⟩
theorem dek51 (n:Int)(a g:ByteArray)(hn:0<=n/\n < 4294967296)(ha:plainP a)(hg:plainP g)(w1:World)(b:Nat)(v:Value)(hb:w1.heap[b]?=some (.cells #[.int .u32 0,.string ⟨#[]⟩,.string ⟨#[]⟩] 224 (0,0)))(hv:RdB w1 v (numB n 4++(sby a++0 :: (sby g++0 :: []))))(hl:(numB n 4++(sby a++0 :: (sby g++0 :: []))).length<=100000)(hof:v.ownBlock≠some b):
 Calls Tryz.prog 320 #[.pointer (some ⟨b,0,none⟩),v] w1 (Deced b (fun b w2=>w2.heap[b]?=some (.cells #[.int .u32 n,.string a,.string g] 224 (0,0))) w1):=by
 have HV:Hid (RdN b w1 v (numB n 4++(sby a++0 :: (sby g++0 :: [])))):=zh ⟨hv,fun _=>hof⟩
 have HBK:=zh hb
 have HLT:=zh (zl hb)
 clear hv hof hb
 have HSa:=zh (plain_ne ha)
 have hla:(sby a).length<=200:=by rw [sby_length];exact ha.1
 have HSg:=zh (plain_ne hg)
 have hlg:(sby g).length<=200:=by rw [sby_length];exact hg.1
 have HF1:Hid True:=zh trivial
 have HN4:=zh hn
 have hnl:(numB n 4).length=4:=numB_len _ _
 have HLa:Hid ((sby a++0 :: (sby g++0 :: [])).length<=1000000):=zh (by simp only [List.length_append,numB_len]at hl;simp only [List.length_append];omega)
 have HLg:Hid ((sby g++0 :: []).length<=1000000):=zh (by simp;omega)
 go_enter Tryz.func320,Tryz.ntmps320
 go_wp2_with (first|(go_at_call 165;refine(cur_new (bk:=b) (w1:=w1) HV.out HLT.out (Ext.refl w1).but).mono ?_;rintro e w2 ⟨rfl,hcu,hx⟩;have HC:=zh hcu;(first|have hbk:=upbe3 hx HLT.out HBK.out|have hbk:=upbe1 hx HLT.out HBK.out|have hbk:=upbe hx HLT.out HBK.out);(try simp only [List.setIfInBounds_toArray,List.set_cons_zero,List.set_cons_succ]at hbk);clear HBK;have HBK:=zh hbk;(try clear hz0);(try clear hy0);have hz0:=zc hbk 0 _ rfl;have hy0:=free_slot hbk 0;(try clear hz1);(try clear hy1);have hz1:=zc hbk 1 _ rfl;have hy1:=free_slot hbk 1;(try clear hz2);(try clear hy2);have hz2:=zc hbk 2 _ rfl;have hy2:=free_slot hbk 2;clear hbk;clear hcu hx)|(go_at_call 167;refine(cur_len (by first|exact HC.out|exact HC.out.but (zr.but.set _ _))).mono ?_;rintro e w4 ⟨rfl,hw4⟩;rw [hw4];clear hw4)|(go_at_call 168;refine(cur_piece (by first|exact HC.out|exact HC.out.but (zr.but.set _ _)) _ (by first|(rw [numB_len];rfl)|rfl)).mono ?_;rintro e w5 ⟨A5,c5,rfl,hrn,hcu,hx5⟩;(try clear HN);clear HC;have HC:=zh hcu;have HN:=zh hrn;simp only [Int.reduceToNat];(first|have hbk:=upb3 hx5 HLT.out HBK.out|have hbk:=upb1 hx5 HLT.out HBK.out|have hbk:=upb hx5 HLT.out HBK.out);(try simp only [List.setIfInBounds_toArray,List.set_cons_zero,List.set_cons_succ]at hbk);clear HBK;have HBK:=zh hbk;(try clear hz0);(try clear hy0);have hz0:=zc hbk 0 _ rfl;have hy0:=free_slot hbk 0;(try clear hz1);(try clear hy1);have hz1:=zc hbk 1 _ rfl;have hy1:=free_slot hbk 1;(try clear hz2);(try clear hy2);have hz2:=zc hbk 2 _ rfl;have hy2:=free_slot hbk 2;clear hbk;clear hcu hrn hx5)|(go_at_call 138;refine(rd32n n HN4.out _ _ _ [] _ (by rw [List.append_nil];exact(HN.out.at_ HC.out.bel).1)).mono ?_;rintro e w6 ⟨rfl,hx6⟩;have HC6:=zh (HC.out.ext hx6);clear HC;have HC:=HC6;clear HC6;(first|have hbk:=upbe3 hx6 HLT.out HBK.out|have hbk:=upbe1 hx6 HLT.out HBK.out|have hbk:=upbe hx6 HLT.out HBK.out);(try simp only [List.setIfInBounds_toArray,List.set_cons_zero,List.set_cons_succ]at hbk);clear HBK;have HBK:=zh hbk;(try clear hz0);(try clear hy0);have hz0:=zc hbk 0 _ rfl;have hy0:=free_slot hbk 0;(try clear hz1);(try clear hy1);have hz1:=zc hbk 1 _ rfl;have hy1:=free_slot hbk 1;(try clear hz2);(try clear hy2);have hz2:=zc hbk 2 _ rfl;have hy2:=free_slot hbk 2;clear hbk;clear hx6)|(first|(have hflag:=HF1.out;clear HF1 hflag;go_at_call 166;refine(cur_text (s:=sby a) (by first|exact HC.out|exact HC.out.but (zr.but.set _ _)) HSa.out HLa.out).mono ?_;rintro e w3 ⟨A3,c3,rfl,hrd,hcu,hx3⟩;clear HC;have HC:=zh hcu;(try clear hcv);(try clear hc3);have hcv:=conv_rd (show RdB w3 (.slice A3 (sby a).length c3) (sby a)from by(have h9:=hrd.take (sby a).length (by omega);rwa [List.take_left]at h9));rw [str_sby]at hcv;have hc3:(sby a).length+1<=c3:=(by have h9:=hrd.parts.2.1;simpa using h9);(first|have hbk:=upb3 hx3 HLT.out HBK.out|have hbk:=upb1 hx3 HLT.out HBK.out|have hbk:=upb hx3 HLT.out HBK.out);(try simp only [List.setIfInBounds_toArray,List.set_cons_zero,List.set_cons_succ]at hbk);clear HBK;have HBK:=zh hbk;(try clear hz0);(try clear hy0);have hz0:=zc hbk 0 _ rfl;have hy0:=free_slot hbk 0;(try clear hz1);(try clear hy1);have hz1:=zc hbk 1 _ rfl;have hy1:=free_slot hbk 1;(try clear hz2);(try clear hy2);have hz2:=zc hbk 2 _ rfl;have hy2:=free_slot hbk 2;clear hbk;clear hcu hx3 hrd)|(go_at_call 166;refine(cur_text (s:=sby g) (by first|exact HC.out|exact HC.out.but (zr.but.set _ _)) HSg.out HLg.out).mono ?_;rintro e w3 ⟨A3,c3,rfl,hrd,hcu,hx3⟩;clear HC;have HC:=zh hcu;(try clear hcv);(try clear hc3);have hcv:=conv_rd (show RdB w3 (.slice A3 (sby g).length c3) (sby g)from by(have h9:=hrd.take (sby g).length (by omega);rwa [List.take_left]at h9));rw [str_sby]at hcv;have hc3:(sby g).length+1<=c3:=(by have h9:=hrd.parts.2.1;simpa using h9);(first|have hbk:=upb3 hx3 HLT.out HBK.out|have hbk:=upb1 hx3 HLT.out HBK.out|have hbk:=upb hx3 HLT.out HBK.out);(try simp only [List.setIfInBounds_toArray,List.set_cons_zero,List.set_cons_succ]at hbk);clear HBK;have HBK:=zh hbk;(try clear hz0);(try clear hy0);have hz0:=zc hbk 0 _ rfl;have hy0:=free_slot hbk 0;(try clear hz1);(try clear hy1);have hz1:=zc hbk 1 _ rfl;have hy1:=free_slot hbk 1;(try clear hz2);(try clear hy2);have hz2:=zc hbk 2 _ rfl;have hy2:=free_slot hbk 2;clear hbk;clear hcu hx3 hrd)))
 go_ret
 exact⟨rfl,((HC.out.bel.set _ _).set _ _).set _ _,slot_setCell (slot_setCell (slot_setCell HBK.out))⟩
theorem dek7 (a:ByteArray)(n:Int)(ha:plainP a)(hn:0<=n/\n < 4294967296)(w1:World)(b:Nat)(v:Value)(hb:w1.heap[b]?=some (.cells #[.string ⟨#[]⟩,.int .u32 0] 124 (0,0)))(hv:RdB w1 v (sby a++0 :: (numB n 4++ [])))(hl:(sby a++0 :: (numB n 4++ [])).length<=100000)(hof:v.ownBlock≠some b):
 Calls Tryz.prog 162 #[.pointer (some ⟨b,0,none⟩),v] w1 (Deced b (fun b w2=>w2.heap[b]?=some (.cells #[.string a,.int .u32 n] 124 (0,0))) w1):=by
 have HV:Hid (RdN b w1 v (sby a++0 :: (numB n 4++ []))):=zh ⟨hv,fun _=>hof⟩
 have HBK:=zh hb
 have HLT:=zh (zl hb)
 clear hv hof hb
 have HSa:=zh (plain_ne ha)
 have hla:(sby a).length<=200:=by rw [sby_length];exact ha.1
 have HN4:=zh hn
 have hl4:(numB n 4++ []).length=4:=by rw [List.append_nil,numB_len]
 have HLa:Hid ((sby a++0 :: (numB n 4++ [])).length<=1000000):=zh (by omega)
 go_enter Tryz.func162,Tryz.ntmps162
 go_wp2_with (first|(go_at_call 165;refine(cur_new (bk:=b) (w1:=w1) HV.out HLT.out (Ext.refl w1).but).mono ?_;rintro e w2 ⟨rfl,hcu,hx⟩;have HC:=zh hcu;(first|have hbk:=upbe3 hx HLT.out HBK.out|have hbk:=upbe1 hx HLT.out HBK.out|have hbk:=upbe hx HLT.out HBK.out);(try simp only [List.setIfInBounds_toArray,List.set_cons_zero,List.set_cons_succ]at hbk);clear HBK;have HBK:=zh hbk;(try clear hz0);(try clear hy0);have hz0:=zc hbk 0 _ rfl;have hy0:=free_slot hbk 0;(try clear hz1);(try clear hy1);have hz1:=zc hbk 1 _ rfl;have hy1:=free_slot hbk 1;clear hbk;clear hcu hx)|(go_at_call 167;refine(cur_len (by first|exact HC.out|exact HC.out.but (zr.but.set _ _))).mono ?_;rintro e w4 ⟨rfl,hw4⟩;rw [hw4];clear hw4)|(go_at_call 168;refine(cur_piece (by first|exact HC.out|exact HC.out.but (zr.but.set _ _)) _ (by first|(rw [numB_len];rfl)|rfl)).mono ?_;rintro e w5 ⟨A5,c5,rfl,hrn,hcu,hx5⟩;(try clear HN);clear HC;have HC:=zh hcu;have HN:=zh hrn;simp only [Int.reduceToNat];(first|have hbk:=upb3 hx5 HLT.out HBK.out|have hbk:=upb1 hx5 HLT.out HBK.out|have hbk:=upb hx5 HLT.out HBK.out);(try simp only [List.setIfInBounds_toArray,List.set_cons_zero,List.set_cons_succ]at hbk);clear HBK;have HBK:=zh hbk;(try clear hz0);(try clear hy0);have hz0:=zc hbk 0 _ rfl;have hy0:=free_slot hbk 0;(try clear hz1);(try clear hy1);have hz1:=zc hbk 1 _ rfl;have hy1:=free_slot hbk 1;clear hbk;clear hcu hrn hx5)|(go_at_call 138;refine(rd32n n HN4.out _ _ _ [] _ (by rw [List.append_nil];exact(HN.out.at_ HC.out.bel).1)).mono ?_;rintro e w6 ⟨rfl,hx6⟩;have HC6:=zh (HC.out.ext hx6);clear HC;have HC:=HC6;clear HC6;(first|have hbk:=upbe3 hx6 HLT.out HBK.out|have hbk:=upbe1 hx6 HLT.out HBK.out|have hbk:=upbe hx6 HLT.out HBK.out);(try simp only [List.setIfInBounds_toArray,List.set_cons_zero,List.set_cons_succ]at hbk);clear HBK;have HBK:=zh hbk;(try clear hz0);(try clear hy0);have hz0:=zc hbk 0 _ rfl;have hy0:=free_slot hbk 0;(try clear hz1);(try clear hy1);have hz1:=zc hbk 1 _ rfl;have hy1:=free_slot hbk 1;clear hbk;clear hx6)|(go_at_call 166;refine(cur_text (s:=sby a) (by first|exact HC.out|exact HC.out.but (zr.but.set _ _)) HSa.out HLa.out).mono ?_;rintro e w3 ⟨A3,c3,rfl,hrd,hcu,hx3⟩;clear HC;have HC:=zh hcu;(try clear hcv);(try clear hc3);have hcv:=conv_rd (show RdB w3 (.slice A3 (sby a).length c3) (sby a)from by(have h9:=hrd.take (sby a).length (by omega);rwa [List.take_left]at h9));rw [str_sby]at hcv;have hc3:(sby a).length+1<=c3:=(by have h9:=hrd.parts.2.1;simpa using h9);(first|have hbk:=upb3 hx3 HLT.out HBK.out|have hbk:=upb1 hx3 HLT.out HBK.out|have hbk:=upb hx3 HLT.out HBK.out);(try simp only [List.setIfInBounds_toArray,List.set_cons_zero,List.set_cons_succ]at hbk);clear HBK;have HBK:=zh hbk;(try clear hz0);(try clear hy0);have hz0:=zc hbk 0 _ rfl;have hy0:=free_slot hbk 0;(try clear hz1);(try clear hy1);have hz1:=zc hbk 1 _ rfl;have hy1:=free_slot hbk 1;clear hbk;clear hcu hx3 hrd))
 go_ret
 exact⟨rfl,HC.out.bel.set _ _,slot_setCell HBK.out⟩
end Go.Proofs.YtdenjanihikolaaGreatDoor
