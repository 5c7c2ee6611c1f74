/- Kinds whose decoding fails on every strict prefix of a body. -/
import Derived.Test.YtdenjanihikolaaGreatDoorUDck
import Derived.Test.YtdenjanihikolaaGreatDoorUOpn
import Derived.Test.YtdenjanihikolaaGreatDoorUBdb
import Derived.Test.YtdenjanihikolaaGreatDoorUBdd
import Derived.Test.YtdenjanihikolaaGreatDoorUBdf
import Derived.Test.YtdenjanihikolaaGreatDoorUBdk
import Derived.Test.YtdenjanihikolaaGreatDoorUMth
import Derived.Test.YtdenjanihikolaaGreatDoorUMda
namespace Go.Proofs.YtdenjanihikolaaGreatDoor
open Go.RowKit
set_option linter.unusedVariables false
set_option linter.unusedSimpArgs false
set_option maxRecDepth 100000

theorem smallB {l : List Int} (h : ∀ y ∈ l, y = 0 ∨ y = 1) : ∀ y ∈ l, 0 ≤ y ∧ y < 32768 := fun y hy => by
  rcases h y hy with rfl | rfl <;> omega
theorem optLen {vls : List (Bool × List Int)} (h : ∀ y ∈ vls, y.2.length ≤ 200) : (vls.flatMap fun x => valB x.1 x.2).length ≤ vls.length * 204 := by
  refine flat_len (fun x : Bool × List Int => valB x.1 x.2) 204 vls fun x hx => ?_
  have := h x hx
  unfold valB
  split
  · rw [numB_len]; omega
  · rw [List.length_append, numB_len]; omega
theorem n2Len (l : List Int) : (l.flatMap fun n => numB n 2).length ≤ l.length * 2 := flat_len _ 2 l fun x _ => by simp [numB_len]
def closedQ (kd : Int) : Bool := kd == 0 || kd == 12 || kd == 57 || kd == 45 || kd == 7 || kd == 43 || kd == 44 || kd == 42 || kd == 51 || kd == 53
theorem closed18 (kd : Int) (w : World) : Calls Tryz.prog 18 #[.int .i64 kd] w (fun e w' => e = .returned (.bool (closedQ kd)) ∧ w' = w) := by
  by_cases h0 : kd = 0
  · subst h0
    go_enter Tryz.func18, Tryz.ntmps18
    go_wp2
    go_ret
    exact ⟨rfl, rfl⟩
  by_cases h12 : kd = 12
  · subst h12
    go_enter Tryz.func18, Tryz.ntmps18
    go_wp2
    go_ret
    exact ⟨rfl, rfl⟩
  by_cases h57 : kd = 57
  · subst h57
    go_enter Tryz.func18, Tryz.ntmps18
    go_wp2
    go_ret
    exact ⟨rfl, rfl⟩
  by_cases h45 : kd = 45
  · subst h45
    go_enter Tryz.func18, Tryz.ntmps18
    go_wp2
    go_ret
    exact ⟨rfl, rfl⟩
  by_cases h7 : kd = 7
  · subst h7
    go_enter Tryz.func18, Tryz.ntmps18
    go_wp2
    go_ret
    exact ⟨rfl, rfl⟩
  by_cases h43 : kd = 43
  · subst h43
    go_enter Tryz.func18, Tryz.ntmps18
    go_wp2
    go_ret
    exact ⟨rfl, rfl⟩
  by_cases h44 : kd = 44
  · subst h44
    go_enter Tryz.func18, Tryz.ntmps18
    go_wp2
    go_ret
    exact ⟨rfl, rfl⟩
  by_cases h42 : kd = 42
  · subst h42
    go_enter Tryz.func18, Tryz.ntmps18
    go_wp2
    go_ret
    exact ⟨rfl, rfl⟩
  by_cases h51 : kd = 51
  · subst h51
    go_enter Tryz.func18, Tryz.ntmps18
    go_wp2
    go_ret
    exact ⟨rfl, rfl⟩
  by_cases h53 : kd = 53
  · subst h53
    go_enter Tryz.func18, Tryz.ntmps18
    go_wp2
    go_ret
    exact ⟨rfl, rfl⟩
  have e0 : (kd == 0) = false := beq_eq_false_iff_ne.2 h0
  have e12 : (kd == 12) = false := beq_eq_false_iff_ne.2 h12
  have e57 : (kd == 57) = false := beq_eq_false_iff_ne.2 h57
  have e45 : (kd == 45) = false := beq_eq_false_iff_ne.2 h45
  have e7 : (kd == 7) = false := beq_eq_false_iff_ne.2 h7
  have e43 : (kd == 43) = false := beq_eq_false_iff_ne.2 h43
  have e44 : (kd == 44) = false := beq_eq_false_iff_ne.2 h44
  have e42 : (kd == 42) = false := beq_eq_false_iff_ne.2 h42
  have e51 : (kd == 51) = false := beq_eq_false_iff_ne.2 h51
  have e53 : (kd == 53) = false := beq_eq_false_iff_ne.2 h53
  have hs : closedQ kd = false := by unfold closedQ; simp only [e0, e12, e57, e45, e7, e43, e44, e42, e51, e53]; rfl
  rw [hs]
  go_enter Tryz.func18, Tryz.ntmps18
  go_wp2
  go_ret
  exact ⟨rfl, rfl⟩
theorem cuts0 (a b : ByteArray) (n mm : Int) (A5 A6 A7 A8 A9 A10 A11 A12 B7 B10 B11 : Option Addr) (c5 c6 c7 c8 c9 c10 c11 c12 d7 d10 d11 : Nat) (lf lr ty d : List Int) (vls : List (Bool × List Int)) (ws : List ByteArray) (ps : List (ByteArray × ByteArray)) (fs : List Sf) (w wx : World) (hm : MsgIn w (.agg #[.int .i64 0, .string a, .string b, .int .u32 n, .int .u32 mm, .slice A5 lf.length c5, .slice A6 lr.length c6, .slice A7 ty.length c7, .slice A8 vls.length c8, .slice A9 d.length c9, .slice A10 ws.length c10, .slice A11 ps.length c11, .slice A12 fs.length c12]) a b 0 n mm A5 A6 A7 A8 A9 A10 A11 A12 c5 c6 c7 c8 c9 c10 c11 c12 lf lr ty d vls ws ps fs) (hp : properP 0 a b n lf lr ty vls d ws ps fs) (hfx : RdI .i64 wx (.slice A5 lf.length c5) lf) (hrx : RdI .i64 wx (.slice A6 lr.length c6) lr) (htx : RdI .u32 wx (.slice A7 ty.length c7) ty) (hvx : RdM 2 isVal wx (.slice B7 vls.length d7) vls) (hlx : RdM 7 isSf wx (.slice B11 fs.length d11) fs) : ∃ R : List Int, R.length ≤ 100000 ∧ (∀ wy, Ext wx wy → Calls Tryz.prog 16 #[.agg #[.int .i64 0, .string a, .string b, .int .u32 n, .slice A5 lf.length c5, .slice A6 lr.length c6, .slice A7 ty.length c7, .slice B7 vls.length d7, .slice A9 d.length c9, .slice A10 ws.length c10, .slice B10 ps.length d10, .slice B11 fs.length d11]] wy (Gave wy R)) ∧ ∀ (m : Nat) (w : World) (vb : Value), m < R.length → RdB w vb (R.take m) → Calls Tryz.prog 19 #[.int .i64 0, vb] w (NoDec w) := by
  have hpa : a.size ≤ 200 := hp.pa.1
  have hpb : b.size ≤ 200 := hp.pb.1
  have hgv : ∀ y ∈ vls, y.2.length ≤ 200 := fun y hy => (hp.vals.2 y hy).1
  have hlen : (sby a ++ 0 :: (sby b ++ 0 :: (numB (lf.length : Int) 2 ++ ((lf.flatMap fun n => numB n 2) ++ (numB (vls.length : Int) 2 ++ ((vls.flatMap fun x => valB x.1 x.2) ++ (numB (lr.length : Int) 2 ++ (lr.flatMap fun n => numB n 2)))))))).length ≤ 100000 := by
    have h1 := n2Len lf; have h2 := n2Len lr; have h3 := optLen hgv; have h4 := (hp.k0 rfl).1.1; have h5 := (hp.k0 rfl).2.1; have h6 := hp.vals.1
    simp only [List.length_append, List.length_cons, List.length_nil, numB_len, sby_length]
    omega
  refine ⟨sby a ++ 0 :: (sby b ++ 0 :: (numB (lf.length : Int) 2 ++ ((lf.flatMap fun n => numB n 2) ++ (numB (vls.length : Int) 2 ++ ((vls.flatMap fun x => valB x.1 x.2) ++ (numB (lr.length : Int) 2 ++ (lr.flatMap fun n => numB n 2))))))), hlen, fun wy hy => ?_, fun m w2 vb hmm hv => ?_⟩
  · exact body0 a b n (.slice A5 lf.length c5) (.slice A6 lr.length c6) (.slice A7 ty.length c7) (.slice B7 vls.length d7) (.slice A9 d.length c9) (.slice A10 ws.length c10) (.slice B10 ps.length d10) (.slice B11 fs.length d11) wy (by omega) (by omega) lf (hfx.ext hy) (by have := (hp.k0 rfl).1.1; omega) lr (hrx.ext hy) (by have := (hp.k0 rfl).2.1; omega) vls (hvx.ext hy (isVal.ext hy)) (by have := hp.vals.1; omega) (fun y hy => by have := hgv y hy; omega) _ (by simp [txt, List.append_assoc])
  · exact dec_errz 101 133 107 #[.string ⟨#[]⟩, .string ⟨#[]⟩, .slice none 0 0, .slice none 0 0, .slice none 0 0] 0 vb _ w2 hv (by rw [List.length_take]; omega) md0 nd0 cd0 emp0 fun w1 b1 v1 _ _ hb1 hv1 hof1 => cut0 a b lf lr vls hp.pa hp.pb (hp.k0 rfl).1.1 (smallB (hp.k0 rfl).1.2) hp.vals.1 hgv (hp.k0 rfl).2.1 _ (SPre.take hmm) (by rw [List.length_take]; omega) w1 b1 v1 hb1 hv1 hof1
theorem cuts12 (a b : ByteArray) (n mm : Int) (A5 A6 A7 A8 A9 A10 A11 A12 B7 B10 B11 : Option Addr) (c5 c6 c7 c8 c9 c10 c11 c12 d7 d10 d11 : Nat) (lf lr ty d : List Int) (vls : List (Bool × List Int)) (ws : List ByteArray) (ps : List (ByteArray × ByteArray)) (fs : List Sf) (w wx : World) (hm : MsgIn w (.agg #[.int .i64 12, .string a, .string b, .int .u32 n, .int .u32 mm, .slice A5 lf.length c5, .slice A6 lr.length c6, .slice A7 ty.length c7, .slice A8 vls.length c8, .slice A9 d.length c9, .slice A10 ws.length c10, .slice A11 ps.length c11, .slice A12 fs.length c12]) a b 12 n mm A5 A6 A7 A8 A9 A10 A11 A12 c5 c6 c7 c8 c9 c10 c11 c12 lf lr ty d vls ws ps fs) (hp : properP 12 a b n lf lr ty vls d ws ps fs) (hfx : RdI .i64 wx (.slice A5 lf.length c5) lf) (hrx : RdI .i64 wx (.slice A6 lr.length c6) lr) (htx : RdI .u32 wx (.slice A7 ty.length c7) ty) (hvx : RdM 2 isVal wx (.slice B7 vls.length d7) vls) (hlx : RdM 7 isSf wx (.slice B11 fs.length d11) fs) : ∃ R : List Int, R.length ≤ 100000 ∧ (∀ wy, Ext wx wy → Calls Tryz.prog 16 #[.agg #[.int .i64 12, .string a, .string b, .int .u32 n, .slice A5 lf.length c5, .slice A6 lr.length c6, .slice A7 ty.length c7, .slice B7 vls.length d7, .slice A9 d.length c9, .slice A10 ws.length c10, .slice B10 ps.length d10, .slice B11 fs.length d11]] wy (Gave wy R)) ∧ ∀ (m : Nat) (w : World) (vb : Value), m < R.length → RdB w vb (R.take m) → Calls Tryz.prog 19 #[.int .i64 12, vb] w (NoDec w) := by
  have hpa : a.size ≤ 200 := hp.pa.1
  have hpb : b.size ≤ 200 := hp.pb.1
  have hgv : ∀ y ∈ vls, y.2.length ≤ 200 := fun y hy => (hp.vals.2 y hy).1
  have hlen : (sby a ++ 0 :: (sby b ++ 0 :: (numB (ty.length : Int) 2 ++ ty.flatMap fun n => numB n 4))).length ≤ 100000 := by
    have h1 := flat_len (fun n => numB n 4) 4 ty (fun x _ => by simp [numB_len]); have h2 := hp.types
    simp only [List.length_append, List.length_cons, List.length_nil, numB_len, sby_length]
    omega
  refine ⟨sby a ++ 0 :: (sby b ++ 0 :: (numB (ty.length : Int) 2 ++ ty.flatMap fun n => numB n 4)), hlen, fun wy hy => ?_, fun m w2 vb hmm hv => ?_⟩
  · exact body12 a b n (.slice A5 lf.length c5) (.slice A6 lr.length c6) (.slice A7 ty.length c7) (.slice B7 vls.length d7) (.slice A9 d.length c9) (.slice A10 ws.length c10) (.slice B10 ps.length d10) (.slice B11 fs.length d11) wy (by omega) (by omega) ty (htx.ext hy) (by have := hp.types; omega) hm.ty _ (by simp [txt, List.append_assoc])
  · exact dec_errz 134 175 137 #[.string ⟨#[]⟩, .string ⟨#[]⟩, .slice none 0 0] 12 vb _ w2 hv (by rw [List.length_take]; omega) md12 nd12 cd12 emp12 fun w1 b1 v1 _ _ hb1 hv1 hof1 => cut12 a b ty hp.pa hp.pb hp.types hm.ty _ (SPre.take hmm) (by rw [List.length_take]; omega) w1 b1 v1 hb1 hv1 hof1
theorem cuts57 (a b : ByteArray) (n mm : Int) (A5 A6 A7 A8 A9 A10 A11 A12 B7 B10 B11 : Option Addr) (c5 c6 c7 c8 c9 c10 c11 c12 d7 d10 d11 : Nat) (lf lr ty d : List Int) (vls : List (Bool × List Int)) (ws : List ByteArray) (ps : List (ByteArray × ByteArray)) (fs : List Sf) (w wx : World) (hm : MsgIn w (.agg #[.int .i64 57, .string a, .string b, .int .u32 n, .int .u32 mm, .slice A5 lf.length c5, .slice A6 lr.length c6, .slice A7 ty.length c7, .slice A8 vls.length c8, .slice A9 d.length c9, .slice A10 ws.length c10, .slice A11 ps.length c11, .slice A12 fs.length c12]) a b 57 n mm A5 A6 A7 A8 A9 A10 A11 A12 c5 c6 c7 c8 c9 c10 c11 c12 lf lr ty d vls ws ps fs) (hp : properP 57 a b n lf lr ty vls d ws ps fs) (hfx : RdI .i64 wx (.slice A5 lf.length c5) lf) (hrx : RdI .i64 wx (.slice A6 lr.length c6) lr) (htx : RdI .u32 wx (.slice A7 ty.length c7) ty) (hvx : RdM 2 isVal wx (.slice B7 vls.length d7) vls) (hlx : RdM 7 isSf wx (.slice B11 fs.length d11) fs) : ∃ R : List Int, R.length ≤ 100000 ∧ (∀ wy, Ext wx wy → Calls Tryz.prog 16 #[.agg #[.int .i64 57, .string a, .string b, .int .u32 n, .slice A5 lf.length c5, .slice A6 lr.length c6, .slice A7 ty.length c7, .slice B7 vls.length d7, .slice A9 d.length c9, .slice A10 ws.length c10, .slice B10 ps.length d10, .slice B11 fs.length d11]] wy (Gave wy R)) ∧ ∀ (m : Nat) (w : World) (vb : Value), m < R.length → RdB w vb (R.take m) → Calls Tryz.prog 19 #[.int .i64 57, vb] w (NoDec w) := by
  have hpa : a.size ≤ 200 := hp.pa.1
  have hpb : b.size ≤ 200 := hp.pb.1
  have hgv : ∀ y ∈ vls, y.2.length ≤ 200 := fun y hy => (hp.vals.2 y hy).1
  have hlen : (numB (fs.length : Int) 2 ++ fs.flatMap sfB).length ≤ 100000 := by
    have h1 := flat_len sfB 221 fs (fun x hx => by have h9 : x.name.size ≤ 200 := (hp.cols.2 x hx).1.1; simp only [sfB, txt, List.length_append, List.length_cons, List.length_nil, sby_length, numB_len]; omega); have h2 := hp.cols.1
    simp only [List.length_append, List.length_cons, List.length_nil, numB_len, sby_length]
    omega
  refine ⟨numB (fs.length : Int) 2 ++ fs.flatMap sfB, hlen, fun wy hy => ?_, fun m w2 vb hmm hv => ?_⟩
  · exact body57 a b n (.slice A5 lf.length c5) (.slice A6 lr.length c6) (.slice A7 ty.length c7) (.slice B7 vls.length d7) (.slice A9 d.length c9) (.slice A10 ws.length c10) (.slice B10 ps.length d10) (.slice B11 fs.length d11) wy fs B11 d11 rfl (hlx.ext hy (fun _ _ h => h)) (by have := hp.cols.1; omega) (fun y hy => by have h1 := hp.cols.2 y hy; have h2 := hm.fs y hy; exact ⟨by have := h1.1.1; omega, h2.1, h2.2.1, h2.2.2.1, h2.2.2.2⟩) _ (by simp [txt, List.append_assoc])
  · exact dec_errz 233 332 236 #[.slice none 0 0] 57 vb _ w2 hv (by rw [List.length_take]; omega) md57 nd57 cd57 emp57 fun w1 b1 v1 _ _ hb1 hv1 hof1 => cut57 fs hp.cols.1 (fun y hy => by have h1 := hp.cols.2 y hy; have h2 := hm.fs y hy; exact ⟨h1.1, h1.1.1, h2.1, h2.2.1, h2.2.2.1, h2.2.2.2, h1.2⟩) _ (SPre.take hmm) (by rw [List.length_take]; omega) w1 b1 v1 hb1 hv1 hof1
theorem cuts45 (a b : ByteArray) (n mm : Int) (A5 A6 A7 A8 A9 A10 A11 A12 B7 B10 B11 : Option Addr) (c5 c6 c7 c8 c9 c10 c11 c12 d7 d10 d11 : Nat) (lf lr ty d : List Int) (vls : List (Bool × List Int)) (ws : List ByteArray) (ps : List (ByteArray × ByteArray)) (fs : List Sf) (w wx : World) (hm : MsgIn w (.agg #[.int .i64 45, .string a, .string b, .int .u32 n, .int .u32 mm, .slice A5 lf.length c5, .slice A6 lr.length c6, .slice A7 ty.length c7, .slice A8 vls.length c8, .slice A9 d.length c9, .slice A10 ws.length c10, .slice A11 ps.length c11, .slice A12 fs.length c12]) a b 45 n mm A5 A6 A7 A8 A9 A10 A11 A12 c5 c6 c7 c8 c9 c10 c11 c12 lf lr ty d vls ws ps fs) (hp : properP 45 a b n lf lr ty vls d ws ps fs) (hfx : RdI .i64 wx (.slice A5 lf.length c5) lf) (hrx : RdI .i64 wx (.slice A6 lr.length c6) lr) (htx : RdI .u32 wx (.slice A7 ty.length c7) ty) (hvx : RdM 2 isVal wx (.slice B7 vls.length d7) vls) (hlx : RdM 7 isSf wx (.slice B11 fs.length d11) fs) : ∃ R : List Int, R.length ≤ 100000 ∧ (∀ wy, Ext wx wy → Calls Tryz.prog 16 #[.agg #[.int .i64 45, .string a, .string b, .int .u32 n, .slice A5 lf.length c5, .slice A6 lr.length c6, .slice A7 ty.length c7, .slice B7 vls.length d7, .slice A9 d.length c9, .slice A10 ws.length c10, .slice B10 ps.length d10, .slice B11 fs.length d11]] wy (Gave wy R)) ∧ ∀ (m : Nat) (w : World) (vb : Value), m < R.length → RdB w vb (R.take m) → Calls Tryz.prog 19 #[.int .i64 45, vb] w (NoDec w) := by
  have hpa : a.size ≤ 200 := hp.pa.1
  have hpb : b.size ≤ 200 := hp.pb.1
  have hgv : ∀ y ∈ vls, y.2.length ≤ 200 := fun y hy => (hp.vals.2 y hy).1
  have hlen : (numB (vls.length : Int) 2 ++ vls.flatMap fun x => valB x.1 x.2).length ≤ 100000 := by
    have h3 := optLen hgv; have h6 := hp.vals.1
    simp only [List.length_append, List.length_cons, List.length_nil, numB_len, sby_length]
    omega
  refine ⟨numB (vls.length : Int) 2 ++ vls.flatMap fun x => valB x.1 x.2, hlen, fun wy hy => ?_, fun m w2 vb hmm hv => ?_⟩
  · exact body45 a b n (.slice A5 lf.length c5) (.slice A6 lr.length c6) (.slice A7 ty.length c7) (.slice B7 vls.length d7) (.slice A9 d.length c9) (.slice A10 ws.length c10) (.slice B10 ps.length d10) (.slice B11 fs.length d11) wy vls (hvx.ext hy (isVal.ext hy)) (by have := hp.vals.1; omega) (fun y hy => by have := hgv y hy; omega) _ (by simp [txt, List.append_assoc])
  · exact dec_errz 210 289 212 #[.slice none 0 0] 45 vb _ w2 hv (by rw [List.length_take]; omega) md45 nd45 cd45 emp45 fun w1 b1 v1 _ _ hb1 hv1 hof1 => cut45 vls hp.vals.1 hgv _ (SPre.take hmm) (by rw [List.length_take]; omega) w1 b1 v1 hb1 hv1 hof1
theorem cuts7 (a b : ByteArray) (n mm : Int) (A5 A6 A7 A8 A9 A10 A11 A12 B7 B10 B11 : Option Addr) (c5 c6 c7 c8 c9 c10 c11 c12 d7 d10 d11 : Nat) (lf lr ty d : List Int) (vls : List (Bool × List Int)) (ws : List ByteArray) (ps : List (ByteArray × ByteArray)) (fs : List Sf) (w wx : World) (hm : MsgIn w (.agg #[.int .i64 7, .string a, .string b, .int .u32 n, .int .u32 mm, .slice A5 lf.length c5, .slice A6 lr.length c6, .slice A7 ty.length c7, .slice A8 vls.length c8, .slice A9 d.length c9, .slice A10 ws.length c10, .slice A11 ps.length c11, .slice A12 fs.length c12]) a b 7 n mm A5 A6 A7 A8 A9 A10 A11 A12 c5 c6 c7 c8 c9 c10 c11 c12 lf lr ty d vls ws ps fs) (hp : properP 7 a b n lf lr ty vls d ws ps fs) (hfx : RdI .i64 wx (.slice A5 lf.length c5) lf) (hrx : RdI .i64 wx (.slice A6 lr.length c6) lr) (htx : RdI .u32 wx (.slice A7 ty.length c7) ty) (hvx : RdM 2 isVal wx (.slice B7 vls.length d7) vls) (hlx : RdM 7 isSf wx (.slice B11 fs.length d11) fs) : ∃ R : List Int, R.length ≤ 100000 ∧ (∀ wy, Ext wx wy → Calls Tryz.prog 16 #[.agg #[.int .i64 7, .string a, .string b, .int .u32 n, .slice A5 lf.length c5, .slice A6 lr.length c6, .slice A7 ty.length c7, .slice B7 vls.length d7, .slice A9 d.length c9, .slice A10 ws.length c10, .slice B10 ps.length d10, .slice B11 fs.length d11]] wy (Gave wy R)) ∧ ∀ (m : Nat) (w : World) (vb : Value), m < R.length → RdB w vb (R.take m) → Calls Tryz.prog 19 #[.int .i64 7, vb] w (NoDec w) := by
  have hpa : a.size ≤ 200 := hp.pa.1
  have hpb : b.size ≤ 200 := hp.pb.1
  have hgv : ∀ y ∈ vls, y.2.length ≤ 200 := fun y hy => (hp.vals.2 y hy).1
  have hlen : (sby a ++ 0 :: (numB n 4 ++ [])).length ≤ 100000 := by
    skip
    simp only [List.length_append, List.length_cons, List.length_nil, numB_len, sby_length]
    omega
  refine ⟨sby a ++ 0 :: (numB n 4 ++ []), hlen, fun wy hy => ?_, fun m w2 vb hmm hv => ?_⟩
  · exact body7 a b n (.slice A5 lf.length c5) (.slice A6 lr.length c6) (.slice A7 ty.length c7) (.slice B7 vls.length d7) (.slice A9 d.length c9) (.slice A10 ws.length c10) (.slice B10 ps.length d10) (.slice B11 fs.length d11) wy (by omega) hm.n _ (by simp [txt, List.append_assoc])
  · exact dec_errz 122 162 124 #[.string ⟨#[]⟩, .int .u32 0] 7 vb _ w2 hv (by rw [List.length_take]; omega) md7 nd7 cd7 emp7 fun w1 b1 v1 _ _ hb1 hv1 hof1 => cut7 a n hp.pa _ (SPre.take hmm) (by rw [List.length_take]; omega) w1 b1 v1 hb1 hv1 hof1
theorem cuts43 (a b : ByteArray) (n mm : Int) (A5 A6 A7 A8 A9 A10 A11 A12 B7 B10 B11 : Option Addr) (c5 c6 c7 c8 c9 c10 c11 c12 d7 d10 d11 : Nat) (lf lr ty d : List Int) (vls : List (Bool × List Int)) (ws : List ByteArray) (ps : List (ByteArray × ByteArray)) (fs : List Sf) (w wx : World) (hm : MsgIn w (.agg #[.int .i64 43, .string a, .string b, .int .u32 n, .int .u32 mm, .slice A5 lf.length c5, .slice A6 lr.length c6, .slice A7 ty.length c7, .slice A8 vls.length c8, .slice A9 d.length c9, .slice A10 ws.length c10, .slice A11 ps.length c11, .slice A12 fs.length c12]) a b 43 n mm A5 A6 A7 A8 A9 A10 A11 A12 c5 c6 c7 c8 c9 c10 c11 c12 lf lr ty d vls ws ps fs) (hp : properP 43 a b n lf lr ty vls d ws ps fs) (hfx : RdI .i64 wx (.slice A5 lf.length c5) lf) (hrx : RdI .i64 wx (.slice A6 lr.length c6) lr) (htx : RdI .u32 wx (.slice A7 ty.length c7) ty) (hvx : RdM 2 isVal wx (.slice B7 vls.length d7) vls) (hlx : RdM 7 isSf wx (.slice B11 fs.length d11) fs) : ∃ R : List Int, R.length ≤ 100000 ∧ (∀ wy, Ext wx wy → Calls Tryz.prog 16 #[.agg #[.int .i64 43, .string a, .string b, .int .u32 n, .slice A5 lf.length c5, .slice A6 lr.length c6, .slice A7 ty.length c7, .slice B7 vls.length d7, .slice A9 d.length c9, .slice A10 ws.length c10, .slice B10 ps.length d10, .slice B11 fs.length d11]] wy (Gave wy R)) ∧ ∀ (m : Nat) (w : World) (vb : Value), m < R.length → RdB w vb (R.take m) → Calls Tryz.prog 19 #[.int .i64 43, vb] w (NoDec w) := by
  have hpa : a.size ≤ 200 := hp.pa.1
  have hpb : b.size ≤ 200 := hp.pb.1
  have hgv : ∀ y ∈ vls, y.2.length ≤ 200 := fun y hy => (hp.vals.2 y hy).1
  have hlen : (numB n 1 ++ (numB (lf.length : Int) 2 ++ lf.flatMap fun n => numB n 2)).length ≤ 100000 := by
    have h1 := n2Len lf; have h2 := (hp.k42 (by omega)).2.1
    simp only [List.length_append, List.length_cons, List.length_nil, numB_len, sby_length]
    omega
  refine ⟨numB n 1 ++ (numB (lf.length : Int) 2 ++ lf.flatMap fun n => numB n 2), hlen, fun wy hy => ?_, fun m w2 vb hmm hv => ?_⟩
  · exact body43 a b n (.slice A5 lf.length c5) (.slice A6 lr.length c6) (.slice A7 ty.length c7) (.slice B7 vls.length d7) (.slice A9 d.length c9) (.slice A10 ws.length c10) (.slice B10 ps.length d10) (.slice B11 fs.length d11) wy hm.n lf (hfx.ext hy) (by have := (hp.k42 (by omega)).2.1; omega) _ (by simp [txt, List.append_assoc])
  · exact dec_errz 206 283 207 #[.int .u8 0, .slice none 0 0] 43 vb _ w2 hv (by rw [List.length_take]; omega) md43 nd43 cd43 emp43 fun w1 b1 v1 _ _ hb1 hv1 hof1 => cut43 n lf ⟨hm.n.1, by have := (hp.k42 (by omega)).1; omega⟩ (hp.k42 (by omega)).2.1 _ (SPre.take hmm) (by rw [List.length_take]; omega) w1 b1 v1 hb1 hv1 hof1
theorem cuts44 (a b : ByteArray) (n mm : Int) (A5 A6 A7 A8 A9 A10 A11 A12 B7 B10 B11 : Option Addr) (c5 c6 c7 c8 c9 c10 c11 c12 d7 d10 d11 : Nat) (lf lr ty d : List Int) (vls : List (Bool × List Int)) (ws : List ByteArray) (ps : List (ByteArray × ByteArray)) (fs : List Sf) (w wx : World) (hm : MsgIn w (.agg #[.int .i64 44, .string a, .string b, .int .u32 n, .int .u32 mm, .slice A5 lf.length c5, .slice A6 lr.length c6, .slice A7 ty.length c7, .slice A8 vls.length c8, .slice A9 d.length c9, .slice A10 ws.length c10, .slice A11 ps.length c11, .slice A12 fs.length c12]) a b 44 n mm A5 A6 A7 A8 A9 A10 A11 A12 c5 c6 c7 c8 c9 c10 c11 c12 lf lr ty d vls ws ps fs) (hp : properP 44 a b n lf lr ty vls d ws ps fs) (hfx : RdI .i64 wx (.slice A5 lf.length c5) lf) (hrx : RdI .i64 wx (.slice A6 lr.length c6) lr) (htx : RdI .u32 wx (.slice A7 ty.length c7) ty) (hvx : RdM 2 isVal wx (.slice B7 vls.length d7) vls) (hlx : RdM 7 isSf wx (.slice B11 fs.length d11) fs) : ∃ R : List Int, R.length ≤ 100000 ∧ (∀ wy, Ext wx wy → Calls Tryz.prog 16 #[.agg #[.int .i64 44, .string a, .string b, .int .u32 n, .slice A5 lf.length c5, .slice A6 lr.length c6, .slice A7 ty.length c7, .slice B7 vls.length d7, .slice A9 d.length c9, .slice A10 ws.length c10, .slice B10 ps.length d10, .slice B11 fs.length d11]] wy (Gave wy R)) ∧ ∀ (m : Nat) (w : World) (vb : Value), m < R.length → RdB w vb (R.take m) → Calls Tryz.prog 19 #[.int .i64 44, vb] w (NoDec w) := by
  have hpa : a.size ≤ 200 := hp.pa.1
  have hpb : b.size ≤ 200 := hp.pb.1
  have hgv : ∀ y ∈ vls, y.2.length ≤ 200 := fun y hy => (hp.vals.2 y hy).1
  have hlen : (numB n 1 ++ (numB (lf.length : Int) 2 ++ lf.flatMap fun n => numB n 2)).length ≤ 100000 := by
    have h1 := n2Len lf; have h2 := (hp.k42 (by omega)).2.1
    simp only [List.length_append, List.length_cons, List.length_nil, numB_len, sby_length]
    omega
  refine ⟨numB n 1 ++ (numB (lf.length : Int) 2 ++ lf.flatMap fun n => numB n 2), hlen, fun wy hy => ?_, fun m w2 vb hmm hv => ?_⟩
  · exact body44 a b n (.slice A5 lf.length c5) (.slice A6 lr.length c6) (.slice A7 ty.length c7) (.slice B7 vls.length d7) (.slice A9 d.length c9) (.slice A10 ws.length c10) (.slice B10 ps.length d10) (.slice B11 fs.length d11) wy hm.n lf (hfx.ext hy) (by have := (hp.k42 (by omega)).2.1; omega) _ (by simp [txt, List.append_assoc])
  · exact dec_errz 208 286 209 #[.int .u8 0, .slice none 0 0] 44 vb _ w2 hv (by rw [List.length_take]; omega) md44 nd44 cd44 emp44 fun w1 b1 v1 _ _ hb1 hv1 hof1 => cut44 n lf ⟨hm.n.1, by have := (hp.k42 (by omega)).1; omega⟩ (hp.k42 (by omega)).2.1 _ (SPre.take hmm) (by rw [List.length_take]; omega) w1 b1 v1 hb1 hv1 hof1
theorem cuts42 (a b : ByteArray) (n mm : Int) (A5 A6 A7 A8 A9 A10 A11 A12 B7 B10 B11 : Option Addr) (c5 c6 c7 c8 c9 c10 c11 c12 d7 d10 d11 : Nat) (lf lr ty d : List Int) (vls : List (Bool × List Int)) (ws : List ByteArray) (ps : List (ByteArray × ByteArray)) (fs : List Sf) (w wx : World) (hm : MsgIn w (.agg #[.int .i64 42, .string a, .string b, .int .u32 n, .int .u32 mm, .slice A5 lf.length c5, .slice A6 lr.length c6, .slice A7 ty.length c7, .slice A8 vls.length c8, .slice A9 d.length c9, .slice A10 ws.length c10, .slice A11 ps.length c11, .slice A12 fs.length c12]) a b 42 n mm A5 A6 A7 A8 A9 A10 A11 A12 c5 c6 c7 c8 c9 c10 c11 c12 lf lr ty d vls ws ps fs) (hp : properP 42 a b n lf lr ty vls d ws ps fs) (hfx : RdI .i64 wx (.slice A5 lf.length c5) lf) (hrx : RdI .i64 wx (.slice A6 lr.length c6) lr) (htx : RdI .u32 wx (.slice A7 ty.length c7) ty) (hvx : RdM 2 isVal wx (.slice B7 vls.length d7) vls) (hlx : RdM 7 isSf wx (.slice B11 fs.length d11) fs) : ∃ R : List Int, R.length ≤ 100000 ∧ (∀ wy, Ext wx wy → Calls Tryz.prog 16 #[.agg #[.int .i64 42, .string a, .string b, .int .u32 n, .slice A5 lf.length c5, .slice A6 lr.length c6, .slice A7 ty.length c7, .slice B7 vls.length d7, .slice A9 d.length c9, .slice A10 ws.length c10, .slice B10 ps.length d10, .slice B11 fs.length d11]] wy (Gave wy R)) ∧ ∀ (m : Nat) (w : World) (vb : Value), m < R.length → RdB w vb (R.take m) → Calls Tryz.prog 19 #[.int .i64 42, vb] w (NoDec w) := by
  have hpa : a.size ≤ 200 := hp.pa.1
  have hpb : b.size ≤ 200 := hp.pb.1
  have hgv : ∀ y ∈ vls, y.2.length ≤ 200 := fun y hy => (hp.vals.2 y hy).1
  have hlen : (numB n 1 ++ (numB (lf.length : Int) 2 ++ lf.flatMap fun n => numB n 2)).length ≤ 100000 := by
    have h1 := n2Len lf; have h2 := (hp.k42 (by omega)).2.1
    simp only [List.length_append, List.length_cons, List.length_nil, numB_len, sby_length]
    omega
  refine ⟨numB n 1 ++ (numB (lf.length : Int) 2 ++ lf.flatMap fun n => numB n 2), hlen, fun wy hy => ?_, fun m w2 vb hmm hv => ?_⟩
  · exact body42 a b n (.slice A5 lf.length c5) (.slice A6 lr.length c6) (.slice A7 ty.length c7) (.slice B7 vls.length d7) (.slice A9 d.length c9) (.slice A10 ws.length c10) (.slice B10 ps.length d10) (.slice B11 fs.length d11) wy hm.n lf (hfx.ext hy) (by have := (hp.k42 (by omega)).2.1; omega) _ (by simp [txt, List.append_assoc])
  · exact dec_errz 203 280 205 #[.int .u8 0, .slice none 0 0] 42 vb _ w2 hv (by rw [List.length_take]; omega) md42 nd42 cd42 emp42 fun w1 b1 v1 _ _ hb1 hv1 hof1 => cut42 n lf ⟨hm.n.1, by have := (hp.k42 (by omega)).1; omega⟩ (hp.k42 (by omega)).2.1 _ (SPre.take hmm) (by rw [List.length_take]; omega) w1 b1 v1 hb1 hv1 hof1
theorem cuts51 (a b : ByteArray) (n mm : Int) (A5 A6 A7 A8 A9 A10 A11 A12 B7 B10 B11 : Option Addr) (c5 c6 c7 c8 c9 c10 c11 c12 d7 d10 d11 : Nat) (lf lr ty d : List Int) (vls : List (Bool × List Int)) (ws : List ByteArray) (ps : List (ByteArray × ByteArray)) (fs : List Sf) (w wx : World) (hm : MsgIn w (.agg #[.int .i64 51, .string a, .string b, .int .u32 n, .int .u32 mm, .slice A5 lf.length c5, .slice A6 lr.length c6, .slice A7 ty.length c7, .slice A8 vls.length c8, .slice A9 d.length c9, .slice A10 ws.length c10, .slice A11 ps.length c11, .slice A12 fs.length c12]) a b 51 n mm A5 A6 A7 A8 A9 A10 A11 A12 c5 c6 c7 c8 c9 c10 c11 c12 lf lr ty d vls ws ps fs) (hp : properP 51 a b n lf lr ty vls d ws ps fs) (hfx : RdI .i64 wx (.slice A5 lf.length c5) lf) (hrx : RdI .i64 wx (.slice A6 lr.length c6) lr) (htx : RdI .u32 wx (.slice A7 ty.length c7) ty) (hvx : RdM 2 isVal wx (.slice B7 vls.length d7) vls) (hlx : RdM 7 isSf wx (.slice B11 fs.length d11) fs) : ∃ R : List Int, R.length ≤ 100000 ∧ (∀ wy, Ext wx wy → Calls Tryz.prog 16 #[.agg #[.int .i64 51, .string a, .string b, .int .u32 n, .slice A5 lf.length c5, .slice A6 lr.length c6, .slice A7 ty.length c7, .slice B7 vls.length d7, .slice A9 d.length c9, .slice A10 ws.length c10, .slice B10 ps.length d10, .slice B11 fs.length d11]] wy (Gave wy R)) ∧ ∀ (m : Nat) (w : World) (vb : Value), m < R.length → RdB w vb (R.take m) → Calls Tryz.prog 19 #[.int .i64 51, vb] w (NoDec w) := by
  have hpa : a.size ≤ 200 := hp.pa.1
  have hpb : b.size ≤ 200 := hp.pb.1
  have hgv : ∀ y ∈ vls, y.2.length ≤ 200 := fun y hy => (hp.vals.2 y hy).1
  have hlen : (numB n 4 ++ (sby a ++ 0 :: (sby b ++ 0 :: []))).length ≤ 100000 := by
    skip
    simp only [List.length_append, List.length_cons, List.length_nil, numB_len, sby_length]
    omega
  refine ⟨numB n 4 ++ (sby a ++ 0 :: (sby b ++ 0 :: [])), hlen, fun wy hy => ?_, fun m w2 vb hmm hv => ?_⟩
  · exact body51 a b n (.slice A5 lf.length c5) (.slice A6 lr.length c6) (.slice A7 ty.length c7) (.slice B7 vls.length d7) (.slice A9 d.length c9) (.slice A10 ws.length c10) (.slice B10 ps.length d10) (.slice B11 fs.length d11) wy (by omega) (by omega) hm.n _ (by simp [txt, List.append_assoc])
  · exact dec_errz 222 320 224 #[.int .u32 0, .string ⟨#[]⟩, .string ⟨#[]⟩] 51 vb _ w2 hv (by rw [List.length_take]; omega) md51 nd51 cd51 emp51 fun w1 b1 v1 _ _ hb1 hv1 hof1 => cut51 n a b hm.n hp.pa hp.pb _ (SPre.take hmm) (by rw [List.length_take]; omega) w1 b1 v1 hb1 hv1 hof1
theorem cuts53 (a b : ByteArray) (n mm : Int) (A5 A6 A7 A8 A9 A10 A11 A12 B7 B10 B11 : Option Addr) (c5 c6 c7 c8 c9 c10 c11 c12 d7 d10 d11 : Nat) (lf lr ty d : List Int) (vls : List (Bool × List Int)) (ws : List ByteArray) (ps : List (ByteArray × ByteArray)) (fs : List Sf) (w wx : World) (hm : MsgIn w (.agg #[.int .i64 53, .string a, .string b, .int .u32 n, .int .u32 mm, .slice A5 lf.length c5, .slice A6 lr.length c6, .slice A7 ty.length c7, .slice A8 vls.length c8, .slice A9 d.length c9, .slice A10 ws.length c10, .slice A11 ps.length c11, .slice A12 fs.length c12]) a b 53 n mm A5 A6 A7 A8 A9 A10 A11 A12 c5 c6 c7 c8 c9 c10 c11 c12 lf lr ty d vls ws ps fs) (hp : properP 53 a b n lf lr ty vls d ws ps fs) (hfx : RdI .i64 wx (.slice A5 lf.length c5) lf) (hrx : RdI .i64 wx (.slice A6 lr.length c6) lr) (htx : RdI .u32 wx (.slice A7 ty.length c7) ty) (hvx : RdM 2 isVal wx (.slice B7 vls.length d7) vls) (hlx : RdM 7 isSf wx (.slice B11 fs.length d11) fs) : ∃ R : List Int, R.length ≤ 100000 ∧ (∀ wy, Ext wx wy → Calls Tryz.prog 16 #[.agg #[.int .i64 53, .string a, .string b, .int .u32 n, .slice A5 lf.length c5, .slice A6 lr.length c6, .slice A7 ty.length c7, .slice B7 vls.length d7, .slice A9 d.length c9, .slice A10 ws.length c10, .slice B10 ps.length d10, .slice B11 fs.length d11]] wy (Gave wy R)) ∧ ∀ (m : Nat) (w : World) (vb : Value), m < R.length → RdB w vb (R.take m) → Calls Tryz.prog 19 #[.int .i64 53, vb] w (NoDec w) := by
  have hpa : a.size ≤ 200 := hp.pa.1
  have hpb : b.size ≤ 200 := hp.pb.1
  have hgv : ∀ y ∈ vls, y.2.length ≤ 200 := fun y hy => (hp.vals.2 y hy).1
  have hlen : (sby a ++ 0 :: (sby b ++ 0 :: [])).length ≤ 100000 := by
    skip
    simp only [List.length_append, List.length_cons, List.length_nil, numB_len, sby_length]
    omega
  refine ⟨sby a ++ 0 :: (sby b ++ 0 :: []), hlen, fun wy hy => ?_, fun m w2 vb hmm hv => ?_⟩
  · exact body53 a b n (.slice A5 lf.length c5) (.slice A6 lr.length c6) (.slice A7 ty.length c7) (.slice B7 vls.length d7) (.slice A9 d.length c9) (.slice A10 ws.length c10) (.slice B10 ps.length d10) (.slice B11 fs.length d11) wy (by omega) (by omega) _ (by simp [txt, List.append_assoc])
  · exact dec_errz 228 326 229 #[.string ⟨#[]⟩, .string ⟨#[]⟩] 53 vb _ w2 hv (by rw [List.length_take]; omega) md53 nd53 cd53 emp53 fun w1 b1 v1 _ _ hb1 hv1 hof1 => cut53 a b hp.pa hp.pb _ (SPre.take hmm) (by rw [List.length_take]; omega) w1 b1 v1 hb1 hv1 hof1
theorem cuts (kd : Int) (hcl : closedQ kd = true) (a b : ByteArray) (n mm : Int) (A5 A6 A7 A8 A9 A10 A11 A12 B7 B10 B11 : Option Addr) (c5 c6 c7 c8 c9 c10 c11 c12 d7 d10 d11 : Nat) (lf lr ty d : List Int) (vls : List (Bool × List Int)) (ws : List ByteArray) (ps : List (ByteArray × ByteArray)) (fs : List Sf) (w wx : World) (hm : MsgIn w (.agg #[.int .i64 kd, .string a, .string b, .int .u32 n, .int .u32 mm, .slice A5 lf.length c5, .slice A6 lr.length c6, .slice A7 ty.length c7, .slice A8 vls.length c8, .slice A9 d.length c9, .slice A10 ws.length c10, .slice A11 ps.length c11, .slice A12 fs.length c12]) a b kd n mm A5 A6 A7 A8 A9 A10 A11 A12 c5 c6 c7 c8 c9 c10 c11 c12 lf lr ty d vls ws ps fs) (hp : properP kd a b n lf lr ty vls d ws ps fs) (hfx : RdI .i64 wx (.slice A5 lf.length c5) lf) (hrx : RdI .i64 wx (.slice A6 lr.length c6) lr) (htx : RdI .u32 wx (.slice A7 ty.length c7) ty) (hvx : RdM 2 isVal wx (.slice B7 vls.length d7) vls) (hlx : RdM 7 isSf wx (.slice B11 fs.length d11) fs) : ∃ R : List Int, R.length ≤ 100000 ∧ (∀ wy, Ext wx wy → Calls Tryz.prog 16 #[.agg #[.int .i64 kd, .string a, .string b, .int .u32 n, .slice A5 lf.length c5, .slice A6 lr.length c6, .slice A7 ty.length c7, .slice B7 vls.length d7, .slice A9 d.length c9, .slice A10 ws.length c10, .slice B10 ps.length d10, .slice B11 fs.length d11]] wy (Gave wy R)) ∧ ∀ (m : Nat) (w : World) (vb : Value), m < R.length → RdB w vb (R.take m) → Calls Tryz.prog 19 #[.int .i64 kd, vb] w (NoDec w) := by
  have hk : kd = 0 ∨ kd = 12 ∨ kd = 57 ∨ kd = 45 ∨ kd = 7 ∨ kd = 43 ∨ kd = 44 ∨ kd = 42 ∨ kd = 51 ∨ kd = 53 := by
    unfold closedQ at hcl
    simp only [Bool.or_eq_true, beq_iff_eq] at hcl
    omega
  rcases hk with rfl | rfl | rfl | rfl | rfl | rfl | rfl | rfl | rfl | rfl
  · exact cuts0 a b n mm A5 A6 A7 A8 A9 A10 A11 A12 B7 B10 B11 c5 c6 c7 c8 c9 c10 c11 c12 d7 d10 d11 lf lr ty d vls ws ps fs w wx hm hp hfx hrx htx hvx hlx
  · exact cuts12 a b n mm A5 A6 A7 A8 A9 A10 A11 A12 B7 B10 B11 c5 c6 c7 c8 c9 c10 c11 c12 d7 d10 d11 lf lr ty d vls ws ps fs w wx hm hp hfx hrx htx hvx hlx
  · exact cuts57 a b n mm A5 A6 A7 A8 A9 A10 A11 A12 B7 B10 B11 c5 c6 c7 c8 c9 c10 c11 c12 d7 d10 d11 lf lr ty d vls ws ps fs w wx hm hp hfx hrx htx hvx hlx
  · exact cuts45 a b n mm A5 A6 A7 A8 A9 A10 A11 A12 B7 B10 B11 c5 c6 c7 c8 c9 c10 c11 c12 d7 d10 d11 lf lr ty d vls ws ps fs w wx hm hp hfx hrx htx hvx hlx
  · exact cuts7 a b n mm A5 A6 A7 A8 A9 A10 A11 A12 B7 B10 B11 c5 c6 c7 c8 c9 c10 c11 c12 d7 d10 d11 lf lr ty d vls ws ps fs w wx hm hp hfx hrx htx hvx hlx
  · exact cuts43 a b n mm A5 A6 A7 A8 A9 A10 A11 A12 B7 B10 B11 c5 c6 c7 c8 c9 c10 c11 c12 d7 d10 d11 lf lr ty d vls ws ps fs w wx hm hp hfx hrx htx hvx hlx
  · exact cuts44 a b n mm A5 A6 A7 A8 A9 A10 A11 A12 B7 B10 B11 c5 c6 c7 c8 c9 c10 c11 c12 d7 d10 d11 lf lr ty d vls ws ps fs w wx hm hp hfx hrx htx hvx hlx
  · exact cuts42 a b n mm A5 A6 A7 A8 A9 A10 A11 A12 B7 B10 B11 c5 c6 c7 c8 c9 c10 c11 c12 d7 d10 d11 lf lr ty d vls ws ps fs w wx hm hp hfx hrx htx hvx hlx
  · exact cuts51 a b n mm A5 A6 A7 A8 A9 A10 A11 A12 B7 B10 B11 c5 c6 c7 c8 c9 c10 c11 c12 d7 d10 d11 lf lr ty d vls ws ps fs w wx hm hp hfx hrx htx hvx hlx
  · exact cuts53 a b n mm A5 A6 A7 A8 A9 A10 A11 A12 B7 B10 B11 c5 c6 c7 c8 c9 c10 c11 c12 d7 d10 d11 lf lr ty d vls ws ps fs w wx hm hp hfx hrx htx hvx hlx
end Go.Proofs.YtdenjanihikolaaGreatDoor

