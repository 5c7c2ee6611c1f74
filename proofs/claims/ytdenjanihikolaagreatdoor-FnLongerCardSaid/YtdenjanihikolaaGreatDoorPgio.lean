/- The helpers of package pgio and of messages' begin and end, by contract. -/
import Derived.Test.YtdenjanihikolaaGreatDoorBase
namespace Go.Proofs.YtdenjanihikolaaGreatDoor
open Go.RowKit

def be16 (n : Int) : List Int := [n / 256, n % 256]
def be32 (n : Int) : List Int := [n / 16777216, n / 65536 % 256, n / 256 % 256, n % 256]
/-- the two, the four low bytes of a number, the highest one first -/
def b16 (n : Int) : List Int := be16 (n % 65536)
def b32 (n : Int) : List Int := be32 (n % 4294967296)

theorem b16_len (n : Int) : (b16 n).length = 2 := rfl
theorem b32_len (n : Int) : (b32 n).length = 4 := rfl
theorem b16_of {n : Int} (h0 : 0 ≤ n) (h1 : n < 65536) : be16 n = b16 n := by unfold b16; rw [Int.emod_eq_of_lt h0 h1]
theorem b32_of {n : Int} (h0 : 0 ≤ n) (h1 : n < 4294967296) : be32 n = b32 n := by unfold b32; rw [Int.emod_eq_of_lt h0 h1]

theorem appendU16 {B : Nat → Prop} {w0 : World} (v : Value) (xs : List Int) (n : Int) (w : World) (h0 : 0 ≤ n) (h1 : n < 65536)
    (hb : Buf B w0 w v xs) (hlen : xs.length ≤ 1099511627776) :
    Calls Tryz.prog 140 #[v, .int .u16 n] w fun e w' => ∃ v', e = .returned v' ∧ Buf B w0 w' v' (xs ++ b16 n) := by
  rw [← b16_of h0 h1]
  go_enter Tryz.func140, Tryz.ntmps140
  go_wp2_with (at_builtin; refine ap_lit2 rfl _ _ 26 26 rfl Tryz.underlying26 Tryz.underlying26 rfl rfl hb (by omega) ?_; intro v' w' hb')
  go_ret
  exact ⟨_, rfl, hb'⟩

theorem appendU32 {B : Nat → Prop} {w0 : World} (v : Value) (xs : List Int) (n : Int) (w : World) (h0 : 0 ≤ n) (h1 : n < 4294967296)
    (hb : Buf B w0 w v xs) (hlen : xs.length ≤ 1099511627776) :
    Calls Tryz.prog 145 #[v, .int .u32 n] w fun e w' => ∃ v', e = .returned v' ∧ Buf B w0 w' v' (xs ++ b32 n) := by
  rw [← b32_of h0 h1]
  go_enter Tryz.func145, Tryz.ntmps145
  go_wp2_with (at_builtin; refine ap_lit4 rfl _ _ 26 26 rfl Tryz.underlying26 Tryz.underlying26 rfl rfl hb (by omega) ?_; intro v' w' hb')
  go_ret
  exact ⟨_, rfl, hb'⟩

theorem appendI32 {B : Nat → Prop} {w0 : World} (v : Value) (xs : List Int) (n : Int) (w : World)
    (hb : Buf B w0 w v xs) (hlen : xs.length ≤ 1099511627776) :
    Calls Tryz.prog 142 #[v, .int .i32 n] w fun e w' => ∃ v', e = .returned v' ∧ Buf B w0 w' v' (xs ++ b32 n) := by
  have e1 : b32 n = b32 (n % 4294967296) := by unfold b32; rw [Int.emod_emod]
  rw [e1]
  clear e1
  go_enter Tryz.func142, Tryz.ntmps142
  go_wp2_with (go_at_call 145; refine (appendU32 _ _ _ _ (by omega) (by omega) hb (by omega)).mono ?_; rintro e w' ⟨v', rfl, hb'⟩)
  go_ret
  exact ⟨_, rfl, hb'⟩

theorem appendI16 {B : Nat → Prop} {w0 : World} (v : Value) (xs : List Int) (n : Int) (w : World)
    (hb : Buf B w0 w v xs) (hlen : xs.length ≤ 1099511627776) :
    Calls Tryz.prog 141 #[v, .int .i16 n] w fun e w' => ∃ v', e = .returned v' ∧ Buf B w0 w' v' (xs ++ b16 n) := by
  have e1 : b16 n = b16 (n % 65536) := by unfold b16; rw [Int.emod_emod]
  rw [e1]
  clear e1
  have hu := IntKind.wrap_u16 n
  go_enter Tryz.func141, Tryz.ntmps141
  go_wp2_with (go_at_call 140; refine (appendU16 _ _ _ _ (by omega) (by omega) hb (by omega)).mono ?_; rintro e w' ⟨v', rfl, hb'⟩)
  go_ret
  exact ⟨_, rfl, hb'⟩

theorem Buf.len {B : Nat → Prop} {w0 w : World} {v : Value} {xs : List Int} (h : Buf B w0 w v xs) : ∃ A c, v = .slice A xs.length c := own_slice h.own

set_option maxRecDepth 100000 in
theorem begin_any {B : Nat → Prop} {w0 : World} (v : Value) (xs : List Int) (t : Int) (w : World)
    (hb : Buf B w0 w v xs) (hlen : xs.length ≤ 1099511627770) :
    Calls Tryz.prog 139 #[v, .int .u8 t] w fun e w' => ∃ v', e = .returned (.tuple #[v', .int .i64 ((xs.length : Int) + 1)]) ∧ Buf B w0 w' v' ((xs ++ [t]) ++ [255, 255, 255, 255]) := by
  go_enter Tryz.func139, Tryz.ntmps139
  go_wp2_with (at_builtin; refine ap_lit1 rfl _ _ 26 26 rfl Tryz.underlying26 Tryz.underlying26 rfl rfl hb (by omega) ?_; intro v1 w1 hb1; obtain ⟨A1, c1, hv1⟩ := hb1.len; subst hv1; rw [List.length_append] at hb1 ⊢; have hb1' := Lib.hid hb1; clear hb1)
  have hl1 : (xs ++ [t]).length ≤ 1099511627776 := by simp; omega
  refine (appendI32 _ _ _ _ hb1'.out hl1).mono ?_
  rintro e w' ⟨v', rfl, hb'⟩
  go_wp2_with fail
  go_ret2
  exact ⟨_, rfl, hb'⟩

set_option maxRecDepth 100000 in
theorem setInt32 (g sp n c : Nat) (m : Int) (w : World) (cur : Array Value) (hg : w.heap[g]? = some (.cells cur 5 (0, 0))) (h0 : 0 ≤ m) (h1 : m < 2147483648) (hn : 4 ≤ n) (hs : sp + 4 ≤ cur.size) :
    Calls Tryz.prog 146 #[.slice (some ⟨g, sp, none⟩) n c, .int .i32 m] w fun e w' => e = .returned (.tuple #[]) ∧
      w' = (((w.setCell ⟨g, sp, none⟩ (.int .u8 (m / 16777216))).setCell ⟨g, sp + 1, none⟩ (.int .u8 (m / 65536 % 256))).setCell ⟨g, sp + 2, none⟩ (.int .u8 (m / 256 % 256))).setCell ⟨g, sp + 3, none⟩ (.int .u8 (m % 256)) := by
  have ha : ∀ w, (Instr.arrayAt 186 (.slice (some ⟨g, sp, none⟩) n c)).run Tryz.prog w = .ok (.pointer (some ⟨g, sp, none⟩)) w := by
    intro w
    have : ¬ n < 4 := by omega
    simp [Instr.arrayAt, run_underlying Tryz.underlying186, this]
  obtain ⟨x0, c0⟩ : ∃ x, w.cell? ⟨g, sp, none⟩ = some x := ⟨cur[sp]'(by omega), by rw [cell_of_row _ _ _ _ _ _ hg]; exact Array.getElem?_eq_getElem _⟩
  obtain ⟨x1, c1⟩ : ∃ x, w.cell? ⟨g, sp + 1, none⟩ = some x := ⟨cur[sp + 1]'(by omega), by rw [cell_of_row _ _ _ _ _ _ hg]; exact Array.getElem?_eq_getElem _⟩
  obtain ⟨x2, c2⟩ : ∃ x, w.cell? ⟨g, sp + 2, none⟩ = some x := ⟨cur[sp + 2]'(by omega), by rw [cell_of_row _ _ _ _ _ _ hg]; exact Array.getElem?_eq_getElem _⟩
  obtain ⟨x3, c3⟩ : ∃ x, w.cell? ⟨g, sp + 3, none⟩ = some x := ⟨cur[sp + 3]'(by omega), by rw [cell_of_row _ _ _ _ _ _ hg]; exact Array.getElem?_eq_getElem _⟩
  have f0 := frozen_of_row w g sp cur 5 hg
  have f1 := frozen_of_row w g (sp + 1) cur 5 hg
  have f2 := frozen_of_row w g (sp + 2) cur 5 hg
  have f3 := frozen_of_row w g (sp + 3) cur 5 hg
  clear hg hs
  go_enter Tryz.func146, Tryz.ntmps146
  go_wp2
  go_end0
  exact ⟨rfl, rfl⟩

theorem Buf.put {B : Nat → Prop} {w0 w : World} {g n c : Nat} {xs : List Int} (h : Buf B w0 w (.slice (some ⟨g, 0, none⟩) n c) xs) (j : Nat) (u : Int) : Buf B w0 (w.setCell ⟨g, j, none⟩ (.int .u8 u)) (.slice (some ⟨g, 0, none⟩) n c) (xs.set j u) := by
  obtain ⟨A, c', hv⟩ := h.len
  obtain ⟨rfl, rfl, rfl⟩ : A = some ⟨g, 0, none⟩ ∧ n = xs.length ∧ c = c' := by simpa [eq_comm] using hv
  have h2 := h.own.stored j (.int .u8 u)
  have e : bys (xs.set j u) = (bys xs).set j (.int .u8 u) := by unfold bys; rw [List.map_set]
  exact h.step h2.2 (by rw [List.length_set, e]; exact h2.1) (fun g' hg' => .inl hg')

theorem set4 (body : List Int) (x0 x1 x2 x3 a b c d : Int) : ∀ pre : List Int, ((((pre ++ [x0, x1, x2, x3] ++ body).set pre.length a).set (pre.length + 1) b).set (pre.length + 2) c).set (pre.length + 3) d = pre ++ [a, b, c, d] ++ body
  | [] => rfl
  | h :: t => by
    have ih := set4 body x0 x1 x2 x3 a b c d t
    simp only [List.cons_append, List.length_cons, Nat.add_right_comm t.length 1, List.set_cons_succ]
    rw [ih]

/-- The end of a message: its length is written at sp. -/
theorem finish_any {B : Nat → Prop} {w0 : World} (v : Value) (pre body : List Int) (x0 x1 x2 x3 : Int) (w : World)
    (hb : Buf B w0 w v (pre ++ [x0, x1, x2, x3] ++ body)) (hlen : pre.length + body.length ≤ 1000000) :
    Calls Tryz.prog 143 #[v, .int .i64 pre.length] w fun e w' => ∃ v', e = .returned (.tuple #[v', .nilIface]) ∧ Buf B w0 w' v' (pre ++ b32 (body.length + 4) ++ body) := by
  have hnn : (pre ++ [x0, x1, x2, x3] ++ body).length = pre.length + 4 + body.length := by simp; omega
  rcases hb.own.2 with ⟨_, hn⟩ | ⟨g, cap, cur, rfl, hbg, hg, hnc, hcm, hcs, htake⟩
  · omega
  rw [hnn] at hb hnc ⊢
  obtain ⟨p, hp⟩ : ∃ p, p = pre.length := ⟨_, rfl⟩
  obtain ⟨q, hq⟩ : ∃ q, q = body.length := ⟨_, rfl⟩
  rw [← hp, ← hq] at hb hnc ⊢
  have hp1 : p + q ≤ 1000000 := by omega
  have HB := Lib.hid hb
  have HG := Lib.hid hg
  have HP := Lib.hid hp
  have HQ := Lib.hid hq
  have hcur : p + 4 ≤ cur.size := by omega
  have hcm' : cap ≤ 9223372036854775807 := by unfold maxLen at hcm; exact hcm
  clear hb hg hp hq hnn hlen htake hcs hbg hcm
  go_enter Tryz.func143, Tryz.ntmps143
  go_wp2_with fail
  refine (setInt32 g p (p + 4 + q - p) (cap - p) ((p + 4 + q - p : Nat) : Int) w cur HG.out (by omega) (by omega) (by omega) hcur).mono ?_
  rintro e w' ⟨rfl, rfl⟩
  go_wp2_with fail
  go_ret2
  refine ⟨_, rfl, ?_⟩
  have h4 := (((HB.out.put p (((p + 4 + q - p : Nat) : Int) / 16777216)).put (p + 1) (((p + 4 + q - p : Nat) : Int) / 65536 % 256)).put (p + 2) (((p + 4 + q - p : Nat) : Int) / 256 % 256)).put (p + 3) (((p + 4 + q - p : Nat) : Int) % 256)
  have hl := set4 body x0 x1 x2 x3 (((p + 4 + q - p : Nat) : Int) / 16777216) (((p + 4 + q - p : Nat) : Int) / 65536 % 256) (((p + 4 + q - p : Nat) : Int) / 256 % 256) (((p + 4 + q - p : Nat) : Int) % 256) pre
  rw [← HP.out] at hl
  rw [hl] at h4
  have e4 : ((p + 4 + q - p : Nat) : Int) = (q : Int) + 4 := by omega
  rw [← b32_of (n := (q : Int) + 4) (by omega) (by omega), ← e4]
  exact h4
end Go.Proofs.YtdenjanihikolaaGreatDoor
