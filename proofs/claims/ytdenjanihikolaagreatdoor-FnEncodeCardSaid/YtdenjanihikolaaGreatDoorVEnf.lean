/- Encode and Bytes: the row's description. -/
import Derived.Test.YtdenjanihikolaaGreatDoorVEnb
import Derived.Test.YtdenjanihikolaaGreatDoorVMkn
namespace Go.Proofs.YtdenjanihikolaaGreatDoor
open Go.RowKit
set_option linter.unusedVariables false
set_option linter.unusedSimpArgs false
set_option maxRecDepth 100000

theorem eF57 (a b : ByteArray) (n : Int) (v4 v5 v6 v7 v8 v9 v10 v11 : Value) (fs : List Sf) (A12 : Option Addr) (c12 : Nat) (w : World) (HL : Hid (RdM 7 isSf w (.slice A12 fs.length c12) fs)) (hlf : fs.length ≤ 20) (hgf : ∀ y ∈ fs, y.name.size ≤ 200 ∧ 0 ≤ y.tab ∧ y.tab < 4294967296 ∧ 0 ≤ y.typ ∧ y.typ < 4294967296 ∧ 0 ≤ y.col ∧ y.col ≤ 32767 ∧ -32768 ≤ y.siz ∧ y.siz ≤ 32767 ∧ -2147483648 ≤ y.mdf ∧ y.mdf < 2147483648 ∧ 0 ≤ y.fmt ∧ y.fmt ≤ 1) (R : List Int) (HR : Hid (R = msgB 84 (b16 fs.length ++ (fs.map toFd).flatMap fdB))) : Calls Tryz.prog 14 #[.agg #[.int .i64 57, .string a, .string b, .int .u32 n, v4, v5, v6, v7, v8, v9, v10, v11, .slice A12 fs.length c12]] w (Encs w R) :=
  enc14 233 333 _ _ _ _ _ _ _ _ _ _ _ _ _ w R me57 ce57 fun w' hx => made_dflt 233 333 236 #[.slice none 0 0] 57 n _ _ _ _ _ _ _ _ _ _ _ w' R (by decide) emp57 fun w1 bk hx1 hbk hblk => ans57 a b n v4 v5 v6 v7 v8 v9 v10 v11 fs A12 c12 w' w1 bk (Lib.hid (HL.out.ext hx (fun _ _ h => h))) hlf hgf hx1 hbk hblk R HR
theorem fd_sf (x : Sf) : fdB (toFd x) = sfB x := by
  simp only [fdB, toFd, sfB, txt, numB2, numB4, List.append_assoc]
theorem fds_sfs (l : List Sf) : (l.map toFd).flatMap fdB = l.flatMap sfB := by
  rw [List.flatMap_map]
  congr 1
  funext x
  exact fd_sf x
theorem sfs_len (l : List Sf) (h : ∀ y ∈ l, y.name.size ≤ 200) (hl : l.length ≤ 20) : (numB (l.length : Int) 2 ++ l.flatMap sfB).length ≤ 100000000000 := by
  have h1 := flat_len sfB 221 l fun x hx => by
    have := h x hx
    simp only [sfB, txt, List.length_append, List.length_cons, List.length_nil, sby_length, numB_len]
    omega
  simp only [List.length_append, numB_len]
  omega
theorem en57 (a b : ByteArray) (n mm : Int) (A5 A6 A7 A8 A9 A10 A11 A12 B7 B10 B11 : Option Addr) (c5 c6 c7 c8 c9 c10 c11 c12 d7 d10 d11 : Nat) (lf lr ty d : List Int) (vls : List (Bool × List Int)) (ws : List ByteArray) (ps : List (ByteArray × ByteArray)) (fs : List Sf) (w wx : World) (hl : RdM 7 isSf w (.slice A12 fs.length c12) fs) (hlf : fs.length ≤ 20) (hgf : ∀ y ∈ fs, y.name.size ≤ 200 ∧ 0 ≤ y.tab ∧ y.tab < 4294967296 ∧ 0 ≤ y.typ ∧ y.typ < 4294967296 ∧ 0 ≤ y.col ∧ y.col ≤ 32767 ∧ -32768 ≤ y.siz ∧ y.siz ≤ 32767 ∧ -2147483648 ≤ y.mdf ∧ y.mdf < 2147483648 ∧ 0 ≤ y.fmt ∧ y.fmt ≤ 1) (hlx : RdM 7 isSf wx (.slice B11 fs.length d11) fs) : ∃ R, Calls Tryz.prog 14 #[.agg #[.int .i64 57, .string a, .string b, .int .u32 n, .int .u32 mm, .slice A5 lf.length c5, .slice A6 lr.length c6, .slice A7 ty.length c7, .slice A8 vls.length c8, .slice A9 d.length c9, .slice A10 ws.length c10, .slice A11 ps.length c11, .slice A12 fs.length c12]] w (Encs w R) ∧ (∀ wy, Ext wx wy → Calls Tryz.prog 15 #[.agg #[.int .i64 57, .string a, .string b, .int .u32 n, .slice A5 lf.length c5, .slice A6 lr.length c6, .slice A7 ty.length c7, .slice B7 vls.length d7, .slice A9 d.length c9, .slice A10 ws.length c10, .slice B10 ps.length d10, .slice B11 fs.length d11]] wy (Gave wy R)) := by
  refine ⟨allB 84 (numB (fs.length : Int) 2 ++ fs.flatMap sfB), ?_, ?_⟩
  · exact eF57 a b n (.int .u32 mm) (.slice A5 lf.length c5) (.slice A6 lr.length c6) (.slice A7 ty.length c7) (.slice A8 vls.length c8) (.slice A9 d.length c9) (.slice A10 ws.length c10) (.slice A11 ps.length c11) fs A12 c12 w (Lib.hid hl) hlf hgf _ (Lib.hid (by rw [all_msg (L := 84) (by decide), fds_sfs, numB2]))
  · intro wy hy
    exact bytes_gen 57 a b n (.slice A5 lf.length c5) (.slice A6 lr.length c6) (.slice A7 ty.length c7) (.slice B7 vls.length d7) (.slice A9 d.length c9) (.slice A10 ws.length c10) (.slice B10 ps.length d10) (.slice B11 fs.length d11) wy 84 _ (sfs_len fs (fun y hy => (hgf y hy).1) hlf) (by decide) letter57 fun w' hx0 => body57 a b n (.slice A5 lf.length c5) (.slice A6 lr.length c6) (.slice A7 ty.length c7) (.slice B7 vls.length d7) (.slice A9 d.length c9) (.slice A10 ws.length c10) (.slice B10 ps.length d10) (.slice B11 fs.length d11) w' fs B11 d11 rfl (hlx.ext (hy.trans hx0) (fun _ _ h => h)) (by omega) (fun y hy => ⟨by have := (hgf y hy).1; omega, (hgf y hy).2.1, (hgf y hy).2.2.1, (hgf y hy).2.2.2.1, (hgf y hy).2.2.2.2.1⟩) _ rfl
end Go.Proofs.YtdenjanihikolaaGreatDoor

