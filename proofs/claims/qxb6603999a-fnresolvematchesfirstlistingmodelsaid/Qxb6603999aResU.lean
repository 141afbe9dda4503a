import Derived.Test.Qxb6603999aResT
namespace Go.Proofs.Qxb6603999a.Res
open Go.RowKit Go.Proofs.Qxb6603999a.Common Go.Proofs.Qxb6603999a.Model Go.Proofs.Qxb6603999a.Target Go.Proofs.Qxb6603999a.Fit Go.Proofs.Qxb6603999a.IdxFits Go.Proofs.Qxb6603999a.Deps Go.Proofs.Qxb6603999a.Miss Go.Proofs.Qxb6603999a.CopyP Go.Proofs.Qxb6603999a.MSet Go.Proofs.Qxb6603999a.Fam

variable {a : Nds} {ok : ByteArray → Bool} {val : ByteArray → Int} {N B0 gE gL gM gq b1 b2 b3 nM nS : Nat} {zM zS : Prop} {vD vC vM vS : Value} {mb : List (ByteArray × ByteArray)} {sb : List ByteArray} {w0 w : World}

def v0s (N B0 gE gL gq : Nat) (vM vS : Value) (j : Nat) : Value :=
  if j = 0 then .slice (some ⟨gq, 0, none⟩) 1 1 else if j = 1 then .slice (some ⟨B0, 0, none⟩) N N else if j = 2 then .slice (some ⟨gE, 0, none⟩) N N else if j = 3 then .slice (some ⟨gL, 0, none⟩) N N else if j = 4 then vM else if j = 5 then vS else .slice none 0 0
def n0s (N nM nS : Nat) (j : Nat) : Nat := if j = 0 then 1 else if j = 1 then N else if j = 2 then N else if j = 3 then N else if j = 4 then nM else if j = 5 then nS else 0
def x0s (N : Nat) (vD vM vS vC : Value) (mb : List (ByteArray × ByteArray)) (sb : List ByteArray) (j : Nat) : List Value :=
  if j = 0 then [vD, vM, vS, vC] else if j = 1 then vals N (fun _ => .slice none 0 0) else if j = 2 then vals N (fun _ => .slice none 0 0) else if j = 3 then vals N (fun _ => .int .i64 0) else if j = 4 then edg mb else if j = 5 then strs sb else []

theorem v0s_big {j : Nat} (h : 6 ≤ j) : v0s N B0 gE gL gq vM vS j = .slice none 0 0 := by
  unfold v0s; rw [if_neg (by omega), if_neg (by omega), if_neg (by omega), if_neg (by omega), if_neg (by omega), if_neg (by omega)]
theorem n0s_big {j : Nat} (h : 6 ≤ j) : n0s N nM nS j = 0 := by
  unfold n0s; rw [if_neg (by omega), if_neg (by omega), if_neg (by omega), if_neg (by omega), if_neg (by omega), if_neg (by omega)]
theorem x0s_big {j : Nat} (h : 6 ≤ j) : x0s N vD vM vS vC mb sb j = [] := by
  unfold x0s; rw [if_neg (by omega), if_neg (by omega), if_neg (by omega), if_neg (by omega), if_neg (by omega), if_neg (by omega)]

set_option maxRecDepth 20000 in
theorem RI.start (hB : B0 = w0.heap.size) (hq : QRow w gq vD vM vS vC) (oM : w.ownsRow b1 57 2 vM nM (edg mb)) (oS : w.ownsRow b2 9 1 vS nS (strs sb)) (o1 : w.ownsRow B0 39 1 (.slice (some ⟨B0, 0, none⟩) N N) N (vals N fun _ => .slice none 0 0)) (o2 : w.ownsRow B0 39 1 (.slice (some ⟨gE, 0, none⟩) N N) N (vals N fun _ => .slice none 0 0))
    (o3 : w.ownsRow B0 3 1 (.slice (some ⟨gL, 0, none⟩) N N) N (vals N fun _ => .int .i64 0)) (hh : Has w gM 0 fun _ _ => false) (hbel : Below w0.heap.size w0 w) (uM : Under vM b2) (uS : Under vS b3) (hM : nM = mb.length) (hS : nS = sb.length) (zMh : vM = .slice none 0 0 ↔ zM) (zSh : vS = .slice none 0 0 ↔ zS)
    (k1 : B0 < gE) (k2 : gE < gL) (k3 : gL < gM) (l0 : gq < b1) (l1 : b1 ≤ b2) (l2 : b2 ≤ b3) (l3 : b3 ≤ B0) :
    RI a ok val N B0 gE gL gM gq b1 b2 b3 nM nS zM zS vD vC mb sb w0 w 0 0 (v0s N B0 gE gL gq vM vS) (n0s N nM nS) (x0s N vD vM vS vC mb sb) 0 (fun _ _ => false) (fun _ => 0) := by
  have cls : ∀ j g, j < 7 + 2 * N → (v0s N B0 gE gL gq vM vS j).ownBlock = some g → (j = 0 ∧ g = gq) ∨ (j = 1 ∧ g = B0) ∨ (j = 2 ∧ g = gE) ∨ (j = 3 ∧ g = gL) ∨ (j = 4 ∧ b1 ≤ g ∧ g < b2) ∨ (j = 5 ∧ b2 ≤ g ∧ g < b3) := by
    intro j g _ hg
    rcases Nat.lt_or_ge j 6 with h | h
    · match j, h with
      | 0, _ => simp [v0s, Value.ownBlock] at hg; omega
      | 1, _ => simp [v0s, Value.ownBlock] at hg; omega
      | 2, _ => simp [v0s, Value.ownBlock] at hg; omega
      | 3, _ => simp [v0s, Value.ownBlock] at hg; omega
      | 4, _ =>
        have hg' : vM.ownBlock = some g := hg
        have h1 := (oM.lt g hg').1
        have h2 := uM g hg'
        omega
      | 5, _ =>
        have hg' : vS.ownBlock = some g := hg
        have h1 := (oS.lt g hg').1
        have h2 := uS g hg'
        omega
    · rw [v0s_big h] at hg; simp [Value.ownBlock] at hg
  have hlt := hh.lt
  exact
  { st := {
      own := fun j hj => by
        rcases Nat.lt_or_ge j 6 with h | h
        · match j, h with
          | 0, _ => exact hq
          | 1, _ => exact o1
          | 2, _ => exact o2
          | 3, _ => exact o3
          | 4, _ => exact oM
          | 5, _ => exact oS
        · rw [v0s_big h, n0s_big h, x0s_big h]; exact World.ownsRow_nil _ _ _ _
      apart := fun i j hi hj hne g hgi hgj => by have h1 := cls i g hi hgi; have h2 := cls j g hj hgj; omega
      may := fun j g hj hg => by have h1 := cls j g hj hg; show B0 ≤ g ∨ g = gq ∨ (b1 ≤ g ∧ g < b3); omega
      nil := fun j hj => by
        rcases Nat.lt_or_ge j 6 with h | h
        · match j, h with
          | 0, _ => exact ⟨Nat.le_refl _, by simp [v0s, shape]⟩
          | 1, _ => exact ⟨Nat.le_refl _, by simp [v0s, shape]⟩
          | 2, _ => exact ⟨Nat.le_refl _, by simp [v0s, shape]⟩
          | 3, _ => exact ⟨Nat.le_refl _, by simp [v0s, shape]⟩
          | 4, _ => exact ⟨Nat.le_refl _, ⟨fun e => ⟨zMh.1 e, rfl⟩, fun e => zMh.2 e.1⟩⟩
          | 5, _ => exact ⟨Nat.le_refl _, ⟨fun e => ⟨zSh.1 e, rfl⟩, fun e => zSh.2 e.1⟩⟩
        · rw [v0s_big h, n0s_big h]
          have e0 : (shape N B0 gE gL gM gq b1 b2 b3 nM nS zM zS).n0 j = 0 := by
            show (if j = 0 then 1 else if j = 1 then N else if j = 2 then N else if j = 3 then N else if j = 4 then nM else if j = 5 then nS else 0) = 0
            rw [if_neg (by omega), if_neg (by omega), if_neg (by omega), if_neg (by omega), if_neg (by omega), if_neg (by omega)]
          have ez : (shape N B0 gE gL gM gq b1 b2 b3 nM nS zM zS).z j := by
            show (if j = 4 then zM else if j = 5 then zS else 6 ≤ j)
            rw [if_neg (by omega), if_neg (by omega)]; omega
          rw [e0]
          exact ⟨Nat.le_refl _, ⟨fun _ => ⟨ez, rfl⟩, fun _ => rfl⟩⟩
      has := hh
      gm := by show B0 ≤ gM ∨ _; omega
      os := hbel.os, tape := hbel.tape, output := hbel.output, size := hbel.size
      block := fun b hb _ => hbel.block b hb
      new := fun b hb => by show B0 ≤ b ∨ _; omega }
    v0 := rfl, n0 := rfl, x0 := rfl, v1 := rfl, n1 := rfl
    x1 := by show vals N _ = vals N _; exact vals_congr fun j _ => by rw [v0s_big (by omega)]
    v2 := rfl, n2 := rfl
    x2 := by show vals N _ = vals N _; exact vals_congr fun j _ => by rw [v0s_big (by omega)]
    v3 := rfl, n3 := rfl, x3 := rfl
    x4 := by show edg mb = _; simp [ml, M, me, mu]
    n4 := by show nM = _; simp [ml, M, me, mu, hM]
    x5 := by show strs sb = _; simp [sl]
    n5 := by show nS = _; simp [sl, hS]
    x7 := fun j _ => by
      rw [x0s_big (by omega), n0s_big (by omega)]
      have : dl a ok val 0 0 j = [] := by unfold dl; rw [if_neg (by omega)]; split <;> rfl
      rw [this]; exact ⟨rfl, rfl⟩
    x8 := fun j _ => by
      rw [x0s_big (by omega), n0s_big (by omega)]
      have : el a ok val 0 0 j = [] := by unfold el; simp [D, du]
      rw [this]; exact ⟨rfl, rfl⟩
    lb := fun j _ => ⟨Int.le_refl _, by omega, fun e => by omega, fun e => absurd (D_zero 0 ▸ e) (by simp)⟩
    fm := fun i' s _ => ⟨(fun e => by cases e), fun e => absurd e.2 (by rw [mu_zero]; simp)⟩
    mm := Nat.zero_le _ }
end Go.Proofs.Qxb6603999a.Res
