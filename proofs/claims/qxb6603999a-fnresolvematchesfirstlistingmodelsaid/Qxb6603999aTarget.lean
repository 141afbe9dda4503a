import Derived.Test.Qxb6603999aCommon
import Derived.Test.Qxb6603999aModel
namespace Go.Proofs.Qxb6603999a.Target
open Go.RowKit Go.Proofs.Qxb6603999a.Common Go.Proofs.Qxb6603999a.Model

/-- A look-up of which the run is known. -/
theorem wpList_lookup_run {P : Program} (w : World) {ops : Array Oper} {rest : List Oper} {o : Oper} {a : Act} {Q : Exit → Act → World → Prop}
    (hg : o.guard = none) (m x : Operand) (t : TypeId) (c : Bool) (hop : o.op = Op.lookup t m x c) (M K v : Value) (hm : a.eval m = M) (hx : a.eval x = K) (hrun : (Instr.lookup t M K c).run P w = .ok v w)
    (hK : wpList P ops Q rest (a.put o.dst v) w) : wpList P ops Q (o :: rest) a w := by
  refine wpList_plain hg fun K' hK' => ?_
  unfold Oper.wp
  simp [execOp, hop, hm, hx, hrun, Result.andThen]
  exact hK' _ _ hK

/-- What the index answers, in every later world. -/
def Idx (w : World) (mv : Value) (ok : ByteArray → Bool) (val : ByteArray → Int) : Prop :=
  ∀ w', Below w.heap.size w w' → ∀ x : ByteArray, x.size ≤ maxLen → (Instr.lookup 23 mv (.string x) true).run Try.prog w' = .ok (.tuple #[.int .i64 (val x), .bool (ok x)]) w'
theorem Idx.below {w w' : World} {mv : Value} {ok : ByteArray → Bool} {val : ByteArray → Int} (h : Idx w mv ok val) (hb : Below w.heap.size w w') : Idx w' mv ok val :=
  fun w2 h2 x hx => h w2 (hb.trans (h2.mono hb.size)) x hx

theorem su_no {idv : ByteArray} {s : Nat → ByteArray} {k : Nat} (h : ∀ j, j < k → s j ≠ idv) : su idv s k = false := by
  cases hs : su idv s k with
  | false => rfl
  | true => obtain ⟨j, h1, h2⟩ := (su_of k).1 hs; exact absurd h2 (h j h1)

set_option maxHeartbeats 400000 in
theorem f13_any (idv : ByteArray) (y : Option Addr) (m c B : Nat) (s : Nat → ByteArray) (w : World) (h : RdS w B y m s) (hm : m ≤ 4096) :
    Calls Try.prog 13 #[.agg #[.string idv, .slice y m c]] w fun e w' => e = .returned (.bool (su idv s m)) ∧ Below w.heap.size w w' := by
  have HX := hid h
  clear h
  have hbox : Below w.heap.size w (w.alloc (.cells #[.string idv, .slice y m c] 42)) := (Below.refl _ _).alloc (Nat.le_refl _) _
  go_enter Try.func13, Try.ntmps13
  go_wp2
  go_loopw [3] (fun i wr => ∃ k : Nat, k ≤ m ∧ i = .int .i64 k ∧ Hid (∀ j, j < k → s j ≠ idv) ∧ Below w.heap.size w wr ∧ wr.cell? ⟨w.heap.size, 0, none⟩ = some (.string idv) ∧ wr.cell? ⟨w.heap.size, 1, none⟩ = some (.slice y m c)) (fun i _ => m - (intOf i).toNat)
  case atStart => exact ⟨0, Nat.zero_le _, rfl, (fun j hj => by omega), hbox, by simp, by simp⟩
  case round =>
    obtain ⟨k, hk, rfl, HK, hbel, b0, b1⟩ := hrel
    by_cases hlt : k < m
    · obtain ⟨b, off, hx, -, -, hc⟩ := (HX.out.below hbel).at1 hlt
      subst hx
      have hi : (k : Int) < m := by omega
      by_cases he : s k = idv
      · have he' : ((s k).toList == idv.toList) = true := by rw [eqs]; simpa using he
        have HE := hid he
        clear he
        go_wp2_with fail
        go_quiet (fail)
        go_wp2
        go_ret
        exact ⟨ret_bool ((su_of m).2 ⟨k, hlt, HE.out⟩).symm, below_drewN hbel _⟩
      · have he' : ((s k).toList == idv.toList) = false := by rw [eqs]; simpa using he
        have HE := hid he
        clear he
        go_wp2_with fail
        go_quiet (fail)
        go_wp2
        go_roundw
        case rel => exact ⟨k + 1, by omega, by go_num, (fun j hj => by by_cases e : j = k; (subst e; exact HE.out); exact HK.out j (by omega)), below_drewN hbel _, b0, b1⟩
        case measure => simp [intOf]; omega
    · have hkm : k = m := by omega
      subst hkm
      go_wp2
      go_ret
      exact ⟨ret_bool (su_no HK.out).symm, hbel⟩

/-- What resolveTarget answers. -/
def Tgt (t : Option Int) (w : World) (e : Ending) (w' : World) : Prop :=
  ∃ d : Int, e = .returned (.tuple #[.int .i64 d, .bool t.isSome]) ∧ Below w.heap.size w w' ∧ (∀ x, t = some x → d = x)

set_option maxHeartbeats 400000 in
theorem f19_any (idv : ByteArray) (y : Option Addr) (m c B k : Nat) (s : Nat → ByteArray) (mv : Value) (ok : ByteArray → Bool) (val : ByteArray → Int) (w : World) (h : RdS w B y m s) (hi : Idx w mv ok val) (hs : ∀ j, (s j).size ≤ maxLen) (hk : k < m) :
    Calls Try.prog 19 #[.agg #[.string idv, .slice y m c], mv, .int .i64 k] w fun e w' => Tgt (tg idv ok val (s k)) w e w' := by
  have hbox : Below w.heap.size w (w.alloc (.cells #[.string idv, .slice y m c] 42)) := (Below.refl _ _).alloc (Nat.le_refl _) _
  obtain ⟨b, off, hx, -, -, hc⟩ := (h.below hbox).at1 hk
  have hrun := hid (hi _ hbox (s k) (hs k))
  subst hx
  have hik : (k : Int) < m := by omega
  have HB := hid hbox
  clear h hi hs hbox
  by_cases he : s k = idv
  · have he' : ((s k).toList == idv.toList) = true := by rw [eqs]; simpa using he
    have HT := hid (tg_own (ok := ok) (val := val) he)
    clear he
    go_enter Try.func19, Try.ntmps19
    go_wp2
    go_ret2
    rw [HT.out]
    exact ⟨-1, rfl, HB.out, by simp⟩
  · have he' : ((s k).toList == idv.toList) = false := by rw [eqs]; simpa using he
    cases hok : ok (s k) with
    | true =>
      have HT := hid (tg_yes (val := val) he hok)
      rw [hok] at hrun
      clear he hok
      go_enter Try.func19, Try.ntmps19
      go_wp2_with (at_lookup; refine wpList_lookup_run _ rfl (.tmp 21) (.tmp 22) 23 true rfl _ _ _ rfl rfl hrun.out ?_)
      go_ret2
      rw [HT.out]
      exact ⟨val (s k), rfl, HB.out, fun x hx => by simpa using hx⟩
    | false =>
      have HT := hid (tg_no (idv := idv) (val := val) hok)
      rw [hok] at hrun
      clear he hok
      go_enter Try.func19, Try.ntmps19
      go_wp2_with (at_lookup; refine wpList_lookup_run _ rfl (.tmp 21) (.tmp 22) 23 true rfl _ _ _ rfl rfl hrun.out ?_)
      go_ret2
      rw [HT.out]
      exact ⟨val (s k), rfl, HB.out, by simp⟩
end Go.Proofs.Qxb6603999a.Target
