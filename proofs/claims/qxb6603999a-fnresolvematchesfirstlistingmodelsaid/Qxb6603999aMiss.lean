import Derived.Test.Qxb6603999aTarget
namespace Go.Proofs.Qxb6603999a.Miss
open Go.RowKit Go.Proofs.Qxb6603999a.Common Go.Proofs.Qxb6603999a.Model Go.Proofs.Qxb6603999a.Target

/-- the cells of a list of edges -/
def edg (l : List (ByteArray × ByteArray)) : List Value := l.flatMap fun p => [.string p.1, .string p.2]
theorem edg_snoc (l : List (ByteArray × ByteArray)) (p : ByteArray × ByteArray) : edg (l ++ [p]) = edg l ++ [.string p.1, .string p.2] := by simp [edg]
theorem edg_len (l : List (ByteArray × ByteArray)) : (edg l).length = l.length * 2 := by
  induction l with
  | nil => rfl
  | cons a p ih => simp only [edg, List.flatMap_cons, List.length_append, List.length_cons] at *; rw [ih]; simp; omega
def noEdge : ByteArray × ByteArray := (ByteArray.empty, ByteArray.empty)
theorem edg_at : ∀ (l : List (ByteArray × ByteArray)) (j : Nat), j < l.length * 2 → (edg l)[j]? = some (pair (fun i => .string (l.getD i noEdge).1) (fun i => .string (l.getD i noEdge).2) j)
  | [], j, h => by simp at h
  | p :: l, 0, _ => by simp [edg, pair]
  | p :: l, 1, _ => by simp [edg, pair]
  | p :: l, j + 2, h => by
    have ih := edg_at l j (by simp at h; omega)
    have e : (edg (p :: l))[j + 2]? = (edg l)[j]? := by simp [edg]
    rw [e, ih]
    have h1 : (j + 2) % 2 = j % 2 := by omega
    have h2 : (j + 2) / 2 = j / 2 + 1 := by omega
    simp [pair, h1, h2]

/-- What resolveModelMissing leaves. -/
def MMiss (l : List (ByteArray × ByteArray)) (w : World) (e : Ending) (w' : World) : Prop :=
  ∃ y c, e = .returned (.slice y l.length c) ∧ Below w.heap.size w w' ∧ RdE w' w.heap.size y l.length (fun j => (l.getD j noEdge).1) (fun j => (l.getD j noEdge).2)

/-- the edges of a node's missing ids -/
def me (idv : ByteArray) (s : Nat → ByteArray) (ok : ByteArray → Bool) (k : Nat) : List (ByteArray × ByteArray) := (mu idv s ok k).map fun x => (idv, x)
theorem me_len (idv : ByteArray) (s : Nat → ByteArray) (ok : ByteArray → Bool) (k : Nat) : (me idv s ok k).length ≤ k := by
  have := mu_len (idv := idv) (s := s) (ok := ok) k
  simpa [me] using this

theorem mu_mem_no {idv : ByteArray} {s : Nat → ByteArray} {ok : ByteArray → Bool} {k : Nat} {x : ByteArray} (h : ∀ j, j < k → s j ≠ x) : x ∉ mu idv s ok k := by
  intro hd; obtain ⟨j, h1, h2, _⟩ := (mem_mu k).1 hd; exact h j h1 h2

theorem cell_two {w : World} {a b : Value} {t : TypeId} : ∀ j u, [a, b][j]? = some u → (w.alloc (.cells #[a, b] t)).cell? ((⟨w.heap.size, 0, none⟩ : Addr).add j) = some u := cell_two_new w a b t
theorem str_two (a b : ByteArray) : ∀ u ∈ [Value.string a, Value.string b], u.oneCell' = true := by
  intro u hu
  simp only [List.mem_cons, List.not_mem_nil, or_false] at hu
  rcases hu with rfl | rfl <;> rfl

set_option maxHeartbeats 1000000 in
theorem f12_any (idv : ByteArray) (y : Option Addr) (m c B : Nat) (s : Nat → ByteArray) (mv : Value) (ok : ByteArray → Bool) (val : ByteArray → Int) (w : World) (h : RdS w B y m s) (hi : Idx w mv ok val) (hs : ∀ j, (s j).size ≤ maxLen) (hm : m ≤ 4096) :
    Calls Try.prog 12 #[.agg #[.string idv, .slice y m c], mv] w fun e w' => MMiss (me idv s ok m) w e w' := by
  obtain ⟨i0, hinf, hz0, hz1, hz2⟩ := info_parts info46
  have hbox : Below w.heap.size w (w.alloc (.cells #[.string idv, .slice y m c] 42)) := (Below.refl _ _).alloc (Nat.le_refl _) _
  have HX := hid h
  have HI := hid hi
  have HSZ := hid hs
  clear h hi hs
  go_enter Try.func12, Try.ntmps12
  go_wp2_with fail
  go_loopw [5, 6] (fun v i wr => ∃ (k : Nat) (yo : Option Addr) (cap : Nat), k ≤ m ∧ i = .int .i64 k ∧ v = .slice yo (me idv s ok k).length cap ∧ wr.ownsRow (w.heap.size + 1) 46 2 (.slice yo (me idv s ok k).length cap) (me idv s ok k).length (edg (me idv s ok k)) ∧ Below w.heap.size w wr ∧ wr.cell? ⟨w.heap.size, 0, none⟩ = some (.string idv) ∧ wr.cell? ⟨w.heap.size, 1, none⟩ = some (.slice y m c) ∧ w.heap.size < wr.heap.size) (fun _ i _ => m - (intOf i).toNat)
  case atStart => exact ⟨0, none, 0, Nat.zero_le _, rfl, rfl, World.ownsRow_nil _ _ _ _, hbox, by simp, by simp, by simp⟩
  case round =>
    obtain ⟨k, yo, cap, hk, rfl, rfl, hown, hbel, b0, b1, hsz⟩ := hrel
    have hdl := me_len idv s ok k
    obtain ⟨wo, hwo⟩ : ∃ wo, wo = wr := ⟨wr, rfl⟩
    subst hwo
    by_cases hlt : k < m
    · obtain ⟨b, off, hy, -, -, hc⟩ := (HX.out.below hbel).at1 hlt
      have HRX := hid (HX.out.below hbel)
      have hrun := hid (HI.out wo hbel (s k) (HSZ.out k))
      have HO := hid hown
      have HB := hid hbel
      subst hy
      clear hown hbel
      by_cases he : s k = idv
      · have he' : ((s k).toList == idv.toList) = true := by rw [eqs]; simpa using he
        have HE : Hid (me idv s ok (k + 1) = me idv s ok k) := by unfold Hid me; rw [mu_own he]
        clear he
        go_wp2_with fail
        go_roundw
        case rel => exact ⟨k + 1, yo, cap, by omega, by go_num, by rw [HE.out], by rw [HE.out]; exact HO.out, HB.out, b0, b1, hsz⟩
        case measure => simp [intOf]; omega
      · have he' : ((s k).toList == idv.toList) = false := by rw [eqs]; simpa using he
        cases hok : ok (s k) with
        | true =>
          have HE : Hid (me idv s ok (k + 1) = me idv s ok k) := by unfold Hid me; rw [mu_ok hok]
          rw [hok] at hrun
          clear he hok
          go_wp2_with (at_lookup; refine wpList_lookup_run _ rfl (.tmp 29) (.tmp 30) 23 true rfl _ _ _ rfl rfl hrun.out ?_)
          go_roundw
          case rel => exact ⟨k + 1, yo, cap, by omega, by go_num, by rw [HE.out], by rw [HE.out]; exact HO.out, HB.out, b0, b1, hsz⟩
          case measure => simp [intOf]; omega
        | false =>
          rw [hok] at hrun
          have HNE := hid he
          have HOK := hid hok
          clear he hok
          go_wp2_with (at_lookup; refine wpList_lookup_run _ rfl (.tmp 29) (.tmp 30) 23 true rfl _ _ _ rfl rfl hrun.out ?_)
          go_loop [10, 11] (fun f i => ∃ j : Nat, j ≤ k ∧ i = .int .i64 j ∧ f = .bool false ∧ Hid (∀ j', j' < j → s j' ≠ s k)) (fun _ i => k - (intOf i).toNat)
          case atStart => exact ⟨0, Nat.zero_le _, rfl, rfl, (fun j hj => by omega)⟩
          case round =>
            obtain ⟨j, hj, rfl, rfl, HJ⟩ := hrel
            by_cases hjk : j < k
            · obtain ⟨b', off', hy', -, -, hcj⟩ := HRX.out.at1 (k := j) (by omega)
              simp only [Option.some.injEq, Addr.mk.injEq, and_true] at hy'
              obtain ⟨rfl, rfl⟩ := hy'
              have hij : (j : Int) < m := by omega
              by_cases hf : s j = s k
              · have hf' : ((s j).toList == (s k).toList) = true := by rw [eqs]; simpa using hf
                have HE : Hid (me idv s ok (k + 1) = me idv s ok k) := by unfold Hid me; rw [mu_old ((mem_mu k).2 ⟨j, hjk, hf, HNE.out, HOK.out⟩)]
                clear hf
                go_wp2_with fail
                go_roundw
                case rel => exact ⟨k + 1, yo, cap, by omega, by go_num, by rw [HE.out], by rw [HE.out]; exact HO.out, HB.out, b0, b1, hsz⟩
                case measure => simp [intOf]; omega
              · have hf' : ((s j).toList == (s k).toList) = false := by rw [eqs]; simpa using hf
                have HF := hid hf
                clear hf
                go_wp2_with fail
                go_round
                case rel => exact ⟨j + 1, by omega, by go_num, rfl, fun j' h' => by by_cases e : j' = j; (subst e; exact HF.out); exact HJ.out j' (by omega)⟩
                case measure => simp [intOf]; omega
            · have hjk' : j = k := by omega
              subst hjk'
              have HE : Hid (me idv s ok (j + 1) = me idv s ok j ++ [(idv, s j)]) := by unfold Hid me; rw [mu_new HNE.out HOK.out (mu_mem_no HJ.out)]; simp
              go_wp2_with (at_builtin; refine wpList_append_own_at _ rfl (.tmp 49) (.tmp 54) 25 rfl (w.heap.size + 1) 46 i0 (.agg #[.string ByteArray.empty, .string ByteArray.empty]) 2 32 Try.underlying25 hinf hz0 hz1 hz2 rfl (by decide) _ _ _ rfl (HO.out.alloc _) ⟨wo.heap.size, 0, none⟩ 1 1 [.string idv, .string (s j)] rfl rfl cell_two (str_two _ _) ?c3 ?c4 ?c5 ?_)
              case c3 => unfold maxLen; omega
              case c4 => omega
              case c5 => first | omega | (simp; omega) | (show _ ≤ (World.alloc _ _).heap.size; rw [World.size_alloc]; omega)
              · intro v' w4 hown4 hgrow hnil hat
                obtain ⟨y4, cap4, hv⟩ := owns_form hown4
                subst hv
                rw [← edg_snoc _ (idv, s j), ← HE.out] at hown4
                have hlen : (me idv s ok j).length + 1 = (me idv s ok (j + 1)).length := by rw [HE.out]; simp
                rw [hlen] at hown4
                have hb4 := (HB.out.alloc (by omega) (.cells #[.string idv, .string (s j)] 46)).grown hgrow (by simp; omega) (fun g hg => by have := (HO.out.lt g hg).1; omega)
                have hgb : ∀ i v, wo.cell? ⟨w.heap.size, i, none⟩ = some v → w4.cell? ⟨w.heap.size, i, none⟩ = some v := fun i v hv => by
                  refine hgrow.cell (((Below.refl wo.heap.size wo).alloc (Nat.le_refl _) _).cell (p := ⟨w.heap.size, i, none⟩) hsz |>.trans hv) ?_
                  intro h
                  have := (HO.out.lt w.heap.size h.symm).1
                  omega
                have e0 := hgb 0 _ b0
                have e1 := hgb 1 _ b1
                have hs4 : w.heap.size < w4.heap.size := by have := hgrow.size; simp at this; omega
                have HO4 := hid hown4
                have HL := hid hlen
                clear hown4 hgrow hat hnil hgb hlen
                go_wp2_with fail
                go_roundw
                case rel => exact ⟨j + 1, y4, cap4, by omega, by go_num, by rw [HL.out], HO4.out, hb4, e0, e1, hs4⟩
                case measure => simp [intOf]; omega
    · have hkm : k = m := by omega
      subst hkm
      go_wp2_with fail
      go_ret
      exact ⟨_, _, rfl, hbel, (rd_of_owns hown fun j hj => edg_at _ j hj).carry (.of (Below.refl _ _)) (by omega)⟩
end Go.Proofs.Qxb6603999a.Miss
