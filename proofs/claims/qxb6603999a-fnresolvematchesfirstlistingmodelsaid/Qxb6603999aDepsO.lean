import Derived.Test.Qxb6603999aDeps
namespace Go.Proofs.Qxb6603999a.DepsO
open Go.RowKit Go.Proofs.Qxb6603999a.Common Go.Proofs.Qxb6603999a.Model Go.Proofs.Qxb6603999a.Target Go.Proofs.Qxb6603999a.Deps

/-- What resolveModelDeps leaves: a row of its own. -/
def MOwn (l : List Int) (w : World) (e : Ending) (w' : World) : Prop :=
  ∃ y c, e = .returned (.slice y l.length c) ∧ (y = none ↔ l = []) ∧ Below w.heap.size w w' ∧ w'.ownsRow w.heap.size 3 1 (.slice y l.length c) l.length (ints l)

set_option maxHeartbeats 1000000 in
theorem f10_own (idv : ByteArray) (y : Option Addr) (m c B : Nat) (s : Nat → ByteArray) (mv : Value) (ok : ByteArray → Bool) (val : ByteArray → Int) (w : World) (h : RdS w B y m s) (hi : Idx w mv ok val) (hs : ∀ j, (s j).size ≤ maxLen) (hm : m ≤ 4096) :
    Calls Try.prog 10 #[.agg #[.string idv, .slice y m c], mv] w fun e w' => MOwn (du idv s ok val m) w e w' := by
  obtain ⟨i0, hinf, hz0, hz1, hz2⟩ := info_parts info3
  have hbox : Below w.heap.size w (w.alloc (.cells #[.string idv, .slice y m c] 42)) := (Below.refl _ _).alloc (Nat.le_refl _) _
  have HX := hid h
  have HI := hid hi
  have HSZ := hid hs
  clear h hi hs
  go_enter Try.func10, Try.ntmps10
  go_wp2_with fail
  go_loopw [5, 6] (fun v i wr => ∃ (k : Nat) (yo : Option Addr) (cap : Nat), k ≤ m ∧ i = .int .i64 k ∧ v = .slice yo (du idv s ok val k).length cap ∧ wr.ownsRow (w.heap.size + 1) 3 1 (.slice yo (du idv s ok val k).length cap) (du idv s ok val k).length (ints (du idv s ok val k)) ∧ Hid (du idv s ok val k = [] → yo = none) ∧ Below w.heap.size w wr ∧ wr.cell? ⟨w.heap.size, 0, none⟩ = some (.string idv) ∧ wr.cell? ⟨w.heap.size, 1, none⟩ = some (.slice y m c) ∧ w.heap.size < wr.heap.size) (fun _ i _ => m - (intOf i).toNat)
  case atStart => exact ⟨0, none, 0, Nat.zero_le _, rfl, rfl, World.ownsRow_nil _ _ _ _, fun _ => rfl, hbox, by simp, by simp, by simp⟩
  case round =>
    obtain ⟨k, yo, cap, hk, rfl, rfl, hown, HN, hbel, b0, b1, hsz⟩ := hrel
    have hdl := du_len (idv := idv) (s := s) (ok := ok) (val := val) k
    obtain ⟨wo, hwo⟩ : ∃ wo, wo = wr := ⟨wr, rfl⟩
    subst hwo
    by_cases hlt : k < m
    · have HO := hid hown
      have HB := hid hbel
      clear hown hbel
      go_wp2_with fail
      refine (f19_any idv y m c B k s mv ok val _ (HX.out.below HB.out) (HI.out.below HB.out) HSZ.out hlt).mono ?_
      rintro e w1 ⟨d, rfl, hb1, hd⟩
      have hs1 := hb1.size
      have b0' : w1.cell? ⟨w.heap.size, 0, none⟩ = some (.string idv) := (hb1.cell (p := ⟨w.heap.size, 0, none⟩) hsz).trans b0
      have b1' : w1.cell? ⟨w.heap.size, 1, none⟩ = some (.slice y m c) := (hb1.cell (p := ⟨w.heap.size, 1, none⟩) hsz).trans b1
      have HB1 := hid hb1
      have HD := hid hd
      clear hb1 hd
      cases ht : tg idv ok val (s k) with
      | none =>
        have HE := hid (du_none ht)
        have HOd := hid (owns_below HO.out HB1.out)
        clear ht
        simp only [Option.isSome_none]
        go_wp2_with fail
        go_roundw
        case rel => exact ⟨k + 1, yo, cap, by omega, by go_num, by rw [HE.out], by rw [HE.out]; exact HOd.out, by rw [HE.out]; exact HN, HB.out.trans (HB1.out.mono HB.out.size), b0', b1', by omega⟩
        case measure => simp [intOf]; omega
      | some d0 =>
        have hdd : d = d0 := HD.out d0 ht
        subst hdd
        have HT := hid ht
        clear ht
        simp only [Option.isSome_some]
        go_wp2_with fail
        go_loopw [9, 10] (fun f i w2 => ∃ j : Nat, j ≤ k ∧ i = .int .i64 j ∧ f = .bool true ∧ Hid (∀ j', j' < j → tg idv ok val (s j') ≠ some d) ∧ Below w1.heap.size w1 w2) (fun _ i _ => k - (intOf i).toNat)
        case atStart => exact ⟨0, Nat.zero_le _, rfl, rfl, (fun j hj => by omega), Below.refl _ _⟩
        case round =>
          obtain ⟨j, hj, rfl, rfl, HJ, hb2⟩ := hrel
          have hs2 := hb2.size
          have b0'' : wr.cell? ⟨w.heap.size, 0, none⟩ = some (.string idv) := (hb2.cell (p := ⟨w.heap.size, 0, none⟩) (by show w.heap.size < _; omega)).trans b0'
          have b1'' : wr.cell? ⟨w.heap.size, 1, none⟩ = some (.slice y m c) := (hb2.cell (p := ⟨w.heap.size, 1, none⟩) (by show w.heap.size < _; omega)).trans b1'
          have hbA : Below w.heap.size w wr := HB.out.trans ((HB1.out.trans (hb2.mono HB1.out.size)).mono HB.out.size)
          have HBA := hid hbA
          have HOd := hid (owns_below (owns_below HO.out HB1.out) hb2)
          have HB2 := hid hb2
          clear hbA hb2
          by_cases hjk : j < k
          · go_wp2_with fail
            refine (f19_any idv y m c B j s mv ok val _ (HX.out.below HBA.out) (HI.out.below HBA.out) HSZ.out (by omega)).mono ?_
            rintro e w3 ⟨d3, rfl, hb3, hd3⟩
            have HB3 := hid hb3
            have hs3 := hb3.size
            have e0 : w3.cell? ⟨w.heap.size, 0, none⟩ = some (.string idv) := (hb3.cell (p := ⟨w.heap.size, 0, none⟩) (by show w.heap.size < _; omega)).trans b0''
            have e1 : w3.cell? ⟨w.heap.size, 1, none⟩ = some (.slice y m c) := (hb3.cell (p := ⟨w.heap.size, 1, none⟩) (by show w.heap.size < _; omega)).trans b1''
            have HD3 := hid hd3
            clear hb3 hd3
            by_cases hfound : tg idv ok val (s j) = some d
            · have hd3 : d3 = d := HD3.out d hfound
              subst hd3
              have HE := hid (du_old HT.out ((mem_du k).2 ⟨j, hjk, hfound⟩))
              rw [hfound]
              clear hfound
              simp only [Option.isSome_some]
              have HOe := hid (owns_below HOd.out HB3.out)
              go_wp2_with fail
              go_roundw
              case rel => exact ⟨k + 1, yo, cap, by omega, by go_num, by rw [HE.out], by rw [HE.out]; exact HOe.out, by rw [HE.out]; exact HN, HBA.out.trans (HB3.out.mono HBA.out.size), e0, e1, by omega⟩
              case measure => simp [intOf]; omega
            · have HJ' : Hid (∀ j', j' < j + 1 → tg idv ok val (s j') ≠ some d) := fun j' h' => by
                by_cases e : j' = j
                · subst e; exact hfound
                · exact HJ.out j' (by omega)
              cases ht3 : tg idv ok val (s j) with
              | none =>
                clear ht3 hfound
                simp only [Option.isSome_none]
                go_wp2_with fail
                go_roundw
                case rel => exact ⟨j + 1, by omega, by go_num, rfl, HJ', HB2.out.trans (HB3.out.mono HB2.out.size)⟩
                case measure => simp [intOf]; omega
              | some d4 =>
                have hd4 : (d3 == d) = false := by
                  have : d3 = d4 := HD3.out d4 ht3
                  subst this
                  simp only [beq_eq_false_iff_ne]
                  intro e; subst e; exact hfound ht3
                clear ht3 hfound
                simp only [Option.isSome_some]
                go_wp2_with fail
                go_roundw
                case rel => exact ⟨j + 1, by omega, by go_num, rfl, HJ', HB2.out.trans (HB3.out.mono HB2.out.size)⟩
                case measure => simp [intOf]; omega
          · have hjk' : j = k := by omega
            subst hjk'
            have HE := hid (du_new HT.out (du_mem_no HJ.out))
            go_wp2_with (at_builtin; refine wpList_append_own_at _ rfl (.tmp 48) (.tmp 50) 39 rfl (w.heap.size + 1) 3 i0 (.int .i64 0) 1 8 Try.underlying39 hinf hz0 hz1 hz2 rfl (by decide) _ _ _ rfl (HOd.out.alloc _) ⟨wr.heap.size, 0, none⟩ 1 1 [.int .i64 d] rfl rfl (cell_one_new _ _ _) (ints_oneCell .i64 [d]) ?c3 ?c4 ?c5 ?_)
            case c3 => unfold maxLen; omega
            case c4 => omega
            case c5 => simp; omega
            · intro v' w4 hown4 hgrow hnil hat
              obtain ⟨y4, cap4, hv⟩ := owns_form hown4
              subst hv
              rw [← ints_snoc, ← HE.out] at hown4
              have hlen : (du idv s ok val j).length + 1 = (du idv s ok val (j + 1)).length := by rw [HE.out]; simp
              rw [hlen] at hown4
              have hb4 := (HBA.out.alloc (by omega) (.cells #[.int .i64 d] 3)).grown hgrow (by simp; omega) (fun g hg => by have := (HOd.out.lt g hg).1; omega)
              have hgb : ∀ i v, wr.cell? ⟨w.heap.size, i, none⟩ = some v → w4.cell? ⟨w.heap.size, i, none⟩ = some v := fun i v hv => by
                refine hgrow.cell (((Below.refl wr.heap.size wr).alloc (Nat.le_refl _) _).cell (p := ⟨w.heap.size, i, none⟩) (by show w.heap.size < _; omega) |>.trans hv) ?_
                intro h
                have := (HOd.out.lt w.heap.size h.symm).1
                omega
              have e0 := hgb 0 _ b0''
              have e1 := hgb 1 _ b1''
              have hs4 : w.heap.size < w4.heap.size := by have := hgrow.size; simp at this; omega
              have HO4 := hid hown4
              have HL := hid hlen
              clear hown4 hgrow hat hnil hgb hlen
              go_wp2_with fail
              go_roundw
              case rel => exact ⟨j + 1, y4, cap4, by omega, by go_num, by rw [HL.out], HO4.out, by rw [HE.out]; intro h; simp at h, hb4, e0, e1, hs4⟩
              case measure => simp [intOf]; omega
    · have hkm : k = m := by omega
      subst hkm
      go_wp2_with fail
      go_ret
      refine ⟨_, _, rfl, ⟨fun h => ?_, HN.out⟩, hbel, owns_base hown (by omega)⟩
      subst h
      rcases hown.2 with ⟨_, h2⟩ | ⟨g, cap', cur, h1, _⟩
      · exact List.eq_nil_of_length_eq_zero h2
      · simp at h1
end Go.Proofs.Qxb6603999a.DepsO
