import Derived.Test.Qxb6605609aAxA
namespace Go.Proofs.Qxb6605609a
open Go.RowKit Go.Deep Go.MapKept

/-- What the guard tells. -/
def Bounds (lk lb : List ByteArray) (mb : List (List ByteArray)) (la : List ByteArray) (ma : List (List ByteArray)) : Prop :=
  lk.length ≤ 1048576 ∧ lb.length ≤ 1048576 ∧ (mb.length ≤ 1048576 ∧ RowsLe mb 1048576) ∧ la.length ≤ 1048576 ∧ (ma.length ≤ 1048576 ∧ RowsLe ma 1048576)

set_option maxHeartbeats 2000000 in
set_option maxRecDepth 100000 in
theorem bytes7_any (vk vb vmb va vma : Value) (lk lb : List ByteArray) (mb : List (List ByteArray)) (la : List ByteArray) (ma : List (List ByteArray)) (w : World) (hk : StrsAt w vk lk) (hb : StrsAt w vb lb) (hmb : ListsAt w vmb mb) (ha : StrsAt w va la) (hma : ListsAt w vma ma) :
    Calls Try.prog 7 #[vk, vb, vmb, va, vma] w fun e w' => BoolSaid e (Bounds lk lb mb la ma) ∧ w = w' := by
  obtain ⟨ak, ck, bk, ok, rfl, _, hAk, hCk⟩ := hk
  obtain ⟨ab, cb, bb, ob, rfl, _, hAb, hCb⟩ := hb
  obtain ⟨amb, cmb, bmb, omb, rfl, _, hAmb, hCmb⟩ := hmb
  obtain ⟨aa, ca, ba, oa, rfl, _, hAa, hCa⟩ := ha
  obtain ⟨ama, cma, bma, oma, rfl, _, hAma, hCma⟩ := hma
  have Ak : Hid (0 < lk.length → ak = some ⟨bk, ok, none⟩) := hAk
  have Ck : Hid (∀ i, i < lk.length → w.cell? ⟨bk, ok + i, none⟩ = some (.string (lk.getD i ⟨#[]⟩))) := hCk
  have Ab : Hid (0 < lb.length → ab = some ⟨bb, ob, none⟩) := hAb
  have Cb : Hid (∀ i, i < lb.length → w.cell? ⟨bb, ob + i, none⟩ = some (.string (lb.getD i ⟨#[]⟩))) := hCb
  have Aa : Hid (0 < la.length → aa = some ⟨ba, oa, none⟩) := hAa
  have Ca : Hid (∀ i, i < la.length → w.cell? ⟨ba, oa + i, none⟩ = some (.string (la.getD i ⟨#[]⟩))) := hCa
  have Amb : Hid (0 < mb.length → amb = some ⟨bmb, omb, none⟩) := hAmb
  have Cmb : Hid (∀ i, i < mb.length → ∃ rv, w.cell? ⟨bmb, omb + i, none⟩ = some rv ∧ StrsAt w rv (mb.getD i [])) := hCmb
  have Ama : Hid (0 < ma.length → ama = some ⟨bma, oma, none⟩) := hAma
  have Cma : Hid (∀ i, i < ma.length → ∃ rv, w.cell? ⟨bma, oma + i, none⟩ = some rv ∧ StrsAt w rv (ma.getD i [])) := hCma
  clear hAk hAb hAmb hAa hAma hCk hCb hCmb hCa hCma
  go_enter Try.func7, Try.ntmps7
  by_cases gk : (1048576 : Int) < lk.length
  · go_wp2
    all_goals try (go_ret; exact ⟨said_no _, rfl⟩)
  · have gk2 : lk.length ≤ 1048576 := by omega
    have HGk : Hid (lk.length ≤ 1048576) := gk2
    go_wp2
    all_goals try (go_ret; exact ⟨said_no _, rfl⟩)
    go_loop [11, 12] (fun t i => ∃ (k : Nat) (x : Int), k ≤ lk.length ∧ i = .int .i64 k ∧ t = .int .i64 x ∧ 0 ≤ x ∧ x ≤ 1048576) (fun _ i => lk.length - (intOf i).toNat)
    case atStart => exact ⟨0, _, Nat.zero_le _, rfl, rfl, by omega, by omega⟩
    case round =>
      obtain ⟨k, x, hk, rfl, rfl, hx0, hx1⟩ := hrel
      by_cases hlt : k < lk.length
      · obtain rfl := Ak.out (by omega)
        have c1 := Ck.out k hlt
        have i1 : (k : Int) < (lk.length : Int) := by omega
        generalize lk.getD k ⟨#[]⟩ = y at *
        go_wp2
        all_goals try (go_ret; exact ⟨said_no _, rfl⟩)
        go_round
        case rel => exact ⟨k + 1, _, by omega, by go_num, rfl, by omega, by omega⟩
        case measure => simp [intOf]; omega
      · clear Ak Ck
        by_cases gb : (1048576 : Int) < lb.length
        · go_wp2
          all_goals try (go_ret; exact ⟨said_no _, rfl⟩)
        · have gb2 : lb.length ≤ 1048576 := by omega
          have HGb : Hid (lb.length ≤ 1048576) := gb2
          go_wp2
          all_goals try (go_ret; exact ⟨said_no _, rfl⟩)
          go_loop [11, 13] (fun t i => ∃ (k : Nat) (x : Int), k ≤ lb.length ∧ i = .int .i64 k ∧ t = .int .i64 x ∧ 0 ≤ x ∧ x ≤ 1048576) (fun _ i => lb.length - (intOf i).toNat)
          case atStart => exact ⟨0, _, Nat.zero_le _, rfl, rfl, by omega, by omega⟩
          case round =>
            obtain ⟨k, x, hk, rfl, rfl, hx0, hx1⟩ := hrel
            by_cases hlt : k < lb.length
            · obtain rfl := Ab.out (by omega)
              have c1 := Cb.out k hlt
              have i1 : (k : Int) < (lb.length : Int) := by omega
              generalize lb.getD k ⟨#[]⟩ = y at *
              go_wp2
              all_goals try (go_ret; exact ⟨said_no _, rfl⟩)
              go_round
              case rel => exact ⟨k + 1, _, by omega, by go_num, rfl, by omega, by omega⟩
              case measure => simp [intOf]; omega
            · clear Ab Cb
              by_cases gmb : (1048576 : Int) < mb.length
              · go_wp2
                all_goals try (go_ret; exact ⟨said_no _, rfl⟩)
              · have gmb2 : mb.length ≤ 1048576 := by omega
                have HGmb : Hid (mb.length ≤ 1048576) := gmb2
                go_wp2
                all_goals try (go_ret; exact ⟨said_no _, rfl⟩)
                go_loop [11, 14] (fun t i => ∃ (k : Nat) (x : Int), k ≤ mb.length ∧ i = .int .i64 k ∧ t = .int .i64 x ∧ 0 ≤ x ∧ x ≤ 1048576 ∧ Hid (∀ j, j < k → (mb.getD j []).length ≤ 1048576)) (fun _ i => mb.length - (intOf i).toNat)
                case atStart => exact ⟨0, _, Nat.zero_le _, rfl, rfl, by omega, by omega, fun j hj => absurd hj (Nat.not_lt_zero j)⟩
                case round =>
                  obtain ⟨k, x, hk, rfl, rfl, hx0, hx1, HJ⟩ := hrel
                  by_cases hlt : k < mb.length
                  · obtain rfl := Amb.out (by omega)
                    obtain ⟨rv, c1, s1⟩ := Cmb.out k hlt
                    have i1 : (k : Int) < (mb.length : Int) := by omega
                    obtain ⟨row, hrow⟩ : ∃ row, row = mb.getD k [] := ⟨_, rfl⟩
                    have HRow : Hid (row = mb.getD k []) := hrow
                    rw [← hrow] at s1
                    clear hrow
                    obtain ⟨ar, cr, br, orr, rfl, _, hAr, hCr⟩ := s1
                    have Ar : Hid (0 < row.length → ar = some ⟨br, orr, none⟩) := hAr
                    have Cr : Hid (∀ i, i < row.length → w.cell? ⟨br, orr + i, none⟩ = some (.string (row.getD i ⟨#[]⟩))) := hCr
                    clear hAr hCr
                    by_cases gr : (1048576 : Int) < row.length
                    · go_wp2
                      all_goals try (go_ret; exact ⟨said_no _, rfl⟩)
                    · have gr2 : row.length ≤ 1048576 := by omega
                      have HJ2 : Hid (∀ j, j < k + 1 → (mb.getD j []).length ≤ 1048576) := all_succ HJ.out (by rw [← HRow.out]; exact gr2)
                      clear HJ HRow
                      go_wp2
                      all_goals try (go_ret; exact ⟨said_no _, rfl⟩)
                      go_loop [11, 15] (fun t i => ∃ (k : Nat) (x : Int), k ≤ row.length ∧ i = .int .i64 k ∧ t = .int .i64 x ∧ 0 ≤ x ∧ x ≤ 1048576) (fun _ i => row.length - (intOf i).toNat)
                      case atStart => exact ⟨0, _, Nat.zero_le _, rfl, rfl, by omega, by omega⟩
                      case round =>
                        obtain ⟨k2, x2, hk2, rfl, rfl, hx20, hx21⟩ := hrel
                        by_cases hlt2 : k2 < row.length
                        · obtain rfl := Ar.out (by omega)
                          have c2 := Cr.out k2 hlt2
                          have i2 : (k2 : Int) < (row.length : Int) := by omega
                          generalize row.getD k2 ⟨#[]⟩ = y at *
                          go_wp2
                          all_goals try (go_ret; exact ⟨said_no _, rfl⟩)
                          go_round
                          case rel => exact ⟨k2 + 1, _, by omega, by go_num, rfl, by omega, by omega⟩
                          case measure => simp [intOf]; omega
                        · go_wp2
                          go_round
                          case rel => exact ⟨k + 1, _, by omega, by go_num, rfl, by omega, by omega, HJ2⟩
                          case measure => simp [intOf]; omega
                  · obtain rfl : k = mb.length := by omega
                    have HRmb : Hid (RowsLe mb 1048576) := HJ.out
                    clear Amb Cmb HJ
                    by_cases ga : (1048576 : Int) < la.length
                    · go_wp2
                      all_goals try (go_ret; exact ⟨said_no _, rfl⟩)
                    · have ga2 : la.length ≤ 1048576 := by omega
                      have HGa : Hid (la.length ≤ 1048576) := ga2
                      go_wp2
                      all_goals try (go_ret; exact ⟨said_no _, rfl⟩)
                      go_loop [11, 16] (fun t i => ∃ (k : Nat) (x : Int), k ≤ la.length ∧ i = .int .i64 k ∧ t = .int .i64 x ∧ 0 ≤ x ∧ x ≤ 1048576) (fun _ i => la.length - (intOf i).toNat)
                      case atStart => exact ⟨0, _, Nat.zero_le _, rfl, rfl, by omega, by omega⟩
                      case round =>
                        obtain ⟨k, x, hk, rfl, rfl, hx0, hx1⟩ := hrel
                        by_cases hlt : k < la.length
                        · obtain rfl := Aa.out (by omega)
                          have c1 := Ca.out k hlt
                          have i1 : (k : Int) < (la.length : Int) := by omega
                          generalize la.getD k ⟨#[]⟩ = y at *
                          go_wp2
                          all_goals try (go_ret; exact ⟨said_no _, rfl⟩)
                          go_round
                          case rel => exact ⟨k + 1, _, by omega, by go_num, rfl, by omega, by omega⟩
                          case measure => simp [intOf]; omega
                        · clear Aa Ca
                          by_cases gma : (1048576 : Int) < ma.length
                          · go_wp2
                            all_goals try (go_ret; exact ⟨said_no _, rfl⟩)
                          · have gma2 : ma.length ≤ 1048576 := by omega
                            have HGma : Hid (ma.length ≤ 1048576) := gma2
                            go_wp2
                            all_goals try (go_ret; exact ⟨said_no _, rfl⟩)
                            go_loop [11, 17] (fun t i => ∃ (k : Nat) (x : Int), k ≤ ma.length ∧ i = .int .i64 k ∧ t = .int .i64 x ∧ 0 ≤ x ∧ x ≤ 1048576 ∧ Hid (∀ j, j < k → (ma.getD j []).length ≤ 1048576)) (fun _ i => ma.length - (intOf i).toNat)
                            case atStart => exact ⟨0, _, Nat.zero_le _, rfl, rfl, by omega, by omega, fun j hj => absurd hj (Nat.not_lt_zero j)⟩
                            case round =>
                              obtain ⟨k, x, hk, rfl, rfl, hx0, hx1, HJ⟩ := hrel
                              by_cases hlt : k < ma.length
                              · obtain rfl := Ama.out (by omega)
                                obtain ⟨rv, c1, s1⟩ := Cma.out k hlt
                                have i1 : (k : Int) < (ma.length : Int) := by omega
                                obtain ⟨row, hrow⟩ : ∃ row, row = ma.getD k [] := ⟨_, rfl⟩
                                have HRow : Hid (row = ma.getD k []) := hrow
                                rw [← hrow] at s1
                                clear hrow
                                obtain ⟨ar, cr, br, orr, rfl, _, hAr, hCr⟩ := s1
                                have Ar : Hid (0 < row.length → ar = some ⟨br, orr, none⟩) := hAr
                                have Cr : Hid (∀ i, i < row.length → w.cell? ⟨br, orr + i, none⟩ = some (.string (row.getD i ⟨#[]⟩))) := hCr
                                clear hAr hCr
                                by_cases gr : (1048576 : Int) < row.length
                                · go_wp2
                                  all_goals try (go_ret; exact ⟨said_no _, rfl⟩)
                                · have gr2 : row.length ≤ 1048576 := by omega
                                  have HJ2 : Hid (∀ j, j < k + 1 → (ma.getD j []).length ≤ 1048576) := all_succ HJ.out (by rw [← HRow.out]; exact gr2)
                                  clear HJ HRow
                                  go_wp2
                                  all_goals try (go_ret; exact ⟨said_no _, rfl⟩)
                                  go_loop [11, 18] (fun t i => ∃ (k : Nat) (x : Int), k ≤ row.length ∧ i = .int .i64 k ∧ t = .int .i64 x ∧ 0 ≤ x ∧ x ≤ 1048576) (fun _ i => row.length - (intOf i).toNat)
                                  case atStart => exact ⟨0, _, Nat.zero_le _, rfl, rfl, by omega, by omega⟩
                                  case round =>
                                    obtain ⟨k2, x2, hk2, rfl, rfl, hx20, hx21⟩ := hrel
                                    by_cases hlt2 : k2 < row.length
                                    · obtain rfl := Ar.out (by omega)
                                      have c2 := Cr.out k2 hlt2
                                      have i2 : (k2 : Int) < (row.length : Int) := by omega
                                      generalize row.getD k2 ⟨#[]⟩ = y at *
                                      go_wp2
                                      all_goals try (go_ret; exact ⟨said_no _, rfl⟩)
                                      go_round
                                      case rel => exact ⟨k2 + 1, _, by omega, by go_num, rfl, by omega, by omega⟩
                                      case measure => simp [intOf]; omega
                                    · go_wp2
                                      go_round
                                      case rel => exact ⟨k + 1, _, by omega, by go_num, rfl, by omega, by omega, HJ2⟩
                                      case measure => simp [intOf]; omega
                              · obtain rfl : k = ma.length := by omega
                                have HRma : Hid (RowsLe ma 1048576) := HJ.out
                                clear Ama Cma HJ
                                go_wp2
                                go_ret
                                exact ⟨said_yes ⟨HGk.out, HGb.out, ⟨HGmb.out, HRmb.out⟩, HGa.out, HGma.out, HRma.out⟩, rfl⟩
end Go.Proofs.Qxb6605609a
