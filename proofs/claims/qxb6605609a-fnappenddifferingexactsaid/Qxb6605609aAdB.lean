import Derived.Test.Qxb6605609aAdA
namespace Go.Proofs.Qxb6605609a
open Go.RowKit Go.Deep

set_option maxHeartbeats 400000 in
theorem strBytes_any (v : Value) (l : List ByteArray) (w : World) (h : StrsAt w v l) (hn : l.length ≤ 9223372036854775807) :
    Calls Try.prog 8 #[v] w fun e w' => (∃ t : Int, e = .returned (.int .i64 t)) ∧ w = w' := by
  obtain ⟨ao, cap, b, off, rfl, _, hA, hc⟩ := h
  have HA : Hid (0 < l.length → ao = some ⟨b, off, none⟩) := hA
  clear hA
  go_enter Try.func8, Try.ntmps8
  go_wp2
  go_loop [3, 4] (fun t i => ∃ (k : Nat) (x : Int), k ≤ l.length ∧ i = .int .i64 k ∧ t = .int .i64 x) (fun _ i => l.length - (intOf i).toNat)
  case atStart => exact ⟨0, 0, Nat.zero_le _, rfl, rfl⟩
  case round =>
    obtain ⟨k, x, hk, rfl, rfl⟩ := hrel
    by_cases hlt : k < l.length
    · obtain rfl := HA.out (by omega)
      have c1 := hc k hlt
      have i1 : (k : Int) < (l.length : Int) := by omega
      clear hc
      generalize l.getD k ⟨#[]⟩ = y at *
      go_wp2
      · go_ret
        exact ⟨⟨_, rfl⟩, rfl⟩
      · go_ret
        exact ⟨⟨_, rfl⟩, rfl⟩
      · go_round
        case rel => exact ⟨k + 1, _, by omega, by go_num, rfl⟩
        case measure => simp [intOf]; omega
    · go_wp2
      go_ret
      exact ⟨⟨_, rfl⟩, rfl⟩

theorem Try.info9 : (Try.prog.info? 9).map (fun i => (i.zero, i.size, i.bytes)) = some (some (.string ⟨#[]⟩), 1, 16) := by kernel_rfl
theorem Try.size9 : (Try.prog.info? 9).map (·.size) = some 1 := by kernel_rfl

theorem addr_add (b off i : Nat) : (⟨b, off, none⟩ : Addr).add i = ⟨b, off + i, none⟩ := by
  unfold Addr.add
  split
  · simp_all
  · rfl

/-- A slice without spare. -/
def Full (v : Value) (l : List ByteArray) : Prop := ∃ ao, v = .slice ao l.length l.length

set_option maxHeartbeats 400000 in
theorem clone_any (v : Value) (l : List ByteArray) (w : World) (h : StrsAt w v l) (hn : l.length ≤ 1048576) :
    Calls Try.prog 10 #[v] w fun e w' => ∃ v', e = .returned v' ∧ StrsAt w' v' l ∧ Full v' l ∧ Below w.heap.size w w' := by
  obtain ⟨ao, cap, b, off, rfl, hnil, hA, hc⟩ := h
  cases ao with
  | none =>
    obtain ⟨rfl, rfl⟩ := hnil rfl
    have hnl := fun w n c n' c' => Lib.run_eql_slice_nil (P := Try.prog) w 22 9 none n c n' c' Try.underlying22
    go_enter Try.func10, Try.ntmps10
    go_wp2
    go_ret
    exact ⟨_, rfl, ⟨none, 0, 0, 0, rfl, fun _ => ⟨rfl, rfl⟩, fun h => by simp at h, fun i hi => by simp at hi⟩, ⟨none, rfl⟩, Below.refl _ _⟩
  | some a =>
    have hnl := fun w n c n' c' => Lib.run_eql_slice_nil (P := Try.prog) w 22 9 (some a) n c n' c' Try.underlying22
    have hmk := run_make_row' (P := Try.prog) 22 9 (.string ⟨#[]⟩) 16 Try.underlying22 Try.info9 rfl .i64 .i64 l.length (by omega) (by omega)
    go_enter Try.func10, Try.ntmps10
    obtain ⟨X, hX⟩ : ∃ X, X = l.map Value.string := ⟨_, rfl⟩
    obtain ⟨Z, hZ⟩ : ∃ Z, Z = (madeCells #[Value.string ⟨#[]⟩] l.length).toList := ⟨_, rfl⟩
    have HX : Hid (X = l.map Value.string) := hX
    have HZ : Hid (Z = (madeCells #[Value.string ⟨#[]⟩] l.length).toList) := hZ
    have lX : X.length = l.length := by rw [hX]; simp
    have lZ : Z.length = l.length := by rw [hZ]; simp [size_madeCells]
    clear hX hZ
    go_wp2_with (refine wpList_copy_splice rfl (.tmp 9) (.tmp 10) 22 22 rfl 9 Try.underlying22 Try.size9 _ _ _ _ _ _ rfl rfl w.heap.size 0 Z 9 ?hg X ?hn ?hpos ?hfit ?h1 w.heap.size w ?hb (Nat.le_refl _) ?_)
    case hg => rw [HZ.out]; simpa using heap_alloc_new w _
    case hn => rw [lX]; simp
    case hpos =>
      intro hp
      try refine ⟨rfl, a, rfl, ?_⟩
      intro j u hj
      rw [HX.out] at hj
      obtain ⟨hjl, hju⟩ := List.getElem?_eq_some_iff.1 hj
      simp only [List.length_map] at hjl
      simp only [List.getElem_map] at hju
      have e1 := hA (by omega)
      simp only [Option.some.injEq] at e1
      subst e1
      have := hc j hjl
      rw [addr_add, World.cell?_alloc_lt _ _ _ (World.block_lt_of_cell? w _ this), this, ← hju, getD_mem l j hjl]
    case hfit => rw [lX, lZ]; omega
    case h1 => intro u hu; rw [HX.out] at hu; simp at hu; obtain ⟨y, _, rfl⟩ := hu; rfl
    case hb => exact (Below.refl _ _).alloc (Nat.le_refl _) _
    intro w1 HG hb1
    have hsp : splice Z 0 X = l.map Value.string := by
      rw [← HX.out]
      simp [splice, lX, lZ]
    go_wp2_with fail
    go_ret
    refine ⟨_, rfl, ⟨some ⟨w.heap.size, 0, none⟩, l.length, w.heap.size, 0, rfl, fun h => by simp at h, fun _ => rfl, fun i hi => ?_⟩, ⟨_, rfl⟩, hb1⟩
    have hg := HG.out
    rw [hsp] at hg
    simp [World.cell?, hg, List.getD, hi]

set_option maxHeartbeats 400000 in
theorem isPlus_no (vg vk : Value) (lk : List ByteArray) (key : ByteArray) (w : World) (hg : StrsAt w vg lk) (hkk : StrsAt w vk lk) (hn : lk.length ≤ 1048576) :
    Calls Try.prog 16 #[vg, vk, .string key, .bool false] w fun e w' => e = .returned (.bool true) ∧ ∃ q, w' = w.drewN q := by
  obtain ⟨ao, capa, ba, offa, rfl, _, hA, hcA⟩ := hg
  obtain ⟨bo, capb, bb, offb, rfl, _, hB, hcB⟩ := hkk
  have HA : Hid (0 < lk.length → ao = some ⟨ba, offa, none⟩) := hA
  have HB : Hid (0 < lk.length → bo = some ⟨bb, offb, none⟩) := hB
  clear hA hB
  have HG : ∀ k, k < lk.length → lk.getD k ⟨#[]⟩ = lk.getD k ⟨#[]⟩ := fun _ _ => rfl
  · clear HG
    go_enter Try.func16, Try.ntmps16
    go_wp2
    go_loopw [10] (fun i wr => ∃ k : Nat, k ≤ lk.length ∧ i = .int .i64 k ∧ ∃ q, wr = w.drewN q) (fun i _ => lk.length - (intOf i).toNat)
    case atStart => exact ⟨0, Nat.zero_le _, rfl, 0, rfl⟩
    case round =>
      obtain ⟨k, hk, rfl, q, rfl⟩ := hrel
      by_cases hlt : k < lk.length
      · obtain rfl := HB.out (by omega)
        have hlt2 : k < lk.length := by omega
        obtain rfl := HA.out (by omega)
        have c1 := hcA k hlt2
        have c2 := hcB k hlt
        have i1 : (k : Int) < ((lk.length : Nat) : Int) := by omega
        have i2 : (k : Int) < (lk.length : Int) := by omega
        clear hcA hcB
        generalize lk.getD k ⟨#[]⟩ = y at *
        go_wp2
        go_quiet (fail)
        go_wp2
        go_roundw
        case rel => exact ⟨k + 1, by omega, by go_num, _, rfl⟩
        case measure => simp [intOf]; omega
      · go_wp2
        go_ret
        exact ⟨rfl, _, rfl⟩

set_option maxHeartbeats 400000 in
theorem isPlus_yes (vg vk : Value) (lk : List ByteArray) (key : ByteArray) (w : World) (hg : StrsAt w vg (lk ++ [key])) (hkk : StrsAt w vk lk) (hn : lk.length ≤ 1048576) :
    Calls Try.prog 16 #[vg, vk, .string key, .bool true] w fun e w' => e = .returned (.bool true) ∧ ∃ q, w' = w.drewN q := by
  obtain ⟨ao, capa, ba, offa, rfl, _, hA, hcA⟩ := hg
  obtain ⟨bo, capb, bb, offb, rfl, _, hB, hcB⟩ := hkk
  have el : (lk ++ [key]).length = lk.length + 1 := by simp
  rw [el] at hA hcA ⊢
  obtain rfl := hA (by omega)
  have HB : Hid (0 < lk.length → bo = some ⟨bb, offb, none⟩) := hB
  have HA : Hid (0 < lk.length + 1 → some (⟨ba, offa, none⟩ : Addr) = some ⟨ba, offa, none⟩) := fun _ => rfl
  have HG : Hid (∀ k, k < lk.length → (lk ++ [key]).getD k ⟨#[]⟩ = lk.getD k ⟨#[]⟩) := fun k hk => by simp [List.getD, List.getElem?_append_left hk]
  have cN := hcA lk.length (by omega)
  rw [show (lk ++ [key]).getD lk.length ⟨#[]⟩ = key by simp [List.getD]] at cN
  have iN : (lk.length : Int) < (lk.length : Int) + 1 := by omega
  clear hA hB el
  · go_enter Try.func16, Try.ntmps16
    go_wp2
    clear cN iN
    go_loopw [10] (fun i wr => ∃ k : Nat, k ≤ lk.length ∧ i = .int .i64 k ∧ ∃ q, wr = w.drewN q) (fun i _ => lk.length - (intOf i).toNat)
    case atStart => exact ⟨0, Nat.zero_le _, rfl, 0, rfl⟩
    case round =>
      obtain ⟨k, hk, rfl, q, rfl⟩ := hrel
      by_cases hlt : k < lk.length
      · obtain rfl := HB.out (by omega)
        have hlt2 : k < lk.length + 1 := by omega
        have c1 := hcA k hlt2
        have c2 := hcB k hlt
        have i1 : (k : Int) < ((lk.length + 1 : Nat) : Int) := by omega
        have i2 : (k : Int) < (lk.length : Int) := by omega
        rw [HG.out k hlt] at c1
        clear hcA hcB
        generalize lk.getD k ⟨#[]⟩ = y at *
        go_wp2
        go_quiet (fail)
        go_wp2
        go_roundw
        case rel => exact ⟨k + 1, by omega, by go_num, _, rfl⟩
        case measure => simp [intOf]; omega
      · go_wp2
        go_ret
        exact ⟨rfl, _, rfl⟩
end Go.Proofs.Qxb6605609a
