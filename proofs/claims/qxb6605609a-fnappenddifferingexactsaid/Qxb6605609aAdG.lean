import Derived.Test.Qxb6605609aAdF
namespace Go.Proofs.Qxb6605609a
open Go.RowKit Go.Deep Go.MapKept

theorem hid {p : Prop} (h : p) : Hid p := h

/-- No repeat, and just one name that can stand in it. -/
theorem ext_one {ext : List ByteArray} {key : ByteArray} {p : Prop} (hn : ext.Nodup) (hm : ∀ k, k ∈ ext ↔ (k = key ∧ p)) : (p → ext = [key]) ∧ (¬ p → ext = []) := by
  constructor
  · intro hp
    have h1 : key ∈ ext := (hm key).2 ⟨rfl, hp⟩
    match ext, hn, hm, h1 with
    | [a], _, hm, h1 => rw [((hm a).1 (by simp)).1]
    | a :: b :: r, hn, hm, _ =>
      have ha := ((hm a).1 (by simp)).1
      have hb := ((hm b).1 (by simp)).1
      rw [ha, hb] at hn
      simp at hn
  · intro hp
    cases ext with
    | nil => rfl
    | cons a r => exact absurd ((hm a).1 (by simp)).2 hp

theorem p1_both (key : ByteArray) (lx ly : List ByteArray) (k : ByteArray) : P1 (F1 key lx) (F1 key ly) k ↔ (k = key ∧ lx ≠ ly) := by
  unfold P1 F1
  by_cases h : k = key
  · simp [h]
  · simp [h]
theorem p1_before (key : ByteArray) (lx : List ByteArray) (k : ByteArray) : P1 (F1 key lx) F0 k ↔ (k = key ∧ 0 < lx.length) := by
  unfold P1 F1 F0
  by_cases h : k = key
  · simp [h, List.length_pos_iff]
  · simp [h]
theorem p1_after (key : ByteArray) (ly : List ByteArray) (k : ByteArray) : P1 F0 (F1 key ly) k ↔ (k = key ∧ 0 < ly.length) := by
  unfold P1 F1 F0
  by_cases h : k = key
  · simp [h, List.length_pos_iff, eq_comm]
  · simp [h]
theorem p1_neither (k : ByteArray) : P1 F0 F0 k ↔ False := by
  unfold P1 F0; simp

theorem two_maps (w : World) (oa ob : Obj) : Below w.heap.size w ((w.alloc oa).alloc ob) ∧ ((w.alloc oa).alloc ob).heap[w.heap.size]? = some oa ∧ ((w.alloc oa).alloc ob).heap[w.heap.size + 1]? = some ob := by
  refine ⟨((Below.refl _ _).alloc (Nat.le_refl _) _).alloc (by simp) _, ?_, ?_⟩
  · rw [Go.heap_alloc_old _ _ (by simp)]
    exact Go.heap_alloc_new w _
  · have := Go.heap_alloc_new (w.alloc oa) ob
    simpa using this

theorem isPlus_if (vg vk : Value) (lk x : List ByteArray) (key : ByteArray) (t : Bool) (w : World) (hg : StrsAt w vg (lk ++ x)) (hkk : StrsAt w vk lk) (hn : lk.length ≤ 1048576) (h1 : t = true → x = [key]) (h2 : t = false → x = []) :
    Calls Try.prog 16 #[vg, vk, .string key, .bool t] w fun e w' => e = .returned (.bool true) ∧ ∃ q, w' = w.drewN q := by
  cases t
  · obtain rfl := h2 rfl
    rw [List.append_nil] at hg
    exact isPlus_no vg vk lk key w hg hkk hn
  · obtain rfl := h1 rfl
    exact isPlus_yes vg vk lk key w hg hkk hn

set_option maxHeartbeats 2000000 in
set_option maxRecDepth 100000 in
theorem oneKey_walk (vk vx vy : Value) (key : ByteArray) (lk lx ly : List ByteArray) (w : World) (hk : StrsAt w vk lk) (hx : StrsAt w vx lx) (hy : StrsAt w vy ly) (nk : lk.length ≤ 9223372036854775807) (nx : lx.length ≤ 9223372036854775807) (ny : ly.length ≤ 9223372036854775807) :
    Calls Try.prog 4 #[vk, .string key, vx, vy] w fun e w' => e = .returned (.bool true) ∧ Below w.heap.size w w' := by
  have HK : Hid (StrsAt w vk lk) := hk
  have HX : Hid (StrsAt w vx lx) := hx
  have HY : Hid (StrsAt w vy ly) := hy
  clear hk hx hy
  go_enter Try.func4, Try.ntmps4
  go_wp2_with fail
  refine (bytes15_any vk vx vy key lk lx ly w HK.out HX.out HY.out).mono ?_
  rintro e w1 ⟨⟨t, rfl, ht⟩, rfl⟩
  cases t
  · go_wp2_with fail
    go_ret
    exact ⟨rfl, Below.refl _ _⟩
  obtain ⟨bk, bx, bY⟩ := ht rfl
  clear ht
  go_wp2_with fail
  refine (strBytes_any vk lk w HK.out nk).mono ?_
  rintro e w1 ⟨⟨t1, rfl⟩, rfl⟩
  go_wp2_with fail
  refine (strBytes_any vx lx w HX.out nx).mono ?_
  rintro e w1 ⟨⟨t2, rfl⟩, rfl⟩
  go_wp2_with fail
  refine (strBytes_any vy ly w HY.out ny).mono ?_
  rintro e w1 ⟨⟨t3, rfl⟩, rfl⟩
  generalize hS : (wrap64 (wrap64 (wrap64 (wrap64 (t1 + 16) + ↑key.size) + t2) + t3)) = S
  clear hS
  have hmm := @run_makeMap Try.prog
  have hfirst := run_first'
  go_wp2_with fail
  · go_ret
    exact ⟨rfl, Below.refl _ _⟩
  refine (clone_any vk lk w HK.out bk).mono ?_
  rintro e w1 ⟨vk1, rfl, sk, _, b1⟩
  go_wp2_with fail
  refine (clone_any vx lx w1 (HX.out.below b1) bx).mono ?_
  rintro e w2 ⟨vx1, rfl, sx, _, b2⟩
  have sk := sk.below b2
  have hy2 := (HY.out.below b1).below b2
  have b2 : Below w.heap.size w w2 := b1.trans (b2.mono b1.size)
  clear b1 HK HX HY
  go_wp2_with fail
  refine (clone_any vy ly w2 hy2 bY).mono ?_
  rintro e w3 ⟨vy1, rfl, sy, _, b3⟩
  have sk := sk.below b3
  have sx := sx.below b3
  have b3 : Below w.heap.size w w3 := b2.trans (b3.mono b2.size)
  clear b2 hy2
  have HK : Hid (StrsAt w3 vk1 lk) := sk
  have HX : Hid (StrsAt w3 vx1 lx) := sx
  have HY : Hid (StrsAt w3 vy1 ly) := sy
  clear sk sx sy
  go_wp2_with fail
  refine (clone_any vk1 lk w3 HK.out bk).mono ?_
  rintro e w4 ⟨vk2, rfl, s2, f2, b4⟩
  have HK := hid (HK.out.below b4)
  have HX := hid (HX.out.below b4)
  have HY := hid (HY.out.below b4)
  have HS2 := hid s2
  have HF2 := hid f2
  have b4 : Below w.heap.size w w4 := b3.trans (b4.mono b3.size)
  clear b3 s2 f2
  go_wp2_with fail
  have h2 := two_maps w4 (.map #[{ key := .string key, val := vx1, born := 0 }] 1) (.map #[{ key := .string key, val := vy1, born := 0 }] 1)
  generalize ((w4.alloc _).alloc _) = w5 at h2 ⊢
  obtain ⟨b5, q1, q2⟩ := h2
  refine (zzAppend_any vk2 _ _ lk (F1 key lx) (F1 key ly) w5 (HS2.out.below b5) HF2.out (map_one q1 (HX.out.below b5) bx) (map_one q2 (HY.out.below b5) bY) bk).mono ?_
  rintro e w6 ⟨g1, x1, rfl, sg1, n1, m1, b6⟩
  have E1 := hid (ext_one n1 (fun k => (m1 k).trans (p1_both key lx ly k)))
  have HK := hid ((HK.out.below b5).below b6)
  have HX := hid ((HX.out.below b5).below b6)
  have HY := hid ((HY.out.below b5).below b6)
  have G1 := hid sg1
  have b6 : Below w.heap.size w w6 := (b4.trans (b5.mono b4.size)).trans (b6.mono (Nat.le_trans b4.size b5.size))
  clear b4 b5 q1 q2 n1 m1 sg1 HS2 HF2
  go_wp2_with fail
  refine (clone_any vk1 lk w6 HK.out bk).mono ?_
  rintro e w7 ⟨vk3, rfl, s2, f2, b7⟩
  have HK := hid (HK.out.below b7)
  have HX := hid (HX.out.below b7)
  have HY := hid (HY.out.below b7)
  have G1 := hid (G1.out.below b7)
  have HS2 := hid s2
  have HF2 := hid f2
  have b7 : Below w.heap.size w w7 := b6.trans (b7.mono b6.size)
  clear b6 s2 f2
  go_wp2_with fail
  have h2 := two_maps w7 (.map #[{ key := .string key, val := vx1, born := 0 }] 1) (.map #[] 0)
  generalize ((w7.alloc _).alloc _) = w8 at h2 ⊢
  obtain ⟨b8, q1, q2⟩ := h2
  refine (zzAppend_any vk3 _ _ lk (F1 key lx) F0 w8 (HS2.out.below b8) HF2.out (map_one q1 (HX.out.below b8) bx) (map_zero q2) bk).mono ?_
  rintro e w9 ⟨g2, x2, rfl, sg2, n2, m2, b9⟩
  have E2 := hid (ext_one n2 (fun k => (m2 k).trans (p1_before key lx k)))
  have HK := hid ((HK.out.below b8).below b9)
  have HX := hid ((HX.out.below b8).below b9)
  have HY := hid ((HY.out.below b8).below b9)
  have G1 := hid ((G1.out.below b8).below b9)
  have G2 := hid sg2
  have b9 : Below w.heap.size w w9 := (b7.trans (b8.mono b7.size)).trans (b9.mono (Nat.le_trans b7.size b8.size))
  clear b7 b8 q1 q2 n2 m2 sg2 HS2 HF2
  go_wp2_with fail
  refine (clone_any vk1 lk w9 HK.out bk).mono ?_
  rintro e w10 ⟨vk4, rfl, s2, f2, b10⟩
  have HK := hid (HK.out.below b10)
  have HX := hid (HX.out.below b10)
  have HY := hid (HY.out.below b10)
  have G1 := hid (G1.out.below b10)
  have G2 := hid (G2.out.below b10)
  have HS2 := hid s2
  have HF2 := hid f2
  have b10 : Below w.heap.size w w10 := b9.trans (b10.mono b9.size)
  clear b9 s2 f2
  go_wp2_with fail
  have h2 := two_maps w10 (.map #[] 0) (.map #[{ key := .string key, val := vy1, born := 0 }] 1)
  generalize ((w10.alloc _).alloc _) = w11 at h2 ⊢
  obtain ⟨b11, q1, q2⟩ := h2
  refine (zzAppend_any vk4 _ _ lk F0 (F1 key ly) w11 (HS2.out.below b11) HF2.out (map_zero q1) (map_one q2 (HY.out.below b11) bY) bk).mono ?_
  rintro e w12 ⟨g3, x3, rfl, sg3, n3, m3, b12⟩
  have E3 := hid (ext_one n3 (fun k => (m3 k).trans (p1_after key ly k)))
  have HK := hid ((HK.out.below b11).below b12)
  have HX := hid ((HX.out.below b11).below b12)
  have HY := hid ((HY.out.below b11).below b12)
  have G1 := hid ((G1.out.below b11).below b12)
  have G2 := hid ((G2.out.below b11).below b12)
  have G3 := hid sg3
  have b12 : Below w.heap.size w w12 := (b10.trans (b11.mono b10.size)).trans (b12.mono (Nat.le_trans b10.size b11.size))
  clear b10 b11 q1 q2 n3 m3 sg3 HS2 HF2
  go_wp2_with fail
  refine (clone_any vk1 lk w12 HK.out bk).mono ?_
  rintro e w13 ⟨vk5, rfl, s2, f2, b13⟩
  have HK := hid (HK.out.below b13)
  have HX := hid (HX.out.below b13)
  have HY := hid (HY.out.below b13)
  have G1 := hid (G1.out.below b13)
  have G2 := hid (G2.out.below b13)
  have G3 := hid (G3.out.below b13)
  have HS2 := hid s2
  have HF2 := hid f2
  have b13 : Below w.heap.size w w13 := b12.trans (b13.mono b12.size)
  clear b12 s2 f2
  go_wp2_with fail
  refine (zzAppend_any vk5 _ _ lk F0 F0 w13 HS2.out HF2.out (map_nil _) (map_nil _) bk).mono ?_
  rintro e w14 ⟨g4, x4, rfl, sg4, n4, m4, b14⟩
  have E4 := hid (ext_one (key := key) (p := False) n4 (fun k => (m4 k).trans ((p1_neither k).trans (by simp))))
  have HK := hid (HK.out.below b14)
  have HX := hid (HX.out.below b14)
  have HY := hid (HY.out.below b14)
  have G1 := hid (G1.out.below b14)
  have G2 := hid (G2.out.below b14)
  have G3 := hid (G3.out.below b14)
  have G4 := hid sg4
  have b14 : Below w.heap.size w w14 := b13.trans (b14.mono b13.size)
  clear b13 n4 m4 sg4 HS2 HF2
  have GX := hid HX.out
  have GY := hid HY.out
  obtain ⟨xo, xcap, xb, xoff, rfl, _, _, _⟩ := HX.out
  obtain ⟨yo, ycap, yb, yoff, rfl, _, _, _⟩ := HY.out
  clear HX HY
  go_wp2_with fail
  refine (sameList_any _ _ lx ly w14 GX.out GY.out bx).mono ?_
  rintro e w15 ⟨rfl, q, rfl⟩
  go_wp2_with fail
  refine (isPlus_if g1 vk1 lk x1 key _ _ (G1.out.drewN q) (HK.out.drewN q) bk (fun h => E1.out.1 (by simpa [sameB] using h)) (fun h => E1.out.2 (by simpa [sameB] using h))).mono ?_
  rintro e w15 ⟨rfl, q1, rfl⟩
  go_wp2_with fail
  refine (isPlus_if g2 vk1 lk x2 key (decide (0 < lx.length)) _ (G2.out.drewN _) (HK.out.drewN _) bk (fun h => E2.out.1 (by simpa [List.length_pos_iff] using h)) (fun h => E2.out.2 (by simpa [List.length_pos_iff] using h))).mono ?_
  rintro e w15 ⟨rfl, q2, rfl⟩
  go_wp2_with fail
  refine (isPlus_if g3 vk1 lk x3 key (decide (0 < ly.length)) _ (G3.out.drewN _) (HK.out.drewN _) bk (fun h => E3.out.1 (by simpa [List.length_pos_iff] using h)) (fun h => E3.out.2 (by simpa [List.length_pos_iff] using h))).mono ?_
  rintro e w15 ⟨rfl, q3, rfl⟩
  go_wp2_with fail
  refine (isPlus_if g4 vk1 lk x4 key _ _ (G4.out.drewN _) (HK.out.drewN _) bk (fun h => by simp at h) (fun h => E4.out.2 (by simp))).mono ?_
  rintro e w15 ⟨rfl, q4, rfl⟩
  go_wp2_with fail
  go_ret
  exact ⟨rfl, below_drewN b14 _⟩
end Go.Proofs.Qxb6605609a
