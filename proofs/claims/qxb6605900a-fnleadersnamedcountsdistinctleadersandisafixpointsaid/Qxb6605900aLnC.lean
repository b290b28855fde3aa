import Derived.Test.Qxb6605900aLnB
namespace Go.Proofs.Qxb6605900a
open Go.RowKit Go.Deep

/-! ### The plain function -/
def lstep (acc : List (Int × ByteArray)) (id : Int) (ad : ByteArray) : List (Int × ByteArray) :=
  if names id ad then (if acc.any (fun l => l.1 == id) then acc else acc ++ [(id, ad)]) else acc

/-- What LeadersNamed has gathered out of the first k answers. -/
def leads (an : Nat → Ans) : Nat → List (Int × ByteArray)
  | 0 => []
  | k + 1 => lstep (leads an k) (an k).leader (an k).laddr

theorem leads_succ (an : Nat → Ans) (k : Nat) : leads an (k + 1) = lstep (leads an k) (an k).leader (an k).laddr := rfl

theorem leads_len (an : Nat → Ans) (k : Nat) : (leads an k).length ≤ k := by
  induction k with
  | zero => simp [leads]
  | succ k ih =>
    rw [leads_succ]; unfold lstep
    split
    · split
      · omega
      · simp; omega
    · omega

def memCells (l : List (Int × ByteArray)) : List Value := l.flatMap fun p => [.int .u64 p.1, .string p.2, .bool false]

theorem memCells_len (l : List (Int × ByteArray)) : (memCells l).length = l.length * 3 := by
  induction l with
  | nil => rfl
  | cons a l ih => simp [memCells] at ih ⊢; omega

theorem memCells_snoc (l : List (Int × ByteArray)) (id : Int) (ad : ByteArray) : memCells (l ++ [(id, ad)]) = memCells l ++ [.int .u64 id, .string ad, .bool false] := by simp [memCells]

theorem memCells_at (l : List (Int × ByteArray)) (t : Nat) (d : Int × ByteArray) (h : t < l.length) :
    (memCells l)[t * 3]? = some (.int .u64 (l.getD t d).1) ∧ (memCells l)[t * 3 + 1]? = some (.string (l.getD t d).2) ∧ (memCells l)[t * 3 + 2]? = some (.bool false) := by
  induction l generalizing t with
  | nil => simp at h
  | cons a l ih =>
    have e : memCells (a :: l) = .int .u64 a.1 :: .string a.2 :: .bool false :: memCells l := by simp [memCells]
    rw [e]
    cases t with
    | zero => simp
    | succ t =>
      have := ih t (by simpa using h)
      rw [show (t + 1) * 3 = t * 3 + 3 by omega]
      simpa using this

theorem ownsRow_below {w w' : World} {base : Nat} {e : TypeId} {size : Nat} {v : Value} {n : Nat} {xs : List Value} {B : Nat} (h : w.ownsRow base e size v n xs) (hb : Below B w w') (hB : w.heap.size ≤ B) : w'.ownsRow base e size v n xs := by
  refine ⟨h.1, ?_⟩
  rcases h.2 with h2 | ⟨g, cap, cur, hv, hg, hh, r⟩
  · exact Or.inl h2
  · exact Or.inr ⟨g, cap, cur, hv, hg, by rw [hb.block g (Nat.lt_of_lt_of_le (Array.getElem?_eq_some_iff.1 hh).1 hB)]; exact hh, r⟩

/-- What a row of members that the call owns looks like to a reader. -/
theorem owned_form {w : World} {B : Nat} {v : Value} {l : List (Int × ByteArray)} (h : w.ownsRow B 35 3 v l.length (memCells l)) :
    ∃ ao cp, v = .slice ao l.length cp ∧ (0 < l.length → ∃ g, ao = some ⟨g, 0, none⟩ ∧ B ≤ g ∧ g < w.heap.size ∧ ∀ t, t < l.length → w.cell? ⟨g, t * 3, none⟩ = some (.int .u64 (l.getD t (0, ⟨#[]⟩)).1) ∧ w.cell? ⟨g, t * 3 + 1, none⟩ = some (.string (l.getD t (0, ⟨#[]⟩)).2) ∧ w.cell? ⟨g, t * 3 + 2, none⟩ = some (.bool false)) := by
  rcases h.2 with ⟨hv, h0⟩ | ⟨g, cap, cur, hv, hg, hh, r⟩
  · exact ⟨none, 0, by rw [hv, h0], fun hp => by omega⟩
  · refine ⟨some ⟨g, 0, none⟩, cap, hv, fun _ => ⟨g, rfl, hg, (Array.getElem?_eq_some_iff.1 hh).1, fun t ht => ?_⟩⟩
    subst hv
    obtain ⟨m0, m1, m2⟩ := memCells_at l t (0, ⟨#[]⟩) ht
    exact ⟨(h.cellAt _ (by omega)).trans m0, (h.cellAt _ (by omega)).trans m1, (h.cellAt _ (by omega)).trans m2⟩

theorem any_take_succ (l : List (Int × ByteArray)) (id : Int) (t : Nat) (d : Int × ByteArray) (h : t < l.length) :
    (l.take (t + 1)).any (fun l => l.1 == id) = ((l.take t).any (fun l => l.1 == id) || (l.getD t d).1 == id) := by
  rw [List.take_succ_eq_append_getElem h, List.any_append]
  simp [List.getD, h]

/-- consensus.Answer's cells in a world. -/
def AnswAt (w : World) (b n : Nat) (an : Nat → Ans) : Prop := ∀ i, i < n → ∀ j, j < 11 → w.cell? ⟨b, i * 11 + j, none⟩ = some ((an i).wcell j)

theorem AnswAt.at {w : World} {b n : Nat} {an : Nat → Ans} (h : AnswAt w b n an) {i : Nat} (hi : i < n) :
    w.cell? ⟨b, i * 11, none⟩ = some (.string (an i).addr) ∧ w.cell? ⟨b, i * 11 + 1, none⟩ = some .nilIface ∧ w.cell? ⟨b, i * 11 + 2, none⟩ = some (.int .u64 (an i).group) ∧
    w.cell? ⟨b, i * 11 + 3, none⟩ = some (.int .u64 (an i).term) ∧ w.cell? ⟨b, i * 11 + 4, none⟩ = some (.int .u64 (an i).last) ∧ w.cell? ⟨b, i * 11 + 5, none⟩ = some (.int .u64 (an i).committed) ∧
    w.cell? ⟨b, i * 11 + 6, none⟩ = some (.slice none 0 0) ∧ w.cell? ⟨b, i * 11 + 7, none⟩ = some (.slice none 0 0) ∧ w.cell? ⟨b, i * 11 + 8, none⟩ = some (.int .u64 (an i).cv) ∧
    w.cell? ⟨b, i * 11 + 9, none⟩ = some (.int .u64 (an i).leader) ∧ w.cell? ⟨b, i * 11 + 10, none⟩ = some (.string (an i).laddr) :=
  ⟨h i hi 0 (by omega), h i hi 1 (by omega), h i hi 2 (by omega), h i hi 3 (by omega), h i hi 4 (by omega), h i hi 5 (by omega), h i hi 6 (by omega), h i hi 7 (by omega), h i hi 8 (by omega), h i hi 9 (by omega), h i hi 10 (by omega)⟩

theorem AnswAt.below {w w' : World} {b n B : Nat} {an : Nat → Ans} (h : AnswAt w b n an) (hb : Below B w w') (hlt : b < B) : AnswAt w' b n an := fun i hi j hj => by
  rw [hb.cell (p := ⟨b, i * 11 + j, none⟩) hlt]; exact h i hi j hj

theorem Try.info35 : (Try.prog.info? 35).map (fun i => (i.zero, i.size, i.bytes)) = some (some (.agg #[.int .u64 0, .string ⟨#[]⟩, .bool false]), 3, 32) := by kernel_rfl

theorem three_new (w : World) (x y z : Value) (t : TypeId) : ∀ (j : Nat) (u : Value), [x, y, z][j]? = some u → (w.alloc (.cells #[x, y, z] t)).cell? ((⟨w.heap.size, 0, none⟩ : Addr).add j) = some u := by
  intro j u hj
  match j, hj with
  | 0, hj => simp at hj; subst hj; simp [Addr.add, go_sem]
  | 1, hj => simp at hj; subst hj; simp [Addr.add, go_sem]
  | 2, hj => simp at hj; subst hj; simp [Addr.add, go_sem]

set_option maxHeartbeats 1000000 in
set_option maxRecDepth 100000 in
/-- 'LeadersNamed'. -/
theorem leaders_any (b n : Nat) (an : Nat → Ans) (w : World) (hn : n ≤ 1000000) (hb : b < w.heap.size) (ha : AnswAt w b n an) :
    Calls Try.prog 11 #[.slice (some ⟨b, 0, none⟩) n n] w fun e w' => ∃ v, e = .returned v ∧ w'.ownsRow w.heap.size 35 3 v (leads an n).length (memCells (leads an n)) ∧ (leads an n = [] → v = .slice none 0 0) ∧ Below w.heap.size w w' := by
  obtain ⟨i0, hi, hz0, hz1, hz2⟩ := info_parts Try.info35
  go_enter Try.func11, Try.ntmps11
  go_wp2
  go_loopw [3, 11] (fun v i wr => ∃ k : Nat, k ≤ n ∧ i = .int .i64 k ∧ wr.ownsRow w.heap.size 35 3 v (leads an k).length (memCells (leads an k)) ∧ (leads an k = [] → v = .slice none 0 0) ∧ Below w.heap.size w wr) (fun _ i _ => n - (intOf i).toNat)
  case atStart => exact ⟨0, Nat.zero_le _, rfl, World.ownsRow_nil _ _ _ _, fun _ => rfl, Below.refl _ _⟩
  case round =>
    obtain ⟨k, hk, rfl, hown, hnil, hbel⟩ := hrel
    have HN : Hid (leads an k = [] → _) := hnil
    clear hnil
    by_cases hlt : k < n
    · have ha' : AnswAt wr b n an := ha.below hbel hb
      obtain ⟨c0, c1, c2, c3, c4, c5, c6, c7, c8, c9, c10⟩ := ha'.at hlt
      have hll := leads_len an k
      have HS : Hid (leads an (k + 1) = lstep (leads an k) (an k).leader (an k).laddr) := rfl
      obtain ⟨ls, hls⟩ : ∃ ls, ls = leads an k := ⟨_, rfl⟩
      have hsz := hbel.size
      clear ha ha'
      by_cases hna : names (an k).leader (an k).laddr = true
      · have hna' := hna
        simp only [names, Bool.and_eq_true] at hna'
        obtain ⟨hz0', he0⟩ := hna'
        have hz' : ((an k).leader == 0) = false := by simpa using hz0'
        have he : (an k).laddr.toList.isEmpty = false := by simpa using he0
        clear hz0' he0
        obtain ⟨ao, cp, rfl, hcells⟩ := owned_form hown
        rw [← hls] at hown hcells HS HN hll ⊢
        have HL : Hid (ls = leads an k) := hls
        clear hls
        obtain ⟨wo, rfl⟩ : ∃ wo, wo = wr := ⟨_, rfl⟩
        go_wp2
        go_loopw [6, 25] (fun nm i wr => ∃ t : Nat, t ≤ ls.length ∧ i = .int .i64 t ∧ nm = .bool ((ls.take t).any (fun l => l.1 == (an k).leader)) ∧ Below (wo.heap.size + 1) (wo.alloc (.cells #[.string (an k).addr, .nilIface, .int .u64 (an k).group, .int .u64 (an k).term, .int .u64 (an k).last, .int .u64 (an k).committed, .slice none 0 0, .slice none 0 0, .int .u64 (an k).cv, .int .u64 (an k).leader, .string (an k).laddr] 40)) wr)
          (fun _ i _ => ls.length - (intOf i).toNat)
        case atStart => exact ⟨0, Nat.zero_le _, rfl, by simp, Below.refl _ _⟩
        case round =>
          obtain ⟨t, ht, rfl, rfl, hbi⟩ := hrel
          have hsi : wo.heap.size < wr.heap.size := by have := hbi.size; simp only [World.size_alloc] at this; omega
          have x9 : wr.cell? ⟨wo.heap.size, 9, none⟩ = some (.int .u64 (an k).leader) := (hbi.cell (p := ⟨wo.heap.size, 9, none⟩) (by simp)).trans (by simp [go_sem])
          by_cases htl : t < ls.length
          · obtain ⟨g, rfl, hg1, hg2, hg3⟩ := hcells (by omega)
            obtain ⟨m0, m1, m2⟩ := hg3 t htl
            have y0 : wr.cell? ⟨g, t * 3, none⟩ = _ := (hbi.cell (p := ⟨g, t * 3, none⟩) (by simp; omega)).trans ((World.cell?_alloc_lt _ _ _ (by simpa using hg2)).trans m0)
            have y1 : wr.cell? ⟨g, t * 3 + 1, none⟩ = _ := (hbi.cell (p := ⟨g, t * 3 + 1, none⟩) (by simp; omega)).trans ((World.cell?_alloc_lt _ _ _ (by simpa using hg2)).trans m1)
            have y2 : wr.cell? ⟨g, t * 3 + 2, none⟩ = _ := (hbi.cell (p := ⟨g, t * 3 + 2, none⟩) (by simp; omega)).trans ((World.cell?_alloc_lt _ _ _ (by simpa using hg2)).trans m2)
            have HT : Hid (_ = _) := any_take_succ ls (an k).leader t (0, ⟨#[]⟩) htl
            clear hg3 m0 m1 m2 hcells c0 c1 c2 c3 c4 c5 c6 c7 c8 c9 c10 HS HN hown
            generalize ls.getD t (0, ⟨#[]⟩) = x at *
            generalize (ls.take t).any (fun l => l.1 == (an k).leader) = nm at *
            obtain ⟨x0, x1⟩ := x
            simp only [] at y0 y1 HT
            cases nm
            · cases hx : (x0 == (an k).leader)
              all_goals
                go_wp2
                go_roundw
                case rel => exact ⟨t + 1, by omega, by go_num, by rw [HT.out, hx]; rfl, hbi.alloc (by omega) _⟩
                case measure => simp [intOf]; omega
            · go_wp2
              go_roundw
              case rel => exact ⟨t + 1, by omega, by go_num, by rw [HT.out]; rfl, hbi.alloc (by omega) _⟩
              case measure => simp [intOf]; omega
          · have x10 : wr.cell? ⟨wo.heap.size, 10, none⟩ = some (.string (an k).laddr) := (hbi.cell (p := ⟨wo.heap.size, 10, none⟩) (by simp)).trans (by simp [go_sem])
            obtain rfl : t = ls.length := by omega
            rw [List.take_length]
            have hown' := ownsRow_below (hown.alloc _) hbi (by simp)
            have hbel' : Below w.heap.size w wr := (hbel.alloc hsz _).trans (hbi.mono (by omega))
            clear hcells c0 c1 c2 c3 c4 c5 c6 c7 c8 c9 c10 hown hbel hbi
            cases hany : ls.any (fun l => l.1 == (an k).leader)
            · go_wp2_with (at_builtin; refine wpList_append_own _ rfl _ _ 26 rfl w.heap.size 35 i0 _ 3 32 Try.underlying26 hi hz0 hz1 hz2 rfl (by decide) _ _ _ rfl (hown'.alloc _) ⟨wr.heap.size, 0, none⟩ 1 1 [.int .u64 (an k).leader, .string (an k).laddr, .bool false] rfl rfl ?c1 ?c2 ?c3 ?c4 ?c5 ?_)
              case c1 => exact three_new _ _ _ _ _
              case c2 => intro u hu; simp at hu; rcases hu with rfl | rfl | rfl <;> rfl
              case c3 => unfold maxLen; omega
              case c4 => omega
              case c5 => have := hbel'.size; simp; omega
              intro v' w1 hown1 hgrow _
              have hbel1 : Below w.heap.size w w1 := (hbel'.alloc hbel'.size _).grown hgrow (by have := hbel'.size; simp; omega) (fun q hq => (hown'.lt q hq).1)
              have hown2 : w1.ownsRow w.heap.size 35 3 v' (leads an (k + 1)).length (memCells (leads an (k + 1))) := by
                rw [HS.out, lstep, if_pos hna, hany]
                simpa [memCells_snoc] using hown1
              have hne : leads an (k + 1) ≠ [] := by
                rw [HS.out, lstep, if_pos hna, hany]; simp
              clear hown1 hgrow hown'
              go_wp2
              go_roundw
              case rel => exact ⟨k + 1, by omega, by go_num, hown2, fun h => absurd h hne, hbel1⟩
              case measure => simp [intOf]; omega
            · go_wp2
              go_roundw
              case rel => exact ⟨k + 1, by omega, by go_num, by rw [HS.out, lstep, if_pos hna, hany]; exact hown', by rw [HS.out, lstep, if_pos hna, hany]; exact HN.out, hbel'⟩
              case measure => simp [intOf]; omega
      · by_cases hz : (an k).leader = 0
        · have hz' : ((an k).leader == 0) = true := by simp [hz]
          clear hz
          go_wp2
          go_roundw
          case rel => exact ⟨k + 1, by omega, by go_num, by rw [HS.out, lstep, if_neg hna]; exact hown.alloc _, by rw [HS.out, lstep, if_neg hna]; exact HN.out, hbel.alloc (by omega) _⟩
          case measure => simp [intOf]; omega
        · have hz' : ((an k).leader == 0) = false := by simp [hz]
          have he : (an k).laddr.toList.isEmpty = true := by simp [names, hz] at hna; simp [hna]
          go_wp2
          go_roundw
          case rel => exact ⟨k + 1, by omega, by go_num, by rw [HS.out, lstep, if_neg hna]; exact hown.alloc _, by rw [HS.out, lstep, if_neg hna]; exact HN.out, hbel.alloc (by omega) _⟩
          case measure => simp [intOf]; omega
    · go_wp2
      go_ret
      obtain rfl : k = n := by omega
      exact ⟨_, rfl, hown, HN.out, hbel⟩
end Go.Proofs.Qxb6605900a
