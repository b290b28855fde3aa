import Derived.Test.Qxb6605900aLnC
import Derived.WalkSmall
namespace Go.Proofs.Qxb6605900a
open Go.RowKit Go.Deep

/-! ### Plain facts on 'leads' -/
theorem lstep_hit {acc : List (Int × ByteArray)} {id : Int} {ad : ByteArray} (hn : names id ad = true) (h : acc.any (fun l => l.1 == id) = false) : lstep acc id ad = acc ++ [(id, ad)] := by
  simp [lstep, hn, h]
theorem lstep_dup {acc : List (Int × ByteArray)} {id : Int} {ad : ByteArray} (hn : names id ad = true) (h : acc.any (fun l => l.1 == id) = true) : lstep acc id ad = acc := by
  simp only [lstep, hn, h, if_true]
theorem lstep_no {acc : List (Int × ByteArray)} {id : Int} {ad : ByteArray} (hn : names id ad = false) : lstep acc id ad = acc := by
  simp [lstep, hn]

theorem leads_any (an : Nat → Ans) (id : Int) (m : Nat) : (leads an m).any (fun l => l.1 == id) = true ↔ ∃ s, s < m ∧ names (an s).leader (an s).laddr = true ∧ (an s).leader = id := by
  induction m with
  | zero => simp [leads]
  | succ m ih =>
    have split : (∃ s, s < m + 1 ∧ names (an s).leader (an s).laddr = true ∧ (an s).leader = id) ↔ (∃ s, s < m ∧ names (an s).leader (an s).laddr = true ∧ (an s).leader = id) ∨ (names (an m).leader (an m).laddr = true ∧ (an m).leader = id) := by
      constructor
      · rintro ⟨s, hs, h1, h2⟩
        by_cases e : s = m
        · subst e; exact Or.inr ⟨h1, h2⟩
        · exact Or.inl ⟨s, by omega, h1, h2⟩
      · rintro (⟨s, hs, h1, h2⟩ | ⟨h1, h2⟩)
        · exact ⟨s, by omega, h1, h2⟩
        · exact ⟨m, by omega, h1, h2⟩
    rw [split, ← ih, leads_succ]
    cases hn : names (an m).leader (an m).laddr
    · rw [lstep_no hn]; simp
    · cases ha : (leads an m).any (fun l => l.1 == (an m).leader)
      · rw [lstep_hit hn ha]; simp
      · rw [lstep_dup hn ha]
        constructor
        · exact Or.inl
        · rintro (h | ⟨_, rfl⟩)
          · exact h
          · exact ha

theorem leads_prefix (an : Nat → Ans) {m n : Nat} (h : m ≤ n) : leads an m <+: leads an n := by
  induction n with
  | zero => obtain rfl : m = 0 := by omega
            exact List.prefix_refl _
  | succ n ih =>
    by_cases e : m = n + 1
    · subst e; exact List.prefix_refl _
    · refine (ih (by omega)).trans ?_
      rw [leads_succ]; unfold lstep
      split
      · split
        · exact List.prefix_refl _
        · exact List.prefix_append _ _
      · exact List.prefix_refl _

/-- A new leader stands in the whole list at its place. -/
theorem leads_new (an : Nat → Ans) {m n : Nat} (h : m < n) (hn : names (an m).leader (an m).laddr = true) (ha : (leads an m).any (fun l => l.1 == (an m).leader) = false) :
    (leads an m).length < (leads an n).length ∧ ∀ d, (leads an n).getD (leads an m).length d = ((an m).leader, (an m).laddr) := by
  obtain ⟨r, hr⟩ := leads_prefix an (show m + 1 ≤ n by omega)
  rw [leads_succ, lstep_hit hn ha] at hr
  rw [← hr]
  constructor
  · simp
  · intro d; simp [List.getD]

def hitB (an : Nat → Ans) (s m : Nat) : Bool := (an s).leader == (an m).leader && !(an s).laddr.toList.isEmpty

theorem dup_of_hit {an : Nat → Ans} {s m : Nat} (hs : s < m) (hna : names (an m).leader (an m).laddr = true) (h : hitB an s m = true) : (leads an m).any (fun l => l.1 == (an m).leader) = true := by
  rw [leads_any]
  simp only [hitB, Bool.and_eq_true, beq_iff_eq] at h
  refine ⟨s, hs, ?_, h.1⟩
  simp only [names, Bool.and_eq_true] at hna ⊢
  rw [h.1]
  exact ⟨hna.1, h.2⟩

theorem new_of_miss {an : Nat → Ans} {m : Nat} (h : ∀ s, s < m → hitB an s m = false) : (leads an m).any (fun l => l.1 == (an m).leader) = false := by
  cases e : (leads an m).any (fun l => l.1 == (an m).leader)
  · rfl
  · obtain ⟨s, hs, h1, h2⟩ := (leads_any an _ m).1 e
    have := h s hs
    simp only [names, Bool.and_eq_true] at h1
    rw [hitB, h2, h1.2] at this
    simp at this

theorem miss_succ {an : Nat → Ans} {t m : Nat} (HM : Hid (∀ s, s < t → hitB an s m = false)) (h : hitB an t m = false) : Hid (∀ s, s < t + 1 → hitB an s m = false) := fun s hs => by
  by_cases e : s = t
  · subst e; exact h
  · exact HM.out s (by omega)

/-- 'zzCopyAnswers' of whatever slice. -/
theorem copy_all (ao : Option Addr) (b off n cap : Nat) (an : Nat → Ans) (w : World) (hn : n ≤ 1000000) (hb : 0 < n → b < w.heap.size) (hnil : ao = none → n = 0 ∧ cap = 0) (hao : 0 < n → ao = some ⟨b, off, none⟩) (ha : AnsAt w b off n an) :
    Calls Try.prog 10 #[.slice ao n cap] w fun e w' => ∃ ao2 c2, e = .returned (.slice ao2 n c2) ∧ (0 < n → ao2 = some ⟨w.heap.size, 0, none⟩) ∧ (0 < n → w.heap.size < w'.heap.size) ∧ AnsAt w' w.heap.size 0 n an ∧ Below w.heap.size w w' := by
  cases ao with
  | none =>
    obtain ⟨rfl, rfl⟩ := hnil rfl
    refine (copy_nil w).mono ?_
    rintro e w' ⟨rfl, rfl⟩
    exact ⟨none, 0, rfl, fun h => by omega, fun h => by omega, fun i hi => by omega, Below.refl _ _⟩
  | some a =>
    refine (copy_any a b off n cap an w hn hb (fun h => by simpa using hao h) ha).mono ?_
    rintro e w' ⟨rfl, ⟨f, hf, hf2⟩, hbel⟩
    exact ⟨_, _, rfl, fun _ => rfl, fun _ => hf.lt, fun i hi j hj => by rw [Nat.zero_add, hf.cell (by omega), hf2 i hi j hj], hbel⟩

theorem AnsAt.drewN {w : World} {b off n : Nat} {an : Nat → Ans} (h : AnsAt w b off n an) (q : Nat) : AnsAt (w.drewN q) b off n an := fun i hi j hj => by
  simpa using h i hi j hj

set_option maxHeartbeats 1000000 in
set_option maxRecDepth 100000 in
theorem first_walk (ao : Option Addr) (b off n cap : Nat) (an : Nat → Ans) (w : World) (hn : n ≤ 9223372036854775807) (hb : 0 < n → b < w.heap.size) (hnil : ao = none → n = 0 ∧ cap = 0) (hao : 0 < n → ao = some ⟨b, off, none⟩) (ha : AnsAt w b off n an) :
    Calls Try.prog 3 #[.slice ao n cap] w fun e w' => e = .returned (.bool true) ∧ Below w.heap.size w w' := by
  have hneq := fun w a n c n' c' => run_neq_slice_nil_any (P := Try.prog) w 26 35 a n c n' c' Try.underlying26
  have HA : Hid (AnsAt w b off n an) := ha
  have HO : Hid (0 < n → ao = some ⟨b, off, none⟩) := hao
  have HNI : Hid (ao = none → n = 0 ∧ cap = 0) := hnil
  clear ha hao hnil
  go_enter Try.func3, Try.ntmps3
  go_wp2_with fail
  refine (zzbytes_any ao b off n cap an _ hn HO.out HA.out).mono ?_
  rintro e w1 ⟨⟨t, rfl⟩, q, rfl⟩
  cases t
  · go_wp2_with fail
    go_ret
    exact ⟨rfl, below_drewN (Below.refl _ _) _⟩
  go_wp2_with fail
  refine (abytes_any ao b off n cap an _ hn HO.out (HA.out.drewN q)).mono ?_
  rintro e w1 ⟨⟨t, rfl⟩, q', rfl⟩
  rw [World.drewN_drewN]
  generalize q + q' = q1
  by_cases ht : 1048576 < t
  · go_wp2_with fail
    go_ret
    exact ⟨rfl, below_drewN (Below.refl _ _) _⟩
  by_cases h4 : (4096 : Int) < n
  · go_wp2_with fail
    go_ret
    exact ⟨rfl, below_drewN (Below.refl _ _) _⟩
  have ht' : decide (1048576 < t) = false := decide_eq_false ht
  have h4' : decide ((4096 : Int) < (n : Int)) = false := decide_eq_false h4
  go_wp2_with fail
  have hB1 : Below w.heap.size w (w.drewN q1) := below_drewN (Below.refl _ _) _
  have ha1 : AnsAt (w.drewN q1) b off n an := HA.out.drewN q1
  clear HA
  generalize w.drewN q1 = w1 at *
  have hs1 := hB1.size
  refine (copy_all ao b off n cap an w1 (by omega) (fun h => by have := hb h; omega) HNI.out HO.out ha1).mono ?_
  rintro e w2 ⟨ao2, cp2, rfl, hao2, hlt2, ha2, hB2⟩
  have HO2 : Hid (0 < n → ao2 = some ⟨w1.heap.size, 0, none⟩) := hao2
  have hB2' : Below w.heap.size w w2 := hB1.trans (hB2.mono hs1)
  have hs2 := hB2.size
  clear hao2 HO HNI hb ha1 hB1 hB2
  generalize w1.heap.size = b1 at *
  go_wp2_with fail
  refine (toAns_any ao2 b1 0 n cp2 an w2 (by omega) hlt2 HO2.out ha2).mono ?_
  rintro e w3 ⟨rfl, ⟨f, hf, hf2⟩, hB3⟩
  have ha3 : AnswAt w3 w2.heap.size n an := fun i hi j hj => by rw [hf.cell (by omega), hf2 i hi j hj]
  have hs3 := hB3.size
  have hlt3 := hf.lt
  clear hf2 hf f
  go_wp2_with fail
  refine (leaders_any w2.heap.size n an w3 (by omega) hlt3 ha3).mono ?_
  rintro e w4 ⟨v, rfl, hown, hnil4, hB4⟩
  clear ha3
  have hs4 := hB4.size
  have hB4' : Below w.heap.size w w4 := (hB2'.trans (hB3.mono (by omega))).trans (hB4.mono (by omega))
  have ha4 : 0 < n → AnsAt w4 b1 0 n an := fun h => (ha2.below hB3 (hlt2 h)).below hB4 (by have := hlt2 h; omega)
  have hb4 : 0 < n → b1 < w4.heap.size := fun h => by have := hlt2 h; omega
  obtain ⟨ag, cg, rfl, hcells⟩ := owned_form hown
  clear hown ha2 hlt2 hB2' hB3 hB4 hlt3
  have HG := hcells
  have HN4 : Hid (leads an n = [] → Value.slice ag (leads an n).length cg = Value.slice none 0 0) := hnil4
  clear hnil4
  obtain ⟨L, hL⟩ : ∃ L, L = leads an n := ⟨_, rfl⟩
  have HL : Hid (L = leads an n) := hL
  rw [← hL] at hcells HN4 HG ⊢
  clear hL
  go_wp2_with fail
  go_loopw [4, 5] (fun kk i wr => ∃ m : Nat, m ≤ n ∧ i = .int .i64 m ∧ kk = .int .i64 (leads an m).length ∧ Below w4.heap.size w4 wr) (fun _ i _ => n - (intOf i).toNat)
  case atStart => exact ⟨0, Nat.zero_le _, rfl, rfl, Below.refl _ _⟩
  case round =>
    obtain ⟨m, hm, rfl, rfl, hbr⟩ := hrel
    obtain ⟨wo, rfl⟩ : ∃ wo, wo = wr := ⟨_, rfl⟩
    have hso := hbr.size
    have hlm := leads_len an m
    by_cases hmn : m < n
    · obtain rfl := HO2.out (by omega)
      have hao := (ha4 (by omega)).below hbr (hb4 (by omega))
      have hb4' := hb4 (by omega)
      obtain ⟨c0, c1, c2, c3, c4, c5, c6, c7⟩ := hao.at hmn
      simp only [Nat.zero_add] at c0 c1 c2 c3 c4 c5 c6 c7
      have HS : Hid (leads an (m + 1) = lstep (leads an m) (an m).leader (an m).laddr) := rfl
      go_wp2_with fail
      refine (names_any _ _ _ _ _ _ _ _ _).mono ?_
      rintro e w5 ⟨rfl, cb, rfl⟩
      cases hna : names (an m).leader (an m).laddr
      · go_wp2_with fail
        go_roundw
        case rel => exact ⟨m + 1, by omega, by go_num, by rw [HS.out, lstep_no hna], (hbr.alloc (by omega) _).alloc (by simp; omega) _⟩
        case measure => simp [intOf]; omega
      · go_wp2_with fail
        have hBW := (hbr.alloc (by omega) (.cells #[.string (an m).addr, .int .u64 (an m).group, .int .u64 (an m).term, .int .u64 (an m).last, .int .u64 (an m).committed, .int .u64 (an m).cv, .int .u64 (an m).leader, .string (an m).laddr] 32)).alloc (by simp; omega) (.cells cb 32)
        have x6 : ((wo.alloc (.cells #[.string (an m).addr, .int .u64 (an m).group, .int .u64 (an m).term, .int .u64 (an m).last, .int .u64 (an m).committed, .int .u64 (an m).cv, .int .u64 (an m).leader, .string (an m).laddr] 32)).alloc (.cells cb 32)).cell? ⟨wo.heap.size, 6, none⟩ = some (.int .u64 (an m).leader) := by simp [go_sem]
        have x7 : ((wo.alloc (.cells #[.string (an m).addr, .int .u64 (an m).group, .int .u64 (an m).term, .int .u64 (an m).last, .int .u64 (an m).committed, .int .u64 (an m).cv, .int .u64 (an m).leader, .string (an m).laddr] 32)).alloc (.cells cb 32)).cell? ⟨wo.heap.size, 7, none⟩ = some (.string (an m).laddr) := by simp [go_sem]
        clear c0 c1 c2 c3 c4 c5 c6 c7 hao
        generalize (wo.alloc (.cells #[.string (an m).addr, .int .u64 (an m).group, .int .u64 (an m).term, .int .u64 (an m).last, .int .u64 (an m).committed, .int .u64 (an m).cv, .int .u64 (an m).leader, .string (an m).laddr] 32)).alloc (.cells cb 32) = W at hBW x6 x7 ⊢
        generalize wo.heap.size = bx at *
        have haW : AnsAt W b1 0 n an := (ha4 (by omega)).below hBW hb4'
        go_loopw [7, 8] (fun fb j wr => ∃ t : Nat, t ≤ m ∧ j = .int .i64 t ∧ fb = .bool true ∧ Hid (∀ s, s < t → hitB an s m = false) ∧ ∃ q, wr = W.drewN q) (fun _ j _ => m - (intOf j).toNat)
        case atStart => exact ⟨0, Nat.zero_le _, rfl, rfl, fun s hs => by omega, 0, rfl⟩
        case round =>
          obtain ⟨t, ht, rfl, rfl, HM, q, rfl⟩ := hrel
          by_cases htm : t < m
          · obtain ⟨c0, c1, c2, c3, c4, c5, c6, c7⟩ := haW.at (show t < n by omega)
            simp only [Nat.zero_add] at c0 c1 c2 c3 c4 c5 c6 c7
            have htn : (t : Int) < (n : Int) := by omega
            have HH : Hid (hitB an t m = ((an t).leader == (an m).leader && !(an t).laddr.toList.isEmpty)) := rfl
            clear haW
            cases h1 : ((an t).leader == (an m).leader)
            · go_wp2_with fail
              go_quiet (fail)
              go_wp2_with fail
              go_roundw
              case rel => exact ⟨t + 1, by omega, by go_num, rfl, miss_succ HM (by rw [HH.out, h1]; rfl), _, rfl⟩
              case measure => simp [intOf]; omega
            · cases h2 : (an t).laddr.toList.isEmpty
              · have hdup := dup_of_hit htm hna (by rw [HH.out, h1, h2]; rfl)
                have HS' : Hid (leads an (m + 1) = leads an m) := by rw [HS.out, lstep_dup hna hdup]; rfl
                clear hdup
                go_wp2_with fail
                go_quiet (fail)
                go_wp2_with fail
                go_roundw
                case rel => exact ⟨m + 1, by omega, by go_num, by rw [HS'.out], below_drewN hBW _⟩
                case measure => simp [intOf]; omega
              · go_wp2_with fail
                go_quiet (fail)
                go_wp2_with fail
                go_roundw
                case rel => exact ⟨t + 1, by omega, by go_num, rfl, miss_succ HM (by rw [HH.out, h1, h2]; rfl), _, rfl⟩
                case measure => simp [intOf]; omega
          · obtain rfl : t = m := by omega
            have hmiss := new_of_miss HM.out
            obtain ⟨hlen, hat⟩ := leads_new an hmn hna hmiss
            rw [← HL.out] at hlen
            obtain ⟨g, rfl, hg1, hg2, hg3⟩ := hcells (by omega)
            obtain ⟨y0, y1, y2⟩ := hg3 _ hlen
            rw [HL.out, hat] at y0 y1
            have z0 := (hBW.cell (p := ⟨g, (leads an t).length * 3, none⟩) hg2).trans y0
            have z1 := (hBW.cell (p := ⟨g, (leads an t).length * 3 + 1, none⟩) hg2).trans y1
            have z2 := (hBW.cell (p := ⟨g, (leads an t).length * 3 + 2, none⟩) hg2).trans y2
            have HS' : Hid (leads an (t + 1) = leads an t ++ [((an t).leader, (an t).laddr)]) := by rw [HS.out, lstep_hit hna hmiss]; rfl
            have hlen' : ((leads an t).length : Int) < (L.length : Int) := by omega
            have hlc : ¬ (L.length : Int) ≤ ((leads an t).length : Int) := by omega
            simp only [] at z0 z1
            clear hmiss hat hg3 y0 y1 y2 HG hcells haW HM
            go_wp2_with fail
            go_quiet (fail)
            go_wp2_with fail
            go_roundw
            case rel => exact ⟨t + 1, by omega, by go_num, by rw [HS'.out]; simp, below_drewN hBW _⟩
            case measure => simp [intOf]; omega
    · obtain rfl : m = n := by omega
      rw [← HL.out]
      have hBf : Below w.heap.size w wo := hB4'.trans (hbr.mono (by omega))
      by_cases hL0 : L = []
      · have e1 := HN4.out hL0
        simp only [Value.slice.injEq] at e1
        obtain ⟨rfl, _, rfl⟩ := e1
        subst hL0
        go_wp2_with fail
        go_ret
        exact ⟨rfl, hBf⟩
      · have hpos : 0 < L.length := List.length_pos_iff.2 hL0
        have hne : ((L.length : Int) == 0) = false := by simpa using hL0
        clear hL0
        go_wp2_with fail
        go_ret
        exact ⟨rfl, hBf⟩
end Go.Proofs.Qxb6605900a
