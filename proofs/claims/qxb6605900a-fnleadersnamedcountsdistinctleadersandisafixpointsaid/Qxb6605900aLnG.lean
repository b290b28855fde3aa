import Derived.Test.Qxb6605900aLnF
namespace Go.Proofs.Qxb6605900a
open Go.RowKit Go.Deep

theorem Try.info30 : (Try.prog.info? 30).map (fun i => (i.zero, i.size, i.bytes)) = some (some (.int .u64 0), 1, 8) := by kernel_rfl

/-- make([]uint64, 0, n). -/
theorem run_make_ids (n : Nat) (hn : n ≤ 1000000) (w : World) : (Instr.makeSlice 36 (.int .i64 0) (.int .i64 (n : Int))).run Try.prog w = .ok (.slice (some ⟨w.heap.size, 0, none⟩) 0 n) (w.alloc (.cells (madeCells #[.int .u64 0] n) 30)) := by
  obtain ⟨i, hi, hz, hs, hb⟩ := info_parts Try.info30
  have hr := run_make (P := Try.prog) w 36 30 i _ Try.underlying36 hi hz .i64 .i64 0 n (by omega) (by omega) (by rw [hb]; omega) (by omega)
  rw [hs] at hr
  simp only [Int.toNat_natCast, Nat.mul_one] at hr
  exact hr

theorem one_new (w : World) (x : Value) (t : TypeId) : ∀ (j : Nat) (u : Value), [x][j]? = some u → (w.alloc (.cells #[x] t)).cell? ((⟨w.heap.size, 0, none⟩ : Addr).add j) = some u := by
  intro j u hj
  match j, hj with
  | 0, hj => simp at hj; subst hj; simp [Addr.add, go_sem]

/-- The row of ids in a world. -/
def IdsRow (w : World) (G N n : Nat) (l : List Int) : Prop := l.length = N ∧ w.ownsRow G 30 1 (.slice (some ⟨G, 0, none⟩) N n) N (l.map (Value.int .u64))

theorem IdsRow.cell {w : World} {G N n : Nat} {l : List Int} (h : IdsRow w G N n l) {p : Nat} (hp : p < N) : w.cell? ⟨G, p, none⟩ = some (.int .u64 (l.getD p 0)) := by
  rw [h.2.cellAt p (by omega)]
  have : p < l.length := by rw [h.1]; exact hp
  simp [List.getD, this]

theorem IdsRow.frozen {w : World} {G N n : Nat} {l : List Int} (h : IdsRow w G N n l) (p : Nat) : w.frozen? ⟨G, p, none⟩ = false := h.2.frozenAt p

theorem IdsRow.stored {w : World} {G N n : Nat} {l : List Int} (h : IdsRow w G N n l) (j : Nat) (x : Int) : IdsRow (w.setCell ⟨G, j, none⟩ (.int .u64 x)) G N n (l.set j x) := by
  refine ⟨by simpa using h.1, ?_⟩
  have := (h.2.stored j (.int .u64 x)).1
  rwa [← List.map_set] at this

theorem IdsRow.lt {w : World} {G N n : Nat} {l : List Int} (h : IdsRow w G N n l) : G < w.heap.size := (h.2.lt G rfl).2

theorem IdsRow.alloc {w : World} {G N n : Nat} {l : List Int} (h : IdsRow w G N n l) (o : Obj) : IdsRow (w.alloc o) G N n l := ⟨h.1, h.2.alloc o⟩

theorem told2 {f : Nat → Value} {k : Nat} {L : List (Int × ByteArray)} {y : Int × ByteArray} (hy : Go.RowKit.Hid (y = L.getD k (0, ⟨#[]⟩))) (hkn : k < L.length) (hfk : ∀ i, i < L.length → ∀ j, j < 11 → f (i * 11 + j) = (if i < k then backAns L i else zeroAns).wcell j) :
    ∀ i, i < L.length → ∀ j, j < 11 → (fun q => if q = k * 11 + 10 then Value.string y.2 else if q = k * 11 + 9 then .int .u64 y.1 else f q) (i * 11 + j) = (if i < k + 1 then backAns L i else zeroAns).wcell j := by
  intro i hi j hj
  rw [hy.out]
  by_cases hik : i = k
  · obtain rfl : i = k := by omega
    have h6 := hfk i hkn
    rw [if_neg (by omega)] at h6
    rw [if_pos (by omega)]
    match j, hj with
    | 0, _ => simp only []; rw [if_neg (by omega), if_neg (by omega), h6 0 (by omega)]; rfl
    | 1, _ => simp only []; rw [if_neg (by omega), if_neg (by omega), h6 1 (by omega)]; rfl
    | 2, _ => simp only []; rw [if_neg (by omega), if_neg (by omega), h6 2 (by omega)]; rfl
    | 3, _ => simp only []; rw [if_neg (by omega), if_neg (by omega), h6 3 (by omega)]; rfl
    | 4, _ => simp only []; rw [if_neg (by omega), if_neg (by omega), h6 4 (by omega)]; rfl
    | 5, _ => simp only []; rw [if_neg (by omega), if_neg (by omega), h6 5 (by omega)]; rfl
    | 6, _ => simp only []; rw [if_neg (by omega), if_neg (by omega), h6 6 (by omega)]; rfl
    | 7, _ => simp only []; rw [if_neg (by omega), if_neg (by omega), h6 7 (by omega)]; rfl
    | 8, _ => simp only []; rw [if_neg (by omega), if_neg (by omega), h6 8 (by omega)]; rfl
    | 9, _ => simp only []; rw [if_neg (by omega), if_pos trivial]; rfl
    | 10, _ => simp only []; rw [if_pos trivial]; rfl
  · simp only []
    rw [if_neg (by omega), if_neg (by omega), hfk i hi j hj]
    by_cases h : i < k
    · rw [if_pos h, if_pos (by omega)]
    · rw [if_neg h, if_neg (by omega)]

set_option maxHeartbeats 4000000 in
set_option maxRecDepth 100000 in
theorem second_walk (ao : Option Addr) (b off n cap : Nat) (an : Nat → Ans) (w : World) (hn : n ≤ 9223372036854775807) (hb : 0 < n → b < w.heap.size) (hnil : ao = none → n = 0 ∧ cap = 0) (hao : 0 < n → ao = some ⟨b, off, none⟩) (ha : AnsAt w b off n an) :
    Calls Try.prog 4 #[.slice ao n cap] w fun e w' => e = .returned (.bool true) ∧ Below w.heap.size w w' := by
  have HA : Hid (AnsAt w b off n an) := ha
  have HO : Hid (0 < n → ao = some ⟨b, off, none⟩) := hao
  have HNI : Hid (ao = none → n = 0 ∧ cap = 0) := hnil
  clear ha hao hnil
  go_enter Try.func4, Try.ntmps4
  go_wp2_with fail
  refine (zzbytes2_any ao b off n cap an _ hn HO.out HA.out).mono ?_
  rintro e w1 ⟨⟨t, rfl⟩, q, rfl⟩
  cases t
  · go_wp2_with fail
    go_ret
    exact ⟨rfl, below_drewN (Below.refl _ _) _⟩
  go_wp2_with fail
  refine (abytes_any ao b off n cap an _ hn HO.out (HA.out.drewN q)).mono ?_
  rintro e w1 ⟨⟨t, rfl⟩, q', rfl⟩
  rw [World.drewN_drewN]
  generalize q + q' = q1
  by_cases ht : 1048576 < t
  · go_wp2_with fail
    go_ret
    exact ⟨rfl, below_drewN (Below.refl _ _) _⟩
  by_cases h4 : (4096 : Int) < n
  · go_wp2_with fail
    go_ret
    exact ⟨rfl, below_drewN (Below.refl _ _) _⟩
  have ht' : decide (1048576 < t) = false := decide_eq_false ht
  have h4' : decide ((4096 : Int) < (n : Int)) = false := decide_eq_false h4
  go_wp2_with fail
  have hB1 : Below w.heap.size w (w.drewN q1) := below_drewN (Below.refl _ _) _
  have ha1 : AnsAt (w.drewN q1) b off n an := HA.out.drewN q1
  clear HA
  generalize w.drewN q1 = w1 at *
  have hs1 := hB1.size
  refine (copy_all ao b off n cap an w1 (by omega) (fun h => by have := hb h; omega) HNI.out HO.out ha1).mono ?_
  rintro e w2 ⟨ao2, cp2, rfl, hao2, hlt2, ha2, hB2⟩
  have HO2 : Hid (0 < n → ao2 = some ⟨w1.heap.size, 0, none⟩) := hao2
  have hB2' : Below w.heap.size w w2 := hB1.trans (hB2.mono hs1)
  have hs2 := hB2.size
  clear hao2 HO HNI hb ha1 hB1 hB2
  generalize w1.heap.size = b1 at *
  go_wp2_with fail
  refine (toAns_any ao2 b1 0 n cp2 an w2 (by omega) hlt2 HO2.out ha2).mono ?_
  rintro e w3 ⟨rfl, ⟨f, hf, hf2⟩, hB3⟩
  have ha3 : AnswAt w3 w2.heap.size n an := fun i hi j hj => by rw [hf.cell (by omega), hf2 i hi j hj]
  have hs3 := hB3.size
  have hlt3 := hf.lt
  clear hf2 hf f
  go_wp2_with fail
  refine (leaders_any w2.heap.size n an w3 (by omega) hlt3 ha3).mono ?_
  rintro e w4 ⟨v, rfl, hown, hnil4, hB4⟩
  clear ha3
  have hs4 := hB4.size
  have hB4' : Below w.heap.size w w4 := (hB2'.trans (hB3.mono (by omega))).trans (hB4.mono (by omega))
  have ha4 : 0 < n → AnsAt w4 b1 0 n an := fun h => (ha2.below hB3 (hlt2 h)).below hB4 (by have := hlt2 h; omega)
  have hb4 : 0 < n → b1 < w4.heap.size := fun h => by have := hlt2 h; omega
  obtain ⟨ag, cg, rfl, hcells⟩ := owned_form hown
  clear hown ha2 hlt2 hB2' hB3 hB4 hlt3
  clear hnil4
  have hmk := run_make_ids n (by omega)
  obtain ⟨i0, hi0, hz0, hz1, hz2⟩ := info_parts Try.info30
  go_wp2_with fail
  go_loopw [4, 5] (fun v i wr => ∃ m : Nat, m ≤ n ∧ i = .int .i64 m ∧ v = .slice (some ⟨w4.heap.size, 0, none⟩) (idsOf an m).length n ∧ IdsRow wr w4.heap.size (idsOf an m).length n (idsOf an m) ∧ Below w4.heap.size w4 wr) (fun _ i _ => n - (intOf i).toNat)
  case atStart => exact ⟨0, Nat.zero_le _, rfl, rfl, ⟨rfl, World.ownsRow_made _ _ _ (Nat.le_refl _) (by unfold maxLen; omega) (by simp [size_madeCells])⟩, (Below.refl _ _).alloc (Nat.le_refl _) _⟩
  case round =>
    obtain ⟨m, hm, rfl, rfl, hids, hbr⟩ := hrel
    have hso := hids.lt
    have hlm := idsOf_len an m
    by_cases hmn : m < n
    · obtain rfl := HO2.out (by omega)
      have hao := (ha4 (by omega)).below hbr (hb4 (by omega))
      have hb4' : b1 < wr.heap.size := by have := hb4 (by omega); omega
      obtain ⟨c0, c1, c2, c3, c4, c5, c6, c7⟩ := hao.at hmn
      simp only [Nat.zero_add] at c0 c1 c2 c3 c4 c5 c6 c7
      have HI : Hid (IdsRow wr w4.heap.size (idsOf an m).length n (idsOf an m)) := hids
      clear hids
      go_wp2_with fail
      refine (names_any _ _ _ _ _ _ _ _ _).mono ?_
      rintro e w5 ⟨rfl, cb, rfl⟩
      cases hna : names (an m).leader (an m).laddr
      · go_wp2_with fail
        go_roundw
        case rel => exact ⟨m + 1, by omega, by go_num, by rw [idsOf_no hna], by rw [idsOf_no hna]; exact HI.out.alloc _, hbr.alloc (by omega) _⟩
        case measure => simp [intOf]; omega
      · go_wp2_with (at_builtin; refine wpList_append_fits _ rfl _ _ 36 rfl w4.heap.size 30 i0 1 Try.underlying36 hi0 hz1 w4.heap.size (idsOf an m).length n _ rfl ((HI.out.2.alloc _).alloc _) ⟨wr.heap.size + 1, 0, none⟩ 1 1 [.int .u64 (an m).leader] rfl rfl ?c1 ?c2 ?c3 ?_)
        case c1 => simpa using one_new (wr.alloc _) _ _
        case c2 => intro u hu; simp at hu; subst hu; rfl
        case c3 => omega
        intro w6 hown6 hgr6
        have hids6 : IdsRow w6 w4.heap.size (idsOf an (m + 1)).length n (idsOf an (m + 1)) := by
          rw [idsOf_yes hna]; exact ⟨rfl, by simpa using hown6⟩
        have hb6 : Below w4.heap.size w4 w6 := ((hbr.alloc (by omega) _).alloc (by simp; omega) _).grown hgr6 (by simp; omega) (fun k hk => by simp at hk; omega)
        have hle6 : Hid ((idsOf an (m + 1)).length = (idsOf an m).length + 1) := by rw [idsOf_yes hna]; simp [Hid]
        clear hown6 hgr6
        go_wp2_with fail
        go_roundw
        case rel => exact ⟨m + 1, by omega, by go_num, by rw [hle6.out], hids6, hb6⟩
        case measure => simp [intOf]; omega
    · obtain rfl : m = n := by omega
      have HV : Hid (SameVals an m (idsOf an m) (idsOf an m).length) := fun y => (has_mem _ y).trans (mem_idsOf an m y)
      generalize (idsOf an m) = l0 at *
      obtain ⟨N, hN⟩ : ∃ N, N = l0.length := ⟨_, rfl⟩
      rw [← hN] at hids HV hlm ⊢
      clear hN
      go_wp2_with fail
      go_loopw [6] (fun i wr => ∃ (k : Nat) (l : List Int), 1 ≤ k ∧ (k ≤ N ∨ k = 1) ∧ i = .int .i64 k ∧ Hid (SameVals an m l N ∧ SortedTo l k) ∧ IdsRow wr w4.heap.size N m l ∧ Below w4.heap.size w4 wr) (fun i _ => N - (intOf i).toNat)
      case atStart => exact ⟨1, l0, Nat.le_refl _, Or.inr rfl, rfl, ⟨HV.out, fun a b h1 h2 => by omega⟩, hids, hbr⟩
      case round =>
        obtain ⟨k, l, hk1, hk2, rfl, HL, hids2, hbr2⟩ := hrel
        have hsz := hids2.lt
        by_cases hkN : k < N
        · have hc := hids2.cell hkN
          have hkN' : (k : Int) < (N : Int) := by omega
          have HH : Hid (Hole an m N k k (l.getD k 0) l) := Hole.start HL.out.1 HL.out.2
          generalize l.getD k 0 = x at *
          have HI : Hid (IdsRow wr w4.heap.size N m l) := hids2
          clear hids2 HL
          go_wp2_with fail
          go_loopw [8] (fun jv wr => ∃ (j : Nat) (l : List Int), j ≤ k ∧ jv = .int .i64 j ∧ Hid (Hole an m N k j x l) ∧ IdsRow wr w4.heap.size N m l ∧ Below w4.heap.size w4 wr) (fun jv _ => (intOf jv).toNat)
          case atStart => exact ⟨k, l, Nat.le_refl _, rfl, HH, HI.out, hbr2⟩
          case round =>
            obtain ⟨j, l, hjk, rfl, HH, hids3, hbr3⟩ := hrel
            cases j with
            | zero =>
              have hc0 := hids3.cell (show 0 < N by omega)
              have hfz := hids3.frozen
              have hN0 : (0 : Int) < (N : Int) := by omega
              have HF : Hid (SameVals an m (l.set 0 x) N ∧ SortedTo (l.set 0 x) (k + 1)) := HH.out.done hids3.1 (by omega) hkN (fun h => by omega)
              generalize l.getD 0 0 = z at *
              have HI : Hid (IdsRow wr w4.heap.size N m l) := hids3
              clear hids3
              rw [show ((0 : Nat) : Int) = 0 from rfl]
              go_wp2_with fail
              go_roundw
              case rel => exact ⟨k + 1, l.set 0 x, by omega, Or.inl (by omega), by go_num, HF, HI.out.stored 0 x, hbr3.setCell (Nat.le_refl _) _⟩
              case measure => simp [intOf]; omega
            | succ j =>
              have hc0 := hids3.cell (show j < N by omega)
              have hc1 := hids3.cell (show j + 1 < N by omega)
              have hfz := hids3.frozen
              have hjN : (j : Int) < (N : Int) := by omega
              have hjN' : (j : Int) + 1 < (N : Int) := by omega
              obtain ⟨y, hy⟩ : ∃ y, y = l.getD j 0 := ⟨_, rfl⟩
              have HY : Hid (y = l.getD j 0) := hy
              rw [← hy] at hc0
              clear hy
              generalize l.getD (j + 1) 0 = z at *
              have HI : Hid (IdsRow wr w4.heap.size N m l) := hids3
              clear hids3
              by_cases hxy : x < y
              · have HF : Hid (Hole an m N k j x (l.set (j + 1) y)) := by
                  have := HH.out.step HI.out.1 (by omega) hjk hkN (by rw [Nat.add_sub_cancel, ← HY.out]; exact hxy)
                  rw [Nat.add_sub_cancel, ← HY.out] at this
                  exact this
                go_wp2_with fail
                go_roundw
                case rel => exact ⟨j, l.set (j + 1) y, by omega, rfl, HF, HI.out.stored (j + 1) y, hbr3.setCell (Nat.le_refl _) _⟩
                case measure => simp [intOf]
              · have HF : Hid (SameVals an m (l.set (j + 1) x) N ∧ SortedTo (l.set (j + 1) x) (k + 1)) := HH.out.done HI.out.1 hjk hkN (fun _ => by rw [Nat.add_sub_cancel, ← HY.out]; omega)
                go_wp2_with fail
                go_roundw
                case rel => exact ⟨k + 1, l.set (j + 1) x, by omega, Or.inl (by omega), by go_num, HF, HI.out.stored (j + 1) x, hbr3.setCell (Nat.le_refl _) _⟩
                case measure => simp [intOf]; omega
        · have HC : Hid ((uniq l N).length = (leads an m).length) := count_ok an m N l (fun a b h1 h2 => HL.out.2 a b h1 (by omega)) HL.out.1
          have hLm := leads_len an m
          clear HL
          have HX : Hid (leads (backAns (leads an m)) (leads an m).length = leads an m) := by
            have := back_fix an m (leads an m).length (Nat.le_refl _)
            rwa [List.take_length] at this
          generalize leads an m = L at *
          go_wp2_with fail
          obtain ⟨W, rfl⟩ : ∃ W, W = wr := ⟨_, rfl⟩
          go_loopw [9, 10] (fun d i wr => ∃ t : Nat, t ≤ N ∧ i = .int .i64 t ∧ d = .int .i64 (uniq l t).length ∧ ∃ q, wr = W.drewN q) (fun _ i _ => N - (intOf i).toNat)
          case atStart => exact ⟨0, Nat.zero_le _, rfl, rfl, 0, rfl⟩
          case round =>
            obtain ⟨t, ht, rfl, rfl, q, rfl⟩ := hrel
            have hul := uniq_len l t
            by_cases htN : t < N
            · have HI : Hid (IdsRow W w4.heap.size N m l) := hids2
              cases t with
              | zero =>
                have hu : Hid (uniq l (0 + 1) = uniq l 0 ++ [l.getD 0 0]) := uniq_yes (Or.inl rfl)
                have hc0 := hids2.cell htN
                generalize l.getD 0 0 = y at *
                clear hids2
                rw [show ((0 : Nat) : Int) = 0 from rfl]
                go_wp2_with fail
                go_quiet (fail)
                go_wp2_with fail
                go_roundw
                case rel => exact ⟨0 + 1, by omega, by go_num, by rw [hu.out]; rfl, _, rfl⟩
                case measure => simp [intOf]; omega
              | succ t =>
                have hc0 := hids2.cell htN
                have hc1 := hids2.cell (show t < N by omega)
                have htN0 : (t : Int) < (N : Int) := by omega
                have htN1 : (t : Int) + 1 < (N : Int) := by omega
                have ht0 : ((t : Int) + 1 == 0) = false := by rw [beq_eq_false_iff_ne]; omega
                clear hids2
                by_cases he : l.getD (t + 1) 0 = l.getD t 0
                · have hu : Hid (uniq l (t + 1 + 1) = uniq l (t + 1)) := uniq_no (fun hc => hc.elim (by omega) (fun h' => h' he))
                  rw [he] at hc0
                  clear he
                  generalize l.getD t 0 = y at *
                  go_wp2_with fail
                  go_quiet (fail)
                  go_wp2_with fail
                  go_roundw
                  case rel => exact ⟨t + 1 + 1, by omega, by go_num, by rw [hu.out], _, rfl⟩
                  case measure => simp [intOf]; omega
                · have hu : Hid (uniq l (t + 1 + 1) = uniq l (t + 1) ++ [l.getD (t + 1) 0]) := uniq_yes (Or.inr he)
                  have he' : (l.getD (t + 1) 0 != l.getD t 0) = true := by simpa using he
                  clear he
                  generalize l.getD (t + 1) 0 = y at *
                  generalize l.getD t 0 = z at *
                  go_wp2_with fail
                  go_quiet (fail)
                  go_wp2_with fail
                  go_roundw
                  case rel => exact ⟨t + 1 + 1, by omega, by go_num, by rw [hu.out]; simp, _, rfl⟩
                  case measure => simp [intOf]; omega
            · obtain rfl : t = N := by omega
              rw [HC.out]
              have hbW : Below w4.heap.size w4 (W.drewN q) := below_drewN hbr2 q
              clear HC hids hids2 hbr hbr2 hmk HV
              generalize W.drewN q = W5 at *
              have hs5 := hbW.size
              have hmk2 := run_make_cells (P := Try.prog) 28 40 _ 11 144 Try.underlying28 Try.info40 .i64 .i64 L.length (by omega) (by omega)
              go_wp2_with fail
              go_loopw [12] (fun i wr => ∃ k : Nat, k ≤ L.length ∧ i = .int .i64 k ∧ (∃ f, wr.rowIs W5.heap.size 40 (L.length * 11) f ∧ ∀ i, i < L.length → ∀ j, j < 11 → f (i * 11 + j) = (if i < k then backAns L i else zeroAns).wcell j) ∧ Below W5.heap.size W5 wr) (fun i _ => L.length - (intOf i).toNat)
              case atStart =>
                obtain ⟨f, hf1, hf2⟩ := made40 L.length W5
                exact ⟨0, Nat.zero_le _, rfl, ⟨f, hf1, fun i hi j hj => by rw [hf2 i hi j hj]; simp⟩, (Below.refl _ _).alloc (Nat.le_refl _) _⟩
              case round =>
                obtain ⟨k, hk, rfl, ⟨f, hf, hfk⟩, hb6⟩ := hrel
                clear hmk2
                by_cases hkL : k < L.length
                · obtain ⟨g, rfl, hg1, hg2, hg3⟩ := hcells (by omega)
                  obtain ⟨y0, y1, y2⟩ := hg3 k hkL
                  have z0 := (hb6.cell (p := ⟨g, k * 3, none⟩) (by simp; omega)).trans ((hbW.cell (p := ⟨g, k * 3, none⟩) hg2).trans y0)
                  have z1 := (hb6.cell (p := ⟨g, k * 3 + 1, none⟩) (by simp; omega)).trans ((hbW.cell (p := ⟨g, k * 3 + 1, none⟩) hg2).trans y1)
                  have hgne : g ≠ W5.heap.size := by omega
                  have d9 := hf.cell (i := k * 11 + 9) (by omega)
                  have d10 := hf.cell (i := k * 11 + 10) (by omega)
                  have hfz := hf.frozen
                  have hkL' : (k : Int) < (L.length : Int) := by omega
                  clear hg3 y0 y1 y2 hcells
                  obtain ⟨y, hy⟩ : ∃ y, y = L.getD k (0, ⟨#[]⟩) := ⟨_, rfl⟩
                  rw [← hy] at z0 z1
                  have HY : Hid (y = L.getD k (0, ⟨#[]⟩)) := hy
                  clear hy
                  go_wp2_with fail
                  go_roundw
                  case rel =>
                    refine ⟨k + 1, by omega, by go_num, ⟨_, (hf.set _ _).set _ _, ?_⟩, (hb6.setCell (Nat.le_refl _) _).setCell (Nat.le_refl _) _⟩
                    exact told2 HY hkL hfk
                  case measure => simp [intOf]; omega
                · obtain rfl : k = L.length := by omega
                  have hfix := HX
                  have ha6 : AnswAt wr W5.heap.size L.length (backAns L) := fun i hi j hj => by rw [hf.cell (by omega), hfk i hi j hj, if_pos hi]
                  have hlt6 := hf.lt
                  clear hf hfk
                  go_wp2_with fail
                  refine (leaders_any W5.heap.size L.length (backAns L) wr (by omega) hlt6 ha6).mono ?_
                  rintro e w7 ⟨v7, rfl, hown7, _, hb7⟩
                  rw [hfix.out] at hown7
                  obtain ⟨ag7, cg7, rfl, hcells7⟩ := owned_form hown7
                  have hb7' : Below w4.heap.size w4 w7 := (hbW.trans (hb6.mono hs5)).trans (hb7.mono (by omega))
                  clear hown7 ha6 hfix hb6 hb7 hbW
                  go_wp2_with fail
                  go_loopw [14] (fun i wr => ∃ k : Nat, k ≤ L.length ∧ i = .int .i64 k ∧ ∃ q, wr = w7.drewN q) (fun i _ => L.length - (intOf i).toNat)
                  case atStart => exact ⟨0, Nat.zero_le _, rfl, 0, rfl⟩
                  case round =>
                    obtain ⟨k, hk, rfl, q, rfl⟩ := hrel
                    by_cases hkL : k < L.length
                    · obtain ⟨g, rfl, hg1, hg2, hg3⟩ := hcells (by omega)
                      obtain ⟨y0, y1, y2⟩ := hg3 k hkL
                      have z0 := (hb7'.cell (p := ⟨g, k * 3, none⟩) hg2).trans y0
                      have z1 := (hb7'.cell (p := ⟨g, k * 3 + 1, none⟩) hg2).trans y1
                      have z2 := (hb7'.cell (p := ⟨g, k * 3 + 2, none⟩) hg2).trans y2
                      obtain ⟨g', rfl, hg1', hg2', hg3'⟩ := hcells7 (by omega)
                      obtain ⟨x0, x1, x2⟩ := hg3' k hkL
                      have hkL' : (k : Int) < (L.length : Int) := by omega
                      clear hg3 hg3' y0 y1 y2 hcells hcells7
                      generalize L.getD k (0, ⟨#[]⟩) = y at *
                      go_wp2_with fail
                      go_quiet (fail)
                      go_wp2_with fail
                      go_roundw
                      case rel => exact ⟨k + 1, by omega, by go_num, _, rfl⟩
                      case measure => simp [intOf]; omega
                    · go_wp2_with fail
                      go_ret
                      exact ⟨rfl, hB4'.trans ((below_drewN hb7' _).mono (by omega))⟩
end Go.Proofs.Qxb6605900a
