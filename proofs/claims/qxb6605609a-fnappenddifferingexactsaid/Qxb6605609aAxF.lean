import Derived.Test.Qxb6605609aAxE
import Derived.Test.Qxb6605609aAdG
namespace Go.Proofs.Qxb6605609a
open Go.RowKit Go.Deep Go.MapKept
open Go.ChangeMaps (setBlock)

set_option maxHeartbeats 2000000 in
set_option maxRecDepth 100000 in
theorem exact_walk (vk vb vmb va vma : Value) (lk lb : List ByteArray) (mb : List (List ByteArray)) (la : List ByteArray) (ma : List (List ByteArray)) (w : World) (hk : StrsAt w vk lk) (hb : StrsAt w vb lb) (hmb : ListsAt w vmb mb) (ha : StrsAt w va la) (hma : ListsAt w vma ma)
    (nk : lk.length ≤ 9223372036854775807) (nb : lb.length ≤ 9223372036854775807) (nmb : mb.length ≤ 9223372036854775807) (rmb : RowsLe mb 9223372036854775807) (na : la.length ≤ 9223372036854775807) (nma : ma.length ≤ 9223372036854775807) (rma : RowsLe ma 9223372036854775807) :
    Calls Try.prog 3 #[vk, vb, vmb, va, vma] w fun e w' => e = .returned (.bool true) ∧ Below w.heap.size w w' := by
  have HK := hid hk
  have HB := hid hb
  have HMB := hid hmb
  have HA := hid ha
  have HMA := hid hma
  have RMB := hid rmb
  have RMA := hid rma
  clear hk hb hmb ha hma rmb rma
  go_enter Try.func3, Try.ntmps3
  go_wp2_with fail
  refine (bytes7_any vk vb vmb va vma lk lb mb la ma w HK.out HB.out HMB.out HA.out HMA.out).mono ?_
  rintro e w1 ⟨⟨t, rfl, ht⟩, rfl⟩
  cases t
  · go_wp2_with fail
    go_ret
    exact ⟨rfl, Below.refl _ _⟩
  obtain ⟨bk, bb, ⟨bmb, smb⟩, ba, bma, sma⟩ := ht rfl
  have SMB := hid smb
  have SMA := hid sma
  clear ht smb sma
  go_wp2_with fail
  refine (strBytes_any vk lk w HK.out nk).mono ?_
  rintro e w1 ⟨⟨t1, rfl⟩, rfl⟩
  go_wp2_with fail
  refine (strBytes_any vb lb w HB.out nb).mono ?_
  rintro e w1 ⟨⟨t2, rfl⟩, rfl⟩
  go_wp2_with fail
  refine (listsBytes_any vmb mb w HMB.out nmb RMB.out).mono ?_
  rintro e w1 ⟨⟨t3, rfl⟩, rfl⟩
  go_wp2_with fail
  refine (strBytes_any va la w HA.out na).mono ?_
  rintro e w1 ⟨⟨t4, rfl⟩, rfl⟩
  go_wp2_with fail
  refine (listsBytes_any vma ma w HMA.out nma RMA.out).mono ?_
  rintro e w1 ⟨⟨t5, rfl⟩, rfl⟩
  have HB' := hid HB.out
  have HA' := hid HA.out
  have HMB' := hid HMB.out
  have HMA' := hid HMA.out
  obtain ⟨ob, cb, _, _, rfl, _⟩ := HB.out
  obtain ⟨oa, ca, _, _, rfl, _⟩ := HA.out
  obtain ⟨omb, cmb, _, _, rfl, _⟩ := HMB.out
  obtain ⟨oma, cma, _, _, rfl, _⟩ := HMA.out
  clear HB HA HMB HMA
  go_wp2_with fail
  all_goals try (go_ret; exact ⟨rfl, Below.refl _ _⟩)
  have e1 : (mb.length : Int) = (lb.length : Int) := by assumption
  have EB : Hid (mb.length = lb.length) := Int.ofNat.inj e1
  have EA : Hid (ma.length = la.length) := by
    have e2 : ((ma.length : Int) != (la.length : Int)) = false := by assumption
    simp at e2
    exact Int.ofNat.inj e2
  clear e1
  refine (clone_any vk lk w HK.out bk).mono ?_
  rintro e w1 ⟨vk1, rfl, s1, _, b1⟩
  have GK := hid s1
  have HB := hid (HB'.out.below b1)
  have HMB := hid (HMB'.out.below b1)
  have HA := hid (HA'.out.below b1)
  have HMA := hid (HMA'.out.below b1)
  clear s1 HK HB' HMB' HA' HMA'
  go_wp2_with fail
  refine (clone_any _ lb w1 HB.out bb).mono ?_
  rintro e w2 ⟨vb1, rfl, s1, _, b2⟩
  have GK := hid (GK.out.below b2)
  have GB := hid s1
  have HMB := hid (HMB.out.below b2)
  have HA := hid (HA.out.below b2)
  have HMA := hid (HMA.out.below b2)
  have b2 : Below w.heap.size w w2 := b1.trans (b2.mono b1.size)
  clear s1 HB b1
  go_wp2_with fail
  refine (cloneLists_any _ mb w2 HMB.out bmb SMB.out).mono ?_
  rintro e w3 ⟨vmb1, rfl, s1, b3⟩
  have GK := hid (GK.out.below b3)
  have GB := hid (GB.out.below b3)
  have GMB := hid s1
  have HA := hid (HA.out.below b3)
  have HMA := hid (HMA.out.below b3)
  have b3 : Below w.heap.size w w3 := b2.trans (b3.mono b2.size)
  clear s1 HMB b2
  go_wp2_with fail
  refine (clone_any _ la w3 HA.out ba).mono ?_
  rintro e w4 ⟨va1, rfl, s1, _, b4⟩
  have GK := hid (GK.out.below b4)
  have GB := hid (GB.out.below b4)
  have GMB := hid (GMB.out.below b4)
  have GA := hid s1
  have HMA := hid (HMA.out.below b4)
  have b4 : Below w.heap.size w w4 := b3.trans (b4.mono b3.size)
  clear s1 HA b3
  go_wp2_with fail
  refine (cloneLists_any _ ma w4 HMA.out bma SMA.out).mono ?_
  rintro e w5 ⟨vma1, rfl, s1, b5⟩
  have GK := hid (GK.out.below b5)
  have GB := hid (GB.out.below b5)
  have GMB := hid (GMB.out.below b5)
  have GA := hid (GA.out.below b5)
  have GMA := hid s1
  have b5 : Below w.heap.size w w5 := b4.trans (b5.mono b4.size)
  clear s1 HMA b4
  go_wp2_with fail
  refine (mapOf_any vb1 vmb1 lb mb w5 GB.out GMB.out EB.out bb SMB.out).mono ?_
  rintro e w6 ⟨mvb, Fb, rfl, s1, f1, b6, _⟩
  have VB := hid s1
  have FB := hid f1
  have GK := hid (GK.out.below b6)
  have GB := hid (GB.out.below b6)
  have GA := hid (GA.out.below b6)
  have GMA := hid (GMA.out.below b6)
  have b6 : Below w.heap.size w w6 := b5.trans (b6.mono b5.size)
  clear s1 f1 GMB b5
  go_wp2_with fail
  refine (mapOf_any va1 vma1 la ma w6 GA.out GMA.out EA.out ba SMA.out).mono ?_
  rintro e w7 ⟨mva, Fa, rfl, s1, f1, b7, _⟩
  have VB := hid (VB.out.below b7)
  have VA := hid s1
  have FA := hid f1
  have GK := hid (GK.out.below b7)
  have GB := hid (GB.out.below b7)
  have GA := hid (GA.out.below b7)
  have b7 : Below w.heap.size w w7 := b6.trans (b7.mono b6.size)
  clear s1 f1 GMA b6
  have hmm := @run_makeMap Try.prog
  have GK' := hid GK.out
  have GB' := hid GB.out
  have GA' := hid GA.out
  obtain ⟨ok, ck, bk1, offk, rfl, _, hAk, hCk⟩ := GK.out
  obtain ⟨ob, cb, bb1, offb, rfl, _, hAb, hCb⟩ := GB.out
  obtain ⟨oa, ca, ba1, offa, rfl, _, hAa, hCa⟩ := GA.out
  have Ak := hid hAk
  have Ck := hid hCk
  have Ab := hid hAb
  have Cb := hid hCb
  have Aa := hid hAa
  have Ca := hid hCa
  clear GK GB GA hAk hCk hAb hCb hAa hCa EB EA SMB SMA RMB RMA
  go_wp2_with fail
  have h2 := two_maps w7 (.map #[] 0) (.map #[] 0)
  generalize ((w7.alloc _).alloc _) = w8 at h2 ⊢
  obtain ⟨b8, q1, q2⟩ := h2
  go_loopw [15, 17] (fun c t wr => ∃ (k cn : Nat), k ≤ lb.length + la.length ∧ c = .int .i64 cn ∧ t = .int .i64 k ∧ cn ≤ k ∧ Hid (∃ cs ws, cn = ws.length ∧ SetV wr w7.heap.size cs ∧ SetV wr (w7.heap.size + 1) ws ∧ Got Fb Fa (lb ++ la) k cs ws) ∧ Below w7.heap.size w7 wr) (fun _ t _ => lb.length + la.length - (intOf t).toNat)
  case atStart => exact ⟨0, 0, Nat.zero_le _, rfl, rfl, Nat.le_refl _, ⟨[], [], rfl, SetV.start q1, SetV.start q2, Got.start _ _ _⟩, b8⟩
  case round =>
    obtain ⟨k, cn, hk, rfl, rfl, hck, HR, hbr⟩ := hrel
    clear b8 q1 q2
    by_cases hlt : k < lb.length + la.length
    · by_cases h1 : k < lb.length
      · obtain rfl := Ab.out (by omega)
        obtain ⟨y, hy⟩ : ∃ y, (lb ++ la).getD k ⟨#[]⟩ = y := ⟨_, rfl⟩
        have c0 := Cb.out k h1
        rw [show lb.getD k ⟨#[]⟩ = y by rw [← hy]; simp [List.getD, List.getElem?_append_left h1]] at c0
        have c1 : wr.cell? ⟨bb1, offb + k, none⟩ = some (.string y) := by rw [hbr.cell (p := ⟨bb1, offb + k, none⟩) (World.block_lt_of_cell? w7 _ c0)]; exact c0
        clear c0
        have hkl : k < (lb ++ la).length := by rw [List.length_append]; exact hlt
        have HY := hid hy
        clear hy
        obtain ⟨cs, ws, hcn, sc, sw, hgot⟩ := HR.out
        have HG := hid hgot
        have HCN := hid hcn
        have HSC := hid sc
        have HSW := hid sw
        clear HR hgot hcn sc sw hmm
        by_cases hc : y ∈ cs
        · have HC := hid hc
          have hl := HSC.out.look y true (by simp [hc])
          clear hc
          go_wp2_with fail
          go_roundw
          case rel => exact ⟨k + 1, cn, by omega, rfl, by go_num, by omega, ⟨cs, ws, HCN.out, HSC.out, HSW.out, HG.out.old hkl HY.out HC.out⟩, hbr⟩
          case measure => simp [intOf]; omega
        · have HC := hid hc
          have hl := HSC.out.look y false (by simp [hc])
          obtain ⟨w2, hst, ht, sc2⟩ := HSC.out.put y
          have HSC2 := hid sc2
          have HSW2 := hid (HSW.out.turn ht (by omega))
          have hb2 := ht.belowAt hbr hbr.size (Nat.le_refl _)
          obtain ⟨v1, l1, s1⟩ := look_any (VB.out.below hb2) y false
          obtain ⟨v2, l2, s2⟩ := look_any (VA.out.below hb2) y false
          simp only [Bool.false_eq_true, if_false] at l1 l2
          have HS1 := hid s1
          have HS2 := hid s2
          clear hc sc2 ht HSC HSW s1 s2
          go_wp2_with fail
          refine (sameList_any v1 v2 _ _ w2 HS1.out HS2.out (VB.out.short y)).mono ?_
          rintro e w9 ⟨rfl, q, rfl⟩
          have hq : Below w2.heap.size w2 (w2.drewN q) := below_drewN (Below.refl _ _) q
          have HSC3 := hid (HSC2.out.below hq)
          have HSW3 := hid (HSW2.out.below hq)
          have hb3 : Below w7.heap.size w7 (w2.drewN q) := hb2.trans (hq.mono hb2.size)
          clear HSC2 HSW2 hq hb2 l1 l2 hl hst HS1 HS2 hbr
          cases hsm : sameB ((Fb y).getD []) ((Fa y).getD [])
          · have HP : Hid (P1 Fb Fa y) := of_decide_eq_false hsm
            clear hsm
            generalize w2.drewN q = w9 at *
            obtain ⟨w4, hst, ht, sw4⟩ := HSW3.out.put y
            have HSW4 := hid sw4
            have HSC4 := hid (HSC3.out.turn ht (by omega))
            have hb4 := ht.belowAt hb3 hb3.size (by omega)
            clear sw4 ht HSC3 HSW3 hb3
            go_wp2_with fail
            go_roundw
            case rel => exact ⟨k + 1, cn + 1, by omega, by go_num, by go_num, by omega, ⟨y :: cs, y :: ws, by rw [HCN.out]; rfl, HSC4.out, HSW4.out, HG.out.more hkl HY.out HC.out HP.out⟩, hb4⟩
            case measure => simp [intOf]; omega
          · have HP : Hid (¬ P1 Fb Fa y) := fun h => h (of_decide_eq_true hsm)
            clear hsm
            go_wp2_with fail
            go_roundw
            case rel => exact ⟨k + 1, cn, by omega, rfl, by go_num, by omega, ⟨y :: cs, ws, HCN.out, HSC3.out, HSW3.out, HG.out.same hkl HY.out HP.out⟩, hb3⟩
            case measure => simp [intOf]; omega
      · obtain ⟨j, rfl⟩ : ∃ j, k = lb.length + j := ⟨k - lb.length, by omega⟩
        have hj : j < la.length := by omega
        obtain rfl := Aa.out (by omega)
        obtain ⟨y, hy⟩ : ∃ y, (lb ++ la).getD (lb.length + j) ⟨#[]⟩ = y := ⟨_, rfl⟩
        have c0 := Ca.out j hj
        rw [show la.getD j ⟨#[]⟩ = y by rw [← hy]; simp [List.getD, List.getElem?_append_right (Nat.le_add_right lb.length j)]] at c0
        have c1 : wr.cell? ⟨ba1, offa + j, none⟩ = some (.string y) := by rw [hbr.cell (p := ⟨ba1, offa + j, none⟩) (World.block_lt_of_cell? w7 _ c0)]; exact c0
        have i1 : (j : Int) < (la.length : Int) := by omega
        clear c0
        have hkl : lb.length + j < (lb ++ la).length := by rw [List.length_append]; exact hlt
        have HY := hid hy
        clear hy
        obtain ⟨cs, ws, hcn, sc, sw, hgot⟩ := HR.out
        have HG := hid hgot
        have HCN := hid hcn
        have HSC := hid sc
        have HSW := hid sw
        clear HR hgot hcn sc sw hmm
        by_cases hc : y ∈ cs
        · have HC := hid hc
          have hl := HSC.out.look y true (by simp [hc])
          clear hc
          go_wp2_with fail
          go_roundw
          case rel => exact ⟨lb.length + j + 1, cn, by omega, rfl, by go_num, by omega, ⟨cs, ws, HCN.out, HSC.out, HSW.out, HG.out.old hkl HY.out HC.out⟩, hbr⟩
          case measure => simp [intOf]; omega
        · have HC := hid hc
          have hl := HSC.out.look y false (by simp [hc])
          obtain ⟨w2, hst, ht, sc2⟩ := HSC.out.put y
          have HSC2 := hid sc2
          have HSW2 := hid (HSW.out.turn ht (by omega))
          have hb2 := ht.belowAt hbr hbr.size (Nat.le_refl _)
          obtain ⟨v1, l1, s1⟩ := look_any (VB.out.below hb2) y false
          obtain ⟨v2, l2, s2⟩ := look_any (VA.out.below hb2) y false
          simp only [Bool.false_eq_true, if_false] at l1 l2
          have HS1 := hid s1
          have HS2 := hid s2
          clear hc sc2 ht HSC HSW s1 s2
          go_wp2_with fail
          refine (sameList_any v1 v2 _ _ w2 HS1.out HS2.out (VB.out.short y)).mono ?_
          rintro e w9 ⟨rfl, q, rfl⟩
          have hq : Below w2.heap.size w2 (w2.drewN q) := below_drewN (Below.refl _ _) q
          have HSC3 := hid (HSC2.out.below hq)
          have HSW3 := hid (HSW2.out.below hq)
          have hb3 : Below w7.heap.size w7 (w2.drewN q) := hb2.trans (hq.mono hb2.size)
          clear HSC2 HSW2 hq hb2 l1 l2 hl hst HS1 HS2 hbr
          cases hsm : sameB ((Fb y).getD []) ((Fa y).getD [])
          · have HP : Hid (P1 Fb Fa y) := of_decide_eq_false hsm
            clear hsm
            generalize w2.drewN q = w9 at *
            obtain ⟨w4, hst, ht, sw4⟩ := HSW3.out.put y
            have HSW4 := hid sw4
            have HSC4 := hid (HSC3.out.turn ht (by omega))
            have hb4 := ht.belowAt hb3 hb3.size (by omega)
            clear sw4 ht HSC3 HSW3 hb3
            go_wp2_with fail
            go_roundw
            case rel => exact ⟨lb.length + j + 1, cn + 1, by omega, by go_num, by go_num, by omega, ⟨y :: cs, y :: ws, by rw [HCN.out]; rfl, HSC4.out, HSW4.out, HG.out.more hkl HY.out HC.out HP.out⟩, hb4⟩
            case measure => simp [intOf]; omega
          · have HP : Hid (¬ P1 Fb Fa y) := fun h => h (of_decide_eq_true hsm)
            clear hsm
            go_wp2_with fail
            go_roundw
            case rel => exact ⟨lb.length + j + 1, cn, by omega, rfl, by go_num, by omega, ⟨y :: cs, ws, HCN.out, HSC3.out, HSW3.out, HG.out.same hkl HY.out HP.out⟩, hb3⟩
            case measure => simp [intOf]; omega
    · obtain rfl : k = lb.length + la.length := by omega
      obtain ⟨cs, ws, hcn, sc, sw, hgot⟩ := HR.out
      have HSW := hid sw
      have HCN := hid hcn
      have HWN := hid hgot.nodup
      have HWA : Hid (∀ s, s ∈ ws ↔ P1 Fb Fa s) := fun s => Got.all (by rw [List.length_append]; exact hgot) FB.out FA.out s
      clear HR sc sw hgot hcn FB FA Ab Cb Aa Ca GB' GA'
      go_wp2_with fail
      refine (clone_any _ lk wr (GK'.out.below hbr) bk).mono ?_
      rintro e w9 ⟨vk3, rfl, s2, f2, b9⟩
      have HSW := hid (HSW.out.below b9)
      have HS2 := hid s2
      have HF2 := hid f2
      have b9 : Below w7.heap.size w7 w9 := hbr.trans (b9.mono hbr.size)
      clear s2 f2 hbr
      go_wp2_with fail
      refine (zzAppend_any vk3 mvb mva lk Fb Fa w9 HS2.out HF2.out (VB.out.below b9) (VA.out.below b9) bk).mono ?_
      rintro e w10 ⟨g, ext, rfl, sg, ng, mg, b10⟩
      have HSW := hid (HSW.out.below b10)
      have b10 : Below w7.heap.size w7 w10 := b9.trans (b10.mono b9.size)
      have HXN := hid ng
      have HXW : Hid (∀ s ∈ ext, s ∈ ws) := fun s hs => (HWA.out s).2 ((mg s).1 hs)
      have hcx : cn = ext.length := by rw [HCN.out]; exact nodup_eq HWN.out ng (fun s => (HWA.out s).trans (mg s).symm)
      clear HWN HWA HCN mg ng b9 HS2 HF2 VB VA
      subst hcx
      obtain ⟨go, gcap, gb, goff, rfl, _, hAg, hCg⟩ := sg
      have el : (lk ++ ext).length = lk.length + ext.length := List.length_append
      rw [el] at hAg hCg ⊢
      have Ag := hid hAg
      have Cg := hid hCg
      have CK : Hid (∀ i, i < lk.length → w10.cell? ⟨bk1, offk + i, none⟩ = some (.string (lk.getD i ⟨#[]⟩))) := fun i hi => by
        rw [b10.cell (p := ⟨bk1, offk + i, none⟩) (World.block_lt_of_cell? w7 _ (Ck.out i hi))]; exact Ck.out i hi
      have b10 : Below w.heap.size w w10 := b7.trans (b10.mono b7.size)
      clear hAg hCg Ck GK' b7 el
      go_wp2_with fail
      go_loopw [21] (fun i wr => ∃ k : Nat, k ≤ lk.length ∧ i = .int .i64 k ∧ ∃ q, wr = w10.drewN q) (fun i _ => lk.length - (intOf i).toNat)
      case atStart => exact ⟨0, Nat.zero_le _, rfl, 0, rfl⟩
      case round =>
        obtain ⟨k, hk, rfl, q, rfl⟩ := hrel
        by_cases hlt : k < lk.length
        · obtain rfl := Ag.out (by omega)
          obtain rfl := Ak.out (by omega)
          have c1 := Cg.out k (by omega)
          have c2 := CK.out k hlt
          rw [show (lk ++ ext).getD k ⟨#[]⟩ = lk.getD k ⟨#[]⟩ by simp [List.getD, List.getElem?_append_left hlt]] at c1
          have i1 : (k : Int) < ((lk.length + ext.length : Nat) : Int) := by omega
          have i2 : (k : Int) < (lk.length : Int) := by omega
          clear hmm
          generalize lk.getD k ⟨#[]⟩ = y at *
          go_wp2
          go_quiet (fail)
          go_wp2
          go_roundw
          case rel => exact ⟨k + 1, by omega, by go_num, _, rfl⟩
          case measure => simp [intOf]; omega
        · have hq : Below w10.heap.size w10 (w10.drewN q) := below_drewN (Below.refl _ _) q
          have HSW := hid (HSW.out.below hq)
          have Cg : Hid (∀ i, i < lk.length + ext.length → (w10.drewN q).cell? ⟨gb, goff + i, none⟩ = some (.string ((lk ++ ext).getD i ⟨#[]⟩))) := Cg.out
          have b11 : Below w.heap.size w (w10.drewN q) := b10.trans (hq.mono b10.size)
          clear hq b10 CK Ak
          generalize w10.drewN q = w11 at *
          go_wp2
          go_loopw [23] (fun i wr => ∃ k : Nat, lk.length ≤ k ∧ k ≤ lk.length + ext.length ∧ i = .int .i64 k ∧ Hid (∃ S, SetV wr w11.heap.size S ∧ ∀ s, s ∈ S ↔ s ∈ ext.take (k - lk.length)) ∧ Below w11.heap.size w11 wr) (fun i _ => lk.length + ext.length - (intOf i).toNat)
          case atStart => exact ⟨lk.length, Nat.le_refl _, Nat.le_add_right _ _, rfl, ⟨[], SetV.start (Go.heap_alloc_new w11 _), by simp⟩, (Below.refl _ _).alloc (Nat.le_refl _) _⟩
          case round =>
            obtain ⟨k, hk0, hk1, rfl, HR, hbr⟩ := hrel
            by_cases hlt : k < lk.length + ext.length
            · obtain ⟨j, rfl⟩ : ∃ j, k = lk.length + j := ⟨k - lk.length, by omega⟩
              have hj : j < ext.length := by omega
              obtain rfl := Ag.out (by omega)
              obtain ⟨S, hS, hSm⟩ := HR.out
              rw [Nat.add_sub_cancel_left] at hSm
              obtain ⟨y, hy⟩ : ∃ y, ext.getD j ⟨#[]⟩ = y := ⟨_, rfl⟩
              have c0 := Cg.out (lk.length + j) hlt
              rw [show (lk ++ ext).getD (lk.length + j) ⟨#[]⟩ = y by rw [← hy]; simp [List.getD, List.getElem?_append_right (Nat.le_add_right lk.length j)]] at c0
              have c1 : wr.cell? ⟨gb, goff + (lk.length + j), none⟩ = some (.string y) := by rw [hbr.cell (p := ⟨gb, goff + (lk.length + j), none⟩) (World.block_lt_of_cell? w11 _ c0)]; exact c0
              have hyw : y ∈ ws := HXW.out y (by rw [← hy]; exact getD_in ext j hj)
              have hyn : y ∉ S := fun h => not_in_take HXN.out hj (by rw [hy]; exact (hSm y).1 h)
              have l1 := (HSW.out.below hbr).look y true (by simp [hyw])
              have l2 := hS.look y false (by simp [hyn])
              obtain ⟨w12, hst, ht, hS2⟩ := hS.put y
              have hb2 := ht.belowAt hbr hbr.size (Nat.le_refl _)
              have HR2 : Hid (∃ S, SetV w12 w11.heap.size S ∧ ∀ s, s ∈ S ↔ s ∈ ext.take (lk.length + j + 1 - lk.length)) := ⟨y :: S, hS2, fun s => by
                rw [show lk.length + j + 1 - lk.length = j + 1 by omega, take_one hj hy, List.mem_cons, hSm]; exact or_comm⟩
              have i1 : ((lk.length + j : Nat) : Int) < ((lk.length + ext.length : Nat) : Int) := by omega
              clear HR hS hSm c0 hyw hyn ht hS2 hy hmm hbr
              go_wp2_with fail
              go_roundw
              case rel => exact ⟨lk.length + j + 1, by omega, by omega, by go_num, HR2, hb2⟩
              case measure => simp [intOf]; omega
            · obtain rfl : k = lk.length + ext.length := by omega
              go_wp2_with fail
              go_ret
              exact ⟨rfl, b11.trans (hbr.mono b11.size)⟩
end Go.Proofs.Qxb6605609a
