import Derived.Test.Qxb6605609aAdD
import Derived.Deep.LoopGhost
namespace Go.Proofs.Qxb6605609a
open Go.RowKit Go.Deep Go.MapKept

/-- What a range over a map gathers: those keys that meet P and have come. -/
structure Gath (w0 : World) (F : ByteArray → Option (List ByteArray)) (P : ByteArray → Prop) (ents : List (ByteArray × Value)) (ext0 ext : List ByteArray) : Prop where
  nodup : ext.Nodup
  mem : ∀ k, k ∈ ext ↔ k ∈ ext0 ∨ (P k ∧ (F k).isSome = true ∧ ∀ q ∈ ents, q.1 ≠ k)
  ok : ∀ q ∈ ents, ∃ l, F q.1 = some l ∧ StrsAt w0 q.2 l
  len : ext.length + ents.length ≤ ext0.length + 1048576

theorem Gath.take {w0 : World} {F : ByteArray → Option (List ByteArray)} {P : ByteArray → Prop} {ents ents' : List (ByteArray × Value)} {ext0 ext : List ByteArray} (h : Gath w0 F P ents ext0 ext) {p : ByteArray × Value} (hp : p ∈ ents)
    (h1 : ∀ q ∈ ents', q ∈ ents ∧ q.1 ≠ p.1) (h2 : ∀ q ∈ ents, q.1 = p.1 ∨ q ∈ ents') (hl : ents'.length < ents.length) (hP : P p.1) (h0 : ∀ k ∈ ext0, ¬ P k) : Gath w0 F P ents' ext0 (ext ++ [p.1]) where
  nodup := by
    rw [List.nodup_append]
    refine ⟨h.nodup, by simp, ?_⟩
    intro a ha b hb
    simp only [List.mem_singleton] at hb
    subst hb
    rintro rfl
    rcases (h.mem _).1 ha with hm | ⟨_, _, hm⟩
    · exact h0 _ hm hP
    · exact hm p hp rfl
  mem := fun k => by
    rw [List.mem_append, h.mem k, List.mem_singleton]
    constructor
    · rintro ((hm | ⟨m1, m2, m3⟩) | rfl)
      · exact Or.inl hm
      · exact Or.inr ⟨m1, m2, fun q hq => m3 q (h1 q hq).1⟩
      · obtain ⟨l, hl, _⟩ := h.ok p hp
        exact Or.inr ⟨hP, by rw [hl]; rfl, fun q hq => (h1 q hq).2⟩
    · rintro (hm | ⟨m1, m2, m3⟩)
      · exact Or.inl (Or.inl hm)
      · by_cases e : k = p.1
        · exact Or.inr e
        · refine Or.inl (Or.inr ⟨m1, m2, fun q hq hqk => ?_⟩)
          rcases h2 q hq with hq' | hq'
          · exact e (by rw [← hqk, hq'])
          · exact m3 q hq' hqk
  ok := fun q hq => h.ok q (h1 q hq).1
  len := by have := h.len; simp; omega

theorem Gath.pass {w0 : World} {F : ByteArray → Option (List ByteArray)} {P : ByteArray → Prop} {ents ents' : List (ByteArray × Value)} {ext0 ext : List ByteArray} (h : Gath w0 F P ents ext0 ext) {p : ByteArray × Value}
    (h1 : ∀ q ∈ ents', q ∈ ents ∧ q.1 ≠ p.1) (h2 : ∀ q ∈ ents, q.1 = p.1 ∨ q ∈ ents') (hl : ents'.length < ents.length) (hP : ¬ P p.1) : Gath w0 F P ents' ext0 ext where
  nodup := h.nodup
  mem := fun k => by
    rw [h.mem k]
    constructor
    · rintro (hm | ⟨m1, m2, m3⟩)
      · exact Or.inl hm
      · exact Or.inr ⟨m1, m2, fun q hq => m3 q (h1 q hq).1⟩
    · rintro (hm | ⟨m1, m2, m3⟩)
      · exact Or.inl hm
      · refine Or.inr ⟨m1, m2, fun q hq hqk => ?_⟩
        rcases h2 q hq with hq' | hq'
        · exact hP (by rw [← hq', hqk]; exact m1)
        · exact m3 q hq' hqk
  ok := fun q hq => h.ok q (h1 q hq).1
  len := by have := h.len; omega

def P1 (Fb Fa : ByteArray → Option (List ByteArray)) (k : ByteArray) : Prop := (Fb k).getD [] ≠ (Fa k).getD []
def P2 (Fb Fa : ByteArray → Option (List ByteArray)) (k : ByteArray) : Prop := Fb k = none ∧ 0 < ((Fa k).getD []).length

theorem final_iff {Fb Fa : ByteArray → Option (List ByteArray)} (k : ByteArray) :
    ((k ∈ ([] : List ByteArray) ∨ (P1 Fb Fa k ∧ (Fb k).isSome = true ∧ ∀ q ∈ ([] : List (ByteArray × Value)), q.1 ≠ k)) ∨ (P2 Fb Fa k ∧ (Fa k).isSome = true ∧ ∀ q ∈ ([] : List (ByteArray × Value)), q.1 ≠ k)) ↔ P1 Fb Fa k := by
  simp only [List.not_mem_nil, false_or, false_implies, implies_true, and_true]
  constructor
  · rintro (⟨h, _⟩ | ⟨⟨h1, h2⟩, _⟩)
    · exact h
    · unfold P1; rw [h1]; intro e; rw [← e] at h2; simp at h2
  · intro h
    cases hb : Fb k with
    | some l => exact Or.inl ⟨h, rfl⟩
    | none =>
      right
      unfold P1 at h
      rw [hb] at h
      cases ha : Fa k with
      | none => rw [ha] at h; exact absurd rfl h
      | some l =>
        rw [ha] at h
        refine ⟨⟨hb, ?_⟩, rfl⟩
        rw [ha]
        simp only [Option.getD_none, Option.getD_some] at h ⊢
        exact List.length_pos_iff.2 (fun e => h e.symm)

set_option maxHeartbeats 1000000 in
set_option maxRecDepth 100000 in
theorem appendDiff_any (vk mb ma : Value) (lk : List ByteArray) (Fb Fa : ByteArray → Option (List ByteArray)) (w : World) (hk : StrsAt w vk lk) (hf : Full vk lk) (hb : MapV w mb Fb) (ha : MapV w ma Fa) (hn : lk.length ≤ 1048576) :
    Calls Try.prog 24 #[vk, mb, ma] w fun e w' => ∃ v ext, e = .returned v ∧ StrsAt w' v (lk ++ ext) ∧ ext.Nodup ∧ (∀ k, k ∈ ext ↔ P1 Fb Fa k) ∧ Below w.heap.size w w' := by
  obtain ⟨o1, ents1, hrange, hit1, hlen1, hdn1, hup1⟩ := range_any hb (Below.refl _ _)
  have HK : Hid (StrsAt w vk lk) := hk
  have HF : Hid (Full vk lk) := hf
  have HMB : Hid (MapV w mb Fb) := hb
  have HMA : Hid (MapV w ma Fa) := ha
  have HU1 : Hid (∀ s l, Fb s = some l → ∃ p ∈ ents1, p.1 = s) := hup1
  have HG1 : Hid (Gath w Fb (P1 Fb Fa) ents1 [] []) := ⟨by simp, fun k => by
      simp only [List.not_mem_nil, false_or, false_iff]
      rintro ⟨_, h2, h3⟩
      obtain ⟨l, hl⟩ := Option.isSome_iff_exists.1 h2
      obtain ⟨p, hp, e⟩ := hup1 k l hl
      exact h3 p hp e, hdn1, by simpa using hlen1⟩
  have HI1 : Hid (Iter (w.alloc o1) w.heap.size ents1) := hit1
  clear hk hf hb ha hup1 hdn1 hit1
  go_enter Try.func24, Try.ntmps24
  go_wp2_with fail
  go_loopg [0] ents1.length (fun g v wr => ∃ ents ext, ents.length ≤ g ∧ Hid (Iter wr w.heap.size ents ∧ Acc w.heap.size wr vk v lk ext ∧ Gath w Fb (P1 Fb Fa) ents [] ext) ∧ Below w.heap.size w wr)
  case atStart => exact ⟨ents1, [], Nat.le_refl _, ⟨HI1.out, Or.inl ⟨rfl, rfl⟩, HG1.out⟩, (Below.refl _ _).alloc (Nat.le_refl _) _⟩
  case round =>
    obtain ⟨ents, ext, hg, HR, hbr⟩ := hrel
    obtain ⟨v, rfl⟩ : ∃ v, v = u0 := ⟨_, rfl⟩
    rcases next_any HR.out.1 with ⟨hend, hnext⟩ | ⟨p, ents', w1, hp, hlt, hit, hgr, ⟨m1, m2, m3, m4, hitb⟩, q1, q2, hnext, hentry⟩
    · subst hend
      have HG : Hid (Gath w Fb (P1 Fb Fa) [] [] ext) := HR.out.2.2
      have HA : Hid (Acc w.heap.size wr vk v lk ext) := HR.out.2.1
      clear HR HG1 HI1 HU1 hrange
      obtain ⟨o2, ents2, hrange, hit2, hlen2, hdn2, hup2⟩ := range_any HMA.out hbr
      have HI2 : Hid (Iter (wr.alloc o2) wr.heap.size ents2) := hit2
      obtain ⟨wo, rfl⟩ : ∃ wo, wo = wr := ⟨_, rfl⟩
      have hso := hbr.size
      have HG2 : Hid (Gath w Fa (P2 Fb Fa) ents2 ext ext) := ⟨HG.out.nodup, fun k => by
          constructor
          · exact Or.inl
          · rintro (h | ⟨_, h2, h3⟩)
            · exact h
            · obtain ⟨l, hl⟩ := Option.isSome_iff_exists.1 h2
              obtain ⟨p, hp, e⟩ := hup2 k l hl
              exact absurd e (h3 p hp), hdn2, by omega⟩
      have HA2 : Hid (Acc w.heap.size (wo.alloc o2) vk v lk ext) := HA.out.kept (World.grownBy_alloc wo o2 none) (fun k hk => by cases hk)
      have hlx : ext.length ≤ 1048576 := by have := HG.out.len; simpa using this
      have HE0 : Hid (∀ k ∈ ext, ¬ P2 Fb Fa k) := fun k hk hp => by
        rcases (HG.out.mem k).1 hk with h | ⟨_, h, _⟩
        · simp at h
        · rw [hp.1] at h; simp at h
      clear hit2 hdn2 hup2 HA
      go_wp2_with fail
      go_loopg [0] ents2.length (fun g v wr => ∃ ents ext', ents.length ≤ g ∧ Hid (Iter wr wo.heap.size ents ∧ Acc w.heap.size wr vk v lk ext' ∧ Gath w Fa (P2 Fb Fa) ents ext ext') ∧ Below w.heap.size w wr)
      case atStart => exact ⟨ents2, ext, Nat.le_refl _, ⟨HI2.out, HA2.out, HG2.out⟩, hbr.alloc hso _⟩
      case round =>
        obtain ⟨ents, ext', hg, HR, hbr2⟩ := hrel
        obtain ⟨v, rfl⟩ : ∃ v, v = u0 := ⟨_, rfl⟩
        rcases next_any HR.out.1 with ⟨hend, hnext⟩ | ⟨p, ents', w1, hp, hlt, hit, hgr, ⟨m1, m2, m3, m4, hitb⟩, q1, q2, hnext, hentry⟩
        · subst hend
          have HG3 : Hid (Gath w Fa (P2 Fb Fa) [] ext ext') := HR.out.2.2
          have HA3 : Hid (Acc w.heap.size wr vk v lk ext') := HR.out.2.1
          clear HR
          go_wp2_with fail
          go_ret
          refine ⟨_, ext', rfl, HA3.out.strs HK.out hbr2, HG3.out.nodup, fun k => ?_, hbr2⟩
          rw [HG3.out.mem k, HG.out.mem k]
          exact final_iff k
        · have hb1 : Below w.heap.size w w1 := hbr2.grown hgr hbr2.size (fun k hk => by cases hk; exact hso)
          have HA1 : Hid (Acc w.heap.size w1 vk v lk ext') := HR.out.2.1.kept hgr (fun k hk c t f e => by cases hk; rw [hitb] at e; cases e)
          have HG3 : Hid (Gath w Fa (P2 Fb Fa) ents ext ext') := HR.out.2.2
          have HI : Hid (Iter w1 wo.heap.size ents') := hit
          have HQ : Hid ((∀ q ∈ ents', q ∈ ents ∧ q.1 ≠ p.1) ∧ (∀ q ∈ ents, q.1 = p.1 ∨ q ∈ ents')) := ⟨q1, q2⟩
          have HP : Hid (p ∈ ents) := hp
          obtain ⟨l1, hf1, hs1⟩ := HG3.out.ok p hp
          obtain ⟨v2, hlook, _⟩ := look_any (HMB.out.below hb1) p.1 true
          simp only [if_true] at hlook
          have HF1 : Hid (Fa p.1 = some l1) := hf1
          obtain ⟨key, val⟩ := p
          simp only [] at hnext hentry hlook hs1
          obtain ⟨ao, cap, b, off, rfl, _⟩ := hs1
          clear hf1 q1 q2 hit hp hgr hitb HR hrange
          have hlen : (lk ++ ext').length ≤ 4194304 := by have := HG3.out.len; simp at this ⊢; omega
          cases hh : (Fb key).isSome
          · rw [hh] at hlook
            by_cases hl0 : 0 < l1.length
            · have hl0' : (0 : Int) < (l1.length : Int) := by omega
              have HPP : Hid (P2 Fb Fa key) := ⟨by simpa using hh, by rw [HF1.out]; simpa using hl0⟩
              clear hh
              go_wp2_with (at_builtin; refine wpList_append_acc w1 rfl _ _ rfl w vk v lk ext' key hb1 HK.out HF.out HA1.out rfl rfl hlen ?_)
              intro v' w3 row hacc3 hgr3 hrow
              have HR3 : Hid (Iter w3 wo.heap.size ents' ∧ Acc w.heap.size w3 vk v' lk (ext' ++ [key]) ∧ Gath w Fa (P2 Fb Fa) ents' ext (ext' ++ [key])) :=
                ⟨HI.out.kept hgr3 (fun k hk => (hrow k hk).2), hacc3, HG3.out.take HP.out HQ.out.1 HQ.out.2 hlt HPP.out HE0.out⟩
              have hb3 : Below w.heap.size w w3 := hb1.grown hgr3 hb1.size (fun k hk => (hrow k hk).1)
              clear hacc3 hgr3 hrow HA1 HI hb1 hnext hentry hlook
              go_wp2_with fail
              go_roundg ents'.length
              case measure => omega
              case rel => exact ⟨ents', ext' ++ [key], Nat.le_refl _, HR3, hb3⟩
            · have hl0' : ¬ (0 : Int) < (l1.length : Int) := by omega
              have HPP : Hid (¬ P2 Fb Fa key) := fun hp => hl0 (by have := hp.2; rw [HF1.out] at this; simpa using this)
              go_wp2_with fail
              go_roundg ents'.length
              case measure => omega
              case rel => exact ⟨ents', ext', Nat.le_refl _, ⟨HI.out, HA1.out, HG3.out.pass (p := (key, Value.slice ao l1.length cap)) HQ.out.1 HQ.out.2 hlt HPP.out⟩, hb1⟩
          · rw [hh] at hlook
            have HPP : Hid (¬ P2 Fb Fa key) := fun hp => by rw [hp.1] at hh; simp at hh
            clear hh
            go_wp2_with fail
            go_roundg ents'.length
            case measure => omega
            case rel => exact ⟨ents', ext', Nat.le_refl _, ⟨HI.out, HA1.out, HG3.out.pass (p := (key, Value.slice ao l1.length cap)) HQ.out.1 HQ.out.2 hlt HPP.out⟩, hb1⟩
    · have hb1 : Below w.heap.size w w1 := hbr.grown hgr hbr.size (fun k hk => by cases hk; exact Nat.le_refl _)
      have HA1 : Hid (Acc w.heap.size w1 vk v lk ext) := HR.out.2.1.kept hgr (fun k hk c t f e => by cases hk; rw [hitb] at e; cases e)
      have HG : Hid (Gath w Fb (P1 Fb Fa) ents [] ext) := HR.out.2.2
      have HI : Hid (Iter w1 w.heap.size ents') := hit
      have HQ : Hid ((∀ q ∈ ents', q ∈ ents ∧ q.1 ≠ p.1) ∧ (∀ q ∈ ents, q.1 = p.1 ∨ q ∈ ents')) := ⟨q1, q2⟩
      have HP : Hid (p ∈ ents) := hp
      obtain ⟨l1, hf1, hs1⟩ := HG.out.ok p hp
      have hs1' := hs1.below hb1
      have hl1 : l1.length ≤ 1048576 := by have := HMB.out.short p.1; rw [hf1] at this; simpa using this
      obtain ⟨v2, hlook, hs2⟩ := look_any (HMA.out.below hb1) p.1 false
      simp only [Bool.false_eq_true, if_false] at hlook
      have HF1 : Hid (Fb p.1 = some l1) := hf1
      have HS1 : Hid (StrsAt w1 p.2 l1) := hs1'
      have HS2 : Hid (StrsAt w1 v2 ((Fa p.1).getD [])) := hs2
      clear hs1 hs1' hs2 hf1 q1 q2 hit hp hgr hitb HR
      obtain ⟨key, val⟩ := p
      simp only [] at hnext hentry hlook
      go_wp2_with fail
      refine (equalLists_any val v2 l1 _ w1 HS1.out HS2.out hl1).mono ?_
      rintro e w2 ⟨rfl, q, rfl⟩
      cases hsm : sameB l1 ((Fa key).getD [])
      · have HPP : Hid (P1 Fb Fa key) := by
          unfold P1; rw [HF1.out]; simp only [Option.getD_some]
          unfold sameB at hsm; exact of_decide_eq_false hsm
        have hb2 : Below w.heap.size w (w1.drewN q) := below_drewN hb1 q
        have HA2 : Hid (Acc w.heap.size (w1.drewN q) vk v lk ext) := HA1.out
        have HI2 : Hid (Iter (w1.drewN q) w.heap.size ents') := HI.out.drewN q
        have hlen : (lk ++ ext).length ≤ 4194304 := by have := HG.out.len; simp at this ⊢; omega
        clear HA1 HI hb1 hnext hentry hlook HS1 HS2
        generalize w1.drewN q = w2 at *
        go_wp2_with (at_builtin; refine wpList_append_acc w2 rfl _ _ rfl w vk v lk ext key hb2 HK.out HF.out HA2.out rfl rfl hlen ?_)
        intro v' w3 row hacc3 hgr3 hrow
        have HR3 : Hid (Iter w3 w.heap.size ents' ∧ Acc w.heap.size w3 vk v' lk (ext ++ [key]) ∧ Gath w Fb (P1 Fb Fa) ents' [] (ext ++ [key])) :=
          ⟨HI2.out.kept hgr3 (fun k hk => (hrow k hk).2), hacc3, HG.out.take HP.out HQ.out.1 HQ.out.2 hlt HPP.out (fun k hk => by simp at hk)⟩
        have hb3 : Below w.heap.size w w3 := hb2.grown hgr3 hb2.size (fun k hk => (hrow k hk).1)
        clear hacc3 hgr3 hrow HA2 HI2 hb2
        go_wp2_with fail
        go_roundg ents'.length
        case measure => omega
        case rel => exact ⟨ents', ext ++ [key], Nat.le_refl _, HR3, hb3⟩
      · have HPP : Hid (¬ P1 Fb Fa key) := by
          unfold P1; rw [HF1.out]; simp only [Option.getD_some]
          unfold sameB at hsm
          intro hne
          exact hne (of_decide_eq_true hsm)
        go_wp2_with fail
        go_roundg ents'.length
        case measure => omega
        case rel => exact ⟨ents', ext, Nat.le_refl _, ⟨HI.out.drewN q, HA1.out, HG.out.pass (p := (key, val)) HQ.out.1 HQ.out.2 hlt HPP.out⟩, below_drewN hb1 q⟩
end Go.Proofs.Qxb6605609a
