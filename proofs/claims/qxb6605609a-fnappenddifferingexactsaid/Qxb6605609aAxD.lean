import Derived.Test.Qxb6605609aAxC
import Derived.BigRegion
namespace Go.Proofs.Qxb6605609a
open Go.RowKit Go.Deep Go.MapKept
open Go.ChangeMaps (setBlock)

theorem run_makeMap_hint (w : World) (n : Int) : (Instr.makeMap 29 (some (.int .i64 n))).run Try.prog w = .ok (.map (some w.heap.size)) (w.alloc (.map #[] 0)) := by
  simp [Instr.makeMap, run_underlying Try.underlying29, asInt, asIntOf, Result.andThen]

theorem MapR.below {w w' : World} {r n : Nat} {lk : List ByteArray} (h : MapR w r n lk) (hb : Below w.heap.size w w') : MapR w' r n lk := by
  obtain ⟨es, clock, F, h1, h2, h3, h4⟩ := h
  refine ⟨es, clock, F, h1.ents.at (by rw [hb.block r (Array.getElem?_eq_some_iff.1 h1.blk).1]; exact h1.blk), ⟨fun x hx => ?_, h2.up, h2.len, h2.short⟩, h3, h4⟩
  obtain ⟨s, l, e1, e2, e3⟩ := h2.down x hx
  exact ⟨s, l, e1, e2, e3.below hb⟩

theorem getD_in (l : List ByteArray) (i : Nat) (h : i < l.length) : l.getD i ⟨#[]⟩ ∈ l := by rw [← getD_mem l i h]; exact List.getElem_mem h

/-- What zzMapOf leaves. -/
def MapSaid (lk : List ByteArray) (w : World) (e : Ending) (w' : World) : Prop := ∃ mv F, e = .returned mv ∧ MapV w' mv F ∧ (∀ s l, F s = some l → s ∈ lk) ∧ Below w.heap.size w w' ∧ (mv = .map none ∨ mv = .map (some w.heap.size))

set_option maxHeartbeats 1000000 in
theorem mapOf_any (vk vl : Value) (lk : List ByteArray) (ls : List (List ByteArray)) (w : World) (hk : StrsAt w vk lk) (hl : ListsAt w vl ls) (hn : ls.length = lk.length) (hbd : lk.length ≤ 1048576) (hr : RowsLe ls 1048576) :
    Calls Try.prog 12 #[vk, vl] w (MapSaid lk w) := by
  obtain ⟨ao, cap, b, off, rfl, hnil, hA, hc⟩ := hk
  obtain ⟨ao2, cap2, b2, off2, rfl, _, hA2, hc2⟩ := hl
  cases ao with
  | none =>
    obtain ⟨rfl, rfl⟩ := hnil rfl
    have hnl := fun w n c n' c' => Lib.run_eql_slice_nil (P := Try.prog) w 22 9 none n c n' c' Try.underlying22
    go_enter Try.func12, Try.ntmps12
    go_wp2
    go_ret
    exact ⟨_, F0, rfl, map_nil w, fun s l e => by simp [F0] at e, Below.refl _ _, Or.inl rfl⟩
  | some a =>
    have hnl := fun w n c n' c' => Lib.run_eql_slice_nil (P := Try.prog) w 22 9 (some a) n c n' c' Try.underlying22
    have hmk := run_makeMap_hint
    have HA : Hid (0 < lk.length → some a = some ⟨b, off, none⟩) := hA
    have HC : Hid (∀ i, i < lk.length → w.cell? ⟨b, off + i, none⟩ = some (.string (lk.getD i ⟨#[]⟩))) := hc
    have HA2 : Hid (0 < ls.length → ao2 = some ⟨b2, off2, none⟩) := hA2
    have HC2 : Hid (∀ i, i < ls.length → ∃ rv, w.cell? ⟨b2, off2 + i, none⟩ = some rv ∧ StrsAt w rv (ls.getD i [])) := hc2
    have HR : Hid (RowsLe ls 1048576) := hr
    have HN : Hid (ls.length = lk.length) := hn
    clear hA hc hr hnil hA2 hc2 hn
    go_enter Try.func12, Try.ntmps12
    go_wp2_with fail
    go_loopw [6] (fun i wr => ∃ k : Nat, k ≤ lk.length ∧ i = .int .i64 k ∧ Hid (MapR wr w.heap.size k lk) ∧ Below w.heap.size w wr) (fun i _ => lk.length - (intOf i).toNat)
    case atStart => exact ⟨0, Nat.zero_le _, rfl, MapR.start w lk, (Below.refl _ _).alloc (Nat.le_refl _) _⟩
    case round =>
      obtain ⟨k, hk, rfl, HW, hb⟩ := hrel
      by_cases hlt : k < lk.length
      · have ha := HA.out (by omega)
        simp only [Option.some.injEq] at ha
        subst ha
        have hlt2 : k < ls.length := by rw [HN.out]; exact hlt
        obtain rfl := HA2.out (by omega)
        have c0 := HC.out k hlt
        have c1 : wr.cell? ⟨b, off + k, none⟩ = some (.string (lk.getD k ⟨#[]⟩)) := by rw [hb.cell (p := ⟨b, off + k, none⟩) (World.block_lt_of_cell? w _ c0)]; exact c0
        obtain ⟨rv, c2, s1⟩ := HC2.out k hlt2
        have c2 : wr.cell? ⟨b2, off2 + k, none⟩ = some rv := by rw [hb.cell (p := ⟨b2, off2 + k, none⟩) (World.block_lt_of_cell? w _ c2)]; exact c2
        obtain ⟨o, hst, ht, hm⟩ := HW.out.put (by omega) (getD_in lk k hlt) (s1.below hb) (HR.out k hlt2)
        have hst : (Instr.mapUpdate 29 (.map (some w.heap.size)) (.string (lk.getD k ⟨#[]⟩)) rv).run Try.prog wr.drew = .ok () (setBlock wr w.heap.size o).drew := hst wr.drew rfl
        have hb2 := ht.belowAt hb hb.size (Nat.le_refl _)
        have hdr : Below (setBlock wr w.heap.size o).heap.size (setBlock wr w.heap.size o) (setBlock wr w.heap.size o).drew := below_drewN (Below.refl _ _) 1
        have HM : Hid (MapR (setBlock wr w.heap.size o).drew w.heap.size (k + 1) lk) := hm.below hdr
        have hb2 := hb2.trans (hdr.mono hb2.size)
        clear ht hm hdr
        generalize (setBlock wr w.heap.size o).drew = w2 at *
        generalize lk.getD k ⟨#[]⟩ = y at *
        have i1 : (k : Int) < (lk.length : Int) := by omega
        have i2 : (k : Int) < (ls.length : Int) := by omega
        clear c0 s1 hnl hmk HW hb
        go_wp2_with fail
        go_region
        go_wp2_with fail
        go_roundw
        case rel => exact ⟨k + 1, by omega, by go_num, HM, hb2⟩
        case measure => simp [intOf]; omega
      · obtain rfl : k = lk.length := by omega
        obtain ⟨F, h1, h2⟩ := HW.out.done
        go_wp2_with fail
        go_ret
        exact ⟨_, F, rfl, h1, h2, hb, Or.inr rfl⟩
end Go.Proofs.Qxb6605609a
