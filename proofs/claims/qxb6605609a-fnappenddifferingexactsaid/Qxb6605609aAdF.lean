import Derived.Test.Qxb6605609aAdE
import Derived.WideMake
namespace Go.Proofs.Qxb6605609a
open Go.RowKit Go.Deep Go.MapKept

/-- The call answers a bool; if it says true, p. -/
def BoolSaid (e : Ending) (p : Prop) : Prop := ∃ t : Bool, e = .returned (.bool t) ∧ (t = true → p)
theorem said_no (p : Prop) : BoolSaid (.returned (.bool false)) p := ⟨false, rfl, by simp⟩
theorem said_yes {p : Prop} (h : p) : BoolSaid (.returned (.bool true)) p := ⟨true, rfl, fun _ => h⟩

set_option maxHeartbeats 1000000 in
set_option maxRecDepth 100000 in
theorem bytes15_any (vk vx vy : Value) (key : ByteArray) (lk lx ly : List ByteArray) (w : World) (hk : StrsAt w vk lk) (hx : StrsAt w vx lx) (hy : StrsAt w vy ly) :
    Calls Try.prog 15 #[vk, .string key, vx, vy] w fun e w' => BoolSaid e (lk.length ≤ 1048576 ∧ lx.length ≤ 1048576 ∧ ly.length ≤ 1048576) ∧ w = w' := by
  obtain ⟨ao, capa, ba, offa, rfl, _, hA, hcA⟩ := hk
  obtain ⟨bo, capb, bb, offb, rfl, _, hB, hcB⟩ := hx
  obtain ⟨co, capc, bc, offc, rfl, _, hC, hcC⟩ := hy
  have HA : Hid (0 < lk.length → ao = some ⟨ba, offa, none⟩) := hA
  have HB : Hid (0 < lx.length → bo = some ⟨bb, offb, none⟩) := hB
  have HC : Hid (0 < ly.length → co = some ⟨bc, offc, none⟩) := hC
  have HCA : Hid (∀ i, i < lk.length → w.cell? ⟨ba, offa + i, none⟩ = some (.string (lk.getD i ⟨#[]⟩))) := hcA
  have HCB : Hid (∀ i, i < lx.length → w.cell? ⟨bb, offb + i, none⟩ = some (.string (lx.getD i ⟨#[]⟩))) := hcB
  have HCC : Hid (∀ i, i < ly.length → w.cell? ⟨bc, offc + i, none⟩ = some (.string (ly.getD i ⟨#[]⟩))) := hcC
  clear hA hB hC hcA hcB hcC
  by_cases gk : (1048576 : Int) < lk.length
  · go_enter Try.func15, Try.ntmps15
    go_wp2
    go_ret
    exact ⟨said_no _, rfl⟩
  have gk' : lk.length ≤ 1048576 := by omega
  go_enter Try.func15, Try.ntmps15
  go_wp2
  go_loop [9, 10] (fun t i => ∃ (k : Nat) (x : Int), k ≤ lk.length ∧ i = .int .i64 k ∧ t = .int .i64 x ∧ 0 ≤ x ∧ x ≤ 1048576) (fun _ i => lk.length - (intOf i).toNat)
  case atStart => exact ⟨0, _, Nat.zero_le _, rfl, rfl, by omega, by omega⟩
  case round =>
    obtain ⟨k, x, hk, rfl, rfl, hx0, hx1⟩ := hrel
    by_cases hlt : k < lk.length
    · obtain rfl := HA.out (by omega)
      have c1 := HCA.out k hlt
      have i1 : (k : Int) < (lk.length : Int) := by omega
      generalize lk.getD k ⟨#[]⟩ = y at *
      go_wp2
      · go_ret
        exact ⟨said_no _, rfl⟩
      · go_ret
        exact ⟨said_no _, rfl⟩
      · go_round
        case rel => exact ⟨k + 1, _, by omega, by go_num, rfl, by omega, by omega⟩
        case measure => simp [intOf]; omega
    · clear HA HCA
      by_cases gx : (1048576 : Int) < lx.length
      · go_wp2
        · go_ret
          exact ⟨said_no _, rfl⟩
        · go_ret
          exact ⟨said_no _, rfl⟩
        · go_ret
          exact ⟨said_no _, rfl⟩
      · have gx' : lx.length ≤ 1048576 := by omega
        go_wp2
        · go_ret
          exact ⟨said_no _, rfl⟩
        · go_ret
          exact ⟨said_no _, rfl⟩
        · go_ret
          exact ⟨said_no _, rfl⟩
        go_loop [9, 11] (fun t i => ∃ (k : Nat) (x : Int), k ≤ lx.length ∧ i = .int .i64 k ∧ t = .int .i64 x ∧ 0 ≤ x ∧ x ≤ 1048576) (fun _ i => lx.length - (intOf i).toNat)
        case atStart => exact ⟨0, _, Nat.zero_le _, rfl, rfl, by omega, by omega⟩
        case round =>
          obtain ⟨k, x, hk, rfl, rfl, hx0, hx1⟩ := hrel
          by_cases hlt : k < lx.length
          · obtain rfl := HB.out (by omega)
            have c1 := HCB.out k hlt
            have i1 : (k : Int) < (lx.length : Int) := by omega
            generalize lx.getD k ⟨#[]⟩ = y at *
            go_wp2
            · go_ret
              exact ⟨said_no _, rfl⟩
            · go_ret
              exact ⟨said_no _, rfl⟩
            · go_round
              case rel => exact ⟨k + 1, _, by omega, by go_num, rfl, by omega, by omega⟩
              case measure => simp [intOf]; omega
          · clear HB HCB
            by_cases gy : (1048576 : Int) < ly.length
            · go_wp2
              go_ret
              exact ⟨said_no _, rfl⟩
            · have gy' : ly.length ≤ 1048576 := by omega
              go_wp2
              · go_ret
                exact ⟨said_no _, rfl⟩
              go_loop [9, 12] (fun t i => ∃ (k : Nat) (x : Int), k ≤ ly.length ∧ i = .int .i64 k ∧ t = .int .i64 x ∧ 0 ≤ x ∧ x ≤ 1048576) (fun _ i => ly.length - (intOf i).toNat)
              case atStart => exact ⟨0, _, Nat.zero_le _, rfl, rfl, by omega, by omega⟩
              case round =>
                obtain ⟨k, x, hk, rfl, rfl, hx0, hx1⟩ := hrel
                by_cases hlt : k < ly.length
                · obtain rfl := HC.out (by omega)
                  have c1 := HCC.out k hlt
                  have i1 : (k : Int) < (ly.length : Int) := by omega
                  generalize ly.getD k ⟨#[]⟩ = y at *
                  go_wp2
                  · go_ret
                    exact ⟨said_no _, rfl⟩
                  · go_ret
                    exact ⟨said_no _, rfl⟩
                  · go_round
                    case rel => exact ⟨k + 1, _, by omega, by go_num, rfl, by omega, by omega⟩
                    case measure => simp [intOf]; omega
                · clear HC HCC
                  go_wp2
                  go_ret
                  first
                    | exact ⟨said_yes trivial, rfl⟩
                    | exact ⟨said_yes ⟨gk', gx', gy'⟩, rfl⟩

theorem zzAppend_any (vk mb ma : Value) (lk : List ByteArray) (Fb Fa : ByteArray → Option (List ByteArray)) (w : World) (hk : StrsAt w vk lk) (hf : Full vk lk) (hb : MapV w mb Fb) (ha : MapV w ma Fa) (hn : lk.length ≤ 1048576) :
    Calls Try.prog 14 #[vk, mb, ma] w fun e w' => ∃ v ext, e = .returned v ∧ StrsAt w' v (lk ++ ext) ∧ ext.Nodup ∧ (∀ k, k ∈ ext ↔ P1 Fb Fa k) ∧ Below w.heap.size w w' := by
  go_enter Try.func14, Try.ntmps14
  go_wp2_with fail
  refine (appendDiff_any vk mb ma lk Fb Fa w hk hf hb ha hn).mono ?_
  rintro e w1 ⟨v, ext, rfl, h1, h2, h3, h4⟩
  go_wp2_with fail
  go_ret
  exact ⟨v, ext, rfl, h1, h2, h3, h4⟩

/-- One key. -/
def F1 (key : ByteArray) (l : List ByteArray) : ByteArray → Option (List ByteArray) := fun s => if s = key then some l else none
def F0 : ByteArray → Option (List ByteArray) := fun _ => none

theorem map_one {w : World} {r : Nat} {key : ByteArray} {v : Value} {l : List ByteArray} (hb : w.heap[r]? = some (.map #[{ key := .string key, val := v, born := 0 }] 1)) (hs : StrsAt w v l) (hl : l.length ≤ 1048576) : MapV w (.map (some r)) (F1 key l) :=
  Or.inr ⟨r, _, 1, rfl, ⟨hb, fun x hx => by simp at hx; subst hx; simp, by simp, fun x hx => by simp at hx; subst hx; exact ⟨key, rfl⟩, by simp⟩,
    ⟨fun x hx => by simp at hx; subst hx; exact ⟨key, l, rfl, by simp [F1], hs⟩, fun s l' e => by
      unfold F1 at e
      split at e
      · rename_i h; subst h; exact ⟨{ key := .string s, val := v, born := 0 }, by simp, rfl⟩
      · simp at e, by simp, fun s l' e => by
      unfold F1 at e
      split at e
      · simp at e; subst e; exact hl
      · simp at e⟩⟩

theorem map_zero {w : World} {r : Nat} (hb : w.heap[r]? = some (.map #[] 0)) : MapV w (.map (some r)) F0 :=
  Or.inr ⟨r, _, 0, rfl, ⟨hb, fun x hx => by simp at hx, by simp, fun x hx => by simp at hx, by simp⟩, ⟨fun x hx => by simp at hx, fun s l e => by simp [F0] at e, by simp, fun s l e => by simp [F0] at e⟩⟩

theorem map_nil (w : World) : MapV w (.map none) F0 := Or.inl ⟨rfl, fun _ => rfl⟩

/-- 'map[string][]string{key: v}': the map behind its one store. -/
theorem run_first (w : World) (key : ByteArray) (v : Value) : (Instr.mapUpdate 29 (.map (some w.heap.size)) (.string key) v).run Try.prog (w.alloc (.map #[] 0)) = .ok () (w.alloc (.map #[{ key := .string key, val := v, born := 0 }] 1)) := by
  rw [run_mapUpdate_first (P := Try.prog) (w.alloc (.map #[] 0)) 29 9 22 w.heap.size 0 key v Try.underlying29 Try.underlying9 (Go.heap_alloc_new w _)]
  congr 1
  show { w with heap := (w.heap.push (.map #[] 0)).setIfInBounds w.heap.size _ } = { w with heap := w.heap.push _ }
  congr 1
  apply Array.ext_getElem?
  intro k
  rw [Array.getElem?_setIfInBounds, Array.getElem?_push, Array.getElem?_push]
  by_cases h : k = w.heap.size
  · subst h; simp
  · rw [if_neg (fun e => h e.symm), if_neg h, if_neg h]

theorem run_first' (w : World) (n : Nat) (key : ByteArray) (v : Value) (hn : n = w.heap.size) : (Instr.mapUpdate 29 (.map (some n)) (.string key) v).run Try.prog (w.alloc (.map #[] 0)) = .ok () (w.alloc (.map #[{ key := .string key, val := v, born := 0 }] 1)) := by
  subst hn; exact run_first w key v
end Go.Proofs.Qxb6605609a
