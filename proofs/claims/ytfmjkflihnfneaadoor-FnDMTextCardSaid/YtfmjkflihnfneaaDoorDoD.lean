/- laws.FnDMBase256 and FnDMText: one segment. -/
import Derived.Test.YtfmjkflihnfneaaDoorDoC
namespace Go.Proofs.YtfmjkflihnfneaaDoor
open Go.RowKit
set_option linter.unusedVariables false
set_option linter.unusedSimpArgs false
theorem segs_one (w : World) (m : Int) (l : List Nat) (A : Array Value) (hA : A = #[.int .i64 m, .string (strOf l)]) : Segs (w.alloc (.cells A 24)) (some ⟨w.heap.size, 0, none⟩) 1 [(m, l)] := by
  subst hA
  refine ⟨rfl, fun _ => ⟨w.heap.size, 0, rfl, by simp, fun k hk => ?_⟩⟩
  obtain rfl : k = 0 := by omega
  have h := Arr.of_new w 24 #[.int .i64 m, .string (strOf l)]
  exact ⟨h.cell? 0, h.cell? 1⟩

set_option maxRecDepth 20000 in
theorem FnDMBase256_walk (w : World) (s : ByteArray) (z : Int) (hz : (Lit.int .i64 z).wf = true) : Calls Tryd.prog 3 #[.string s, .int .i64 z] w (TrueBelow w) := by
  obtain ⟨hz1, hz2⟩ := wf_i64 hz
  obtain ⟨l, hs, hl⟩ := str_is s
  have hsz : s.size = l.length := by rw [hs, strOf_size]
  have HS := hid hs
  have HZ1 := hid hz1
  have HZ2 := hid hz2
  by_cases h : l.length ≤ 2147483647
  case neg =>
    have h' : (2147483647 : Int) < (s.size : Int) := by omega
    clear hs hsz
    go_enter Tryd.func3, Tryd.ntmps3
    go_wp2_with fail
    go_ret
    exact ⟨rfl, Below.refl _ _⟩
  case pos =>
    have h' : ¬ (2147483647 : Int) < (s.size : Int) := by omega
    have HP := hid (fun W (hS : Segs W (some ⟨w.heap.size, 0, none⟩) 1 [(5, l)]) => show Calls Tryd.prog 6 #[.slice (some ⟨w.heap.size, 0, none⟩) 1 1, .int .i64 z] W (TrueBelow W) from parsedM [(5, l)] (fun x hx => by rw [List.mem_singleton.1 hx]; exact ⟨h, hl⟩) (fun x hx => by rw [List.mem_singleton.1 hx]; exact ⟨by simp, by simp⟩) (by simp) (some ⟨w.heap.size, 0, none⟩) 1 z HZ1.out HZ2.out W hS)
    have HSG := hid (show Segs (w.alloc (.cells #[.int .i64 5, .string s] 24)) (some ⟨w.heap.size, 0, none⟩) 1 [(5, l)] from segs_one w 5 l _ (by rw [hs]))
    have HB := hid ((Below.refl w.heap.size w).alloc (Nat.le_refl _) (.cells #[.int .i64 5, .string s] 24))
    clear hs hsz hl hz hz1 hz2
    go_enter Tryd.func3, Tryd.ntmps3
    go_wp2_with (go_at_call 6; ((with_reducible refine (HP.out _ HSG.out).mono ?_); rintro e w1 ⟨rfl, hb⟩))
    go_ret
    exact ⟨rfl, HB.out.trans (hb.mono HB.out.size)⟩

set_option maxRecDepth 20000 in
theorem FnDMText_walk (w : World) (s : ByteArray) (z : Int) (hz : (Lit.int .i64 z).wf = true) : Calls Tryd.prog 5 #[.string s, .int .i64 z] w (TrueBelow w) := by
  obtain ⟨hz1, hz2⟩ := wf_i64 hz
  obtain ⟨l, hs, hl⟩ := str_is s
  have hsz : s.size = l.length := by rw [hs, strOf_size]
  have HS := hid hs
  have HZ1 := hid hz1
  have HZ2 := hid hz2
  by_cases h : l.length ≤ 2147483647
  case neg =>
    have h' : (2147483647 : Int) < (s.size : Int) := by omega
    clear hs hsz
    go_enter Tryd.func5, Tryd.ntmps5
    go_wp2_with fail
    go_ret
    exact ⟨rfl, Below.refl _ _⟩
  case pos =>
    have h' : ¬ (2147483647 : Int) < (s.size : Int) := by omega
    have HP := hid (fun W (hS : Segs W (some ⟨w.heap.size, 0, none⟩) 1 [(2, l)]) => show Calls Tryd.prog 6 #[.slice (some ⟨w.heap.size, 0, none⟩) 1 1, .int .i64 z] W (TrueBelow W) from parsedM [(2, l)] (fun x hx => by rw [List.mem_singleton.1 hx]; exact ⟨h, hl⟩) (fun x hx => by rw [List.mem_singleton.1 hx]; exact ⟨by simp, by simp⟩) (by simp) (some ⟨w.heap.size, 0, none⟩) 1 z HZ1.out HZ2.out W hS)
    have HSG := hid (show Segs (w.alloc (.cells #[.int .i64 2, .string s] 24)) (some ⟨w.heap.size, 0, none⟩) 1 [(2, l)] from segs_one w 2 l _ (by rw [hs]))
    have HB := hid ((Below.refl w.heap.size w).alloc (Nat.le_refl _) (.cells #[.int .i64 2, .string s] 24))
    clear hs hsz hl hz hz1 hz2
    go_enter Tryd.func5, Tryd.ntmps5
    go_wp2_with (go_at_call 6; ((with_reducible refine (HP.out _ HSG.out).mono ?_); rintro e w1 ⟨rfl, hb⟩))
    go_ret
    exact ⟨rfl, HB.out.trans (hb.mono HB.out.size)⟩
end Go.Proofs.YtfmjkflihnfneaaDoor
