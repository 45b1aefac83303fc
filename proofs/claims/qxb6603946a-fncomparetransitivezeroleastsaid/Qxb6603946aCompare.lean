import Derived.Test.Qxb6603946aRows
import Derived.WalkKit
import Derived.ProofKit
import Derived.OpenShut
import Derived.ShutString
import Derived.Deep.RegionHeld3
/-! WALKS OF 'Timestamp.bits', 'Timestamp.Compare' AND 'lexOrder' -/
namespace Go.Proofs.Qxb6603946a
open Go.ChangeShapes Go.WideShapes Go.ChangeAt Go.RowKit
theorem wf_u32 {a : Int} (h : (Lit.int .u32 a).wf = true) : 0 ≤ a ∧ a < 4294967296 := by
  simp [Lit.wf, IntKind.min, IntKind.max, IntKind.signed, IntKind.bits] at h
  omega

theorem or_join (t i : Int) (h1 : 0 ≤ t) (h2 : t < 4294967296) (h3 : 0 ≤ i) (h4 : i < 4294967296) :
    bits .or .u64 (t * 4294967296) i = t * 4294967296 + i := by
  rw [u64_or _ _ (by omega) (by omega) (by omega) (by omega), nat_join 32 _ _ (by omega) (by omega)]
  omega

theorem bits_any (t i : Int) (h1 : 0 ≤ t) (h2 : t < 4294967296) (h3 : 0 ≤ i) (h4 : i < 4294967296) (w : World) :
    Calls Try.prog 15 #[.agg #[.int .u32 t, .int .u32 i]] w fun e w' => e = .returned (.int .u64 (t * 4294967296 + i)) ∧ ∃ c : Array Value, w' = w.alloc (.cells c 24) := by
  go_enter Try.func15, Try.ntmps15
  go_wp2
  go_ret
  refine ⟨?_, _, rfl⟩
  show Ending.returned (Value.int IntKind.u64 (bits BinOp.or IntKind.u64 (t * 4294967296) i)) = _
  rw [or_join t i h1 h2 h3 h4]

/-- What Compare answers for two times. -/
def cmpB (t i u j : Int) : Int := if t * 4294967296 + i < u * 4294967296 + j then -1 else if u * 4294967296 + j < t * 4294967296 + i then 1 else 0

theorem compare_any (t i u j : Int) (h1 : 0 ≤ t) (h2 : t < 4294967296) (h3 : 0 ≤ i) (h4 : i < 4294967296) (k1 : 0 ≤ u) (k2 : u < 4294967296) (k3 : 0 ≤ j) (k4 : j < 4294967296) (w : World) :
    Calls Try.prog 7 #[.agg #[.int .u32 t, .int .u32 i], .agg #[.int .u32 u, .int .u32 j]] w fun e w' =>
      e = .returned (.int .i64 (cmpB t i u j)) ∧ ∃ c1 c2 c3 c4 : Array Value, w' = ((((w.alloc (.cells c1 24)).alloc (.cells c2 24)).alloc (.cells c3 24)).alloc (.cells c4 24)).drew := by
  unfold cmpB
  by_cases c1 : t * 4294967296 + i < u * 4294967296 + j
  · rw [if_pos c1]
    go_enter Try.func7, Try.ntmps7
    go_wp2
    go_region_held3 (fun w' => w'.cell? ⟨w.heap.size, 0, none⟩ = some (.int .u32 t) ∧ w'.cell? ⟨w.heap.size, 1, none⟩ = some (.int .u32 i) ∧ w'.cell? ⟨w.heap.size + 1, 0, none⟩ = some (.int .u32 u) ∧ w'.cell? ⟨w.heap.size + 1, 1, none⟩ = some (.int .u32 j)) (simp [go_sem, World.cell?_alloc_past])
      (first
        | (go_at_call_of 15 (Value.agg #[.int .u32 t, .int .u32 i]); refine (bits_any t i h1 h2 h3 h4 _).mono ?_; rintro e w' ⟨rfl, o1, rfl⟩)
        | (go_at_call_of 15 (Value.agg #[.int .u32 u, .int .u32 j]); refine (bits_any u j k1 k2 k3 k4 _).mono ?_; rintro e w' ⟨rfl, o1, rfl⟩))
    go_wp2
    go_ret
    exact ⟨rfl, _, _, _, _, rfl⟩
  · rw [if_neg c1]
    by_cases c2 : u * 4294967296 + j < t * 4294967296 + i
    · rw [if_pos c2]
      go_enter Try.func7, Try.ntmps7
      go_wp2
      go_region_held3 (fun w' => w'.cell? ⟨w.heap.size, 0, none⟩ = some (.int .u32 t) ∧ w'.cell? ⟨w.heap.size, 1, none⟩ = some (.int .u32 i) ∧ w'.cell? ⟨w.heap.size + 1, 0, none⟩ = some (.int .u32 u) ∧ w'.cell? ⟨w.heap.size + 1, 1, none⟩ = some (.int .u32 j)) (simp [go_sem, World.cell?_alloc_past])
        (first
          | (go_at_call_of 15 (Value.agg #[.int .u32 t, .int .u32 i]); refine (bits_any t i h1 h2 h3 h4 _).mono ?_; rintro e w' ⟨rfl, o1, rfl⟩)
          | (go_at_call_of 15 (Value.agg #[.int .u32 u, .int .u32 j]); refine (bits_any u j k1 k2 k3 k4 _).mono ?_; rintro e w' ⟨rfl, o1, rfl⟩))
      go_wp2
      go_ret
      exact ⟨rfl, _, _, _, _, rfl⟩
    · rw [if_neg c2]
      go_enter Try.func7, Try.ntmps7
      go_wp2
      go_region_held3 (fun w' => w'.cell? ⟨w.heap.size, 0, none⟩ = some (.int .u32 t) ∧ w'.cell? ⟨w.heap.size, 1, none⟩ = some (.int .u32 i) ∧ w'.cell? ⟨w.heap.size + 1, 0, none⟩ = some (.int .u32 u) ∧ w'.cell? ⟨w.heap.size + 1, 1, none⟩ = some (.int .u32 j)) (simp [go_sem, World.cell?_alloc_past])
        (first
          | (go_at_call_of 15 (Value.agg #[.int .u32 t, .int .u32 i]); refine (bits_any t i h1 h2 h3 h4 _).mono ?_; rintro e w' ⟨rfl, o1, rfl⟩)
          | (go_at_call_of 15 (Value.agg #[.int .u32 u, .int .u32 j]); refine (bits_any u j k1 k2 k3 k4 _).mono ?_; rintro e w' ⟨rfl, o1, rfl⟩))
      go_wp2
      go_ret
      exact ⟨rfl, _, _, _, _, rfl⟩
end Go.Proofs.Qxb6603946a
