/-
  'if x != nil { zzc := make([]T, len(x)); copy(zzc, x); x = zzc }': what it leaves.
-/
import Derived.Test.Qxb6615732aLoops2
import Derived.Laws.CopyOwn
import Derived.Deep.OwnRows
namespace Go.Proofs.Qxb6615732a
open Go.RowKit

theorem copy_law (T E : TypeId) (z : Value) (bytes : Nat) (hT : Try.prog.underlying T = some (.slice E)) (hinfo : (Try.prog.info? E).map (fun i => (i.zero, i.size, i.bytes)) = some (some z, 1, bytes)) (hz1 : z.cells = #[z]) (hby : bytes ≤ 16)
    (n c : Nat) (hn : n ≤ 65536) (x : Addr) (f : Nat → Value) (hf1 : ∀ i, (f i).oneCell' = true) (w : World) (hr : Reads (.slice (some x) n c) n f w) :
    ∃ W1 W2, (Instr.makeSlice T (.int .i64 (n : Int)) (.int .i64 (n : Int))).run Try.prog w = .ok (.slice (some ⟨w.heap.size, 0, none⟩) n n) W1
      ∧ (∀ ty, (Builtin.copy_ #[T, T] ty #[.slice (some ⟨w.heap.size, 0, none⟩) n n, .slice (some x) n c]).run Try.prog W1 = .ok (.int .i64 (n : Int)) W2)
      ∧ Reads (.slice (some ⟨w.heap.size, 0, none⟩) n n) n f W2 ∧ Below w.heap.size w W2 := by
  have hbn : bytes * n ≤ 281474976710656 := Nat.le_trans (Nat.mul_le_mul hby hn) (by decide)
  have hmk := run_make_row' (P := Try.prog) T E z bytes hT hinfo hz1 .i64 .i64 n hbn (by omega) w
  have hs1 : (Try.prog.info? E).map (·.size) = some 1 := by
    obtain ⟨i, hi, _, hs, _⟩ := info_parts hinfo
    simp [hi, hs]
  obtain ⟨a, c', hv, hc, hr⟩ := hr
  injection hv with hv1 hv2 hv3
  subst hv1; subst hv3
  have hcl := size_madeCells #[z] n
  generalize hcur : madeCells #[z] n = cur at *
  have hg : (w.alloc (.cells cur E)).heap[w.heap.size]? = some (.cells cur E (0, 0)) := by
    show (w.heap.push _)[w.heap.size]? = _
    simp
  by_cases h0 : 0 < n
  · obtain ⟨b, o, hx, hb, hcell⟩ := hr h0
    obtain rfl : x = ⟨b, o, none⟩ := by simpa using hx
    have hlen : ((List.range n).map f).length = n := by simp
    have hcp := fun ty => run_copy_row (P := Try.prog) (w.alloc (.cells cur E)) T T ty E w.heap.size 0 n n ⟨b, o, none⟩ n c cur E ((List.range n).map f) hT hs1 hg (by simp) (by
      intro j v hj
      have hjn : j < n := by
        rcases Nat.lt_or_ge j n with h | h
        · exact h
        · rw [List.getElem?_eq_none (by simpa using h)] at hj; cases hj
      have hv : f j = v := by simpa [hjn] using hj
      rw [← hv]
      have e : (⟨b, o, none⟩ : Addr).add j = ⟨b, o + j, none⟩ := by unfold Addr.add; split <;> simp_all
      rw [e, World.cell?_alloc_past _ _ _ hb]
      exact hcell j hjn) (by rw [hlen, hcl]; omega) (by
      intro v hv
      obtain ⟨i, _, rfl⟩ := List.mem_map.1 hv
      exact hf1 i)
    refine ⟨_, (w.alloc (.cells cur E)).setRow w.heap.size (cur.toList.take 0 ++ (List.range n).map f ++ cur.toList.drop (0 + ((List.range n).map f).length)).toArray, hmk, fun ty => ?_, ⟨_, n, rfl, Nat.le_refl _, fun _ => ⟨w.heap.size, 0, rfl, ?_, fun i hi => ?_⟩⟩, ?_⟩
    · have := hcp ty
      rw [hlen] at this
      simpa [goInt, hlen] using this
    · simp [World.setRow]
    · have hh := setRow_heap (w.alloc (.cells cur E)) w.heap.size cur (cur.toList.take 0 ++ (List.range n).map f ++ cur.toList.drop (0 + ((List.range n).map f).length)).toArray E (0, 0) hg
      have hd : cur.toList.drop (0 + ((List.range n).map f).length) = [] := List.drop_of_length_le (by rw [hlen]; simp [hcl])
      have ha : (cur.toList.take 0 ++ (List.range n).map f ++ cur.toList.drop (0 + ((List.range n).map f).length)) = (List.range n).map f := by rw [hd]; simp
      rw [ha] at hh ⊢
      unfold World.cell?
      rw [hh]
      simp [hi]
    · exact below_setRow ((Below.refl _ _).alloc (Nat.le_refl _) _) (Nat.le_refl _) _
  · obtain rfl : n = 0 := by omega
    exact ⟨_, _, hmk, fun ty => run_copy_none (P := Try.prog) _ T T ty E _ _ 0 0 0 c hT hs1 (by simp), ⟨_, 0, rfl, Nat.le_refl _, fun h => by omega⟩, (Below.refl _ _).alloc (Nat.le_refl _) _⟩

theorem info2 : (Try.prog.info? 2).map (fun i => (i.zero, i.size, i.bytes)) = some (some (.int .i64 0), 1, 8) := by kernel_rfl
theorem info9 : (Try.prog.info? 9).map (fun i => (i.zero, i.size, i.bytes)) = some (some (.string ⟨#[]⟩), 1, 16) := by kernel_rfl
theorem info4 : (Try.prog.info? 4).map (fun i => (i.zero, i.size, i.bytes)) = some (some (.bool false), 1, 1) := by kernel_rfl

end Go.Proofs.Qxb6615732a
