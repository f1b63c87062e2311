/-
  SEAT oecw: zzItoa (function 26) at the numbers 0 to 4096: it returns SOME string of at most 24 bytes, and writes nothing that was there. (Which string: no law of this seat asks.)
-/
import Derived.Test.YoecwwBase
import Derived.Laws.BytesArg
namespace Go.Proofs.Yoecww
open Go.RowKit

/-- After the rounds so far: how much is left of a number of at most 4096, and where the next digit goes. -/
def Left (i : Nat) (n : Int) : Prop := (i = 24 ∧ 0 < n ∧ n ≤ 4096) ∨ (i = 23 ∧ n ≤ 409) ∨ (i = 22 ∧ n ≤ 40) ∨ (i = 21 ∧ n ≤ 4) ∨ (i = 20 ∧ n ≤ 0)

theorem Left.step {i : Nat} {n : Int} (h : Left (i + 1) n) (h0 : 0 < n) : Left i (n / 10) := by unfold Left at *; omega
theorem Left.bd {i : Nat} {n : Int} (h : Left i n) (h0 : 0 < n) : 21 ≤ i ∧ i ≤ 24 := by unfold Left at *; omega
theorem Left.done {i : Nat} {n : Int} (h : Left i n) (h0 : n ≤ 0) : 20 ≤ i ∧ i < 24 := by unfold Left at *; omega
theorem Left.le {i : Nat} {n : Int} (h : Left i n) : 20 ≤ i ∧ i ≤ 24 ∧ n ≤ 4096 := by unfold Left at *; omega

theorem len68 : Ecwg.prog.arrayLen 68 = 24 := by kernel_rfl
theorem elem68 : Ecwg.prog.elem 68 = 5 := by kernel_rfl
theorem size5 (w : World) : (sizeOf 5).run Ecwg.prog w = .ok 1 w := by kernel_rfl

theorem run_sliceAt_buf (B i : Nat) (h : i < 24) (w : World) : (Instr.sliceAt 68 (.pointer (some ⟨B, 0, none⟩)) (some (.int .i64 i)) none none).run Ecwg.prog w = .ok (.slice (some ⟨B, i, none⟩) (24 - i) (24 - i)) w := by
  rw [run_sliceAt_array_l w 68 ⟨B, 0, none⟩ (by rw [len68, elem68]; exact Ecwg.underlying68) .i64 i (by omega) (by rw [len68]; omega)]
  rw [elem68, size5, len68]
  have hne : ¬ 24 = i := by omega
  simp [Result.andThen, slicedAt, hne, Addr.add]
  omega

theorem run_convert_buf {w : World} {B i : Nat} {zs : List Int} (hz : zs.length = 24) (hrow : Row w B 68 (zs.map (Value.int .u8))) (h : i < 24) :
    (convert 38 9 (.slice (some ⟨B, i, none⟩) (24 - i) (24 - i))).run Ecwg.prog w = .ok (.string (strOfNums (zs.drop i))) w := by
  refine run_convert_bytes_arg w 38 5 Ecwg.underlying38 Ecwg.underlying5 B i (24 - i) (24 - i) (zs.drop i) (by simp [hz]) (fun j hj => ?_) 9 Ecwg.underlying9
  rw [hrow.cell]
  simp [List.getD, show i + j < zs.length by omega]

set_option maxHeartbeats 400000 in
theorem itoa_any (k : Int) (w : World) (h0 : 0 ≤ k) (h1 : k ≤ 4096) :
    Calls Ecwg.prog 26 #[.int .i64 k] w fun e w' => ∃ s : ByteArray, e = .returned (.string s) ∧ s.size ≤ 24 ∧ Below w.heap.size w w' := by
  by_cases hz : (k == 0) = true
  · go_enter Ecwg.func26, Ecwg.ntmps26
    go_wp2
    go_ret
    exact ⟨_, rfl, by decide +kernel, Below.refl _ _⟩
  · have hz' : (k == 0) = false := by simpa using hz
    have hpos : 0 < k := by
      have : k ≠ 0 := by simpa using hz
      omega
    clear hz
    go_enter Ecwg.func26, Ecwg.ntmps26
    go_wp2
    go_loopw [0, 4] (fun a b wr => ∃ (n : Int) (i : Nat) (zs : List Int), a = .int .i64 n ∧ b = .int .i64 i ∧ 0 ≤ n ∧ Left i n ∧ zs.length = 24 ∧ Row wr w.heap.size 68 (zs.map (Value.int .u8)) ∧ Below w.heap.size w wr) (fun _ b _ => (intOf b).toNat)
    case atStart => exact ⟨k, 24, List.replicate 24 0, rfl, rfl, h0, .inl ⟨rfl, hpos, h1⟩, rfl, Row.made w 68 _, (Below.refl _ _).alloc (Nat.le_refl _) _⟩
    case round =>
      obtain ⟨n, i, zs, rfl, rfl, hn, hL, hzl, hrow, hb⟩ := hrel
      have hle := hL.le
      by_cases hp : 0 < n
      · have hbd := hL.bd hp
        obtain ⟨m, rfl⟩ : ∃ m, i = m + 1 := ⟨i - 1, by omega⟩
        obtain ⟨v, hv⟩ : ∃ v, wr.cell? ⟨w.heap.size, m, none⟩ = some v := by
          rw [hrow.cell]; exact ⟨_, List.getElem?_eq_getElem (by simp; omega)⟩
        have hf := hrow.frozen m
        go_wp2
        go_roundw
        case rel => exact ⟨n / 10, m, zs.set m (48 + n % 10), rfl, rfl, by omega, hL.step hp, by simp [hzl], by rw [List.map_set]; exact hrow.put_same m _, hb.setCell (Nat.le_refl _) _⟩
        case measure => simp [intOf]
      · have hd := hL.done (by omega)
        have hs := run_sliceAt_buf w.heap.size i hd.2
        have hc := run_convert_buf hzl hrow hd.2
        go_wp2
        go_ret
        exact ⟨strOfNums (zs.drop i), rfl, by rw [strOfNums_size]; simp [hzl], hb⟩

end Go.Proofs.Yoecww
