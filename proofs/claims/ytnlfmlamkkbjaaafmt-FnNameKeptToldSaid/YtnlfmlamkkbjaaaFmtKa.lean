/-
  QuoteIdentifier at a name that is not empty and whose bytes all lie from 32 to 126: the name is appended as it is.
-/
import Derived.Test.YtnlfmlamkkbjaaaFmtProg
import Derived.Test.YtnlfmlamkkbjaaaFmtBuf
import Derived.WalkKit
import Derived.WalkSpells
import Derived.KernelRfl
import Derived.Laws.RangeAny
import Derived.Lib.Hide
namespace Go.Proofs.YtnlfmlamkkbjaaaFmt
open Go.RowKit

theorem info5 : (Tryf.prog.info? 5).map (fun i => (i.zero, i.size, i.bytes)) = some (some (.int .u8 0), 1, 1) := by kernel_rfl

/-- The buffer that is handed in has grown by the name's bytes. -/
def Quoted (B : Nat) (w : World) (xs : List Value) (s : ByteArray) (e : Ending) (w' : World) : Prop :=
  ∃ v, e = .returned v ∧ Buf w' B 5 v (xs ++ byteCells s) ∧ Below B w w'

theorem iter_size (w : World) (s : ByteArray) (p : Nat) : (w.iter s p).heap.size = w.heap.size + 1 := by simp [World.iter]
theorem iter_le {B : Nat} {w : World} (h : B ≤ w.heap.size) (s : ByteArray) (p : Nat) : B ≤ (w.iter s p).heap.size := by rw [iter_size]; omega

set_option maxRecDepth 100000 in
set_option maxHeartbeats 1000000 in
theorem quote_ascii (B : Nat) (w : World) (v : Value) (xs : List Value) (s : ByteArray) (hv : Buf w B 5 v xs) (hB : B ≤ w.heap.size) (hs : 0 < s.size) (hm : s.size ≤ 2147483647) (hx : xs.length ≤ 2147483647)
    (hlo : ∀ i (h : i < s.size), 32 ≤ (s[i]'h).toNat ∧ (s[i]'h).toNat ≤ 126) :
    Calls Tryf.prog 13 #[v, .string s, .int .u64 0] w fun e w' => Quoted B w xs s e w' := by
  have HV := Lib.hid hv
  have HX := Lib.hid hx
  have HL := Lib.hid hlo
  clear hv hx hlo
  obtain ⟨i0, hi, hz0, hz1, hz2⟩ := info_parts info5
  have HI := Lib.hid hi
  have HZ0 := Lib.hid hz0
  have HZ1 := Lib.hid hz1
  have HZ2 := Lib.hid hz2
  clear hi hz0 hz1 hz2
  go_enter Tryf.func13, Tryf.ntmps13
  go_wp2
  go_loopw [0, 7, 8] (fun j b a w' => ∃ pos : Nat, w' = w.iter s pos ∧ pos ≤ s.size ∧ j = v ∧ a = .int .i64 0 ∧ b = .bool (decide (0 < pos))) (fun _ _ _ w' => s.size - w'.iterPos w.heap.size)
  case atStart => exact ⟨0, rfl, Nat.zero_le _, rfl, rfl, rfl⟩
  case round =>
    obtain ⟨pos, rfl, hpos, rfl, rfl, rfl⟩ := hrel
    by_cases hp : pos < s.size
    · have hb := HL.out pos hp
      have hnx : ∀ ty, (Instr.next (.pointer (some ⟨w.heap.size, 0, none⟩)) true ty).run Tryf.prog (w.iter s pos) = _ := fun ty => run_next_ascii w s pos ty hp (by omega)
      obtain ⟨c, hc⟩ : ∃ c : Int, c = ((s[pos]'hp).toNat : Int) := ⟨_, rfl⟩
      rw [← hc] at hnx
      have h1 : 32 ≤ c := by omega
      have h2 : c ≤ 126 := by omega
      have HC := Lib.hid hc
      clear hc hb
      by_cases h0 : 0 < pos
      · have hd : decide (0 < pos) = true := decide_eq_true h0
        rw [hd]
        clear hd
        go_wp2
        go_roundw
        case rel => exact ⟨pos + 1, rfl, by omega, rfl, rfl, by simp⟩
        case measure => simp; omega
      · obtain rfl : pos = 0 := by omega
        go_wp2
        go_roundw
        case rel => exact ⟨0 + 1, rfl, by omega, rfl, rfl, by simp⟩
        case measure => simp; omega
    · obtain rfl : pos = s.size := by omega
      have hd : decide (0 < s.size) = true := decide_eq_true hs
      rw [hd]
      clear hd
      have hnx : ∀ ty, (Instr.next (.pointer (some ⟨w.heap.size, 0, none⟩)) true ty).run Tryf.prog (w.iter s s.size) = _ := fun ty => run_next_end w s s.size ty (by omega)
      have hsz : xs.length + s.size ≤ 140737488355328 := by have := HX.out; omega
      have HSZ := Lib.hid hsz
      clear hsz hpos
      go_wp2_with (at_builtin; go_must (refine wpList_append_buf (e := 5) (base := B) (xs := xs) rfl (.tmp 63) (.tmp 66) 31 9 rfl i0 (.int .u8 0) Tryf.underlying31 HI.out HZ0.out HZ1.out HZ2.out rfl rfl (HV.out.alloc _) (iter_le hB s s.size) _ _ (Src.ofString _ Tryf.underlying9 s) HSZ.out ?_); intro v' w' hb hg; have HB := Lib.hid hb; have HG := Lib.hid hg; clear hb hg)
      go_ret
      exact ⟨_, rfl, HB.out, ((Below.refl B w).alloc hB _).trans ((HV.out.alloc _).belowGrown HG.out (iter_le hB s s.size))⟩
#print axioms quote_ascii
end Go.Proofs.YtnlfmlamkkbjaaaFmt
