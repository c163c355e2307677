/- zzIndexAny, zzContainsAny of a blank or a comma, over an ASCII text. -/
import Derived.Test.YtfijncfoefbohaaGreatDoorKept
import Derived.Lib.OthersKept
import Derived.WalkSmall
namespace Go.Proofs.YtfijncfoefbohaaGreatDoor
open Go Go.RowKit

def blanks : ByteArray := { data := #[32, 44] }
def asciiL (l : List UInt8) : Prop := ∀ x ∈ l, x.toNat < 128
theorem ascii_at {s : ByteArray} (h : asciiL s.data.toList) (k : Nat) (hk : k < s.size) : (s[k]'hk).toNat < 128 := by
  rw [getElem_list s k hk]; exact h _ (List.getElem_mem _)

def IdxAny (l : List UInt8) (e : Ending) : Prop := ∃ r : Int, e = .returned (.int .i64 r) ∧ decide (0 ≤ r) = anyB blankB l

set_option maxHeartbeats 1600000 in
theorem zzIndexAny_any (s : ByteArray) (w : World) (hs : s.size ≤ 4398046511104) (ha : asciiL s.data.toList) :
    Calls Tryz.prog 72 #[.string s, .string blanks] w fun e w' => IdxAny s.data.toList e ∧ Below w.heap.size w w' := by
  obtain ⟨B, hB⟩ : ∃ B, B = w.heap.size := ⟨_, rfl⟩
  have HB := Lib.hid hB
  have hB0 : B ≤ w.heap.size := by omega
  have HA := Lib.hid ha
  clear ha
  go_enter Tryz.func72, Tryz.ntmps72
  go_wp2
  rw [← hB]
  clear hB
  go_loopw [] (fun wr => ∃ pos : Nat, pos ≤ s.size ∧ wr.heap[B]? = some (.stringIter s pos) ∧ Below B w wr ∧ B < wr.heap.size ∧ anyB blankB (s.data.toList.take pos) = false) (fun wr => s.size - wr.iterPos B)
  case atStart =>
    have hB2 := HB.out
    refine ⟨0, Nat.zero_le _, by rw [hB2]; exact World.iter_heap _ _ _, (Below.refl _ _).alloc hB0 _, by rw [hB2]; simp [World.iter], rfl⟩
  case round =>
    obtain ⟨pos, hp, hit, hbel, hBl, hpre⟩ := hrel
    have HIT := Lib.hid hit
    have HPRE := Lib.hid hpre
    clear hit hpre
    by_cases hlt : pos < s.size
    · have hnx := fun ty => Lib.run_next_ascii_at (P := Tryz.prog) wr B s pos ty HIT.out hlt (ascii_at HA.out pos hlt)
      have hit1 := Lib.iterAt_heap wr B s pos (pos + 1) HIT.out
      have hbel1 := Lib.below_iterAt hbel (Nat.le_refl B) s (pos + 1)
      have hsz1 := Lib.iterAt_size wr B s (pos + 1)
      have HIT1 := Lib.hid hit1
      have HSZ1 := Lib.hid hsz1
      have HST := Lib.hid (any_step blankB s pos hlt HPRE.out)
      have HSP := Lib.hid (any_stop blankB s pos hlt)
      clear hit1 hsz1
      go_wp2
      clear hnx
      generalize wr.iterAt B s (pos + 1) = w1 at *
      obtain ⟨I, hI⟩ : ∃ I, I = w1.heap.size := ⟨_, rfl⟩
      rw [← hI]
      have hBI : B < I := by have := HSZ1.out; omega
      have HI := Lib.hid hI
      clear hI
      obtain ⟨wo, rfl⟩ : ∃ wo : World, wo = wr := ⟨_, rfl⟩
      go_loopw [] (fun wr => ∃ p2 : Nat, p2 ≤ 2 ∧ wr.heap[I]? = some (.stringIter blanks p2) ∧ wr.heap[B]? = some (.stringIter s (pos + 1)) ∧ Below B w wr ∧ I < wr.heap.size ∧ ((1 ≤ p2 → ((s[pos].toNat : Int) == 32) = false) ∧ (2 ≤ p2 → ((s[pos].toNat : Int) == 44) = false))) (fun wr => 2 - wr.iterPos I)
      case atStart =>
        refine ⟨0, by omega, by rw [HI.out]; exact World.iter_heap _ _ _, ?_, ?_, by rw [HI.out]; simp [World.iter], fun h => by omega, fun h => by omega⟩
        · rw [World.iter, Below.heap_alloc _ _ _ (by rw [← HI.out]; exact hBI)]; exact HIT1.out
        · exact hbel1.alloc (by rw [← HI.out]; exact Nat.le_of_lt hBI) _
      case round =>
        obtain ⟨p2, hp2, hiI, hiB, hbi, hIl, hn1, hn2⟩ := hrel
        have HII := Lib.hid hiI
        have HIB := Lib.hid hiB
        clear hiI hiB
        rcases (show p2 = 0 ∨ p2 = 1 ∨ p2 = 2 by omega) with rfl | rfl | rfl
        · have hnx : ∀ ty, (Instr.next (.pointer (some ⟨I, 0, none⟩)) true ty).run Tryz.prog wr = .ok (.tuple #[.bool true, .int .i64 0, .int .i32 32]) (wr.iterAt I blanks 1) := fun ty => Lib.run_next_ascii_at (P := Tryz.prog) wr I blanks 0 ty HII.out (by decide) (by decide)
          have hI2 := Lib.iterAt_heap wr I blanks 0 1 HII.out
          have hB2 := (Lib.iterAt_other wr I B blanks 1 (by omega)).trans HIB.out
          have hb2 := Lib.below_iterAt hbi (Nat.le_of_lt hBI) blanks 1
          have hs2 := Lib.iterAt_size wr I blanks 1
          have HI2 := Lib.hid hI2
          have HB2 := Lib.hid hB2
          have HS2 := Lib.hid hs2
          clear hI2 hB2 hs2
          go_wp2
          all_goals first
            | (go_roundw
               case rel => exact ⟨1, by omega, HI2.out, HB2.out, hb2, by rw [HS2.out]; exact hIl, fun _ => ‹_›, fun h => by omega⟩
               case measure => rw [iterPos_of HI2.out, iterPos_of HII.out]; omega)
            | (go_ret
               have hBB := HB.out
               rw [← hBB]
               exact ⟨⟨pos, rfl, by rw [HSP.out (by unfold blankB; simp_all)]; simp⟩, hb2⟩)
        · have hnx : ∀ ty, (Instr.next (.pointer (some ⟨I, 0, none⟩)) true ty).run Tryz.prog wr = .ok (.tuple #[.bool true, .int .i64 1, .int .i32 44]) (wr.iterAt I blanks 2) := fun ty => Lib.run_next_ascii_at (P := Tryz.prog) wr I blanks 1 ty HII.out (by decide) (by decide)
          have hI2 := Lib.iterAt_heap wr I blanks 1 2 HII.out
          have hB2 := (Lib.iterAt_other wr I B blanks 2 (by omega)).trans HIB.out
          have hb2 := Lib.below_iterAt hbi (Nat.le_of_lt hBI) blanks 2
          have hs2 := Lib.iterAt_size wr I blanks 2
          have HI2 := Lib.hid hI2
          have HB2 := Lib.hid hB2
          have HS2 := Lib.hid hs2
          have h1 := hn1 (by omega)
          clear hI2 hB2 hs2 hn1 hn2
          go_wp2
          all_goals first
            | (go_roundw
               case rel => exact ⟨2, by omega, HI2.out, HB2.out, hb2, by rw [HS2.out]; exact hIl, fun _ => h1, fun _ => ‹_›⟩
               case measure => rw [iterPos_of HI2.out, iterPos_of HII.out]; omega)
            | (go_ret
               have hBB := HB.out
               rw [← hBB]
               exact ⟨⟨pos, rfl, by rw [HSP.out (by unfold blankB; simp_all)]; simp⟩, hb2⟩)
        · have hnx : ∀ ty, (Instr.next (.pointer (some ⟨I, 0, none⟩)) true ty).run Tryz.prog wr = .ok (.tuple #[.bool false]) wr := fun ty => Lib.run_next_end_at (P := Tryz.prog) wr I blanks 2 ty HII.out (by decide)
          have h1 := hn1 (by omega)
          have h2 := hn2 (by omega)
          clear hn1 hn2
          go_wp2
          go_roundw
          case rel => exact ⟨pos + 1, by omega, HIB.out, hbi, by omega, HST.out (by unfold blankB; rw [h1, h2]; rfl)⟩
          case measure => rw [iterPos_of HIB.out, iterPos_of HIT.out]; omega
    · have hnx := fun ty => Lib.run_next_end_at (P := Tryz.prog) wr B s pos ty HIT.out hlt
      go_wp2
      go_ret
      have hB2 := HB.out
      rw [← hB2]
      exact ⟨⟨-1, rfl, by rw [← take_all s pos (by omega), HPRE.out]; rfl⟩, hbel⟩
end Go.Proofs.YtfijncfoefbohaaGreatDoor
