import Derived.Test.Qxb6601675aDoorShelf
import Derived.Test.Qxb6601675aDoorPlain
import Derived.WalkKit
import Derived.WalkSpells
import Derived.WalkLawsBesides
namespace Go.Proofs.Qxb6601675aDoor
open Go.RowKit
set_option linter.unusedSimpArgs false

theorem hide {p : Prop} (h : p) : Hid p := h
theorem unhide {p : Prop} (h : Hid p) : p := h

theorem isLang_at (L : List ByteArray) (k : Nat) (h : k < L.length) : isLang (decide (k = 0)) ((L.drop k).map (·.data.toList)) = (tagOk (decide (k = 0)) (L.getD k default).data.toList && isLang (decide (k + 1 = 0)) ((L.drop (k + 1)).map (·.data.toList))) := by
  rw [List.drop_eq_getElem_cons h, List.map_cons, isLang]
  simp [List.getD, List.getElem?_eq_getElem h]

/-- '[]byte(t)': a new block, whatever its capacity. -/
theorem conv_bytes (t : ByteArray) (wr : World) : ∃ (cap : Nat) (W2 : World), (convert 9 26 (.string t)).run Tryd.prog wr = .ok (.slice (some ⟨wr.heap.size, 0, none⟩) t.size cap) W2 ∧
    Below wr.heap.size wr W2 ∧ ∀ j (hj : j < t.size), W2.cell? ⟨wr.heap.size, j, none⟩ = some (.int .u8 (t[j].toNat : Int)) := by
  refine ⟨_, _, run_bytes_of_string wr 9 26 5 t Tryd.underlying9 Tryd.underlying26 Tryd.underlying5, ?_, ?_⟩
  · exact (Below.refl _ wr).drew.alloc (Nat.le_refl _) _
  · intro j hj
    have h1 := World.cell?_alloc_mark wr.drew (bytesRow t (grownCap wr t.size 0 5)) 5 ((bytesRow t (grownCap wr t.size 0 5)).size, (bytesRow t (grownCap wr t.size 0 5)).size + 1) j
    rw [show wr.drew.heap.size = wr.heap.size from rfl] at h1
    rw [h1, bytesRow_at t _ j hj]
    rfl

theorem all_at (t : ByteArray) (j : Nat) (f : UInt8 → Bool) (h : j < t.size) : (t.data.toList.drop j).all f = (f t[j] && (t.data.toList.drop (j + 1)).all f) := by
  rw [List.drop_eq_getElem_cons (by simpa using h), List.all_cons]
  rfl
theorem tagByte_is (k : Nat) (c : UInt8) : tagByte (decide (k = 0)) c =
    decide (((97 ≤ (c.toNat : Int) ∧ (c.toNat : Int) ≤ 122) ∨ (65 ≤ (c.toNat : Int) ∧ (c.toNat : Int) ≤ 90)) ∨ ((k : Int) ≠ 0 ∧ 48 ≤ (c.toNat : Int) ∧ (c.toNat : Int) ≤ 57)) := by
  rw [Bool.eq_iff_iff]
  simp only [tagByte, letter, digit, Bool.or_eq_true, Bool.and_eq_true, Bool.not_eq_true', decide_eq_true_eq, decide_eq_false_iff_not]
  omega

set_option maxHeartbeats 1000000 in
theorem isLang_calls (s : ByteArray) (hs : s.size ≤ 1048576) (w : World) (hsh : w.ShapedOpen Tryd.prog) :
    Calls Tryd.prog 9 #[.string s] w fun e w' => e = .returned (.bool (isLang true ((Lib.splitB ⟨#[45]⟩ 0 (Lib.countB s ⟨#[45]⟩) s).map (·.data.toList)))) ∧ Below w.heap.size w w' := by
  have hlen := Lib.splitB_all ⟨#[45]⟩ (by decide) 0 _ s rfl
  have hcnt := Lib.countB_le ⟨#[45]⟩ (by decide) s.size s (Nat.le_refl _)
  have HC : Hid (Calls Tryd.prog 10 #[.string s, .string ⟨#[45]⟩] w _) := Tryd.strings_Split_shaped s ⟨#[45]⟩ w hsh (by omega) (by decide)
  generalize Lib.countB s ⟨#[45]⟩ = n at *
  generalize Lib.splitB ⟨#[45]⟩ 0 n s = L at *
  clear hsh
  go_enter Tryd.func9, Tryd.ntmps9
  go_wp2_with (go_at_call 10; refine (HC.out).mono ?_; rintro e w' ⟨rfl, rfl⟩)
  have hW1 : Below w.heap.size w (w.alloc (.cells (List.map Value.string L).toArray 9)) := (Below.refl _ w).alloc (Nat.le_refl _) _
  have hsz : (w.alloc (.cells (List.map Value.string L).toArray 9)).heap.size = w.heap.size + 1 := by simp
  have hcl : ∀ j, j < n + 1 → (w.alloc (.cells (List.map Value.string L).toArray 9)).cell? ⟨w.heap.size, j, none⟩ = some (.string (L.getD j default)) := by
    intro j hj
    have h1 := World.cell?_alloc_mark w (List.map Value.string L).toArray 9 (0, 0) j
    rw [h1]
    simp [List.getD, List.getElem?_eq_getElem (show j < L.length by omega)]
  generalize w.alloc (.cells (List.map Value.string L).toArray 9) = W1 at *
  have HW1 := hide hW1; clear hW1
  have Hsz := hide hsz; clear hsz
  have Hcl := hide hcl; clear hcl
  have Hlen := hide hlen; clear hlen
  clear HC
  go_loopw [12] (fun i wr => ∃ k : Nat, i = .int .i64 k ∧ k ≤ n + 1 ∧ Below (w.heap.size + 1) W1 wr ∧ Hid (isLang (decide (k = 0)) ((L.drop k).map (·.data.toList)) = isLang true (L.map (·.data.toList))))
    (fun i _ => n + 1 - (intOf i).toNat)
  case atStart => exact ⟨0, rfl, by omega, Below.refl _ _, rfl⟩
  case round =>
    obtain ⟨k, rfl, hk, hB, H⟩ := hrel
    have hcell : (k : Int) < (n : Int) + 1 → wr.cell? ⟨w.heap.size, k, none⟩ = some (.string (L.getD k default)) := fun h => by
      rw [hB.cell (by simp), (unhide Hcl) k (by omega)]
    have HT : Hid (k < n + 1 → isLang (decide (k = 0)) ((L.drop k).map (·.data.toList)) = (tagOk (decide (k = 0)) (L.getD k default).data.toList && isLang (decide (k + 1 = 0)) ((L.drop (k + 1)).map (·.data.toList)))) := fun h => isLang_at L k (by rw [unhide Hlen]; exact h)
    have HE : Hid (¬ k < n + 1 → isLang (decide (k = 0)) ((L.drop k).map (·.data.toList)) = true) := fun h => by
      rw [List.drop_eq_nil_of_le (by rw [unhide Hlen]; omega)]; rfl
    generalize L.getD k default = t at *
    obtain ⟨cap, W2, kc, hB2, hc2⟩ := conv_bytes t wr
    have HB2 := hide hB2; clear hB2
    have HB := hide hB; clear hB
    go_wp2_with fail
    · go_ret
      refine ⟨congrArg (fun x => Ending.returned (.bool x)) ?_, (unhide HW1).trans ((unhide HB).mono (by omega))⟩
      rw [← H.out, HT.out (by omega), tagOk]
      simp
      omega
    · have HA : Hid (tagOk (decide (k = 0)) t.data.toList = t.data.toList.all (tagByte (decide (k = 0)))) := by
        show _ = _
        rw [tagOk, decide_eq_true (by simp; omega), decide_eq_true (by simp; omega)]
        rfl
      have HF : Hid (∀ c, tagByte (decide (k = 0)) c = _) := fun c => tagByte_is k c
      generalize tagByte (decide (k = 0)) = f at *
      have HK : Hid ((k : Int) < (n : Int) + 1) := by assumption
      rcases hk0 : ((k : Int) == 0) with _ | _
      all_goals
        go_loop [28] (fun i => ∃ j : Nat, i = .int .i64 j ∧ j ≤ t.size ∧ Hid ((t.data.toList.drop j).all f = t.data.toList.all f))
          (fun i => t.size - (intOf i).toNat)
        case atStart => exact ⟨0, rfl, by omega, rfl⟩
        case round =>
          obtain ⟨j, rfl, hj, HJ⟩ := hrel
          have hcj : ∀ h : (j : Int) < (t.size : Int), W2.cell? ⟨wr.heap.size, j, none⟩ = some (.int .u8 ((t[j]'(by omega)).toNat : Int)) := fun h => hc2 j (by omega)
          have HL : Hid (∀ h : j < t.size, _) := fun h => all_at t j f h
          have HN : Hid (¬ j < t.size → (t.data.toList.drop j).all f = true) := fun h => by
            rw [List.drop_eq_nil_of_le (by simpa using h)]; rfl
          go_wp2
          all_goals first
            | (go_ret
               refine ⟨congrArg (fun x => Ending.returned (.bool x)) ?_, ((unhide HW1).trans ((unhide HB).mono (by omega))).trans ((unhide HB2).mono (by have := (unhide HB).size; have := (unhide Hsz); omega))⟩
               have h : j < t.size := ‹_›
               rw [← H.out, HT.out (by have := HK.out; omega), HA.out, ← HJ.out, HL.out h, HF.out]
               clear HF HL HN HJ HA HT HE H hc2 hcj kc
               generalize (t[j].toNat : Int) = c at *
               simp only [beq_iff_eq, beq_eq_false_iff_ne, Bool.not_eq_true', decide_eq_false_iff_not] at *
               rw [decide_eq_false (by omega)]
               rfl)
            | (go_roundw
               case rel =>
                 refine ⟨k + 1, by go_num, by have := HK.out; omega, (unhide HB).trans ((unhide HB2).mono (by have := (unhide HB).size; have := (unhide Hsz); omega)), ?_⟩
                 show isLang _ _ = _
                 rw [← H.out, HT.out (by have := HK.out; omega), HA.out, ← HJ.out, HN.out (by assumption)]
                 rfl
               case measure => have := HK.out; simp [intOf]; omega)
            | (have h : j < t.size := ‹_›
               go_round
               case rel =>
                 refine ⟨j + 1, by go_num, by omega, ?_⟩
                 show List.all _ _ = _
                 rw [← HJ.out, HL.out h, HF.out]
                 clear HF HL HN HJ HA HT HE H hc2 hcj kc
                 generalize (t[j].toNat : Int) = c at *
                 simp only [beq_iff_eq, beq_eq_false_iff_ne, Bool.not_eq_true', Bool.not_eq_false', decide_eq_false_iff_not, decide_eq_true_eq] at *
                 rw [decide_eq_true (by omega)]
                 rfl
               case measure => simp [intOf]; omega)
    · go_ret
      refine ⟨congrArg (fun x => Ending.returned (.bool x)) ?_, (unhide HW1).trans ((unhide HB).mono (by omega))⟩
      rw [← H.out, HT.out (by omega), tagOk]
      simp
      omega
    · go_ret
      refine ⟨congrArg (fun x => Ending.returned (.bool x)) ?_, (unhide HW1).trans ((unhide HB).mono (by omega))⟩
      rw [← H.out, HE.out (by omega)]
end Go.Proofs.Qxb6601675aDoor
