import Derived.Test.Qxb6602005aDoorExp
namespace Go.Proofs.Qxb6602005aDoor
open Go.RowKit
set_option linter.unusedSimpArgs false

/-- A slice value that reads as these bytes. -/
def SL (w : World) (v : Value) (bs : List UInt8) : Prop :=
  ∃ p c, v = .slice p bs.length c ∧ bs.length ≤ c ∧ c ≤ 9223372036854775807 ∧ Lib.BytesAt w p bs.length bs ∧ ∀ b o s, p = some ⟨b, o, s⟩ → b < w.heap.size

/-- A slice's parts: it reads as rs in W; its block lies below B. -/
structure V (W : World) (B : Nat) (q : Option Addr) (m d : Nat) (rs : List UInt8) : Prop where
  len : rs.length = m
  at_ : Lib.BytesAt W q m rs
  cap : m ≤ d
  big : d ≤ 9223372036854775807
  small : m ≤ 1073741824
  old : ∀ b o s, q = some ⟨b, o, s⟩ → b < B

theorem V.cut {W : World} {B : Nat} {q : Option Addr} {m d : Nat} {rs : List UInt8} (h : V W B q m d rs) (l k : Nat) (hl : l ≤ k) (hk : k ≤ m) : V W B (cutP q d l) (k - l) (d - l) ((rs.take k).drop l) :=
  ⟨by simp [h.len]; omega, cutP_bytes hl hk h.cap h.len h.at_, by have := h.cap; omega, by have := h.big; omega, by have := h.small; omega, fun b o s e => by
    obtain ⟨o', s', e2⟩ := cutP_block e
    exact h.old b o' s' e2⟩
theorem V.from {W : World} {B : Nat} {q : Option Addr} {m d : Nat} {rs : List UInt8} (h : V W B q m d rs) (l : Nat) (hl : l ≤ m) : V W B (cutP q d l) (m - l) (d - l) (rs.drop l) := by
  have := h.cut l m hl (Nat.le_refl _)
  rwa [List.take_of_length_le (by rw [h.len]; exact Nat.le_refl _)] at this
theorem V.to {W : World} {B : Nat} {q : Option Addr} {m d : Nat} {rs : List UInt8} (h : V W B q m d rs) (k : Nat) (hk : k ≤ m) : V W B q k d (rs.take k) :=
  ⟨by simp [h.len]; omega, h.at_.take hk, by have := h.cap; omega, h.big, by have := h.small; omega, h.old⟩
theorem V.below {W W' : World} {B : Nat} {q : Option Addr} {m d : Nat} {rs : List UInt8} (h : V W B q m d rs) (hB : Below B W W') : V W' B q m d rs :=
  ⟨h.len, fun h0 => by
    obtain ⟨b, o, e, hc⟩ := h.at_ h0
    exact ⟨b, o, e, fun i hi => by rw [hB.cell (h.old b o none e)]; exact hc i hi⟩, h.cap, h.big, h.small, h.old⟩
theorem V.nil (W : World) (B : Nat) : V W B none 0 0 [] := ⟨rfl, fun h => absurd h (by omega), Nat.le_refl _, by omega, by omega, fun _ _ _ e => by cases e⟩
theorem V.sl {W W' : World} {B : Nat} {q : Option Addr} {m d : Nat} {rs : List UInt8} (h : V W B q m d rs) (hB : Below B W W') (hs : B ≤ W'.heap.size) : SL W' (.slice q m d) rs :=
  ⟨q, d, by rw [h.len], by rw [h.len]; exact h.cap, h.big, by rw [h.len]; exact (h.below hB).at_, fun b o s e => Nat.lt_of_lt_of_le (h.old b o s e) hs⟩
theorem V.head {W : World} {B : Nat} {q : Option Addr} {m d : Nat} {x : UInt8} {r : List UInt8} (h : V W B q m d (x :: r)) : ∃ b o, q = some ⟨b, o, none⟩ ∧ W.cell? ⟨b, o, none⟩ = some (.int .u8 (x.toNat : Int)) := by
  obtain ⟨b, o, e, hc⟩ := at_byte h.at_ h.len (k := 0) (by have := h.len; simp at this; omega)
  exact ⟨b, o, e, hc⟩

theorem byte_eqB (x : UInt8) (n : Nat) (hn : n < 256) : (x == UInt8.ofNat n) = ((x.toNat : Int) == (n : Int)) := by
  rw [Bool.eq_iff_iff, byte_eq x n hn]
  simp

/-- Does a list open with k? -/
def isHd (k : UInt8) : List UInt8 → Bool
  | [] => false
  | c :: _ => c == k
theorem isHd_cons (k x : UInt8) (r : List UInt8) : isHd k (x :: r) = ((x.toNat : Int) == (k.toNat : Int)) := by
  have := byte_eqB x k.toNat k.toNat_lt
  rw [UInt8.ofNat_toNat] at this
  exact this

theorem dropWhile_is (f : UInt8 → Bool) : ∀ l : List UInt8, l.dropWhile f = l.drop (l.length - (l.dropWhile f).length)
  | [] => rfl
  | c :: r => by
    have ih := dropWhile_is f r
    have hle : (r.dropWhile f).length ≤ r.length := (List.dropWhile_sublist f).length_le
    rw [List.dropWhile_cons]
    split
    · rw [List.length_cons, show r.length + 1 - (r.dropWhile f).length = (r.length - (r.dropWhile f).length) + 1 by omega, List.drop_succ_cons]
      exact ih
    · simp
theorem trimL_is (l : List UInt8) : trimL l = l.drop (l.length - (trimL l).length) := dropWhile_is _ l
theorem trimL_le (l : List UInt8) : (trimL l).length ≤ l.length := (List.dropWhile_sublist _).length_le
theorem trimR_is (l : List UInt8) : trimR l = l.take (trimR l).length := by
  have h := dropWhile_is (fun x => ([48] : List UInt8).contains x) l.reverse
  show (l.reverse.dropWhile _).reverse = l.take ((l.reverse.dropWhile _).reverse).length
  rw [List.length_reverse]
  have hle : (l.reverse.dropWhile (fun x => ([48] : List UInt8).contains x)).length ≤ l.length := by
    have := (List.dropWhile_sublist (fun x => ([48] : List UInt8).contains x) (l := l.reverse)).length_le
    simpa using this
  generalize (l.reverse.dropWhile (fun x => ([48] : List UInt8).contains x)).length = k at *
  rw [h, List.length_reverse, List.drop_reverse, List.reverse_reverse]
  congr 1
  omega
theorem trimR_le (l : List UInt8) : (trimR l).length ≤ l.length := by
  rw [trimR_is]
  simp
  omega

theorem peLoop_le : ∀ (l : List UInt8) (e v : Nat), e ≤ 1000000000000000 → peLoop e l = some v → v ≤ 1000000000000000
  | [], e, v, he, h => by
    simp only [peLoop, Option.some.injEq] at h
    omega
  | c :: r, e, v, he, h => by
    rw [peLoop] at h
    split at h
    · cases h
    · exact peLoop_le r _ v (by omega) h
theorem pe_le (s : List UInt8) (v : Int) (h : pe s = some v) : -1000000000000000 ≤ v ∧ v ≤ 1000000000000000 := by
  unfold pe at h
  split at h
  · cases h
  · rw [Option.map_eq_some_iff] at h
    obtain ⟨a, ha, rfl⟩ := h
    have := peLoop_le _ 0 a (by omega) ha
    split <;> omega

theorem trimL_calls (W : World) (t B : Nat) (q : Option Addr) (m d : Nat) (rs : List UInt8) (h : V W B q m d rs) :
    Calls Tryd.prog 32 #[.slice q m d, .string ⟨#[48]⟩] (W.drewN t) fun e w' => ∃ q' m' d', e = .returned (.slice q' m' d') ∧ V W B q' m' d' (trimL rs) ∧ w' = W.drewN t := by
  rcases Nat.eq_zero_or_pos m with h0 | h0
  · subst h0
    have e : rs = [] := List.length_eq_zero_iff.1 h.len
    subst e
    exact (Tryd.bytes_TrimLeft_none q d ⟨#[48]⟩ (W.drewN t)).mono fun e w' ⟨he, hw⟩ => ⟨none, 0, 0, he, V.nil _ _, hw⟩
  · refine (Tryd.bytes_TrimLeft_one q m d rs 48 (W.drewN t) h.len h.cap h.big h.at_ h0 (by decide)).mono fun e w' ⟨he, hw⟩ => ?_
    have hle := trimL_le rs
    rw [h.len] at hle
    have hV := h.from (m - (trimL rs).length) (by omega)
    have ht := trimL_is rs
    rw [h.len] at ht
    rw [← ht] at hV
    rw [leftV_is] at he
    change e = .returned (if m - (trimL rs).length = m then .slice none 0 0 else .slice (cutP q d (m - (trimL rs).length)) (m - (m - (trimL rs).length)) (d - (m - (trimL rs).length))) at he
    by_cases hz : m - (trimL rs).length = m
    · rw [if_pos hz] at he
      have e0 : trimL rs = [] := List.length_eq_zero_iff.1 (by omega)
      exact ⟨none, 0, 0, he, by rw [e0]; exact V.nil _ _, hw⟩
    · rw [if_neg hz] at he
      exact ⟨_, _, _, he, hV, hw⟩

theorem trimR_calls (W : World) (t B : Nat) (q : Option Addr) (m d : Nat) (rs : List UInt8) (h : V W B q m d rs) :
    Calls Tryd.prog 33 #[.slice q m d, .string ⟨#[48]⟩] (W.drewN t) fun e w' => ∃ q' m' d', e = .returned (.slice q' m' d') ∧ V W B q' m' d' (trimR rs) ∧ w' = W.drewN t := by
  rcases Nat.eq_zero_or_pos m with h0 | h0
  · subst h0
    have e : rs = [] := List.length_eq_zero_iff.1 h.len
    subst e
    exact (Tryd.bytes_TrimRight_empty q 0 d ⟨#[48]⟩ (W.drewN t) (.inl rfl)).mono fun e w' ⟨he, hw⟩ => ⟨q, 0, d, he, h, hw⟩
  · refine (Tryd.bytes_TrimRight_one q m d rs 48 (W.drewN t) h.len h.cap h.big h.at_ h0 (by decide)).mono fun e w' ⟨he, hw⟩ => ?_
    have hle := trimR_le rs
    rw [h.len] at hle
    have hV := h.to (trimR rs).length hle
    rw [← trimR_is] at hV
    exact ⟨_, _, _, he, hV, hw⟩

end Go.Proofs.Qxb6602005aDoor
