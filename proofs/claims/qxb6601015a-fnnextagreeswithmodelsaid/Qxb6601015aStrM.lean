/-
  THE WALKS of the token models: zzSynStringModel (30), zzSynPunctLen (31).
-/
import Derived.Test.Qxb6601015aScan
namespace Go.Proofs.Qxb6601015a.SK
open Go Go.RowKit

/-- A number's parity. -/
def odd (n : Nat) : Bool := decide (n % 2 = 1)
theorem odd_succ (n : Nat) : odd (n + 1) = !odd n := by
  unfold odd
  by_cases h : n % 2 = 1
  · rw [decide_eq_true h, decide_eq_false (by omega)]; rfl
  · rw [decide_eq_false h, decide_eq_true (by omega)]; rfl

theorem sp_q {s : ByteArray} {k : Nat} {par : Bool} {R : Bool × Nat} (hlt : k < s.size) (H : strP (s.data.toList.drop k) par k = R) (hc : s[k] = 39) : strP (s.data.toList.drop (k + 1)) (!par) (k + 1) = R := by
  rw [← H, drop_cons s k hlt, strP, if_pos hc]
theorem sp_ne {s : ByteArray} {k : Nat} {R : Bool × Nat} (hlt : k < s.size) (H : strP (s.data.toList.drop k) false k = R) (hc : ¬ s[k] = 39) : strP (s.data.toList.drop (k + 1)) false (k + 1) = R := by
  rw [← H, drop_cons s k hlt, strP, if_neg hc, if_neg (by decide)]
theorem sp_done {s : ByteArray} {k : Nat} {R : Bool × Nat} (H : strP (s.data.toList.drop k) true k = R) (hc : ∀ h : k < s.size, ¬ s[k] = 39) : R = (true, k) := by
  by_cases hlt : k < s.size
  · rw [← H, drop_cons s k hlt, strP, if_neg (hc hlt), if_pos rfl]
  · rw [← H, drop_nil s k hlt]; rfl
theorem sp_end {s : ByteArray} {k : Nat} {par : Bool} {R : Bool × Nat} (hn : ¬ k < s.size) (H : strP (s.data.toList.drop k) par k = R) : R = (par, k) := by
  rw [← H, drop_nil s k hn]; rfl

theorem ret2' {a : Int} {c : Bool} {r : Bool × Nat} (h : ((r.2 : Int), r.1) = (a, c)) :
    Ending.returned (.tuple #[.int .i64 a, .bool c]) = .returned (.tuple #[.int .i64 (r.2 : Nat), .bool r.1]) := by
  obtain ⟨rfl, rfl⟩ := Prod.mk.inj h; rfl

set_option maxRecDepth 100000 in
set_option maxHeartbeats 2000000 in
theorem stringModel_any (s : ByteArray) (p : Nat) (w : World) (hs : s.size ≤ 1048576) (hp : p < s.size) (hq : s[p] = 39) :
    Calls Try.prog 30 #[.string s, .int .i64 p] w fun e w' => e = .returned (.tuple #[.int .i64 ((strP (s.data.toList.drop (p + 1)) false (p + 1)).2 : Nat), .bool (strP (s.data.toList.drop (p + 1)) false (p + 1)).1]) ∧ w' = w := by
  generalize hR : strP (s.data.toList.drop (p + 1)) false (p + 1) = R
  have HR : Hid (strP (s.data.toList.drop (p + 1)) false (p + 1) = R) := hR
  have HQ : Hid (s[p] = 39) := hq
  clear hR hq
  go_enter Try.func30, Try.ntmps30
  go_wp2
  go_loop [6, 7] (fun iv fv => ∃ (i : Nat) (f : Bool), i ≤ s.size ∧ iv = .int .i64 i ∧ fv = .bool f ∧ (f = true → i = p) ∧ Hid (f = false → strP (s.data.toList.drop i) false i = R)) (fun iv _ => s.size - (intOf iv).toNat)
  case atStart => exact ⟨p, true, by omega, rfl, rfl, (fun _ => rfl), (fun h => by cases h)⟩
  case round =>
    obtain ⟨i, f, hi, rfl, rfl, hf, H⟩ := hrel
    by_cases hlt : i < s.size
    · by_cases hc : s[i] = 39
      · have t39 : ((s[i].toNat : Int) != 39) = false := by rw [hc]; rfl
        -- what the run's relation is behind its first quote
        have hstart : strP (s.data.toList.drop (i + 1)) (odd (i + 1 - i - (if f then 1 else 0))) (i + 1) = R := by
          cases f with
          | true => obtain rfl := hf rfl; rw [show i + 1 - i - (if true = true then 1 else 0) = 0 from by simp]; exact HR.out
          | false => rw [show i + 1 - i - (if false = true then 1 else 0) = 1 from by simp]; exact sp_q hlt (H.out rfl) hc
        have HS : Hid (strP (s.data.toList.drop (i + 1)) (odd (i + 1 - i - (if f then 1 else 0))) (i + 1) = R) := hstart
        have HCi : Hid (s[i] = 39) := hc
        clear hstart hc
        go_wp2
        go_loop [8] (fun jv => ∃ j : Nat, i ≤ j ∧ j ≤ s.size ∧ jv = .int .i64 j ∧ Hid (i < j → strP (s.data.toList.drop j) (odd (j - i - (if f then 1 else 0))) j = R)) (fun jv => s.size - (intOf jv).toNat)
        case atStart => exact ⟨i, by omega, by omega, rfl, fun h => absurd h (Nat.lt_irrefl _)⟩
        case round =>
          obtain ⟨j, hij, hj, rfl, HJ⟩ := hrel
          by_cases hltj : j < s.size
          · by_cases hcj : s[j] = 39
            · have u39 : ((s[j].toNat : Int) == 39) = true := byte_eq hcj
              have HN : Hid (i < j + 1 → strP (s.data.toList.drop (j + 1)) (odd (j + 1 - i - (if f then 1 else 0))) (j + 1) = R) := by
                show i < j + 1 → _
                intro _
                by_cases e : i = j
                · subst e; exact HS.out
                · have h1 := sp_q hltj (HJ.out (by omega)) hcj
                  have h2 : j + 1 - i - (if f then 1 else 0) = (j - i - (if f then 1 else 0)) + 1 := by split <;> omega
                  rw [h2, odd_succ]; exact h1
              clear hcj
              go_wp2
              go_round
              case rel => exact ⟨j + 1, by omega, by omega, by go_num, HN⟩
              case measure => simp [intOf]; omega
            · have u39 : ((s[j].toNat : Int) == 39) = false := byte_ne hcj
              have hne : i < j := by
                rcases Nat.lt_or_ge i j with h | h
                · exact h
                · obtain rfl : j = i := by omega
                  exact absurd HCi.out hcj
              have hcl : ∀ h : j < s.size, ¬ s[j] = 39 := fun _ => hcj
              clear hcj
              cases f with
              | true =>
                have e1 : j - i - (if true = true then 1 else 0) = j - i - 1 := by simp
                have HJ' := HJ.out hne
                rw [e1] at HJ'
                by_cases ho : (j - i - 1) % 2 = 1
                · rw [show odd (j - i - 1) = true from decide_eq_true ho] at HJ'
                  have HN : Hid (R = (true, j)) := sp_done HJ' hcl
                  have to : (((j : Int) - (i : Int) - 1) % 2 == 1) = true := by rw [beq_iff_eq]; omega
                  clear HJ' hcl hf H HJ HS
                  go_wp2
                  go_ret2
                  exact ⟨ret2' (by rw [HN.out]), rfl⟩
                · rw [show odd (j - i - 1) = false from decide_eq_false ho] at HJ'
                  have HN : Hid (false = false → strP (s.data.toList.drop j) false j = R) := fun _ => HJ'
                  have to : (((j : Int) - (i : Int) - 1) % 2 == 1) = false := by rw [beq_eq_false_iff_ne]; omega
                  clear HJ' hcl hf H HJ HS
                  go_wp2
                  go_round
                  case rel => exact ⟨j, false, by omega, rfl, rfl, (fun h => by cases h), HN⟩
                  case measure => simp [intOf]; omega
              | false =>
                have e1 : j - i - (if false = true then 1 else 0) = j - i := by simp
                have HJ' := HJ.out hne
                rw [e1] at HJ'
                by_cases ho : (j - i) % 2 = 1
                · rw [show odd (j - i) = true from decide_eq_true ho] at HJ'
                  have HN : Hid (R = (true, j)) := sp_done HJ' hcl
                  have to : (((j : Int) - (i : Int)) % 2 == 1) = true := by rw [beq_iff_eq]; omega
                  clear HJ' hcl hf H HJ HS
                  go_wp2
                  go_ret2
                  exact ⟨ret2' (by rw [HN.out]), rfl⟩
                · rw [show odd (j - i) = false from decide_eq_false ho] at HJ'
                  have HN : Hid (false = false → strP (s.data.toList.drop j) false j = R) := fun _ => HJ'
                  have to : (((j : Int) - (i : Int)) % 2 == 1) = false := by rw [beq_eq_false_iff_ne]; omega
                  clear HJ' hcl hf H HJ HS
                  go_wp2
                  go_round
                  case rel => exact ⟨j, false, by omega, rfl, rfl, (fun h => by cases h), HN⟩
                  case measure => simp [intOf]; omega
          · have hne : i < j := by omega
            have hcl : ∀ h : j < s.size, ¬ s[j] = 39 := fun h => absurd h hltj
            cases f with
            | true =>
              have e1 : j - i - (if true = true then 1 else 0) = j - i - 1 := by simp
              have HJ' := HJ.out hne
              rw [e1] at HJ'
              by_cases ho : (j - i - 1) % 2 = 1
              · rw [show odd (j - i - 1) = true from decide_eq_true ho] at HJ'
                have HN : Hid (R = (true, j)) := sp_done HJ' hcl
                have to : (((j : Int) - (i : Int) - 1) % 2 == 1) = true := by rw [beq_iff_eq]; omega
                clear HJ' hcl hf H HJ HS
                go_wp2
                go_ret2
                exact ⟨ret2' (by rw [HN.out]), rfl⟩
              · rw [show odd (j - i - 1) = false from decide_eq_false ho] at HJ'
                have HN : Hid (false = false → strP (s.data.toList.drop j) false j = R) := fun _ => HJ'
                have to : (((j : Int) - (i : Int) - 1) % 2 == 1) = false := by rw [beq_eq_false_iff_ne]; omega
                clear HJ' hcl hf H HJ HS
                go_wp2
                go_round
                case rel => exact ⟨j, false, by omega, rfl, rfl, (fun h => by cases h), HN⟩
                case measure => simp [intOf]; omega
            | false =>
              have e1 : j - i - (if false = true then 1 else 0) = j - i := by simp
              have HJ' := HJ.out hne
              rw [e1] at HJ'
              by_cases ho : (j - i) % 2 = 1
              · rw [show odd (j - i) = true from decide_eq_true ho] at HJ'
                have HN : Hid (R = (true, j)) := sp_done HJ' hcl
                have to : (((j : Int) - (i : Int)) % 2 == 1) = true := by rw [beq_iff_eq]; omega
                clear HJ' hcl hf H HJ HS
                go_wp2
                go_ret2
                exact ⟨ret2' (by rw [HN.out]), rfl⟩
              · rw [show odd (j - i) = false from decide_eq_false ho] at HJ'
                have HN : Hid (false = false → strP (s.data.toList.drop j) false j = R) := fun _ => HJ'
                have to : (((j : Int) - (i : Int)) % 2 == 1) = false := by rw [beq_eq_false_iff_ne]; omega
                clear HJ' hcl hf H HJ HS
                go_wp2
                go_round
                case rel => exact ⟨j, false, by omega, rfl, rfl, (fun h => by cases h), HN⟩
                case measure => simp [intOf]; omega
      · have t39 : ((s[i].toNat : Int) != 39) = true := byte_bne hc
        have hff : f = false := by
          cases f with
          | false => rfl
          | true => obtain rfl := hf rfl; exact absurd HQ.out hc
        subst hff
        have HN : Hid (false = false → strP (s.data.toList.drop (i + 1)) false (i + 1) = R) := fun _ => sp_ne hlt (H.out rfl) hc
        clear hc hf
        go_wp2
        go_round
        case rel => exact ⟨i + 1, false, by omega, by go_num, rfl, (fun h => by cases h), HN⟩
        case measure => simp [intOf]; omega
    · have hff : f = false := by
        cases f with
        | false => rfl
        | true => obtain rfl := hf rfl; exact absurd hp hlt
      subst hff
      have HN : Hid (R = (false, i)) := sp_end hlt (H.out rfl)
      have hie : (i : Int) = (s.size : Int) := by omega
      have HIE : Hid ((i : Int) = (s.size : Int)) := hie
      clear hf hie
      go_wp2
      go_ret2
      exact ⟨ret2' (by rw [HN.out, ← HIE.out]), rfl⟩
end Go.Proofs.Qxb6601015a.SK
