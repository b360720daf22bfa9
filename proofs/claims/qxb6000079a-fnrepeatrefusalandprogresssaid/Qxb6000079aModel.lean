import Derived.Test.Qxb6000079aModelPlain
import Derived.Test.Qxb6000079aReads
namespace Go.Proofs.Qxb6000079a
open Go.RowKit
set_option linter.unusedVariables false

def zl (p : ByteArray) : Bool := decide (1 < p.size) && bt p 0 == 48
theorem zl_extract (s : ByteArray) (a b : Nat) (hb : b ≤ s.size) : zl (s.extract a b) = lead s a b := by
  unfold zl lead
  have hsz : (s.extract a b).size = b - a := by rw [ByteArray.size_extract]; omega
  by_cases h : 1 < b - a
  · have h0 : 0 < (s.extract a b).size := by omega
    rw [bt_eq _ _ h0, ByteArray.getElem_extract h0, bt_eq s a (by omega), decide_eq_true (by omega), decide_eq_true (by omega)]
    rfl
  · rw [decide_eq_false (by omega), decide_eq_false (by omega)]
    rfl

theorem zero16 (p : ByteArray) (w : World) : Calls Try.prog 16 #[.string p] w fun e w' => e = .returned (.bool (zl p)) ∧ w = w' := by
  by_cases h : 1 < p.size
  · go_enter Try.func16, Try.ntmps16
    go_wp2
    go_ret
    exact ⟨by unfold zl; rw [bt_eq p 0 (by omega), decide_eq_true h]; simp, rfl⟩
  · have hd : decide (1 < p.size) = false := decide_eq_false h
    go_enter Try.func16, Try.ntmps16
    go_wp2
    go_ret
    exact ⟨by unfold zl; rw [hd]; simp, rfl⟩

/-- The ending is the count's answer. (A name of its own: the walk's simp would take the 'there is a Bool' apart.) -/
def Answers (s : ByteArray) (e : Ending) : Prop := ∃ n lz, e = .returned (.tuple #[.int .i64 n, .bool lz]) ∧ CountIs s n lz
theorem answers_mk {s : ByteArray} {n : Int} {lz : Bool} (h : CountIs s n lz) : Answers s (.returned (.tuple #[.int .i64 n, .bool lz])) := ⟨n, lz, rfl, h⟩

set_option maxHeartbeats 400000 in
theorem model9 (s : ByteArray) (w : World) (hs : s.size ≤ 1048576) :
    Calls Try.prog 9 #[.string s] w fun e w' => Answers s e ∧ w = w' := by
  go_enter Try.func9, Try.ntmps9
  go_wp2
  go_loop [4, 5, 6] (fun k c f => ∃ (k' c' : Nat) (f' : Int), k = .int .i64 k' ∧ c = .int .i64 c' ∧ f = .int .i64 f' ∧ LoopInv s k' c' f' ∧ (k' ≤ s.size ∨ k' = 1)) (fun k _ _ => s.size - (intOf k).toNat)
  case atStart => exact ⟨1, 0, -1, rfl, rfl, rfl, inv_start s, by omega⟩
  case round =>
    obtain ⟨k, c, f, rfl, rfl, rfl, hI, hk⟩ := hrel
    obtain ⟨i1, i2, i3, i4⟩ := hI.low
    by_cases hlt : k < s.size
    · by_cases hd : dig (bt s k) = true
      · have hd' := (dig_iff _).1 hd
        rw [bt_eq s k hlt] at hd'
        obtain ⟨d1, d2⟩ := hd'
        go_wp2
        go_round
        case rel => exact ⟨k + 1, c, f, by go_num, rfl, rfl, inv_digit hI hd, by omega⟩
        case measure => simp [intOf]; omega
      · by_cases hc : bt s k = 44
        · have hc' : ((s[k].toNat : Int) == 44) = true := by rw [← bt_eq, hc]; rfl
          have hc1 : ¬ 48 ≤ (s[k].toNat : Int) := by rw [← bt_eq, hc]; omega
          by_cases hf : f < 0
          · have I' := inv_first hI hc hf
            go_wp2
            go_round
            case rel => exact ⟨k + 1, c + 1, k, by go_num, by go_num, rfl, I', by omega⟩
            case measure => simp [intOf]; omega
          · have I' := inv_more hI hc hf
            go_wp2
            go_round
            case rel => exact ⟨k + 1, c + 1, f, by go_num, by go_num, rfl, I', by omega⟩
            case measure => simp [intOf]; omega
        · have hd' : dig (bt s k) = false := by simpa using hd
          have hd1 : ¬ (48 ≤ (s[k].toNat : Int) ∧ (s[k].toNat : Int) ≤ 57) := by rw [← bt_eq]; exact (dig_no _).1 hd'
          have hc' : ((s[k].toNat : Int) == 44) = false := by rw [← bt_eq]; simpa using hc
          have hks : ((s.size : Int) ≤ k) = False := by simp; omega
          have HD : Hid (dig (bt s k) = false) := hd'
          have HC : Hid (bt s k ≠ 44) := hc
          clear hd hd' hc
          by_cases hb : bt s k = 125
          · have hb' : ((s[k].toNat : Int) != 125) = false := by rw [← bt_eq, hb]; rfl
            have h48 : 57 < (s[k].toNat : Int) := by rw [← bt_eq, hb]; omega
            have HB : Hid (bt s k = 125) := hb
            have z1 : (1 : Int) ≤ (k : Int) := by omega
            have z2 : (k : Int) ≤ (s.size : Int) := by omega
            clear hb hd1
            by_cases hcm : 1 < c
            · go_wp2
              go_ret2
              exact ⟨answers_mk (model_two hI hcm), rfl⟩
            · by_cases hf : f < 0
              · by_cases hk1 : k ≤ 1
                · go_wp2
                  go_ret2
                  exact ⟨answers_mk (model_empty (by rw [show (1 : Nat) = k from by omega]; exact HD.out)), rfl⟩
                · go_wp2_with (go_at_call 16; refine (zero16 _ _).mono ?_; rintro e w' ⟨rfl, rfl⟩)
                  go_ret2
                  have hA := answers_mk (model_plain hI hf (by omega) HB.out)
                  rw [← zl_extract s 1 k (by omega)] at hA
                  exact ⟨hA, rfl⟩
              · obtain ⟨g, rfl, g1, g2, g3⟩ := hI.comma hf
                have G3 : Hid (bt s g = 44) := g3
                have z3 : (1 : Int) ≤ (g : Int) := by omega
                have z4 : (g : Int) ≤ (s.size : Int) := by omega
                have z5 : (0 : Int) ≤ (g : Int) + 1 := by omega
                have z6 : (g : Int) + 1 ≤ (k : Int) := by omega
                clear g3
                by_cases hg1 : g ≤ 1
                · go_wp2
                  go_ret2
                  exact ⟨answers_mk (model_empty (by rw [show (1 : Nat) = g from by omega, G3.out]; rfl)), rfl⟩
                · go_wp2_with (go_at_call 16; refine (zero16 _ _).mono ?_; rintro e w' ⟨rfl, rfl⟩)
                  · go_ret2
                    have hA := answers_mk (model_comma hI hcm (by omega) HB.out)
                    rw [← zl_extract s 1 g (by omega), ← zl_extract s (g + 1) k (by omega), ‹zl (s.extract (g + 1) k) = true›, Bool.or_true] at hA
                    exact ⟨hA, rfl⟩
                  · go_ret2
                    have hA := answers_mk (model_comma hI hcm (by omega) HB.out)
                    rw [← zl_extract s 1 g (by omega), ← zl_extract s (g + 1) k (by omega), ‹zl (s.extract (g + 1) k) = false›, Bool.or_false] at hA
                    exact ⟨hA, rfl⟩
          · have hb' : ((s[k].toNat : Int) != 125) = true := by rw [← bt_eq]; simpa using hb
            by_cases h48 : 48 ≤ (s[k].toNat : Int)
            · go_wp2
              go_ret2
              exact ⟨answers_mk (model_bad hI HD.out HC.out hb), rfl⟩
            · go_wp2
              go_ret2
              exact ⟨answers_mk (model_bad hI HD.out HC.out hb), rfl⟩
    · go_wp2
      go_ret2
      have hz := bt_past s k (by omega)
      exact ⟨answers_mk (model_bad hI (by rw [hz]; rfl) (by omega) (by omega)), rfl⟩

theorem model9_of (s : ByteArray) (n : Int) (lz : Bool) (hc : CountIs s n lz) (w : World) (hs : s.size ≤ 1048576) :
    Calls Try.prog 9 #[.string s] w fun e w' => e = .returned (.tuple #[.int .i64 n, .bool lz]) ∧ w = w' :=
  (model9 s w hs).mono fun _ _ ⟨⟨m, l, h1, h2⟩, h3⟩ => by
    obtain ⟨rfl, rfl⟩ := count_unique hc h2
    exact ⟨h1, h3⟩
end Go.Proofs.Qxb6000079a
