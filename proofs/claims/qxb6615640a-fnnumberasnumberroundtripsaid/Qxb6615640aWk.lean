import Derived.Test.Qxb6615640aProg
import Derived.WalkKit
import Derived.WalkSpells
import Derived.WalkLawsBesides
import Derived.Deep.QuietTactic
import Derived.BigQuiet
namespace Go.Proofs.Qxb6615640a
open Go.RowKit
set_option maxRecDepth 100000

/-- A store of a float: the law that the walk's set lacks. -/
theorem run_store_float {P : Program} {w : World} {a : Addr} {m : Mode} (k : FloatKind) (x : Nat) : (store a (.float k x) m).run P w = stored P w a (.float k x) m := run_store P w a _ m rfl
attribute [local go_sem] run_store_float

theorem read_zero : FloatKind.f64.format.read 0 = .number false 0 Ieee.double.leastPlace := rfl

theorem infRung_pos : ¬ Ieee.double.infRung < Ieee.double.binade := by decide
theorem infRung_lt : Ieee.double.infRung < Ieee.double.signWeight := by decide

theorem read_inf (s : Bool) : Ieee.double.read (Ieee.double.word s Ieee.double.infRung) = .infinity s := by
  cases s <;> decide

/-- A word that equals zero: 1 divided by it is an infinity, which equals itself. -/
theorem quo_zero (x : Nat) (h : (FloatKind.f64.format.order x 0 == some .eq) = true) :
    ∃ q, floatBits .quo .f64 4607182418800017408 x = some q ∧ (FloatKind.f64.format.order q q == some .eq) = true := by
  have h' := eq_of_beq h
  unfold Ieee.Format.order at h'
  rw [read_zero] at h'
  have h1 : FloatKind.f64.format.read 4607182418800017408 = .number false 4503599627370496 (-52) := by decide
  cases hr : FloatKind.f64.format.read x with
  | nan s f => rw [hr] at h'; simp [Ieee.Datum.order] at h'
  | infinity s => rw [hr] at h'; cases s <;> simp [Ieee.Datum.order] at h'
  | number s m i =>
    rw [hr] at h'
    simp only [Ieee.Datum.order, Option.some.injEq] at h'
    have hm : m = 0 := by
      have e := Std.LawfulEqCmp.eq_of_compare h'
      have z : Ieee.signed false 0 (Ieee.double.leastPlace - min i Ieee.double.leastPlace).toNat = 0 := by simp [Ieee.signed]
      rw [z] at e
      unfold Ieee.signed at e
      have h2 : (m <<< (i - min i Ieee.double.leastPlace).toNat : Nat) = 0 := by split at e <;> omega
      rw [Nat.shiftLeft_eq] at h2
      rcases Nat.mul_eq_zero.1 h2 with h3 | h3
      · exact h3
      · exact absurd h3 (Nat.ne_of_gt (Nat.two_pow_pos _))
    subst hm
    refine ⟨Ieee.double.word s Ieee.double.infRung, ?_, ?_⟩
    · simp [floatBits, Ieee.Format.div, hr, h1, Ieee.Datum.quotient, Ieee.Format.write]
      rfl
    · show ((Ieee.double.read _).order (Ieee.double.read _) == _) = true
      rw [read_inf]; cases s <;> rfl

set_option maxHeartbeats 400000 in
theorem number_any (x : Nat) (w : World) :
    Calls Try.prog 5 #[.float .f64 x] w fun e w' => e = .returned (.agg #[.float .f64 x, .iface 32 (.agg #[])]) ∧ w' = w.alloc (.cells #[.float .f64 x, .iface 32 (.agg #[])] 25) := by
  go_enter Try.func5, Try.ntmps5
  go_wp2
  exact bodyPost_ret (v := .agg #[.float .f64 x, .iface 32 (.agg #[])]) (by simp [results, Try.results5, go_sem]) rfl ⟨rfl, rfl⟩

set_option maxHeartbeats 400000 in
theorem string_any (s : ByteArray) (w : World) :
    Calls Try.prog 8 #[.string s] w fun e w' => e = .returned (.agg #[.float .f64 0, .iface 9 (.string s)]) ∧ w' = w.alloc (.cells #[.float .f64 0, .iface 9 (.string s)] 25) := by
  go_enter Try.func8, Try.ntmps8
  go_wp2
  exact bodyPost_ret (v := .agg #[.float .f64 0, .iface 9 (.string s)]) (by simp [results, Try.results8, go_sem]) rfl ⟨rfl, rfl⟩

theorem assert_yes (w : World) : (Instr.typeAssert (.iface 32 (.agg #[])) 20 32 true).run Try.prog w = .ok (.tuple #[.agg #[], .bool true]) w := by kernel_rfl
theorem assert_str (s : ByteArray) (w : World) : (Instr.typeAssert (.iface 9 (.string s)) 20 32 true).run Try.prog w = .ok (.tuple #[.agg #[], .bool false]) w := by kernel_rfl
theorem assert_nil (w : World) : (Instr.typeAssert .nilIface 20 32 true).run Try.prog w = .ok (.tuple #[.agg #[], .bool false]) w := by kernel_rfl

set_option maxHeartbeats 400000 in
theorem asNumber_yes (x : Nat) (w : World) :
    Calls Try.prog 6 #[.agg #[.float .f64 x, .iface 32 (.agg #[])]] w fun e w' => e = .returned (.tuple #[.float .f64 x, .bool true]) ∧ Below w.heap.size w w' := by
  have ha := assert_yes
  go_enter Try.func6, Try.ntmps6
  go_wp2
  go_ret2
  exact ⟨rfl, ((Below.refl _ _).alloc (Nat.le_refl _) _).alloc (by simp) _⟩

set_option maxHeartbeats 400000 in
theorem asNumber_str (s : ByteArray) (w : World) :
    Calls Try.prog 6 #[.agg #[.float .f64 0, .iface 9 (.string s)]] w fun e w' => e = .returned (.tuple #[.float .f64 0, .bool false]) ∧ Below w.heap.size w w' := by
  have ha := assert_str
  go_enter Try.func6, Try.ntmps6
  go_wp2
  go_ret2
  exact ⟨rfl, ((Below.refl _ _).alloc (Nat.le_refl _) _).alloc (by simp) _⟩

set_option maxHeartbeats 400000 in
theorem asNumber_nil (w : World) :
    Calls Try.prog 6 #[.agg #[.float .f64 0, .nilIface]] w fun e w' => e = .returned (.tuple #[.float .f64 0, .bool false]) ∧ Below w.heap.size w w' := by
  have ha := assert_nil
  go_enter Try.func6, Try.ntmps6
  go_wp2
  go_ret2
  exact ⟨rfl, ((Below.refl _ _).alloc (Nat.le_refl _) _).alloc (by simp) _⟩

set_option maxHeartbeats 400000 in
theorem roundTrip (x : Nat) (w : World) :
    Calls Try.prog 3 #[.float .f64 x] w fun e w' => e = .returned (.bool true) ∧ Below w.heap.size w w' := by
  have hfin : ∀ w1, Below (w.alloc (.cells #[.float .f64 x, .iface 32 (.agg #[])] 25)).heap.size (w.alloc (.cells #[.float .f64 x, .iface 32 (.agg #[])] 25)) w1 → Below w.heap.size w w1 := fun w1 h =>
    ((Below.refl _ w).alloc (Nat.le_refl _) _).trans (h.mono (by simp))
  cases ho : (FloatKind.f64.format.order x x == some .eq) with
  | false =>
    have ho2 : (FloatKind.f64.format.order x x != some .eq) = true := by rw [bne, ho]; rfl
    go_enter Try.func3, Try.ntmps3
    go_wp2_with fail
    refine (number_any x w).mono ?_
    rintro e w1 ⟨rfl, rfl⟩
    go_wp2_with fail
    refine (asNumber_yes x _).mono ?_
    rintro e w2 ⟨rfl, hb⟩
    go_wp2_with fail
    go_ret
    exact ⟨rfl, hfin _ hb⟩
  | true =>
    have ho2 : (FloatKind.f64.format.order x x != some .eq) = false := by rw [bne, ho]; rfl
    cases hz : (FloatKind.f64.format.order x 0 == some .eq) with
    | false =>
      go_enter Try.func3, Try.ntmps3
      go_wp2_with fail
      refine (number_any x w).mono ?_
      rintro e w1 ⟨rfl, rfl⟩
      go_wp2_with fail
      refine (asNumber_yes x _).mono ?_
      rintro e w2 ⟨rfl, hb⟩
      go_wp2_with fail
      go_ret
      exact ⟨rfl, hfin _ hb⟩
    | true =>
      obtain ⟨q, hq, hqq⟩ := quo_zero x hz
      have hdiv := fun w => run_float_arith (P := Try.prog) (w := w) .quo 22 .f64 4607182418800017408 x q hq
      clear hq
      go_enter Try.func3, Try.ntmps3
      go_wp2_with fail
      refine (number_any x w).mono ?_
      rintro e w1 ⟨rfl, rfl⟩
      go_wp2_with fail
      refine (asNumber_yes x _).mono ?_
      rintro e w2 ⟨rfl, hb⟩
      go_wp2_with fail
      go_ret
      exact ⟨rfl, hfin _ hb⟩

theorem zero_eq : (FloatKind.f64.format.order 0 0 == some .eq) = true := by decide

set_option maxHeartbeats 800000 in
theorem onlyNumbers (s : ByteArray) (x : Nat) (w : World) :
    Calls Try.prog 4 #[.string s, .float .f64 x] w fun e w' => e = .returned (.bool true) ∧ Below w.heap.size w w' := by
  have hz := zero_eq
  by_cases hk : s.size ≤ 1048576
  · go_enter Try.func4, Try.ntmps4
    go_wp2_with (first | (go_at_call 7; go_in))
    go_wp2_with fail
    refine (asNumber_nil _).mono ?_
    rintro e w1 ⟨rfl, hb1⟩
    have h1 : Below w.heap.size w w1 := ((Below.refl _ w).alloc (Nat.le_refl _) _).trans (hb1.mono (by simp))
    clear hb1
    go_wp2_with fail
    refine (string_any s _).mono ?_
    rintro e w2 ⟨rfl, rfl⟩
    go_wp2_with fail
    refine (asNumber_str s _).mono ?_
    rintro e w3 ⟨rfl, hb3⟩
    have h3 : Below w.heap.size w w3 := (h1.alloc h1.size _).trans (hb3.mono (by have := h1.size; simp; omega))
    clear hb3 h1
    go_wp2_with fail
    refine (number_any x _).mono ?_
    rintro e w4 ⟨rfl, rfl⟩
    go_wp2_with fail
    refine (asNumber_yes x _).mono ?_
    rintro e w5 ⟨rfl, hb5⟩
    have h5 : Below w.heap.size w w5 := (h3.alloc h3.size _).trans (hb5.mono (by have := h3.size; simp; omega))
    clear hb5 h3
    go_wp2_with fail
    go_ret
    exact ⟨rfl, h5⟩
  · go_enter Try.func4, Try.ntmps4
    go_wp2_with (first | (go_at_call 7; go_in))
    go_ret
    exact ⟨rfl, Below.refl _ _⟩

end Go.Proofs.Qxb6615640a
