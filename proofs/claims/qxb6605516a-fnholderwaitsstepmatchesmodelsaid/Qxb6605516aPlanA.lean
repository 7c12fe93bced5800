import Derived.Test.Qxb6605516aFc
namespace Go.Proofs.Qxb6605516a
open Go.RowKit

def SomeB (e : Ending) : Prop := ∃ b, e = .returned (.bool b)
theorem someB (b : Bool) : SomeB (.returned (.bool b)) := ⟨b, rfl⟩

set_option maxHeartbeats 1000000 in
theorem zzbytes9 (a0 : Option Addr) (n0 c0 : Nat) (a1 : Option Addr) (n1 c1 : Nat) (a2 : Option Addr) (n2 c2 : Nat) (l : ByteArray) (v : Int) (S1 S2 : Nat → ByteArray) (w : World) (h1 : SlA w a1 n1 1 (fun i => .string (S1 i))) (h2 : SlA w a2 n2 1 (fun i => .string (S2 i))) :
    Calls Try.prog 9 #[.slice a0 n0 c0, .slice a1 n1 c1, .slice a2 n2 c2, .string l, .int .u8 v] w fun e w' => SomeB e ∧ w' = w := by
  have H1 := hide h1
  have H2 := hide h2
  clear h1 h2
  go_enter Try.func9, Try.ntmps9
  go_wp2
  all_goals (try (go_ret; exact ⟨someB _, rfl⟩))
  go_loop [11, 12] (fun sz si => ∃ (z : Int) (i : Nat), sz = .int .i64 z ∧ si = .int .i64 i ∧ i ≤ n1) (fun _ si => n1 - (intOf si).toNat)
  case atStart => exact ⟨_, 0, rfl, rfl, by omega⟩
  case round =>
    obtain ⟨z, i, rfl, rfl, hi⟩ := hrel
    by_cases hlt : i < n1
    · rcases H1.out with h0 | ⟨b, off, rfl, hb, hc⟩
      · omega
      have c1 := hc i (by omega)
      have Hc := hide hc
      clear hc
      go_wp2
      all_goals (try (go_ret; exact ⟨someB _, rfl⟩))
      go_round
      case rel => exact ⟨_, i + 1, rfl, by go_num, by omega⟩
      case measure => simp [intOf]; omega
    · go_wp2
      all_goals (try (go_ret; exact ⟨someB _, rfl⟩))
      go_loop [11, 13] (fun sz si => ∃ (z : Int) (i : Nat), sz = .int .i64 z ∧ si = .int .i64 i ∧ i ≤ n2) (fun _ si => n2 - (intOf si).toNat)
      case atStart => exact ⟨_, 0, rfl, rfl, by omega⟩
      case round =>
        obtain ⟨z, i, rfl, rfl, hi⟩ := hrel
        by_cases hlt : i < n2
        · rcases H2.out with h0 | ⟨b, off, rfl, hb, hc⟩
          · omega
          have c1 := hc i (by omega)
          have Hc := hide hc
          clear hc
          go_wp2
          all_goals (try (go_ret; exact ⟨someB _, rfl⟩))
          go_round
          case rel => exact ⟨_, i + 1, rfl, by go_num, by omega⟩
          case measure => simp [intOf]; omega
        · go_wp2
          all_goals (go_ret; exact ⟨someB _, rfl⟩)

set_option maxHeartbeats 1000000 in
theorem zzbytes19 (a0 : Option Addr) (n0 c0 : Nat) (a1 : Option Addr) (n1 c1 : Nat) (a2 : Option Addr) (n2 c2 : Nat) (l : ByteArray) (v : Int) (S1 S2 : Nat → ByteArray) (w : World) (h1 : SlA w a1 n1 1 (fun i => .string (S1 i))) (h2 : SlA w a2 n2 1 (fun i => .string (S2 i))) :
    Calls Try.prog 19 #[.slice a0 n0 c0, .slice a1 n1 c1, .slice a2 n2 c2, .string l, .int .u8 v] w fun e w' => SomeB e ∧ w' = w := by
  have H1 := hide h1
  have H2 := hide h2
  clear h1 h2
  go_enter Try.func19, Try.ntmps19
  go_wp2
  all_goals (try (go_ret; exact ⟨someB _, rfl⟩))
  go_loop [11, 12] (fun sz si => ∃ (z : Int) (i : Nat), sz = .int .i64 z ∧ si = .int .i64 i ∧ i ≤ n1) (fun _ si => n1 - (intOf si).toNat)
  case atStart => exact ⟨_, 0, rfl, rfl, by omega⟩
  case round =>
    obtain ⟨z, i, rfl, rfl, hi⟩ := hrel
    by_cases hlt : i < n1
    · rcases H1.out with h0 | ⟨b, off, rfl, hb, hc⟩
      · omega
      have c1 := hc i (by omega)
      have Hc := hide hc
      clear hc
      go_wp2
      all_goals (try (go_ret; exact ⟨someB _, rfl⟩))
      go_round
      case rel => exact ⟨_, i + 1, rfl, by go_num, by omega⟩
      case measure => simp [intOf]; omega
    · go_wp2
      all_goals (try (go_ret; exact ⟨someB _, rfl⟩))
      go_loop [11, 13] (fun sz si => ∃ (z : Int) (i : Nat), sz = .int .i64 z ∧ si = .int .i64 i ∧ i ≤ n2) (fun _ si => n2 - (intOf si).toNat)
      case atStart => exact ⟨_, 0, rfl, rfl, by omega⟩
      case round =>
        obtain ⟨z, i, rfl, rfl, hi⟩ := hrel
        by_cases hlt : i < n2
        · rcases H2.out with h0 | ⟨b, off, rfl, hb, hc⟩
          · omega
          have c1 := hc i (by omega)
          have Hc := hide hc
          clear hc
          go_wp2
          all_goals (try (go_ret; exact ⟨someB _, rfl⟩))
          go_round
          case rel => exact ⟨_, i + 1, rfl, by go_num, by omega⟩
          case measure => simp [intOf]; omega
        · go_wp2
          all_goals (go_ret; exact ⟨someB _, rfl⟩)
end Go.Proofs.Qxb6605516a
