/-
  The words of ConfigType: String, MarshalText; ParseConfigType, and what it normalizes, of a word.
-/
import Derived.Test.YthelpljefckgkaaDoorEngZ
import Derived.Test.YthelpljefckgkaaDoorEngI
import Derived.Test.YthelpljefckgkaaDoorSpecS
import Derived.Lib.Strings
set_option linter.unusedVariables false
set_option linter.unusedSimpArgs false
namespace Go.Proofs.YthelpljefckgkaaDoor
open Go Go.RowKit Go.Proofs.Eng
set_option maxRecDepth 20000
set_option maxHeartbeats 4000000
def wds : List (ByteArray × ByteArray) := [(⟨#[66, 79, 79, 76, 69, 65, 78]⟩, ⟨#[98, 111, 111, 108, 101, 97, 110]⟩), (⟨#[83, 84, 82, 73, 78, 71]⟩, ⟨#[115, 116, 114, 105, 110, 103]⟩), (⟨#[73, 78, 84]⟩, ⟨#[105, 110, 116]⟩), (⟨#[83, 72, 79, 82, 84]⟩, ⟨#[115, 104, 111, 114, 116]⟩), (⟨#[76, 79, 78, 71]⟩, ⟨#[108, 111, 110, 103]⟩), (⟨#[68, 79, 85, 66, 76, 69]⟩, ⟨#[100, 111, 117, 98, 108, 101]⟩), (⟨#[76, 73, 83, 84]⟩, ⟨#[108, 105, 115, 116]⟩), (⟨#[67, 76, 65, 83, 83]⟩, ⟨#[99, 108, 97, 115, 115]⟩), (⟨#[80, 65, 83, 83, 87, 79, 82, 68]⟩, ⟨#[112, 97, 115, 115, 119, 111, 114, 100]⟩)]
def up (i : Nat) : ByteArray := match wds[i]? with | some p => p.1 | none => ⟨#[]⟩
def low (i : Nat) : ByteArray := match wds[i]? with | some p => p.2 | none => ⟨#[]⟩
theorem streq (s u : ByteArray) (b : Bool) (h : (s.data.toList == u.data.toList) = b) : (s.toList == u.toList) = b := by rw [Lib.toList_data, Lib.toList_data]; exact h
theorem c_String (w : World) (i : Nat) (hi : i < 9) : Calls Tryd.prog 11 #[.int .i8 ((i + 1 : Nat) : Int)] w fun e w' => e = .returned (.string (up i)) ∧ w' = w := by
  have h : i = 0 ∨ i = 1 ∨ i = 2 ∨ i = 3 ∨ i = 4 ∨ i = 5 ∨ i = 6 ∨ i = 7 ∨ i = 8 := by omega
  rcases h with rfl | rfl | rfl | rfl | rfl | rfl | rfl | rfl | rfl
  · refine calls_wk (args := [.int .i8 1]) Tryd.func11 rfl rfl ?_
    refine wk_seq ?_
    refine wk_reg (id := 0) ?_
    refine wk_assign rfl rfl ?_
    refine wk_nil ?_
    refine wk_seq ?_
    refine wk_reg (id := 1) ?_
    refine wk_move rfl rfl ?_
    refine wk_nil ?_
    refine wk_block ?_
    refine wk_seq ?_
    refine wk_reg (id := 3) ?_
    refine wk_cmp rfl rfl rfl rfl ?_
    refine wk_assign rfl rfl ?_
    refine wk_nil ?_
    refine wk_condT rfl ?_
    refine wk_seq ?_
    refine wk_reg (id := 4) ?_
    refine wk_assign rfl rfl ?_
    refine wk_nil ?_
    exact wk_ret (rb r0) rfl rfl ⟨rfl, rfl⟩
  · refine calls_wk (args := [.int .i8 2]) Tryd.func11 rfl rfl ?_
    refine wk_seq ?_
    refine wk_reg (id := 0) ?_
    refine wk_assign rfl rfl ?_
    refine wk_nil ?_
    refine wk_seq ?_
    refine wk_reg (id := 1) ?_
    refine wk_move rfl rfl ?_
    refine wk_nil ?_
    refine wk_block ?_
    refine wk_seq ?_
    refine wk_reg (id := 3) ?_
    refine wk_cmp rfl rfl rfl rfl ?_
    refine wk_assign rfl rfl ?_
    refine wk_nil ?_
    refine wk_condF rfl ?_
    refine wk_seq ?_
    refine wk_reg (id := 5) ?_
    refine wk_cmp rfl rfl rfl rfl ?_
    refine wk_assign rfl rfl ?_
    refine wk_nil ?_
    refine wk_condT rfl ?_
    refine wk_seq ?_
    refine wk_reg (id := 6) ?_
    refine wk_assign rfl rfl ?_
    refine wk_nil ?_
    exact wk_ret (rb r0) rfl rfl ⟨rfl, rfl⟩
  · refine calls_wk (args := [.int .i8 3]) Tryd.func11 rfl rfl ?_
    refine wk_seq ?_
    refine wk_reg (id := 0) ?_
    refine wk_assign rfl rfl ?_
    refine wk_nil ?_
    refine wk_seq ?_
    refine wk_reg (id := 1) ?_
    refine wk_move rfl rfl ?_
    refine wk_nil ?_
    refine wk_block ?_
    refine wk_seq ?_
    refine wk_reg (id := 3) ?_
    refine wk_cmp rfl rfl rfl rfl ?_
    refine wk_assign rfl rfl ?_
    refine wk_nil ?_
    refine wk_condF rfl ?_
    refine wk_seq ?_
    refine wk_reg (id := 5) ?_
    refine wk_cmp rfl rfl rfl rfl ?_
    refine wk_assign rfl rfl ?_
    refine wk_nil ?_
    refine wk_condF rfl ?_
    refine wk_seq ?_
    refine wk_reg (id := 7) ?_
    refine wk_cmp rfl rfl rfl rfl ?_
    refine wk_assign rfl rfl ?_
    refine wk_nil ?_
    refine wk_condT rfl ?_
    refine wk_seq ?_
    refine wk_reg (id := 8) ?_
    refine wk_assign rfl rfl ?_
    refine wk_nil ?_
    exact wk_ret (rb r0) rfl rfl ⟨rfl, rfl⟩
  · refine calls_wk (args := [.int .i8 4]) Tryd.func11 rfl rfl ?_
    refine wk_seq ?_
    refine wk_reg (id := 0) ?_
    refine wk_assign rfl rfl ?_
    refine wk_nil ?_
    refine wk_seq ?_
    refine wk_reg (id := 1) ?_
    refine wk_move rfl rfl ?_
    refine wk_nil ?_
    refine wk_block ?_
    refine wk_seq ?_
    refine wk_reg (id := 3) ?_
    refine wk_cmp rfl rfl rfl rfl ?_
    refine wk_assign rfl rfl ?_
    refine wk_nil ?_
    refine wk_condF rfl ?_
    refine wk_seq ?_
    refine wk_reg (id := 5) ?_
    refine wk_cmp rfl rfl rfl rfl ?_
    refine wk_assign rfl rfl ?_
    refine wk_nil ?_
    refine wk_condF rfl ?_
    refine wk_seq ?_
    refine wk_reg (id := 7) ?_
    refine wk_cmp rfl rfl rfl rfl ?_
    refine wk_assign rfl rfl ?_
    refine wk_nil ?_
    refine wk_condF rfl ?_
    refine wk_seq ?_
    refine wk_reg (id := 9) ?_
    refine wk_cmp rfl rfl rfl rfl ?_
    refine wk_assign rfl rfl ?_
    refine wk_nil ?_
    refine wk_condT rfl ?_
    refine wk_seq ?_
    refine wk_reg (id := 10) ?_
    refine wk_assign rfl rfl ?_
    refine wk_nil ?_
    exact wk_ret (rb r0) rfl rfl ⟨rfl, rfl⟩
  · refine calls_wk (args := [.int .i8 5]) Tryd.func11 rfl rfl ?_
    refine wk_seq ?_
    refine wk_reg (id := 0) ?_
    refine wk_assign rfl rfl ?_
    refine wk_nil ?_
    refine wk_seq ?_
    refine wk_reg (id := 1) ?_
    refine wk_move rfl rfl ?_
    refine wk_nil ?_
    refine wk_block ?_
    refine wk_seq ?_
    refine wk_reg (id := 3) ?_
    refine wk_cmp rfl rfl rfl rfl ?_
    refine wk_assign rfl rfl ?_
    refine wk_nil ?_
    refine wk_condF rfl ?_
    refine wk_seq ?_
    refine wk_reg (id := 5) ?_
    refine wk_cmp rfl rfl rfl rfl ?_
    refine wk_assign rfl rfl ?_
    refine wk_nil ?_
    refine wk_condF rfl ?_
    refine wk_seq ?_
    refine wk_reg (id := 7) ?_
    refine wk_cmp rfl rfl rfl rfl ?_
    refine wk_assign rfl rfl ?_
    refine wk_nil ?_
    refine wk_condF rfl ?_
    refine wk_seq ?_
    refine wk_reg (id := 9) ?_
    refine wk_cmp rfl rfl rfl rfl ?_
    refine wk_assign rfl rfl ?_
    refine wk_nil ?_
    refine wk_condF rfl ?_
    refine wk_seq ?_
    refine wk_reg (id := 11) ?_
    refine wk_cmp rfl rfl rfl rfl ?_
    refine wk_assign rfl rfl ?_
    refine wk_nil ?_
    refine wk_condT rfl ?_
    refine wk_seq ?_
    refine wk_reg (id := 12) ?_
    refine wk_assign rfl rfl ?_
    refine wk_nil ?_
    exact wk_ret (rb r0) rfl rfl ⟨rfl, rfl⟩
  · refine calls_wk (args := [.int .i8 6]) Tryd.func11 rfl rfl ?_
    refine wk_seq ?_
    refine wk_reg (id := 0) ?_
    refine wk_assign rfl rfl ?_
    refine wk_nil ?_
    refine wk_seq ?_
    refine wk_reg (id := 1) ?_
    refine wk_move rfl rfl ?_
    refine wk_nil ?_
    refine wk_block ?_
    refine wk_seq ?_
    refine wk_reg (id := 3) ?_
    refine wk_cmp rfl rfl rfl rfl ?_
    refine wk_assign rfl rfl ?_
    refine wk_nil ?_
    refine wk_condF rfl ?_
    refine wk_seq ?_
    refine wk_reg (id := 5) ?_
    refine wk_cmp rfl rfl rfl rfl ?_
    refine wk_assign rfl rfl ?_
    refine wk_nil ?_
    refine wk_condF rfl ?_
    refine wk_seq ?_
    refine wk_reg (id := 7) ?_
    refine wk_cmp rfl rfl rfl rfl ?_
    refine wk_assign rfl rfl ?_
    refine wk_nil ?_
    refine wk_condF rfl ?_
    refine wk_seq ?_
    refine wk_reg (id := 9) ?_
    refine wk_cmp rfl rfl rfl rfl ?_
    refine wk_assign rfl rfl ?_
    refine wk_nil ?_
    refine wk_condF rfl ?_
    refine wk_seq ?_
    refine wk_reg (id := 11) ?_
    refine wk_cmp rfl rfl rfl rfl ?_
    refine wk_assign rfl rfl ?_
    refine wk_nil ?_
    refine wk_condF rfl ?_
    refine wk_seq ?_
    refine wk_reg (id := 13) ?_
    refine wk_cmp rfl rfl rfl rfl ?_
    refine wk_assign rfl rfl ?_
    refine wk_nil ?_
    refine wk_condT rfl ?_
    refine wk_seq ?_
    refine wk_reg (id := 14) ?_
    refine wk_assign rfl rfl ?_
    refine wk_nil ?_
    exact wk_ret (rb r0) rfl rfl ⟨rfl, rfl⟩
  · refine calls_wk (args := [.int .i8 7]) Tryd.func11 rfl rfl ?_
    refine wk_seq ?_
    refine wk_reg (id := 0) ?_
    refine wk_assign rfl rfl ?_
    refine wk_nil ?_
    refine wk_seq ?_
    refine wk_reg (id := 1) ?_
    refine wk_move rfl rfl ?_
    refine wk_nil ?_
    refine wk_block ?_
    refine wk_seq ?_
    refine wk_reg (id := 3) ?_
    refine wk_cmp rfl rfl rfl rfl ?_
    refine wk_assign rfl rfl ?_
    refine wk_nil ?_
    refine wk_condF rfl ?_
    refine wk_seq ?_
    refine wk_reg (id := 5) ?_
    refine wk_cmp rfl rfl rfl rfl ?_
    refine wk_assign rfl rfl ?_
    refine wk_nil ?_
    refine wk_condF rfl ?_
    refine wk_seq ?_
    refine wk_reg (id := 7) ?_
    refine wk_cmp rfl rfl rfl rfl ?_
    refine wk_assign rfl rfl ?_
    refine wk_nil ?_
    refine wk_condF rfl ?_
    refine wk_seq ?_
    refine wk_reg (id := 9) ?_
    refine wk_cmp rfl rfl rfl rfl ?_
    refine wk_assign rfl rfl ?_
    refine wk_nil ?_
    refine wk_condF rfl ?_
    refine wk_seq ?_
    refine wk_reg (id := 11) ?_
    refine wk_cmp rfl rfl rfl rfl ?_
    refine wk_assign rfl rfl ?_
    refine wk_nil ?_
    refine wk_condF rfl ?_
    refine wk_seq ?_
    refine wk_reg (id := 13) ?_
    refine wk_cmp rfl rfl rfl rfl ?_
    refine wk_assign rfl rfl ?_
    refine wk_nil ?_
    refine wk_condF rfl ?_
    refine wk_seq ?_
    refine wk_reg (id := 15) ?_
    refine wk_cmp rfl rfl rfl rfl ?_
    refine wk_assign rfl rfl ?_
    refine wk_nil ?_
    refine wk_condT rfl ?_
    refine wk_seq ?_
    refine wk_reg (id := 16) ?_
    refine wk_assign rfl rfl ?_
    refine wk_nil ?_
    exact wk_ret (rb r0) rfl rfl ⟨rfl, rfl⟩
  · refine calls_wk (args := [.int .i8 8]) Tryd.func11 rfl rfl ?_
    refine wk_seq ?_
    refine wk_reg (id := 0) ?_
    refine wk_assign rfl rfl ?_
    refine wk_nil ?_
    refine wk_seq ?_
    refine wk_reg (id := 1) ?_
    refine wk_move rfl rfl ?_
    refine wk_nil ?_
    refine wk_block ?_
    refine wk_seq ?_
    refine wk_reg (id := 3) ?_
    refine wk_cmp rfl rfl rfl rfl ?_
    refine wk_assign rfl rfl ?_
    refine wk_nil ?_
    refine wk_condF rfl ?_
    refine wk_seq ?_
    refine wk_reg (id := 5) ?_
    refine wk_cmp rfl rfl rfl rfl ?_
    refine wk_assign rfl rfl ?_
    refine wk_nil ?_
    refine wk_condF rfl ?_
    refine wk_seq ?_
    refine wk_reg (id := 7) ?_
    refine wk_cmp rfl rfl rfl rfl ?_
    refine wk_assign rfl rfl ?_
    refine wk_nil ?_
    refine wk_condF rfl ?_
    refine wk_seq ?_
    refine wk_reg (id := 9) ?_
    refine wk_cmp rfl rfl rfl rfl ?_
    refine wk_assign rfl rfl ?_
    refine wk_nil ?_
    refine wk_condF rfl ?_
    refine wk_seq ?_
    refine wk_reg (id := 11) ?_
    refine wk_cmp rfl rfl rfl rfl ?_
    refine wk_assign rfl rfl ?_
    refine wk_nil ?_
    refine wk_condF rfl ?_
    refine wk_seq ?_
    refine wk_reg (id := 13) ?_
    refine wk_cmp rfl rfl rfl rfl ?_
    refine wk_assign rfl rfl ?_
    refine wk_nil ?_
    refine wk_condF rfl ?_
    refine wk_seq ?_
    refine wk_reg (id := 15) ?_
    refine wk_cmp rfl rfl rfl rfl ?_
    refine wk_assign rfl rfl ?_
    refine wk_nil ?_
    refine wk_condF rfl ?_
    refine wk_seq ?_
    refine wk_reg (id := 17) ?_
    refine wk_cmp rfl rfl rfl rfl ?_
    refine wk_assign rfl rfl ?_
    refine wk_nil ?_
    refine wk_condT rfl ?_
    refine wk_seq ?_
    refine wk_reg (id := 18) ?_
    refine wk_assign rfl rfl ?_
    refine wk_nil ?_
    exact wk_ret (rb r0) rfl rfl ⟨rfl, rfl⟩
  · refine calls_wk (args := [.int .i8 9]) Tryd.func11 rfl rfl ?_
    refine wk_seq ?_
    refine wk_reg (id := 0) ?_
    refine wk_assign rfl rfl ?_
    refine wk_nil ?_
    refine wk_seq ?_
    refine wk_reg (id := 1) ?_
    refine wk_move rfl rfl ?_
    refine wk_nil ?_
    refine wk_block ?_
    refine wk_seq ?_
    refine wk_reg (id := 3) ?_
    refine wk_cmp rfl rfl rfl rfl ?_
    refine wk_assign rfl rfl ?_
    refine wk_nil ?_
    refine wk_condF rfl ?_
    refine wk_seq ?_
    refine wk_reg (id := 5) ?_
    refine wk_cmp rfl rfl rfl rfl ?_
    refine wk_assign rfl rfl ?_
    refine wk_nil ?_
    refine wk_condF rfl ?_
    refine wk_seq ?_
    refine wk_reg (id := 7) ?_
    refine wk_cmp rfl rfl rfl rfl ?_
    refine wk_assign rfl rfl ?_
    refine wk_nil ?_
    refine wk_condF rfl ?_
    refine wk_seq ?_
    refine wk_reg (id := 9) ?_
    refine wk_cmp rfl rfl rfl rfl ?_
    refine wk_assign rfl rfl ?_
    refine wk_nil ?_
    refine wk_condF rfl ?_
    refine wk_seq ?_
    refine wk_reg (id := 11) ?_
    refine wk_cmp rfl rfl rfl rfl ?_
    refine wk_assign rfl rfl ?_
    refine wk_nil ?_
    refine wk_condF rfl ?_
    refine wk_seq ?_
    refine wk_reg (id := 13) ?_
    refine wk_cmp rfl rfl rfl rfl ?_
    refine wk_assign rfl rfl ?_
    refine wk_nil ?_
    refine wk_condF rfl ?_
    refine wk_seq ?_
    refine wk_reg (id := 15) ?_
    refine wk_cmp rfl rfl rfl rfl ?_
    refine wk_assign rfl rfl ?_
    refine wk_nil ?_
    refine wk_condF rfl ?_
    refine wk_seq ?_
    refine wk_reg (id := 17) ?_
    refine wk_cmp rfl rfl rfl rfl ?_
    refine wk_assign rfl rfl ?_
    refine wk_nil ?_
    refine wk_condF rfl ?_
    refine wk_seq ?_
    refine wk_reg (id := 19) ?_
    refine wk_cmp rfl rfl rfl rfl ?_
    refine wk_assign rfl rfl ?_
    refine wk_nil ?_
    refine wk_condT rfl ?_
    refine wk_seq ?_
    refine wk_reg (id := 20) ?_
    refine wk_assign rfl rfl ?_
    refine wk_nil ?_
    exact wk_ret (rb r0) rfl rfl ⟨rfl, rfl⟩
theorem own_nil (w : World) (base tB : Nat) : Own w base tB (.slice none 0 0) [] := World.ownsRow_nil _ _ _ _
theorem c_Index (w : World) (s : ByteArray) (c : UInt8) (hc : c ∉ s.data.toList) (hs : s.size ≤ 1000) : Calls Tryd.prog 19 #[.string s, .string ⟨#[c]⟩] w fun e w' => e = .returned (.int .i64 (-1)) ∧ w' = w := by
  have hss : s.data.toList.length = s.size := by rw [Array.length_toList]; rfl
  refine calls_wk (args := [.string s, .string ⟨#[c]⟩]) Tryd.func19 rfl rfl ?_
  refine wk_seq ?_
  refine wk_reg (id := 0) ?_
  refine wk_assign rfl rfl ?_
  refine wk_nil ?_
  refine wk_seq ?_
  refine wk_seq ?_
  refine wk_reg (id := 1) ?_
  refine wk_assign rfl rfl ?_
  refine wk_nil ?_
  refine wk_loop (fun i : Nat => [(0, .string s), (1, .string ⟨#[c]⟩), (5, .int .i64 (i : Int))]) (fun i w' => i ≤ s.size ∧ w' = w) (fun i => s.size - i) 0 rfl ⟨Nat.zero_le _, rfl⟩ ?_
  rintro i w1 ⟨hi, rfl⟩
  have hnx : IntKind.i64.wrap ((i : Int) + 1) = ((i + 1 : Nat) : Int) := i64w ((i : Int) + 1) (by omega) (by omega)
  by_cases hlt : i < s.size
  · have c1 : cmp .leq (IntKind.i64.wrap ((i : Int) + (((⟨#[c]⟩ : ByteArray).size : Nat) : Int))) (s.size : Int) = some true := by
      rw [show (((⟨#[c]⟩ : ByteArray).size : Nat) : Int) = 1 from rfl, hnx]
      simp [cmp]
      omega
    refine wk_seq ?_
    refine wk_seq ?_
    refine wk_reg (id := 2) ?_
    refine wk_move rfl rfl ?_
    refine wk_move rfl rfl ?_
    refine wk_strlen rfl Tryd.underlying9 rfl ?_
    refine wk_add rfl rfl rfl ?_
    refine wk_move rfl rfl ?_
    refine wk_strlen rfl Tryd.underlying9 rfl ?_
    refine wk_cmp rfl rfl (by with_reducible assumption) rfl ?_
    refine wk_nil ?_
    refine wk_condT rfl ?_
    refine wk_skip ?_
    refine wk_seq ?_
    refine wk_block ?_
    refine wk_seq ?_
    refine wk_reg (id := 4) ?_
    refine wk_move rfl rfl ?_
    refine wk_move rfl rfl ?_
    refine wk_move rfl rfl ?_
    refine wk_move rfl rfl ?_
    refine wk_strlen rfl Tryd.underlying9 rfl ?_
    refine wk_add rfl rfl rfl ?_
    refine wk_strcut (i := i) (j := i + 1) rfl Tryd.underlying9 rfl (congrArg (fun z => some (Value.int .i64 z)) hnx) (by omega) (by omega) rfl ?_
    refine wk_move rfl rfl ?_
    refine wk_streq (b := false) rfl rfl ?_ rfl ?_
    · rw [Lib.extract_toList, Lib.toList_data]
      have hi2 : i < s.data.toList.length := by omega
      rw [show i + 1 - i = 1 by omega, List.drop_eq_getElem_cons hi2]
      simp only [List.take_succ_cons, List.take_zero, beq_eq_false_iff_ne, ne_eq]
      intro h
      have h2 : s.data.toList[i] = c := by simpa using h
      exact hc (h2 ▸ List.getElem_mem hi2)
    refine wk_nil ?_
    refine wk_condF rfl ?_
    refine wk_skip ?_
    refine wk_blockEnd ?_
    refine wk_reg (id := 3) ?_
    refine wk_move rfl rfl ?_
    refine wk_add rfl rfl rfl ?_
    refine wk_assign rfl rfl ?_
    refine wk_nil ?_
    exact wk_loopNext (i + 1) (by omega) (congrArg (fun z => [some (Value.string s), some (Value.string ⟨#[c]⟩), some (Value.int .i64 z)]) hnx) ⟨by omega, rfl⟩
  · have c1 : cmp .leq (IntKind.i64.wrap ((i : Int) + (((⟨#[c]⟩ : ByteArray).size : Nat) : Int))) (s.size : Int) = some false := by
      rw [show (((⟨#[c]⟩ : ByteArray).size : Nat) : Int) = 1 from rfl, hnx]
      simp [cmp]
      omega
    refine wk_seq ?_
    refine wk_seq ?_
    refine wk_reg (id := 2) ?_
    refine wk_move rfl rfl ?_
    refine wk_move rfl rfl ?_
    refine wk_strlen rfl Tryd.underlying9 rfl ?_
    refine wk_add rfl rfl rfl ?_
    refine wk_move rfl rfl ?_
    refine wk_strlen rfl Tryd.underlying9 rfl ?_
    refine wk_cmp rfl rfl (by with_reducible assumption) rfl ?_
    refine wk_nil ?_
    refine wk_condF rfl ?_
    refine wk_loopExit ?_
    refine wk_seq ?_
    refine wk_reg (id := 6) ?_
    refine wk_assign rfl rfl ?_
    refine wk_nil ?_
    exact wk_ret r0 rfl rfl ⟨rfl, rfl⟩
theorem c_Replace (w : World) (s : ByteArray) (c : UInt8) (hc : c ∉ s.data.toList) (hs : s.size ≤ 1000) (h0 : 0 < s.size) : Calls Tryd.prog 16 #[.string s, .string ⟨#[c]⟩, .string ⟨#[]⟩] w fun e w' => e = .returned (.string s) ∧ Below w.heap.size w w' := by
  have hss : s.data.toList.length = s.size := by rw [Array.length_toList]; rfl
  have hlim := lim_eq
  refine calls_wk (args := [.string s, .string ⟨#[c]⟩, .string ⟨#[]⟩]) Tryd.func16 rfl rfl ?_
  refine wk_seq ?_
  refine wk_reg (id := 0) ?_
  refine wk_assign rfl rfl ?_
  refine wk_nil ?_
  refine wk_seq ?_
  refine wk_reg (id := 1) ?_
  refine wk_assign rfl rfl ?_
  refine wk_nil ?_
  refine wk_seq ?_
  refine wk_seq ?_
  refine wk_reg (id := 2) ?_
  refine wk_move rfl rfl ?_
  refine wk_strlen rfl Tryd.underlying9 rfl ?_
  refine wk_cmp rfl rfl rfl rfl ?_
  refine wk_nil ?_
  refine wk_condF rfl ?_
  refine wk_skip ?_
  refine wk_loop (fun _ : Unit => [(0, .string s), (1, .string ⟨#[c]⟩), (2, .string ⟨#[]⟩), (7, .slice none 0 0)]) (fun _ w' => w' = w) (fun _ => 0) () rfl rfl ?_
  rintro _ w1 rfl
  skip
  refine wk_block ?_
  refine wk_seq ?_
  refine wk_reg (id := 14) ?_
  refine wk_move rfl rfl ?_
  refine wk_move rfl rfl ?_
  refine wk_call Tryd.call19 (vs := [.string s, .string ⟨#[c]⟩]) rfl rfl ((c_Index w1 s c hc hs).mono ?_)
  rintro e w2 ⟨rfl, rfl⟩
  refine ⟨_, rfl, ?_⟩
  refine wk_assign rfl rfl ?_
  refine wk_nil ?_
  refine wk_seq ?_
  refine wk_seq ?_
  refine wk_reg (id := 15) ?_
  refine wk_move rfl rfl ?_
  refine wk_cmp rfl rfl rfl rfl ?_
  refine wk_nil ?_
  refine wk_condT rfl ?_
  refine wk_seq ?_
  refine wk_reg (id := 16) ?_
  refine wk_move rfl rfl ?_
  refine wk_move rfl rfl ?_
  refine wk_append rfl rfl (app_str byteT Tryd.underlying9 (own_nil w2 w2.heap.size 5) (Nat.le_refl _) (by simp only [List.length_nil]; omega)) rfl ?_
  intro d w3 ho hb
  skip
  refine wk_bstr (X := fun _ => False) (s := some s.data.toList) rfl Tryd.underlying27 Tryd.underlying5 Tryd.underlying9 ?_ rfl ?_
  · rcases (OwnC.of_own ho).bytes (Y := fun _ => False) (fun _ _ _ h => h) with ⟨_, h1⟩ | h1
    · have h2 := congrArg List.length h1
      simp only [List.nil_append, hss, List.length_nil] at h2
      omega
    · exact h1
  intro b hbd
  have e1 : b = s := by
    have h1 : b.data.toList = s.data.toList := hbd
    have h2 : b.data = s.data := Array.toList_inj.1 h1
    cases b; cases s; simp_all
  subst e1
  refine wk_assign rfl rfl ?_
  refine wk_nil ?_
  exact wk_ret (rb (rl r0)) rfl rfl ⟨rfl, hb⟩
end Go.Proofs.YthelpljefckgkaaDoor
