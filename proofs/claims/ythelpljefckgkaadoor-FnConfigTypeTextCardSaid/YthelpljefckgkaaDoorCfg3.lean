/-
  What the thin package makes of a value of ConfigType and of a word.
-/
import Derived.Test.YthelpljefckgkaaDoorCfg2
set_option linter.unusedVariables false
set_option linter.unusedSimpArgs false
namespace Go.Proofs.Eng
open Go Go.RowKit
section
variable {P : Program} {Q : Exit → Act → World → Prop} {nT : Nat} {σ : Sv} {k : List TD} {w : World} {all : Array Oper} {l : List Oper} {ty : TypeId} {ps : String} {af : Array Edge} {d : Nat} {x y z : Operand} {t t' : TypeId}
theorem wk_sbytes {s : ByteArray} {e : TypeId} (hx : evs σ x = some (.string s)) (ht : P.underlying t = some .string) (ht' : P.underlying t' = some (.slice e)) (he : P.underlying e = some (.int .u8)) (hd : Nat.blt d nT = true)
    (h : wk P Q nT ((d, .slice (some ⟨w.heap.size, 0, none⟩) s.size (grownCap w s.size 0 e)) :: σ) (.ops all l :: k) (Lib.bytesWorld w e s)) : wk P Q nT σ (.ops all (⟨some d, .convert t t' x, ty, ps, af, none⟩ :: l) :: k) w :=
  wk_val (fun a ha => by
    have h2 := Lib.run_convert_string_bytes (P := P) w t t' e s ht ht' he
    simp [execOp, ha.ev hx, h2]) hd h
end
end Go.Proofs.Eng
namespace Go.Proofs.YthelpljefckgkaaDoor
open Go Go.RowKit Go.Proofs.Eng
set_option maxRecDepth 20000
set_option maxHeartbeats 4000000
theorem c_Parse (w : World) (i : Nat) (hi : i < 9) (ht : Tab w) : Calls Tryd.prog 8 #[.string (up i)] w fun e w' => e = .returned (.tuple #[.int .i64 ((i + 1 : Nat) : Int), .bool true]) ∧ Below w.heap.size w w' := by
  have e1 : IntKind.i64.wrap ((i + 1 : Nat) : Int) = ((i + 1 : Nat) : Int) := i64w _ (by omega) (by omega)
  refine calls_wk (args := [.string (up i)]) Tryd.func8 rfl rfl ?_
  refine wk_seq ?_
  refine wk_reg (id := 0) ?_
  refine wk_assign rfl rfl ?_
  refine wk_assign rfl rfl ?_
  refine wk_nil ?_
  refine wk_seq ?_
  refine wk_reg (id := 1) ?_
  refine wk_move rfl rfl ?_
  refine wk_call Tryd.call12 (vs := [.string (up i)]) rfl rfl ((c_ParseK w i hi ht).mono ?_)
  rintro e w1 ⟨rfl, hb1⟩
  refine ⟨_, rfl, ?_⟩
  refine wk_move rfl rfl ?_
  refine wk_extract rfl rfl rfl ?_
  refine wk_extract rfl rfl rfl ?_
  refine wk_assign rfl rfl ?_
  refine wk_assign rfl rfl ?_
  refine wk_nil ?_
  refine wk_seq ?_
  refine wk_seq ?_
  refine wk_reg (id := 2) ?_
  refine wk_move rfl rfl ?_
  refine wk_nilne rfl Tryd.underlying38 rfl ?_
  refine wk_nil ?_
  refine wk_condF rfl ?_
  refine wk_skip ?_
  refine wk_seq ?_
  refine wk_reg (id := 4) ?_
  refine wk_move rfl rfl ?_
  refine wk_convV rfl Tryd.underlying40 Tryd.underlying3 (by with_reducible assumption) rfl ?_
  refine wk_assign rfl rfl ?_
  refine wk_assign rfl rfl ?_
  refine wk_nil ?_
  exact wk_ret2 r0 rfl rfl rfl ⟨rfl, hb1⟩
theorem c_Unm (w : World) (X : Nat → Prop) (b i : Nat) (old v : Value) (hi : i < 9) (ht : Tab w) (hblk : w.heap[b]? = some (.cells #[old] 40 (0, 0))) (hv : BytesRep w X v (up i).data.toList) :
    Calls Tryd.prog 13 #[.pointer (some ⟨b, 0, none⟩), v] w fun e w' => e = .returned .nilIface ∧ w'.heap[b]? = some (.cells #[.int .i8 ((i + 1 : Nat) : Int)] 40 (0, 0)) ∧ ∀ B, B ≤ b → B ≤ w.heap.size → Below B w w' := by
  refine calls_wk (args := [.pointer (some ⟨b, 0, none⟩), v]) Tryd.func13 rfl rfl ?_
  refine wk_seq ?_
  refine wk_reg (id := 0) ?_
  refine wk_assign rfl rfl ?_
  refine wk_nil ?_
  refine wk_seq ?_
  refine wk_reg (id := 1) ?_
  refine wk_move rfl rfl ?_
  refine wk_bstr (X := X) (s := some (up i).data.toList) rfl Tryd.underlying27 Tryd.underlying5 Tryd.underlying9 hv rfl ?_
  intro s hs
  have e1 : s = up i := by
    have h2 : s.data = (up i).data := Array.toList_inj.1 hs
    cases s
    generalize up i = u at h2 ⊢
    cases u
    simp_all
  subst e1
  skip
  refine wk_call Tryd.call12 (vs := [.string (up i)]) rfl rfl ((c_ParseK w i hi ht).mono ?_)
  rintro e w1 ⟨rfl, hb1⟩
  refine ⟨_, rfl, ?_⟩
  have hblk1 := (hb1.block _ (lt_of_some hblk)).trans hblk
  refine wk_move rfl rfl ?_
  refine wk_extract rfl rfl rfl ?_
  refine wk_extract rfl rfl rfl ?_
  refine wk_assign rfl rfl ?_
  refine wk_assign rfl rfl ?_
  refine wk_nil ?_
  refine wk_seq ?_
  refine wk_reg (id := 2) ?_
  refine wk_move rfl rfl ?_
  refine wk_move rfl rfl ?_
  refine wk_nilCheck rfl rfl ?_
  refine wk_store1 (i := Tryd.t40) (v := .int .i8 ((i + 1 : Nat) : Int)) rfl rfl hblk1 (by kernel_rfl) rfl rfl rfl (by simp) ?_
  refine wk_nil ?_
  refine wk_seq ?_
  refine wk_reg (id := 3) ?_
  refine wk_move rfl rfl ?_
  refine wk_assign rfl rfl ?_
  refine wk_nil ?_
  refine wk_ret r0 rfl rfl ⟨rfl, ?_, fun B h1 h2 => (hb1.mono h2).trans ⟨rfl, rfl, rfl, by simp [World.setRow], fun k hk => setRow_other w1 b k _ (by omega)⟩⟩
  exact setRow_heap _ _ _ _ _ _ hblk1
theorem c_OfText (w : World) (X : Nat → Prop) (i : Nat) (v : Value) (hi : i < 9) (ht : Tab w) (hv : BytesRep0 w X v (up i).data.toList) :
    Calls Tryd.prog 9 #[v] w fun e w' => e = .returned (.tuple #[.int .i64 ((i + 1 : Nat) : Int), .bool true]) ∧ Below w.heap.size w w' := by
  obtain ⟨h1, h2, _⟩ := up_facts i hi
  have hss : (up i).data.toList.length = (up i).size := by rw [Array.length_toList]; rfl
  have e1 : IntKind.i64.wrap ((i + 1 : Nat) : Int) = ((i + 1 : Nat) : Int) := i64w _ (by omega) (by omega)
  have hA := heap_alloc_new w (.cells #[.int .i8 0] 40)
  have hbA := below1 w (.cells #[.int .i8 0] 40)
  refine calls_wk (args := [v]) Tryd.func9 rfl rfl ?_
  refine wk_seq ?_
  refine wk_reg (id := 0) ?_
  refine wk_assign rfl rfl ?_
  refine wk_assign rfl rfl ?_
  refine wk_nil ?_
  refine wk_seq ?_
  refine wk_reg (id := 1) ?_
  refine wk_alloc (t := 40) (i := Tryd.t40) (by kernel_rfl) rfl rfl ?_
  refine wk_nil ?_
  refine wk_seq ?_
  refine wk_reg (id := 2) ?_
  refine wk_move rfl rfl ?_
  first
    | refine wk_alloc (i := Tryd.t40) (z := .int .i8 0) (by kernel_rfl) rfl rfl ?_
    | skip
  skip
  refine wk_append rfl rfl (app_rep byteT (hv.keep (keeps_below hbA (Nat.le_refl _))) (own_nil (w.alloc (.cells #[.int .i8 0] 40)) (w.alloc (.cells #[.int .i8 0] 40)).heap.size 5) (Nat.le_refl _) (by rw [hss, lim_eq]; simp only [List.length_nil]; omega)) rfl ?_
  intro d1 w1 ho1 hb1
  have hA1 := (hb1.block _ (lt_of_some hA)).trans hA
  have hb01 := hbA.trans (hb1.mono hbA.size)
  have hr : BytesRep w1 (fun _ => False) d1 (up i).data.toList := by
    rcases (OwnC.of_own ho1).bytes (Y := fun _ => False) (fun _ _ _ h => h) with ⟨_, h3⟩ | h3
    · have h4 := congrArg List.length h3
      simp only [List.nil_append, hss, List.length_nil] at h4
      omega
    · exact h3
  skip
  refine wk_call Tryd.call13 (vs := [.pointer (some ⟨w.heap.size, 0, none⟩), d1]) rfl rfl ((c_Unm w1 (fun _ => False) w.heap.size i _ d1 hi (ht.below hb01) hA1 hr).mono ?_)
  rintro e w2 ⟨rfl, hA2, hb2⟩
  refine ⟨_, rfl, ?_⟩
  have hb02 := hb01.trans (hb2 w.heap.size (Nat.le_refl _) hb01.size)
  refine wk_assign rfl rfl ?_
  refine wk_nil ?_
  refine wk_seq ?_
  refine wk_seq ?_
  refine wk_reg (id := 3) ?_
  refine wk_move rfl rfl ?_
  refine wk_nilne rfl Tryd.underlying38 rfl ?_
  refine wk_nil ?_
  refine wk_condF rfl ?_
  refine wk_skip ?_
  refine wk_seq ?_
  refine wk_reg (id := 5) ?_
  refine wk_load rfl Tryd.underlying40 rfl (by exact cell_blk (by with_reducible assumption) rfl) rfl ?_
  refine wk_convV rfl Tryd.underlying40 Tryd.underlying3 (by with_reducible assumption) rfl ?_
  refine wk_assign rfl rfl ?_
  refine wk_assign rfl rfl ?_
  refine wk_nil ?_
  first
    | refine wk_load (v := .int .i8 ((i + 1 : Nat) : Int)) rfl Tryd.underlying40 rfl (cell_blk hA2 rfl) rfl ?_
    | skip
  skip
  exact wk_ret2 r0 rfl rfl rfl ⟨rfl, hb02⟩
theorem c_Marshal (w : World) (i : Nat) (hi : i < 9) : Calls Tryd.prog 10 #[.int .i8 ((i + 1 : Nat) : Int)] w fun e w' => ∃ d, e = .returned (.tuple #[d, .nilIface]) ∧ BytesRep w' (fun _ => False) d (up i).data.toList ∧ Below w.heap.size w w' := by
  have hss : (up i).data.toList.length = (up i).size := by rw [Array.length_toList]; rfl
  refine calls_wk (args := [.int .i8 ((i + 1 : Nat) : Int)]) Tryd.func10 rfl rfl ?_
  refine wk_seq ?_
  refine wk_reg (id := 0) ?_
  refine wk_assign rfl rfl ?_
  refine wk_assign rfl rfl ?_
  refine wk_nil ?_
  refine wk_seq ?_
  refine wk_reg (id := 1) ?_
  refine wk_move rfl rfl ?_
  refine wk_call Tryd.call11 (vs := [.int .i8 ((i + 1 : Nat) : Int)]) rfl rfl ((c_String w i hi).mono ?_)
  rintro e w1 ⟨rfl, rfl⟩
  refine ⟨_, rfl, ?_⟩
  skip
  refine wk_sbytes rfl Tryd.underlying9 Tryd.underlying27 Tryd.underlying5 rfl ?_
  refine wk_assign rfl rfl ?_
  refine wk_assign rfl rfl ?_
  refine wk_nil ?_
  refine wk_ret2 r0 rfl rfl rfl ⟨_, rfl, ⟨w1.heap.size, 0, _, _, rfl, id, ?_, hss, ?_, fun j x hj => ?_⟩, bytesWorld_below _ _ _⟩
  · rw [Lib.bytesWorld_size]; omega
  · exact grownCap_ge _ _ _ _
  · have hj2 : j < (up i).data.toList.length := (List.getElem?_eq_some_iff.1 hj).1
    rw [Nat.zero_add, Lib.bytesWorld_cell _ _ _ _ (by omega)]
    rw [List.getD_eq_getElem?_getD, hj]
    rfl
end Go.Proofs.YthelpljefckgkaaDoor
