/-
  strnorm and ParseConfigType of a word.
-/
import Derived.Test.YthelpljefckgkaaDoorCfg1
import Derived.Test.YthelpljefckgkaaDoorCLay
import Derived.Lib.ConvBytes
set_option linter.unusedVariables false
set_option linter.unusedSimpArgs false
namespace Go.Proofs.Eng
open Go Go.RowKit
section
variable {P : Program} {Q : Exit → Act → World → Prop} {nT : Nat} {σ : Sv} {k : List TD} {w : World} {all : Array Oper} {l : List Oper} {ty : TypeId} {ps : String} {af : Array Edge} {d : Nat} {x y z : Operand} {t t' : TypeId} {ρ : Operand → Value} {o : Oper}
theorem run_nileq {ms : Array (String × TypeId)} (ho : o.op = .binOp .eql t x (.const .nilIface) t') (ht : P.underlying t = some (.interface ms)) (hx : ρ x = .nilIface) (hc : ρ (.const .nilIface) = .nilIface) : (execOp ρ o).run P w = .ok (.value (.bool true)) w := by
  have e2 : ∀ d, (Op.equalIn (d + 1) t .nilIface .nilIface).run P w = .ok true w := by
    intro d
    simp [Op.equalIn, run_underlying ht]
  simp [execOp, ho, hx, hc, eqGuard, binOp, Op.equal, Op.maxDepth, e2 9999]
theorem run_nilne {ms : Array (String × TypeId)} (ho : o.op = .binOp .neq t x (.const .nilIface) t') (ht : P.underlying t = some (.interface ms)) (hx : ρ x = .nilIface) (hc : ρ (.const .nilIface) = .nilIface) : (execOp ρ o).run P w = .ok (.value (.bool false)) w := by
  have e2 : ∀ d, (Op.equalIn (d + 1) t .nilIface .nilIface).run P w = .ok true w := by
    intro d
    simp [Op.equalIn, run_underlying ht]
  simp [execOp, ho, hx, hc, eqGuard, binOp, Op.equal, Op.maxDepth, e2 9999]
theorem wk_nilne {ms : Array (String × TypeId)} (hx : evs σ x = some .nilIface) (ht : P.underlying t = some (.interface ms)) (hd : Nat.blt d nT = true)
    (h : wk P Q nT ((d, .bool false) :: σ) (.ops all l :: k) w) : wk P Q nT σ (.ops all (⟨some d, .binOp .neq t x (.const .nilIface) t', ty, ps, af, none⟩ :: l) :: k) w :=
  wk_val (fun a ha => run_nilne rfl ht (ha.ev hx) (ha.ev rfl)) hd h
end
theorem var_below {P : Program} {B g : Nat} {W W' : World} {n : String} {cs : Array Value} (h : Below B W W') (hg : P.globalNamed n = some g) (hgB : g < B) (hv : W.var? P n = some cs) : W'.var? P n = some cs := by
  simp only [World.var?, hg, Option.bind_some] at hv ⊢
  rw [h.block g hgB]
  exact hv
end Go.Proofs.Eng
namespace Go.Proofs.YthelpljefckgkaaDoor
open Go Go.RowKit Go.Proofs.Eng
set_option maxRecDepth 20000
set_option maxHeartbeats 4000000
theorem up_facts (i : Nat) (hi : i < 9) : (up i).size ≤ 8 ∧ 0 < (up i).size ∧ (∀ b ∈ (up i).data.toList, b.toNat < 128 ∧ b ≠ 46 ∧ b ≠ 95 ∧ b ≠ 45) ∧ Lib.trimSpace (up i).data.toList = (up i).data.toList ∧ Lib.toLowerA (up i).data.toList = (low i).data.toList := by
  have h : i = 0 ∨ i = 1 ∨ i = 2 ∨ i = 3 ∨ i = 4 ∨ i = 5 ∨ i = 6 ∨ i = 7 ∨ i = 8 := by omega
  rcases h with rfl | rfl | rfl | rfl | rfl | rfl | rfl | rfl | rfl <;> decide +kernel
theorem ba_mk (s : ByteArray) (l : List UInt8) (h : l = s.data.toList) : (⟨l.toArray⟩ : ByteArray) = s := by
  subst h
  cases s
  simp
def Tab (w : World) : Prop := Lib.TabIs Tryd.prog w "strings.asciiSpace" .u8 Lib.asciiSpaceTab
theorem Tab.lt {w : World} (h : Tab w) : ∃ g, Tryd.prog.globalNamed "strings.asciiSpace" = some g ∧ g < w.heap.size := by
  unfold Tab Lib.TabIs World.var? at h
  rw [Option.bind_eq_some_iff] at h
  obtain ⟨g, hg, h2⟩ := h
  refine ⟨g, hg, ?_⟩
  split at h2
  · rename_i hh
    exact lt_of_some hh
  · cases h2
theorem Tab.below {w w' : World} (h : Tab w) (hb : Below w.heap.size w w') : Tab w' := by
  obtain ⟨g, hg, hl⟩ := h.lt
  exact var_below hb hg hl h
theorem bytesWorld_below (w : World) (e : TypeId) (s : ByteArray) : Below w.heap.size w (Lib.bytesWorld w e s) := by
  refine ⟨rfl, rfl, rfl, ?_, fun k hk => ?_⟩
  · have := Lib.bytesWorld_size w e s
    omega
  · exact Lib.bytesWorld_at_old w e s k hk
theorem c_norm (w : World) (i : Nat) (hi : i < 9) (ht : Tab w) : Calls Tryd.prog 14 #[.string (up i)] w fun e w' => e = .returned (.string (low i)) ∧ Below w.heap.size w w' := by
  obtain ⟨h1, h2, h3, h4, h5⟩ := up_facts i hi
  refine calls_wk (args := [.string (up i)]) Tryd.func14 rfl rfl ?_
  refine wk_seq ?_
  refine wk_reg (id := 0) ?_
  refine wk_assign rfl rfl ?_
  refine wk_nil ?_
  refine wk_seq ?_
  refine wk_reg (id := 1) ?_
  refine wk_move rfl rfl ?_
  refine wk_call Tryd.call16 (vs := [.string (up i), .string ⟨#[46]⟩, .string ⟨#[]⟩]) rfl rfl ((c_Replace w (up i) 46 (fun h => (h3 _ h).2.1 rfl) (by omega) h2).mono ?_)
  rintro e w1 ⟨rfl, hb1⟩
  refine ⟨_, rfl, ?_⟩
  refine wk_assign rfl rfl ?_
  refine wk_nil ?_
  refine wk_seq ?_
  refine wk_reg (id := 2) ?_
  refine wk_move rfl rfl ?_
  refine wk_call Tryd.call16 (vs := [.string (up i), .string ⟨#[95]⟩, .string ⟨#[]⟩]) rfl rfl ((c_Replace w1 (up i) 95 (fun h => (h3 _ h).2.2.1 rfl) (by omega) h2).mono ?_)
  rintro e w2 ⟨rfl, hb2⟩
  refine ⟨_, rfl, ?_⟩
  have hb02 := hb1.trans (hb2.mono hb1.size)
  refine wk_assign rfl rfl ?_
  refine wk_nil ?_
  refine wk_seq ?_
  refine wk_reg (id := 3) ?_
  refine wk_move rfl rfl ?_
  refine wk_call Tryd.call16 (vs := [.string (up i), .string ⟨#[45]⟩, .string ⟨#[]⟩]) rfl rfl ((c_Replace w2 (up i) 45 (fun h => (h3 _ h).2.2.2 rfl) (by omega) h2).mono ?_)
  rintro e w3 ⟨rfl, hb3⟩
  refine ⟨_, rfl, ?_⟩
  have hb03 := hb02.trans (hb3.mono hb02.size)
  refine wk_assign rfl rfl ?_
  refine wk_nil ?_
  refine wk_seq ?_
  refine wk_reg (id := 4) ?_
  refine wk_move rfl rfl ?_
  refine wk_call Tryd.call17 (vs := [.string (up i)]) rfl rfl ((strings_TrimSpace (up i) w3 (by omega) (fun j b hj => (h3 b (List.mem_of_getElem? hj)).1) (ht.below hb03)).mono ?_)
  rintro e w4 ⟨rfl, rfl⟩
  rw [ba_mk (up i) _ h4]
  refine ⟨_, rfl, ?_⟩
  have hb04 := hb03.trans ((bytesWorld_below w3 5 (up i)).mono hb03.size)
  refine wk_assign rfl rfl ?_
  refine wk_nil ?_
  refine wk_seq ?_
  refine wk_reg (id := 5) ?_
  refine wk_move rfl rfl ?_
  refine wk_call Tryd.call18 (vs := [.string (up i)]) rfl rfl ((strings_ToLower_ascii (up i) _ (by omega) (fun j b hj => (h3 b (List.mem_of_getElem? hj)).1)).mono ?_)
  rintro e w5 ⟨rfl, hb5⟩
  rw [ba_mk (low i) _ h5]
  refine ⟨_, rfl, ?_⟩
  refine wk_assign rfl rfl ?_
  refine wk_nil ?_
  refine wk_seq ?_
  refine wk_reg (id := 6) ?_
  refine wk_move rfl rfl ?_
  refine wk_assign rfl rfl ?_
  refine wk_nil ?_
  exact wk_ret r0 rfl rfl ⟨rfl, hb04.trans (hb5.mono hb04.size)⟩
theorem c_ParseK (w : World) (i : Nat) (hi : i < 9) (ht : Tab w) : Calls Tryd.prog 12 #[.string (up i)] w fun e w' => e = .returned (.tuple #[.int .i8 ((i + 1 : Nat) : Int), .nilIface]) ∧ Below w.heap.size w w' := by
  refine calls_wk (args := [.string (up i)]) Tryd.func12 rfl rfl ?_
  refine wk_seq ?_
  refine wk_reg (id := 0) ?_
  refine wk_assign rfl rfl ?_
  refine wk_assign rfl rfl ?_
  refine wk_nil ?_
  refine wk_seq ?_
  refine wk_reg (id := 1) ?_
  refine wk_move rfl rfl ?_
  refine wk_call Tryd.call14 (vs := [.string (up i)]) rfl rfl ((c_norm w i hi ht).mono ?_)
  rintro e w1 ⟨rfl, hb1⟩
  refine ⟨_, rfl, ?_⟩
  refine wk_nil ?_
  refine wk_block ?_
  have h : i = 0 ∨ i = 1 ∨ i = 2 ∨ i = 3 ∨ i = 4 ∨ i = 5 ∨ i = 6 ∨ i = 7 ∨ i = 8 := by omega
  rcases h with rfl | rfl | rfl | rfl | rfl | rfl | rfl | rfl | rfl
  · skip
    refine wk_seq ?_
    refine wk_reg (id := 3) ?_
    refine wk_streq (b := true) rfl rfl (streq _ _ _ (by decide +kernel)) rfl ?_
    refine wk_assign rfl rfl ?_
    refine wk_nil ?_
    refine wk_condT rfl ?_
    refine wk_seq ?_
    refine wk_reg (id := 4) ?_
    refine wk_assign rfl rfl ?_
    refine wk_assign rfl rfl ?_
    refine wk_nil ?_
    exact wk_ret2 (rb r0) rfl rfl rfl ⟨rfl, hb1⟩
  · skip
    refine wk_seq ?_
    refine wk_reg (id := 3) ?_
    refine wk_streq (b := false) rfl rfl (streq _ _ _ (by decide +kernel)) rfl ?_
    refine wk_assign rfl rfl ?_
    refine wk_nil ?_
    refine wk_condF rfl ?_
    refine wk_seq ?_
    refine wk_reg (id := 5) ?_
    refine wk_streq (b := true) rfl rfl (streq _ _ _ (by decide +kernel)) rfl ?_
    refine wk_assign rfl rfl ?_
    refine wk_nil ?_
    refine wk_condT rfl ?_
    refine wk_seq ?_
    refine wk_reg (id := 6) ?_
    refine wk_assign rfl rfl ?_
    refine wk_assign rfl rfl ?_
    refine wk_nil ?_
    exact wk_ret2 (rb r0) rfl rfl rfl ⟨rfl, hb1⟩
  · skip
    refine wk_seq ?_
    refine wk_reg (id := 3) ?_
    refine wk_streq (b := false) rfl rfl (streq _ _ _ (by decide +kernel)) rfl ?_
    refine wk_assign rfl rfl ?_
    refine wk_nil ?_
    refine wk_condF rfl ?_
    refine wk_seq ?_
    refine wk_reg (id := 5) ?_
    refine wk_streq (b := false) rfl rfl (streq _ _ _ (by decide +kernel)) rfl ?_
    refine wk_assign rfl rfl ?_
    refine wk_nil ?_
    refine wk_condF rfl ?_
    refine wk_seq ?_
    refine wk_reg (id := 7) ?_
    refine wk_streq (b := true) rfl rfl (streq _ _ _ (by decide +kernel)) rfl ?_
    refine wk_assign rfl rfl ?_
    refine wk_nil ?_
    refine wk_condT rfl ?_
    refine wk_seq ?_
    refine wk_reg (id := 8) ?_
    refine wk_assign rfl rfl ?_
    refine wk_assign rfl rfl ?_
    refine wk_nil ?_
    exact wk_ret2 (rb r0) rfl rfl rfl ⟨rfl, hb1⟩
  · skip
    refine wk_seq ?_
    refine wk_reg (id := 3) ?_
    refine wk_streq (b := false) rfl rfl (streq _ _ _ (by decide +kernel)) rfl ?_
    refine wk_assign rfl rfl ?_
    refine wk_nil ?_
    refine wk_condF rfl ?_
    refine wk_seq ?_
    refine wk_reg (id := 5) ?_
    refine wk_streq (b := false) rfl rfl (streq _ _ _ (by decide +kernel)) rfl ?_
    refine wk_assign rfl rfl ?_
    refine wk_nil ?_
    refine wk_condF rfl ?_
    refine wk_seq ?_
    refine wk_reg (id := 7) ?_
    refine wk_streq (b := false) rfl rfl (streq _ _ _ (by decide +kernel)) rfl ?_
    refine wk_assign rfl rfl ?_
    refine wk_nil ?_
    refine wk_condF rfl ?_
    refine wk_seq ?_
    refine wk_reg (id := 9) ?_
    refine wk_streq (b := true) rfl rfl (streq _ _ _ (by decide +kernel)) rfl ?_
    refine wk_assign rfl rfl ?_
    refine wk_nil ?_
    refine wk_condT rfl ?_
    refine wk_seq ?_
    refine wk_reg (id := 10) ?_
    refine wk_assign rfl rfl ?_
    refine wk_assign rfl rfl ?_
    refine wk_nil ?_
    exact wk_ret2 (rb r0) rfl rfl rfl ⟨rfl, hb1⟩
  · skip
    refine wk_seq ?_
    refine wk_reg (id := 3) ?_
    refine wk_streq (b := false) rfl rfl (streq _ _ _ (by decide +kernel)) rfl ?_
    refine wk_assign rfl rfl ?_
    refine wk_nil ?_
    refine wk_condF rfl ?_
    refine wk_seq ?_
    refine wk_reg (id := 5) ?_
    refine wk_streq (b := false) rfl rfl (streq _ _ _ (by decide +kernel)) rfl ?_
    refine wk_assign rfl rfl ?_
    refine wk_nil ?_
    refine wk_condF rfl ?_
    refine wk_seq ?_
    refine wk_reg (id := 7) ?_
    refine wk_streq (b := false) rfl rfl (streq _ _ _ (by decide +kernel)) rfl ?_
    refine wk_assign rfl rfl ?_
    refine wk_nil ?_
    refine wk_condF rfl ?_
    refine wk_seq ?_
    refine wk_reg (id := 9) ?_
    refine wk_streq (b := false) rfl rfl (streq _ _ _ (by decide +kernel)) rfl ?_
    refine wk_assign rfl rfl ?_
    refine wk_nil ?_
    refine wk_condF rfl ?_
    refine wk_seq ?_
    refine wk_reg (id := 11) ?_
    refine wk_streq (b := true) rfl rfl (streq _ _ _ (by decide +kernel)) rfl ?_
    refine wk_assign rfl rfl ?_
    refine wk_nil ?_
    refine wk_condT rfl ?_
    refine wk_seq ?_
    refine wk_reg (id := 12) ?_
    refine wk_assign rfl rfl ?_
    refine wk_assign rfl rfl ?_
    refine wk_nil ?_
    exact wk_ret2 (rb r0) rfl rfl rfl ⟨rfl, hb1⟩
  · skip
    refine wk_seq ?_
    refine wk_reg (id := 3) ?_
    refine wk_streq (b := false) rfl rfl (streq _ _ _ (by decide +kernel)) rfl ?_
    refine wk_assign rfl rfl ?_
    refine wk_nil ?_
    refine wk_condF rfl ?_
    refine wk_seq ?_
    refine wk_reg (id := 5) ?_
    refine wk_streq (b := false) rfl rfl (streq _ _ _ (by decide +kernel)) rfl ?_
    refine wk_assign rfl rfl ?_
    refine wk_nil ?_
    refine wk_condF rfl ?_
    refine wk_seq ?_
    refine wk_reg (id := 7) ?_
    refine wk_streq (b := false) rfl rfl (streq _ _ _ (by decide +kernel)) rfl ?_
    refine wk_assign rfl rfl ?_
    refine wk_nil ?_
    refine wk_condF rfl ?_
    refine wk_seq ?_
    refine wk_reg (id := 9) ?_
    refine wk_streq (b := false) rfl rfl (streq _ _ _ (by decide +kernel)) rfl ?_
    refine wk_assign rfl rfl ?_
    refine wk_nil ?_
    refine wk_condF rfl ?_
    refine wk_seq ?_
    refine wk_reg (id := 11) ?_
    refine wk_streq (b := false) rfl rfl (streq _ _ _ (by decide +kernel)) rfl ?_
    refine wk_assign rfl rfl ?_
    refine wk_nil ?_
    refine wk_condF rfl ?_
    refine wk_seq ?_
    refine wk_reg (id := 13) ?_
    refine wk_streq (b := true) rfl rfl (streq _ _ _ (by decide +kernel)) rfl ?_
    refine wk_assign rfl rfl ?_
    refine wk_nil ?_
    refine wk_condT rfl ?_
    refine wk_seq ?_
    refine wk_reg (id := 14) ?_
    refine wk_assign rfl rfl ?_
    refine wk_assign rfl rfl ?_
    refine wk_nil ?_
    exact wk_ret2 (rb r0) rfl rfl rfl ⟨rfl, hb1⟩
  · skip
    refine wk_seq ?_
    refine wk_reg (id := 3) ?_
    refine wk_streq (b := false) rfl rfl (streq _ _ _ (by decide +kernel)) rfl ?_
    refine wk_assign rfl rfl ?_
    refine wk_nil ?_
    refine wk_condF rfl ?_
    refine wk_seq ?_
    refine wk_reg (id := 5) ?_
    refine wk_streq (b := false) rfl rfl (streq _ _ _ (by decide +kernel)) rfl ?_
    refine wk_assign rfl rfl ?_
    refine wk_nil ?_
    refine wk_condF rfl ?_
    refine wk_seq ?_
    refine wk_reg (id := 7) ?_
    refine wk_streq (b := false) rfl rfl (streq _ _ _ (by decide +kernel)) rfl ?_
    refine wk_assign rfl rfl ?_
    refine wk_nil ?_
    refine wk_condF rfl ?_
    refine wk_seq ?_
    refine wk_reg (id := 9) ?_
    refine wk_streq (b := false) rfl rfl (streq _ _ _ (by decide +kernel)) rfl ?_
    refine wk_assign rfl rfl ?_
    refine wk_nil ?_
    refine wk_condF rfl ?_
    refine wk_seq ?_
    refine wk_reg (id := 11) ?_
    refine wk_streq (b := false) rfl rfl (streq _ _ _ (by decide +kernel)) rfl ?_
    refine wk_assign rfl rfl ?_
    refine wk_nil ?_
    refine wk_condF rfl ?_
    refine wk_seq ?_
    refine wk_reg (id := 13) ?_
    refine wk_streq (b := false) rfl rfl (streq _ _ _ (by decide +kernel)) rfl ?_
    refine wk_assign rfl rfl ?_
    refine wk_nil ?_
    refine wk_condF rfl ?_
    refine wk_seq ?_
    refine wk_reg (id := 15) ?_
    refine wk_streq (b := true) rfl rfl (streq _ _ _ (by decide +kernel)) rfl ?_
    refine wk_assign rfl rfl ?_
    refine wk_nil ?_
    refine wk_condT rfl ?_
    refine wk_seq ?_
    refine wk_reg (id := 16) ?_
    refine wk_assign rfl rfl ?_
    refine wk_assign rfl rfl ?_
    refine wk_nil ?_
    exact wk_ret2 (rb r0) rfl rfl rfl ⟨rfl, hb1⟩
  · skip
    refine wk_seq ?_
    refine wk_reg (id := 3) ?_
    refine wk_streq (b := false) rfl rfl (streq _ _ _ (by decide +kernel)) rfl ?_
    refine wk_assign rfl rfl ?_
    refine wk_nil ?_
    refine wk_condF rfl ?_
    refine wk_seq ?_
    refine wk_reg (id := 5) ?_
    refine wk_streq (b := false) rfl rfl (streq _ _ _ (by decide +kernel)) rfl ?_
    refine wk_assign rfl rfl ?_
    refine wk_nil ?_
    refine wk_condF rfl ?_
    refine wk_seq ?_
    refine wk_reg (id := 7) ?_
    refine wk_streq (b := false) rfl rfl (streq _ _ _ (by decide +kernel)) rfl ?_
    refine wk_assign rfl rfl ?_
    refine wk_nil ?_
    refine wk_condF rfl ?_
    refine wk_seq ?_
    refine wk_reg (id := 9) ?_
    refine wk_streq (b := false) rfl rfl (streq _ _ _ (by decide +kernel)) rfl ?_
    refine wk_assign rfl rfl ?_
    refine wk_nil ?_
    refine wk_condF rfl ?_
    refine wk_seq ?_
    refine wk_reg (id := 11) ?_
    refine wk_streq (b := false) rfl rfl (streq _ _ _ (by decide +kernel)) rfl ?_
    refine wk_assign rfl rfl ?_
    refine wk_nil ?_
    refine wk_condF rfl ?_
    refine wk_seq ?_
    refine wk_reg (id := 13) ?_
    refine wk_streq (b := false) rfl rfl (streq _ _ _ (by decide +kernel)) rfl ?_
    refine wk_assign rfl rfl ?_
    refine wk_nil ?_
    refine wk_condF rfl ?_
    refine wk_seq ?_
    refine wk_reg (id := 15) ?_
    refine wk_streq (b := false) rfl rfl (streq _ _ _ (by decide +kernel)) rfl ?_
    refine wk_assign rfl rfl ?_
    refine wk_nil ?_
    refine wk_condF rfl ?_
    refine wk_seq ?_
    refine wk_reg (id := 17) ?_
    refine wk_streq (b := true) rfl rfl (streq _ _ _ (by decide +kernel)) rfl ?_
    refine wk_assign rfl rfl ?_
    refine wk_nil ?_
    refine wk_condT rfl ?_
    refine wk_seq ?_
    refine wk_reg (id := 18) ?_
    refine wk_assign rfl rfl ?_
    refine wk_assign rfl rfl ?_
    refine wk_nil ?_
    exact wk_ret2 (rb r0) rfl rfl rfl ⟨rfl, hb1⟩
  · skip
    refine wk_seq ?_
    refine wk_reg (id := 3) ?_
    refine wk_streq (b := false) rfl rfl (streq _ _ _ (by decide +kernel)) rfl ?_
    refine wk_assign rfl rfl ?_
    refine wk_nil ?_
    refine wk_condF rfl ?_
    refine wk_seq ?_
    refine wk_reg (id := 5) ?_
    refine wk_streq (b := false) rfl rfl (streq _ _ _ (by decide +kernel)) rfl ?_
    refine wk_assign rfl rfl ?_
    refine wk_nil ?_
    refine wk_condF rfl ?_
    refine wk_seq ?_
    refine wk_reg (id := 7) ?_
    refine wk_streq (b := false) rfl rfl (streq _ _ _ (by decide +kernel)) rfl ?_
    refine wk_assign rfl rfl ?_
    refine wk_nil ?_
    refine wk_condF rfl ?_
    refine wk_seq ?_
    refine wk_reg (id := 9) ?_
    refine wk_streq (b := false) rfl rfl (streq _ _ _ (by decide +kernel)) rfl ?_
    refine wk_assign rfl rfl ?_
    refine wk_nil ?_
    refine wk_condF rfl ?_
    refine wk_seq ?_
    refine wk_reg (id := 11) ?_
    refine wk_streq (b := false) rfl rfl (streq _ _ _ (by decide +kernel)) rfl ?_
    refine wk_assign rfl rfl ?_
    refine wk_nil ?_
    refine wk_condF rfl ?_
    refine wk_seq ?_
    refine wk_reg (id := 13) ?_
    refine wk_streq (b := false) rfl rfl (streq _ _ _ (by decide +kernel)) rfl ?_
    refine wk_assign rfl rfl ?_
    refine wk_nil ?_
    refine wk_condF rfl ?_
    refine wk_seq ?_
    refine wk_reg (id := 15) ?_
    refine wk_streq (b := false) rfl rfl (streq _ _ _ (by decide +kernel)) rfl ?_
    refine wk_assign rfl rfl ?_
    refine wk_nil ?_
    refine wk_condF rfl ?_
    refine wk_seq ?_
    refine wk_reg (id := 17) ?_
    refine wk_streq (b := false) rfl rfl (streq _ _ _ (by decide +kernel)) rfl ?_
    refine wk_assign rfl rfl ?_
    refine wk_nil ?_
    refine wk_condF rfl ?_
    refine wk_seq ?_
    refine wk_reg (id := 19) ?_
    refine wk_streq (b := true) rfl rfl (streq _ _ _ (by decide +kernel)) rfl ?_
    refine wk_assign rfl rfl ?_
    refine wk_nil ?_
    refine wk_condT rfl ?_
    refine wk_seq ?_
    refine wk_reg (id := 20) ?_
    refine wk_assign rfl rfl ?_
    refine wk_assign rfl rfl ?_
    refine wk_nil ?_
    exact wk_ret2 (rb r0) rfl rfl rfl ⟨rfl, hb1⟩
end Go.Proofs.YthelpljefckgkaaDoor
