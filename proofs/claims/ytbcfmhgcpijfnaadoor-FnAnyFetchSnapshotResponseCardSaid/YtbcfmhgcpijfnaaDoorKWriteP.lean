/-
  Tags of a partition, one of them known (a struct of two numbers and tags): written by the code that stands in the loop.
-/
import Derived.Test.YtbcfmhgcpijfnaaDoorKSame
import Derived.Test.YtbcfmhgcpijfnaaDoorKReadP
import Derived.Test.YtbcfmhgcpijfnaaDoorKHand
import Derived.Test.YtbcfmhgcpijfnaaDoorKHook
import Derived.Test.YtbcfmhgcpijfnaaDoorEngI
set_option linter.unusedVariables false
set_option linter.unusedSimpArgs false
namespace Go.Proofs.Eng
open Go Go.RowKit
attribute [local semireducible] wk wkD
section
variable {P : Program} {Q : Exit → Act → World → Prop} {nT : Nat} {σ : Sv} {k : List TD} {w : World} {ty : TypeId} {ps : String} {af : Array Edge} {d : Nat} {x y z : Operand} {t t' : TypeId}
variable {S : World → Prop} {all : List Oper} {i : Nat} {ord : List (Nat × Bool)} {ol : List Oper} {g : Option (Nat × Bool)}
theorem wd_sliceH {A : Option Addr} {n c m : Nat} {kk : IntKind} {e : TypeId} {ti : TypeInfo} (hg : guardIs σ all g = some true) (hx : evs σ x = some (.slice A n c)) (hy : evs σ y = some (.int kk (m : Int))) (ht : P.underlying t = some (.slice e)) (hi : P.info? e = some ti) (hm : m ≤ c)
    (hd : Nat.blt d nT = true) (h : wkD P Q nT all S ((d, .slice A m c) :: σ) k ord ol w) : wkD P Q nT all S σ k ((i, true) :: ord) (⟨some d, .slice t x none (some y) none, ty, ps, af, g⟩ :: ol) w :=
  wd_val hg (fun _ ha _ _ => run_sliceH rfl ht hi (ha.ev hx) (ha.ev hy) hm) hd h
theorem wd_sliceL {A : Option Addr} {n c m : Nat} {kk : IntKind} {e : TypeId} (hB : ByteT P t e) (hg : guardIs σ all g = some true) (hx : evs σ x = some (.slice A n c)) (hy : evs σ y = some (.int kk (m : Int))) (hm : m ≤ n) (hd : Nat.blt d nT = true)
    (h : wkD P Q nT all S ((d, .slice (if c = m then A else A.map (·.add m)) (n - m) (c - m)) :: σ) k ord ol w) : wkD P Q nT all S σ k ((i, true) :: ord) (⟨some d, .slice t x (some y) none none, ty, ps, af, g⟩ :: ol) w :=
  wd_val hg (fun _ ha _ _ => run_sliceL hB rfl (ha.ev hx) (ha.ev hy) hm) hd h
theorem wk_weak {σ' : Sv} (hs : ∀ t v, look σ' t = some v → look σ t = some v) (h : wk P Q nT σ' k w) : wk P Q nT σ k w := fun a ha => h a (ha.weak hs)
theorem wk_at {a : Act} (h : wk P Q nT σ k w) (ha : Knows nT σ a) : wpT P Q k a w := h a ha
theorem wk_scopeEnd {lb : Nat} {J : Act → World → Prop} (h : wk P Q nT σ k w) : wk P (Exit.jump lb J (Exit.then (wpT P Q k) Q)) nT σ [] w := h
theorem wk_seq2 {a b c : Code} (h : wk P Q nT σ (.code a :: .code b :: .code c :: k) w) : wk P Q nT σ (.code a :: .code (.seq b c) :: k) w := by
  intro ac ha
  have h1 : a.wp P (Exit.then (wpT P Q (.code b :: .code c :: k)) Q) ac w := h ac ha
  refine wp_mono h1 (fun e a' w' q => ?_)
  cases e with
  | normal => exact wpT_seq q
  | _ => exact q
end
theorem u32mod (n : Nat) : IntKind.u32.wrap (n : Int) = ((n % 4294967296 : Nat) : Int) := by
  simp [IntKind.wrap, IntKind.bits, IntKind.signed]
theorem pqj {Q : Exit → Act → World → Prop} {lb : Nat} {J K : Act → World → Prop} (h : PQ Q) : PQ (Exit.jump lb J (Exit.then K Q)) := h
theorem own_form {w : World} {base e : Nat} {d : Value} {bs : List UInt8} (h : Own w base e d bs) : ∃ A c, d = .slice A bs.length c := by
  rcases h.2 with ⟨rfl, h0⟩ | ⟨g, cap, cur, rfl, _⟩
  · exact ⟨none, 0, by rw [h0]⟩
  · exact ⟨_, cap, rfl⟩
theorem own_take {w : World} {base e n c m : Nat} {A : Option Addr} {bs : List UInt8} (h : Own w base e (.slice A n c) bs) (hm : m ≤ bs.length) : m ≤ n ∧ m ≤ c ∧ n = bs.length ∧ Own w base e (.slice A m c) (bs.take m) ∧ Value.ownBlock (.slice A m c) = Value.ownBlock (.slice A n c) := by
  have hl : (bs.take m).length = m := by simp; omega
  rcases h.2 with ⟨h1, h0⟩ | ⟨g, cap, cur, h1, h2, h3, h4, h5, h6, h7⟩
  · cases h1
    have hm0 : m = 0 := by omega
    subst hm0
    refine ⟨Nat.le_refl _, Nat.le_refl _, h0.symm, ?_, rfl⟩
    show World.ownsRow _ _ _ _ _ _ _
    simpa using World.ownsRow_nil w base e 1
  · cases h1
    refine ⟨hm, by omega, rfl, ⟨by simp, .inr ⟨g, _, cur, by rw [hl], h2, h3, by rw [hl]; omega, h5, h6, ?_⟩⟩, rfl⟩
    rw [hl, Nat.mul_one, List.map_take, ← h7, List.take_take, Nat.mul_one, Nat.min_eq_left hm]
end Go.Proofs.Eng
namespace Go.Proofs.YtbcfmhgcpijfnaaDoor
open Go Go.RowKit Go.Proofs.Eng
set_option maxRecDepth 20000
set_option maxHeartbeats 8000000
abbrev TLD : Nat := 58
theorem ldInfo : Tryd.prog.info? TLD = some Tryd.t58 := by kernel_rfl
theorem ldZero : Tryd.t58.zero = some (.agg #[.int .i32 0, .int .i32 0, .map none]) := by kernel_rfl
/-- What is written of a leader. -/
def ldBytes (p q : Int) (l : List (Nat × List UInt8)) : List UInt8 := be 4 p ++ (be 4 q ++ (uv l.length ++ l.flatMap wtag))
/-- A leader's fields, written once. -/
theorem wk_lead {Q : Exit → Act → World → Prop} {k : List TD} {σ' : Sv} {w : World} {base cB : Nat} {d u : Value} {bs : List UInt8} {p q : Int} {l : List (Nat × List UInt8)} (hτ : ∀ t v, Eng.look σ' t = some v → has (1 :: 6 :: 27 :: wrLd) t = false)
    (hown : Own w base 5 d bs) (hbase : base ≤ w.heap.size) (hc : w.heap[cB]? = some (.cells #[.int .i32 p, .int .i32 q, u] TLD (0, 0))) (hr : Rep w (fun b => base ≤ b) u (.tags l)) (hconf : Conf (.tags false) (.tags l)) (hll : l.length < 2147483648) (hsz : bs.length + (ldBytes p q l).length ≤ lim)
    (hok : ∀ w' d', Own w' base 5 d' (bs ++ ldBytes p q l) → Below base w w' → w'.heap[cB]? = w.heap[cB]? → wk Tryd.prog Q 397 ([(1, d'), (6, .bool true), (27, .pointer (some ⟨cB, 0, none⟩))] ++ σ') (.code codeLdR :: k) w') :
    wk Tryd.prog Q 397 ([(1, d), (6, .bool true), (27, .pointer (some ⟨cB, 0, none⟩))] ++ σ') (.code codeLd :: k) w := by
  have hlb : (ldBytes p q l).length = 4 + (4 + ((uv l.length).length + (l.flatMap wtag).length)) := by simp [ldBytes, be_length]
  have hcv : IntKind.u32.wrap ((l.length : Nat) : Int) = ((l.length : Nat) : Int) := u32n l.length (by omega)
  have hcount : IntKind.u32.wrap (0 + ((l.length : Nat) : Int)) = ((l.length : Nat) : Int) := by rw [Int.zero_add]; exact hcv
  show wk Tryd.prog Q 397 ((1, d) :: (6, .bool true) :: (27, .pointer (some ⟨cB, 0, none⟩)) :: σ') (.code codeLd :: k) w
  refine wk_seq ?_
  refine wk_seq ?_
  refine wk_reg (id := 63) ?_
  refine wk_field (f := 0) (i := Tryd.t21) rfl Tryd.underlying58 rfl (by kernel_rfl) (by decide) rfl ?_
  refine wk_load rfl Tryd.underlying21 rfl (by exact cell_blk (by with_reducible assumption) rfl) rfl ?_
  refine wk_assign rfl rfl ?_
  refine wk_nil ?_
  refine wk_reg (id := 64) ?_
  refine wk_move rfl rfl ?_
  refine wk_move rfl rfl ?_
  first
    | refine wk_load (v := .int .i32 p) rfl Tryd.underlying21 rfl (cell_blk hc rfl) rfl ?_
    | skip
  skip
  refine wk_call Tryd.call15 (vs := [d, .int .i32 p]) rfl rfl ((AppendInt32_grow w base d bs p hown hbase (by omega)).mono ?_)
  rintro e w1 ⟨d1, rfl, ho1, hg1⟩
  refine ⟨_, rfl, ?_⟩
  have hb1 := below_of_grown hown hbase hg1
  have hc1 := KeptT.grown hown hg1 cB _ _ _ (by decide) (by decide) hc
  have hs1 := Nat.le_trans hbase hb1.size
  refine wk_assign rfl rfl ?_
  refine wk_nil ?_
  refine wk_seq ?_
  refine wk_seq ?_
  refine wk_reg (id := 65) ?_
  refine wk_field (f := 1) (i := Tryd.t21) rfl Tryd.underlying58 rfl (by kernel_rfl) (by decide) rfl ?_
  refine wk_load rfl Tryd.underlying21 rfl (by exact cell_blk (by with_reducible assumption) rfl) rfl ?_
  refine wk_assign rfl rfl ?_
  refine wk_nil ?_
  refine wk_reg (id := 66) ?_
  refine wk_move rfl rfl ?_
  refine wk_move rfl rfl ?_
  first
    | refine wk_load (v := .int .i32 q) rfl Tryd.underlying21 rfl (cell_blk hc1 rfl) rfl ?_
    | skip
  skip
  refine wk_call Tryd.call15 (vs := [d1, .int .i32 q]) rfl rfl ((AppendInt32_grow w1 base d1 _ q ho1 hs1 (by rw [List.length_append, be_length]; omega)).mono ?_)
  rintro e w2 ⟨d2, rfl, ho2, hg2⟩
  refine ⟨_, rfl, ?_⟩
  have hb2 := hb1.trans (below_of_grown ho1 hs1 hg2)
  have hc2 := KeptT.grown ho1 hg2 cB _ _ _ (by decide) (by decide) hc1
  have hs2 := Nat.le_trans hbase hb2.size
  refine wk_assign rfl rfl ?_
  refine wk_nil ?_
  refine wk_seq ?_
  refine wk_seq ?_
  refine wk_reg (id := 67) ?_
  refine wk_move rfl rfl ?_
  refine wk_nil ?_
  refine wk_condT rfl ?_
  refine wk_seq ?_
  refine wk_reg (id := 68) ?_
  refine wk_move rfl rfl ?_
  refine wk_field (f := 2) (i := Tryd.t42) rfl Tryd.underlying58 rfl (by kernel_rfl) (by decide) rfl ?_
  refine wk_call Tryd.call23 (vs := [.pointer (some ⟨cB, 0 + 2, none⟩)]) rfl rfl ((c_TagsLen w2 _ cB (0 + 2) u l (cell_blk hc2 rfl) (hr.keep (Keeps.of_below hb2)) (by omega)).mono ?_)
  rintro e w2' ⟨rfl, rfl⟩
  refine ⟨_, rfl, ?_⟩
  refine wk_convV rfl Tryd.underlying3 Tryd.underlying64 (by with_reducible assumption) rfl ?_
  refine wk_add rfl rfl rfl ?_
  rw [hcount]
  refine wk_call Tryd.call22 (vs := [d2, .int .u32 ((l.length : Nat) : Int)]) rfl rfl ((AppendUvarint_grow w2' base d2 _ l.length ho2 hs2 (by omega) (by simp only [List.length_append, be_length]; omega)).mono ?_)
  rintro e w3 ⟨d3, rfl, ho3, hg3⟩
  refine ⟨_, rfl, ?_⟩
  have hb3 := hb2.trans (below_of_grown ho2 hs2 hg3)
  have hc3 := KeptT.grown ho2 hg3 cB _ _ _ (by decide) (by decide) hc2
  have hs3 := Nat.le_trans hbase hb3.size
  refine wk_assign rfl rfl ?_
  refine wk_nil ?_
  refine wk_reg (id := 69) ?_
  refine wk_field (f := 2) (i := Tryd.t42) rfl Tryd.underlying58 rfl (by kernel_rfl) (by decide) rfl ?_
  refine wk_move rfl rfl ?_
  refine wk_call Tryd.call24 (vs := [.pointer (some ⟨cB, 0 + 2, none⟩), d3]) rfl rfl ((c_AppendEachK w3 base cB (0 + 2) d3 u _ l ho3 hs3 (.inr ⟨_, _, _, hc3, by decide, by decide⟩) (cell_blk hc3 rfl) (hr.keep (Keeps.of_below hb3)) hconf (by simp only [List.length_append, be_length]; omega)).mono ?_)
  rintro e w4 ⟨d4, rfl, ho4, hb4, hk4⟩
  refine ⟨_, rfl, ?_⟩
  refine wk_assign rfl rfl ?_
  refine wk_nil ?_
  show wk Tryd.prog Q 397 _ (.code codeLdR :: k) w4
  refine wk_weak (σ' := [(1, d4), (6, .bool true), (27, .pointer (some ⟨cB, 0, none⟩))] ++ σ') (pre_sub hτ rfl (by repeat (first | exact Fr.base | refine Fr.step rfl ?_))) (hok w4 d4 ?_ (hb3.trans hb4) (hk4.trans (hc3.trans hc.symm)))
  rw [ldBytes]
  simpa only [List.append_assoc] using ho4
theorem hwP_ok : HContract Tryd.prog 5 hookWrP := by
  intro w base sh L d bs a Q k hL hok hn hd hv h1 hkn hown hbase hsz hQ
  have hn : a.tmps.size = 397 := hn
  have hv : a.eval (.tmp 15) = .pointer (some ⟨L.b, L.o, none⟩) := hv
  have hfx : a.eval (.tmp 6) = .bool true := hkn (6, .bool true) (by simp [hookWrP])
  obtain rfl : sh = shPt := lEq_ok (fun h => kEqF_ok 10 h) hok
  obtain ⟨hlen, hconf⟩ := hL.conf
  have hlen : L.cs.length = 12 := hlen
  have hvl : L.vals.length = 12 := hL.len
  obtain ⟨c5, hc5⟩ : ∃ c, L.cs[5]? = some c := ⟨_, List.getElem?_eq_getElem (by omega)⟩
  obtain ⟨c6, hc6⟩ : ∃ c, L.cs[6]? = some c := ⟨_, List.getElem?_eq_getElem (by omega)⟩
  obtain ⟨c7, hc7⟩ : ∃ c, L.cs[7]? = some c := ⟨_, List.getElem?_eq_getElem (by omega)⟩
  obtain ⟨c11, hc11⟩ : ∃ c, L.cs[11]? = some c := ⟨_, List.getElem?_eq_getElem (by omega)⟩
  obtain ⟨u5, hu5⟩ : ∃ c, L.vals[5]? = some c := ⟨_, List.getElem?_eq_getElem (by omega)⟩
  obtain ⟨u6, hu6⟩ : ∃ c, L.vals[6]? = some c := ⟨_, List.getElem?_eq_getElem (by omega)⟩
  obtain ⟨u7, hu7⟩ : ∃ c, L.vals[7]? = some c := ⟨_, List.getElem?_eq_getElem (by omega)⟩
  obtain ⟨u11, hu11⟩ : ∃ c, L.vals[11]? = some c := ⟨_, List.getElem?_eq_getElem (by omega)⟩
  obtain ⟨p, rfl, hp⟩ := (hconf 5 c5 _ hc5 rfl).int_inv
  obtain ⟨q, rfl, hq⟩ := (hconf 6 c6 _ hc6 rfl).int_inv
  obtain ⟨l7, rfl, s1, s2, s3, _⟩ := (hconf 7 c7 _ hc7 rfl).tags_inv
  obtain ⟨tl, rfl, t1, t2, t3, _⟩ := (hconf 11 c11 _ hc11 rfl).tags_inv
  obtain rfl := (hL.rep 5 u5 _ hu5 hc5).int_inv
  obtain rfl := (hL.rep 6 u6 _ hu6 hc6).int_inv
  have hrep7 := hL.rep 7 u7 _ hu7 hc7
  have hrep11 := hL.rep 11 u11 _ hu11 hc11
  have hlt := hL.lt
  have hcell : ∀ (w' : World), Below base w w' → ∀ (o : Nat) (v : Value), L.vals[o]? = some v → w'.cell? ⟨L.b, L.o + o, none⟩ = some v := fun w' hb o v hv => (hb.cell (p := ⟨L.b, L.o + o, none⟩) hlt).trans (hL.cell o v hv)
  have hvk : (L.cs.drop 5).take 3 = [.int .i32 p, .int .i32 q, .tags l7] := by
    apply List.ext_getElem?
    intro i
    rw [List.getElem?_take]
    split
    · rename_i hi
      rw [List.getElem?_drop]
      match i, hi with
      | 0, _ => exact hc5
      | 1, _ => exact hc6
      | 2, _ => exact hc7
    · rename_i hi
      rw [List.getElem?_eq_none (by simp; omega)]
  have hml7 : l7.length % 4294967296 = l7.length := Nat.mod_eq_of_lt (by omega)
  have hrun : runW hookWrP.body [.int .i32 p, .int .i32 q, .tags l7] = ldBytes p q l7 := by
    show be 4 p ++ (be 4 q ++ (uv (l7.length % 4294967296) ++ (l7.flatMap wtag ++ []))) = _
    rw [hml7, List.append_nil]
    rfl
  have hpr : present [.int .i32 p, .int .i32 q, .tags l7] = !(p == 0 && (q == 0 && l7.isEmpty)) := by
    show (!(p == 0 && (q == 0 && (l7.isEmpty && true)))) = _
    rw [Bool.and_true]
  have hout : hkOut hookWrP L.cs = wkt (ktl (!(p == 0 && (q == 0 && l7.isEmpty))) (ldBytes p q l7) tl) := by
    show wkt (ktl (present ((L.cs.drop 5).take 3)) (runW hookWrP.body ((L.cs.drop 5).take 3)) (tagsOf L.cs[11]?)) = _
    rw [hvk, hrun, hpr, hc11]
    rfl
  rw [hout] at hsz hQ
  have hconfT : Conf (.tags false) (.tags tl) := .tags _ _ t1 t2 t3 (fun h => by cases h)
  have hconf7 : Conf (.tags false) (.tags l7) := .tags _ _ s1 s2 s3 (fun h => by cases h)
  have hsame : ∀ (a' : Act) (σ : Sv), Knows 397 σ a' → Eng.look σ 15 = some (.pointer (some ⟨L.b, L.o, none⟩)) → Eng.look σ 6 = some (.bool true) → Fr (15 :: 6 :: wrWP) (tauOf (15 :: 6 :: wrWP) 397 a) σ → ∀ t, t ∉ wrC codeWrP → a'.eval (.tmp t) = a.eval (.tmp t) := by
    intro a' σ hk h2 h6 hF t ht
    by_cases e2 : t = 15
    · subst e2; rw [hk.2.2 _ _ h2, hv]
    · by_cases e3 : t = 6
      · subst e3; rw [hk.2.2 _ _ h6, hfx]
      · refine hook_same hk hn hF t ?_
        have h3 : has wrWP t = false := by
          cases hh : has wrWP t with
          | false => rfl
          | true => exact absurd (has_iff.1 (allB_mem supWP t (has_iff.1 hh))) ht
        simp only [has, h3, Bool.or_false, Bool.or_eq_false_iff]
        exact ⟨beq_ne (Ne.symm e2), beq_ne (Ne.symm e3)⟩
  suffices key : wk Tryd.prog (Qh Tryd.prog Q k) 397 ([(15, .pointer (some ⟨L.b, L.o, none⟩)), (6, .bool true), (1, d)] ++ tauOf (15 :: 6 :: wrWP) 397 a) [.code codeWrP] w from
    hook_wk key (hook_start hn hd (by
      intro p hp
      simp only [List.mem_cons, List.not_mem_nil, or_false] at hp
      rcases hp with rfl | rfl | rfl
      · exact hv
      · exact hfx
      · exact h1))
  have hτ0 : ∀ t v, Eng.look (tauOf (15 :: 6 :: wrWP) 397 a) t = some v → has (15 :: 6 :: wrWP) t = false := fun t v h => (tau_inv h).1
  generalize tauOf (15 :: 6 :: wrWP) 397 a = τ at hsame hτ0 ⊢
  have hτL : ∀ t v, Eng.look τ t = some v → has (1 :: 6 :: 27 :: wrLd) t = false := by
    intro t v h
    have h2 := hτ0 t v h
    simp only [has, Bool.or_eq_false_iff] at h2 ⊢
    have h3 : ∀ x ∈ (1 :: 27 :: wrLd), x ≠ t := by
      rintro x hx rfl
      have := allB_mem subLd2 x hx
      rw [h2.2.2] at this
      cases this
    refine ⟨beq_ne (h3 1 (by simp)), h2.2.1, beq_ne (h3 27 (by simp)), ?_⟩
    cases hh : has wrLd t with
    | false => rfl
    | true => exact absurd rfl (h3 t (List.mem_cons_of_mem _ (List.mem_cons_of_mem _ (has_iff.1 hh))))
  show wk Tryd.prog (Qh Tryd.prog Q k) 397 ((15, .pointer (some ⟨L.b, L.o, none⟩)) :: (6, .bool true) :: (1, d) :: τ) [.code codeWrP] w
  refine wk_seq ?_
  refine wk_reg (id := 50) ?_
  refine wk_assign rfl rfl ?_
  refine wk_nil ?_
  refine wk_seq ?_
  refine wk_seq ?_
  refine wk_draw (fun w' => Below base w w') [(0, true), (1, true), (2, true), (3, true), (4, false), (5, false), (6, false)] mixedR pqh (by kernel_rfl) (by kernel_rfl) (by kernel_rfl) (fun _ _ h => h.mono hbase) ?_
  intro w0 hh0 hb0'
  have hb0 : Below base w w0 := hb0'.mono hbase
  refine wd_move rfl rfl rfl ?_
  refine wd_nilCheck rfl rfl rfl ?_
  refine wd_field (f := 3) (ti := Tryd.t58) rfl rfl Tryd.underlying60 rfl (by kernel_rfl) (by decide) rfl ?_
  refine wd_loadA (vs := [.int .i32 p, .int .i32 q, u7]) rfl rfl Tryd.underlying58 rfl ldInfo rfl (fun w' hb j v hj => ?_) rfl ?_
  · have : ((⟨L.b, L.o + 5, none⟩ : Addr).add j) = ⟨L.b, L.o + (5 + j), none⟩ := by rw [add_addr, Nat.add_assoc]
    refine Eq.trans (congrArg _ this) (hcell w' hb (5 + j) v ?_)
    match j with
    | 0 => cases hj; exact hu5
    | 1 => cases hj; exact hu6
    | 2 => cases hj; exact hu7
    | j + 3 => simp at hj
  refine wd_call rfl Tryd.call28 (vs := []) rfl rfl ((c_Lead0 w0).mono ?_)
  rintro e w1 ⟨rfl, hb1'⟩
  have hb1 : Below base w w1 := hb0.trans (hb1'.mono (Nat.le_trans hbase hb0.size))
  refine ⟨_, rfl, hb1, ?_⟩
  refine wd_call rfl Tryd.call27 (vs := [.agg #[.int .i32 p, .int .i32 q, u7], .agg #[.int .i32 0, .int .i32 0, .map none]]) rfl rfl ((c_LeadSame w1 _ p q u7 l7 (hrep7.keep (Keeps.of_below hb1))).mono ?_)
  rintro e w2 ⟨rfl, hb2'⟩
  have hb2 : Below base w w2 := hb1.trans (hb2'.mono (Nat.le_trans hbase hb1.size))
  refine ⟨_, rfl, hb2, ?_⟩
  refine wd_one (w' := w2) (v := .bool (!(p == 0 && (q == 0 && l7.isEmpty)))) rfl (fun a ha => run_not _ _ rfl (ha.ev rfl)) rfl hb2 ?_
  refine wd_done ?_
  have hown2 : Own w2 base 5 d bs := by
    have : Below w.heap.size w w2 := (hb0'.trans (hb1'.mono hb0'.size)).trans (hb2'.mono (Nat.le_trans hb0'.size hb1'.size))
    exact hown.below this
  have hbs2 : base ≤ w2.heap.size := Nat.le_trans hbase hb2.size
  have hrep11' := hrep11.keep (Keeps.of_below hb2)
  have hrep7' := hrep7.keep (Keeps.of_below hb2)
  cases hpz : (p == 0 && (q == 0 && l7.isEmpty)) with
  | true =>
    rw [hpz] at hsz hQ
    have e0 : ktl (!true) (ldBytes p q l7) tl = tl := rfl
    rw [e0] at hsz hQ
    have hml : tl.length % 4294967296 = tl.length := Nat.mod_eq_of_lt (by omega)
    have hlo : (wkt tl).length = (uv tl.length).length + (tl.flatMap wtag).length := by rw [wkt, List.length_append, hml]
    have cl : cmp .lss ((0 : Nat) : Int) ((0 : Nat) : Int) = some false := rfl
    have hcount : IntKind.u32.wrap (IntKind.i64.wrap (((0 : Nat) : Int) + (tl.length : Int))) = ((tl.length : Nat) : Int) := by
      rw [i64wr _ (by omega) (by omega), show ((0 : Nat) : Int) + (tl.length : Int) = (tl.length : Int) by omega]
      exact u32n tl.length (by omega)
    refine wk_condF rfl ?_
    refine wk_skip ?_
    refine wk_seq ?_
    refine wk_reg (id := 53) ?_
    refine wk_move rfl rfl ?_
    refine wk_move rfl rfl ?_
    refine wk_slen rfl Tryd.underlying66 rfl ?_
    refine wk_move rfl rfl ?_
    refine wk_nilCheck rfl rfl ?_
    refine wk_field (f := 7) (i := Tryd.t42) rfl Tryd.underlying60 rfl (by kernel_rfl) (by decide) rfl ?_
    refine wk_call Tryd.call23 (vs := [.pointer (some ⟨L.b, L.o + 11, none⟩)]) rfl rfl ((c_TagsLen w2 _ L.b (L.o + 11) u11 tl (hcell w2 hb2 11 u11 hu11) hrep11' (by omega)).mono ?_)
    rintro e w2' ⟨rfl, rfl⟩
    refine ⟨_, rfl, ?_⟩
    refine wk_add rfl rfl rfl ?_
    refine wk_convV rfl Tryd.underlying3 Tryd.underlying64 (by with_reducible assumption) rfl ?_
    refine wk_call Tryd.call22 (vs := [d, .int .u32 ((tl.length : Nat) : Int)]) rfl rfl ((AppendUvarint_any w2' base d bs tl.length hown2 hbs2 (by omega) (by omega)).mono ?_)
    rintro e w3 ⟨d3, rfl, ho3, hb3'⟩
    refine ⟨_, rfl, ?_⟩
    have hb3 := hb2.trans hb3'
    refine wk_assign rfl rfl ?_
    refine wk_nil ?_
    refine wk_seq ?_
    refine wk_seq ?_
    refine wk_reg (id := 54) ?_
    refine wk_move rfl rfl ?_
    refine wk_slen rfl Tryd.underlying66 rfl ?_
    refine wk_move rfl rfl ?_
    refine wk_nil ?_
    refine wk_loopW (fun _ : Unit => [(15, .pointer (some ⟨L.b, L.o, none⟩)), (6, .bool true), (1, d3), (209, .slice none 0 0), (210, .int .i64 ((0 : Nat) : Int)), (211, .int .i64 ((0 : Nat) : Int))] ++ τ) (fun _ w' => w' = w3) (fun _ => 0) () (pre_sub hτ0 rfl (by repeat (first | exact Fr.base | refine Fr.step rfl ?_))) rfl ?_
    rintro _ w' rfl
    show wk Tryd.prog _ 397 ((15, .pointer (some ⟨L.b, L.o, none⟩)) :: (6, .bool true) :: (1, d3) :: (209, .slice none 0 0) :: (210, .int .i64 ((0 : Nat) : Int)) :: (211, .int .i64 ((0 : Nat) : Int)) :: τ) _ w'
    refine wk_seq ?_
    refine wk_reg (id := 55) ?_
    refine wk_cmp rfl rfl (by with_reducible assumption) rfl ?_
    refine wk_nil ?_
    refine wk_seq ?_
    refine wk_condF rfl ?_
    refine wk_loopExit ?_
    refine wk_reg (id := 74) ?_
    refine wk_move rfl rfl ?_
    refine wk_nilCheck rfl rfl ?_
    refine wk_field (f := 7) (i := Tryd.t42) rfl Tryd.underlying60 rfl (by kernel_rfl) (by decide) rfl ?_
    refine wk_move rfl rfl ?_
    refine wk_call Tryd.call24 (vs := [.pointer (some ⟨L.b, L.o + 11, none⟩), d3]) rfl rfl ((c_AppendEach w' base L.b (L.o + 11) d3 u11 (bs ++ uv tl.length) tl ho3 (Nat.le_trans hbs2 hb3'.size) hlt (hcell w' hb3 11 u11 hu11) (hrep11'.keep (Keeps.of_below hb3')) hconfT (by rw [List.length_append]; omega)).mono ?_)
    rintro e w4 ⟨d4, rfl, ho4, hb4⟩
    refine ⟨_, rfl, ?_⟩
    refine wk_assign rfl rfl ?_
    refine wk_nil ?_
    refine wk_raw (fun a' ha' => ?_)
    show wpT Tryd.prog Q k a' w4
    refine hQ a' w4 d4 ⟨ha'.1, ha'.2.1.trans hd.symm, hsame a' _ ha' rfl rfl (by repeat (first | exact Fr.base | refine Fr.step rfl ?_)), ?_, hb3.trans hb4⟩ (ha'.2.2 1 _ rfl)
    rw [wkt, hml, ← List.append_assoc]
    exact ho4
  | false =>
    rw [hpz] at hsz hQ
    have e0 : ktl (!false) (ldBytes p q l7) tl = (0, ldBytes p q l7) :: tl := rfl
    rw [e0] at hsz hQ
    have hml : (tl.length + 1) % 4294967296 = tl.length + 1 := Nat.mod_eq_of_lt (by omega)
    obtain ⟨nb, hnb⟩ : ∃ nb, (ldBytes p q l7).length = nb := ⟨_, rfl⟩
    obtain ⟨nm, hnm⟩ : ∃ nm, nb % 4294967296 = nm := ⟨_, rfl⟩
    have hnl : nm < 4294967296 := by omega
    have hw0 : wtag (0, ldBytes p q l7) = uv 0 ++ (uv nm ++ ldBytes p q l7) := by
      simp only [wtag]
      rw [hnb, hnm]
    have hlo : (wkt ((0, ldBytes p q l7) :: tl)).length = (uv (tl.length + 1)).length + (((uv 0).length + ((uv nm).length + nb)) + (tl.flatMap wtag).length) := by
      rw [wkt, List.length_append, List.length_cons, hml, List.flatMap_cons, List.length_append, hw0, List.length_append, List.length_append, hnb]
    have hcount : IntKind.u32.wrap (IntKind.i64.wrap (((1 : Nat) : Int) + (tl.length : Int))) = ((tl.length + 1 : Nat) : Int) := by
      rw [i64wr _ (by omega) (by omega), show ((1 : Nat) : Int) + (tl.length : Int) = ((tl.length + 1 : Nat) : Int) by omega]
      exact u32n (tl.length + 1) (by omega)
    refine wk_condT rfl ?_
    refine wk_reg (id := 52) ?_
    refine wk_move rfl rfl ?_
    refine wk_bsU (n := 0) u32T rfl rfl rfl ?_
    refine wk_appendU (base := w2.heap.size) (q := 0) (u := .int .u32 0) u32T rfl rfl (World.ownsRow_nil _ _ _ _) (cell_blk (heap_alloc_new w2 _) rfl) rfl (by omega) (by simp) rfl ?_
    intro v1 w3 ho1 hg1
    have hb3' : Below w2.heap.size w2 w3 := by
      have h := below1 w2 (.cells #[.int .u32 0] 64)
      exact ⟨hg1.os.trans h.os, hg1.tape.trans h.tape, hg1.output.trans h.output, Nat.le_trans h.size hg1.size, fun q hq => (hg1.block q (by simp; omega) (by simp [Value.ownBlock])).trans (h.block q hq)⟩
    obtain ⟨g, cap, cur, rfl, hgb, hcur, hcap, htk⟩ : ∃ g cap cur, v1 = .slice (some ⟨g, 0, none⟩) 1 cap ∧ w2.heap.size ≤ g ∧ w3.heap[g]? = some (.cells cur 64 (0, 0)) ∧ 1 ≤ cap ∧ cur.toList.take (1 * 1) = [.int .u32 0] := by
      rcases ho1.2 with ⟨_, h0⟩ | ⟨g, cap, cur, h1, h2, h3, h4, _, _, h5⟩
      · omega
      · exact ⟨g, cap, cur, h1, h2, h3, h4, h5⟩
    have hown3 : Own w3 base 5 d bs := hown2.below hb3'
    have hb3 : Below base w w3 := hb2.trans (hb3'.mono hbs2)
    have hbs3 : base ≤ w3.heap.size := Nat.le_trans hbase hb3.size
    refine wk_assign rfl rfl ?_
    refine wk_nil ?_
    refine wk_seq ?_
    refine wk_reg (id := 53) ?_
    refine wk_move rfl rfl ?_
    refine wk_move rfl rfl ?_
    refine wk_slen rfl Tryd.underlying66 rfl ?_
    refine wk_move rfl rfl ?_
    refine wk_nilCheck rfl rfl ?_
    refine wk_field (f := 7) (i := Tryd.t42) rfl Tryd.underlying60 rfl (by kernel_rfl) (by decide) rfl ?_
    refine wk_call Tryd.call23 (vs := [.pointer (some ⟨L.b, L.o + 11, none⟩)]) rfl rfl ((c_TagsLen w3 _ L.b (L.o + 11) u11 tl (hcell w3 hb3 11 u11 hu11) (hrep11.keep (Keeps.of_below hb3)) (by omega)).mono ?_)
    rintro e w3' ⟨rfl, rfl⟩
    refine ⟨_, rfl, ?_⟩
    refine wk_add rfl rfl rfl ?_
    refine wk_convV rfl Tryd.underlying3 Tryd.underlying64 (by with_reducible assumption) rfl ?_
    refine wk_call Tryd.call22 (vs := [d, .int .u32 ((tl.length + 1 : Nat) : Int)]) rfl rfl ((AppendUvarint_grow w3' base d bs (tl.length + 1) hown3 hbs3 (by omega) (by omega)).mono ?_)
    rintro e w4 ⟨d4, rfl, ho4, hg4⟩
    refine ⟨_, rfl, ?_⟩
    have hb4 : Below base w w4 := hb3.trans (below_of_grown hown3 hbs3 hg4)
    have hcur4 := KeptT.grown hown3 hg4 g _ _ _ (by decide) (by decide) hcur
    have hcg : w4.cell? ⟨g, 0 + 0 * Tryd.t64.size, none⟩ = some (.int .u32 0) := by
      refine cell_blk (j := 0) hcur4 ?_
      have h5 : (cur.toList.take 1)[0]? = [Value.int .u32 0][0]? := by rw [htk]
      rw [List.getElem?_take_of_lt (by omega)] at h5
      exact h5
    have hbs4 : base ≤ w4.heap.size := Nat.le_trans hbase hb4.size
    refine wk_assign rfl rfl ?_
    refine wk_nil ?_
    refine wk_seq ?_
    refine wk_seq ?_
    refine wk_reg (id := 54) ?_
    refine wk_move rfl rfl ?_
    refine wk_slen rfl Tryd.underlying66 rfl ?_
    refine wk_move rfl rfl ?_
    refine wk_nil ?_
    refine wk_loopW (fun i : Nat × Value => [(15, .pointer (some ⟨L.b, L.o, none⟩)), (6, .bool true), (1, i.2), (209, .slice (some ⟨g, 0, none⟩) 1 cap), (210, .int .i64 ((1 : Nat) : Int)), (211, .int .i64 (i.1 : Int))] ++ τ)
      (fun i w' => (i.1 = 0 ∧ i.2 = d4 ∧ w' = w4) ∨ (i.1 = 1 ∧ Own w' base 5 i.2 (bs ++ uv (tl.length + 1) ++ uv 0 ++ uv nm ++ ldBytes p q l7) ∧ Below base w w')) (fun i => 1 - i.1) (0, d4) (pre_sub hτ0 rfl (by repeat (first | exact Fr.base | refine Fr.step rfl ?_))) (.inl ⟨rfl, rfl, rfl⟩) ?_
    rintro ⟨qi, dq⟩ wq hcase
    simp only at hcase
    show wk Tryd.prog _ 397 ((15, .pointer (some ⟨L.b, L.o, none⟩)) :: (6, .bool true) :: (1, dq) :: (209, .slice (some ⟨g, 0, none⟩) 1 cap) :: (210, .int .i64 ((1 : Nat) : Int)) :: (211, .int .i64 (qi : Int)) :: τ) _ wq
    rcases hcase with ⟨rfl, rfl, rfl⟩ | ⟨rfl, hoq, hbq⟩
    · have cl : cmp .lss ((0 : Nat) : Int) ((1 : Nat) : Int) = some true := rfl
      have ce : cmp .eql 0 0 = some true := rfl
      refine wk_seq ?_
      refine wk_reg (id := 55) ?_
      refine wk_cmp rfl rfl (by with_reducible assumption) rfl ?_
      refine wk_nil ?_
      refine wk_seq ?_
      refine wk_condT rfl ?_
      refine wk_skip ?_
      refine wk_seq ?_
      refine wk_block ?_
      refine wk_seq ?_
      refine wk_reg (id := 56) ?_
      refine wk_idx (i := Tryd.t64) (b := g) (off := 0) (n := 1) (c := cap) (j := 0) rfl rfl Tryd.underlying66 (by kernel_rfl) (by omega) rfl ?_
      refine wk_load (v := .int .u32 0) rfl Tryd.underlying64 rfl hcg rfl ?_
      refine wk_assign rfl rfl ?_
      refine wk_nil ?_
      refine wk_seq ?_
      refine wk_reg (id := 57) ?_
      refine wk_move rfl rfl ?_
      refine wk_nil ?_
      refine wk_block ?_
      refine wk_seq ?_
      refine wk_reg (id := 58) ?_
      refine wk_cmp rfl rfl (by with_reducible assumption) rfl ?_
      refine wk_assign rfl rfl ?_
      refine wk_nil ?_
      refine wk_condT rfl ?_
      -- the leader is copied, and written twice
      refine wk_scope 0 (fun a w' => ∃ dJ cB, Knows 397 ([(15, .pointer (some ⟨L.b, L.o, none⟩)), (6, .bool true), (1, dJ), (27, .pointer (some ⟨cB, 0, none⟩)), (28, .bool true), (209, .slice (some ⟨g, 0, none⟩) 1 cap), (210, .int .i64 ((1 : Nat) : Int)), (211, .int .i64 ((0 : Nat) : Int))] ++ τ) a ∧
        Own w' base 5 dJ (bs ++ uv (tl.length + 1) ++ uv 0 ++ uv nm) ∧ Below base w w' ∧ w'.heap[cB]? = some (.cells #[.int .i32 p, .int .i32 q, u7] TLD (0, 0))) rfl ?_ ?_
      · refine wk_seq ?_
        refine wk_reg (id := 59) ?_
        refine wk_move rfl rfl ?_
        refine wk_nilCheck rfl rfl ?_
        refine wk_field (f := 3) (i := Tryd.t58) rfl Tryd.underlying60 rfl (by kernel_rfl) (by decide) rfl ?_
        refine wk_loadA (vs := [.int .i32 p, .int .i32 q, u7]) rfl Tryd.underlying58 rfl ldInfo rfl (fun j v hj => ?_) rfl ?_
        · have : ((⟨L.b, L.o + 5, none⟩ : Addr).add j) = ⟨L.b, L.o + (5 + j), none⟩ := by rw [add_addr, Nat.add_assoc]
          refine Eq.trans (congrArg _ this) (hcell _ hb4 (5 + j) v ?_)
          match j with
          | 0 => cases hj; exact hu5
          | 1 => cases hj; exact hu6
          | 2 => cases hj; exact hu7
          | j + 3 => simp at hj
        refine wk_alloc ldInfo ldZero rfl ?_
        refine wk_storeNew (w0 := wq) (c' := #[.int .i32 p, .int .i32 q, u7]) rfl rfl ldInfo rfl rfl (one3 rfl rfl hrep7.oneCell) ?_
        have hb5' := below1 wq (.cells #[.int .i32 p, .int .i32 q, u7] TLD)
        have hc5 : (wq.alloc (.cells #[.int .i32 p, .int .i32 q, u7] TLD)).heap[wq.heap.size]? = some (.cells #[.int .i32 p, .int .i32 q, u7] TLD (0, 0)) := heap_alloc_new wq _
        have ho5 := ho4.below hb5'
        have hb5 : Below base w (wq.alloc (.cells #[.int .i32 p, .int .i32 q, u7] TLD)) := hb4.trans (hb5'.mono hbs4)
        generalize wq.alloc (.cells #[.int .i32 p, .int .i32 q, u7] TLD) = w5 at hb5' hc5 ho5 hb5 ⊢
        have hbs5 : base ≤ w5.heap.size := Nat.le_trans hbase hb5.size
        generalize wq.heap.size = cB at hc5 ⊢
        refine wk_nil ?_
        refine wk_seq ?_
        refine wk_reg (id := 60) ?_
        refine wk_move rfl rfl ?_
        refine wk_call Tryd.call22 (vs := [dq, .int .u32 ((0 : Nat) : Int)]) rfl rfl ((AppendUvarint_grow w5 base dq _ 0 ho5 hbs5 (by omega) (by rw [List.length_append]; omega)).mono ?_)
        rintro e w6 ⟨d6, rfl, ho6, hg6⟩
        refine ⟨_, rfl, ?_⟩
        have hb6 : Below base w w6 := hb5.trans (below_of_grown ho5 hbs5 hg6)
        have hbs6 : base ≤ w6.heap.size := Nat.le_trans hbase hb6.size
        have hc6 := KeptT.grown ho5 hg6 cB _ _ _ (by decide) (by decide) hc5
        obtain ⟨n6, hn6⟩ : ∃ n, (bs ++ uv (tl.length + 1) ++ uv 0).length = n := ⟨_, rfl⟩
        obtain ⟨A6, c6, rfl⟩ := own_form ho6
        rw [hn6] at ho6 ⊢
        refine wk_assign rfl rfl ?_
        refine wk_nil ?_
        refine wk_seq ?_
        refine wk_reg (id := 61) ?_
        refine wk_assign rfl rfl ?_
        refine wk_nil ?_
        refine wk_seq ?_
        refine wk_reg (id := 62) ?_
        refine wk_move rfl rfl ?_
        refine wk_slen rfl Tryd.underlying22 rfl ?_
        refine wk_assign rfl rfl ?_
        refine wk_nil ?_
        refine wk_seq ?_
        refine wk_label ?_
        refine wk_weak (σ' := [(1, .slice A6 n6 c6), (6, .bool true), (27, .pointer (some ⟨cB, 0, none⟩))] ++ ([(15, .pointer (some ⟨L.b, L.o, none⟩)), (28, .bool false), (29, .int .i64 (n6 : Int)), (209, .slice (some ⟨g, 0, none⟩) 1 cap), (210, .int .i64 ((1 : Nat) : Int)), (211, .int .i64 ((0 : Nat) : Int))] ++ τ))
          (fun t v h => pre_sub (pre := [(1, .slice A6 n6 c6), (6, .bool true), (27, .pointer (some ⟨cB, 0, none⟩)), (15, .pointer (some ⟨L.b, L.o, none⟩)), (28, .bool false), (29, .int .i64 (n6 : Int)), (209, .slice (some ⟨g, 0, none⟩) 1 cap), (210, .int .i64 ((1 : Nat) : Int)), (211, .int .i64 ((0 : Nat) : Int))]) hτ0 rfl (by repeat (first | exact Fr.base | refine Fr.step rfl ?_)) t v h) ?_
        refine wk_lead (fun t v h => ?_) ho6 hbs6 hc6 (hrep7.keep (Keeps.of_below hb6)) hconf7 s3 (by rw [hn6]; simp only [List.length_append] at hn6; omega) ?_
        · rcases look_append h with h | h
          · have hm := look_mem h
            simp only [List.mem_cons, Prod.mk.injEq, List.not_mem_nil, or_false] at hm
            rcases hm with ⟨rfl, _⟩ | ⟨rfl, _⟩ | ⟨rfl, _⟩ | ⟨rfl, _⟩ | ⟨rfl, _⟩ | ⟨rfl, _⟩ <;> rfl
          · exact hτL t v h
        intro w7 d7 ho7 hb7 hk7
        have hb7' : Below base w w7 := hb6.trans hb7
        have hc7' : w7.heap[cB]? = some (.cells #[.int .i32 p, .int .i32 q, u7] TLD (0, 0)) := hk7.trans hc6
        obtain ⟨n7, hn7⟩ : ∃ n, (bs ++ uv (tl.length + 1) ++ uv 0 ++ ldBytes p q l7).length = n := ⟨_, rfl⟩
        obtain ⟨A7, c7, rfl⟩ := own_form ho7
        rw [hn7] at ho7 ⊢
        have hn67 : n7 = n6 + nb := by rw [← hn7, List.length_append, hn6, hnb]
        obtain ⟨k1, k2, k3, ho7t, k4⟩ := own_take (m := n6) ho7 (by rw [hn7]; omega)
        have htake : List.take n6 (bs ++ uv (tl.length + 1) ++ uv 0 ++ ldBytes p q l7) = bs ++ uv (tl.length + 1) ++ uv 0 := List.take_left' hn6
        rw [htake] at ho7t
        refine wk_seq ?_
        refine wk_reg (id := 70) ?_
        refine wk_move rfl rfl ?_
        refine wk_not rfl rfl ?_
        refine wk_nil ?_
        refine wk_condT rfl ?_
        refine wk_seq ?_
        refine wk_draw (fun _ => True) [(0, true), (1, true), (2, true), (3, true), (4, true), (5, true), (6, true), (7, true), (8, false), (9, false)] mixedR (pqj (pqb (pqb (pql pqh)))) (by kernel_rfl) (by kernel_rfl) (by kernel_rfl) (fun _ _ _ => trivial) ?_
        intro w8 _ hb8'
        have ho8 := ho7t.below hb8'
        have hbs7 : base ≤ w7.heap.size := Nat.le_trans hbase hb7'.size
        have hb8 : Below base w w8 := hb7'.trans (hb8'.mono hbs7)
        have hc8 := (hb8'.block cB (lt_of_some hc7')).trans hc7'
        have hcv : IntKind.u32.wrap ((n7 - n6 : Nat) : Int) = ((nm : Nat) : Int) := by
          rw [show n7 - n6 = nb by omega, ← hnm]
          exact u32mod nb
        refine wd_move rfl rfl rfl ?_
        refine wd_move rfl rfl rfl ?_
        refine wd_sliceH (m := n6) rfl rfl rfl Tryd.underlying22 (show Tryd.prog.info? 5 = some Tryd.t5 by kernel_rfl) k2 rfl ?_
        refine wd_move rfl rfl rfl ?_
        refine wd_move rfl rfl rfl ?_
        refine wd_sliceL (m := n6) byteT rfl rfl rfl (by omega) rfl ?_
        refine wd_slen rfl rfl Tryd.underlying22 rfl ?_
        refine wd_convV rfl rfl Tryd.underlying3 Tryd.underlying64 hcv rfl ?_
        refine wd_call rfl Tryd.call22 (vs := [.slice A7 n6 c7, .int .u32 ((nm : Nat) : Int)]) rfl rfl ((AppendUvarint_grow w8 base _ _ nm ho8 (Nat.le_trans hbase hb8.size) (by omega) (by rw [hn6]; simp only [List.length_append] at hn6; omega)).mono ?_)
        rintro e w9 ⟨d9, rfl, ho9, hg9⟩
        refine ⟨_, rfl, trivial, ?_⟩
        have hb9 : Below base w w9 := hb8.trans (below_of_grown ho8 (Nat.le_trans hbase hb8.size) hg9)
        have hc9 := KeptT.grown ho8 hg9 cB _ _ _ (by decide) (by decide) hc8
        refine wd_one (w' := w9) (v := d9) rfl (fun a ha => (run_assign _ _ rfl).trans (by rw [ha.ev rfl])) rfl trivial ?_
        refine wd_done ?_
        refine wk_seq ?_
        refine wk_reg (id := 72) ?_
        refine wk_assign rfl rfl ?_
        refine wk_nil ?_
        exact wk_goto (fun a ha => ⟨d9, cB, ha.weak (pre_sub hτ0 rfl (by repeat (first | exact Fr.base | refine Fr.step rfl ?_))), ho9, hb9, hc9⟩)
      · rintro a2 w5 ⟨dJ, cB, hk5, ho5, hb5, hc5⟩
        have hbs5 : base ≤ w5.heap.size := Nat.le_trans hbase hb5.size
        suffices hw : wk Tryd.prog _ 397 ([(15, .pointer (some ⟨L.b, L.o, none⟩)), (6, .bool true), (1, dJ), (27, .pointer (some ⟨cB, 0, none⟩)), (28, .bool true), (209, .slice (some ⟨g, 0, none⟩) 1 cap), (210, .int .i64 ((1 : Nat) : Int)), (211, .int .i64 ((0 : Nat) : Int))] ++ τ) [.code (.seq .skip codeLd)] w5 from wk_at hw hk5
        refine wk_seq ?_
        refine wk_skip ?_
        refine wk_weak (σ' := [(1, dJ), (6, .bool true), (27, .pointer (some ⟨cB, 0, none⟩))] ++ ([(15, .pointer (some ⟨L.b, L.o, none⟩)), (28, .bool true), (209, .slice (some ⟨g, 0, none⟩) 1 cap), (210, .int .i64 ((1 : Nat) : Int)), (211, .int .i64 ((0 : Nat) : Int))] ++ τ))
          (fun t v h => pre_sub (pre := [(1, dJ), (6, .bool true), (27, .pointer (some ⟨cB, 0, none⟩)), (15, .pointer (some ⟨L.b, L.o, none⟩)), (28, .bool true), (209, .slice (some ⟨g, 0, none⟩) 1 cap), (210, .int .i64 ((1 : Nat) : Int)), (211, .int .i64 ((0 : Nat) : Int))]) hτ0 rfl (by repeat (first | exact Fr.base | refine Fr.step rfl ?_)) t v h) ?_
        refine wk_lead (fun t v h => ?_) ho5 hbs5 hc5 (hrep7.keep (Keeps.of_below hb5)) hconf7 s3 (by simp only [List.length_append]; omega) ?_
        · rcases look_append h with h | h
          · have hm := look_mem h
            simp only [List.mem_cons, Prod.mk.injEq, List.not_mem_nil, or_false] at hm
            rcases hm with ⟨rfl, _⟩ | ⟨rfl, _⟩ | ⟨rfl, _⟩ | ⟨rfl, _⟩ | ⟨rfl, _⟩ <;> rfl
          · exact hτL t v h
        intro w6 d6 ho6 hb6 hk6
        refine wk_seq ?_
        refine wk_reg (id := 70) ?_
        refine wk_move rfl rfl ?_
        refine wk_not rfl rfl ?_
        refine wk_nil ?_
        refine wk_condF rfl ?_
        refine wk_skip ?_
        refine wk_scopeEnd ?_
        skip
        refine wk_blockEnd ?_
        refine wk_blockEnd ?_
        refine wk_reg (id := 73) ?_
        refine wk_add rfl rfl rfl ?_
        refine wk_move rfl rfl ?_
        refine wk_nil ?_
        exact wk_loopNextW (1, d6) (by show 1 - 1 < 1 - 0; omega) (pre_sub hτ0 rfl (by repeat (first | exact Fr.base | refine Fr.step rfl ?_))) (.inr ⟨rfl, ho6, hb5.trans hb6⟩)
    · have cl : cmp .lss ((1 : Nat) : Int) ((1 : Nat) : Int) = some false := rfl
      refine wk_seq ?_
      refine wk_reg (id := 55) ?_
      refine wk_cmp rfl rfl (by with_reducible assumption) rfl ?_
      refine wk_nil ?_
      refine wk_seq ?_
      refine wk_condF rfl ?_
      refine wk_loopExit ?_
      refine wk_reg (id := 74) ?_
      refine wk_move rfl rfl ?_
      refine wk_nilCheck rfl rfl ?_
      refine wk_field (f := 7) (i := Tryd.t42) rfl Tryd.underlying60 rfl (by kernel_rfl) (by decide) rfl ?_
      refine wk_move rfl rfl ?_
      refine wk_call Tryd.call24 (vs := [.pointer (some ⟨L.b, L.o + 11, none⟩), dq]) rfl rfl ((c_AppendEach wq base L.b (L.o + 11) dq u11 _ tl hoq (Nat.le_trans hbase hbq.size) hlt (hcell wq hbq 11 u11 hu11) (hrep11.keep (Keeps.of_below hbq)) hconfT (by simp only [List.length_append]; omega)).mono ?_)
      rintro e w5 ⟨d5, rfl, ho5, hb5⟩
      refine ⟨_, rfl, ?_⟩
      refine wk_assign rfl rfl ?_
      refine wk_nil ?_
      refine wk_raw (fun a' ha' => ?_)
      show wpT Tryd.prog Q k a' w5
      refine hQ a' w5 d5 ⟨ha'.1, ha'.2.1.trans hd.symm, hsame a' _ ha' rfl rfl (by repeat (first | exact Fr.base | refine Fr.step rfl ?_)), ?_, hbq.trans hb5⟩ (ha'.2.2 1 _ rfl)
      rw [wkt, List.length_cons, hml, List.flatMap_cons, hw0]
      simpa only [List.append_assoc] using ho5
end Go.Proofs.YtbcfmhgcpijfnaaDoor
