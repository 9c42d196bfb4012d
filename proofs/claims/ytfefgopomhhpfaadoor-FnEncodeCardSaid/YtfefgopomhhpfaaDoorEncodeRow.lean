/- 'laws.FnEncode' returns true for every input. Conditions: those of the given row alone (its three listed variables read as their initialisers lay them). -/
import Derived.Test.YtfefgopomhhpfaaDoorEncodeJoin
import Derived.Test.YtfefgopomhhpfaaDoorPic1
import Derived.Test.YtfefgopomhhpfaaDoorPic3
import Derived.Test.YtfefgopomhhpfaaDoorPic5
import Derived.Test.YtfefgopomhhpfaaDoorPic7
import Derived.Test.YtfefgopomhhpfaaDoorCards
import Derived.Test.YtfefgopomhhpfaaDoorTie
import Derived.WalkKit
import Derived.ProofKit
import Derived.OpenShut
import Derived.OpenVars
import Derived.Deep.DeepHandedRow
import Derived.LaidLaws
namespace Go.Proofs.YtfefgopomhhpfaaDoor
section
open Go.RowKit

/-- What pictureOf hands back, for some picture with two files that are one. -/
theorem fn_pic (t a b e : Int) (dp qp : Option Addr) (dn dc qn qc : Nat) (D Q : List Int) (w : World) (ht : 0 ≤ t ∧ t < 256) (ha : 0 ≤ a ∧ a < 256) (hb : 0 ≤ b ∧ b < 256) (he : 0 ≤ e ∧ e < 256)
    (hdn : D.length = dn) (hd2 : dn ≤ 1000) (hD : ∀ i, i < dn → ∃ ad, dp = some ad ∧ ad.block < w.heap.size ∧ w.cell? (ad.add i) = some (.int .u8 (D.getD i 0))) (hDb : ∀ i, 0 ≤ D.getD i 0 ∧ D.getD i 0 < 256)
    (hqn : Q.length = qn) (hq2 : qn ≤ 1024) (hQ : ∀ i, i < qn → ∃ ad, qp = some ad ∧ ad.block < w.heap.size ∧ w.cell? (ad.add i) = some (.int .u8 (Q.getD i 0))) (hQb : ∀ i, 0 ≤ Q.getD i 0 ∧ Q.getD i 0 < 256) :
    Calls Tryd.prog 4 #[.int .u8 t, .int .u8 a, .int .u8 b, .slice dp dn dc, .slice qp qn qc, .int .u8 e] w fun x w1 => ∃ tot : List Int, 0 < tot.length ∧ Both tot w x w1 := by
  obtain ⟨W, hW⟩ : ∃ W : Nat, 1 + a % 40 = (W : Int) := ⟨(1 + a % 40).toNat, by omega⟩
  obtain ⟨H, hH⟩ : ∃ H : Nat, 1 + b % 40 = (H : Int) := ⟨(1 + b % 40).toNat, by omega⟩
  have hW0 : 0 < W := by omega
  have hW2 : W ≤ 40 := by omega
  have hH0 : 0 < H := by omega
  have hH2 : H ≤ 40 := by omega
  have hk : t % 4 = 0 ∨ t % 4 = 1 ∨ t % 4 = 2 ∨ t % 4 = 3 := by omega
  rcases hk with hk | hk | hk | hk
  · obtain ⟨S, hS⟩ : ∃ S : Nat, (W : Int) * 1 + e % 5 = (S : Int) := ⟨((W : Int) * 1 + e % 5).toNat, by omega⟩
    exact (picture_1 t a b e dp qp dn dc qn qc W H S (W * H * 1) D Q w ht.1 ht.2 hk ha.1 ha.2 hb.1 hb.2 he.1 he.2 hW hH hS rfl hdn hd2 hD hDb).mono fun x w1 h => both_gray W H S _ D _ w x w1 hW0 hW2 hH0 hH2 (by omega) (by omega) rfl h
  · obtain ⟨S, hS⟩ : ∃ S : Nat, (W : Int) * 4 + e % 5 = (S : Int) := ⟨((W : Int) * 4 + e % 5).toNat, by omega⟩
    exact (picture_3 t a b e dp qp dn dc qn qc W H S (W * H * 4) D Q w ht.1 ht.2 hk ha.1 ha.2 hb.1 hb.2 he.1 he.2 hW hH hS rfl hdn hd2 hD hDb).mono fun x w1 h => both_rgba W H S _ D _ w x w1 hW0 hW2 hH0 hH2 (by omega) (by omega) rfl h
  · obtain ⟨S, hS⟩ : ∃ S : Nat, (W : Int) * 4 + e % 5 = (S : Int) := ⟨((W : Int) * 4 + e % 5).toNat, by omega⟩
    exact (picture_5 t a b e dp qp dn dc qn qc W H S (W * H * 4) D Q w ht.1 ht.2 hk ha.1 ha.2 hb.1 hb.2 he.1 he.2 hW hH hS rfl hdn hd2 hD hDb).mono fun x w1 h => both_nrgba W H S _ D _ w x w1 hW0 hW2 hH0 hH2 (by omega) (by omega) rfl h
  · obtain ⟨S, hS⟩ : ∃ S : Nat, (W : Int) * 1 + e % 5 = (S : Int) := ⟨((W : Int) * 1 + e % 5).toNat, by omega⟩
    exact (picture_7 t a b e dp qp dn dc qn qc W H S (W * H * 1) D Q w ht.1 ht.2 hk ha.1 ha.2 hb.1 hb.2 he.1 he.2 hW hH hS rfl hdn hd2 hD hDb hqn hq2 hQ hQb).mono fun x w1 h => both_pal W H S _ D _ w x w1 hW0 hW2 hH0 hH2 Q (by omega) hQb (by omega) (by omega) (Nat.mul_one _) h

theorem fn_encode (t a b e : Int) (dp qp : Option Addr) (dn dc qn qc : Nat) (D Q : List Int) (w : World) (ht : 0 ≤ t ∧ t < 256) (ha : 0 ≤ a ∧ a < 256) (hb : 0 ≤ b ∧ b < 256) (he : 0 ≤ e ∧ e < 256)
    (hdn : D.length = dn) (hD : ∀ i, i < dn → ∃ ad, dp = some ad ∧ ad.block < w.heap.size ∧ w.cell? (ad.add i) = some (.int .u8 (D.getD i 0))) (hDb : ∀ i, 0 ≤ D.getD i 0 ∧ D.getD i 0 < 256)
    (hqn : Q.length = qn) (hQ : ∀ i, i < qn → ∃ ad, qp = some ad ∧ ad.block < w.heap.size ∧ w.cell? (ad.add i) = some (.int .u8 (Q.getD i 0))) (hQb : ∀ i, 0 ≤ Q.getD i 0 ∧ Q.getD i 0 < 256) :
    Calls Tryd.prog 3 #[.int .u8 t, .int .u8 a, .int .u8 b, .slice dp dn dc, .slice qp qn qc, .int .u8 e] w fun x w' => x = .returned (.bool true) ∧ Below w.heap.size w w' := by
  by_cases h : dn ≤ 1000 ∧ qn ≤ 1024
  · exact fn_main t a b e dp qp dn dc qn qc w h.1 h.2 (fn_pic t a b e dp qp dn dc qn qc D Q w ht ha hb he hdn h.1 hD hDb hqn h.2 hQ hQb)
  · exact fn_long t a b e dp qp dn dc qn qc w h
end
open Go.ChangeShapes Go.WideShapes Go.ChangeAt Go.RowKit

theorem ownNone : ownKnob Tryd.prog.godebug = none := by kernel_rfl
set_option maxRecDepth 100000 in
theorem seatLaidOut : laidOutB Tryd.prog = true := by kernel_rfl

theorem u8_wf {n : Int} (h : (Lit.int .u8 n).wf = true) : 0 ≤ n ∧ n < 256 := by
  have e1 : IntKind.u8.min = 0 := by decide
  have e2 : IntKind.u8.max = 255 := by decide
  simp [Lit.wf] at h
  omega

set_option maxRecDepth 100000 in
/-- A slice of bytes that came in: its cells. -/
theorem bytes_of_arg {H : Type} {enc : TypeId × Value → H} {W : World} {base : Nat} {v : Value} {d : DataW H} {p : List MemPlace}
    (hv : Value.okWide Tryd.prog W .any base 22 v) (h : DataW.Trod enc Tryd.prog W 0 (fun _ => true) true 22 v d p) :
    ∃ (a : Option Addr) (n c : Nat) (D : List Int), v = .slice a n c ∧ D.length = n ∧ (∀ i, i < n → ∃ ad, a = some ad ∧ ad.block < W.heap.size ∧ W.cell? (ad.add i) = some (.int .u8 (D.getD i 0))) ∧ ∀ i, 0 ≤ D.getD i 0 ∧ D.getD i 0 < 256 := by
  obtain ⟨a, n, c, rfl⟩ := okWide_slice Tryd.underlying22 hv
  obtain ⟨fuel, hf⟩ := h
  rcases open_ints Tryd.underlying22 Tryd.underlying5 (by kernel_rfl) hf with ⟨hcs, _⟩ | ⟨x, l, c', zs, hcs, _, hl, hm, hz, _, hcell, hwz⟩
  · simp [Value.cells] at hcs
    obtain ⟨rfl, rfl, rfl⟩ := hcs
    exact ⟨none, 0, 0, [], rfl, rfl, fun i hi => by omega, fun i => by simp⟩
  · simp [Value.cells] at hcs
    obtain ⟨rfl, rfl, rfl⟩ := hcs
    have hz' : zs.length = c := by simpa using hz
    have hget : ∀ i, i < n → (zs.take n).getD i 0 = zs.getD i 0 := fun i hi => by simp [List.getD, hi]
    refine ⟨some x, n, c, zs.take n, rfl, by rw [List.length_take]; omega, fun i hi => ⟨x, rfl, ?_, ?_⟩, fun i => ?_⟩
    · have h2 := World.block_lt_of_cell? _ _ (hcell i (by omega))
      rwa [Lib.block_add] at h2
    · rw [hget i hi]
      exact hcell i (by omega)
    · by_cases hi : i < n
      · rw [hget i hi]
        have hm : zs.getD i 0 ∈ zs := by
          rw [List.getD_eq_getElem?_getD, List.getElem?_eq_getElem (by omega)]
          exact List.getElem_mem _
        exact u8_wf (hwz _ hm)
      · have e : (zs.take n).getD i 0 = 0 := by
          rw [List.getD_eq_getElem?_getD, List.getElem?_eq_none (by rw [List.length_take]; omega)]
          rfl
        rw [e]
        omega

set_option maxRecDepth 100000 in
/-- What the walk gives, for every argument. -/
theorem contract (H : Type) (enc : TypeId × Value → H) (W : World) (base : Nat) (args : Array Value) (ds gs : List (DataW H)) (before : List MemPlace)
    (hval : ∀ (j : Nat) t v, Tryd.f3.params[j]? = some t → args[j]? = some v → Value.okWide Tryd.prog W .any base t v)
    (hW : DataW.Whole enc Tryd.prog Tryd.f3.params.toList Rows.fnEncodeSpec.vars false W args.toList ds gs before) :
    Calls Tryd.prog 3 args W fun e W' => ∃ v, e = .returned v ∧ Rows.fnEncodeSpec.post enc Tryd.prog Tryd.f3 false true false false W args v W' := by
  have hW' := hW
  obtain ⟨p, q, hA0, hV, rfl, hfz, hnd⟩ := hW
  have hA : DataW.TrodAll enc Tryd.prog W 0 (fun _ => true) true Tryd.f3.params.toList args.toList ds p := hA0
  have hV2 : DataW.TrodVars enc Tryd.prog W (fun _ => true) ["loop.example/pub-g03485/pub/image/bmp.ErrUnsupported"] gs q := hV
  obtain ⟨g1, rfl⟩ : ∃ g1, gs = [g1] := by
    rcases gs with _ | ⟨g, _ | ⟨g', r⟩⟩
    · exact hV2.elim
    · exact ⟨g, rfl⟩
    · obtain ⟨_, _, _, _, _, _, _, _, _, _, hs, _⟩ := hV2
      exact hs.elim
  rw [Tryd.params3] at hA hval
  obtain ⟨v0, vs0, d0, ds0, p0, q0, hargs, rfl, rfl, h0, r0⟩ := trodAll_cons hA
  obtain ⟨v1, vs1, d1, ds1, p1, q1, rfl, rfl, rfl, h1, r1⟩ := trodAll_cons r0
  obtain ⟨v2, vs2, d2, ds2, p2, q2, rfl, rfl, rfl, h2, r2⟩ := trodAll_cons r1
  obtain ⟨v3, vs3, d3, ds3, p3, q3, rfl, rfl, rfl, h3, r3⟩ := trodAll_cons r2
  obtain ⟨v4, vs4, d4, ds4, p4, q4, rfl, rfl, rfl, h4, r4⟩ := trodAll_cons r3
  obtain ⟨v5, vs5, d5, ds5, p5, q5, rfl, rfl, rfl, h5, r5⟩ := trodAll_cons r4
  obtain ⟨rfl, rfl, rfl⟩ := trodAll_nil r5
  obtain rfl : args = #[v0, v1, v2, v3, v4, v5] := by cases args; simp_all
  obtain ⟨a0, rfl, rfl, rfl, w0⟩ := open_int Tryd.underlying5 (hval 0 5 v0 rfl rfl) h0
  obtain ⟨a1, rfl, rfl, rfl, w1⟩ := open_int Tryd.underlying5 (hval 1 5 v1 rfl rfl) h1
  obtain ⟨a2, rfl, rfl, rfl, w2⟩ := open_int Tryd.underlying5 (hval 2 5 v2 rfl rfl) h2
  obtain ⟨a5, rfl, rfl, rfl, w5⟩ := open_int Tryd.underlying5 (hval 5 5 v5 rfl rfl) h5
  have k3 := h3
  have k4 := h4
  have lt3 : ∀ x ∈ p3, x.block < W.heap.size := by obtain ⟨m, hm⟩ := k3; exact DataW.trod_lt m _ _ _ hm
  have lt4 : ∀ x ∈ p4, x.block < W.heap.size := by obtain ⟨m, hm⟩ := k4; exact DataW.trod_lt m _ _ _ hm
  obtain ⟨dp, dn, dc, D, rfl, hdn, hD, hDb⟩ := bytes_of_arg (hval 3 22 v3 rfl rfl) h3
  obtain ⟨qp, qn, qc, Q, rfl, hqn, hQ, hQb⟩ := bytes_of_arg (hval 4 22 v4 rfl rfl) h4
  clear hA0
  refine (fn_encode a0 a1 a2 a5 dp qp dn dc qn qc D Q W (u8_wf w0) (u8_wf w1) (u8_wf w2) (u8_wf w5) hdn hD hDb hqn hQ hQb).mono fun e W' ⟨he, bel⟩ => ?_
  subst he
  exact ⟨_, rfl, _, _, _, [], _, _, hW', trodAll_mk1 (shut_bool Tryd.underlying4 _),
    trodAll_cons_mk (shut_int Tryd.underlying5 w0) (trodAll_cons_mk (shut_int Tryd.underlying5 w1) (trodAll_cons_mk (shut_int Tryd.underlying5 w2)
      (trodAll_cons_mk (Below.trod seatLaidOut (by kernel_rfl) (of_decide_eq_true (by kernel_rfl)) k3 bel lt3) (trodAll_cons_mk (Below.trod seatLaidOut (by kernel_rfl) (of_decide_eq_true (by kernel_rfl)) k4 bel lt4) (trodAll_cons_mk (shut_int Tryd.underlying5 w5) trodAll_mk0))))),
    Below.trodVars seatLaidOut bel (by kernel_rfl) hV2, bel.frame _, fun h => by cases h⟩

/-- So many blocks has the settled world. -/
noncomputable def low : Nat := (World.holding Tryd.prog default ⟨#[], #[], []⟩).heap.size
/-- A start that fits: the three variables as their initialisers lay them. -/
noncomputable def laidWorld (os : Os) : World :=
  let w0 := World.holding Tryd.prog os ⟨#[.cells #[.string { data := #[69, 79, 70] }] 102, .cells #[.string { data := #[117, 110, 101, 120, 112, 101, 99, 116, 101, 100, 32, 69, 79, 70] }] 102, .cells #[.string { data := #[98, 109, 112, 58, 32, 117, 110, 115, 117, 112, 112, 111, 114, 116, 101, 100, 32, 66, 77, 80, 32, 105, 109, 97, 103, 101] }] 102], #[], []⟩
  { w0 with heap := ((w0.heap.modify 0 fun
      | .cells _ t frozen => .cells #[.iface 100 (.pointer (some ⟨low + 2, 0, none⟩))] t frozen
      | o => o).modify 1 fun
      | .cells _ t frozen => .cells #[.iface 100 (.pointer (some ⟨low + 1, 0, none⟩))] t frozen
      | o => o).modify 2 fun
      | .cells _ t frozen => .cells #[.iface 100 (.pointer (some ⟨low, 0, none⟩))] t frozen
      | o => o }
theorem laid_met (os : Os) : laidMet Tryd.prog Rows.fnEncodeRow.laid ((laidWorld os).forCall (fun _ _ => 0) ⟨#[], (#[.int .u8 0, .int .u8 0, .int .u8 0, .slice none 0 0, .slice none 0 0, .int .u8 0] : Array Value), []⟩).memory :=
  laidMet_of_run' 8 (by kernel_rfl) (by kernel_rfl)
theorem reads (os : Os) {H : Type} (enc : TypeId × Value → H) : ∃ x, DataW.whole enc Tryd.prog ((laidWorld os).forCall (fun _ _ => 0) ⟨#[], (#[.int .u8 0, .int .u8 0, .int .u8 0, .slice none 0 0, .slice none 0 0, .int .u8 0] : Array Value), []⟩).memory Tryd.f3.params.toList Rows.fnEncodeSpec.vars false (#[.int .u8 0, .int .u8 0, .int .u8 0, .slice none 0 0, .slice none 0 0, .int .u8 0] : Array Value).toList 8 = some x :=
  Option.isSome_iff_exists.1 (by kernel_rfl)

set_option maxRecDepth 100000 in
theorem lifted (os : Os) (started : os.Started) (H : Type) (enc : TypeId × Value → H) (F : Stop.Interp) :
    ReturnsInHanded {} Tryd.checked os 3 .any ((OpenSpec.ofChange Rows.fnEncodeSpec).preRow enc Tryd.prog Tryd.f3 Rows.fnEncodeRow.domain false Rows.fnEncodeRow.laid) (((OpenSpec.ofChange Rows.fnEncodeSpec).at F).post enc Tryd.prog Tryd.f3 false true false false) := by
  obtain ⟨x, hx⟩ := reads os enc
  refine returnsInHanded_of_row (C := Tryd.checked) (s := OpenSpec.ofChange Rows.fnEncodeSpec) ownNone started (by kernel_rfl) Tryd.func3
    (witness_row_at (enc := enc) (C := Tryd.checked) false (laidWorld os) (#[.int .u8 0, .int .u8 0, .int .u8 0, .slice none 0 0, .slice none 0 0, .int .u8 0] : Array Value) rfl (by kernel_rfl) (by kernel_rfl) (by kernel_rfl)
      (OpenSpec.preRow_of_cond 8 hx (by kernel_rfl) (fun k hk => by cases hk) (by kernel_rfl) (laid_met os))) ?_
  intro W base args ds gs before hval hW _ _ _ _ _ _
  exact contract H enc W base args ds gs before hval hW

set_option maxRecDepth 100000 in
theorem fnEncode_said : Rows.FnEncodeSaid :=
  OpenClaim.holds_of_cond 3 Tryd.f3 rfl rfl rfl rfl rfl rfl rfl ⟨rfl, rfl, rfl, rfl, rfl⟩ rfl rfl rfl rfl rfl (by kernel_rfl) Tryd.func3 (by kernel_rfl)
    (of_decide_eq_true (by kernel_rfl)) (by unfold Func.isWrapper; first | (rw [if_pos (by decide +kernel)]; kernel_rfl) | (rw [if_neg (by decide +kernel)]; exact ⟨rfl, rfl⟩))
    (fun os started H enc _ F => by rw [OpenClaim.pre_eq_preRow]; exact lifted os started H enc F)

theorem plainCard (f : FuncId) (fn : Func) (hf : Tryd.pinned.checked.prog.funcNamed "loop.example/pub-g03485/laws.FnEncode" = some f) (hfn : Tryd.pinned.checked.prog.funcs[f]? = some fn) :
    true = Tryd.pinned.checked.prog.looks [] ∧ ∀ (j : Nat) t, fn.params[j]? = some t → Tryd.pinned.checked.prog.wantsStandIn t = false := by
  obtain rfl : f = 3 := Option.some.inj ((show Tryd.prog.funcNamed "loop.example/pub-g03485/laws.FnEncode" = some 3 by kernel_rfl).symm.trans hf) |>.symm
  obtain rfl : fn = Tryd.f3 := (Option.some.inj (Tryd.func3.symm.trans hfn)).symm
  refine ⟨by kernel_rfl, fun j t ht => ?_⟩
  rw [Tryd.params3] at ht
  have h2 : t = 5 ∨ t = 22 := by
    have := Array.mem_of_getElem? ht
    by_cases h5 : t = 5
    · exact .inl h5
    · exact .inr (by simpa [h5] using this)
  rcases h2 with rfl | rfl
  · exact (show Tryd.prog.wantsStandIn 5 = false by kernel_rfl)
  · exact (show Tryd.prog.wantsStandIn 22 = false by kernel_rfl)

/-- 'laws.FnEncode' returns true for every input: the tied card. -/
theorem fnEncode_card : Rows.FnEncodeCardSaid :=
  Claim7.holds_tied_plain_at .later [] _ _ _ _ fnEncode_said (fun _ h => by cases h) (by kernel_rfl) (fun _ h => by cases h) fnEncode_row_tie rfl ⟨rfl, rfl⟩ (by kernel_rfl) rfl plainCard (by kernel_rfl)
#print axioms fnEncode_card
end Go.Proofs.YtfefgopomhhpfaaDoor
