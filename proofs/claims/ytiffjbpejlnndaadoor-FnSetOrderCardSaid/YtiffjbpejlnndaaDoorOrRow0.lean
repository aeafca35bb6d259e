/-
  What the rows of the bit sets' laws want: the tables as they are laid; slices of ints as they come in; the arguments read again. Conditions: none of its own.
-/
import Derived.Test.YtiffjbpejlnndaaDoorCards
import Derived.Test.YtiffjbpejlnndaaDoorTie
import Derived.Test.YtiffjbpejlnndaaDoorOr3
import Derived.Test.YtiffjbpejlnndaaDoorPost
import Derived.ProofKit
import Derived.OpenShut
import Derived.LaidMore
import Derived.Lay
import Derived.SevenTiedAt
import Derived.Stop.Joined
import Derived.MakeChecks
import Derived.Lib.LaidTab
import Derived.Stop.LaidErr
import Derived.ChangeSlices
namespace Go.Proofs.YtiffjbpejlnndaaDoor
open Go.ChangeShapes Go.WideShapes Go.ChangeAt Go.RowKit Go.Shelf

theorem tabs_of_laid {W : World} (h : laidMet Tryd.prog [("math/bits.deBruijn32tab", Rows.laid_math_bits_deBruijn32tab), ("math/bits.deBruijn64tab", Rows.laid_math_bits_deBruijn64tab), ("internal/strconv.uint64pow10", Rows.laid_internal_strconv_uint64pow10)] W) : Tabs W := by
  have h2 := laidMet.tail h
  have h3 := laidMet.tail h2
  have e2 : (Rows.laid_math_bits_deBruijn64tab : DataW Unit) = Lib.tabData .u8 (Lib.deBruijn64tab.map fun x : Nat => (x : Int)) := by rfl
  have e3 : (Rows.laid_internal_strconv_uint64pow10 : DataW Unit) = Lib.tabData .u64 Lib.pow10Tab := by rfl
  rw [e2] at h2
  rw [e3] at h3
  have t2 : Lib.TabIs Tryd.prog W "math/bits.deBruijn64tab" .u8 (Lib.deBruijn64tab.map fun x : Nat => (x : Int)) := Lib.tabIs_of_head (g := 2) (by kernel_rfl) (by kernel_rfl) Tryd.underlying145 Tryd.underlying5 (by kernel_rfl) (by kernel_rfl) h2
  have t3 : Lib.TabIs Tryd.prog W "internal/strconv.uint64pow10" .u64 Lib.pow10Tab := Lib.tabIs_of_head (g := 3) (by kernel_rfl) (by kernel_rfl) Tryd.underlying168 Tryd.underlying130 (by kernel_rfl) (by kernel_rfl) h3
  refine ⟨fun j hj => ?_, t3⟩
  have := t2.cell (g := 2) (by kernel_rfl) j (by simpa using hj)
  rw [this]
  simp [List.getD_eq_getElem?_getD, hj]
theorem all_stays {H : Type} {enc : TypeId × Value → H} {W W' : World} {sp : Nat → Bool} : ∀ (ts : List TypeId) (vs : List Value) (ds : List (DataW H)) (ps : List MemPlace), (∀ t ∈ ts, Tryd.prog.readableRec t = true ∧ t < Tryd.prog.types.size) →
    DataW.TrodAll enc Tryd.prog W 0 (fun _ => true) true ts vs ds ps → (∀ p ∈ ps, W.sameAt W' p) → (∀ p ∈ ps, sp p.block = true) → DataW.TrodAll enc Tryd.prog W' 0 sp true ts vs ds ps
  | [], vs, ds, ps, _, h, _, _ => by
    obtain ⟨rfl, rfl, rfl⟩ := trodAll_nil h
    exact trodAll_mk0
  | t :: ts, vs, ds, ps, hr, h, hs, hp => by
    obtain ⟨v, vs', d, ds', p, q, rfl, rfl, rfl, h1, h2⟩ := trodAll_cons h
    exact ⟨p, q, WideElems.Trod_stays (by kernel_rfl) (hr t List.mem_cons_self).1 (hr t List.mem_cons_self).2 h1 (fun x hx => hs x (List.mem_append_left _ hx)) (fun x hx => hp x (List.mem_append_left _ hx)),
      all_stays ts vs' ds' q (fun u hu => hr u (List.mem_cons_of_mem _ hu)) h2 (fun x hx => hs x (List.mem_append_right _ hx)) (fun x hx => hp x (List.mem_append_right _ hx)), rfl⟩
set_option maxRecDepth 100000 in
/-- A slice of ints that comes in. -/
theorem ints_in {H : Type} {enc : TypeId × Value → H} {W : World} {b : Nat} {v : Value} {d : DataW H} {p : List MemPlace} (hval : Value.okWide Tryd.prog W .any b 29 v) (h : DataW.Trod enc Tryd.prog W 0 (fun _ => true) true 29 v d p) :
    ∃ (A : Option Addr) (c : Nat) (l : List Int), v = .slice A l.length c ∧ IntsAt W W.heap.size A l := by
  obtain ⟨a0, len, cap, rfl⟩ := Go.WideShapes.okWide_slice Tryd.underlying29 hval
  obtain ⟨fuel, hf⟩ := h
  have hc : Tryd.prog.cellsOf 3 = 1 := by kernel_rfl
  rcases Go.ChangeShapes.open_ints Tryd.underlying29 Tryd.underlying3 hc hf with ⟨hcs, hx⟩ | ⟨a, len', cap', zs, hcs, _, hle, hmax, hall, hx, hcell, hwf⟩
  · simp [Value.cells] at hcs
    obtain ⟨rfl, rfl, rfl⟩ := hcs
    exact ⟨none, 0, [], rfl, IntsAt.nil _ _⟩
  · simp [Value.cells] at hcs
    obtain ⟨rfl, rfl, rfl⟩ := hcs
    have hlen : (zs.take len).length = len := by
      rw [List.length_take]
      simp only [if_true] at hall
      omega
    refine ⟨some a, cap, zs.take len, by rw [hlen], fun h0 => ⟨a, rfl, ?_, fun i hi => ?_⟩⟩
    · rw [hlen] at h0
      have := World.block_lt_of_cell? W _ (hcell 0 (by simp only [if_true] at hall; omega))
      rw [addr_add_block] at this
      exact this
    · rw [hlen] at hi
      rw [hcell i (by simp only [if_true] at hall; omega)]
      simp [List.getD_eq_getElem?_getD, hi]
end Go.Proofs.YtiffjbpejlnndaaDoor
