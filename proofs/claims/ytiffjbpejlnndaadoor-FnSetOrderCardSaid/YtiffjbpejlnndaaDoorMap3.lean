/-
  laws.bitTold, where what is told is right. Conditions: at most 1000 numbers asked, each at most 1000.
-/
import Derived.Test.YtiffjbpejlnndaaDoorMap2
namespace Go.Proofs.YtiffjbpejlnndaaDoor
open Go.RowKit Go.Maps

theorem SetAt.drewN {w : World} {g n : Nat} {S : Nat → Bool} (h : SetAt w g n S) (k : Nat) : SetAt (w.drewN k) g n S := h.below (below_drewN (Below.refl w.heap.size w) k) h.lt
theorem own_at {w : World} {base : Nat} {A : Option Addr} {n c : Nat} {xs : List Value} {k : Nat} {u : Value} (h : w.ownsRow base 4 1 (.slice A n c) n xs) (hk : xs[k]? = some u) : ∃ g, A = some ⟨g, 0, none⟩ ∧ w.cell? ⟨g, k, none⟩ = some u := by
  have hl : k < n := by
    have h1 := h.1
    rcases Nat.lt_or_ge k xs.length with h2 | h2
    · omega
    · rw [List.getElem?_eq_none h2] at hk
      cases hk
  rcases own_form h with ⟨h0, _⟩ | ⟨g, c', e, _, _, _, hc⟩
  · omega
  · injection e with e1
    exact ⟨g, e1, hc k u hk⟩

set_option maxRecDepth 100000 in
set_option maxHeartbeats 1000000 in
theorem bitTold_yes (w : World) (U base g m : Nat) (A AH : Option Addr) (c ch : Nat) (ws l : List Nat) (tx : ByteArray) (sm ls : Nat) (hset : SetAt w g m (inB ws)) (hcnt : cnt (inB ws) = sm) (hls : leastS (inB ws) = ls) (hl : NatsAt w U A l) (hU : U ≤ w.heap.size)
    (hown : w.ownsRow base 4 1 (.slice AH l.length ch) l.length (hasRow ws l)) (hll : l.length ≤ 1000) (hlb : ∀ x ∈ l, x ≤ 1000) (_hsm : sm ≤ 201) :
    Calls Tryd.prog 17 #[.agg #[.slice AH l.length ch, .int .i64 (sm : Int), .int .i64 (ls : Int), .string tx], .map (some g), .slice A l.length c] w (Saw w (.bool true)) := by
  let Z : Obj := .cells #[.slice AH l.length ch, .int .i64 (sm : Int), .int .i64 (ls : Int), .string tx] 43
  have hb0 : Below w.heap.size w (w.alloc (.cells #[.slice AH l.length ch, .int .i64 (sm : Int), .int .i64 (ls : Int), .string tx] 43)) := (Below.refl _ _).alloc (Nat.le_refl _) _
  have hz0 : Blk (w.alloc (.cells #[.slice AH l.length ch, .int .i64 (sm : Int), .int .i64 (ls : Int), .string tx] 43)) w.heap.size 43 #[.slice AH l.length ch, .int .i64 (sm : Int), .int .i64 (ls : Int), .string tx] := Blk.new _ _ _
  have HSet := Lib.hid hset
  have HL := Lib.hid hl
  have HO := Lib.hid hown
  have Hlb := Lib.hid hlb
  have Hcnt := Lib.hid hcnt
  have Hls := Lib.hid hls
  obtain ⟨n, hnn⟩ : ∃ n, l.length = n := ⟨_, rfl⟩
  rw [hnn] at hb0 hz0 hll ⊢
  have Hnn := Lib.hid hnn
  have HB0 := Lib.hid hb0
  have HZ0 := Lib.hid hz0
  clear hset hl hown hlb hcnt hls hnn hb0 hz0
  go_enter Tryd.func17, Tryd.ntmps17
  go_upto_region 1 with fail
  generalize (w.alloc (.cells #[.slice AH n ch, .int .i64 (sm : Int), .int .i64 (ls : Int), .string tx] 43)) = w0 at HB0 HZ0 ⊢
  have HS0 := Lib.hid (HSet.out.below HB0.out HSet.out.lt)
  have hlen : ∀ (ty : TypeId) (k : Nat), (Builtin.len_ #[37] ty #[.map (some g)]).run Tryd.prog (w0.drewN k) = .ok (.int .i64 (sm : Int)) (w0.drewN k) := fun ty k => by
    have := (HS0.out.drewN k).len_ ty
    rw [Hcnt.out] at this
    exact this
  obtain ⟨k0, k1, k2, k3, f0, f1, f2, f3⟩ := cells4 HZ0.out
  go_quiet (first | (go_at_call 48; exact Calls.quiet_of_same ((leastOf_any _ g m (inB ws) (HS0.out.drewN _)).mono fun _ _ h => ⟨h.1.trans (by rw [Hls.out]), h.2⟩)))
  have HB1 := Lib.hid (below_drewN HB0.out nq)
  have HZ1 := Lib.hid (HZ0.out.drewN nq)
  clear k0 k1 k2 k3 f0 f1 f2 f3 hlen HS0 HB0 HZ0
  generalize w0.drewN nq = w1 at HB1 HZ1 ⊢
  go_wp2_with fail
  go_loopw [31] (fun s31 wr => ∃ k : Nat, k ≤ n ∧ s31 = .int .i64 (k : Int) ∧ Below w.heap.size w wr ∧ Blk wr w.heap.size 43 #[.slice AH n ch, .int .i64 (sm : Int), .int .i64 (ls : Int), .string tx]) (fun s31 _ => n - (intOf s31).toNat)
  case atStart => exact ⟨0, Nat.zero_le _, rfl, HB1.out, HZ1.out⟩
  case round =>
    obtain ⟨k, hk, rfl, hb, hz⟩ := hrel
    by_cases hlt : k < n
    · obtain ⟨a, rfl, _, hc⟩ := HL.out.below hb hU (by rw [Hnn.out]; omega)
      have cx := hc k (by rw [Hnn.out]; exact hlt)
      clear hc
      have hx : l[k]? = some (l.getD k 0) := by
        rw [List.getD_eq_getElem?_getD, List.getElem?_eq_getElem (by rw [Hnn.out]; exact hlt)]
        rfl
      obtain ⟨x, hxx⟩ : ∃ x, l.getD k 0 = x := ⟨_, rfl⟩
      rw [hxx] at cx hx
      have hxb := Hlb.out x (List.mem_of_getElem? hx)
      obtain ⟨gh, rfl, ch1⟩ := own_at HO.out (show (hasRow ws l)[k]? = some (.bool (inB ws x)) by simp [hasRow, hx])
      obtain ⟨bb, hbb⟩ : ∃ bb, inB ws x = bb := ⟨_, rfl⟩
      rw [hbb] at ch1
      have ch2 := (hb.cell (p := ⟨gh, k, none⟩) (World.block_lt_of_cell? w _ ch1)).trans ch1
      have hlook : ∀ q, (Instr.lookup 37 (.map (some g)) (.int .i64 (x : Int)) false).run Tryd.prog (wr.drewN q) = .ok (.bool bb) (wr.drewN q) := fun q => by
        have := ((HSet.out.below hb HSet.out.lt).drewN q).look x hxb
        rw [hbb] at this
        exact this
      obtain ⟨k0, k1, k2, k3, f0, f1, f2, f3⟩ := cells4 hz
      have HB2 := Lib.hid hb
      have HZ2 := Lib.hid hz
      clear hb hz hx hxx hbb ch1
      go_upto_region 6 with fail
      go_quiet (fail)
      go_wp2
      go_roundw
      case rel => exact ⟨k + 1, by omega, rfl, below_drewN HB2.out _, HZ2.out.drewN _⟩
      case measure =>
        simp [intOf]
        omega
    · have HB2 := Lib.hid hb
      clear hb
      go_wp2
      go_ret
      exact ⟨rfl, HB2.out⟩
end Go.Proofs.YtiffjbpejlnndaaDoor
