/-
  One step over a character stream (charStep): what it tells, and where the stream stands behind it. Conditions: the stream's block is known whole; places and lengths are below 2^62.
-/
import Derived.Test.YtiffjbpejlnndaaDoorStr1
import Derived.Defers
import Derived.Recover
namespace Go.Proofs.YtiffjbpejlnndaaDoor
open Go.RowKit

def strmCells (i : Nat) (g n c : Nat) : Array Value := #[.string ⟨#[60, 101, 109, 112, 116, 121, 62]⟩, .int .i64 i, .slice (some ⟨g, 0, none⟩) n c, .int .i64 n]
/-- Block s is a character stream over the row g of n runes, that stands at i. -/
def Strm (w : World) (s i g n c : Nat) : Prop := Blk w s 118 (strmCells i g n c)
def seenC (k : Int) (p : Bool) : Array Value := #[.int .i64 k, .string ByteArray.empty, .slice none 0 0, .bool p]
def stepC (op : Int) (a : Int) : Array Value := #[.int .u8 op, .int .i64 a, .int .i64 0, .slice none 0 0]

theorem Strm.c1 {w : World} {s i g n c : Nat} (h : Strm w s i g n c) : w.cell? ⟨s, 1, none⟩ = some (.int .i64 i) := (Blk.cell h 1).trans rfl
theorem Strm.c2 {w : World} {s i g n c : Nat} (h : Strm w s i g n c) : w.cell? ⟨s, 2, none⟩ = some (.slice (some ⟨g, 0, none⟩) n c) := (Blk.cell h 2).trans rfl
theorem Strm.c3 {w : World} {s i g n c : Nat} (h : Strm w s i g n c) : w.cell? ⟨s, 3, none⟩ = some (.int .i64 n) := (Blk.cell h 3).trans rfl
theorem Strm.f1 {w : World} {s i g n c : Nat} (h : Strm w s i g n c) : w.frozen? ⟨s, 1, none⟩ = false := Blk.frozen h 1
theorem Strm.alloc {w : World} {s i g n c : Nat} (h : Strm w s i g n c) (o : Obj) : Strm (w.alloc o) s i g n c := Blk.alloc h o
theorem Strm.set_ {w : World} {s i g n c : Nat} (h : Strm w s i g n c) (k : Nat) : Strm (w.setCell ⟨s, 1, none⟩ (.int .i64 k)) s k g n c := Blk.set_ h 1 _
theorem Strm.next {w : World} {s i g n c : Nat} (h : Strm w s i g n c) : Strm (w.setCell ⟨s, 1, none⟩ (.int .i64 ((i : Int) + 1))) s (i + 1) g n c := Blk.set_ h 1 _
theorem Strm.far {w : World} {s i g n c : Nat} (h : Strm w s i g n c) {p : Addr} (hp : s ≠ p.block) (u : Value) : Strm (w.setCell p u) s i g n c := Blk.far h hp u
theorem Strm.drewN {w : World} {s i g n c : Nat} (h : Strm w s i g n c) (k : Nat) : Strm (w.drewN k) s i g n c := h

theorem cell_two (w : World) {a : Addr} {v : Value} (o1 o2 : Obj) (h : w.cell? a = some v) : ((w.alloc o1).alloc o2).cell? a = some v := by
  have hb := World.block_lt_of_cell? w a h
  rw [World.cell?_alloc_lt _ _ _ (by simp; omega), World.cell?_alloc_lt _ _ _ hb, h]

/-- The deferred closure in a frame that returns: nothing. -/
theorem catch_idle (p : Addr) (w : World) :
    CallsD Tryd.prog 62 #[.pointer (some p)] .returning w fun e u' w' => e = .returned (.tuple #[]) ∧ u' = .returning ∧ w = w' := by
  refine callsD_of_wpS Tryd.func62 rfl fun c₀ cs hu => ?_
  apply wpS_seq
  apply wpS_region
  simp [wpOpsS, go_sem, recoverD, hu, Tryd.ntmps62, Exit.thenS]
  refine wpS_cond (t := false) (by simp [Act.eval, Array.replicate]) ?_
  simp only [Bool.false_eq_true, if_false]
  refine wpS_of_wp (wp_skip ?_)
  cases c₀
  simp_all [bodyPostS, results, Tryd.results62]

/-- What a step leaves: it has told k (or that it panicked), only the stream's own block has changed, the stream stands at i'. -/
def StepPost (w : World) (s g n c : Nat) (k : Int) (i' : Nat) (p : Bool) (e : Ending) (w' : World) : Prop :=
  e = .returned (.agg (seenC k p)) ∧ w.grownBy w' (some s) ∧ Strm w' s i' g n c

theorem step_index (w : World) (s i g n c : Nat) (hS : Strm w s i g n c) (a : Int) :
    Calls Tryd.prog 36 #[.pointer (some ⟨s, 0, none⟩), .agg (stepC 4 a)] w (StepPost w s g n c i i false) := by
  have hmf : ∀ (fn : Fn) (first cap : Array Value) (w : World), (Instr.makeFunc fn first cap).run Tryd.prog w = .ok (.func fn first cap) w := fun _ _ _ _ => rfl
  unfold stepC
  go_enter_defers Tryd.func36, Tryd.ntmps36
  go_wp2_with (go_at_call 68; refine (index_any _ _ i ((hS.alloc _).alloc _).c1).mono ?_; rintro e w' ⟨rfl, rfl⟩)
  refine leaves_cons (f := 62) (args := #[.pointer (some ⟨w.heap.size + 1, 0, none⟩)]) (by simp) (by simp [go_sem]) ?_
  refine (catch_idle ⟨w.heap.size + 1, 0, none⟩ _).mono ?_
  rintro e u' w'' ⟨rfl, rfl, rfl⟩
  simp [Leaves, settle, results, Tryd.results36, go_sem]
  exact ⟨rfl, only_alloc (only_alloc (only_refl _ _) _) _, (hS.alloc _).alloc _⟩

theorem step_size (w : World) (s i g n c : Nat) (hS : Strm w s i g n c) (a : Int) :
    Calls Tryd.prog 36 #[.pointer (some ⟨s, 0, none⟩), .agg (stepC 5 a)] w (StepPost w s g n c n i false) := by
  have hmf : ∀ (fn : Fn) (first cap : Array Value) (w : World), (Instr.makeFunc fn first cap).run Tryd.prog w = .ok (.func fn first cap) w := fun _ _ _ _ => rfl
  unfold stepC
  go_enter_defers Tryd.func36, Tryd.ntmps36
  go_wp2_with (go_at_call 69; refine (size_any _ _ n ((hS.alloc _).alloc _).c3).mono ?_; rintro e w' ⟨rfl, rfl⟩)
  refine leaves_cons (f := 62) (args := #[.pointer (some ⟨w.heap.size + 1, 0, none⟩)]) (by simp) (by simp [go_sem]) ?_
  refine (catch_idle ⟨w.heap.size + 1, 0, none⟩ _).mono ?_
  rintro e u' w'' ⟨rfl, rfl, rfl⟩
  simp [Leaves, settle, results, Tryd.results36, go_sem]
  exact ⟨rfl, only_alloc (only_alloc (only_refl _ _) _) _, (hS.alloc _).alloc _⟩

theorem step_mark (w : World) (s i g n c : Nat) (hS : Strm w s i g n c) (a : Int) :
    Calls Tryd.prog 36 #[.pointer (some ⟨s, 0, none⟩), .agg (stepC 3 a)] w (StepPost w s g n c 0 i false) := by
  have hmf : ∀ (fn : Fn) (first cap : Array Value) (w : World), (Instr.makeFunc fn first cap).run Tryd.prog w = .ok (.func fn first cap) w := fun _ _ _ _ => rfl
  unfold stepC
  go_enter_defers Tryd.func36, Tryd.ntmps36
  go_wp2_with (first | (go_at_call 67; refine (mark_any _ _).mono ?_; rintro e w' ⟨rfl, rfl⟩) | (go_at_call 66; refine (release_any _ _ _).mono ?_; rintro e w' ⟨rfl, rfl⟩))
  refine leaves_cons (f := 62) (args := #[.pointer (some ⟨w.heap.size + 1, 0, none⟩)]) (by simp) (by simp [go_sem]) ?_
  refine (catch_idle ⟨w.heap.size + 1, 0, none⟩ _).mono ?_
  rintro e u' w'' ⟨rfl, rfl, rfl⟩
  simp [Leaves, settle, results, Tryd.results36, go_sem]
  exact ⟨rfl, only_alloc (only_alloc (only_refl _ _) _) _, (hS.alloc _).alloc _⟩

theorem step_seek (w : World) (s i g n c : Nat) (hS : Strm w s i g n c) (k : Nat) (hk : k ≤ n) :
    Calls Tryd.prog 36 #[.pointer (some ⟨s, 0, none⟩), .agg (stepC 2 k)] w (StepPost w s g n c 0 k false) := by
  have hmf : ∀ (fn : Fn) (first cap : Array Value) (w : World), (Instr.makeFunc fn first cap).run Tryd.prog w = .ok (.func fn first cap) w := fun _ _ _ _ => rfl
  have hlt : s < w.heap.size := Blk.lt hS
  unfold stepC
  go_enter_defers Tryd.func36, Tryd.ntmps36
  go_wp2_with (go_at_call 65; refine (seek_any _ _ i k n ((hS.alloc _).alloc _).c1 ((hS.alloc _).alloc _).f1 ((hS.alloc _).alloc _).c3 (by omega)).mono ?_; rintro e w' ⟨rfl, rfl⟩)
  refine leaves_cons (f := 62) (args := #[.pointer (some ⟨w.heap.size + 1, 0, none⟩)]) (by simp) (by simp [go_sem]) ?_
  refine (catch_idle ⟨w.heap.size + 1, 0, none⟩ _).mono ?_
  rintro e u' w'' ⟨rfl, rfl, rfl⟩
  simp [Leaves, settle, results, Tryd.results36, go_sem]
  exact ⟨rfl, only_alloc (only_alloc (only_setCell (only_refl _ _) (.inl rfl) _) _) _, ((hS.set_ k).alloc _).alloc _⟩

theorem step_consume (w : World) (s i g n c : Nat) (hS : Strm w s i g n c) (hi : i < n) (hn : n ≤ 9223372036854775806) :
    Calls Tryd.prog 36 #[.pointer (some ⟨s, 0, none⟩), .agg (stepC 0 0)] w (StepPost w s g n c 0 (i + 1) false) := by
  have hmf : ∀ (fn : Fn) (first cap : Array Value) (w : World), (Instr.makeFunc fn first cap).run Tryd.prog w = .ok (.func fn first cap) w := fun _ _ _ _ => rfl
  have hlt : s < w.heap.size := Blk.lt hS
  unfold stepC
  go_enter_defers Tryd.func36, Tryd.ntmps36
  go_wp2_with (go_at_call 63; refine (consume_ok _ _ i n ((hS.alloc _).alloc _).c1 ((hS.alloc _).alloc _).f1 ((hS.alloc _).alloc _).c3 hi (by omega)).mono ?_; rintro e w' ⟨rfl, d, rfl⟩)
  refine leaves_cons (f := 62) (args := #[.pointer (some ⟨w.heap.size + 1, 0, none⟩)]) (by simp) (by simp [go_sem]) ?_
  refine (catch_idle ⟨w.heap.size + 1, 0, none⟩ _).mono ?_
  rintro e u' w'' ⟨rfl, rfl, rfl⟩
  simp [Leaves, settle, results, Tryd.results36, go_sem]
  exact ⟨rfl, only_setCell (only_setCell (only_setCell (only_setCell (only_drewN (only_alloc (only_alloc (only_setCell (only_refl _ _) (.inl rfl) _) _) _) _) (.inr (by simp)) _) (.inr (by simp)) _) (.inr (by simp)) _) (.inr (by simp)) _, ((((((hS.next.alloc _).alloc _).drewN _).far (by simp; omega) _).far (by simp; omega) _).far (by simp; omega) _).far (by simp; omega) _⟩

theorem step_la (w : World) (s i g n c : Nat) (hS : Strm w s i g n c) (r : Int) (hi : i < n) (hn : n ≤ 9223372036854775806) (hr : w.cell? ⟨g, i, none⟩ = some (.int .i32 r)) (r0 : 0 ≤ r) (r1 : r ≤ 2147483647) :
    Calls Tryd.prog 36 #[.pointer (some ⟨s, 0, none⟩), .agg (stepC 1 1)] w (StepPost w s g n c r i false) := by
  have hmf : ∀ (fn : Fn) (first cap : Array Value) (w : World), (Instr.makeFunc fn first cap).run Tryd.prog w = .ok (.func fn first cap) w := fun _ _ _ _ => rfl
  unfold stepC
  have hR : ∀ o1 o2 : Obj, ((w.alloc o1).alloc o2).cell? ⟨g, i, none⟩ = some (.int .i32 r) := fun o1 o2 => cell_two _ _ _ hr
  clear hr
  go_enter_defers Tryd.func36, Tryd.ntmps36
  go_wp2_with (go_at_call 64; refine (la_one _ _ g i c n r hi hn ((hS.alloc _).alloc _).c1 ((hS.alloc _).alloc _).c2 ((hS.alloc _).alloc _).c3 (hR _ _) r0 r1).mono ?_; rintro e w' ⟨rfl, rfl⟩)
  refine leaves_cons (f := 62) (args := #[.pointer (some ⟨w.heap.size + 1, 0, none⟩)]) (by simp) (by simp [go_sem]) ?_
  refine (catch_idle ⟨w.heap.size + 1, 0, none⟩ _).mono ?_
  rintro e u' w'' ⟨rfl, rfl, rfl⟩
  simp [Leaves, settle, results, Tryd.results36, go_sem]
  exact ⟨rfl, only_alloc (only_alloc (only_refl _ _) _) _, (hS.alloc _).alloc _⟩

theorem step_la_end (w : World) (s i g n c : Nat) (hS : Strm w s i g n c) (hi : i = n) (hn : n ≤ 9223372036854775806) :
    Calls Tryd.prog 36 #[.pointer (some ⟨s, 0, none⟩), .agg (stepC 1 1)] w (StepPost w s g n c (-1) i false) := by
  have hmf : ∀ (fn : Fn) (first cap : Array Value) (w : World), (Instr.makeFunc fn first cap).run Tryd.prog w = .ok (.func fn first cap) w := fun _ _ _ _ => rfl
  unfold stepC
  subst hi
  go_enter_defers Tryd.func36, Tryd.ntmps36
  go_wp2_with (go_at_call 64; refine (la_end _ _ i hn ((hS.alloc _).alloc _).c1 ((hS.alloc _).alloc _).c3).mono ?_; rintro e w' ⟨rfl, rfl⟩)
  refine leaves_cons (f := 62) (args := #[.pointer (some ⟨w.heap.size + 1, 0, none⟩)]) (by simp) (by simp [go_sem]) ?_
  refine (catch_idle ⟨w.heap.size + 1, 0, none⟩ _).mono ?_
  rintro e u' w'' ⟨rfl, rfl, rfl⟩
  simp [Leaves, settle, results, Tryd.results36, go_sem]
  exact ⟨rfl, only_alloc (only_alloc (only_refl _ _) _) _, (hS.alloc _).alloc _⟩

theorem step_la_back (w : World) (s i g n c : Nat) (hS : Strm w s i g n c) (p : Nat) (r : Int) (hp : i = p + 1) (hi : p < n) (hn : n ≤ 9223372036854775806) (hr : w.cell? ⟨g, p, none⟩ = some (.int .i32 r)) (r0 : 0 ≤ r) (r1 : r ≤ 2147483647) :
    Calls Tryd.prog 36 #[.pointer (some ⟨s, 0, none⟩), .agg (stepC 1 (-1))] w (StepPost w s g n c r i false) := by
  have hmf : ∀ (fn : Fn) (first cap : Array Value) (w : World), (Instr.makeFunc fn first cap).run Tryd.prog w = .ok (.func fn first cap) w := fun _ _ _ _ => rfl
  unfold stepC
  subst hp
  have hR : ∀ o1 o2 : Obj, ((w.alloc o1).alloc o2).cell? ⟨g, p, none⟩ = some (.int .i32 r) := fun o1 o2 => cell_two _ _ _ hr
  clear hr
  go_enter_defers Tryd.func36, Tryd.ntmps36
  go_wp2_with (go_at_call 64; refine (la_back _ _ g p c n r hi hn ((hS.alloc _).alloc _).c1 ((hS.alloc _).alloc _).c2 ((hS.alloc _).alloc _).c3 (hR _ _) r0 r1).mono ?_; rintro e w' ⟨rfl, rfl⟩)
  refine leaves_cons (f := 62) (args := #[.pointer (some ⟨w.heap.size + 1, 0, none⟩)]) (by simp) (by simp [go_sem]) ?_
  refine (catch_idle ⟨w.heap.size + 1, 0, none⟩ _).mono ?_
  rintro e u' w'' ⟨rfl, rfl, rfl⟩
  simp [Leaves, settle, results, Tryd.results36, go_sem]
  exact ⟨rfl, only_alloc (only_alloc (only_refl _ _) _) _, (hS.alloc _).alloc _⟩
end Go.Proofs.YtiffjbpejlnndaaDoor
