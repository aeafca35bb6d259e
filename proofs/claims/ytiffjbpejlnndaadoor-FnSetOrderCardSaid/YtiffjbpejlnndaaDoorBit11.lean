/-
  The door's bit sets: tell. Conditions: at most 16 words; at most 1000 numbers asked, each at most 1000.
-/
import Derived.Test.YtiffjbpejlnndaaDoorBit10
import Derived.Deep.RegionHeld3
import Derived.Deep.AppendLies
import Derived.Deep.CutBlock
namespace Go.Proofs.YtiffjbpejlnndaaDoor
open Go.RowKit

theorem below_al {B : Nat} {w W : World} {o : Obj} (h : Below B w W) (hB : B ≤ w.heap.size) : Below B w (W.alloc o) := h.alloc (Nat.le_trans hB h.size) o
theorem below_tr {B : Nat} {w W W2 : World} (h : Below B w W) (hB : B ≤ w.heap.size) (k : Below W.heap.size W W2) : Below B w W2 := h.trans (k.mono (Nat.le_trans hB h.size))
abbrev Z43 : Obj := .cells #[.slice none 0 0, .int .i64 0, .int .i64 0, .string ⟨#[]⟩] 43
def TI (w : World) (b : Nat) (W : World) : Prop := Below w.heap.size w W ∧ Blk W w.heap.size 85 #[.pointer (some ⟨b, 0, none⟩)] ∧ Blk W (w.heap.size + 1) 43 #[.slice none 0 0, .int .i64 0, .int .i64 0, .string ⟨#[]⟩]
theorem TI.start (w : World) (b : Nat) : TI w b ((w.alloc (P85 b)).alloc Z43) := by
  refine ⟨below_al (below_al (Below.refl _ _) (Nat.le_refl _)) (Nat.le_refl _), (Blk.new _ _ _).alloc _, ?_⟩
  have := Blk.new (w.alloc (P85 b)) 43 #[.slice none 0 0, .int .i64 0, .int .i64 0, .string ⟨#[]⟩]
  simpa using this
theorem TI.alloc {w W : World} {b : Nat} (h : TI w b W) (o : Obj) : TI w b (W.alloc o) := ⟨below_al h.1 (Nat.le_refl _), h.2.1.alloc o, h.2.2.alloc o⟩
theorem TI.drew {w W : World} {b : Nat} (h : TI w b W) : TI w b W.drew := ⟨h.1.drew, h.2.1.drew, h.2.2.drew⟩
theorem TI.step {w W W2 : World} {b : Nat} (h : TI w b W) (k : Below W.heap.size W W2) : TI w b W2 := ⟨below_tr h.1 (Nat.le_refl _) k, h.2.1.below k h.2.1.lt, h.2.2.below k h.2.2.lt⟩
theorem TI.cell {w W : World} {b : Nat} (h : TI w b W) : W.cell? ⟨w.heap.size, 0, none⟩ = some (.pointer (some ⟨b, 0, none⟩)) := h.2.1.cell 0
theorem TI.ne {w W : World} {b : Nat} (h : TI w b W) : ¬ W.heap.size = w.heap.size := by have := h.2.2.lt; omega
theorem TI.ne' {w W : World} {b : Nat} (h : TI w b W) : ¬ w.heap.size = W.heap.size := by have := h.2.2.lt; omega
theorem TI.lt1 {w W : World} {b : Nat} (h : TI w b W) : w.heap.size + 1 < W.heap.size := h.2.2.lt
theorem TI.set {w W : World} {b g : Nat} (h : TI w b W) (hg : w.heap.size + 1 < g) (i : Nat) (u : Value) : TI w b (W.setCell ⟨g, i, none⟩ u) :=
  ⟨h.1.setCell (p := ⟨g, i, none⟩) (show w.heap.size ≤ g by omega) u, h.2.1.far (p := ⟨g, i, none⟩) (show w.heap.size ≠ g by omega) u, h.2.2.far (p := ⟨g, i, none⟩) (show w.heap.size + 1 ≠ g by omega) u⟩
theorem TI.set4 {w W : World} {b g : Nat} (h : TI w b W) (hg : w.heap.size + 1 < g) (x0 x1 x2 x3 : Value) : TI w b ((((W.setCell ⟨g, 0, none⟩ x0).setCell ⟨g, 1, none⟩ x1).setCell ⟨g, 2, none⟩ x2).setCell ⟨g, 3, none⟩ x3) :=
  (((h.set hg 0 x0).set hg 1 x1).set hg 2 x2).set hg 3 x3
theorem blk4 {W : World} {g : Nat} {t : TypeId} {y0 y1 y2 y3 x0 : Value} (h : Blk W g t #[y0, y1, y2, y3]) (x1 x2 x3 : Value) : Blk ((((W.setCell ⟨g, 0, none⟩ x0).setCell ⟨g, 1, none⟩ x1).setCell ⟨g, 2, none⟩ x2).setCell ⟨g, 3, none⟩ x3) g t #[x0, x1, x2, x3] := by
  have := (((h.set_ 0 x0).set_ 1 x1).set_ 2 x2).set_ 3 x3
  simpa using this
theorem cells4 {W : World} {g : Nat} {t : TypeId} {y0 y1 y2 y3 : Value} (h : Blk W g t #[y0, y1, y2, y3]) :
    W.cell? ⟨g, 0, none⟩ = some y0 ∧ W.cell? ⟨g, 1, none⟩ = some y1 ∧ W.cell? ⟨g, 2, none⟩ = some y2 ∧ W.cell? ⟨g, 3, none⟩ = some y3
      ∧ W.frozen? ⟨g, 0, none⟩ = false ∧ W.frozen? ⟨g, 1, none⟩ = false ∧ W.frozen? ⟨g, 2, none⟩ = false ∧ W.frozen? ⟨g, 3, none⟩ = false :=
  ⟨h.cell 0, h.cell 1, h.cell 2, h.cell 3, h.frozen 0, h.frozen 1, h.frozen 2, h.frozen 3⟩
theorem els_bound (ws : List Nat) (hn : ws.length ≤ 1000) : (els ws ws.length).headD 2147483647 ≤ 2147483647 := by
  cases h : els ws ws.length with
  | nil => exact Nat.le_refl _
  | cons a r =>
    have hm : a ∈ els ws ws.length := by rw [h]; exact List.mem_cons_self
    have := ((els_mem _ _ _).1 hm).1
    show a ≤ _
    omega
theorem TI.bv {w W : World} {b U : Nat} {ws : List Nat} (h : TI w b W) (hv : BV w U b ws) (hU : U ≤ w.heap.size) : BV W U b ws := hv.below h.1 hU
theorem TI.size {w W : World} {b U : Nat} (h : TI w b W) (hU : U ≤ w.heap.size) : U ≤ W.heap.size := Nat.le_trans hU h.1.size
theorem TI.tabs {w W : World} {b : Nat} (h : TI w b W) (hT : Tabs w) : Tabs W := hT.below h.1
theorem zblk {X W2 : World} (hb : Below (X.alloc Z43).heap.size (X.alloc Z43) W2) : Blk W2 X.heap.size 43 #[.slice none 0 0, .int .i64 0, .int .i64 0, .string ⟨#[]⟩] := (Blk.new X 43 _).below hb (by simp)
theorem zblkd {X W2 : World} (hb : Below (X.alloc Z43).drew.heap.size (X.alloc Z43).drew W2) : Blk W2 X.heap.size 43 #[.slice none 0 0, .int .i64 0, .int .i64 0, .string ⟨#[]⟩] := (Blk.new X 43 _).drew.below hb (show X.heap.size < (X.alloc Z43).heap.size by simp)
theorem zcells {W : World} {g : Nat} (h : Blk W g 43 #[.slice none 0 0, .int .i64 0, .int .i64 0, .string ⟨#[]⟩]) :
    W.cell? ⟨g, 0, none⟩ = some (.slice none 0 0) ∧ W.cell? ⟨g, 1, none⟩ = some (.int .i64 0) ∧ W.cell? ⟨g, 2, none⟩ = some (.int .i64 0) ∧ W.cell? ⟨g, 3, none⟩ = some (.string ⟨#[]⟩)
      ∧ W.frozen? ⟨g, 0, none⟩ = false ∧ W.frozen? ⟨g, 1, none⟩ = false ∧ W.frozen? ⟨g, 2, none⟩ = false ∧ W.frozen? ⟨g, 3, none⟩ = false :=
  ⟨h.cell 0, h.cell 1, h.cell 2, h.cell 3, h.frozen 0, h.frozen 1, h.frozen 2, h.frozen 3⟩
def leastB (ws : List Nat) : Nat := if 0 < sumB ws then (els ws ws.length).headD 2147483647 else 0
def hasRow (ws : List Nat) (l : List Nat) : List Value := l.map fun v => Value.bool (inB ws v)
def ToldB (ws l : List Nat) (w : World) (e : Ending) (w' : World) : Prop :=
  ∃ hv, e = .returned (.agg #[hv, .int .i64 (sumB ws : Nat), .int .i64 (leastB ws : Nat), .string (textB (els ws ws.length))]) ∧ Below w.heap.size w w' ∧ w'.ownsRow w.heap.size 4 1 hv l.length (hasRow ws l)

def TellInv (w : World) (b g least sm : Nat) (tx : ByteArray) (ws l : List Nat) (k : Nat) (wr : World) : Prop :=
  TI w b wr ∧ ∃ hv, Blk wr g 43 #[hv, .int .i64 (sm : Int), .int .i64 (least : Int), .string tx] ∧ wr.ownsRow w.heap.size 4 1 hv k (hasRow ws (l.take k))
theorem TellInv.start {w wr : World} {b g least sm : Nat} {tx : ByteArray} {ws : List Nat} (hz : Blk wr g 43 #[.slice none 0 0, .int .i64 (sm : Int), .int .i64 (least : Int), .string tx]) (ht : TI w b wr) (l : List Nat) : TellInv w b g least sm tx ws l 0 wr :=
  ⟨ht, _, hz, World.ownsRow_nil _ _ _ _⟩
theorem own_ne {w : World} {base : Nat} {e t : TypeId} {size n g : Nat} {v : Value} {xs : List Value} {cs : Array Value} (h : w.ownsRow base e size v n xs) (hg : Blk w g t cs) (hne : e ≠ t) : v.ownBlock ≠ some g := by
  rcases h.2 with ⟨rfl, _⟩ | ⟨g', cap, cur, rfl, _, hh, _⟩
  · simp [Value.ownBlock]
  · intro he
    have : g' = g := by simpa [Value.ownBlock] using he
    subst this
    exact Blk.ne_ (t := e) hh hg hne rfl
theorem info4 : (Tryd.prog.info? 4).map (fun i => (i.zero, i.size, i.bytes)) = some (some (.bool false), 1, 1) := by kernel_rfl

theorem one_bool (x : Bool) : ∀ u ∈ [Value.bool x], u.oneCell' = true := by
  intro u hu
  simp at hu
  subst hu
  rfl
theorem size_al {w W : World} (h : Below w.heap.size w W) (o : Obj) : w.heap.size ≤ (W.alloc o).heap.size := (below_al h (Nat.le_refl _)).size
theorem TI.grown {w W W' : World} {b : Nat} {row : Option Nat} (h : TI w b W) (hg : W.grownBy W' row) (h1 : row ≠ some w.heap.size) (h2 : row ≠ some (w.heap.size + 1)) (h3 : ∀ j, row = some j → w.heap.size ≤ j) : TI w b W' :=
  ⟨h.1.grown hg h.1.size h3, h.2.1.grown hg (fun e => h1 e.symm), h.2.2.grown hg (fun e => h2 e.symm)⟩
theorem own_far {w : World} {base : Nat} {e t : TypeId} {size n g : Nat} {v : Value} {xs : List Value} {cs : Array Value} (h : w.ownsRow base e size v n xs) (hg : Blk w g t cs) (hne : e ≠ t) (i : Nat) (u : Value) : (w.setCell ⟨g, i, none⟩ u).ownsRow base e size v n xs :=
  h.kept (only_setCell (only_refl w (some g)) (.inl rfl) u) (.inr (own_ne h hg hne))
theorem below4 {B g : Nat} {w W : World} (h : Below B w W) (hg : B ≤ g) (x0 x1 x2 x3 : Value) : Below B w ((((W.setCell ⟨g, 0, none⟩ x0).setCell ⟨g, 1, none⟩ x1).setCell ⟨g, 2, none⟩ x2).setCell ⟨g, 3, none⟩ x3) :=
  (((h.setCell (p := ⟨g, 0, none⟩) hg x0).setCell (p := ⟨g, 1, none⟩) hg x1).setCell (p := ⟨g, 2, none⟩) hg x2).setCell (p := ⟨g, 3, none⟩) hg x3
theorem own_far4 {w : World} {base : Nat} {e t : TypeId} {size n g : Nat} {v : Value} {xs : List Value} {cs : Array Value} (h : w.ownsRow base e size v n xs) (hg : Blk w g t cs) (hne : e ≠ t) (x0 x1 x2 x3 : Value) :
    ((((w.setCell ⟨g, 0, none⟩ x0).setCell ⟨g, 1, none⟩ x1).setCell ⟨g, 2, none⟩ x2).setCell ⟨g, 3, none⟩ x3).ownsRow base e size v n xs :=
  own_far (own_far (own_far (own_far h hg hne 0 x0) (hg.set_ 0 x0) hne 1 x1) ((hg.set_ 0 x0).set_ 1 x1) hne 2 x2) (((hg.set_ 0 x0).set_ 1 x1).set_ 2 x2) hne 3 x3
theorem info43 : (Tryd.prog.info? 43).map (·.size) = some 4 := by kernel_rfl
theorem hasRow_snoc (ws l : List Nat) (k x : Nat) (h : l[k]? = some x) : hasRow ws (l.take (k + 1)) = hasRow ws (l.take k) ++ [.bool (inB ws x)] := by
  unfold hasRow
  rw [List.take_add_one, h, List.map_append]
  rfl
theorem tell_step {w w2 w3 : World} {b g k : Nat} {hv v3 y1 y2 y3 : Value} {xs ys : List Value} {o : Obj} (ho : w2.ownsRow w.heap.size 4 1 hv k xs) (ht : TI w b w2) (hz : Blk w2 g 43 #[hv, y1, y2, y3]) (hg : w.heap.size + 1 < g)
    (hgrow : (w2.alloc o).grownBy w3 hv.ownBlock) (hown : w3.ownsRow w.heap.size 4 1 v3 (k + 1) ys) :
    w3.cell? ⟨g, 0, none⟩ = some hv ∧ w3.frozen? ⟨g, 0, none⟩ = false ∧ w3.cell? ⟨w.heap.size, 0, none⟩ = some (.pointer (some ⟨b, 0, none⟩))
      ∧ (TI w b (w3.setCell ⟨g, 0, none⟩ v3) ∧ Blk (w3.setCell ⟨g, 0, none⟩ v3) g 43 #[v3, y1, y2, y3] ∧ (w3.setCell ⟨g, 0, none⟩ v3).ownsRow w.heap.size 4 1 v3 (k + 1) ys) := by
  have n1 := own_ne ho ht.2.1 (by decide)
  have n2 := own_ne ho ht.2.2 (by decide)
  have n3 := own_ne ho hz (by decide)
  have hz3 : Blk w3 g 43 #[hv, y1, y2, y3] := (hz.alloc o).grown hgrow (fun e => n3 e.symm)
  have ht3 : TI w b w3 := (ht.alloc o).grown hgrow n1 n2 (fun j hj => (ho.lt j hj).1)
  exact ⟨hz3.cell 0, hz3.frozen 0, ht3.cell, ht3.set hg 0 v3, by simpa using hz3.set_ 0 v3, own_far hown hz3 (by decide) 0 v3⟩

set_option maxRecDepth 100000 in
theorem tell_any (w : World) (U b ga : Nat) (A : Option Addr) (c : Nat) (ws l : List Nat) (hbv : BV w U b ws) (hl : NatsAt w U A l) (hga : ga < U) (hg : w.cell? ⟨ga, 0, none⟩ = some (.slice A l.length c)) (hU : U ≤ w.heap.size)
    (hn : ws.length ≤ 16) (hT : Tabs w) (hll : l.length ≤ 1000) (hlb : ∀ x ∈ l, x ≤ 1000) :
    Calls Tryd.prog 41 #[bv b, .pointer (some ⟨ga, 0, none⟩)] w (ToldB ws l w) := by
  have HV := Lib.hid hbv
  have HT := Lib.hid hT
  have HL := Lib.hid hl
  have Hlb := Lib.hid hlb
  obtain ⟨n, hnn⟩ : ∃ n, l.length = n := ⟨_, rfl⟩
  rw [hnn] at hg hll
  have Hnn := Lib.hid hnn
  clear hbv hT hl hlb hnn
  obtain ⟨i0, hi0, hz0, hz1, hz2⟩ := info_parts info4
  have TI0 := Lib.hid (TI.start w b)
  go_enter Tryd.func41, Tryd.ntmps41
  go_upto_region 1 with fail
  generalize hw0 : ((w.alloc (P85 b)).alloc Z43) = wc
  rw [hw0] at TI0
  have Hw0 := Lib.hid hw0
  clear hw0
  go_cut [4] (fun s4 wx => ∃ g : Nat, s4 = .pointer (some ⟨g, 0, none⟩) ∧ w.heap.size + 1 < g ∧ Blk wx g 43 #[.slice none 0 0, .int .i64 (sumB ws : Nat), .int .i64 0, .string (textB (els ws ws.length))] ∧ TI w b wx)
  case first =>
    have c1 := TI0.out.cell
    have n1 := TI0.out.ne
    have n1' := TI0.out.ne'
    go_region_held3 (fun W => W.cell? ⟨w.heap.size, 0, none⟩ = some (.pointer (some ⟨b, 0, none⟩)))
      (first | go_keep | (simp [*]))
      (first
        | (go_at_call 42; go_fit (zzlength _ U b ws (TI.bv (by repeat (first | exact TI0.out | exact T2.out | exact T3.out | apply TI.drew | apply TI.alloc)) HV.out hU) (TI.size (by repeat (first | exact TI0.out | exact T2.out | exact T3.out | apply TI.drew | apply TI.alloc)) hU) (by omega)); rintro e w2 ⟨rfl, hb⟩; have T2 := Lib.hid (TI.step (by repeat (first | exact TI0.out | exact T2.out | exact T3.out | apply TI.drew | apply TI.alloc)) hb); have c2 := T2.out.cell; have n2 := T2.out.ne; have n2' := T2.out.ne'; (try (have HZ2 : Hid (Blk w2 wc.heap.size 43 #[.slice none 0 0, .int .i64 0, .int .i64 0, .string ⟨#[]⟩]) := (by first | exact zblk hb | exact zblkd hb); obtain ⟨k0, k1, k2, k3, e0, e1, e2, e3⟩ := zcells HZ2.out)); clear hb)
        | (go_at_call 43; go_fit (zztext _ U b ws (TI.bv (by repeat (first | exact TI0.out | exact T2.out | exact T3.out | apply TI.drew | apply TI.alloc)) HV.out hU) (TI.size (by repeat (first | exact TI0.out | exact T2.out | exact T3.out | apply TI.drew | apply TI.alloc)) hU) hn (TI.tabs (by repeat (first | exact TI0.out | exact T2.out | exact T3.out | apply TI.drew | apply TI.alloc)) HT.out)); rintro e w3 ⟨rfl, hb⟩; have T3 := Lib.hid (TI.step (by repeat (first | exact TI0.out | exact T2.out | exact T3.out | apply TI.drew | apply TI.alloc)) hb); have c3 := T3.out.cell; have n3 := T3.out.ne; have n3' := T3.out.ne'; (try (have HZ3 : Hid (Blk w3 w2.heap.size 43 #[.slice none 0 0, .int .i64 0, .int .i64 0, .string ⟨#[]⟩]) := (by first | exact zblk hb | exact zblkd hb); obtain ⟨l0, l1, l2, l3, m0, m1, m2, m3⟩ := zcells HZ3.out)); (try (have HZ4 := Lib.hid (HZ2.out.below hb HZ2.out.lt); obtain ⟨p0, p1, p2, p3, q0, q1, q2, q3⟩ := zcells HZ4.out)); clear hb))
    all_goals go_wp2_with fail
    all_goals go_meet
    · exact ⟨w3.heap.size, rfl, T3.out.lt1, Blk.new _ _ _, T3.out.alloc _⟩
    · exact ⟨w2.heap.size, rfl, T2.out.lt1, blk4 HZ3.out _ _ _, T3.out.set4 T2.out.lt1 _ _ _ _⟩
    · exact ⟨wc.heap.size, rfl, TI0.out.lt1, blk4 HZ4.out _ _ _, T3.out.set4 TI0.out.lt1 _ _ _ _⟩
  case rest =>
    obtain ⟨g, rfl, hg43, hz, ht⟩ := hcut
    obtain ⟨sm, hsm⟩ : ∃ sm, sumB ws = sm := ⟨_, rfl⟩
    obtain ⟨tx, htx⟩ : ∃ tx, textB (els ws ws.length) = tx := ⟨_, rfl⟩
    rw [hsm, htx] at hz
    have Hsm := Lib.hid hsm
    have Htx := Lib.hid htx
    have HZ := Lib.hid hz
    have HTI := Lib.hid ht
    have Hhd := Lib.hid (els_bound ws (by omega))
    have hsmb : sm ≤ 1024 := by
      have := sumB_le ws ws.length
      rw [List.take_length] at this
      omega
    obtain ⟨k0, k1, k2, k3, f0, f1, f2, f3⟩ := cells4 hz
    have cb := ht.cell
    clear hsm htx hz ht
    go_upto_if 14 with fail
    go_cut [] (fun wx => Blk wx g 43 #[.slice none 0 0, .int .i64 (sm : Int), .int .i64 (leastB ws : Nat), .string tx] ∧ TI w b wx)
    case first =>
      by_cases hpos : 0 < sm
      · have hle : leastB ws = (els ws ws.length).headD 2147483647 := by
          unfold leastB
          rw [Hsm.out, if_pos hpos]
        have Hle := Lib.hid hle
        clear hle
        go_wp2_with (go_at_call 44; go_fit (zzleast _ U b ws (TI.bv HTI.out HV.out hU) (TI.size HTI.out hU) (by omega) (TI.tabs HTI.out HT.out)); rw [← Hle.out]; rintro e w2 ⟨rfl, hb⟩; have T2 := Lib.hid (HTI.out.step hb); have HZ2 := Lib.hid (HZ.out.below hb HZ.out.lt); obtain ⟨l0, l1, l2, l3, e0, e1, e2, e3⟩ := cells4 HZ2.out; clear hb)
        go_meet
        case rel => exact ⟨(by simpa using HZ2.out.set_ 2 (.int .i64 (leastB ws : Nat))), T2.out.set hg43 _ _⟩
      · have hle : leastB ws = 0 := by
          unfold leastB
          rw [Hsm.out, if_neg hpos]
        go_wp2_with fail
        go_meet
        case rel => exact ⟨by rw [hle]; exact HZ.out, HTI.out⟩
    case rest =>
      clear k0 k1 k2 k3 f0 f1 f2 f3 cb HZ HTI
      obtain ⟨hz, ht⟩ := hcut
      have HI0 := Lib.hid (TellInv.start (ws := ws) hz ht l)
      have cg := (ht.1.cell (p := ⟨ga, 0, none⟩) (show ga < w.heap.size by omega)).trans hg
      clear hz ht
      go_wp2_with fail
      go_loopw [20] (fun s20 wr => ∃ k : Nat, k ≤ n ∧ s20 = .int .i64 (k : Int) ∧ TellInv w b g (leastB ws) sm tx ws l k wr) (fun s20 _ => n - (intOf s20).toNat)
      case atStart => exact ⟨0, Nat.zero_le _, rfl, HI0.out⟩
      case round =>
        obtain ⟨k, hk, rfl, ht, hv, hz, hown⟩ := hrel
        by_cases hlt : k < n
        · obtain ⟨a, rfl, _, hc⟩ := HL.out.below ht.1 hU (by rw [Hnn.out]; omega)
          have cx := hc k (by rw [Hnn.out]; exact hlt)
          clear hc
          have hx : l[k]? = some (l.getD k 0) := by
            rw [List.getD_eq_getElem?_getD, List.getElem?_eq_getElem (by rw [Hnn.out]; exact hlt)]
            rfl
          obtain ⟨x, hxx⟩ : ∃ x, l.getD k 0 = x := ⟨_, rfl⟩
          rw [hxx] at cx hx
          have hxb := Hlb.out x (List.mem_of_getElem? hx)
          have Hx := Lib.hid hx
          obtain ⟨k0, k1, k2, k3, f0, f1, f2, f3⟩ := cells4 hz
          have cb := ht.cell
          have ng : ¬ g = w.heap.size := by omega
          have ng' : ¬ w.heap.size = g := by omega
          have HT1 := Lib.hid ht
          have HZ1 := Lib.hid hz
          have HO1 := Lib.hid hown
          clear hx hxx ht hz hown
          go_upto_region 7 with fail
          go_region_law (first
              | (refine step_append_lies _ (by rfl) (.tmp 25) (.tmp 29) 41 (by rfl) w.heap.size 4 i0 _ 1 1 Tryd.underlying41 hi0 hz0 hz1 hz2 rfl (by omega) hv k (hasRow ws (l.take k)) (by rfl) (HO2.out.alloc _) ⟨w2.heap.size, 0, none⟩ 1 1 [.bool (inB ws x)] (by rfl) (by rfl) (cells_new w2 [.bool (inB ws x)] 4 _ rfl) (one_bool _) (by omega) (by unfold maxLen; omega) (by omega) (size_al T2.out.1 _) w2.heap.size.succ (by simp) ?_; intro gg cap w3 hown3 hgrow hat hltg; obtain ⟨c3, f3, cb3, hend⟩ := tell_step HO2.out T2.out HZ2.out hg43 hgrow hown3; have HE := Lib.hid hend; clear hend hown3 hgrow hat)
              | (go_simp; go_at_call 45; go_fit (zzcontains _ U b ws x (TI.bv (by first | exact HT1.out | exact HT1.out.drew) HV.out hU) (TI.size (by first | exact HT1.out | exact HT1.out.drew) hU) (by omega) hxb); rintro e w2 ⟨rfl, hb⟩; have T2 : Hid (TI w b w2) := (by first | exact HT1.out.step hb | exact HT1.out.drew.step hb); have HO2 : Hid (w2.ownsRow w.heap.size 4 1 hv k (hasRow ws (l.take k))) := (by first | exact own_below HO1.out hb | exact own_below (World.ownsRow.drew HO1.out) hb); have HZ2 : Hid (Blk w2 g 43 #[hv, .int .i64 (sm : Int), .int .i64 (leastB ws : Int), .string tx]) := (by first | exact HZ1.out.below hb HZ1.out.lt | exact HZ1.out.drew.below hb HZ1.out.lt); have c2 := T2.out.cell; obtain ⟨l0, l1, l2, l3, e0, e1, e2, e3⟩ := cells4 HZ2.out; have la : ∀ o : Obj, (w2.alloc o).cell? ⟨g, 0, none⟩ = some hv := fun o => (HZ2.out.alloc o).cell 0; have lb : ∀ o : Obj, (w2.alloc o).cell? ⟨w.heap.size, 0, none⟩ = some (.pointer (some ⟨b, 0, none⟩)) := fun o => (T2.out.alloc o).cell; clear hb))
          all_goals go_wp2
          all_goals go_roundw
          all_goals first
            | exact ⟨k + 1, by omega, rfl, HE.out.1, _, HE.out.2.1, by rw [hasRow_snoc ws l k x Hx.out]; exact HE.out.2.2⟩
            | (simp [intOf]; omega)
        · have hkn : k = n := by omega
          subst hkn
          have cz := ht.2.2
          obtain ⟨k0, k1, k2, k3, f0, f1, f2, f3⟩ := cells4 hz
          obtain ⟨r0, r1, r2, r3, m0, m1, m2, m3⟩ := cells4 cz
          have HT1 := Lib.hid ht
          have HZ1 := Lib.hid hz
          have HO1 := Lib.hid hown
          clear ht hz hown cz
          obtain ⟨A2, c2, rfl⟩ : ∃ A c, hv = .slice A k c := by
            rcases own_form HO1.out with ⟨rfl, a, c, rfl⟩ | ⟨g, c, rfl, _⟩
            · exact ⟨a, c, rfl⟩
            · exact ⟨_, c, rfl⟩
          go_wp2_with fail
          refine bodyPost_ret (results_cell_row rfl _ _ (w.heap.size + 1) 43 #[.slice A2 k c2, .int .i64 (sm : Int), .int .i64 (leastB ws : Nat), .string tx] (0, 0) _ rfl (blk4 HT1.out.2.2 _ _ _) Tryd.underlying43 rfl info43) rfl ?_
          refine ⟨.slice A2 k c2, by rw [Hsm.out, Htx.out], below4 HT1.out.1 (Nat.le_succ _) _ _ _ _, ?_⟩
          have ho := own_far4 HO1.out HT1.out.2.2 (by decide) (.slice A2 k c2) (.int .i64 (sm : Int)) (.int .i64 (leastB ws : Nat)) (.string tx)
          rw [List.take_of_length_le (by rw [Hnn.out]; exact Nat.le_refl _)] at ho
          rw [Hnn.out]
          exact ho
end Go.Proofs.YtiffjbpejlnndaaDoor
