/-
  The rows that run makes; the state that split and the loop start from.
-/
import Derived.Test.YbulkcykRunPre
namespace Go.Proofs.Ybulkcyk
open Go.RowKit

abbrev sl (g n : Nat) : Value := .slice (some ⟨g, 0, none⟩) n n
abbrev nilS : Value := .slice none 0 0
def csR (adjv radjv : Value) (lim num : Int) (v4 v5 v8 v9 v11 v13 v14 v15 : Value) : Array Value :=
  #[adjv, radjv, .int .i64 lim, .int .i64 num, v4, v5, .int .i64 0, .int .i64 0, v8, v9, .slice none 0 0, v11, .int .i64 0, v13, v14, v15, .slice none 0 0, .int .i64 0, .slice none 0 0, .bool false]
theorem updT_comm (f : Tag → Option RowSpec) {t u : Tag} (h : t ≠ u) (a b : RowSpec) : updT (updT f t a) u b = updT (updT f u b) t a := by
  funext x
  unfold updT
  by_cases h1 : x = u
  · by_cases h2 : x = t
    · exact absurd (h2.symm.trans h1) h
    · simp only [if_pos h1, if_neg h2]
  · simp only [if_neg h1]
section
variable {w0 w1 w w' : World} {bs B ty : Nat} {own : Nat → Tag} {cs : Array Value} {Rw : Tag → Option RowSpec}
theorem MI.three (h : MI w0 w1 bs B ty own cs Rw w) (u0 u1 u2 : Tag) (z : Value) (e n : Nat) (hn : n ≤ 1000) : ∃ own', MI w0 w1 bs B ty own' cs (updT (updT (updT Rw u0 (rowF e (sl w.heap.size n) n fun _ => z)) u1 (rowF e (sl (w.heap.size + 1) n) n fun _ => z)) u2 (rowF e (sl (w.heap.size + 1 + 1) n) n fun _ => z)) (((w.alloc (.cells (madeCells #[z] n) e)).alloc (.cells (madeCells #[z] n) e)).alloc (.cells (madeCells #[z] n) e)).drew := by
  obtain ⟨o1, M1⟩ := h.made u0 z e n hn
  obtain ⟨o2, M2⟩ := M1.made u1 z e n hn
  obtain ⟨o3, M3⟩ := M2.made u2 z e n hn
  have e1 : (w.alloc (.cells (madeCells #[z] n) e)).heap.size = w.heap.size + 1 := by simp
  have e2 : ((w.alloc (.cells (madeCells #[z] n) e)).alloc (.cells (madeCells #[z] n) e)).heap.size = w.heap.size + 1 + 1 := by simp
  rw [e1, e2] at M3
  exact ⟨o3, M3.drewN 1⟩
/-- Three stores of the rows' slices, then the rows: whatever the order. -/
theorem MI.make3 (h : MI w0 w1 bs B ty own cs Rw w) (k1 k2 k3 : Nat) (t1 t2 t3 : Tag) (h12 : t1 ≠ t2) (h13 : t1 ≠ t3) (h23 : t2 ≠ t3) (z : Value) (e n : Nat) (hn : n ≤ 1000) (d1 d2 d3 : Nat)
    (hd : (d1 = w.heap.size ∧ d2 = w.heap.size + 1 ∧ d3 = w.heap.size + 1 + 1) ∨ (d1 = w.heap.size ∧ d3 = w.heap.size + 1 ∧ d2 = w.heap.size + 1 + 1) ∨ (d2 = w.heap.size ∧ d1 = w.heap.size + 1 ∧ d3 = w.heap.size + 1 + 1) ∨ (d2 = w.heap.size ∧ d3 = w.heap.size + 1 ∧ d1 = w.heap.size + 1 + 1) ∨ (d3 = w.heap.size ∧ d1 = w.heap.size + 1 ∧ d2 = w.heap.size + 1 + 1) ∨ (d3 = w.heap.size ∧ d2 = w.heap.size + 1 ∧ d1 = w.heap.size + 1 + 1)) :
    ∃ own', MI w0 w1 bs B ty own' (((cs.setIfInBounds k1 (sl d1 n)).setIfInBounds k2 (sl d2 n)).setIfInBounds k3 (sl d3 n)) (updT (updT (updT Rw t1 (rowF e (sl d1 n) n fun _ => z)) t2 (rowF e (sl d2 n) n fun _ => z)) t3 (rowF e (sl d3 n) n fun _ => z)) ((((((w.setCell ⟨bs, k1, none⟩ (sl d1 n)).setCell ⟨bs, k2, none⟩ (sl d2 n)).setCell ⟨bs, k3, none⟩ (sl d3 n)).alloc (.cells (madeCells #[z] n) e)).alloc (.cells (madeCells #[z] n) e)).alloc (.cells (madeCells #[z] n) e)).drew := by
  have M := ((h.setC k1 (sl d1 n)).setC k2 (sl d2 n)).setC k3 (sl d3 n)
  have es : (((w.setCell ⟨bs, k1, none⟩ (sl d1 n)).setCell ⟨bs, k2, none⟩ (sl d2 n)).setCell ⟨bs, k3, none⟩ (sl d3 n)).heap.size = w.heap.size := by simp [World.setCell]
  rcases hd with ⟨a, b, c⟩ | ⟨a, b, c⟩ | ⟨a, b, c⟩ | ⟨a, b, c⟩ | ⟨a, b, c⟩ | ⟨a, b, c⟩
  · have q := M.three t1 t2 t3 z e n hn
    rw [es, ← c, ← b, ← a] at q
    exact q
  · have q := M.three t1 t3 t2 z e n hn
    rw [es, ← c, ← b, ← a, updT_comm _ h23.symm] at q
    exact q
  · have q := M.three t2 t1 t3 z e n hn
    rw [es, ← c, ← b, ← a, updT_comm Rw h12.symm] at q
    exact q
  · have q := M.three t2 t3 t1 z e n hn
    rw [es, ← c, ← b, ← a, updT_comm _ h13.symm, updT_comm Rw h12.symm] at q
    exact q
  · have q := M.three t3 t1 t2 z e n hn
    rw [es, ← c, ← b, ← a, updT_comm Rw h13.symm, updT_comm _ h23.symm] at q
    exact q
  · have q := M.three t3 t2 t1 z e n hn
    rw [es, ← c, ← b, ← a, updT_comm Rw h23.symm, updT_comm _ h13.symm, updT_comm Rw h12.symm] at q
    exact q
end
def R1 (n b4 b13 b14 : Nat) : Tag → Option RowSpec := updT (updT (updT (fun _ => none) .pof (rowF 3 (sl b4 n) n fun _ => .int .i64 0)) .idx (rowF 3 (sl b13 n) n fun _ => .int .i64 0)) .low (rowF 3 (sl b14 n) n fun _ => .int .i64 0)
def R2 (n b4 b13 b14 b8 b11 b15 : Nat) : Tag → Option RowSpec := updT (updT (updT (R1 n b4 b13 b14) .blk (rowF 4 (sl b8 n) n fun _ => .bool false)) .tos (rowF 4 (sl b11 n) n fun _ => .bool false)) .ons (rowF 4 (sl b15 n) n fun _ => .bool false)
def R3 (n b4 b13 b14 b8 b11 b15 b9 : Nat) : Tag → Option RowSpec := updT (R2 n b4 b13 b14 b8 b11 b15) .blsO (rowF 26 (sl b9 n) n fun _ => nilS)
def R4 (n b4 b13 b14 b8 b11 b15 b9 ba k : Nat) : Tag → Option RowSpec := updT (R3 n b4 b13 b14 b8 b11 b15 b9) (.mem 0) (rowF 3 (sl ba n) n fun v => if v < k then iv v else .int .i64 0)
def R5 (n b4 b13 b14 b8 b11 b15 b9 ba b5 : Nat) : Tag → Option RowSpec := updT (R4 n b4 b13 b14 b8 b11 b15 b9 ba n) .prt ⟨41, 2, .slice (some ⟨b5, 0, none⟩) 1 1, 1, [sl ba n, .int .i64 0], 0⟩
section
variable {w0 w1 w : World} {bs B : Nat} {own : Nat → Tag} {cs : Array Value} {n b4 b13 b14 b8 b11 b15 b9 ba k : Nat}
theorem fill_step (h : MI w0 w1 bs B 30 own cs (R4 n b4 b13 b14 b8 b11 b15 b9 ba k) w) : MI w0 w1 bs B 30 own cs (R4 n b4 b13 b14 b8 b11 b15 b9 ba (k + 1)) (w.setCell ⟨ba, k, none⟩ (iv k)) := by
  have M := h.setR (t := .mem 0) (r := rowF 3 (sl ba n) n fun v => if v < k then iv v else .int .i64 0) (updT_same _ _ _) rfl rfl k (iv k)
  refine M.congr (fun t q hq => ?_) rfl
  by_cases e : t = .mem 0
  · subst e
    rw [updT_same, ← hq]
    show some _ = some (rowF _ _ _ _)
    unfold rowF
    rw [map_set]
    congr 2
    apply List.map_congr_left
    intro v _
    by_cases e : v = k
    · subst e; simp [upd]
    · by_cases h2 : v < k
      · simp [upd, e, h2, show v < k + 1 by omega]
      · simp [upd, e, h2, show ¬ v < k + 1 by omega]
  · rw [updT_other _ _ e]
    unfold R4 at hq ⊢
    rw [updT_other _ _ e] at hq ⊢
    exact hq
theorem fill_cell (h : MI w0 w1 bs B 30 own cs (R4 n b4 b13 b14 b8 b11 b15 b9 ba k) w) {v : Nat} (hv : v < n) : (∃ x, w.cell? ⟨ba, v, none⟩ = some x) ∧ w.frozen? ⟨ba, v, none⟩ = false := by
  have hr := (h.row (.mem 0) _ (updT_same _ _ _)).1
  refine ⟨⟨(if v < k then iv v else .int .i64 0), ?_⟩, hr.frozen (g := ba) (o := 0) (n := n) (cap := n) rfl v⟩
  have := hr.cell (i := v) (u := if v < k then iv v else .int .i64 0) (g := ba) (n := n) (cap := n) rfl (map_range_get n v _ hv)
  simpa [rowF] using this
end
/-- The state that split 0 meets. -/
def hs0 (n : Nat) (num : Int) : Hs := { tj := (ss0 n num).tj, mem := (ss0 n num).mem, loo := (ss0 n num).loo, jn := (ss0 n num).jn, out := (ss0 n num).out, path := [], tos := fun _ => false, start := 0, within := 0, held := none, off := fun _ => 0 }
theorem hs0_ss (n : Nat) (num : Int) : ssOf (hs0 n num) = ss0 n num := rfl
def V0 (n b4 b13 b14 b8 b11 b15 b9 ba b5 : Nat) : Tag → Value
  | .pof => sl b4 n | .idx => sl b13 n | .low => sl b14 n | .blk => sl b8 n | .tos => sl b11 n | .ons => sl b15 n | .blsO => sl b9 n
  | .prt => .slice (some ⟨b5, 0, none⟩) 1 1
  | .mem 0 => sl ba n
  | _ => nilS
theorem hv0 {E : En} {own : Nat → Tag} {w : World} {num : Int} {b4 b13 b14 b8 b11 b15 b9 ba b5 : Nat} (h : MI E.w0 E.w1 E.bs E.B 30 own (csR E.adjv E.radjv E.lim num (sl b4 E.n) (.slice (some ⟨b5, 0, none⟩) 1 1) (sl b8 E.n) (sl b9 E.n) (sl b11 E.n) (sl b13 E.n) (sl b14 E.n) (sl b15 E.n)) (R5 E.n b4 b13 b14 b8 b11 b15 b9 ba b5) w) :
    HV E own (V0 E.n b4 b13 b14 b8 b11 b15 b9 ba b5) (hs0 E.n num) w := by
  refine ⟨fun t ht => ?_, h.bel, h.b0, h.bsB, h.sz, h.keep, h.st, fun t q hq => ?_⟩
  · cases t <;> first | exact ⟨_, rfl⟩ | exact absurd ht (by simp [fixed])
  · have nilr : ∀ (l : RowSpec), l.v = nilS → l.n = 0 → l.xs = [] → RowP E.B l w ∧ ∀ k, l.v.ownBlock = some k → own k = t := fun l h1 h2 h3 => ⟨⟨by rw [h2, h3]; simp, .inl ⟨h1, h2⟩⟩, fun k hk => by rw [h1] at hk; cases hk⟩
    have hpf : ∀ u, u < E.n → (hs0 E.n num).tj.pof u = 0 := fun u hu => if_pos hu
    cases t with
    | pof =>
      have e : rowF 3 (sl b4 E.n) E.n (fun v => .int .i64 ((hs0 E.n num).tj.pof v)) = rowF 3 (sl b4 E.n) E.n fun _ => .int .i64 0 := by
        unfold rowF
        congr 1
        exact List.map_congr_left fun u hu => by rw [hpf u (List.mem_range.1 hu)]
      refine h.row .pof q ?_
      rw [← hq]
      show _ = some (rowF 3 (sl b4 E.n) E.n _)
      rw [e]; rfl
    | idx => exact h.row .idx q hq
    | low => exact h.row .low q hq
    | blk => exact h.row .blk q hq
    | tos => exact h.row .tos q hq
    | ons => exact h.row .ons q hq
    | blsO => exact h.row .blsO q hq
    | prt => exact h.row .prt q hq
    | path => cases hq; exact nilr _ rfl rfl rfl
    | stk => cases hq; exact nilr _ rfl rfl rfl
    | cycO => cases hq; exact nilr _ rfl rfl rfl
    | held => cases hq
    | bls v =>
      have hq' : (if v < E.n then some (rowI nilS []) else none) = some q := hq
      split at hq'
      · cases hq'; exact nilr _ rfl rfl rfl
      · cases hq'
    | mem p =>
      have hq' : (if p < 1 then some { rowI (V0 E.n b4 b13 b14 b8 b11 b15 b9 ba b5 (.mem p)) ((hs0 E.n num).mem p) with off := 0 } else none) = some q := hq
      split at hq'
      · rename_i hp
        obtain rfl : p = 0 := by omega
        refine h.row (.mem 0) q ?_
        rw [← hq']
        show R5 E.n b4 b13 b14 b8 b11 b15 b9 ba b5 (.mem 0) = some (RowSpec.mk 3 1 (sl ba E.n) (List.range E.n).length ((List.range E.n).map iv) 0)
        unfold R5
        rw [updT_other _ _ (by simp)]
        unfold R4
        rw [updT_same, List.length_range]
        unfold rowF
        congr 2
        exact List.map_congr_left fun u hu => by rw [if_pos (List.mem_range.1 hu)]
      · cases hq'
    | cyc k =>
      have hq' : (if k < 0 then some (rowI (V0 E.n b4 b13 b14 b8 b11 b15 b9 ba b5 (.cyc k)) (([] : List (List Nat)).getD k [])) else none) = some q := hq
      rw [if_neg (by omega)] at hq'
      cases hq'
end Go.Proofs.Ybulkcyk
