/-
  What the last part of walk (function 13) stands on: the members lie behind the stack's end.
-/
import Derived.Test.YbulkcykWalkPre
namespace Go.Proofs.Ybulkcyk
open Go.RowKit

/-- The stack ends at p; behind its end lie the members. -/
def MemAt (E : En) (w : World) (g p cap : Nat) (mem : List Nat) : Prop :=
  w.cell? ⟨E.bs, 16, none⟩ = some (.slice (some ⟨g, 0, none⟩) p cap) ∧ ∀ i, i < mem.length → w.cell? ⟨g, p + i, none⟩ = some (iv (mem.getD i 0))
theorem MemAt.stk {E : En} {own : Nat → Tag} {V : Tag → Value} {s : Hs} {w : World} {g p cap : Nat} {mem : List Nat} (h : MemAt E w g p cap mem) (H : HV E own V s w) : V .stk = .slice (some ⟨g, 0, none⟩) p cap := by
  have h1 := h.1
  rw [show w.cell? ⟨E.bs, 16, none⟩ = some (V .stk) from H.mi.cell rfl] at h1
  exact Option.some.inj h1
theorem MemAt.own {E : En} {own : Nat → Tag} {V : Tag → Value} {s : Hs} {w : World} {g p cap : Nat} {mem : List Nat} (h : MemAt E w g p cap mem) (H : HV E own V s w) : own g = .stk ∧ E.B ≤ g := by
  have e := h.stk H
  have hr := H.mi.row .stk _ rfl
  have ho : (rowI (V .stk) s.tj.stk).v.ownBlock = some g := by rw [show (rowI (V .stk) s.tj.stk).v = V .stk from rfl, e]; rfl
  exact ⟨hr.2 g ho, (hr.1.lt ho).1⟩
theorem MemAt.set {E : En} {own : Nat → Tag} {V : Tag → Value} {s : Hs} {w : World} {g p cap : Nat} {mem : List Nat} (h : MemAt E w g p cap mem) (H : HV E own V s w) {t : Tag} (ht : fixed t = true) {b : Nat} (hb : V t = .slice (some ⟨b, 0, none⟩) E.n E.n) (j : Nat) (x : Value) : MemAt E (w.setCell ⟨b, j, none⟩ x) g p cap mem := by
  obtain ⟨ho, hB⟩ := h.own H
  have hob : own b = t ∧ E.B ≤ b := by
    have : ∃ r, RwOf E.n V s t = some r ∧ r.v = V t := by
      cases t <;> first | exact ⟨_, rfl, rfl⟩ | exact absurd ht (by simp [fixed])
    obtain ⟨r, hr, hv⟩ := this
    have hk : r.v.ownBlock = some b := by rw [hv, hb]; rfl
    exact ⟨(H.mi.row t r hr).2 b hk, ((H.mi.row t r hr).1.lt hk).1⟩
  have hne : g ≠ b := fun e => by
    rw [e, hob.1] at ho
    rw [ho] at ht
    cases ht
  have hbs := H.mi.bsB
  have hk : ∀ k : Addr, k.block ≠ b → (w.setCell ⟨b, j, none⟩ x).cell? k = w.cell? k := fun k hk => World.cell?_of_block (Below.heap_setCell _ _ _ _ hk)
  refine ⟨by rw [hk _ (by show E.bs ≠ b; omega)]; exact h.1, fun i hi => by rw [hk _ hne]; exact h.2 i hi⟩
theorem MemAt.grow {E : En} {own : Nat → Tag} {V : Tag → Value} {s : Hs} {w w' : World} {g p cap : Nat} {mem : List Nat} (h : MemAt E w g p cap mem) (H : HV E own V s w) (hg : w.grownBy w' (V .prt).ownBlock) (x : Value) : MemAt E (w'.setCell ⟨E.bs, 5, none⟩ x) g p cap mem := by
  obtain ⟨ho, hB⟩ := h.own H
  have hne : ∀ k, (V .prt).ownBlock = some k → own k = .prt ∧ E.B ≤ k := fun k hk => ⟨(H.mi.row .prt _ rfl).2 k hk, ((H.mi.row .prt _ rfl).1.lt hk).1⟩
  have hbs := H.mi.bsB
  have hlt : g < w.heap.size := by
    have e := h.stk H
    exact ((H.mi.row .stk _ rfl).1.lt (k := g) (by rw [show (rowI (V .stk) s.tj.stk).v = V .stk from rfl, e]; rfl)).2
  have hsz := H.mi.sz
  have hst := H.mi.far (t := .prt) rfl hg
  refine ⟨?_, fun i hi => ?_⟩
  · have e := h.stk H
    have h2 := set_blk hst 5 x
    simp only [World.cell?, h2]
    simp [csOf, e]
  · rw [World.cell?_of_block (a := ⟨g, p + i, none⟩) (Below.heap_setCell _ _ _ _ (by show g ≠ E.bs; omega)), World.cell?_of_block (a := ⟨g, p + i, none⟩) (hg.block g hlt (fun e => by
      have := (hne g e.symm).1
      rw [ho] at this; cases this))]
    exact h.2 i hi
theorem MemAt.drewN {E : En} {w : World} {g p cap : Nat} {mem : List Nat} (h : MemAt E w g p cap mem) (n : Nat) : MemAt E (w.drewN n) g p cap mem := h
/-- The stack is cut; the members lie behind its end. -/
theorem MemAt.cut {E : En} {own : Nat → Tag} {V : Tag → Value} {s : Hs} {w : World} (H : HV E own V s w) {pre mem : List Nat} {g cap : Nat} (hs : s.tj.stk = pre ++ mem) (hv : V .stk = .slice (some ⟨g, 0, none⟩) s.tj.stk.length cap) : (∃ V', HV E own V' { s with tj := { s.tj with stk := pre } } (w.setCell ⟨E.bs, 16, none⟩ (.slice (some ⟨g, 0, none⟩) pre.length cap))) ∧ MemAt E (w.setCell ⟨E.bs, 16, none⟩ (.slice (some ⟨g, 0, none⟩) pre.length cap)) g pre.length cap mem := by
  have h1 := H.truncStk hv pre.length (by rw [hs]; simp)
  have e1 : s.tj.stk.take pre.length = pre := by rw [hs]; simp
  rw [e1] at h1
  refine ⟨⟨_, h1⟩, ?_, fun i hi => ?_⟩
  · rw [show (w.setCell ⟨E.bs, 16, none⟩ (.slice (some ⟨g, 0, none⟩) pre.length cap)).cell? ⟨E.bs, 16, none⟩ = some (updV V .stk (.slice (some ⟨g, 0, none⟩) pre.length cap) .stk) from h1.mi.cell rfl, updV_same]
  · have hr := H.mi.row .stk _ rfl
    have ho : (rowI (V .stk) s.tj.stk).v.ownBlock = some g := by rw [show (rowI (V .stk) s.tj.stk).v = V .stk from rfl, hv]; rfl
    have hB := (hr.1.lt ho).1
    have hbs := H.mi.bsB
    rw [World.cell?_of_block (a := ⟨g, pre.length + i, none⟩) (Below.heap_setCell _ _ _ _ (by show g ≠ E.bs; omega))]
    have := hr.1.cell (i := pre.length + i) (u := iv (mem.getD i 0)) hv (by
      show (s.tj.stk.map iv)[pre.length + i]? = _
      rw [hs, List.getElem?_map, List.getElem?_append_right (by omega), List.getD_eq_getElem?_getD, show pre.length + i - pre.length = i by omega, List.getElem?_eq_getElem hi]
      rfl)
    simpa [rowI] using this
/-- Behind k marks. -/
def Mk (q : Int) (mem : List Nat) (t : Tj) (k : Nat) : Tj := (mem.take k).foldl (markS q) t
theorem Mk_succ (q : Int) (mem : List Nat) (t : Tj) (k : Nat) (h : k < mem.length) : Mk q mem t (k + 1) = markS q (Mk q mem t k) (mem.getD k 0) := by
  unfold Mk
  rw [take_succ' h, List.foldl_append]; rfl
theorem Mk_all (q : Int) (mem : List Nat) (t : Tj) : Mk q mem t mem.length = mem.foldl (markS q) t := by unfold Mk; rw [List.take_length]
theorem popP_eq {A : Nat → List Nat} {v : Nat} {t : Tj} {pre seg : List Nat} (hs : t.stk = pre ++ v :: seg) (hv : v ∉ seg) : popP A v t = (v :: seg).foldl (markS (if isPart A v (v :: seg) then (t.np : Int) else -1)) { t with stk := pre, np := if isPart A v (v :: seg) then t.np + 1 else t.np } := by
  have hpos : posOf t.stk v = pre.length := by rw [hs]; exact posOf_eq hv
  have hmem : t.stk.drop (posOf t.stk v) = v :: seg := by rw [hpos, hs]; simp
  have htk : t.stk.take (posOf t.stk v) = pre := by rw [hpos, hs]; simp
  unfold popP
  simp only [hmem, htk]
theorem WL.cutStk {A : Nat → List Nat} {M : Nat → Prop} {id : Int} {np0 : Nat} {p0 : Nat → Int} {n K v : Nat} {t t1 : Tj} {pre : List Nat} (L : WL A M id np0 p0 n K v t pre t1) : ∃ seg, t1.stk = t.stk ++ v :: seg ∧ v ∉ seg := by
  obtain ⟨seg, h, _⟩ := L.seg
  have h' : t1.stk = t.stk ++ v :: seg := by rw [h]; simp
  refine ⟨seg, h', fun hm => ?_⟩
  have ho := L.ti.ord
  rw [h'] at ho
  have h2 := (List.pairwise_append.1 ho).2.1
  have h3 := (List.pairwise_cons.1 h2).1 v hm
  omega
end Go.Proofs.Ybulkcyk
