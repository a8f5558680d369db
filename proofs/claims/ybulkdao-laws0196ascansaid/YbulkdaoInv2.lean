/-
  The whole of what RecoveryOf holds in memory, and its steps.
-/
import Derived.Test.YbulkdaoInv
import Derived.Maps.RangeWalk
namespace Go.Proofs.Ybulkdao
open Go.RowKit Go.ChangeMaps

def cW (k : ByteArray) : Cd := (0, k, 0)
def cT (t : Int) : Cd := (2, ⟨#[]⟩, t)
def cF (t : Int) : Cd := (3, ⟨#[]⟩, t)
theorem cW_inj (a b : ByteArray) (h : cW a = cW b) : a = b := by simpa [cW] using h
theorem cT_inj (a b : Int) (h : cT a = cT b) : a = b := by simpa [cT] using h
theorem cF_inj (a b : Int) (h : cF a = cF b) : a = b := by simpa [cF] using h
theorem zero45 (w : World) : (zeroValue 45).run Yba.prog w = .ok (.slice none 0 0) w := by kernel_rfl
theorem zero46 (w : World) : (zeroValue 46).run Yba.prog w = .ok (.slice none 0 0) w := by kernel_rfl

structure Inv (w0 : World) (bs br bc ba bw bo bt bf base : Nat) (pr : Nat → Option Obj) (own : Nat → Cd) (σ : Sig) (w : World) : Prop where
  bel : Below bs w0 w
  kp : ∀ y o, pr y = some o → w.heap[y]? = some o ∧ (y < bs ∨ (base ≤ y ∧ (own y).1 = 8))
  ord : bs < br ∧ br < bc ∧ bc < ba ∧ ba < bw ∧ bw < bo ∧ bo < bt ∧ bt < bf ∧ bf < base
  sz : base ≤ w.heap.size
  res : w.heap[bs]? = some (.cells #[.bool false, .bool false, .bool false] 34 (0, 0))
  r : w.heap[br]? = some (.cells #[.bool σ.rcv, .bool σ.cas, .bool σ.str] 34 (0, 0))
  mc : BoMap bc σ.com w
  ma : BoMap ba σ.abo w
  mw : SlMap (fun a b : ByteArray => a == b) Value.string (Value.int .i64) 3 bw base cW own σ.wrs w
  mo : OpMap bo base own σ.opn w
  mt : SlMap (fun a b : Int => a == b) (Value.int .i64) Value.string 9 bt base cT own σ.wrt w
  mf : SlMap (fun a b : Int => a == b) (Value.int .i64) (Value.int .i64) 3 bf base cF own σ.rdf w

section
variable {w0 : World} {bs br bc ba bw bo bt bf base : Nat} {pr : Nat → Option Obj} {own : Nat → Cd} {σ : Sig} {w w' : World}

theorem blk_kept {row : Option Nat} {b : Nat} {o : Obj} (hg : w.grownBy w' row) (hne : row ≠ some b) (h : w.heap[b]? = some o) : w'.heap[b]? = some o := by
  rw [hg.block b (lt_of_block h) (fun e => hne e.symm)]; exact h

/-- New blocks, draws. -/
theorem Inv.grown (h : Inv w0 bs br bc ba bw bo bt bf base pr own σ w) (hg : w.grownBy w' none) : Inv w0 bs br bc ba bw bo bt bf base pr own σ w' :=
  ⟨h.bel.grown hg (by have := h.ord; have := h.sz; omega) (fun k e => by cases e), (fun y o hy => ⟨blk_kept hg (by simp) (h.kp y o hy).1, (h.kp y o hy).2⟩), h.ord, Nat.le_trans h.sz hg.size, blk_kept hg (by simp) h.res, blk_kept hg (by simp) h.r, h.mc.kept hg (by simp), h.ma.kept hg (by simp), h.mw.kept hg (by simp) (fun g e => by cases e) (fun _ _ _ _ => rfl), h.mo.kept hg (by simp) (fun g e => by cases e) (fun _ _ _ _ => rfl), h.mt.kept hg (by simp) (fun g e => by cases e) (fun _ _ _ _ => rfl), h.mf.kept hg (by simp) (fun g e => by cases e) (fun _ _ _ _ => rfl)⟩
theorem grown_drewN (w : World) (n : Nat) : w.grownBy (w.drewN n) none := ⟨rfl, rfl, rfl, Nat.le_refl _, fun _ _ _ => rfl⟩
theorem Inv.drewN (h : Inv w0 bs br bc ba bw bo bt bf base pr own σ w) (n : Nat) : Inv w0 bs br bc ba bw bo bt bf base pr own σ (w.drewN n) := h.grown (grown_drewN w n)
theorem Inv.alloc (h : Inv w0 bs br bc ba bw bo bt bf base pr own σ w) (o : Obj) : Inv w0 bs br bc ba bw bo bt bf base pr own σ (w.alloc o) := h.grown (World.grownBy_alloc w o none)

/-- A store into r. -/
theorem Inv.setR (h : Inv w0 bs br bc ba bw bo bt bf base pr own σ w) (hg : w.grownBy w' (some br)) (x y z : Bool) (hr : w'.heap[br]? = some (.cells #[.bool x, .bool y, .bool z] 34 (0, 0))) : Inv w0 bs br bc ba bw bo bt bf base pr own { σ with rcv := x, cas := y, str := z } w' := by
  have o := h.ord
  exact ⟨h.bel.grown hg (by have := h.sz; omega) (fun k e => by simp at e; omega), (fun y ob hy => ⟨blk_kept hg (by have := (h.kp y ob hy).2; simp; omega) (h.kp y ob hy).1, (h.kp y ob hy).2⟩), o, Nat.le_trans h.sz hg.size, blk_kept hg (by simp; omega) h.res, hr, h.mc.kept hg (by simp; omega), h.ma.kept hg (by simp; omega), h.mw.kept hg (by simp; omega) (fun g e => by simp at e; omega) (fun _ _ _ _ => rfl), h.mo.kept hg (by simp; omega) (fun g e => by simp at e; omega) (fun _ _ _ _ => rfl), h.mt.kept hg (by simp; omega) (fun g e => by simp at e; omega) (fun _ _ _ _ => rfl), h.mf.kept hg (by simp; omega) (fun g e => by simp at e; omega) (fun _ _ _ _ => rfl)⟩
theorem grown_setCell (w : World) (a : Addr) (v : Value) : w.grownBy (w.setCell a v) (some a.block) := ⟨rfl, rfl, rfl, by simp [World.setCell], fun k _ hk => Below.heap_setCell _ _ _ _ (fun e => hk (by rw [e]))⟩
theorem set_blk {b : Nat} {cs : Array Value} {t : TypeId} (h : w.heap[b]? = some (.cells cs t (0, 0))) (j : Nat) (v : Value) : (w.setCell ⟨b, j, none⟩ v).heap[b]? = some (.cells (cs.setIfInBounds j v) t (0, 0)) := by
  have hlt := lt_of_block h
  have h' : w.heap[b] = .cells cs t (0, 0) := by simpa [Array.getElem?_eq_getElem hlt] using h
  show (w.heap.modify b _)[b]? = _
  rw [Array.getElem?_eq_getElem (by simpa using hlt), Array.getElem_modify_self, h']
  rfl
theorem Inv.set0 (h : Inv w0 bs br bc ba bw bo bt bf base pr own σ w) (x : Bool) : Inv w0 bs br bc ba bw bo bt bf base pr own { σ with rcv := x } (w.setCell ⟨br, 0, none⟩ (.bool x)) :=
  h.setR (grown_setCell w ⟨br, 0, none⟩ _) x σ.cas σ.str (set_blk h.r 0 _)
theorem Inv.set1 (h : Inv w0 bs br bc ba bw bo bt bf base pr own σ w) (x : Bool) : Inv w0 bs br bc ba bw bo bt bf base pr own { σ with cas := x } (w.setCell ⟨br, 1, none⟩ (.bool x)) :=
  h.setR (grown_setCell w ⟨br, 1, none⟩ _) σ.rcv x σ.str (set_blk h.r 1 _)
theorem Inv.set2 (h : Inv w0 bs br bc ba bw bo bt bf base pr own σ w) (x : Bool) : Inv w0 bs br bc ba bw bo bt bf base pr own { σ with str := x } (w.setCell ⟨br, 2, none⟩ (.bool x)) :=
  h.setR (grown_setCell w ⟨br, 2, none⟩ _) σ.rcv σ.cas x (set_blk h.r 2 _)
theorem Inv.c0 (h : Inv w0 bs br bc ba bw bo bt bf base pr own σ w) : w.cell? ⟨br, 0, none⟩ = some (.bool σ.rcv) := by simp [World.cell?, h.r]
theorem Inv.c1 (h : Inv w0 bs br bc ba bw bo bt bf base pr own σ w) : w.cell? ⟨br, 1, none⟩ = some (.bool σ.cas) := by simp [World.cell?, h.r]
theorem Inv.c2 (h : Inv w0 bs br bc ba bw bo bt bf base pr own σ w) : w.cell? ⟨br, 2, none⟩ = some (.bool σ.str) := by simp [World.cell?, h.r]
theorem Inv.fr (h : Inv w0 bs br bc ba bw bo bt bf base pr own σ w) (j : Nat) : w.frozen? ⟨br, j, none⟩ = false := by simp [World.frozen?, h.r]

/-- 'committed[t] = true', 'aborted[t] = true'. -/
theorem Inv.putC (h : Inv w0 bs br bc ba bw bo bt bf base pr own σ w) (t : Int) : ∃ w', (Instr.mapUpdate 39 (.map (some bc)) (.int .i64 t) (.bool true)).run Yba.prog w = .ok () w' ∧ Inv w0 bs br bc ba bw bo bt bf base pr own { σ with com := updI σ.com t true } w' ∧ w.grownBy w' (some bc) := by
  have o := h.ord
  obtain ⟨w', r1, r2, hg, _⟩ := h.mc.set t
  exact ⟨w', r1, ⟨h.bel.grown hg (by have := h.sz; omega) (fun k e => by simp at e; omega), (fun y ob hy => ⟨blk_kept hg (by have := (h.kp y ob hy).2; simp; omega) (h.kp y ob hy).1, (h.kp y ob hy).2⟩), o, Nat.le_trans h.sz hg.size, blk_kept hg (by simp; omega) h.res, blk_kept hg (by simp; omega) h.r, r2, h.ma.kept hg (by simp; omega), h.mw.kept hg (by simp; omega) (fun g e => by simp at e; omega) (fun _ _ _ _ => rfl), h.mo.kept hg (by simp; omega) (fun g e => by simp at e; omega) (fun _ _ _ _ => rfl), h.mt.kept hg (by simp; omega) (fun g e => by simp at e; omega) (fun _ _ _ _ => rfl), h.mf.kept hg (by simp; omega) (fun g e => by simp at e; omega) (fun _ _ _ _ => rfl)⟩, hg⟩
theorem Inv.putA (h : Inv w0 bs br bc ba bw bo bt bf base pr own σ w) (t : Int) : ∃ w', (Instr.mapUpdate 39 (.map (some ba)) (.int .i64 t) (.bool true)).run Yba.prog w = .ok () w' ∧ Inv w0 bs br bc ba bw bo bt bf base pr own { σ with abo := updI σ.abo t true } w' ∧ w.grownBy w' (some ba) := by
  have o := h.ord
  obtain ⟨w', r1, r2, hg, _⟩ := h.ma.set t
  exact ⟨w', r1, ⟨h.bel.grown hg (by have := h.sz; omega) (fun k e => by simp at e; omega), (fun y ob hy => ⟨blk_kept hg (by have := (h.kp y ob hy).2; simp; omega) (h.kp y ob hy).1, (h.kp y ob hy).2⟩), o, Nat.le_trans h.sz hg.size, blk_kept hg (by simp; omega) h.res, blk_kept hg (by simp; omega) h.r, h.mc.kept hg (by simp; omega), r2, h.mw.kept hg (by simp; omega) (fun g e => by simp at e; omega) (fun _ _ _ _ => rfl), h.mo.kept hg (by simp; omega) (fun g e => by simp at e; omega) (fun _ _ _ _ => rfl), h.mt.kept hg (by simp; omega) (fun g e => by simp at e; omega) (fun _ _ _ _ => rfl), h.mf.kept hg (by simp; omega) (fun g e => by simp at e; omega) (fun _ _ _ _ => rfl)⟩, hg⟩

/-- Another inner map: its entries have turned. -/
theorem Inv.atO (h : Inv w0 bs br bc ba bw bo bt bf base pr own σ w) (k : ByteArray) :
    ∃ v, (∀ w', w'.heap[bo]? = w.heap[bo]? → (Instr.lookup 41 (.map (some bo)) (.string k) false).run Yba.prog w' = .ok v w') ∧
      ((v = .map none ∧ σ.opn k = []) ∨ ∃ r, v = .map (some r) ∧ base ≤ r ∧ own r = cO k ∧ MapAt (Value.int .i64) r (trues (σ.opn k)) w ∧
        (∀ (w1 : World) (l' : List Int), w.grownBy w1 (some r) → MapAt (Value.int .i64) r (trues l') w1 → Inv w0 bs br bc ba bw bo bt bf base pr own { σ with opn := updS σ.opn k l' } w1)) := by
  have o := h.ord
  obtain ⟨v, h1, h2⟩ := h.mo.at k
  refine ⟨v, h1, ?_⟩
  rcases h2 with h2 | ⟨r, h2, h3, h4, h5, h6⟩
  · exact .inl h2
  · refine .inr ⟨r, h2, h3, h4, h5, fun w1 l' hg hm => ⟨h.bel.grown hg (by have := h.sz; omega) (fun k e => by simp at e; omega), (fun y ob hy => ⟨blk_kept hg (fun e => by
      simp at e
      rcases (h.kp y ob hy).2 with q | q
      · omega
      · rw [← e, h4] at q; simp [cO] at q) (h.kp y ob hy).1, (h.kp y ob hy).2⟩), o, Nat.le_trans h.sz hg.size, blk_kept hg (by simp; omega) h.res, blk_kept hg (by simp; omega) h.r, h.mc.kept hg (by simp; omega), h.ma.kept hg (by simp; omega), h.mw.kept hg (by simp; omega) (fun g e => ?_) (fun _ _ _ _ => rfl), h6 w1 l' hg hm (by omega), h.mt.kept hg (by simp; omega) (fun g e => ?_) (fun _ _ _ _ => rfl), h.mf.kept hg (by simp; omega) (fun g e => ?_) (fun _ _ _ _ => rfl)⟩⟩
    · simp at e; subst e; right; intro k'; rw [h4]; simp [cO, cW]
    · simp at e; subst e; right; intro k'; rw [h4]; simp [cO, cT]
    · simp at e; subst e; right; intro k'; rw [h4]; simp [cO, cF]
/-- A new inner map is laid and stored. -/
theorem Inv.makeO (h : Inv w0 bs br bc ba bw bo bt bf base pr own σ w) (k : ByteArray) (hk : σ.opn k = []) :
    ∃ w2 own', (Instr.mapUpdate 41 (.map (some bo)) (.string k) (.map (some w.heap.size))).run Yba.prog (w.alloc (.map #[] 0)) = .ok () w2 ∧ Inv w0 bs br bc ba bw bo bt bf base pr own' σ w2 ∧ (w.alloc (.map #[] 0)).grownBy w2 (some bo) ∧ (Instr.lookup 41 (.map (some bo)) (.string k) false).run Yba.prog w2 = .ok (.map (some w.heap.size)) w2 := by
  have o := h.ord
  obtain ⟨w2, r1, r2, hg, r4, r5⟩ := h.mo.make k hk h.sz (by omega)
  have ha := h.alloc (.map #[] 0)
  have hl : (w.alloc (.map #[] 0)).heap.size = w.heap.size + 1 := by simp
  refine ⟨w2, _, r1, ⟨ha.bel.grown hg (by have := ha.sz; omega) (fun k e => by simp at e; omega), (fun y ob hy => ⟨blk_kept hg (by have := (h.kp y ob hy).2; simp; omega) (ha.kp y ob hy).1, by
      have hgl := lt_of_block (h.kp y ob hy).1
      rcases (h.kp y ob hy).2 with q | q
      · exact .inl q
      · exact .inr ⟨q.1, by rw [if_neg (by omega)]; exact q.2⟩⟩), o, Nat.le_trans ha.sz hg.size, blk_kept hg (by simp; omega) ha.res, blk_kept hg (by simp; omega) ha.r, ha.mc.kept hg (by simp; omega), ha.ma.kept hg (by simp; omega), ?_, r2, ?_, ?_⟩, hg, r5⟩
  · have hk := h.mw.kept (own' := fun x => if x = w.heap.size then cO k else own x) (World.grownBy_alloc w (.map #[] 0) none) (by simp) (fun g e => by cases e) (fun g _ h2 _ => by rw [if_neg (by omega)])
    exact hk.kept hg (by simp; omega) (fun g e => by simp at e; omega) (fun _ _ _ _ => rfl)
  · have hk := h.mt.kept (own' := fun x => if x = w.heap.size then cO k else own x) (World.grownBy_alloc w (.map #[] 0) none) (by simp) (fun g e => by cases e) (fun g _ h2 _ => by rw [if_neg (by omega)])
    exact hk.kept hg (by simp; omega) (fun g e => by simp at e; omega) (fun _ _ _ _ => rfl)
  · have hk := h.mf.kept (own' := fun x => if x = w.heap.size then cO k else own x) (World.grownBy_alloc w (.map #[] 0) none) (by simp) (fun g e => by cases e) (fun g _ h2 _ => by rw [if_neg (by omega)])
    exact hk.kept hg (by simp; omega) (fun g e => by simp at e; omega) (fun _ _ _ _ => rfl)

/-- 'W': what lies at a key; the way back behind an append to it; the way back behind a plain store. -/
theorem Inv.atW (h : Inv w0 bs br bc ba bw bo bt bf base pr own σ w) (k : ByteArray) :
    ∃ v, w.ownsRow base 3 1 v (σ.wrs k).length ((σ.wrs k).map (Value.int .i64)) ∧ (∀ g, v.ownBlock = some g → own g = cW k) ∧
      (∀ w', w'.heap[bw]? = w.heap[bw]? → (Instr.lookup 40 (.map (some bw)) (Value.string k) false).run Yba.prog w' = .ok v w') ∧
      (∀ (w1 : World) (g cap : Nat) (x : Int), w.grownBy w1 v.ownBlock → w1.ownsRow base 3 1 (.slice (some ⟨g, 0, none⟩) ((σ.wrs k).length + 1) cap) ((σ.wrs k).length + 1) ((σ.wrs k).map (Value.int .i64) ++ [(Value.int .i64) x]) → (v.ownBlock = some g ∨ w.heap.size ≤ g) →
        ∃ w2 own', (Instr.mapUpdate 40 (.map (some bw)) (Value.string k) (.slice (some ⟨g, 0, none⟩) ((σ.wrs k).length + 1) cap)).run Yba.prog w1 = .ok () w2 ∧ Inv w0 bs br bc ba bw bo bt bf base pr own' { σ with wrs := updS σ.wrs k (σ.wrs k ++ [x]) } w2 ∧ w1.grownBy w2 (some bw)) ∧
      (∀ (v' : Value) (xs' : List Int), w.ownsRow base 3 1 v' xs'.length (xs'.map (Value.int .i64)) → (∀ g, v'.ownBlock = some g → own g = cW k) →
        ∃ w2, (Instr.mapUpdate 40 (.map (some bw)) (Value.string k) v').run Yba.prog w = .ok () w2 ∧ Inv w0 bs br bc ba bw bo bt bf base pr own { σ with wrs := updS σ.wrs k xs' } w2 ∧ w.grownBy w2 (some bw)) := by
  have o := h.ord
  obtain ⟨v, h1, h2, h3, h4⟩ := h.mw.at keyS Yba.underlying40 zero45 cW_inj k
  refine ⟨v, h1, h2, h3, ?_, ?_⟩
  · intro w1 g cap x hg hown hat
    have hg0 : ∀ y, v.ownBlock = some y → base ≤ y ∧ y < w.heap.size := fun y hy => own_block h1 hy
    have hne : ∀ y, v.ownBlock = some y → own y = cW k := h2
    obtain ⟨w2, r1, r2, hg2, _⟩ := h4 w1 v.ownBlock hg (.inr rfl) (.slice (some ⟨g, 0, none⟩) ((σ.wrs k).length + 1) cap) (σ.wrs k ++ [x]) (fun y => if y = g then cW k else own y) (by simpa using hown) (fun y hy => by simp [Value.ownBlock] at hy; simp [hy]) (fun y q1 q2 q3 => by
      rw [if_neg]
      rintro rfl
      rcases hat with q | q
      · exact q3 (hne _ q)
      · omega) (by omega)
    have fixed : ∀ c, c < base → v.ownBlock ≠ some c := fun c hc e => by have := (hg0 c e).1; omega
    have hk8 : (cW k).1 ≠ 8 := by simp [cW]
    have kp2 : ∀ y ob, pr y = some ob → w2.heap[y]? = some ob ∧ (y < bs ∨ (base ≤ y ∧ (if y = g then cW k else own y).1 = 8)) := by
      intro y ob hy
      obtain ⟨q0, q⟩ := h.kp y ob hy
      have hgl := lt_of_block q0
      have hgr : v.ownBlock ≠ some y := by
        intro e
        rcases q with q | q
        · have := (hg0 _ e).1; omega
        · rw [hne _ e] at q; exact hk8 q.2
      refine ⟨blk_kept hg2 (by simp; omega) (blk_kept hg hgr q0), ?_⟩
      rcases q with q | q
      · exact .inl q
      · refine .inr ⟨q.1, ?_⟩
        rw [if_neg]
        · exact q.2
        · rintro rfl
          rcases hat with q2 | q2
          · exact hgr q2
          · omega
    refine ⟨w2, fun y => if y = g then cW k else own y, r1, ⟨(h.bel.grown hg (by have := h.sz; omega) (fun y e => by have := (hg0 y e).1; omega)).grown hg2 (by have := h.sz; have := hg.size; omega) (fun y e => by simp at e; omega), kp2, o, Nat.le_trans h.sz (Nat.le_trans hg.size hg2.size), blk_kept hg2 (by simp; omega) (blk_kept hg (fixed _ (by omega)) h.res), blk_kept hg2 (by simp; omega) (blk_kept hg (fixed _ (by omega)) h.r), (h.mc.kept hg (fixed _ (by omega))).kept hg2 (by simp; omega), (h.ma.kept hg (fixed _ (by omega))).kept hg2 (by simp; omega), ?_, ?_, ?_, ?_⟩, hg2⟩
    · exact r2
    · refine (h.mo.kept (own' := fun y => if y = g then cW k else own y) hg (fixed _ (by omega)) (fun y e => .inr fun k' => by rw [hne y e]; simp [cW, cO]) (fun y q1 q2 q3 => ?_)).kept hg2 (by simp; omega) (fun y e => by simp at e; omega) (fun _ _ _ _ => rfl)
      rw [if_neg]
      rintro rfl
      obtain ⟨k', q3⟩ := q3
      rcases hat with q | q
      · rw [hne _ q] at q3; simp [cW, cO] at q3
      · omega
    · refine (h.mt.kept (own' := fun y => if y = g then cW k else own y) hg (fixed _ (by omega)) (fun y e => .inr fun k' => by rw [hne y e]; simp [cW, cT]) (fun y q1 q2 q3 => ?_)).kept hg2 (by simp; omega) (fun y e => by simp at e; omega) (fun _ _ _ _ => rfl)
      rw [if_neg]
      rintro rfl
      obtain ⟨k', q3⟩ := q3
      rcases hat with q | q
      · rw [hne _ q] at q3; simp [cW, cT] at q3
      · omega
    · refine (h.mf.kept (own' := fun y => if y = g then cW k else own y) hg (fixed _ (by omega)) (fun y e => .inr fun k' => by rw [hne y e]; simp [cW, cF]) (fun y q1 q2 q3 => ?_)).kept hg2 (by simp; omega) (fun y e => by simp at e; omega) (fun _ _ _ _ => rfl)
      rw [if_neg]
      rintro rfl
      obtain ⟨k', q3⟩ := q3
      rcases hat with q | q
      · rw [hne _ q] at q3; simp [cW, cF] at q3
      · omega
  · intro v' xs' hv' hc'
    obtain ⟨w2, r1, r2, hg2, _⟩ := h4 w none ⟨rfl, rfl, rfl, Nat.le_refl _, fun _ _ _ => rfl⟩ (.inl rfl) v' xs' own hv' hc' (fun _ _ _ _ => rfl) (by omega)
    refine ⟨w2, r1, ⟨h.bel.grown hg2 (by have := h.sz; omega) (fun y e => by simp at e; omega), (fun y ob hy => ⟨blk_kept hg2 (by have := (h.kp y ob hy).2; simp; omega) (h.kp y ob hy).1, (h.kp y ob hy).2⟩), o, Nat.le_trans h.sz hg2.size, blk_kept hg2 (by simp; omega) h.res, blk_kept hg2 (by simp; omega) h.r, h.mc.kept hg2 (by simp; omega), h.ma.kept hg2 (by simp; omega), ?_, ?_, ?_, ?_⟩, hg2⟩
    · exact r2
    · exact h.mo.kept hg2 (by simp; omega) (fun y e => by simp at e; omega) (fun _ _ _ _ => rfl)
    · exact h.mt.kept hg2 (by simp; omega) (fun y e => by simp at e; omega) (fun _ _ _ _ => rfl)
    · exact h.mf.kept hg2 (by simp; omega) (fun y e => by simp at e; omega) (fun _ _ _ _ => rfl)

/-- 'T': what lies at a key; the way back behind an append to it; the way back behind a plain store. -/
theorem Inv.atT (h : Inv w0 bs br bc ba bw bo bt bf base pr own σ w) (k : Int) :
    ∃ v, w.ownsRow base 9 1 v (σ.wrt k).length ((σ.wrt k).map Value.string) ∧ (∀ g, v.ownBlock = some g → own g = cT k) ∧
      (∀ w', w'.heap[bt]? = w.heap[bt]? → (Instr.lookup 42 (.map (some bt)) (Value.int .i64 k) false).run Yba.prog w' = .ok v w') ∧
      (∀ (w1 : World) (g cap : Nat) (x : ByteArray), w.grownBy w1 v.ownBlock → w1.ownsRow base 9 1 (.slice (some ⟨g, 0, none⟩) ((σ.wrt k).length + 1) cap) ((σ.wrt k).length + 1) ((σ.wrt k).map Value.string ++ [Value.string x]) → (v.ownBlock = some g ∨ w.heap.size ≤ g) →
        ∃ w2 own', (Instr.mapUpdate 42 (.map (some bt)) (Value.int .i64 k) (.slice (some ⟨g, 0, none⟩) ((σ.wrt k).length + 1) cap)).run Yba.prog w1 = .ok () w2 ∧ Inv w0 bs br bc ba bw bo bt bf base pr own' { σ with wrt := updI σ.wrt k (σ.wrt k ++ [x]) } w2 ∧ w1.grownBy w2 (some bt)) ∧
      (∀ (v' : Value) (xs' : List ByteArray), w.ownsRow base 9 1 v' xs'.length (xs'.map Value.string) → (∀ g, v'.ownBlock = some g → own g = cT k) →
        ∃ w2, (Instr.mapUpdate 42 (.map (some bt)) (Value.int .i64 k) v').run Yba.prog w = .ok () w2 ∧ Inv w0 bs br bc ba bw bo bt bf base pr own { σ with wrt := updI σ.wrt k xs' } w2 ∧ w.grownBy w2 (some bt)) := by
  have o := h.ord
  obtain ⟨v, h1, h2, h3, h4⟩ := h.mt.at keyI Yba.underlying42 zero46 cT_inj k
  refine ⟨v, h1, h2, h3, ?_, ?_⟩
  · intro w1 g cap x hg hown hat
    have hg0 : ∀ y, v.ownBlock = some y → base ≤ y ∧ y < w.heap.size := fun y hy => own_block h1 hy
    have hne : ∀ y, v.ownBlock = some y → own y = cT k := h2
    obtain ⟨w2, r1, r2, hg2, _⟩ := h4 w1 v.ownBlock hg (.inr rfl) (.slice (some ⟨g, 0, none⟩) ((σ.wrt k).length + 1) cap) (σ.wrt k ++ [x]) (fun y => if y = g then cT k else own y) (by simpa using hown) (fun y hy => by simp [Value.ownBlock] at hy; simp [hy]) (fun y q1 q2 q3 => by
      rw [if_neg]
      rintro rfl
      rcases hat with q | q
      · exact q3 (hne _ q)
      · omega) (by omega)
    have fixed : ∀ c, c < base → v.ownBlock ≠ some c := fun c hc e => by have := (hg0 c e).1; omega
    have hk8 : (cT k).1 ≠ 8 := by simp [cT]
    have kp2 : ∀ y ob, pr y = some ob → w2.heap[y]? = some ob ∧ (y < bs ∨ (base ≤ y ∧ (if y = g then cT k else own y).1 = 8)) := by
      intro y ob hy
      obtain ⟨q0, q⟩ := h.kp y ob hy
      have hgl := lt_of_block q0
      have hgr : v.ownBlock ≠ some y := by
        intro e
        rcases q with q | q
        · have := (hg0 _ e).1; omega
        · rw [hne _ e] at q; exact hk8 q.2
      refine ⟨blk_kept hg2 (by simp; omega) (blk_kept hg hgr q0), ?_⟩
      rcases q with q | q
      · exact .inl q
      · refine .inr ⟨q.1, ?_⟩
        rw [if_neg]
        · exact q.2
        · rintro rfl
          rcases hat with q2 | q2
          · exact hgr q2
          · omega
    refine ⟨w2, fun y => if y = g then cT k else own y, r1, ⟨(h.bel.grown hg (by have := h.sz; omega) (fun y e => by have := (hg0 y e).1; omega)).grown hg2 (by have := h.sz; have := hg.size; omega) (fun y e => by simp at e; omega), kp2, o, Nat.le_trans h.sz (Nat.le_trans hg.size hg2.size), blk_kept hg2 (by simp; omega) (blk_kept hg (fixed _ (by omega)) h.res), blk_kept hg2 (by simp; omega) (blk_kept hg (fixed _ (by omega)) h.r), (h.mc.kept hg (fixed _ (by omega))).kept hg2 (by simp; omega), (h.ma.kept hg (fixed _ (by omega))).kept hg2 (by simp; omega), ?_, ?_, ?_, ?_⟩, hg2⟩
    · refine (h.mw.kept (own' := fun y => if y = g then cT k else own y) hg (fixed _ (by omega)) (fun y e => .inr fun k' => by rw [hne y e]; simp [cT, cW]) (fun y q1 q2 q3 => ?_)).kept hg2 (by simp; omega) (fun y e => by simp at e; omega) (fun _ _ _ _ => rfl)
      rw [if_neg]
      rintro rfl
      obtain ⟨k', q3⟩ := q3
      rcases hat with q | q
      · rw [hne _ q] at q3; simp [cT, cW] at q3
      · omega
    · refine (h.mo.kept (own' := fun y => if y = g then cT k else own y) hg (fixed _ (by omega)) (fun y e => .inr fun k' => by rw [hne y e]; simp [cT, cO]) (fun y q1 q2 q3 => ?_)).kept hg2 (by simp; omega) (fun y e => by simp at e; omega) (fun _ _ _ _ => rfl)
      rw [if_neg]
      rintro rfl
      obtain ⟨k', q3⟩ := q3
      rcases hat with q | q
      · rw [hne _ q] at q3; simp [cT, cO] at q3
      · omega
    · exact r2
    · refine (h.mf.kept (own' := fun y => if y = g then cT k else own y) hg (fixed _ (by omega)) (fun y e => .inr fun k' => by rw [hne y e]; simp [cT, cF]) (fun y q1 q2 q3 => ?_)).kept hg2 (by simp; omega) (fun y e => by simp at e; omega) (fun _ _ _ _ => rfl)
      rw [if_neg]
      rintro rfl
      obtain ⟨k', q3⟩ := q3
      rcases hat with q | q
      · rw [hne _ q] at q3; simp [cT, cF] at q3
      · omega
  · intro v' xs' hv' hc'
    obtain ⟨w2, r1, r2, hg2, _⟩ := h4 w none ⟨rfl, rfl, rfl, Nat.le_refl _, fun _ _ _ => rfl⟩ (.inl rfl) v' xs' own hv' hc' (fun _ _ _ _ => rfl) (by omega)
    refine ⟨w2, r1, ⟨h.bel.grown hg2 (by have := h.sz; omega) (fun y e => by simp at e; omega), (fun y ob hy => ⟨blk_kept hg2 (by have := (h.kp y ob hy).2; simp; omega) (h.kp y ob hy).1, (h.kp y ob hy).2⟩), o, Nat.le_trans h.sz hg2.size, blk_kept hg2 (by simp; omega) h.res, blk_kept hg2 (by simp; omega) h.r, h.mc.kept hg2 (by simp; omega), h.ma.kept hg2 (by simp; omega), ?_, ?_, ?_, ?_⟩, hg2⟩
    · exact h.mw.kept hg2 (by simp; omega) (fun y e => by simp at e; omega) (fun _ _ _ _ => rfl)
    · exact h.mo.kept hg2 (by simp; omega) (fun y e => by simp at e; omega) (fun _ _ _ _ => rfl)
    · exact r2
    · exact h.mf.kept hg2 (by simp; omega) (fun y e => by simp at e; omega) (fun _ _ _ _ => rfl)

/-- 'F': what lies at a key; the way back behind an append to it; the way back behind a plain store. -/
theorem Inv.atF (h : Inv w0 bs br bc ba bw bo bt bf base pr own σ w) (k : Int) :
    ∃ v, w.ownsRow base 3 1 v (σ.rdf k).length ((σ.rdf k).map (Value.int .i64)) ∧ (∀ g, v.ownBlock = some g → own g = cF k) ∧
      (∀ w', w'.heap[bf]? = w.heap[bf]? → (Instr.lookup 43 (.map (some bf)) (Value.int .i64 k) false).run Yba.prog w' = .ok v w') ∧
      (∀ (w1 : World) (g cap : Nat) (x : Int), w.grownBy w1 v.ownBlock → w1.ownsRow base 3 1 (.slice (some ⟨g, 0, none⟩) ((σ.rdf k).length + 1) cap) ((σ.rdf k).length + 1) ((σ.rdf k).map (Value.int .i64) ++ [(Value.int .i64) x]) → (v.ownBlock = some g ∨ w.heap.size ≤ g) →
        ∃ w2 own', (Instr.mapUpdate 43 (.map (some bf)) (Value.int .i64 k) (.slice (some ⟨g, 0, none⟩) ((σ.rdf k).length + 1) cap)).run Yba.prog w1 = .ok () w2 ∧ Inv w0 bs br bc ba bw bo bt bf base pr own' { σ with rdf := updI σ.rdf k (σ.rdf k ++ [x]) } w2 ∧ w1.grownBy w2 (some bf)) ∧
      (∀ (v' : Value) (xs' : List Int), w.ownsRow base 3 1 v' xs'.length (xs'.map (Value.int .i64)) → (∀ g, v'.ownBlock = some g → own g = cF k) →
        ∃ w2, (Instr.mapUpdate 43 (.map (some bf)) (Value.int .i64 k) v').run Yba.prog w = .ok () w2 ∧ Inv w0 bs br bc ba bw bo bt bf base pr own { σ with rdf := updI σ.rdf k xs' } w2 ∧ w.grownBy w2 (some bf)) := by
  have o := h.ord
  obtain ⟨v, h1, h2, h3, h4⟩ := h.mf.at keyI Yba.underlying43 zero45 cF_inj k
  refine ⟨v, h1, h2, h3, ?_, ?_⟩
  · intro w1 g cap x hg hown hat
    have hg0 : ∀ y, v.ownBlock = some y → base ≤ y ∧ y < w.heap.size := fun y hy => own_block h1 hy
    have hne : ∀ y, v.ownBlock = some y → own y = cF k := h2
    obtain ⟨w2, r1, r2, hg2, _⟩ := h4 w1 v.ownBlock hg (.inr rfl) (.slice (some ⟨g, 0, none⟩) ((σ.rdf k).length + 1) cap) (σ.rdf k ++ [x]) (fun y => if y = g then cF k else own y) (by simpa using hown) (fun y hy => by simp [Value.ownBlock] at hy; simp [hy]) (fun y q1 q2 q3 => by
      rw [if_neg]
      rintro rfl
      rcases hat with q | q
      · exact q3 (hne _ q)
      · omega) (by omega)
    have fixed : ∀ c, c < base → v.ownBlock ≠ some c := fun c hc e => by have := (hg0 c e).1; omega
    have hk8 : (cF k).1 ≠ 8 := by simp [cF]
    have kp2 : ∀ y ob, pr y = some ob → w2.heap[y]? = some ob ∧ (y < bs ∨ (base ≤ y ∧ (if y = g then cF k else own y).1 = 8)) := by
      intro y ob hy
      obtain ⟨q0, q⟩ := h.kp y ob hy
      have hgl := lt_of_block q0
      have hgr : v.ownBlock ≠ some y := by
        intro e
        rcases q with q | q
        · have := (hg0 _ e).1; omega
        · rw [hne _ e] at q; exact hk8 q.2
      refine ⟨blk_kept hg2 (by simp; omega) (blk_kept hg hgr q0), ?_⟩
      rcases q with q | q
      · exact .inl q
      · refine .inr ⟨q.1, ?_⟩
        rw [if_neg]
        · exact q.2
        · rintro rfl
          rcases hat with q2 | q2
          · exact hgr q2
          · omega
    refine ⟨w2, fun y => if y = g then cF k else own y, r1, ⟨(h.bel.grown hg (by have := h.sz; omega) (fun y e => by have := (hg0 y e).1; omega)).grown hg2 (by have := h.sz; have := hg.size; omega) (fun y e => by simp at e; omega), kp2, o, Nat.le_trans h.sz (Nat.le_trans hg.size hg2.size), blk_kept hg2 (by simp; omega) (blk_kept hg (fixed _ (by omega)) h.res), blk_kept hg2 (by simp; omega) (blk_kept hg (fixed _ (by omega)) h.r), (h.mc.kept hg (fixed _ (by omega))).kept hg2 (by simp; omega), (h.ma.kept hg (fixed _ (by omega))).kept hg2 (by simp; omega), ?_, ?_, ?_, ?_⟩, hg2⟩
    · refine (h.mw.kept (own' := fun y => if y = g then cF k else own y) hg (fixed _ (by omega)) (fun y e => .inr fun k' => by rw [hne y e]; simp [cF, cW]) (fun y q1 q2 q3 => ?_)).kept hg2 (by simp; omega) (fun y e => by simp at e; omega) (fun _ _ _ _ => rfl)
      rw [if_neg]
      rintro rfl
      obtain ⟨k', q3⟩ := q3
      rcases hat with q | q
      · rw [hne _ q] at q3; simp [cF, cW] at q3
      · omega
    · refine (h.mo.kept (own' := fun y => if y = g then cF k else own y) hg (fixed _ (by omega)) (fun y e => .inr fun k' => by rw [hne y e]; simp [cF, cO]) (fun y q1 q2 q3 => ?_)).kept hg2 (by simp; omega) (fun y e => by simp at e; omega) (fun _ _ _ _ => rfl)
      rw [if_neg]
      rintro rfl
      obtain ⟨k', q3⟩ := q3
      rcases hat with q | q
      · rw [hne _ q] at q3; simp [cF, cO] at q3
      · omega
    · refine (h.mt.kept (own' := fun y => if y = g then cF k else own y) hg (fixed _ (by omega)) (fun y e => .inr fun k' => by rw [hne y e]; simp [cF, cT]) (fun y q1 q2 q3 => ?_)).kept hg2 (by simp; omega) (fun y e => by simp at e; omega) (fun _ _ _ _ => rfl)
      rw [if_neg]
      rintro rfl
      obtain ⟨k', q3⟩ := q3
      rcases hat with q | q
      · rw [hne _ q] at q3; simp [cF, cT] at q3
      · omega
    · exact r2
  · intro v' xs' hv' hc'
    obtain ⟨w2, r1, r2, hg2, _⟩ := h4 w none ⟨rfl, rfl, rfl, Nat.le_refl _, fun _ _ _ => rfl⟩ (.inl rfl) v' xs' own hv' hc' (fun _ _ _ _ => rfl) (by omega)
    refine ⟨w2, r1, ⟨h.bel.grown hg2 (by have := h.sz; omega) (fun y e => by simp at e; omega), (fun y ob hy => ⟨blk_kept hg2 (by have := (h.kp y ob hy).2; simp; omega) (h.kp y ob hy).1, (h.kp y ob hy).2⟩), o, Nat.le_trans h.sz hg2.size, blk_kept hg2 (by simp; omega) h.res, blk_kept hg2 (by simp; omega) h.r, h.mc.kept hg2 (by simp; omega), h.ma.kept hg2 (by simp; omega), ?_, ?_, ?_, ?_⟩, hg2⟩
    · exact h.mw.kept hg2 (by simp; omega) (fun y e => by simp at e; omega) (fun _ _ _ _ => rfl)
    · exact h.mo.kept hg2 (by simp; omega) (fun y e => by simp at e; omega) (fun _ _ _ _ => rfl)
    · exact h.mt.kept hg2 (by simp; omega) (fun y e => by simp at e; omega) (fun _ _ _ _ => rfl)
    · exact r2

/-- A new block that is not to be written. -/
theorem Inv.protect (h : Inv w0 bs br bc ba bw bo bt bf base pr own σ w) (ob : Obj) : Inv w0 bs br bc ba bw bo bt bf base (fun y => if y = w.heap.size then some ob else pr y) (fun y => if y = w.heap.size then (8, ⟨#[]⟩, 0) else own y) σ (w.alloc ob) := by
  have hg := World.grownBy_alloc w ob none
  have ho : ∀ g, base ≤ g → g < w.heap.size → (if g = w.heap.size then ((8, ⟨#[]⟩, 0) : Cd) else own g) = own g := fun g _ h2 => by rw [if_neg (by omega)]
  refine ⟨h.bel.grown hg (by have := h.ord; have := h.sz; omega) (fun k e => by cases e), fun y o hy => ?_, h.ord, Nat.le_trans h.sz hg.size, blk_kept hg (by simp) h.res, blk_kept hg (by simp) h.r, h.mc.kept hg (by simp), h.ma.kept hg (by simp), h.mw.kept hg (by simp) (fun g e => by cases e) (fun g a b _ => ho g a b), h.mo.kept hg (by simp) (fun g e => by cases e) (fun g a b _ => ho g a b), h.mt.kept hg (by simp) (fun g e => by cases e) (fun g a b _ => ho g a b), h.mf.kept hg (by simp) (fun g e => by cases e) (fun g a b _ => ho g a b)⟩
  by_cases e : y = w.heap.size
  · subst e
    rw [if_pos rfl] at hy
    refine ⟨?_, .inr ⟨h.sz, by rw [if_pos rfl]⟩⟩
    show (w.heap.push ob)[w.heap.size]? = some o
    rw [← hy]
    simp
  · rw [if_neg e] at hy
    obtain ⟨q1, q2⟩ := h.kp y o hy
    refine ⟨blk_kept hg (by simp) q1, ?_⟩
    rw [if_neg e]
    exact q2
theorem Inv.weaken (h : Inv w0 bs br bc ba bw bo bt bf base pr own σ w) {pr' : Nat → Option Obj} (hp : ∀ y o, pr' y = some o → pr y = some o) : Inv w0 bs br bc ba bw bo bt bf base pr' own σ w :=
  ⟨h.bel, fun y o hy => h.kp y o (hp y o hy), h.ord, h.sz, h.res, h.r, h.mc, h.ma, h.mw, h.mo, h.mt, h.mf⟩
theorem Inv.notOwn (h : Inv w0 bs br bc ba bw bo bt bf base pr own σ w) {y : Nat} {o : Obj} (hy : pr y = some o) (hb : base ≤ y) : (own y).1 = 8 := by
  have := h.ord
  rcases (h.kp y o hy).2 with q | q
  · omega
  · exact q.2
end

end Go.Proofs.Ybulkdao
