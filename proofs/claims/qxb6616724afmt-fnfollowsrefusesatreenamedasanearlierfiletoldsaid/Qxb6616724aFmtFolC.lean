import Derived.Test.Qxb6616724aFmtFolB
namespace Go.Proofs.Qxb6616724aFmt
open Go.RowKit Go.Extern.Stop Go.Stop Go.Extern

theorem cell_new (w : World) (v : Value) (t : TypeId) : (w.alloc (.cells #[v] t)).cell? ⟨w.heap.size, 0, none⟩ = some v := by
  rw [World.cell?, Go.Deep.blk_alloc_new]
  rfl
/-- how many files lie on the stack -/
def filesLen (w : World) (T : Nat) : Nat := match w.cell? ⟨T, 10, none⟩ with | some (.slice _ n _) => n | _ => 0
theorem filesLen_of {w : World} {T n c : Nat} {a : Option Addr} (h : w.cell? ⟨T, 10, none⟩ = some (.slice a n c)) : filesLen w T = n := by simp [filesLen, h]

theorem FilesAt.shape {w0 w : World} {fv : Value} {fs : List NV} (h : FilesAt w0 w fv fs) : ∃ a c, fv = .slice a fs.length c := by
  rcases h.1.2 with ⟨h, h'⟩ | ⟨g, cap, _, h, _⟩
  · exact ⟨none, 0, by rw [h, h']⟩
  · exact ⟨_, _, h⟩
/-- the stack's top -/
theorem FilesAt.top {w0 w : World} {fv : Value} {f : NV} {r : List NV} (h : FilesAt w0 w fv (f :: r)) :
    ∃ g cap, fv = .slice (some ⟨g, 0, none⟩) (r.length + 1) cap ∧ w.cell? ⟨g, r.length, none⟩ = some f.val ∧ r.length + 1 ≤ cap ∧ cap ≤ maxLen ∧ NameIn w0 f ∧ FilesAt w0 w (.slice (some ⟨g, 0, none⟩) r.length cap) r := by
  rcases h.1.2 with ⟨_, h0⟩ | ⟨g, cap, cur, h1, h2, h3, h4, h5, h6, h7⟩
  · simp at h0
  · refine ⟨g, cap, h1, ?_, h4, h5, h.2 f (by simp), ?_, fun k hk => h.2 k (by simp [hk])⟩
    · simp only [World.cell?, h3]
      have e : (cur.toList.take ((f :: r).length * 1))[r.length]? = some f.val := by
        rw [h7]
        simp
      rw [List.getElem?_take] at e
      simp at e
      simpa using e
    · refine ownsRow_pop (last := [f.val]) (by simp) ?_
      have := h.1
      rw [h1] at this
      simpa using this

theorem pop_stays {xs : List Int} {t : Bool} {f : NV} {r : List NV} (h1 : (t && xs == f.xs) = false) (hu : Pl.under xs f.xs = true) : Pl.pop xs t ((f :: r).map NV.xs) = (false, (f :: r).map NV.xs) := by
  rw [List.map_cons, Pl.pop, h1, hu]
  simp
theorem pop_goes {xs : List Int} {t : Bool} {f : NV} {r : List NV} (h1 : (t && xs == f.xs) = false) (hu : Pl.under xs f.xs = false) : Pl.pop xs t ((f :: r).map NV.xs) = Pl.pop xs t (r.map NV.xs) := by
  rw [List.map_cons, Pl.pop, h1, hu]
  simp
theorem pop_twice {xs : List Int} {f : NV} {r : List NV} (h1 : (xs == f.xs) = true) : (Pl.pop xs true ((f :: r).map NV.xs)).1 = true := by
  rw [List.map_cons, Pl.pop, h1]
  simp
theorem under_short {xs ys : List Int} {n fl : Nat} (hx : xs.length = n) (hy : ys.length = fl) (h : ¬ fl < n) : Pl.under xs ys = false := by
  rw [Pl.under, hx, hy]
  simp [h]
theorem under_apart {xs ys : List Int} {fl : Nat} (hy : ys.length = fl) (h : (xs.take fl == ys) = false) : Pl.under xs ys = false := by
  have : (ys == xs.take fl) = false := by
    rw [← h, Bool.eq_iff_iff]
    simp
    exact eq_comm
  rw [Pl.under, hy, this]
  simp
theorem under_high {xs ys : List Int} {fl : Nat} {x : Int} (hy : ys.length = fl) (hx : xs.getD fl 0 = x) (h : ¬ x < 47) : Pl.under xs ys = false := by
  rw [Pl.under, hy, hx]
  simp [h]
theorem under_yes {xs ys : List Int} {n fl : Nat} {x : Int} (hxl : xs.length = n) (hy : ys.length = fl) (hl : fl < n) (hp : ys = xs.take fl) (hx : xs.getD fl 0 = x) (h : x < 47) : Pl.under xs ys = true := by
  rw [Pl.under, hxl, hy, hx, ← hp]
  simp [hl, h]

/-- one file less -/
theorem pop_round {w0 W : World} {T g cap : Nat} {ln fv : Value} {lm fu m : Int} {e : NV} {r : List NV} {E : Nat} (hT0 : w0.heap.size ≤ T) (hB : Below w0.heap.size w0 W) (hT : TreeBox W T ln lm fv fu) (hE : EBox W E e m)
    (hF : FilesAt w0 W (.slice (some ⟨g, 0, none⟩) r.length cap) r) :
    TreeBox (W.setCell ⟨T, 10, none⟩ (.slice (some ⟨g, 0, none⟩) r.length cap)) T ln lm (.slice (some ⟨g, 0, none⟩) r.length cap) fu ∧ EBox (W.setCell ⟨T, 10, none⟩ (.slice (some ⟨g, 0, none⟩) r.length cap)) E e m ∧
    FilesAt w0 (W.setCell ⟨T, 10, none⟩ (.slice (some ⟨g, 0, none⟩) r.length cap)) (.slice (some ⟨g, 0, none⟩) r.length cap) r ∧ Below w0.heap.size w0 (W.setCell ⟨T, 10, none⟩ (.slice (some ⟨g, 0, none⟩) r.length cap)) := by
  refine ⟨hT.setFiles _, ?_, ?_, hB.setCell (p := ⟨T, 10, none⟩) hT0 _⟩
  · unfold EBox
    rw [Below.heap_setCell _ _ _ _ (by exact hE.ne hT)]
    exact hE
  · refine hF.of_heap (fun k hk => ?_)
    exact Below.heap_setCell _ _ _ _ (hF.ne hT k hk)

/-- the round's end -/
theorem pop_roundD {w0 W : World} {T g cap : Nat} {ln fv : Value} {lm fu m : Int} {e f : NV} {fs r : List NV} {E N : Nat} {t : Bool} {xs : List Int} (hLn : (f :: r).length ≤ fs.length) (hT0 : w0.heap.size ≤ T) (hB : Below w0.heap.size w0 W) (hT : TreeBox W T ln lm fv fu) (hE : EBox W E e m)
    (hF : FilesAt w0 W (.slice (some ⟨g, 0, none⟩) r.length cap) r) (hN : N = r.length + 1) (hp : Pl.pop xs t (fs.map NV.xs) = Pl.pop xs t ((f :: r).map NV.xs)) (h1 : (t && xs == f.xs) = false) (hu : Pl.under xs f.xs = false) :
    (∃ (rs : List NV) (fvr : Value), rs.length ≤ fs.length ∧ Pl.pop xs t (fs.map NV.xs) = Pl.pop xs t (rs.map NV.xs) ∧ TreeBox (W.setCell ⟨T, 10, none⟩ (.slice (some ⟨g, 0, none⟩) r.length cap)).drew T ln lm fvr fu ∧ EBox (W.setCell ⟨T, 10, none⟩ (.slice (some ⟨g, 0, none⟩) r.length cap)).drew E e m ∧
    FilesAt w0 (W.setCell ⟨T, 10, none⟩ (.slice (some ⟨g, 0, none⟩) r.length cap)).drew fvr rs ∧ Below w0.heap.size w0 (W.setCell ⟨T, 10, none⟩ (.slice (some ⟨g, 0, none⟩) r.length cap)).drew) ∧
    filesLen (W.setCell ⟨T, 10, none⟩ (.slice (some ⟨g, 0, none⟩) r.length cap)).drew T < N := by
  obtain ⟨k1, k2, k3, k4⟩ := pop_round hT0 hB hT hE hF
  have k5 : TreeBox (W.setCell ⟨T, 10, none⟩ (.slice (some ⟨g, 0, none⟩) r.length cap)).drew T ln lm (.slice (some ⟨g, 0, none⟩) r.length cap) fu := k1.of_block rfl
  refine ⟨⟨r, _, by (simp at hLn; omega), hp.trans (pop_goes h1 hu), k5, k2, k3.of_heap (fun _ _ => rfl), k4.drew⟩, ?_⟩
  have := filesLen_of (k5.cell 10)
  omega

/-- a file is laid on the stack -/
theorem app_end {w0 W Wa w2 : World} {T g2 cap2 H : Nat} {ln fv : Value} {lm fu m : Int} {xs : List Int} {fs rs : List NV} {e : NV} (he : NameIn w0 e) (hex : e.xs = xs) (hm : (m == 16384) = false)
    (hpop : Pl.pop xs false (fs.map NV.xs) = (false, rs.map NV.xs)) (hT0 : w0.heap.size ≤ T) (hB : Below w0.heap.size w0 W) (hT : TreeBox W T ln lm fv fu) (hF : FilesAt w0 W fv rs) (hA : Below W.heap.size W Wa)
    (own2 : w2.ownsRow w0.heap.size 30 1 (.slice (some ⟨g2, 0, none⟩) (rs.length + 1) cap2) (rs.length + 1) (rs.reverse.map NV.val ++ [e.val])) (grow2 : Wa.grownBy w2 fv.ownBlock) (at2 : fv.ownBlock = some g2 ∨ g2 = H) (hH : Wa.heap.size = H) :
    FolPost w0 T ln lm m xs fs (.returned .nilIface) (w2.setCell ⟨T, 10, none⟩ (.slice (some ⟨g2, 0, none⟩) (rs.length + 1) cap2)) := by
  have hlt : T < W.heap.size := hT.lt
  have hTn : some T ≠ fv.ownBlock := fun h => hF.ne hT T h.symm rfl
  have hblk : w2.heap[T]? = W.heap[T]? := (grow2.block T (Nat.lt_of_lt_of_le hlt hA.size) hTn).trans (hA.block T hlt)
  have hT2 : TreeBox w2 T ln lm fv fu := hT.of_block hblk
  have hg2 : g2 ≠ T := by
    rcases at2 with h | h
    · exact hF.ne hT g2 h
    · have := hA.size
      omega
  have hB2 : Below w0.heap.size w0 w2 := (hB.trans (hA.mono hB.size)).grown grow2 (Nat.le_trans hB.size hA.size) (fun k hk => (hF.base k hk).1)
  refine ⟨hB2.setCell (p := ⟨T, 10, none⟩) hT0 _, ?_, fun _ => ⟨rfl, _, fu, e :: rs, hT2.setFiles _, ?_, ?_⟩⟩
  · rw [hm, hpop]
    intro h
    cases h
  · refine FilesAt.of_heap (w := w2) ⟨?_, ?_⟩ (fun g hg => ?_)
    · simpa using own2
    · intro k hk
      rcases List.mem_cons.1 hk with rfl | hk
      · exact he
      · exact hF.2 k hk
    · simp [Value.ownBlock] at hg
      subst hg
      exact Below.heap_setCell _ _ _ _ hg2
  · rw [Pl.next, hm, hpop]
    simp [hex]

/-- a tree leaves the stack as it is -/
theorem keep_end {w0 W : World} {T : Nat} {ln fv : Value} {lm fu m : Int} {xs : List Int} {fs rs : List NV} (hm : (m == 16384) = true)
    (hpop : Pl.pop xs true (fs.map NV.xs) = (false, rs.map NV.xs)) (hB : Below w0.heap.size w0 W) (hT : TreeBox W T ln lm fv fu) (hF : FilesAt w0 W fv rs) :
    FolPost w0 T ln lm m xs fs (.returned .nilIface) W := by
  refine ⟨hB, ?_, fun _ => ⟨rfl, fv, fu, rs, hT, hF, ?_⟩⟩
  · rw [hm, hpop]
    intro h
    cases h
  · rw [Pl.next, hm, hpop]
    rfl
theorem err_end {w0 W : World} {T : Nat} {ln : Value} {lm m : Int} {xs : List Int} {fs : List NV} {e : Ending} (hm : (m == 16384) = true)
    (hpop : (Pl.pop xs true (fs.map NV.xs)).1 = true) (hB : Below w0.heap.size w0 W) (he : IsErr e) : FolPost w0 T ln lm m xs fs e W := by
  refine ⟨hB, fun _ => he, fun h => ?_⟩
  rw [hm, hpop] at h
  cases h

/-- all that stands while 'follows' works -/
def Ready (w0 : World) (T E : Nat) (ln : Value) (lm : Int) (fv : Value) (fu : Int) (e : NV) (m : Int) (rs : List NV) (W : World) : Prop :=
  TreeBox W T ln lm fv fu ∧ EBox W E e m ∧ FilesAt w0 W fv rs ∧ Below w0.heap.size w0 W
theorem Ready.of_heap {w0 W W' : World} {T E : Nat} {ln fv : Value} {lm fu m : Int} {e : NV} {rs : List NV} (h : Ready w0 T E ln lm fv fu e m rs W) (hh : ∀ k, k < W.heap.size → W'.heap[k]? = W.heap[k]?) (hb : Below w0.heap.size w0 W') : Ready w0 T E ln lm fv fu e m rs W' := by
  refine ⟨h.1.of_block (hh _ h.1.lt), ?_, h.2.2.1.of_heap (fun g hg => hh g (h.2.2.1.base g hg).2), hb⟩
  have := h.2.1
  unfold EBox at *
  rw [hh _ h.2.1.lt]
  exact this
theorem Ready.drewN {w0 W : World} {T E : Nat} {ln fv : Value} {lm fu m : Int} {e : NV} {rs : List NV} (h : Ready w0 T E ln lm fv fu e m rs W) (q : Nat) : Ready w0 T E ln lm fv fu e m rs (W.drewN q) :=
  h.of_heap (fun _ _ => rfl) (h.2.2.2.trans (Drew.below (w' := W.drewN q) ⟨_, rfl⟩ _))
theorem Ready.drew {w0 W : World} {T E : Nat} {ln fv : Value} {lm fu m : Int} {e : NV} {rs : List NV} (h : Ready w0 T E ln lm fv fu e m rs W) : Ready w0 T E ln lm fv fu e m rs W.drew :=
  h.of_heap (fun _ _ => rfl) h.2.2.2.drew
theorem Ready.alloc {w0 W : World} {T E : Nat} {ln fv : Value} {lm fu m : Int} {e : NV} {rs : List NV} (h : Ready w0 T E ln lm fv fu e m rs W) (o : Obj) : Ready w0 T E ln lm fv fu e m rs (W.alloc o) :=
  h.of_heap (fun _ hk => Below.heap_alloc _ _ _ hk) (h.2.2.2.alloc h.2.2.2.size _)
theorem Ready.share {w0 W : World} {T E : Nat} {ln fv : Value} {lm fu m : Int} {e : NV} {rs : List NV} (hT0 : w0.heap.size ≤ T) (h : Ready w0 T E ln lm fv fu e m rs W) (v : Int) : Ready w0 T E ln lm fv v e m rs (W.setCell ⟨T, 11, none⟩ (.int .i64 v)) := by
  refine ⟨h.1.setShared v, ?_, h.2.2.1.of_heap (fun g hg => Below.heap_setCell _ _ _ _ (h.2.2.1.ne h.1 g hg)), h.2.2.2.setCell (p := ⟨T, 11, none⟩) hT0 _⟩
  unfold EBox
  rw [Below.heap_setCell _ _ _ _ (by exact h.2.1.ne h.1)]
  exact h.2.1
/-- an append leaves the boxes be -/
theorem Ready.grown {w0 W W' : World} {T E : Nat} {ln fv : Value} {lm fu m : Int} {e : NV} {rs : List NV} (h : Ready w0 T E ln lm fv fu e m rs W) (hg : W.grownBy W' fv.ownBlock) :
    W'.cell? ⟨T, 10, none⟩ = some fv ∧ W'.frozen? ⟨T, 10, none⟩ = false ∧ W'.cell? ⟨E, 0, none⟩ = some e.val := by
  have h1 : some T ≠ fv.ownBlock := fun k => h.2.2.1.ne h.1 T k.symm rfl
  have h2 : some E ≠ fv.ownBlock := by
    intro k
    rcases h.2.2.1.1.2 with ⟨h0, _⟩ | ⟨g, cap, cur, h1, _, h3, _⟩
    · rw [h0] at k
      simp [Value.ownBlock] at k
    · rw [h1] at k
      simp [Value.ownBlock] at k
      subst k
      have := h.2.1
      unfold EBox at this
      rw [this] at h3
      simp at h3
  exact ⟨(hg.cell_far ⟨T, 10, none⟩ h.1.lt h1).trans (h.1.cell 10), (hg.frozen_far ⟨T, 10, none⟩ h.1.lt h1).trans (h.1.frozen 10), (hg.cell_far ⟨E, 0, none⟩ h.2.1.lt h2).trans h.2.1.cell.1⟩
theorem news_one {W : World} {N : Nat} (v : Value) (t : TypeId) (h : N = W.heap.size) : ∀ j u, [v][j]? = some u → (W.alloc (.cells #[v] t)).cell? ((⟨N, 0, none⟩ : Addr).add j) = some u := by
  subst h
  exact World.news_of_block (cs := #[v]) (Go.Deep.blk_alloc_new _ _)
theorem info30 : ∃ i, Tryf.prog.info? 30 = some i ∧ i.zero = some (.slice none 0 0) ∧ i.size = 1 ∧ i.bytes = 24 := by
  have h : (Tryf.prog.info? 30).map (fun i => (i.zero, i.size, i.bytes)) = some (some (.slice none 0 0), 1, 24) := by kernel_rfl
  cases hi : Tryf.prog.info? 30 with
  | none => rw [hi] at h; cases h
  | some i => rw [hi] at h; simp at h; exact ⟨i, rfl, h.1, h.2.1, h.2.2⟩
end Go.Proofs.Qxb6616724aFmt
