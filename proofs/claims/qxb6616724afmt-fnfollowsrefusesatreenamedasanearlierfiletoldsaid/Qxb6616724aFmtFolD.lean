import Derived.Test.Qxb6616724aFmtFolT
import Derived.Test.Qxb6616724aFmtFolQ
import Derived.Test.Qxb6616724aFmtFolS0b
import Derived.Test.Qxb6616724aFmtFolS1b
import Derived.Test.Qxb6616724aFmtFolS2b
import Derived.Test.Qxb6616724aFmtFolS3b
import Derived.Test.Qxb6616724aFmtFolS4b
namespace Go.Proofs.Qxb6616724aFmt
open Go.RowKit Go.Extern.Stop Go.Stop Go.Extern

/-- THE CONTRACT OF 'follows' -/
theorem follows_any (F : Interp) (w0 w : World) (T E : Nat) (ln fv : Value) (lm fu m : Int) (b off n c : Nat) (xs : List Int) (fs : List NV)
    (hB : Below w0.heap.size w0 w) (hT : TreeBox w T ln lm fv fu) (hT0 : w0.heap.size ≤ T) (hE : EBox w E (some ⟨b, off, none⟩, n, c, xs) m) (hx : BS w0 (some ⟨b, off, none⟩) n c xs) (hn : 0 < n)
    (hlast : LastOk w0 ln lm (some ⟨b, off, none⟩, n, c, xs) m fs) (hf : FilesAt w0 w fv fs) (hfl : fs.length ≤ 1048576) (hF : F.answers w.tape) :
    Calls Tryf.prog 17 #[.pointer (some ⟨T, 0, none⟩), .pointer (some ⟨E, 0, none⟩)] w fun e w' => FolPost w0 T ln lm m xs fs e w' := by
  cases ht : (m == 16384) with
  | true => exact follows_tree F w0 w T E ln fv lm fu m b off n c xs fs hB hT hT0 hE hx hn hlast hf hfl hF ht
  | false =>
    rcases hlast with h0 | ⟨l, el, hl, hcmp, hr⟩
    · exact follows_slow0b F w0 w T E ln fv lm fu m b off n c xs fs hB hT hT0 hE hx hn (.inl h0) hf hfl hF ht h0
    · have hlast : LastOk w0 ln lm (some ⟨b, off, none⟩, n, c, xs) m fs := .inr ⟨l, el, hl, hcmp, hr⟩
      by_cases hz : lm = 0
      · exact follows_slow0b F w0 w T E ln fv lm fu m b off n c xs fs hB hT hT0 hE hx hn hlast hf hfl hF ht hz
      have b2 : (lm != 0) = true := by simpa using hz
      obtain ⟨lb, lo, ln', lc, ys, rfl, hln, hbl, hly⟩ := nameIn_some hl
      replace el : ln = .slice (some ⟨lb, lo, none⟩) ln' lc := el
      have hcm : Pl.cmpE ys (lm == 16384) xs (m == 16384) < 0 := hcmp
      cases b3 : (lm == 16384) with
      | true => exact follows_slow1b F w0 w T E ln fv lm fu m b off n c xs fs hB hT hT0 hE hx hn hlast hf hfl hF ht b2 b3 lb lo ln' lc ys el hbl hcm
      | false =>
        by_cases h1 : fs.length = 1
        · obtain ⟨f, rfl⟩ : ∃ f, fs = [f] := List.length_eq_one_iff.1 h1
          obtain ⟨r, her⟩ := hr (by simpa using b3)
          have hfy : f.xs = ys := by
            simp at her
            exact her.1
          have ly : ys.length = ln' := hbl.1
          have lx : xs.length = n := hx.1
          by_cases hq : Pl.lex (ys.take (min ys.length xs.length)) (xs.take (min ys.length xs.length)) < 0
          · exact follows_quick w0 w T E ln fv lm fu m b off n c xs [f] hB hT hT0 hE hx hn hlast hf hfl ht hz b3 (mkNV (some ⟨lb, lo, none⟩) ln' lc ys) f el hl rfl hfy hq
          · rcases Nat.lt_or_ge n ln' with hlt | hlt
            · exact follows_slow3b F w0 w T E ln fv lm fu m b off n c xs [f] hB hT hT0 hE hx hn hlast hf hF ht b2 b3 lb lo ln' lc ys el hbl hcm h1 hlt (by rw [show min ys.length xs.length = n by omega] at hq; exact hq)
            · exact follows_slow4b F w0 w T E ln fv lm fu m b off n c xs [f] hB hT hT0 hE hx hn hlast hf hF ht b2 b3 lb lo ln' lc ys el hbl hcm h1 hlt (by rw [show min ys.length xs.length = ln' by omega] at hq; exact hq)
        · exact follows_slow2b F w0 w T E ln fv lm fu m b off n c xs fs hB hT hT0 hE hx hn hlast hf hfl hF ht b2 b3 lb lo ln' lc ys el hbl hcm (by simp; omega)
end Go.Proofs.Qxb6616724aFmt
