import Derived.Test.Qxb6616724aFmtCmpE
import Derived.Stop.CallBack
import Derived.Stop.IfaceNil
import Derived.Stop.FmtTextSlices
import Derived.Laws.Cells
import GoSem.ClaimData
namespace Go.Proofs.Qxb6616724aFmt
open Go.RowKit Go.Extern.Stop Go.Stop Go.Extern

theorem call28 (args : Array Value) (w : World) : (callFunc 28 args).run Tryf.prog w = ((FmtStop.errorf #[9, 55] #[37] args).run Tryf.prog w).andThen fun v w' => .ok (.value v) w' :=
  run_callFunc_extern Tryf.func28 (by kernel_rfl) (by kernel_rfl) (by kernel_rfl) (by kernel_rfl) args w
theorem guardF (name : String) (w : World) : (FmtStop.guard name).run Tryf.prog w = .ok () w := by kernel_rfl
def fmtText : ByteArray := ⟨#[105, 116, 32, 104, 97, 115, 32, 116, 119, 111, 32, 101, 110, 116, 114, 105, 101, 115, 32, 110, 97, 109, 101, 100, 32, 37, 113]⟩
theorem fmt0 : FmtStop.printed? ⟨#[105, 116, 32, 104, 97, 115, 32, 116, 119, 111, 32, 101, 110, 116, 114, 105, 101, 115, 32, 110, 97, 109, 101, 100, 32, 37, 113]⟩ 1 = some [(0, 113, false)] := by kernel_rfl
theorem ptr59 (w : World) : (FmtStop.ptrTo "errors.errorString").run Tryf.prog w = .ok 59 w := by kernel_rfl
theorem elem59 (w : World) : (elemOf 59).run Tryf.prog w = .ok 61 w := by kernel_rfl
/-- The shape of a slice of bytes. -/
def shape30 : List UInt8 := 13 :: (FmtStop.pack "[]uint8".toUTF8.data.toList ++ 6 :: FmtStop.pack "uint8".toUTF8.data.toList)
theorem value5 (name : String) (x : Int) (w : World) : (FmtStop.value name FmtStop.depth 5 [.int .u8 x]).run Tryf.prog w = .ok (digits 8 (x % 2 ^ 64).toNat) w := by kernel_rfl
theorem values5 (name : String) (w : World) : ∀ xs : List Int, (List.mapM ((fun c => FmtStop.value name FmtStop.depth 5 [c]) ∘ Value.int IntKind.u8) xs).run Tryf.prog w = .ok (xs.map fun x => digits 8 (x % 18446744073709551616).toNat) w
  | [] => by simp [List.mapM_nil]
  | x :: xs => by
    have ih := values5 name w xs
    have h := value5 name x w
    simp [List.mapM_cons, h, ih, Result.andThen]
theorem opBytes (name : String) (a : Addr) (cap : Nat) (xs : List Int) (w : World) (hc : ∀ j v, (xs.map (Value.int .u8))[j]? = some v → w.cell? (a.add j) = some v) :
    (FmtStop.operand name true 113 false (.iface 30 (.slice (some a) xs.length cap))).run Tryf.prog w = .ok (shape30, 1 :: (digits 8 xs.length ++ FmtText.intValues xs)) w := by
  have h1 : (typeStr 30).run Tryf.prog w = .ok "[]uint8" w := by kernel_rfl
  have hb : (FmtStop.bare (FmtStop.asked true 113 false) 30).run Tryf.prog w = .ok true w := by kernel_rfl
  have hs : (FmtStop.scalar 5).run Tryf.prog w = .ok true w := by kernel_rfl
  have hy : (Extern.Stop.isByte 5).run Tryf.prog w = .ok true w := by kernel_rfl
  have hw : Tryf.prog.funcs.any (·.name == FmtStop.writeWord) = true := by kernel_rfl
  have hsh : (FmtStop.shape name (FmtStop.asked true 113 false) FmtStop.depth 5).run Tryf.prog w = .ok (6 :: FmtStop.pack "uint8".toUTF8.data.toList) w := by kernel_rfl
  have hl := run_loadCells_list (P := Tryf.prog) w a (xs.map (Value.int .u8)) hc
  rw [List.length_map] at hl
  simp [FmtStop.operand, h1, hb, hs, hy, hsh, hl, values5, shape30, FmtText.intValues]
  intro hno
  obtain ⟨i, hi, _, _, he⟩ := Array.any_iff_exists.1 hw
  exact absurd (by simpa using he) (hno i hi)
theorem fmt0r (w : World) : (FmtDoors.printed ⟨#[105, 116, 32, 104, 97, 115, 32, 116, 119, 111, 32, 101, 110, 116, 114, 105, 101, 115, 32, 110, 97, 109, 101, 100, 32, 37, 113]⟩ 1).run Tryf.prog w = .ok [(0, 113, false)] w := by kernel_rfl

/-- it returns an error that is not nil -/
def IsErr (e : Ending) : Prop := ∃ a, e = .returned (.iface 59 (.pointer (some a)))

set_option maxHeartbeats 1000000 in
theorem errorf_any (F : Interp) (blk b off n c : Nat) (xs : List Int) (w : World) (hF : F.answers w.tape) (hc0 : w.cell? ⟨blk, 0, none⟩ = some (.iface 30 (.slice (some ⟨b, off, none⟩) n c))) (hS : BS w (some ⟨b, off, none⟩) n c xs) :
    Calls Tryf.prog 22 #[.string ⟨#[105, 116, 32, 104, 97, 115, 32, 116, 119, 111, 32, 101, 110, 116, 114, 105, 101, 115, 32, 110, 97, 109, 101, 100, 32, 37, 113]⟩, .slice (some ⟨blk, 0, none⟩) 1 1] w fun e w' => IsErr e ∧ Below w.heap.size w w' := by
  have hF' := answers_open hF
  have hop := opBytes "fmt.errorf" ⟨b, off, none⟩ c xs w (fun j v hj => by
    rw [List.getElem?_map] at hj
    obtain ⟨x, hx, rfl⟩ := Option.map_eq_some_iff.1 hj
    obtain ⟨_, b', off', e, _, hc⟩ := hS.2.2.2 j x hx
    cases e
    have e : (⟨b, off, none⟩ : Addr).add j = ⟨b, off + j, none⟩ := by unfold Addr.add; split <;> simp_all
    rw [e]
    exact hc)
  rw [hS.1] at hop
  have f1 := call28
  have f2 := guardF
  have f3 := fmt0r
  have f4 := ptr59
  have f5 := elem59
  clear hS
  go_enter Tryf.func22, Tryf.ntmps22
  go_wp2
  go_ret
  exact ⟨⟨_, rfl⟩, ((Below.refl _ w).alloc (Nat.le_refl _) _).drew⟩
end Go.Proofs.Qxb6616724aFmt
