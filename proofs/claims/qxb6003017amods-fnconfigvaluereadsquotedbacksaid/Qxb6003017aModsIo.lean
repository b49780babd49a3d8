import Derived.Test.Qxb6003017aModsRows
import Derived.WalkKit
import Derived.ProofKit
namespace Go.Proofs.Qxb6003017aMods
/-- the signs of the dump's head word, as numbers (so that the kernel need not decode the text time and again) -/
def ioNats : List Nat := [104, 97, 114, 110, 101, 115, 115, 32, 53, 101, 99, 52, 99, 53, 52, 51, 100, 101, 100, 48, 98, 101, 48, 54, 48, 102, 56, 48, 57, 53, 48, 98, 98, 49, 49, 53, 49, 102, 97, 48, 49, 50, 56, 97, 52, 49, 48, 100, 99, 99, 48, 53, 54, 52, 102, 57, 99, 102, 102, 48, 50, 56, 57, 102, 49, 52, 98, 99, 50, 97, 49, 101, 32, 112, 117, 98, 108, 105, 99, 115, 117, 109, 115, 32, 99, 117, 116, 32, 97, 116, 32, 101, 120, 97, 109, 112, 108, 101, 46, 99, 111, 109, 47, 103, 108, 111, 98, 116, 114, 111, 116, 47, 103, 108, 111, 98, 116, 114, 111, 116, 47, 122, 122, 108, 97, 119, 115, 95, 105, 110, 116, 101, 114, 110, 97, 108, 95, 105, 103, 110, 111, 114, 101, 95, 98, 49, 46, 70, 110, 67, 111, 110, 102, 105, 103, 86, 97, 108, 117, 101, 77, 97, 116, 99, 104, 101, 115, 77, 111, 100, 101, 108, 32, 101, 120, 97, 109, 112, 108, 101, 46, 99, 111, 109, 47, 103, 108, 111, 98, 116, 114, 111, 116, 47, 103, 108, 111, 98, 116, 114, 111, 116, 47, 122, 122, 108, 97, 119, 115, 95, 105, 110, 116, 101, 114, 110, 97, 108, 95, 105, 103, 110, 111, 114, 101, 95, 98, 49, 46, 70, 110, 67, 111, 110, 102, 105, 103, 86, 97, 108, 117, 101, 82, 101, 97, 100, 115, 81, 117, 111, 116, 101, 100, 66, 97, 99, 107, 32, 101, 120, 97, 109, 112, 108, 101, 46, 99, 111, 109, 47, 103, 108, 111, 98, 116, 114, 111, 116, 47, 103, 108, 111, 98, 116, 114, 111, 116, 47, 122, 122, 108, 97, 119, 115, 95, 105, 110, 116, 101, 114, 110, 97, 108, 95, 105, 103, 110, 111, 114, 101, 95, 98, 49, 46, 70, 110, 83, 117, 98, 115, 101, 99, 116, 105, 111, 110, 82, 101, 97, 100, 115, 81, 117, 111, 116, 101, 100, 66, 97, 99, 107, 32, 101, 120, 97, 109, 112, 108, 101, 46, 99, 111, 109, 47, 103, 108, 111, 98, 116, 114, 111, 116, 47, 103, 108, 111, 98, 116, 114, 111, 116, 47, 122, 122, 108, 97, 119, 115, 95, 105, 110, 116, 101, 114, 110, 97, 108, 95, 105, 103, 110, 111, 114, 101, 95, 98, 49, 46, 70, 110, 77, 97, 116, 99, 104, 82, 117, 110, 65, 103, 114, 101, 101, 115, 87, 105, 116, 104, 68, 80]
def ioWords : List (List Nat) := [[112, 117, 98, 108, 105, 99, 115, 117, 109, 115], [99, 117, 116], [97, 116], [101, 120, 97, 109, 112, 108, 101, 46, 99, 111, 109, 47, 103, 108, 111, 98, 116, 114, 111, 116, 47, 103, 108, 111, 98, 116, 114, 111, 116, 47, 122, 122, 108, 97, 119, 115, 95, 105, 110, 116, 101, 114, 110, 97, 108, 95, 105, 103, 110, 111, 114, 101, 95, 98, 49, 46, 70, 110, 67, 111, 110, 102, 105, 103, 86, 97, 108, 117, 101, 77, 97, 116, 99, 104, 101, 115, 77, 111, 100, 101, 108], [101, 120, 97, 109, 112, 108, 101, 46, 99, 111, 109, 47, 103, 108, 111, 98, 116, 114, 111, 116, 47, 103, 108, 111, 98, 116, 114, 111, 116, 47, 122, 122, 108, 97, 119, 115, 95, 105, 110, 116, 101, 114, 110, 97, 108, 95, 105, 103, 110, 111, 114, 101, 95, 98, 49, 46, 70, 110, 67, 111, 110, 102, 105, 103, 86, 97, 108, 117, 101, 82, 101, 97, 100, 115, 81, 117, 111, 116, 101, 100, 66, 97, 99, 107], [101, 120, 97, 109, 112, 108, 101, 46, 99, 111, 109, 47, 103, 108, 111, 98, 116, 114, 111, 116, 47, 103, 108, 111, 98, 116, 114, 111, 116, 47, 122, 122, 108, 97, 119, 115, 95, 105, 110, 116, 101, 114, 110, 97, 108, 95, 105, 103, 110, 111, 114, 101, 95, 98, 49, 46, 70, 110, 83, 117, 98, 115, 101, 99, 116, 105, 111, 110, 82, 101, 97, 100, 115, 81, 117, 111, 116, 101, 100, 66, 97, 99, 107], [101, 120, 97, 109, 112, 108, 101, 46, 99, 111, 109, 47, 103, 108, 111, 98, 116, 114, 111, 116, 47, 103, 108, 111, 98, 116, 114, 111, 116, 47, 122, 122, 108, 97, 119, 115, 95, 105, 110, 116, 101, 114, 110, 97, 108, 95, 105, 103, 110, 111, 114, 101, 95, 98, 49, 46, 70, 110, 77, 97, 116, 99, 104, 82, 117, 110, 65, 103, 114, 101, 101, 115, 87, 105, 116, 104, 68, 80]]
theorem io_str : Trym.prog.initOrder = String.ofList (ioNats.map Char.ofNat) := by kernel_rfl
theorem io_list : Trym.prog.initOrder.toList = ioNats.map Char.ofNat := by rw [io_str, String.toList_ofList]
theorem io_words : behindMainWord (wordsSigns Trym.prog.initOrder.toList) = ioWords.map (fun w => w.map Char.ofNat) := by
  rw [io_list]
  kernel_rfl
theorem io_headLifts : Trym.prog.headLifts = ["publicsums"] := by
  unfold Program.headLifts
  rw [io_words]
  kernel_rfl
theorem make_of {P : Program} {c : List Char} {rest : List (List Char)} {L : List String} (h : behindMainWord (wordsSigns P.initOrder.toList) = c :: rest) (hl : P.headLifts = L)
    (h1 : (c == "gc".toList || c == "spec".toList) = false) (h2 : (c == "cut".toList || (c == "finals".toList && rest.head? == some "cut".toList)) = false) (h3 : (c == "carried".toList) = false) (h4 : L.isEmpty = false) :
    P.make = some (.lifted L) := by
  unfold Program.make
  rw [h, hl]
  simp only [h1, h2, h3, h4]
  rfl
theorem mayEnter_of {P : Program} {c : List Char} {rest : List (List Char)} {L : List String} {tl : List (List Char)} (h : behindMainWord (wordsSigns P.initOrder.toList) = c :: rest) (hs : stripLifts liftWords (c :: rest) = (L, tl))
    (h1 : (tl.head? == some "cut".toList) = true) (h2 : P.laysLater = false) (h3 : P.bearsReflect = false) (h4 : L.contains "leanrows" = false) (h5 : P.doorFits L = true) : P.mayEnter = true := by
  unfold Program.mayEnter
  rw [h]
  simp only [hs, h1, h2, h3, h4, h5]
  simp
theorem liftsFinal_of {P : Program} {ws : List (List Char)} {L : List String} (h : behindMainWord (wordsSigns P.initOrder.toList) = ws) (hl : P.headLifts = L) (h1 : (ws.head? == some "carried".toList) = false) (h2 : L.contains "finals" = false) : P.liftsFinal = false := by
  unfold Program.liftsFinal
  rw [h, hl]
  simp only [h1, h2]
  rfl
theorem and_mk {a b : Bool} (h1 : a = true) (h2 : b = true) : (a && b) = true := by rw [h1, h2]; rfl
theorem io_laysLater : Trym.prog.laysLater = false := by kernel_rfl
theorem io_bearsReflect : Trym.prog.bearsReflect = false := by kernel_rfl
theorem io_doorFits : Trym.prog.doorFits ["publicsums"] = true := by kernel_rfl
theorem io_cons : behindMainWord (wordsSigns Trym.prog.initOrder.toList) = "publicsums".toList :: (ioWords.tail.map (fun w => w.map Char.ofNat)) := by
  rw [io_words]
  kernel_rfl
theorem io_strip : stripLifts liftWords ("publicsums".toList :: (ioWords.tail.map (fun w => w.map Char.ofNat))) = (["publicsums"], ioWords.tail.map (fun w => w.map Char.ofNat)) := by kernel_rfl
theorem io_cut : ((ioWords.tail.map (fun w => w.map Char.ofNat)).head? == some "cut".toList) = true := by kernel_rfl
theorem io_mayEnter : Trym.prog.mayEnter = true := mayEnter_of io_cons io_strip io_cut io_laysLater io_bearsReflect (by kernel_rfl) io_doorFits
theorem io_make : Trym.prog.make = some (.lifted ["publicsums"]) := make_of io_cons io_headLifts (by kernel_rfl) (by kernel_rfl) (by kernel_rfl) (by kernel_rfl)
theorem io_liftsFinal : Trym.prog.liftsFinal = false := liftsFinal_of io_cons io_headLifts (by kernel_rfl) (by kernel_rfl)
end Go.Proofs.Qxb6003017aMods
