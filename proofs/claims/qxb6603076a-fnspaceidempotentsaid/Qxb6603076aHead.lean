/-
  Seat b6603076a. THREE CLOSED FACTS that read the dump's head: the head is read as a list of signs once, and the three are brought to it by laws on any program (so that the kernel does not decode the head's text again and again).
-/
import Derived.Test.Qxb6603076aRows
import Derived.JoinedOf
import Derived.KernelRfl
namespace Go.Proofs.Qxb6603076a

theorem and_join {a b : Bool} (ha : a = true) (hb : b = true) : (a && b) = true := by rw [ha, hb]; rfl

set_option maxRecDepth 100000 in
def headSigns : {l : List Char // Try.prog.initOrder = String.ofList l} := ⟨_, rfl⟩
theorem head_signs : Try.prog.initOrder.toList = headSigns.1 := (congrArg String.toList headSigns.2).trans String.toList_ofList

theorem cons_of_head {α : Type} {c : α} : ∀ {l : List α}, l.head? = some c → l = c :: l.tail
  | [], h => by cases h
  | x :: r, h => by
    have e : x = c := by simpa using h
    rw [e]
    rfl

section
variable {P : Program} {l : List Char} {R : List (List Char)}

theorem mayEnter_of (h : P.initOrder.toList = l) (hw : behindMainWord (wordsSigns l) = "cut".toList :: R) (h2 : (stripLifts liftWords ("cut".toList :: R)).2.head? = some "cut".toList) (h3 : (stripLifts liftWords ("cut".toList :: R)).1 = [])
    (h4 : P.laysLater = false) (h5 : P.bearsReflect = false) (h6 : P.doorFits [] = true) : P.mayEnter = true := by
  unfold Program.mayEnter
  rw [h, hw]
  show (_ || _ || _) = true
  rw [h2, h3, h4, h5, h6]
  simp

theorem make_of (h : P.initOrder.toList = l) (hw : behindMainWord (wordsSigns l) = "cut".toList :: R) : P.make = some .cut := by
  unfold Program.make
  rw [h, hw]
  rfl

theorem lifts_of (h : P.initOrder.toList = l) (hw : behindMainWord (wordsSigns l) = "cut".toList :: R) (h3 : (stripLifts liftWords ("cut".toList :: R)).1 = []) : P.liftsFinal = false := by
  unfold Program.liftsFinal Program.headLifts
  rw [h, hw]
  dsimp only
  rw [h3]
  simp
end

theorem head_cut : behindMainWord (wordsSigns headSigns.1) = "cut".toList :: (behindMainWord (wordsSigns headSigns.1)).tail := cons_of_head (by kernel_rfl)
theorem strip_two : (stripLifts liftWords ("cut".toList :: (behindMainWord (wordsSigns headSigns.1)).tail)).2.head? = some "cut".toList := by kernel_rfl
theorem strip_one : (stripLifts liftWords ("cut".toList :: (behindMainWord (wordsSigns headSigns.1)).tail)).1 = [] := by kernel_rfl
theorem lays : Try.prog.laysLater = false := by kernel_rfl
theorem reflects : Try.prog.bearsReflect = false := by kernel_rfl
theorem door : Try.prog.doorFits [] = true := by kernel_rfl

theorem mayEnter_at : Try.prog.mayEnter = true := mayEnter_of head_signs head_cut strip_two strip_one lays reflects door
theorem make_at : Try.prog.make = some .cut := make_of head_signs head_cut
theorem lifts_at : Try.prog.liftsFinal = false := lifts_of head_signs head_cut strip_one

end Go.Proofs.Qxb6603076a
