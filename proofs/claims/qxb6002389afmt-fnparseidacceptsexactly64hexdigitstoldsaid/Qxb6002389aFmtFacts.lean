/-
  SEAT b6002389aF: THE CLOSED FACTS FOR THE WALK OVER fmt's STOPPED FRONTS (after the guide's HexbadFmt): each by the kernel's own reckoning at this dump, handed to the walk as hypotheses; then (hex.InvalidByteError).Error (37) and fmt.Errorf (16) at ParseID's two formats.
-/
import Derived.Test.Qxb6002389aFmtRows
import Derived.Stop.CallBack
import Derived.Stop.IfaceNil
import GoSem.ClaimData
import Derived.WalkKit
import Derived.WalkSpells
namespace Go.Proofs.Qxb6002389aFmt
open Go.RowKit Go.Extern.Stop Go.Stop Go.Extern

theorem call19 (args : Array Value) (w : World) : (callFunc 19 args).run Tryf.prog w = (FmtCalls.errorf #[9, 42] #[26] args).run Tryf.prog w :=
  run_callFunc_next Tryf.func19 (by kernel_rfl) (by kernel_rfl) (by kernel_rfl) args w
theorem call38 (args : Array Value) (w : World) : (callFunc 38 args).run Tryf.prog w = ((FmtStop.sprintf #[9, 42] #[9] args).run Tryf.prog w).andThen fun v w' => .ok (.value v) w' :=
  run_callFunc_extern Tryf.func38 (by kernel_rfl) (by kernel_rfl) (by kernel_rfl) (by kernel_rfl) args w
theorem guard (name : String) (w : World) : (FmtStop.guard name).run Tryf.prog w = .ok () w := by kernel_rfl
theorem nextTurns : Extern.next FmtCalls.turnsRow = some (FmtCalls.begun #[] #[]) := by kernel_rfl
theorem nextReturned : Extern.next FmtCalls.returnedRow = some (FmtCalls.returned #[] #[]) := by kernel_rfl

/-- ParseID's two formats, and the one of (hex.InvalidByteError).Error. -/
theorem fmt0 : FmtStop.printed? ⟨#[112, 114, 111, 111, 102, 115, 116, 111, 114, 101, 58, 32, 73, 68, 32, 105, 115, 32, 37, 100, 32, 99, 104, 97, 114, 97, 99, 116, 101, 114, 115, 32, 108, 111, 110, 103, 44, 32, 119, 97, 110, 116, 32, 37, 100, 32, 104, 101, 120, 97, 100, 101, 99, 105, 109, 97, 108, 32, 99, 104, 97, 114, 97, 99, 116, 101, 114, 115]⟩ 2 = some [(0, 100, false), (1, 100, false)] := by kernel_rfl
theorem fmt0r (w : World) : (FmtDoors.printed ⟨#[112, 114, 111, 111, 102, 115, 116, 111, 114, 101, 58, 32, 73, 68, 32, 105, 115, 32, 37, 100, 32, 99, 104, 97, 114, 97, 99, 116, 101, 114, 115, 32, 108, 111, 110, 103, 44, 32, 119, 97, 110, 116, 32, 37, 100, 32, 104, 101, 120, 97, 100, 101, 99, 105, 109, 97, 108, 32, 99, 104, 97, 114, 97, 99, 116, 101, 114, 115]⟩ 2).run Tryf.prog w = .ok [(0, 100, false), (1, 100, false)] w := by kernel_rfl
theorem fmt1 : FmtStop.printed? ⟨#[112, 114, 111, 111, 102, 115, 116, 111, 114, 101, 58, 32, 105, 110, 118, 97, 108, 105, 100, 32, 73, 68, 58, 32, 37, 119]⟩ 1 = some [(0, 119, false)] := by kernel_rfl
theorem fmt1r (w : World) : (FmtDoors.printed ⟨#[112, 114, 111, 111, 102, 115, 116, 111, 114, 101, 58, 32, 105, 110, 118, 97, 108, 105, 100, 32, 73, 68, 58, 32, 37, 119]⟩ 1).run Tryf.prog w = .ok [(0, 119, false)] w := by kernel_rfl
theorem fmt2 : FmtStop.printed? ⟨#[101, 110, 99, 111, 100, 105, 110, 103, 47, 104, 101, 120, 58, 32, 105, 110, 118, 97, 108, 105, 100, 32, 98, 121, 116, 101, 58, 32, 37, 35, 85]⟩ 1 = some [(0, 85, true)] := by kernel_rfl
theorem fmt2r (w : World) : (FmtDoors.printed ⟨#[101, 110, 99, 111, 100, 105, 110, 103, 47, 104, 101, 120, 58, 32, 105, 110, 118, 97, 108, 105, 100, 32, 98, 121, 116, 101, 58, 32, 37, 35, 85]⟩ 1).run Tryf.prog w = .ok [(0, 85, true)] w := by kernel_rfl

-- type 3: int
def shape3 : List UInt8 := [5, 3, 0, 0, 0, 0, 0, 0, 0, 105, 110, 116]
theorem act3 (name : String) (x : Value) (w : World) : (FmtCalls.act name true 100 false (.iface 3 x)).run Tryf.prog w = .ok (.closed true) w := by kernel_rfl
theorem op3 (name : String) (x : Int) (w : World) : (FmtStop.operand name true 100 false (.iface 3 (.int .i64 x))).run Tryf.prog w = .ok (shape3, Go.Extern.Stop.digits 8 (x % 2 ^ 64).toNat) w := by kernel_rfl
theorem str3 (w : World) : (typeStr 3).run Tryf.prog w = .ok "int" w := by kernel_rfl
-- type 45: hex.InvalidByteError
theorem act45 (name : String) (x : Value) (w : World) : (FmtCalls.act name true 119 false (.iface 45 x)).run Tryf.prog w = .ok (.call true) w := by kernel_rfl
theorem isError45 (w : World) : (FmtDoors.textMethod 45 "Error").run Tryf.prog w = .ok true w := by kernel_rfl
theorem invokeError45 (x : Value) (w : World) : (invoke (.fn (.method "Error") #[]) #[.iface 45 x]).run Tryf.prog w = .ok (.enter 37 #[x]) w := by kernel_rfl
theorem str45 (w : World) : (typeStr 45).run Tryf.prog w = .ok "hex.InvalidByteError" w := by kernel_rfl
-- type 21: int32
def shape21 : List UInt8 := [4, 5, 0, 0, 0, 0, 0, 0, 0, 105, 110, 116, 51, 50]
theorem act21 (name : String) (x : Value) (w : World) : (FmtCalls.act name false 85 true (.iface 21 x)).run Tryf.prog w = .ok (.closed false) w := by kernel_rfl
theorem op21 (name : String) (x : Int) (w : World) : (FmtStop.operand name false 85 true (.iface 21 (.int .i32 x))).run Tryf.prog w = .ok (shape21, Go.Extern.Stop.digits 8 (x % 2 ^ 64).toNat) w := by kernel_rfl
theorem str21 (w : World) : (typeStr 21).run Tryf.prog w = .ok "int32" w := by kernel_rfl
-- the new errors' types: 46: a pointer to 48; 44: a pointer to 66
theorem ptr46 (w : World) : (FmtStop.ptrTo "errors.errorString").run Tryf.prog w = .ok 46 w := by kernel_rfl
theorem elem46 (w : World) : (elemOf 46).run Tryf.prog w = .ok 48 w := by kernel_rfl
theorem ptr44 (w : World) : (FmtStop.ptrTo "fmt.wrapError").run Tryf.prog w = .ok 44 w := by kernel_rfl
theorem elem44 (w : World) : (elemOf 44).run Tryf.prog w = .ok 66 w := by kernel_rfl

set_option maxHeartbeats 800000 in
theorem error37 (F : Interp) (c : Int) (w : World) (hF : F.answers w.tape) (h0 : 0 ≤ c) (h1 : c ≤ 255) :
    Calls Tryf.prog 37 #[.int .u8 c] w fun e w' => ∃ s, e = .returned (.string s) ∧ Below w.heap.size w w' := by
  have hF' := answers_open hF
  have k1 := call38
  have k2 := guard
  have k3 := fmt2
  have k4 := fmt2r
  have k5 := act21
  have k6 := op21
  have k7 := str21
  go_enter Tryf.func37, Tryf.ntmps37
  go_wp2
  go_ret
  exact ⟨_, rfl, ((Below.refl _ w).alloc (Nat.le_refl _) _).drew⟩

set_option maxHeartbeats 800000 in
theorem errorf_len (F : Interp) (x y : Int) (blk : Nat) (w : World) (hF : F.answers w.tape) (hc0 : w.cell? ⟨blk, 0, none⟩ = some (.iface 3 (.int .i64 x))) (hc1 : w.cell? ⟨blk, 1, none⟩ = some (.iface 3 (.int .i64 y))) :
    Calls Tryf.prog 16 #[.string ⟨#[112, 114, 111, 111, 102, 115, 116, 111, 114, 101, 58, 32, 73, 68, 32, 105, 115, 32, 37, 100, 32, 99, 104, 97, 114, 97, 99, 116, 101, 114, 115, 32, 108, 111, 110, 103, 44, 32, 119, 97, 110, 116, 32, 37, 100, 32, 104, 101, 120, 97, 100, 101, 99, 105, 109, 97, 108, 32, 99, 104, 97, 114, 97, 99, 116, 101, 114, 115]⟩, .slice (some ⟨blk, 0, none⟩) 2 2] w fun e w' => ∃ a, e = .returned (.iface 46 (.pointer (some a))) ∧ Below w.heap.size w w' := by
  have hF' := answers_open hF
  have hb : blk < w.heap.size := World.block_lt_of_cell? _ _ hc0
  have k1 := call19
  have k2 := guard
  have k3 := fmt0
  have k4 := fmt0r
  have k5 := act3
  have k6 := op3
  have k7 := str3
  have k8 := ptr46
  have k9 := elem46
  go_enter Tryf.func16, Tryf.ntmps16
  go_wp2
  apply rows_value nextTurns
  case hr =>
    go_simp
    exact ⟨rfl, rfl⟩
  case h =>
    go_wp2
    go_ret
    exact ⟨_, rfl, ((Below.refl _ w).alloc (Nat.le_refl _) _).drew⟩

set_option maxHeartbeats 800000 in
theorem errorf_bad (F : Interp) (c : Int) (blk : Nat) (w : World) (hF : F.answers w.tape) (h0 : 0 ≤ c) (h1 : c ≤ 255) (hc0 : w.cell? ⟨blk, 0, none⟩ = some (.iface 45 (.int .u8 c))) :
    Calls Tryf.prog 16 #[.string ⟨#[112, 114, 111, 111, 102, 115, 116, 111, 114, 101, 58, 32, 105, 110, 118, 97, 108, 105, 100, 32, 73, 68, 58, 32, 37, 119]⟩, .slice (some ⟨blk, 0, none⟩) 1 1] w fun e w' => ∃ a, e = .returned (.iface 44 (.pointer (some a))) ∧ Below w.heap.size w w' := by
  have hF' := answers_open hF
  have hb : blk < w.heap.size := World.block_lt_of_cell? _ _ hc0
  have k1 := call19
  have k2 := guard
  have k3 := fmt1
  have k4 := fmt1r
  have k5 := act45
  have k6 := isError45
  have k7 := str45
  have k8 := ptr44
  have k9 := elem44
  go_enter Tryf.func16, Tryf.ntmps16
  go_wp2
  apply rows_call nextTurns
  case hr =>
    go_simp
    exact ⟨⟨rfl, rfl, rfl⟩, rfl⟩
  case hi => exact invokeError45 _ _
  case hc =>
    refine (error37 F c _ (by exact hF) h0 h1).mono fun e w₃ hx => ?_
    obtain ⟨s, rfl, hb3⟩ := hx
    have hF3 := answers_open (show F.answers w₃.tape by rw [hb3.tape]; exact hF)
    have hc03 : w₃.cell? ⟨blk, 0, none⟩ = some (.iface 45 (.int .u8 c)) := (hb3.cell (p := ⟨blk, 0, none⟩) hb).trans hc0
    have HB : Hid (Below w.heap.size w w₃) := hb3
    clear hb3 hF'
    apply rows_value nextReturned
    case hr =>
      go_simp
      exact ⟨rfl, rfl⟩
    case h =>
      go_wp2
      go_ret
      exact ⟨_, rfl, (HB.out.alloc HB.out.size _).drew⟩

end Go.Proofs.Qxb6002389aFmt
