/-
  fmt.Errorf at the two formats of this program, by contract: it hands back an error that is not nil. The closed facts on fmt's calling stop are laid here by hand for this program's dump.
-/
import Derived.Test.Qxb6628281aFmtString
import Derived.Stop.CallBack
import Derived.Stop.IfaceNil
import Derived.WalkSpells
import GoSem.ClaimData
namespace Go.Proofs.Qxb6628281aFmt.Fx
open Go.Extern.Stop Go.Stop Go.Extern Go.RowKit

theorem call10 (args : Array Value) (w : World) : (callFunc 10 args).run Tryf.prog w = (FmtCalls.errorf #[9, 33] #[27] args).run Tryf.prog w :=
  run_callFunc_next Tryf.func10 (by kernel_rfl) (by kernel_rfl) (by kernel_rfl) args w

theorem guard (name : String) (w : World) : (FmtStop.guard name).run Tryf.prog w = .ok () w := by kernel_rfl
theorem nextTurns : Extern.next FmtCalls.turnsRow = some (FmtCalls.begun #[] #[]) := by kernel_rfl
theorem nextReturned : Extern.next FmtCalls.returnedRow = some (FmtCalls.returned #[] #[]) := by kernel_rfl

/-- "time to live %v is not positive" -/
theorem fmt1 : FmtStop.printed? ⟨#[116, 105, 109, 101, 32, 116, 111, 32, 108, 105, 118, 101, 32, 37, 118, 32, 105, 115, 32, 110, 111, 116, 32, 112, 111, 115, 105, 116, 105, 118, 101]⟩ 1 = some [(0, 118, false)] := by kernel_rfl
theorem fmt1r (w : World) : (FmtDoors.printed ⟨#[116, 105, 109, 101, 32, 116, 111, 32, 108, 105, 118, 101, 32, 37, 118, 32, 105, 115, 32, 110, 111, 116, 32, 112, 111, 115, 105, 116, 105, 118, 101]⟩ 1).run Tryf.prog w = .ok [(0, 118, false)] w := by kernel_rfl

/-- "time to live %v is longer than %v, the longest %s keeps a lease for" -/
def longer : ByteArray := ⟨([116, 105, 109, 101, 32, 116, 111, 32, 108, 105, 118, 101, 32, 37, 118, 32, 105, 115, 32, 108, 111, 110, 103, 101, 114, 32, 116, 104, 97, 110, 32, 37, 118].append [44, 32, 116, 104, 101, 32, 108, 111, 110, 103, 101, 115, 116, 32, 37, 115, 32, 107, 101, 101, 112, 115, 32, 97, 32, 108, 101, 97, 115, 101, 32, 102, 111, 114]).toArray⟩
theorem fmt2 : FmtStop.printed? longer 3 = some [(0, 118, false), (1, 118, false), (2, 115, false)] := by kernel_rfl
theorem fmt2r (w : World) : (FmtDoors.printed longer 3).run Tryf.prog w = .ok [(0, 118, false), (1, 118, false), (2, 115, false)] w := by kernel_rfl

-- type 23: time.Duration
theorem act23_118w (name : String) (x : Value) (w : World) : (FmtCalls.act name true 118 false (.iface 23 x)).run Tryf.prog w = .ok (.call false) w := by kernel_rfl
theorem isString23 (w : World) : (FmtDoors.textMethod 23 "String").run Tryf.prog w = .ok true w := by kernel_rfl
theorem invokeString23 (x : Value) (w : World) : (invoke (.fn (.method "String") #[]) #[.iface 23 x]).run Tryf.prog w = .ok (.enter 12 #[x]) w := by kernel_rfl
theorem str23 (w : World) : (typeStr 23).run Tryf.prog w = .ok "time.Duration" w := by kernel_rfl

-- type 9: string
def shape9 : List UInt8 := [12, 6, 0, 0, 0, 0, 0, 0, 0, 115, 116, 114, 105, 110, 103]
theorem act9_115w (name : String) (x : Value) (w : World) : (FmtCalls.act name true 115 false (.iface 9 x)).run Tryf.prog w = .ok (.closed true) w := by kernel_rfl
theorem op9_115w (name : String) (s : ByteArray) (w : World) : (FmtStop.operand name true 115 false (.iface 9 (.string s))).run Tryf.prog w = .ok (shape9, FmtStop.pack s.data.toList) w := by kernel_rfl

theorem ptr36 (w : World) : (FmtStop.ptrTo "errors.errorString").run Tryf.prog w = .ok 36 w := by kernel_rfl
theorem elem36 (w : World) : (elemOf 36).run Tryf.prog w = .ok 38 w := by kernel_rfl
theorem isError36 (w : World) : (FmtDoors.textMethod 36 "Error").run Tryf.prog w = .ok true w := by kernel_rfl

attribute [local go_sem] call10 guard fmt1 fmt1r fmt2 fmt2r act23_118w isString23 str23 act9_115w op9_115w ptr36 elem36 isError36

/-- It returns an error that is not nil. -/
def IsErr (e : Ending) : Prop := ∃ t x, e = .returned (.iface t x)

set_option maxHeartbeats 1600000 in
theorem errorf1 (F : Interp) (d : Int) (blk : Nat) (w : World) (hF : F.answers w.tape) (h0 : -9223372036854775808 ≤ d) (h1 : d ≤ 9223372036854775807)
    (hc0 : w.cell? ⟨blk, 0, none⟩ = some (.iface 23 (.int .i64 d))) :
    Calls Tryf.prog 8 #[.string ⟨#[116, 105, 109, 101, 32, 116, 111, 32, 108, 105, 118, 101, 32, 37, 118, 32, 105, 115, 32, 110, 111, 116, 32, 112, 111, 115, 105, 116, 105, 118, 101]⟩, .slice (some ⟨blk, 0, none⟩) 1 1] w fun e w' => IsErr e ∧ Below w.heap.size w w' := by
  have hF' := answers_open hF
  have hb : blk < w.heap.size := World.block_lt_of_cell? _ _ hc0
  go_enter Tryf.func8, Tryf.ntmps8
  go_wp2
  apply rows_call nextTurns
  case hr =>
    go_simp
    exact ⟨⟨rfl, rfl, rfl⟩, rfl⟩
  case hi => exact invokeString23 _ _
  case hc =>
    refine (Du.string_any d _ h0 h1).mono fun e w₃ ⟨⟨s, hs, he⟩, hx⟩ => ?_
    subst he
    have hF3 : ∀ i name reading k range, w₃.tape i (.extern (word name reading k) range) = F name reading k := by rw [hx.tape]; exact hF'
    have hc03 : w₃.cell? ⟨blk, 0, none⟩ = some (.iface 23 (.int .i64 d)) := by rw [hx.cell hb]; exact hc0
    apply rows_value nextReturned
    case hr =>
      go_simp
      exact ⟨rfl, rfl⟩
    case h =>
      go_wp2
      go_ret
      exact ⟨⟨_, _, rfl⟩, (hx.alloc hx.size _).drew⟩

set_option maxHeartbeats 3200000 in
theorem errorf2 (F : Interp) (d1 d2 : Int) (s : ByteArray) (blk : Nat) (w : World) (hF : F.answers w.tape) (h0 : -9223372036854775808 ≤ d1) (h1 : d1 ≤ 9223372036854775807) (g0 : -9223372036854775808 ≤ d2) (g1 : d2 ≤ 9223372036854775807)
    (hc0 : w.cell? ⟨blk, 0, none⟩ = some (.iface 23 (.int .i64 d1))) (hc1 : w.cell? ⟨blk, 1, none⟩ = some (.iface 23 (.int .i64 d2))) (hc2 : w.cell? ⟨blk, 2, none⟩ = some (.iface 9 (.string s))) :
    Calls Tryf.prog 8 #[.string longer, .slice (some ⟨blk, 0, none⟩) 3 3] w fun e w' => IsErr e ∧ Below w.heap.size w w' := by
  have hF' := answers_open hF
  have hb : blk < w.heap.size := World.block_lt_of_cell? _ _ hc0
  go_enter Tryf.func8, Tryf.ntmps8
  go_wp2
  apply rows_call nextTurns
  case hr =>
    go_simp
    exact ⟨⟨rfl, rfl, rfl⟩, rfl⟩
  case hi => exact invokeString23 _ _
  case hc =>
    refine (Du.string_any d1 _ h0 h1).mono fun e w₃ ⟨⟨s1, hs1, he⟩, hx⟩ => ?_
    subst he
    have hF3 : ∀ i name reading k range, w₃.tape i (.extern (word name reading k) range) = F name reading k := by rw [hx.tape]; exact hF'
    have hc03 : w₃.cell? ⟨blk, 0, none⟩ = some (.iface 23 (.int .i64 d1)) := by rw [hx.cell hb]; exact hc0
    have hc13 : w₃.cell? ⟨blk, 1, none⟩ = some (.iface 23 (.int .i64 d2)) := by rw [hx.cell hb]; exact hc1
    have hc23 : w₃.cell? ⟨blk, 2, none⟩ = some (.iface 9 (.string s)) := by rw [hx.cell hb]; exact hc2
    have hb3 : blk < w₃.heap.size := Nat.lt_of_lt_of_le hb hx.size
    apply rows_call nextReturned
    case hr =>
      go_simp
      exact ⟨⟨rfl, rfl, rfl⟩, rfl⟩
    case hi => exact invokeString23 _ _
    case hc =>
      refine (Du.string_any d2 _ g0 g1).mono fun e w₄ ⟨⟨s2, hs2, he⟩, hy⟩ => ?_
      subst he
      have hF4 : ∀ i name reading k range, w₄.tape i (.extern (word name reading k) range) = F name reading k := by rw [hy.tape]; exact hF3
      have hc04 : w₄.cell? ⟨blk, 0, none⟩ = some (.iface 23 (.int .i64 d1)) := by rw [hy.cell hb3]; exact hc03
      have hc14 : w₄.cell? ⟨blk, 1, none⟩ = some (.iface 23 (.int .i64 d2)) := by rw [hy.cell hb3]; exact hc13
      have hc24 : w₄.cell? ⟨blk, 2, none⟩ = some (.iface 9 (.string s)) := by rw [hy.cell hb3]; exact hc23
      have hz : Below w.heap.size w w₄ := hx.trans (hy.mono hx.size)
      clear hx hy
      apply rows_value nextReturned
      case hr =>
        go_simp
        exact ⟨rfl, rfl⟩
      case h =>
        go_wp2
        go_ret
        exact ⟨⟨_, _, rfl⟩, (hz.alloc hz.size _).drew⟩

end Go.Proofs.Qxb6628281aFmt.Fx
