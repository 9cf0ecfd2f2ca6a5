import Derived.Test.Qxb6614227aFmtRows
import Derived.WalkKit
import Derived.WalkSpells
import Derived.WalkLawsBesides
import Derived.Stop.CallBack
import Derived.Stop.IfaceNil
import GoSem.ClaimData
import Derived.Stop.FmtTextKit
import Derived.Stop.Texts
import Derived.Stop.Told
namespace Go.Proofs.Qxb6614227aFmt
open Go.RowKit Go.Extern.Stop Go.Stop Go.Extern

theorem call32 (args : Array Value) (w : World) : (callFunc 32 args).run Tryf.prog w = (FmtCalls.sprintf #[9, 67] #[9] args).run Tryf.prog w :=
  run_callFunc_next Tryf.func32 (by kernel_rfl) (by kernel_rfl) (by kernel_rfl) args w
theorem nextTurns : Extern.next FmtCalls.turnsRow = some (FmtCalls.begun #[] #[]) := by kernel_rfl
theorem nextReturned : Extern.next FmtCalls.returnedRow = some (FmtCalls.returned #[] #[]) := by kernel_rfl
theorem guard32 (name : String) (w : World) : (FmtStop.guard name).run Tryf.prog w = .ok () w := by kernel_rfl
theorem fmtL : FmtStop.printed? ⟨#[98, 121, 116, 101, 115, 32, 108, 101, 102, 116, 32, 111, 118, 101, 114, 32, 97, 102, 116, 101, 114, 32, 37, 115, 58, 32, 37, 100]⟩ 2 = some [(0, 115, false), (1, 100, false)] := by kernel_rfl
theorem fmtLr (w : World) : (FmtDoors.printed ⟨#[98, 121, 116, 101, 115, 32, 108, 101, 102, 116, 32, 111, 118, 101, 114, 32, 97, 102, 116, 101, 114, 32, 37, 115, 58, 32, 37, 100]⟩ 2).run Tryf.prog w = .ok [(0, 115, false), (1, 100, false)] w := by kernel_rfl
def bText : ByteArray := ⟨#[111, 99, 115, 112, 95, 114, 101, 115, 112, 111, 110, 115, 101, 32, 105, 115, 32, 101, 109, 112, 116, 121]⟩
theorem fmtB : FmtStop.printed? bText 0 = some [] := by kernel_rfl
theorem fmtBr (w : World) : (FmtDoors.printed bText 0).run Tryf.prog w = .ok [] w := by kernel_rfl
def shape3 : List UInt8 := [5, 3, 0, 0, 0, 0, 0, 0, 0, 105, 110, 116]
def shape9 : List UInt8 := [12, 6, 0, 0, 0, 0, 0, 0, 0, 115, 116, 114, 105, 110, 103]
theorem act3 (name : String) (x : Value) (w : World) : (FmtCalls.act name false 100 false (.iface 3 x)).run Tryf.prog w = .ok (.closed false) w := by kernel_rfl
theorem act9 (name : String) (x : Value) (w : World) : (FmtCalls.act name false 115 false (.iface 9 x)).run Tryf.prog w = .ok (.closed false) w := by kernel_rfl
theorem op3 (name : String) (x : Int) (w : World) : (FmtStop.operand name false 100 false (.iface 3 (.int .i64 x))).run Tryf.prog w = .ok (shape3, Go.Extern.Stop.digits 8 (x % 2 ^ 64).toNat) w := by kernel_rfl
theorem op9 (name : String) (x : ByteArray) (w : World) : (FmtStop.operand name false 115 false (.iface 9 (.string x))).run Tryf.prog w = .ok (shape9, FmtStop.pack x.data.toList) w := by kernel_rfl

attribute [local go_sem] call32 guard32 fmtL fmtLr fmtB fmtBr act3 act9 op3 op9

/-- The call has made a Violation of its own: a pointer to it; its Detail is short and may be written. -/
structure IsViol (w : World) (e : Ending) (w' : World) (V : Nat) (d : ByteArray) : Prop where
  ret : e = .returned (.pointer (some ⟨V, 0, none⟩))
  new : w.heap.size ≤ V
  det : w'.cell? ⟨V, 1, none⟩ = some (.string d)
  froz : w'.frozen? ⟨V, 1, none⟩ = false
  short : d.size ≤ 1000
  bel : Below w.heap.size w w'

def fieldT : ByteArray := ⟨#[111, 99, 115, 112, 95, 114, 101, 115, 112, 111, 110, 115, 101]⟩
def leftF : List UInt8 := [98, 121, 116, 101, 115, 32, 108, 101, 102, 116, 32, 111, 118, 101, 114, 32, 97, 102, 116, 101, 114, 32, 37, 115, 58, 32, 37, 100]
theorem left_parse : (FmtText.parse leftF).map FmtText.glue = some [.lit [98, 121, 116, 101, 115, 32, 108, 101, 102, 116, 32, 111, 118, 101, 114, 32, 97, 102, 116, 101, 114, 32], .verb {} 115, .lit [58, 32], .verb {} 100] := by rfl
theorem left_text (s : List UInt8) (hs : s.length < 2 ^ 64) (n : Nat) (hn : n ≤ 1048576) :
    FmtText.text "fmt.Sprintf" [leftF, shape9, FmtStop.pack s, shape3, digits 8 (n % 18446744073709551616)] = some ([98, 121, 116, 101, 115, 32, 108, 101, 102, 116, 32, 111, 118, 101, 114, 32, 97, 102, 116, 101, 114, 32] ++ (s ++ ([58, 32] ++ Lib.itoa n))) := by
  have hw : (Lit.int .i64 (n : Int)).wf = true := WalkArith.wf_i64 (by omega)
  have hi := FmtText.operand_int_at (sh := shape3) (k := .i64) rfl rfl n hw
  have hn' := FmtText.operand_str_at (sh := shape9) rfl rfl s hs
  have e : digits 8 (n % 18446744073709551616) = digits 8 ((n : Int) % 18446744073709551616).toNat := by congr 1
  rw [e, FmtText.text_sprintf_glued left_parse (FmtText.operands_cons hn' (FmtText.operands_cons hi FmtText.operands_nil))]
  simp [FmtText.render, FmtText.printArg_d _ _ hw, FmtText.printArg_s_str]
theorem left_size (F : Interp) (n : Nat) (hn : n ≤ 1048576) : (FmtStop.textOf (F.told "fmt.Sprintf" [leftF, shape9, FmtStop.pack fieldT.data.toList, shape3, digits 8 (n % 18446744073709551616)] 0)).size ≤ 1000 := by
  have hw : (Lit.int .i64 (n : Int)).wf = true := WalkArith.wf_i64 (by omega)
  have hl := FmtText.itoa_length_le hw
  have hf : fieldT.data.toList.length = 13 := by decide
  have ht := told_string F (left_text fieldT.data.toList (by rw [hf]; decide) n hn) (by simp [hf]; omega)
  have := congrArg List.length (Kit.textOf_list F.told "fmt.Sprintf" [leftF, shape9, FmtStop.pack fieldT.data.toList, shape3, digits 8 (n % 18446744073709551616)])
  rw [ht] at this
  simp [hf] at this
  omega
theorem bounds_parse : (FmtText.parse bText.data.toList).map FmtText.glue = some [.lit bText.data.toList] := by rfl
theorem bounds_text : FmtText.text "fmt.Sprintf" [bText.data.toList] = some bText.data.toList := by
  rw [FmtText.text_sprintf_glued bounds_parse FmtText.operands_nil]
  simp [FmtText.render]
theorem bounds_size (F : Interp) : (FmtStop.textOf (F.told "fmt.Sprintf" [bText.data.toList] 0)).size ≤ 1000 := by
  have hf : bText.data.toList.length = 22 := by decide
  have ht := told_string F bounds_text (by rw [hf]; decide)
  have := congrArg List.length (Kit.textOf_list F.told "fmt.Sprintf" [bText.data.toList])
  rw [ht, hf] at this
  simp at this
  omega

set_option maxHeartbeats 800000 in
theorem bounds29 (F : Interp) (w : World) (hF : F.told.answers w.tape) :
    Calls Tryf.prog 29 #[.string bText, .slice none 0 0] w fun e w' => ∃ V d, IsViol w e w' V d := by
  have hF' := answers_open hF
  go_enter Tryf.func29, Tryf.ntmps29
  go_wp2
  apply rows_value nextTurns
  case hr =>
    go_simp
    exact ⟨rfl, rfl⟩
  case h =>
    go_wp2
    go_ret
    exact ⟨w.heap.size, _, rfl, Nat.le_refl _, World.cell?_alloc_new _ _ _ _, World.frozen?_alloc_new _ _ _ _, bounds_size F, ((Below.refl _ _).alloc (Nat.le_refl _) _).drew⟩

set_option maxHeartbeats 800000 in
theorem unended34 (F : Interp) (a : Option Addr) (n cap : Nat) (w : World) (hn : n ≤ 1048576) (hF : F.told.answers w.tape) :
    Calls Tryf.prog 34 #[.slice a n cap, .string fieldT, .bool true] w fun e w' => ∃ V d, IsViol w e w' V d := by
  have hF' := answers_open hF
  go_enter Tryf.func34, Tryf.ntmps34
  go_wp2
  apply rows_value nextTurns
  case hr =>
    go_simp
    exact ⟨rfl, rfl⟩
  case h =>
    go_wp2
    go_ret
    refine ⟨w.heap.size + 1, _, rfl, Nat.le_succ _, ?_, ?_, left_size F n hn, (((Below.refl _ _).alloc (Nat.le_refl _) _).alloc (by simp) _).drew⟩
    · simp [go_sem]; rfl
    · simp [go_sem]

theorem cut_size (s : ByteArray) (hs : s.size ≤ 500) : (s ++ (⟨#[32, 105, 115, 32, 99, 117, 116, 32, 115, 104, 111, 114, 116]⟩ : ByteArray)).size ≤ 1000 := by
  rw [ByteArray.size_append]
  have : (⟨#[32, 105, 115, 32, 99, 117, 116, 32, 115, 104, 111, 114, 116]⟩ : ByteArray).size = 13 := rfl
  omega

set_option maxHeartbeats 800000 in
theorem cut25 (s : ByteArray) (w : World) (hs : s.size ≤ 500) :
    Calls Tryf.prog 25 #[.string s] w fun e w' => ∃ V d, IsViol w e w' V d := by
  go_enter Tryf.func25, Tryf.ntmps25
  go_wp2
  go_ret
  exact ⟨w.heap.size, _, rfl, Nat.le_refl _, World.cell?_alloc_new _ _ _ _, World.frozen?_alloc_new _ _ _ _, cut_size s hs, ((Below.refl _ _).alloc (Nat.le_refl _) _)⟩
end Go.Proofs.Qxb6614227aFmt
