/- Walks of the small functions of the package: the makers of types, Underlying, Unalias, and the predicates on types. -/
import Derived.Test.YtphfjojdiilneaaGreatDoorLeaf
set_option linter.unusedVariables false
set_option linter.unusedSimpArgs false
namespace Go.Proofs.YtphfjojdiilneaaGreatDoor
open Go.RowKit
theorem ta_miss (T A E : Nat) (v z : Value) (w : World) (hu : Tryz.prog.underlying A = some (.pointer E)) (hz : ∀ w, (zeroValue A).run Tryz.prog w = .ok z w) (h : T ≠ A) :
    (Instr.typeAssert (.iface T v) 51 A true).run Tryz.prog w = .ok (.tuple #[z, .bool false]) w := by
  simp [Instr.typeAssert, run_underlying hu, hz, h, go_sem]
theorem ta_hit (A E : Nat) (v : Value) (w : World) (hu : Tryz.prog.underlying A = some (.pointer E)) :
    (Instr.typeAssert (.iface A v) 51 A true).run Tryz.prog w = .ok (.tuple #[v, .bool true]) w := by
  simp [Instr.typeAssert, run_underlying hu, go_sem]

theorem tam60 {T : Nat} (h : T ≠ 60) (v : Value) (w : World) : (Instr.typeAssert (.iface T v) 51 60 true).run Tryz.prog w = .ok (.tuple #[.pointer none, .bool false]) w := ta_miss T 60 62 v (.pointer none) w Tryz.underlying60 Tryz.zeroValue60 h

theorem tah60 (v : Value) (w : World) : (Instr.typeAssert (.iface 60 v) 51 60 true).run Tryz.prog w = .ok (.tuple #[v, .bool true]) w := ta_hit 60 62 v w Tryz.underlying60

theorem tam63 {T : Nat} (h : T ≠ 63) (v : Value) (w : World) : (Instr.typeAssert (.iface T v) 51 63 true).run Tryz.prog w = .ok (.tuple #[.pointer none, .bool false]) w := ta_miss T 63 66 v (.pointer none) w Tryz.underlying63 Tryz.zeroValue63 h

theorem tah63 (v : Value) (w : World) : (Instr.typeAssert (.iface 63 v) 51 63 true).run Tryz.prog w = .ok (.tuple #[v, .bool true]) w := ta_hit 63 66 v w Tryz.underlying63

theorem tam76 {T : Nat} (h : T ≠ 76) (v : Value) (w : World) : (Instr.typeAssert (.iface T v) 51 76 true).run Tryz.prog w = .ok (.tuple #[.pointer none, .bool false]) w := ta_miss T 76 115 v (.pointer none) w Tryz.underlying76 Tryz.zeroValue76 h

theorem tah76 (v : Value) (w : World) : (Instr.typeAssert (.iface 76 v) 51 76 true).run Tryz.prog w = .ok (.tuple #[v, .bool true]) w := ta_hit 76 115 v w Tryz.underlying76

theorem tam77 {T : Nat} (h : T ≠ 77) (v : Value) (w : World) : (Instr.typeAssert (.iface T v) 51 77 true).run Tryz.prog w = .ok (.tuple #[.pointer none, .bool false]) w := ta_miss T 77 192 v (.pointer none) w Tryz.underlying77 Tryz.zeroValue77 h

theorem tah77 (v : Value) (w : World) : (Instr.typeAssert (.iface 77 v) 51 77 true).run Tryz.prog w = .ok (.tuple #[v, .bool true]) w := ta_hit 77 192 v w Tryz.underlying77

theorem tam78 {T : Nat} (h : T ≠ 78) (v : Value) (w : World) : (Instr.typeAssert (.iface T v) 51 78 true).run Tryz.prog w = .ok (.tuple #[.pointer none, .bool false]) w := ta_miss T 78 96 v (.pointer none) w Tryz.underlying78 Tryz.zeroValue78 h

theorem tah78 (v : Value) (w : World) : (Instr.typeAssert (.iface 78 v) 51 78 true).run Tryz.prog w = .ok (.tuple #[v, .bool true]) w := ta_hit 78 96 v w Tryz.underlying78

theorem tam81 {T : Nat} (h : T ≠ 81) (v : Value) (w : World) : (Instr.typeAssert (.iface T v) 51 81 true).run Tryz.prog w = .ok (.tuple #[.pointer none, .bool false]) w := ta_miss T 81 193 v (.pointer none) w Tryz.underlying81 Tryz.zeroValue81 h

theorem tah81 (v : Value) (w : World) : (Instr.typeAssert (.iface 81 v) 51 81 true).run Tryz.prog w = .ok (.tuple #[v, .bool true]) w := ta_hit 81 193 v w Tryz.underlying81

theorem tam82 {T : Nat} (h : T ≠ 82) (v : Value) (w : World) : (Instr.typeAssert (.iface T v) 51 82 true).run Tryz.prog w = .ok (.tuple #[.pointer none, .bool false]) w := ta_miss T 82 196 v (.pointer none) w Tryz.underlying82 Tryz.zeroValue82 h

theorem tah82 (v : Value) (w : World) : (Instr.typeAssert (.iface 82 v) 51 82 true).run Tryz.prog w = .ok (.tuple #[v, .bool true]) w := ta_hit 82 196 v w Tryz.underlying82

theorem tam85 {T : Nat} (h : T ≠ 85) (v : Value) (w : World) : (Instr.typeAssert (.iface T v) 51 85 true).run Tryz.prog w = .ok (.tuple #[.pointer none, .bool false]) w := ta_miss T 85 113 v (.pointer none) w Tryz.underlying85 Tryz.zeroValue85 h

theorem tah85 (v : Value) (w : World) : (Instr.typeAssert (.iface 85 v) 51 85 true).run Tryz.prog w = .ok (.tuple #[v, .bool true]) w := ta_hit 85 113 v w Tryz.underlying85

theorem tam89 {T : Nat} (h : T ≠ 89) (v : Value) (w : World) : (Instr.typeAssert (.iface T v) 51 89 true).run Tryz.prog w = .ok (.tuple #[.pointer none, .bool false]) w := ta_miss T 89 117 v (.pointer none) w Tryz.underlying89 Tryz.zeroValue89 h

theorem tah89 (v : Value) (w : World) : (Instr.typeAssert (.iface 89 v) 51 89 true).run Tryz.prog w = .ok (.tuple #[v, .bool true]) w := ta_hit 89 117 v w Tryz.underlying89

theorem tam91 {T : Nat} (h : T ≠ 91) (v : Value) (w : World) : (Instr.typeAssert (.iface T v) 51 91 true).run Tryz.prog w = .ok (.tuple #[.pointer none, .bool false]) w := ta_miss T 91 119 v (.pointer none) w Tryz.underlying91 Tryz.zeroValue91 h

theorem tah91 (v : Value) (w : World) : (Instr.typeAssert (.iface 91 v) 51 91 true).run Tryz.prog w = .ok (.tuple #[v, .bool true]) w := ta_hit 91 119 v w Tryz.underlying91

theorem tam100 {T : Nat} (h : T ≠ 100) (v : Value) (w : World) : (Instr.typeAssert (.iface T v) 51 100 true).run Tryz.prog w = .ok (.tuple #[.pointer none, .bool false]) w := ta_miss T 100 138 v (.pointer none) w Tryz.underlying100 Tryz.zeroValue100 h

theorem tah100 (v : Value) (w : World) : (Instr.typeAssert (.iface 100 v) 51 100 true).run Tryz.prog w = .ok (.tuple #[v, .bool true]) w := ta_hit 100 138 v w Tryz.underlying100

theorem tam142 {T : Nat} (h : T ≠ 142) (v : Value) (w : World) : (Instr.typeAssert (.iface T v) 51 142 true).run Tryz.prog w = .ok (.tuple #[.pointer none, .bool false]) w := ta_miss T 142 147 v (.pointer none) w Tryz.underlying142 Tryz.zeroValue142 h

theorem tah142 (v : Value) (w : World) : (Instr.typeAssert (.iface 142 v) 51 142 true).run Tryz.prog w = .ok (.tuple #[v, .bool true]) w := ta_hit 142 147 v w Tryz.underlying142

set_option maxHeartbeats 400000 in
theorem newPointer_any (T b : Nat) (w : World) :
    Calls Tryz.prog 46 #[(.iface T (.pointer (some ⟨b, 0, none⟩)))] w fun e w' => e = .returned (.pointer (some ⟨w.heap.size, 0, none⟩)) ∧ w.alloc (.cells #[(.iface T (.pointer (some ⟨b, 0, none⟩)))] 113) = w' := by
  go_enter Tryz.func46, Tryz.ntmps46
  go_wp2
  go_ret
  exact ⟨rfl, rfl⟩

set_option maxHeartbeats 400000 in
theorem newSlice_any (T b : Nat) (w : World) :
    Calls Tryz.prog 47 #[(.iface T (.pointer (some ⟨b, 0, none⟩)))] w fun e w' => e = .returned (.pointer (some ⟨w.heap.size, 0, none⟩)) ∧ w.alloc (.cells #[(.iface T (.pointer (some ⟨b, 0, none⟩)))] 115) = w' := by
  go_enter Tryz.func47, Tryz.ntmps47
  go_wp2
  go_ret
  exact ⟨rfl, rfl⟩

set_option maxHeartbeats 400000 in
theorem newArray_any (T b : Nat) (n : Int) (w : World) :
    Calls Tryz.prog 48 #[(.iface T (.pointer (some ⟨b, 0, none⟩))), .int .i64 n] w fun e w' => e = .returned (.pointer (some ⟨w.heap.size, 0, none⟩)) ∧ w.alloc (.cells #[.int .i64 n, (.iface T (.pointer (some ⟨b, 0, none⟩)))] 62) = w' := by
  go_enter Tryz.func48, Tryz.ntmps48
  go_wp2
  go_ret
  exact ⟨rfl, rfl⟩

set_option maxHeartbeats 400000 in
theorem newMap_any (T b T2 b2 : Nat) (w : World) :
    Calls Tryz.prog 49 #[(.iface T (.pointer (some ⟨b, 0, none⟩))), (.iface T2 (.pointer (some ⟨b2, 0, none⟩)))] w fun e w' => e = .returned (.pointer (some ⟨w.heap.size, 0, none⟩)) ∧ w.alloc (.cells #[(.iface T (.pointer (some ⟨b, 0, none⟩))), (.iface T2 (.pointer (some ⟨b2, 0, none⟩)))] 117) = w' := by
  go_enter Tryz.func49, Tryz.ntmps49
  go_wp2
  go_ret
  exact ⟨rfl, rfl⟩

set_option maxHeartbeats 400000 in
theorem newChan_any (T b : Nat) (w : World) :
    Calls Tryz.prog 50 #[.int .i64 0, (.iface T (.pointer (some ⟨b, 0, none⟩)))] w fun e w' => e = .returned (.pointer (some ⟨w.heap.size, 0, none⟩)) ∧ w.alloc (.cells #[.int .i64 0, (.iface T (.pointer (some ⟨b, 0, none⟩)))] 119) = w' := by
  go_enter Tryz.func50, Tryz.ntmps50
  go_wp2
  go_ret
  exact ⟨rfl, rfl⟩

set_option maxHeartbeats 400000 in
theorem newField_any (T b : Nat) (w : World) :
    Calls Tryz.prog 55 #[.int .i64 0, .pointer none, .string ⟨#[95]⟩, (.iface T (.pointer (some ⟨b, 0, none⟩))), .bool false] w fun e w' => e = .returned (.pointer (some ⟨w.heap.size, 0, none⟩)) ∧ w.alloc (.cells #[.int .i64 0, .pointer none, .string ⟨#[95]⟩, (.iface T (.pointer (some ⟨b, 0, none⟩))), .int .u8 6, .bool false] 75) = w' := by
  go_enter Tryz.func55, Tryz.ntmps55
  go_wp2
  go_ret
  exact ⟨rfl, rfl⟩

set_option maxHeartbeats 400000 in
theorem under60_any (b : Nat) (w : World) :
    Calls Tryz.prog 83 #[.pointer (some ⟨b, 0, none⟩)] w fun e w' => e = .returned (.iface 60 (.pointer (some ⟨b, 0, none⟩))) ∧ w = w' := by
  go_enter Tryz.func83, Tryz.ntmps83
  go_wp2
  go_ret
  exact ⟨rfl, rfl⟩

theorem meth60 (b : Nat) (w : World) : (method 336 60 (.pointer (some ⟨b, 0, none⟩)) "Underlying").run Tryz.prog w = .ok (83, .pointer (some ⟨b, 0, none⟩)) w := by kernel_rfl

set_option maxHeartbeats 400000 in
theorem under63_any (b : Nat) (w : World) :
    Calls Tryz.prog 84 #[.pointer (some ⟨b, 0, none⟩)] w fun e w' => e = .returned (.iface 63 (.pointer (some ⟨b, 0, none⟩))) ∧ w = w' := by
  go_enter Tryz.func84, Tryz.ntmps84
  go_wp2
  go_ret
  exact ⟨rfl, rfl⟩

theorem meth63 (b : Nat) (w : World) : (method 336 63 (.pointer (some ⟨b, 0, none⟩)) "Underlying").run Tryz.prog w = .ok (84, .pointer (some ⟨b, 0, none⟩)) w := by kernel_rfl

set_option maxHeartbeats 400000 in
theorem under76_any (b : Nat) (w : World) :
    Calls Tryz.prog 97 #[.pointer (some ⟨b, 0, none⟩)] w fun e w' => e = .returned (.iface 76 (.pointer (some ⟨b, 0, none⟩))) ∧ w = w' := by
  go_enter Tryz.func97, Tryz.ntmps97
  go_wp2
  go_ret
  exact ⟨rfl, rfl⟩

theorem meth76 (b : Nat) (w : World) : (method 336 76 (.pointer (some ⟨b, 0, none⟩)) "Underlying").run Tryz.prog w = .ok (97, .pointer (some ⟨b, 0, none⟩)) w := by kernel_rfl

set_option maxHeartbeats 400000 in
theorem under78_any (b : Nat) (w : World) :
    Calls Tryz.prog 101 #[.pointer (some ⟨b, 0, none⟩)] w fun e w' => e = .returned (.iface 78 (.pointer (some ⟨b, 0, none⟩))) ∧ w = w' := by
  go_enter Tryz.func101, Tryz.ntmps101
  go_wp2
  go_ret
  exact ⟨rfl, rfl⟩

theorem meth78 (b : Nat) (w : World) : (method 336 78 (.pointer (some ⟨b, 0, none⟩)) "Underlying").run Tryz.prog w = .ok (101, .pointer (some ⟨b, 0, none⟩)) w := by kernel_rfl

set_option maxHeartbeats 400000 in
theorem under85_any (b : Nat) (w : World) :
    Calls Tryz.prog 106 #[.pointer (some ⟨b, 0, none⟩)] w fun e w' => e = .returned (.iface 85 (.pointer (some ⟨b, 0, none⟩))) ∧ w = w' := by
  go_enter Tryz.func106, Tryz.ntmps106
  go_wp2
  go_ret
  exact ⟨rfl, rfl⟩

theorem meth85 (b : Nat) (w : World) : (method 336 85 (.pointer (some ⟨b, 0, none⟩)) "Underlying").run Tryz.prog w = .ok (106, .pointer (some ⟨b, 0, none⟩)) w := by kernel_rfl

set_option maxHeartbeats 400000 in
theorem under89_any (b : Nat) (w : World) :
    Calls Tryz.prog 108 #[.pointer (some ⟨b, 0, none⟩)] w fun e w' => e = .returned (.iface 89 (.pointer (some ⟨b, 0, none⟩))) ∧ w = w' := by
  go_enter Tryz.func108, Tryz.ntmps108
  go_wp2
  go_ret
  exact ⟨rfl, rfl⟩

theorem meth89 (b : Nat) (w : World) : (method 336 89 (.pointer (some ⟨b, 0, none⟩)) "Underlying").run Tryz.prog w = .ok (108, .pointer (some ⟨b, 0, none⟩)) w := by kernel_rfl

set_option maxHeartbeats 400000 in
theorem under91_any (b : Nat) (w : World) :
    Calls Tryz.prog 110 #[.pointer (some ⟨b, 0, none⟩)] w fun e w' => e = .returned (.iface 91 (.pointer (some ⟨b, 0, none⟩))) ∧ w = w' := by
  go_enter Tryz.func110, Tryz.ntmps110
  go_wp2
  go_ret
  exact ⟨rfl, rfl⟩

theorem meth91 (b : Nat) (w : World) : (method 336 91 (.pointer (some ⟨b, 0, none⟩)) "Underlying").run Tryz.prog w = .ok (110, .pointer (some ⟨b, 0, none⟩)) w := by kernel_rfl

set_option maxHeartbeats 400000 in
theorem unalias_any (T b : Nat) (w : World) (hT : T ≠ 142) :
    Calls Tryz.prog 61 #[(.iface T (.pointer (some ⟨b, 0, none⟩)))] w fun e w' => e = .returned (.iface T (.pointer (some ⟨b, 0, none⟩))) ∧ w = w' := by
  have h1 := tam142 hT
  go_enter Tryz.func61, Tryz.ntmps61
  go_wp2
  go_ret
  exact ⟨rfl, rfl⟩

set_option maxHeartbeats 400000 in
theorem isTypeParam_any (T b : Nat) (w : World) (hT : T ≠ 142) (hT2 : T ≠ 81) :
    Calls Tryz.prog 42 #[(.iface T (.pointer (some ⟨b, 0, none⟩)))] w fun e w' => e = .returned (.bool false) ∧ w = w' := by
  have h1 := tam81 hT2
  go_enter Tryz.func42, Tryz.ntmps42
  go_wp2_with (go_at_call 61; refine (unalias_any _ _ _ hT).mono ?_; rintro e w' ⟨rfl, rfl⟩)
  go_ret
  exact ⟨rfl, rfl⟩

set_option maxHeartbeats 400000 in
theorem asNamed_any (T b : Nat) (w : World) (hT : T ≠ 142) (hT2 : T ≠ 100) :
    Calls Tryz.prog 56 #[(.iface T (.pointer (some ⟨b, 0, none⟩)))] w fun e w' => e = .returned (.pointer none) ∧ w = w' := by
  have h1 := tam100 hT2
  go_enter Tryz.func56, Tryz.ntmps56
  go_wp2_with (go_at_call 61; refine (unalias_any _ _ _ hT).mono ?_; rintro e w' ⟨rfl, rfl⟩)
  go_ret
  exact ⟨rfl, rfl⟩

set_option maxHeartbeats 400000 in
theorem isSync_any (T b : Nat) (w : World) (hT : T ≠ 142) (hT2 : T ≠ 100) :
    Calls Tryz.prog 41 #[(.iface T (.pointer (some ⟨b, 0, none⟩)))] w fun e w' => e = .returned (.bool false) ∧ w = w' := by
  go_enter Tryz.func41, Tryz.ntmps41
  go_wp2_with (go_at_call 56; refine (asNamed_any _ _ _ hT hT2).mono ?_; rintro e w' ⟨rfl, rfl⟩)
  go_ret
  exact ⟨rfl, rfl⟩

set_option maxHeartbeats 400000 in
theorem isTyped_any (b : Nat) (info : Int) (w : World) (hc : w.cell? ⟨b, 1, none⟩ = some (.int .i64 info)) (hi : (bits .and .i64 info 64 == 0) = true) :
    Calls Tryz.prog 52 #[(.iface 78 (.pointer (some ⟨b, 0, none⟩)))] w fun e w' => e = .returned (.bool true) ∧ w = w' := by
  have h1 := tah78
  go_enter Tryz.func52, Tryz.ntmps52
  go_wp2
  go_ret
  exact ⟨rfl, rfl⟩

set_option maxHeartbeats 400000 in
theorem info_any (b : Nat) (info : Int) (w : World) (hc : w.cell? ⟨b, 1, none⟩ = some (.int .i64 info)) :
    Calls Tryz.prog 43 #[.pointer (some ⟨b, 0, none⟩)] w fun e w' => e = .returned (.int .i64 info) ∧ w = w' := by
  go_enter Tryz.func43, Tryz.ntmps43
  go_wp2
  go_ret
  exact ⟨rfl, rfl⟩

set_option maxHeartbeats 400000 in
theorem isBasic78_any (b : Nat) (info : Int) (w : World) (hc : w.cell? ⟨b, 1, none⟩ = some (.int .i64 info)) :
    Calls Tryz.prog 62 #[(.iface 78 (.pointer (some ⟨b, 0, none⟩))), .int .i64 16] w fun e w' => e = .returned (.bool (bits .and .i64 info 16 != 0)) ∧ w = w' := by
  have h1 := tah78
  have h2 := meth78 b
  go_enter Tryz.func62, Tryz.ntmps62
  go_wp2_with (go_at_call 101; refine (under78_any _ _).mono ?_; rintro e w' ⟨rfl, rfl⟩)
  go_ret
  exact ⟨rfl, rfl⟩

set_option maxHeartbeats 400000 in
theorem isBasic60_any (b : Nat) (w : World) :
    Calls Tryz.prog 62 #[(.iface 60 (.pointer (some ⟨b, 0, none⟩))), .int .i64 16] w fun e w' => e = .returned (.bool false) ∧ w = w' := by
  have h1 := tam78 (T := 60) (by decide)
  have h2 := meth60 b
  go_enter Tryz.func62, Tryz.ntmps62
  go_wp2_with (go_at_call 83; refine (under60_any _ _).mono ?_; rintro e w' ⟨rfl, rfl⟩)
  go_ret
  exact ⟨rfl, rfl⟩

set_option maxHeartbeats 400000 in
theorem isComplex60_any (b : Nat) (w : World) :
    Calls Tryz.prog 44 #[(.iface 60 (.pointer (some ⟨b, 0, none⟩)))] w fun e w' => e = .returned (.bool false) ∧ w = w' := by
  go_enter Tryz.func44, Tryz.ntmps44
  go_wp2_with (go_at_call 62; refine (isBasic60_any _ _).mono ?_; rintro e w' ⟨rfl, rfl⟩)
  go_ret
  exact ⟨rfl, rfl⟩

set_option maxHeartbeats 400000 in
theorem isBasic63_any (b : Nat) (w : World) :
    Calls Tryz.prog 62 #[(.iface 63 (.pointer (some ⟨b, 0, none⟩))), .int .i64 16] w fun e w' => e = .returned (.bool false) ∧ w = w' := by
  have h1 := tam78 (T := 63) (by decide)
  have h2 := meth63 b
  go_enter Tryz.func62, Tryz.ntmps62
  go_wp2_with (go_at_call 84; refine (under63_any _ _).mono ?_; rintro e w' ⟨rfl, rfl⟩)
  go_ret
  exact ⟨rfl, rfl⟩

set_option maxHeartbeats 400000 in
theorem isComplex63_any (b : Nat) (w : World) :
    Calls Tryz.prog 44 #[(.iface 63 (.pointer (some ⟨b, 0, none⟩)))] w fun e w' => e = .returned (.bool false) ∧ w = w' := by
  go_enter Tryz.func44, Tryz.ntmps44
  go_wp2_with (go_at_call 62; refine (isBasic63_any _ _).mono ?_; rintro e w' ⟨rfl, rfl⟩)
  go_ret
  exact ⟨rfl, rfl⟩

set_option maxHeartbeats 400000 in
theorem isBasic76_any (b : Nat) (w : World) :
    Calls Tryz.prog 62 #[(.iface 76 (.pointer (some ⟨b, 0, none⟩))), .int .i64 16] w fun e w' => e = .returned (.bool false) ∧ w = w' := by
  have h1 := tam78 (T := 76) (by decide)
  have h2 := meth76 b
  go_enter Tryz.func62, Tryz.ntmps62
  go_wp2_with (go_at_call 97; refine (under76_any _ _).mono ?_; rintro e w' ⟨rfl, rfl⟩)
  go_ret
  exact ⟨rfl, rfl⟩

set_option maxHeartbeats 400000 in
theorem isComplex76_any (b : Nat) (w : World) :
    Calls Tryz.prog 44 #[(.iface 76 (.pointer (some ⟨b, 0, none⟩)))] w fun e w' => e = .returned (.bool false) ∧ w = w' := by
  go_enter Tryz.func44, Tryz.ntmps44
  go_wp2_with (go_at_call 62; refine (isBasic76_any _ _).mono ?_; rintro e w' ⟨rfl, rfl⟩)
  go_ret
  exact ⟨rfl, rfl⟩

set_option maxHeartbeats 400000 in
theorem isBasic85_any (b : Nat) (w : World) :
    Calls Tryz.prog 62 #[(.iface 85 (.pointer (some ⟨b, 0, none⟩))), .int .i64 16] w fun e w' => e = .returned (.bool false) ∧ w = w' := by
  have h1 := tam78 (T := 85) (by decide)
  have h2 := meth85 b
  go_enter Tryz.func62, Tryz.ntmps62
  go_wp2_with (go_at_call 106; refine (under85_any _ _).mono ?_; rintro e w' ⟨rfl, rfl⟩)
  go_ret
  exact ⟨rfl, rfl⟩

set_option maxHeartbeats 400000 in
theorem isComplex85_any (b : Nat) (w : World) :
    Calls Tryz.prog 44 #[(.iface 85 (.pointer (some ⟨b, 0, none⟩)))] w fun e w' => e = .returned (.bool false) ∧ w = w' := by
  go_enter Tryz.func44, Tryz.ntmps44
  go_wp2_with (go_at_call 62; refine (isBasic85_any _ _).mono ?_; rintro e w' ⟨rfl, rfl⟩)
  go_ret
  exact ⟨rfl, rfl⟩

set_option maxHeartbeats 400000 in
theorem isBasic89_any (b : Nat) (w : World) :
    Calls Tryz.prog 62 #[(.iface 89 (.pointer (some ⟨b, 0, none⟩))), .int .i64 16] w fun e w' => e = .returned (.bool false) ∧ w = w' := by
  have h1 := tam78 (T := 89) (by decide)
  have h2 := meth89 b
  go_enter Tryz.func62, Tryz.ntmps62
  go_wp2_with (go_at_call 108; refine (under89_any _ _).mono ?_; rintro e w' ⟨rfl, rfl⟩)
  go_ret
  exact ⟨rfl, rfl⟩

set_option maxHeartbeats 400000 in
theorem isComplex89_any (b : Nat) (w : World) :
    Calls Tryz.prog 44 #[(.iface 89 (.pointer (some ⟨b, 0, none⟩)))] w fun e w' => e = .returned (.bool false) ∧ w = w' := by
  go_enter Tryz.func44, Tryz.ntmps44
  go_wp2_with (go_at_call 62; refine (isBasic89_any _ _).mono ?_; rintro e w' ⟨rfl, rfl⟩)
  go_ret
  exact ⟨rfl, rfl⟩

set_option maxHeartbeats 400000 in
theorem isBasic91_any (b : Nat) (w : World) :
    Calls Tryz.prog 62 #[(.iface 91 (.pointer (some ⟨b, 0, none⟩))), .int .i64 16] w fun e w' => e = .returned (.bool false) ∧ w = w' := by
  have h1 := tam78 (T := 91) (by decide)
  have h2 := meth91 b
  go_enter Tryz.func62, Tryz.ntmps62
  go_wp2_with (go_at_call 110; refine (under91_any _ _).mono ?_; rintro e w' ⟨rfl, rfl⟩)
  go_ret
  exact ⟨rfl, rfl⟩

set_option maxHeartbeats 400000 in
theorem isComplex91_any (b : Nat) (w : World) :
    Calls Tryz.prog 44 #[(.iface 91 (.pointer (some ⟨b, 0, none⟩)))] w fun e w' => e = .returned (.bool false) ∧ w = w' := by
  go_enter Tryz.func44, Tryz.ntmps44
  go_wp2_with (go_at_call 62; refine (isBasic91_any _ _).mono ?_; rintro e w' ⟨rfl, rfl⟩)
  go_ret
  exact ⟨rfl, rfl⟩

set_option maxHeartbeats 400000 in
theorem isComplex78_any (b : Nat) (info : Int) (w : World) (hc : w.cell? ⟨b, 1, none⟩ = some (.int .i64 info)) :
    Calls Tryz.prog 44 #[(.iface 78 (.pointer (some ⟨b, 0, none⟩)))] w fun e w' => e = .returned (.bool (bits .and .i64 info 16 != 0)) ∧ w = w' := by
  go_enter Tryz.func44, Tryz.ntmps44
  go_wp2_with (go_at_call 62; refine (isBasic78_any _ _ _ hc).mono ?_; rintro e w' ⟨rfl, rfl⟩)
  go_ret
  exact ⟨rfl, rfl⟩

end Go.Proofs.YtphfjojdiilneaaGreatDoor
