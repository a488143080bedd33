/- What a type test tells of a value of one of the program's types of expressions: closed facts. -/
import Derived.Test.YtjkhfdekmpaoiaaDoorEb
namespace Go.Proofs.YtjkhfdekmpaoiaaDoor

theorem ta_62_62 (v : Value) (W : World) : (Instr.typeAssert (.iface 62 v) 34 62 true).run Tryd.prog W = .ok (.tuple #[v, .bool true]) W := by kernel_rfl
theorem ta_64_62 (v : Value) (W : World) : (Instr.typeAssert (.iface 64 v) 34 62 true).run Tryd.prog W = .ok (.tuple #[.pointer none, .bool false]) W := by kernel_rfl
theorem ta_64_64 (v : Value) (W : World) : (Instr.typeAssert (.iface 64 v) 34 64 true).run Tryd.prog W = .ok (.tuple #[v, .bool true]) W := by kernel_rfl
theorem ta_66_62 (v : Value) (W : World) : (Instr.typeAssert (.iface 66 v) 34 62 true).run Tryd.prog W = .ok (.tuple #[.pointer none, .bool false]) W := by kernel_rfl
theorem ta_66_64 (v : Value) (W : World) : (Instr.typeAssert (.iface 66 v) 34 64 true).run Tryd.prog W = .ok (.tuple #[.pointer none, .bool false]) W := by kernel_rfl
theorem ta_66_66 (v : Value) (W : World) : (Instr.typeAssert (.iface 66 v) 34 66 true).run Tryd.prog W = .ok (.tuple #[v, .bool true]) W := by kernel_rfl
theorem ta_69_62 (v : Value) (W : World) : (Instr.typeAssert (.iface 69 v) 34 62 true).run Tryd.prog W = .ok (.tuple #[.pointer none, .bool false]) W := by kernel_rfl
theorem ta_69_64 (v : Value) (W : World) : (Instr.typeAssert (.iface 69 v) 34 64 true).run Tryd.prog W = .ok (.tuple #[.pointer none, .bool false]) W := by kernel_rfl
theorem ta_69_66 (v : Value) (W : World) : (Instr.typeAssert (.iface 69 v) 34 66 true).run Tryd.prog W = .ok (.tuple #[.pointer none, .bool false]) W := by kernel_rfl
theorem ta_69_69 (v : Value) (W : World) : (Instr.typeAssert (.iface 69 v) 34 69 true).run Tryd.prog W = .ok (.tuple #[v, .bool true]) W := by kernel_rfl
theorem ta_79_62 (v : Value) (W : World) : (Instr.typeAssert (.iface 79 v) 34 62 true).run Tryd.prog W = .ok (.tuple #[.pointer none, .bool false]) W := by kernel_rfl
theorem ta_79_64 (v : Value) (W : World) : (Instr.typeAssert (.iface 79 v) 34 64 true).run Tryd.prog W = .ok (.tuple #[.pointer none, .bool false]) W := by kernel_rfl
theorem ta_79_66 (v : Value) (W : World) : (Instr.typeAssert (.iface 79 v) 34 66 true).run Tryd.prog W = .ok (.tuple #[.pointer none, .bool false]) W := by kernel_rfl
theorem ta_79_69 (v : Value) (W : World) : (Instr.typeAssert (.iface 79 v) 34 69 true).run Tryd.prog W = .ok (.tuple #[.pointer none, .bool false]) W := by kernel_rfl
theorem ta_79_72 (v : Value) (W : World) : (Instr.typeAssert (.iface 79 v) 34 72 true).run Tryd.prog W = .ok (.tuple #[.pointer none, .bool false]) W := by kernel_rfl
theorem ta_79_79 (v : Value) (W : World) : (Instr.typeAssert (.iface 79 v) 34 79 true).run Tryd.prog W = .ok (.tuple #[v, .bool true]) W := by kernel_rfl
theorem ta_82_62 (v : Value) (W : World) : (Instr.typeAssert (.iface 82 v) 34 62 true).run Tryd.prog W = .ok (.tuple #[.pointer none, .bool false]) W := by kernel_rfl
theorem ta_82_64 (v : Value) (W : World) : (Instr.typeAssert (.iface 82 v) 34 64 true).run Tryd.prog W = .ok (.tuple #[.pointer none, .bool false]) W := by kernel_rfl
theorem ta_82_66 (v : Value) (W : World) : (Instr.typeAssert (.iface 82 v) 34 66 true).run Tryd.prog W = .ok (.tuple #[.pointer none, .bool false]) W := by kernel_rfl
theorem ta_82_69 (v : Value) (W : World) : (Instr.typeAssert (.iface 82 v) 34 69 true).run Tryd.prog W = .ok (.tuple #[.pointer none, .bool false]) W := by kernel_rfl
theorem ta_82_72 (v : Value) (W : World) : (Instr.typeAssert (.iface 82 v) 34 72 true).run Tryd.prog W = .ok (.tuple #[.pointer none, .bool false]) W := by kernel_rfl
theorem ta_82_79 (v : Value) (W : World) : (Instr.typeAssert (.iface 82 v) 34 79 true).run Tryd.prog W = .ok (.tuple #[.pointer none, .bool false]) W := by kernel_rfl
theorem ta_82_82 (v : Value) (W : World) : (Instr.typeAssert (.iface 82 v) 34 82 true).run Tryd.prog W = .ok (.tuple #[v, .bool true]) W := by kernel_rfl
theorem ta_87_62 (v : Value) (W : World) : (Instr.typeAssert (.iface 87 v) 34 62 true).run Tryd.prog W = .ok (.tuple #[.pointer none, .bool false]) W := by kernel_rfl
theorem ta_87_64 (v : Value) (W : World) : (Instr.typeAssert (.iface 87 v) 34 64 true).run Tryd.prog W = .ok (.tuple #[.pointer none, .bool false]) W := by kernel_rfl
theorem ta_87_66 (v : Value) (W : World) : (Instr.typeAssert (.iface 87 v) 34 66 true).run Tryd.prog W = .ok (.tuple #[.pointer none, .bool false]) W := by kernel_rfl
theorem ta_87_69 (v : Value) (W : World) : (Instr.typeAssert (.iface 87 v) 34 69 true).run Tryd.prog W = .ok (.tuple #[.pointer none, .bool false]) W := by kernel_rfl
theorem ta_87_72 (v : Value) (W : World) : (Instr.typeAssert (.iface 87 v) 34 72 true).run Tryd.prog W = .ok (.tuple #[.pointer none, .bool false]) W := by kernel_rfl
theorem ta_87_79 (v : Value) (W : World) : (Instr.typeAssert (.iface 87 v) 34 79 true).run Tryd.prog W = .ok (.tuple #[.pointer none, .bool false]) W := by kernel_rfl
theorem ta_87_82 (v : Value) (W : World) : (Instr.typeAssert (.iface 87 v) 34 82 true).run Tryd.prog W = .ok (.tuple #[.pointer none, .bool false]) W := by kernel_rfl
theorem ta_87_87 (v : Value) (W : World) : (Instr.typeAssert (.iface 87 v) 34 87 true).run Tryd.prog W = .ok (.tuple #[v, .bool true]) W := by kernel_rfl
theorem ta_90_62 (v : Value) (W : World) : (Instr.typeAssert (.iface 90 v) 34 62 true).run Tryd.prog W = .ok (.tuple #[.pointer none, .bool false]) W := by kernel_rfl
theorem ta_90_64 (v : Value) (W : World) : (Instr.typeAssert (.iface 90 v) 34 64 true).run Tryd.prog W = .ok (.tuple #[.pointer none, .bool false]) W := by kernel_rfl
theorem ta_90_66 (v : Value) (W : World) : (Instr.typeAssert (.iface 90 v) 34 66 true).run Tryd.prog W = .ok (.tuple #[.pointer none, .bool false]) W := by kernel_rfl
theorem ta_90_69 (v : Value) (W : World) : (Instr.typeAssert (.iface 90 v) 34 69 true).run Tryd.prog W = .ok (.tuple #[.pointer none, .bool false]) W := by kernel_rfl
theorem ta_90_72 (v : Value) (W : World) : (Instr.typeAssert (.iface 90 v) 34 72 true).run Tryd.prog W = .ok (.tuple #[.pointer none, .bool false]) W := by kernel_rfl
theorem ta_90_79 (v : Value) (W : World) : (Instr.typeAssert (.iface 90 v) 34 79 true).run Tryd.prog W = .ok (.tuple #[.pointer none, .bool false]) W := by kernel_rfl
theorem ta_90_82 (v : Value) (W : World) : (Instr.typeAssert (.iface 90 v) 34 82 true).run Tryd.prog W = .ok (.tuple #[.pointer none, .bool false]) W := by kernel_rfl
theorem ta_90_87 (v : Value) (W : World) : (Instr.typeAssert (.iface 90 v) 34 87 true).run Tryd.prog W = .ok (.tuple #[.pointer none, .bool false]) W := by kernel_rfl
theorem ta_90_90 (v : Value) (W : World) : (Instr.typeAssert (.iface 90 v) 34 90 true).run Tryd.prog W = .ok (.tuple #[v, .bool true]) W := by kernel_rfl
theorem ta_94_62 (v : Value) (W : World) : (Instr.typeAssert (.iface 94 v) 34 62 true).run Tryd.prog W = .ok (.tuple #[.pointer none, .bool false]) W := by kernel_rfl
theorem ta_94_64 (v : Value) (W : World) : (Instr.typeAssert (.iface 94 v) 34 64 true).run Tryd.prog W = .ok (.tuple #[.pointer none, .bool false]) W := by kernel_rfl
theorem ta_94_66 (v : Value) (W : World) : (Instr.typeAssert (.iface 94 v) 34 66 true).run Tryd.prog W = .ok (.tuple #[.pointer none, .bool false]) W := by kernel_rfl
theorem ta_94_69 (v : Value) (W : World) : (Instr.typeAssert (.iface 94 v) 34 69 true).run Tryd.prog W = .ok (.tuple #[.pointer none, .bool false]) W := by kernel_rfl
theorem ta_94_72 (v : Value) (W : World) : (Instr.typeAssert (.iface 94 v) 34 72 true).run Tryd.prog W = .ok (.tuple #[.pointer none, .bool false]) W := by kernel_rfl
theorem ta_94_79 (v : Value) (W : World) : (Instr.typeAssert (.iface 94 v) 34 79 true).run Tryd.prog W = .ok (.tuple #[.pointer none, .bool false]) W := by kernel_rfl
theorem ta_94_82 (v : Value) (W : World) : (Instr.typeAssert (.iface 94 v) 34 82 true).run Tryd.prog W = .ok (.tuple #[.pointer none, .bool false]) W := by kernel_rfl
theorem ta_94_87 (v : Value) (W : World) : (Instr.typeAssert (.iface 94 v) 34 87 true).run Tryd.prog W = .ok (.tuple #[.pointer none, .bool false]) W := by kernel_rfl
theorem ta_94_90 (v : Value) (W : World) : (Instr.typeAssert (.iface 94 v) 34 90 true).run Tryd.prog W = .ok (.tuple #[.pointer none, .bool false]) W := by kernel_rfl
theorem ta_94_94 (v : Value) (W : World) : (Instr.typeAssert (.iface 94 v) 34 94 true).run Tryd.prog W = .ok (.tuple #[v, .bool true]) W := by kernel_rfl
theorem ta_100_62 (v : Value) (W : World) : (Instr.typeAssert (.iface 100 v) 34 62 true).run Tryd.prog W = .ok (.tuple #[.pointer none, .bool false]) W := by kernel_rfl
theorem ta_100_64 (v : Value) (W : World) : (Instr.typeAssert (.iface 100 v) 34 64 true).run Tryd.prog W = .ok (.tuple #[.pointer none, .bool false]) W := by kernel_rfl
theorem ta_100_66 (v : Value) (W : World) : (Instr.typeAssert (.iface 100 v) 34 66 true).run Tryd.prog W = .ok (.tuple #[.pointer none, .bool false]) W := by kernel_rfl
theorem ta_100_69 (v : Value) (W : World) : (Instr.typeAssert (.iface 100 v) 34 69 true).run Tryd.prog W = .ok (.tuple #[.pointer none, .bool false]) W := by kernel_rfl
theorem ta_100_72 (v : Value) (W : World) : (Instr.typeAssert (.iface 100 v) 34 72 true).run Tryd.prog W = .ok (.tuple #[.pointer none, .bool false]) W := by kernel_rfl
theorem ta_100_79 (v : Value) (W : World) : (Instr.typeAssert (.iface 100 v) 34 79 true).run Tryd.prog W = .ok (.tuple #[.pointer none, .bool false]) W := by kernel_rfl
theorem ta_100_82 (v : Value) (W : World) : (Instr.typeAssert (.iface 100 v) 34 82 true).run Tryd.prog W = .ok (.tuple #[.pointer none, .bool false]) W := by kernel_rfl
theorem ta_100_87 (v : Value) (W : World) : (Instr.typeAssert (.iface 100 v) 34 87 true).run Tryd.prog W = .ok (.tuple #[.pointer none, .bool false]) W := by kernel_rfl
theorem ta_100_90 (v : Value) (W : World) : (Instr.typeAssert (.iface 100 v) 34 90 true).run Tryd.prog W = .ok (.tuple #[.pointer none, .bool false]) W := by kernel_rfl
theorem ta_100_94 (v : Value) (W : World) : (Instr.typeAssert (.iface 100 v) 34 94 true).run Tryd.prog W = .ok (.tuple #[.pointer none, .bool false]) W := by kernel_rfl
theorem ta_100_97 (v : Value) (W : World) : (Instr.typeAssert (.iface 100 v) 34 97 true).run Tryd.prog W = .ok (.tuple #[.pointer none, .bool false]) W := by kernel_rfl
theorem ta_100_100 (v : Value) (W : World) : (Instr.typeAssert (.iface 100 v) 34 100 true).run Tryd.prog W = .ok (.tuple #[v, .bool true]) W := by kernel_rfl
theorem ta_106_62 (v : Value) (W : World) : (Instr.typeAssert (.iface 106 v) 34 62 true).run Tryd.prog W = .ok (.tuple #[.pointer none, .bool false]) W := by kernel_rfl
theorem ta_106_64 (v : Value) (W : World) : (Instr.typeAssert (.iface 106 v) 34 64 true).run Tryd.prog W = .ok (.tuple #[.pointer none, .bool false]) W := by kernel_rfl
theorem ta_106_66 (v : Value) (W : World) : (Instr.typeAssert (.iface 106 v) 34 66 true).run Tryd.prog W = .ok (.tuple #[.pointer none, .bool false]) W := by kernel_rfl
theorem ta_106_69 (v : Value) (W : World) : (Instr.typeAssert (.iface 106 v) 34 69 true).run Tryd.prog W = .ok (.tuple #[.pointer none, .bool false]) W := by kernel_rfl
theorem ta_106_72 (v : Value) (W : World) : (Instr.typeAssert (.iface 106 v) 34 72 true).run Tryd.prog W = .ok (.tuple #[.pointer none, .bool false]) W := by kernel_rfl
theorem ta_106_79 (v : Value) (W : World) : (Instr.typeAssert (.iface 106 v) 34 79 true).run Tryd.prog W = .ok (.tuple #[.pointer none, .bool false]) W := by kernel_rfl
theorem ta_106_82 (v : Value) (W : World) : (Instr.typeAssert (.iface 106 v) 34 82 true).run Tryd.prog W = .ok (.tuple #[.pointer none, .bool false]) W := by kernel_rfl
theorem ta_106_87 (v : Value) (W : World) : (Instr.typeAssert (.iface 106 v) 34 87 true).run Tryd.prog W = .ok (.tuple #[.pointer none, .bool false]) W := by kernel_rfl
theorem ta_106_90 (v : Value) (W : World) : (Instr.typeAssert (.iface 106 v) 34 90 true).run Tryd.prog W = .ok (.tuple #[.pointer none, .bool false]) W := by kernel_rfl
theorem ta_106_94 (v : Value) (W : World) : (Instr.typeAssert (.iface 106 v) 34 94 true).run Tryd.prog W = .ok (.tuple #[.pointer none, .bool false]) W := by kernel_rfl
theorem ta_106_97 (v : Value) (W : World) : (Instr.typeAssert (.iface 106 v) 34 97 true).run Tryd.prog W = .ok (.tuple #[.pointer none, .bool false]) W := by kernel_rfl
theorem ta_106_100 (v : Value) (W : World) : (Instr.typeAssert (.iface 106 v) 34 100 true).run Tryd.prog W = .ok (.tuple #[.pointer none, .bool false]) W := by kernel_rfl
theorem ta_106_106 (v : Value) (W : World) : (Instr.typeAssert (.iface 106 v) 34 106 true).run Tryd.prog W = .ok (.tuple #[v, .bool true]) W := by kernel_rfl
theorem ta_40_62 (v : Value) (W : World) : (Instr.typeAssert (.iface 40 v) 34 62 true).run Tryd.prog W = .ok (.tuple #[.pointer none, .bool false]) W := by kernel_rfl
theorem ta_40_64 (v : Value) (W : World) : (Instr.typeAssert (.iface 40 v) 34 64 true).run Tryd.prog W = .ok (.tuple #[.pointer none, .bool false]) W := by kernel_rfl
theorem ta_40_66 (v : Value) (W : World) : (Instr.typeAssert (.iface 40 v) 34 66 true).run Tryd.prog W = .ok (.tuple #[.pointer none, .bool false]) W := by kernel_rfl
theorem ta_40_69 (v : Value) (W : World) : (Instr.typeAssert (.iface 40 v) 34 69 true).run Tryd.prog W = .ok (.tuple #[.pointer none, .bool false]) W := by kernel_rfl
theorem ta_40_72 (v : Value) (W : World) : (Instr.typeAssert (.iface 40 v) 34 72 true).run Tryd.prog W = .ok (.tuple #[.pointer none, .bool false]) W := by kernel_rfl
theorem ta_40_79 (v : Value) (W : World) : (Instr.typeAssert (.iface 40 v) 34 79 true).run Tryd.prog W = .ok (.tuple #[.pointer none, .bool false]) W := by kernel_rfl
theorem ta_40_82 (v : Value) (W : World) : (Instr.typeAssert (.iface 40 v) 34 82 true).run Tryd.prog W = .ok (.tuple #[.pointer none, .bool false]) W := by kernel_rfl
theorem ta_40_87 (v : Value) (W : World) : (Instr.typeAssert (.iface 40 v) 34 87 true).run Tryd.prog W = .ok (.tuple #[.pointer none, .bool false]) W := by kernel_rfl
theorem ta_40_90 (v : Value) (W : World) : (Instr.typeAssert (.iface 40 v) 34 90 true).run Tryd.prog W = .ok (.tuple #[.pointer none, .bool false]) W := by kernel_rfl
theorem ta_40_94 (v : Value) (W : World) : (Instr.typeAssert (.iface 40 v) 34 94 true).run Tryd.prog W = .ok (.tuple #[.pointer none, .bool false]) W := by kernel_rfl
theorem ta_40_97 (v : Value) (W : World) : (Instr.typeAssert (.iface 40 v) 34 97 true).run Tryd.prog W = .ok (.tuple #[.pointer none, .bool false]) W := by kernel_rfl
theorem ta_40_100 (v : Value) (W : World) : (Instr.typeAssert (.iface 40 v) 34 100 true).run Tryd.prog W = .ok (.tuple #[.pointer none, .bool false]) W := by kernel_rfl
theorem ta_40_106 (v : Value) (W : World) : (Instr.typeAssert (.iface 40 v) 34 106 true).run Tryd.prog W = .ok (.tuple #[.pointer none, .bool false]) W := by kernel_rfl
theorem ta_40_40 (v : Value) (W : World) : (Instr.typeAssert (.iface 40 v) 34 40 true).run Tryd.prog W = .ok (.tuple #[v, .bool true]) W := by kernel_rfl
theorem ta_116_62 (v : Value) (W : World) : (Instr.typeAssert (.iface 116 v) 34 62 true).run Tryd.prog W = .ok (.tuple #[.pointer none, .bool false]) W := by kernel_rfl
theorem ta_116_64 (v : Value) (W : World) : (Instr.typeAssert (.iface 116 v) 34 64 true).run Tryd.prog W = .ok (.tuple #[.pointer none, .bool false]) W := by kernel_rfl
theorem ta_116_66 (v : Value) (W : World) : (Instr.typeAssert (.iface 116 v) 34 66 true).run Tryd.prog W = .ok (.tuple #[.pointer none, .bool false]) W := by kernel_rfl
theorem ta_116_69 (v : Value) (W : World) : (Instr.typeAssert (.iface 116 v) 34 69 true).run Tryd.prog W = .ok (.tuple #[.pointer none, .bool false]) W := by kernel_rfl
theorem ta_116_72 (v : Value) (W : World) : (Instr.typeAssert (.iface 116 v) 34 72 true).run Tryd.prog W = .ok (.tuple #[.pointer none, .bool false]) W := by kernel_rfl
theorem ta_116_79 (v : Value) (W : World) : (Instr.typeAssert (.iface 116 v) 34 79 true).run Tryd.prog W = .ok (.tuple #[.pointer none, .bool false]) W := by kernel_rfl
theorem ta_116_82 (v : Value) (W : World) : (Instr.typeAssert (.iface 116 v) 34 82 true).run Tryd.prog W = .ok (.tuple #[.pointer none, .bool false]) W := by kernel_rfl
theorem ta_116_87 (v : Value) (W : World) : (Instr.typeAssert (.iface 116 v) 34 87 true).run Tryd.prog W = .ok (.tuple #[.pointer none, .bool false]) W := by kernel_rfl
theorem ta_116_90 (v : Value) (W : World) : (Instr.typeAssert (.iface 116 v) 34 90 true).run Tryd.prog W = .ok (.tuple #[.pointer none, .bool false]) W := by kernel_rfl
theorem ta_116_94 (v : Value) (W : World) : (Instr.typeAssert (.iface 116 v) 34 94 true).run Tryd.prog W = .ok (.tuple #[.pointer none, .bool false]) W := by kernel_rfl
theorem ta_116_97 (v : Value) (W : World) : (Instr.typeAssert (.iface 116 v) 34 97 true).run Tryd.prog W = .ok (.tuple #[.pointer none, .bool false]) W := by kernel_rfl
theorem ta_116_100 (v : Value) (W : World) : (Instr.typeAssert (.iface 116 v) 34 100 true).run Tryd.prog W = .ok (.tuple #[.pointer none, .bool false]) W := by kernel_rfl
theorem ta_116_106 (v : Value) (W : World) : (Instr.typeAssert (.iface 116 v) 34 106 true).run Tryd.prog W = .ok (.tuple #[.pointer none, .bool false]) W := by kernel_rfl
theorem ta_116_40 (v : Value) (W : World) : (Instr.typeAssert (.iface 116 v) 34 40 true).run Tryd.prog W = .ok (.tuple #[.pointer none, .bool false]) W := by kernel_rfl
theorem ta_116_116 (v : Value) (W : World) : (Instr.typeAssert (.iface 116 v) 34 116 true).run Tryd.prog W = .ok (.tuple #[v, .bool true]) W := by kernel_rfl
theorem ta_113_62 (v : Value) (W : World) : (Instr.typeAssert (.iface 113 v) 34 62 true).run Tryd.prog W = .ok (.tuple #[.pointer none, .bool false]) W := by kernel_rfl
theorem ta_113_64 (v : Value) (W : World) : (Instr.typeAssert (.iface 113 v) 34 64 true).run Tryd.prog W = .ok (.tuple #[.pointer none, .bool false]) W := by kernel_rfl
theorem ta_113_66 (v : Value) (W : World) : (Instr.typeAssert (.iface 113 v) 34 66 true).run Tryd.prog W = .ok (.tuple #[.pointer none, .bool false]) W := by kernel_rfl
theorem ta_113_69 (v : Value) (W : World) : (Instr.typeAssert (.iface 113 v) 34 69 true).run Tryd.prog W = .ok (.tuple #[.pointer none, .bool false]) W := by kernel_rfl
theorem ta_113_72 (v : Value) (W : World) : (Instr.typeAssert (.iface 113 v) 34 72 true).run Tryd.prog W = .ok (.tuple #[.pointer none, .bool false]) W := by kernel_rfl
theorem ta_113_79 (v : Value) (W : World) : (Instr.typeAssert (.iface 113 v) 34 79 true).run Tryd.prog W = .ok (.tuple #[.pointer none, .bool false]) W := by kernel_rfl
theorem ta_113_82 (v : Value) (W : World) : (Instr.typeAssert (.iface 113 v) 34 82 true).run Tryd.prog W = .ok (.tuple #[.pointer none, .bool false]) W := by kernel_rfl
theorem ta_113_87 (v : Value) (W : World) : (Instr.typeAssert (.iface 113 v) 34 87 true).run Tryd.prog W = .ok (.tuple #[.pointer none, .bool false]) W := by kernel_rfl
theorem ta_113_90 (v : Value) (W : World) : (Instr.typeAssert (.iface 113 v) 34 90 true).run Tryd.prog W = .ok (.tuple #[.pointer none, .bool false]) W := by kernel_rfl
theorem ta_113_94 (v : Value) (W : World) : (Instr.typeAssert (.iface 113 v) 34 94 true).run Tryd.prog W = .ok (.tuple #[.pointer none, .bool false]) W := by kernel_rfl
theorem ta_113_97 (v : Value) (W : World) : (Instr.typeAssert (.iface 113 v) 34 97 true).run Tryd.prog W = .ok (.tuple #[.pointer none, .bool false]) W := by kernel_rfl
theorem ta_113_100 (v : Value) (W : World) : (Instr.typeAssert (.iface 113 v) 34 100 true).run Tryd.prog W = .ok (.tuple #[.pointer none, .bool false]) W := by kernel_rfl
theorem ta_113_106 (v : Value) (W : World) : (Instr.typeAssert (.iface 113 v) 34 106 true).run Tryd.prog W = .ok (.tuple #[.pointer none, .bool false]) W := by kernel_rfl
theorem ta_113_40 (v : Value) (W : World) : (Instr.typeAssert (.iface 113 v) 34 40 true).run Tryd.prog W = .ok (.tuple #[.pointer none, .bool false]) W := by kernel_rfl
theorem ta_113_116 (v : Value) (W : World) : (Instr.typeAssert (.iface 113 v) 34 116 true).run Tryd.prog W = .ok (.tuple #[.pointer none, .bool false]) W := by kernel_rfl
theorem ta_113_113 (v : Value) (W : World) : (Instr.typeAssert (.iface 113 v) 34 113 true).run Tryd.prog W = .ok (.tuple #[v, .bool true]) W := by kernel_rfl
theorem ta_119_62 (v : Value) (W : World) : (Instr.typeAssert (.iface 119 v) 34 62 true).run Tryd.prog W = .ok (.tuple #[.pointer none, .bool false]) W := by kernel_rfl
theorem ta_119_64 (v : Value) (W : World) : (Instr.typeAssert (.iface 119 v) 34 64 true).run Tryd.prog W = .ok (.tuple #[.pointer none, .bool false]) W := by kernel_rfl
theorem ta_119_66 (v : Value) (W : World) : (Instr.typeAssert (.iface 119 v) 34 66 true).run Tryd.prog W = .ok (.tuple #[.pointer none, .bool false]) W := by kernel_rfl
theorem ta_119_69 (v : Value) (W : World) : (Instr.typeAssert (.iface 119 v) 34 69 true).run Tryd.prog W = .ok (.tuple #[.pointer none, .bool false]) W := by kernel_rfl
theorem ta_119_72 (v : Value) (W : World) : (Instr.typeAssert (.iface 119 v) 34 72 true).run Tryd.prog W = .ok (.tuple #[.pointer none, .bool false]) W := by kernel_rfl
theorem ta_119_79 (v : Value) (W : World) : (Instr.typeAssert (.iface 119 v) 34 79 true).run Tryd.prog W = .ok (.tuple #[.pointer none, .bool false]) W := by kernel_rfl
theorem ta_119_82 (v : Value) (W : World) : (Instr.typeAssert (.iface 119 v) 34 82 true).run Tryd.prog W = .ok (.tuple #[.pointer none, .bool false]) W := by kernel_rfl
theorem ta_119_87 (v : Value) (W : World) : (Instr.typeAssert (.iface 119 v) 34 87 true).run Tryd.prog W = .ok (.tuple #[.pointer none, .bool false]) W := by kernel_rfl
theorem ta_119_90 (v : Value) (W : World) : (Instr.typeAssert (.iface 119 v) 34 90 true).run Tryd.prog W = .ok (.tuple #[.pointer none, .bool false]) W := by kernel_rfl
theorem ta_119_94 (v : Value) (W : World) : (Instr.typeAssert (.iface 119 v) 34 94 true).run Tryd.prog W = .ok (.tuple #[.pointer none, .bool false]) W := by kernel_rfl
theorem ta_119_97 (v : Value) (W : World) : (Instr.typeAssert (.iface 119 v) 34 97 true).run Tryd.prog W = .ok (.tuple #[.pointer none, .bool false]) W := by kernel_rfl
theorem ta_119_100 (v : Value) (W : World) : (Instr.typeAssert (.iface 119 v) 34 100 true).run Tryd.prog W = .ok (.tuple #[.pointer none, .bool false]) W := by kernel_rfl
theorem ta_119_106 (v : Value) (W : World) : (Instr.typeAssert (.iface 119 v) 34 106 true).run Tryd.prog W = .ok (.tuple #[.pointer none, .bool false]) W := by kernel_rfl
theorem ta_119_40 (v : Value) (W : World) : (Instr.typeAssert (.iface 119 v) 34 40 true).run Tryd.prog W = .ok (.tuple #[.pointer none, .bool false]) W := by kernel_rfl
theorem ta_119_116 (v : Value) (W : World) : (Instr.typeAssert (.iface 119 v) 34 116 true).run Tryd.prog W = .ok (.tuple #[.pointer none, .bool false]) W := by kernel_rfl
theorem ta_119_113 (v : Value) (W : World) : (Instr.typeAssert (.iface 119 v) 34 113 true).run Tryd.prog W = .ok (.tuple #[.pointer none, .bool false]) W := by kernel_rfl
theorem ta_119_142 (v : Value) (W : World) : (Instr.typeAssert (.iface 119 v) 34 142 true).run Tryd.prog W = .ok (.tuple #[.pointer none, .bool false]) W := by kernel_rfl
theorem ta_119_119 (v : Value) (W : World) : (Instr.typeAssert (.iface 119 v) 34 119 true).run Tryd.prog W = .ok (.tuple #[v, .bool true]) W := by kernel_rfl
theorem ta_121_62 (v : Value) (W : World) : (Instr.typeAssert (.iface 121 v) 34 62 true).run Tryd.prog W = .ok (.tuple #[.pointer none, .bool false]) W := by kernel_rfl
theorem ta_121_64 (v : Value) (W : World) : (Instr.typeAssert (.iface 121 v) 34 64 true).run Tryd.prog W = .ok (.tuple #[.pointer none, .bool false]) W := by kernel_rfl
theorem ta_121_66 (v : Value) (W : World) : (Instr.typeAssert (.iface 121 v) 34 66 true).run Tryd.prog W = .ok (.tuple #[.pointer none, .bool false]) W := by kernel_rfl
theorem ta_121_69 (v : Value) (W : World) : (Instr.typeAssert (.iface 121 v) 34 69 true).run Tryd.prog W = .ok (.tuple #[.pointer none, .bool false]) W := by kernel_rfl
theorem ta_121_72 (v : Value) (W : World) : (Instr.typeAssert (.iface 121 v) 34 72 true).run Tryd.prog W = .ok (.tuple #[.pointer none, .bool false]) W := by kernel_rfl
theorem ta_121_79 (v : Value) (W : World) : (Instr.typeAssert (.iface 121 v) 34 79 true).run Tryd.prog W = .ok (.tuple #[.pointer none, .bool false]) W := by kernel_rfl
theorem ta_121_82 (v : Value) (W : World) : (Instr.typeAssert (.iface 121 v) 34 82 true).run Tryd.prog W = .ok (.tuple #[.pointer none, .bool false]) W := by kernel_rfl
theorem ta_121_87 (v : Value) (W : World) : (Instr.typeAssert (.iface 121 v) 34 87 true).run Tryd.prog W = .ok (.tuple #[.pointer none, .bool false]) W := by kernel_rfl
theorem ta_121_90 (v : Value) (W : World) : (Instr.typeAssert (.iface 121 v) 34 90 true).run Tryd.prog W = .ok (.tuple #[.pointer none, .bool false]) W := by kernel_rfl
theorem ta_121_94 (v : Value) (W : World) : (Instr.typeAssert (.iface 121 v) 34 94 true).run Tryd.prog W = .ok (.tuple #[.pointer none, .bool false]) W := by kernel_rfl
theorem ta_121_97 (v : Value) (W : World) : (Instr.typeAssert (.iface 121 v) 34 97 true).run Tryd.prog W = .ok (.tuple #[.pointer none, .bool false]) W := by kernel_rfl
theorem ta_121_100 (v : Value) (W : World) : (Instr.typeAssert (.iface 121 v) 34 100 true).run Tryd.prog W = .ok (.tuple #[.pointer none, .bool false]) W := by kernel_rfl
theorem ta_121_106 (v : Value) (W : World) : (Instr.typeAssert (.iface 121 v) 34 106 true).run Tryd.prog W = .ok (.tuple #[.pointer none, .bool false]) W := by kernel_rfl
theorem ta_121_40 (v : Value) (W : World) : (Instr.typeAssert (.iface 121 v) 34 40 true).run Tryd.prog W = .ok (.tuple #[.pointer none, .bool false]) W := by kernel_rfl
theorem ta_121_116 (v : Value) (W : World) : (Instr.typeAssert (.iface 121 v) 34 116 true).run Tryd.prog W = .ok (.tuple #[.pointer none, .bool false]) W := by kernel_rfl
theorem ta_121_113 (v : Value) (W : World) : (Instr.typeAssert (.iface 121 v) 34 113 true).run Tryd.prog W = .ok (.tuple #[.pointer none, .bool false]) W := by kernel_rfl
theorem ta_121_142 (v : Value) (W : World) : (Instr.typeAssert (.iface 121 v) 34 142 true).run Tryd.prog W = .ok (.tuple #[.pointer none, .bool false]) W := by kernel_rfl
theorem ta_121_119 (v : Value) (W : World) : (Instr.typeAssert (.iface 121 v) 34 119 true).run Tryd.prog W = .ok (.tuple #[.pointer none, .bool false]) W := by kernel_rfl
theorem ta_121_121 (v : Value) (W : World) : (Instr.typeAssert (.iface 121 v) 34 121 true).run Tryd.prog W = .ok (.tuple #[v, .bool true]) W := by kernel_rfl
theorem ta_nil_79 (W : World) : (Instr.typeAssert .nilIface 34 79 true).run Tryd.prog W = .ok (.tuple #[.pointer none, .bool false]) W := by kernel_rfl
theorem ta_62_79 (v : Value) (W : World) : (Instr.typeAssert (.iface 62 v) 34 79 true).run Tryd.prog W = .ok (.tuple #[.pointer none, .bool false]) W := by kernel_rfl
theorem ta_64_79 (v : Value) (W : World) : (Instr.typeAssert (.iface 64 v) 34 79 true).run Tryd.prog W = .ok (.tuple #[.pointer none, .bool false]) W := by kernel_rfl
theorem ta_66_79 (v : Value) (W : World) : (Instr.typeAssert (.iface 66 v) 34 79 true).run Tryd.prog W = .ok (.tuple #[.pointer none, .bool false]) W := by kernel_rfl
theorem ta_69_79 (v : Value) (W : World) : (Instr.typeAssert (.iface 69 v) 34 79 true).run Tryd.prog W = .ok (.tuple #[.pointer none, .bool false]) W := by kernel_rfl
end Go.Proofs.YtjkhfdekmpaoiaaDoor
