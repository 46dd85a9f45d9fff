/-
  FnTableRead: impl.told, letter by letter.
-/
import Derived.Test.YtkcdakohmfodjaaIe
import Derived.Test.YtkcdakohmfodjaaC1
import Derived.Test.YtkcdakohmfodjaaS3
import Derived.Test.YtkcdakohmfodjaaNr
namespace Go.Proofs.Ytkcdakohmfodjaa
open Go.RowKit
attribute [local go_sem ↓] Go.wp_at_zero Go.wp_at_succ

@[go_sem] theorem nc_4 (v : Value) (w : World) : (binOp .eql 20 (.iface 4 v) .nilIface).run Try.prog w = .ok (.bool false) w := by kernel_rfl
@[go_sem] theorem ty_4 (v : Value) (w : World) : (Instr.typeAssert (.iface 4 v) 20 4 true).run Try.prog w = .ok (.tuple #[v, .bool true]) w := by kernel_rfl
@[go_sem] theorem nc_117 (v : Value) (w : World) : (binOp .eql 20 (.iface 117 v) .nilIface).run Try.prog w = .ok (.bool false) w := by kernel_rfl
@[go_sem] theorem tn_117_4 (v : Value) (w : World) : (Instr.typeAssert (.iface 117 v) 20 4 true).run Try.prog w = .ok (.tuple #[.bool false, .bool false]) w := no_4 117 v w (by decide)
@[go_sem] theorem ty_117 (v : Value) (w : World) : (Instr.typeAssert (.iface 117 v) 20 117 true).run Try.prog w = .ok (.tuple #[v, .bool true]) w := by kernel_rfl
@[go_sem] theorem nc_5 (v : Value) (w : World) : (binOp .eql 20 (.iface 5 v) .nilIface).run Try.prog w = .ok (.bool false) w := by kernel_rfl
@[go_sem] theorem tn_5_4 (v : Value) (w : World) : (Instr.typeAssert (.iface 5 v) 20 4 true).run Try.prog w = .ok (.tuple #[.bool false, .bool false]) w := no_4 5 v w (by decide)
@[go_sem] theorem tn_5_117 (v : Value) (w : World) : (Instr.typeAssert (.iface 5 v) 20 117 true).run Try.prog w = .ok (.tuple #[.int .i8 0, .bool false]) w := no_117 5 v w (by decide)
@[go_sem] theorem ty_5 (v : Value) (w : World) : (Instr.typeAssert (.iface 5 v) 20 5 true).run Try.prog w = .ok (.tuple #[v, .bool true]) w := by kernel_rfl
@[go_sem] theorem nc_118 (v : Value) (w : World) : (binOp .eql 20 (.iface 118 v) .nilIface).run Try.prog w = .ok (.bool false) w := by kernel_rfl
@[go_sem] theorem tn_118_4 (v : Value) (w : World) : (Instr.typeAssert (.iface 118 v) 20 4 true).run Try.prog w = .ok (.tuple #[.bool false, .bool false]) w := no_4 118 v w (by decide)
@[go_sem] theorem tn_118_117 (v : Value) (w : World) : (Instr.typeAssert (.iface 118 v) 20 117 true).run Try.prog w = .ok (.tuple #[.int .i8 0, .bool false]) w := no_117 118 v w (by decide)
@[go_sem] theorem tn_118_5 (v : Value) (w : World) : (Instr.typeAssert (.iface 118 v) 20 5 true).run Try.prog w = .ok (.tuple #[.int .u8 0, .bool false]) w := no_5 118 v w (by decide)
@[go_sem] theorem ty_118 (v : Value) (w : World) : (Instr.typeAssert (.iface 118 v) 20 118 true).run Try.prog w = .ok (.tuple #[v, .bool true]) w := by kernel_rfl
@[go_sem] theorem nc_21 (v : Value) (w : World) : (binOp .eql 20 (.iface 21 v) .nilIface).run Try.prog w = .ok (.bool false) w := by kernel_rfl
@[go_sem] theorem tn_21_4 (v : Value) (w : World) : (Instr.typeAssert (.iface 21 v) 20 4 true).run Try.prog w = .ok (.tuple #[.bool false, .bool false]) w := no_4 21 v w (by decide)
@[go_sem] theorem tn_21_117 (v : Value) (w : World) : (Instr.typeAssert (.iface 21 v) 20 117 true).run Try.prog w = .ok (.tuple #[.int .i8 0, .bool false]) w := no_117 21 v w (by decide)
@[go_sem] theorem tn_21_5 (v : Value) (w : World) : (Instr.typeAssert (.iface 21 v) 20 5 true).run Try.prog w = .ok (.tuple #[.int .u8 0, .bool false]) w := no_5 21 v w (by decide)
@[go_sem] theorem tn_21_118 (v : Value) (w : World) : (Instr.typeAssert (.iface 21 v) 20 118 true).run Try.prog w = .ok (.tuple #[.int .i16 0, .bool false]) w := no_118 21 v w (by decide)
@[go_sem] theorem tn_21_68 (v : Value) (w : World) : (Instr.typeAssert (.iface 21 v) 20 68 true).run Try.prog w = .ok (.tuple #[.int .u16 0, .bool false]) w := no_68 21 v w (by decide)
@[go_sem] theorem ty_21 (v : Value) (w : World) : (Instr.typeAssert (.iface 21 v) 20 21 true).run Try.prog w = .ok (.tuple #[v, .bool true]) w := by kernel_rfl
@[go_sem] theorem nc_2 (v : Value) (w : World) : (binOp .eql 20 (.iface 2 v) .nilIface).run Try.prog w = .ok (.bool false) w := by kernel_rfl
@[go_sem] theorem tn_2_4 (v : Value) (w : World) : (Instr.typeAssert (.iface 2 v) 20 4 true).run Try.prog w = .ok (.tuple #[.bool false, .bool false]) w := no_4 2 v w (by decide)
@[go_sem] theorem tn_2_117 (v : Value) (w : World) : (Instr.typeAssert (.iface 2 v) 20 117 true).run Try.prog w = .ok (.tuple #[.int .i8 0, .bool false]) w := no_117 2 v w (by decide)
@[go_sem] theorem tn_2_5 (v : Value) (w : World) : (Instr.typeAssert (.iface 2 v) 20 5 true).run Try.prog w = .ok (.tuple #[.int .u8 0, .bool false]) w := no_5 2 v w (by decide)
@[go_sem] theorem tn_2_118 (v : Value) (w : World) : (Instr.typeAssert (.iface 2 v) 20 118 true).run Try.prog w = .ok (.tuple #[.int .i16 0, .bool false]) w := no_118 2 v w (by decide)
@[go_sem] theorem tn_2_68 (v : Value) (w : World) : (Instr.typeAssert (.iface 2 v) 20 68 true).run Try.prog w = .ok (.tuple #[.int .u16 0, .bool false]) w := no_68 2 v w (by decide)
@[go_sem] theorem tn_2_21 (v : Value) (w : World) : (Instr.typeAssert (.iface 2 v) 20 21 true).run Try.prog w = .ok (.tuple #[.int .i32 0, .bool false]) w := no_21 2 v w (by decide)
@[go_sem] theorem tn_2_119 (v : Value) (w : World) : (Instr.typeAssert (.iface 2 v) 20 119 true).run Try.prog w = .ok (.tuple #[.int .u32 0, .bool false]) w := no_119 2 v w (by decide)
@[go_sem] theorem ty_2 (v : Value) (w : World) : (Instr.typeAssert (.iface 2 v) 20 2 true).run Try.prog w = .ok (.tuple #[v, .bool true]) w := by kernel_rfl
@[go_sem] theorem nc_120 (v : Value) (w : World) : (binOp .eql 20 (.iface 120 v) .nilIface).run Try.prog w = .ok (.bool false) w := by kernel_rfl
@[go_sem] theorem tn_120_4 (v : Value) (w : World) : (Instr.typeAssert (.iface 120 v) 20 4 true).run Try.prog w = .ok (.tuple #[.bool false, .bool false]) w := no_4 120 v w (by decide)
@[go_sem] theorem tn_120_117 (v : Value) (w : World) : (Instr.typeAssert (.iface 120 v) 20 117 true).run Try.prog w = .ok (.tuple #[.int .i8 0, .bool false]) w := no_117 120 v w (by decide)
@[go_sem] theorem tn_120_5 (v : Value) (w : World) : (Instr.typeAssert (.iface 120 v) 20 5 true).run Try.prog w = .ok (.tuple #[.int .u8 0, .bool false]) w := no_5 120 v w (by decide)
@[go_sem] theorem tn_120_118 (v : Value) (w : World) : (Instr.typeAssert (.iface 120 v) 20 118 true).run Try.prog w = .ok (.tuple #[.int .i16 0, .bool false]) w := no_118 120 v w (by decide)
@[go_sem] theorem tn_120_68 (v : Value) (w : World) : (Instr.typeAssert (.iface 120 v) 20 68 true).run Try.prog w = .ok (.tuple #[.int .u16 0, .bool false]) w := no_68 120 v w (by decide)
@[go_sem] theorem tn_120_21 (v : Value) (w : World) : (Instr.typeAssert (.iface 120 v) 20 21 true).run Try.prog w = .ok (.tuple #[.int .i32 0, .bool false]) w := no_21 120 v w (by decide)
@[go_sem] theorem tn_120_119 (v : Value) (w : World) : (Instr.typeAssert (.iface 120 v) 20 119 true).run Try.prog w = .ok (.tuple #[.int .u32 0, .bool false]) w := no_119 120 v w (by decide)
@[go_sem] theorem tn_120_2 (v : Value) (w : World) : (Instr.typeAssert (.iface 120 v) 20 2 true).run Try.prog w = .ok (.tuple #[.int .i64 0, .bool false]) w := no_2 120 v w (by decide)
@[go_sem] theorem ty_120 (v : Value) (w : World) : (Instr.typeAssert (.iface 120 v) 20 120 true).run Try.prog w = .ok (.tuple #[v, .bool true]) w := by kernel_rfl
@[go_sem] theorem nc_77 (v : Value) (w : World) : (binOp .eql 20 (.iface 77 v) .nilIface).run Try.prog w = .ok (.bool false) w := by kernel_rfl
@[go_sem] theorem tn_77_4 (v : Value) (w : World) : (Instr.typeAssert (.iface 77 v) 20 4 true).run Try.prog w = .ok (.tuple #[.bool false, .bool false]) w := no_4 77 v w (by decide)
@[go_sem] theorem tn_77_117 (v : Value) (w : World) : (Instr.typeAssert (.iface 77 v) 20 117 true).run Try.prog w = .ok (.tuple #[.int .i8 0, .bool false]) w := no_117 77 v w (by decide)
@[go_sem] theorem tn_77_5 (v : Value) (w : World) : (Instr.typeAssert (.iface 77 v) 20 5 true).run Try.prog w = .ok (.tuple #[.int .u8 0, .bool false]) w := no_5 77 v w (by decide)
@[go_sem] theorem tn_77_118 (v : Value) (w : World) : (Instr.typeAssert (.iface 77 v) 20 118 true).run Try.prog w = .ok (.tuple #[.int .i16 0, .bool false]) w := no_118 77 v w (by decide)
@[go_sem] theorem tn_77_68 (v : Value) (w : World) : (Instr.typeAssert (.iface 77 v) 20 68 true).run Try.prog w = .ok (.tuple #[.int .u16 0, .bool false]) w := no_68 77 v w (by decide)
@[go_sem] theorem tn_77_21 (v : Value) (w : World) : (Instr.typeAssert (.iface 77 v) 20 21 true).run Try.prog w = .ok (.tuple #[.int .i32 0, .bool false]) w := no_21 77 v w (by decide)
@[go_sem] theorem tn_77_119 (v : Value) (w : World) : (Instr.typeAssert (.iface 77 v) 20 119 true).run Try.prog w = .ok (.tuple #[.int .u32 0, .bool false]) w := no_119 77 v w (by decide)
@[go_sem] theorem tn_77_2 (v : Value) (w : World) : (Instr.typeAssert (.iface 77 v) 20 2 true).run Try.prog w = .ok (.tuple #[.int .i64 0, .bool false]) w := no_2 77 v w (by decide)
@[go_sem] theorem tn_77_120 (v : Value) (w : World) : (Instr.typeAssert (.iface 77 v) 20 120 true).run Try.prog w = .ok (.tuple #[.float .f32 0, .bool false]) w := no_120 77 v w (by decide)
@[go_sem] theorem ty_77 (v : Value) (w : World) : (Instr.typeAssert (.iface 77 v) 20 77 true).run Try.prog w = .ok (.tuple #[v, .bool true]) w := by kernel_rfl
@[go_sem] theorem nc_122 (v : Value) (w : World) : (binOp .eql 20 (.iface 122 v) .nilIface).run Try.prog w = .ok (.bool false) w := by kernel_rfl
@[go_sem] theorem tn_122_4 (v : Value) (w : World) : (Instr.typeAssert (.iface 122 v) 20 4 true).run Try.prog w = .ok (.tuple #[.bool false, .bool false]) w := no_4 122 v w (by decide)
@[go_sem] theorem tn_122_117 (v : Value) (w : World) : (Instr.typeAssert (.iface 122 v) 20 117 true).run Try.prog w = .ok (.tuple #[.int .i8 0, .bool false]) w := no_117 122 v w (by decide)
@[go_sem] theorem tn_122_5 (v : Value) (w : World) : (Instr.typeAssert (.iface 122 v) 20 5 true).run Try.prog w = .ok (.tuple #[.int .u8 0, .bool false]) w := no_5 122 v w (by decide)
@[go_sem] theorem tn_122_118 (v : Value) (w : World) : (Instr.typeAssert (.iface 122 v) 20 118 true).run Try.prog w = .ok (.tuple #[.int .i16 0, .bool false]) w := no_118 122 v w (by decide)
@[go_sem] theorem tn_122_68 (v : Value) (w : World) : (Instr.typeAssert (.iface 122 v) 20 68 true).run Try.prog w = .ok (.tuple #[.int .u16 0, .bool false]) w := no_68 122 v w (by decide)
@[go_sem] theorem tn_122_21 (v : Value) (w : World) : (Instr.typeAssert (.iface 122 v) 20 21 true).run Try.prog w = .ok (.tuple #[.int .i32 0, .bool false]) w := no_21 122 v w (by decide)
@[go_sem] theorem tn_122_119 (v : Value) (w : World) : (Instr.typeAssert (.iface 122 v) 20 119 true).run Try.prog w = .ok (.tuple #[.int .u32 0, .bool false]) w := no_119 122 v w (by decide)
@[go_sem] theorem tn_122_2 (v : Value) (w : World) : (Instr.typeAssert (.iface 122 v) 20 2 true).run Try.prog w = .ok (.tuple #[.int .i64 0, .bool false]) w := no_2 122 v w (by decide)
@[go_sem] theorem tn_122_120 (v : Value) (w : World) : (Instr.typeAssert (.iface 122 v) 20 120 true).run Try.prog w = .ok (.tuple #[.float .f32 0, .bool false]) w := no_120 122 v w (by decide)
@[go_sem] theorem tn_122_77 (v : Value) (w : World) : (Instr.typeAssert (.iface 122 v) 20 77 true).run Try.prog w = .ok (.tuple #[.float .f64 0, .bool false]) w := no_77 122 v w (by decide)
@[go_sem] theorem ty_122 (v : Value) (w : World) : (Instr.typeAssert (.iface 122 v) 20 122 true).run Try.prog w = .ok (.tuple #[v, .bool true]) w := by kernel_rfl
@[go_sem] theorem nc_9 (v : Value) (w : World) : (binOp .eql 20 (.iface 9 v) .nilIface).run Try.prog w = .ok (.bool false) w := by kernel_rfl
@[go_sem] theorem tn_9_4 (v : Value) (w : World) : (Instr.typeAssert (.iface 9 v) 20 4 true).run Try.prog w = .ok (.tuple #[.bool false, .bool false]) w := no_4 9 v w (by decide)
@[go_sem] theorem tn_9_117 (v : Value) (w : World) : (Instr.typeAssert (.iface 9 v) 20 117 true).run Try.prog w = .ok (.tuple #[.int .i8 0, .bool false]) w := no_117 9 v w (by decide)
@[go_sem] theorem tn_9_5 (v : Value) (w : World) : (Instr.typeAssert (.iface 9 v) 20 5 true).run Try.prog w = .ok (.tuple #[.int .u8 0, .bool false]) w := no_5 9 v w (by decide)
@[go_sem] theorem tn_9_118 (v : Value) (w : World) : (Instr.typeAssert (.iface 9 v) 20 118 true).run Try.prog w = .ok (.tuple #[.int .i16 0, .bool false]) w := no_118 9 v w (by decide)
@[go_sem] theorem tn_9_68 (v : Value) (w : World) : (Instr.typeAssert (.iface 9 v) 20 68 true).run Try.prog w = .ok (.tuple #[.int .u16 0, .bool false]) w := no_68 9 v w (by decide)
@[go_sem] theorem tn_9_21 (v : Value) (w : World) : (Instr.typeAssert (.iface 9 v) 20 21 true).run Try.prog w = .ok (.tuple #[.int .i32 0, .bool false]) w := no_21 9 v w (by decide)
@[go_sem] theorem tn_9_119 (v : Value) (w : World) : (Instr.typeAssert (.iface 9 v) 20 119 true).run Try.prog w = .ok (.tuple #[.int .u32 0, .bool false]) w := no_119 9 v w (by decide)
@[go_sem] theorem tn_9_2 (v : Value) (w : World) : (Instr.typeAssert (.iface 9 v) 20 2 true).run Try.prog w = .ok (.tuple #[.int .i64 0, .bool false]) w := no_2 9 v w (by decide)
@[go_sem] theorem tn_9_120 (v : Value) (w : World) : (Instr.typeAssert (.iface 9 v) 20 120 true).run Try.prog w = .ok (.tuple #[.float .f32 0, .bool false]) w := no_120 9 v w (by decide)
@[go_sem] theorem tn_9_77 (v : Value) (w : World) : (Instr.typeAssert (.iface 9 v) 20 77 true).run Try.prog w = .ok (.tuple #[.float .f64 0, .bool false]) w := no_77 9 v w (by decide)
@[go_sem] theorem tn_9_122 (v : Value) (w : World) : (Instr.typeAssert (.iface 9 v) 20 122 true).run Try.prog w = .ok (.tuple #[.agg #[.int .u8 0, .int .i32 0], .bool false]) w := no_122 9 v w (by decide)
@[go_sem] theorem ty_9 (v : Value) (w : World) : (Instr.typeAssert (.iface 9 v) 20 9 true).run Try.prog w = .ok (.tuple #[v, .bool true]) w := by kernel_rfl
@[go_sem] theorem nc_27 (v : Value) (w : World) : (binOp .eql 20 (.iface 27 v) .nilIface).run Try.prog w = .ok (.bool false) w := by kernel_rfl
@[go_sem] theorem tn_27_4 (v : Value) (w : World) : (Instr.typeAssert (.iface 27 v) 20 4 true).run Try.prog w = .ok (.tuple #[.bool false, .bool false]) w := no_4 27 v w (by decide)
@[go_sem] theorem tn_27_117 (v : Value) (w : World) : (Instr.typeAssert (.iface 27 v) 20 117 true).run Try.prog w = .ok (.tuple #[.int .i8 0, .bool false]) w := no_117 27 v w (by decide)
@[go_sem] theorem tn_27_5 (v : Value) (w : World) : (Instr.typeAssert (.iface 27 v) 20 5 true).run Try.prog w = .ok (.tuple #[.int .u8 0, .bool false]) w := no_5 27 v w (by decide)
@[go_sem] theorem tn_27_118 (v : Value) (w : World) : (Instr.typeAssert (.iface 27 v) 20 118 true).run Try.prog w = .ok (.tuple #[.int .i16 0, .bool false]) w := no_118 27 v w (by decide)
@[go_sem] theorem tn_27_68 (v : Value) (w : World) : (Instr.typeAssert (.iface 27 v) 20 68 true).run Try.prog w = .ok (.tuple #[.int .u16 0, .bool false]) w := no_68 27 v w (by decide)
@[go_sem] theorem tn_27_21 (v : Value) (w : World) : (Instr.typeAssert (.iface 27 v) 20 21 true).run Try.prog w = .ok (.tuple #[.int .i32 0, .bool false]) w := no_21 27 v w (by decide)
@[go_sem] theorem tn_27_119 (v : Value) (w : World) : (Instr.typeAssert (.iface 27 v) 20 119 true).run Try.prog w = .ok (.tuple #[.int .u32 0, .bool false]) w := no_119 27 v w (by decide)
@[go_sem] theorem tn_27_2 (v : Value) (w : World) : (Instr.typeAssert (.iface 27 v) 20 2 true).run Try.prog w = .ok (.tuple #[.int .i64 0, .bool false]) w := no_2 27 v w (by decide)
@[go_sem] theorem tn_27_120 (v : Value) (w : World) : (Instr.typeAssert (.iface 27 v) 20 120 true).run Try.prog w = .ok (.tuple #[.float .f32 0, .bool false]) w := no_120 27 v w (by decide)
@[go_sem] theorem tn_27_77 (v : Value) (w : World) : (Instr.typeAssert (.iface 27 v) 20 77 true).run Try.prog w = .ok (.tuple #[.float .f64 0, .bool false]) w := no_77 27 v w (by decide)
@[go_sem] theorem tn_27_122 (v : Value) (w : World) : (Instr.typeAssert (.iface 27 v) 20 122 true).run Try.prog w = .ok (.tuple #[.agg #[.int .u8 0, .int .i32 0], .bool false]) w := no_122 27 v w (by decide)
@[go_sem] theorem tn_27_9 (v : Value) (w : World) : (Instr.typeAssert (.iface 27 v) 20 9 true).run Try.prog w = .ok (.tuple #[.string ⟨#[]⟩, .bool false]) w := no_9 27 v w (by decide)
@[go_sem] theorem ty_27 (v : Value) (w : World) : (Instr.typeAssert (.iface 27 v) 20 27 true).run Try.prog w = .ok (.tuple #[v, .bool true]) w := by kernel_rfl
@[go_sem] theorem nc_125 (v : Value) (w : World) : (binOp .eql 20 (.iface 125 v) .nilIface).run Try.prog w = .ok (.bool false) w := by kernel_rfl
@[go_sem] theorem tn_125_4 (v : Value) (w : World) : (Instr.typeAssert (.iface 125 v) 20 4 true).run Try.prog w = .ok (.tuple #[.bool false, .bool false]) w := no_4 125 v w (by decide)
@[go_sem] theorem tn_125_117 (v : Value) (w : World) : (Instr.typeAssert (.iface 125 v) 20 117 true).run Try.prog w = .ok (.tuple #[.int .i8 0, .bool false]) w := no_117 125 v w (by decide)
@[go_sem] theorem tn_125_5 (v : Value) (w : World) : (Instr.typeAssert (.iface 125 v) 20 5 true).run Try.prog w = .ok (.tuple #[.int .u8 0, .bool false]) w := no_5 125 v w (by decide)
@[go_sem] theorem tn_125_118 (v : Value) (w : World) : (Instr.typeAssert (.iface 125 v) 20 118 true).run Try.prog w = .ok (.tuple #[.int .i16 0, .bool false]) w := no_118 125 v w (by decide)
@[go_sem] theorem tn_125_68 (v : Value) (w : World) : (Instr.typeAssert (.iface 125 v) 20 68 true).run Try.prog w = .ok (.tuple #[.int .u16 0, .bool false]) w := no_68 125 v w (by decide)
@[go_sem] theorem tn_125_21 (v : Value) (w : World) : (Instr.typeAssert (.iface 125 v) 20 21 true).run Try.prog w = .ok (.tuple #[.int .i32 0, .bool false]) w := no_21 125 v w (by decide)
@[go_sem] theorem tn_125_119 (v : Value) (w : World) : (Instr.typeAssert (.iface 125 v) 20 119 true).run Try.prog w = .ok (.tuple #[.int .u32 0, .bool false]) w := no_119 125 v w (by decide)
@[go_sem] theorem tn_125_2 (v : Value) (w : World) : (Instr.typeAssert (.iface 125 v) 20 2 true).run Try.prog w = .ok (.tuple #[.int .i64 0, .bool false]) w := no_2 125 v w (by decide)
@[go_sem] theorem tn_125_120 (v : Value) (w : World) : (Instr.typeAssert (.iface 125 v) 20 120 true).run Try.prog w = .ok (.tuple #[.float .f32 0, .bool false]) w := no_120 125 v w (by decide)
@[go_sem] theorem tn_125_77 (v : Value) (w : World) : (Instr.typeAssert (.iface 125 v) 20 77 true).run Try.prog w = .ok (.tuple #[.float .f64 0, .bool false]) w := no_77 125 v w (by decide)
@[go_sem] theorem tn_125_122 (v : Value) (w : World) : (Instr.typeAssert (.iface 125 v) 20 122 true).run Try.prog w = .ok (.tuple #[.agg #[.int .u8 0, .int .i32 0], .bool false]) w := no_122 125 v w (by decide)
@[go_sem] theorem tn_125_9 (v : Value) (w : World) : (Instr.typeAssert (.iface 125 v) 20 9 true).run Try.prog w = .ok (.tuple #[.string ⟨#[]⟩, .bool false]) w := no_9 125 v w (by decide)
@[go_sem] theorem tn_125_27 (v : Value) (w : World) : (Instr.typeAssert (.iface 125 v) 20 27 true).run Try.prog w = .ok (.tuple #[.slice none 0 0, .bool false]) w := no_27 125 v w (by decide)
@[go_sem] theorem ty_125 (v : Value) (w : World) : (Instr.typeAssert (.iface 125 v) 20 125 true).run Try.prog w = .ok (.tuple #[v, .bool true]) w := by kernel_rfl
@[go_sem] theorem nc_127 (v : Value) (w : World) : (binOp .eql 20 (.iface 127 v) .nilIface).run Try.prog w = .ok (.bool false) w := by kernel_rfl
@[go_sem] theorem tn_127_4 (v : Value) (w : World) : (Instr.typeAssert (.iface 127 v) 20 4 true).run Try.prog w = .ok (.tuple #[.bool false, .bool false]) w := no_4 127 v w (by decide)
@[go_sem] theorem tn_127_117 (v : Value) (w : World) : (Instr.typeAssert (.iface 127 v) 20 117 true).run Try.prog w = .ok (.tuple #[.int .i8 0, .bool false]) w := no_117 127 v w (by decide)
@[go_sem] theorem tn_127_5 (v : Value) (w : World) : (Instr.typeAssert (.iface 127 v) 20 5 true).run Try.prog w = .ok (.tuple #[.int .u8 0, .bool false]) w := no_5 127 v w (by decide)
@[go_sem] theorem tn_127_118 (v : Value) (w : World) : (Instr.typeAssert (.iface 127 v) 20 118 true).run Try.prog w = .ok (.tuple #[.int .i16 0, .bool false]) w := no_118 127 v w (by decide)
@[go_sem] theorem tn_127_68 (v : Value) (w : World) : (Instr.typeAssert (.iface 127 v) 20 68 true).run Try.prog w = .ok (.tuple #[.int .u16 0, .bool false]) w := no_68 127 v w (by decide)
@[go_sem] theorem tn_127_21 (v : Value) (w : World) : (Instr.typeAssert (.iface 127 v) 20 21 true).run Try.prog w = .ok (.tuple #[.int .i32 0, .bool false]) w := no_21 127 v w (by decide)
@[go_sem] theorem tn_127_119 (v : Value) (w : World) : (Instr.typeAssert (.iface 127 v) 20 119 true).run Try.prog w = .ok (.tuple #[.int .u32 0, .bool false]) w := no_119 127 v w (by decide)
@[go_sem] theorem tn_127_2 (v : Value) (w : World) : (Instr.typeAssert (.iface 127 v) 20 2 true).run Try.prog w = .ok (.tuple #[.int .i64 0, .bool false]) w := no_2 127 v w (by decide)
@[go_sem] theorem tn_127_120 (v : Value) (w : World) : (Instr.typeAssert (.iface 127 v) 20 120 true).run Try.prog w = .ok (.tuple #[.float .f32 0, .bool false]) w := no_120 127 v w (by decide)
@[go_sem] theorem tn_127_77 (v : Value) (w : World) : (Instr.typeAssert (.iface 127 v) 20 77 true).run Try.prog w = .ok (.tuple #[.float .f64 0, .bool false]) w := no_77 127 v w (by decide)
@[go_sem] theorem tn_127_122 (v : Value) (w : World) : (Instr.typeAssert (.iface 127 v) 20 122 true).run Try.prog w = .ok (.tuple #[.agg #[.int .u8 0, .int .i32 0], .bool false]) w := no_122 127 v w (by decide)
@[go_sem] theorem tn_127_9 (v : Value) (w : World) : (Instr.typeAssert (.iface 127 v) 20 9 true).run Try.prog w = .ok (.tuple #[.string ⟨#[]⟩, .bool false]) w := no_9 127 v w (by decide)
@[go_sem] theorem tn_127_27 (v : Value) (w : World) : (Instr.typeAssert (.iface 127 v) 20 27 true).run Try.prog w = .ok (.tuple #[.slice none 0 0, .bool false]) w := no_27 127 v w (by decide)
@[go_sem] theorem tn_127_125 (v : Value) (w : World) : (Instr.typeAssert (.iface 127 v) 20 125 true).run Try.prog w = .ok (.tuple #[.agg #[.int .u64 0, .int .i64 0, .pointer none], .bool false]) w := no_125 127 v w (by decide)
@[go_sem] theorem ty_127 (v : Value) (w : World) : (Instr.typeAssert (.iface 127 v) 20 127 true).run Try.prog w = .ok (.tuple #[v, .bool true]) w := by kernel_rfl
@[go_sem] theorem nc_53 (v : Value) (w : World) : (binOp .eql 20 (.iface 53 v) .nilIface).run Try.prog w = .ok (.bool false) w := by kernel_rfl
@[go_sem] theorem tn_53_4 (v : Value) (w : World) : (Instr.typeAssert (.iface 53 v) 20 4 true).run Try.prog w = .ok (.tuple #[.bool false, .bool false]) w := no_4 53 v w (by decide)
@[go_sem] theorem tn_53_117 (v : Value) (w : World) : (Instr.typeAssert (.iface 53 v) 20 117 true).run Try.prog w = .ok (.tuple #[.int .i8 0, .bool false]) w := no_117 53 v w (by decide)
@[go_sem] theorem tn_53_5 (v : Value) (w : World) : (Instr.typeAssert (.iface 53 v) 20 5 true).run Try.prog w = .ok (.tuple #[.int .u8 0, .bool false]) w := no_5 53 v w (by decide)
@[go_sem] theorem tn_53_118 (v : Value) (w : World) : (Instr.typeAssert (.iface 53 v) 20 118 true).run Try.prog w = .ok (.tuple #[.int .i16 0, .bool false]) w := no_118 53 v w (by decide)
@[go_sem] theorem tn_53_68 (v : Value) (w : World) : (Instr.typeAssert (.iface 53 v) 20 68 true).run Try.prog w = .ok (.tuple #[.int .u16 0, .bool false]) w := no_68 53 v w (by decide)
@[go_sem] theorem tn_53_21 (v : Value) (w : World) : (Instr.typeAssert (.iface 53 v) 20 21 true).run Try.prog w = .ok (.tuple #[.int .i32 0, .bool false]) w := no_21 53 v w (by decide)
@[go_sem] theorem tn_53_119 (v : Value) (w : World) : (Instr.typeAssert (.iface 53 v) 20 119 true).run Try.prog w = .ok (.tuple #[.int .u32 0, .bool false]) w := no_119 53 v w (by decide)
@[go_sem] theorem tn_53_2 (v : Value) (w : World) : (Instr.typeAssert (.iface 53 v) 20 2 true).run Try.prog w = .ok (.tuple #[.int .i64 0, .bool false]) w := no_2 53 v w (by decide)
@[go_sem] theorem tn_53_120 (v : Value) (w : World) : (Instr.typeAssert (.iface 53 v) 20 120 true).run Try.prog w = .ok (.tuple #[.float .f32 0, .bool false]) w := no_120 53 v w (by decide)
@[go_sem] theorem tn_53_77 (v : Value) (w : World) : (Instr.typeAssert (.iface 53 v) 20 77 true).run Try.prog w = .ok (.tuple #[.float .f64 0, .bool false]) w := no_77 53 v w (by decide)
@[go_sem] theorem tn_53_122 (v : Value) (w : World) : (Instr.typeAssert (.iface 53 v) 20 122 true).run Try.prog w = .ok (.tuple #[.agg #[.int .u8 0, .int .i32 0], .bool false]) w := no_122 53 v w (by decide)
@[go_sem] theorem tn_53_9 (v : Value) (w : World) : (Instr.typeAssert (.iface 53 v) 20 9 true).run Try.prog w = .ok (.tuple #[.string ⟨#[]⟩, .bool false]) w := no_9 53 v w (by decide)
@[go_sem] theorem tn_53_27 (v : Value) (w : World) : (Instr.typeAssert (.iface 53 v) 20 27 true).run Try.prog w = .ok (.tuple #[.slice none 0 0, .bool false]) w := no_27 53 v w (by decide)
@[go_sem] theorem tn_53_125 (v : Value) (w : World) : (Instr.typeAssert (.iface 53 v) 20 125 true).run Try.prog w = .ok (.tuple #[.agg #[.int .u64 0, .int .i64 0, .pointer none], .bool false]) w := no_125 53 v w (by decide)
@[go_sem] theorem tn_53_127 (v : Value) (w : World) : (Instr.typeAssert (.iface 53 v) 20 127 true).run Try.prog w = .ok (.tuple #[.slice none 0 0, .bool false]) w := no_127 53 v w (by decide)
@[go_sem] theorem ty_53 (v : Value) (w : World) : (Instr.typeAssert (.iface 53 v) 20 53 true).run Try.prog w = .ok (.tuple #[v, .bool true]) w := by kernel_rfl
@[go_sem] theorem nc_nil (w : World) : (binOp .eql 20 .nilIface .nilIface).run Try.prog w = .ok (.bool true) w := by kernel_rfl

/-- what is told of a value -/
def TOut (w : World) (v : V) (e : Ending) (w' : World) : Prop := ∃ cs, e = .returned (.tuple #[.agg cs.toArray, .bool true]) ∧ RdV w' (New w w') v.nrm cs ∧ Below w.heap.size w w'
abbrev zero80 : Array Value := (vcells 0 0 0 0 ⟨#[]⟩ none 0 0 none 0 0).toArray

theorem leaf_out {w w' : World} {k n : Int} {f : Nat} {s : Int} {t : ByteArray} {v : V} (hv : v.nrm = .mk k n f s t .nil .nil) (hb : Below w.heap.size w w') :
    TOut w v (.returned (.tuple #[.agg (vcells k n f s t none 0 0 none 0 0).toArray, .bool true])) w' := by
  refine ⟨_, rfl, ?_, hb⟩
  rw [hv, RdV]
  exact ⟨none, 0, none, 0, [], [], rfl, fun h => absurd rfl h, by rw [VsC], Nat.le_refl _, fun h => absurd rfl h, by rw [FsC], Nat.le_refl _⟩
/-- the result's seven cells, stored -/
theorem res_put {w wy : World} {z : Array Value} {o0 o1 o2 o3 o4 o5 o6 : Value} (_hk : Blk wy w.heap.size 80 #[o0, o1, o2, o3, o4, o5, o6]) (hb : Below w.heap.size w wy) (v0 v1 v2 v3 v4 v5 v6 : Value) (_hz : z = #[]) : Below w.heap.size w (put7 wy w.heap.size v0 v1 v2 v3 v4 v5 v6) :=
  ((((((hb.setCell (Nat.le_refl _) v0).setCell (Nat.le_refl _) v1).setCell (Nat.le_refl _) v2).setCell (Nat.le_refl _) v3).setCell (Nat.le_refl _) v4).setCell (Nat.le_refl _) v5).setCell (Nat.le_refl _) v6
theorem back_conv {f : Nat} (h : okF f) (w : World) : (convert 120 77 (.float .f32 (f32 f))).run Try.prog w = .ok (.float .f64 (back32 f)) w := by
  obtain ⟨⟨s, m, e, h1, h2, h3⟩, _⟩ := back_all h
  refine run_convert_float_float w 120 77 .f32 .f64 _ _ (by rw [Try.underlying120]; rfl) Try.underlying77 ?_
  unfold floatToFloatBits
  simp only [h1]
  rw [← h2]
  simp [h3]
theorem addr_add (b off j : Nat) : (⟨b, off, none⟩ : Addr).add j = ⟨b, off + j, none⟩ := by unfold Addr.add; split <;> simp_all
theorem conv_rd {w : World} {p : Nat → Prop} {A : Option Addr} {c : Nat} {t : ByteArray} (h : Rd w p A (bcells t.data.toList)) : (convert 27 9 (.slice A t.size c)).run Try.prog w = .ok (.string t) w := by
  have e0 : t.data.toList.length = t.size := by rw [Array.length_toList]; rfl
  have ht : t = ⟨t.data.toList.toArray⟩ := by cases t; simp
  by_cases hz : t.size = 0
  · have he : t = ⟨#[]⟩ := by
      rw [ht]
      have : t.data.toList = [] := List.eq_nil_of_length_eq_zero (by rw [e0, hz])
      rw [this]
    rw [he]
    rcases A with _ | ad
    · rw [run_convert_bytes_string w 27 9 5 none _ c Try.underlying27 under5 Try.underlying9]
      rfl
    · have := run_convert_bytes_back w 27 9 5 ad c [] Try.underlying27 under5 Try.underlying9 (fun j hj => by simp at hj)
      exact this
  · obtain ⟨b, off, rfl, _, hx⟩ := h (by intro e; have := congrArg List.length e; rw [bcells_length, e0] at this; exact hz this)
    have := run_convert_bytes_back w 27 9 5 ⟨b, off, none⟩ c t.data.toList Try.underlying27 under5 Try.underlying9 (fun j hj => by
      rw [addr_add]
      exact hx j _ (by rw [bcells, List.getElem?_map, List.getElem?_eq_getElem hj]; rfl))
    rw [e0, ← ht] at this
    exact this

set_option maxRecDepth 100000 in
set_option maxHeartbeats 4000000 in
theorem tl_98 (n : Int) (f : Nat) (s : Int) (t : ByteArray) (ks : Vs) (fs : Fs) (hn : -128 ≤ n ∧ n ≤ 127) (w : World) : Calls Try.prog 43 #[.iface 117 (.int .i8 n)] w (TOut w (.mk 98 n f s t ks fs)) := by
  have hv : (V.mk 98 n f s t ks fs).nrm = .mk 98 n 0 0 ⟨#[]⟩ .nil .nil := by simp [V.nrm]
  have hw := wrapi64 n (by omega)
  have hk : Blk (w.alloc (.cells (vcells 0 0 0 0 ⟨#[]⟩ none 0 0 none 0 0).toArray 80)) w.heap.size 80 (vcells 0 0 0 0 ⟨#[]⟩ none 0 0 none 0 0).toArray := Blk.new w 80 _
  have hb : Below w.heap.size w (w.alloc (.cells (vcells 0 0 0 0 ⟨#[]⟩ none 0 0 none 0 0).toArray 80)) := (Below.refl _ _).alloc (Nat.le_refl _) _
  have hs : (w.alloc (.cells (vcells 0 0 0 0 ⟨#[]⟩ none 0 0 none 0 0).toArray 80)).heap.size = w.heap.size + 1 := by simp
  go_enter Try.func43, Try.ntmps43
  go_upto_region 1 with fail
  generalize w.alloc (.cells (vcells 0 0 0 0 ⟨#[]⟩ none 0 0 none 0 0).toArray 80) = wx at hk hb hs ⊢
  obtain ⟨g0, g1, g2, g3, g4, g5, g6⟩ := (hk).seven
  have fz := fun i => (hk).frozen i
  obtain ⟨e0, _, _⟩ := (hk).set7 (.int .u8 98) (.int .i64 n) (.float .f64 0) (.int .i64 0) (.string ⟨#[]⟩) (.slice none 0 0) (.slice none 0 0)
  have hpost := leaf_out (w := w) (w' := put7 (wx) w.heap.size (.int .u8 98) (.int .i64 n) (.float .f64 0) (.int .i64 0) (.string ⟨#[]⟩) (.slice none 0 0) (.slice none 0 0)) (k := 98) (n := n) (f := 0) (s := 0) (t := ⟨#[]⟩) hv (res_put (z := #[]) (hk) (hb) _ _ _ _ _ _ _ rfl)
  have HPost := Lib.hid hpost
  obtain ⟨j0, j1, j2, j3, j4, j5, j6⟩ := e0.seven
  clear e0 hpost hv
  clear hk hb hs
  go_wp2_with fail
  exact bodyPost_ret (v := .tuple #[.agg (vcells 98 n 0 0 ⟨#[]⟩ none 0 0 none 0 0).toArray, .bool true]) (by simp [results, Try.results43, go_sem, j0, j1, j2, j3, j4, j5, j6]) rfl HPost.out

set_option maxRecDepth 100000 in
set_option maxHeartbeats 4000000 in
theorem tl_66 (n : Int) (f : Nat) (s : Int) (t : ByteArray) (ks : Vs) (fs : Fs) (hn : 0 ≤ n ∧ n ≤ 255) (w : World) : Calls Try.prog 43 #[.iface 5 (.int .u8 n)] w (TOut w (.mk 66 n f s t ks fs)) := by
  have hv : (V.mk 66 n f s t ks fs).nrm = .mk 66 n 0 0 ⟨#[]⟩ .nil .nil := by simp [V.nrm]
  have hw := wrapi64 n (by omega)
  have hk : Blk (w.alloc (.cells (vcells 0 0 0 0 ⟨#[]⟩ none 0 0 none 0 0).toArray 80)) w.heap.size 80 (vcells 0 0 0 0 ⟨#[]⟩ none 0 0 none 0 0).toArray := Blk.new w 80 _
  have hb : Below w.heap.size w (w.alloc (.cells (vcells 0 0 0 0 ⟨#[]⟩ none 0 0 none 0 0).toArray 80)) := (Below.refl _ _).alloc (Nat.le_refl _) _
  have hs : (w.alloc (.cells (vcells 0 0 0 0 ⟨#[]⟩ none 0 0 none 0 0).toArray 80)).heap.size = w.heap.size + 1 := by simp
  go_enter Try.func43, Try.ntmps43
  go_upto_region 1 with fail
  generalize w.alloc (.cells (vcells 0 0 0 0 ⟨#[]⟩ none 0 0 none 0 0).toArray 80) = wx at hk hb hs ⊢
  obtain ⟨g0, g1, g2, g3, g4, g5, g6⟩ := (hk).seven
  have fz := fun i => (hk).frozen i
  obtain ⟨e0, _, _⟩ := (hk).set7 (.int .u8 66) (.int .i64 n) (.float .f64 0) (.int .i64 0) (.string ⟨#[]⟩) (.slice none 0 0) (.slice none 0 0)
  have hpost := leaf_out (w := w) (w' := put7 (wx) w.heap.size (.int .u8 66) (.int .i64 n) (.float .f64 0) (.int .i64 0) (.string ⟨#[]⟩) (.slice none 0 0) (.slice none 0 0)) (k := 66) (n := n) (f := 0) (s := 0) (t := ⟨#[]⟩) hv (res_put (z := #[]) (hk) (hb) _ _ _ _ _ _ _ rfl)
  have HPost := Lib.hid hpost
  obtain ⟨j0, j1, j2, j3, j4, j5, j6⟩ := e0.seven
  clear e0 hpost hv
  clear hk hb hs
  go_wp2_with fail
  exact bodyPost_ret (v := .tuple #[.agg (vcells 66 n 0 0 ⟨#[]⟩ none 0 0 none 0 0).toArray, .bool true]) (by simp [results, Try.results43, go_sem, j0, j1, j2, j3, j4, j5, j6]) rfl HPost.out

set_option maxRecDepth 100000 in
set_option maxHeartbeats 4000000 in
theorem tl_115 (n : Int) (f : Nat) (s : Int) (t : ByteArray) (ks : Vs) (fs : Fs) (hn : -32768 ≤ n ∧ n ≤ 32767) (w : World) : Calls Try.prog 43 #[.iface 118 (.int .i16 n)] w (TOut w (.mk 115 n f s t ks fs)) := by
  have hv : (V.mk 115 n f s t ks fs).nrm = .mk 115 n 0 0 ⟨#[]⟩ .nil .nil := by simp [V.nrm]
  have hw := wrapi64 n (by omega)
  have hk : Blk (w.alloc (.cells (vcells 0 0 0 0 ⟨#[]⟩ none 0 0 none 0 0).toArray 80)) w.heap.size 80 (vcells 0 0 0 0 ⟨#[]⟩ none 0 0 none 0 0).toArray := Blk.new w 80 _
  have hb : Below w.heap.size w (w.alloc (.cells (vcells 0 0 0 0 ⟨#[]⟩ none 0 0 none 0 0).toArray 80)) := (Below.refl _ _).alloc (Nat.le_refl _) _
  have hs : (w.alloc (.cells (vcells 0 0 0 0 ⟨#[]⟩ none 0 0 none 0 0).toArray 80)).heap.size = w.heap.size + 1 := by simp
  go_enter Try.func43, Try.ntmps43
  go_upto_region 1 with fail
  generalize w.alloc (.cells (vcells 0 0 0 0 ⟨#[]⟩ none 0 0 none 0 0).toArray 80) = wx at hk hb hs ⊢
  obtain ⟨g0, g1, g2, g3, g4, g5, g6⟩ := (hk).seven
  have fz := fun i => (hk).frozen i
  obtain ⟨e0, _, _⟩ := (hk).set7 (.int .u8 115) (.int .i64 n) (.float .f64 0) (.int .i64 0) (.string ⟨#[]⟩) (.slice none 0 0) (.slice none 0 0)
  have hpost := leaf_out (w := w) (w' := put7 (wx) w.heap.size (.int .u8 115) (.int .i64 n) (.float .f64 0) (.int .i64 0) (.string ⟨#[]⟩) (.slice none 0 0) (.slice none 0 0)) (k := 115) (n := n) (f := 0) (s := 0) (t := ⟨#[]⟩) hv (res_put (z := #[]) (hk) (hb) _ _ _ _ _ _ _ rfl)
  have HPost := Lib.hid hpost
  obtain ⟨j0, j1, j2, j3, j4, j5, j6⟩ := e0.seven
  clear e0 hpost hv
  clear hk hb hs
  go_wp2_with fail
  exact bodyPost_ret (v := .tuple #[.agg (vcells 115 n 0 0 ⟨#[]⟩ none 0 0 none 0 0).toArray, .bool true]) (by simp [results, Try.results43, go_sem, j0, j1, j2, j3, j4, j5, j6]) rfl HPost.out

set_option maxRecDepth 100000 in
set_option maxHeartbeats 4000000 in
theorem tl_73 (n : Int) (f : Nat) (s : Int) (t : ByteArray) (ks : Vs) (fs : Fs) (hn : -2147483648 ≤ n ∧ n ≤ 2147483647) (w : World) : Calls Try.prog 43 #[.iface 21 (.int .i32 n)] w (TOut w (.mk 73 n f s t ks fs)) := by
  have hv : (V.mk 73 n f s t ks fs).nrm = .mk 73 n 0 0 ⟨#[]⟩ .nil .nil := by simp [V.nrm]
  have hw := wrapi64 n (by omega)
  have hk : Blk (w.alloc (.cells (vcells 0 0 0 0 ⟨#[]⟩ none 0 0 none 0 0).toArray 80)) w.heap.size 80 (vcells 0 0 0 0 ⟨#[]⟩ none 0 0 none 0 0).toArray := Blk.new w 80 _
  have hb : Below w.heap.size w (w.alloc (.cells (vcells 0 0 0 0 ⟨#[]⟩ none 0 0 none 0 0).toArray 80)) := (Below.refl _ _).alloc (Nat.le_refl _) _
  have hs : (w.alloc (.cells (vcells 0 0 0 0 ⟨#[]⟩ none 0 0 none 0 0).toArray 80)).heap.size = w.heap.size + 1 := by simp
  go_enter Try.func43, Try.ntmps43
  go_upto_region 1 with fail
  generalize w.alloc (.cells (vcells 0 0 0 0 ⟨#[]⟩ none 0 0 none 0 0).toArray 80) = wx at hk hb hs ⊢
  obtain ⟨g0, g1, g2, g3, g4, g5, g6⟩ := (hk).seven
  have fz := fun i => (hk).frozen i
  obtain ⟨e0, _, _⟩ := (hk).set7 (.int .u8 73) (.int .i64 n) (.float .f64 0) (.int .i64 0) (.string ⟨#[]⟩) (.slice none 0 0) (.slice none 0 0)
  have hpost := leaf_out (w := w) (w' := put7 (wx) w.heap.size (.int .u8 73) (.int .i64 n) (.float .f64 0) (.int .i64 0) (.string ⟨#[]⟩) (.slice none 0 0) (.slice none 0 0)) (k := 73) (n := n) (f := 0) (s := 0) (t := ⟨#[]⟩) hv (res_put (z := #[]) (hk) (hb) _ _ _ _ _ _ _ rfl)
  have HPost := Lib.hid hpost
  obtain ⟨j0, j1, j2, j3, j4, j5, j6⟩ := e0.seven
  clear e0 hpost hv
  clear hk hb hs
  go_wp2_with fail
  exact bodyPost_ret (v := .tuple #[.agg (vcells 73 n 0 0 ⟨#[]⟩ none 0 0 none 0 0).toArray, .bool true]) (by simp [results, Try.results43, go_sem, j0, j1, j2, j3, j4, j5, j6]) rfl HPost.out

set_option maxRecDepth 100000 in
set_option maxHeartbeats 4000000 in
theorem tl_108 (n : Int) (f : Nat) (s : Int) (t : ByteArray) (ks : Vs) (fs : Fs) (hn : -9223372036854775808 ≤ n ∧ n ≤ 9223372036854775807) (w : World) : Calls Try.prog 43 #[.iface 2 (.int .i64 n)] w (TOut w (.mk 108 n f s t ks fs)) := by
  have hv : (V.mk 108 n f s t ks fs).nrm = .mk 108 n 0 0 ⟨#[]⟩ .nil .nil := by simp [V.nrm]
  have hw := wrapi64 n hn
  have hk : Blk (w.alloc (.cells (vcells 0 0 0 0 ⟨#[]⟩ none 0 0 none 0 0).toArray 80)) w.heap.size 80 (vcells 0 0 0 0 ⟨#[]⟩ none 0 0 none 0 0).toArray := Blk.new w 80 _
  have hb : Below w.heap.size w (w.alloc (.cells (vcells 0 0 0 0 ⟨#[]⟩ none 0 0 none 0 0).toArray 80)) := (Below.refl _ _).alloc (Nat.le_refl _) _
  have hs : (w.alloc (.cells (vcells 0 0 0 0 ⟨#[]⟩ none 0 0 none 0 0).toArray 80)).heap.size = w.heap.size + 1 := by simp
  go_enter Try.func43, Try.ntmps43
  go_upto_region 1 with fail
  generalize w.alloc (.cells (vcells 0 0 0 0 ⟨#[]⟩ none 0 0 none 0 0).toArray 80) = wx at hk hb hs ⊢
  obtain ⟨g0, g1, g2, g3, g4, g5, g6⟩ := (hk).seven
  have fz := fun i => (hk).frozen i
  obtain ⟨e0, _, _⟩ := (hk).set7 (.int .u8 108) (.int .i64 n) (.float .f64 0) (.int .i64 0) (.string ⟨#[]⟩) (.slice none 0 0) (.slice none 0 0)
  have hpost := leaf_out (w := w) (w' := put7 (wx) w.heap.size (.int .u8 108) (.int .i64 n) (.float .f64 0) (.int .i64 0) (.string ⟨#[]⟩) (.slice none 0 0) (.slice none 0 0)) (k := 108) (n := n) (f := 0) (s := 0) (t := ⟨#[]⟩) hv (res_put (z := #[]) (hk) (hb) _ _ _ _ _ _ _ rfl)
  have HPost := Lib.hid hpost
  obtain ⟨j0, j1, j2, j3, j4, j5, j6⟩ := e0.seven
  clear e0 hpost hv
  clear hk hb hs
  go_wp2_with fail
  exact bodyPost_ret (v := .tuple #[.agg (vcells 108 n 0 0 ⟨#[]⟩ none 0 0 none 0 0).toArray, .bool true]) (by simp [results, Try.results43, go_sem, j0, j1, j2, j3, j4, j5, j6]) rfl HPost.out

set_option maxRecDepth 100000 in
set_option maxHeartbeats 4000000 in
theorem tl_102 (n : Int) (f : Nat) (s : Int) (t : ByteArray) (ks : Vs) (fs : Fs) (hn : okF f) (w : World) : Calls Try.prog 43 #[.iface 120 (.float .f32 (f32 f))] w (TOut w (.mk 102 n f s t ks fs)) := by
  have hv : (V.mk 102 n f s t ks fs).nrm = .mk 102 0 (back32 f) 0 ⟨#[]⟩ .nil .nil := by simp [V.nrm]
  have hcv := fun w => back_conv hn w
  have hk : Blk (w.alloc (.cells (vcells 0 0 0 0 ⟨#[]⟩ none 0 0 none 0 0).toArray 80)) w.heap.size 80 (vcells 0 0 0 0 ⟨#[]⟩ none 0 0 none 0 0).toArray := Blk.new w 80 _
  have hb : Below w.heap.size w (w.alloc (.cells (vcells 0 0 0 0 ⟨#[]⟩ none 0 0 none 0 0).toArray 80)) := (Below.refl _ _).alloc (Nat.le_refl _) _
  have hs : (w.alloc (.cells (vcells 0 0 0 0 ⟨#[]⟩ none 0 0 none 0 0).toArray 80)).heap.size = w.heap.size + 1 := by simp
  go_enter Try.func43, Try.ntmps43
  go_upto_region 1 with fail
  generalize w.alloc (.cells (vcells 0 0 0 0 ⟨#[]⟩ none 0 0 none 0 0).toArray 80) = wx at hk hb hs ⊢
  obtain ⟨g0, g1, g2, g3, g4, g5, g6⟩ := (hk).seven
  have fz := fun i => (hk).frozen i
  obtain ⟨e0, _, _⟩ := (hk).set7 (.int .u8 102) (.int .i64 0) (.float .f64 (back32 f)) (.int .i64 0) (.string ⟨#[]⟩) (.slice none 0 0) (.slice none 0 0)
  have hpost := leaf_out (w := w) (w' := put7 (wx) w.heap.size (.int .u8 102) (.int .i64 0) (.float .f64 (back32 f)) (.int .i64 0) (.string ⟨#[]⟩) (.slice none 0 0) (.slice none 0 0)) (k := 102) (n := 0) (f := (back32 f)) (s := 0) (t := ⟨#[]⟩) hv (res_put (z := #[]) (hk) (hb) _ _ _ _ _ _ _ rfl)
  have HPost := Lib.hid hpost
  obtain ⟨j0, j1, j2, j3, j4, j5, j6⟩ := e0.seven
  clear e0 hpost hv
  clear hk hb hs
  go_wp2_with fail
  exact bodyPost_ret (v := .tuple #[.agg (vcells 102 0 (back32 f) 0 ⟨#[]⟩ none 0 0 none 0 0).toArray, .bool true]) (by simp [results, Try.results43, go_sem, j0, j1, j2, j3, j4, j5, j6]) rfl HPost.out

set_option maxRecDepth 100000 in
set_option maxHeartbeats 4000000 in
theorem tl_100 (n : Int) (f : Nat) (s : Int) (t : ByteArray) (ks : Vs) (fs : Fs) (w : World) : Calls Try.prog 43 #[.iface 77 (.float .f64 f)] w (TOut w (.mk 100 n f s t ks fs)) := by
  have hv : (V.mk 100 n f s t ks fs).nrm = .mk 100 0 f 0 ⟨#[]⟩ .nil .nil := by simp [V.nrm]
  have hk : Blk (w.alloc (.cells (vcells 0 0 0 0 ⟨#[]⟩ none 0 0 none 0 0).toArray 80)) w.heap.size 80 (vcells 0 0 0 0 ⟨#[]⟩ none 0 0 none 0 0).toArray := Blk.new w 80 _
  have hb : Below w.heap.size w (w.alloc (.cells (vcells 0 0 0 0 ⟨#[]⟩ none 0 0 none 0 0).toArray 80)) := (Below.refl _ _).alloc (Nat.le_refl _) _
  have hs : (w.alloc (.cells (vcells 0 0 0 0 ⟨#[]⟩ none 0 0 none 0 0).toArray 80)).heap.size = w.heap.size + 1 := by simp
  go_enter Try.func43, Try.ntmps43
  go_upto_region 1 with fail
  generalize w.alloc (.cells (vcells 0 0 0 0 ⟨#[]⟩ none 0 0 none 0 0).toArray 80) = wx at hk hb hs ⊢
  obtain ⟨g0, g1, g2, g3, g4, g5, g6⟩ := (hk).seven
  have fz := fun i => (hk).frozen i
  obtain ⟨e0, _, _⟩ := (hk).set7 (.int .u8 100) (.int .i64 0) (.float .f64 f) (.int .i64 0) (.string ⟨#[]⟩) (.slice none 0 0) (.slice none 0 0)
  have hpost := leaf_out (w := w) (w' := put7 (wx) w.heap.size (.int .u8 100) (.int .i64 0) (.float .f64 f) (.int .i64 0) (.string ⟨#[]⟩) (.slice none 0 0) (.slice none 0 0)) (k := 100) (n := 0) (f := f) (s := 0) (t := ⟨#[]⟩) hv (res_put (z := #[]) (hk) (hb) _ _ _ _ _ _ _ rfl)
  have HPost := Lib.hid hpost
  obtain ⟨j0, j1, j2, j3, j4, j5, j6⟩ := e0.seven
  clear e0 hpost hv
  clear hk hb hs
  go_wp2_with fail
  exact bodyPost_ret (v := .tuple #[.agg (vcells 100 0 f 0 ⟨#[]⟩ none 0 0 none 0 0).toArray, .bool true]) (by simp [results, Try.results43, go_sem, j0, j1, j2, j3, j4, j5, j6]) rfl HPost.out

set_option maxRecDepth 100000 in
set_option maxHeartbeats 4000000 in
theorem tl_83 (n : Int) (f : Nat) (s : Int) (t : ByteArray) (ks : Vs) (fs : Fs) (w : World) : Calls Try.prog 43 #[.iface 9 (.string t)] w (TOut w (.mk 83 n f s t ks fs)) := by
  have hv : (V.mk 83 n f s t ks fs).nrm = .mk 83 0 0 0 t .nil .nil := by simp [V.nrm]
  have hk : Blk (w.alloc (.cells (vcells 0 0 0 0 ⟨#[]⟩ none 0 0 none 0 0).toArray 80)) w.heap.size 80 (vcells 0 0 0 0 ⟨#[]⟩ none 0 0 none 0 0).toArray := Blk.new w 80 _
  have hb : Below w.heap.size w (w.alloc (.cells (vcells 0 0 0 0 ⟨#[]⟩ none 0 0 none 0 0).toArray 80)) := (Below.refl _ _).alloc (Nat.le_refl _) _
  have hs : (w.alloc (.cells (vcells 0 0 0 0 ⟨#[]⟩ none 0 0 none 0 0).toArray 80)).heap.size = w.heap.size + 1 := by simp
  go_enter Try.func43, Try.ntmps43
  go_upto_region 1 with fail
  generalize w.alloc (.cells (vcells 0 0 0 0 ⟨#[]⟩ none 0 0 none 0 0).toArray 80) = wx at hk hb hs ⊢
  obtain ⟨g0, g1, g2, g3, g4, g5, g6⟩ := (hk).seven
  have fz := fun i => (hk).frozen i
  obtain ⟨e0, _, _⟩ := (hk).set7 (.int .u8 83) (.int .i64 0) (.float .f64 0) (.int .i64 0) (.string t) (.slice none 0 0) (.slice none 0 0)
  have hpost := leaf_out (w := w) (w' := put7 (wx) w.heap.size (.int .u8 83) (.int .i64 0) (.float .f64 0) (.int .i64 0) (.string t) (.slice none 0 0) (.slice none 0 0)) (k := 83) (n := 0) (f := 0) (s := 0) (t := t) hv (res_put (z := #[]) (hk) (hb) _ _ _ _ _ _ _ rfl)
  have HPost := Lib.hid hpost
  obtain ⟨j0, j1, j2, j3, j4, j5, j6⟩ := e0.seven
  clear e0 hpost hv
  clear hk hb hs
  go_wp2_with fail
  exact bodyPost_ret (v := .tuple #[.agg (vcells 83 0 0 0 t none 0 0 none 0 0).toArray, .bool true]) (by simp [results, Try.results43, go_sem, j0, j1, j2, j3, j4, j5, j6]) rfl HPost.out

set_option maxRecDepth 100000 in
set_option maxHeartbeats 4000000 in
theorem tl_86 (n : Int) (f : Nat) (s : Int) (t : ByteArray) (ks : Vs) (fs : Fs) (w : World) : Calls Try.prog 43 #[.nilIface] w (TOut w (.mk 86 n f s t ks fs)) := by
  have hv : (V.mk 86 n f s t ks fs).nrm = .mk 86 0 0 0 ⟨#[]⟩ .nil .nil := by simp [V.nrm]
  have hk : Blk (w.alloc (.cells (vcells 0 0 0 0 ⟨#[]⟩ none 0 0 none 0 0).toArray 80)) w.heap.size 80 (vcells 0 0 0 0 ⟨#[]⟩ none 0 0 none 0 0).toArray := Blk.new w 80 _
  have hb : Below w.heap.size w (w.alloc (.cells (vcells 0 0 0 0 ⟨#[]⟩ none 0 0 none 0 0).toArray 80)) := (Below.refl _ _).alloc (Nat.le_refl _) _
  have hs : (w.alloc (.cells (vcells 0 0 0 0 ⟨#[]⟩ none 0 0 none 0 0).toArray 80)).heap.size = w.heap.size + 1 := by simp
  go_enter Try.func43, Try.ntmps43
  go_upto_region 1 with fail
  generalize w.alloc (.cells (vcells 0 0 0 0 ⟨#[]⟩ none 0 0 none 0 0).toArray 80) = wx at hk hb hs ⊢
  obtain ⟨g0, g1, g2, g3, g4, g5, g6⟩ := (hk).seven
  have fz := fun i => (hk).frozen i
  obtain ⟨e0, _, _⟩ := (hk).set7 (.int .u8 86) (.int .i64 0) (.float .f64 0) (.int .i64 0) (.string ⟨#[]⟩) (.slice none 0 0) (.slice none 0 0)
  have hpost := leaf_out (w := w) (w' := put7 (wx) w.heap.size (.int .u8 86) (.int .i64 0) (.float .f64 0) (.int .i64 0) (.string ⟨#[]⟩) (.slice none 0 0) (.slice none 0 0)) (k := 86) (n := 0) (f := 0) (s := 0) (t := ⟨#[]⟩) hv (res_put (z := #[]) (hk) (hb) _ _ _ _ _ _ _ rfl)
  have HPost := Lib.hid hpost
  obtain ⟨j0, j1, j2, j3, j4, j5, j6⟩ := e0.seven
  clear e0 hpost hv
  clear hk hb hs
  go_wp2_with fail
  exact bodyPost_ret (v := .tuple #[.agg (vcells 86 0 0 0 ⟨#[]⟩ none 0 0 none 0 0).toArray, .bool true]) (by simp [results, Try.results43, go_sem, j0, j1, j2, j3, j4, j5, j6]) rfl HPost.out

set_option maxRecDepth 100000 in
set_option maxHeartbeats 4000000 in
theorem tl_120 (n : Int) (f : Nat) (s : Int) (t : ByteArray) (ks : Vs) (fs : Fs) {A : Option Addr} {c : Nat} {p : Nat → Prop} {w : World} (hR : Rd w p A (bcells t.data.toList)) (hp : ∀ g, p g → g < w.heap.size) : Calls Try.prog 43 #[.iface 27 (.slice A t.size c)] w (TOut w (.mk 120 n f s t ks fs)) := by
  have hv : (V.mk 120 n f s t ks fs).nrm = .mk 120 0 0 0 t .nil .nil := by simp [V.nrm]
  have HR := Lib.hid hR
  have HP := Lib.hid hp
  clear hR hp
  have hk : Blk (w.alloc (.cells (vcells 0 0 0 0 ⟨#[]⟩ none 0 0 none 0 0).toArray 80)) w.heap.size 80 (vcells 0 0 0 0 ⟨#[]⟩ none 0 0 none 0 0).toArray := Blk.new w 80 _
  have hb : Below w.heap.size w (w.alloc (.cells (vcells 0 0 0 0 ⟨#[]⟩ none 0 0 none 0 0).toArray 80)) := (Below.refl _ _).alloc (Nat.le_refl _) _
  have hs : (w.alloc (.cells (vcells 0 0 0 0 ⟨#[]⟩ none 0 0 none 0 0).toArray 80)).heap.size = w.heap.size + 1 := by simp
  go_enter Try.func43, Try.ntmps43
  go_upto_region 1 with fail
  generalize w.alloc (.cells (vcells 0 0 0 0 ⟨#[]⟩ none 0 0 none 0 0).toArray 80) = wx at hk hb hs ⊢
  have hcv := conv_rd (c := c) (HR.out.keep (w1 := wx) (fun g hg => hb.block g (HP.out g hg)))
  obtain ⟨g0, g1, g2, g3, g4, g5, g6⟩ := (hk).seven
  have fz := fun i => (hk).frozen i
  obtain ⟨e0, _, _⟩ := (hk).set7 (.int .u8 120) (.int .i64 0) (.float .f64 0) (.int .i64 0) (.string t) (.slice none 0 0) (.slice none 0 0)
  have hpost := leaf_out (w := w) (w' := put7 (wx) w.heap.size (.int .u8 120) (.int .i64 0) (.float .f64 0) (.int .i64 0) (.string t) (.slice none 0 0) (.slice none 0 0)) (k := 120) (n := 0) (f := 0) (s := 0) (t := t) hv (res_put (z := #[]) (hk) (hb) _ _ _ _ _ _ _ rfl)
  have HPost := Lib.hid hpost
  obtain ⟨j0, j1, j2, j3, j4, j5, j6⟩ := e0.seven
  clear e0 hpost hv
  clear hk hb hs
  go_wp2_with fail
  exact bodyPost_ret (v := .tuple #[.agg (vcells 120 0 0 0 t none 0 0 none 0 0).toArray, .bool true]) (by simp [results, Try.results43, go_sem, j0, j1, j2, j3, j4, j5, j6]) rfl HPost.out

set_option maxRecDepth 100000 in
set_option maxHeartbeats 4000000 in
theorem tl_116_0 (f : Nat) (s : Int) (t : ByteArray) (ks : Vs) (fs : Fs) (w : World) : Calls Try.prog 43 #[.iface 4 (.bool false)] w (TOut w (.mk 116 0 f s t ks fs)) := by
  have hv : (V.mk 116 0 f s t ks fs).nrm = .mk 116 0 0 0 ⟨#[]⟩ .nil .nil := by simp [V.nrm]
  have hk : Blk (w.alloc (.cells (vcells 0 0 0 0 ⟨#[]⟩ none 0 0 none 0 0).toArray 80)) w.heap.size 80 (vcells 0 0 0 0 ⟨#[]⟩ none 0 0 none 0 0).toArray := Blk.new w 80 _
  have hb : Below w.heap.size w (w.alloc (.cells (vcells 0 0 0 0 ⟨#[]⟩ none 0 0 none 0 0).toArray 80)) := (Below.refl _ _).alloc (Nat.le_refl _) _
  have hs : (w.alloc (.cells (vcells 0 0 0 0 ⟨#[]⟩ none 0 0 none 0 0).toArray 80)).heap.size = w.heap.size + 1 := by simp
  go_enter Try.func43, Try.ntmps43
  go_upto_region 1 with fail
  generalize w.alloc (.cells (vcells 0 0 0 0 ⟨#[]⟩ none 0 0 none 0 0).toArray 80) = wx at hk hb hs ⊢
  have hm : Blk (wx.alloc (.cells #[.int .u8 116, .int .i64 0, .float .f64 0, .int .i64 0, .string ⟨#[]⟩, .slice none 0 0, .slice none 0 0] 80)) (w.heap.size + 1) 80 #[.int .u8 116, .int .i64 0, .float .f64 0, .int .i64 0, .string ⟨#[]⟩, .slice none 0 0, .slice none 0 0] := by
    have := Blk.new wx 80 #[.int .u8 116, .int .i64 0, .float .f64 0, .int .i64 0, .string ⟨#[]⟩, .slice none 0 0, .slice none 0 0]; rwa [hs] at this
  have hk2 : Blk (wx.alloc (.cells #[.int .u8 116, .int .i64 0, .float .f64 0, .int .i64 0, .string ⟨#[]⟩, .slice none 0 0, .slice none 0 0] 80)) w.heap.size 80 (vcells 0 0 0 0 ⟨#[]⟩ none 0 0 none 0 0).toArray := hk.alloc _
  have hb2 : Below w.heap.size w (wx.alloc (.cells #[.int .u8 116, .int .i64 0, .float .f64 0, .int .i64 0, .string ⟨#[]⟩, .slice none 0 0, .slice none 0 0] 80)) := hb.alloc (by omega) _
  have hs2 : (wx.alloc (.cells #[.int .u8 116, .int .i64 0, .float .f64 0, .int .i64 0, .string ⟨#[]⟩, .slice none 0 0, .slice none 0 0] 80)).heap.size = w.heap.size + 2 := by simp [hs]
  go_upto_region 8 with fail
  generalize wx.alloc (.cells #[.int .u8 116, .int .i64 0, .float .f64 0, .int .i64 0, .string ⟨#[]⟩, .slice none 0 0, .slice none 0 0] 80) = wy at hm hk2 hb2 hs2 ⊢
  obtain ⟨i0, i1, i2, i3, i4, i5, i6⟩ := hm.seven
  obtain ⟨g0, g1, g2, g3, g4, g5, g6⟩ := (hk2).seven
  have fz := fun i => (hk2).frozen i
  obtain ⟨e0, _, _⟩ := (hk2).set7 (.int .u8 116) (.int .i64 0) (.float .f64 0) (.int .i64 0) (.string ⟨#[]⟩) (.slice none 0 0) (.slice none 0 0)
  have hpost := leaf_out (w := w) (w' := put7 (wy) w.heap.size (.int .u8 116) (.int .i64 0) (.float .f64 0) (.int .i64 0) (.string ⟨#[]⟩) (.slice none 0 0) (.slice none 0 0)) (k := 116) (n := 0) (f := 0) (s := 0) (t := ⟨#[]⟩) hv (res_put (z := #[]) (hk2) (hb2) _ _ _ _ _ _ _ rfl)
  have HPost := Lib.hid hpost
  obtain ⟨j0, j1, j2, j3, j4, j5, j6⟩ := e0.seven
  clear e0 hpost hv
  clear hm hk2 hb2
  go_wp2_with fail
  exact bodyPost_ret (v := .tuple #[.agg (vcells 116 0 0 0 ⟨#[]⟩ none 0 0 none 0 0).toArray, .bool true]) (by simp [results, Try.results43, go_sem, j0, j1, j2, j3, j4, j5, j6]) rfl HPost.out

set_option maxRecDepth 100000 in
set_option maxHeartbeats 4000000 in
theorem tl_116_1 (f : Nat) (s : Int) (t : ByteArray) (ks : Vs) (fs : Fs) (w : World) : Calls Try.prog 43 #[.iface 4 (.bool true)] w (TOut w (.mk 116 1 f s t ks fs)) := by
  have hv : (V.mk 116 1 f s t ks fs).nrm = .mk 116 1 0 0 ⟨#[]⟩ .nil .nil := by simp [V.nrm]
  have hk : Blk (w.alloc (.cells (vcells 0 0 0 0 ⟨#[]⟩ none 0 0 none 0 0).toArray 80)) w.heap.size 80 (vcells 0 0 0 0 ⟨#[]⟩ none 0 0 none 0 0).toArray := Blk.new w 80 _
  have hb : Below w.heap.size w (w.alloc (.cells (vcells 0 0 0 0 ⟨#[]⟩ none 0 0 none 0 0).toArray 80)) := (Below.refl _ _).alloc (Nat.le_refl _) _
  have hs : (w.alloc (.cells (vcells 0 0 0 0 ⟨#[]⟩ none 0 0 none 0 0).toArray 80)).heap.size = w.heap.size + 1 := by simp
  go_enter Try.func43, Try.ntmps43
  go_upto_region 1 with fail
  generalize w.alloc (.cells (vcells 0 0 0 0 ⟨#[]⟩ none 0 0 none 0 0).toArray 80) = wx at hk hb hs ⊢
  have hm : Blk (wx.alloc (.cells #[.int .u8 116, .int .i64 0, .float .f64 0, .int .i64 0, .string ⟨#[]⟩, .slice none 0 0, .slice none 0 0] 80)) (w.heap.size + 1) 80 #[.int .u8 116, .int .i64 0, .float .f64 0, .int .i64 0, .string ⟨#[]⟩, .slice none 0 0, .slice none 0 0] := by
    have := Blk.new wx 80 #[.int .u8 116, .int .i64 0, .float .f64 0, .int .i64 0, .string ⟨#[]⟩, .slice none 0 0, .slice none 0 0]; rwa [hs] at this
  have hk2 : Blk (wx.alloc (.cells #[.int .u8 116, .int .i64 0, .float .f64 0, .int .i64 0, .string ⟨#[]⟩, .slice none 0 0, .slice none 0 0] 80)) w.heap.size 80 (vcells 0 0 0 0 ⟨#[]⟩ none 0 0 none 0 0).toArray := hk.alloc _
  have hb2 : Below w.heap.size w (wx.alloc (.cells #[.int .u8 116, .int .i64 0, .float .f64 0, .int .i64 0, .string ⟨#[]⟩, .slice none 0 0, .slice none 0 0] 80)) := hb.alloc (by omega) _
  have hs2 : (wx.alloc (.cells #[.int .u8 116, .int .i64 0, .float .f64 0, .int .i64 0, .string ⟨#[]⟩, .slice none 0 0, .slice none 0 0] 80)).heap.size = w.heap.size + 2 := by simp [hs]
  go_upto_region 8 with fail
  generalize wx.alloc (.cells #[.int .u8 116, .int .i64 0, .float .f64 0, .int .i64 0, .string ⟨#[]⟩, .slice none 0 0, .slice none 0 0] 80) = wy at hm hk2 hb2 hs2 ⊢
  have hne2 : w.heap.size ≠ w.heap.size + 1 := by omega
  have hm3 : Blk (wy.setCell ⟨w.heap.size + 1, 1, none⟩ (.int .i64 1)) (w.heap.size + 1) 80 (vcells 116 1 0 0 ⟨#[]⟩ none 0 0 none 0 0).toArray := by
    have := hm.set_ 1 (.int .i64 1); simpa using this
  have hk3 : Blk (wy.setCell ⟨w.heap.size + 1, 1, none⟩ (.int .i64 1)) w.heap.size 80 (vcells 0 0 0 0 ⟨#[]⟩ none 0 0 none 0 0).toArray := hk2.far hne2 _
  have hb3 : Below w.heap.size w (wy.setCell ⟨w.heap.size + 1, 1, none⟩ (.int .i64 1)) := hb2.setCell (by simp) _
  obtain ⟨i0, i1, i2, i3, i4, i5, i6⟩ := hm.seven
  have fi := fun i => hm.frozen i
  go_upto_region 10 with fail
  clear i0 i1 i2 i3 i4 i5 i6 fi
  generalize wy.setCell ⟨w.heap.size + 1, 1, none⟩ (.int .i64 1) = wz at hm3 hk3 hb3 ⊢
  obtain ⟨i0, i1, i2, i3, i4, i5, i6⟩ := hm3.seven
  obtain ⟨g0, g1, g2, g3, g4, g5, g6⟩ := (hk3).seven
  have fz := fun i => (hk3).frozen i
  obtain ⟨e0, _, _⟩ := (hk3).set7 (.int .u8 116) (.int .i64 1) (.float .f64 0) (.int .i64 0) (.string ⟨#[]⟩) (.slice none 0 0) (.slice none 0 0)
  have hpost := leaf_out (w := w) (w' := put7 (wz) w.heap.size (.int .u8 116) (.int .i64 1) (.float .f64 0) (.int .i64 0) (.string ⟨#[]⟩) (.slice none 0 0) (.slice none 0 0)) (k := 116) (n := 1) (f := 0) (s := 0) (t := ⟨#[]⟩) hv (res_put (z := #[]) (hk3) (hb3) _ _ _ _ _ _ _ rfl)
  have HPost := Lib.hid hpost
  obtain ⟨j0, j1, j2, j3, j4, j5, j6⟩ := e0.seven
  clear e0 hpost hv
  clear hm hm3 hk2 hk3 hb2 hb3
  go_wp2_with fail
  exact bodyPost_ret (v := .tuple #[.agg (vcells 116 1 0 0 ⟨#[]⟩ none 0 0 none 0 0).toArray, .bool true]) (by simp [results, Try.results43, go_sem, j0, j1, j2, j3, j4, j5, j6]) rfl HPost.out

set_option maxRecDepth 100000 in
set_option maxHeartbeats 4000000 in
theorem tl_68 (n : Int) (f : Nat) (s : Int) (t : ByteArray) (ks : Vs) (fs : Fs) (hn : (0 ≤ s ∧ s ≤ 255) ∧ -2147483648 ≤ n ∧ n ≤ 2147483647) (w : World) : Calls Try.prog 43 #[.iface 122 (.agg #[.int .u8 s, .int .i32 n])] w (TOut w (.mk 68 n f s t ks fs)) := by
  have hv : (V.mk 68 n f s t ks fs).nrm = .mk 68 n 0 s ⟨#[]⟩ .nil .nil := by simp [V.nrm]
  have hw := wrapi64 n (by omega)
  have hws := wrapi64 s (by omega)
  have hk : Blk (w.alloc (.cells (vcells 0 0 0 0 ⟨#[]⟩ none 0 0 none 0 0).toArray 80)) w.heap.size 80 (vcells 0 0 0 0 ⟨#[]⟩ none 0 0 none 0 0).toArray := Blk.new w 80 _
  have hb : Below w.heap.size w (w.alloc (.cells (vcells 0 0 0 0 ⟨#[]⟩ none 0 0 none 0 0).toArray 80)) := (Below.refl _ _).alloc (Nat.le_refl _) _
  have hs : (w.alloc (.cells (vcells 0 0 0 0 ⟨#[]⟩ none 0 0 none 0 0).toArray 80)).heap.size = w.heap.size + 1 := by simp
  go_enter Try.func43, Try.ntmps43
  go_upto_region 1 with fail
  generalize w.alloc (.cells (vcells 0 0 0 0 ⟨#[]⟩ none 0 0 none 0 0).toArray 80) = wx at hk hb hs ⊢
  have hm : Blk (wx.alloc (.cells #[.int .u8 s, .int .i32 n] 122)) (w.heap.size + 1) 122 #[.int .u8 s, .int .i32 n] := by
    have := Blk.new wx 122 #[.int .u8 s, .int .i32 n]; rwa [hs] at this
  have hk2 : Blk (wx.alloc (.cells #[.int .u8 s, .int .i32 n] 122)) w.heap.size 80 (vcells 0 0 0 0 ⟨#[]⟩ none 0 0 none 0 0).toArray := hk.alloc _
  have hb2 : Below w.heap.size w (wx.alloc (.cells #[.int .u8 s, .int .i32 n] 122)) := hb.alloc (by omega) _
  have hs2 : (wx.alloc (.cells #[.int .u8 s, .int .i32 n] 122)).heap.size = w.heap.size + 2 := by simp [hs]
  go_upto_region 40 with fail
  generalize wx.alloc (.cells #[.int .u8 s, .int .i32 n] 122) = wy at hm hk2 hb2 hs2 ⊢
  have m0 : wy.cell? ⟨w.heap.size + 1, 0, none⟩ = some (.int .u8 s) := by rw [hm.cell]; rfl
  have m1 : wy.cell? ⟨w.heap.size + 1, 1, none⟩ = some (.int .i32 n) := by rw [hm.cell]; rfl
  obtain ⟨g0, g1, g2, g3, g4, g5, g6⟩ := (hk2).seven
  have fz := fun i => (hk2).frozen i
  obtain ⟨e0, _, _⟩ := (hk2).set7 (.int .u8 68) (.int .i64 n) (.float .f64 0) (.int .i64 s) (.string ⟨#[]⟩) (.slice none 0 0) (.slice none 0 0)
  have hpost := leaf_out (w := w) (w' := put7 (wy) w.heap.size (.int .u8 68) (.int .i64 n) (.float .f64 0) (.int .i64 s) (.string ⟨#[]⟩) (.slice none 0 0) (.slice none 0 0)) (k := 68) (n := n) (f := 0) (s := s) (t := ⟨#[]⟩) hv (res_put (z := #[]) (hk2) (hb2) _ _ _ _ _ _ _ rfl)
  have HPost := Lib.hid hpost
  obtain ⟨j0, j1, j2, j3, j4, j5, j6⟩ := e0.seven
  clear e0 hpost hv
  clear hm hk2 hb2
  go_wp2_with fail
  exact bodyPost_ret (v := .tuple #[.agg (vcells 68 n 0 s ⟨#[]⟩ none 0 0 none 0 0).toArray, .bool true]) (by simp [results, Try.results43, go_sem, j0, j1, j2, j3, j4, j5, j6]) rfl HPost.out

set_option maxRecDepth 100000 in
set_option maxHeartbeats 4000000 in
theorem tl_84 (n : Int) (f : Nat) (s : Int) (t : ByteArray) (ks : Vs) (fs : Fs) (hn : 0 ≤ n ∧ n < 1099511627776) (w : World) : Calls Try.prog 43 #[.iface 125 (.agg #[.int .u64 0, .int .i64 (n + 62135596800), .pointer none])] w (TOut w (.mk 84 n f s t ks fs)) := by
  have hv : (V.mk 84 n f s t ks fs).nrm = .mk 84 n 0 0 ⟨#[]⟩ .nil .nil := by simp [V.nrm]
  have hk : Blk (w.alloc (.cells (vcells 0 0 0 0 ⟨#[]⟩ none 0 0 none 0 0).toArray 80)) w.heap.size 80 (vcells 0 0 0 0 ⟨#[]⟩ none 0 0 none 0 0).toArray := Blk.new w 80 _
  have hb : Below w.heap.size w (w.alloc (.cells (vcells 0 0 0 0 ⟨#[]⟩ none 0 0 none 0 0).toArray 80)) := (Below.refl _ _).alloc (Nat.le_refl _) _
  have hs : (w.alloc (.cells (vcells 0 0 0 0 ⟨#[]⟩ none 0 0 none 0 0).toArray 80)).heap.size = w.heap.size + 1 := by simp
  go_enter Try.func43, Try.ntmps43
  go_upto_region 1 with fail
  generalize w.alloc (.cells (vcells 0 0 0 0 ⟨#[]⟩ none 0 0 none 0 0).toArray 80) = wx at hk hb hs ⊢
  have hm : Blk (wx.alloc (.cells #[.int .u64 0, .int .i64 (n + 62135596800), .pointer none] 125)) (w.heap.size + 1) 125 #[.int .u64 0, .int .i64 (n + 62135596800), .pointer none] := by
    have := Blk.new wx 125 #[.int .u64 0, .int .i64 (n + 62135596800), .pointer none]; rwa [hs] at this
  have hk2 : Blk (wx.alloc (.cells #[.int .u64 0, .int .i64 (n + 62135596800), .pointer none] 125)) w.heap.size 80 (vcells 0 0 0 0 ⟨#[]⟩ none 0 0 none 0 0).toArray := hk.alloc _
  have hb2 : Below w.heap.size w (wx.alloc (.cells #[.int .u64 0, .int .i64 (n + 62135596800), .pointer none] 125)) := hb.alloc (by omega) _
  have hs2 : (wx.alloc (.cells #[.int .u64 0, .int .i64 (n + 62135596800), .pointer none] 125)).heap.size = w.heap.size + 2 := by simp [hs]
  go_upto_region 49 with fail
  generalize wx.alloc (.cells #[.int .u64 0, .int .i64 (n + 62135596800), .pointer none] 125) = wy at hm hk2 hb2 hs2 ⊢
  have m0 : wy.cell? ⟨w.heap.size + 1, 0, none⟩ = some (.int .u64 0) := by rw [hm.cell]; rfl
  have m1 : wy.cell? ⟨w.heap.size + 1, 1, none⟩ = some (.int .i64 (n + 62135596800)) := by rw [hm.cell]; rfl
  have m2 : wy.cell? ⟨w.heap.size + 1, 2, none⟩ = some (.pointer none) := by rw [hm.cell]; rfl
  have HU := Lib.hid (unix_any (w := wy) n hn.1 hn.2)
  have hk3 : Blk (wy.alloc (.cells (timeCells n) 125)) w.heap.size 80 (vcells 0 0 0 0 ⟨#[]⟩ none 0 0 none 0 0).toArray := hk2.alloc _
  have hb3 : Below w.heap.size w (wy.alloc (.cells (timeCells n) 125)) := hb2.alloc (by omega) _
  go_wp2_with fail
  refine HU.out.mono ?_
  rintro e w1 ⟨rfl, rfl⟩
  generalize wy.alloc (.cells (timeCells n) 125) = wz at hk3 hb3 ⊢
  clear m0 m1 m2 hm hk2 hb2
  obtain ⟨g0, g1, g2, g3, g4, g5, g6⟩ := (hk3).seven
  have fz := fun i => (hk3).frozen i
  obtain ⟨e0, _, _⟩ := (hk3).set7 (.int .u8 84) (.int .i64 n) (.float .f64 0) (.int .i64 0) (.string ⟨#[]⟩) (.slice none 0 0) (.slice none 0 0)
  have hpost := leaf_out (w := w) (w' := put7 (wz) w.heap.size (.int .u8 84) (.int .i64 n) (.float .f64 0) (.int .i64 0) (.string ⟨#[]⟩) (.slice none 0 0) (.slice none 0 0)) (k := 84) (n := n) (f := 0) (s := 0) (t := ⟨#[]⟩) hv (res_put (z := #[]) (hk3) (hb3) _ _ _ _ _ _ _ rfl)
  have HPost := Lib.hid hpost
  obtain ⟨j0, j1, j2, j3, j4, j5, j6⟩ := e0.seven
  clear e0 hpost hv
  clear hk3 hb3
  go_wp2_with fail
  exact bodyPost_ret (v := .tuple #[.agg (vcells 84 n 0 0 ⟨#[]⟩ none 0 0 none 0 0).toArray, .bool true]) (by simp [results, Try.results43, go_sem, j0, j1, j2, j3, j4, j5, j6]) rfl HPost.out

end Go.Proofs.Ytkcdakohmfodjaa
