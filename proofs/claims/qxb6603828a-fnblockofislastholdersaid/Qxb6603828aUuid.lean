/-
  A UUID as a value; equality of two; a map keyed by them: what an update and a look-up do.
-/
import Derived.Test.Qxb6603828aProg
import Derived.WalkKit
import Derived.WalkLawsBesides
import Derived.MapKept
namespace Go.Proofs.Qxb6603828a
open Go.RowKit

/-- Value, Origin, Kind. -/
structure Key where
  v : Int
  o : Int
  k : Int
def Key.same (a b : Key) : Bool := a.v == b.v && (a.o == b.o && a.k == b.k)
theorem Key.same_iff {a b : Key} : a.same b = true ↔ a = b := by
  cases a; cases b
  simp [Key.same]
theorem Key.same_self (a : Key) : a.same a = true := Key.same_iff.2 rfl
theorem Key.same_ne {a b : Key} (h : a ≠ b) : a.same b = false := by
  cases hs : a.same b with
  | false => rfl
  | true => exact absurd (Key.same_iff.1 hs) h
theorem Key.same_comm (a b : Key) : a.same b = b.same a := by
  cases h : a.same b with
  | true => rw [Key.same_iff.1 h, Key.same_self]
  | false =>
    cases h2 : b.same a with
    | false => rfl
    | true => rw [Key.same_iff.1 h2, Key.same_self] at h; cases h

def U (a : Key) : Value := .agg #[.int .u64 a.v, .int .u64 a.o, .int .u8 a.k]

theorem stood41 : Try.prog.stoodInHeld 41 = false := by kernel_rfl
theorem fields41 : Try.prog.underlying 41 = some (.struct (Try.prog.fieldsOf 41)) := by kernel_rfl

theorem run_equalIn_uuid (d : Nat) (a b : Key) (w : World) : (Op.equalIn (d + 2) 41 (U a) (U b)).run Try.prog w = .ok (a.same b) w := by
  unfold U
  rw [run_equalIn_struct w (d + 1) 41 _ _ fields41 stood41]
  have hf : (Try.prog.fieldsOf 41).toList = [{ name := "Value", type := 34, offset := 0, embedded := false, tag := "", pkgPath := "", byteOffset := 0 },
        { name := "Origin", type := 34, offset := 1, embedded := false, tag := "", pkgPath := "", byteOffset := 8 },
        { name := "Kind", type := 39, offset := 2, embedded := false, tag := "", pkgPath := "", byteOffset := 16 }] := by
    simp [Program.fieldsOf, Try.underlying41]
  rw [hf]
  simp [Op.eqFields, part, run_equalIn_int w d 34 .u64 .u64 _ _ Try.underlying34, run_equalIn_int w d 39 .u8 .u8 _ _ Try.underlying39, Key.same]
  by_cases h1 : a.v = b.v <;> by_cases h2 : a.o = b.o <;> by_cases h3 : a.k = b.k <;> simp [h1, h2, h3]

theorem run_equal_uuid (a b : Key) (w : World) : (Op.equal 41 (U a) (U b)).run Try.prog w = .ok (a.same b) w := run_equalIn_uuid 9998 a b w
theorem run_eql_uuid (a b : Key) (w : World) : (binOp .eql 41 (U a) (U b)).run Try.prog w = .ok (.bool (a.same b)) w := by
  have h := run_equal_uuid a b w
  unfold U at *
  simp only [binOp]
  simp [h]
theorem run_neq_uuid (a b : Key) (w : World) : (binOp .neq 41 (U a) (U b)).run Try.prog w = .ok (.bool (!a.same b)) w := by
  have h := run_equal_uuid a b w
  unfold U at *
  simp only [binOp]
  simp [h]
end Go.Proofs.Qxb6603828a
