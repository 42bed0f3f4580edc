import Derived.Test.Qxb6602859aP8
namespace Go.Proofs.Qxb6602859a
open Go.RowKit Kit
set_option linter.unusedVariables false

/-- the code behind the first k statements -/
def dropS : Nat → Code → Code
  | k + 1, .seq _ b => dropS k b
  | _, c => c
def headS : Code → Code
  | .seq a _ => a
  | c => c
def restF (f : Func) (k : Nat) : Code := dropS k (f.body.getD .skip)
def itemF (f : Func) (k : Nat) : Code := headS (restF f k)

theorem rest7_0 : restF Try.f7 0 = (itemF Try.f7 0).seq (restF Try.f7 1) := rfl
theorem rest7_1 : restF Try.f7 1 = (itemF Try.f7 1).seq (restF Try.f7 2) := rfl
theorem rest7_2 : restF Try.f7 2 = (itemF Try.f7 2).seq (restF Try.f7 3) := rfl
theorem rest7_3 : restF Try.f7 3 = (itemF Try.f7 3).seq (restF Try.f7 4) := rfl
theorem rest7_4 : restF Try.f7 4 = (itemF Try.f7 4).seq (restF Try.f7 5) := rfl
theorem rest7_5 : restF Try.f7 5 = (itemF Try.f7 5).seq (restF Try.f7 6) := rfl
theorem rest7_6 : restF Try.f7 6 = (itemF Try.f7 6).seq (restF Try.f7 7) := rfl
theorem rest7_7 : restF Try.f7 7 = (itemF Try.f7 7).seq (restF Try.f7 8) := rfl
theorem rest7_8 : restF Try.f7 8 = (itemF Try.f7 8).seq (restF Try.f7 9) := rfl
theorem rest7_9 : restF Try.f7 9 = (itemF Try.f7 9).seq (restF Try.f7 10) := rfl
theorem rest7_10 : restF Try.f7 10 = (itemF Try.f7 10).seq (restF Try.f7 11) := rfl
theorem rest7_11 : restF Try.f7 11 = (itemF Try.f7 11).seq (restF Try.f7 12) := rfl
theorem rest7_12 : restF Try.f7 12 = (itemF Try.f7 12).seq (restF Try.f7 13) := rfl
theorem rest7_13 : restF Try.f7 13 = (itemF Try.f7 13).seq (restF Try.f7 14) := rfl
theorem rest7_14 : restF Try.f7 14 = (itemF Try.f7 14).seq (restF Try.f7 15) := rfl
theorem rest7_15 : restF Try.f7 15 = (itemF Try.f7 15).seq (restF Try.f7 16) := rfl
theorem rest7_16 : restF Try.f7 16 = (itemF Try.f7 16).seq (restF Try.f7 17) := rfl
theorem rest7_17 : restF Try.f7 17 = (itemF Try.f7 17).seq (restF Try.f7 18) := rfl
theorem rest7_18 : restF Try.f7 18 = (itemF Try.f7 18).seq (restF Try.f7 19) := rfl
theorem rest7_19 : restF Try.f7 19 = (itemF Try.f7 19).seq (restF Try.f7 20) := rfl
theorem rest7_20 : restF Try.f7 20 = (itemF Try.f7 20).seq (restF Try.f7 21) := rfl
theorem rest7_21 : restF Try.f7 21 = (itemF Try.f7 21).seq (restF Try.f7 22) := rfl
theorem rest7_22 : restF Try.f7 22 = (itemF Try.f7 22).seq (restF Try.f7 23) := rfl
theorem rest7_23 : restF Try.f7 23 = (itemF Try.f7 23).seq (restF Try.f7 24) := rfl
theorem rest7_24 : restF Try.f7 24 = (itemF Try.f7 24).seq (restF Try.f7 25) := rfl
theorem rest7_25 : restF Try.f7 25 = (itemF Try.f7 25).seq (restF Try.f7 26) := rfl
theorem rest7_26 : restF Try.f7 26 = (itemF Try.f7 26).seq (restF Try.f7 27) := rfl
theorem rest7_27 : restF Try.f7 27 = (itemF Try.f7 27).seq (restF Try.f7 28) := rfl
theorem rest7_28 : restF Try.f7 28 = (itemF Try.f7 28).seq (restF Try.f7 29) := rfl
theorem rest7_29 : restF Try.f7 29 = (itemF Try.f7 29).seq (restF Try.f7 30) := rfl
theorem rest7_30 : restF Try.f7 30 = (itemF Try.f7 30).seq (restF Try.f7 31) := rfl
theorem rest7_31 : restF Try.f7 31 = (itemF Try.f7 31).seq (restF Try.f7 32) := rfl
theorem rest7_32 : restF Try.f7 32 = (itemF Try.f7 32).seq (restF Try.f7 33) := rfl
theorem rest7_33 : restF Try.f7 33 = (itemF Try.f7 33).seq (restF Try.f7 34) := rfl
theorem rest7_34 : restF Try.f7 34 = (itemF Try.f7 34).seq (restF Try.f7 35) := rfl
theorem rest7_35 : restF Try.f7 35 = (itemF Try.f7 35).seq (restF Try.f7 36) := rfl
theorem rest7_36 : restF Try.f7 36 = (itemF Try.f7 36).seq (restF Try.f7 37) := rfl
theorem rest7_37 : restF Try.f7 37 = (itemF Try.f7 37).seq (restF Try.f7 38) := rfl

theorem Try.info4 : (Try.prog.info? 4).map (fun i => (i.zero, i.size, i.bytes)) = some (some (.bool false), 1, 1) := by kernel_rfl

end Go.Proofs.Qxb6602859a
