/-
  THE WALKS: recordName (9), partialName (7), ZZpartialName (5), recordNumber (8), ZZrecordNumber (6), the law (3).
-/
import Derived.Test.Qxb6612893aFmtText
import Derived.Test.Qxb6612893aFmtShelf
namespace Go.Proofs.Qxb6612893aFmt
open Go.RowKit Go.Extern.Stop Go.Stop Go.Extern

set_option maxHeartbeats 400000 in
theorem recordName_open (F : Interp) (n : Int) (w : World) (hF : F.answers w.tape) :
    Calls Tryf.prog 9 #[.int .i64 n] w fun e w' => e = .returned (.string (FmtStop.textOf (F "fmt.Sprintf" (reading n) 0))) ∧ Below w.heap.size w w' := by
  have hF' := answers_open hF
  have h1 := call12
  have h2 := guardOk
  have h3 := fmtR
  have h4 := fmtRr
  have h5 := op3
  go_enter Tryf.func9, Tryf.ntmps9
  go_wp2
  go_ret
  exact ⟨rfl, ((Below.refl _ _).alloc (Nat.le_refl _) _).drew⟩

/-- The nine bytes that open the name of a file being written. -/
def pre : List UInt8 := [46, 112, 97, 114, 116, 105, 97, 108, 45]

theorem recordName_told (F : Interp) (n : Int) (w : World) (hF : F.told.answers w.tape) (hw : (Lit.int .i64 n).wf = true) :
    Calls Tryf.prog 9 #[.int .i64 n] w fun e w' => e = .returned (.string ⟨(recB n).toArray⟩) ∧ Below w.heap.size w w' := by
  have h := recordName_open F.told n w hF
  rw [told F n hw] at h
  exact h

theorem bytes_append (a l : List UInt8) : (⟨a.toArray⟩ : ByteArray) ++ ⟨l.toArray⟩ = ⟨(a ++ l).toArray⟩ := by
  apply ByteArray.ext
  simp

set_option maxHeartbeats 400000 in
theorem partialName_told (F : Interp) (n : Int) (w : World) (hF : F.told.answers w.tape) (hw : (Lit.int .i64 n).wf = true) :
    Calls Tryf.prog 7 #[.int .i64 n] w fun e w' => e = .returned (.string ⟨(pre ++ recB n).toArray⟩) ∧ Below w.heap.size w w' := by
  have hl : (recB n).length ≤ 40 := by have := FmtText.zeros_length_le' 8 hw; simp [recB, recEnd]; omega
  have hc := recordName_told F n w hF hw
  generalize recB n = l at *
  go_enter Tryf.func7, Tryf.ntmps7
  go_wp2_with fail
  refine hc.mono ?_
  rintro e w1 ⟨rfl, hb⟩
  go_wp2
  go_ret
  exact ⟨congrArg (fun b => Ending.returned (.string b)) (bytes_append _ _), hb⟩

set_option maxHeartbeats 400000 in
theorem zpartialName_told (F : Interp) (n : Int) (w : World) (hF : F.told.answers w.tape) (hw : (Lit.int .i64 n).wf = true) :
    Calls Tryf.prog 5 #[.int .i64 n] w fun e w' => e = .returned (.string ⟨(pre ++ recB n).toArray⟩) ∧ Below w.heap.size w w' := by
  have hc := partialName_told F n w hF hw
  generalize pre ++ recB n = l at *
  go_enter Tryf.func5, Tryf.ntmps5
  go_wp2_with fail
  refine hc.mono ?_
  rintro e w1 ⟨rfl, hb⟩
  go_wp2
  go_ret
  exact ⟨rfl, hb⟩

theorem cut_rec (n : Int) (w : World) (hw : (Lit.int .i64 n).wf = true) :
    Calls Tryf.prog 10 #[.string ⟨(recB n).toArray⟩, .string ⟨#[46, 114, 101, 99, 111, 114, 100]⟩] w fun e w' => e = .returned (.tuple #[.string ⟨(FmtText.zeros 8 n).toArray⟩, .bool true]) ∧ w' = w := by
  have hl : (recB n).length ≤ 40 := by have := FmtText.zeros_length_le' 8 hw; simp [recB, recEnd]; omega
  have h := Tryf.strings_CutSuffix ⟨(recB n).toArray⟩ ⟨#[46, 114, 101, 99, 111, 114, 100]⟩ w (by rw [Lib.size_eq]; simp; omega)
  have e1 : (⟨(recB n).toArray⟩ : ByteArray).data.toList = recB n := by simp
  have e2 : (⟨#[46, 114, 101, 99, 111, 114, 100]⟩ : ByteArray).data.toList = recEnd := rfl
  rw [e1, e2, recB_trim, recB_has] at h
  exact h

theorem atoi_rec (n : Int) (w : World) (hw : (Lit.int .i64 n).wf = true) :
    Calls Tryf.prog 11 #[.string ⟨(FmtText.zeros 8 n).toArray⟩] w fun e w' => e = .returned (.tuple #[.int .i64 n, .nilIface]) ∧ Below w.heap.size w w' := by
  have hl := FmtText.zeros_length_le' 8 hw
  have hb := FmtText.int_bounds64 hw
  have e1 : (⟨(FmtText.zeros 8 n).toArray⟩ : ByteArray).data.toList = FmtText.zeros 8 n := by simp
  refine (Tryf.strconv_Atoi_ok ⟨(FmtText.zeros 8 n).toArray⟩ (by rw [Lib.size_eq]; simp; omega) n (by rw [e1]; exact atoi_zeros 8 n (by omega) (by have := hb.2.2.1 rfl; omega)) w).mono ?_
  rintro e w' ⟨rfl, rfl | ⟨t, rfl⟩⟩
  · exact ⟨rfl, Below.refl _ _⟩
  · exact ⟨rfl, Lib.bytesWorld_below _ _ _⟩

set_option maxHeartbeats 800000 in
theorem recordNumber_told (F : Interp) (n : Int) (w : World) (hF : F.told.answers w.tape) (hw : (Lit.int .i64 n).wf = true) :
    Calls Tryf.prog 8 #[.string ⟨(recB n).toArray⟩] w fun e w' => e = .returned (.tuple #[.int .i64 n, .bool (decide (0 < n))]) ∧ Below w.heap.size w w' := by
  have hcut := fun w => cut_rec n w hw
  have hat := fun w => atoi_rec n w hw
  have hrec := fun w hF => recordName_told F n w hF hw
  generalize FmtText.zeros 8 n = z at *
  generalize recB n = l at *
  by_cases hn : 0 < n
  · have hd : decide (0 < n) = true := by simpa using hn
    go_enter Tryf.func8, Tryf.ntmps8
    go_wp2_with fail
    refine (hcut _).mono ?_
    rintro e w1 ⟨rfl, rfl⟩
    go_wp2_with fail
    refine (hat _).mono ?_
    rintro e w1 ⟨rfl, hb1⟩
    go_wp2_with fail
    refine (hrec _ (by rw [hb1.tape]; exact hF)).mono ?_
    rintro e w2 ⟨rfl, hb2⟩
    go_wp2
    go_ret2
    exact ⟨by rw [hd]; rfl, hb1.trans (hb2.mono hb1.size)⟩
  · have hd : decide (0 < n) = false := by simpa using hn
    go_enter Tryf.func8, Tryf.ntmps8
    go_wp2_with fail
    refine (hcut _).mono ?_
    rintro e w1 ⟨rfl, rfl⟩
    go_wp2_with fail
    refine (hat _).mono ?_
    rintro e w1 ⟨rfl, hb1⟩
    go_wp2
    go_ret2
    exact ⟨by rw [hd]; rfl, hb1⟩

set_option maxHeartbeats 800000 in
theorem zrecordNumber_told (F : Interp) (n : Int) (w : World) (hF : F.told.answers w.tape) (hw : (Lit.int .i64 n).wf = true) :
    Calls Tryf.prog 6 #[.string ⟨(recB n).toArray⟩] w fun e w' => e = .returned (.tuple #[.int .i64 n, .bool (decide (0 < n))]) ∧ Below w.heap.size w w' := by
  have hc := recordNumber_told F n w hF hw
  generalize recB n = l at *
  generalize decide (0 < n) = r at *
  go_enter Tryf.func6, Tryf.ntmps6
  go_wp2_with fail
  refine hc.mono ?_
  rintro e w1 ⟨rfl, hb1⟩
  go_wp2
  go_ret2
  exact ⟨rfl, hb1⟩

set_option maxHeartbeats 800000 in
theorem law_told (F : Interp) (n : Int) (w : World) (hF : F.told.answers w.tape) (hw : (Lit.int .i64 n).wf = true) :
    Calls Tryf.prog 3 #[.int .i64 n] w fun e w' => e = .returned (.bool true) ∧ Below w.heap.size w w' := by
  have hl : (recB n).length ≤ 40 := by have := FmtText.zeros_length_le' 8 hw; simp [recB, recEnd]; omega
  have hp := zpartialName_told F n w hF hw
  have hr := fun w hF => zrecordNumber_told F n w hF hw
  generalize recB n = l at *
  have s1 : (⟨(pre ++ l).toArray⟩ : ByteArray).size = 9 + l.length := by rw [Lib.size_eq]; simp [pre]; omega
  have s2 : (⟨(pre ++ l).toArray⟩ : ByteArray).extract 0 9 = ⟨#[46, 112, 97, 114, 116, 105, 97, 108, 45]⟩ := by
    apply ByteArray.ext
    simp [pre]
  have s3 : (⟨(pre ++ l).toArray⟩ : ByteArray).extract 9 (9 + l.length) = ⟨l.toArray⟩ := by
    apply ByteArray.ext
    simp [pre]
  generalize (⟨(pre ++ l).toArray⟩ : ByteArray) = p at *
  go_enter Tryf.func3, Tryf.ntmps3
  go_wp2_with fail
  refine hp.mono ?_
  rintro e w1 ⟨rfl, hb1⟩
  go_wp2_with fail
  refine (hr _ (by rw [hb1.tape]; exact hF)).mono ?_
  rintro e w2 ⟨rfl, hb2⟩
  go_wp2
  go_ret
  exact ⟨rfl, hb1.trans (hb2.mono hb1.size)⟩

end Go.Proofs.Qxb6612893aFmt
