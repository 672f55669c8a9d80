import Derived.Test.Qxb6601546aWalk
/-
  THE WALKS of the two laws on endLiteral.
-/
namespace Go.Proofs.Qxb6601546a.Lx
open Go.RowKit

theorem ret_bool {a b : Bool} (h : a = b) : Ending.returned (.bool a) = .returned (.bool b) := by rw [h]
theorem bytes11_yes (s : ByteArray) (i : Int) (w : World) (h : s.size ≤ 1048576) :
    Calls Try.prog 11 #[.string s, .int .i64 i] w fun e w' => e = .returned (.bool true) ∧ w' = w := by
  go_enter Try.func11, Try.ntmps11
  go_wp2
  go_ret
  exact ⟨rfl, rfl⟩
theorem bytes11_no (s : ByteArray) (i : Int) (w : World) (h : 1048576 < s.size) :
    Calls Try.prog 11 #[.string s, .int .i64 i] w fun e w' => e = .returned (.bool false) ∧ w' = w := by
  go_enter Try.func11, Try.ntmps11
  go_wp2
  go_ret
  exact ⟨rfl, rfl⟩
theorem bytes14_yes (s : ByteArray) (i j : Int) (w : World) (h : s.size ≤ 1048576) :
    Calls Try.prog 14 #[.string s, .int .i64 i, .int .i64 j] w fun e w' => e = .returned (.bool true) ∧ w' = w := by
  go_enter Try.func14, Try.ntmps14
  go_wp2
  go_ret
  exact ⟨rfl, rfl⟩
theorem bytes14_no (s : ByteArray) (i j : Int) (w : World) (h : 1048576 < s.size) :
    Calls Try.prog 14 #[.string s, .int .i64 i, .int .i64 j] w fun e w' => e = .returned (.bool false) ∧ w' = w := by
  go_enter Try.func14, Try.ntmps14
  go_wp2
  go_ret
  exact ⟨rfl, rfl⟩

set_option maxHeartbeats 1000000 in
theorem top5 (s : ByteArray) (p : Int) (w : World) : Calls Try.prog 5 #[.string s, .int .i64 p] w fun e w' => e = .returned (.bool true) ∧ Below w.heap.size w w' := by
  by_cases h1 : 1048576 < s.size
  · go_enter Try.func5, Try.ntmps5
    go_wp2_with fail
    refine (bytes11_no s p _ h1).mono ?_
    rintro e w1 ⟨rfl, hw⟩; cases hw.symm
    go_wp2_with fail
    go_ret
    exact ⟨rfl, Below.refl _ _⟩
  · by_cases h2 : p < 0
    · go_enter Try.func5, Try.ntmps5
      go_wp2_with fail
      refine (bytes11_yes s p _ (by omega)).mono ?_
      rintro e w1 ⟨rfl, hw⟩; cases hw.symm
      go_wp2_with fail
      go_ret
      exact ⟨rfl, Below.refl _ _⟩
    · by_cases h3 : (s.size : Int) < p
      · go_enter Try.func5, Try.ntmps5
        go_wp2_with fail
        refine (bytes11_yes s p _ (by omega)).mono ?_
        rintro e w1 ⟨rfl, hw⟩; cases hw.symm
        go_wp2_with fail
        go_ret
        exact ⟨rfl, Below.refl _ _⟩
      · obtain ⟨r, ok, hr⟩ : ∃ r ok, ans s.data.toList p.toNat = (r, ok) := ⟨_, _, rfl⟩
        have Hr : Hid (ans s.data.toList p.toNat = (r, ok)) := hr
        clear hr
        go_enter Try.func5, Try.ntmps5
        go_wp2_with fail
        refine (bytes11_yes s p _ (by omega)).mono ?_
        rintro e w1 ⟨rfl, hw⟩; cases hw.symm
        go_wp2_with fail
        refine (zel_any s p _ (by omega) (by omega) (by omega) r ok Hr).mono ?_
        rintro e w1 ⟨rfl, hb⟩
        go_wp2_with fail
        refine (model_any s p _ (by omega) (by omega) (by omega) r ok Hr).mono ?_
        rintro e w2 ⟨rfl, hw⟩; cases hw.symm
        have e1 : ((r : Int) == (r : Int)) = true := by simp
        go_wp2_with fail
        go_ret
        exact ⟨ret_bool (by simp), hb⟩

set_option maxHeartbeats 1000000 in
theorem top6_out (s : ByteArray) (p m : Int) (w : World) (h : 1048576 < s.size ∨ p < 0 ∨ m < p ∨ (s.size : Int) < m) :
    Calls Try.prog 6 #[.string s, .int .i64 p, .int .i64 m] w fun e w' => e = .returned (.bool true) ∧ w' = w := by
  by_cases h1 : 1048576 < s.size
  · clear h
    go_enter Try.func6, Try.ntmps6
    go_wp2_with fail
    refine (bytes14_no s p m _ h1).mono ?_
    rintro e w1 ⟨rfl, rfl⟩
    go_wp2_with fail
    go_ret
    exact ⟨rfl, rfl⟩
  · by_cases h2 : p < 0
    · clear h
      go_enter Try.func6, Try.ntmps6
      go_wp2_with fail
      refine (bytes14_yes s p m _ (by omega)).mono ?_
      rintro e w1 ⟨rfl, rfl⟩
      go_wp2_with fail
      go_ret
      exact ⟨rfl, rfl⟩
    · by_cases h3 : m < p
      · clear h
        go_enter Try.func6, Try.ntmps6
        go_wp2_with fail
        refine (bytes14_yes s p m _ (by omega)).mono ?_
        rintro e w1 ⟨rfl, rfl⟩
        go_wp2_with fail
        go_ret
        exact ⟨rfl, rfl⟩
      · have h4 : (s.size : Int) < m := by omega
        clear h
        go_enter Try.func6, Try.ntmps6
        go_wp2_with fail
        refine (bytes14_yes s p m _ (by omega)).mono ?_
        rintro e w1 ⟨rfl, rfl⟩
        go_wp2_with fail
        go_ret
        exact ⟨rfl, rfl⟩

theorem take_list (s : ByteArray) (m : Nat) (_hm : m ≤ s.size) : (s.extract 0 m).data.toList = s.data.toList.take m := by
  rw [show (s.extract 0 m).data.toList = (s.extract 0 m).toList from (Lib.toList_data _).symm, Lib.extract_toList]
  simp

set_option maxHeartbeats 1000000 in
theorem top6_in (s : ByteArray) (p m : Nat) (w : World) (hs : s.size ≤ 1048576) (hp : p ≤ m) (hm : m ≤ s.size) :
    Calls Try.prog 6 #[.string s, .int .i64 (p : Int), .int .i64 (m : Int)] w fun e w' => e = .returned (.bool true) ∧ Below w.heap.size w w' := by
  have hz : (s.extract 0 m).size = m := by simp [ByteArray.size_extract]; omega
  obtain ⟨r1, ok1, hr1⟩ : ∃ r ok, ans (s.data.toList.take m) p = (r, ok) := ⟨_, _, rfl⟩
  have H1 : Hid (ans (s.extract 0 m).data.toList (p : Int).toNat = (r1, ok1)) := by show _ = _; rw [take_list s m hm, Int.toNat_natCast]; exact hr1
  have Hz : Hid ((s.extract 0 m).size = m) := hz
  clear hz
  cases ok1 with
  | true =>
    clear hr1
    go_enter Try.func6, Try.ntmps6
    go_wp2_with fail
    refine (bytes14_yes s p m _ (by omega)).mono ?_
    rintro e w1 ⟨rfl, hw⟩; cases hw.symm
    go_wp2_with fail
    refine (zel_any (s.extract 0 m) p _ (by rw [Hz.out]; omega) (by omega) (by rw [Hz.out]; omega) r1 true H1).mono ?_
    rintro e w1 ⟨rfl, hb⟩
    go_wp2_with fail
    go_ret
    exact ⟨rfl, hb⟩
  | false =>
    have ⟨e1, e2⟩ := resume s.data.toList p m hp (by simpa using hm) (by rw [hr1])
    rw [hr1] at e1
    have e1' : r1 = m := e1
    subst e1'
    obtain ⟨r, ok, hr⟩ : ∃ r ok, ans s.data.toList p = (r, ok) := ⟨_, _, rfl⟩
    have H2 : Hid (ans s.data.toList (r1 : Int).toNat = (r, ok)) := by show _ = _; rw [Int.toNat_natCast, e2, hr]
    have H3 : Hid (ans s.data.toList (p : Int).toNat = (r, ok)) := by show _ = _; rw [Int.toNat_natCast, hr]
    clear hr hr1 e1 e2
    go_enter Try.func6, Try.ntmps6
    go_wp2_with fail
    refine (bytes14_yes s p r1 _ (by omega)).mono ?_
    rintro e w1 ⟨rfl, hw⟩; cases hw.symm
    go_wp2_with fail
    refine (zel_any (s.extract 0 r1) p _ (by rw [Hz.out]; omega) (by omega) (by rw [Hz.out]; omega) r1 false H1).mono ?_
    rintro e w1 ⟨rfl, hb1⟩
    go_wp2_with fail
    refine (zel_any s r1 _ (by omega) (by omega) (by omega) r ok H2).mono ?_
    rintro e w2 ⟨rfl, hb2⟩
    go_wp2_with fail
    refine (zel_any s p _ (by omega) (by omega) (by omega) r ok H3).mono ?_
    rintro e w3 ⟨rfl, hb3⟩
    have hb : Below w.heap.size w w3 := (hb1.trans (hb2.mono hb1.size)).trans (hb3.mono (Nat.le_trans hb1.size hb2.size))
    have e1 : ((r : Int) == (r : Int)) = true := by simp
    have e2 : ((r1 : Int) == (r1 : Int)) = true := by simp
    go_wp2_with fail
    go_ret
    exact ⟨ret_bool (by simp), hb⟩
end Go.Proofs.Qxb6601546a.Lx
