/- The decoder's lengths. -/
import Derived.Test.YbulkacdsFmtDecode2
set_option linter.unusedVariables false
set_option linter.unusedSimpArgs false
namespace Go.Proofs.YbulkacdsFmt
open Go.RowKit Go.Extern.Stop Go.Stop Go.Extern

theorem or64 (x y : Nat) (hx : x < 65536) (hy : y < 256) : bits .or .i64 ((x : Int) * 256) (y : Int) = ((x * 256 + y : Nat) : Int) := by
  have h1 : x * 256 ||| y = x * 256 + y := by
    have := Nat.shiftLeft_add_eq_or_of_lt (b := y) (i := 8) (by omega) x
    rw [Nat.shiftLeft_eq] at this
    exact this.symm
  have e1 : (x : Int) * 256 = ((x * 256 : Nat) : Int) := by omega
  rw [e1]
  show IntKind.i64.wrap ((BitVec.ofInt 64 ((x * 256 : Nat) : Int) ||| BitVec.ofInt 64 (y : Int)).toNat : Int) = _
  rw [BitVec.toNat_or, BitVec.toNat_ofInt, BitVec.toNat_ofInt]
  have e2 : (((x * 256 : Nat) : Int) % ((2 ^ 64 : Nat) : Int)).toNat = x * 256 := by omega
  have e3 : ((y : Int) % ((2 ^ 64 : Nat) : Int)).toNat = y := by omega
  rw [e2, e3, h1, IntKind.wrap_i64]
  omega
theorem or64_0 (y : Nat) (hy : y < 256) : bits .or .i64 0 (y : Int) = (y : Int) := by
  have := or64 0 y (by omega) hy
  simpa using this

theorem hdr1 (m : Nat) : hdr m 1 = [.int .u8 ((m % 256 : Nat) : Int)] := by simp [hdr, hb, List.range_succ]
theorem hdr2 (m : Nat) : hdr m 2 = [.int .u8 ((m / 256 % 256 : Nat) : Int), .int .u8 ((m % 256 : Nat) : Int)] := by simp [hdr, hb, List.range_succ]

set_option maxHeartbeats 800000 in
theorem rd_len1 (w : World) (db g m : Nat) (ys : List Value) (hm : m < 256) (D : Dc w db g (hdr m 1 ++ ys)) :
    Calls Ybaf.prog 30 #[.pointer (some ⟨db, 0, none⟩), .int .i64 1] w fun e w' => e = .returned (.int .i64 m) ∧ Dc w' db g ys ∧ Only [db] w w' := by
  have HC : Hid _ := take_any w db g (hdr m 1 ++ ys) 1 D (by simp [hdr_length])
  clear D
  go_enter Ybaf.func30, Ybaf.ntmps30
  go_wp2_with fail
  refine Calls.mono HC.out ?_
  rintro e w1 ⟨⟨o, rfl, hr⟩, D1, O1⟩
  rw [hdr1] at hr D1
  have c0 : w1.cell? ⟨g, o, none⟩ = some (.int .u8 ((m % 256 : Nat) : Int)) := by simpa using hr 0 (by simp)
  rw [Nat.mod_eq_of_lt hm] at c0
  have D2 : Dc w1 db g ys := by simpa using D1
  have HE : Hid _ := And.intro D2 O1
  have o1 := or64_0 m hm
  clear HC D1 O1 hr D2
  go_wp2_with fail
  go_loop [5, 12] (fun x i => (i = .int .i64 0 ∧ x = .int .i64 0) ∨ (i = .int .i64 1 ∧ x = .int .i64 m)) (fun _ i => 1 - (intOf i).toNat)
  case atStart => exact .inl ⟨rfl, rfl⟩
  case round =>
    rcases hrel with ⟨rfl, rfl⟩ | ⟨rfl, rfl⟩
    · go_wp2
      exact ⟨.inr ⟨rfl, rfl⟩, by decide⟩
    · go_wp2
      go_ret
      exact ⟨rfl, HE.out.1, HE.out.2⟩

set_option maxHeartbeats 800000 in
theorem rd_len2 (w : World) (db g m : Nat) (ys : List Value) (hm : m < 65536) (D : Dc w db g (hdr m 2 ++ ys)) :
    Calls Ybaf.prog 30 #[.pointer (some ⟨db, 0, none⟩), .int .i64 2] w fun e w' => e = .returned (.int .i64 m) ∧ Dc w' db g ys ∧ Only [db] w w' := by
  have HC : Hid _ := take_any w db g (hdr m 2 ++ ys) 2 D (by simp [hdr_length])
  clear D
  go_enter Ybaf.func30, Ybaf.ntmps30
  go_wp2_with fail
  refine Calls.mono HC.out ?_
  rintro e w1 ⟨⟨o, rfl, hr⟩, D1, O1⟩
  rw [hdr2] at hr D1
  obtain ⟨p, hp⟩ : ∃ p, p = m / 256 := ⟨_, rfl⟩
  obtain ⟨q, hq⟩ : ∃ q, q = m % 256 := ⟨_, rfl⟩
  have hp' : m / 256 % 256 = p := by omega
  have c0 : w1.cell? ⟨g, o, none⟩ = some (.int .u8 (p : Int)) := by
    have := hr 0 (by simp)
    rw [hp'] at this
    simpa using this
  have c1 : w1.cell? ⟨g, o + 1, none⟩ = some (.int .u8 (q : Int)) := by
    have := hr 1 (by simp)
    rw [← hq] at this
    simpa using this
  have D2 : Dc w1 db g ys := by simpa using D1
  have HE : Hid _ := And.intro D2 O1
  have o1 := or64_0 p (by omega)
  have o2 := or64 p q (by omega) (by omega)
  have o3 : p * 256 + q = m := by omega
  rw [o3] at o2
  have hpl : p < 256 := by omega
  have hql : q < 256 := by omega
  clear HC D1 O1 hr D2 hp hq hp' o3
  go_wp2_with fail
  go_loop [5, 12] (fun x i => (i = .int .i64 0 ∧ x = .int .i64 0) ∨ (i = .int .i64 1 ∧ x = .int .i64 p) ∨ (i = .int .i64 2 ∧ x = .int .i64 m)) (fun _ i => 2 - (intOf i).toNat)
  case atStart => exact .inl ⟨rfl, rfl⟩
  case round =>
    rcases hrel with ⟨rfl, rfl⟩ | ⟨rfl, rfl⟩ | ⟨rfl, rfl⟩
    · go_wp2
      exact ⟨.inr (.inl ⟨rfl, rfl⟩), by decide⟩
    · go_wp2
      exact ⟨.inr (.inr ⟨rfl, rfl⟩), by decide⟩
    · go_wp2
      go_ret
      exact ⟨rfl, HE.out.1, HE.out.2⟩

theorem take_app {xs ys : List Value} {n : Nat} (h : xs.length = n) : (xs ++ ys).take n = xs ∧ (xs ++ ys).drop n = ys := by
  subst h
  exact ⟨List.take_left, List.drop_left⟩

set_option maxHeartbeats 800000 in
theorem rd_block (w : World) (db g m : Nat) (bs ys : List Value) (hm : m < 65536) (hb : bs.length = m) (D : Dc w db g (hdr m 2 ++ (bs ++ ys))) :
    Calls Ybaf.prog 18 #[.pointer (some ⟨db, 0, none⟩), .int .i64 2] w fun e w' => ∃ d2, e = .returned (.pointer (some ⟨d2, 0, none⟩)) ∧ w.heap.size ≤ d2 ∧ Dc w' d2 g bs ∧ Dc w' db g ys ∧ Only [db] w w' := by
  have HC : Hid _ := rd_len2 w db g m _ hm D
  clear D
  go_enter Ybaf.func18, Ybaf.ntmps18
  go_wp2_with fail
  refine Calls.mono HC.out ?_
  rintro e w1 ⟨rfl, D1, O1⟩
  have HC2 : Hid _ := rd_sub w1 db g m _ D1 (by rw [List.length_append]; omega) (by simp only [maxLen]; omega)
  have HS : Hid _ := O1
  clear HC D1 O1
  go_wp2_with fail
  refine Calls.mono HC2.out ?_
  rintro e w2 ⟨d2, rfl, hd2, D2, D3, O2⟩
  rw [(take_app hb).1] at D2
  rw [(take_app hb).2] at D3
  have HE : Hid _ := And.intro (Nat.le_trans HS.out.size hd2) (And.intro D2 (And.intro D3 (HS.out.trans O2)))
  clear HC2 D2 D3 O2 HS hd2
  go_wp2
  go_ret
  exact ⟨d2, rfl, HE.out.1, HE.out.2.1, HE.out.2.2.1, HE.out.2.2.2⟩

/-- A slice that a decoder has handed out. -/
structure Out (w : World) (g : Nat) (v : Value) (bs : List Value) : Prop where
  ex : ∃ o, v = .slice (some ⟨g, o, none⟩) bs.length bs.length ∧ Rd w g o bs
  row : ∃ cur, w.heap[g]? = some (.cells cur 5 (0, 0))
theorem Out.keep {w w' : World} {g : Nat} {v : Value} {bs : List Value} {L : List Nat} (D : Out w g v bs) (h : Only L w w') (h2 : g ∉ L) : Out w' g v bs := by
  obtain ⟨o, hv, hr⟩ := D.ex
  obtain ⟨cur, hg⟩ := D.row
  exact ⟨⟨o, hv, hr.same ((h.at h2 hg).trans hg.symm)⟩, cur, h.at h2 hg⟩

set_option maxHeartbeats 800000 in
theorem rd_opq1 (w : World) (db g m : Nat) (bs ys : List Value) (hm : m < 256) (hb : bs.length = m) (D : Dc w db g (hdr m 1 ++ (bs ++ ys))) :
    Calls Ybaf.prog 23 #[.pointer (some ⟨db, 0, none⟩), .int .i64 1] w fun e w' => ∃ v, e = .returned v ∧ Out w' g v bs ∧ Dc w' db g ys ∧ Only [db] w w' := by
  have HC : Hid _ := rd_len1 w db g m _ hm D
  clear D
  go_enter Ybaf.func23, Ybaf.ntmps23
  go_wp2_with fail
  refine Calls.mono HC.out ?_
  rintro e w1 ⟨rfl, D1, O1⟩
  have HC2 : Hid _ := take_any w1 db g _ m D1 (by rw [List.length_append]; omega)
  have HS : Hid _ := O1
  clear HC D1 O1
  go_wp2_with fail
  refine Calls.mono HC2.out ?_
  rintro e w2 ⟨⟨o, rfl, hr⟩, D3, O2⟩
  rw [(take_app hb).1] at hr
  rw [(take_app hb).2] at D3
  have hO : Out w2 g (.slice (some ⟨g, o, none⟩) m m) bs := ⟨⟨o, by rw [hb], hr⟩, D3.row⟩
  have HE : Hid _ := And.intro hO (And.intro D3 (HS.out.trans O2))
  clear HC2 hr D3 O2 HS hO
  go_wp2
  go_ret
  exact ⟨_, rfl, HE.out.1, HE.out.2.1, HE.out.2.2⟩

set_option maxHeartbeats 800000 in
theorem rd_opq2 (w : World) (db g m : Nat) (bs ys : List Value) (hm : m < 65536) (hb : bs.length = m) (D : Dc w db g (hdr m 2 ++ (bs ++ ys))) :
    Calls Ybaf.prog 23 #[.pointer (some ⟨db, 0, none⟩), .int .i64 2] w fun e w' => ∃ v, e = .returned v ∧ Out w' g v bs ∧ Dc w' db g ys ∧ Only [db] w w' := by
  have HC : Hid _ := rd_len2 w db g m _ hm D
  clear D
  go_enter Ybaf.func23, Ybaf.ntmps23
  go_wp2_with fail
  refine Calls.mono HC.out ?_
  rintro e w1 ⟨rfl, D1, O1⟩
  have HC2 : Hid _ := take_any w1 db g _ m D1 (by rw [List.length_append]; omega)
  have HS : Hid _ := O1
  clear HC D1 O1
  go_wp2_with fail
  refine Calls.mono HC2.out ?_
  rintro e w2 ⟨⟨o, rfl, hr⟩, D3, O2⟩
  rw [(take_app hb).1] at hr
  rw [(take_app hb).2] at D3
  have hO : Out w2 g (.slice (some ⟨g, o, none⟩) m m) bs := ⟨⟨o, by rw [hb], hr⟩, D3.row⟩
  have HE : Hid _ := And.intro hO (And.intro D3 (HS.out.trans O2))
  clear HC2 hr D3 O2 HS hO
  go_wp2
  go_ret
  exact ⟨_, rfl, HE.out.1, HE.out.2.1, HE.out.2.2⟩
end Go.Proofs.YbulkacdsFmt
