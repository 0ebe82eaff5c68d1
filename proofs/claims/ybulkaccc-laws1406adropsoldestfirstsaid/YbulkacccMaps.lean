/- Maps whose elements lead to memory: what a map holds, as a relation; look-up, store of a new key, delete, len. -/
import Derived.Test.YbulkacccHeap
import Derived.DeepKeys4
import Derived.StringKeys
set_option linter.unusedVariables false
set_option linter.unusedSimpArgs false
namespace Go.Proofs.Ybulkaccc
open Go.RowKit Go.WideMaps Go.MapKept

/-- Block m is a map with keys of type kt; at y lies u where R y u. -/
def KMap (w : World) (kt : TypeId) (m : Nat) (R : Value → Value → Prop) : Prop :=
  ∃ es clock, w.heap[m]? = some (.map es clock) ∧ (∀ e ∈ es.toList, ∃ l, keyOf Yba.prog kt e.key = some l) ∧ (es.toList.map (·.key)).Nodup ∧ ∀ y u, R y u ↔ ∃ e ∈ es.toList, e.key = y ∧ e.val = u

theorem KMap.lt {w : World} {kt : TypeId} {m : Nat} {R : Value → Value → Prop} (h : KMap w kt m R) : m < w.heap.size := by
  obtain ⟨es, c, h1, _⟩ := h
  exact lt_of_block h1
theorem KMap.congr {w : World} {kt : TypeId} {m : Nat} {R R' : Value → Value → Prop} (h : KMap w kt m R) (e : ∀ y u, R' y u ↔ R y u) : KMap w kt m R' := by
  obtain ⟨es, c, h1, h2, h3, h4⟩ := h
  exact ⟨es, c, h1, h2, h3, fun y u => (e y u).trans (h4 y u)⟩
theorem KMap.keep {T : List TypeId} {M : List Nat} {B : Nat} {w w' : World} {kt : TypeId} {m : Nat} {R : Value → Value → Prop} (h : KMap w kt m R) (k : Kept T M B w w') (hm : m ∉ M) : KMap w' kt m R := by
  obtain ⟨es, c, h1, h2⟩ := h
  exact ⟨es, c, k.maps _ _ _ hm h1, h2⟩
theorem KMap.drewN {w : World} {kt : TypeId} {m : Nat} {R : Value → Value → Prop} (h : KMap w kt m R) (n : Nat) : KMap (w.drewN n) kt m R := by
  obtain ⟨es, c, h1, h2⟩ := h
  exact ⟨es, c, (get_drewN _ _ _).trans h1, h2⟩
theorem KMap.made (w : World) (kt : TypeId) (m c : Nat) (h : w.heap[m]? = some (.map #[] c)) : KMap w kt m (fun _ _ => False) := ⟨_, _, h, by simp, by simp, by simp⟩
theorem KMap.neAt {w : World} {kt : TypeId} {m b : Nat} {R : Value → Value → Prop} {cs : Array Value} {t : TypeId} (h : KMap w kt m R) (a : At w b cs t) : b ≠ m := by
  obtain ⟨es, c, h1, _⟩ := h
  exact a.neMap h1

theorem same_of_keys : ∀ {l : List MapEntry}, (l.map (·.key)).Nodup → ∀ {a b : MapEntry}, a ∈ l → b ∈ l → a.key = b.key → a = b
  | [], _, a, b, ha, _, _ => by cases ha
  | e :: l, h, a, b, ha, hb, hk => by
    simp only [List.map_cons, List.nodup_cons, List.mem_map, not_exists, not_and] at h
    rcases List.mem_cons.1 ha with ea | ma
    · rcases List.mem_cons.1 hb with eb | mb
      · rw [ea, eb]
      · exact absurd (hk.symm.trans (by rw [ea])) (h.1 b mb)
    · rcases List.mem_cons.1 hb with eb | mb
      · exact absurd (hk.trans (by rw [eb])) (h.1 a ma)
      · exact same_of_keys h.2 ma mb hk

section
variable {w : World} {kt mt et : TypeId} {m : Nat} {R : Value → Value → Prop} {x : Value} {l : Lit}

theorem KMap.hit (h : KMap w kt m R) (K : KeyLaw Yba.prog kt) (hu : Yba.prog.underlying mt = some (.map kt et)) (hx : keyOf Yba.prog kt x = some l) {v : Value} (hr : R x v) :
    (Instr.lookup mt (.map (some m)) x false).run Yba.prog w = .ok v w := by
  obtain ⟨es, c, h1, h2, h3, h4⟩ := h
  obtain ⟨e0, m0, k0, v0⟩ := (h4 x v).1 hr
  rcases K.find w hx es.toList h2 with ⟨a1, a2⟩ | ⟨j, e, a1, a2, a3⟩
  · exact absurd k0 (a2 e0 m0)
  · have he : e ∈ es.toList := List.mem_of_getElem? a2
    have ee := same_of_keys h3 he m0 (a3.trans k0.symm)
    subst ee
    subst v0
    simp [Instr.lookup, run_underlying hu, MapKept.run_getObj_map h1, K.check w _ hx, a1, Result.andThen]

theorem KMap.miss (h : KMap w kt m R) (K : KeyLaw Yba.prog kt) (hu : Yba.prog.underlying mt = some (.map kt et)) (hx : keyOf Yba.prog kt x = some l) (hr : ∀ v, ¬ R x v) {z : Value} (hz : (zeroValue et).run Yba.prog w = .ok z w) :
    (Instr.lookup mt (.map (some m)) x false).run Yba.prog w = .ok z w := by
  obtain ⟨es, c, h1, h2, h3, h4⟩ := h
  rcases K.find w hx es.toList h2 with ⟨a1, a2⟩ | ⟨j, e, a1, a2, a3⟩
  · simp [Instr.lookup, run_underlying hu, MapKept.run_getObj_map h1, K.check w _ hx, a1, hz, Result.andThen]
  · exact absurd ((h4 x e.val).2 ⟨e, List.mem_of_getElem? a2, a3, rfl⟩) (hr _)

theorem only_put {o o' : Obj} (h : w.heap[m]? = some o) : Only [m] w { w with heap := w.heap.setIfInBounds m o' } :=
  ⟨rfl, rfl, rfl, by simp, fun k _ hk => (heap_set h).2 k (fun e => hk (by simp [e]))⟩

theorem KMap.put (h : KMap w kt m R) (K : KeyLaw Yba.prog kt) (hu : Yba.prog.underlying mt = some (.map kt et)) (hx : keyOf Yba.prog kt x = some l) (hr : ∀ v, ¬ R x v) (v : Value) :
    ∃ w', (Instr.mapUpdate mt (.map (some m)) x v).run Yba.prog w = .ok () w' ∧ KMap w' kt m (fun y u => R y u ∨ (y = x ∧ u = v)) ∧ Only [m] w w' := by
  obtain ⟨es, c, h1, h2, h3, h4⟩ := h
  rcases K.find w hx es.toList h2 with ⟨a1, a2⟩ | ⟨j, e, a1, a2, a3⟩
  · refine ⟨{ w with heap := w.heap.setIfInBounds m (.map (es.push { key := x, val := v, born := c }) (c + 1)) }, ?_, ⟨_, _, (heap_set h1).1, ?_, ?_, ?_⟩, only_put h1⟩
    · simp [Instr.mapUpdate, run_underlying hu, MapKept.run_getObj_map h1, K.check w _ hx, a1, MapKept.run_setObj_map _ h1, Result.andThen]
    · intro e he
      simp only [Array.toList_push, List.mem_append, List.mem_singleton] at he
      rcases he with he | rfl
      · exact h2 e he
      · exact ⟨l, hx⟩
    · simp only [Array.toList_push, List.map_append, List.map_cons, List.map_nil]
      refine List.nodup_append.2 ⟨h3, by simp, ?_⟩
      intro a ha b hb
      simp only [List.mem_singleton] at hb
      subst hb
      obtain ⟨y, hy, rfl⟩ := List.mem_map.1 ha
      exact a2 y hy
    · intro y u
      show (R y u ∨ _) ↔ _
      rw [h4 y u]
      simp only [Array.toList_push, List.mem_append, List.mem_singleton]
      constructor
      · rintro (⟨e, he, k1, k2⟩ | ⟨rfl, rfl⟩)
        · exact ⟨e, .inl he, k1, k2⟩
        · exact ⟨_, .inr rfl, rfl, rfl⟩
      · rintro ⟨e, he | rfl, k1, k2⟩
        · exact .inl ⟨e, he, k1, k2⟩
        · exact .inr ⟨k1.symm, k2.symm⟩
  · exact absurd ((h4 x e.val).2 ⟨e, List.mem_of_getElem? a2, a3, rfl⟩) (hr _)

theorem KMap.del (h : KMap w kt m R) (K : KeyLaw Yba.prog kt) (hu : Yba.prog.underlying mt = some (.map kt et)) (hx : keyOf Yba.prog kt x = some l) (ty : TypeId) {v : Value} (hr : R x v) :
    ∃ w', (Builtin.delete_ #[mt, kt] ty #[.map (some m), x]).run Yba.prog w = .ok (.tuple #[]) w' ∧ KMap w' kt m (fun y u => R y u ∧ y ≠ x) ∧ Only [m] w w' := by
  obtain ⟨es, c, h1, h2, h3, h4⟩ := h
  obtain ⟨e0, m0, k0, v0⟩ := (h4 x v).1 hr
  rcases K.find w hx es.toList h2 with ⟨a1, a2⟩ | ⟨j, e, a1, a2, a3⟩
  · exact absurd k0 (a2 e0 m0)
  · have hj : j < es.size := by
      have := (List.getElem?_eq_some_iff.1 a2).1
      simpa using this
    have hl : (es.eraseIdxIfInBounds j).toList = es.toList.eraseIdx j := by
      unfold Array.eraseIdxIfInBounds
      rw [dif_pos hj, Array.toList_eraseIdx]
    have hs : (es.toList.eraseIdx j).Sublist es.toList := List.eraseIdx_sublist _ _
    refine ⟨{ w with heap := w.heap.setIfInBounds m (.map (es.eraseIdxIfInBounds j) c) }, ?_, ⟨_, _, (heap_set h1).1, ?_, ?_, ?_⟩, only_put h1⟩
    · simp [Builtin.delete_, run_underlying hu, MapKept.run_getObj_map h1, K.check w _ hx, a1, MapKept.run_setObj_map _ h1, Result.andThen]
    · intro e he
      rw [hl] at he
      exact h2 e (hs.subset he)
    · rw [hl]
      exact (hs.map _).nodup h3
    · intro y u
      show (R y u ∧ _) ↔ _
      rw [hl, h4 y u]
      constructor
      · rintro ⟨⟨e', he', k1, k2⟩, hne⟩
        refine ⟨e', ?_, k1, k2⟩
        obtain ⟨i, hi, hie⟩ := List.getElem_of_mem he'
        refine List.mem_eraseIdx_iff_getElem?.2 ⟨i, ?_, ?_⟩
        · rintro rfl
          rw [List.getElem?_eq_getElem hi, hie] at a2
          cases a2
          exact hne (k1.symm.trans a3)
        · rw [List.getElem?_eq_getElem hi, hie]
      · rintro ⟨e', he', k1, k2⟩
        refine ⟨⟨e', hs.subset he', k1, k2⟩, ?_⟩
        rintro rfl
        obtain ⟨i, hne, hie⟩ := List.mem_eraseIdx_iff_getElem?.1 he'
        have e1 : e' = e := same_of_keys h3 (List.mem_of_getElem? hie) (List.mem_of_getElem? a2) (k1.trans a3.symm)
        subst e1
        have n1 := (List.getElem?_eq_some_iff.1 a2)
        have n2 := (List.getElem?_eq_some_iff.1 hie)
        have h3' := List.pairwise_iff_getElem.1 h3
        have hjl := n1.1
        have hil := n2.1
        rcases Nat.lt_or_gt_of_ne hne with hlt | hgt
        · exact h3' i j (by simpa using hil) (by simpa using hjl) hlt (by rw [List.getElem_map, List.getElem_map, n2.2, n1.2])
        · exact h3' j i (by simpa using hjl) (by simpa using hil) hgt (by rw [List.getElem_map, List.getElem_map, n2.2, n1.2])

theorem KMap.len (h : KMap w kt m R) : ∃ es c, w.heap[m]? = some (.map es c) ∧ (es.size = 0 ↔ ∀ y u, ¬ R y u) := by
  obtain ⟨es, c, h1, h2, h3, h4⟩ := h
  refine ⟨es, c, h1, fun h0 y u hr => ?_, fun hn => ?_⟩
  · obtain ⟨e, he, _⟩ := (h4 y u).1 hr
    have : es.toList.length = 0 := by simpa using h0
    rw [List.length_eq_zero_iff.1 this] at he
    cases he
  · rcases Nat.eq_zero_or_pos es.size with h0 | h0
    · exact h0
    · exact absurd ((h4 _ _).2 ⟨es[0], by simp, rfl, rfl⟩) (hn _ _)
end

section
variable {w : World}
theorem step_delete_run {ops : Array Oper} {o : Oper} {a : Act} {K : Act → World → Prop} {Q : Exit → Act → World → Prop} {E : Prop} (hgd : o.guard = none) (s x : Operand) (t tn : TypeId)
    (ho : o.op = .call { callee := .builtin .delete, args := #[s, x], argTypes := #[t, tn] }) (vs vx : Value) (hs : a.eval s = vs) (hx : a.eval x = vx)
    (v' : Value) (w' : World) (hr : (Builtin.delete_ #[t, tn] o.type #[vs, vx]).run Yba.prog w = .ok v' w') (h : K (a.put o.dst v') w') :
    if Region.wanted o (yielded ops a.tmps) = true then Oper.wp Yba.prog o a w K Q else E := by
  have hw : Region.wanted o (yielded ops a.tmps) = true := by simp [Region.wanted, hgd]
  rw [if_pos hw]
  unfold Oper.wp execOp
  simp only [ho, resolve, invoke, builtin, Sem.run_bind, Sem.run_pure, Result.andThen_ok, List.map_toArray, List.map_cons, List.map_nil, hs, hx, hr]
  exact h
theorem wpList_put_run {ops : Array Oper} {rest : List Oper} {o : Oper} {a : Act} {Q : Exit → Act → World → Prop} (hgd : o.guard = none) (m x v : Operand) (t : TypeId) (ho : o.op = Op.mapUpdate t m x v)
    (vm vx vv : Value) (hm : a.eval m = vm) (hx : a.eval x = vx) (hv : a.eval v = vv) (w' : World) (hr : (Instr.mapUpdate t vm vx vv).run Yba.prog w = .ok () w') (h : wpList Yba.prog ops Q rest (a.put o.dst undef) w') : wpList Yba.prog ops Q (o :: rest) a w := by
  refine wpList_plain hgd fun K' hK' => ?_
  unfold Oper.wp
  simp [execOp, ho, hm, hx, hv, hr, Result.andThen]
  exact hK' _ _ h
end

theorem strLaw : KeyLaw Yba.prog 9 := string_law Yba.underlying9
theorem keyLaw : KeyLaw Yba.prog 52 := deep_law_laid (by kernel_rfl) (m := 2) (by decide) (of_decide_eq_true (by kernel_rfl)) (by kernel_rfl) (by kernel_rfl)
theorem str_key (s : ByteArray) (h : s.size ≤ maxLen) : keyOf Yba.prog 9 (.string s) = some (.string s.data.toList) := keyOf_string_mk Yba.underlying9 h
end Go.Proofs.Ybulkaccc
