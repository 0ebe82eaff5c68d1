/- decodeSecurity by its contract. -/
import Derived.Test.YbulkacdsFmtDecSig
import Derived.Deep.RegionLaw
set_option linter.unusedVariables false
set_option linter.unusedSimpArgs false
namespace Go.Proofs.YbulkacdsFmt
open Go.RowKit Go.Extern.Stop Go.Stop Go.Extern

theorem Only.transF {L L' : List Nat} {a b c : World} (h : Only L a b) (k : Only L' b c) (hL : ∀ x ∈ L', x ∈ L ∨ a.heap.size ≤ x) : Only L a c :=
  ⟨k.os.trans h.os, k.tape.trans h.tape, k.output.trans h.output, Nat.le_trans h.size k.size, fun i hi hn => (k.block i (Nat.lt_of_lt_of_le hi h.size) (fun hm => by
    rcases hL i hm with h' | h'
    · exact hn h'
    · omega)).trans (h.block i hi hn)⟩

theorem own22_ne {w : World} {B n : Nat} {v : Value} {xs : List Value} (ho : w.ownsRow B 22 1 v n xs) {k : Nat} {cs : Array Value} {t : TypeId} (ht : t ≠ 22) (hc : w.heap[k]? = some (.cells cs t (0, 0))) : some k ≠ v.ownBlock := by
  rcases ho.2 with ⟨rfl, _⟩ | ⟨g, cap, cur, rfl, _, hg, _⟩
  · simp [Value.ownBlock]
  · intro e
    simp only [Value.ownBlock, Option.some.injEq] at e
    subst e
    rw [hg] at hc
    simp at hc
    exact ht hc.2.symm
theorem own22_same {w w' : World} {B n : Nat} {v : Value} {xs : List Value} (ho : w.ownsRow B 22 1 v n xs) (h : ∀ k, v.ownBlock = some k → w'.heap[k]? = w.heap[k]?) : w'.ownsRow B 22 1 v n xs := by
  obtain ⟨h1, h2⟩ := ho
  refine ⟨h1, ?_⟩
  rcases h2 with h2 | ⟨g, cap, cur, rfl, hg, hh, r⟩
  · exact .inl h2
  · exact .inr ⟨g, cap, cur, rfl, hg, by rw [h g rfl]; exact hh, r⟩
theorem own22_only {w w' : World} {B n : Nat} {v : Value} {xs : List Value} {L : List Nat} (ho : w.ownsRow B 22 1 v n xs) (h : Only L w w') (hL : ∀ x ∈ L, ∃ cs t, t ≠ 22 ∧ w.heap[x]? = some (.cells cs t (0, 0))) : w'.ownsRow B 22 1 v n xs :=
  own22_same ho fun k hk => h.block k (ho.lt k hk).2 (fun hm => by
    obtain ⟨cs, t, ht, hc⟩ := hL k hm
    exact own22_ne ho ht hc hk.symm)
theorem own22_form {w : World} {B n : Nat} {v : Value} {xs : List Value} (ho : w.ownsRow B 22 1 v n xs) : ∃ a c, v = .slice a n c ∧ n ≤ maxLen := by
  rcases ho.2 with ⟨rfl, rfl⟩ | ⟨g, cap, cur, rfl, _, _, h1, h2, _⟩
  · exact ⟨_, _, rfl, Nat.zero_le _⟩
  · exact ⟨_, _, rfl, Nat.le_trans h1 h2⟩

set_option maxRecDepth 100000 in
theorem i22 : ∃ i, Ybaf.prog.info? 22 = some i ∧ i.zero = some (.slice none 0 0) ∧ i.size = 1 ∧ i.bytes = 24 := ⟨_, (by kernel_rfl : _ = some Ybaf.t22), by kernel_rfl, by kernel_rfl, by kernel_rfl⟩

/-- What has been handed out, certificate by certificate. -/
def Outs (w : World) (g : Nat) (cl : Nat → Nat) (cf : Nat → Nat → Int) (k : Nat) (os : List Value) : Prop := os.length = k ∧ ∀ i u, os[i]? = some u → Out w g u (cellsOf (cf i) (cl i))

/-- The bytes of the certificates from k on. -/
def certFrom (cl : Nat → Nat) (cf : Nat → Nat → Int) (k : Nat) : Nat → List Value
  | 0 => []
  | r + 1 => .int .u8 0 :: (hdr (cl k) 2 ++ (cellsOf (cf k) (cl k) ++ certFrom cl cf (k + 1) r))

theorem certFrom_snoc (cl : Nat → Nat) (cf : Nat → Nat → Int) : ∀ (r k : Nat), certFrom cl cf k (r + 1) = certFrom cl cf k r ++ ([.int .u8 0] ++ (hdr (cl (k + r)) 2 ++ cellsOf (cf (k + r)) (cl (k + r))))
  | 0, k => by simp [certFrom]
  | r + 1, k => by
    have ih := certFrom_snoc cl cf r (k + 1)
    rw [certFrom, ih, certFrom]
    have e : k + 1 + r = k + (r + 1) := by omega
    rw [e]
    simp
theorem certFrom_all (cl : Nat → Nat) (cf : Nat → Nat → Int) : ∀ n, certFrom cl cf 0 n = certBytes cl cf n
  | 0 => rfl
  | n + 1 => by rw [certFrom_snoc, certFrom_all cl cf n, certBytes, Nat.zero_add]

/-- Midway in decodeSecurity. -/
structure CAt (w wr : World) (db g S d2 : Nat) (cl : Nat → Nat) (cf : Nat → Nat → Int) (l k : Nat) (zs : List Value) (os : List Value) (v : Value) : Prop where
  D : Dc wr db g zs
  Db : Dc wr d2 g (certFrom cl cf k (l - k))
  hS : wr.heap[S]? = some (.cells #[v, .int .u8 0, .int .u8 0, .int .u8 0, .int .u8 0, .slice none 0 0, .slice none 0 0] 30 (0, 0))
  hR : wr.heap[w.heap.size]? = some (.cells #[.slice none 0 0, .int .u8 0, .int .u8 0, .int .u8 0, .int .u8 0, .slice none 0 0, .slice none 0 0] 30 (0, 0))
  ho : wr.ownsRow w.heap.size 22 1 v k os
  outs : Outs wr g cl cf k os
  O : Only [db] w wr
  ldb : db < w.heap.size
  lg : g < w.heap.size
  lS : w.heap.size < S
  ld : S < d2

theorem Outs.keep {w w' : World} {g : Nat} {cl : Nat → Nat} {cf : Nat → Nat → Int} {k : Nat} {os : List Value} {L : List Nat} (U : Outs w g cl cf k os) (h : Only L w w') (h2 : g ∉ L) : Outs w' g cl cf k os :=
  ⟨U.1, fun i u hu => (U.2 i u hu).keep h h2⟩

/-- A read on d2 has gone by. -/
theorem CAt.read {w wr w3 : World} {db g S d2 : Nat} {cl : Nat → Nat} {cf : Nat → Nat → Int} {l k : Nat} {zs os : List Value} {v : Value} (P : CAt w wr db g S d2 cl cf l k zs os v) (o : Only [d2] wr w3) :
    Dc w3 db g zs ∧ w3.heap[S]? = some (.cells #[v, .int .u8 0, .int .u8 0, .int .u8 0, .int .u8 0, .slice none 0 0, .slice none 0 0] 30 (0, 0)) ∧
    w3.heap[w.heap.size]? = some (.cells #[.slice none 0 0, .int .u8 0, .int .u8 0, .int .u8 0, .int .u8 0, .slice none 0 0, .slice none 0 0] 30 (0, 0)) ∧ w3.ownsRow w.heap.size 22 1 v k os ∧ Outs w3 g cl cf k os ∧ Only [db] w w3 := by
  have h1 := P.ldb
  have h2 := P.lg
  have h3 := P.lS
  have h4 := P.ld
  obtain ⟨_, _, hd, _⟩ := P.Db.ex
  refine ⟨P.D.keep o (by simp only [List.mem_singleton]; omega) (by simp only [List.mem_singleton]; omega), o.at (by simp only [List.mem_singleton]; omega) P.hS, o.at (by simp only [List.mem_singleton]; omega) P.hR, own22_only P.ho o (fun x hx => ?_), P.outs.keep o (by simp only [List.mem_singleton]; omega), P.O.transF o (fun x hx => .inr (by simp only [List.mem_singleton] at hx; omega))⟩
  simp only [List.mem_singleton] at hx
  subst hx
  exact ⟨_, _, by decide, hd⟩

theorem CAt.readDb {w wr w3 : World} {db g S d2 : Nat} {cl : Nat → Nat} {cf : Nat → Nat → Int} {l k : Nat} {zs os : List Value} {v : Value} (P : CAt w wr db g S d2 cl cf l k zs os v) (o : Only [db] wr w3) :
    w3.heap[S]? = some (.cells #[v, .int .u8 0, .int .u8 0, .int .u8 0, .int .u8 0, .slice none 0 0, .slice none 0 0] 30 (0, 0)) ∧
    w3.heap[w.heap.size]? = some (.cells #[.slice none 0 0, .int .u8 0, .int .u8 0, .int .u8 0, .int .u8 0, .slice none 0 0, .slice none 0 0] 30 (0, 0)) ∧ w3.ownsRow w.heap.size 22 1 v k os ∧ Outs w3 g cl cf k os ∧ Only [db] w w3 := by
  have h1 := P.ldb
  have h2 := P.lg
  have h3 := P.lS
  have hne := P.D.ne
  obtain ⟨_, _, hd, _⟩ := P.D.ex
  refine ⟨o.at (by simp only [List.mem_singleton]; omega) P.hS, o.at (by simp only [List.mem_singleton]; omega) P.hR, own22_only P.ho o (fun x hx => ?_), P.outs.keep o (by simp only [List.mem_singleton]; exact hne), P.O.trans o⟩
  simp only [List.mem_singleton] at hx
  subst hx
  exact ⟨_, _, by decide, hd⟩

theorem seven0 {w : World} {b : Nat} {x0 x1 x2 x3 x4 x5 x6 : Value} {t : TypeId} (h : w.heap[b]? = some (.cells #[x0, x1, x2, x3, x4, x5, x6] t (0, 0))) : w.cell? ⟨b, 0, none⟩ = some x0 ∧ w.frozen? ⟨b, 0, none⟩ = false := by
  simp [World.cell?, World.frozen?, h]

/-- One certificate has been handed out and appended. -/
theorem CAt.push {w wr w3 : World} {db g S d2 : Nat} {cl : Nat → Nat} {cf : Nat → Nat → Int} {l k : Nat} {zs os : List Value} {v u : Value} (P : CAt w wr db g S d2 cl cf l k zs os v) (o : Only [d2] wr w3)
    (U : Out w3 g u (cellsOf (cf k) (cl k))) (Db : Dc w3 d2 g (certFrom cl cf (k + 1) (l - (k + 1)))) (hk : k < 2000) :
    ∃ v4 w4, (Builtin.append_ #[23, 23] 23 #[v, .slice (some ⟨w3.heap.size, 0, none⟩) 1 1]).run Ybaf.prog (w3.alloc (.cells #[u] 22)) = .ok v4 w4 ∧ w4.cell? ⟨S, 0, none⟩ = some v ∧ w4.frozen? ⟨S, 0, none⟩ = false ∧
      (∃ a c, v4 = .slice a (k + 1) c) ∧ CAt w (w4.setCell ⟨S, 0, none⟩ v4) db g S d2 cl cf l (k + 1) zs (os ++ [u]) v4 := by
  obtain ⟨i, hi, hz, hs, hb⟩ := i22
  obtain ⟨D3, hS3, hR3, ho3, U3, O3⟩ := P.read o
  have h1 := P.ldb
  have h2 := P.lg
  have h3 := P.lS
  have h4 := P.ld
  have b4 : Below w3.heap.size w3 (w3.alloc (.cells #[u] 22)) := (Below.refl _ w3).alloc (Nat.le_refl _) _
  have o4 : Only [] w3 (w3.alloc (.cells #[u] 22)) := Only.of b4
  have ho4 : (w3.alloc (.cells #[u] 22)).ownsRow w.heap.size 22 1 v k os := own22_only ho3 o4 (fun x hx => by cases hx)
  obtain ⟨oo, hu, -⟩ := U.ex
  obtain ⟨v4, w4, hrun, ho5, hg5, _⟩ := run_append_own (w3.alloc (.cells #[u] 22)) w.heap.size 23 23 22 i _ 1 24 Ybaf.underlying23 hi hz hs hb rfl (by omega) v k os ho4 ⟨w3.heap.size, 0, none⟩ 1 1 [u] rfl (cell_one_new _ _ _) (by rw [hu]; simp [Value.oneCell']) (by simp only [maxLen]; omega) (by omega) (Nat.le_trans O3.size b4.size)
  have keepB : ∀ {j : Nat} {cs : Array Value} {t : TypeId}, t ≠ 22 → w3.heap[j]? = some (.cells cs t (0, 0)) → w4.heap[j]? = some (.cells cs t (0, 0)) := fun {j cs t} ht hc => by
    have hc4 := o4.at (by simp) hc
    exact (hg5.block j (lt_of_block hc4) (own22_ne ho4 ht hc4)).trans hc4
  have hS4 := keepB (by decide) hS3
  have hR4 := keepB (by decide) hR3
  have rdk : ∀ {o' : Nat} {ys : List Value}, Rd w3 g o' ys → Rd w4 g o' ys := fun {o' ys} h => by
    obtain ⟨cur, hg⟩ := U.row
    exact h.same ((keepB (by decide) hg).trans hg.symm)
  have rowk : ∃ cur, w4.heap[g]? = some (.cells cur 5 (0, 0)) := by
    obtain ⟨cur, hg⟩ := U.row
    exact ⟨cur, keepB (by decide) hg⟩
  have dck : ∀ {d : Nat} {ys : List Value}, Dc w3 d g ys → Dc w4 d g ys := fun {d ys} h => by
    obtain ⟨o', cap, hd, hl, hc, hr⟩ := h.ex
    exact ⟨⟨o', cap, keepB (by decide) hd, hl, hc, rdk hr⟩, rowk⟩
  have outk : ∀ {x : Value} {bs : List Value}, Out w3 g x bs → Out w4 g x bs := fun {x bs} h => by
    obtain ⟨o', hx, hr⟩ := h.ex
    exact ⟨⟨o', hx, rdk hr⟩, rowk⟩
  have O4 : Only [db] w w4 := ⟨(hg5.os.trans b4.os).trans O3.os, (hg5.tape.trans b4.tape).trans O3.tape, (hg5.output.trans b4.output).trans O3.output, Nat.le_trans O3.size (Nat.le_trans b4.size hg5.size), fun j hj hn => by
    have hj3 : j < w3.heap.size := Nat.lt_of_lt_of_le hj O3.size
    have e1 := hg5.block j (Nat.lt_of_lt_of_le hj3 b4.size) (fun e => by have := (ho4.lt j e.symm).1; omega)
    exact e1.trans ((b4.block j hj3).trans (O3.block j hj hn))⟩
  have o5 : Only [S] w4 (w4.setCell ⟨S, 0, none⟩ v4) := (Only.refl [S] w4).setCell ⟨S, 0, none⟩ (by simp) v4
  obtain ⟨a5, c5, hv5, _⟩ := own22_form ho5
  refine ⟨v4, w4, hrun, (seven0 hS4).1, (seven0 hS4).2, ⟨a5, c5, hv5⟩, ?_⟩
  refine ⟨(dck D3).keep o5 (by simp only [List.mem_singleton]; omega) (by simp only [List.mem_singleton]; omega), (dck Db).keep o5 (by simp only [List.mem_singleton]; omega) (by simp only [List.mem_singleton]; omega), ?_, o5.at (by simp only [List.mem_singleton]; omega) hR4, own22_only ho5 o5 (fun x hx => ?_), ⟨?_, ?_⟩, O4.transF o5 (fun x hx => .inr (by simp only [List.mem_singleton] at hx; omega)), h1, h2, h3, h4⟩
  · rw [heap_setCell_same w4 S 0 _ 30 v4 hS4]; rfl
  · simp only [List.mem_singleton] at hx
    subst hx
    exact ⟨_, _, by decide, hS4⟩
  · rw [List.length_append, U3.1]; rfl
  · intro j x hx
    have hlen := U3.1
    rcases Nat.lt_or_ge j k with hj | hj
    · rw [List.getElem?_append_left (by omega)] at hx
      exact (outk (U3.2 j x hx)).keep o5 (by simp only [List.mem_singleton]; omega)
    · rw [List.getElem?_append_right (by omega), hlen] at hx
      have hj0 : j - k = 0 := by
        have := (List.getElem?_eq_some_iff.1 hx).1
        simp at this
        omega
      rw [hj0] at hx
      have hjk : j = k := by omega
      subst hjk
      obtain rfl : u = x := by simpa using hx
      exact (outk U).keep o5 (by simp only [List.mem_singleton]; omega)

theorem two30 (w : World) : ((w.alloc (.cells #[.slice none 0 0, .int .u8 0, .int .u8 0, .int .u8 0, .int .u8 0, .slice none 0 0, .slice none 0 0] 30)).alloc (.cells #[.slice none 0 0, .int .u8 0, .int .u8 0, .int .u8 0, .int .u8 0, .slice none 0 0, .slice none 0 0] 30)).heap[w.heap.size]? = some (.cells #[.slice none 0 0, .int .u8 0, .int .u8 0, .int .u8 0, .int .u8 0, .slice none 0 0, .slice none 0 0] 30 (0, 0)) ∧
    ((w.alloc (.cells #[.slice none 0 0, .int .u8 0, .int .u8 0, .int .u8 0, .int .u8 0, .slice none 0 0, .slice none 0 0] 30)).alloc (.cells #[.slice none 0 0, .int .u8 0, .int .u8 0, .int .u8 0, .int .u8 0, .slice none 0 0, .slice none 0 0] 30)).heap[w.heap.size + 1]? = some (.cells #[.slice none 0 0, .int .u8 0, .int .u8 0, .int .u8 0, .int .u8 0, .slice none 0 0, .slice none 0 0] 30 (0, 0)) := by
  constructor
  · rw [Below.heap_alloc _ _ _ (by simp)]; exact heap_alloc_new w _
  · have := heap_alloc_new (w.alloc (.cells #[.slice none 0 0, .int .u8 0, .int .u8 0, .int .u8 0, .int .u8 0, .slice none 0 0, .slice none 0 0] 30)) (.cells #[.slice none 0 0, .int .u8 0, .int .u8 0, .int .u8 0, .int .u8 0, .slice none 0 0, .slice none 0 0] 30)
    simpa using this

theorem seven {w : World} {b : Nat} {x0 x1 x2 x3 x4 x5 x6 : Value} {t : TypeId} (h : w.heap[b]? = some (.cells #[x0, x1, x2, x3, x4, x5, x6] t (0, 0))) :
    w.cell? ⟨b, 0, none⟩ = some x0 ∧ w.cell? ⟨b, 1, none⟩ = some x1 ∧ w.cell? ⟨b, 2, none⟩ = some x2 ∧ w.cell? ⟨b, 3, none⟩ = some x3 ∧ w.cell? ⟨b, 4, none⟩ = some x4 ∧ w.cell? ⟨b, 5, none⟩ = some x5 ∧ w.cell? ⟨b, 6, none⟩ = some x6 ∧
    w.frozen? ⟨b, 0, none⟩ = false ∧ w.frozen? ⟨b, 1, none⟩ = false ∧ w.frozen? ⟨b, 2, none⟩ = false ∧ w.frozen? ⟨b, 3, none⟩ = false ∧ w.frozen? ⟨b, 4, none⟩ = false ∧ w.frozen? ⟨b, 5, none⟩ = false ∧ w.frozen? ⟨b, 6, none⟩ = false := by
  simp [World.cell?, World.frozen?, h]

theorem set6 {w : World} {S : Nat} {x0 x1 x2 x3 x4 x5 x6 : Value} {t : TypeId} (h : w.heap[S]? = some (.cells #[x0, x1, x2, x3, x4, x5, x6] t (0, 0))) (y1 y2 y3 y4 y5 y6 : Value) :
    ((((((w.setCell ⟨S, 1, none⟩ y1).setCell ⟨S, 2, none⟩ y2).setCell ⟨S, 3, none⟩ y3).setCell ⟨S, 4, none⟩ y4).setCell ⟨S, 5, none⟩ y5).setCell ⟨S, 6, none⟩ y6).heap[S]? = some (.cells #[x0, y1, y2, y3, y4, y5, y6] t (0, 0)) :=
  heap_setCell_same _ S 6 _ t y6 (heap_setCell_same _ S 5 _ t y5 (heap_setCell_same _ S 4 _ t y4 (heap_setCell_same _ S 3 _ t y3 (heap_setCell_same _ S 2 _ t y2 (heap_setCell_same w S 1 _ t y1 h)))))

theorem six_only6 {w wx : World} {L : List Nat} (h : Only L w wx) (R : Nat) (hR : R ∈ L) (x0 x1 x2 x3 x4 x5 : Value) : Only L w ((((((wx.setCell ⟨R, 1, none⟩ x0).setCell ⟨R, 2, none⟩ x1).setCell ⟨R, 3, none⟩ x2).setCell ⟨R, 4, none⟩ x3).setCell ⟨R, 5, none⟩ x4).setCell ⟨R, 6, none⟩ x5) :=
  (((((h.setCell _ hR _).setCell _ hR _).setCell _ hR _).setCell _ hR _).setCell _ hR _).setCell _ hR _
theorem seven_only {w wx : World} {L : List Nat} (h : Only L w wx) (R : Nat) (hR : R ∈ L) (x0 x1 x2 x3 x4 x5 x6 : Value) : Only L w (((((((wx.setCell ⟨R, 0, none⟩ x0).setCell ⟨R, 1, none⟩ x1).setCell ⟨R, 2, none⟩ x2).setCell ⟨R, 3, none⟩ x3).setCell ⟨R, 4, none⟩ x4).setCell ⟨R, 5, none⟩ x5).setCell ⟨R, 6, none⟩ x6) :=
  ((((((h.setCell _ hR _).setCell _ hR _).setCell _ hR _).setCell _ hR _).setCell _ hR _).setCell _ hR _).setCell _ hR _

/-- How many bytes a decoder still has. -/
def lenAt (w : World) (d : Nat) : Nat := match w.cell? ⟨d, 0, none⟩ with
  | some (.slice _ n _) => n
  | _ => 0
theorem lenAt_dc {w : World} {d g : Nat} {ys : List Value} (D : Dc w d g ys) : lenAt w d = ys.length := by
  obtain ⟨o, cap, h, _⟩ := D.ex
  simp [lenAt, (two_cells h).1]

set_option maxHeartbeats 4000000 in
theorem rd_sec (w : World) (db g : Nat) (l : Nat) (cl : Nat → Nat) (cf : Nat → Nat → Int) (ha sa ty sha : Int) (hs vs : List Value) (hl : l ≤ 1024) (hcl : ∀ i, i < l → cl i ≤ 65535) (hT : certLen cl l ≤ 65535) (hTl : (certBytes cl cf l).length = certLen cl l) (hty : ty = 1 ∨ ty = 2 ∨ ty = 3) (hh : hs.length ≤ 255) (hv : vs.length ≤ 65535)
    (D : Dc w db g (hdr (certLen cl l) 2 ++ (certBytes cl cf l ++ (.int .u8 ha :: .int .u8 sa :: .int .u8 ty :: (hdr (if ty = 3 then 0 else 1 + 1 + hs.length) 2 ++ ((if ty = 3 then [] else .int .u8 sha :: (hdr hs.length 1 ++ (hs ++ []))) ++ (hdr vs.length 2 ++ (vs ++ []))))))) ) :
    Calls Ybaf.prog 9 #[.pointer (some ⟨db, 0, none⟩)] w fun e w' => ∃ cv os sha' sh vv, e = .returned (.agg #[cv, .int .u8 ha, .int .u8 sa, .int .u8 ty, .int .u8 sha', sh, vv]) ∧ w'.ownsRow w.heap.size 22 1 cv l os ∧ Outs w' g cl cf l os ∧
      Out w' g vv vs ∧ (ty = 3 → sha' = 0 ∧ sh = .slice none 0 0) ∧ (ty ≠ 3 → sha' = sha ∧ Out w' g sh hs) ∧ Dc w' db g [] ∧ Only [db] w w' := by
  have ldb : db < w.heap.size := by obtain ⟨_, _, h, _⟩ := D.ex; exact lt_of_block h
  have lg : g < w.heap.size := by obtain ⟨_, h⟩ := D.row; exact lt_of_block h
  generalize hzs : (.int .u8 ha :: .int .u8 sa :: .int .u8 ty :: (hdr (if ty = 3 then 0 else 1 + 1 + hs.length) 2 ++ ((if ty = 3 then [] else .int .u8 sha :: (hdr hs.length 1 ++ (hs ++ []))) ++ (hdr vs.length 2 ++ (vs ++ []))))) = zs at D
  have Hzs : Hid _ := hzs
  clear hzs
  obtain ⟨z7, hz7⟩ : ∃ z7 : Array Value, z7 = #[.slice none 0 0, .int .u8 0, .int .u8 0, .int .u8 0, .int .u8 0, .slice none 0 0, .slice none 0 0] := ⟨_, rfl⟩
  have b0 : Below w.heap.size w ((w.alloc (.cells #[.slice none 0 0, .int .u8 0, .int .u8 0, .int .u8 0, .int .u8 0, .slice none 0 0, .slice none 0 0] 30)).alloc (.cells #[.slice none 0 0, .int .u8 0, .int .u8 0, .int .u8 0, .int .u8 0, .slice none 0 0, .slice none 0 0] 30)) := ((Below.refl _ w).alloc (Nat.le_refl _) _).alloc (by simp) _
  have D0 := D.keep (Only.of (L := []) b0) (by simp) (by simp)
  have HC0 : Hid _ := rd_block _ db g (certLen cl l) (certBytes cl cf l) zs (by omega) hTl D0
  have T0 := two30 w
  have HX0 : Hid _ := And.intro T0 (Only.of (L := [db]) b0)
  clear D b0 D0 hz7 z7 T0
  go_enter Ybaf.func9, Ybaf.ntmps9
  go_wp2_with fail
  refine Calls.mono HC0.out ?_
  rintro e w1 ⟨d2, rfl, hd2, Db1, D1, O1⟩
  obtain ⟨⟨hR0, hS0⟩, O0⟩ := HX0.out
  have hd2' : w.heap.size + 1 < d2 := by
    have := hd2
    simp at this
    omega
  have P1 : CAt w w1 db g (w.heap.size + 1) d2 cl cf l 0 zs [] (.slice none 0 0) :=
    ⟨D1, by rw [Nat.sub_zero, certFrom_all]; exact Db1, O1.at (by simp only [List.mem_singleton]; omega) hS0, O1.at (by simp only [List.mem_singleton]; omega) hR0, World.ownsRow_nil _ _ _ _, ⟨rfl, fun i u h => by simp at h⟩, O0.trans O1, ldb, lg, by omega, hd2'⟩
  clear HC0 HX0 Db1 D1 O1 hR0 hS0 O0 hd2 hd2'
  generalize w.heap.size + 1 = S at P1 ⊢
  go_wp2_with fail
  go_loopw [] (fun wr => ∃ k os v, k ≤ l ∧ CAt w wr db g S d2 cl cf l k zs os v) (fun wr => lenAt wr d2)
  case atStart => exact ⟨0, [], _, Nat.zero_le _, P1⟩
  case round =>
    obtain ⟨k, os, v, hk, P⟩ := hrel
    clear P1
    have HCm : Hid _ := rd_more wr d2 g _ P.Db
    by_cases hlt : k < l
    · obtain ⟨r, hr⟩ : ∃ r, l - k = r + 1 := ⟨l - k - 1, by omega⟩
      have hr' : l - (k + 1) = r := by omega
      have Dbk := P.Db
      rw [hr] at Dbk HCm
      rw [certFrom] at Dbk HCm
      have HCu : Hid _ := rd_u8 wr d2 g 0 _ Dbk
      have HP : Hid _ := P
      have hlen0 : decide (0 < (Value.int IntKind.u8 0 :: (hdr (cl k) 2 ++ (cellsOf (cf k) (cl k) ++ certFrom cl cf (k + 1) r))).length) = true := by simp
      rw [hlen0] at HCm
      have hlw : lenAt wr d2 = (certFrom cl cf k (r + 1)).length := by rw [← hr]; exact lenAt_dc P.Db
      have HL : Hid _ := hlw
      obtain ⟨a, c, hvv, _⟩ := own22_form P.ho
      subst hvv
      clear Dbk P hlen0 hlw
      go_wp2_with fail
      refine Calls.mono HCm.out ?_
      rintro e w2 ⟨rfl, rfl⟩
      clear HCm
      go_wp2_with fail
      refine Calls.mono HCu.out ?_
      rintro e w3 ⟨rfl, Db3, O3⟩
      obtain ⟨D3, hS3, -⟩ := HP.out.read O3
      have cS3 := (seven0 hS3).1
      have HC3 : Hid _ := rd_opq2 w3.drew d2 g (cl k) (cellsOf (cf k) (cl k)) (certFrom cl cf (k + 1) r) (by have := hcl k hlt; omega) (cellsOf_length _ _) (Db3.keep (Only.refl [] w3).rdrew (by simp) (by simp))
      have HO3 : Hid _ := O3
      clear HCu Db3 O3 D3 hS3
      go_wp2_with fail
      go_region_law (first
        | (refine step_append_run _ (by rfl) _ _ _ _ (by rfl) _ _ (by rfl) (by rfl) _ _ hrun ?_)
        | (go_simp; go_at_call 23; refine Calls.mono HC3.out ?_; rintro e w4 ⟨u, rfl, U4, Db4, O4⟩; rw [← hr'] at Db4; obtain ⟨v5, w5, hrun, c5, z5, ⟨a5, k5, rfl⟩, P5⟩ := HP.out.push (HO3.out.rdrew.trans O4) U4 Db4 (by omega); have cS4 := (seven0 (HP.out.read (HO3.out.rdrew.trans O4)).2.1).1; have lS4 := lt_of_block (HP.out.read (HO3.out.rdrew.trans O4)).2.1; obtain ⟨o4, rfl, hr4⟩ := U4.ex; have HP5 : Hid _ := P5; clear U4 Db4 O4 P5 hr4))
      all_goals
        go_wp2
        refine ⟨⟨k + 1, _, _, by omega, HP5.out⟩, ?_⟩
        rw [HL.out, lenAt_dc HP5.out.Db, hr']
        simp [certFrom]
        omega
    · obtain rfl : k = l := by omega
      have Dbe := P.Db
      rw [Nat.sub_self] at Dbe HCm
      rw [certFrom] at Dbe HCm
      have HCe : Hid _ := rd_end wr d2 g Dbe
      have HP : Hid _ := P
      obtain ⟨a, c, hvv, _⟩ := own22_form P.ho
      subst hvv
      have hlen0 : decide (0 < ([] : List Value).length) = false := by simp
      rw [hlen0] at HCm
      clear Dbe P hlen0
      go_wp2_with fail
      refine Calls.mono HCm.out ?_
      rintro e w2 ⟨rfl, rfl⟩
      clear HCm
      go_wp2_with fail
      refine Calls.mono HCe.out ?_
      rintro e w2 ⟨rfl, rfl⟩
      have HCf : Hid _ := rd_fail _ db g _ HP.out.D
      clear HCe
      go_wp2_with fail
      refine Calls.mono HCf.out ?_
      rintro e w4 ⟨rfl, D4, O4⟩
      obtain ⟨hS4, hR4, ho4, U4, oo4⟩ := HP.out.readDb O4
      rw [← Hzs.out] at D4
      have HCg : Hid _ := rd_sig w4 db g ha sa ty sha hs vs [] hty hh hv D4
      have HX4 : Hid _ := And.intro hS4 (And.intro hR4 (And.intro ho4 (And.intro U4 (And.intro oo4 (And.intro D4.ex D4.ne)))))
      have lwS := HP.out.lS
      clear HCf D4 O4 hS4 hR4 ho4 U4 oo4 HP
      go_wp2_with fail
      refine Calls.mono HCg.out ?_
      rintro e w5 ⟨sha', sh, vv, rfl, UV, q3, q4, D5, O5⟩
      have shf : ∃ a n c, sh = .slice a n c := by
        by_cases h3 : ty = 3
        · exact ⟨_, _, _, (q3 h3).2⟩
        · obtain ⟨o6, h6, -⟩ := (q4 h3).2.ex
          exact ⟨_, _, _, h6⟩
      obtain ⟨ash, nsh, csh, rfl⟩ := shf
      obtain ⟨ov, hvf, hrv⟩ := UV.ex
      subst hvf
      obtain ⟨hS4, hR4, ho4, U4, oo4, ⟨_, _, hd4, _⟩, hne4⟩ := HX4.out
      have hS5 := O5.at (by simp only [List.mem_singleton]; omega) hS4
      have hR5 := O5.at (by simp only [List.mem_singleton]; omega) hR4
      have ho5 := own22_only ho4 O5 (fun x hx => by simp only [List.mem_singleton] at hx; subst hx; exact ⟨_, _, by decide, hd4⟩)
      have U5 := U4.keep O5 (by simp only [List.mem_singleton]; exact hne4)
      obtain ⟨w6, hw6⟩ : ∃ w6, w6 = (((((w5.setCell ⟨S, 1, none⟩ (.int .u8 ha)).setCell ⟨S, 2, none⟩ (.int .u8 sa)).setCell ⟨S, 3, none⟩ (.int .u8 ty)).setCell ⟨S, 4, none⟩ (.int .u8 sha')).setCell ⟨S, 5, none⟩ (.slice ash nsh csh)).setCell ⟨S, 6, none⟩ (.slice (some ⟨g, ov, none⟩) vs.length vs.length) := ⟨_, rfl⟩
      have hS6 := set6 hS5 (.int .u8 ha) (.int .u8 sa) (.int .u8 ty) (.int .u8 sha') (.slice ash nsh csh) (.slice (some ⟨g, ov, none⟩) vs.length vs.length)
      have o6 := six_only6 (Only.refl [S] w5) S (by simp) (.int .u8 ha) (.int .u8 sa) (.int .u8 ty) (.int .u8 sha') (.slice ash nsh csh) (.slice (some ⟨g, ov, none⟩) vs.length vs.length)
      rw [← hw6] at hS6 o6
      have hR6 := o6.at (by simp only [List.mem_singleton]; omega) hR5
      have ho6 := own22_only ho5 o6 (fun x hx => by simp only [List.mem_singleton] at hx; subst hx; exact ⟨_, _, by decide, hS5⟩)
      have U6 := U5.keep o6 (by simp only [List.mem_singleton]; omega)
      have UV6 := UV.keep o6 (by simp only [List.mem_singleton]; omega)
      have q46 : ty ≠ 3 → sha' = sha ∧ Out w6 g (.slice ash nsh csh) hs := fun h => ⟨(q4 h).1, (q4 h).2.keep o6 (by simp only [List.mem_singleton]; omega)⟩
      have D6 := D5.keep o6 (by simp only [List.mem_singleton]; omega) (by simp only [List.mem_singleton]; omega)
      have oo6 : Only [db] w w6 := (oo4.trans O5).transF o6 (fun x hx => .inr (by simp only [List.mem_singleton] at hx; omega))
      obtain ⟨-, p1, p2, p3, p4, p5, p6, -, f1, f2, f3, f4, f5, f6⟩ := seven hS5
      have FIN : Hid _ := And.intro hS6 (And.intro hR6 (And.intro ho6 (And.intro U6 (And.intro UV6 (And.intro q3 (And.intro q46 (And.intro D6 oo6)))))))
      clear HCg HX4 hS4 hR4 ho4 U4 oo4 hd4 hS5 hR5 ho5 U5 hS6 o6 hR6 ho6 U6 UV6 q46 D6 oo6 UV q3 q4 D5 O5 hrv
      go_upto_region 10 with fail
      rw [← hw6]
      clear hw6 p1 p2 p3 p4 p5 p6 f1 f2 f3 f4 f5 f6
      obtain ⟨hS6, hR6, -⟩ := FIN.out
      obtain ⟨p0, p1, p2, p3, p4, p5, p6, -⟩ := seven hS6
      obtain ⟨r0, r1, r2, r3, r4, r5, r6, f0, f1, f2, f3, f4, f5, f6⟩ := seven hR6
      clear hS6 hR6
      go_wp2
      obtain ⟨hS6, hR6, ho6, U6, UV6, q3, q46, D6, oo6⟩ := FIN.out
      have o7 := seven_only (Only.refl [w.heap.size] w6) w.heap.size (by simp) (.slice a k c) (.int .u8 ha) (.int .u8 sa) (.int .u8 ty) (.int .u8 sha') (.slice ash nsh csh) (.slice (some ⟨g, ov, none⟩) vs.length vs.length)
      refine bodyPost_ret (v := .agg #[.slice a k c, .int .u8 ha, .int .u8 sa, .int .u8 ty, .int .u8 sha', .slice ash nsh csh, .slice (some ⟨g, ov, none⟩) vs.length vs.length]) (by simp [results, Ybaf.results9, go_sem, r0, r1, r2, r3, r4, r5, r6]) rfl ⟨_, os, sha', _, _, rfl, own22_only ho6 o7 (fun x hx => by simp only [List.mem_singleton] at hx; subst hx; exact ⟨_, _, by decide, hR6⟩), U6.keep o7 (by simp only [List.mem_singleton]; omega), UV6.keep o7 (by simp only [List.mem_singleton]; omega), q3, fun h => ⟨(q46 h).1, (q46 h).2.keep o7 (by simp only [List.mem_singleton]; omega)⟩, D6.keep o7 (by simp only [List.mem_singleton]; omega) (by simp only [List.mem_singleton]; omega), oo6.transF o7 (fun x hx => .inr (by simp only [List.mem_singleton] at hx; omega))⟩
end Go.Proofs.YbulkacdsFmt
