import PyProof.Rows.All
import Wide.All
import OpenK.AllK
import Wide.FinOn
import Lean
import PySem.Challenge.RW_pd0005_01
open PySem PySem.W PyProof.Rows
set_option Elab.async false

section PartH1
open PySem PySem.W PyProof.Rows
namespace Mine
set_option maxRecDepth 100000 in
set_option maxHeartbeats 8000000 in
open_top hd for PySem.Challenge.rw_pd0005_01
end Mine
end PartH1

section PartM1
open PySem PySem.W PyProof.Rows PySem.Calls
namespace Mine
/-- the 64 signs, by their numbers -/
def tbl : List Int := [65, 66, 67, 68, 69, 70, 71, 72, 73, 74, 75, 76, 77, 78, 79, 80, 81, 82, 83, 84, 85, 86, 87, 88, 89, 90, 97, 98, 99, 100, 101, 102, 103, 104, 105, 106, 107, 108, 109, 110, 111, 112, 113, 114, 115, 116, 117, 118, 119, 120, 121, 122, 48, 49, 50, 51, 52, 53, 54, 55, 56, 57, 43, 47]
theorem and63 (x : Int) : 0 ≤ Builtin.bitAnd x 63 ∧ Builtin.bitAnd x 63 < ((tbl.length : Nat) : Int) := by
  rw [bitAnd_m6]; show 0 ≤ x % 64 ∧ x % 64 < 64; omega
theorem and3 (x : Int) : 0 ≤ Builtin.bitAnd x 3 * 2 ^ Int.toNat 4 ∧ Builtin.bitAnd x 3 * 2 ^ Int.toNat 4 < ((tbl.length : Nat) : Int) := by
  rw [bitAnd_m2]; show 0 ≤ x % 4 * 16 ∧ x % 4 * 16 < 64; omega
theorem and15 (x : Int) : 0 ≤ Builtin.bitAnd x 15 * 2 ^ Int.toNat 2 ∧ Builtin.bitAnd x 15 * 2 ^ Int.toNat 2 < ((tbl.length : Nat) : Int) := by
  rw [bitAnd_m4]; show 0 ≤ x % 16 * 4 ∧ x % 16 * 4 < 64; omega

/-- a row as one number -/
def num (l : List Int) : Int := l.foldl (fun n b => 256 * n + b) 0
theorem num_nil : num [] = 0 := rfl
theorem num_snoc (l : List Int) (b : Int) : num (l ++ [b]) = 256 * num l + b := by simp [num]
theorem num_nonneg (l : List Int) (h : ∀ x ∈ l, 0 ≤ x) : 0 ≤ num l := by
  have : ∀ (l : List Int) (a : Int), 0 ≤ a → (∀ x ∈ l, 0 ≤ x) → 0 ≤ l.foldl (fun n b => 256 * n + b) a := by
    intro l
    induction l with
    | nil => intro a ha _; exact ha
    | cons b r ih =>
      intro a ha h
      refine ih _ ?_ fun x hx => h x (.tail _ hx)
      have := h b (.head _)
      show 0 ≤ 256 * a + b
      omega
  exact this l 0 (by decide) h
theorem num_lt (l : List Int) (h : ∀ x ∈ l, 0 ≤ x ∧ x ≤ 255) : num l < 256 ^ l.length := by
  have key : ∀ (r : List Int), (∀ x ∈ r, 0 ≤ x ∧ x ≤ 255) → ∀ l, num l < 256 ^ l.length → num (l ++ r) < 256 ^ (l ++ r).length := by
    intro r
    induction r with
    | nil => intro _ l hl; simpa using hl
    | cons b r ih =>
      intro h l hl
      have hb := h b (.head _)
      have : num (l ++ [b]) < 256 ^ (l ++ [b]).length := by
        rw [num_snoc, List.length_append, List.length_singleton, Int.pow_succ]
        omega
      have := ih (fun x hx => h x (.tail _ hx)) (l ++ [b]) this
      simpa using this
  simpa using key l h [] (by decide)
theorem num_small {l : List Int} (h : ∀ x ∈ l, 0 ≤ x ∧ x ≤ 255) (hl : l.length ≤ 9) : 0 ≤ num l ∧ num l < 4722366482869645213696 := by
  refine ⟨num_nonneg l fun x hx => (h x hx).1, ?_⟩
  have h1 := num_lt l h
  have : l.length = 0 ∨ l.length = 1 ∨ l.length = 2 ∨ l.length = 3 ∨ l.length = 4 ∨ l.length = 5 ∨ l.length = 6 ∨ l.length = 7 ∨ l.length = 8 ∨ l.length = 9 := by omega
  rcases this with e | e | e | e | e | e | e | e | e | e <;> rw [e] at h1 <;> omega
/-- the place of six bits that ends e bits from the right -/
def six (N : Int) (e : Nat) : Int := N / 2 ^ e % 64
theorem six_range (N : Int) (e : Nat) : 0 ≤ six N e ∧ six N e < 64 := by
  unfold six; generalize N / 2 ^ e = y; omega
theorem six_up (N n : Int) (h0 : 0 ≤ n) (h1 : n < 256) (e : Nat) : six (256 * N + n) (8 + e) = six N e := by
  unfold six
  have h : (256 * N + n) / 256 = N := by omega
  rw [Int.pow_add, ← Int.ediv_ediv_of_nonneg (by decide)]
  show (256 * N + n) / 256 / 2 ^ e % 64 = N / 2 ^ e % 64
  rw [h]
theorem bor (a n : Int) (ha : 0 ≤ a) (h0 : 0 ≤ n) (h1 : n < 256) : Builtin.bitOr (a * 2 ^ Int.toNat 8) n = a * 256 + n := by
  have hz : Builtin.bitAnd (a * 256) n = 0 := by
    obtain ⟨k, rfl⟩ : ∃ k : Nat, a = k := ⟨a.toNat, by omega⟩
    obtain ⟨j, rfl⟩ : ∃ j : Nat, n = j := ⟨n.toNat, by omega⟩
    have e : ((k : Int) * 256) = ((k * 256 : Nat) : Int) := by omega
    rw [e]
    unfold Builtin.bitAnd
    rw [decide_eq_true (by omega : (0 : Int) ≤ ((k * 256 : Nat) : Int)), decide_eq_true (by omega : (0 : Int) ≤ (j : Int))]
    show (((((k * 256 : Nat) : Int).toNat &&& ((j : Nat) : Int).toNat : Nat)) : Int) = 0
    rw [Int.toNat_natCast, Int.toNat_natCast]
    have : (k * 256) &&& j = 0 := by
      apply Nat.eq_of_testBit_eq
      intro i
      rw [Nat.testBit_and, Nat.zero_testBit, Nat.mul_comm, show (256 : Nat) = 2 ^ 8 from rfl, Nat.testBit_two_pow_mul]
      by_cases hi : 8 ≤ i
      · have : j.testBit i = false := Nat.testBit_lt_two_pow (Nat.lt_of_lt_of_le (by omega : j < 2 ^ 8) (Nat.pow_le_pow_right (by decide) hi))
        simp [this]
      · simp [hi]
    rw [this]; rfl
  have hx := bitXor_and (a * 256) n
  have : Builtin.bitXor (a * 256) n = Builtin.bitOr (a * 256) n - Builtin.bitAnd (a * 256) n := rfl
  show Builtin.bitOr (a * 256) n = a * 256 + n
  omega
/-- the char that the loop keeps -/
theorem keep16 (N n : Int) (_hN : 0 ≤ N) (h0 : 0 ≤ n) (h1 : n < 256) : Builtin.bitAnd (Builtin.bitOr (N % 65536 * 2 ^ Int.toNat 8) n) 65535 = (256 * N + n) % 65536 := by
  rw [bor _ _ (by omega) h0 h1, bitAnd_m16]; omega
theorem fdiv_six (M : Int) (e : Nat) (he : e ≤ 10) : Builtin.bitAnd ((M % 65536).fdiv (2 ^ e)) 63 = six M e := by
  rw [bitAnd_m6, Int.fdiv_eq_ediv_of_nonneg _ (by exact Int.le_of_lt (kbt_pos e))]
  unfold six
  have : e = 0 ∨ e = 1 ∨ e = 2 ∨ e = 3 ∨ e = 4 ∨ e = 5 ∨ e = 6 ∨ e = 7 ∨ e = 8 ∨ e = 9 ∨ e = 10 := by omega
  rcases this with rfl | rfl | rfl | rfl | rfl | rfl | rfl | rfl | rfl | rfl | rfl <;> omega

/-- the signs of the whole sixes of a row -/
def outs (l : List Int) (c : Nat) : List Int := (List.range c).map fun k => tbl.getD (six (num l) (8 * l.length - 6 * (k + 1))).toNat 0
theorem outs_succ (l : List Int) (c : Nat) : outs l (c + 1) = outs l c ++ [tbl.getD (six (num l) (8 * l.length - 6 * (c + 1))).toNat 0] := by
  simp [outs, List.range_succ]
theorem outs_up (l : List Int) (n : Int) (h0 : 0 ≤ n) (h1 : n < 256) (c : Nat) (hc : 6 * c ≤ 8 * l.length) : outs (l ++ [n]) c = outs l c := by
  unfold outs
  refine List.map_congr_left fun k hk => ?_
  have hk' := List.mem_range.mp hk
  rw [num_snoc, List.length_append, List.length_singleton, show 8 * (l.length + 1) - 6 * (k + 1) = 8 + (8 * l.length - 6 * (k + 1)) by omega, six_up _ _ h0 h1]
theorem tbl_mem {i : Nat} (hi : i < 64) : 0 ≤ tbl.getD i 0 ∧ tbl.getD i 0 < 256 := by
  have : ∀ i : Fin 64, 0 ≤ tbl.getD i.val 0 ∧ tbl.getD i.val 0 < 256 := by decide
  exact this ⟨i, hi⟩
theorem tbl_in (x : Int) : 0 ≤ tbl.getD x.toNat 0 ∧ tbl.getD x.toNat 0 < 256 := by
  by_cases h : x.toNat < 64
  · exact tbl_mem h
  · have : tbl.getD x.toNat 0 = 0 := by
      rw [List.getD_eq_getElem?_getD, List.getElem?_eq_none (by show 64 ≤ x.toNat; omega)]; rfl
    rw [this]; decide
theorem outs_in (l : List Int) (c : Nat) : ∀ v ∈ outs l c, 0 ≤ v ∧ v < 256 := by
  intro v hv
  obtain ⟨k, _, rfl⟩ := List.mem_map.mp hv
  exact tbl_in _
theorem outs_len (l : List Int) (c : Nat) : (outs l c).length = c := by simp [outs]

/-- what the loop of b2a_base64 holds behind the octets pre -/
def BInv (pre : List Int) (lb lc : Int) (out : List Int) : Prop :=
  lb = ((8 * pre.length % 6 : Nat) : Int) ∧ lc = num pre % 65536 ∧ out = outs pre (8 * pre.length / 6)
theorem BInv.nil : BInv [] 0 0 [] := ⟨rfl, rfl, rfl⟩
theorem BInv.step0 {pre : List Int} {n lc : Int} {out : List Int} (hp : ∀ x ∈ pre, 0 ≤ x) (h0 : 0 ≤ n) (h1 : n < 256) (hl : pre.length % 3 = 0) (h : BInv pre 0 lc out) :
    BInv (pre ++ [n]) (0 + 8 - 6) (Builtin.bitAnd (Builtin.bitOr (lc * 2 ^ Int.toNat 8) n) 65535)
      (out ++ [tbl.getD (Builtin.bitAnd ((Builtin.bitAnd (Builtin.bitOr (lc * 2 ^ Int.toNat 8) n) 65535).fdiv (2 ^ (0 + 8 - 6 : Int).toNat)) 63).toNat 0]) := by
  obtain ⟨_, rfl, rfl⟩ := h
  have hN := num_nonneg pre hp
  rw [keep16 _ _ hN h0 h1, fdiv_six _ _ (by decide)]
  refine ⟨by simp only [List.length_append, List.length_singleton]; omega, by rw [num_snoc], ?_⟩
  rw [List.length_append, List.length_singleton, show 8 * (pre.length + 1) / 6 = 8 * pre.length / 6 + 1 by omega, outs_succ, outs_up _ _ h0 h1 _ (by omega), num_snoc, List.length_append, List.length_singleton,
    show 8 * (pre.length + 1) - 6 * (8 * pre.length / 6 + 1) = (0 + 8 - 6 : Int).toNat by show _ = 2; omega]
theorem BInv.step1 {pre : List Int} {n lc : Int} {out : List Int} (hp : ∀ x ∈ pre, 0 ≤ x) (h0 : 0 ≤ n) (h1 : n < 256) (hl : pre.length % 3 = 1) (h : BInv pre 2 lc out) :
    BInv (pre ++ [n]) (2 + 8 - 6) (Builtin.bitAnd (Builtin.bitOr (lc * 2 ^ Int.toNat 8) n) 65535)
      (out ++ [tbl.getD (Builtin.bitAnd ((Builtin.bitAnd (Builtin.bitOr (lc * 2 ^ Int.toNat 8) n) 65535).fdiv (2 ^ (2 + 8 - 6 : Int).toNat)) 63).toNat 0]) := by
  obtain ⟨_, rfl, rfl⟩ := h
  have hN := num_nonneg pre hp
  rw [keep16 _ _ hN h0 h1, fdiv_six _ _ (by decide)]
  refine ⟨by simp only [List.length_append, List.length_singleton]; omega, by rw [num_snoc], ?_⟩
  rw [List.length_append, List.length_singleton, show 8 * (pre.length + 1) / 6 = 8 * pre.length / 6 + 1 by omega, outs_succ, outs_up _ _ h0 h1 _ (by omega), num_snoc, List.length_append, List.length_singleton,
    show 8 * (pre.length + 1) - 6 * (8 * pre.length / 6 + 1) = (2 + 8 - 6 : Int).toNat by show _ = 4; omega]
theorem BInv.step2 {pre : List Int} {n lc : Int} {out : List Int} (hp : ∀ x ∈ pre, 0 ≤ x) (h0 : 0 ≤ n) (h1 : n < 256) (hl : pre.length % 3 = 2) (h : BInv pre 4 lc out) :
    BInv (pre ++ [n]) (4 + 8 - 6 - 6) (Builtin.bitAnd (Builtin.bitOr (lc * 2 ^ Int.toNat 8) n) 65535)
      (out ++ [tbl.getD (Builtin.bitAnd ((Builtin.bitAnd (Builtin.bitOr (lc * 2 ^ Int.toNat 8) n) 65535).fdiv (2 ^ (4 + 8 - 6 : Int).toNat)) 63).toNat 0] ++ [tbl.getD (Builtin.bitAnd ((Builtin.bitAnd (Builtin.bitOr (lc * 2 ^ Int.toNat 8) n) 65535).fdiv (2 ^ (4 + 8 - 6 - 6 : Int).toNat)) 63).toNat 0]) := by
  obtain ⟨_, rfl, rfl⟩ := h
  have hN := num_nonneg pre hp
  rw [keep16 _ _ hN h0 h1, fdiv_six _ _ (by decide), fdiv_six _ _ (by decide)]
  refine ⟨by simp only [List.length_append, List.length_singleton]; omega, by rw [num_snoc], ?_⟩
  rw [List.length_append, List.length_singleton, show 8 * (pre.length + 1) / 6 = 8 * pre.length / 6 + 1 + 1 by omega, outs_succ, outs_succ, outs_up _ _ h0 h1 _ (by omega), num_snoc, List.length_append, List.length_singleton,
    show 8 * (pre.length + 1) - 6 * (8 * pre.length / 6 + 1) = (4 + 8 - 6 : Int).toNat by show _ = 6; omega,
    show 8 * (pre.length + 1) - 6 * (8 * pre.length / 6 + 1 + 1) = (4 + 8 - 6 - 6 : Int).toNat by show _ = 0; omega]
theorem BInv.cases {pre : List Int} {lb lc : Int} {out : List Int} (h : BInv pre lb lc out) : (lb = 0 ∧ pre.length % 3 = 0) ∨ (lb = 2 ∧ pre.length % 3 = 1) ∨ (lb = 4 ∧ pre.length % 3 = 2) := by
  have := h.1; omega
theorem BInv.len {pre : List Int} {lb lc : Int} {out : List Int} (h : BInv pre lb lc out) : out.length = 8 * pre.length / 6 := by rw [h.2.2, outs_len]

/-- the writing of a row in base 64, its signs' numbers -/
def enc (l : List Int) : List Int :=
  outs l (8 * l.length / 6) ++ (if l.length % 3 = 1 then [tbl.getD (num l % 4 * 16).toNat 0, 61, 61] else if l.length % 3 = 2 then [tbl.getD (num l % 16 * 4).toNat 0, 61] else [])
theorem enc_len (l : List Int) : (enc l).length ≤ 2 * l.length + 4 := by
  unfold enc
  rw [List.length_append, outs_len]
  split
  · simp; omega
  · split <;> simp <;> omega
theorem enc_in (l : List Int) : ∀ v ∈ enc l, 0 ≤ v ∧ v < 256 := by
  intro v hv
  unfold enc at hv
  rcases List.mem_append.mp hv with hv | hv
  · exact outs_in _ _ v hv
  · split at hv
    · simp only [List.mem_cons, List.not_mem_nil, or_false] at hv
      rcases hv with rfl | rfl | rfl
      · exact tbl_in _
      · decide
      · decide
    · split at hv
      · simp only [List.mem_cons, List.not_mem_nil, or_false] at hv
        rcases hv with rfl | rfl
        · exact tbl_in _
        · decide
      · cases hv

/-- the j-th place of a row, and a place among the slashes' -/
def plc (ir : List Int) (j : Nat) : Int := six (num ir * 2 ^ (6 * ((8 * ir.length + 5) / 6) - 8 * ir.length)) (6 * ((8 * ir.length + 5) / 6 - 1 - j))
def mask (sl : List Int) (p : Int) : Int := if (sl.any fun x => x == p) = true then -1 else p
/-- what _law_places reckons -/
def pls (ir sl : List Int) : List Int := (List.range ((8 * ir.length + 5) / 6)).map fun j => mask sl (plc ir j)
theorem plc_eq {ir : List Int} {q : Int} (hq1 : 6 * q ≤ 8 * (ir.length : Int) + 5 ∧ 8 * (ir.length : Int) < 6 * q + 1) {j : Nat} (hj : j < q.toNat) :
    ((num ir * 2 ^ (6 * q - 8 * (ir.length : Int)).toNat).fdiv (2 ^ (6 * (q - 1 + (j : Int) * -1)).toNat)).fmod 64 = plc ir j := by
  have e1 : (6 * q - 8 * (ir.length : Int)).toNat = 6 * ((8 * ir.length + 5) / 6) - 8 * ir.length := by omega
  have e2 : (6 * (q - 1 + (j : Int) * -1)).toNat = 6 * ((8 * ir.length + 5) / 6 - 1 - j) := by omega
  rw [e1, e2, Int.fmod_eq_emod_of_nonneg _ (by decide), Int.fdiv_eq_ediv_of_nonneg _ (Int.le_of_lt (kbt_pos _))]
  rfl
theorem pls_len (ir sl : List Int) : (pls ir sl).length = (8 * ir.length + 5) / 6 := by simp [pls]
end Mine
end PartM1

section PartW1
open PySem PySem.W PyProof.Rows PySem.Calls
namespace Mine

/-- how a turn ends: two ints and one list of ints may have turned -/
def End2 (s : Shared) (h₀ : Heap) (L : Addr) (x y1 y2 : Str) (D : Addr) (m₀ : Str → Option Value) (tl : List (Addr × Obj)) (P : Int → Int → List Int → Prop) (f : Flow) (s₂ : Shared) : Prop :=
  f = .next ∧ ∃ h' tk' m' lb' t1' lc' t2' vs' out' k', s₂ = { s with heap := h', toks := tk' } ∧ Fr h₀ L h' m' ∧ News h₀ L h' ((D, listOf vs'.toArray k') :: tl) ∧ IntsAre vs' out' ∧
    m' y1 = some (.int lb' t1') ∧ m' y2 = some (.int lc' t2') ∧ (∀ z, z ≠ x → z ≠ y1 → z ≠ y2 → m' z = m₀ z) ∧ P lb' lc' out'

theorem End2.intro {s : Shared} {h₀ : Heap} {L : Addr} {x y1 y2 : Str} {D : Addr} {m₀ m' : Str → Option Value} {tl : List (Addr × Obj)} {P : Int → Int → List Int → Prop} {h' : Heap} {tk' : Nat} {lb' lc' : Int} {t1' t2' : Tok} {vs' : List Value} {out' : List Int} {k' : Nat}
    (F : Fr h₀ L h' m') (N : News h₀ L h' ((D, listOf vs'.toArray k') :: tl)) (hi : IntsAre vs' out') (q1 : m' y1 = some (.int lb' t1')) (q2 : m' y2 = some (.int lc' t2')) (q3 : ∀ z, z ≠ x → z ≠ y1 → z ≠ y2 → m' z = m₀ z) (hP : P lb' lc' out') :
    End2 s h₀ L x y1 y2 D m₀ tl P .next { s with heap := h', toks := tk' } := ⟨rfl, h', tk', m', lb', t1', lc', t2', vs', out', k', rfl, F, N, hi, q1, q2, q3, hP⟩

theorem End2.intro1 {s : Shared} {h₀ : Heap} {L : Addr} {x y1 y2 : Str} {D : Addr} {m₀ m' : Str → Option Value} {tl : List (Addr × Obj)} {P : Int → Int → List Int → Prop} {h' : Heap} {tk' : Nat} {lb' lc' v : Int} {t1' t2' t : Tok} {vs : List Value} {out : List Int} {k' : Nat}
    (F : Fr h₀ L h' m') (N : News h₀ L h' ((D, listOf (vs.toArray.push (.int v t)) k') :: tl)) (hi : IntsAre vs out) (q1 : m' y1 = some (.int lb' t1')) (q2 : m' y2 = some (.int lc' t2')) (q3 : ∀ z, z ≠ x → z ≠ y1 → z ≠ y2 → m' z = m₀ z) (hP : P lb' lc' (out ++ [v])) :
    End2 s h₀ L x y1 y2 D m₀ tl P .next { s with heap := h', toks := tk' } := by
  rw [List.push_toArray] at N
  exact End2.intro F N (hi.append (.cons _ _ .nil)) q1 q2 q3 hP
theorem End2.intro2 {s : Shared} {h₀ : Heap} {L : Addr} {x y1 y2 : Str} {D : Addr} {m₀ m' : Str → Option Value} {tl : List (Addr × Obj)} {P : Int → Int → List Int → Prop} {h' : Heap} {tk' : Nat} {lb' lc' v v2 : Int} {t1' t2' t u : Tok} {vs : List Value} {out : List Int} {k' : Nat}
    (F : Fr h₀ L h' m') (N : News h₀ L h' ((D, listOf ((vs ++ [Value.int v t]).toArray.push (.int v2 u)) k') :: tl)) (hi : IntsAre vs out) (q1 : m' y1 = some (.int lb' t1')) (q2 : m' y2 = some (.int lc' t2')) (q3 : ∀ z, z ≠ x → z ≠ y1 → z ≠ y2 → m' z = m₀ z) (hP : P lb' lc' (out ++ [v] ++ [v2])) :
    End2 s h₀ L x y1 y2 D m₀ tl P .next { s with heap := h', toks := tk' } := by
  rw [List.push_toArray] at N
  exact End2.intro F N ((hi.append (.cons _ _ .nil)).append (.cons _ _ .nil)) q1 q2 q3 hP

section
variable {prog : Program} {w : World} {A : Around} {E : Value → Shared → Prop} {s : Shared} {env : Env} {h₀ : Heap} {x : Str} {body : List Stmt} {Q : Flow → Shared → Prop}

theorem bytes_loop2 {b : Array UInt8} {tb : Tok} {m₀ : Str → Option Value} {D : Addr} {vs₀ : List Value} {out₀ : List Int} {k₀ : Nat} {news : List (Addr × Obj)} (y1 y2 : Str) {lb₀ lc₀ : Int} {t1₀ t2₀ : Tok}
    (P : List Int → Int → Int → List Int → Prop) (hh : A.handled = none) (F : Fr h₀ env.locals s.heap m₀) (N : News h₀ env.locals s.heap ((D, listOf vs₀.toArray k₀) :: news))
    (hD : ∀ p ∈ news, p.1 ≠ D) (hi : IntsAre vs₀ out₀) (e1 : m₀ y1 = some (.int lb₀ t1₀)) (e2 : m₀ y2 = some (.int lc₀ t2₀)) (hp : P [] lb₀ lc₀ out₀)
    (turn : ∀ pre post n t lb t1 lc t2 vs out k tl h tk, KBw.bInts b = pre ++ n :: post → 0 ≤ n → n < 256 → IntsAre vs out → P pre lb lc out → (∀ p ∈ tl, p.1 ≠ D) →
      Fr h₀ env.locals h (fun y => if y = x then some (.int n t) else if y = y1 then some (.int lb t1) else if y = y2 then some (.int lc t2) else m₀ y) → News h₀ env.locals h ((D, listOf vs.toArray k) :: tl) →
      wpAny (model prog w) A (execs body env) (End2 s h₀ env.locals x y1 y2 D m₀ tl (P (pre ++ [n]))) E { s with heap := h, toks := tk })
    (done : ∀ lb t1 lc t2 vs out k (u : Str → Option Value) h tk, IntsAre vs out → P (KBw.bInts b) lb lc out →
      Fr h₀ env.locals h (fun y => if y = x then u y else if y = y1 then some (.int lb t1) else if y = y2 then some (.int lc t2) else m₀ y) → News h₀ env.locals h ((D, listOf vs.toArray k) :: news) → Q .next { s with heap := h, toks := tk }) :
    wpAny (model prog w) A (pyIter (.bytes b tb)) (fun it s₂ => LoopAtV prog w A h₀ env x body Q E it s₂) E s := by
  refine KStb.kst_bytes (σ := Int × Tok × Int × Tok × List Value × List Int × Nat) (ks := KBw.bInts b) (len := (KBw.bInts b).length) (m₀ := m₀)
    (fun c => (D, listOf c.2.2.2.2.1.toArray c.2.2.2.2.2.2) :: news) (fun c => [(y1, .int c.1 c.2.1), (y2, .int c.2.2.1 c.2.2.2.1)]) (fun c => IntsAre c.2.2.2.2.1 c.2.2.2.2.2.1) []
    (fun pre c => P pre c.1 c.2.2.1 c.2.2.2.2.2.1) (lb₀, t1₀, lc₀, t2₀, vs₀, out₀, k₀) rfl rfl hh F N hi ?_ hp ?_ ?_
  · intro p hp
    rcases List.mem_cons.mp hp with rfl | hp
    · exact e1
    · rw [List.mem_singleton.mp hp]; exact e2
  · rintro ⟨lb, t1, lc, t2, vs, out, k⟩ pre post n t u h tk own he _ hn0 hn1 hoff hf hpp F₁ N₁
    have hcont : ∀ z : Str, (([] : List Str).contains z) = false := fun _ => rfl
    simp only [kstB, hcont, Bool.false_eq_true, if_false, ite_false] at F₁
    have N₂ : News h₀ env.locals h ((D, listOf vs.toArray k) :: (news ++ own)) := by simpa using N₁
    have hD' : ∀ p ∈ news ++ own, p.1 ≠ D := by
      intro p hp
      rcases List.mem_append.mp hp with hp | hp
      · exact hD p hp
      · exact hoff p hp D (by simp)
    refine wpAny_mono (turn pre post n t lb t1 lc t2 vs out k (news ++ own) h tk he hn0 hn1 hf hpp hD' F₁ N₂) (fun f s₂ p => ?_) fun _ _ e => e
    obtain ⟨rfl, h', tk', m', lb', t1', lc', t2', vs', out', k', rfl, F', N', hi', q1, q2, q3, hP'⟩ := p
    refine ⟨h', tk', m', _, (D, listOf vs'.toArray k') :: news, rfl, F', N', ?_, ?_, rfl, ⟨(lb', t1', lc', t2', vs', out', k'), rfl, hi', ?_, ?_, hP'⟩⟩
    · intro p hp
      rcases List.mem_cons.mp hp with rfl | hp
      · exact .head _
      · exact .tail _ (List.mem_append_left _ hp)
    · intro p hp
      exact .tail _ (List.mem_append_right _ hp)
    · intro p hp
      rcases List.mem_cons.mp hp with rfl | hp
      · exact q1
      · rw [List.mem_singleton.mp hp]; exact q2
    · intro z hz hzp _
      exact q3 z hz (hzp (y1, _) (.head _)) (hzp (y2, _) (.tail _ (.head _)))
  · rintro ⟨lb, t1, lc, t2, vs, out, k⟩ u h tk _ hf hpp F₁ N₁
    have hcont : ∀ z : Str, (([] : List Str).contains z) = false := fun _ => rfl
    simp only [kstB, hcont, Bool.false_eq_true, if_false, ite_false] at F₁
    exact done lb t1 lc t2 vs out k u h tk hf hpp F₁ N₁
end
end Mine
end PartW1

section PartW2
open PySem PySem.W PyProof.Rows PySem.Calls PyProof.Rows.LCg
namespace Mine

def ItAt (prog : Program) (w : World) (A : Around) (h₀ : Heap) (L : Addr) (m : Str → Option Value) (env : Env) (elt : Expr) (x : Str) (scope : Scope) (cl : List (Str × Addr)) (Fin : Shared → List Value → List (Addr × Obj) → Prop) (iv : Value) (s₂ : Shared) : Prop :=
  ∃ I fp n P St S news, iv = .ref I ∧ Walks prog w A I fp [I] n P St ∧ n ≤ sizeLine ∧ (∀ i h, St i h → ∃ o, h.get? I = some o) ∧
    (∀ i h h' o nw, St i h → h.get? I = some o → h'.get? I = some o → (∀ b o, h₀.get? b = some o → h'.get? b = some o) → News h₀ L h' nw → S nw → St i h') ∧
    St 0 s₂.heap ∧ (∀ b ∈ fp, b < s₂.heap.objs.size) ∧ Fr h₀ L s₂.heap m ∧ News h₀ L s₂.heap news ∧ L ≠ I ∧ h₀.get? I = none ∧ (∀ p ∈ news, p.1 ≠ I) ∧ S news ∧
    CompRest prog w A h₀ L m env elt x scope cl s₂ S P (Fin s₂) n 0 [] news

section
variable {prog : Program} {w : World} {A : Around} {E : Value → Shared → Prop} {s : Shared} {h₀ : Heap} {L : Addr} {m : Str → Option Value} {env : Env}

theorem ListComp_W {elt iter : Expr} {x : Str} {px : Pos} {scope : Scope} {cl : List (Str × Addr)} {pos : Pos} {Q : Value → Shared → Prop} (_F₀ : Fr h₀ L s.heap m)
    (hclos : closureFor scope env = pure cl) (hcell : ∀ y ∈ scope.names, y.2 ≠ .cell) (hkind : scope.kind = .function)
    (hnames : ∀ y ∈ scope.names, y.2 = .local → scope.names.lookup y.1 = some .local) (hx : scope.names.lookup x = some .local)
    (h : wpAny (model prog w) A (eval iter env) (fun xv s₁ => wpAny (model prog w) A (pyIter xv) (ItAt prog w A h₀ L m env elt x scope cl (fun s₂ => FinE h₀ L m s₂ Q)) E s₁) E s)
    (hs : ∀ x, foldedSetIterable iter env x = pure x := by intro _; rfl) :
    wpAny (model prog w) A (eval (.ListComp elt [⟨.Name x px, iter, [], 0⟩] scope pos) env) Q E s := by
  rw [eval_ListComp]
  refine wpAny_comprehension_free (use := none) rfl hs hclos hkind hnames (wpAny_mono h (fun xv s₁ h₁ => ?_) fun _ _ e => e)
  refine wpAny_mono h₁ (fun iv s₂ h₂ => ?_) fun _ _ e => e
  obtain ⟨I, fp, n, P, St, S, news, rfl, W, hsz, hIo, hSt, st0, hfp, F, N, hIL, hI0, off, hS, R⟩ := h₂
  refine block_U W hsz hIo hSt hcell hkind hx st0 hfp F N hIL hI0 off hS R ?_
  intro D C h tk m' ys news' F' N' o1 hn hC₀ hD₀ hCL hDL hCD offC fin
  refine ⟨m', hn, fun h'' hs'' => fin D h'' tk (F'.change hs'' hCL hC₀) (fun p hp => ?_) o1⟩
  refine ⟨hs''.extBut _ _ ?_ (N' p hp).1, (N' p hp).2⟩
  rcases List.mem_cons.mp hp with rfl | hp
  · exact Ne.symm hCD
  · exact offC p hp

theorem Assign_W {elt iter : Expr} {x y : Str} {px py : Pos} {scope : Scope} {cl : List (Str × Addr)} {pos spos : Pos} {Q : Flow → Shared → Prop} (_F₀ : Fr h₀ L s.heap m) (hLe : env.locals = L)
    (hsw : swapsWith (.ListComp elt [⟨.Name x px, iter, [], 0⟩] scope pos) (some (.Name y py)) spos.line env = pure true)
    (hclos : closureFor scope env = pure cl) (hcell : ∀ z ∈ scope.names, z.2 ≠ .cell) (hkind : scope.kind = .function)
    (hnames : ∀ z ∈ scope.names, z.2 = .local → scope.names.lookup z.1 = some .local) (hx : scope.names.lookup x = some .local)
    (hy : env.kindOf y = some .local) (hp : (env.scope.kind == .class || (env.scope.kind == .module && env.locals != env.globals)) = false)
    (h : wpAny (model prog w) A (eval iter env) (fun xv s₁ => wpAny (model prog w) A (pyIter xv) (ItAt prog w A h₀ L m env elt x scope cl (fun s₂ => FinA h₀ L m s₂ y Q)) E s₁) E s)
    (hs : ∀ x, foldedSetIterable iter env x = pure x := by intro _; rfl) :
    wpAny (model prog w) A (exec (.Assign [.Name y py] (.ListComp elt [⟨.Name x px, iter, [], 0⟩] scope pos) spos) env) Q E s := by
  subst hLe
  rw [exec_Assign_Name_used _ _ _ _ hsw]
  refine wpAny_bind (wpAny_standAt (wpAny_bind ?_))
  show wpAny _ A (do let _ ← comprehension (.ListComp elt [⟨.Name x px, iter, [], 0⟩] scope pos) scope env _ (newList []) false (eval iter env) (some (assign (.Name y py) env))) _ _ s
  refine wpAny_bind (wpAny_mono (wpAny_comprehension_free (use := some (assign (.Name y py) env)) (Q := fun _ s' => Q .next s') rfl hs hclos hkind hnames
    (wpAny_mono h (fun xv s₁ h₁ => ?_) fun _ _ e => e)) (fun _ s' hq => wpAny_pure (wpAny_pure hq)) fun _ _ e => e)
  refine wpAny_mono h₁ (fun iv s₂ h₂ => ?_) fun _ _ e => e
  obtain ⟨I, fp, n, P, St, S, news, rfl, W, hsz, hIo, hSt, st0, hfp, F, N, hIL, hI0, off, hS, R⟩ := h₂
  refine block_U W hsz hIo hSt hcell hkind hx st0 hfp F N hIL hI0 off hS R ?_
  intro D C h' tk m' ys news' F' N' o1 hn hC₀ hD₀ hCL hDL hCD offC fin
  show wpAny _ A (assign (.Name y py) env (.ref D)) _ _ _
  refine wpAny_assign_Name (wpAny_storeName_local hy F'.ns (fun h₂ hn₂ hs₂ => ?_) hp)
  have hL₀ : h₀.get? env.locals = none := Heap.get?_none_of_le F'.above
  have F₂ : Fr h₀ env.locals h₂ (fun z => if z = y then some (.ref D) else m z) := ⟨hn₂, fun b o e => hs₂.extBut b o (fun q => by rw [q, hL₀] at e; cases e) (F'.keep b o e), F'.above⟩
  refine ⟨m', hn.sameBut hs₂ hCL, fun h'' hs'' => fin D h'' _ (F₂.change hs'' hCL hC₀) (fun p hp => ?_) o1⟩
  have z : h₂.get? p.1 = some p.2 := hs₂.extBut _ _ (N' p hp).2.1 (N' p hp).1
  refine ⟨hs''.extBut _ _ ?_ z, (N' p hp).2⟩
  rcases List.mem_cons.mp hp with rfl | hp
  · exact Ne.symm hCD
  · exact offC p hp

/-- over a range of any step -/
theorem itAt_range {elt : Expr} {x : Str} {scope : Scope} {cl : List (Str × Addr)} {Fin : Shared → List Value → List (Addr × Obj) → Prop} {r : Addr} {a b c : Int} {t u v : Tok} {n : Nat} {news : List (Addr × Obj)}
    (hh : A.handled = none) (F : Fr h₀ L s.heap m) (N : News h₀ L s.heap news) (hr : IsRange s.heap r a b c t u v) (hsm : Builtin.Range.small a b c = true) (hn : Builtin.Range.rangeSize a b c = ((n : Nat) : Int)) (hsz : n ≤ sizeLine)
    (h : ∀ g, CompRest prog w A h₀ L m env elt x scope cl { s with heap := g } (fun _ => True) (fun i v => ∃ t, v = .int (a + (i : Int) * c) t) (Fin { s with heap := g }) n 0 [] news) :
    wpAny (model prog w) A (pyIter (.ref r)) (ItAt prog w A h₀ L m env elt x scope cl Fin) E s := by
  refine wpAny_pyIter_range hr hsm ?_
  refine ⟨_, [s.heap.objs.size], n, _, _, fun _ => True, news, rfl, Walks.range hh s.heap.objs.size a c n, hsz, fun i h st => ⟨_, st⟩, ?_, ?_, ?_, F.push _, fun p hp => ⟨Heap.get?_push_of_some _ (N p hp).1, (N p hp).2⟩, Nat.ne_of_lt F.ns.lt, next_is_new F,
    fun p hp => Nat.ne_of_lt (Heap.lt_size (N p hp).1), trivial, h _⟩
  · intro i h h' o nw st e e' _ _ _
    have st' : h.get? s.heap.objs.size = some _ := st
    show h'.get? s.heap.objs.size = some _
    rw [e', ← e]; exact st'
  · show IsRangeIter _ _ _ _ _
    rw [hn]; simpa using Heap.get?_push_size _ rfl
  · intro b hb
    rw [List.mem_singleton.mp hb]
    show s.heap.objs.size < (s.heap.push _).objs.size
    rw [Heap.size_push]; exact Nat.lt_succ_self _

/-- over a list of the ledger -/
theorem itAt_list {elt : Expr} {x : Str} {scope : Scope} {cl : List (Str × Addr)} {Fin : Shared → List Value → List (Addr × Obj) → Prop} {ax : Addr} {its : Array Value} {k : Nat} {news : List (Addr × Obj)}
    (hh : A.handled = none) (F : Fr h₀ L s.heap m) (N : News h₀ L s.heap news) (hm : (ax, listOf its k) ∈ news) (hsz : its.size ≤ sizeLine)
    (h : ∀ g, CompRest prog w A h₀ L m env elt x scope cl { s with heap := g } (SrcAt h₀ ax its) (fun i v => its[i]? = some v) (Fin { s with heap := g }) its.size 0 [] news) :
    wpAny (model prog w) A (pyIter (.ref ax)) (ItAt prog w A h₀ L m env elt x scope cl Fin) E s := by
  have S : SrcAt h₀ ax its news := .inr ⟨_, hm, rfl, _, rfl⟩
  have hl := S.list F.keep N
  have hlt : ax < s.heap.objs.size := by obtain ⟨_, e, _⟩ := hl; exact Heap.lt_size e
  refine wpAny_pyIter_list hl ?_
  refine ⟨_, _, _, _, _, SrcAt h₀ ax its, news, rfl, Walks.list hh s.heap.objs.size ax (Nat.ne_of_lt hlt) its, hsz, (fun i h st => by obtain ⟨o, e, _⟩ := st.1; exact ⟨o, e⟩), list_st, ⟨⟨_, Heap.get?_push_size _ rfl, rfl, rfl⟩, hl.push _⟩, (fun b hb => ?_), F.push _,
    (fun p hp => ⟨Heap.get?_push_of_some _ (N p hp).1, (N p hp).2⟩), Nat.ne_of_lt F.ns.lt, next_is_new F, (fun p hp => Nat.ne_of_lt (Heap.lt_size (N p hp).1)), S, h _⟩
  show b < (s.heap.push _).objs.size
  rw [Heap.size_push]
  rcases List.mem_cons.mp hb with rfl | hb
  · exact Nat.lt_succ_self _
  · rw [List.mem_singleton.mp hb]; exact Nat.lt_succ_of_lt hlt

/-- over bytes -/
theorem itAt_bytes {elt : Expr} {x : Str} {scope : Scope} {cl : List (Str × Addr)} {Fin : Shared → List Value → List (Addr × Obj) → Prop} {b : Array UInt8} {tb : Tok} {news : List (Addr × Obj)}
    (hh : A.handled = none) (F : Fr h₀ L s.heap m) (N : News h₀ L s.heap news) (hsz : b.size ≤ sizeLine)
    (h : ∀ g, CompRest prog w A h₀ L m env elt x scope cl { s with heap := g } (fun _ => True) (fun i v => ∃ n t, (KBw.bInts b)[i]? = some n ∧ v = .int n t) (Fin { s with heap := g }) b.size 0 [] news) :
    wpAny (model prog w) A (pyIter (.bytes b tb)) (ItAt prog w A h₀ L m env elt x scope cl Fin) E s := by
  refine KBw.pyIter_bytes ?_
  have W := KBw.walks (prog := prog) (w := w) hh s.heap.objs.size b tb
  have W' : Walks prog w A s.heap.objs.size [s.heap.objs.size] [s.heap.objs.size] b.size (fun i v => ∃ n t, (KBw.bInts b)[i]? = some n ∧ v = .int n t) _ :=
    { sub := W.sub, frame := W.frame, done := W.done, self := W.self,
      item := fun i s Q E hi st hQ => W.item i s Q E hi st fun v h' tk hP => hQ v h' tk (by obtain ⟨n, t, hn, rfl⟩ := hP; exact ⟨_, t, KBw.ints_get hn, rfl⟩) }
  refine ⟨_, [s.heap.objs.size], b.size, _, _, fun _ => True, news, rfl, W', hsz, fun i h st => by obtain ⟨o, e, _⟩ := st; exact ⟨o, e⟩, ?_, ?_, ?_, F.push _, fun p hp => ⟨Heap.get?_push_of_some _ (N p hp).1, (N p hp).2⟩, Nat.ne_of_lt F.ns.lt, next_is_new F,
    fun p hp => Nat.ne_of_lt (Heap.lt_size (N p hp).1), trivial, h _⟩
  · intro i h h' o nw st e e' _ _ _
    obtain ⟨o', q, r⟩ := st
    rw [e] at q; cases q
    exact ⟨o, e', r⟩
  · exact ⟨_, Heap.get?_push_size _ rfl, rfl, rfl⟩
  · intro b hb
    rw [List.mem_singleton.mp hb]
    show s.heap.objs.size < (s.heap.push _).objs.size
    rw [Heap.size_push]; exact Nat.lt_succ_self _

/-- an element's evaluation that leaves the ledger -/
def ElEnd (s : Shared) (h₀ : Heap) (L : Addr) (m : Str → Option Value) (led : List (Addr × Obj)) (R : Value → Prop) (y : Value) (s₂ : Shared) : Prop :=
  ∃ h' tk', s₂ = { s with heap := h', toks := tk' } ∧ Fr h₀ L h' m ∧ News h₀ L h' led ∧ R y
theorem ElEnd.intro {led : List (Addr × Obj)} {R : Value → Prop} {y : Value} {h' : Heap} {tk' : Nat} (F : Fr h₀ L h' m) (N : News h₀ L h' led) (r : R y) : ElEnd s h₀ L m led R y { s with heap := h', toks := tk' } := ⟨h', tk', rfl, F, N, r⟩

theorem compRest_all {elt : Expr} {x : Str} {scope : Scope} {cl : List (Str × Addr)} {S : List (Addr × Obj) → Prop} {P : Nat → Value → Prop} {Fin : List Value → List (Addr × Obj) → Prop} {news : List (Addr × Obj)} (R : Nat → Value → Prop) (hS : S news) {n : Nat}
    (el : ∀ j v I oI C oC D ys m₂ h tk (E' : Value → Shared → Prop), j < n → P j v → NsObj oC m₂ → m₂ x = some v → Fr h₀ L h m → News h₀ L h ((I, oI) :: (C, oC) :: (D, lst ys) :: news) → Off3 I C D news → ((@Ne Nat I C) ∧ (@Ne Nat I D) ∧ (@Ne Nat C D)) →
      wpAny (model prog w) A (eval elt (compEnvC scope cl C env)) (ElEnd s h₀ L m ((I, oI) :: (C, oC) :: (D, lst ys) :: news) (R j)) E' { s with heap := h, toks := tk })
    (fin : ∀ ys : List Value, ys.length = n → (∀ j y, ys[j]? = some y → R j y) → Fin ys news) :
    ∀ (k i : Nat) (ys : List Value), i + k = n → ys.length = i → (∀ j y, ys[j]? = some y → R j y) → CompRest prog w A h₀ L m env elt x scope cl s S P Fin k i ys news
  | 0, i, ys, hk, hl, hr => CompRest.zero (fin ys (by omega) hr)
  | k + 1, i, ys, hk, hl, hr => by
    refine CompRest.succ ?_
    intro v I oI C oC D m₂ h tk E' hP hC hx F N off ne
    refine wpAny_mono (el i v I oI C oC D ys m₂ h tk E' (by omega) hP hC hx F N off ne) (fun y s₂ h₂ => ?_) fun _ _ e => e
    obtain ⟨h', tk', rfl, F', N', r⟩ := h₂
    refine CompEnd.intro F' N' news (fun p hp => hp) off hS ?_
    refine compRest_all R hS el fin k (i + 1) (ys ++ [y]) (by omega) (by rw [List.length_append, hl]; rfl) ?_
    intro j z hz
    by_cases hj : j < i
    · rw [List.getElem?_append_left (by omega)] at hz
      exact hr j z hz
    · have hj2 : j < (ys ++ [y]).length := (List.getElem?_eq_some_iff.mp hz).1
      rw [List.length_append, hl] at hj2
      have : j = i := by simp at hj2; omega
      subst this
      rw [List.getElem?_append_right (by omega)] at hz
      rw [hl, Nat.sub_self] at hz
      cases hz
      exact r
end
theorem off1_ne {D : Addr} : ∀ {l : List (Addr × Obj)}, Off1 D l → ∀ p ∈ l, p.1 ≠ D
  | [], _, _, h => nomatch h
  | _ :: _, x, p, h => by
    rcases List.mem_cons.mp h with rfl | h
    · exact x.1
    · exact off1_ne x.2 p h
theorem intsAre_of : ∀ (ys : List Value) (f : Nat → Int), (∀ j y, ys[j]? = some y → ∃ t, y = Value.int (f j) t) → IntsAre ys ((List.range ys.length).map f)
  | [], _, _ => .nil
  | y :: r, f, h => by
    obtain ⟨t, rfl⟩ := h 0 y rfl
    have := intsAre_of r (fun j => f (j + 1)) fun j z hz => h (j + 1) z (by simpa using hz)
    rw [List.length_cons, List.range_succ_eq_map, List.map_cons, List.map_map]
    exact .cons _ _ this
end Mine
end PartW2

section PartW3
open PySem PySem.W PyProof.Rows PySem.Calls
namespace Mine
/-- how a turn ends that turns one cell's int -/
def EndC (s : Shared) (h₀ : Heap) (L : Addr) (x : Str) (C : Addr) (m₀ : Str → Option Value) (tl : List (Addr × Obj)) (P : Int → Prop) (f : Flow) (s₂ : Shared) : Prop :=
  f = .next ∧ ∃ h' tk' m' o' v' u', s₂ = { s with heap := h', toks := tk' } ∧ Fr h₀ L h' m' ∧ News h₀ L h' ((C, o') :: tl) ∧ o'.data = .cell (some (.int v' u')) ∧ (∀ z, z ≠ x → m' z = m₀ z) ∧ P v'
theorem EndC.intro {s : Shared} {h₀ : Heap} {L : Addr} {x : Str} {C : Addr} {m₀ m' : Str → Option Value} {tl : List (Addr × Obj)} {P : Int → Prop} {h' : Heap} {tk' : Nat} {o' : Obj} {v' : Int} {u' : Tok}
    (F : Fr h₀ L h' m') (N : News h₀ L h' ((C, o') :: tl)) (d : o'.data = .cell (some (.int v' u'))) (q : ∀ z, z ≠ x → m' z = m₀ z) (hP : P v') : EndC s h₀ L x C m₀ tl P .next { s with heap := h', toks := tk' } :=
  ⟨rfl, h', tk', m', o', v', u', rfl, F, N, d, q, hP⟩
section
variable {prog : Program} {w : World} {A : Around} {E : Value → Shared → Prop} {s : Shared} {env : Env} {h₀ : Heap} {x : Str} {body : List Stmt} {Q : Flow → Shared → Prop}
theorem list_loopC {l C : Addr} {vs : List Value} {ns : List Int} {nn : Nat} {m₀ : Str → Option Value} {news : List (Addr × Obj)} {o₀ : Obj} {v₀ : Int} {u₀ : Tok} (P : List Int → Int → Prop)
    (hh : A.handled = none) (F : Fr h₀ env.locals s.heap m₀) (N : News h₀ env.locals s.heap ((C, o₀) :: news)) (d₀ : o₀.data = .cell (some (.int v₀ u₀))) (hC : ∀ p ∈ news, p.1 ≠ C) (hl : (l, listOf vs.toArray nn) ∈ news) (hi : IntsAre vs ns) (hp : P [] v₀)
    (turn : ∀ pre post n t o v u tl h tk, ns = pre ++ n :: post → o.data = .cell (some (.int v u)) → P pre v → (∀ p ∈ tl, p.1 ≠ C) →
      Fr h₀ env.locals h (fun y => if y = x then some (.int n t) else m₀ y) → News h₀ env.locals h ((C, o) :: tl) →
      wpAny (model prog w) A (execs body env) (EndC s h₀ env.locals x C m₀ tl (P (pre ++ [n]))) E { s with heap := h, toks := tk })
    (done : ∀ o v u (w : Str → Option Value) h tk, o.data = .cell (some (.int v u)) → P ns v → Fr h₀ env.locals h (fun y => if y = x then w y else m₀ y) → News h₀ env.locals h ((C, o) :: news) → Q .next { s with heap := h, toks := tk }) :
    wpAny (model prog w) A (pyIter (.ref l)) (fun it s₂ => LoopAtV prog w A h₀ env x body Q E it s₂) E s := by
  refine kst_listL (σ := Obj × Int × Tok) (m₀ := m₀) (fun c => (C, c.1) :: news) (fun _ => []) (fun c => c.1.data = .cell (some (.int c.2.1 c.2.2))) [] (fun pre c => P pre c.2.1) (o₀, v₀, u₀) hh (fun c => .tail _ hl) hi F N d₀ (fun p hp => (nomatch hp)) hp ?_ ?_
  · rintro ⟨o, v, u⟩ pre post n t uu h tk own he _ hoff hf hpp F₁ N₁
    have hcont : ∀ z : Str, (([] : List Str).contains z) = false := fun _ => rfl
    simp only [kstB, hcont, Bool.false_eq_true, if_false] at F₁
    have N₂ : News h₀ env.locals h ((C, o) :: (news ++ own)) := by simpa using N₁
    have hC' : ∀ p ∈ news ++ own, p.1 ≠ C := by
      intro p hp
      rcases List.mem_append.mp hp with hp | hp
      · exact hC p hp
      · exact hoff p hp C (by simp)
    refine wpAny_mono (turn pre post n t o v u (news ++ own) h tk he hf hpp hC' F₁ N₂) (fun f s₂ p => ?_) fun _ _ e => e
    obtain ⟨rfl, h', tk', m', o', v', u', rfl, F', N', d', q, hP'⟩ := p
    refine ⟨h', tk', m', _, (C, o') :: news, rfl, F', N', ?_, ?_, rfl, ⟨(o', v', u'), rfl, d', (fun p hp => (nomatch hp)), ?_, hP'⟩⟩
    · intro p hp
      rcases List.mem_cons.mp hp with rfl | hp
      · exact .head _
      · exact .tail _ (List.mem_append_left _ hp)
    · intro p hp
      exact .tail _ (List.mem_append_right _ hp)
    · intro z hz _ _
      exact q z hz
  · rintro ⟨o, v, u⟩ uu h tk hf hpp F₁ N₁
    have hcont : ∀ z : Str, (([] : List Str).contains z) = false := fun _ => rfl
    simp only [kstB, hcont, Bool.false_eq_true, if_false] at F₁
    exact done o v u uu h tk hf hpp F₁ N₁
end
end Mine
end PartW3

section PartW4
open PySem PySem.W PyProof.Rows PySem.Calls
namespace Mine
/-- how a turn ends that grows one list of ints -/
def EndL (s : Shared) (h₀ : Heap) (L : Addr) (x : Str) (D : Addr) (m₀ : Str → Option Value) (tl : List (Addr × Obj)) (P : List Int → Prop) (f : Flow) (s₂ : Shared) : Prop :=
  f = .next ∧ ∃ h' tk' m' vs' out' k', s₂ = { s with heap := h', toks := tk' } ∧ Fr h₀ L h' m' ∧ News h₀ L h' ((D, listOf vs'.toArray k') :: tl) ∧ IntsAre vs' out' ∧ (∀ z, z ≠ x → m' z = m₀ z) ∧ P out'
theorem EndL.intro {s : Shared} {h₀ : Heap} {L : Addr} {x : Str} {D : Addr} {m₀ m' : Str → Option Value} {tl led : List (Addr × Obj)} {P : List Int → Prop} {h' : Heap} {tk' : Nat} {vs : List Value} {out : List Int} {v : Int} {t : Tok} {k' : Nat}
    (F : Fr h₀ L h' m') (N : News h₀ L h' led) (hm : (D, listOf (vs.toArray.push (.int v t)) k') ∈ led) (hs : ∀ p ∈ tl, p ∈ led) (hi : IntsAre vs out) (q : ∀ z, z ≠ x → m' z = m₀ z) (hP : P (out ++ [v])) :
    EndL s h₀ L x D m₀ tl P .next { s with heap := h', toks := tk' } := by
  refine ⟨rfl, h', tk', m', vs ++ [.int v t], out ++ [v], k', rfl, F, ?_, hi.append (.cons _ _ .nil), q, hP⟩
  intro p hp
  rcases List.mem_cons.mp hp with rfl | hp
  · rw [← List.push_toArray]; exact N _ hm
  · exact N p (hs p hp)
section
variable {prog : Program} {w : World} {A : Around} {E : Value → Shared → Prop} {s : Shared} {env : Env} {h₀ : Heap} {x : Str} {body : List Stmt} {Q : Flow → Shared → Prop}
theorem list_loopL {l D : Addr} {vs : List Value} {ns : List Int} {nn : Nat} {m₀ : Str → Option Value} {news : List (Addr × Obj)} {vs₀ : List Value} {out₀ : List Int} {k₀ : Nat} (P : List Int → List Int → Prop)
    (hh : A.handled = none) (F : Fr h₀ env.locals s.heap m₀) (N : News h₀ env.locals s.heap ((D, listOf vs₀.toArray k₀) :: news)) (hi₀ : IntsAre vs₀ out₀) (hD : ∀ p ∈ news, p.1 ≠ D) (hl : (l, listOf vs.toArray nn) ∈ news) (hi : IntsAre vs ns) (hp : P [] out₀)
    (turn : ∀ pre post n t us out k tl h tk, ns = pre ++ n :: post → IntsAre us out → P pre out → (∀ p ∈ tl, p.1 ≠ D) →
      Fr h₀ env.locals h (fun y => if y = x then some (.int n t) else m₀ y) → News h₀ env.locals h ((D, listOf us.toArray k) :: tl) →
      wpAny (model prog w) A (execs body env) (EndL s h₀ env.locals x D m₀ tl (P (pre ++ [n]))) E { s with heap := h, toks := tk })
    (done : ∀ us out k (w : Str → Option Value) h tk, IntsAre us out → P ns out → Fr h₀ env.locals h (fun y => if y = x then w y else m₀ y) → News h₀ env.locals h ((D, listOf us.toArray k) :: news) → Q .next { s with heap := h, toks := tk }) :
    wpAny (model prog w) A (pyIter (.ref l)) (fun it s₂ => LoopAtV prog w A h₀ env x body Q E it s₂) E s := by
  refine kst_listL (σ := List Value × List Int × Nat) (m₀ := m₀) (fun c => (D, listOf c.1.toArray c.2.2) :: news) (fun _ => []) (fun c => IntsAre c.1 c.2.1) [] (fun pre c => P pre c.2.1) (vs₀, out₀, k₀) hh (fun c => .tail _ hl) hi F N hi₀ (fun p hp => (nomatch hp)) hp ?_ ?_
  · rintro ⟨us, out, k⟩ pre post n t uu h tk own he _ hoff hf hpp F₁ N₁
    have hcont : ∀ z : Str, (([] : List Str).contains z) = false := fun _ => rfl
    simp only [kstB, hcont, Bool.false_eq_true, if_false] at F₁
    have N₂ : News h₀ env.locals h ((D, listOf us.toArray k) :: (news ++ own)) := by simpa using N₁
    have hD' : ∀ p ∈ news ++ own, p.1 ≠ D := by
      intro p hp
      rcases List.mem_append.mp hp with hp | hp
      · exact hD p hp
      · exact hoff p hp D (by simp)
    refine wpAny_mono (turn pre post n t us out k (news ++ own) h tk he hf hpp hD' F₁ N₂) (fun f s₂ p => ?_) fun _ _ e => e
    obtain ⟨rfl, h', tk', m', us', out', k', rfl, F', N', d', q, hP'⟩ := p
    refine ⟨h', tk', m', _, (D, listOf us'.toArray k') :: news, rfl, F', N', ?_, ?_, rfl, ⟨(us', out', k'), rfl, d', (fun p hp => (nomatch hp)), ?_, hP'⟩⟩
    · intro p hp
      rcases List.mem_cons.mp hp with rfl | hp
      · exact .head _
      · exact .tail _ (List.mem_append_left _ hp)
    · intro p hp
      exact .tail _ (List.mem_append_right _ hp)
    · intro z hz _ _
      exact q z hz
  · rintro ⟨us, out, k⟩ uu h tk hf hpp F₁ N₁
    have hcont : ∀ z : Str, (([] : List Str).contains z) = false := fun _ => rfl
    simp only [kstB, hcont, Bool.false_eq_true, if_false] at F₁
    exact done us out k uu h tk hf hpp F₁ N₁

theorem list_loopL2 {l D : Addr} {vs : List Value} {ns : List Int} {nn : Nat} {m₀ : Str → Option Value} {news : List (Addr × Obj)} {vs₀ : List Value} {out₀ : List Int} {k₀ : Nat} (P : List Int → List Int → Prop)
    (hh : A.handled = none) (F : Fr h₀ env.locals s.heap m₀) (N : News h₀ env.locals s.heap ((l, listOf vs.toArray nn) :: (D, listOf vs₀.toArray k₀) :: news)) (hi₀ : IntsAre vs₀ out₀) (hD : ∀ p ∈ (l, listOf vs.toArray nn) :: news, p.1 ≠ D) (hi : IntsAre vs ns) (hp : P [] out₀)
    (turn : ∀ pre post n t us out k tl h tk, ns = pre ++ n :: post → IntsAre us out → P pre out → (∀ p ∈ tl, p.1 ≠ D) →
      Fr h₀ env.locals h (fun y => if y = x then some (.int n t) else m₀ y) → News h₀ env.locals h ((D, listOf us.toArray k) :: tl) →
      wpAny (model prog w) A (execs body env) (EndL s h₀ env.locals x D m₀ tl (P (pre ++ [n]))) E { s with heap := h, toks := tk })
    (done : ∀ us out k (w : Str → Option Value) h tk, IntsAre us out → P ns out → Fr h₀ env.locals h (fun y => if y = x then w y else m₀ y) → News h₀ env.locals h ((D, listOf us.toArray k) :: news) → Q .next { s with heap := h, toks := tk }) :
    wpAny (model prog w) A (pyIter (.ref l)) (fun it s₂ => LoopAtV prog w A h₀ env x body Q E it s₂) E s := by
  refine list_loopL (k₀ := k₀) (news := (l, listOf vs.toArray nn) :: news) P hh F (fun p hp => N p ?_) hi₀ hD (.head _) hi hp turn fun us out k w h tk hi' hp' F' N' => done us out k w h tk hi' hp' F' fun p hp => N' p ?_
  · simp only [List.mem_cons] at hp ⊢; rcases hp with h | h | h <;> simp [h]
  · simp only [List.mem_cons] at hp ⊢; rcases hp with h | h <;> simp [h]
end
end Mine
end PartW4

section PartW5
open PySem PySem.W PyProof.Rows PySem.Calls PyProof.Rows.LCg LCp
namespace Mine

/-- an element's evaluation that lays new objects -/
def ElGrow (s : Shared) (h₀ : Heap) (L : Addr) (m : Str → Option Value) (I : Addr) (oI : Obj) (C : Addr) (oC : Obj) (D : Addr) (ys : List Value) (led : List (Addr × Obj)) (R : Value → List (Addr × Obj) → Prop) (y : Value) (s₂ : Shared) : Prop :=
  ∃ h' tk' new, s₂ = { s with heap := h', toks := tk' } ∧ Fr h₀ L h' m ∧ News h₀ L h' ((I, oI) :: (C, oC) :: (D, lst ys) :: (new ++ led)) ∧ Off3 I C D new ∧ R y (new ++ led)
theorem ElGrow.intro {s : Shared} {h₀ : Heap} {L : Addr} {m : Str → Option Value} {I : Addr} {oI : Obj} {C : Addr} {oC : Obj} {D : Addr} {ys : List Value} {led all : List (Addr × Obj)} {R : Value → List (Addr × Obj) → Prop} {y : Value} {h' : Heap} {tk' : Nat} (new : List (Addr × Obj))
    (F : Fr h₀ L h' m) (N : News h₀ L h' all) (sub : ∀ p ∈ (I, oI) :: (C, oC) :: (D, lst ys) :: (new ++ led), p ∈ all) (off : Off3 I C D new) (r : R y (new ++ led)) : ElGrow s h₀ L m I oI C oC D ys led R y { s with heap := h', toks := tk' } :=
  ⟨h', tk', new, rfl, F, fun p hp => N p (sub p hp), off, r⟩
theorem off3_append {I C D : Addr} : ∀ {l r : List (Addr × Obj)}, Off3 I C D l → Off3 I C D r → Off3 I C D (l ++ r)
  | [], _, _, h => h
  | _ :: _, _, x, h => ⟨x.1, off3_append x.2 h⟩

section
variable {prog : Program} {w : World} {A : Around} {E : Value → Shared → Prop} {s : Shared} {h₀ : Heap} {L : Addr} {m : Str → Option Value} {env : Env}

theorem compRestP_grow {elt : Expr} {x x₂ : Str} {scope : Scope} {cl : List (Str × Addr)} {S : List (Addr × Obj) → Prop} {P : Nat → Value → Prop} {Fin : List Value → List (Addr × Obj) → Prop} {news : List (Addr × Obj)} (R : Nat → Value → List (Addr × Obj) → Prop)
    (IT : Nat → Value → Value → Prop) (hR : ∀ j y led led', R j y led → (∀ p ∈ led, p ∈ led') → R j y led') (hS : ∀ led, (∀ p ∈ news, p ∈ led) → S led) {n : Nat}
    (items : ∀ j v, j < n → P j v → ∃ (t : Addr) (ot : Obj) (v₁ v₂ : Value) (nt : Nat), v = .ref t ∧ (t, ot) ∈ news ∧ ot.cls = .type "tuple" ∧ ot.data = .seq #[v₁, v₂] nt ∧ IT j v₁ v₂)
    (el : ∀ j v₁ v₂ led I oI C oC D ys m₂ h tk (E' : Value → Shared → Prop), j < n → IT j v₁ v₂ → (∀ p ∈ news, p ∈ led) → NsObj oC m₂ → m₂ x = some v₁ → m₂ x₂ = some v₂ → Fr h₀ L h m → News h₀ L h ((I, oI) :: (C, oC) :: (D, lst ys) :: led) → Off3 I C D led →
      ((@Ne Nat I C) ∧ (@Ne Nat I D) ∧ (@Ne Nat C D)) → wpAny (model prog w) A (eval elt (compEnvC scope cl C env)) (ElGrow s h₀ L m I oI C oC D ys led (R j)) E' { s with heap := h, toks := tk })
    (fin : ∀ (ys : List Value) led, ys.length = n → (∀ p ∈ news, p ∈ led) → (∀ j y, ys[j]? = some y → R j y led) → Fin ys led) :
    ∀ (k i : Nat) (ys : List Value) led, i + k = n → ys.length = i → (∀ p ∈ news, p ∈ led) → (∀ j y, ys[j]? = some y → R j y led) → CompRestP prog w A h₀ L m env elt x x₂ scope cl s S P Fin k i ys led
  | 0, i, ys, led, hk, hl, hs, hr => CompRestP.zero (fin ys led (by omega) hs hr)
  | k + 1, i, ys, led, hk, hl, hs, hr => by
    refine CompRestP.succ ?_
    intro v hP
    obtain ⟨t, ot, v₁, v₂, nt, rfl, hm, hc, hd, hit⟩ := items i v (by omega) hP
    refine ⟨t, ot, v₁, v₂, nt, rfl, hs _ hm, hc, hd, ?_⟩
    intro I oI C oC D m₂ h tk E' hC hx hx₂ F N off ne
    refine wpAny_mono (el i v₁ v₂ led I oI C oC D ys m₂ h tk E' (by omega) hit hs hC hx hx₂ F N off ne) (fun y s₂ h₂ => ?_) fun _ _ e => e
    obtain ⟨h', tk', new, rfl, F', N', off', r⟩ := h₂
    have hs' : ∀ p ∈ news, p ∈ new ++ led := fun p hp => List.mem_append_right _ (hs p hp)
    refine CompEnd.intro F' N' (new ++ led) (fun p hp => hp) (off3_append off' off) (hS _ hs') ?_
    refine compRestP_grow R IT hR hS items el fin k (i + 1) (ys ++ [y]) (new ++ led) (by omega) (by rw [List.length_append, hl]; rfl) hs' ?_
    intro j z hz
    by_cases hj : j < i
    · rw [List.getElem?_append_left (by omega)] at hz
      exact hR _ _ _ _ (hr j z hz) fun p hp => List.mem_append_right _ hp
    · have hj2 : j < (ys ++ [y]).length := (List.getElem?_eq_some_iff.mp hz).1
      rw [List.length_append, hl] at hj2
      have : j = i := by simp at hj2; omega
      subst this
      rw [List.getElem?_append_right (by omega)] at hz
      rw [hl, Nat.sub_self] at hz
      cases hz
      exact r
end

/-- the end of a turn of the loop over the writers -/
def EndT (s : Shared) (h₀ : Heap) (L : Addr) (stored : List Str) (Cw Cs : Addr) (m₀ : Str → Option Value) (tl : List (Addr × Obj)) (f : Flow) (s₂ : Shared) : Prop :=
  f = .next ∧ ∃ h' tk' m' ow' os', s₂ = { s with heap := h', toks := tk' } ∧ Fr h₀ L h' m' ∧ News h₀ L h' ((Cw, ow') :: (Cs, os') :: tl) ∧ (∃ x, ow'.data = .cell x) ∧ (∃ y, os'.data = .cell y) ∧ (∀ z, stored.contains z = false → m' z = m₀ z)
/-- the end of a turn that turns names alone -/
def End0 (s : Shared) (h₀ : Heap) (L : Addr) (x : Str) (stored : List Str) (m₀ : Str → Option Value) (tl : List (Addr × Obj)) (f : Flow) (s₂ : Shared) : Prop :=
  f = .next ∧ ∃ h' tk' m', s₂ = { s with heap := h', toks := tk' } ∧ Fr h₀ L h' m' ∧ News h₀ L h' tl ∧ (∀ z, z ≠ x → stored.contains z = false → m' z = m₀ z)
theorem EndT.intro {s : Shared} {h₀ : Heap} {L : Addr} {stored : List Str} {Cw Cs : Addr} {m₀ m' : Str → Option Value} {tl all : List (Addr × Obj)} {h' : Heap} {tk' : Nat} {ow' os' : Obj} {x y : Option Value}
    (F : Fr h₀ L h' m') (N : News h₀ L h' all) (sub : ∀ p ∈ (Cw, ow') :: (Cs, os') :: tl, p ∈ all) (dw : ow'.data = .cell x) (ds : os'.data = .cell y) (q : ∀ z, stored.contains z = false → m' z = m₀ z) : EndT s h₀ L stored Cw Cs m₀ tl .next { s with heap := h', toks := tk' } :=
  ⟨rfl, h', tk', m', ow', os', rfl, F, fun p hp => N p (sub p hp), ⟨x, dw⟩, ⟨y, ds⟩, q⟩
theorem End0.intro {s : Shared} {h₀ : Heap} {L : Addr} {x : Str} {stored : List Str} {m₀ m' : Str → Option Value} {tl all : List (Addr × Obj)} {h' : Heap} {tk' : Nat}
    (F : Fr h₀ L h' m') (N : News h₀ L h' all) (sub : ∀ p ∈ tl, p ∈ all) (q : ∀ z, z ≠ x → stored.contains z = false → m' z = m₀ z) : End0 s h₀ L x stored m₀ tl .next { s with heap := h', toks := tk' } :=
  ⟨rfl, h', tk', m', rfl, F, fun p hp => N p (sub p hp), q⟩

section
variable {prog : Program} {w : World} {A : Around} {E : Value → Shared → Prop} {s : Shared} {env : Env} {h₀ : Heap} {x : Str} {body : List Stmt} {Q : Flow → Shared → Prop}

theorem turns_list {l : Addr} {its : Array Value} {k : Nat} {m₀ : Str → Option Value} {rest : List (Addr × Obj)} {Cw Cs : Addr} {ow os : Obj} {elts : List Expr} {x1} {tp : Pos} (stored : List Str)
    (hh : A.handled = none) (F : Fr h₀ env.locals s.heap m₀) (N : News h₀ env.locals s.heap ((Cw, ow) :: (Cs, os) :: rest)) (hw : ∀ p ∈ rest, p.1 ≠ Cw ∧ p.1 ≠ Cs) (dw : ∃ x, ow.data = .cell x) (ds : ∃ y, os.data = .cell y)
    (hl : (l, listOf its k) ∈ rest) (hr : ∀ (i : Nat) v, its[i]? = some v → ∃ T, v = .ref T)
    (turn : ∀ (i : Nat) v (u : Str → Option Value) ow os x y tl h tk, its[i]? = some v → ow.data = .cell x → os.data = .cell y → (∀ p ∈ rest, p ∈ tl) → (∀ p ∈ tl, p.1 ≠ Cw ∧ p.1 ≠ Cs) → Fr h₀ env.locals h (fun z => if stored.contains z then u z else m₀ z) → News h₀ env.locals h ((Cw, ow) :: (Cs, os) :: tl) →
      wpAny (model prog w) A (assign (.Tuple elts x1 tp) env v) (fun _ s₃ => wpAny (model prog w) A (execs body env) (EndT s h₀ env.locals stored Cw Cs m₀ tl) E s₃) E { s with heap := h, toks := tk })
    (done : ∀ (u : Str → Option Value) ow os h tk, Fr h₀ env.locals h (fun z => if stored.contains z then u z else m₀ z) → News h₀ env.locals h ((Cw, ow) :: (Cs, os) :: rest) → Q .next { s with heap := h, toks := tk }) :
    wpAny (model prog w) A (pyIter (.ref l)) (fun it s₂ => TurnsAt prog w A h₀ env (.Tuple elts x1 tp) body Q E it s₂) E s := by
  have hls : s.heap.IsList l its := ⟨_, (N _ (.tail _ (.tail _ hl))).1, rfl, k, rfl⟩
  have hlt : l < s.heap.objs.size := Heap.lt_size (N _ (.tail _ (.tail _ hl))).1
  refine wpAny_pyIter_list hls ?_
  have W := Walks.list (prog := prog) (w := w) hh s.heap.objs.size l (Nat.ne_of_lt hlt) its
  have KW : KTurns prog w A (.Tuple elts x1 tp) s.heap.objs.size [s.heap.objs.size, l] [s.heap.objs.size] its.size (fun i v _ => its[i]? = some v) (fun i v h => its[i]? = some v ∧ h.IsListIter s.heap.objs.size l (i + 1) ∧ h.IsList l its) (fun i h => h.IsListIter s.heap.objs.size l i ∧ h.IsList l its) :=
    { sub := W.sub, frame := W.frame, done := W.done,
      item := fun i s' Q' E' hi st hQ => W.item i s' Q' E' hi st fun v h' tk hP st' hk => hQ v h' tk ⟨hP, st'⟩ hk,
      go := fun i v s' Q' E' hm hQ => by
        obtain ⟨T, rfl⟩ := hr i v hm.1
        exact wpAny_letOwnedTupleGo_listiter hm.2.1 (hQ s'.heap hm.1 hm.2 fun _ _ _ e => e) }
  have hLs : env.locals < s.heap.objs.size := F.ns.lt
  have hl0 : h₀.get? l = none := (N _ (.tail _ (.tail _ hl))).2.2
  have hneL : env.locals ≠ l := Ne.symm (N _ (.tail _ (.tail _ hl))).2.1
  have lt : ∀ p ∈ (Cw, ow) :: (Cs, os) :: rest, p.1 < s.heap.objs.size := fun p hp => Heap.lt_size (N p hp).1
  refine ⟨s.heap.objs.size, [s.heap.objs.size, l], [s.heap.objs.size], its.size, _, _, _, m₀, (Cw, ow) :: (Cs, os) :: rest,
    (fun _ m₁ news₁ => ∃ ow os, news₁ = (Cw, ow) :: (Cs, os) :: rest ∧ (∃ x, ow.data = .cell x) ∧ (∃ y, os.data = .cell y) ∧ ∀ z, stored.contains z = false → m₁ z = m₀ z), rfl, KW, ?_, ?_, ?_, ⟨⟨_, Heap.get?_push_size _ rfl, rfl, rfl⟩, hls.push _⟩, F.push _,
    (fun p hp => ⟨Heap.get?_push_of_some _ (N p hp).1, (N p hp).2⟩), ⟨ow, os, rfl, dw, ds, fun _ _ => rfl⟩, ?_, ?_⟩
  · intro hm
    rcases List.mem_cons.mp hm with e | hm
    · exact absurd hLs (e ▸ Nat.lt_irrefl _)
    · exact hneL (List.mem_singleton.mp hm)
  · intro b hb
    rw [List.mem_singleton.mp hb]; exact next_is_new F
  · intro p hp hI
    exact absurd (lt p hp) ((List.mem_singleton.mp hI) ▸ Nat.lt_irrefl _)
  · rintro i v m₁ news₁ h₁ tk₁ own hi hP ⟨ow1, os1, rfl, ⟨x1', dx⟩, ⟨y1', dy⟩, hm⟩ hoff hown hownh hown2 hst F₁ N₁
    have em : (fun z => if stored.contains z = true then m₁ z else m₀ z) = m₁ := by
      funext z
      cases hz : stored.contains z with
      | true => simp
      | false => simp only [Bool.false_eq_true, if_false]; exact (hm z hz).symm
    have F₂ : Fr h₀ env.locals h₁ (fun z => if stored.contains z then m₁ z else m₀ z) := by rw [em]; exact F₁
    have N₂ : News h₀ env.locals h₁ ((Cw, ow1) :: (Cs, os1) :: (rest ++ own)) := fun p hp => N₁ p (by
      simp only [List.mem_cons, List.mem_append] at hp ⊢
      rcases hp with h | h | h | h <;> simp [h])
    have cw : ∀ p ∈ own, p.1 ≠ Cw ∧ p.1 ≠ Cs := by
      intro p hp
      rcases List.mem_cons.mp (hown p hp) with e | e
      · have a1 := lt (Cw, ow) (.head _)
        have a2 := lt (Cs, os) (.tail _ (.head _))
        rw [e]; exact ⟨Ne.symm (Nat.ne_of_lt a1), Ne.symm (Nat.ne_of_lt a2)⟩
      · rw [List.mem_singleton.mp e]; exact hw _ hl
    refine wpAny_mono (turn i v m₁ ow1 os1 x1' y1' (rest ++ own) h₁ tk₁ hP dx dy (fun p hp => List.mem_append_left _ hp) (fun p hp => (List.mem_append.mp hp).elim (hw p) (cw p)) F₂ N₂) (fun _ s₃ h₃ => wpAny_mono h₃ (fun f s₄ h₄ => ?_) fun _ _ e => e) fun _ _ e => e
    obtain ⟨rfl, h', tk', m', ow', os', rfl, F', N', dw', ds', q⟩ := h₄
    refine ⟨rfl, h', tk', m', (Cw, ow') :: (Cs, os') :: rest, rfl, F', ?_, ?_, ow', os', rfl, dw', ds', q⟩
    · intro p hp
      refine N' p ?_
      simp only [List.mem_cons, List.mem_append] at hp ⊢
      rcases hp with h | h | h | h <;> simp [h]
    · intro p hp hI
      have e := List.mem_singleton.mp hI
      rcases List.mem_cons.mp hp with rfl | hp
      · exact absurd (lt (Cw, ow) (.head _)) (by rw [← e]; exact Nat.lt_irrefl _)
      · rcases List.mem_cons.mp hp with rfl | hp
        · exact absurd (lt (Cs, os) (.tail _ (.head _))) (by rw [← e]; exact Nat.lt_irrefl _)
        · exact absurd (lt p (.tail _ (.tail _ hp))) (by rw [← e]; exact Nat.lt_irrefl _)
  · rintro h' tk m' news' F' N' _ ⟨ow1, os1, rfl, _, _, hm⟩
    have em : (fun z => if stored.contains z = true then m' z else m₀ z) = m' := by
      funext z
      cases hz : stored.contains z with
      | true => simp
      | false => simp only [Bool.false_eq_true, if_false]; exact (hm z hz).symm
    exact done m' ow1 os1 h' tk (by rw [em]; exact F') N'

theorem range_loop0 {r : Addr} {b₀ : Int} {t₀ u₀ v₀ : Tok} {n : Nat} {m₀ : Str → Option Value} {news : List (Addr × Obj)} (stored : List Str)
    (hh : A.handled = none) (hr : IsRange s.heap r 0 b₀ 1 t₀ u₀ v₀) (hsmall : Builtin.Range.small 0 b₀ 1 = true) (hn : Builtin.Range.rangeSize 0 b₀ 1 = (n : Int)) (F : Fr h₀ env.locals s.heap m₀) (N : News h₀ env.locals s.heap news)
    (turn : ∀ (i : Nat) t (u : Str → Option Value) tl h tk, i < n → (∀ p ∈ news, p ∈ tl) → Fr h₀ env.locals h (fun y => if y = x then some (.int (i : Int) t) else if stored.contains y then u y else m₀ y) → News h₀ env.locals h tl →
      wpAny (model prog w) A (execs body env) (End0 s h₀ env.locals x stored m₀ tl) E { s with heap := h, toks := tk })
    (done : ∀ (u : Str → Option Value) h tk, Fr h₀ env.locals h (fun y => if y = x then u y else if stored.contains y then u y else m₀ y) → News h₀ env.locals h news → Q .next { s with heap := h, toks := tk }) :
    wpAny (model prog w) A (pyIter (.ref r)) (fun it s₂ => LoopAtV prog w A h₀ env x body Q E it s₂) E s := by
  refine kst_range (σ := Unit) (m₀ := m₀) (fun _ => news) (fun _ => []) (fun _ => True) stored (fun _ _ => True) () hh hr hsmall hn F N trivial (fun p hp => (nomatch hp)) trivial ?_ ?_
  · rintro ⟨⟩ pre kk t u h tk own hk hl hoff _ _ F₁ N₁
    have ek : kk = ((pre.length : Nat) : Int) := by omega
    subst ek
    refine wpAny_mono (turn pre.length t u (news ++ own) h tk hl (fun p hp => List.mem_append_left _ hp) F₁ N₁) (fun f s₂ p => ?_) fun _ _ e => e
    obtain ⟨rfl, h', tk', m', rfl, F', N', q⟩ := p
    refine ⟨h', tk', m', _, news, rfl, F', N', (fun p hp => List.mem_append_left _ hp), (fun p hp => List.mem_append_right _ hp), rfl, ⟨(), rfl, trivial, (fun p hp => (nomatch hp)), ?_, trivial⟩⟩
    intro z hz _ hs
    exact q z hz hs
  · rintro ⟨⟩ u h tk _ _ F₁ N₁
    exact done u h tk F₁ N₁
end
end Mine
end PartW5

section PartT1
open PySem PySem.W PyProof.Rows PySem.Calls
set_option maxRecDepth 100000
namespace Mine
open Builtin
theorem slot_tr : Slot "bytes" "translate" "bytes.translate" :=
  .of (owner := "bytes") (n := "translate") (by rw [typeLookup_type, builtinLookup_eq_fast]; kernel_rfl) (by decide +kernel) (by decide +kernel) (by decide +kernel)
    (by first | exact .inl (by decide +kernel) | exact .inr (by decide +kernel)) (by rw [isSubtype_type]; kernel_rfl)
theorem type_tr : typeOf (.builtin "bytes.translate") = pure (.type "method_descriptor") := by show builtinType _ = _; rw [builtinType_eq_fast]; kernel_rfl
theorem entry_tr : entryFor table "bytes.translate" = some Builtin.«bytes.translate» := entryFor_of_tree (by kernel_rfl)
theorem args_tr (a b : Value) : argsOk "bytes.translate" ⟨[a, b], []⟩ := by
  unfold argsOk; rw [signature?_of (id := "bytes.translate") (n := ['e', 't', 'a', 'l', 's', 'n', 'a', 'r', 't']) (o := ['s', 'e', 't', 'y', 'b']) (by kernel_rfl) FB.owner_bytes]; kernel_rfl
theorem entry_mt : entryFor table "bytes.maketrans" = some Builtin.«bytes.maketrans» := entryFor_of_tree (by kernel_rfl)
theorem kind_mt : builtinKind "bytes.maketrans" = some .staticMethod := by decide +kernel
theorem plain_mt : plainId "bytes.maketrans" = true := by decide +kernel
theorem type_mt : typeOf (.builtin "bytes.maketrans") = pure (.type "builtin_function_or_method") := by show builtinType _ = _; rw [builtinType_eq_fast]; kernel_rfl

theorem size_map_filter (b : Array UInt8) : b.filter (fun x => !((#[] : Array UInt8).contains x)) = b := by simp
/-- b.translate(t) -/
def trans (t b : Array UInt8) : Array UInt8 := b.map fun c => t.getD c.toNat c
theorem meets_tr {b t : Array UInt8} {k1 k2 : Tok} (ht : t.size = 256) (hb : b.size ≤ sizeLine) :
    Meets («bytes.translate» ⟨[.bytes b k1, .bytes t k2], []⟩) (fun _ R s => ∀ t' k, R (.ok (.ret (.bytes (trans t b) t'))) { s with toks := k }) := by
  refine .of_wp fun prog w A R s h => ?_
  show wpAny _ _ (Bytes.translateM .bytes _) _ _ s
  unfold Bytes.translateM
  dsimp only
  rw [if_neg (by simp), if_neg (by simp), if_neg (fun e => by cases (eq_of_beq e))]
  refine wpAny_bind (wpAny_of_eq KBd.like_eq ?_)
  rw [if_neg (by rw [ht]; decide)]
  show wpAny _ _ (do
    let b_1 ← Bytes.payload (Value.bytes b k1)
    if (Array.map (fun c => t.getD c.toNat c) (Array.filter (fun x => !(#[] : Array UInt8).contains x) b_1) == b_1) = true then (do
      rule _
      let v ← Bytes.Kind.bytes.same (Value.bytes b k1)
      ret v)
    else (do
      let v ← Bytes.Kind.bytes.new (Array.map (fun c => t.getD c.toNat c) (Array.filter (fun x => !(#[] : Array UInt8).contains x) b_1))
      ret v)) _ _ s
  refine wpAny_bind (wpAny_of_eq (a := b) rfl ?_)
  rw [size_map_filter]
  show wpAny _ _ (if (trans t b == b) = true then _ else _) _ _ s
  by_cases e : (trans t b == b) = true
  · rw [if_pos e]
    refine wpAny_bind (wpAny_rule ?_)
    refine wpAny_bind (wpAny_of_eq (a := Value.bytes b k1) rfl ?_)
    have e' : trans t b = b := eq_of_beq e
    rw [e'] at h
    exact wpAny_pure ⟨_, rfl, h k1 s.toks⟩
  · rw [if_neg e]
    refine wpAny_bind ?_
    show wpAny _ _ (mkBytes (trans t b)) _ _ s
    unfold mkBytes
    rw [if_neg (by unfold trans; rw [Array.size_map]; omega)]
    exact wpAny_bind (wpAny_fresh (wpAny_pure (wpAny_pure ⟨_, rfl, h _ _⟩)))
section
variable {prog : Program} {w : World} {A : Around} {E : Value → Shared → Prop} {s : Shared} {b t : Array UInt8} {k1 k2 : Tok}
theorem call_tr {Q : Value → Shared → Prop} (ht : t.size = 256) (hb : b.size ≤ 1000) (h : ∀ t' k, Q (.bytes (trans t b) t') { s with toks := k }) :
    wpAny (model prog w) A (call (.builtin "bytes.translate") [.bytes b k1, .bytes t k2]) Q E s :=
  call_meets slot_tr (typeIs_bytes _ _ _) entry_tr (args_tr _ _) (meets_tr ht (by rw [sizeLine_eq]; omega)) h
theorem meth_tr {M : Model} {pl : Sem Bool} {Q : Value × List Value → Shared → Prop} (h : Q (.builtin "bytes.translate", [.bytes b k1]) s) : wpAny M A (getMethod (.bytes b k1) (Str.ofString "translate") pl) Q E s := by
  with_reducible exact KBd.method_of (.bytes b k1) (typeIs_bytes _ _ _) slot_tr type_tr KBd.noRef h
end
/-- bytes.maketrans(b'+/', alt) -/
def mkt (alt : Array UInt8) : Array UInt8 := ((#[43, 47] : Array UInt8).toList.zip alt.toList).foldl (fun t (p : UInt8 × UInt8) => t.setIfInBounds p.1.toNat p.2) ((Array.range 256).map (·.toUInt8))
theorem mkt_size (alt : Array UInt8) : (mkt alt).size = 256 := by
  unfold mkt
  generalize (#[43, 47] : Array UInt8).toList.zip alt.toList = l
  have : ∀ (l : List (UInt8 × UInt8)) (t : Array UInt8), (l.foldl (fun t (p : UInt8 × UInt8) => t.setIfInBounds p.1.toNat p.2) t).size = t.size := by
    intro l
    induction l with
    | nil => intro t; rfl
    | cons p r ih => intro t; rw [List.foldl_cons, ih, Array.size_setIfInBounds]
  rw [this]; simp
theorem meets_mt {alt : Array UInt8} {k1 k2 : Tok} (ha : alt.size = 2) :
    Meets («bytes.maketrans» ⟨[.bytes #[43, 47] k1, .bytes alt k2], []⟩) (fun _ R s => ∀ t' k, R (.ok (.ret (.bytes (mkt alt) t'))) { s with toks := k }) := by
  refine .of_wp fun prog w A R s h => ?_
  show wpAny _ _ (Bytes.maketransM .bytes _) _ _ s
  unfold Bytes.maketransM
  dsimp only
  refine wpAny_bind (wpAny_of_eq (a := ()) (by rfl) ?_)
  refine wpAny_bind (wpAny_of_eq (a := ()) (by rfl) ?_)
  refine wpAny_bind (wpAny_of_eq KBd.like_eq ?_)
  refine wpAny_bind (wpAny_of_eq KBd.like_eq ?_)
  rw [if_neg (by rw [ha]; decide)]
  show wpAny _ _ (mkBytes (mkt alt) >>= fun v => ret v) _ _ s
  refine wpAny_bind ?_
  unfold mkBytes
  rw [if_neg (by rw [mkt_size, sizeLine_eq]; decide)]
  exact wpAny_bind (wpAny_fresh (wpAny_pure (wpAny_pure ⟨_, rfl, h _ _⟩)))
theorem check_mt (a b : Value) : checkBuiltinCall "bytes.maketrans" ⟨[a, b], []⟩ = pure () := by kernel_rfl
section
variable {prog : Program} {w : World} {A : Around} {E : Value → Shared → Prop} {s : Shared} {alt : Array UInt8} {k1 k2 : Tok}
theorem call_mt {Q : Value → Shared → Prop} (ha : alt.size = 2) (h : ∀ t' k, Q (.bytes (mkt alt) t') { s with toks := k }) :
    wpAny (model prog w) A (call (.builtin "bytes.maketrans") [.bytes #[43, 47] k1, .bytes alt k2]) Q E s := by
  refine wpAny_call (codeAny_call_builtin plain_mt entry_mt ?_)
  rw [check_mt]
  exact wpAny_pure (meets_mt ha prog w A (wants Q E) s h)
end
end Mine
end PartT1

section PartC1
open PySem PySem.W PyProof.Rows PySem.Calls
namespace Mine
variable {w : World} {loose : List Str} {mean : ExcName → Option Value} {mg mb : Str → Option Value} {dp un : Nat} {gd : Option (List Code)} {cn : Str} {cs : Scope} {a : Addr} {ccd : Value} {cl : List (Str × Addr)} {outer : List Env} {A₀ : Around} {base h₀ : Heap} {L : Addr} {m : Str → Option Value} {s : Shared} {Q E : Value → Shared → Prop} {news : List (Addr × Obj)}

/-- what is_suburi reckons -/
def subS (h1 x1 h2 x2 : Str) : Bool :=
  if h1 == h2 && x1 == x2 then true else if h1 != h2 then false
  else if Txt.slice x1 (some (-1)) none != Str.ofString "/" then Txt.startswith x2 (x1 ++ Str.ofString "/") else Txt.startswith x2 x1

set_option maxRecDepth 100000 in
set_option maxHeartbeats 8000000 in
theorem sub_c {mgr t1 t2 : Addr} {h1 h2 x1 x2 : Str} {k1 k2 k3 k4 : Tok} {n1 n2 : Nat}
    (B : Below A₀ base outer h₀) (F : Fr h₀ L s.heap m) (X : (hd.heap_39 w.params).In h₀)
    (N : News h₀ L s.heap ((t1, { cls := .type "tuple", data := .seq #[.str h1 k1, .str x1 k2] n1 }) :: (t2, { cls := .type "tuple", data := .seq #[.str h2 k3, .str x2 k4] n2 }) :: news))
    (T : Top topProg loose mean mg mb h₀) (hk : cs.kind = .function) (hdp : dp + 1 < recursionLimit) (hu : un + 200 < cLine)
    (ok1 : PyData.strOk h1 = true) (ok2 : PyData.strOk h2 = true) (ok3 : PyData.strOk x1 = true) (ok4 : PyData.strOk x2 = true)
    (l1 : x1.length ≤ 1000) (l2 : x2.length ≤ 1000)
    (ret : CbRet h₀ L m ((t1, { cls := .type "tuple", data := .seq #[.str h1 k1, .str x1 k2] n1 }) :: (t2, { cls := .type "tuple", data := .seq #[.str h2 k3, .str x2 k4] n2 }) :: news) s Q (fun _ => .bool (subS h1 x1 h2 x2))) :
    wpAny (model Challenge.rw_pd0005_01.row.prog w) (ktrTop dp un gd cn cs L a ccd cl outer) (call (.ref 64) [.ref mgr, .ref t1, .ref t2]) Q E s := by
  w_top off; revert X; k_fill; intro X
  refine wpAny_call ?_
  k_dflt cell_enter
  k_steps
  k_here
  refine eq_dataH (by ked_read) (by ked_read) (by simp [SeqAt.shaped, PyData.canLay0, PyData.canLayAll0, PyData.depth, PyData.depthAll, *]) (by simp [SeqAt.shaped, PyData.canLay0, PyData.canLayAll0, PyData.depth, PyData.depthAll, *]) (by simp only [Around.deeper_units]; omega) ?_
  ked_norm
  k_steps
  all_goals (refine cb_retB (Q := Q) ret ?_ (by assumption) (by assumption))
  all_goals (simp only [subS, *]; simp)
end Mine
end PartC1

section PartC2
open PySem PySem.W PyProof.Rows PySem.Calls
namespace Mine
variable {w : World} {loose : List Str} {mean : ExcName → Option Value} {mg mb : Str → Option Value} {dp un : Nat} {gd : Option (List Code)} {cn : Str} {cs : Scope} {a : Addr} {ccd : Value} {cl : List (Str × Addr)} {outer : List Env} {A₀ : Around} {base h₀ : Heap} {L : Addr} {m : Str → Option Value} {s : Shared} {Q E : Value → Shared → Prop} {news : List (Addr × Obj)}

/-- what _law_covers reckons -/
def covS (ir ip io : List Int) : Bool :=
  if ip = io then true else if (ir.length : Int).fmod 3 ≠ 0 then false
  else if List.take (ip.length : Int).toNat io = ip then
    (if List.drop (ip.length - 1) ip = [-1] then true else decide (List.take (min ((ip.length : Int) + 1).toNat io.length - (ip.length : Int).toNat) (List.drop (ip.length : Int).toNat io) = [-1]))
  else false

set_option maxRecDepth 100000 in
set_option maxHeartbeats 8000000 in
theorem cov_c {lr lp lo : Addr} {vr vp vo : List Value} {ir ip io : List Int} {n1 n2 n3 : Nat}
    (B : Below A₀ base outer h₀) (F : Fr h₀ L s.heap m) (X : (hd.heap_39 w.params).In h₀)
    (N : News h₀ L s.heap ((lr, listOf vr.toArray n1) :: (lp, listOf vp.toArray n2) :: (lo, listOf vo.toArray n3) :: news))
    (T : Top topProg loose mean mg mb h₀) (hk : cs.kind = .function) (hdp : dp + 1 < recursionLimit) (hu : un + 200 < cLine)
    (ar : IntsAre vr ir) (ap : IntsAre vp ip) (ao : IntsAre vo io)
    (l1 : ir.length ≤ 1000) (l2 : ip.length ≤ 1000) (l3 : io.length ≤ 1000)
    (ret : CbRet h₀ L m ((lr, listOf vr.toArray n1) :: (lp, listOf vp.toArray n2) :: (lo, listOf vo.toArray n3) :: news) s Q (fun _ => .bool (covS ir ip io))) :
    wpAny (model Challenge.rw_pd0005_01.row.prog w) (ktrTop dp un gd cn cs L a ccd cl outer) (call (.ref 120) [.ref lr, .ref lp, .ref lo]) Q E s := by
  w_top off; revert X; k_fill; intro X
  refine wpAny_call ?_
  k_dflt cell_enter
  k_steps
  all_goals (first | refine cb_retB (Q := Q) ret ?_ (by assumption) (by assumption) | refine cb_retB (Q := Q) ret ?_ (by assumption) (cb_drop (by assumption) (by kcj_all)))
  all_goals (unfold covS)
  all_goals simp only [*, if_true, if_false, ne_eq, not_true, not_false_eq_true, decide_true, decide_false, ite_not, reduceIte]
end Mine
end PartC2

section PartC3
open PySem PySem.W PyProof.Rows PySem.Calls PyProof.Rows.LCg
namespace Mine
variable {w : World} {loose : List Str} {mean : ExcName → Option Value} {mg mb : Str → Option Value} {dp un : Nat} {gd : Option (List Code)} {cn : Str} {cs : Scope} {a : Addr} {ccd : Value} {cl : List (Str × Addr)} {outer : List Env} {A₀ : Around} {base h₀ : Heap} {L : Addr} {m : Str → Option Value} {s : Shared} {Q E : Value → Shared → Prop} {news : List (Addr × Obj)}
theorem allLt_ne {d e : Nat} {l : List (Addr × Obj)} (h : AllLt d l) (hle : d ≤ e) : ∀ p ∈ l, p.1 ≠ e := fun p hp => Nat.ne_of_lt (Nat.lt_of_lt_of_le (kst_ltOf h p hp) hle)

local macro_rules | `(tactic| k_room) => `(tactic| ktr_room)
local macro_rules | `(tactic| k_all) => `(tactic| assumption)
local macro_rules | `(tactic| walk_at "my_step") => `(tactic| first | (k_unfold; (try dsimp only)) | (k_end; wrow_close) | walk1 | (dsimp only; walk1) | (leave1; (try dsimp only)))
local macro_rules | `(tactic| walk_at "exec For Name Name cons nil") => `(tactic| (k_here; (rename Fr _ _ _ _ => lF'); (with_unfolding_all refine' For_invVF lF' ?k1 ?k2 ?_; (case k1 => exact rfl); (case k2 => exact rfl); k_whole)))

theorem lsh {prog : Program} {A : Around} {E' : Value → Shared → Prop} {x n : Int} {t u : Tok} {Q' : Value → Shared → Prop} (hn : 0 ≤ n) (hn2 : n ≤ 1000) (h0 : 0 ≤ x) (h1 : x < 4722366482869645213696) (h : Q' (.int (x * 2 ^ n.toNat) s.toks) { s with toks := s.toks + 1 }) :
    wpAny (model prog w) A (binaryOp .LShift (.int x t) (.int n u)) Q' E' s := by
  refine lshift_int hn ?_ h
  have : Builtin.Int.intBits x ≤ 80 := intBits_le_iff.mpr (by omega)
  omega
local macro_rules | `(tactic| walk_at "binaryOp LShift int int") => `(tactic| (k_here; refine lsh (by omega) (by omega) (by omega) (by omega) ?_))
local macro_rules | `(tactic| walk_at "exec Assign cons ListComp") => `(tactic| (k_here; k_dflt (refine Assign_W (_F₀ := by k_asm) (by rfl) (by with_unfolding_all rfl) (by with_unfolding_all rfl) (by decide) (by rfl) (by decide) (by rfl) (by rfl) (by rfl) ?_)))
local macro_rules | `(tactic| walk_at "eval ListComp") => `(tactic| (k_here; k_dflt (refine ListComp_W (_F₀ := by k_asm) (by with_unfolding_all rfl) (by decide) (by rfl) (by decide) (by rfl) ?_)))
theorem down (q : Int) (h0 : 0 ≤ q) (h1 : q ≤ 12) : Builtin.Range.small (q - 1) (-1) (-1) = true ∧ Builtin.Range.rangeSize (q - 1) (-1) (-1) = ((q.toNat : Nat) : Int) := by
  have : q = 0 ∨ q = 1 ∨ q = 2 ∨ q = 3 ∨ q = 4 ∨ q = 5 ∨ q = 6 ∨ q = 7 ∨ q = 8 ∨ q = 9 ∨ q = 10 ∨ q = 11 ∨ q = 12 := by omega
  rcases this with rfl | rfl | rfl | rfl | rfl | rfl | rfl | rfl | rfl | rfl | rfl | rfl | rfl <;> decide
set_option maxRecDepth 100000 in
set_option maxHeartbeats 8000000 in
theorem pla_c {lr ls : Addr} {vr vs : List Value} {ir is : List Int} {n1 n2 : Nat}
    (B : Below A₀ base outer h₀) (F : Fr h₀ L s.heap m) (X : (hd.heap_39 w.params).In h₀)
    (N : News h₀ L s.heap ((lr, listOf vr.toArray n1) :: (ls, listOf vs.toArray n2) :: news))
    (T : Top topProg loose mean mg mb h₀) (hk : cs.kind = .function) (hdp : dp + 1 < recursionLimit) (hu : un + 200 < cLine)
    (ar : IntsAre vr ir) (ap : IntsAre vs is)
    (l1 : ir.length ≤ 9) (l2 : is.length ≤ 2) (b1 : ∀ x ∈ ir, 0 ≤ x ∧ x ≤ 255)
    (ret : ∀ (D : Addr) (us : List Value) (k : Nat) (h' : Heap) (tk' : Nat), IntsAre us (pls ir is) → (∀ p ∈ (lr, listOf vr.toArray n1) :: (ls, listOf vs.toArray n2) :: news, p.1 ≠ D) → Fr h₀ L h' m → News h₀ L h' ((D, listOf us.toArray k) :: (lr, listOf vr.toArray n1) :: (ls, listOf vs.toArray n2) :: news) → Q (.ref D) { s with heap := h', toks := tk' }) :
    wpAny (model Challenge.rw_pd0005_01.row.prog w) (ktrTop dp un gd cn cs L a ccd cl outer) (call (.ref 113) [.ref lr, .ref ls]) Q E s := by
  w_top off; revert X; k_fill; intro X
  refine wpAny_call ?_
  cases cs; cases hk
  k_dflt k_enter
  rename_i g1 L1 h1 tk1 FG1 F1 B1 X1 T1 l1' o1 o2 d1 d2 N1
  have tlA := allLt_ne l1'.2.2 (Nat.le_succ L1)
  have tlB := allLt_ne l1'.2.2 (Nat.le_succ_of_le (Nat.le_succ L1))
  iterate 7 (walk_at "my_step")
  refine' list_loopC (fun pre v => v = num pre) ?hh ?F ?N ?d ?hC ?hl ar ?hp ?turn ?done
  case hh => exact rfl
  case F => assumption
  case N => assumption
  case d => assumption
  case hC => k_all
  case hl => k_mem
  case hp => rfl
  case turn =>
    intro pre post n t o v u tl h tk hb d hP hD F2 N2
    have hpre : ∀ x ∈ pre, 0 ≤ x ∧ x ≤ 255 := fun x hx => b1 x (by rw [hb]; exact List.mem_append_left _ hx)
    have hpl : pre.length ≤ 9 := by rw [hb, List.length_append] at l1; omega
    have hv := num_small hpre hpl
    rw [← hP] at hv
    obtain ⟨hv0, hv1⟩ := hv
    obtain ⟨hn0, hn1⟩ := b1 n (by rw [hb]; simp)
    k_steps
    refine' EndC.intro ?F3 ?N3 ?d3 ?q3 ?P3
    case F3 => assumption
    case N3 => assumption
    case d3 => assumption
    case q3 => intro z q1; simp only [q1, if_false]
    case P3 => rw [num_snoc, hP]
  case done =>
    intro o v u uu h tk d hP F2 N2
    obtain ⟨hv0, hv1⟩ := num_small b1 l1
    rw [← hP] at hv0 hv1
    have hvl := ar.length
    obtain ⟨q, hq⟩ : ∃ q, (8 * (ir.length : Int) + 5).fdiv 6 = q := ⟨_, rfl⟩
    have hq1 : 6 * q ≤ 8 * (ir.length : Int) + 5 ∧ 8 * (ir.length : Int) < 6 * q + 1 := by
      rw [Int.fdiv_eq_ediv_of_nonneg _ (by decide)] at hq; omega
    iterate 18 (walk_at "my_step")
    rw [hq] at *
    have hq0 : 0 ≤ q := by omega
    have hq9 : q ≤ 12 := by omega
    k_steps
    refine' itAt_range (n := q.toNat) ?hh2 ?F2 ?N2 ?hr2 ?hsm2 ?hn2 ?hsz2 ?body2
    case hh2 => exact rfl
    case F2 => assumption
    case N2 => assumption
    case hr2 => assumption
    case hsm2 => exact (down q hq0 hq9).1
    case hn2 => exact (down q hq0 hq9).2
    case hsz2 => rw [sizeLine_eq]; omega
    case body2 =>
    intro g
    refine' compRest_all (fun j y => ∃ t, y = .int (((v * 2 ^ (6 * q - 8 * (ir.length : Int)).toNat).fdiv (2 ^ (6 * (q - 1 + (j : Int) * -1)).toNat)).fmod 64) t) trivial (n := q.toNat) ?el ?fin q.toNat 0 [] (Nat.zero_add _) rfl (by simp)
    case el =>
      intro j vv I oI C oC D ys m₂ h tk E' hj hPj hC hx F3 N3 off ne
      obtain ⟨t, rfl⟩ := hPj
      have hk0 : 0 ≤ q - 1 + (j : Int) * -1 := by omega
      have hk1 : q - 1 + (j : Int) * -1 ≤ 12 := by omega
      k_steps
      refine' ElEnd.intro ?F4 ?N4 ?r4
      case F4 => assumption
      case N4 => assumption
      case r4 => exact ⟨_, rfl⟩
    case fin =>
      intro ys hyl hys
      have hI := intsAre_of ys _ hys
      rw [hyl] at hI
      intro D h tk F3 N3 off
      k_steps
      refine' itAt_list ?hh5 ?F5 ?N5 (List.Mem.head _) ?hsz5 ?body5
      case hh5 => exact rfl
      case F5 => assumption
      case N5 => assumption
      case hsz5 => rw [List.size_toArray, hyl, sizeLine_eq]; omega
      case body5 =>
      intro g5
      refine' compRest_all (fun j y => ∃ t, y = .int (mask is (plc ir j)) t) ?S6 (n := ys.toArray.size) ?el6 ?fin6 ys.toArray.size 0 [] (Nat.zero_add _) rfl (by simp)
      case S6 => exact .inr ⟨_, List.Mem.head _, rfl, _, rfl⟩
      case el6 =>
        intro j vv I oI C oC D6 ys6 m₂ h tk E' hj hPj hC hx F3 N3 off ne
        obtain ⟨t, rfl⟩ := hys j vv (by simpa using hPj)
        have hj' : j < q.toNat := by rw [List.size_toArray, hyl] at hj; exact hj
        rw [hP, plc_eq hq1 hj'] at *
        generalize hpl : plc ir j = pl at *
        k_steps
        · refine' ElEnd.intro ?F7 ?N7 ?r7
          case F7 => assumption
          case N7 => assumption
          case r7 =>
            have e : mask is (plc ir j) = -1 := by rw [hpl]; unfold mask; rw [if_pos (by assumption)]
            rw [hpl] at e
            exact ⟨_, by rw [e]⟩
        · refine' ElEnd.intro ?F8 ?N8 ?r8
          case F8 => assumption
          case N8 => assumption
          case r8 =>
            have e : mask is (plc ir j) = pl := by rw [hpl]; unfold mask; rw [if_neg (Bool.eq_false_iff.mp (by assumption))]
            rw [hpl] at e
            exact ⟨_, by rw [e]⟩
      case fin6 =>
        intro ys6 hyl6 hys6
        have hI6 := intsAre_of ys6 _ hys6
        rw [hyl6, List.size_toArray, hyl, show q.toNat = (8 * ir.length + 5) / 6 by omega] at hI6
        intro D6 h tk F3 N3 off
        k_steps
        refine ret _ _ _ _ _ hI6 ?_ (by assumption) (cb_drop (by assumption) (by kcj_all))
        intro p hp
        exact off1_ne off p (by simp only [List.mem_cons] at hp ⊢; rcases hp with h | h | h <;> simp [h])
end Mine
end PartC3

section PartC4
open PySem PySem.W PyProof.Rows PySem.Calls
namespace Mine
variable {w : World} {loose : List Str} {mean : ExcName → Option Value} {mg mb : Str → Option Value} {dp un : Nat} {gd : Option (List Code)} {cn : Str} {cs : Scope} {a : Addr} {ccd : Value} {cl : List (Str × Addr)} {outer : List Env} {A₀ : Around} {base h₀ : Heap} {L : Addr} {m : Str → Option Value} {s : Shared} {Q E : Value → Shared → Prop} {news : List (Addr × Obj)}

local macro_rules | `(tactic| walk_at "subscriptTail") => `(tactic| (k_here; (with_reducible show wpAny _ _ (subscriptTail _ _ (Value.bytes _ _) (Value.int _ _)) _ _ _); (refine KBw.item_K (ks := tbl) (by rfl) (by decide) ?h0 ?h1 ?_); (case h0 => first | exact (and63 _).1 | exact (and3 _).1 | exact (and15 _).1); (case h1 => first | exact (and63 _).2 | exact (and3 _).2 | exact (and15 _).2); (intro t' k' g0 g1)))
local macro_rules | `(tactic| k_all) => `(tactic| assumption)
local macro_rules | `(tactic| k_room) => `(tactic| ktr_room)
local macro_rules | `(tactic| walk_at "call type:type") => `(tactic| ((with_reducible show wpAny _ _ (call _ [Value.bytes _ _]) _ _ _); refine call_type_of (Tx := "bytes") rfl (by decide +kernel) ?_))

local macro_rules | `(tactic| walk_at "my_step") => `(tactic| first | (k_unfold; (try dsimp only)) | (k_end; wrow_close) | walk1 | (dsimp only; walk1) | (leave1; (try dsimp only)))

local macro_rules | `(tactic| walk_at "exec For Name Name cons nil") => `(tactic| (k_here; (rename Fr _ _ _ _ => lF'); (with_unfolding_all refine' For_invVF lF' ?k1 ?k2 ?_; (case k1 => exact rfl); (case k2 => exact rfl); k_whole)))

theorem isList_news {h₀ h : Heap} {L D : Addr} {news : List (Addr × Obj)} {its : Array Value} {k : Nat} (N : News h₀ L h news) (hm : (D, listOf its k) ∈ news) : h.IsList D its := ⟨_, (N _ hm).1, rfl, k, rfl⟩

theorem isList_push2 {h₀ h : Heap} {L D : Addr} {news : List (Addr × Obj)} {vs : List Value} {x y : Value} {k : Nat} (N : News h₀ L h news) (hm : (D, listOf ((vs.toArray.push x).push y) k) ∈ news) : h.IsList D (vs ++ [x] ++ [y]).toArray := by
  have := isList_news N hm
  rwa [List.push_toArray, List.push_toArray] at this
theorem isList_push3 {h₀ h : Heap} {L D : Addr} {news : List (Addr × Obj)} {vs : List Value} {x y z : Value} {k : Nat} (N : News h₀ L h news) (hm : (D, listOf (((vs.toArray.push x).push y).push z) k) ∈ news) : h.IsList D (vs ++ [x] ++ [y] ++ [z]).toArray := by
  have := isList_news N hm
  rwa [List.push_toArray, List.push_toArray, List.push_toArray] at this
theorem in_snoc {l : List Int} {v : Int} (h : ∀ n ∈ l, 0 ≤ n ∧ n < 256) (hv : 0 ≤ v ∧ v < 256) : ∀ n ∈ l ++ [v], 0 ≤ n ∧ n < 256 := by
  intro n hn
  rcases List.mem_append.mp hn with hn | hn
  · exact h n hn
  · rw [List.mem_singleton.mp hn]; exact hv

set_option maxRecDepth 100000 in
set_option maxHeartbeats 8000000 in
theorem b2a_c {b : Array UInt8} {k : Tok}
    (B : Below A₀ base outer h₀) (F : Fr h₀ L s.heap m) (X : (hd.heap_39 w.params).In h₀)
    (N : News h₀ L s.heap news)
    (T : Top topProg loose mean mg mb h₀) (hk : cs.kind = .function) (hdp : dp + 2 < recursionLimit) (hu : un + 200 < cLine)
    (l1 : b.size ≤ 9) 
    (ret : CbRet h₀ L m news s Q (fun t => .bytes (byteArr (enc (KBw.bInts b))) t)) :
    wpAny (model Challenge.rw_pd0005_01.row.prog w) (ktrTop dp un gd cn cs L a ccd cl outer) (call (.ref 93) [.bytes b k] [(Str.ofString "newline", .bool false)]) Q E s := by
  w_top off; revert X; k_fill; intro X
  have mk := kstMark
  refine wpAny_call ?_
  cases cs; cases hk
  k_dflt k_enter
  iterate 105 (first | walk_at "my_step" | skip)
  refine bytes_loop2 (Str.ofString "leftbits") (Str.ofString "leftchar") BInv rfl (by assumption) (by assumption) ?hD .nil rfl rfl BInv.nil ?turn ?done
  case hD => exact fun p hp => Nat.ne_of_lt ((by assumption : ∀ p ∈ news, p.1 < _) p hp)
  case turn =>
    intro pre post n t lb t1 lc t2 vs out k tl h tk hb hn0 hn1 hi hP hD F1 N1
    have hpl : pre.length ≤ 9 := by
      have h9 := congrArg List.length hb
      rw [KBw.ints_length, List.length_append] at h9
      omega
    have hpos : ∀ x ∈ pre, 0 ≤ x := fun x hx => (KBw.ints_in (b := b) (by rw [hb]; exact List.mem_append_left _ hx)).1
    have hlc0 : 0 ≤ lc := by rw [hP.2.1]; omega
    have hlc1 : lc < 65536 := by rw [hP.2.1]; omega
    have hvl := hi.length
    have hol := hP.len
    have hvs : vs.toArray.size ≤ 100 := by rw [List.size_toArray]; omega
    have hvs2 : vs.length ≤ 100 := by omega
    rcases hP.cases with ⟨rfl, hm⟩ | ⟨rfl, hm⟩ | ⟨rfl, hm⟩
    · k_steps
      refine' End2.intro1 ?zF1 ?zN1 hi ?zq11 ?zq21 ?zq31 ?zP1
      case zF1 => assumption
      case zN1 => assumption
      case zq11 => rfl
      case zq21 => rfl
      case zq31 => exact fun z q1 q2 q3 => by simp only [q1, q2, q3, if_false]
      case zP1 => exact hP.step0 hpos hn0 hn1 hm
    · k_steps
      refine' End2.intro1 ?zF2 ?zN2 hi ?zq12 ?zq22 ?zq32 ?zP2
      case zF2 => assumption
      case zN2 => assumption
      case zq12 => rfl
      case zq22 => rfl
      case zq32 => exact fun z q1 q2 q3 => by simp only [q1, q2, q3, if_false]
      case zP2 => exact hP.step1 hpos hn0 hn1 hm
    · k_steps
      refine' End2.intro2 ?zF3 ?zN3 hi ?zq13 ?zq23 ?zq33 ?zP3
      case zF3 => assumption
      case zN3 => assumption
      case zq13 => rfl
      case zq23 => rfl
      case zq33 => exact fun z q1 q2 q3 => by simp only [q1, q2, q3, if_false]
      case zP3 => exact hP.step2 hpos hn0 hn1 hm
  case done =>
    intro lb t1 lc t2 vs out k u h tk hi hP F1 N1
    have hbl := KBw.ints_length b
    have hlc0 : 0 ≤ lc := by rw [hP.2.1]; omega
    have hlc1 : lc < 65536 := by rw [hP.2.1]; omega
    have hvl := hi.length
    have hol := hP.len
    have hvs : vs.toArray.size ≤ 100 := by rw [List.size_toArray]; omega
    have hvs2 : vs.length ≤ 100 := by omega
    obtain ⟨ha0, ha1⟩ := bitAnd_range lc (y := 3) (by decide)
    obtain ⟨hb0, hb1⟩ := bitAnd_range lc (y := 15) (by decide)
    rcases hP.cases with ⟨rfl, hm⟩ | ⟨rfl, hm⟩ | ⟨rfl, hm⟩
    · k_steps
      refine' KBa.make_K ?y1_4 ?y2_4 ?y0_4 ?y3_4 hi ?y4_4 ?y5_4 ?y6_4
      case y1_4 => assumption
      case y2_4 => assumption
      case y0_4 => exact rfl
      case y3_4 => exact isList_news (by assumption) (List.Mem.head _)
      · rw [hP.2.2]; exact outs_in _ _
      · omega
      · intro h' t' k' F2 N2 hin
        k_steps
        have e : out = enc (KBw.bInts b) := by rw [hP.2.2]; simp [enc, hm]
        rw [← e] at ret
        exact ret _ _ _ (by assumption) (cb_drop (by assumption) (by kcj_all))
    · k_steps
      refine' KBa.make_K ?y1_5 ?y2_5 ?y0_5 ?y3_5 (((hi.append (.cons _ _ .nil)).append (.cons _ _ .nil)).append (.cons _ _ .nil)) ?y4_5 ?y5_5 ?y6_5
      case y1_5 => assumption
      case y2_5 => assumption
      case y0_5 => exact rfl
      case y3_5 => exact isList_push3 (by assumption) (List.Mem.head _)
      · rw [hP.2.2]
        refine in_snoc (in_snoc (in_snoc (outs_in _ _) (tbl_in _)) ⟨by decide, by decide⟩) ⟨by decide, by decide⟩
      · simp only [List.length_append, List.length_singleton]; omega
      · intro h' t' k' F2 N2 hin
        k_steps
        have e : out ++ [tbl.getD (Builtin.bitAnd lc 3 * 2 ^ Int.toNat 4).toNat 0] ++ [61] ++ [61] = enc (KBw.bInts b) := by
          rw [hP.2.2, hP.2.1, bitAnd_m2, show num (KBw.bInts b) % 65536 % 4 = num (KBw.bInts b) % 4 by omega]; simp [enc, hm]
        rw [← e] at ret
        exact ret _ _ _ (by assumption) (cb_drop (by assumption) (by kcj_all))
    · k_steps
      refine' KBa.make_K ?y1_6 ?y2_6 ?y0_6 ?y3_6 ((hi.append (.cons _ _ .nil)).append (.cons _ _ .nil)) ?y4_6 ?y5_6 ?y6_6
      case y1_6 => assumption
      case y2_6 => assumption
      case y0_6 => exact rfl
      case y3_6 => exact isList_push2 (by assumption) (List.Mem.head _)
      · rw [hP.2.2]
        refine in_snoc (in_snoc (outs_in _ _) (tbl_in _)) ⟨by decide, by decide⟩
      · simp only [List.length_append, List.length_singleton]; omega
      · intro h' t' k' F2 N2 hin
        k_steps
        have e : out ++ [tbl.getD (Builtin.bitAnd lc 15 * 2 ^ Int.toNat 2).toNat 0] ++ [61] = enc (KBw.bInts b) := by
          rw [hP.2.2, hP.2.1, bitAnd_m4, show num (KBw.bInts b) % 65536 % 16 = num (KBw.bInts b) % 16 by omega]; simp [enc, hm]
        rw [← e] at ret
        exact ret _ _ _ (by assumption) (cb_drop (by assumption) (by kcj_all))
end Mine
end PartC4

section PartC5
open PySem PySem.W PyProof.Rows PySem.Calls
namespace Mine
variable {w : World} {loose : List Str} {mean : ExcName → Option Value} {mg mb : Str → Option Value} {dp un : Nat} {gd : Option (List Code)} {cn : Str} {cs : Scope} {a : Addr} {ccd : Value} {cl : List (Str × Addr)} {outer : List Env} {A₀ : Around} {base h₀ : Heap} {L : Addr} {m : Str → Option Value} {s : Shared} {Q E : Value → Shared → Prop} {news : List (Addr × Obj)}

theorem cb_retY {h' : Heap} {tk' t : Nat} {x y : Array UInt8} (hret : CbRet h₀ L m news s Q (fun t => .bytes x t)) (e : y = x) (F : Fr h₀ L h' m) (N : News h₀ L h' news) : Q (.bytes y t) { s with heap := h', toks := tk' } := by
  subst e
  exact hret t h' tk' F N
theorem byteArr_small {b : Array UInt8} (h : b.size ≤ 9) : (byteArr (enc (KBw.bInts b))).size ≤ 1000 := by
  rw [byteArr_size]
  have := enc_len (KBw.bInts b)
  rw [KBw.ints_length] at this
  omega

local macro_rules | `(tactic| k_room) => `(tactic| ktr_room)
local macro_rules | `(tactic| walk_at "call ref") => `(tactic| (k_here; k_dflt (refine' b2a_c ?k1 ?k2 ?k3 ?k4 ?k5 ?k6 ?k7 ?k8 ?k9 ?_); (case k1 => k_asm); (case k2 => k_asm); (case k3 => k_asm); (case k4 => k_asm); (case k5 => k_asm); (case k6 => exact rfl); (case k7 => ktr_room); (case k8 => ktr_units); (case k9 => assumption); (intro t9 h9 tk9 F9 N9); (try dsimp only); (try k_fold)))
local macro_rules | `(tactic| walk_at "getMethod bytes") => `(tactic| (k_here; (refine meth_tr ?_)))
local macro_rules | `(tactic| walk_at "getMethod type:bytes") => `(tactic| (k_here; refine' method_type ?F ?X ?m (by decide +kernel) ?e ?h ?_; (case F => k_asm); (case X => k_asm); (case m => rfl); (case e => k_dflt k_is); (case h => k_handed)))
local macro_rules | `(tactic| walk_at "call builtin:bytes.maketrans") => `(tactic| (k_here; (refine call_mt (by rfl) ?_); (intro t9 k9)))
local macro_rules | `(tactic| walk_at "call builtin:bytes.translate") => `(tactic| (k_here; (refine call_tr (by first | exact mkt_size _ | decide +kernel) (byteArr_small (by assumption)) ?_); (intro t9 k9)))

set_option maxRecDepth 100000 in
set_option maxHeartbeats 8000000 in
theorem e64_c {b : Array UInt8} {k : Tok}
    (B : Below A₀ base outer h₀) (F : Fr h₀ L s.heap m) (X : (hd.heap_39 w.params).In h₀)
    (N : News h₀ L s.heap news)
    (T : Top topProg loose mean mg mb h₀) (hk : cs.kind = .function) (hdp : dp + 3 < recursionLimit) (hu : un + 210 < cLine)
    (l1 : b.size ≤ 9) 
    (ret : CbRet h₀ L m news s Q (fun t => .bytes (byteArr (enc (KBw.bInts b))) t)) :
    wpAny (model Challenge.rw_pd0005_01.row.prog w) (ktrTop dp un gd cn cs L a ccd cl outer) (call (.ref 101) [.bytes b k]) Q E s := by
  w_top off; revert X; k_fill; intro X
  refine wpAny_call ?_
  cases cs; cases hk
  k_dflt k_enter
  k_steps
  exact ret _ _ _ (by assumption) (by assumption)

set_option maxRecDepth 100000 in
set_option maxHeartbeats 8000000 in
theorem e64a_c {b : Array UInt8} {x y : UInt8} {k k2 : Tok}
    (B : Below A₀ base outer h₀) (F : Fr h₀ L s.heap m) (X : (hd.heap_39 w.params).In h₀)
    (N : News h₀ L s.heap news)
    (T : Top topProg loose mean mg mb h₀) (hk : cs.kind = .function) (hdp : dp + 3 < recursionLimit) (hu : un + 210 < cLine)
    (l1 : b.size ≤ 9)
    (ret : CbRet h₀ L m news s Q (fun t => .bytes (trans (mkt #[x, y]) (byteArr (enc (KBw.bInts b)))) t)) :
    wpAny (model Challenge.rw_pd0005_01.row.prog w) (ktrTop dp un gd cn cs L a ccd cl outer) (call (.ref 101) [.bytes b k] [(Str.ofString "altchars", .bytes #[x, y] k2)]) Q E s := by
  w_top off; revert X; k_fill; intro X
  refine wpAny_call ?_
  cases cs; cases hk
  k_dflt k_enter
  k_steps
  · exact ret _ _ _ (by assumption) (by assumption)
  · exact absurd (rfl : ((#[x, y] : Array UInt8).size : Int) = 2) (by assumption)

local macro_rules | `(tactic| walk_at "call ref") => `(tactic| (k_here; k_dflt (refine' e64_c ?k1 ?k2 ?k3 ?k4 ?k5 ?k6 ?k7 ?k8 ?k9 ?_); (case k1 => k_asm); (case k2 => k_asm); (case k3 => k_asm); (case k4 => k_asm); (case k5 => k_asm); (case k6 => exact rfl); (case k7 => ktr_room); (case k8 => ktr_units); (case k9 => assumption); (intro t9 h9 tk9 F9 N9); (try dsimp only); (try k_fold)))
set_option maxRecDepth 100000 in
set_option maxHeartbeats 8000000 in
theorem u64_c {b : Array UInt8} {k : Tok}
    (B : Below A₀ base outer h₀) (F : Fr h₀ L s.heap m) (X : (hd.heap_39 w.params).In h₀)
    (N : News h₀ L s.heap news)
    (T : Top topProg loose mean mg mb h₀) (hk : cs.kind = .function) (hdp : dp + 4 < recursionLimit) (hu : un + 220 < cLine)
    (l1 : b.size ≤ 9)
    (ret : CbRet h₀ L m news s Q (fun t => .bytes (trans (mkt #[45, 95]) (byteArr (enc (KBw.bInts b)))) t)) :
    wpAny (model Challenge.rw_pd0005_01.row.prog w) (ktrTop dp un gd cn cs L a ccd cl outer) (call (.ref 108) [.bytes b k]) Q E s := by
  w_top off; revert X; k_fill; intro X
  refine wpAny_call ?_
  cases cs; cases hk
  k_dflt k_enter
  k_steps
  exact cb_retY (Q := Q) ret (congrArg (trans · _) (by decide +kernel)) (by assumption) (by assumption)
end Mine
end PartC5

section PartP1
open PySem PySem.W PyProof.Rows PySem.Calls
namespace Mine
/-- the text of some octets -/
def txt (b : Array UInt8) : Str := ⟨b.map (·.toNat)⟩
def Oct (r : List Int) : Prop := r.length ≤ 9 ∧ ∀ x ∈ r, 0 ≤ x ∧ x ≤ 255
/-- the law of a writer and the places of its slash -/
def WLaw (f : List Int → Array UInt8) (ss : List Int) : Prop :=
  ∀ (h1 h2 : Str) (r1 r2 : List Int), Oct r1 → Oct r2 → subS h1 (txt (f r1)) h2 (txt (f r2)) = (h1 == h2 && covS r1 (pls r1 ss) (pls r2 ss))

theorem ofNil : Str.ofString "" = ⟨#[]⟩ := by decide +kernel
theorem ofSlash : Str.ofString "/" = ⟨#[47]⟩ := by decide +kernel
theorem str_list_ext {x y : Str} (h : x.cps.toList = y.cps.toList) : x = y := by
  cases x; cases y; simp only at h; rw [Array.toList_inj.mp h]
theorem join_empty_list : ∀ l : List Int, (Str.join ⟨#[]⟩ (l.map fun c => (⟨#[c.toNat]⟩ : Str))).cps.toList = l.map (·.toNat)
  | [] => rfl
  | [a] => rfl
  | a :: b :: r => by
    have ih := join_empty_list (b :: r)
    show ((⟨#[a.toNat]⟩ : Str) ++ ⟨#[]⟩ ++ Str.join ⟨#[]⟩ ((b :: r).map fun c => (⟨#[c.toNat]⟩ : Str))).cps.toList = _
    rw [Str.cps_append, Str.cps_append, Array.toList_append, ih]
    simp
theorem join_chr (b : Array UInt8) : Txt.join (Str.ofString "") ((KBw.bInts b).map fun (c : Int) => (⟨#[c.toNat]⟩ : Str)) = txt b := by
  show Builtin.Str.glued _ _ = _
  rw [StrLaws.glued_eq_join, ofNil]
  refine str_list_ext ?_
  rw [join_empty_list]
  have : b = b.toList.toArray := by simp
  rw [this, KBw.ints_list]
  simp [txt]

theorem slice_last (x : Str) : (Txt.slice x (some (-1)) none != Str.ofString "/") = decide (x.cps.toList.getLast? ≠ some 47) := by
  rw [ofSlash]
  obtain ⟨cps⟩ := x
  obtain ⟨l⟩ := cps
  rcases List.eq_nil_or_concat l with rfl | ⟨l, a, rfl⟩
  · rfl
  · have h := StrLaws.sliceText_from_neg (x := ⟨⟨l ++ [a]⟩⟩) (i := -1) (by decide) (by simp [Str.length]; omega)
    have e : Txt.slice ⟨⟨l ++ [a]⟩⟩ (some (-1)) none = ⟨#[a]⟩ := by
      refine Eq.trans h ?_
      refine str_list_ext ?_
      simp only [Str.length, List.size_toArray, List.length_append, List.length_singleton]
      rw [show ((-1 : Int) + ((l.length + 1 : Nat) : Int)).toNat = l.length by omega, List.drop_left, show ((((l.length + 1 : Nat) : Int)) - (-1 + ((l.length + 1 : Nat) : Int))).toNat = 1 by omega]
      rfl
    simp only [List.concat_eq_append] at *
    rw [e]
    rw [Bool.eq_iff_iff]
    simp [List.getLast?_append]
theorem starts_iff (x y : Str) : Txt.startswith x y = true ↔ y.cps.toList <+: x.cps.toList := by
  unfold Txt.startswith
  rw [StrLaws.subAt_eq, List.drop_zero, List.prefix_iff_eq_take, Bool.and_eq_true, decide_eq_true_iff, beq_iff_eq, Array.length_toList, Nat.zero_add]
  show y.cps.size ≤ x.cps.size ∧ List.take y.cps.size _ = _ ↔ _
  constructor
  · rintro ⟨_, h⟩; exact h.symm
  · intro h
    refine ⟨?_, h.symm⟩
    have := congrArg List.length h
    simp at this
    omega

/-- a writing's signs by the places, and the masked places -/
structure Signs (G : Int → Nat) (M : Int → Int) : Prop where
  ne61 : ∀ p, 0 ≤ p ∧ p < 64 → G p ≠ 61
  sl : ∀ p, 0 ≤ p ∧ p < 64 → (G p = 47 ↔ M p = -1)
  inj : ∀ p q, 0 ≤ p ∧ p < 64 → 0 ≤ q ∧ q < 64 → (G p = G q ↔ M p = M q)
def In64 (P : List Int) : Prop := ∀ p ∈ P, 0 ≤ p ∧ p < 64
section
variable {G : Int → Nat} {M : Int → Int} {P R : List Int} {k j : Nat}
theorem map_iff (S : Signs G M) : ∀ {P R : List Int}, In64 P → In64 R → (P.map G = R.map G ↔ P.map M = R.map M)
  | [], [], _, _ => by simp
  | [], _ :: _, _, _ => by simp
  | _ :: _, [], _, _ => by simp
  | p :: P, q :: R, hp, hq => by
    have ih := map_iff S (P := P) (R := R) (fun x hx => hp x (.tail _ hx)) (fun x hx => hq x (.tail _ hx))
    have := S.inj p q (hp p (.head _)) (hq q (.head _))
    simp only [List.map_cons, List.cons.injEq, ih, this]
theorem not61 (S : Signs G M) (hP : In64 P) : 61 ∉ P.map G := by
  intro h
  obtain ⟨p, hp, e⟩ := List.mem_map.mp h
  exact S.ne61 p (hP p hp) e
theorem filt (S : Signs G M) (hP : In64 P) (k : Nat) : (P.map G ++ List.replicate k 61).filter (fun c => c != 61) = P.map G := by
  rw [List.filter_append, List.filter_eq_self.mpr, List.filter_eq_nil_iff.mpr, List.append_nil]
  · intro a ha
    rw [List.eq_of_mem_replicate ha]; decide
  · intro a ha
    have := not61 S hP
    simp only [bne_iff_ne, ne_eq]
    rintro rfl
    exact this ha
theorem pre_iff (S : Signs G M) {X : List Nat} (hX : 61 ∉ X) (hR : In64 R) : X <+: R.map G ++ List.replicate k 61 ↔ X <+: R.map G := by
  constructor
  · intro h
    have := h.filter (fun c => c != 61)
    rw [filt S hR, List.filter_eq_self.mpr] at this
    · exact this
    · intro a ha
      simp only [bne_iff_ne, ne_eq]
      rintro rfl
      exact hX ha
  · intro h
    exact h.trans (List.prefix_append _ _)
theorem in64_take (h : In64 P) (n : Nat) : In64 (P.take n) := fun p hp => h p (List.mem_of_mem_take hp)
/-- equal writings -/
theorem txt_eq_iff (S : Signs G M) (hP : In64 P) (hR : In64 R) (hk : P.length = R.length → k = j) : P.map G ++ List.replicate k 61 = R.map G ++ List.replicate j 61 ↔ P.map M = R.map M := by
  rw [← map_iff S hP hR]
  constructor
  · intro h
    have := congrArg (List.filter fun c => c != 61) h
    rwa [filt S hP, filt S hR] at this
  · intro h
    have hl : P.length = R.length := by simpa using congrArg List.length h
    rw [h, hk hl]
/-- a padded writing covers no other -/
theorem pad_none (S : Signs G M) {X : List Nat} (hR : In64 R) (h : X ++ [61] ++ [47] <+: R.map G ++ List.replicate j 61) : False := by
  have h1 : List.Sublist [61, 47] (R.map G ++ List.replicate j 61) := by
    refine List.Sublist.trans ?_ h.sublist
    rw [List.append_assoc]
    exact List.sublist_append_right _ _
  obtain ⟨l1, l2, e, s1, s2⟩ := List.sublist_append_iff.mp h1
  cases l1 with
  | nil =>
    rw [List.nil_append] at e
    subst e
    have := List.eq_of_mem_replicate (s2.subset (.tail _ (.head _)))
    cases this
  | cons a r =>
    rw [List.cons_append] at e
    injection e with e1 e2
    subst e1
    exact not61 S hR (s1.subset (.head _))
theorem last_iff (S : Signs G M) (hP : In64 P) : (P.map G).getLast? = some 47 ↔ List.drop ((P.map M).length - 1) (P.map M) = [-1] := by
  rcases List.eq_nil_or_concat P with rfl | ⟨l, a, rfl⟩
  · simp
  · rw [List.concat_eq_append] at *
    have := S.sl a (hP a (by simp))
    simp only [List.map_append, List.map_cons, List.map_nil, List.getLast?_append, List.length_append, List.length_singleton, Nat.add_sub_cancel, List.getLast?_singleton, Option.some_or, Option.some.injEq, this, List.length_map]
    rw [show l.length = (l.map M).length by simp, List.drop_left]
    simp
/-- a whole writing is another's head -/
theorem head_iff (S : Signs G M) (hP : In64 P) (hR : In64 R) : P.map G <+: R.map G ++ List.replicate j 61 ↔ List.take (P.map M).length (R.map M) = P.map M := by
  rw [pre_iff S (not61 S hP) hR, List.prefix_iff_eq_take, ← List.map_take, List.length_map, map_iff S hP (in64_take hR _), List.map_take, List.length_map]
  exact ⟨fun h => h.symm, fun h => h.symm⟩
theorem head_slash_iff (S : Signs G M) (hP : In64 P) (hR : In64 R) : P.map G ++ [47] <+: R.map G ++ List.replicate j 61 ↔ List.take (P.map M).length (R.map M) = P.map M ∧ (R.map M)[P.length]? = some (-1) := by
  rw [pre_iff S (by simp [not61 S hP]) hR]
  have h1 := head_iff (j := 0) S hP hR
  rw [List.replicate_zero, List.append_nil] at h1
  rw [← h1]
  have h2 : (R.map M)[P.length]? = some (-1) ↔ (R.map G)[P.length]? = some 47 := by
    rw [List.getElem?_map, List.getElem?_map]
    cases h : R[P.length]? with
    | none => simp
    | some q =>
      have := S.sl q (hR q (List.mem_of_getElem? h))
      simp [this]
  rw [h2]
  constructor
  · intro h
    refine ⟨(List.prefix_append _ _).trans h, ?_⟩
    obtain ⟨T, e⟩ := h
    rw [← e]
    simp
  · rintro ⟨⟨T, e⟩, h⟩
    rw [← e] at h ⊢
    rw [List.getElem?_append_right (by simp)] at h
    simp at h
    cases T with
    | nil => simp at h
    | cons t T =>
      simp at h
      subst h
      exact ⟨T, by simp⟩
end

/-- the places of a row -/
def plcs (r : List Int) : List Int := (List.range ((8 * r.length + 5) / 6)).map (plc r)
def pad (n : Nat) : Nat := if n % 3 = 1 then 2 else if n % 3 = 2 then 1 else 0
theorem plcs_in (r : List Int) : In64 (plcs r) := by
  intro p hp
  obtain ⟨j, _, rfl⟩ := List.mem_map.mp hp
  exact six_range _ _
theorem plcs_len (r : List Int) : (plcs r).length = (8 * r.length + 5) / 6 := by simp [plcs]
theorem pls_eq (r ss : List Int) : pls r ss = (plcs r).map (mask ss) := by
  unfold pls plcs
  rw [List.map_map]; rfl
theorem plc_whole {r : List Int} {j : Nat} (h : 6 * (j + 1) ≤ 8 * r.length) : plc r j = six (num r) (8 * r.length - 6 * (j + 1)) := by
  unfold plc six
  have e : 6 * ((8 * r.length + 5) / 6 - 1 - j) = (6 * ((8 * r.length + 5) / 6) - 8 * r.length) + (8 * r.length - 6 * (j + 1)) := by omega
  rw [e, Int.pow_add, ← Int.ediv_ediv_of_nonneg (Int.le_of_lt (kbt_pos _)), Int.mul_ediv_cancel _ (Int.ne_of_gt (kbt_pos _))]
theorem plc_last1 {r : List Int} (h : r.length % 3 = 1) : plc r (8 * r.length / 6) = num r % 4 * 16 := by
  unfold plc six
  rw [show 6 * ((8 * r.length + 5) / 6) - 8 * r.length = 4 by omega, show 6 * ((8 * r.length + 5) / 6 - 1 - 8 * r.length / 6) = 0 by omega]
  generalize num r = N
  show N * 16 / 1 % 64 = N % 4 * 16
  omega
theorem plc_last2 {r : List Int} (h : r.length % 3 = 2) : plc r (8 * r.length / 6) = num r % 16 * 4 := by
  unfold plc six
  rw [show 6 * ((8 * r.length + 5) / 6) - 8 * r.length = 2 by omega, show 6 * ((8 * r.length + 5) / 6 - 1 - 8 * r.length / 6) = 0 by omega]
  generalize num r = N
  show N * 4 / 1 % 64 = N % 16 * 4
  omega
theorem enc_eq (r : List Int) : enc r = (plcs r).map (fun p => tbl.getD p.toNat 0) ++ List.replicate (pad r.length) 61 := by
  have ho : outs r (8 * r.length / 6) = (List.range (8 * r.length / 6)).map fun j => tbl.getD (plc r j).toNat 0 := by
    unfold outs
    refine List.map_congr_left fun j hj => ?_
    have := List.mem_range.mp hj
    rw [plc_whole (by omega)]
  unfold enc plcs pad
  rw [ho, List.map_map]
  have h3 : r.length % 3 = 0 ∨ r.length % 3 = 1 ∨ r.length % 3 = 2 := by omega
  rcases h3 with h | h | h
  · rw [if_neg (by omega), if_neg (by omega), if_neg (by omega), if_neg (by omega), show (8 * r.length + 5) / 6 = 8 * r.length / 6 by omega]
    rfl
  · rw [if_pos h, if_pos h, show (8 * r.length + 5) / 6 = 8 * r.length / 6 + 1 by omega, List.range_succ, List.map_append, List.map_singleton, Function.comp_apply, plc_last1 h, List.append_assoc]
    rfl
  · rw [if_neg (by omega), if_pos h, if_neg (by omega), if_pos h, show (8 * r.length + 5) / 6 = 8 * r.length / 6 + 1 by omega, List.range_succ, List.map_append, List.map_singleton, Function.comp_apply, plc_last2 h, List.append_assoc]
    rfl

theorem cov_iff (ir ip io : List Int) : covS ir ip io = true ↔ ip = io ∨ (ir.length % 3 = 0 ∧ List.take ip.length io = ip ∧ (List.drop (ip.length - 1) ip = [-1] ∨ io[ip.length]? = some (-1))) := by
  have e1 : ((ir.length : Int).fmod 3 ≠ 0) ↔ ¬ ir.length % 3 = 0 := by
    rw [Int.fmod_eq_emod_of_nonneg _ (by decide)]; omega
  have e2 : List.take (min ((ip.length : Int) + 1).toNat io.length - (ip.length : Int).toNat) (List.drop (ip.length : Int).toNat io) = [-1] ↔ io[ip.length]? = some (-1) := by
    rw [show ((ip.length : Int) + 1).toNat = ip.length + 1 by omega, show (ip.length : Int).toNat = ip.length by omega]
    by_cases h : ip.length < io.length
    · rw [show min (ip.length + 1) io.length - ip.length = 1 by omega, List.drop_eq_getElem_cons h, List.getElem?_eq_getElem h, List.take_succ_cons, List.take_zero]
      simp
    · rw [List.drop_eq_nil_of_le (by omega), List.getElem?_eq_none (by omega)]
      simp
  unfold covS
  simp only [e1, e2]
  rw [show (ip.length : Int).toNat = ip.length by omega]
  split
  · simp [*]
  · split
    · simp [*]
    · split
      · split
        · simp_all
        · simp_all
      · simp_all
theorem sub_iff (h1 x1 h2 x2 : Str) : subS h1 x1 h2 x2 = true ↔ h1 = h2 ∧ (x1 = x2 ∨ (if x1.cps.toList.getLast? = some 47 then x1.cps.toList <+: x2.cps.toList else x1.cps.toList ++ [47] <+: x2.cps.toList)) := by
  unfold subS
  rw [slice_last]
  by_cases e : h1 = h2
  · subst e
    by_cases e2 : x1 = x2
    · simp [e2]
    · by_cases e3 : x1.cps.toList.getLast? = some 47
      · rw [if_neg (by simp [e2]), if_neg (by simp), if_neg (by rw [decide_eq_true_iff]; exact fun h => h e3), starts_iff, if_pos e3]
        simp [e2]
      · rw [if_neg (by simp [e2]), if_neg (by simp), if_pos (decide_eq_true e3), starts_iff, ofSlash, Str.cps_append, Array.toList_append, if_neg e3]
        simp [e2]
  · simp [e]
theorem str_eq_iff (x y : Str) : x = y ↔ x.cps.toList = y.cps.toList := ⟨fun h => by rw [h], str_list_ext⟩
theorem pad_none2 {G : Int → Nat} {M : Int → Int} {P R : List Int} {k j : Nat} (S : Signs G M) (hR : In64 R) (hk : 0 < k) (h : P.map G ++ List.replicate k 61 ++ [47] <+: R.map G ++ List.replicate j 61) : False := by
  obtain ⟨k', rfl⟩ : ∃ k', k = k' + 1 := ⟨k - 1, by omega⟩
  rw [List.replicate_succ', ← List.append_assoc] at h
  exact pad_none S hR h
/-- the law for any writer whose signs tell the masked places apart -/
theorem wlaw_gen {f : List Int → Array UInt8} {ss : List Int} {G : Int → Nat} (S : Signs G (mask ss)) (hf : ∀ r, (txt (f r)).cps.toList = (plcs r).map G ++ List.replicate (pad r.length) 61) : WLaw f ss := by
  intro h1 h2 r1 r2 _ _
  have hP := plcs_in r1
  have hR := plcs_in r2
  have l1 := plcs_len r1
  have l2 := plcs_len r2
  rw [Bool.eq_iff_iff, sub_iff, Bool.and_eq_true, cov_iff, beq_iff_eq, str_eq_iff (txt (f r1)), hf, hf, pls_eq, pls_eq, List.length_map]
  have heq := txt_eq_iff (k := pad r1.length) (j := pad r2.length) S hP hR (by unfold pad; intro e; split <;> split <;> (try split) <;> (try split) <;> omega)
  rw [heq]
  refine and_congr_right fun _ => or_congr_right ?_
  by_cases h3 : r1.length % 3 = 0
  · have hp : pad r1.length = 0 := by unfold pad; rw [if_neg (by omega), if_neg (by omega)]
    rw [hp, List.replicate_zero, List.append_nil]
    have a1 := last_iff S hP
    have a2 := head_iff (j := pad r2.length) S hP hR
    have a3 := head_slash_iff (j := pad r2.length) S hP hR
    rw [List.length_map] at a1 a2 a3
    by_cases hl : (List.map G (plcs r1)).getLast? = some 47
    · rw [if_pos hl, a2]
      simp [h3, a1.mp hl]
    · rw [if_neg hl, a3]
      have : ¬ (List.drop ((plcs r1).length - 1) (List.map (mask ss) (plcs r1)) = [-1]) := fun e => hl (a1.mpr e)
      simp [h3, this]
  · have hp : 0 < pad r1.length := by unfold pad; split <;> (try split) <;> omega
    rw [if_neg]
    · constructor
      · intro h
        exact (pad_none2 S hR hp h).elim
      · intro h
        exact absurd h.1 h3
    · obtain ⟨k', hk'⟩ : ∃ k', pad r1.length = k' + 1 := ⟨pad r1.length - 1, by omega⟩
      rw [hk', List.replicate_succ', ← List.append_assoc, List.getLast?_append]
      simp
def gPlain (p : Int) : Nat := (tbl.getD p.toNat 0).toNat
def trS (a b c : Nat) : Nat := if c = 47 then b else if c = 43 then a else c
def gTr (a b : Nat) (p : Int) : Nat := trS a b (tbl.getD p.toNat 0).toNat
theorem mkt_get {a b d : UInt8} {c : Nat} (hc : c < 256) : ((mkt #[a, b]).getD c d).toNat = trS a.toNat b.toNat c := by
  have e : mkt #[a, b] = (((Array.range 256).map (·.toUInt8)).setIfInBounds 43 a).setIfInBounds 47 b := rfl
  rw [e, Array.getD_eq_getD_getElem?, Array.getElem?_setIfInBounds]
  unfold trS
  by_cases h : 47 = c
  · subst h; simp
  · rw [if_neg h, if_neg (Ne.symm h), Array.getElem?_setIfInBounds]
    by_cases h2 : 43 = c
    · subst h2; simp
    · rw [if_neg h2, if_neg (Ne.symm h2), Array.getElem?_map, Array.getElem?_eq_getElem (by simpa using hc), Array.getElem_range]
      show (c.toUInt8).toNat = c
      rw [Nat.toUInt8, UInt8.toNat_ofNat']; omega
theorem signs_of {G : Int → Nat} {M : Int → Int} (K : Int → Nat) (H : Nat → Int) (h : ∀ i : Fin 64, G (i.val : Int) ≠ 61 ∧ (G (i.val : Int) = 47 ↔ M (i.val : Int) = -1) ∧ G (i.val : Int) = K (M (i.val : Int)) ∧ M (i.val : Int) = H (G (i.val : Int))) : Signs G M := by
  have h' : ∀ p : Int, 0 ≤ p ∧ p < 64 → G p ≠ 61 ∧ (G p = 47 ↔ M p = -1) ∧ G p = K (M p) ∧ M p = H (G p) := by
    intro p hp
    have := h ⟨p.toNat, by omega⟩
    simp only [show ((p.toNat : Nat) : Int) = p by omega] at this
    exact this
  refine ⟨fun p hp => (h' p hp).1, fun p hp => (h' p hp).2.1, fun p q hp hq => ⟨fun e => ?_, fun e => ?_⟩⟩
  · rw [(h' p hp).2.2.2, (h' q hq).2.2.2, e]
  · rw [(h' p hp).2.2.1, (h' q hq).2.2.1, e]
theorem toU (p : Int) : ((tbl.getD p.toNat 0).toNat.toUInt8).toNat = (tbl.getD p.toNat 0).toNat := by
  have := tbl_in p
  rw [Nat.toUInt8, UInt8.toNat_ofNat']; omega
theorem cat_eq {a b c d : List Nat} (h1 : a = c) (h2 : b = d) : a ++ b = c ++ d := by rw [h1, h2]
theorem txt_plain (r : List Int) : (txt (byteArr (enc r))).cps.toList = (plcs r).map gPlain ++ List.replicate (pad r.length) 61 := by
  have e : byteArr (enc r) = ((enc r).map fun n => n.toNat.toUInt8).toArray := rfl
  unfold txt
  rw [e, enc_eq]
  simp only [List.map_toArray, List.map_append, List.map_map, List.map_replicate]
  exact cat_eq (List.map_congr_left fun p _ => toU p) rfl
theorem txt_tr (a b : UInt8) (r : List Int) : (txt (trans (mkt #[a, b]) (byteArr (enc r)))).cps.toList = (plcs r).map (gTr a.toNat b.toNat) ++ List.replicate (pad r.length) 61 := by
  have e : byteArr (enc r) = ((enc r).map fun n => n.toNat.toUInt8).toArray := rfl
  unfold txt trans
  rw [e, enc_eq]
  simp only [List.map_toArray, List.map_append, List.map_map, List.map_replicate]
  refine cat_eq (List.map_congr_left fun p _ => ?_) ?_
  · have := tbl_in p
    refine (mkt_get (by show ((tbl.getD p.toNat 0).toNat.toUInt8).toNat < 256; rw [toU]; omega)).trans ?_
    show trS a.toNat b.toNat ((tbl.getD p.toNat 0).toNat.toUInt8).toNat = _
    rw [toU]; rfl
  · refine congrArg _ ?_
    exact (mkt_get (by decide)).trans rfl
def backOf (G : Int → Nat) (M : Int → Int) (c : Nat) : Int := ((List.range 64).findSome? fun (i : Nat) => if G (i : Int) = c then some (M (i : Int)) else none).getD 0
def foreOf (G : Int → Nat) (m : Int) : Nat := if m = -1 then 47 else G m
theorem wlaw_plain : WLaw (fun b => byteArr (enc b)) [63] := wlaw_gen (G := gPlain) (signs_of (foreOf gPlain) (backOf gPlain (mask [63])) (by decide +kernel)) txt_plain
theorem wlaw_url : WLaw (fun b => trans (mkt #[45, 95]) (byteArr (enc b))) [] := wlaw_gen (G := gTr 45 95) (signs_of (foreOf (gTr 45 95)) (backOf (gTr 45 95) (mask [])) (by decide +kernel)) (txt_tr 45 95)
theorem wlaw_two : WLaw (fun b => trans (mkt #[47, 47]) (byteArr (enc b))) [62, 63] := wlaw_gen (G := gTr 47 47) (signs_of (foreOf (gTr 47 47)) (backOf (gTr 47 47) (mask [62, 63])) (by decide +kernel)) (txt_tr 47 47)
theorem wlaw_one : WLaw (fun b => trans (mkt #[47, 43]) (byteArr (enc b))) [62] := wlaw_gen (G := gTr 47 43) (signs_of (foreOf (gTr 47 43)) (backOf (gTr 47 43) (mask [62])) (by decide +kernel)) (txt_tr 47 43)
end Mine
end PartP1

section PartW6
open PySem PySem.W PyProof.Rows PySem.Calls PyProof.Rows.LCg LCp
namespace Mine
theorem take_led {h₀ h : Heap} {L : Addr} {led : List (Addr × Obj)} (k : Nat) (_N : News h₀ L h led) : ∃ r, r = List.take k led ∧ ∀ p ∈ r, p ∈ led := ⟨_, rfl, fun _ hp => List.mem_of_mem_take hp⟩
theorem news_sub {h₀ h : Heap} {L : Addr} {led led' : List (Addr × Obj)} (N : News h₀ L h led) (hs : ∀ p ∈ led', p ∈ led) : News h₀ L h led' := fun p hp => N p (hs p hp)
def tupOf (x y : Value) (n : Nat) : Obj := { cls := .type "tuple", data := .seq #[x, y] n }

/-- the seven rows, as the ledger bears them -/
def RowsAt (led : List (Addr × Obj)) (ra : Addr) (hs : Nat → Str) (rs : Nat → List Int) : Prop :=
  ∃ its k, (ra, listOf its k) ∈ led ∧ its.size = 7 ∧ ∀ i, i < 7 → ∃ t u v n vs k2, its[i]? = some (.ref t) ∧ (t, ({ cls := .type "tuple", data := .seq #[.str (hs i) u, .ref v] n } : Obj)) ∈ led ∧ (v, listOf vs.toArray k2) ∈ led ∧ IntsAre vs (rs i)

/-- a writer: what its call gives back -/
def WriterOk (w : World) (led : List (Addr × Obj)) (q : Addr) (f : List Int → Array UInt8) : Prop :=
  ∀ {loose : List Str} {mean : ExcName → Option Value} {mg mb : Str → Option Value} {dp un : Nat} {gd : Option (List Code)} {cn : Str} {cs : Scope} {a : Addr} {ccd : Value} {cl : List (Str × Addr)} {outer : List Env} {A₀ : Around} {base h₀ : Heap} {L : Addr} {m : Str → Option Value} {s : Shared} {Q E : Value → Shared → Prop} {news : List (Addr × Obj)} {b : Array UInt8} {k : Tok},
    Below A₀ base outer h₀ → Fr h₀ L s.heap m → (hd.heap_39 w.params).In h₀ → News h₀ L s.heap news → (∀ p ∈ led, p ∈ news) → Top topProg loose mean mg mb h₀ → cs.kind = .function → dp + 6 < recursionLimit → un + 250 < cLine → b.size ≤ 9 →
    CbRet h₀ L m news s Q (fun t => .bytes (f (KBw.bInts b)) t) → wpAny (model Challenge.rw_pd0005_01.row.prog w) (ktrTop dp un gd cn cs L a ccd cl outer) (call (.ref q) [.bytes b k]) Q E s
theorem writer_plain {w : World} {led : List (Addr × Obj)} : WriterOk w led 101 (fun b => byteArr (enc b)) := by
  intro loose mean mg mb dp un gd cn cs a ccd cl outer A₀ base h₀ L m s Q E news b k B F X N _ T hk hd hu hl ret
  exact e64_c B F X N T hk (by omega) (by omega) hl ret
theorem writer_url {w : World} {led : List (Addr × Obj)} : WriterOk w led 108 (fun b => trans (mkt #[45, 95]) (byteArr (enc b))) := by
  intro loose mean mg mb dp un gd cn cs a ccd cl outer A₀ base h₀ L m s Q E news b k B F X N _ T hk hd hu hl ret
  exact u64_c B F X N T hk (by omega) (by omega) hl ret

def FnRef (K : Frag) (led : List (Addr × Obj)) (q : Addr) : Prop := (∃ o fd, (q, o) ∈ led ∧ o.data = .func fd) ∨ (∃ o fd, K.lookup q = some o ∧ o.data = .func fd)
theorem FnRef.fnAt {K : Frag} {led big : List (Addr × Obj)} {q : Addr} {h₀ h : Heap} {L : Addr} {m : Str → Option Value} (x : FnRef K led q) (F : Fr h₀ L h m) (X : K.In h₀) (N : News h₀ L h big) (sub : ∀ p ∈ led, p ∈ big) : FnAt q h := by
  rcases x with ⟨o, fd, hm, hd⟩ | ⟨o, fd, hm, hd⟩
  · obtain ⟨oc, od, dt, sl⟩ := o
    cases hd
    exact ⟨oc, od, fd, sl, (N _ (sub _ hm)).1⟩
  · obtain ⟨oc, od, dt, sl⟩ := o
    cases hd
    exact ⟨oc, od, fd, sl, F.keep _ _ (X _ _ hm)⟩

def hostS : Nat → Str
  | 6 => Str.ofString "b"
  | _ => Str.ofString "a"
def rowS (out : List Int) : Nat → List Int
  | 0 => []
  | 1 => List.take 3 out
  | 2 => List.take 6 out
  | 3 => out
  | 4 => [Builtin.bitXor (out.getD 0 0) 4] ++ List.drop 1 out
  | 5 => List.take 3 ([Builtin.bitXor (out.getD 0 0) 4] ++ List.drop 1 out)
  | _ => List.take 3 out
def WSize (f : List Int → Array UInt8) : Prop := ∀ r, (f r).size = (enc r).length
def WAll (w : World) (rest : List (Addr × Obj)) (v : Value) : Prop :=
  ∃ t q sl n svs k ss f, v = .ref t ∧ (t, ({ cls := .type "tuple", data := .seq #[.ref q, .ref sl] n } : Obj)) ∈ rest ∧ (sl, listOf svs.toArray k) ∈ rest ∧ IntsAre svs ss ∧ ss.length ≤ 2 ∧ WLaw f ss ∧ WSize f ∧ WriterOk w rest q f ∧ FnRef (hd.heap_39 w.params) rest q
theorem news_ins2 {h₀ h : Heap} {L : Addr} {a b p q : Addr × Obj} {tl : List (Addr × Obj)} (N : News h₀ L h (a :: b :: tl)) (hp : p ∈ tl) (hq : q ∈ tl) : News h₀ L h (a :: b :: p :: q :: tl) := fun r hr => N r (by
  simp only [List.mem_cons] at hr ⊢
  rcases hr with h | h | h | h | h
  · exact .inl h
  · exact .inr (.inl h)
  · exact .inr (.inr (h ▸ hp))
  · exact .inr (.inr (h ▸ hq))
  · exact .inr (.inr h))
theorem news_front {h₀ h : Heap} {L : Addr} {a b c p q : Addr × Obj} {tl : List (Addr × Obj)} (N : News h₀ L h (a :: b :: c :: tl)) (hp : p ∈ tl) (hq : q ∈ tl) : News h₀ L h (p :: q :: a :: b :: c :: tl) := fun r hr => N r (by
  rcases List.mem_cons.mp hr with rfl | hr
  · exact .tail _ (.tail _ (.tail _ hp))
  · rcases List.mem_cons.mp hr with rfl | hr
    · exact .tail _ (.tail _ (.tail _ hq))
    · exact hr)
theorem bitXor4 {x : Int} (h0 : 0 ≤ x) (h1 : x ≤ 255) : 0 ≤ Builtin.bitXor x 4 ∧ Builtin.bitXor x 4 ≤ 255 := by
  have e := bitXor_and x 4
  have e2 := kbt_bit x 2
  have e3 : Builtin.bitAnd x 4 = x / 4 % 2 * 4 := e2
  rw [e, e3]; omega
theorem oct_rowS {out : List Int} (h1 : out.length ≤ 9) (h2 : 2 ≤ out.length) (h3 : ∀ v ∈ out, 0 ≤ v ∧ v ≤ 255) (j : Nat) : Oct (rowS out j) := by
  have ht : ∀ k, Oct (List.take k out) := fun k => ⟨by rw [List.length_take]; omega, fun x hx => h3 x (List.mem_of_mem_take hx)⟩
  have h0 : 0 ≤ out.getD 0 0 ∧ out.getD 0 0 ≤ 255 := by
    cases out with
    | nil => simp at h2
    | cons a r => exact h3 a (.head _)
  have hx := bitXor4 h0.1 h0.2
  have hb : ∀ x ∈ [Builtin.bitXor (out.getD 0 0) 4] ++ List.drop 1 out, 0 ≤ x ∧ x ≤ 255 := by
    intro x hm
    rcases List.mem_append.mp hm with hm | hm
    · rw [List.mem_singleton.mp hm]; exact hx
    · exact h3 x (List.mem_of_mem_drop hm)
  have hl : ([Builtin.bitXor (out.getD 0 0) 4] ++ List.drop 1 out).length ≤ 9 := by rw [List.length_append, List.length_singleton, List.length_drop]; omega
  unfold rowS
  split
  · exact ⟨by simp, fun x hx => by cases hx⟩
  · exact ht 3
  · exact ht 6
  · exact ⟨h1, h3⟩
  · exact ⟨hl, hb⟩
  · exact ⟨by rw [List.length_take]; omega, fun x hx => hb x (List.mem_of_mem_take hx)⟩
  · exact ht 3
theorem bInts_byteArr {r : List Int} (h : ∀ x ∈ r, 0 ≤ x ∧ x ≤ 255) : KBw.bInts (byteArr r) = r := by
  have : byteArr r = (r.map fun n => n.toNat.toUInt8).toArray := by simp [byteArr]
  rw [this, KBw.ints_list, List.map_map]
  conv => rhs; rw [← List.map_id r]
  refine List.map_congr_left fun x hx => ?_
  have := h x hx
  show (((x.toNat.toUInt8).toNat : Nat) : Int) = x
  rw [Nat.toUInt8, UInt8.toNat_ofNat']
  omega
theorem sub5_of {a b c d e : Addr × Obj} {led rest : List (Addr × Obj)} (h : ∀ p ∈ rest, p ∈ led) : ∀ p ∈ rest, p ∈ a :: b :: c :: d :: e :: led := fun p hp => .tail _ (.tail _ (.tail _ (.tail _ (.tail _ (h p hp)))))
theorem strsAre_of : ∀ (ys : List Value) (l : List Int), ys.length = l.length → (∀ (j : Nat) y, ys[j]? = some y → ∃ t, ∃ c : Int, l[j]? = some c ∧ y = Value.str ⟨#[c.toNat]⟩ t) → StrsAre ys (l.map fun (c : Int) => (⟨#[c.toNat]⟩ : Str))
  | [], [], _, _ => .nil
  | [], _ :: _, h, _ => by cases h
  | _ :: _, [], h, _ => by cases h
  | y :: r, c :: l, h, hh => by
    obtain ⟨t, c', hc, rfl⟩ := hh 0 y rfl
    cases hc
    exact .cons _ _ (strsAre_of r l (by simpa using h) fun j z hz => by
      obtain ⟨t, c', hc, e⟩ := hh (j + 1) z (by simpa using hz)
      exact ⟨t, c', by simpa using hc, e⟩)
theorem join_small {b : Array UInt8} {x : Str} (h : b.size ≤ 30) (hx : x.length ≤ 10 := by decide) : (((KBw.bInts b).map fun (c : Int) => (⟨#[c.toNat]⟩ : Str)).map (·.length)).sum + ((KBw.bInts b).map fun (c : Int) => (⟨#[c.toNat]⟩ : Str)).length * x.length ≤ 16777216 := by
  have : ∀ l : List Int, ((l.map fun (c : Int) => (⟨#[c.toNat]⟩ : Str)).map (·.length)).sum = l.length := by
    intro l
    induction l with
    | nil => rfl
    | cons c r ih => simp only [List.map_cons, List.sum_cons, ih, List.length_cons]; show 1 + r.length = r.length + 1; omega
  rw [this, List.length_map, KBw.ints_length]
  have : b.size * x.length ≤ 30 * 10 := Nat.mul_le_mul h hx
  omega
theorem sub_el {x d w' v' I C D : Addr × Obj} {led : List (Addr × Obj)} : ∀ p ∈ I :: C :: D :: ([x] ++ led), p ∈ x :: d :: w' :: v' :: I :: C :: D :: led := by
  intro p hp
  simp only [List.mem_cons, List.singleton_append] at hp ⊢
  rcases hp with h | h | h | h | h <;> simp [h]
theorem and_all {α : Type} {l : List α} {P Q : α → Prop} (h1 : ∀ p ∈ l, P p) (h2 : ∀ p ∈ l, Q p) : ∀ p ∈ l, P p ∧ Q p := fun p hp => ⟨h1 p hp, h2 p hp⟩
theorem take_led2 {h₀ h : Heap} {L : Addr} {led : List (Addr × Obj)} (k j : Nat) (_N : News h₀ L h led) : ∃ r, r = List.take k led ++ List.drop j led ∧ ∀ p ∈ r, p ∈ led := ⟨_, rfl, fun _ hp => (List.mem_append.mp hp).elim List.mem_of_mem_take List.mem_of_mem_drop⟩
def NotCell (o : Obj) : Prop := ∀ x, o.data ≠ .cell x
theorem hw_of {h₀ h : Heap} {L Cw Cs : Addr} {ow os : Obj} {rest : List (Addr × Obj)} (N : News h₀ L h ((Cw, ow) :: (Cs, os) :: rest)) (dw : ∃ x, ow.data = .cell x) (ds : ∃ y, os.data = .cell y) (nc : ∀ p ∈ rest, NotCell p.2) : ∀ p ∈ rest, p.1 ≠ Cw ∧ p.1 ≠ Cs := by
  intro p hp
  have h1 := (N p (.tail _ (.tail _ hp))).1
  have h2 := (N _ (.head _)).1
  have h3 := (N _ (.tail _ (.head _))).1
  obtain ⟨x, dw⟩ := dw
  obtain ⟨y, ds⟩ := ds
  constructor
  · intro e
    rw [e] at h1
    have : ow = p.2 := Option.some.inj (h2.symm.trans h1)
    exact nc p hp x (this ▸ dw)
  · intro e
    rw [e] at h1
    have : os = p.2 := Option.some.inj (h3.symm.trans h1)
    exact nc p hp y (this ▸ ds)
theorem nc_of {o : Obj} {vs : Array Value} (h : o.data = .fields vs) : NotCell o := fun x e => by rw [h] at e; cases e
theorem cells_use {G : Prop} {h₀ h : Heap} {L a : Addr} {o1 o2 : Obj} {led rest : List (Addr × Obj)} (hp : (a + 1 + 1, o1) ∈ led) (hq : (a + 1, o2) ∈ led) (hs : ∀ p ∈ rest, p ∈ led) (N : News h₀ L h led) (k : News h₀ L h ((a + 1 + 1, o1) :: (a + 1, o2) :: rest) → G) : G :=
  k fun r hr => N r (by
    rcases List.mem_cons.mp hr with rfl | hr
    · exact hp
    · rcases List.mem_cons.mp hr with rfl | hr
      · exact hq
      · exact hs r hr)
theorem wsize_plain : WSize (fun b => byteArr (enc b)) := fun r => byteArr_size _
theorem wsize_tr (t : Array UInt8) : WSize (fun b => trans t (byteArr (enc b))) := fun r => by
  show (trans t (byteArr (enc r))).size = _
  unfold trans
  rw [Array.size_map, byteArr_size]
theorem lam_use {G : Prop} {h₀ h : Heap} {L : Addr} {news : List (Addr × Obj)} {p q : Addr × Obj} (hp : p ∈ news) (hq : q ∈ news) (N : News h₀ L h news) (k : News h₀ L h (p :: q :: news) → G) : G :=
  k fun r hr => N r (by
    rcases List.mem_cons.mp hr with rfl | hr
    · exact hp
    · rcases List.mem_cons.mp hr with rfl | hr
      · exact hq
      · exact hr)
end Mine
end PartW6

section PartW7
open PySem PySem.W PyProof.Rows PySem.Calls PyProof.Rows.LCg LCp
namespace Mine
theorem news_add {h₀ h : Heap} {L : Addr} {p : Addr × Obj} {tl : List (Addr × Obj)} (N : News h₀ L h tl) (hp : p ∈ tl) : News h₀ L h (p :: tl) := fun r hr => N r (by
  rcases List.mem_cons.mp hr with rfl | hr
  · exact hp
  · exact hr)
theorem news_front2 {h₀ h : Heap} {L : Addr} {a p q : Addr × Obj} {tl : List (Addr × Obj)} (N : News h₀ L h (a :: tl)) (hp : p ∈ tl) (hq : q ∈ tl) : News h₀ L h (p :: q :: a :: tl) :=
  news_add (news_add N (.tail _ hq)) (.tail _ (.tail _ hp))
theorem item_at {prog : Program} {w : World} {A : Around} {E : Value → Shared → Prop} {s : Shared} {value slice : PySem.Expr} {l : Addr} {its : Array Value} {k : Nat} {u : Tok} {v : Value} {Q : Value → Shared → Prop}
    (hl : s.heap.IsList l its) (hk : k < 100) (hx : its[k]? = some v) (h : Q v s)
    (hs : subscripted slice false (.ref l) (.int (k : Int) u) = operate [.ref l, .int (k : Int) u] (getItem (.ref l) (.int (k : Int) u)) := by with_unfolding_all rfl) :
    wpAny (model prog w) A (subscriptTail value slice (.ref l) (.int (k : Int) u)) Q E s :=
  tail_any hl.typeIs slot_list_getitem.lookup (wpAny_getItem_list hl (by omega) (by omega) (by simpa using hx) h) hs
theorem mem_use2 {G : Prop} {rest : List (Addr × Obj)} {p q : Addr × Obj} (hp : p ∈ rest) (hq : q ∈ rest) (k : p ∈ rest → q ∈ rest → G) : G := k hp hq
theorem news_app {h₀ h : Heap} {L : Addr} (fr : List (Addr × Obj)) {tl : List (Addr × Obj)} (N : News h₀ L h tl) (hp : ∀ p ∈ fr, p ∈ tl) : News h₀ L h (fr ++ tl) := fun r hr => N r ((List.mem_append.mp hr).elim (hp r) id)
theorem all12 {α : Type} {l : List α} {a b c d e f g h i j k m : α} (h1 : a ∈ l) (h2 : b ∈ l) (h3 : c ∈ l) (h4 : d ∈ l) (h5 : e ∈ l) (h6 : f ∈ l) (h7 : g ∈ l) (h8 : h ∈ l) (h9 : i ∈ l) (h10 : j ∈ l) (h11 : k ∈ l) (h12 : m ∈ l) : ∀ p ∈ [a, b, c, d, e, f, g, h, i, j, k, m], p ∈ l := by
  intro p hp
  simp only [List.mem_cons, List.not_mem_nil, or_false] at hp
  rcases hp with rfl | rfl | rfl | rfl | rfl | rfl | rfl | rfl | rfl | rfl | rfl | rfl <;> assumption
theorem and_t {a c : Bool} (h : a = true) : (a && c) = c := by rw [h, Bool.true_and]
theorem and_f {a c : Bool} (h : a = false) : (a && c) = a := by rw [h, Bool.false_and]
theorem isNot_b {prog : Program} {w : World} {A : Around} {E : Value → Shared → Prop} {s : Shared} {a b : Bool} {Q : Value → Shared → Prop} (e : a = b) (h : Q (.bool false) s) : wpAny (model prog w) A (compareOp .IsNot (.bool a) (.bool b)) Q E s := by
  subst e
  exact wpAny_isNot_self rfl h
theorem news_tl3 {h₀ h : Heap} {L : Addr} {a b c : Addr × Obj} {tl : List (Addr × Obj)} (N : News h₀ L h (a :: b :: c :: tl)) : News h₀ L h tl := fun r hr => N r (.tail _ (.tail _ (.tail _ hr)))
theorem host_ok (i : Nat) : PyData.strOk (hostS i) = true := by
  unfold hostS; split <;> decide +kernel
theorem txt_ok (b : Array UInt8) : PyData.strOk (txt b) = true := by
  unfold PyData.strOk txt
  simp only [Array.all_map, Array.all_eq_true, Function.comp_apply, decide_eq_true_eq]
  intro i hi
  have := (b[i]).toNat_lt
  omega
theorem txt_len (b : Array UInt8) : (txt b).length = b.size := by simp [txt, Str.length]
section
variable {w : World} {loose : List Str} {mean : ExcName → Option Value} {mg mb : Str → Option Value} {dp un : Nat} {gd : Option (List Code)} {cn : Str} {cs : Scope} {a : Addr} {ccd : Value} {cl : List (Str × Addr)} {outer : List Env} {A₀ : Around} {base h₀ : Heap} {L : Addr} {m : Str → Option Value} {s : Shared} {Q E : Value → Shared → Prop} {news : List (Addr × Obj)}
theorem sub_e {mgr t1 t2 : Addr} {h1 h2 x1 x2 : Str} {k1 k2 k3 k4 : Tok} {n1 n2 : Nat} {b : Bool}
    (B : Below A₀ base outer h₀) (F : Fr h₀ L s.heap m) (X : (hd.heap_39 w.params).In h₀)
    (N : News h₀ L s.heap ((t1, { cls := .type "tuple", data := .seq #[.str h1 k1, .str x1 k2] n1 }) :: (t2, { cls := .type "tuple", data := .seq #[.str h2 k3, .str x2 k4] n2 }) :: news))
    (T : Top topProg loose mean mg mb h₀) (hk : cs.kind = .function) (hdp : dp + 1 < recursionLimit) (hu : un + 200 < cLine)
    (ok1 : PyData.strOk h1 = true) (ok2 : PyData.strOk h2 = true) (ok3 : PyData.strOk x1 = true) (ok4 : PyData.strOk x2 = true)
    (l1 : x1.length ≤ 1000) (l2 : x2.length ≤ 1000) (e : subS h1 x1 h2 x2 = b)
    (ret : ∀ (h' : Heap) (tk' : Nat), Fr h₀ L h' m → News h₀ L h' ((t1, { cls := .type "tuple", data := .seq #[.str h1 k1, .str x1 k2] n1 }) :: (t2, { cls := .type "tuple", data := .seq #[.str h2 k3, .str x2 k4] n2 }) :: news) → Q (.bool b) { s with heap := h', toks := tk' }) :
    wpAny (model Challenge.rw_pd0005_01.row.prog w) (ktrTop dp un gd cn cs L a ccd cl outer) (call (.ref 64) [.ref mgr, .ref t1, .ref t2]) Q E s := by
  subst e
  exact sub_c B F X N T hk hdp hu ok1 ok2 ok3 ok4 l1 l2 fun t h' tk' F' N' => ret h' tk' F' N'
end
theorem not1 {z e : Str} (h : [e].contains z = false) : z ≠ e ∧ ¬ ([e].contains z = true) := by
  have h2 := h
  simp only [List.contains_eq_mem, decide_eq_false_iff_not, List.mem_cons, List.not_mem_nil, or_false] at h
  exact ⟨h, by rw [h2]; decide⟩
theorem tail9 {α : Type} {a b c d e f g h i p : α} {l : List α} (hp : p ∈ l) : p ∈ a :: b :: c :: d :: e :: f :: g :: h :: i :: l := .tail _ (.tail _ (.tail _ (.tail _ (.tail _ (.tail _ (.tail _ (.tail _ (.tail _ hp))))))))
theorem not2 {z d e : Str} (h : [d, e].contains z = false) : z ≠ d ∧ ¬ ([e].contains z = true) ∧ ¬ ([d, e].contains z = true) := by
  have h2 := h
  simp only [List.contains_eq_mem, decide_eq_false_iff_not, List.mem_cons, List.not_mem_nil, not_or, or_false] at h
  refine ⟨h.1, ?_, by rw [h2]; decide⟩
  simp only [List.contains_eq_mem, decide_eq_true_eq, List.mem_cons, List.not_mem_nil, or_false]
  exact h.2
theorem not5 {z a b c d e : Str} (h : [a, b, c, d, e].contains z = false) : z ≠ a ∧ z ≠ b ∧ z ≠ c ∧ z ≠ d ∧ z ≠ e ∧ ¬ ([a, b, c, d, e].contains z = true) ∧ ¬ ([d, e].contains z = true) := by
  have h2 := h
  simp only [List.contains_eq_mem, decide_eq_false_iff_not, List.mem_cons, List.not_mem_nil, not_or, or_false] at h
  refine ⟨h.1, h.2.1, h.2.2.1, h.2.2.2.1, h.2.2.2.2, by rw [h2]; decide, ?_⟩
  simp only [List.contains_eq_mem, decide_eq_true_eq, List.mem_cons, List.not_mem_nil, not_or, or_false]
  exact ⟨h.2.2.2.1, h.2.2.2.2⟩
end Mine
end PartW7

section PartL3
open PySem PySem.W PyProof.Rows PySem.Calls PyProof.Rows.LCg LCp
namespace Mine
local macro_rules | `(tactic| k_all) => `(tactic| assumption)
local macro_rules | `(tactic| walk_at "my_step") => `(tactic| first | (k_unfold; (try dsimp only)) | (k_end; wrow_close) | walk1 | (dsimp only; walk1) | (leave1; (try dsimp only)))
local macro_rules | `(tactic| walk_at "exec For Name Subscript cons nil") => `(tactic| (k_here; (rename Fr _ _ _ _ => lF'); (with_unfolding_all refine' For_invVF lF' ?k1 ?k2 ?_; (case k1 => exact rfl); (case k2 => exact rfl); k_whole)))
theorem pick_in (n : Int) : 0 ≤ [255, 251, 191, (n.fdiv 4).fmod 256].getD (n.fmod 4).toNat 0 ∧ [255, 251, 191, (n.fdiv 4).fmod 256].getD (n.fmod 4).toNat 0 ≤ 255 := by
  rw [Int.fmod_eq_emod_of_nonneg _ (by decide : (0 : Int) ≤ 4), Int.fmod_eq_emod_of_nonneg _ (by decide : (0 : Int) ≤ 256)]
  have h : n % 4 = 0 ∨ n % 4 = 1 ∨ n % 4 = 2 ∨ n % 4 = 3 := by omega
  rcases h with h | h | h | h <;> rw [h]
  · show 0 ≤ (255 : Int) ∧ (255 : Int) ≤ 255; decide
  · show 0 ≤ (251 : Int) ∧ (251 : Int) ≤ 255; decide
  · show 0 ≤ (191 : Int) ∧ (191 : Int) ≤ 255; decide
  · show 0 ≤ n.fdiv 4 % 256 ∧ n.fdiv 4 % 256 ≤ 255
    generalize n.fdiv 4 = y
    omega
local macro_rules | `(tactic| walk_at "exec For Tuple Name cons nil") => `(tactic| (k_here; (rename Fr _ _ _ _ => lF'); (with_unfolding_all refine' For_turns lF' ?_; k_whole)))
local macro_rules | `(tactic| k_room) => `(tactic| ktr_room)
local macro_rules | `(tactic| walk_at "call ref") => `(tactic| (k_here; k_dflt (refine' e64a_c ?k1 ?k2 ?k3 ?k4 ?k5 ?k6 ?k7 ?k8 ?k9 ?_); (case k1 => k_asm); (case k2 => k_asm); (case k3 => k_asm); (case k4 => k_asm); (case k5 => k_asm); (case k6 => exact rfl); (case k7 => ktr_room); (case k8 => ktr_units); (case k9 => assumption); (intro t9 h9 tk9 F9 N9); (try dsimp only); (try k_fold)))
local macro_rules | `(tactic| walk_at "exec Assign cons ListComp") => `(tactic| (k_here; k_dflt (refine LCp.Assign_ListComp_P (F₀ := by k_asm) (by rfl) (by with_unfolding_all rfl) (by with_unfolding_all rfl) (by decide) (by rfl) (by decide) (by rfl) (by rfl) (by decide) (by rfl) (by rfl) ?_)))
local macro_rules | `(tactic| walk_at "eval ListComp") => `(tactic| (k_here; k_dflt (refine ListComp_W (_F₀ := by k_asm) (by with_unfolding_all rfl) (by decide) (by rfl) (by decide) (by rfl) ?_)))
local macro_rules | `(tactic| walk_at "call ref") => `(tactic| (k_here; (with_reducible show wpAny _ _ (call (Value.ref 113) _) _ _ _); k_dflt (refine' pla_c ?k1 ?k2 ?k3 ?k4 ?k5 ?k6 ?k7 ?k8 ?k9 ?k10 ?k11 ?k12 ?k13 ?_); (case k1 => k_asm); (case k2 => k_asm); (case k3 => k_asm); (case k4 => k_asm); (case k5 => k_asm); (case k6 => exact rfl); (case k7 => ktr_room); (case k8 => ktr_units); (case k9 => assumption); (case k10 => assumption); (case k11 => assumption); (case k12 => assumption); (case k13 => assumption); (intro D9 us9 j9 h9 tk9 hi9 hd9 F9 N9); (try dsimp only); (try k_fold)))
local macro_rules | `(tactic| walk_at "call ref") => `(tactic| (k_here; (with_reducible show wpAny _ _ (call (Value.ref 120) _) _ _ _); k_dflt (refine' cov_c ?k1 ?k2 ?k3 ?k4 ?k5 ?k6 ?k7 ?k8 ?k9 ?k10 ?k11 ?k12 ?k13 ?k14 ?_); (case k1 => k_dflt k_asm); (case k2 => k_dflt k_asm); (case k3 => k_dflt k_asm); (case k4 => k_dflt k_asm); (case k5 => k_dflt k_asm); (case k6 => exact rfl); (case k7 => ktr_room); (case k8 => ktr_units); (case k9 => k_dflt assumption); (case k10 => k_dflt assumption); (case k11 => k_dflt assumption); (case k12 => k_dflt assumption); (case k13 => k_dflt assumption); (case k14 => k_dflt assumption); (intro t9 h9 tk9 F9 N9); (try dsimp only); (try k_fold)))
local macro_rules | `(tactic| walk_at "subscriptTail") => `(tactic| (k_here; (with_reducible show wpAny _ _ (subscriptTail _ _ (Value.ref _) (Value.int (Nat.cast _) _)) _ _ _); with_unfolding_all refine' item_at ?k1 ?k2 ?k3 ?_ ?k4; (case k1 => is_list); (case k2 => assumption); (case k3 => assumption); (case k4 => with_unfolding_all rfl)))
local macro_rules | `(tactic| walk_at "call ref") => `(tactic| (k_here; (with_reducible show wpAny _ _ (call (Value.ref 64) _) _ _ _); k_dflt (refine' sub_e ?k1 ?k2 ?k3 ?k4 ?k5 ?k6 ?k7 ?k8 ?k9 ?k10 ?k11 ?k12 ?k13 ?k14 ?k15 ?_); (case k1 => k_dflt k_asm); (case k2 => k_dflt k_asm); (case k3 => k_dflt k_asm); (case k4 => k_dflt (exact news_tl3 (by assumption))); (case k5 => k_dflt k_asm); (case k6 => exact rfl); (case k7 => ktr_room); (case k8 => ktr_units); (case k9 => k_dflt assumption); (case k10 => k_dflt assumption); (case k11 => k_dflt assumption); (case k12 => k_dflt assumption); (case k13 => k_dflt assumption); (case k14 => k_dflt assumption); (case k15 => k_dflt assumption); (intro h9 tk9 F9 N9); (try dsimp only); (try k_fold)))
local macro_rules | `(tactic| walk_at "compareOp IsNot bool bool") => `(tactic| (k_here; (with_reducible show wpAny _ _ (compareOp CmpOp.IsNot (Value.bool _) (Value.bool _)) _ _ _); refine' isNot_b ?k1 ?_; (case k1 => first | exact and_t (by assumption) | exact and_f (by assumption))))
set_option maxRecDepth 100000 in
set_option maxHeartbeats 8000000 in
theorem t1 : PySem.Challenge.rw_pd0005_01.Holds := hd (by
  k_go0
  all_goals try k_fold
  iterate 21 (walk_at "my_step")
  refine' list_loopL2 (fun pre out => out.length = pre.length + 2 ∧ ∀ v ∈ out, 0 ≤ v ∧ v ≤ 255) ?hh ?F ?N (.cons _ _ (.cons _ _ .nil)) ?hD ?hi ?hp ?turn ?done
  case hh => exact rfl
  case F => assumption
  case N => assumption
  case hD => k_all
  case hi => assumption
  case hp => simp
  case turn =>
    intro pre post n t us out k tl h tk hb hi hP hD F1 N1
    have hpl : pre.length ≤ 7 := by
      have h9 := congrArg List.length hb
      rw [List.length_take, List.length_append] at h9
      omega
    have hul := hi.length
    have hus : us.toArray.size ≤ 100 := by rw [List.size_toArray]; omega
    k_steps
    refine' EndL.intro ?F2 ?N2 ?hm2 ?hs2 hi ?q2 ?P2
    case F2 => assumption
    case N2 => assumption
    case hm2 => exact List.Mem.tail _ (List.Mem.head _)
    case hs2 => exact fun p hp => .tail _ (.tail _ hp)
    case q2 => intro z q1; simp only [q1, if_false]
    case P2 =>
      refine ⟨by simp only [List.length_append, List.length_singleton]; omega, fun v hv => ?_⟩
      rcases List.mem_append.mp hv with hv | hv
      · exact hP.2 v hv
      · rw [List.mem_singleton.mp hv]; exact pick_in n
  case done =>
    intro us out k uu h tk hi hP F1 N1
    obtain ⟨hol, hob⟩ := hP
    have hul := hi.length
    have ho9 : out.length ≤ 9 := by rw [hol, List.length_take]; omega
    have ho2 : 2 ≤ out.length := by omega
    have hus : us.toArray.size ≤ 100 := by rw [List.size_toArray]; omega
    dsimp only
    iterate 116 (walk_at "my_step")
    rename_i rA hR FR NR lR
    iterate 31 (walk_at "my_step")
    rename_i f1 c1 oc1 vs1 t1 ct1 hh1 tt1 FF1 NN1 d11 d12 l11 l12
    iterate 14 (walk_at "my_step")
    rename_i f2 c2 oc2 vs2 t2 ct2 hh2 tt2 FF2 NN2 d21 d22 l21 l22
    iterate 10 (walk_at "my_step")
    rename_i wA hW FW NW lW
    iterate 22 (walk_at "my_step")
    rename_i mA dA z3 z4 z5 z6 z7 z8 z9 z10 z11 z12 z13 z14 z15 z16 z17 z18 z19 z20 z21 z22 z23 z24 z25 z26 hE FE NE
    clear z3 z4 z5 z9 z10 z11 z21 z23 z24 z25
    obtain ⟨rest, erest, hrest⟩ := take_led2 33 35 NE
    simp only [List.take_succ_cons, List.take_zero, List.drop_succ_cons, List.drop_zero, List.cons_append, List.nil_append] at erest
    have RA : RowsAt rest rA hostS (rowS out) := by
      refine' ⟨?its, ?kk, ?mem, ?sz, ?all⟩
      case mem => rw [erest]; k_mem
      case sz => rfl
      case all =>
        intro i hi
        have h7 : i = 0 ∨ i = 1 ∨ i = 2 ∨ i = 3 ∨ i = 4 ∨ i = 5 ∨ i = 6 := by omega
        rcases h7 with rfl | rfl | rfl | rfl | rfl | rfl | rfl
        all_goals (refine' ⟨_, _, _, _, _, _, rfl, ?_, ?_, ?_⟩)
        all_goals first | (rw [erest]; k_mem) | skip
        all_goals first | assumption | exact IntsAre.nil
    refine' mem_use2 (rest := rest) (p := (mA, _)) (q := (dA, _)) ?ma1 ?ma2 ?mgo
    case ma1 => rw [erest]; k_mem
    case ma2 => rw [erest]; k_mem
    intro hman1 hman2
    rename World => wd
    have W1 : WriterOk wd rest f1 (fun b => trans (mkt #[47, 47]) (byteArr (enc b))) := by
      intro loose mean mg mb dp un gd cn cs a ccd cl outer A₀ base h₀ L m s Q E news b kk B F X N sub T hk hdd hu hl ret
      refine' lam_use (p := (f1, _)) (q := (c1, oc1)) (sub _ ?ma) (sub _ ?mb) N ?go1
      case ma => rw [erest]; k_mem
      case mb => rw [erest]; k_mem
      clear erest hrest NE FE N sub
      intro N
      cases cs; cases hk
      refine wpAny_call ?_
      k_dflt kla_enter
      k_steps
      exact ret _ _ _ (by assumption) (cb_drop (by assumption) (fun p hp => .tail _ (.tail _ hp)))
    have W2 : WriterOk wd rest f2 (fun b => trans (mkt #[47, 43]) (byteArr (enc b))) := by
      intro loose mean mg mb dp un gd cn cs a ccd cl outer A₀ base h₀ L m s Q E news b kk B F X N sub T hk hdd hu hl ret
      refine' lam_use (p := (f2, _)) (q := (c2, oc2)) (sub _ ?ma2) (sub _ ?mb2) N ?go2
      case ma2 => rw [erest]; k_mem
      case mb2 => rw [erest]; k_mem
      clear erest hrest NE FE N sub
      intro N
      cases cs; cases hk
      refine wpAny_call ?_
      k_dflt kla_enter
      k_steps
      exact ret _ _ _ (by assumption) (cb_drop (by assumption) (fun p hp => .tail _ (.tail _ hp)))
    refine' cells_use ?cp ?cq hrest NE ?cgo
    case cp => k_mem
    case cq => k_mem
    intro NC
    clear hrest NE
    refine' turns_list [Str.ofString "paths", Str.ofString "places", Str.ofString "i", Str.ofString "j", Str.ofString "due"] ?hh ?F ?N ?hw ?dw ?ds ?hl ?hr ?turn ?done
    case hh => exact rfl
    case F => exact FE
    case N => exact NC
    case hw =>
      refine hw_of NC ⟨_, by assumption⟩ ⟨_, by assumption⟩ ?_
      rw [erest]
      repeat' (first | exact List.forall_mem_nil _ | refine List.forall_mem_cons.mpr ⟨?_, ?_⟩)
      all_goals first | exact nc_of d11 | exact nc_of d21 | (intro x h; cases h; done) | (intro x h; obtain ⟨es, ep, _, hd9, _⟩ := z17; rw [hd9] at h; cases h)
    case dw => exact ⟨_, by assumption⟩
    case ds => exact ⟨_, by assumption⟩
    case hl => rw [erest]; k_mem
    case hr =>
      intro i v hv
      have h4 : i = 0 ∨ i = 1 ∨ i = 2 ∨ i = 3 := by
        have := (Array.getElem?_eq_some_iff.mp hv).1
        simp at this
        omega
      rcases h4 with rfl | rfl | rfl | rfl <;> cases hv <;> exact ⟨_, rfl⟩
    case turn =>
      intro i v u ow os x y tl h tk hv dx dy hsub htl F1 N1
      have WA : WAll wd rest v := by
        have h4 : i = 0 ∨ i = 1 ∨ i = 2 ∨ i = 3 := by
          have := (Array.getElem?_eq_some_iff.mp hv).1
          simp at this
          omega
        rcases h4 with rfl | rfl | rfl | rfl
        all_goals (cases hv)
        · refine' ⟨_, 101, _, _, _, _, _, _, rfl, ?a1, ?a2, .cons _ _ .nil, ?a3, wlaw_plain, wsize_plain, writer_plain, .inr ⟨_, _, rfl, rfl⟩⟩
          case a1 => rw [erest]; k_mem
          case a2 => rw [erest]; k_mem
          case a3 => decide
        · refine' ⟨_, 108, _, _, _, _, _, _, rfl, ?b1, ?b2, .nil, ?b3, wlaw_url, wsize_tr _, writer_url, .inr ⟨_, _, rfl, rfl⟩⟩
          case b1 => rw [erest]; k_mem
          case b2 => rw [erest]; k_mem
          case b3 => decide
        · refine' ⟨_, f1, _, _, _, _, _, _, rfl, ?c1, ?c2, .cons _ _ (.cons _ _ .nil), ?c3, wlaw_two, wsize_tr _, W1, .inl ⟨_, _, ?c4, ?c5⟩⟩
          case c1 => rw [erest]; k_mem
          case c2 => rw [erest]; k_mem
          case c3 => decide
          case c4 => rw [erest]; k_mem
          case c5 => rfl
        · refine' ⟨_, f2, _, _, _, _, _, _, rfl, ?d1, ?d2, .cons _ _ .nil, ?d3, wlaw_one, wsize_tr _, W2, .inl ⟨_, _, ?d4, ?d5⟩⟩
          case d1 => rw [erest]; k_mem
          case d2 => rw [erest]; k_mem
          case d3 => decide
          case d4 => rw [erest]; k_mem
          case d5 => rfl
      clear erest W1 W2 hv
      obtain ⟨t, q, sl, n, svs, kk, ss, f, rfl, m1, m2, hI, hss, hlaw, hsz, hok, hfn⟩ := WA
      have t1 := htl _ (hsub _ m1)
      have t2 := htl _ (hsub _ m2)
      obtain ⟨t11, t12⟩ := t1
      obtain ⟨t21, t22⟩ := t2
      dsimp only at t11 t12 t21 t22
      have e1 := fun p hp => (htl p hp).1
      have e2 := fun p hp => (htl p hp).2
      have N2 := news_ins2 N1 (hsub _ m1) (hsub _ m2)
      clear N1
      k_steps
      rename_i x1 x2 x3 x4 ow2 dw2 hS os2 FS NS ds2
      clear x2 x3
      have hoct := oct_rowS ho9 ho2 hob
      obtain ⟨its, rk, rm, rsz, rall⟩ := RA
      refine' SrcLP.ledger ?sh FS NS (List.Mem.tail _ (List.Mem.tail _ (List.Mem.tail _ (List.Mem.tail _ (hsub _ rm))))) ?ssz ?sbody
      case sh => exact rfl
      case ssz => rw [rsz, sizeLine_eq]; decide
      case sbody =>
      intro g
      refine' compRestP_grow (fun j y led => ∃ t u u2 n, y = .ref t ∧ (t, ({ cls := .type "tuple", data := .seq #[.str (hostS j) u, .str (txt (f (rowS out j))) u2] n } : Obj)) ∈ led)
        (fun j v₁ v₂ => ∃ u v vs k2, v₁ = .str (hostS j) u ∧ v₂ = .ref v ∧ (v, listOf vs.toArray k2) ∈ rest ∧ IntsAre vs (rowS out j)) ?sR ?sS (n := its.size) ?sitems ?sel ?sfin its.size 0 [] _ (Nat.zero_add _) rfl (fun p hp => hp) (by simp)
      case sR =>
        rintro j y led led' ⟨t, u, u2, n, e, hm⟩ hs
        exact ⟨t, u, u2, n, e, hs _ hm⟩
      case sS =>
        intro led hs
        exact .inr ⟨_, hs _ (List.Mem.tail _ (List.Mem.tail _ (List.Mem.tail _ (List.Mem.tail _ (hsub _ rm))))), rfl, _, rfl⟩
      case sitems =>
        intro j v hj hP
        obtain ⟨t, u, v2, n, vs, k2, e1, m1, m2, i1⟩ := rall j (by omega)
        rw [hP] at e1
        cases e1
        exact ⟨t, _, _, _, n, rfl, List.Mem.tail _ (List.Mem.tail _ (List.Mem.tail _ (List.Mem.tail _ (hsub _ m1)))), rfl, rfl, u, v2, vs, k2, rfl, rfl, m2, i1⟩
      case sel =>
        intro j v₁ v₂ led I oI C oC D ys m₂ h tk E' hj hit hs hC hx hx2 F3 N3 off ne
        obtain ⟨u1, v, vs, k2, rfl, rfl, mv, hiv⟩ := hit
        have mw := hs _ (List.Mem.tail _ (List.Mem.head _))
        have mvl := hs _ (List.Mem.tail _ (List.Mem.tail _ (List.Mem.tail _ (List.Mem.tail _ (hsub _ mv)))))
        have N4 := news_front N3 mw mvl
        clear N3 NS FS
        have sub2 : ∀ p ∈ rest, p ∈ led := fun p hp => hs _ (List.Mem.tail _ (List.Mem.tail _ (List.Mem.tail _ (List.Mem.tail _ (hsub _ hp)))))
        obtain ⟨hv9, hvb⟩ := hoct j
        have hvl := hiv.length
        k_steps
        refine' callWith_F (hfn.fnAt (by assumption) (by assumption) N4 (sub5_of sub2)) ?_
        iterate 7 (walk_at "my_step")
        refine' KBa.make_K ?b1 N4 ?b3 ?b4 hiv ?b5 ?b6 ?b7
        case b1 => assumption
        case b3 => exact rfl
        case b4 => exact isList_news N4 (List.Mem.tail _ (List.Mem.head _))
        case b5 => exact fun x hx => ⟨(hvb x hx).1, by have := (hvb x hx).2; omega⟩
        case b6 => omega
        case b7 =>
        intro h5 t5 k5 F5 N5 hin5
        iterate 1 (walk_at "my_step")
        refine ⟨hfn.fnAt F5 (by assumption) N5 (sub5_of sub2), ?_⟩
        have eb := bInts_byteArr hvb
        k_dflt (refine' hok ?c1 F5 ?c3 N5 (sub5_of sub2) ?c6 ?c7 ?c8 ?c9 ?c10 ?c11)
        case c1 => assumption
        case c3 => assumption
        case c6 => assumption
        case c7 => exact rfl
        case c8 => exact Nat.le_of_ble_eq_true rfl
        case c9 => exact Nat.le_of_ble_eq_true rfl
        case c10 => rw [byteArr_size]; omega
        case c11 =>
        intro t6 h6 k6 F6 N6
        dsimp only
        rw [eb]
        have hfs : (f (rowS out j)).size ≤ 30 := by
          rw [hsz]
          have := enc_len (rowS out j)
          omega
        refine' itAt_bytes ?p1 F6 N6 ?p3 ?p4
        case p1 => exact rfl
        case p3 => rw [sizeLine_eq]; omega
        case p4 =>
        intro g6
        refine' compRest_all (fun i y => ∃ t c, (KBw.bInts (f (rowS out j)))[i]? = some c ∧ y = .str ⟨#[c.toNat]⟩ t) trivial (n := (f (rowS out j)).size) ?el6 ?fin6 _ 0 [] (Nat.zero_add _) rfl (by simp)
        case el6 =>
          intro jj vv I6 oI6 C6 oC6 D6 ys6 m6 h7 tk7 E7 hj7 hP7 hC7 hx7 F7 N7 off7 ne7
          obtain ⟨c, tc, hc, rfl⟩ := hP7
          obtain ⟨hc0, hc1⟩ := KBw.ints_in (List.mem_of_getElem? hc)
          clear N4 N5 N6
          k_steps
          refine' ElEnd.intro ?w1 ?w2 ?w3
          case w1 => assumption
          case w2 => assumption
          case w3 => exact ⟨_, c, hc, rfl⟩
        case fin6 =>
          intro ys6 hyl6 hys6
          have hstr := strsAre_of ys6 (KBw.bInts (f (rowS out j))) (by rw [hyl6, KBw.ints_length]) hys6
          intro D6 h7 tk7 F7 N7 off7
          clear N4 N5 N6
          k_steps
          refine' join_list ?v1 hstr ?v2 ?v3
          case v1 => exact isList_news N7 (List.Mem.head _)
          case v2 => exact join_small hfs
          case v3 =>
          intro t8 k8
          rw [join_chr]
          have aI := Heap.lt_size (N7 (I, oI) (List.Mem.tail _ (List.Mem.tail _ (List.Mem.tail _ (List.Mem.head _))))).1
          have aC := Heap.lt_size (N7 (C, oC) (List.Mem.tail _ (List.Mem.tail _ (List.Mem.tail _ (List.Mem.tail _ (List.Mem.head _)))))).1
          have aD := Heap.lt_size (N7 (D, lst ys) (List.Mem.tail _ (List.Mem.tail _ (List.Mem.tail _ (List.Mem.tail _ (List.Mem.tail _ (List.Mem.head _))))))).1
          k_steps
          rename_i hZ FZ NZ y1 y2 y3 y4 y5
          clear y1 y2 y3 y4 y5
          subst qk
          dsimp only
          refine' ElGrow.intro [_] FZ NZ ?z3 ?z4 ?z5
          case z3 => exact sub_el
          case z4 => exact ⟨⟨Nat.ne_of_gt aI, Nat.ne_of_gt aC, Nat.ne_of_gt aD⟩, trivial⟩
          case z5 => exact ⟨_, _, _, _, rfl, List.Mem.head _⟩
      case sfin =>
        intro ys led hyl hs hys
        have sub3 : ∀ p ∈ rest, p ∈ led := fun p hp => hs _ (List.Mem.tail _ (List.Mem.tail _ (List.Mem.tail _ (List.Mem.tail _ (hsub _ hp)))))
        intro D1 h1 tk1 FP NP offP
        have NP2 := news_front2 NP (hs _ (List.Mem.head _)) (sub3 _ m2)
        clear NP FS NS
        k_steps
        refine' SrcLP.ledger ?sh FP NP2 (List.Mem.tail _ (List.Mem.tail _ (List.Mem.tail _ (sub3 _ rm)))) ?ssz ?sbody2
        case sh => exact rfl
        case ssz => rw [rsz, sizeLine_eq]; decide
        case sbody2 =>
        intro g2
        refine' compRestP_grow (fun j y led => ∃ D us k, y = .ref D ∧ (D, listOf us.toArray k) ∈ led ∧ IntsAre us (pls (rowS out j) ss))
          (fun j v₁ v₂ => ∃ v vs k2, v₂ = .ref v ∧ (v, listOf vs.toArray k2) ∈ rest ∧ IntsAre vs (rowS out j)) ?sR2 ?sS2 (n := its.size) ?sitems2 ?sel2 ?sfin2 its.size 0 [] _ (Nat.zero_add _) rfl (fun p hp => hp) (by simp)
        case sR2 =>
          rintro j y led led' ⟨D, us, k, e, hm, hi⟩ hs
          exact ⟨D, us, k, e, hs _ hm, hi⟩
        case sS2 =>
          intro led hs
          exact .inr ⟨_, hs _ (List.Mem.tail _ (List.Mem.tail _ (List.Mem.tail _ (sub3 _ rm)))), rfl, _, rfl⟩
        case sitems2 =>
          intro j v hj hP
          obtain ⟨t, u, v2, n, vs, k2, e1, m1, m2, i1⟩ := rall j (by omega)
          rw [hP] at e1
          cases e1
          exact ⟨t, _, _, _, n, rfl, List.Mem.tail _ (List.Mem.tail _ (List.Mem.tail _ (sub3 _ m1))), rfl, rfl, v2, vs, k2, rfl, m2, i1⟩
        case sel2 =>
          intro j v₁ v₂ led2 I oI C oC D ys2 m₂ h tk E' hj hit hs2 hC hx hx2 F3 N3 off ne
          obtain ⟨v, vs, k2, rfl, mv, hiv⟩ := hit
          have sub4 : ∀ p ∈ led, p ∈ led2 := fun p hp => hs2 _ (List.Mem.tail _ (List.Mem.tail _ (List.Mem.tail _ hp)))
          have N4 := news_add (news_add (news_add N3 (List.Mem.tail _ (List.Mem.tail _ (List.Mem.tail _ (hs2 _ (List.Mem.head _)))))) (List.Mem.tail _ (List.Mem.tail _ (List.Mem.tail _ (List.Mem.tail _ (sub4 _ (sub3 _ m2))))))) (List.Mem.tail _ (List.Mem.tail _ (List.Mem.tail _ (List.Mem.tail _ (List.Mem.tail _ (sub4 _ (sub3 _ mv)))))))
          clear N3 NP2 FP
          obtain ⟨hv9, hvb⟩ := hoct j
          k_steps
          rename_i D9 us9 j9 h9 tk9 hi9 hd9 F9 N9
          refine' ElGrow.intro [_] F9 N9 ?z3 ?z4 ?z5
          case z3 => exact sub_el
          case z4 => exact ⟨⟨Ne.symm (hd9 _ (List.Mem.tail _ (List.Mem.tail _ (List.Mem.tail _ (List.Mem.head _))))), Ne.symm (hd9 _ (List.Mem.tail _ (List.Mem.tail _ (List.Mem.tail _ (List.Mem.tail _ (List.Mem.head _)))))), Ne.symm (hd9 _ (List.Mem.tail _ (List.Mem.tail _ (List.Mem.tail _ (List.Mem.tail _ (List.Mem.tail _ (List.Mem.head _)))))))⟩, trivial⟩
          case z5 => exact ⟨_, _, _, rfl, List.Mem.head _, hi9⟩
        case sfin2 =>
          intro ys2 led2 hyl2 hs2 hys2
          have sub4 : ∀ p ∈ led, p ∈ led2 := fun p hp => hs2 _ (List.Mem.tail _ (List.Mem.tail _ (List.Mem.tail _ hp)))
          have mD1 := hs2 _ (List.Mem.tail _ (List.Mem.tail _ (List.Mem.head _)))
          intro D2 h2 tk2 FQ NQ offQ
          have NQ2 := news_front2 NQ mD1 (sub4 _ (sub3 _ rm))
          clear NQ NP2 FP
          iterate 15 (walk_at "my_step")
          rename_i h3 tk3 r1 r2 r3 R3 F3 N3 H3
          refine' range_loop0 [Str.ofString "j", Str.ofString "due"] (n := 7) ?gh R3 ?gs ?gn F3 N3 ?gturn ?gdone
          case gh => exact rfl
          case gs => decide
          case gn => decide
          case gturn =>
            intro i0 t5 u5 tl5 h5 tk5 hi5 hsub5 F5 N5
            have N5b := news_add N5 (hsub5 _ (List.Mem.tail _ (List.Mem.head _)))
            clear N5 F3 N3 R3
            iterate 15 (walk_at "my_step")
            rename_i h6 tk6 r4 r5 r6 R6 F6 N6 H6
            refine' range_loop0 [Str.ofString "due"] (n := 7) ?jh R6 ?js ?jn F6 N6 ?jturn ?jdone
            case jh => exact rfl
            case js => decide
            case jn => decide
            case jdone =>
              intro u7 h7 tk7 F7 N7
              k_steps
              refine' End0.intro F7 N7 ?fsub ?fq
              case fsub => exact fun p hp => List.Mem.tail _ hp
              case fq =>
                intro z hz hc
                obtain ⟨n1, n2, n3⟩ := not2 hc
                exact (if_neg n1).trans ((if_neg n2).trans ((if_neg hz).trans (if_neg n3)))
            case jturn =>
              intro j0 t8 u8 tl8 h8 tk8 hj8 hsub8 F8 N8
              have sub5 : ∀ p ∈ led2, p ∈ tl8 := fun p hp => hsub8 _ (List.Mem.tail _ (hsub5 _ (List.Mem.tail _ (List.Mem.tail _ (List.Mem.tail _ hp)))))
              have sub6 : ∀ p ∈ rest, p ∈ tl8 := fun p hp => sub5 _ (sub4 _ (sub3 _ hp))
              obtain ⟨ta, ua, va, na, vsa, ka, ea, ma1, ma2, iva⟩ := rall i0 hi5
              obtain ⟨tb, ub, vb, nb, vsb, kb, eb, mb1, mb2, ivb⟩ := rall j0 hj8
              obtain ⟨y1, hpa⟩ : ∃ y, ys[i0]? = some y := ⟨_, List.getElem?_eq_getElem (by omega)⟩
              obtain ⟨y2, hpb⟩ : ∃ y, ys[j0]? = some y := ⟨_, List.getElem?_eq_getElem (by omega)⟩
              obtain ⟨y3, hda⟩ : ∃ y, ys2[i0]? = some y := ⟨_, List.getElem?_eq_getElem (by omega)⟩
              obtain ⟨y4, hdb⟩ : ∃ y, ys2[j0]? = some y := ⟨_, List.getElem?_eq_getElem (by omega)⟩
              obtain ⟨qa, ka1, ka2, kna, rfl, mqa⟩ := hys i0 _ hpa
              obtain ⟨qb, kb1, kb2, knb, rfl, mqb⟩ := hys j0 _ hpb
              obtain ⟨da, usa, kda, rfl, mda, ida⟩ := hys2 i0 _ hda
              obtain ⟨db, usb, kdb, rfl, mdb, idb⟩ := hys2 j0 _ hdb
              have hpa' : ys.toArray[i0]? = some (.ref qa) := by simpa using hpa
              have hpb' : ys.toArray[j0]? = some (.ref qb) := by simpa using hpb
              have hda' : ys2.toArray[i0]? = some (.ref da) := by simpa using hda
              have hdb' : ys2.toArray[j0]? = some (.ref db) := by simpa using hdb
              have N9 := news_app [_, _, _, _, _, _, _, _, _, _, _, _] N8 (all12 (sub6 _ ma2) (sub5 _ mda) (sub5 _ mdb) (sub5 _ (sub4 _ mqa)) (sub5 _ (sub4 _ mqb)) (sub6 _ ma1) (sub6 _ mb1) (sub6 _ rm) (sub5 _ mD1) (hsub8 _ (List.Mem.tail _ (hsub5 _ (List.Mem.tail _ (List.Mem.tail _ (List.Mem.head _)))))) (sub6 _ hman1) (sub6 _ hman2))
              simp only [List.cons_append, List.nil_append] at N9
              have hoa := hoct i0
              have hob2 := hoct j0
              have hla := pls_len (rowS out i0) ss
              have hlb := pls_len (rowS out j0) ss
              have hoa9 := hoa.1
              have hob9 := hob2.1
              have hii : i0 < 100 := by omega
              have hjj : j0 < 100 := by omega
              have hla9 := hlaw (hostS i0) (hostS j0) _ _ hoa hob2
              have hl1 : (rowS out i0).length ≤ 1000 := by omega
              have hl2 : (pls (rowS out i0) ss).length ≤ 1000 := by omega
              have hl3 : (pls (rowS out j0) ss).length ≤ 1000 := by omega
              have ho1 := host_ok i0
              have ho3 := host_ok j0
              have ho5 := txt_ok (f (rowS out i0))
              have ho6 := txt_ok (f (rowS out j0))
              have ho7 : (txt (f (rowS out i0))).length ≤ 1000 := by
                rw [txt_len, hsz]
                have := enc_len (rowS out i0)
                omega
              have ho8 : (txt (f (rowS out j0))).length ≤ 1000 := by
                rw [txt_len, hsz]
                have := enc_len (rowS out j0)
                omega
              clear N8 F6 N6 R6 H6
              k_steps
              all_goals
                refine' End0.intro ?wF ?wN ?wsub ?wq
                case wF => assumption
                case wN => assumption
                case wsub => exact fun p hp => tail9 hp
                case wq =>
                  intro z hz hc
                  obtain ⟨n1, n2⟩ := not1 hc
                  exact (if_neg n1).trans ((if_neg hz).trans (if_neg n2))
          case gdone =>
            intro u4 h4 tk4 F4 N4
            k_steps
            refine' EndT.intro F4 N4 ?esub ?edw ?eds ?eq
            case esub =>
              intro p hp
              rcases List.mem_cons.mp hp with rfl | hp
              · exact .tail _ (.tail _ (.tail _ (sub4 _ (hs _ (.head _)))))
              · rcases List.mem_cons.mp hp with rfl | hp
                · exact .tail _ (.tail _ (.tail _ (sub4 _ (hs _ (.tail _ (.head _))))))
                · exact .tail _ (.tail _ (.tail _ (sub4 _ (hs _ (.tail _ (.tail _ (.tail _ (.tail _ hp))))))))
            case edw => assumption
            case eds => assumption
            case eq =>
              intro z hz
              obtain ⟨n1, n2, n3, n4, n5, n6, n7⟩ := not5 hz
              exact (if_neg n3).trans ((if_neg n7).trans ((if_neg n2).trans ((if_neg n1).trans (if_neg n6))))
    case done =>
      intro u ow os h tk F1 N1
      dsimp only
      clear W1 W2 RA
      iterate 3 (first | walk1 | (dsimp only; walk1))
      dsimp only
      refine' ⟨goodW_bool F1 (by assumption) (fun _ => rfl) (postW_of rfl (w_eq_bool (w_res rfl) w_lit) (by decide)), ?gr⟩
      case gr =>
        refine' And.intro (GrownAt.of N1 (List.Mem.tail _ (List.Mem.tail _ ?gm))) trivial
        case gm => rw [erest]; k_mem)
end Mine
end PartL3

theorem PySem.Challenge.cw_pd0005_01_holds : PySem.Challenge.rw_pd0005_01.Holds :=
  Mine.t1
