import PyProof.Rows.All
import Wide.All
import OpenK.AllK
import Wide.FinOn
import PySem.Challenge.RW_op0070_02
open PySem PySem.W PyProof.Rows
set_option Elab.async false
set_option linter.all false
namespace Mine
section
local macro_rules | `(tactic| o_head (kHook $_K $_as $_e)) => `(tactic| (exfalso; assumption))
theorem pre02 : False → PySem.Challenge.rw_op0070_02.row.Holds := by
  intro hf
  k_head
end
noncomputable def gd : Str := Str.ofString "a"
theorem gd_of {α : Type} {a b : α} (_ : a = b) : gd = Str.ofString "a" ∧ b = b := ⟨rfl, rfl⟩
noncomputable def KK02 : Params → Frag := fun P => by
  refine' (fun (l : Frag) (_ : gd = Str.ofString "a" ∧ l = l) => l) _ (gd_of (?_ : pre02.heap_1 P = _))
  rotate_left
  delta pre02.heap_1
  exact rfl
noncomputable def ap (n : Nat) : List UInt8 := if n = 0 then [] else ap (n / 16) ++ [(65 + n % 16).toUInt8]
decreasing_by omega
theorem ap_zero : ap 0 = [] := by rw [ap]; simp
theorem i2a_start {x : Int} (h : x.natAbs < 16 ^ 30) : 0 ≤ (if x < 0 then -x else x) ∧ ap (if x < 0 then -x else x).toNat ++ (#[] : Array UInt8).toList = ap x.natAbs ∧ (if x < 0 then -x else x).toNat * 16 ^ (#[] : Array UInt8).size < 16 ^ 30 ∧ (#[] : Array UInt8).size ≤ 30 := by
  have e : (if x < 0 then -x else x) = (x.natAbs : Int) := by omega
  rw [e]
  simp [h]
theorem ap_step {n : Nat} (h : n ≠ 0) : ap n = ap (n / 16) ++ [(65 + n % 16).toUInt8] := by rw [ap]; simp [h]
theorem picked_AP : ∀ k : Fin 16, KBy.picked #[65, 66, 67, 68, 69, 70, 71, 72, 73, 74, 75, 76, 77, 78, 79, 80] (some (k.val : Int)) (some ((k.val : Int) + 1)) = #[(65 + k.val).toUInt8] := by decide +kernel
theorem picked_AP' {k : Int} (h0 : 0 ≤ k) (h1 : k < 16) : KBy.picked #[65, 66, 67, 68, 69, 70, 71, 72, 73, 74, 75, 76, 77, 78, 79, 80] (some k) (some (k + 1)) = #[(65 + k.toNat).toUInt8] := by
  have := picked_AP ⟨k.toNat, by omega⟩
  simp only [show ((k.toNat : Nat) : Int) = k by omega] at this
  exact this
theorem i2a_turn {x n : Int} {v : Array UInt8} (h0 : 0 ≤ n) (h : ap n.toNat ++ v.toList = ap x.natAbs) (hb : n.toNat * 16 ^ v.size < 16 ^ 30) (hs : v.size ≤ 30) (hn : n ≠ 0) :
    0 ≤ n.fdiv 16 ∧ ap (n.fdiv 16).toNat ++ (#[(65 + (n.fmod 16).toNat).toUInt8] ++ v).toList = ap x.natAbs ∧ (n.fdiv 16).toNat * 16 ^ (#[(65 + (n.fmod 16).toNat).toUInt8] ++ v).size < 16 ^ 30 ∧ (#[(65 + (n.fmod 16).toNat).toUInt8] ++ v).size ≤ 30 := by
  have e1 : n.fdiv 16 = n / 16 := by rw [Int.fdiv_eq_ediv_of_nonneg _ (by omega)]
  have e2 : n.fmod 16 = n % 16 := by rw [Int.fmod_eq_emod_of_nonneg _ (by omega)]
  obtain ⟨k, rfl⟩ := Int.eq_ofNat_of_zero_le h0
  rw [e1, e2]
  have hk : k ≠ 0 := by omega
  have t1 : ((k : Int) / 16).toNat = k / 16 := by omega
  have t2 : ((k : Int) % 16).toNat = k % 16 := by omega
  rw [t1, t2]
  simp only [Int.toNat_natCast] at h hb
  rw [ap_step hk] at h
  have hsz : v.size < 30 := by
    refine Nat.lt_of_le_of_ne hs fun e => ?_
    rw [e] at hb
    have : 1 * 16 ^ 30 ≤ k * 16 ^ 30 := Nat.mul_le_mul_right _ (by omega)
    omega
  refine ⟨by omega, by simpa using h, ?_, by simp; omega⟩
  rw [Array.size_append]
  show k / 16 * 16 ^ (1 + v.size) < 16 ^ 30
  rw [Nat.pow_add, ← Nat.mul_assoc]
  refine Nat.lt_of_le_of_lt (Nat.mul_le_mul_right _ ?_) hb
  omega
theorem i2a_end {x n : Int} {v : Array UInt8} (h : ap n.toNat ++ v.toList = ap x.natAbs) (hn : n = 0) : v = (ap x.natAbs).toArray := by
  subst hn
  rw [← h, show (0 : Int).toNat = 0 from rfl, ap_zero]
  simp
theorem i2a_less {n : Int} (h0 : 0 ≤ n) (hn : n ≠ 0) : (n.fdiv 16).toNat < n.toNat := by
  rw [Int.fdiv_eq_ediv_of_nonneg _ (by omega)]
  omega
theorem bitOr_nat (x y : Nat) : Builtin.bitOr (x : Int) (y : Int) = ((x ||| y : Nat) : Int) := by
  have e1 : Builtin.bitNot (x : Int) = -(x : Int) - 1 := rfl
  have e2 : Builtin.bitNot (y : Int) = -(y : Int) - 1 := rfl
  unfold Builtin.bitOr
  unfold Builtin.bitAnd
  rw [e1, e2]
  have d1 : decide (0 ≤ -(x : Int) - 1) = false := by rw [decide_eq_false_iff_not]; omega
  have d2 : decide (0 ≤ -(y : Int) - 1) = false := by rw [decide_eq_false_iff_not]; omega
  rw [d1, d2]
  dsimp only
  show Builtin.bitNot (Builtin.bitNot _) = _
  have k (z : Int) : Builtin.bitNot z = -z - 1 := rfl
  simp only [k]
  rw [show (-(-(x : Int) - 1) - 1).toNat = x by omega, show (-(-(y : Int) - 1) - 1).toNat = y by omega]
  omega
theorem bitOr_add {l x : Int} (k : Nat) (hl : 0 ≤ l) (h0 : 0 ≤ x) (h1 : x < 2 ^ k) : Builtin.bitOr (l * 2 ^ k) x = l * 2 ^ k + x := by
  obtain ⟨l, rfl⟩ := Int.eq_ofNat_of_zero_le hl
  obtain ⟨x, rfl⟩ := Int.eq_ofNat_of_zero_le h0
  have h2 : x < 2 ^ k := by exact_mod_cast h1
  have e : (l : Int) * 2 ^ k = ((2 ^ k * l : Nat) : Int) := by push_cast; rw [Int.mul_comm]
  rw [e, bitOr_nat, ← Nat.two_pow_add_eq_or_of_lt h2]
  push_cast
  rfl
noncomputable def v64 (l : List Int) : Int := l.foldl (fun a c => a * 64 + (c - 65)) 0
noncomputable def v256 (l : List Int) : Int := l.foldl (fun a c => a * 256 + c) 0
theorem v64_app (l : List Int) (n : Int) : v64 (l ++ [n]) = v64 l * 64 + (n - 65) := by simp [v64]
theorem v256_app (l : List Int) (n : Int) : v256 (l ++ [n]) = v256 l * 256 + n := by simp [v256]
structure A2 where
  vs : List Value
  ns : List Int
  n : Nat
  q : Int
  tq : Tok
  l : Int
  tl : Tok
  p : Int
  tp : Tok
  i : Int
  ti : Tok
noncomputable def qM (q : Int) : Int := if q = 0 then 1 else if q = 1 then 64 else if q = 2 then 16 else 4
structure A2inv (pre : List Int) (c : A2) : Prop where
  p0 : c.p = 0
  q0 : 0 ≤ c.q
  q4 : c.q < 4
  l0 : 0 ≤ c.l
  l1 : c.l < qM c.q
  len : c.ns.length ≤ pre.length
  rng : ∀ z ∈ c.ns, 0 ≤ z ∧ z < 256
  ql : (pre.length : Int) % 4 = c.q
  val : v64 pre = v256 c.ns * qM c.q + c.l
theorem A2inv.start {a b c d : Tok} : A2inv [] ⟨[], [], 0, 0, a, 0, b, 0, c, 0, d⟩ :=
  ⟨rfl, Int.le_refl _, by show (0:Int) < 4; decide, Int.le_refl _, by show (0:Int) < 1; decide, Nat.le_refl _, (fun _ h => nomatch h), rfl, rfl⟩
section
variable {pre ns : List Int} {vs vs' : List Value} {ne ne' : Nat} {q l p i n : Int} {tq tl tp ti tq' tl' tp' ti' : Tok} {ii : Int}
theorem a2_w0 (I : A2inv pre ⟨vs, ns, ne, q, tq, l, tl, p, tp, i, ti⟩) (h1 : 65 ≤ n) (h2 : n ≤ 90) (hq : q = 0) : A2inv (pre ++ [n]) ⟨vs', ns, ne', 1, tq', n - 65, tl', 0, tp', ii, ti'⟩ := by
  obtain ⟨a1, a2, a3, a4, a5, a6, a7, a8, a9⟩ := I
  dsimp only at a1 a2 a3 a4 a5 a6 a7 a8 a9
  subst hq
  simp only [qM, if_pos] at a5 a9
  refine ⟨rfl, by dsimp only; omega, by dsimp only; omega, by dsimp only; omega, by simp [qM]; omega, by simp; omega, a7, by simp; omega, ?_⟩
  rw [v64_app]
  simp [qM]
  omega
theorem a2_w1 (I : A2inv pre ⟨vs, ns, ne, q, tq, l, tl, p, tp, i, ti⟩) (h1 : 65 ≤ n) (h2 : n ≤ 90) (hq : q = 1) : A2inv (pre ++ [n]) ⟨vs', ns ++ [Builtin.bitOr (l * 2 ^ Int.toNat 2) ((n - 65).fdiv (2 ^ Int.toNat 4))], ne', 2, tq', Builtin.bitAnd (n - 65) 15, tl', 0, tp', ii, ti'⟩ := by
  obtain ⟨a1, a2, a3, a4, a5, a6, a7, a8, a9⟩ := I
  dsimp only at a1 a2 a3 a4 a5 a6 a7 a8 a9
  subst hq
  simp [qM] at a5 a9
  have e1 : (n - 65).fdiv (2 ^ Int.toNat 4) = (n - 65) / 16 := by rw [Int.fdiv_eq_ediv_of_nonneg _ (by decide)]; rfl
  rw [e1, bitOr_add _ a4 (by omega) (by show (n - 65) / 16 < 4; omega), bitAnd_m4]
  have e2 : l * 2 ^ Int.toNat 2 = l * 4 := rfl
  rw [e2]
  refine ⟨rfl, by dsimp only; omega, by dsimp only; omega, by dsimp only; omega, by simp [qM]; omega, by simp; omega, ?_, by simp; omega, ?_⟩
  · intro z hz
    rcases List.mem_append.mp hz with hz | hz
    · exact a7 z hz
    · rw [List.mem_singleton.mp hz]; omega
  · rw [v64_app]
    simp [qM]
    rw [v256_app]
    omega
theorem a2_w2 (I : A2inv pre ⟨vs, ns, ne, q, tq, l, tl, p, tp, i, ti⟩) (h1 : 65 ≤ n) (h2 : n ≤ 90) (hq : q = 2) : A2inv (pre ++ [n]) ⟨vs', ns ++ [Builtin.bitOr (l * 2 ^ Int.toNat 4) ((n - 65).fdiv (2 ^ Int.toNat 2))], ne', 3, tq', Builtin.bitAnd (n - 65) 3, tl', 0, tp', ii, ti'⟩ := by
  obtain ⟨a1, a2, a3, a4, a5, a6, a7, a8, a9⟩ := I
  dsimp only at a1 a2 a3 a4 a5 a6 a7 a8 a9
  subst hq
  simp [qM] at a5 a9
  have e1 : (n - 65).fdiv (2 ^ Int.toNat 2) = (n - 65) / 4 := by rw [Int.fdiv_eq_ediv_of_nonneg _ (by decide)]; rfl
  rw [e1, bitOr_add _ a4 (by omega) (by show (n - 65) / 4 < 16; omega), bitAnd_m2]
  have e2 : l * 2 ^ Int.toNat 4 = l * 16 := rfl
  rw [e2]
  refine ⟨rfl, by dsimp only; omega, by dsimp only; omega, by dsimp only; omega, by simp [qM]; omega, by simp; omega, ?_, by simp; omega, ?_⟩
  · intro z hz
    rcases List.mem_append.mp hz with hz | hz
    · exact a7 z hz
    · rw [List.mem_singleton.mp hz]; omega
  · rw [v64_app]
    simp [qM]
    rw [v256_app]
    omega
theorem a2_w3 (I : A2inv pre ⟨vs, ns, ne, q, tq, l, tl, p, tp, i, ti⟩) (h1 : 65 ≤ n) (h2 : n ≤ 90) (hq0 : q ≠ 0) (hq1 : q ≠ 1) (hq2 : q ≠ 2) : A2inv (pre ++ [n]) ⟨vs', ns ++ [Builtin.bitOr (l * 2 ^ Int.toNat 6) (n - 65)], ne', 0, tq', 0, tl', 0, tp', ii, ti'⟩ := by
  obtain ⟨a1, a2, a3, a4, a5, a6, a7, a8, a9⟩ := I
  dsimp only at a1 a2 a3 a4 a5 a6 a7 a8 a9
  have hq : q = 3 := by omega
  subst hq
  simp [qM] at a5 a9
  rw [bitOr_add _ a4 (by omega) (by show (n - 65) < 64; omega)]
  have e2 : l * 2 ^ Int.toNat 6 = l * 64 := rfl
  rw [e2]
  refine ⟨rfl, by dsimp only; omega, by dsimp only; omega, by dsimp only; omega, by simp [qM], by simp; omega, ?_, by simp; omega, ?_⟩
  · intro z hz
    rcases List.mem_append.mp hz with hz | hz
    · exact a7 z hz
    · rw [List.mem_singleton.mp hz]; omega
  · rw [v64_app]
    simp [qM]
    rw [v256_app]
    omega
end
theorem a2_end {b : Array UInt8} {ns : List Int} {vs : List Value} (hr : KBa.In ns) (hv : v64 (KBw.bInts b) = v256 ns * qM 0 + 0) (hf : IntsAre vs ns) (hl : vs.length ≤ 100) :
    (byteArr ns).size ≤ 100 ∧ v256 (KBw.bInts (byteArr ns)) = v64 (KBw.bInts b) := by
  refine ⟨by rw [byteArr_size, ← hf.length]; exact hl, ?_⟩
  rw [KBa.ints_make hr, hv]
  simp [qM]
noncomputable def b64tab : List Int := [65, 66, 67, 68, 69, 70, 71, 72, 73, 74, 75, 76, 77, 78, 79, 80, 81, 82, 83, 84, 85, 86, 87, 88, 89, 90, 97, 98, 99, 100, 101, 102, 103, 104, 105, 106, 107, 108, 109, 110, 111, 112, 113, 114, 115, 116, 117, 118, 119, 120, 121, 122, 48, 49, 50, 51, 52, 53, 54, 55, 56, 57, 43, 47]
noncomputable def sg (d : Nat) : Int := b64tab.getD d 0
noncomputable def dig64 : Nat → Nat → List Nat
  | 0, _ => []
  | m + 1, N => dig64 m (N / 64) ++ [N % 64]
theorem dig64_len : ∀ m N, (dig64 m N).length = m
  | 0, _ => rfl
  | m + 1, N => by rw [dig64, List.length_append, dig64_len m]; rfl
structure B2 where
  vs : List Value
  ns : List Int
  n : Nat
  lb : Int
  tb : Tok
  lc : Int
  tc : Tok
structure B2inv (V : Int) (len : Nat) (c : B2) : Prop where
  V0 : 0 ≤ V
  lb0 : 0 ≤ c.lb
  lb1 : c.lb ≤ 13
  bits : 6 * (c.ns.length : Int) + c.lb = 8 * len
  lc0 : 0 ≤ c.lc
  lc1 : c.lc < 65536
  lc : c.lc = V % 65536
  out : c.ns = (dig64 c.ns.length (V.toNat / 2 ^ c.lb.toNat)).map sg
theorem B2inv.start {a b : Tok} : B2inv (v256 []) ([] : List Int).length ⟨[], [], 0, 0, a, 0, b⟩ ∧ (0 : Int) < 6 :=
  ⟨⟨Int.le_refl _, Int.le_refl _, by show (0 : Int) ≤ 13; decide, rfl, Int.le_refl _, by show (0 : Int) < 65536; decide, rfl, rfl⟩, by decide⟩
theorem nat_div_pow_shift (V n b : Nat) (hn : n < 256) : (V * 256 + n) / 2 ^ (b + 8) = V / 2 ^ b := by
  rw [Nat.pow_add, Nat.mul_comm (2 ^ b) (2 ^ 8), ← Nat.div_div_eq_div_mul]
  congr 1
  omega
theorem b2_acc {V lc n : Int} (h5 : 0 ≤ lc) (h7 : lc = V % 65536) (h0 : 0 ≤ n) (h1 : n < 256) : Builtin.bitAnd (Builtin.bitOr (lc * 2 ^ Int.toNat 8) n) 65535 = (V * 256 + n) % 65536 := by
  rw [bitOr_add _ h5 h0 (by show n < 256; exact h1), bitAnd_m16, show lc * 2 ^ Int.toNat 8 = lc * 256 from rfl, h7]
  rw [Int.add_emod, Int.mul_emod, Int.emod_emod, ← Int.mul_emod, ← Int.add_emod]
theorem b2_in {pre ns : List Int} {vs : List Value} {ne : Nat} {lb lc n : Int} {tb tc tb' tc' : Tok} (I : B2inv (v256 pre) pre.length ⟨vs, ns, ne, lb, tb, lc, tc⟩) (hlb : lb < 6) (h0 : 0 ≤ n) (h1 : n < 256) :
    B2inv (v256 (pre ++ [n])) (pre ++ [n]).length ⟨vs, ns, ne, lb + 8, tb', Builtin.bitAnd (Builtin.bitOr (lc * 2 ^ Int.toNat 8) n) 65535, tc'⟩ := by
  obtain ⟨a1, a2, a3, a4, a5, a6, a7, a8⟩ := I
  dsimp only at a1 a2 a3 a4 a5 a6 a7 a8
  rw [v256_app, b2_acc a5 a7 h0 h1]
  generalize v256 pre = V at *
  refine ⟨Int.add_nonneg (Int.mul_nonneg a1 (by decide)) h0, Int.add_nonneg a2 (by decide), Int.le_trans (Int.add_le_add_right (Int.le_of_lt_add_one (show lb < 5 + 1 from hlb)) 8) (by decide), ?_, Int.emod_nonneg _ (by decide), Int.emod_lt_of_pos _ (by decide), rfl, ?_⟩
  · clear a1 a2 a3 a5 a6 a7 a8
    rw [List.length_append, List.length_singleton]
    show 6 * (ns.length : Int) + (lb + 8) = _
    omega
  · dsimp only
    rw [show (V * 256 + n).toNat = V.toNat * 256 + n.toNat by clear a2 a3 a4 a5 a6 a7 a8; omega, show (lb + 8).toNat = lb.toNat + 8 by clear a1 a3 a4 a5 a6 a7 a8; omega, nat_div_pow_shift _ _ _ (by clear a1 a2 a3 a4 a5 a6 a7 a8; omega)]
    exact a8
noncomputable def b64arr : Array UInt8 := #[65, 66, 67, 68, 69, 70, 71, 72, 73, 74, 75, 76, 77, 78, 79, 80, 81, 82, 83, 84, 85, 86, 87, 88, 89, 90, 97, 98, 99, 100, 101, 102, 103, 104, 105, 106, 107, 108, 109, 110, 111, 112, 113, 114, 115, 116, 117, 118, 119, 120, 121, 122, 48, 49, 50, 51, 52, 53, 54, 55, 56, 57, 43, 47]
theorem b64arr_ints : KBw.bInts b64arr = b64tab := by decide +kernel
theorem b2_idx {V : Int} {len : Nat} {c : B2} {lc : Int} (I : B2inv V len c) (hlc : lc = V % 65536) (h6 : 6 ≤ c.lb) :
    Builtin.bitAnd (lc.fdiv (2 ^ (c.lb - 6).toNat)) 63 = ((V.toNat / 2 ^ (c.lb - 6).toNat % 64 : Nat) : Int) := by
  have h0 := I.V0
  have h1 := I.lb1
  rw [bitAnd_m6, Int.fdiv_eq_ediv_of_nonneg _ (by exact Int.pow_nonneg (by decide))]
  obtain ⟨W, hW⟩ := Int.eq_ofNat_of_zero_le h0
  rw [hlc, hW, show ((W : Nat) : Int).toNat = W from rfl]
  generalize hk : (c.lb - 6).toNat = k
  have hk9 : k ≤ 10 := by omega
  have e : ((W : Int) % 65536 / 2 ^ k) % 64 = (((W % 65536) / 2 ^ k % 64 : Nat) : Int) := by rw [Int.natCast_emod, Int.natCast_ediv, Int.natCast_emod, Int.natCast_pow]; rfl
  rw [e]
  congr 1
  have e2 : (65536 : Nat) = 2 ^ k * (2 ^ (10 - k) * 64) := by
    rw [← Nat.mul_assoc, ← Nat.pow_add, show k + (10 - k) = 10 by omega]
  rw [e2, Nat.mod_mul_right_div_self, Nat.mod_mul_left_mod]
theorem b2_step {V : Int} {len : Nat} {vs vs' : List Value} {ns : List Int} {ne ne' : Nat} {lb lc lc2 : Int} {tb tc tb' tc' : Tok} (I : B2inv V len ⟨vs, ns, ne, lb, tb, lc2, tc⟩) (hlc : lc = V % 65536) (h6 : 6 ≤ lb) :
    B2inv V len ⟨vs', ns ++ [sg (Builtin.bitAnd (lc.fdiv (2 ^ (lb - 6).toNat)) 63).toNat], ne', lb - 6, tb', lc2, tc'⟩ := by
  have hi := b2_idx I hlc h6
  obtain ⟨a1, a2, a3, a4, a5, a6, a7, a8⟩ := I
  dsimp only at hi a1 a2 a3 a4 a5 a6 a7 a8
  refine ⟨a1, by dsimp only; omega, by dsimp only; omega, by simp; omega, a5, a6, a7, ?_⟩
  dsimp only
  rw [hi, Int.toNat_natCast, List.length_append, List.length_singleton, dig64, List.map_append, Nat.div_div_eq_div_mul]
  have e : 2 ^ (lb - 6).toNat * 64 = 2 ^ lb.toNat := by
    rw [show (64 : Nat) = 2 ^ 6 from rfl, ← Nat.pow_add]
    congr 1
    omega
  rw [e, ← a8]
  rfl
theorem b2_less {lb : Int} (h : 6 ≤ lb) : (lb - 6).toNat < lb.toNat := by omega
theorem sg_in (d : Nat) : 0 ≤ sg d ∧ sg d < 256 := by
  have k : ∀ i : Fin 64, 0 ≤ sg i.val ∧ sg i.val < 256 := by decide +kernel
  by_cases h : d < 64
  · exact k ⟨d, h⟩
  · have : sg d = 0 := by unfold sg; rw [List.getD_eq_getElem?_getD, List.getElem?_eq_none (by show 64 ≤ d; omega)]; rfl
    rw [this]
    decide
noncomputable def encB (m : Nat) (N : Nat) : List Int := (dig64 m N).map sg
theorem encB_in (m N : Nat) : KBa.In (encB m N) := by
  intro z hz
  obtain ⟨d, _, rfl⟩ := List.mem_map.mp hz
  exact sg_in d
theorem b2_end {b : Array UInt8} {vs : List Value} {ns : List Int} {ne : Nat} {lb lc : Int} {tb tc : Tok} (I : B2inv (v256 (KBw.bInts b)) (KBw.bInts b).length ⟨vs, ns, ne, lb, tb, lc, tc⟩) (hlb : lb < 6) (hp : b.size ≤ 100 ∧ b.size % 3 = 0) :
    lb = 0 ∧ ns = encB (b.size / 3 * 4) (v256 (KBw.bInts b)).toNat := by
  obtain ⟨a1, a2, a3, a4, a5, a6, a7, a8⟩ := I
  dsimp only at a1 a2 a3 a4 a5 a6 a7 a8
  rw [KBw.ints_length] at a4
  have hl : lb = 0 := by omega
  refine ⟨hl, ?_⟩
  subst hl
  rw [a8]
  show List.map sg (dig64 ns.length (_ / 2 ^ 0)) = _
  rw [Nat.pow_zero, Nat.div_one, show ns.length = b.size / 3 * 4 by omega]
  rfl
noncomputable def fm1 (x k : Int) (c : String) : Str := if Builtin.bitAnd x k = k then Str.ofString c else Str.ofString "-"
noncomputable def fm3 (x k1 : Int) (c1 : String) (k2 : Int) (c2 : String) (k3 : Int) (c3 : String) : Str := if Builtin.bitAnd x k1 = k1 then Str.ofString c1 else if Builtin.bitAnd x k2 = k2 then Str.ofString c2 else if Builtin.bitAnd x k3 = k3 then Str.ofString c3 else Str.ofString "-"
noncomputable def fmC (c : Str) (x : Int) : List Str := [c, fm1 x 256 "r", fm1 x 128 "w", fm3 x 2112 "s" 2048 "S" 64 "x", fm1 x 32 "r", fm1 x 16 "w", fm3 x 1032 "s" 1024 "S" 8 "x", fm1 x 4 "r", fm1 x 2 "w", fm3 x 513 "t" 512 "T" 1 "x"]
section
variable {x k k1 k2 k3 : Int} {c c1 c2 c3 : String}
theorem fm1_t (h : Builtin.bitAnd x k = k) : fm1 x k c = Str.ofString c := by unfold fm1; rw [if_pos h]
theorem fm1_f (h : Builtin.bitAnd x k ≠ k) : fm1 x k c = Str.ofString "-" := by unfold fm1; rw [if_neg h]
theorem fm3_1 (h : Builtin.bitAnd x k1 = k1) : fm3 x k1 c1 k2 c2 k3 c3 = Str.ofString c1 := by unfold fm3; rw [if_pos h]
theorem fm3_2 (h1 : Builtin.bitAnd x k1 ≠ k1) (h : Builtin.bitAnd x k2 = k2) : fm3 x k1 c1 k2 c2 k3 c3 = Str.ofString c2 := by unfold fm3; rw [if_neg h1, if_pos h]
theorem fm3_3 (h1 : Builtin.bitAnd x k1 ≠ k1) (h2 : Builtin.bitAnd x k2 ≠ k2) (h : Builtin.bitAnd x k3 = k3) : fm3 x k1 c1 k2 c2 k3 c3 = Str.ofString c3 := by unfold fm3; rw [if_neg h1, if_neg h2, if_pos h]
theorem fm3_4 (h1 : Builtin.bitAnd x k1 ≠ k1) (h2 : Builtin.bitAnd x k2 ≠ k2) (h : Builtin.bitAnd x k3 ≠ k3) : fm3 x k1 c1 k2 c2 k3 c3 = Str.ofString "-" := by unfold fm3; rw [if_neg h1, if_neg h2, if_neg h]
end
theorem fm_next {l : List Str} {i : Nat} {ch ch' : Str} {vs : List Value} {t : Tok} (hv : StrsAre vs (l.take i)) (h : l[i]? = some ch') (e : ch' = ch) : StrsAre (vs ++ [.str ch t]) (l.take (i + 1)) := by
  subst e
  rw [List.take_add_one, h]
  exact StrsAre.append' hv (.cons _ _ .nil)
theorem fm1_len {x k : Int} {c : String} (h : (Str.ofString c).length = 1) : (fm1 x k c).length = 1 := by
  unfold fm1
  split
  · exact h
  · decide +kernel
theorem fm3_len {x k1 k2 k3 : Int} {c1 c2 c3 : String} (h1 : (Str.ofString c1).length = 1) (h2 : (Str.ofString c2).length = 1) (h3 : (Str.ofString c3).length = 1) : (fm3 x k1 c1 k2 c2 k3 c3).length = 1 := by
  unfold fm3
  split
  · exact h1
  · split
    · exact h2
    · split
      · exact h3
      · decide +kernel
theorem fmC_ok {c : Str} {x : Int} (h : c.length = 1) : ((fmC c x).map (·.length)).sum + (fmC c x).length * 64 ≤ 16777216 := by
  simp only [fmC, List.map_cons, List.map_nil, h, fm1_len (show (Str.ofString "r").length = 1 by decide +kernel), fm1_len (show (Str.ofString "w").length = 1 by decide +kernel),
    fm3_len (show (Str.ofString "s").length = 1 by decide +kernel) (show (Str.ofString "S").length = 1 by decide +kernel) (show (Str.ofString "x").length = 1 by decide +kernel),
    fm3_len (show (Str.ofString "t").length = 1 by decide +kernel) (show (Str.ofString "T").length = 1 by decide +kernel) (show (Str.ofString "x").length = 1 by decide +kernel)]
  show [1, 1, 1, 1, 1, 1, 1, 1, 1, 1].sum + 10 * 64 ≤ 16777216
  decide
noncomputable def lsC (x k : Int) (tab : String) : Str :=
  (if (Builtin.bitAnd (x.fdiv (2 ^ (3 * k).toNat)) 4 != 0) = true then Str.ofString "r" else Str.ofString "-") ++ (if (Builtin.bitAnd (x.fdiv (2 ^ (3 * k).toNat)) 2 != 0) = true then Str.ofString "w" else Str.ofString "-") ++
    Txt.item (Str.ofString tab) (2 * Builtin.bitAnd (x.fdiv (2 ^ (9 + k).toNat)) 1 + Builtin.bitAnd (x.fdiv (2 ^ (3 * k).toNat)) 1)
noncomputable def lsS (c : Str) (x : Int) : Str := c ++ lsC x 2 "-xSs" ++ lsC x 1 "-xSs" ++ lsC x 0 "-xTt"
theorem bitAnd_m12 (x : Int) : Builtin.bitAnd x 4095 = x % 4096 := by
  by_cases hx : 0 ≤ x
  · rw [bitAnd_pp hx (by decide)]
    have h : x.toNat &&& (4095 : Int).toNat = x.toNat % 4096 := Nat.and_two_pow_sub_one_eq_mod x.toNat 12
    rw [h]
    omega
  · rw [bitAnd_np hx (by decide)]
    have h : (4095 : Int).toNat &&& (Builtin.bitNot x).toNat = (Builtin.bitNot x).toNat % 4096 := by
      rw [Nat.and_comm]
      exact Nat.and_two_pow_sub_one_eq_mod (Builtin.bitNot x).toNat 12
    rw [h]
    unfold Builtin.bitNot
    omega
theorem imode_eq (x y : Int) : [Builtin.bitAnd x 4095, Builtin.bitAnd y 4095] = [x.fmod 4096, y.fmod 4096] := by
  rw [bitAnd_m12, bitAnd_m12, Int.fmod_eq_emod_of_nonneg _ (by decide), Int.fmod_eq_emod_of_nonneg _ (by decide)]
theorem imode_rng (x : Int) : 0 ≤ Builtin.bitAnd x 4095 ∧ Builtin.bitAnd x 4095 < 4096 := by
  rw [bitAnd_m12]; omega
theorem mul_ok {a b : Int} (ha : a.natAbs < 2 ^ 100) (hb : b.natAbs < 2 ^ 100) : IntMulOk a b := IntMulOk.of_bits (Nat.le_trans (intBits_le_iff.mpr ha) (by decide)) (Nat.le_trans (intBits_le_iff.mpr hb) (by decide))
theorem sm_bit (x : Int) : (Builtin.bitAnd x 1).natAbs < 2 ^ 100 := by
  rw [bitAnd_m1]
  exact Nat.lt_of_lt_of_le (show (x % 2).natAbs < 2 by omega) (by decide)
theorem sm_pow16n (n : Nat) (h : n < 12) : ((16 : Int) ^ n).natAbs < 2 ^ 100 := by
  rw [Int.natAbs_pow]
  exact Nat.lt_of_le_of_lt (Nat.pow_le_pow_right (by decide) (Nat.le_of_lt h)) (by decide)
theorem sm_pow16 {i : Nat} (h : i < 12) : ((16 : Int) ^ (i : Int).toNat).natAbs < 2 ^ 100 := sm_pow16n _ (by omega)
theorem sm_pow16' {i : Nat} (h : i < 12) : ((16 : Int) ^ (11 - (i : Int)).toNat).natAbs < 2 ^ 100 := sm_pow16n _ (by omega)
noncomputable def rowA (x : Int) : Int := ((List.range 12).map fun i : Nat => Builtin.bitAnd (x.fdiv (2 ^ (i : Int).toNat)) 1 * 16 ^ (i : Int).toNat).sum
noncomputable def rowB (x : Int) : Int := ((List.range 12).map fun i : Nat => Builtin.bitAnd (x.fdiv (2 ^ (i : Int).toNat)) 1 * 16 ^ (11 - (i : Int)).toNat).sum
theorem bit_rng (x : Int) (n : Nat) : 0 ≤ Builtin.bitAnd (x.fdiv (2 ^ n)) 1 ∧ Builtin.bitAnd (x.fdiv (2 ^ n)) 1 ≤ 1 := by
  rw [bitAnd_m1]; omega
noncomputable def bsum (b : Nat → Int) : Int := b 0 * 16 ^ 0 + (b 1 * 16 ^ 1 + (b 2 * 16 ^ 2 + (b 3 * 16 ^ 3 + (b 4 * 16 ^ 4 + (b 5 * 16 ^ 5 + (b 6 * 16 ^ 6 + (b 7 * 16 ^ 7 + (b 8 * 16 ^ 8 + (b 9 * 16 ^ 9 + (b 10 * 16 ^ 10 + (b 11 * 16 ^ 11 + 0)))))))))))
theorem bsum_rng {b : Nat → Int} (h : ∀ n, 0 ≤ b n ∧ b n ≤ 1) : 0 ≤ bsum b ∧ bsum b < 16 ^ 12 := by
  have := h 0; have := h 1; have := h 2; have := h 3; have := h 4; have := h 5; have := h 6; have := h 7; have := h 8; have := h 9; have := h 10; have := h 11
  unfold bsum
  omega
noncomputable def bitOf (x : Int) (n : Nat) : Int := Builtin.bitAnd (x.fdiv (2 ^ n)) 1
theorem rowA_eq (x : Int) : rowA x = bsum (bitOf x) := rfl
theorem rowB_eq (x : Int) : rowB x = bsum (fun n => bitOf x (11 - n)) := by
  show bitOf x 0 * 16 ^ 11 + (bitOf x 1 * 16 ^ 10 + (bitOf x 2 * 16 ^ 9 + (bitOf x 3 * 16 ^ 8 + (bitOf x 4 * 16 ^ 7 + (bitOf x 5 * 16 ^ 6 + (bitOf x 6 * 16 ^ 5 + (bitOf x 7 * 16 ^ 4 + (bitOf x 8 * 16 ^ 3 + (bitOf x 9 * 16 ^ 2 + (bitOf x 10 * 16 ^ 1 + (bitOf x 11 * 16 ^ 0 + 0))))))))))) = _
  unfold bsum
  simp only [show 11 - 0 = 11 from rfl, show 11 - 1 = 10 from rfl, show 11 - 2 = 9 from rfl, show 11 - 3 = 8 from rfl, show 11 - 4 = 7 from rfl, show 11 - 5 = 6 from rfl, show 11 - 6 = 5 from rfl, show 11 - 7 = 4 from rfl, show 11 - 8 = 3 from rfl, show 11 - 9 = 2 from rfl, show 11 - 10 = 1 from rfl, show 11 - 11 = 0 from rfl]
  omega
theorem rowA_rng (x : Int) : 0 ≤ rowA x ∧ rowA x < 16 ^ 12 := rowA_eq x ▸ bsum_rng (bit_rng x)
theorem rowB_rng (x : Int) : 0 ≤ rowB x ∧ rowB x < 16 ^ 12 := rowB_eq x ▸ bsum_rng fun n => bit_rng x (11 - n)
theorem sm_row {x : Int} (h : 0 ≤ x ∧ x < 16 ^ 12) : x.natAbs < 2 ^ 100 := by omega
theorem w_pre1 {x : Int} (h : 0 ≤ x ∧ x < 16 ^ 12) : x.natAbs < 16 ^ 30 := by omega
theorem w_pre2 {x : Int} (h : 0 ≤ x ∧ x < 16 ^ 12) : (-x).natAbs < 16 ^ 30 := by omega
theorem mul_rng {x y : Int} (hx : 0 ≤ x ∧ x < 16 ^ 12) (hy : 0 ≤ y ∧ y < 16 ^ 12) : 0 ≤ x * y ∧ x * y < 16 ^ 24 := by
  refine ⟨Int.mul_nonneg hx.1 hy.1, ?_⟩
  have h1 : x * y ≤ (16 ^ 12 - 1) * y := Int.mul_le_mul_of_nonneg_right (by omega) hy.1
  omega
theorem w_pre3 {x y : Int} (hx : 0 ≤ x ∧ x < 16 ^ 12) (hy : 0 ≤ y ∧ y < 16 ^ 12) : (x * y + 14877268145274081611751763986).natAbs < 16 ^ 30 := by
  have := mul_rng hx hy
  omega
theorem ap_len : ∀ (k n : Nat), n < 16 ^ k → (ap n).length ≤ k
  | 0, n, h => by
    have : n = 0 := by simpa using h
    subst this
    rw [ap_zero]
    exact Nat.le_refl _
  | k + 1, n, h => by
    by_cases h0 : n = 0
    · subst h0; rw [ap_zero]; exact Nat.zero_le _
    · rw [ap_step h0, List.length_append]
      have := ap_len k (n / 16) (by rw [Nat.pow_succ] at h; omega)
      simp
      exact this
theorem ap_sz {k n : Nat} (h : n < 16 ^ k) (hk : k ≤ 100) : (KBw.bInts (ap n).toArray).length ≤ 16777216 := by
  rw [KBw.ints_length]
  have := ap_len k n h
  simp
  omega
theorem digit_ne {n : Nat} (h0 : n ≠ 0) (h : n < 16) : ((65 + n % 16).toUInt8 == 65) = false := by
  have k : ∀ i : Fin 16, i.val ≠ 0 → ((65 + i.val % 16).toUInt8 == 65) = false := by decide +kernel
  exact k ⟨n, h⟩ h0
theorem ap_head : ∀ n : Nat, (ap n).head? ≠ some 65
  | n => by
    by_cases h0 : n = 0
    · subst h0; rw [ap_zero]; simp
    · rw [ap_step h0]
      by_cases h1 : n / 16 = 0
      · rw [h1, ap_zero]
        have := digit_ne h0 (by omega)
        simp only [List.nil_append, List.head?_cons, ne_eq, Option.some.injEq]
        exact fun e => by rw [e] at this; simp at this
      · have ih := ap_head (n / 16)
        have hne : ap (n / 16) ≠ [] := by rw [ap_step h1]; simp
        obtain ⟨a, r, e⟩ := List.exists_cons_of_ne_nil hne
        rw [e] at ih ⊢
        simpa using ih
  decreasing_by omega
theorem ap_first (n : Nat) : (KBy.picked (ap n).toArray none (some 1)).toList ≠ [65] := by
  intro h
  have e := KBc.ints_picked (b := (ap n).toArray) rfl none (some 1)
  have e1 : KBw.bInts (KBy.picked (ap n).toArray none (some 1)) = [65] := by
    unfold KBw.bInts
    rw [h]
    rfl
  rw [e1] at e
  simp only [Option.elim, List.drop_zero, Nat.sub_zero] at e
  have hh := ap_head n
  cases hq : ap n with
  | nil => rw [hq] at e; simp [KBw.bInts] at e
  | cons a r =>
    rw [hq] at e hh
    have hc : clipAt (KBw.bInts (a :: r).toArray).length 1 = 1 := by
      have := clipAt_cast (KBw.bInts (a :: r).toArray).length 1
      rw [KBw.ints_length] at this ⊢
      simp only [List.size_toArray, List.length_cons] at this ⊢
      omega
    rw [hc] at e
    simp [KBw.bInts] at e hh
    exact hh (UInt8.toNat_inj.mp (by have h65 : (65 : UInt8).toNat = 65 := rfl; omega))
noncomputable def padA (n : Int) : List UInt8 := (List.replicate n.toNat [65]).flatten
theorem padA_eq (n : Int) : padA n = List.replicate n.toNat 65 := by
  unfold padA
  generalize n.toNat = k
  induction k with
  | zero => rfl
  | succ k ih => rw [List.replicate_succ, List.flatten_cons, ih, List.replicate_succ]; rfl
theorem padA_len (n : Int) : (padA n).length = n.toNat := by rw [padA_eq, List.length_replicate]
noncomputable def r64 (n : Nat) : Int := if n = 0 then 0 else r64 (n / 16) * 64 + (n % 16 : Nat)
decreasing_by omega
theorem r64_zero : r64 0 = 0 := by rw [r64]; rfl
theorem r64_step {n : Nat} (h : n ≠ 0) : r64 n = r64 (n / 16) * 64 + (n % 16 : Nat) := by rw [r64, if_neg h]
theorem bInts_app (b c : Array UInt8) : KBw.bInts (b ++ c) = KBw.bInts b ++ KBw.bInts c := by simp [KBw.bInts]
theorem u8_dig (n : Nat) : (((65 + n % 16).toUInt8.toNat : Nat) : Int) = 65 + (n % 16 : Nat) := by
  have : (65 + n % 16).toUInt8.toNat = 65 + n % 16 := by
    show (65 + n % 16) % 256 = _
    omega
  omega
theorem v64_ap : ∀ n : Nat, v64 (KBw.bInts (ap n).toArray) = r64 n
  | n => by
    by_cases h0 : n = 0
    · subst h0; rw [ap_zero, r64_zero]; rfl
    · rw [ap_step h0, r64_step h0, ← v64_ap (n / 16), ← List.append_toArray, bInts_app]
      show v64 (_ ++ [(((65 + n % 16).toUInt8.toNat : Nat) : Int)]) = _
      rw [v64_app, u8_dig]
      omega
  decreasing_by omega
theorem v64_pad (k : Nat) (l : List Int) : v64 (List.replicate k 65 ++ l) = v64 l := by
  induction k with
  | zero => rfl
  | succ k ih =>
    rw [List.replicate_succ, List.cons_append]
    show List.foldl _ (0 * 64 + (65 - 65)) _ = _
    exact ih
theorem bInts_pad (n : Int) : KBw.bInts (padA n).toArray = List.replicate n.toNat 65 := by
  rw [padA_eq]
  simp [KBw.bInts]
theorem ap_rng : ∀ n : Nat, ∀ k ∈ KBw.bInts (ap n).toArray, 65 ≤ k ∧ k ≤ 90
  | n => by
    by_cases h0 : n = 0
    · subst h0; rw [ap_zero]; intro k hk; simp [KBw.bInts] at hk
    · rw [ap_step h0, ← List.append_toArray, bInts_app]
      intro k hk
      rcases List.mem_append.mp hk with hk | hk
      · exact ap_rng (n / 16) k hk
      · have : k = (((65 + n % 16).toUInt8.toNat : Nat) : Int) := List.mem_singleton.mp hk
        rw [this, u8_dig]
        omega
  decreasing_by omega
theorem word_pre {n m : Nat} {W : Array UInt8} (hW : W = (ap n).toArray) (hs : W.size ≤ m) (hm : m % 4 = 0) (hm2 : m ≤ 100) {i : Int} (hi : i = m) :
    ((List.replicate (i - W.size).toNat [65]).flatten.toArray ++ W).size ≤ 100 ∧ ((List.replicate (i - W.size).toNat [65]).flatten.toArray ++ W).size % 4 = 0 ∧ ∀ k ∈ KBw.bInts ((List.replicate (i - W.size).toNat [65]).flatten.toArray ++ W), 65 ≤ k ∧ k ≤ 90 := by
  have e : ((padA (i - W.size)).toArray ++ W).size = m := by rw [Array.size_append, List.size_toArray, padA_len]; omega
  show ((padA (i - W.size)).toArray ++ W).size ≤ 100 ∧ ((padA (i - W.size)).toArray ++ W).size % 4 = 0 ∧ ∀ k ∈ KBw.bInts ((padA (i - W.size)).toArray ++ W), 65 ≤ k ∧ k ≤ 90
  rw [e]
  refine ⟨hm2, hm, fun k hk => ?_⟩
  rw [bInts_app, bInts_pad] at hk
  rcases List.mem_append.mp hk with hk | hk
  · rw [(List.mem_replicate.mp hk).2]; omega
  · subst hW; exact ap_rng n k hk
theorem word_val {n : Nat} {W : Array UInt8} (hW : W = (ap n).toArray) (i : Int) : v64 (KBw.bInts ((List.replicate i.toNat [65]).flatten.toArray ++ W)) = r64 n := by
  show v64 (KBw.bInts ((padA i).toArray ++ W)) = _
  rw [bInts_app, bInts_pad, v64_pad, hW, v64_ap]
theorem pad_size {n : Nat} (h : n ≤ 100) : (List.replicate n [(65 : UInt8)]).flatten.toArray.size ≤ 100 := by
  have := padA_len (n : Int)
  unfold padA at this
  rw [List.size_toArray]
  simp only [Int.toNat_natCast] at this
  omega
theorem r64_nonneg : ∀ n : Nat, 0 ≤ r64 n
  | n => by
    by_cases h0 : n = 0
    · subst h0; rw [r64_zero]; exact Int.le_refl _
    · have h := r64_nonneg (n / 16)
      rw [r64_step h0]
      omega
  decreasing_by omega
theorem r64_lt : ∀ (k n : Nat), n < 16 ^ k → r64 n < 64 ^ k
  | 0, n, h => by
    have : n = 0 := by simpa using h
    subst this
    rw [r64_zero]; decide
  | k + 1, n, h => by
    by_cases h0 : n = 0
    · subst h0; rw [r64_zero]; exact Int.pow_pos (by decide)
    · have h1 := r64_lt k (n / 16) (by rw [Nat.pow_succ] at h; omega)
      rw [r64_step h0, Int.pow_succ]
      omega
theorem sm_r64 {x : Int} (h0 : 0 ≤ x) (h1 : x < 16 ^ 12) : (r64 x.natAbs).natAbs < 2 ^ 100 := by
  have a := r64_nonneg x.natAbs
  have b := r64_lt 12 x.natAbs (by omega)
  omega
theorem sm_r64' {x : Int} (h0 : 0 ≤ x) (h1 : x < 16 ^ 12) : (r64 (-x).natAbs).natAbs < 2 ^ 100 := by
  have a := r64_nonneg (-x).natAbs
  have b := r64_lt 12 (-x).natAbs (by omega)
  omega
theorem ap_size {k n : Nat} (h : n < 16 ^ k) : (ap n).toArray.size ≤ k := by
  have := ap_len k n h
  simpa using this
noncomputable def dabc : Array UInt8 := #[68, 65, 66, 67, 68, 65, 66, 67, 68, 65, 66, 67, 68, 65, 66, 67, 68, 65, 66, 67, 68, 65, 66, 67]
theorem dabc_pre : dabc.size ≤ 100 ∧ dabc.size % 4 = 0 ∧ ∀ k ∈ KBw.bInts dabc, 65 ≤ k ∧ k ≤ 90 := by decide +kernel
noncomputable def dabcN : Int := v64 (KBw.bInts dabc)
theorem pow256_ne (n : Nat) : (256 : Int) ^ n ≠ 0 := Int.ne_of_gt (Int.pow_pos (by decide))
noncomputable def octs (N : Int) : List Int := (List.range 18).map fun i : Nat => (N.fdiv (256 ^ (17 - (i : Int)).toNat)).fmod 256
theorem octs_in (N : Int) : KBa.In (octs N) := by
  intro z hz
  obtain ⟨i, _, rfl⟩ := List.mem_map.mp hz
  rw [Int.fmod_eq_emod_of_nonneg _ (by decide)]
  omega
theorem octs_len (N : Int) : (octs N).length = 18 := by simp [octs]
theorem octs_pre (N : Int) : (byteArr (octs N)).size ≤ 100 ∧ (byteArr (octs N)).size % 3 = 0 := by
  rw [byteArr_size, octs_len]; decide
noncomputable def lsT (x k : Int) : Str :=
  (if (Builtin.bitAnd (x.fdiv (2 ^ (3 * k).toNat)) 4 != 0) = true then Str.ofString "r" else Str.ofString "-") ++ (if (Builtin.bitAnd (x.fdiv (2 ^ (3 * k).toNat)) 2 != 0) = true then Str.ofString "w" else Str.ofString "-") ++
    Txt.item (if (k != 0) = true then Str.ofString "-xSs" else Str.ofString "-xTt") (2 * Builtin.bitAnd (x.fdiv (2 ^ (9 + k).toNat)) 1 + Builtin.bitAnd (x.fdiv (2 ^ (3 * k).toNat)) 1)
noncomputable def lsP (c : Str) (x : Int) (l : List Int) : Str := l.foldl (fun t k => t ++ lsT x k) c
theorem lsP_app (c : Str) (x : Int) (l : List Int) (k : Int) : lsP c x (l ++ [k]) = lsP c x l ++ lsT x k := by simp [lsP]
theorem lsP_all (c : Str) (x : Int) : lsP c x [2, 1, 0] = lsS c x := rfl
theorem ls_k {pre post : List Int} {n : Int} (h : [2, 1, 0] = pre ++ n :: post) : 0 ≤ n ∧ n ≤ 2 ∧ pre.length ≤ 2 := by
  have hl := congrArg List.length h
  have hm : n ∈ ([2, 1, 0] : List Int) := by rw [h]; simp
  simp at hl hm
  refine ⟨?_, ?_, ?_⟩ <;> omega
noncomputable def fmFind (x : Int) : List (Addr × Int × Str) → Str
  | [] => Str.ofString "-"
  | p :: q => if Builtin.bitAnd x p.2.1 = p.2.1 then p.2.2 else fmFind x q
theorem ret_bytes {Q : Value → Shared → Prop} {S : Shared} {b b' : Array UInt8} {t : Tok} (e : b = b') (h : Q (.bytes b' t) S) : Q (.bytes b t) S := e ▸ h
section
variable {prog : Program} {w : World} {A : Around} {E : Value → Shared → Prop} {s : Shared} {value slice : PySem.Expr} {t t1 t2 : Tok} {h₀ : Heap} {L : Addr} {m : PySem.Str → Option Value} {news : List (Addr × Obj)} {k : Int} {Q : Value → Shared → Prop}
theorem slice_AP (hF : Fr h₀ L s.heap m) (hN : News h₀ L s.heap news) (h0 : 0 ≤ k) (h1 : k < 16)
    (h : ∀ h' t' k', Fr h₀ L h' m → News h₀ L h' news → Q (.bytes #[(65 + k.toNat).toUInt8] t') { s with heap := h', toks := k' })
    (hs : subscripted slice false (.bytes #[65, 66, 67, 68, 69, 70, 71, 72, 73, 74, 75, 76, 77, 78, 79, 80] t) (.ref s.heap.objs.size) = operate [.ref s.heap.objs.size, .bytes #[65, 66, 67, 68, 69, 70, 71, 72, 73, 74, 75, 76, 77, 78, 79, 80] t] (getItem (.bytes #[65, 66, 67, 68, 69, 70, 71, 72, 73, 74, 75, 76, 77, 78, 79, 80] t) (.ref s.heap.objs.size)) := by with_unfolding_all rfl)
    (ht : ∀ r, letTemporaryGo value (.bytes #[65, 66, 67, 68, 69, 70, 71, 72, 73, 74, 75, 76, 77, 78, 79, 80] t) r = pure () := by intro _; with_unfolding_all rfl) :
    wpAny (model prog w) A (subscriptTail value slice (.bytes #[65, 66, 67, 68, 69, 70, 71, 72, 73, 74, 75, 76, 77, 78, 79, 80] t) (.ref s.heap.objs.size)) Q E { s with heap := s.heap.push { cls := .type "slice", data := .fields #[.int k t1, .int (k + 1) t2, .none] } } := by
  refine KBc.slice_K hF hN rfl (IsPart.int _ _) (IsPart.int _ _) (by decide) (fun h' t' k' F N _ => ?_) hs ht
  rw [picked_AP' h0 h1]
  exact h h' t' k' F N
end
section
variable {prog : Program} {w : World} {A A₀ : Around} {s : Shared} {K : Frag} {L : Addr} {h₀ base : Heap} {m mg mb : Str → Option Value} {p : Program} {loose : List Str} {mean : ExcName → Option Value}
theorem code_def0 {env : Env} {outer : List Env} {R : Result → Shared → Prop} {name qual : Str} {params : Arguments} {body : List Stmt} {scope : Scope} {dV kV doc pm cdv ct oc : Value} {an od : Option Addr} {osl : Array (Option Value)} {f : Addr} {args : Args} {binds : List (Str × Value)}
    (hA : A.frames = some (env :: outer))
    (hf : env.frame = some L)
    (hke : env.scope.kind = .function)
    (B : Below A₀ base outer h₀)
    (F : Fr h₀ L s.heap m)
    (X₀ : K.In h₀)
    (T : Top p loose mean mg mb h₀)
    (ho : K.lookup f = some ⟨oc, od, .func (fnOf name qual params body scope dV kV doc pm an cdv ct), osl⟩)
    (hcd : codeIn K cdv qual = true)
    (hroom : A.depth < recursionLimit)
    (hbind : BindsTo s (fnOf name qual params body scope dV kV doc pm an cdv ct) args binds)
    (hcell : ∀ x ∈ scope.names, x.2 ≠ .cell)
    (hloc : ∀ y ∈ binds, scope.names.lookup y.1 = some .local)
    (hco : scope.isCoroutine = false)
    (hgen : scope.isGenerator = false)
    (hk : scope.kind = .function)
    (h : ∀ L' h₁, Fr s.heap L' h₁ (fun y => binds.reverse.lookup y) → News s.heap L' h₁ [] → Below A base (env :: outer) s.heap → K.In s.heap → Top p loose mean mg mb s.heap →
      wpAny (model prog w) (A.deeper (envOf qual scope L' f cdv)) (execs body (envOf qual scope L' f cdv))
        (fun fl s' => LeaveK h₀ L m s.heap (fun r s' => (∀ b o, s.heap.get? b = some o → s'.heap.get? b = some o) → R r s') (match fl with | .ret v => v | _ => .none) s')
        (fun e s' => wpAny (model prog w) (A.deeper (envOf qual scope L' f cdv)) (leaving (envOf qual scope L' f cdv) e) (fun _ s'' => R (.error e) s'') (fun e' s'' => R (.error e') s'') s')
        { s with heap := h₁, toks := s.toks + binds.length }) : codeAny (model prog w) A (.call (.ref f) args) R s := by
  have X := X₀.keeps F.keep
  obtain ⟨FG, BG, st, lv⟩ := groundX (R := fun r s' => (∀ b o, s.heap.get? b = some o → s'.heap.get? b = some o) → R r s') (news := []) (A := A) B F (News.nil) hA hf hke
  refine codeAny_call_def (fd := fnOf name qual params body scope dV kV doc pm an cdv ct) (body := body) (binds := binds) hroom (X _ _ ho) rfl (T.nolimit.keeps F.keep) (codeRec_of X hcd) rfl hbind hcell hloc (fun h₁ hns hk₁ => ?_) hco hgen hk
  have FF : Fr s.heap s.heap.objs.size h₁ (fun y => binds.reverse.lookup y) := ⟨hns, hk₁, Nat.le_refl _⟩
  refine wpAny_mono (h s.heap.objs.size h₁ FF News.nil BG X (T.keeps F.keep)) (fun fl s' hl => ?_) fun _ _ y => y
  exact lv _ _ hl (by obtain ⟨_, _, _, F', _, _⟩ := hl; exact F'.keep)
theorem code_def1 {env : Env} {news : List (Addr × Obj)} {outer : List Env} {R : Result → Shared → Prop} {name qual : Str} {params : Arguments} {body : List Stmt} {scope : Scope} {dV kV doc pm cdv ct oc : Value} {an od : Option Addr} {osl : Array (Option Value)} {f : Addr} {args : Args} {binds : List (Str × Value)}
    (hA : A.frames = some (env :: outer))
    (hf : env.frame = some L)
    (hke : env.scope.kind = .function)
    (B : Below A₀ base outer h₀)
    (F : Fr h₀ L s.heap m)
    (X₀ : K.In h₀)
    (N : News h₀ L s.heap news)
    (T : Top p loose mean mg mb h₀)
    (ho : K.lookup f = some ⟨oc, od, .func (fnOf name qual params body scope dV kV doc pm an cdv ct), osl⟩)
    (hcd : codeIn K cdv qual = true)
    (hroom : A.depth < recursionLimit)
    (hbind : BindsTo s (fnOf name qual params body scope dV kV doc pm an cdv ct) args binds)
    (hcell : ∀ x ∈ scope.names, x.2 ≠ .cell)
    (hloc : ∀ y ∈ binds, scope.names.lookup y.1 = some .local)
    (hco : scope.isCoroutine = false)
    (hgen : scope.isGenerator = false)
    (hk : scope.kind = .function)
    (h : ∀ g L' h₁, Fr h₀ L g m → Fr g L' h₁ (fun y => binds.reverse.lookup y) → News g L' h₁ news → Below A base (env :: outer) g → K.In g → Top p loose mean mg mb g →
      wpAny (model prog w) (A.deeper (envOf qual scope L' f cdv)) (execs body (envOf qual scope L' f cdv))
        (fun fl s' => LeaveK h₀ L m g R (match fl with | .ret v => v | _ => .none) s')
        (fun e s' => wpAny (model prog w) (A.deeper (envOf qual scope L' f cdv)) (leaving (envOf qual scope L' f cdv) e) (fun _ s'' => R (.error e) s'') (fun e' s'' => R (.error e') s'') s')
        { s with heap := h₁, toks := s.toks + binds.length }) : codeAny (model prog w) A (.call (.ref f) args) R s :=
  code_def B F X₀ N T hA hf hke ho hcd hroom hbind hloc h hco hgen hk hcell
end
theorem news_keep {h₀ h h' : Heap} {L : Addr} {news : List (Addr × Obj)} (N : News h₀ L h news) (k : ∀ b o, h.get? b = some o → h'.get? b = some o) : News h₀ L h' news :=
  fun p hp => ⟨k _ _ (N p hp).1, (N p hp).2⟩
section
variable {prog : Program} {w : World} {A : Around} {E : Value → Shared → Prop} {s : Shared} {value slice : PySem.Expr} {t : Tok} {i : Int} {ui : Tok} {Q : Value → Shared → Prop}
theorem item_B64 (h0 : 0 ≤ i) (h1 : i < 64) (h : ∀ t' k, Q (.int (sg i.toNat) t') { s with toks := k })
    (hs : subscripted slice false (.bytes #[65, 66, 67, 68, 69, 70, 71, 72, 73, 74, 75, 76, 77, 78, 79, 80, 81, 82, 83, 84, 85, 86, 87, 88, 89, 90, 97, 98, 99, 100, 101, 102, 103, 104, 105, 106, 107, 108, 109, 110, 111, 112, 113, 114, 115, 116, 117, 118, 119, 120, 121, 122, 48, 49, 50, 51, 52, 53, 54, 55, 56, 57, 43, 47] t) (.int i ui) = operate [.bytes #[65, 66, 67, 68, 69, 70, 71, 72, 73, 74, 75, 76, 77, 78, 79, 80, 81, 82, 83, 84, 85, 86, 87, 88, 89, 90, 97, 98, 99, 100, 101, 102, 103, 104, 105, 106, 107, 108, 109, 110, 111, 112, 113, 114, 115, 116, 117, 118, 119, 120, 121, 122, 48, 49, 50, 51, 52, 53, 54, 55, 56, 57, 43, 47] t, .int i ui] (getItem (.bytes #[65, 66, 67, 68, 69, 70, 71, 72, 73, 74, 75, 76, 77, 78, 79, 80, 81, 82, 83, 84, 85, 86, 87, 88, 89, 90, 97, 98, 99, 100, 101, 102, 103, 104, 105, 106, 107, 108, 109, 110, 111, 112, 113, 114, 115, 116, 117, 118, 119, 120, 121, 122, 48, 49, 50, 51, 52, 53, 54, 55, 56, 57, 43, 47] t) (.int i ui)) := by with_unfolding_all rfl)
    (ht : ∀ r, letTemporaryGo value (.bytes #[65, 66, 67, 68, 69, 70, 71, 72, 73, 74, 75, 76, 77, 78, 79, 80, 81, 82, 83, 84, 85, 86, 87, 88, 89, 90, 97, 98, 99, 100, 101, 102, 103, 104, 105, 106, 107, 108, 109, 110, 111, 112, 113, 114, 115, 116, 117, 118, 119, 120, 121, 122, 48, 49, 50, 51, 52, 53, 54, 55, 56, 57, 43, 47] t) r = pure () := by intro _; with_unfolding_all rfl) :
    wpAny (model prog w) A (subscriptTail value slice (.bytes #[65, 66, 67, 68, 69, 70, 71, 72, 73, 74, 75, 76, 77, 78, 79, 80, 81, 82, 83, 84, 85, 86, 87, 88, 89, 90, 97, 98, 99, 100, 101, 102, 103, 104, 105, 106, 107, 108, 109, 110, 111, 112, 113, 114, 115, 116, 117, 118, 119, 120, 121, 122, 48, 49, 50, 51, 52, 53, 54, 55, 56, 57, 43, 47] t) (.int i ui)) Q E s :=
  KBw.item_K (b := #[65, 66, 67, 68, 69, 70, 71, 72, 73, 74, 75, 76, 77, 78, 79, 80, 81, 82, 83, 84, 85, 86, 87, 88, 89, 90, 97, 98, 99, 100, 101, 102, 103, 104, 105, 106, 107, 108, 109, 110, 111, 112, 113, 114, 115, 116, 117, 118, 119, 120, 121, 122, 48, 49, 50, 51, 52, 53, 54, 55, 56, 57, 43, 47]) b64arr_ints (by decide) h0 (by show i < 64; exact h1) (fun t' k _ _ => h t' k) hs ht
end
theorem ite_strs {M : Model} {A : Around} {E : Value → Shared → Prop} {s : Shared} {env : Env} {Q : Value → Shared → Prop} {c : Prop} [Decidable c] {a b : Str} {k k' : Nat} {p p' : Pos}
    (ha : a.length ≤ 1) (hb : b.length ≤ 1) (h : ∀ u : Str, u = (if c then a else b) → u.length ≤ 1 → Q (.str u s.toks) { s with toks := s.toks + 1 }) : if c then wpAny M A (eval (.Constant (.str a) k p) env) Q E s else wpAny M A (eval (.Constant (.str b) k' p') env) Q E s := by
  by_cases hc : c
  · rw [if_pos hc] at h ⊢; exact PySem.Calls.Constant_str (h _ rfl ha)
  · rw [if_neg hc] at h ⊢; exact PySem.Calls.Constant_str (h _ rfl hb)
theorem add_strL {prog : Program} {w : World} {A : Around} {E : Value → Shared → Prop} {s : Shared} {x y : Str} {t u : Tok} {n m : Nat} {Q : Value → Shared → Prop} (hx : x.length ≤ n) (hy : y.length ≤ m) (hnm : n + m ≤ 1000)
    (h : ∀ z : Str, z = x ++ y → z.length ≤ n + m → ∀ t' k, Q (.str z t') { s with toks := k }) : wpAny (model prog w) A (binaryOp .Add (.str x t) (.str y u)) Q E s := by
  have hl : (x ++ y).length ≤ n + m := by rw [strLen_append]; omega
  exact PyProof.Rows.add_str (h _ rfl hl) (by rw [sizeLine_eq]; omega)
theorem item_strL {prog : Program} {w : World} {A : Around} {E : Value → Shared → Prop} {s : Shared} {value slice : PySem.Expr} {x : Str} {t ui : Tok} {i : Int} {Q : Value → Shared → Prop} (h0 : 0 ≤ i) (h1 : i < 4) (hx : x.length = 4)
    (h : ∀ u : Str, u = Txt.item x i → u.length ≤ 1 → ∀ t' k, Q (.str u t') { s with toks := k })
    (hs : subscripted slice false (.str x t) (.int i ui) = operate [.str x t, .int i ui] (getItem (.str x t) (.int i ui)) := by with_unfolding_all rfl)
    (ht : ∀ r, letTemporaryGo value (.str x t) r = pure () := by intro _; with_unfolding_all rfl) :
    wpAny (model prog w) A (subscriptTail value slice (.str x t) (.int i ui)) Q E s :=
  tail_of_ItemOn (SB.item (fitsSsize_of (N := 9223372036854775808) (by omega) (by omega) (Int.le_refl _)) (charAt_isSome (by omega) (by omega)) (h _ rfl (Nat.le_of_eq (len_item x i)) _ _)) hs ht
theorem last_range (a b : Int) : 0 ≤ 2 * Builtin.bitAnd a 1 + Builtin.bitAnd b 1 ∧ 2 * Builtin.bitAnd a 1 + Builtin.bitAnd b 1 < 4 := by
  rw [bitAnd_m1, bitAnd_m1]
  omega
theorem news_head {h₀ h : Heap} {L a : Addr} {o : Obj} {rest : List (Addr × Obj)} (_N : News h₀ L h ((a, o) :: rest)) : ∃ z : Addr, z = a := ⟨a, rfl⟩
theorem wpAny_tok {α : Type} {M : Model} {A : Around} {m : Sem α} {Q : α → Shared → Prop} {E : Value → Shared → Prop} {h : Heap} {g : Array GenState} {d : Drawn} {a b : Nat} {o : OsState} (H : ∀ t', wpAny M A m Q E ⟨h, g, d, t', o⟩) : wpAny M A m Q E ⟨h, g, d, a + b, o⟩ := H _
theorem room_of {dp r k L : Nat} (hd : dp + r < L) (h : k ≤ r) : dp + k < L := by omega
theorem room_rm (r : Nat) (h : r ≤ 9) : callerA.depth + 1 + r < recursionLimit := by
  simp only [depth_caller, recursionLimit]; omega
theorem room_um (r : Nat) (h : r ≤ 9) : callerA.units + 3 + 8 * r < cLine := by
  have := cLine_is
  simp only [units_caller, cLine]; omega
theorem room_of2 {dp r a b L : Nat} (hd : dp + r < L) (h : a + b ≤ r) : dp + a + b < L := by omega
section
open AutoSeq1 (wpAny_loadPart')
set_option maxRecDepth 100000
theorem enum_new_tup (l : Addr) (items : Array Value) (n : Nat) (dct : Option Addr) (sl : Array (Option Value)) :
    Meets (Builtin.«enumerate.__new__» ⟨[.type "enumerate", .ref l], []⟩) (fun _ R s => s.heap.get? l = some { cls := .type "tuple", dict := dct, data := .seq items n, slots := sl } ∧
      R (.ok (.ret (.ref (s.heap.push { cls := .type "tuple_iterator", data := .fields #[.ref l, .int 0 0] }).objs.size)))
        { s with heap := (s.heap.push { cls := .type "tuple_iterator", data := .fields #[.ref l, .int 0 0] }).push { cls := .type "enumerate", data := .fields #[.none, .bool false, .ref s.heap.objs.size, rawInt 0, .none, .none] } }) :=
  .of_wp fun prog w A R s h => by
    obtain ⟨hp, g, d, tk, os⟩ := s; obtain ⟨hl, h⟩ := h
    have hsub := sub_enumerate
    have hL : Heap.IsTuple (Shared.heap ⟨hp, g, d, tk, os⟩) l items := ⟨_, hl, rfl, n, rfl⟩
    wp_walk using wpAny_loadPart' hl
    refine wpAny_stack_any fun st => wpAny_pure ?_
    split
    · rename_i c _ _ _ _ _
      cases (c == Value.type "enumerate")
      · wp_walk using wpAny_loadPart' hl, wpAny_pyIter_tuple hL
        exact ⟨_, rfl, h⟩
      · wp_walk using wpAny_loadPart' hl, wpAny_pyIter_tuple hL
        exact ⟨_, rfl, h⟩
    · wp_walk using wpAny_loadPart' hl, wpAny_pyIter_tuple hL
      exact ⟨_, rfl, h⟩
end
section
variable {prog : Program} {w : World} {A : Around} {E : Value → Shared → Prop} {s : Shared}
theorem nextOf_tup_item {it l : Addr} {i : Nat} {items : Array Value} {x : Value} {Q : Value → Shared → Prop} (hit : s.heap.IsTupleIter it l i)
    (hl : s.heap.IsTuple l items) (hx : items[i]? = some x)
    (hQ : ∀ h', h'.IsTupleIter it l (i + 1) → Heap.SameBut it s.heap h' → Q x { s with heap := h' }) :
    wpAny (model prog w) A (Builtin.SmallTypes.nextOf (.ref it)) Q E s := by
  obtain ⟨o, ho, hc, hd⟩ := id hit
  obtain ⟨ol, hol, _, nl, hdl⟩ := hl
  unfold Builtin.SmallTypes.nextOf
  refine wpAny_bind (wpAny_callSpecial?_slot (name := Str.ofString "__next__") hit.typeIs F.slot_tuple_iterator_next
    (wpAny_call_entry F.slot_tuple_iterator_next hit.typeIs F.entry_tuple_iterator_next ?_ (F.args_tuple_iterator_next_1 _)))
  show wpAny _ _ (field (.ref it) 0 >>= _) _ _ s
  refine wpAny_bind (wpAny_field ho hd (x := .ref l) rfl ?_)
  show wpAny _ _ (if (Value.ref l == Value.none) = true then _ else _) _ _ s
  rw [if_neg (show ¬ ((Value.ref l == Value.none) = true) from Bool.false_ne_true)]
  show wpAny _ _ (field (.ref it) 1 >>= _) _ _ s
  refine wpAny_bind (wpAny_field ho hd (x := .int i 0) rfl ?_)
  show wpAny _ _ (seqItems? (.ref l) >>= _) _ _ s
  refine wpAny_bind (wpAny_seqItems hol hdl ?_)
  simp only [Int.toNat_natCast, hx]
  refine wpAny_bind (wpAny_setField ho hd (by simp) (wpAny_pure ⟨x, rfl, wpAny_pure (hQ _ ?_ (Heap.SameBut.update ..))⟩))
  exact ⟨_, Heap.get?_update_self _ ho (Obj.isFreed_of_fields (Obj.data_mapFields hd _)), (Obj.cls_mapFields ..).trans hc, by
    rw [Obj.data_mapFields hd]; simp [rawInt]⟩
theorem nextOf_tup_end {it l : Addr} {i : Nat} {items : Array Value} {Q : Value → Shared → Prop} (hh : A.handled = none)
    (hit : s.heap.IsTupleIter it l i) (hl : s.heap.IsTuple l items) (hx : items[i]? = none)
    (hE : ∀ h' e, Heap.ExtBut it s.heap h' → (∃ o, h'.get? e = some o ∧ o.cls = .type "StopIteration") → E (.ref e) { s with heap := h' }) :
    wpAny (model prog w) A (Builtin.SmallTypes.nextOf (.ref it)) Q E s := by
  obtain ⟨o, ho, hc, hd⟩ := id hit
  obtain ⟨ol, hol, _, nl, hdl⟩ := hl
  unfold Builtin.SmallTypes.nextOf
  refine wpAny_bind (wpAny_callSpecial?_slot (name := Str.ofString "__next__") hit.typeIs F.slot_tuple_iterator_next
    (wpAny_call_entry F.slot_tuple_iterator_next hit.typeIs F.entry_tuple_iterator_next ?_ (F.args_tuple_iterator_next_1 _)))
  show wpAny _ _ (field (.ref it) 0 >>= _) _ _ s
  refine wpAny_bind (wpAny_field ho hd (x := .ref l) rfl ?_)
  show wpAny _ _ (if (Value.ref l == Value.none) = true then _ else _) _ _ s
  rw [if_neg (show ¬ ((Value.ref l == Value.none) = true) from Bool.false_ne_true)]
  show wpAny _ _ (field (.ref it) 1 >>= _) _ _ s
  refine wpAny_bind (wpAny_field ho hd (x := .int i 0) rfl ?_)
  show wpAny _ _ (seqItems? (.ref l) >>= _) _ _ s
  refine wpAny_bind (wpAny_seqItems hol hdl ?_)
  simp only [Int.toNat_natCast, hx]
  refine wpAny_bind (wpAny_rule (wpAny_bind (wpAny_setField ho hd (by simp) ?_)))
  show wpAny _ _ (newExc (.type "StopIteration") [] >>= _) _ _ _
  refine wpAny_bind ?_
  simp only [newExc, newTuple]
  refine wpAny_bind (wpAny_newObj_type ?_ (by size_fits))
  refine wpAny_bind (m := firstArgMember _ _) (wpAny_of_eq (a := Value.none) (by first | rfl | (simp only [firstArgMember]; rfl)) ?_)
  refine wpAny_newObj_type ?_ (by size_fits)
  simp only [raiseNew]
  refine wpAny_bind (wpAny_handled ?_)
  first | rw [show A.in1.handled = none from hh] | rw [hh]
  refine wpAny_bind (wpAny_pure (wpAny_throw ?_))
  exact hE _ _ (((Heap.SameBut.update ..).extBut.push _).push _) ⟨_, Heap.get?_push_size _ rfl, rfl⟩
end
theorem draws_tup {prog : Program} {w : World} {A : Around} (hh : A.handled = none) (it l : Addr) (hne : l ≠ it) (items : Array Value) :
    Draws prog w A it [it, l] items.size (fun i v => items[i]? = some v) (fun i h => h.IsTupleIter it l i ∧ h.IsTuple l items) where
  live := fun _ _ st => let ⟨o, ho, _⟩ := st.1; ⟨o, ho⟩
  frame := fun _ _ _ st hk => ⟨st.1.at fun o e => hk it (by simp) o e, st.2.at fun o e => hk l (by simp) o e⟩
  item := fun i s Q E hi st hQ => by
    refine nextOf_tup_item st.1 st.2 (x := items[i]) (by simp [hi]) fun h' hit' hs' => ?_
    exact hQ _ h' s.toks (by simp [hi]) ⟨hit', st.2.extBut hs'.extBut hne⟩ hs'
  done := fun s Q E st hE => nextOf_tup_end hh st.1 st.2 (by simp) hE
noncomputable def valKind : ItemKind Value := ⟨fun a v => v = a, fun v => some v, fun _ _ h => by rw [h]⟩
section
variable {prog : Program} {w : World} {A : Around} {E : Value → Shared → Prop} {s : Shared} {h₀ : Heap} {L : Addr} {m : Str → Option Value} {news : List (Addr × Obj)}
theorem call_enum_tup0 {l : Addr} {items : Array Value} {Q : Value → Shared → Prop} (hL : s.heap.IsTuple l items)
    (h : ∀ h', IsEnum h' (s.heap.objs.size + 1) s.heap.objs.size 0 .none → h'.IsTupleIter s.heap.objs.size l 0 → h'.objs.size = s.heap.objs.size + 2 →
      (∀ b o, s.heap.get? b = some o → h'.get? b = some o) → Q (.ref (s.heap.objs.size + 1)) { s with heap := h' }) :
    wpAny (model prog w) A (call (.type "enumerate") [.ref l]) Q E s := by
  obtain ⟨⟨c, dct, dt, sl⟩, hl, hc, n, hd⟩ := hL
  replace hc : c = .type "tuple" := hc
  replace hd : dt = .seq items n := hd
  subst hc hd
  refine callType_new F.called_enumerate (by decide) (F.typeCall_enumerate_1 _) (F.newCall_enumerate_1 _) (fun obj => F.args_object_init_2 obj _) F.entry_enumerate_new
    (enum_new_tup l items n dct sl) ⟨hl, ?_⟩
  have hz : (s.heap.push { cls := .type "tuple_iterator", data := .fields #[.ref l, .int 0 0] }).objs.size = s.heap.objs.size + 1 := Heap.size_push ..
  show _ ∧ _
  rw [hz]
  have he : IsEnum ((s.heap.push { cls := .type "tuple_iterator", data := .fields #[.ref l, .int 0 0] }).push
      { cls := .type "enumerate", data := .fields #[.none, .bool false, .ref s.heap.objs.size, rawInt 0, .none, .none] }) (s.heap.objs.size + 1) s.heap.objs.size 0 .none := by
    have := Heap.get?_push_size (s.heap.push { cls := .type "tuple_iterator", data := .fields #[.ref l, .int 0 0] })
      (o := { cls := .type "enumerate", data := .fields #[.none, .bool false, .ref s.heap.objs.size, rawInt 0, .none, .none] }) rfl
    rw [hz] at this; exact this
  refine ⟨⟨_, he, rfl⟩, h _ he ⟨_, Heap.get?_push_of_some _ (Heap.get?_push_size _ rfl), rfl, rfl⟩ (by rw [Heap.size_push, hz]) fun b o x => Heap.get?_push_of_some _ (Heap.get?_push_of_some _ x)⟩
theorem call_enum_tup {l : Addr} {vs : List Value} {Q : Value → Shared → Prop} (hh : A.handled = none) (hl : h₀.IsTuple l vs.toArray)
    (F : Fr h₀ L s.heap m) (N : News h₀ L s.heap news)
    (h : ∀ h' e, Fr h₀ L h' m → News h₀ L h' news → PairSrcL prog w A E h₀ L valKind vs (.ref e) { s with heap := h' } m news → Q (.ref e) { s with heap := h' }) :
    wpAny (model prog w) A (call (.type "enumerate") [.ref l]) Q E s := by
  have hls : s.heap.IsTuple l vs.toArray := hl.at fun o e => F.keep l o e
  obtain ⟨ol, hol, _⟩ := id hl
  have hlt : l < h₀.objs.size := Heap.lt_size hol
  have hLs : L < s.heap.objs.size := F.ns.lt
  have hab : h₀.objs.size ≤ L := F.above
  refine call_enum_tup0 hls fun h' he hit hsz hk => ?_
  have F' : Fr h₀ L h' m := ⟨F.ns.keeps hk, fun b o e => hk b o (F.keep b o e), F.above⟩
  have N' : News h₀ L h' news := fun p hp => ⟨hk _ _ (N p hp).1, (N p hp).2⟩
  refine h h' _ F' N' fun env hL => ?_
  subst hL
  have hl2 : l < s.heap.objs.size := Nat.lt_trans (Nat.lt_of_lt_of_le hlt hab) hLs
  refine enumSrc (draws_tup (A := A.in1) hh s.heap.objs.size l (Nat.ne_of_lt hl2) vs.toArray) he ⟨hit, hls.at fun o e => hk l o e⟩ (Nat.succ_ne_self _) ?_ (by simp) ?_
    (Heap.get?_none_of_le (Nat.le_trans hab (Nat.le_of_lt (Nat.lt_succ_of_lt hLs)))) (Heap.get?_none_of_le (Nat.le_trans hab (Nat.le_of_lt hLs))) ?_ (by simp) (fun i x hx => ⟨x, by simpa using hx, rfl⟩) F' N'
  · intro hm
    rcases List.mem_cons.mp hm with e | hm
    · exact Nat.succ_ne_self _ e
    · exact Nat.ne_of_gt (Nat.lt_succ_of_lt hl2) (List.mem_singleton.mp hm)
  · intro hm
    rcases List.mem_cons.mp hm with e | hm
    · exact Nat.ne_of_lt (Nat.lt_succ_of_lt hLs) e
    · rcases List.mem_cons.mp hm with e | hm
      · exact Nat.ne_of_lt hLs e
      · exact Nat.ne_of_gt (Nat.lt_of_lt_of_le hlt hab) (List.mem_singleton.mp hm)
  · intro b hb q hq e
    have hq1 : q.1 < s.heap.objs.size := Heap.lt_size (N q hq).1
    simp only [List.mem_cons, List.not_mem_nil, or_false] at hb
    rcases hb with e1 | e1 | e1
    · rw [e1] at e; exact Nat.ne_of_gt (Nat.lt_succ_of_lt hq1) e
    · rw [e1] at e; exact Nat.ne_of_gt hq1 e
    · have hn := (N q hq).2.2
      rw [← e, e1, hol] at hn
      cases hn
end
noncomputable def TupRest (prog : Program) (w : World) (A : Around) (E : Value → Shared → Prop) (h₀ : Heap) (env : Env) (target : PySem.Expr) (body orelse : List Stmt) (Q : Flow → Shared → Prop) (s : Shared) (I : Addr) : List Value → (Str → Option Value) → List (Addr × Obj) → Prop
  | [], m, news => ∀ h tk, Fr h₀ env.locals h m → News h₀ env.locals h news → wpAny (model prog w) A (execs orelse env) Q E { s with heap := h, toks := tk }
  | v :: r, m, news => ∀ (it : Obj) h tk, it.cls = .type "tuple_iterator" → Fr h₀ env.locals h m → News h₀ env.locals h ((I, it) :: news) →
      wpAny (model prog w) A (assign target env v) (fun _ s₂ => wpAny (model prog w) A (execs body env) (UnrPost h₀ env.locals { s with heap := h, toks := tk } I it (TupRest prog w A E h₀ env target body orelse Q s I r) Q) E s₂) E { s with heap := h, toks := tk }
section
variable {prog : Program} {w : World} {A : Around} {E : Value → Shared → Prop} {s : Shared} {env : Env} {h₀ : Heap} {target : PySem.Expr} {body orelse : List Stmt} {Q : Flow → Shared → Prop}
theorem TupRest.zero {I : Addr} {m : Str → Option Value} {news : List (Addr × Obj)} (h : ∀ h tk, Fr h₀ env.locals h m → News h₀ env.locals h news → wpAny (model prog w) A (execs orelse env) Q E { s with heap := h, toks := tk }) :
    TupRest prog w A E h₀ env target body orelse Q s I [] m news := h
theorem TupRest.succ {I : Addr} {v : Value} {r : List Value} {m : Str → Option Value} {news : List (Addr × Obj)}
    (h : ∀ (it : Obj) h tk, it.cls = .type "tuple_iterator" → Fr h₀ env.locals h m → News h₀ env.locals h ((I, it) :: news) →
      wpAny (model prog w) A (assign target env v) (fun _ s₂ => wpAny (model prog w) A (execs body env) (UnrPost h₀ env.locals { s with heap := h, toks := tk } I it (TupRest prog w A E h₀ env target body orelse Q s I r) Q) E s₂) E { s with heap := h, toks := tk }) :
    TupRest prog w A E h₀ env target body orelse Q s I (v :: r) m news := h
theorem forLoop_tupElse {ta : Addr} {vs : List Value} {m : Str → Option Value} {news : List (Addr × Obj)} (hh : A.handled = none) (ht : h₀.IsTuple ta vs.toArray)
    (F : Fr h₀ env.locals s.heap m) (N : News h₀ env.locals s.heap news) (hE : PassesOwn (model prog w) A env E)
    (rest : ∀ I, (∀ p ∈ news, p.1 < I) → TupRest prog w A E h₀ env target body orelse Q s I vs m news) :
    wpAny (model prog w) A (pyIter (.ref ta)) (fun it s₂ => codeAny (model prog w) A (.forLoop target it body orelse env) (fun r s' => match r with | .ok f => Q f s' | .error e => cameBackBy (model prog w) A env E e s') s₂) E s := by
  have hts : s.heap.IsTuple ta vs.toArray := ht.at fun o e => F.keep ta o e
  refine wpAny_pyIter_tuple hts ?_
  have hI0 := next_is_new F
  have hLI : env.locals ≠ s.heap.objs.size := Nat.ne_of_lt F.ns.lt
  have rest := rest s.heap.objs.size fun p hp => Heap.lt_size (N p hp).1
  have hnI : ∀ p ∈ news, p.1 ≠ s.heap.objs.size := fun p hp => Nat.ne_of_lt (Heap.lt_size (N p hp).1)
  generalize hI : s.heap.objs.size = I at *
  have step : ∀ (h h₁ : Heap) (m₁ : Str → Option Value) (news₁ : List (Addr × Obj)), (∀ b o, b ≠ I → h.get? b = some o → h₁.get? b = some o) → (∀ p ∈ news₁, p.1 ≠ I) → Fr h₀ env.locals h m₁ → News h₀ env.locals h news₁ → Fr h₀ env.locals h₁ m₁ ∧ News h₀ env.locals h₁ news₁ := by
    intro h h₁ m₁ news₁ hk hn F₁ N₁
    refine ⟨⟨F₁.ns.at' fun o e => hk _ o hLI e, fun b o e => hk b o (fun q => ?_) (F₁.keep b o e), F₁.above⟩, fun p hp => ⟨hk _ _ (hn p hp) (N₁ p hp).1, (N₁ p hp).2⟩⟩
    rw [q, hI0] at e; cases e
  refine codeAny_forLoop_any (fun k s' => ∃ i h tk m₁ news₁, s' = { s with heap := h, toks := tk } ∧ h.IsTupleIter I ta i ∧ Fr h₀ env.locals h m₁ ∧ News h₀ env.locals h news₁ ∧ (∀ p ∈ news₁, p.1 ≠ I) ∧ TupRest prog w A E h₀ env target body orelse Q s I (vs.drop i) m₁ news₁ ∧ i ≤ vs.length ∧ k = vs.length + 1 - i) ?_ (vs.length + 1)
    ⟨0, _, _, m, news, rfl, ⟨_, hI ▸ Heap.get?_push_size _ rfl, rfl, rfl⟩, F.push _, fun p hp => ⟨Heap.get?_push_of_some _ (N p hp).1, (N p hp).2⟩, hnI, rest, Nat.zero_le _, rfl⟩
  rintro k s' ⟨i, h, tk, m₁, news₁, rfl, hit, F₁, N₁, hn₁, rest₁, hi, rfl⟩
  have ht₁ : h.IsTuple ta vs.toArray := ht.at fun o e => F₁.keep ta o e
  by_cases hlt : i < vs.length
  · refine wpAny_pyNext_tuple_item hit ht₁ (x := vs[i]) (by simp [hlt]) fun h₁ hit₁ hs₁ => ?_
    obtain ⟨F₂, N₂⟩ := step h h₁ m₁ news₁ (fun b o hb e => hs₁.extBut b o hb e) hn₁ F₁ N₁
    refine letGo_tupleiter hit₁ ?_
    rw [List.drop_eq_getElem_cons hlt] at rest₁
    obtain ⟨o, ho, hc, hd⟩ := hit₁
    have N₃ : News h₀ env.locals h₁ ((I, o) :: news₁) := fun p hp => by
      rcases List.mem_cons.mp hp with rfl | hp
      · exact ⟨ho, Ne.symm hLI, hI0⟩
      · exact N₂ p hp
    refine wpAny_mono (wpAny_passesOwn hE (rest₁ o h₁ tk hc F₂ N₃)) (fun _ s₂ h₂ => wpAny_mono (wpAny_passesOwn hE h₂) (fun f s₃ h₃ => ?_) fun _ _ e => e) fun _ _ e => e
    have fin : UnrEnd h₀ env.locals { s with heap := h₁, toks := tk } I o (TupRest prog w A E h₀ env target body orelse Q s I (vs.drop (i + 1))) s₃ → _ := fun ⟨h', tk', m', news', e, F', N', ho', r⟩ =>
      show ∃ m, m < vs.length + 1 - i ∧ ∃ i h tk m₁ news₁, s₃ = { s with heap := h, toks := tk } ∧ h.IsTupleIter I ta i ∧ Fr h₀ env.locals h m₁ ∧ News h₀ env.locals h news₁ ∧ (∀ p ∈ news₁, p.1 ≠ I) ∧ TupRest prog w A E h₀ env target body orelse Q s I (vs.drop i) m₁ news₁ ∧ i ≤ vs.length ∧ m = vs.length + 1 - i from
      ⟨vs.length + 1 - (i + 1), by omega, i + 1, h', tk', m', news', e, ⟨o, (N' _ (.head _)).1, hc, hd⟩, F', fun p hp => N' p (.tail _ hp), ho', r, hlt, rfl⟩
    cases f with
    | ret v => exact h₃
    | brk => exact h₃
    | next => exact fin h₃
    | cont => exact fin h₃
  · have hin : i = vs.length := by omega
    subst hin
    refine wpAny_pyNext_tuple_end hh hit ht₁ (by simp) fun h₁ he₁ => ?_
    obtain ⟨F₂, N₂⟩ := step h h₁ m₁ news₁ (fun b o hb e => he₁ b o hb e) hn₁ F₁ N₁
    rw [List.drop_length] at rest₁
    exact wpAny_passesOwn hE (rest₁ h₁ tk F₂ N₂)
theorem For_tupElse {ta : Addr} {vs : List Value} {m : Str → Option Value} {news : List (Addr × Obj)} {iter : PySem.Expr} {pos : Pos} (hh : A.handled = none)
    (F : Fr h₀ env.locals s.heap m) (N : News h₀ env.locals s.heap news)
    (hev : ∀ (Q' : Value → Shared → Prop), (Q' (.ref ta) s) → wpAny (model prog w) A (eval iter env) Q' E s) (ht : h₀.IsTuple ta vs.toArray)
    (rest : ∀ I, (∀ p ∈ news, p.1 < I) → TupRest prog w A E h₀ env target body orelse Q s I vs m news)
    (hs : ∀ x, foldedSetIterable iter env x = pure x)
    (hE : PassesOwn (model prog w) A env E := by passes_own) :
    wpAny (model prog w) A (exec (.For target iter body orelse pos) env) Q E s :=
  wpAny_For (hev _ (forLoop_tupElse hh ht F N hE rest)) hs
end
theorem two_names {m₁ : Str → Option Value} {a b : Str} {va vb : Value} (ha : m₁ a = some va) (hb : m₁ b = some vb) : m₁ = fun z => if z = a then some va else if z = b then some vb else m₁ z := by
  funext z
  by_cases h1 : z = a
  · rw [if_pos h1, h1, ha]
  · rw [if_neg h1]
    by_cases h2 : z = b
    · rw [if_pos h2, h2, hb]
    · rw [if_neg h2]
theorem news_swap {h₀ h : Heap} {L : Addr} {own : List (Addr × Obj)} {p : Addr × Obj} (N : News h₀ L h (own ++ [p])) : News h₀ L h (p :: own) := fun q hq => by
  rcases List.mem_cons.mp hq with rfl | hq
  · exact N _ (List.mem_append_right _ (.head _))
  · exact N _ (List.mem_append_left _ hq)
theorem news_swap' {h₀ h : Heap} {L : Addr} {own : List (Addr × Obj)} {p : Addr × Obj} (N : News h₀ L h (p :: own)) : News h₀ L h (own ++ [p]) := fun q hq => by
  rcases List.mem_append.mp hq with hq | hq
  · exact N _ (.tail _ hq)
  · rw [List.mem_singleton.mp hq]; exact N _ (.head _)
theorem unrEnd_tail {h₀ : Heap} {L I : Addr} {it : Obj} {rest : (Str → Option Value) → List (Addr × Obj) → Prop} {s₁ : Shared} {h' : Heap} {tk : Nat} {m' : Str → Option Value} {news' : List (Addr × Obj)} (F : Fr h₀ L h' m') (N : News h₀ L h' ((I, it) :: news'))
    (off : ∀ p ∈ news', p.1 < I) (r : rest m' news') : UnrEnd h₀ L s₁ I it rest { s₁ with heap := h', toks := tk } := ⟨h', tk, m', news', rfl, F, N, fun p hp => Nat.ne_of_lt (off p hp), r⟩
theorem news_end1 {h₀ h : Heap} {L I : Addr} {it : Obj} {own : List (Addr × Obj)} {p : Addr × Obj} (N : News h₀ L h ((I, it) :: p :: own)) : News h₀ L h (own ++ [p]) := news_swap' fun q hq => N q (.tail _ hq)
section
variable {h₀ h' : Heap} {L l' I : Addr} {it o : Obj} {own : List (Addr × Obj)} {m' : Str → Option Value} {vs : List Value} {n' i tk : Nat} {ch ch' : Str} {t tx : Tok} {x : Int} {l : List Str} {s₁ : Shared} {Qr : Value → Shared → Prop} {Qb : Shared → Prop}
theorem fm_endB (F : Fr h₀ L h' m') (N : News h₀ L h' ((l', W.listOf (vs ++ [Value.str ch t]).toArray n') :: own)) (hv : StrsAre vs (l.take i)) (h1 : m' (Str.ofString "mode") = some (.int x tx)) (h2 : m' (Str.ofString "perm") = some (.ref l')) (hl : l[i]? = some ch') (e : ch' = ch) :
    LoopStep3 h₀ L own [(l', o)] (fun m₁ news₁ => m₁ (Str.ofString "mode") = some (.int x tx) ∧ m₁ (Str.ofString "perm") = some (.ref l') ∧ ∃ vs n, news₁ = [(l', W.listOf vs.toArray n)] ∧ StrsAre vs (l.take (i + 1))) s₁ Qr Qb .next { s₁ with heap := h', toks := tk } :=
  LoopStep3.next (LoopStep2.intro F (news_swap' N) rfl ⟨h1, h2, _, _, rfl, fm_next hv hl e⟩)
theorem fm_endA (F : Fr h₀ L h' m') (N : News h₀ L h' ((I, it) :: (l', W.listOf (vs ++ [Value.str ch t]).toArray n') :: own)) (hv : StrsAre vs (l.take i)) (h1 : m' (Str.ofString "mode") = some (.int x tx)) (h2 : m' (Str.ofString "perm") = some (.ref l')) (hl : l[i]? = some ch') (e : ch' = ch) :
    LoopStep3 h₀ L own [(l', o)] (fun m₁ news₁ => m₁ (Str.ofString "mode") = some (.int x tx) ∧ m₁ (Str.ofString "perm") = some (.ref l') ∧ ∃ vs n, news₁ = [(l', W.listOf vs.toArray n)] ∧ StrsAre vs (l.take (i + 1))) s₁ Qr Qb .next { s₁ with heap := h', toks := tk } :=
  fm_endB F (fun q hq => N q (.tail _ hq)) hv h1 h2 hl e
end
theorem three_names {m₁ : Str → Option Value} {a b c : Str} {va vb vc : Value} (ha : m₁ a = some va) (hb : m₁ b = some vb) (hc : m₁ c = some vc) : m₁ = fun z => if z = a then some va else if z = b then some vb else if z = c then some vc else m₁ z := by
  funext z
  by_cases h1 : z = a
  · rw [if_pos h1, h1, ha]
  · rw [if_neg h1]
    by_cases h2 : z = b
    · rw [if_pos h2, h2, hb]
    · rw [if_neg h2]
      by_cases h3 : z = c
      · rw [if_pos h3, h3, hc]
      · rw [if_neg h3]
theorem unrPost_mono {h₀ : Heap} {L : Addr} {s₁ : Shared} {I : Addr} {it : Obj} {rest rest' : (Str → Option Value) → List (Addr × Obj) → Prop} {Q : Flow → Shared → Prop} {f : Flow} {s₂ : Shared} (h : UnrPost h₀ L s₁ I it rest Q f s₂) (k : ∀ m n, rest m n → rest' m n) : UnrPost h₀ L s₁ I it rest' Q f s₂ := by
  have e : UnrEnd h₀ L s₁ I it rest s₂ → UnrEnd h₀ L s₁ I it rest' s₂ := fun ⟨h', tk, m', n', e, F, N, o, r⟩ => ⟨h', tk, m', n', e, F, N, o, k _ _ r⟩
  cases f with
  | ret v => exact h
  | brk => exact h
  | next => exact e h
  | cont => exact e h
theorem tupRest_J {prog : Program} {w : World} {A : Around} {E : Value → Shared → Prop} {s : Shared} {env : Env} {h₀ : Heap} {target : PySem.Expr} {body orelse : List Stmt} {Q : Flow → Shared → Prop} {I : Addr} {news : List (Addr × Obj)} (J : List Value → (Str → Option Value) → Prop)
    (turn : ∀ v r m₁ (it : Obj) h tk, J (v :: r) m₁ → it.cls = .type "tuple_iterator" → Fr h₀ env.locals h m₁ → News h₀ env.locals h ((I, it) :: news) →
      wpAny (model prog w) A (assign target env v) (fun _ s₂ => wpAny (model prog w) A (execs body env) (UnrPost h₀ env.locals { s with heap := h, toks := tk } I it (fun m' n' => n' = news ∧ J r m') Q) E s₂) E { s with heap := h, toks := tk })
    (zero : ∀ m₁ h tk, J [] m₁ → Fr h₀ env.locals h m₁ → News h₀ env.locals h news → wpAny (model prog w) A (execs orelse env) Q E { s with heap := h, toks := tk }) :
    ∀ r m, J r m → TupRest prog w A E h₀ env target body orelse Q s I r m news
  | [], m, hj => fun h tk F N => zero m h tk hj F N
  | v :: r, m, hj => fun it h tk hc F N => wpAny_mono (turn v r m it h tk hj hc F N) (fun _ s₂ h₂ => wpAny_mono h₂ (fun f s₃ h₃ => unrPost_mono h₃ fun m' n' ⟨e, hj'⟩ => by subst e; exact tupRest_J J turn zero r m' hj') fun _ _ e => e) fun _ _ e => e
section
open LCg
variable {prog : Program} {w : World} {A : Around} {E : Value → Shared → Prop} {s : Shared} {h₀ : Heap} {L : Addr} {m : Str → Option Value} {env : Env}
noncomputable def SrcS (prog : Program) (w : World) (A : Around) (h₀ : Heap) (L : Addr) (m : Str → Option Value) (env : Env) (elt : PySem.Expr) (x : Str) (scope : Scope) (cl : List (Str × Addr)) (Fin : Shared → List Value → List (Addr × Obj) → Prop) (xv : Value) (s₁ : Shared) : Prop :=
  ∃ r a b c t u v n news, xv = .ref r ∧ A.handled = none ∧ Fr h₀ L s₁.heap m ∧ News h₀ L s₁.heap news ∧ IsRange s₁.heap r a b c t u v ∧ Builtin.Range.small a b c = true ∧ Builtin.Range.rangeSize a b c = ((n : Nat) : Int) ∧ n ≤ sizeLine ∧
    ∀ s₂ : Shared, (∃ h, s₂ = { s₁ with heap := h }) → CompRest prog w A h₀ L m env elt x scope cl s₂ (fun _ => True) (fun i v => i < n ∧ ∃ t, v = .int (a + (i : Int) * c) t) (Fin s₂) n 0 [] news
theorem range_stS {I : Addr} {a c : Int} {n : Nat} : ∀ i (h h' : Heap) (o : Obj) (nw : List (Addr × Obj)), IsRangeIter h I (a + (i : Nat) * c) ((n : Int) - (i : Nat)) c → h.get? I = some o → h'.get? I = some o → (∀ b o, h₀.get? b = some o → h'.get? b = some o) → News h₀ L h' nw → True → IsRangeIter h' I (a + (i : Nat) * c) ((n : Int) - (i : Nat)) c :=
  fun i h h' o nw st e e' _ _ _ => by
    have st' : h.get? I = some _ := st
    show h'.get? I = some _
    rw [st'] at e
    rw [e', ← e]
theorem ListComp_S {elt iter : PySem.Expr} {x : Str} {px : Pos} {scope : Scope} {cl : List (Str × Addr)} {pos : Pos} {Q : Value → Shared → Prop} (_F : Fr h₀ L s.heap m)
    (hclos : closureFor scope env = pure cl) (hcell : ∀ y ∈ scope.names, y.2 ≠ .cell) (hkind : scope.kind = .function)
    (hnames : ∀ y ∈ scope.names, y.2 = .local → scope.names.lookup y.1 = some .local) (hx : scope.names.lookup x = some .local)
    (h : wpAny (model prog w) A (eval iter env) (SrcS prog w A h₀ L m env elt x scope cl (fun s₂ => FinE h₀ L m s₂ Q)) E s)
    (hs : ∀ x, foldedSetIterable iter env x = pure x := by intro _; rfl) :
    wpAny (model prog w) A (eval (.ListComp elt [⟨.Name x px, iter, [], 0⟩] scope pos) env) Q E s := by
  rw [eval_ListComp]
  refine wpAny_comprehension_free (use := none) rfl hs hclos hkind hnames (wpAny_mono h (fun xv s₁ h₁ => ?_) fun _ _ e => e)
  obtain ⟨r, a, b, c, t, u, v, n, news, rfl, hh, F, N, hr, hsm, hn, hsz, R⟩ := h₁
  refine wpAny_pyIter_range hr hsm ?_
  refine block_U (Walks.range hh _ a c n).bound hsz (fun i h st => ⟨_, st⟩) range_stS hcell hkind hx (by show IsRangeIter _ _ _ _ _; rw [hn]; simpa using Heap.get?_push_size _ rfl) (fun b hb => ?_)
    (F.keeps fun _ _ e => Heap.get?_push_of_some _ e) (N.grown fun _ _ e => Heap.get?_push_of_some _ e) (Nat.ne_of_lt F.ns.lt) (next_is_new F) (fun p hp => Nat.ne_of_lt (Heap.lt_size (N p hp).1)) trivial (R _ ⟨_, rfl⟩) ?_
  · rw [List.mem_singleton.mp hb]
    show s₁.heap.objs.size < (s₁.heap.push _).objs.size
    rw [Heap.size_push]; exact Nat.lt_succ_self _
  · intro D C h tk m' ys news' F' N' o1 hn hC₀ hD₀ hCL hDL hCD offC fin
    refine ⟨m', hn, fun h'' hs'' => fin D h'' tk (F'.change hs'' hCL hC₀) (fun p hp => ?_) o1⟩
    refine ⟨hs''.extBut _ _ ?_ (N' p hp).1, (N' p hp).2⟩
    rcases List.mem_cons.mp hp with rfl | hp
    · exact Ne.symm hCD
    · exact offC p hp
noncomputable def CInt (h₀ : Heap) (L : Addr) (m : Str → Option Value) (all : List (Addr × Obj)) (G : Int → Prop) (s : Shared) (y : Value) (s' : Shared) : Prop :=
  ∃ z t h' tk', y = .int z t ∧ G z ∧ s' = { s with heap := h', toks := tk' } ∧ Fr h₀ L h' m ∧ News h₀ L h' all
theorem CInt.intro {h₀ h' : Heap} {L : Addr} {m : Str → Option Value} {all : List (Addr × Obj)} {G : Int → Prop} {s : Shared} {z : Int} {t tk' : Nat} (hz : G z) (F : Fr h₀ L h' m) (N : News h₀ L h' all) : CInt h₀ L m all G s (.int z t) { s with heap := h', toks := tk' } :=
  ⟨z, t, h', tk', rfl, hz, rfl, F, N⟩
theorem compRest_ints {elt : PySem.Expr} {x : Str} {scope : Scope} {cl : List (Str × Addr)} {S : List (Addr × Obj) → Prop} {P : Nat → Value → Prop} {Fin : List Value → List (Addr × Obj) → Prop} {news : List (Addr × Obj)} (f : Nat → Int → Prop) (hS : S news)
    (turn : ∀ (i : Nat) v I oI C oC D ys m₂ h tk (E' : Value → Shared → Prop), P i v → NsObj oC m₂ → m₂ x = some v → Fr h₀ L h m → News h₀ L h ((I, oI) :: (C, oC) :: (D, lst ys) :: news) →
      wpAny (model prog w) A (eval elt (compEnvC scope cl C env)) (CInt h₀ L m ((I, oI) :: (C, oC) :: (D, lst ys) :: news) (f i) s) E' { s with heap := h, toks := tk }) :
    ∀ (k i : Nat) (ys : List Value) (ns : List Int), IntsAre ys ns → (∀ (j : Nat) z, ns[j]? = some z → f j z) → ns.length = i →
      (∀ ys ns, IntsAre ys ns → (∀ (j : Nat) z, ns[j]? = some z → f j z) → ns.length = i + k → Fin ys news) → CompRest prog w A h₀ L m env elt x scope cl s S P Fin k i ys news
  | 0, i, ys, ns, hi, hf, hl, fin => CompRest.zero (fin ys ns hi hf hl)
  | k + 1, i, ys, ns, hi, hf, hl, fin => by
    refine CompRest.succ fun v I oI C oC D m₂ h tk E' hP hC hx F N off ne => ?_
    refine wpAny_mono (turn i v I oI C oC D ys m₂ h tk E' hP hC hx F N) (fun y s' hy => ?_) fun _ _ e => e
    obtain ⟨z, t, h', tk', rfl, hz, rfl, F', N'⟩ := hy
    refine CompEnd.intro F' N' news (fun p hp => hp) off hS ?_
    refine compRest_ints f hS turn k (i + 1) (ys ++ [.int z t]) (ns ++ [z]) (IntsAre.append hi (.cons _ _ .nil)) (fun j z' hj => ?_) (by simp [hl]) (fun ys ns a b c => fin ys ns a b (by omega))
    by_cases h1 : j < ns.length
    · rw [List.getElem?_append_left h1] at hj; exact hf j z' hj
    · rw [List.getElem?_append_right (by omega)] at hj
      have hj0 : j - ns.length = 0 := by
        cases hq : j - ns.length with
        | zero => rfl
        | succ q => rw [hq] at hj; simp at hj
      rw [hj0] at hj
      simp at hj
      have : j = i := by omega
      subst this hj
      exact hz
theorem small_two {a b : Int} (ha : 0 ≤ a) (ha' : a ≤ 1) (hb : 0 ≤ b) (hb' : b ≤ 63) : Builtin.Range.small a b 2 = true := by
  unfold Builtin.Range.small Builtin.Range.rangeSize
  simp only [Builtin.Range.rangeFitsLong, Bool.and_eq_true, Bool.or_eq_true, decide_eq_true_eq, beq_iff_eq, show (2 : Int) > 0 by decide, if_true]
  split <;> omega
theorem size_two {a b : Int} (hb' : b ≤ 63) (ha : 0 ≤ a) : Builtin.Range.rangeSize a b 2 = (((Builtin.Range.rangeSize a b 2).toNat : Nat) : Int) ∧ (Builtin.Range.rangeSize a b 2).toNat ≤ 63 ∧ ∀ i : Nat, i < (Builtin.Range.rangeSize a b 2).toNat → a + (i : Int) * 2 < b := by
  unfold Builtin.Range.rangeSize
  simp only [show (2 : Int) > 0 by decide, if_true]
  split
  · refine ⟨by omega, by omega, fun i hi => by omega⟩
  · refine ⟨by omega, by omega, fun i hi => by omega⟩
theorem srcS_two {elt : PySem.Expr} {x : Str} {scope : Scope} {cl : List (Str × Addr)} {Fin : Shared → List Value → List (Addr × Obj) → Prop} {r : Addr} {a b : Int} {t u v : Tok} {news : List (Addr × Obj)} {s₁ : Shared} (G : Int → Prop)
    (hh : A.handled = none) (F : Fr h₀ L s₁.heap m) (N : News h₀ L s₁.heap news) (hr : IsRange s₁.heap r a b 2 t u v) (ha : 0 ≤ a) (ha' : a ≤ 1) (hb : 0 ≤ b) (hb' : b ≤ 63)
    (turn : ∀ (j : Int) t I oI C oC D ys m₂ h tk (E' : Value → Shared → Prop), 0 ≤ j → j < b → NsObj oC m₂ → m₂ x = some (.int j t) → Fr h₀ L h m → News h₀ L h ((I, oI) :: (C, oC) :: (D, lst ys) :: news) →
      wpAny (model prog w) A (eval elt (compEnvC scope cl C env)) (CInt h₀ L m ((I, oI) :: (C, oC) :: (D, lst ys) :: news) G s₁) E' { s₁ with heap := h, toks := tk })
    (fin : ∀ g ys ns, IntsAre ys ns → (∀ z ∈ ns, G z) → ns.length ≤ 63 → Fin { s₁ with heap := g } ys news) : SrcS prog w A h₀ L m env elt x scope cl Fin (.ref r) s₁ := by
  obtain ⟨e1, e2, e3⟩ := size_two (a := a) hb' ha
  refine ⟨r, a, b, 2, t, u, v, _, news, rfl, hh, F, N, hr, small_two ha ha' hb hb', e1, by rw [sizeLine_eq]; omega, ?_⟩
  rintro s₂ ⟨g, rfl⟩
  refine compRest_ints (fun _ z => G z) trivial ?_ _ 0 [] [] IntsAre.nil (fun j z hj => by simp at hj) rfl fun ys ns hi hf hl => fin g ys ns hi (fun z hz => ?_) (by omega)
  · rintro i v I oI C oC D ys m₂ h tk E' ⟨hi, t, rfl⟩ hC hx F' N'
    exact turn _ t I oI C oC D ys m₂ h tk E' (by omega) (e3 i hi) hC hx F' N'
  · obtain ⟨j, hj⟩ := List.getElem?_of_mem hz
    exact hf j z hj
theorem rng_size {n : Nat} : Builtin.Range.rangeSize 0 (n : Int) 1 = (n : Int) := by
  rw [rangeSize_nat]; omega
theorem rng_small {n : Nat} (h : n ≤ 100) : Builtin.Range.small 0 (n : Int) 1 = true := by
  exact small_one (by omega) (by omega) (by omega) (by omega)
theorem map_of_get {f : Nat → Int} : ∀ {ns : List Int} {n : Nat}, ns.length = n → (∀ (j : Nat) z, ns[j]? = some z → z = f j) → ns = (List.range n).map f := by
  intro ns n hl h
  apply List.ext_getElem?
  intro j
  by_cases hj : j < n
  · obtain ⟨z, hz⟩ : ∃ z, ns[j]? = some z := ⟨ns[j]'(by omega), List.getElem?_eq_getElem (by omega)⟩
    rw [hz, h j z hz]
    simp [hj]
  · rw [List.getElem?_eq_none (by omega), List.getElem?_eq_none (by simp; omega)]
theorem srcS_rng {elt : PySem.Expr} {x : Str} {scope : Scope} {cl : List (Str × Addr)} {Fin : Shared → List Value → List (Addr × Obj) → Prop} {r : Addr} {b : Int} {t u v : Tok} {news : List (Addr × Obj)} {s₁ : Shared} (n : Nat) (f : Nat → Int)
    (hh : A.handled = none) (F : Fr h₀ L s₁.heap m) (N : News h₀ L s₁.heap news) (hr : IsRange s₁.heap r 0 b 1 t u v) (hb : b = (n : Int)) (hn : n ≤ 100)
    (turn : ∀ (i : Nat) t I oI C oC D ys m₂ h tk (E' : Value → Shared → Prop), i < n → NsObj oC m₂ → m₂ x = some (.int (i : Int) t) → Fr h₀ L h m → News h₀ L h ((I, oI) :: (C, oC) :: (D, lst ys) :: news) →
      wpAny (model prog w) A (eval elt (compEnvC scope cl C env)) (CInt h₀ L m ((I, oI) :: (C, oC) :: (D, lst ys) :: news) (fun z => z = f i) s₁) E' { s₁ with heap := h, toks := tk })
    (fin : ∀ g ys ns, ns = (List.range n).map f → IntsAre ys ns → Fin { s₁ with heap := g } ys news) : SrcS prog w A h₀ L m env elt x scope cl Fin (.ref r) s₁ := by
  subst hb
  refine ⟨r, 0, n, 1, t, u, v, n, news, rfl, hh, F, N, hr, rng_small hn, rng_size, by rw [sizeLine_eq]; omega, ?_⟩
  rintro s₂ ⟨g, rfl⟩
  refine compRest_ints (fun i z => z = f i) trivial ?_ _ 0 [] [] IntsAre.nil (fun j z hj => by simp at hj) rfl fun ys ns hi hf hl => ?_
  · rintro i v I oI C oC D ys m₂ h tk E' ⟨hi, t, rfl⟩ hC hx F' N'
    exact turn i t I oI C oC D ys m₂ h tk E' hi hC (by rw [hx]; congr 2; omega) F' N'
  · have e : ns = (List.range n).map f := map_of_get (by omega) hf
    exact fin g ys ns e hi
end
theorem law_enter {M : Model} {A : Around} {E : Value → Shared → Prop} {env : Env} {body : List Stmt} {Q : Flow → Shared → Prop} {s : Shared} (hp : PassesOwn M A env E) (h : PassesOwn M A env E → wpAny M A (execs body env) Q E s) : wpAny M A (execs body env) Q E s := h hp
theorem news_sub {h₀ h : Heap} {L : Addr} {a b : List (Addr × Obj)} (N : News h₀ L h a) (hs : b.Sublist a) : News h₀ L h b := fun p hp => N p (hs.subset hp)
section
variable {prog : Program} {w : World} {A : Around} {E : Value → Shared → Prop} {s : Shared}
theorem in_bytes_no {l : Addr} {vs : List Value} {c : Array UInt8} {t : Tok} {Q : Value → Shared → Prop} (hl : s.heap.IsList l vs.toArray) (hv : ∀ y ∈ vs, ∃ b u, y = .bytes b u ∧ b.toList ≠ c.toList) (h : Q (.bool false) s) :
    wpAny (model prog w) A (compareOp .In (.bytes c t) (.ref l)) Q E s := by
  refine SeqAt.in_listAt (fun _ => false) hl (fun y hy => ?_) ?_
  · obtain ⟨b, u, rfl, hne⟩ := hv y (by simpa using hy)
    intro prog w E Q hq
    exact PySem.W.eqBool_bytes (by rw [decide_eq_false hne]; exact hq)
  · have e : (vs.toArray.any fun _ => false) = false := by simp
    rw [e]; exact h
end
noncomputable def IntIs (z : Int) (s : Shared) (v : Value) (s' : Shared) : Prop := ∃ t tk', v = .int z t ∧ s' = { s with toks := tk' }
theorem IntIs.intro {z z' : Int} {s : Shared} {t : Tok} {tk' : Nat} (e : z' = z) : IntIs z s (.int z' t) { s with toks := tk' } := ⟨_, _, by rw [e], rfl⟩
theorem wpAny_int {M : Model} {A : Around} {m : Sem Value} {Q E : Value → Shared → Prop} {s : Shared} (z : Int) (h1 : wpAny M A m (IntIs z s) E s) (h2 : ∀ t tk', Q (.int z t) { s with toks := tk' }) : wpAny M A m Q E s :=
  wpAny_mono h1 (fun v s' ⟨t, tk', e1, e2⟩ => by subst e1 e2; exact h2 t tk') fun _ _ e => e
section
variable {prog : Program} {w : World} {A : Around} {E : Value → Shared → Prop} {s : Shared} {env : Env} {h₀ : Heap} {x : Str} {body : List Stmt} {Q : Flow → Shared → Prop}
theorem kst_tup {σ : Type} {l : Addr} {vs : List Value} {ns : List Int} {ot : Obj} {m₀ : Str → Option Value} {rest : List (Addr × Obj)} (Led : σ → List (Addr × Obj)) (ps : σ → List (Str × Value)) (Facts : σ → Prop) (stored : List Str) (P : List Int → σ → Prop) (c₀ : σ)
    (hh : A.handled = none) (F : Fr h₀ env.locals s.heap m₀) (N : News h₀ env.locals s.heap ((l, ot) :: rest)) (hl : s.heap.IsTuple l vs.toArray) (hi : IntsAre vs ns) (hr : rest = Led c₀) (hln : ∀ q ∈ Led c₀, q.1 ≠ l) (hf : Facts c₀) (hk : ∀ p ∈ ps c₀, m₀ p.1 = some p.2) (hp : P [] c₀)
    (turn : ∀ (c : σ) pre post n t (u : Str → Option Value) h tk own, ns = pre ++ n :: post → OwnOff own ((Led c₀).map (·.1)) → Facts c → P pre c →
      Fr h₀ env.locals h (fun y => if y = x then some (.int n t) else kstB (fun z => if stored.contains z then u z else m₀ z) (ps c) y) → News h₀ env.locals h (Led c ++ own) →
      wpAny (model prog w) A (execs body env) (InvPostN h₀ env.locals (KstS Led ps Facts x stored m₀ P (pre ++ [n])) own ((Led c₀).map (·.1)) { s with heap := h, toks := tk } Q) E { s with heap := h, toks := tk })
    (done : ∀ (c : σ) (u : Str → Option Value) h tk, Facts c → P ns c → Fr h₀ env.locals h (fun y => if y = x then u y else kstB (fun z => if stored.contains z then u z else m₀ z) (ps c) y) → News h₀ env.locals h (Led c) → Q .next { s with heap := h, toks := tk }) :
    wpAny (model prog w) A (pyIter (.ref l)) (fun it s₂ => LoopAtV prog w A h₀ env x body Q E it s₂) E s := by
  have hL := (N (l, ot) (.head _))
  have N' : News h₀ env.locals s.heap (Led c₀) := fun p hp => N p (.tail _ (hr ▸ hp))
  have hne : l ≠ s.heap.objs.size := Nat.ne_of_lt (Heap.lt_size hL.1)
  refine wpAny_pyIter_tuple hl ?_
  have W := Walks.tuple (prog := prog) (w := w) hh s.heap.objs.size l hne vs.toArray
  have hlen : vs.toArray.size = ns.length := by simp [hi.length]
  rw [hlen] at W
  refine loop_invN (fun i m nx => KstS Led ps Facts x stored m₀ P (ns.take i) m nx) W ?_ ?_ ?_ ?_ ⟨⟨_, Heap.get?_push_size _ rfl, rfl, rfl⟩, hl.at fun o e => Heap.get?_push_of_some _ e⟩ (F.push _) (fun p hp => ⟨Heap.get?_push_of_some _ (N' p hp).1, (N' p hp).2⟩) ⟨c₀, rfl, hf, hk, fun _ _ _ _ => rfl, by simpa using hp⟩ ?_ ?_
  · intro hm
    rcases List.mem_cons.mp hm with e | hm
    · exact absurd F.ns.lt (e ▸ Nat.lt_irrefl _)
    · exact hL.2.1 (List.mem_singleton.mp hm).symm
  · intro b hb
    rw [List.mem_singleton.mp hb]
    exact next_is_new F
  · intro p hp hI
    exact absurd (Heap.lt_size (N' p hp).1) ((List.mem_singleton.mp hI) ▸ Nat.lt_irrefl _)
  · intro q hq hm
    rcases List.mem_cons.mp hm with e | hm
    · exact absurd (Heap.lt_size (N' q hq).1) (e ▸ Nat.lt_irrefl _)
    · exact hln q hq (List.mem_singleton.mp hm)
  · rintro i v m₁ nx h tk own hi' hP _ hoff ⟨c, rfl, hf', h1, h2, hp'⟩ F₁ N₁
    have hlt : i < ns.length := hi'
    obtain ⟨t, hx⟩ := hi.get i ns[i] (by simp [hlt])
    have hv : v = .int ns[i] t := by
      have hP' : vs.toArray[i]? = some v := hP
      have hx' : vs.toArray[i]? = some (.int ns[i] t) := by simpa using hx
      exact Option.some.inj (hP'.symm.trans hx')
    subst hv
    have hn : ns[i]? = some ns[i] := List.getElem?_eq_getElem hlt
    have hs : ns.take (i + 1) = ns.take i ++ [ns[i]] := by rw [List.take_add_one, hn]; rfl
    have e : ns = ns.take i ++ ns[i] :: ns.drop (i + 1) := by rw [List.getElem_cons_drop, List.take_append_drop]
    rw [hs]
    exact turn c _ _ _ t m₁ h tk own e hoff hf' hp' (kst_fr h1 h2 F₁) N₁
  · rintro m₁ nx h tk ⟨c, rfl, hf', h1, h2, hp'⟩ F₁ N₁
    rw [List.take_length] at hp'
    exact done c m₁ h tk hf' hp' (kst_frOut h1 h2 F₁) N₁
end
theorem ite_str4 {M : Model} {A : Around} {E : Value → Shared → Prop} {s : Shared} {env : Env} {Q : Value → Shared → Prop} {c : Prop} [Decidable c] {a b : Str} {k k' : Nat} {p p' : Pos}
    (ha : a.length = 4) (hb : b.length = 4) (h : ∀ u : Str, u = (if c then a else b) → u.length = 4 → Q (.str u s.toks) { s with toks := s.toks + 1 }) : if c then wpAny M A (eval (.Constant (.str a) k p) env) Q E s else wpAny M A (eval (.Constant (.str b) k' p') env) Q E s := by
  by_cases hc : c
  · rw [if_pos hc] at h ⊢; exact PySem.Calls.Constant_str (h _ rfl ha)
  · rw [if_neg hc] at h ⊢; exact PySem.Calls.Constant_str (h _ rfl hb)
theorem For_T {prog : Program} {w : World} {A : Around} {s : Shared} {env : Env} {h₀ : Heap} {m : Str → Option Value} {E : Value → Shared → Prop} {Q : Flow → Shared → Prop} {x : Str} {px pos : Pos} {iter : PySem.Expr} {body : List Stmt} (_F : Fr h₀ env.locals s.heap m) (hx : env.kindOf x = some .local)
    (hp : (env.scope.kind == .class || (env.scope.kind == .module && env.locals != env.globals)) = false)
    (h : wpAny (model prog w) A (eval iter env) (fun xv s₁ => wpAny (model prog w) A (pyIter xv) (fun it s₂ => LoopAtV prog w A h₀ env x body Q E it s₂) E s₁) E s)
    (hs : ∀ x, foldedSetIterable iter env x = pure x := by intro _; rfl)
    (hE : PassesOwn (model prog w) A env E := by passes_own) :
    wpAny (model prog w) A (exec (.For (.Name x px) iter body [] pos) env) Q E s := For_invV h₀ hx hp h hs hE
section
open LCg
variable {prog : Program} {w : World} {A : Around} {E : Value → Shared → Prop} {s : Shared} {h₀ : Heap} {L : Addr} {m : Str → Option Value} {env : Env}
noncomputable def CVal (h₀ : Heap) (L : Addr) (m : Str → Option Value) (all : List (Addr × Obj)) (G : Value → Prop) (s : Shared) (y : Value) (s' : Shared) : Prop :=
  ∃ h' tk', G y ∧ s' = { s with heap := h', toks := tk' } ∧ Fr h₀ L h' m ∧ News h₀ L h' all
theorem CVal.intro {h₀ h' : Heap} {L : Addr} {m : Str → Option Value} {all : List (Addr × Obj)} {G : Value → Prop} {s : Shared} {y : Value} {tk' : Nat} (hz : G y) (F : Fr h₀ L h' m) (N : News h₀ L h' all) : CVal h₀ L m all G s y { s with heap := h', toks := tk' } :=
  ⟨h', tk', hz, rfl, F, N⟩
theorem compRest_vals {elt : PySem.Expr} {x : Str} {scope : Scope} {cl : List (Str × Addr)} {S : List (Addr × Obj) → Prop} {P : Nat → Value → Prop} {Fin : List Value → List (Addr × Obj) → Prop} {news : List (Addr × Obj)} (f : Nat → Value → Prop) (hS : S news)
    (turn : ∀ (i : Nat) v I oI C oC D ys m₂ h tk (E' : Value → Shared → Prop), P i v → NsObj oC m₂ → m₂ x = some v → Fr h₀ L h m → News h₀ L h ((I, oI) :: (C, oC) :: (D, lst ys) :: news) →
      wpAny (model prog w) A (eval elt (compEnvC scope cl C env)) (CVal h₀ L m ((I, oI) :: (C, oC) :: (D, lst ys) :: news) (f i) s) E' { s with heap := h, toks := tk }) :
    ∀ (k i : Nat) (ys : List Value), (∀ (j : Nat) y, ys[j]? = some y → f j y) → ys.length = i →
      (∀ ys : List Value, (∀ (j : Nat) y, ys[j]? = some y → f j y) → ys.length = i + k → Fin ys news) → CompRest prog w A h₀ L m env elt x scope cl s S P Fin k i ys news
  | 0, i, ys, hf, hl, fin => CompRest.zero (fin ys hf hl)
  | k + 1, i, ys, hf, hl, fin => by
    refine CompRest.succ fun v I oI C oC D m₂ h tk E' hP hC hx F N off ne => ?_
    refine wpAny_mono (turn i v I oI C oC D ys m₂ h tk E' hP hC hx F N) (fun y s' hy => ?_) fun _ _ e => e
    obtain ⟨h', tk', hz, rfl, F', N'⟩ := hy
    refine CompEnd.intro F' N' news (fun p hp => hp) off hS ?_
    refine compRest_vals f hS turn k (i + 1) (ys ++ [y]) (fun j z' hj => ?_) (by rw [List.length_append, hl]; rfl) (fun ys a c => fin ys a (by rw [c, Nat.add_assoc, Nat.add_comm 1 k]))
    by_cases h1 : j < ys.length
    · rw [List.getElem?_append_left h1] at hj; exact hf j z' hj
    · rw [List.getElem?_append_right (Nat.le_of_not_lt h1)] at hj
      have hj0 : j - ys.length = 0 := by
        cases hq : j - ys.length with
        | zero => rfl
        | succ q => rw [hq] at hj; simp at hj
      rw [hj0] at hj
      simp at hj
      have : j = i := by omega
      subst this hj
      exact hz
theorem comp_led {elt : PySem.Expr} {x : Str} {scope : Scope} {cl : List (Str × Addr)} {Fin : Shared → List Value → List (Addr × Obj) → Prop} {ax : Addr} {its : Array Value} {kk : Nat} {news : List (Addr × Obj)} {s₁ : Shared} (f : Nat → Value → Prop)
    (hh : A.handled = none) (F : Fr h₀ L s₁.heap m) (N : News h₀ L s₁.heap news) (hm : (ax, ({ cls := .type "list", data := .seq its kk } : Obj)) ∈ news) (hsz : its.size ≤ 1000)
    (turn : ∀ (i : Nat) v I oI C oC D ys m₂ h tk (E' : Value → Shared → Prop), its[i]? = some v → NsObj oC m₂ → m₂ x = some v → Fr h₀ L h m → News h₀ L h ((I, oI) :: (C, oC) :: (D, lst ys) :: news) →
      wpAny (model prog w) A (eval elt (compEnvC scope cl C env)) (CVal h₀ L m ((I, oI) :: (C, oC) :: (D, lst ys) :: news) (f i) s₁) E' { s₁ with heap := h, toks := tk })
    (fin : ∀ g (ys : List Value), (∀ (j : Nat) y, ys[j]? = some y → f j y) → ys.length = its.size → Fin { s₁ with heap := g } ys news) : CompSrc prog w A h₀ L m env elt x scope cl Fin (.ref ax) s₁ :=
  CompSrc.ledger hh F N hm (Nat.le_trans hsz (by rw [sizeLine_eq]; decide)) fun g => compRest_vals (s := { s₁ with heap := g }) f (Or.inr ⟨_, hm, rfl, _, rfl⟩) turn _ 0 [] (fun j y hj => by simp at hj) rfl fun ys a b => fin g ys a (by rw [b, Nat.zero_add])
end
theorem vals2 {f : Nat → Value → Prop} {ys : List Value} (h : ∀ (j : Nat) y, ys[j]? = some y → f j y) (hl : ys.length = 2) : ∃ y0 y1, ys = [y0, y1] ∧ f 0 y0 ∧ f 1 y1 := by
  obtain ⟨y0, r, rfl⟩ := List.exists_cons_of_length_eq_add_one hl
  obtain ⟨y1, r, rfl⟩ := List.exists_cons_of_length_eq_add_one (Nat.succ.inj hl)
  obtain rfl := List.eq_nil_of_length_eq_zero (Nat.succ.inj (Nat.succ.inj hl))
  exact ⟨y0, y1, rfl, h 0 y0 rfl, h 1 y1 rfl⟩
theorem vals3 {f : Nat → Value → Prop} {ys : List Value} (h : ∀ (j : Nat) y, ys[j]? = some y → f j y) (hl : ys.length = 3) : ∃ y0 y1 y2, ys = [y0, y1, y2] ∧ f 0 y0 ∧ f 1 y1 ∧ f 2 y2 := by
  obtain ⟨y0, r, rfl⟩ := List.exists_cons_of_length_eq_add_one hl
  obtain ⟨y1, r, rfl⟩ := List.exists_cons_of_length_eq_add_one (Nat.succ.inj hl)
  obtain ⟨y2, r, rfl⟩ := List.exists_cons_of_length_eq_add_one (Nat.succ.inj (Nat.succ.inj hl))
  obtain rfl := List.eq_nil_of_length_eq_zero (Nat.succ.inj (Nat.succ.inj (Nat.succ.inj hl)))
  exact ⟨y0, y1, y2, rfl, h 0 y0 rfl, h 1 y1 rfl, h 2 y2 rfl⟩
section
variable {prog : Program} {w : World} {A A₀ : Around} {s : Shared} {K : Frag} {L : Addr} {h₀ base : Heap} {m mg mb : Str → Option Value} {p : Program} {loose : List Str} {mean : ExcName → Option Value}
theorem code_defC0 {env : Env} {outer : List Env} {R : Result → Shared → Prop} {name qual : Str} {params : Arguments} {body : List Stmt} {scope : Scope} {dV kV doc pm cdv ct oc : Value} {an od : Option Addr} {osl : Array (Option Value)} {f : Addr} {args : Args} {binds : List (Str × Value)}
    (hA : A.frames = some (env :: outer))
    (hf : env.frame = some L)
    (hke : env.scope.kind = .function)
    (B : Below A₀ base outer h₀)
    (F : Fr h₀ L s.heap m)
    (X₀ : K.In h₀)
    (T : Top p loose mean mg mb h₀)
    (ho : K.lookup f = some ⟨oc, od, .func (fnOf name qual params body scope dV kV doc pm an cdv ct), osl⟩)
    (hcd : codeIn K cdv qual = true)
    (hroom : A.depth < recursionLimit)
    (hbind : BindsTo s (fnOf name qual params body scope dV kV doc pm an cdv ct) args binds)
    (hkind : (binds.all fun y => scope.names.lookup y.1 == some .local || scope.names.lookup y.1 == some .cell) = true)
    (hnd : ((cellsFrom 0 scope.names []).map (·.1)).Nodup)
    (hco : scope.isCoroutine = false)
    (hgen : scope.isGenerator = false)
    (hk : scope.kind = .function)
    (h : ∀ L' h₁ tk cells, Fr s.heap L' h₁ (bindL (envOfC qual scope L' f cdv).kindOf binds fun _ => none) → News s.heap L' h₁ cells →
      CellsAre (bindC (envOfC qual scope L' f cdv).kindOf binds fun _ => none) (cellsFrom (L' + 1) scope.names []) cells → Below A base (env :: outer) s.heap → K.In s.heap → Top p loose mean mg mb s.heap →
      wpAny (model prog w) (A.deeper (envOfC qual scope L' f cdv)) (execs body (envOfC qual scope L' f cdv))
        (fun fl s' => LeaveK h₀ L m s.heap (fun r s' => (∀ b o, s.heap.get? b = some o → s'.heap.get? b = some o) → R r s') (match fl with | .ret v => v | _ => .none) s')
        (fun e s' => wpAny (model prog w) (A.deeper (envOfC qual scope L' f cdv)) (leaving (envOfC qual scope L' f cdv) e) (fun _ s'' => R (.error e) s'') (fun e' s'' => R (.error e') s'') s')
        { s with heap := h₁, toks := tk }) : codeAny (model prog w) A (.call (.ref f) args) R s := by
  have X := X₀.keeps F.keep
  obtain ⟨FG, BG, st, lv⟩ := groundX (R := fun r s' => (∀ b o, s.heap.get? b = some o → s'.heap.get? b = some o) → R r s') (news := []) (A := A) B F (News.nil) hA hf hke
  refine codeAny_call_function hroom (X _ _ ho) rfl hco hgen rfl (codeRec_of X hcd) (hbind _ _ _ _ ?_)
  refine wpAny_newFunctionEnv_cells hk (kindsX hkind _) fun env' he s' x => ?_
  subst he
  refine ⟨(T.nolimit.keeps F.keep).keeps x.toInCall.keep, codeAny_func ?_⟩
  obtain ⟨h₁, tk, rfl, _⟩ := x.done
  have hk₁ := x.toInCall.keep
  obtain ⟨cells, NC, Y⟩ := PyProof.Rows.Cl.news (h₀ := s.heap) (Nat.le_refl _) fun n c hm => ⟨x.cell n c (lookup_of_mem_nodup (cellsFrom_names scope.names 0 (s.heap.objs.size + 1) [] [] rfl ▸ hnd) hm), x.above n c hm⟩
  refine wpAny_mono (h s.heap.objs.size h₁ tk cells ⟨x.toInCall.ns, hk₁, Nat.le_refl _⟩ NC Y BG X (T.keeps F.keep)) (fun fl s' hl => ?_) fun _ _ y => y
  exact lv _ _ hl (by obtain ⟨_, _, _, F', _, _⟩ := hl; exact F'.keep)
end
theorem news_both {h₀ h : Heap} {L : Addr} {a b : List (Addr × Obj)} (N1 : News h₀ L h a) (N2 : News h₀ L h b) : News h₀ L h (a ++ b) := fun p hp => (List.mem_append.mp hp).elim (N1 p) (N2 p)
section
variable {prog : Program} {w : World} {A : Around} {E : Value → Shared → Prop} {s : Shared} {h₀ : Heap} {L : Addr} {m : Str → Option Value}
theorem item_base {value slice : PySem.Expr} {l : Addr} {vs : List Value} {k : Int} {u : Tok} {x : Value} {Q : Value → Shared → Prop} (hL : h₀.IsList l vs.toArray) (F : Fr h₀ L s.heap m) (h0 : 0 ≤ k) (hfit : k < 2 ^ 63) (hx : vs[k.toNat]? = some x) (h : Q x s)
    (hs : subscripted slice false (.ref l) (.int k u) = operate [.ref l, .int k u] (getItem (.ref l) (.int k u)) := by with_unfolding_all rfl) (hg : ∀ r, letTemporaryGo value (.ref l) r = pure () := by intro _; with_unfolding_all rfl) :
    wpAny (model prog w) A (subscriptTail value slice (.ref l) (.int k u)) Q E s :=
  item_listL (hL.at fun o e => F.keep l o e) h0 hfit hx h hs hg
theorem ne_lists {l b : Addr} {vs ws : List Value} {Q : Value → Shared → Prop} (hl : s.heap.IsList l vs.toArray) (hb : s.heap.IsList b ws.toArray) (hsz : vs.length = ws.length) (hu : A.units < cLine)
    (he : ∀ (j : Nat) x y, vs[j]? = some x → ws[j]? = some y → SeqAt.EqAt A.in1 s x y true) (h : Q (.bool false) s) : wpAny (model prog w) A (compareOp .NotEq (.ref l) (.ref b)) Q E s := by
  refine SeqAt.RcNeAt.lists hl hb (by simpa using hsz) hu (e := fun _ => true) (fun j h1 h2 => he j _ _ (by simp) (by simp)) prog w E Q ?_
  have e : ((List.range vs.toArray.size).all fun _ => true) = true := by simp
  rw [e]; exact h
theorem eqAt_str {B : Around} {x y : Str} {t u : Tok} (e : x = y) : SeqAt.EqAt B s (.str x t) (.str y u) true := fun prog w E Q hq => by
  subst e
  refine eqBool_str ?_
  rw [beq_self_eq_true]; exact hq
theorem eqAt_bytes {B : Around} {x y : Array UInt8} {t u : Tok} (e : x = y) : SeqAt.EqAt B s (.bytes x t) (.bytes y u) true := fun prog w E Q hq => by
  subst e
  refine PySem.W.eqBool_bytes ?_
  rw [decide_eq_true rfl]; exact hq
end
section
variable {prog : Program} {w : World} {A : Around} {E : Value → Shared → Prop} {s : Shared} {h₀ : Heap} {L : Addr} {m : Str → Option Value}
theorem item_int {value slice : PySem.Expr} {l : Addr} {vs : List Value} {ns : List Int} {k : Int} {u : Tok} {Q : Value → Shared → Prop} (hL : h₀.IsList l vs.toArray) (hi : IntsAre vs ns) (F : Fr h₀ L s.heap m) (h0 : 0 ≤ k) (h1 : k < ns.length) (hl : ns.length ≤ 1000) (h : ∀ t, Q (.int (ns.getD k.toNat 0) t) s)
    (hs : subscripted slice false (.ref l) (.int k u) = operate [.ref l, .int k u] (getItem (.ref l) (.int k u)) := by with_unfolding_all rfl) (hg : ∀ r, letTemporaryGo value (.ref l) r = pure () := by intro _; with_unfolding_all rfl) :
    wpAny (model prog w) A (subscriptTail value slice (.ref l) (.int k u)) Q E s := by
  have hk : k.toNat < ns.length := by omega
  obtain ⟨t, ht⟩ := hi.get k.toNat ns[k.toNat] (by simp [hk])
  refine item_base hL F h0 (by omega) ht ?_ hs hg
  have e : ns[k.toNat] = ns.getD k.toNat 0 := by simp [List.getD, hk]
  rw [e]; exact h t
theorem item_strG {value slice : PySem.Expr} {x : Str} {t ui : Tok} {i : Int} {Q : Value → Shared → Prop} (c : Int) (h0 : 0 ≤ i) (h1 : i < c) (hx : (x.length : Int) = c) (hc : c ≤ 1000)
    (h : ∀ u : Str, u = Txt.item x i → u.length ≤ 1 → ∀ t' k, Q (.str u t') { s with toks := k })
    (hs : subscripted slice false (.str x t) (.int i ui) = operate [.str x t, .int i ui] (getItem (.str x t) (.int i ui)) := by with_unfolding_all rfl)
    (ht : ∀ r, letTemporaryGo value (.str x t) r = pure () := by intro _; with_unfolding_all rfl) :
    wpAny (model prog w) A (subscriptTail value slice (.str x t) (.int i ui)) Q E s :=
  tail_of_ItemOn (SB.item (fitsSsize_of (N := 9223372036854775808) (by omega) (by omega) (Int.le_refl _)) (charAt_isSome (by omega) (by omega)) (h _ rfl (Nat.le_of_eq (len_item x i)) _ _)) hs ht
end
section
variable {prog : Program} {w : World} {A : Around} {E : Value → Shared → Prop} {s : Shared} {h₀ : Heap} {L : Addr} {m : Str → Option Value}
theorem item_led {value slice : PySem.Expr} {l : Addr} {news : List (Addr × Obj)} {vs : List Value} {ns : List Int} {k : Int} {u : Tok} {n : Nat} {Q : Value → Shared → Prop} (N : News h₀ L s.heap news) (hm : (l, W.listOf vs.toArray n) ∈ news) (hi : IntsAre vs ns) (h0 : 0 ≤ k) (h1 : k < ns.length) (hl : ns.length ≤ 1000) (h : ∀ t, Q (.int (ns.getD k.toNat 0) t) s)
    (hs : subscripted slice false (.ref l) (.int k u) = operate [.ref l, .int k u] (getItem (.ref l) (.int k u)) := by with_unfolding_all rfl) (hg : ∀ r, letTemporaryGo value (.ref l) r = pure () := by intro _; with_unfolding_all rfl) :
    wpAny (model prog w) A (subscriptTail value slice (.ref l) (.int k u)) Q E s := by
  have hk : k.toNat < ns.length := by omega
  obtain ⟨t, ht⟩ := hi.get k.toNat ns[k.toNat] (by simp [hk])
  refine item_listL (News.isList N hm) h0 (by omega) ht ?_ hs hg
  have e : ns[k.toNat] = ns.getD k.toNat 0 := by simp [List.getD, hk]
  rw [e]; exact h t
end
structure C1 where
  vs : List Value
  ns : List Int
  n : Nat
theorem strs_get : ∀ {vs : List Value} {ss : List Str}, StrsAre vs ss → ∀ {i : Nat}, i < ss.length → ∃ t, vs[i]? = some (.str (ss.getD i ⟨#[]⟩) t)
  | _, _, .cons x t r, 0, _ => ⟨t, rfl⟩
  | _, _, .cons x t r, i + 1, h => strs_get r (Nat.lt_of_succ_lt_succ h)
section
variable {prog : Program} {w : World} {A : Around} {E : Value → Shared → Prop} {s : Shared} {h₀ : Heap} {L : Addr} {m : Str → Option Value}
theorem item_strs {value slice : PySem.Expr} {l : Addr} {vs : List Value} {ss : List Str} {k : Int} {u : Tok} {Q : Value → Shared → Prop} (hL : h₀.IsList l vs.toArray) (hi : StrsAre vs ss) (F : Fr h₀ L s.heap m) (h0 : 0 ≤ k) (h1 : k < ss.length) (hl : ss.length ≤ 1000) (h : ∀ t, Q (.str (ss.getD k.toNat ⟨#[]⟩) t) s)
    (hs : subscripted slice false (.ref l) (.int k u) = operate [.ref l, .int k u] (getItem (.ref l) (.int k u)) := by with_unfolding_all rfl) (hg : ∀ r, letTemporaryGo value (.ref l) r = pure () := by intro _; with_unfolding_all rfl) :
    wpAny (model prog w) A (subscriptTail value slice (.ref l) (.int k u)) Q E s := by
  obtain ⟨t, ht⟩ := strs_get hi (i := k.toNat) (by omega)
  exact item_base hL F h0 (by omega) ht (h t) hs hg
end
theorem wpAny_cint {M : Model} {A : Around} {e : Sem Value} {Q E : Value → Shared → Prop} {s : Shared} {h₀ : Heap} {L : Addr} {m : Str → Option Value} {news : List (Addr × Obj)} (_F : Fr h₀ L s.heap m) (_N : News h₀ L s.heap news) (z : Int) (h1 : wpAny M A e (CInt h₀ L m news (fun y => y = z) s) E s)
    (h2 : ∀ t h' tk', Fr h₀ L h' m → News h₀ L h' news → Q (.int z t) { s with heap := h', toks := tk' }) : wpAny M A e Q E s :=
  wpAny_mono h1 (fun v s' hv => by
    obtain ⟨y, t, h', tk', rfl, rfl, rfl, F, N⟩ := hv
    exact h2 t h' tk' F N) fun _ _ e => e
structure C3 where
  a : C1
  b : C1
  c : C1
abbrev C3.led (c : C3) (l0 l1 l2 : Addr) : List (Addr × Obj) := [(l2, W.listOf c.c.vs.toArray c.c.n), (l1, W.listOf c.b.vs.toArray c.b.n), (l0, W.listOf c.a.vs.toArray c.a.n)]
abbrev C3.facts (c : C3) : Prop := IntsAre c.a.vs c.a.ns ∧ IntsAre c.b.vs c.b.ns ∧ IntsAre c.c.vs c.c.ns
theorem news_four {h₀ h : Heap} {L a b c d : Addr} {o1 o2 o3 o4 : Obj} (_N : News h₀ L h [(a, o1), (b, o2), (c, o3), (d, o4)]) : ∃ e1 e2 e3 e4 : Addr, e1 = a ∧ e2 = b ∧ e3 = c ∧ e4 = d := ⟨_, _, _, _, rfl, rfl, rfl, rfl⟩
theorem size_down (n : Nat) : Builtin.Range.rangeSize ((n : Int) - 1) (-1) (-1) = (n : Int) := by
  unfold Builtin.Range.rangeSize
  simp only [show ¬ ((-1 : Int) > 0) by decide, if_false, Int.neg_neg, Int.ediv_one]
  split <;> omega
theorem small_down {n : Nat} (h : n ≤ 20) : Builtin.Range.small ((n : Int) - 1) (-1) (-1) = true := by
  unfold Builtin.Range.small Builtin.Range.rangeSize
  simp only [Builtin.Range.rangeFitsLong, Bool.and_eq_true, Bool.or_eq_true, decide_eq_true_eq, beq_iff_eq, show ¬ ((-1 : Int) > 0) by decide, if_false, Int.neg_neg, Int.ediv_one]
  split <;> omega
theorem pow2_ne (n : Nat) : (2 : Int) ^ n ≠ 0 := Int.ne_of_gt (Int.pow_pos (by decide))
section
open LCg
variable {prog : Program} {w : World} {A : Around} {E : Value → Shared → Prop} {s : Shared} {h₀ : Heap} {L : Addr} {m : Str → Option Value} {env : Env}
theorem srcS_vals {elt : PySem.Expr} {x : Str} {scope : Scope} {cl : List (Str × Addr)} {Fin : Shared → List Value → List (Addr × Obj) → Prop} {r : Addr} {b : Int} {t u v : Tok} {news : List (Addr × Obj)} {s₁ : Shared} (n : Nat) (f : Nat → Value → Prop)
    (hh : A.handled = none) (F : Fr h₀ L s₁.heap m) (N : News h₀ L s₁.heap news) (hr : IsRange s₁.heap r 0 b 1 t u v) (hb : b = (n : Int)) (hn : n ≤ 100)
    (turn : ∀ (i : Nat) t I oI C oC D ys m₂ h tk (E' : Value → Shared → Prop), i < n → NsObj oC m₂ → m₂ x = some (.int (i : Int) t) → Fr h₀ L h m → News h₀ L h ((I, oI) :: (C, oC) :: (D, lst ys) :: news) →
      wpAny (model prog w) A (eval elt (compEnvC scope cl C env)) (CVal h₀ L m ((I, oI) :: (C, oC) :: (D, lst ys) :: news) (f i) s₁) E' { s₁ with heap := h, toks := tk })
    (fin : ∀ g ys, (∀ (j : Nat) y, ys[j]? = some y → f j y) → ys.length = n → Fin { s₁ with heap := g } ys news) : SrcS prog w A h₀ L m env elt x scope cl Fin (.ref r) s₁ := by
  subst hb
  refine ⟨r, 0, n, 1, t, u, v, n, news, rfl, hh, F, N, hr, rng_small hn, rng_size, by rw [sizeLine_eq]; omega, ?_⟩
  rintro s₂ ⟨g, rfl⟩
  refine compRest_vals (s := { s₁ with heap := g }) f trivial ?_ _ 0 [] (fun j y hj => by simp at hj) rfl fun ys hf hl => fin g ys hf (by omega)
  rintro i v I oI C oC D ys m₂ h tk E' ⟨hi, t, rfl⟩ hC hx F' N'
  exact turn i t I oI C oC D ys m₂ h tk E' hi hC (by rw [hx]; congr 2; omega) F' N'
end
theorem strs_of {f : Nat → Str} : ∀ {ys : List Value} {n : Nat}, (∀ (j : Nat) y, ys[j]? = some y → ∃ t, y = .str (f j) t) → ys.length = n → StrsAre ys ((List.range n).map f)
  | [], _, _, rfl => .nil
  | y :: r, _, h, rfl => by
    obtain ⟨t, rfl⟩ := h 0 y rfl
    rw [List.length_cons, List.range_succ_eq_map, List.map_cons, List.map_map]
    exact .cons _ _ (strs_of (f := f ∘ Nat.succ) (fun j y hj => h (j + 1) y (by simpa using hj)) rfl)
theorem newList_L {prog : Program} {w : World} {A : Around} {E : Value → Shared → Prop} {s : Shared} {h₀ : Heap} {L : Addr} {m : Str → Option Value} {news : List (Addr × Obj)} {vs : List Value} {Q : Value → Shared → Prop} (F : Fr h₀ L s.heap m) (N : News h₀ L s.heap news)
    (h : ∀ l h', Fr h₀ L h' m → News h₀ L h' ((l, W.listOf vs.toArray 0) :: news) → (∀ p ∈ news, p.1 < l) → L < l → Q (.ref l) { s with heap := h' }) (hsz : vs.length ≤ sizeLine) : wpAny (model prog w) A (newList vs) Q E s :=
  newList_N F N (fun h' F' N' => h _ h' F' N' (fun p hp => Heap.lt_size (N p hp).1) F.ns.lt) hsz
theorem lt_base {h₀ h : Heap} {L q : Addr} {news : List (Addr × Obj)} (N : News h₀ L h news) (hq : h.objs.size < q) : ∀ p ∈ news, p.1 < q := fun p hp => Nat.lt_trans (Heap.lt_size (N p hp).1) hq
theorem strs_len : ∀ {vs : List Value} {ss : List Str}, StrsAre vs ss → vs.length = ss.length
  | _, _, .nil => rfl
  | _, _, .cons _ _ r => congrArg Nat.succ (strs_len r)
theorem strs_len2 {vs ws : List Value} {ss : List Str} (h : StrsAre vs ss) (h2 : StrsAre ws ss) : vs.length = ws.length := (strs_len h).trans (strs_len h2).symm
theorem strs_eqAt {A : Around} {s : Shared} {vs ws : List Value} {ss : List Str} (h : StrsAre vs ss) (h2 : StrsAre ws ss) (j : Nat) (x y : Value) (hx : vs[j]? = some x) (hy : ws[j]? = some y) : SeqAt.EqAt A s x y true := by
  have hj : j < ss.length := by
    rw [← strs_len h]
    exact (List.getElem?_eq_some_iff.mp hx).1
  obtain ⟨t, ht⟩ := strs_get h hj
  obtain ⟨u, hu⟩ := strs_get h2 hj
  rw [hx] at ht; rw [hy] at hu
  obtain rfl := Option.some.inj ht
  obtain rfl := Option.some.inj hu
  exact eqAt_str rfl
section
open LCg
variable {prog : Program} {w : World} {A : Around} {E : Value → Shared → Prop} {s : Shared} {h₀ : Heap} {L : Addr} {m : Str → Option Value} {env : Env}
noncomputable def SrcT (prog : Program) (w : World) (A : Around) (h₀ : Heap) (L : Addr) (m : Str → Option Value) (env : Env) (elt : PySem.Expr) (x : Str) (scope : Scope) (cl : List (Str × Addr)) (Fin : Shared → List Value → List (Addr × Obj) → Prop) (xv : Value) (s₁ : Shared) : Prop :=
  ∃ ta its ot k news, xv = .ref ta ∧ A.handled = none ∧ Fr h₀ L s₁.heap m ∧ News h₀ L s₁.heap news ∧ (ta, ot) ∈ news ∧ ot.cls = .type "tuple" ∧ ot.data = .seq its k ∧ its.size ≤ sizeLine ∧
    ∀ s₂ : Shared, (∃ h, s₂ = { s₁ with heap := h }) → CompRest prog w A h₀ L m env elt x scope cl s₂ (fun nw => (ta, ot) ∈ nw) (fun i v => its[i]? = some v) (Fin s₂) its.size 0 [] news
theorem tup_st {ta I : Addr} {its : Array Value} {ot : Obj} {n : Nat} (hc : ot.cls = .type "tuple") (hd : ot.data = .seq its n) : ∀ i (h h' : Heap) (o : Obj) (nw : List (Addr × Obj)), (h.IsTupleIter I ta i ∧ h.IsTuple ta its) → h.get? I = some o → h'.get? I = some o → (∀ b o, h₀.get? b = some o → h'.get? b = some o) → News h₀ L h' nw → (ta, ot) ∈ nw → (h'.IsTupleIter I ta i ∧ h'.IsTuple ta its) :=
  fun i h h' o nw st e e' k N S => ⟨by obtain ⟨o', q, r⟩ := st.1; rw [e] at q; cases q; exact ⟨o, e', r⟩, ⟨ot, (N _ S).1, hc, n, hd⟩⟩
theorem Assign_ListComp_T {elt iter : PySem.Expr} {x y : Str} {px py : Pos} {scope : Scope} {cl : List (Str × Addr)} {pos spos : Pos} {Q : Flow → Shared → Prop} (F₀ : Fr h₀ L s.heap m) (hLe : env.locals = L)
    (hsw : swapsWith (.ListComp elt [⟨.Name x px, iter, [], 0⟩] scope pos) (some (.Name y py)) spos.line env = pure true)
    (hclos : closureFor scope env = pure cl) (hcell : ∀ z ∈ scope.names, z.2 ≠ .cell) (hkind : scope.kind = .function)
    (hnames : ∀ z ∈ scope.names, z.2 = .local → scope.names.lookup z.1 = some .local) (hx : scope.names.lookup x = some .local)
    (hy : env.kindOf y = some .local) (hp : (env.scope.kind == .class || (env.scope.kind == .module && env.locals != env.globals)) = false)
    (h : wpAny (model prog w) A (eval iter env) (SrcT prog w A h₀ L m env elt x scope cl (fun s₂ => FinA h₀ L m s₂ y Q)) E s)
    (hs : ∀ x, foldedSetIterable iter env x = pure x := by intro _; rfl) :
    wpAny (model prog w) A (exec (.Assign [.Name y py] (.ListComp elt [⟨.Name x px, iter, [], 0⟩] scope pos) spos) env) Q E s := by
  subst hLe
  rw [exec_Assign_Name_used _ _ _ _ hsw]
  refine wpAny_bind (wpAny_standAt (wpAny_bind ?_))
  show wpAny _ A (do let _ ← comprehension (.ListComp elt [⟨.Name x px, iter, [], 0⟩] scope pos) scope env _ (newList []) false (eval iter env) (some (assign (.Name y py) env))) _ _ s
  refine wpAny_bind (wpAny_mono (wpAny_comprehension_free (use := some (assign (.Name y py) env)) (Q := fun _ s' => Q .next s') rfl hs hclos hkind hnames
    (wpAny_mono h (fun xv s₁ h₁ => ?_) fun _ _ e => e)) (fun _ s' hq => wpAny_pure (wpAny_pure hq)) fun _ _ e => e)
  obtain ⟨ta, its, ot, k, news, rfl, hh, F, N, hm, hc, hd, hsz, R⟩ := h₁
  have hl : s₁.heap.IsTuple ta its := ⟨ot, (N _ hm).1, hc, k, hd⟩
  have hlt : ta < s₁.heap.objs.size := Heap.lt_size (N _ hm).1
  refine wpAny_pyIter_tuple hl ?_
  have up : ∀ b o, s₁.heap.get? b = some o → (s₁.heap.push { cls := .type "tuple_iterator", data := .fields #[.ref ta, .int 0 0] }).get? b = some o := fun b o e => Heap.get?_push_of_some _ e
  refine block_U (Walks.tuple hh s₁.heap.objs.size ta (Nat.ne_of_lt hlt) its) hsz (fun i h st => by obtain ⟨o, e, _⟩ := st.1; exact ⟨o, e⟩) (tup_st hc hd) hcell hkind hx ⟨⟨_, Heap.get?_push_size _ rfl, rfl, rfl⟩, hl.at fun o e => up _ o e⟩ (fun b hb => ?_)
    (F.keeps up) (N.grown up) (Nat.ne_of_lt F.ns.lt) (next_is_new F) (fun p hp => Nat.ne_of_lt (Heap.lt_size (N p hp).1)) hm (R _ ⟨_, rfl⟩) ?_
  · show b < (s₁.heap.push _).objs.size
    rw [Heap.size_push]
    rcases List.mem_cons.mp hb with rfl | hb
    · exact Nat.lt_succ_self _
    · rw [List.mem_singleton.mp hb]; exact Nat.lt_succ_of_lt hlt
  · intro D C h' tk m' ys news' F' N' o1 hn hC₀ hD₀ hCL hDL hCD offC fin
    show wpAny _ A (assign (.Name y py) env (.ref D)) _ _ _
    refine wpAny_assign_Name (wpAny_storeName_local hy F'.ns (fun h₂ hn₂ hs₂ => ?_) hp)
    have hL₀ : h₀.get? env.locals = none := Heap.get?_none_of_le F'.above
    have F₂ : Fr h₀ env.locals h₂ (fun z => if z = y then some (.ref D) else m z) := ⟨hn₂, fun b o e => hs₂.extBut b o (fun q => by rw [q, hL₀] at e; cases e) (F'.keep b o e), F'.above⟩
    refine ⟨m', hn.sameBut hs₂ hCL, fun h'' hs'' => fin D h'' _ (F₂.change hs'' hCL hC₀) (fun p hp => ?_) o1⟩
    have z : h₂.get? p.1 = some p.2 := hs₂.extBut _ _ (N' p hp).2.1 (N' p hp).1
    refine ⟨hs''.extBut _ _ ?_ z, (N' p hp).2⟩
    rcases List.mem_cons.mp hp with rfl | hp
    · exact Ne.symm hCD
    · exact offC p hp
theorem srcT_led {elt : PySem.Expr} {x : Str} {scope : Scope} {cl : List (Str × Addr)} {Fin : Shared → List Value → List (Addr × Obj) → Prop} {ta : Addr} {ot : Obj} {its : Array Value} {k : Nat} {news : List (Addr × Obj)} {s₁ : Shared} (f : Nat → Value → Prop)
    (hh : A.handled = none) (F : Fr h₀ L s₁.heap m) (N : News h₀ L s₁.heap news) (hm : (ta, ot) ∈ news) (hc : ot.cls = .type "tuple") (hd : ot.data = .seq its k) (hsz : its.size ≤ 1000)
    (turn : ∀ (i : Nat) v I oI C oC D ys m₂ h tk (E' : Value → Shared → Prop), its[i]? = some v → NsObj oC m₂ → m₂ x = some v → Fr h₀ L h m → News h₀ L h ((I, oI) :: (C, oC) :: (D, lst ys) :: news) →
      wpAny (model prog w) A (eval elt (compEnvC scope cl C env)) (CVal h₀ L m ((I, oI) :: (C, oC) :: (D, lst ys) :: news) (f i) s₁) E' { s₁ with heap := h, toks := tk })
    (fin : ∀ g (ys : List Value), (∀ (j : Nat) y, ys[j]? = some y → f j y) → ys.length = its.size → Fin { s₁ with heap := g } ys news) : SrcT prog w A h₀ L m env elt x scope cl Fin (.ref ta) s₁ := by
  refine ⟨ta, its, ot, k, news, rfl, hh, F, N, hm, hc, hd, Nat.le_trans hsz (by rw [sizeLine_eq]; decide), ?_⟩
  rintro s₂ ⟨g, rfl⟩
  exact compRest_vals (s := { s₁ with heap := g }) f hm turn _ 0 [] (fun j y hj => by simp at hj) rfl fun ys a b => fin g ys a (by rw [b, Nat.zero_add])
end
section
variable {prog : Program} {w : World} {A : Around} {E : Value → Shared → Prop} {s : Shared} {env : Env} {h₀ : Heap} {target : PySem.Expr} {body orelse : List Stmt} {Q : Flow → Shared → Prop}
theorem forLoop_tupL {ta : Addr} {ot : Obj} {kk : Nat} {vs : List Value} {m : Str → Option Value} {news : List (Addr × Obj)} (J : List Value → (Str → Option Value) → Prop) (hh : A.handled = none)
    (F : Fr h₀ env.locals s.heap m) (N : News h₀ env.locals s.heap news) (hm : (ta, ot) ∈ news) (hct : ot.cls = .type "tuple") (hdt : ot.data = .seq vs.toArray kk) (hE : PassesOwn (model prog w) A env E) (hj : J vs m)
    (turn : ∀ I v r m₁ (it : Obj) h tk, (∀ p ∈ news, p.1 < I) → J (v :: r) m₁ → it.cls = .type "tuple_iterator" → Fr h₀ env.locals h m₁ → News h₀ env.locals h ((I, it) :: news) →
      wpAny (model prog w) A (assign target env v) (fun _ s₂ => wpAny (model prog w) A (execs body env) (UnrPost h₀ env.locals { s with heap := h, toks := tk } I it (fun m' n' => n' = news ∧ J r m') Q) E s₂) E { s with heap := h, toks := tk })
    (zero : ∀ m₁ h tk, J [] m₁ → Fr h₀ env.locals h m₁ → News h₀ env.locals h news → wpAny (model prog w) A (execs orelse env) Q E { s with heap := h, toks := tk }) :
    wpAny (model prog w) A (pyIter (.ref ta)) (fun it s₂ => codeAny (model prog w) A (.forLoop target it body orelse env) (fun r s' => match r with | .ok f => Q f s' | .error e => cameBackBy (model prog w) A env E e s') s₂) E s := by
  have hts : s.heap.IsTuple ta vs.toArray := ⟨ot, (N _ hm).1, hct, kk, hdt⟩
  refine wpAny_pyIter_tuple hts ?_
  have hI0 := next_is_new F
  have hLI : env.locals ≠ s.heap.objs.size := Nat.ne_of_lt F.ns.lt
  have off : ∀ p ∈ news, p.1 < s.heap.objs.size := fun p hp => Heap.lt_size (N p hp).1
  have hnI : ∀ p ∈ news, p.1 ≠ s.heap.objs.size := fun p hp => Nat.ne_of_lt (off p hp)
  generalize hI : s.heap.objs.size = I at *
  have step : ∀ (h h₁ : Heap) (m₁ : Str → Option Value), (∀ b o, b ≠ I → h.get? b = some o → h₁.get? b = some o) → Fr h₀ env.locals h m₁ → News h₀ env.locals h news → Fr h₀ env.locals h₁ m₁ ∧ News h₀ env.locals h₁ news := by
    intro h h₁ m₁ hk F₁ N₁
    refine ⟨⟨F₁.ns.at' fun o e => hk _ o hLI e, fun b o e => hk b o (fun q => ?_) (F₁.keep b o e), F₁.above⟩, fun p hp => ⟨hk _ _ (hnI p hp) (N₁ p hp).1, (N₁ p hp).2⟩⟩
    rw [q, hI0] at e; cases e
  refine codeAny_forLoop_any (fun k s' => ∃ i h tk m₁, s' = { s with heap := h, toks := tk } ∧ h.IsTupleIter I ta i ∧ Fr h₀ env.locals h m₁ ∧ News h₀ env.locals h news ∧ J (vs.drop i) m₁ ∧ i ≤ vs.length ∧ k = vs.length + 1 - i) ?_ (vs.length + 1)
    ⟨0, _, _, m, rfl, ⟨_, hI ▸ Heap.get?_push_size _ rfl, rfl, rfl⟩, F.push _, fun p hp => ⟨Heap.get?_push_of_some _ (N p hp).1, (N p hp).2⟩, hj, Nat.zero_le _, rfl⟩
  rintro k s' ⟨i, h, tk, m₁, rfl, hit, F₁, N₁, hj₁, hi, rfl⟩
  have ht₁ : h.IsTuple ta vs.toArray := ⟨ot, (N₁ _ hm).1, hct, kk, hdt⟩
  by_cases hlt : i < vs.length
  · refine wpAny_pyNext_tuple_item hit ht₁ (x := vs[i]) (by simp [hlt]) fun h₁ hit₁ hs₁ => ?_
    obtain ⟨F₂, N₂⟩ := step h h₁ m₁ (fun b o hb e => hs₁.extBut b o hb e) F₁ N₁
    refine letGo_tupleiter hit₁ ?_
    rw [List.drop_eq_getElem_cons hlt] at hj₁
    obtain ⟨o, ho, hc, hd⟩ := hit₁
    have N₃ : News h₀ env.locals h₁ ((I, o) :: news) := fun p hp => by
      rcases List.mem_cons.mp hp with rfl | hp
      · exact ⟨ho, Ne.symm hLI, hI0⟩
      · exact N₂ p hp
    refine wpAny_mono (wpAny_passesOwn hE (turn I _ _ m₁ o h₁ tk off hj₁ hc F₂ N₃)) (fun _ s₂ h₂ => wpAny_mono (wpAny_passesOwn hE h₂) (fun f s₃ h₃ => ?_) fun _ _ e => e) fun _ _ e => e
    have fin : UnrEnd h₀ env.locals { s with heap := h₁, toks := tk } I o (fun m' n' => n' = news ∧ J (vs.drop (i + 1)) m') s₃ → _ := fun ⟨h', tk', m', news', e, F', N', ho', e2, r⟩ =>
      show ∃ m, m < vs.length + 1 - i ∧ ∃ i h tk m₁, s₃ = { s with heap := h, toks := tk } ∧ h.IsTupleIter I ta i ∧ Fr h₀ env.locals h m₁ ∧ News h₀ env.locals h news ∧ J (vs.drop i) m₁ ∧ i ≤ vs.length ∧ m = vs.length + 1 - i from
      ⟨vs.length + 1 - (i + 1), by omega, i + 1, h', tk', m', e, ⟨o, (N' _ (.head _)).1, hc, hd⟩, F', fun p hp => N' p (.tail _ (e2 ▸ hp)), r, hlt, rfl⟩
    cases f with
    | ret v => exact h₃
    | brk => exact h₃
    | next => exact fin h₃
    | cont => exact fin h₃
  · have hin : i = vs.length := by omega
    subst hin
    refine wpAny_pyNext_tuple_end hh hit ht₁ (by simp) fun h₁ he₁ => ?_
    obtain ⟨F₂, N₂⟩ := step h h₁ m₁ (fun b o hb e => he₁ b o hb e) F₁ N₁
    rw [List.drop_length] at hj₁
    exact wpAny_passesOwn hE (zero m₁ h₁ tk hj₁ F₂ N₂)
theorem For_ev {iter : PySem.Expr} {pos : Pos}
    (h : wpAny (model prog w) A (eval iter env) (fun xv s₁ => wpAny (model prog w) A (pyIter xv) (fun it s₂ => codeAny (model prog w) A (.forLoop target it body orelse env) (fun r s' => match r with | .ok f => Q f s' | .error e => cameBackBy (model prog w) A env E e s') s₂) E s₁) E s)
    (hs : ∀ x, foldedSetIterable iter env x = pure x) : wpAny (model prog w) A (exec (.For target iter body orelse pos) env) Q E s := wpAny_For h hs
end
section
open LCg
variable {prog : Program} {w : World} {A : Around} {E : Value → Shared → Prop} {s : Shared} {h₀ : Heap} {L : Addr} {m : Str → Option Value} {env : Env}
theorem comp_ints {elt : PySem.Expr} {x : Str} {scope : Scope} {cl : List (Str × Addr)} {Fin : Shared → List Value → List (Addr × Obj) → Prop} {ax : Addr} {vs : List Value} {zs : List Int} {kk : Nat} {news : List (Addr × Obj)} {s₁ : Shared} (g : Int → Int)
    (hh : A.handled = none) (F : Fr h₀ L s₁.heap m) (N : News h₀ L s₁.heap news) (hm : (ax, W.listOf vs.toArray kk) ∈ news) (hi : IntsAre vs zs) (hsz : zs.length ≤ 1000)
    (turn : ∀ z t I oI C oC D ys m₂ h tk (E' : Value → Shared → Prop), z ∈ zs → NsObj oC m₂ → m₂ x = some (.int z t) → Fr h₀ L h m → News h₀ L h ((I, oI) :: (C, oC) :: (D, lst ys) :: news) →
      wpAny (model prog w) A (eval elt (compEnvC scope cl C env)) (CInt h₀ L m ((I, oI) :: (C, oC) :: (D, lst ys) :: news) (fun y => y = g z) s₁) E' { s₁ with heap := h, toks := tk })
    (fin : ∀ gh (ys : List Value), IntsAre ys (zs.map g) → Fin { s₁ with heap := gh } ys news) : CompSrc prog w A h₀ L m env elt x scope cl Fin (.ref ax) s₁ := by
  have hl : vs.toArray.size = zs.length := by rw [List.size_toArray, hi.length]
  refine CompSrc.ledger hh F N hm (by rw [hl]; exact Nat.le_trans hsz (by rw [sizeLine_eq]; decide)) fun gh => ?_
  refine compRest_ints (s := { s₁ with heap := gh }) (fun i z => ∃ y, zs[i]? = some y ∧ z = g y) (Or.inr ⟨_, hm, rfl, _, rfl⟩) ?_ _ 0 [] [] IntsAre.nil (fun j z hj => by simp at hj) rfl fun ys ns hy hf hn => ?_
  · intro i v I oI C oC D ys m₂ h tk E' hP hC hx F' N'
    have hP' : vs[i]? = some v := by simpa using hP
    have hil : i < zs.length := by
      rw [← hi.length]; exact (List.getElem?_eq_some_iff.mp hP').1
    obtain ⟨t, ht⟩ := hi.get i zs[i] (by simp [hil])
    rw [hP'] at ht
    obtain rfl := Option.some.inj ht
    refine wpAny_mono (turn zs[i] t I oI C oC D ys m₂ h tk E' (List.getElem_mem hil) hC hx F' N') (fun y s' hy => ?_) fun _ _ e => e
    obtain ⟨z, t', h', tk', e1, e2, e3, F2, N2⟩ := hy
    exact ⟨z, t', h', tk', e1, ⟨zs[i], by simp [hil], e2⟩, e3, F2, N2⟩
  · have e : ns = zs.map g := by
      apply List.ext_getElem?
      intro j
      rw [hl, Nat.zero_add] at hn
      by_cases hj : j < zs.length
      · obtain ⟨z, hz⟩ : ∃ z, ns[j]? = some z := ⟨ns[j]'(by omega), List.getElem?_eq_getElem (by omega)⟩
        obtain ⟨y, hy, rfl⟩ := hf j z hz
        rw [hz, List.getElem?_map, hy]; rfl
      · rw [List.getElem?_eq_none (by omega), List.getElem?_eq_none (by simp; omega)]
    exact fin gh ys (e ▸ hy)
end
theorem one_name {m₁ : Str → Option Value} {a : Str} {va : Value} (ha : m₁ a = some va) : m₁ = fun z => if z = a then some va else m₁ z := by
  funext z
  by_cases h1 : z = a
  · rw [if_pos h1, h1, ha]
  · rw [if_neg h1]
theorem bytes3_eqAt {A : Around} {s : Shared} {b : Nat → Array UInt8} {vs ws : List Value} (h : ∀ (j : Nat) x, vs[j]? = some x → ∃ t, x = .bytes (b j) t) (h2 : ∀ (j : Nat) x, ws[j]? = some x → ∃ t, x = .bytes (b j) t) (j : Nat) (x y : Value) (hx : vs[j]? = some x) (hy : ws[j]? = some y) : SeqAt.EqAt A s x y true := by
  obtain ⟨t, rfl⟩ := h j x hx
  obtain ⟨u, rfl⟩ := h2 j y hy
  exact eqAt_bytes rfl
theorem news_five {h₀ h : Heap} {L a b c d e : Addr} {o1 o2 o3 o4 o5 : Obj} {r : List (Addr × Obj)} (_N : News h₀ L h ((a, o1) :: (b, o2) :: (c, o3) :: (d, o4) :: (e, o5) :: r)) : ∃ e1 e2 e3 e4 e5 : Addr, e1 = a ∧ e2 = b ∧ e3 = c ∧ e4 = d ∧ e5 = e := ⟨_, _, _, _, _, rfl, rfl, rfl, rfl, rfl⟩
theorem law_enter2 {M : Model} {A : Around} {E : Value → Shared → Prop} {env : Env} {body : List Stmt} {Q : Flow → Shared → Prop} {s : Shared} {h₀ : Heap} {L : Addr} {m : Str → Option Value} (_F : Fr h₀ L s.heap m) (hp : PassesOwn M A env E)
    (hret : ∀ (m' : Str → Option Value) (news' : List (Addr × Obj)) (h : Heap) (tk : Nat), Fr h₀ L h m' → News h₀ L h news' → Q (.ret (.bool true)) { s with heap := h, toks := tk })
    (h : ∀ (qk : Flow → Shared → Prop) (ek : Value → Shared → Prop), PassesOwn M A env ek → (∀ (m' : Str → Option Value) (news' : List (Addr × Obj)) (h : Heap) (tk : Nat), Fr h₀ L h m' → News h₀ L h news' → qk (.ret (.bool true)) { s with heap := h, toks := tk }) → wpAny M A (execs body env) qk ek s) : wpAny M A (execs body env) Q E s := h Q E hp hret
theorem tb_mod (x i : Nat) : x / 2 ^ i % 2 = if x.testBit i then 1 else 0 := by
  rw [Nat.testBit_eq_decide_div_mod_eq]
  by_cases h : x / 2 ^ i % 2 = 1
  · simp [h]
  · simp [h]; omega
theorem and_bit (x y i : Nat) : (x &&& y) / 2 ^ i % 2 = (x / 2 ^ i % 2) * (y / 2 ^ i % 2) := by
  rw [tb_mod, tb_mod, tb_mod, Nat.testBit_and]
  cases x.testBit i <;> cases y.testBit i <;> rfl
theorem shl_bit (y s i : Nat) : (y * 2 ^ s) / 2 ^ i % 2 = if i < s then 0 else y / 2 ^ (i - s) % 2 := by
  rw [tb_mod, Nat.testBit_mul_two_pow, tb_mod]
  by_cases h : i < s
  · rw [if_pos h]; simp [Nat.not_le.mpr h]
  · rw [if_neg h]; simp [Nat.not_lt.mp h]
theorem bitAnd_nat (x y : Nat) : Builtin.bitAnd (x : Int) (y : Int) = ((x &&& y : Nat) : Int) := by
  rw [bitAnd_pp (Int.natCast_nonneg x) (Int.natCast_nonneg y)]; rfl
theorem bitOf_nat (x n : Nat) : bitOf (x : Int) n = ((x / 2 ^ n % 2 : Nat) : Int) := by
  unfold bitOf
  rw [bitAnd_m1, Int.fdiv_eq_ediv_of_nonneg _ (Int.pow_nonneg (by decide))]
  push_cast
  rfl
noncomputable def chW (p c : Nat) : Nat := if p = 1 then c else 45
noncomputable def chX (q p a b c : Nat) : Nat := if p = 1 ∧ q = 1 then a else if q = 1 then b else if p = 1 then c else 45
theorem and_hi (x m s : Nat) : x &&& (m * 2 ^ s) = (x / 2 ^ s &&& m) * 2 ^ s := by
  apply Nat.eq_of_testBit_eq
  intro i
  rw [Nat.testBit_and, Nat.testBit_mul_two_pow, Nat.testBit_mul_two_pow, Nat.testBit_and, Nat.testBit_div_two_pow]
  by_cases h : s ≤ i
  · simp [h, Nat.sub_add_cancel h]
  · simp [h]
theorem and_one (x n : Nat) : x &&& 2 ^ n = x / 2 ^ n % 2 * 2 ^ n := by
  have := and_hi x 1 n
  rw [Nat.one_mul] at this
  rw [this, Nat.and_one_is_mod]
theorem link_preN (m b : Nat) (h : b < 4096) (hm : m < 16) : (m * 4096 + b) &&& 61440 = m * 4096 := by
  have := and_hi (m * 4096 + b) 15 12
  rw [show 15 * 2 ^ 12 = 61440 from rfl, show (m * 4096 + b) / 2 ^ 12 = m by omega] at this
  rw [this]
  have k : ∀ i : Fin 16, i.val &&& 15 = i.val := by decide
  rw [k ⟨m, hm⟩]
theorem s_l : Str.ofString "l" = ⟨#[108]⟩ := by decide +kernel
theorem s_r : Str.ofString "r" = ⟨#[114]⟩ := by decide +kernel
theorem s_w : Str.ofString "w" = ⟨#[119]⟩ := by decide +kernel
theorem s_x : Str.ofString "x" = ⟨#[120]⟩ := by decide +kernel
theorem s_s : Str.ofString "s" = ⟨#[115]⟩ := by decide +kernel
theorem s_S : Str.ofString "S" = ⟨#[83]⟩ := by decide +kernel
theorem s_t : Str.ofString "t" = ⟨#[116]⟩ := by decide +kernel
theorem s_T : Str.ofString "T" = ⟨#[84]⟩ := by decide +kernel
theorem s_d : Str.ofString "-" = ⟨#[45]⟩ := by decide +kernel
theorem fm1_ch {x n c : Nat} {k : Int} {t : String} (hk : k = ((2 ^ n : Nat) : Int)) (ht : Str.ofString t = ⟨#[c]⟩) : fm1 (x : Int) k t = ⟨#[chW (x / 2 ^ n % 2) c]⟩ := by
  subst hk
  unfold fm1 chW
  rw [bitAnd_nat, and_one, ht, s_d]
  have hp : 0 < 2 ^ n := Nat.two_pow_pos n
  rcases (by omega : x / 2 ^ n % 2 = 0 ∨ x / 2 ^ n % 2 = 1) with h | h
  · rw [h, if_neg (fun e => by have e2 := Int.natCast_inj.mp e; rw [Nat.zero_mul] at e2; omega), if_neg (by decide)]
  · rw [h, if_pos (by simp), if_pos rfl]
theorem and_two (x a b : Nat) : (x &&& (2 ^ a ||| 2 ^ b) = (2 ^ a ||| 2 ^ b)) ↔ (x / 2 ^ a % 2 = 1 ∧ x / 2 ^ b % 2 = 1) := by
  rw [tb_mod, tb_mod]
  constructor
  · intro e
    have ea := congrArg (fun z => z.testBit a) e
    have eb := congrArg (fun z => z.testBit b) e
    simp [Nat.testBit_and, Nat.testBit_or, Nat.testBit_two_pow_self] at ea eb
    simp [ea, eb]
  · intro ⟨ha, hb⟩
    apply Nat.eq_of_testBit_eq
    intro i
    rw [Nat.testBit_and, Nat.testBit_or]
    by_cases h1 : a = i
    · subst h1
      cases hx : x.testBit a
      · rw [hx] at ha; simp at ha
      · simp
    · by_cases h2 : b = i
      · subst h2
        cases hx : x.testBit b
        · rw [hx] at hb; simp at hb
        · simp
      · rw [Nat.testBit_two_pow_of_ne h1, Nat.testBit_two_pow_of_ne h2]; simp
theorem fm3_ch {x p q c1 c2 c3 : Nat} {k1 k2 k3 : Int} {t1 t2 t3 : String} (hk1 : k1 = (((2 ^ p ||| 2 ^ q) : Nat) : Int)) (hk2 : k2 = ((2 ^ q : Nat) : Int)) (hk3 : k3 = ((2 ^ p : Nat) : Int))
    (ht1 : Str.ofString t1 = ⟨#[c1]⟩) (ht2 : Str.ofString t2 = ⟨#[c2]⟩) (ht3 : Str.ofString t3 = ⟨#[c3]⟩) : fm3 (x : Int) k1 t1 k2 t2 k3 t3 = ⟨#[chX (x / 2 ^ q % 2) (x / 2 ^ p % 2) c1 c2 c3]⟩ := by
  subst hk1 hk2 hk3
  unfold fm3 chX
  rw [bitAnd_nat, bitAnd_nat, bitAnd_nat, and_one, and_one, ht1, ht2, ht3, s_d]
  have hp := Nat.two_pow_pos p
  have hq := Nat.two_pow_pos q
  have h2 := and_two x p q
  have ep : ((x / 2 ^ p % 2 * 2 ^ p : Nat) : Int) = ((2 ^ p : Nat) : Int) ↔ x / 2 ^ p % 2 = 1 := by
    rw [Int.natCast_inj]
    rcases (by omega : x / 2 ^ p % 2 = 0 ∨ x / 2 ^ p % 2 = 1) with h | h <;> rw [h] <;> simp
    omega
  have eq : ((x / 2 ^ q % 2 * 2 ^ q : Nat) : Int) = ((2 ^ q : Nat) : Int) ↔ x / 2 ^ q % 2 = 1 := by
    rw [Int.natCast_inj]
    rcases (by omega : x / 2 ^ q % 2 = 0 ∨ x / 2 ^ q % 2 = 1) with h | h <;> rw [h] <;> simp
    omega
  have e2 : (((x &&& (2 ^ p ||| 2 ^ q) : Nat) : Int) = (((2 ^ p ||| 2 ^ q) : Nat) : Int)) ↔ (x / 2 ^ p % 2 = 1 ∧ x / 2 ^ q % 2 = 1) := by rw [Int.natCast_inj, h2]
  simp only [e2, ep, eq]
  split
  · rfl
  · split
    · rfl
    · split <;> rfl
/-- the nine signs of a row of twelve rights -/
noncomputable def lch (B : Nat) : List Nat := [chW (B / 2 ^ 8 % 2) 114, chW (B / 2 ^ 7 % 2) 119, chX (B / 2 ^ 11 % 2) (B / 2 ^ 6 % 2) 115 83 120, chW (B / 2 ^ 5 % 2) 114, chW (B / 2 ^ 4 % 2) 119, chX (B / 2 ^ 10 % 2) (B / 2 ^ 3 % 2) 115 83 120, chW (B / 2 ^ 2 % 2) 114, chW (B / 2 ^ 1 % 2) 119, chX (B / 2 ^ 9 % 2) (B / 2 ^ 0 % 2) 116 84 120]
theorem join10 (c a1 a2 a3 a4 a5 a6 a7 a8 a9 : Nat) : Txt.join (Str.ofString "") [⟨#[c]⟩, ⟨#[a1]⟩, ⟨#[a2]⟩, ⟨#[a3]⟩, ⟨#[a4]⟩, ⟨#[a5]⟩, ⟨#[a6]⟩, ⟨#[a7]⟩, ⟨#[a8]⟩, ⟨#[a9]⟩] = ⟨#[c, a1, a2, a3, a4, a5, a6, a7, a8, a9]⟩ := by
  have e : Str.ofString "" = ⟨#[]⟩ := by decide +kernel
  rw [e]
  rfl
theorem hi_bits (m B n : Nat) (hn : n < 12) : (m * 4096 + B) / 2 ^ n % 2 = B / 2 ^ n % 2 := by
  have e : m * 4096 = 2 ^ n * (2 * (m * 2 ^ (11 - n))) := by
    rw [show 2 ^ n * (2 * (m * 2 ^ (11 - n))) = m * (2 ^ n * 2 ^ (11 - n) * 2) by rw [Nat.mul_left_comm 2 m, Nat.mul_left_comm (2 ^ n) m, Nat.mul_comm 2, Nat.mul_assoc]]
    rw [← Nat.pow_add, show n + (11 - n) = 11 by omega]
  rw [e, Nat.mul_add_div (Nat.two_pow_pos n), Nat.mul_add_mod]
theorem fmC_ch (c m B : Nat) : Txt.join (Str.ofString "") (fmC ⟨#[c]⟩ (((m * 4096 + B : Nat)) : Int)) = ⟨(c :: lch B).toArray⟩ := by
  unfold fmC
  rw [fm1_ch (k := 256) (n := 8) (by decide) s_r, fm1_ch (k := 128) (n := 7) (by decide) s_w, fm3_ch (k1 := 2112) (k2 := 2048) (k3 := 64) (p := 6) (q := 11) (by decide) (by decide) (by decide) s_s s_S s_x, fm1_ch (k := 32) (n := 5) (by decide) s_r, fm1_ch (k := 16) (n := 4) (by decide) s_w, fm3_ch (k1 := 1032) (k2 := 1024) (k3 := 8) (p := 3) (q := 10) (by decide) (by decide) (by decide) s_s s_S s_x,
    fm1_ch (k := 4) (n := 2) (by decide) s_r, fm1_ch (k := 2) (n := 1) (by decide) s_w, fm3_ch (k1 := 513) (k2 := 512) (k3 := 1) (p := 0) (q := 9) (by decide) (by decide) (by decide) s_t s_T s_x, join10]
  simp only [hi_bits, show 8 < 12 by decide, show 7 < 12 by decide, show 11 < 12 by decide, show 6 < 12 by decide, show 5 < 12 by decide, show 4 < 12 by decide, show 10 < 12 by decide, show 3 < 12 by decide, show 2 < 12 by decide, show 1 < 12 by decide, show 9 < 12 by decide, show 0 < 12 by decide, lch]
theorem fdiv_nat (x n : Nat) : (x : Int).fdiv (2 ^ n) = ((x / 2 ^ n : Nat) : Int) := by
  rw [Int.fdiv_eq_ediv_of_nonneg _ (Int.pow_nonneg (by decide))]
  push_cast
  rfl
theorem item4 (a b c d : Nat) (q p : Nat) (hq : q < 2) (hp : p < 2) (tab : String) (ht : Str.ofString tab = ⟨#[a, b, c, d]⟩) : Txt.item (Str.ofString tab) (2 * (q : Int) + (p : Int)) = ⟨#[if p = 1 ∧ q = 1 then d else if q = 1 then c else if p = 1 then b else a]⟩ := by
  rw [ht]
  rcases (by omega : p = 0 ∨ p = 1) with rfl | rfl <;> rcases (by omega : q = 0 ∨ q = 1) with rfl | rfl <;> rfl
theorem lsC_ch {B k a3 a2 : Nat} {kk : Int} {tab : String} (hk : kk = (k : Int)) (ht : Str.ofString tab = ⟨#[45, 120, a2, a3]⟩) :
    lsC (B : Int) kk tab = ⟨#[chW (B / 2 ^ (3 * k + 2) % 2) 114, chW (B / 2 ^ (3 * k + 1) % 2) 119, chX (B / 2 ^ (9 + k) % 2) (B / 2 ^ (3 * k) % 2) a3 a2 120]⟩ := by
  subst hk
  unfold lsC
  rw [show (3 * (k : Int)).toNat = 3 * k by omega, show (9 + (k : Int)).toNat = 9 + k by omega, fdiv_nat, fdiv_nat]
  have e4 : Builtin.bitAnd ((B / 2 ^ (3 * k) : Nat) : Int) 4 = ((B / 2 ^ (3 * k + 2) % 2 * 4 : Nat) : Int) := by
    show Builtin.bitAnd _ ((4 : Nat) : Int) = _
    rw [bitAnd_nat, show (4 : Nat) = 2 ^ 2 from rfl, and_one, Nat.div_div_eq_div_mul, ← Nat.pow_add]
  have e2 : Builtin.bitAnd ((B / 2 ^ (3 * k) : Nat) : Int) 2 = ((B / 2 ^ (3 * k + 1) % 2 * 2 : Nat) : Int) := by
    show Builtin.bitAnd _ ((2 : Nat) : Int) = _
    rw [bitAnd_nat, show (2 : Nat) = 2 ^ 1 from rfl, and_one, Nat.div_div_eq_div_mul, ← Nat.pow_add]
  have e1 : ∀ z : Nat, Builtin.bitAnd (z : Int) 1 = ((z % 2 : Nat) : Int) := by
    intro z
    rw [bitAnd_m1]
    rfl
  rw [e4, e2, e1, e1, item4 _ _ _ _ _ _ (Nat.mod_lt _ (by decide)) (Nat.mod_lt _ (by decide)) tab ht, s_r, s_w, s_d]
  unfold chW chX
  rcases (by omega : B / 2 ^ (3 * k + 2) % 2 = 0 ∨ B / 2 ^ (3 * k + 2) % 2 = 1) with h | h <;> rcases (by omega : B / 2 ^ (3 * k + 1) % 2 = 0 ∨ B / 2 ^ (3 * k + 1) % 2 = 1) with h' | h' <;> rw [h, h'] <;> rfl
theorem lsS_ch (c B : Nat) : lsS ⟨#[c]⟩ (B : Int) = ⟨(c :: lch B).toArray⟩ := by
  unfold lsS
  rw [lsC_ch (kk := 2) (k := 2) rfl (show Str.ofString "-xSs" = ⟨#[45, 120, 83, 115]⟩ by decide +kernel), lsC_ch (kk := 1) (k := 1) rfl (show Str.ofString "-xSs" = ⟨#[45, 120, 83, 115]⟩ by decide +kernel), lsC_ch (kk := 0) (k := 0) rfl (show Str.ofString "-xTt" = ⟨#[45, 120, 84, 116]⟩ by decide +kernel)]
  rfl
theorem bne_self_no {l : List UInt8} : ¬ ((l != l) = true) := by simp
theorem sne_self_no {l : Str} : ¬ ((l != l) = true) := by simp
noncomputable def wordA (n : Nat) : Array UInt8 := (List.replicate ((20 : Int) - ((ap n).toArray.size : Int)).toNat [(65 : UInt8)]).flatten.toArray ++ (ap n).toArray
noncomputable def octsG (n : Nat) (N : Int) : List Int := (List.range n).map fun i : Nat => (N.fdiv (256 ^ ((n : Int) - 1 - (i : Int)).toNat)).fmod 256
theorem octsG_in (n : Nat) (N : Int) : KBa.In (octsG n N) := by
  intro z hz
  obtain ⟨i, _, rfl⟩ := List.mem_map.mp hz
  exact ⟨Int.fmod_nonneg_of_pos _ (by decide), Int.fmod_lt_of_pos _ (by decide)⟩
theorem octsG_len (n : Nat) (N : Int) : (octsG n N).length = n := by simp [octsG]
theorem p256_room {x : Int} {n i : Nat} (h : n ≤ 15) : Builtin.divisionGoesByPylong x (256 ^ ((n : Int) - 1 - (i : Int)).toNat) = false := by
  refine PyProof.noPylong_of_log2 ?_
  rw [Int.natAbs_pow]
  have h1 : (256 : Nat) ^ ((n : Int) - 1 - (i : Int)).toNat ≤ 256 ^ 15 := Nat.pow_le_pow_right (by decide) (by omega)
  have h2 : (256 : Nat) ^ ((n : Int) - 1 - (i : Int)).toNat ≠ 0 := Nat.pos_iff_ne_zero.mp (Nat.pow_pos (by decide))
  have h3 : ((256 : Nat) ^ ((n : Int) - 1 - (i : Int)).toNat).log2 < 121 := (Nat.log2_lt h2).mpr (Nat.lt_of_le_of_lt h1 (by decide))
  show ((256 : Nat) ^ ((n : Int) - 1 - (i : Int)).toNat).log2 < 9000
  omega
noncomputable def gb (ns : List Int) (k : Int) : Int := ns.getD k.toNat 0
theorem gb_rng {ns : List Int} (h : ∀ z ∈ ns, 0 ≤ z ∧ z ≤ 1) (j : Nat) : 0 ≤ ns.getD j 0 ∧ ns.getD j 0 < 2 := by
  by_cases hj : j < ns.length
  · have := h ns[j] (List.getElem_mem hj)
    rw [List.getD_eq_getElem?_getD, List.getElem?_eq_getElem hj]
    exact ⟨this.1, by simp only [Option.getD_some]; omega⟩
  · rw [List.getD_eq_getElem?_getD, List.getElem?_eq_none (by omega)]
    exact ⟨Int.le_refl 0, by decide⟩
theorem gb2_rng {a b : Int} (ha : 0 ≤ a ∧ a < 2) (hb : 0 ≤ b ∧ b < 2) : 0 ≤ 2 * a + b ∧ 2 * a + b < 4 := by omega
noncomputable def lbT (ns : List Int) (t : Str) (k : Int) : Str :=
  t ++ (Txt.item (Str.ofString "-r") (ns.getD (3 * k + 2).toNat 0) ++ Txt.item (Str.ofString "-w") (ns.getD (3 * k + 1).toNat 0)) ++
    Txt.item (if (k != 0) = true then Str.ofString "-xSs" else Str.ofString "-xTt") (2 * ns.getD (9 + k).toNat 0 + ns.getD (3 * k).toNat 0)
noncomputable def lbP (ns : List Int) (l : List Int) : Str := l.foldl (lbT ns) (Str.ofString "-")
noncomputable def lbS (ns : List Int) : Str := lbP ns [2, 1, 0]
theorem lbP_app (ns l : List Int) (k : Int) : lbP ns (l ++ [k]) = lbT ns (lbP ns l) k := by simp [lbP]
noncomputable def cr (a b : Int) : Nat → Int
  | 0 => 0
  | k + 1 => if Builtin.bitAnd (a.fdiv (2 ^ k)) 1 + Builtin.bitAnd (b.fdiv (2 ^ k)) 1 + cr a b k > 1 then 1 else 0
noncomputable def crL (a b : Int) (n : Nat) : List Int := (List.range n).map (cr a b)
theorem crL_len (a b : Int) (n : Nat) : (crL a b n).length = n := by simp [crL]
theorem crL_app (a b : Int) (n : Nat) : crL a b (n + 1) = crL a b n ++ [cr a b n] := by simp [crL, List.range_succ]
theorem crL_get (a b : Int) {n k : Nat} (h : k < n) : (crL a b n).getD k 0 = cr a b k := by simp [crL, List.getD, h]
theorem cr_rng (a b : Int) : ∀ k, 0 ≤ cr a b k ∧ cr a b k ≤ 1
  | 0 => ⟨Int.le_refl 0, (show (0 : Int) ≤ 1 by decide)⟩
  | k + 1 => by simp only [cr]; split <;> exact ⟨by decide, by decide⟩
theorem cr_t {a b k x : Int} {n : Nat} (hk : k = 0 + (n : Int)) (h : 1 < Builtin.bitAnd (a.fdiv (2 ^ k.toNat)) 1 + Builtin.bitAnd (b.fdiv (2 ^ k.toNat)) 1 + x) (hx : x = cr a b n) : 1 = cr a b (n + 1) := by
  have e : k.toNat = n := by omega
  rw [e, hx] at h
  simp only [cr]; rw [if_pos h]
theorem cr_f {a b k x : Int} {n : Nat} (hk : k = 0 + (n : Int)) (h : ¬ 1 < Builtin.bitAnd (a.fdiv (2 ^ k.toNat)) 1 + Builtin.bitAnd (b.fdiv (2 ^ k.toNat)) 1 + x) (hx : x = cr a b n) : 0 = cr a b (n + 1) := by
  have e : k.toNat = n := by omega
  rw [e, hx] at h
  simp only [cr]; rw [if_neg h]
noncomputable def ix (q : Int) : Int := if q = 0 then 9 else if q = 4 then 5 else if q = 6 then 3 else 1
theorem ix_rng (q : Int) : 0 ≤ ix q ∧ ix q < 10 := by unfold ix; split; decide; split; decide; split <;> decide
noncomputable def toldOf (ss : List Str) (p : Int) : Int := if (Builtin.Str.occurrences (Str.ofString "rwxst") (Txt.item (ss.getD (p.fdiv 12).toNat ⟨#[]⟩) (ix (p.fmod 12))) 0 (Str.ofString "rwxst").length 1).isEmpty = true then 0 else 1
theorem getD_len {ss : List Str} (h : ∀ x ∈ ss, x.length = 10) {i : Nat} (hi : i < ss.length) : ((ss.getD i ⟨#[]⟩).length : Int) = 10 := by
  rw [List.getD_eq_getElem?_getD, List.getElem?_eq_getElem hi]
  exact congrArg Nat.cast (h _ (List.getElem_mem hi))
theorem told_t {ss : List Str} {p : Int} {u : Str} (h : (Builtin.Str.occurrences (Str.ofString "rwxst") u 0 (Str.ofString "rwxst").length 1).isEmpty = true) (e : u = Txt.item (ss.getD (p.fdiv 12).toNat ⟨#[]⟩) (ix (p.fmod 12))) : 0 = toldOf ss p := by
  unfold toldOf; rw [← e, if_pos h]
theorem told_f {ss : List Str} {p : Int} {u : Str} (h : (Builtin.Str.occurrences (Str.ofString "rwxst") u 0 (Str.ofString "rwxst").length 1).isEmpty = false) (e : u = Txt.item (ss.getD (p.fdiv 12).toNat ⟨#[]⟩) (ix (p.fmod 12))) : 1 = toldOf ss p := by
  unfold toldOf; rw [← e, h]; rfl
structure ColOk (W : Int) (n : Nat) : Prop where
  w0 : 0 < W
  w1 : W ≤ 6
  n1 : n ≤ 20
  pl : ∀ k : Int, 0 ≤ k → k < n → 0 ≤ W * k ∧ W * k < 84 ∧ ((W * k).fmod 12 = 0 ∨ (W * k).fmod 12 = 4 ∨ (W * k).fmod 12 = 6 ∨ (W * k).fmod 12 = 8)
theorem colOk4 : ColOk 4 20 := ⟨by decide, by decide, by decide, fun k h0 h1 => by rw [Int.fmod_eq_emod_of_nonneg _ (by decide)]; omega⟩
theorem colOk6 : ColOk 6 12 := ⟨by decide, by decide, by decide, fun k h0 h1 => by rw [Int.fmod_eq_emod_of_nonneg _ (by decide)]; omega⟩
noncomputable def fig (x W k : Int) : Int := (x.fdiv (2 ^ (W * k).toNat)).fmod (2 ^ W.toNat)
noncomputable def figS (ss : List Str) (x y W k : Int) : Int := (fig x W k + fig y W k + toldOf ss (W * k)).fmod (2 ^ W.toNat)
noncomputable def downs (n : Nat) : List Int := downKs ((n : Int) - 1) n
noncomputable def colF (x W : Int) (n : Nat) : List Int := (downs n).map (fig x W)
noncomputable def colS (ss : List Str) (x y W : Int) (n : Nat) : List Int := (downs n).map (figS ss x y W)
noncomputable def slc (a b : Int) (i : Nat) : List Int := ((crL a b 84).drop (12 * i)).take 12
noncomputable def xr (a b : Int) : Int := Builtin.bitXor (Builtin.bitXor (a + b) a) b
theorem slc_bit (a b : Int) (i : Nat) : ∀ z ∈ slc a b i, 0 ≤ z ∧ z ≤ 1 := by
  intro z hz
  have h1 := List.mem_of_mem_drop (List.mem_of_mem_take hz)
  obtain ⟨k, _, rfl⟩ := List.mem_map.mp h1
  exact cr_rng a b k
theorem slc_len (a b : Int) {i : Nat} (hi : i < 7) : (slc a b i).length = 12 := by
  simp only [slc, List.length_take, List.length_drop, crL_len]; omega
theorem slc_are {vs : List Value} {a b : Int} {i : Nat} (h : IntsAre vs (crL a b 84)) (hi : i < 7) : IntsAre (slicePick vs.toArray (some (12 * (i : Int))) (some (12 * (i : Int) + 12)) none).toList (slc a b i) := by
  have := kmk_run h (x := 12 * (i : Int)) (y := 12 * (i : Int) + 12) (by omega) (by omega)
  have e1 : (12 * (i : Int)).toNat = 12 * i := by omega
  have e2 : min (12 * (i : Int) + 12).toNat (crL a b 84).length - (12 * (i : Int)).toNat = 12 := by rw [crL_len]; omega
  rw [e2, e1] at this
  exact this
theorem slc_sz {vs : List Value} {a b : Int} (h : IntsAre vs (crL a b 84)) : vs.toArray.size ≤ sizeLine := by
  rw [List.size_toArray, h.length, crL_len, sizeLine_eq]; decide
noncomputable def txtB (z : Int) : Array UInt8 := byteArr (encB ((byteArr (octsG 9 z)).size / 3 * 4) (v256 (KBw.bInts (byteArr (octsG 9 z)))).toNat)
theorem oct9_pre (z : Int) : (byteArr (octsG 9 z)).size ≤ 100 ∧ (byteArr (octsG 9 z)).size % 3 = 0 := by
  rw [byteArr_size, octsG_len]; decide
noncomputable def sgI (z : Int) : Int := sg z.toNat
theorem sgI_in (zs : List Int) : KBa.In (zs.map sgI) := by
  intro z hz
  obtain ⟨i, _, rfl⟩ := List.mem_map.mp hz
  exact sg_in _
noncomputable def LS (a b : Int) : List Str := (List.range 7).map fun j => lbS (slc a b j)
noncomputable def zz (a b wd : Int) (n : Nat) (j : Nat) : List Int := if j = 0 then colF a wd n else if j = 1 then colF b wd n else colS (LS a b) a b wd n
structure TurnOk (news : List (Addr × Obj)) (a b wd : Int) (n : Nat) (tl : Addr) (to : Obj) (ws : List Value) (k : Nat) : Prop where
  mem : (tl, to) ∈ news
  cls : to.cls = .type "list"
  dat : to.data = .seq ws.toArray k
  len : ws.length = 3
  ok : ColOk wd n
  eq : ∀ (j : Nat) x, ws[j]? = some x → ∃ t, x = .bytes (byteArr ((zz a b wd n j).map sgI)) t
theorem fmod_rng {x m : Int} (h : 0 < m) : 0 ≤ x.fmod m ∧ x.fmod m < m := ⟨Int.fmod_nonneg_of_pos _ h, Int.fmod_lt_of_pos _ h⟩
theorem pow2w {wd : Int} (h1 : wd ≤ 6) : (0 : Int) < 2 ^ wd.toNat ∧ (2 : Int) ^ wd.toNat ≤ 64 := by
  refine ⟨Int.pow_pos (by decide), ?_⟩
  have h : wd.toNat ≤ 6 := by omega
  have : ∀ k : Nat, k ≤ 6 → (2 : Int) ^ k ≤ 64 := by decide
  exact this _ h
theorem zz_rng {a b wd : Int} {n : Nat} (h1 : wd ≤ 6) (j : Nat) : ∀ z ∈ zz a b wd n j, 0 ≤ z ∧ z < 64 := by
  intro z hz
  have hp := pow2w h1
  have key : ∀ x : Int, 0 ≤ x.fmod (2 ^ wd.toNat) ∧ x.fmod (2 ^ wd.toNat) < 64 := fun x => ⟨(fmod_rng hp.1).1, Int.lt_of_lt_of_le (fmod_rng hp.1).2 hp.2⟩
  unfold zz at hz
  split at hz
  · obtain ⟨k, _, rfl⟩ := List.mem_map.mp hz; exact key _
  · split at hz
    · obtain ⟨k, _, rfl⟩ := List.mem_map.mp hz; exact key _
    · obtain ⟨k, _, rfl⟩ := List.mem_map.mp hz; exact key _
theorem downs_len (n : Nat) : (downs n).length = n := by simp [downs, downKs]
theorem zz_len (a b wd : Int) (n j : Nat) : (zz a b wd n j).length = n := by
  unfold zz
  split
  · simp [colF, downs_len]
  · split
    · simp [colF, downs_len]
    · simp [colS, downs_len]
theorem LS_len (a b : Int) : (LS a b).length = 7 := by simp [LS]
noncomputable def Mid3 (h₀ : Heap) (L : Addr) (m₁ : Str → Option Value) (all news : List (Addr × Obj)) (a b : Int) (s s₂ : Shared) : Prop :=
  ∃ (wd : Int) (n : Nat) (tl : Addr) (to : Obj) (ws : List Value) (k : Nat) (t1 t2 : Tok) (h' : Heap) (tk' : Nat), s₂ = { s with heap := h', toks := tk' } ∧
    Fr h₀ L h' (fun y => if y = Str.ofString "there" then some (.ref tl) else if y = Str.ofString "size" then some (.int (n : Int) t1) else if y = Str.ofString "wide" then some (.int wd t2) else m₁ y) ∧ News h₀ L h' all ∧ TurnOk news a b wd n tl to ws k
theorem Mid3.intro {h₀ h' : Heap} {L : Addr} {m₁ : Str → Option Value} {all news : List (Addr × Obj)} {a b : Int} {s : Shared} {wd : Int} {n : Nat} {tl : Addr} {to : Obj} {ws : List Value} {k : Nat} {t1 t2 : Tok} {tk' : Nat}
    (F : Fr h₀ L h' (fun y => if y = Str.ofString "there" then some (.ref tl) else if y = Str.ofString "size" then some (.int (n : Int) t1) else if y = Str.ofString "wide" then some (.int wd t2) else m₁ y)) (N : News h₀ L h' all)
    (T : TurnOk news a b wd n tl to ws k) : Mid3 h₀ L m₁ all news a b s { s with heap := h', toks := tk' } := ⟨wd, n, tl, to, ws, k, t1, t2, h', tk', rfl, F, N, T⟩
theorem turn_mid {M : Model} {A : Around} {α : Type} {e : Sem α} {E : Value → Shared → Prop} {Q : Shared → Prop} {s : Shared} {h₀ : Heap} {L I : Addr} {it : Obj} {m₁ : Str → Option Value} {news : List (Addr × Obj)} (a b : Int) (_F : Fr h₀ L s.heap m₁) (_N : News h₀ L s.heap ((I, it) :: news))
    (h1 : wpAny M A e (fun _ s₂ => Mid3 h₀ L m₁ ((I, it) :: news) news a b s s₂) E s)
    (h2 : ∀ wd n tl to ws k t1 t2 h' tk', Fr h₀ L h' (fun y => if y = Str.ofString "there" then some (.ref tl) else if y = Str.ofString "size" then some (.int ((n : Nat) : Int) t1) else if y = Str.ofString "wide" then some (.int wd t2) else m₁ y) →
      News h₀ L h' ((I, it) :: news) → TurnOk news a b wd n tl to ws k → Q { s with heap := h', toks := tk' }) : wpAny M A e (fun _ s₂ => Q s₂) E s :=
  wpAny_mono h1 (fun _ s₂ ⟨wd, n, tl, to, ws, k, t1, t2, h', tk', e, F, N, T⟩ => by subst e; exact h2 wd n tl to ws k t1 t2 h' tk' F N T) fun _ _ e => e
theorem rows_in {l0 l1 l2 : Addr} {c : C3} {a b wd : Int} {n : Nat} (hf : c.facts) (i0 : c.a.ns = colF a wd n) (i1 : c.b.ns = colF b wd n) (i2 : c.c.ns = colS (LS a b) a b wd n) {i : Nat} {v : Value}
    (h : (#[Value.ref l0, .ref l1, .ref l2] : Array Value)[i]? = some v) : ∃ l vs k, v = .ref l ∧ (∀ r : List (Addr × Obj), (l, W.listOf vs.toArray k) ∈ (l2, W.listOf c.c.vs.toArray c.c.n) :: (l1, W.listOf c.b.vs.toArray c.b.n) :: (l0, W.listOf c.a.vs.toArray c.a.n) :: r) ∧ IntsAre vs (zz a b wd n i) := by
  obtain ⟨f0, f1, f2⟩ := hf
  rcases i with _ | _ | _ | i
  · exact ⟨l0, _, _, by simpa using h.symm, fun r => (.tail _ (.tail _ (.head _))), by rw [i0] at f0; exact f0⟩
  · exact ⟨l1, _, _, by simpa using h.symm, fun r => (.tail _ (.head _)), by rw [i1] at f1; exact f1⟩
  · exact ⟨l2, _, _, by simpa using h.symm, fun r => (.head _), by rw [i2] at f2; exact f2⟩
  · simp at h
theorem item_B64I {prog : Program} {w : World} {A : Around} {E : Value → Shared → Prop} {s : Shared} {value slice : PySem.Expr} {t : Tok} {i : Int} {ui : Tok} {Q : Value → Shared → Prop} (h0 : 0 ≤ i ∧ i < 64) (h : ∀ t' k, Q (.int (sgI i) t') { s with toks := k })
    (hs : subscripted slice false (.bytes b64arr t) (.int i ui) = operate [.bytes b64arr t, .int i ui] (getItem (.bytes b64arr t) (.int i ui)) := by with_unfolding_all rfl)
    (ht : ∀ r, letTemporaryGo value (.bytes b64arr t) r = pure () := by intro _; with_unfolding_all rfl) :
    wpAny (model prog w) A (subscriptTail value slice (.bytes b64arr t) (.int i ui)) Q E s := item_B64 h0.1 h0.2 h hs ht
noncomputable def W64 (n : Nat) : Int := v64 (KBw.bInts (wordA n))
noncomputable def moreOf (a b : Int) : Int := W64 (a + b).natAbs - W64 a.natAbs - W64 (-b).natAbs
noncomputable def rowL (a b : Int) : List Int := (List.range 20).map fun i : Nat => 65 + toldOf (LS a b) (80 - 4 * (i : Int))
theorem told_rng (ss : List Str) (p : Int) : 0 ≤ toldOf ss p ∧ toldOf ss p ≤ 1 := by
  unfold toldOf; split <;> decide
theorem rowL_in (a b : Int) : KBa.In (rowL a b) := by
  intro z hz
  obtain ⟨i, _, rfl⟩ := List.mem_map.mp hz
  have := told_rng (LS a b) (80 - 4 * (i : Int))
  omega
theorem rowL_len (a b : Int) : (rowL a b).length = 20 := by simp [rowL]
theorem pl80 {i : Nat} (hi : i < 20) : 0 ≤ 80 - 4 * (i : Int) ∧ 80 - 4 * (i : Int) < 84 ∧ ((80 - 4 * (i : Int)).fmod 12 = 0 ∨ (80 - 4 * (i : Int)).fmod 12 = 4 ∨ (80 - 4 * (i : Int)).fmod 12 = 6 ∨ (80 - 4 * (i : Int)).fmod 12 = 8) := by
  rw [Int.fmod_eq_emod_of_nonneg _ (by decide)]; omega
theorem oct15_pre (z : Int) : (byteArr (octsG 15 z)).size ≤ 100 ∧ (byteArr (octsG 15 z)).size % 3 = 0 := by
  rw [byteArr_size, octsG_len]; decide
theorem wordA_pre {n : Nat} (h : n < 16 ^ 20) : (wordA n).size ≤ 100 ∧ (wordA n).size % 4 = 0 ∧ ∀ k ∈ KBw.bInts (wordA n), 65 ≤ k ∧ k ≤ 90 :=
  word_pre (n := n) (m := 20) rfl (ap_size h) (by decide) (by decide) (i := 20) rfl
theorem ns_sz {vs : List Value} {ns : List Int} (h : IntsAre vs ns) (hn : ns.length ≤ 63) : vs.toArray.size ≤ sizeLine := by
  rw [List.size_toArray, h.length, sizeLine_eq]; omega
noncomputable def nums (ns : List Int) : List Int := [1392698745077602120327, 840958496520573270249] ++ (ns.take (2 : Int).toNat).map fun z => z.fmod (2 ^ (71 : Int).toNat)
theorem nums_len (ns : List Int) : 2 ≤ (nums ns).length ∧ (nums ns).length ≤ 4 := by
  have : (2 : Int).toNat = 2 := rfl
  simp only [nums, List.length_append, List.length_cons, List.length_nil, List.length_map, List.length_take]; omega
theorem nums_sz (ns : List Int) : ([1392698745077602120327, 840958496520573270249] : List Int).length + ((ns.take (2 : Int).toNat).map fun z : Int => z.fmod (2 ^ (71 : Int).toNat)).length ≤ sizeLine := by
  have : (2 : Int).toNat = 2 := rfl
  rw [sizeLine_eq]
  simp only [List.length_cons, List.length_nil, List.length_map, List.length_take]; omega
theorem nums_all (ns : List Int) : ∀ z ∈ nums ns, 0 ≤ z ∧ z < 2 ^ 71 := by
  intro z hz
  rcases List.mem_append.mp hz with h | h
  · simp only [List.mem_cons, List.not_mem_nil, or_false] at h
    rcases h with rfl | rfl <;> decide
  · obtain ⟨y, _, rfl⟩ := List.mem_map.mp h
    exact fmod_rng (by decide)
theorem nums_rng (ns : List Int) (j : Nat) : 0 ≤ (nums ns).getD j 0 ∧ (nums ns).getD j 0 < 2 ^ 71 := by
  by_cases hj : j < (nums ns).length
  · rw [List.getD_eq_getElem?_getD, List.getElem?_eq_getElem hj]
    exact nums_all ns _ (List.getElem_mem hj)
  · rw [List.getD_eq_getElem?_getD, List.getElem?_eq_none (by omega)]
    decide
theorem nums_eq (ns : List Int) : 1 + 1 + ((ns.take (2 : Int).toNat).map fun z : Int => z.fmod (2 ^ (71 : Int).toNat)).length = (nums ns).length := by
  simp only [nums, List.length_append, List.length_cons, List.length_nil]
theorem size_1n {x : Nat} (h : 2 ≤ x) : Builtin.Range.rangeSize 1 (x : Int) 1 = ((x - 1 : Nat) : Int) := by
  unfold Builtin.Range.rangeSize
  simp only [show ((1 : Int) > 0) by decide, if_true, Int.ediv_one]
  split <;> omega
theorem small_1n {x : Nat} (h : x ≤ 4) : Builtin.Range.small 1 (x : Int) 1 = true := by
  exact small_one (by omega) (by omega) (by omega) (by omega)
theorem plain_pre {b : Int} (h : 0 ≤ b ∧ b < 4096) : Builtin.bitAnd (32768 + b) 61440 = 32768 := by
  obtain ⟨B, rfl⟩ := Int.eq_ofNat_of_zero_le h.1
  have e : (32768 + (B : Int)) = ((8 * 4096 + B : Nat) : Int) := by omega
  rw [e]
  show Builtin.bitAnd _ ((61440 : Nat) : Int) = _
  rw [bitAnd_nat, link_preN 8 B (by omega) (by decide)]
  rfl
noncomputable def lbch (p : Nat → Nat) : List Nat := [chW (p 8) 114, chW (p 7) 119, chX (p 11) (p 6) 115 83 120, chW (p 5) 114, chW (p 4) 119, chX (p 10) (p 3) 115 83 120, chW (p 2) 114, chW (p 1) 119, chX (p 9) (p 0) 116 84 120]
theorem itm2 {c p : Nat} {tab : String} (hp : p < 2) (ht : Str.ofString tab = ⟨#[45, c]⟩) : Txt.item (Str.ofString tab) (p : Int) = ⟨#[chW p c]⟩ := by
  rw [ht]
  rcases (by omega : p = 0 ∨ p = 1) with rfl | rfl <;> rfl
theorem itm4 {a b q p : Nat} {tab : String} (hq : q < 2) (hp : p < 2) (ht : Str.ofString tab = ⟨#[45, 120, b, a]⟩) : Txt.item (Str.ofString tab) (2 * (q : Int) + (p : Int)) = ⟨#[chX q p a b 120]⟩ := by
  rw [ht]
  rcases (by omega : p = 0 ∨ p = 1) with rfl | rfl <;> rcases (by omega : q = 0 ∨ q = 1) with rfl | rfl <;> rfl
theorem s_mr : Str.ofString "-r" = ⟨#[45, 114]⟩ := by decide +kernel
theorem s_mw : Str.ofString "-w" = ⟨#[45, 119]⟩ := by decide +kernel
theorem s_xS : Str.ofString "-xSs" = ⟨#[45, 120, 83, 115]⟩ := by decide +kernel
theorem s_xT : Str.ofString "-xTt" = ⟨#[45, 120, 84, 116]⟩ := by decide +kernel
theorem lbT_ch {ns : List Int} {p : Nat → Nat} (hp : ∀ j, p j < 2) (hn : ∀ j, ns.getD j 0 = (p j : Int)) (t : Str) (k : Nat) {a b : Nat} {kk : Int} (hk : kk = (k : Int)) {tab : String} (ht : (if (kk != 0) = true then Str.ofString "-xSs" else Str.ofString "-xTt") = Str.ofString tab) (hs : Str.ofString tab = ⟨#[45, 120, b, a]⟩) :
    lbT ns t kk = t ++ (⟨#[chW (p (3 * k + 2)) 114]⟩ ++ ⟨#[chW (p (3 * k + 1)) 119]⟩) ++ ⟨#[chX (p (9 + k)) (p (3 * k)) a b 120]⟩ := by
  subst hk
  unfold lbT
  rw [ht, show (3 * (k : Int) + 2).toNat = 3 * k + 2 by omega, show (3 * (k : Int) + 1).toNat = 3 * k + 1 by omega, show (9 + (k : Int)).toNat = 9 + k by omega, show (3 * (k : Int)).toNat = 3 * k by omega, hn, hn, hn, hn, itm2 (hp _) s_mr, itm2 (hp _) s_mw, itm4 (hp _) (hp _) hs]
theorem lbS_ch {ns : List Int} {p : Nat → Nat} (hp : ∀ j, p j < 2) (hn : ∀ j, ns.getD j 0 = (p j : Int)) : lbS ns = ⟨(45 :: lbch p).toArray⟩ := by
  show lbT ns (lbT ns (lbT ns (Str.ofString "-") 2) 1) 0 = _
  rw [lbT_ch (kk := 2) hp hn _ 2 rfl (if_pos (by decide)) s_xS, lbT_ch (kk := 1) hp hn _ 1 rfl (if_pos (by decide)) s_xS, lbT_ch (kk := 0) hp hn _ 0 rfl (if_neg (by decide)) s_xT, s_d]
  rfl
noncomputable def cN (A B k : Nat) : Nat := (A % 2 ^ k + B % 2 ^ k) / 2 ^ k
theorem cN_le (A B k : Nat) : cN A B k ≤ 1 := by
  unfold cN
  have h := Nat.two_pow_pos k
  have h1 := Nat.mod_lt A h
  have h2 := Nat.mod_lt B h
  have : (A % 2 ^ k + B % 2 ^ k) / 2 ^ k < 2 := (Nat.div_lt_iff_lt_mul h).mpr (by omega)
  omega
theorem cN_step (A B k : Nat) : cN A B (k + 1) = (A / 2 ^ k % 2 + B / 2 ^ k % 2 + cN A B k) / 2 := by
  unfold cN
  rw [Nat.mod_pow_succ, Nat.mod_pow_succ, Nat.pow_succ, ← Nat.div_div_eq_div_mul]
  have e : A % 2 ^ k + 2 ^ k * (A / 2 ^ k % 2) + (B % 2 ^ k + 2 ^ k * (B / 2 ^ k % 2)) = (A % 2 ^ k + B % 2 ^ k) + 2 ^ k * (A / 2 ^ k % 2 + B / 2 ^ k % 2) := by rw [Nat.mul_add]; omega
  rw [e, Nat.add_mul_div_left _ _ (Nat.two_pow_pos k), Nat.add_comm]
theorem cr_nat (A B : Nat) : ∀ k, cr (A : Int) (B : Int) k = (cN A B k : Int)
  | 0 => by
    show (0 : Int) = _
    unfold cN
    rw [Nat.pow_zero, Nat.mod_one, Nat.mod_one]
    rfl
  | k + 1 => by
    show (if bitOf (A : Int) k + bitOf (B : Int) k + cr (A : Int) (B : Int) k > 1 then (1 : Int) else 0) = _
    rw [cr_nat A B k, bitOf_nat, bitOf_nat, cN_step]
    have h1 := cN_le A B k
    generalize cN A B k = c at *
    have h2 := Nat.mod_lt (A / 2 ^ k) (show 0 < 2 by decide)
    have h3 := Nat.mod_lt (B / 2 ^ k) (show 0 < 2 by decide)
    generalize A / 2 ^ k % 2 = x at *
    generalize B / 2 ^ k % 2 = y at *
    split <;> omega
theorem sum_div (A B k : Nat) : (A + B) / 2 ^ k = A / 2 ^ k + B / 2 ^ k + cN A B k := by
  unfold cN
  have hA := Nat.div_add_mod A (2 ^ k)
  have hB := Nat.div_add_mod B (2 ^ k)
  have e : A + B = (A % 2 ^ k + B % 2 ^ k) + 2 ^ k * (A / 2 ^ k + B / 2 ^ k) := by rw [Nat.mul_add]; omega
  rw [e, Nat.add_mul_div_left _ _ (Nat.two_pow_pos k)]
  exact Nat.add_comm _ _
theorem xor_half (x y : Int) : Builtin.bitXor x y / 2 = Builtin.bitXor (x / 2) (y / 2) ∧ Builtin.bitXor x y % 2 = (x % 2 + y % 2) % 2 := by
  rw [bitXor_and, bitXor_and, kbt_halves x y]
  generalize Builtin.bitAnd (x / 2) (y / 2) = g
  split <;> omega
theorem xor_bit : ∀ (k : Nat) (x y : Int), Builtin.bitXor x y / 2 ^ k % 2 = (x / 2 ^ k % 2 + y / 2 ^ k % 2) % 2
  | 0, x, y => by
    simp only [Int.pow_zero, Int.ediv_one]
    exact (xor_half x y).2
  | k + 1, x, y => by
    have e : ∀ z : Int, z / 2 ^ (k + 1) = z / 2 / 2 ^ k := fun z => by rw [Int.pow_succ']; exact (Int.ediv_ediv_of_nonneg (by decide)).symm
    rw [e, e, e, (xor_half x y).1, xor_bit k]
theorem nat_bit (A k : Nat) : (A : Int) / 2 ^ k % 2 = ((A / 2 ^ k % 2 : Nat) : Int) := by
  push_cast
  rfl
theorem xr_bit (A B k : Nat) : xr (A : Int) (B : Int) / 2 ^ k % 2 = (cN A B k : Int) := by
  unfold xr
  rw [xor_bit, xor_bit, show (A : Int) + (B : Int) = ((A + B : Nat) : Int) by omega, nat_bit, nat_bit, nat_bit, sum_div]
  have h1 := cN_le A B k
  generalize cN A B k = c at *
  generalize A / 2 ^ k = x
  generalize B / 2 ^ k = y
  omega
theorem ediv_pow (z : Int) (a b : Nat) : z / 2 ^ a / 2 ^ b = z / 2 ^ (a + b) := by
  rw [Int.pow_add]
  exact Int.ediv_ediv_of_nonneg (Int.pow_nonneg (by decide))
theorem low_bit (Y : Int) {j : Nat} (hj : j < 12) : Y % 4096 / 2 ^ j % 2 = Y / 2 ^ j % 2 := by
  have h : j = 0 ∨ j = 1 ∨ j = 2 ∨ j = 3 ∨ j = 4 ∨ j = 5 ∨ j = 6 ∨ j = 7 ∨ j = 8 ∨ j = 9 ∨ j = 10 ∨ j = 11 := by omega
  rcases h with rfl | rfl | rfl | rfl | rfl | rfl | rfl | rfl | rfl | rfl | rfl | rfl <;> omega
theorem slc_get {a b : Int} {i j : Nat} (hi : i < 7) (hj : j < 12) : (slc a b i).getD j 0 = cr a b (12 * i + j) := by
  have h : (slc a b i)[j]? = (crL a b 84)[12 * i + j]? := by
    unfold slc
    rw [List.getElem?_take_of_lt hj, List.getElem?_drop]
  rw [List.getD_eq_getElem?_getD, h, ← List.getD_eq_getElem?_getD, crL_get a b (by omega)]
theorem slc_out {a b : Int} {i j : Nat} (hi : i < 7) (hj : ¬ j < 12) : (slc a b i).getD j 0 = 0 := by
  rw [List.getD_eq_getElem?_getD, List.getElem?_eq_none (by rw [slc_len a b hi]; omega)]
  rfl
noncomputable def pN (A B i : Nat) (j : Nat) : Nat := if j < 12 then cN A B (12 * i + j) else 0
theorem pN_lt (A B i j : Nat) : pN A B i j < 2 := by
  unfold pN
  have := cN_le A B (12 * i + j)
  split <;> omega
theorem slc_pN (A B : Nat) {i : Nat} (hi : i < 7) (j : Nat) : (slc (A : Int) (B : Int) i).getD j 0 = (pN A B i j : Int) := by
  unfold pN
  by_cases hj : j < 12
  · rw [slc_get hi hj, cr_nat, if_pos hj]
  · rw [slc_out hi hj, if_neg hj]; rfl
theorem lbS_slc (A B : Nat) {i : Nat} (hi : i < 7) : lbS (slc (A : Int) (B : Int) i) = ⟨(45 :: lbch (pN A B i)).toArray⟩ := lbS_ch (pN_lt A B i) (slc_pN A B hi)
theorem xrow (A B i : Nat) : ∃ Bi : Nat, Builtin.bitAnd ((xr (A : Int) (B : Int)).fdiv (2 ^ (12 * (i : Int)).toNat)) 4095 = (Bi : Int) ∧ ∀ j, j < 12 → Bi / 2 ^ j % 2 = pN A B i j := by
  have e0 : (12 * (i : Int)).toNat = 12 * i := by omega
  rw [e0, bitAnd_m12, Int.fdiv_eq_ediv_of_nonneg _ (Int.pow_nonneg (by decide))]
  have hz : 0 ≤ xr (A : Int) (B : Int) / 2 ^ (12 * i) % 4096 := Int.emod_nonneg _ (by decide)
  refine ⟨(xr (A : Int) (B : Int) / 2 ^ (12 * i) % 4096).toNat, (Int.toNat_of_nonneg hz).symm, fun j hj => ?_⟩
  unfold pN
  rw [if_pos hj]
  refine Int.natCast_inj.mp ?_
  rw [← xr_bit A B (12 * i + j), ← nat_bit, Int.toNat_of_nonneg hz, low_bit _ hj, ediv_pow]
theorem fm_lb {a b : Int} (ha0 : 0 ≤ a) (_ha1 : a < 2 ^ 71) (hb0 : 0 ≤ b) (_hb1 : b < 2 ^ 71) {i : Nat} (hi : i < 7) :
    Txt.join (Str.ofString "") (fmC (Str.ofString "-") (32768 + Builtin.bitAnd ((xr a b).fdiv (2 ^ (12 * (i : Int)).toNat)) 4095)) = lbS (slc a b i) := by
  obtain ⟨A, rfl⟩ := Int.eq_ofNat_of_zero_le ha0
  obtain ⟨B, rfl⟩ := Int.eq_ofNat_of_zero_le hb0
  obtain ⟨Bi, e, hbit⟩ := xrow A B i
  rw [e, lbS_slc A B hi, s_d, show (32768 : Int) + (Bi : Int) = ((8 * 4096 + Bi : Nat) : Int) by omega, fmC_ch]
  have h := hbit
  show (⟨(45 :: lch Bi).toArray⟩ : Str) = _
  unfold lch lbch
  rw [hbit 0 (by decide), hbit 1 (by decide), hbit 2 (by decide), hbit 3 (by decide), hbit 4 (by decide), hbit 5 (by decide), hbit 6 (by decide), hbit 7 (by decide), hbit 8 (by decide), hbit 9 (by decide), hbit 10 (by decide), hbit 11 (by decide)]
theorem LS_10 (a b : Int) : ∀ x ∈ LS a b, x.length = 10 := by
  intro x hx
  obtain ⟨i, _, rfl⟩ := List.mem_map.mp hx
  have hr := gb_rng (slc_bit a b i)
  rw [lbS_ch (p := fun j => ((slc a b i).getD j 0).toNat) (fun j => by have := hr j; show ((slc a b i).getD j 0).toNat < 2; omega) (fun j => (Int.toNat_of_nonneg (hr j).1).symm)]
  rfl
noncomputable def oc (c : Nat) : Int := if (Builtin.Str.occurrences (Str.ofString "rwxst") ⟨#[c]⟩ 0 (Str.ofString "rwxst").length 1).isEmpty = true then 0 else 1
theorem oc_s : oc 45 = 0 ∧ oc 114 = 1 ∧ oc 119 = 1 ∧ oc 120 = 1 ∧ oc 115 = 1 ∧ oc 116 = 1 ∧ oc 83 = 0 ∧ oc 84 = 0 := by
  unfold oc; decide +kernel
theorem oc_W {p c : Nat} (hp : p < 2) (hc : c = 114 ∨ c = 119) : oc (chW p c) = (p : Int) := by
  obtain ⟨h1, h2, h3, _⟩ := oc_s
  rcases (by omega : p = 0 ∨ p = 1) with rfl | rfl
  · exact h1
  · rcases hc with rfl | rfl
    · exact h2
    · exact h3
theorem oc_X {q p a b : Nat} (hq : q < 2) (hp : p < 2) (hab : (a = 115 ∧ b = 83) ∨ (a = 116 ∧ b = 84)) : oc (chX q p a b 120) = (p : Int) := by
  obtain ⟨h1, _, _, h4, h5, h6, h7, h8⟩ := oc_s
  rcases (by omega : p = 0 ∨ p = 1) with rfl | rfl <;> rcases (by omega : q = 0 ∨ q = 1) with rfl | rfl <;> rcases hab with ⟨rfl, rfl⟩ | ⟨rfl, rfl⟩
  · exact h1
  · exact h1
  · exact h7
  · exact h8
  · exact h4
  · exact h4
  · exact h5
  · exact h6
theorem LS_get (a b : Int) {i : Nat} (hi : i < 7) : (LS a b).getD i ⟨#[]⟩ = lbS (slc a b i) := by
  rw [List.getD_eq_getElem?_getD]
  simp [LS, hi]
theorem told_eq (A B P : Nat) (hP : P < 84) (hq : P % 12 = 0 ∨ P % 12 = 4 ∨ P % 12 = 6 ∨ P % 12 = 8) : toldOf (LS (A : Int) (B : Int)) (P : Int) = (cN A B P : Int) := by
  have e1 : ((P : Int).fdiv 12).toNat = P / 12 := by rw [Int.fdiv_eq_ediv_of_nonneg _ (by decide)]; omega
  have e2 : (P : Int).fmod 12 = ((P % 12 : Nat) : Int) := by rw [Int.fmod_eq_emod_of_nonneg _ (by decide)]; omega
  have hi : P / 12 < 7 := by omega
  unfold toldOf
  rw [e1, e2, LS_get _ _ hi, lbS_slc A B hi]
  have hb := pN_lt A B (P / 12)
  have hv : ∀ q, q < 12 → P % 12 = q → pN A B (P / 12) q = cN A B P := fun q h1 h2 => by
    unfold pN; rw [if_pos h1, show 12 * (P / 12) + q = P by omega]
  rcases hq with hq | hq | hq | hq
  · rw [hq, ← hv 0 (by decide) hq]
    exact oc_X (hb 9) (hb 0) (.inr ⟨rfl, rfl⟩)
  · rw [hq, ← hv 4 (by decide) hq]
    exact oc_W (hb 4) (.inr rfl)
  · rw [hq, ← hv 6 (by decide) hq]
    exact oc_X (hb 11) (hb 6) (.inl ⟨rfl, rfl⟩)
  · rw [hq, ← hv 8 (by decide) hq]
    exact oc_W (hb 8) (.inl rfl)
noncomputable def dg (w n N : Nat) : List Nat := (List.range n).map fun i => N / 2 ^ (w * (n - 1 - i)) % 2 ^ w
theorem dg_succ (w n N : Nat) : dg w (n + 1) N = dg w n (N / 2 ^ w) ++ [N % 2 ^ w] := by
  unfold dg
  rw [List.range_succ, List.map_append, List.map_cons, List.map_nil]
  congr 1
  · apply List.map_congr_left
    intro i hi
    have hlt := List.mem_range.mp hi
    rw [Nat.div_div_eq_div_mul, ← Nat.pow_add, show w * (n + 1 - 1 - i) = w + w * (n - 1 - i) by rw [show n + 1 - 1 - i = (n - 1 - i) + 1 by omega, Nat.mul_add, Nat.mul_one, Nat.add_comm]]
  · rw [show n + 1 - 1 - n = 0 by omega, Nat.mul_zero, Nat.pow_zero, Nat.div_one]
theorem dg_zero (w N : Nat) : dg w 0 N = [] := rfl
theorem dg_lt (w n N : Nat) : ∀ d ∈ dg w n N, d < 2 ^ w := by
  intro d hd
  obtain ⟨i, _, rfl⟩ := List.mem_map.mp hd
  exact Nat.mod_lt _ (Nat.two_pow_pos w)
theorem fig_nat (A w K : Nat) : fig (A : Int) (w : Int) (K : Int) = ((A / 2 ^ (w * K) % 2 ^ w : Nat) : Int) := by
  unfold fig
  rw [show ((w : Int) * (K : Int)).toNat = w * K by rw [← Int.natCast_mul]; rfl, show ((w : Int)).toNat = w from rfl, fdiv_nat, Int.fmod_eq_emod_of_nonneg _ (Int.pow_nonneg (by decide))]
  push_cast
  rfl
theorem downs_map (n : Nat) (f : Int → Int) : (downs n).map f = (List.range n).map fun i => f ((n - 1 - i : Nat) : Int) := by
  unfold downs downKs
  rw [List.map_map]
  apply List.map_congr_left
  intro i hi
  have hlt := List.mem_range.mp hi
  show f ((n : Int) - 1 - (i : Int)) = f ((n - 1 - i : Nat) : Int)
  rw [show (n : Int) - 1 - (i : Int) = ((n - 1 - i : Nat) : Int) by omega]
theorem colF_nat (A w n : Nat) : colF (A : Int) (w : Int) n = (dg w n A).map fun d : Nat => (d : Int) := by
  unfold colF dg
  rw [downs_map, List.map_map]
  apply List.map_congr_left
  intro i _
  exact fig_nat A w _
theorem colS_nat (A B w n : Nat) (hw : ∀ K, K < n → w * K < 84 ∧ ((w * K) % 12 = 0 ∨ (w * K) % 12 = 4 ∨ (w * K) % 12 = 6 ∨ (w * K) % 12 = 8)) : colS (LS (A : Int) (B : Int)) (A : Int) (B : Int) (w : Int) n = colF ((A + B : Nat) : Int) (w : Int) n := by
  unfold colS colF
  rw [downs_map, downs_map]
  apply List.map_congr_left
  intro i hi
  have hlt := List.mem_range.mp hi
  have hK := hw (n - 1 - i) (by omega)
  generalize n - 1 - i = K at *
  show (fig _ _ _ + fig _ _ _ + toldOf _ _).fmod _ = _
  rw [← Int.natCast_mul, told_eq A B (w * K) hK.1 hK.2, fig_nat, fig_nat, fig_nat, sum_div, Int.fmod_eq_emod_of_nonneg _ (Int.pow_nonneg (by decide)), show ((w : Int)).toNat = w from rfl]
  have e : ((2 : Int) ^ w) = ((2 ^ w : Nat) : Int) := by push_cast; rfl
  rw [e, ← Int.natCast_add, ← Int.natCast_add, ← Int.natCast_emod]
  congr 1
  rw [Nat.add_mod, Nat.add_mod (A / 2 ^ (w * K) % 2 ^ w), Nat.mod_mod, Nat.mod_mod, ← Nat.add_mod (A / 2 ^ (w * K)), ← Nat.add_mod]
theorem zz_nat (A B w n : Nat) (hw : ∀ K, K < n → w * K < 84 ∧ ((w * K) % 12 = 0 ∨ (w * K) % 12 = 4 ∨ (w * K) % 12 = 6 ∨ (w * K) % 12 = 8)) (j : Nat) : zz (A : Int) (B : Int) (w : Int) n j = (dg w n (if j = 0 then A else if j = 1 then B else A + B)).map fun d : Nat => (d : Int) := by
  unfold zz
  split
  · exact colF_nat A w n
  · split
    · exact colF_nat B w n
    · rw [colS_nat A B w n hw, colF_nat]
theorem sg16 {d : Nat} (h : d < 16) : sg d = 65 + (d : Int) := by
  have k : ∀ i : Fin 16, sg i.val = 65 + (i.val : Int) := by decide +kernel
  exact k ⟨d, h⟩
theorem word_dg : ∀ n N, N < 16 ^ n → List.replicate (n - (ap N).length) (65 : UInt8) ++ ap N = (dg 4 n N).map fun d => (65 + d).toUInt8
  | 0, N, h => by
    have : N = 0 := by simpa using h
    subst this
    rw [ap_zero]; rfl
  | n + 1, N, h => by
    have h' : N / 16 < 16 ^ n := by rw [Nat.pow_succ] at h; omega
    have ih := word_dg n (N / 16) h'
    rw [dg_succ, List.map_append, show (2 : Nat) ^ 4 = 16 from rfl, ← ih]
    by_cases h0 : N = 0
    · subst h0
      rw [show 0 / 16 = 0 from rfl, ap_zero, List.append_nil, List.append_nil, List.length_nil, Nat.sub_zero, Nat.sub_zero, List.replicate_succ']
      rfl
    · rw [ap_step h0, List.length_append, List.length_cons, List.length_nil, show n + 1 - ((ap (N / 16)).length + (0 + 1)) = n - (ap (N / 16)).length by omega, List.append_assoc]
      rfl
theorem wordA_dg {N : Nat} (h : N < 16 ^ 20) : wordA N = byteArr (((dg 4 20 N).map fun d : Nat => (d : Int)).map sgI) := by
  apply Array.toList_inj.mp
  have hl := ap_len 20 N h
  have e := word_dg 20 N h
  unfold wordA
  rw [Array.toList_append, List.size_toArray, ← padA, padA_eq, show ((20 : Int) - ((ap N).length : Int)).toNat = 20 - (ap N).length by omega]
  show List.replicate _ _ ++ ap N = _
  rw [e]
  unfold byteArr
  rw [List.map_map, List.map_map]
  apply List.map_congr_left
  intro d hd
  have hd16 : d < 16 := dg_lt 4 20 N d hd
  show (65 + d).toUInt8 = (sg d).toNat.toUInt8
  rw [sg16 hd16, show (65 + (d : Int)).toNat = 65 + d by omega]
theorem hw4 : ∀ K, K < 20 → 4 * K < 84 ∧ ((4 * K) % 12 = 0 ∨ (4 * K) % 12 = 4 ∨ (4 * K) % 12 = 6 ∨ (4 * K) % 12 = 8) := fun K h => by omega
theorem hw6 : ∀ K, K < 12 → 6 * K < 84 ∧ ((6 * K) % 12 = 0 ∨ (6 * K) % 12 = 4 ∨ (6 * K) % 12 = 6 ∨ (6 * K) % 12 = 8) := fun K h => by omega
theorem turn4 {a b : Int} (ha0 : 0 ≤ a) (ha1 : a < 2 ^ 71) (hb0 : 0 ≤ b) (hb1 : b < 2 ^ 71) (t0 t1 t2 : Tok) (j : Nat) (x : Value) (h : [Value.bytes (wordA a.natAbs) t0, .bytes (wordA (-b).natAbs) t1, .bytes (wordA (a + b).natAbs) t2][j]? = some x) : ∃ t, x = .bytes (byteArr ((zz a b 4 20 j).map sgI)) t := by
  obtain ⟨A, rfl⟩ := Int.eq_ofNat_of_zero_le ha0
  obtain ⟨B, rfl⟩ := Int.eq_ofNat_of_zero_le hb0
  have hz := zz_nat A B 4 20 hw4 j
  have hz' : zz (A : Int) (B : Int) 4 20 j = _ := hz
  rw [hz']
  rcases j with _ | _ | _ | j
  · obtain rfl := Option.some.inj h
    exact ⟨t0, by rw [if_pos rfl, ← wordA_dg (by omega)]; rfl⟩
  · obtain rfl := Option.some.inj h
    exact ⟨t1, by rw [if_neg (by decide), if_pos rfl, ← wordA_dg (by omega), show (-(B : Int)).natAbs = B by omega]⟩
  · obtain rfl := Option.some.inj h
    exact ⟨t2, by rw [if_neg (by decide), if_neg (by decide), ← wordA_dg (by omega), show ((A : Int) + (B : Int)).natAbs = A + B by omega]⟩
  · simp at h
theorem v256_oct : ∀ (m N : Nat), N < 256 ^ m → v256 ((List.range m).map fun i => ((N / 256 ^ (m - 1 - i) % 256 : Nat) : Int)) = N
  | 0, N, h => by
    have : N = 0 := by simpa using h
    subst this; rfl
  | m + 1, N, h => by
    have ih := v256_oct m (N / 256) (by rw [Nat.pow_succ] at h; omega)
    rw [List.range_succ, List.map_append, List.map_cons, List.map_nil, v256_app]
    have e : (List.map (fun i => ((N / 256 ^ (m + 1 - 1 - i) % 256 : Nat) : Int)) (List.range m)) = List.map (fun i => ((N / 256 / 256 ^ (m - 1 - i) % 256 : Nat) : Int)) (List.range m) := by
      apply List.map_congr_left
      intro i hi
      have hlt := List.mem_range.mp hi
      rw [Nat.div_div_eq_div_mul, ← Nat.pow_succ', show (m - 1 - i).succ = m + 1 - 1 - i by omega]
    rw [e, ih, show m + 1 - 1 - m = 0 by omega, Nat.pow_zero, Nat.div_one]
    omega
theorem octsG_v {n N : Nat} (h : N < 256 ^ n) : v256 (KBw.bInts (byteArr (octsG n (N : Int)))) = (N : Int) := by
  rw [KBa.ints_make (octsG_in n N)]
  refine Eq.trans (congrArg v256 ?_) (v256_oct n N h)
  unfold octsG
  apply List.map_congr_left
  intro i hi
  have hlt := List.mem_range.mp hi
  rw [show ((n : Int) - 1 - (i : Int)).toNat = n - 1 - i by omega, Int.fdiv_eq_ediv_of_nonneg _ (Int.pow_nonneg (by decide)), Int.fmod_eq_emod_of_nonneg _ (by decide), Int.natCast_emod, Int.natCast_ediv, Int.natCast_pow]
  rfl
theorem dig64_dg : ∀ m N, dig64 m N = dg 6 m N
  | 0, _ => rfl
  | m + 1, N => by rw [dg_succ, ← dig64_dg m]; rfl
theorem txt_dg {N : Nat} (h : N < 256 ^ 9) : txtB (N : Int) = byteArr (((dg 6 12 N).map fun d : Nat => (d : Int)).map sgI) := by
  unfold txtB
  rw [byteArr_size, octsG_len, octsG_v h, show ((N : Int)).toNat = N from rfl]
  unfold encB
  rw [dig64_dg, List.map_map]
  rfl
theorem turn6 {a b : Int} (ha0 : 0 ≤ a) (ha1 : a < 2 ^ 71) (hb0 : 0 ≤ b) (hb1 : b < 2 ^ 71) (t0 t1 t2 : Tok) (j : Nat) (x : Value) (h : [Value.bytes (txtB a) t0, .bytes (txtB b) t1, .bytes (txtB (a + b)) t2][j]? = some x) : ∃ t, x = .bytes (byteArr ((zz a b 6 12 j).map sgI)) t := by
  obtain ⟨A, rfl⟩ := Int.eq_ofNat_of_zero_le ha0
  obtain ⟨B, rfl⟩ := Int.eq_ofNat_of_zero_le hb0
  have hz := zz_nat A B 6 12 hw6 j
  have hz' : zz (A : Int) (B : Int) 6 12 j = _ := hz
  rw [hz']
  rcases j with _ | _ | _ | j
  · obtain rfl := Option.some.inj h
    exact ⟨t0, by rw [if_pos rfl, ← txt_dg (by omega)]⟩
  · obtain rfl := Option.some.inj h
    exact ⟨t1, by rw [if_neg (by decide), if_pos rfl, ← txt_dg (by omega)]⟩
  · obtain rfl := Option.some.inj h
    exact ⟨t2, by rw [if_neg (by decide), if_neg (by decide), ← txt_dg (by omega), Int.natCast_add]⟩
  · simp at h
theorem W64_r64 (n : Nat) : W64 n = r64 n := word_val (n := n) rfl (20 - ((ap n).toArray.size : Int))
noncomputable def ev (b : Nat) : List Nat → Nat
  | [] => 0
  | d :: l => d + b * ev b l
theorem dig64_ev : ∀ l : List Nat, (∀ d ∈ l, d < 64) → dig64 l.length (ev 64 l) = l.reverse
  | [], _ => rfl
  | d :: l, h => by
    have ih := dig64_ev l fun z hz => h z (List.mem_cons_of_mem _ hz)
    have hd := h d (List.mem_cons_self ..)
    rw [List.length_cons, dig64, ev, show (d + 64 * ev 64 l) / 64 = ev 64 l by omega, show (d + 64 * ev 64 l) % 64 = d by omega, ih, List.reverse_cons]
theorem ev_lt : ∀ l : List Nat, (∀ d ∈ l, d < 64) → ev 64 l < 64 ^ l.length
  | [], _ => by decide
  | d :: l, h => by
    have ih := ev_lt l fun z hz => h z (List.mem_cons_of_mem _ hz)
    have hd := h d (List.mem_cons_self ..)
    rw [List.length_cons, ev, Nat.pow_succ]
    omega
theorem r64_rec (n : Nat) : r64 n = r64 (n / 16) * 64 + (n % 16 : Nat) := by
  by_cases h : n = 0
  · subst h; rw [show 0 / 16 = 0 from rfl, r64_zero]; rfl
  · exact r64_step h
noncomputable def Sd : Nat → Nat → Nat → Nat → List Nat
  | 0, _, _, _ => []
  | n + 1, A, B, c => (A % 16 + B % 16 + c) / 16 :: Sd n (A / 16) (B / 16) ((A % 16 + B % 16 + c) / 16)
theorem Sd_len : ∀ n A B c, (Sd n A B c).length = n
  | 0, _, _, _ => rfl
  | n + 1, A, B, c => by rw [Sd, List.length_cons, Sd_len n]
theorem Sd_le : ∀ n A B c, c ≤ 1 → ∀ d ∈ Sd n A B c, d ≤ 1
  | 0, _, _, _, _, d, hd => nomatch hd
  | n + 1, A, B, c, hc, d, hd => by
    have h1 : (A % 16 + B % 16 + c) / 16 ≤ 1 := by omega
    rcases List.mem_cons.mp hd with rfl | hd
    · exact h1
    · exact Sd_le n _ _ _ h1 d hd
theorem r64_sum : ∀ n A B c, A < 16 ^ n → B < 16 ^ n → c ≤ 1 → r64 (A + B + c) = r64 A + r64 B + (c : Int) + 48 * ((ev 64 (Sd n A B c) : Nat) : Int)
  | 0, A, B, c, hA, hB, hc => by
    have hA' : A = 0 := by simpa using hA
    have hB' : B = 0 := by simpa using hB
    subst hA' hB'
    rw [r64_rec (0 + 0 + c), show (0 + 0 + c) / 16 = 0 by omega, r64_zero, show (0 + 0 + c) % 16 = c by omega]
    show _ = 0 + 0 + (c : Int) + 48 * ((0 : Nat) : Int)
    omega
  | n + 1, A, B, c, hA, hB, hc => by
    rw [Nat.pow_succ] at hA hB
    have h1 : (A % 16 + B % 16 + c) / 16 ≤ 1 := by omega
    have ih := r64_sum n (A / 16) (B / 16) ((A % 16 + B % 16 + c) / 16) (by omega) (by omega) h1
    rw [r64_rec (A + B + c), r64_rec A, r64_rec B, show (A + B + c) / 16 = A / 16 + B / 16 + (A % 16 + B % 16 + c) / 16 by omega, ih, Sd, ev]
    generalize r64 (A / 16) = ra
    generalize r64 (B / 16) = rb
    generalize ev 64 (Sd n (A / 16) (B / 16) ((A % 16 + B % 16 + c) / 16)) = e
    omega
theorem Sd_get : ∀ (n A B c k : Nat), k < n → (Sd n A B c).getD k 0 = (A % 16 ^ (k + 1) + B % 16 ^ (k + 1) + c) / 16 ^ (k + 1)
  | 0, _, _, _, _, h => absurd h (Nat.not_lt_zero _)
  | n + 1, A, B, c, 0, _ => by rw [Sd]; rfl
  | n + 1, A, B, c, k + 1, h => by
    rw [Sd]
    show (Sd n (A / 16) (B / 16) ((A % 16 + B % 16 + c) / 16)).getD k 0 = _
    rw [Sd_get n _ _ _ k (by omega)]
    have hm : ∀ z : Nat, z % 16 ^ (k + 1 + 1) = 16 * (z / 16 % 16 ^ (k + 1)) + z % 16 := fun z => by
      rw [Nat.pow_succ', Nat.mod_mul, Nat.add_comm]
    rw [hm A, hm B, Nat.pow_succ' (n := k + 1), ← Nat.div_div_eq_div_mul]
    congr 1
    omega
theorem sum48 (A B : Nat) (hA : A < 2 ^ 71) (hB : B < 2 ^ 71) : moreOf (A : Int) (B : Int) = 48 * ((ev 64 (Sd 20 A B 0) : Nat) : Int) := by
  have h := r64_sum 20 A B 0 (by omega) (by omega) (by decide)
  unfold moreOf
  rw [W64_r64, W64_r64, W64_r64, show ((A : Int) + (B : Int)).natAbs = A + B + 0 by omega, show ((A : Int)).natAbs = A by omega, show (-(B : Int)).natAbs = B by omega, h]
  omega
theorem more_48 {a b : Int} (ha0 : 0 ≤ a) (ha1 : a < 2 ^ 71) (hb0 : 0 ≤ b) (hb1 : b < 2 ^ 71) : (moreOf a b).fmod 48 = 0 := by
  obtain ⟨A, rfl⟩ := Int.eq_ofNat_of_zero_le ha0
  obtain ⟨B, rfl⟩ := Int.eq_ofNat_of_zero_le hb0
  rw [sum48 A B (by omega) (by omega), Int.fmod_eq_emod_of_nonneg _ (by decide)]
  omega
theorem final_eq {a b : Int} (ha0 : 0 ≤ a) (ha1 : a < 2 ^ 71) (hb0 : 0 ≤ b) (hb1 : b < 2 ^ 71) :
    (byteArr (encB ((byteArr (octsG 15 ((moreOf a b).fdiv 48))).size / 3 * 4) (v256 (KBw.bInts (byteArr (octsG 15 ((moreOf a b).fdiv 48))))).toNat)).toList = (byteArr (rowL a b)).toList := by
  obtain ⟨A, rfl⟩ := Int.eq_ofNat_of_zero_le ha0
  obtain ⟨B, rfl⟩ := Int.eq_ofNat_of_zero_le hb0
  have hd : ∀ d ∈ Sd 20 A B 0, d < 64 := fun d h => Nat.lt_of_le_of_lt (Sd_le 20 A B 0 (by decide) d h) (by decide)
  have hl := Sd_len 20 A B 0
  have hlt := ev_lt _ hd
  have hdg := dig64_ev _ hd
  rw [hl] at hlt hdg
  have e1 : (moreOf (A : Int) (B : Int)).fdiv 48 = ((ev 64 (Sd 20 A B 0) : Nat) : Int) := by
    rw [sum48 A B (by omega) (by omega), Int.fdiv_eq_ediv_of_nonneg _ (by decide)]
    omega
  rw [e1, byteArr_size, octsG_len, octsG_v (Nat.lt_of_lt_of_le hlt (by decide)), show 15 / 3 * 4 = 20 from rfl, Int.toNat_natCast]
  unfold encB
  rw [hdg]
  refine congrArg (fun l => (byteArr l).toList) ?_
  unfold rowL
  apply List.ext_getElem?
  intro i
  by_cases hi : i < 20
  · have hg := Sd_get 20 A B 0 (19 - i) (by omega)
    have hq := told_eq A B (80 - 4 * i) (by omega) (by omega)
    have hs : (Sd 20 A B 0).reverse[i]? = some ((Sd 20 A B 0).getD (19 - i) 0) := by
      rw [List.getElem?_reverse (by omega), hl, List.getD_eq_getElem?_getD, List.getElem?_eq_getElem (show 20 - 1 - i < (Sd 20 A B 0).length by omega)]
      rfl
    rw [List.getElem?_map, hs, List.getElem?_map, List.getElem?_range hi]
    show some (sg ((Sd 20 A B 0).getD (19 - i) 0)) = some (65 + toldOf _ _)
    rw [show (80 : Int) - 4 * (i : Int) = ((80 - 4 * i : Nat) : Int) by omega, hq, hg]
    have hc : (A % 16 ^ (19 - i + 1) + B % 16 ^ (19 - i + 1) + 0) / 16 ^ (19 - i + 1) = cN A B (80 - 4 * i) := by
      unfold cN
      rw [show (16 : Nat) ^ (19 - i + 1) = 2 ^ (80 - 4 * i) by rw [show (16 : Nat) = 2 ^ 4 from rfl, ← Nat.pow_mul, show 4 * (19 - i + 1) = 80 - 4 * i by omega], Nat.add_zero]
    rw [hc, sg16 (Nat.lt_of_le_of_lt (cN_le _ _ _) (by decide))]
  · rw [List.getElem?_eq_none (by simp [hl]; omega), List.getElem?_eq_none (by simp; omega)]
abbrev Cl (w : World) (mean : ExcName → Option Value) (mg mb : Str → Option Value) (r : Nat) (f : Addr) (news : List (Addr × Obj)) (pre : Prop) (vs : List Value) (post : Value → Prop) : Prop :=
  ∀ (dp un : Nat) (gd : Option (List Code)) (cn : Str) (cs : Scope) (a : Addr) (ccd : Value) (cl : List (Str × Addr)) (outer : List Env) (A₀ : Around) (base h₀ : Heap) (L : Addr) (m : Str → Option Value) (s : Shared) (Q E : Value → Shared → Prop) (p9 : Program) (lo9 : List Str),
    Below A₀ base outer h₀ → Fr h₀ L s.heap m → (KK02 w.params).In h₀ → News h₀ L s.heap news → Top p9 lo9 mean mg mb h₀ → cs.kind = .function →
    pre → dp + r < recursionLimit → un + 8 * r < cLine →
    (∀ (v : Value) (h' : Heap) (tk' : Nat), post v → Fr h₀ L h' m → News h₀ L h' news → Q v { s with heap := h', toks := tk' }) →
      wpAny (model Challenge.rw_op0070_02.row.prog w) (ktrTop dp un gd cn cs L a ccd cl outer) (call (.ref f) vs) Q E s
abbrev ClN (w : World) (mean : ExcName → Option Value) (mg mb : Str → Option Value) (r : Nat) (f : Addr) (news : List (Addr × Obj)) (pre : Heap → Prop) (vs : List Value) (post : Value → List (Addr × Obj) → Prop) : Prop :=
  ∀ (dp un : Nat) (gd : Option (List Code)) (cn : Str) (cs : Scope) (a : Addr) (ccd : Value) (cl : List (Str × Addr)) (outer : List Env) (A₀ : Around) (base h₀ : Heap) (L : Addr) (m : Str → Option Value) (s : Shared) (Q E : Value → Shared → Prop) (p9 : Program) (lo9 : List Str),
    Below A₀ base outer h₀ → Fr h₀ L s.heap m → (KK02 w.params).In h₀ → News h₀ L s.heap news → Top p9 lo9 mean mg mb h₀ → cs.kind = .function →
    pre s.heap → dp + r < recursionLimit → un + 8 * r < cLine →
    (∀ (v : Value) (own : List (Addr × Obj)) (h' : Heap) (tk' : Nat), post v own → (∀ q ∈ own, ∀ p ∈ news, p.1 < q.1) → Fr h₀ L h' m → News h₀ L h' (own ++ news) → Q v { s with heap := h', toks := tk' }) →
      wpAny (model Challenge.rw_op0070_02.row.prog w) (ktrTop dp un gd cn cs L a ccd cl outer) (call (.ref f) vs) Q E s
abbrev ClH (w : World) (mean : ExcName → Option Value) (mg mb : Str → Option Value) (r : Nat) (f : Addr) (news : List (Addr × Obj)) (pre : Heap → Prop) (vs : List Value) (post : Value → Prop) : Prop :=
  ∀ (dp un : Nat) (gd : Option (List Code)) (cn : Str) (cs : Scope) (a : Addr) (ccd : Value) (cl : List (Str × Addr)) (outer : List Env) (A₀ : Around) (base h₀ : Heap) (L : Addr) (m : Str → Option Value) (s : Shared) (Q E : Value → Shared → Prop) (p9 : Program) (lo9 : List Str),
    Below A₀ base outer h₀ → Fr h₀ L s.heap m → (KK02 w.params).In h₀ → News h₀ L s.heap news → Top p9 lo9 mean mg mb h₀ → cs.kind = .function →
    pre s.heap → dp + r < recursionLimit → un + 8 * r < cLine →
    (∀ (v : Value) (h' : Heap) (tk' : Nat), post v → Fr h₀ L h' m → News h₀ L h' news → Q v { s with heap := h', toks := tk' }) →
      wpAny (model Challenge.rw_op0070_02.row.prog w) (ktrTop dp un gd cn cs L a ccd cl outer) (call (.ref f) vs) Q E s
set_option maxRecDepth 100000 in
set_option maxHeartbeats 8000000 in
theorem c_Int2AP (w : World) (mean : ExcName → Option Value) (mg mb : Str → Option Value) (news : List (Addr × Obj)) (x : Int) (tk : Tok) :
   Cl w mean mg mb 4 163 news (x.natAbs < 16 ^ 30) [.int x tk] (fun v => ∃ t, v = .bytes (ap x.natAbs).toArray t) := by
  w_top off
  k_with_none
  k_with "my stop" => ((fail_if_success (with_reducible show InvEndN _ _ _ _ _ _ _)); (fail_if_success (with_reducible show KswEnd _ _ _ _ _ _ _ _ _ _ _ _)); (fail_if_success (with_reducible show LoopStep3 _ _ _ _ _ _ _ _ _ _)); (fail_if_success (with_reducible show LCg.CompSrc _ _ _ _ _ _ _ _ _ _ _ _ _ _)))
  k_with "my step" => (first | (k_unfold; (try dsimp only)) | (walk_at "my stop"; (first | walk_at "my own" | walk1 | (dsimp only; walk1)); (all_goals (try walk_at "my norm"))) | (leave1; (try dsimp only)) | fail "no step")
  k_with "my steps" => (repeat' walk_at "my step")
  k_with "my stepsW" => (repeat' ((fail_if_success (with_reducible show wpAny _ _ (exec (Stmt.While _ _ _ _) _) _ _ _)); walk_at "my step"))
  k_with "my norm" => ((try dsimp only); (try ((with_reducible refine wpAny_tok ?_); intro tk9)))
  k_with "my room" => (first | exact room_rm _ (by decide) | exact room_of (k := 0) (by assumption) (by decide) | exact room_of (k := 1) (by assumption) (by decide) | exact room_of (k := 2) (by assumption) (by decide) | exact room_of (k := 3) (by assumption) (by decide) | exact room_of2 (by assumption) (by decide))
  k_with "my units" => (first | exact room_um _ (by decide) | exact room_of2 (by assumption) (by decide) | ktr_units)
  unfold Cl; k_fill
  intro dp un gd cn cs a ccd cl outer A₀ base h₀ L m s Q E p9 lo9 B0 F0 X0 N0 T0 hk hpre hd hu hret
  refine wpAny_call ?_
  k_with "my own" => (k_here; (with_reducible show wpAny _ _ (call (Value.ref _) _ _) _ _ _); k_dflt (refine wpAny_call ?_; (refine code_def1 (by exact rfl) (by exact rfl) (by first | exact rfl | assumption) (by k_asm) (by k_asm) (by k_asm) (by k_asm) (by k_asm) (by k_is) (by k_is) (by walk_at "my room") (by first | exact BindsTo.of_eq rfl | exact binds_K (by k_in) rfl (by k_is) rfl rfl rfl | fail "no binds") (by decide) (by exact locs rfl) (by exact rfl) (by exact rfl) (by exact rfl) ?_); k_whole; intro g' L' h' FG' F' N' B' X' T'; (try dsimp only); (try k_lift B'); (try k_fold)))
  k_with "my enter0" => ((refine code_def0 (by exact rfl) (by exact rfl) (by first | exact rfl | assumption) (by k_asm) (by k_asm) (by k_asm) (by k_asm) (by k_is) (by k_is) (by walk_at "my room") (by first | exact BindsTo.of_eq rfl | exact binds_K (by k_in) rfl (by k_is) rfl rfl rfl | fail "no binds") (by decide) (by exact locs rfl) (by exact rfl) (by exact rfl) (by exact rfl) ?_); k_whole; intro L' h' F' N' B' X' T'; (try dsimp only); (try k_lift B'); (try k_fold))
  k_with "my own" => (k_here; (with_reducible show wpAny _ _ (subscriptTail _ (Expr.Slice _ _ none _) (Value.bytes #[65, 66, 67, 68, 69, 70, 71, 72, 73, 74, 75, 76, 77, 78, 79, 80] _) (Value.ref _)) _ _ _); (with_reducible rename Fr _ _ _ _ => F'); (with_reducible rename News _ _ _ _ => N'); (refine slice_AP (s := ⟨_, _, _, _, _⟩) F' N' (by (rw [Int.fmod_eq_emod_of_nonneg _ (by omega)]; omega)) (by (rw [Int.fmod_eq_emod_of_nonneg _ (by omega)]; omega)) ?_); intro _ _ _ _ _)
  k_dflt (walk_at "my enter0")
  walk_at "my stepsW"
  k_with "state" => exact i2a_start (by assumption)
  k_while (fun _ num val => 0 ≤ num ∧ (ap num.toNat) ++ val.toList = ap x.natAbs ∧ num.toNat * 16 ^ val.size < 16 ^ 30 ∧ val.size ≤ 30) (fun _ num _ => num.toNat) "num" "val"
  k_with "state" => exact i2a_turn (by assumption) (by assumption) (by assumption) (by assumption) (by assumption)
  k_with "measure" => exact i2a_less (by assumption) (by assumption)
  repeat' (first | (k_unfold; (try dsimp only)) | (k_end; wrow_close) | walk_at "my own" | walk1 | (dsimp only; walk1) | (leave1; (try dsimp only)) | fail "no step")
  all_goals exact hret _ _ _ ⟨_, congrArg (fun b => Value.bytes b _) (i2a_end (by assumption) (by assumption))⟩ (by assumption) (news_keep N0 (by assumption))
set_option maxRecDepth 100000 in
set_option maxHeartbeats 8000000 in
theorem c_b64decode (w : World) (mean : ExcName → Option Value) (mg mb : Str → Option Value) (news : List (Addr × Obj)) (b : Array UInt8) (tk : Tok) :
   Cl w mean mg mb 5 156 news (b.size ≤ 100 ∧ b.size % 4 = 0 ∧ ∀ k ∈ KBw.bInts b, 65 ≤ k ∧ k ≤ 90) [.bytes b tk] (fun v => ∃ b' t, v = .bytes b' t ∧ b'.size ≤ 100 ∧ v256 (KBw.bInts b') = v64 (KBw.bInts b)) := by
  w_top off
  k_with_none
  k_with "my stop" => ((fail_if_success (with_reducible show InvEndN _ _ _ _ _ _ _)); (fail_if_success (with_reducible show KswEnd _ _ _ _ _ _ _ _ _ _ _ _)); (fail_if_success (with_reducible show LoopStep3 _ _ _ _ _ _ _ _ _ _)); (fail_if_success (with_reducible show LCg.CompSrc _ _ _ _ _ _ _ _ _ _ _ _ _ _)))
  k_with "my step" => (first | (k_unfold; (try dsimp only)) | (walk_at "my stop"; (first | walk_at "my own" | walk1 | (dsimp only; walk1)); (all_goals (try walk_at "my norm"))) | (leave1; (try dsimp only)) | fail "no step")
  k_with "my steps" => (repeat' walk_at "my step")
  k_with "my stepsW" => (repeat' ((fail_if_success (with_reducible show wpAny _ _ (exec (Stmt.While _ _ _ _) _) _ _ _)); walk_at "my step"))
  k_with "my norm" => ((try dsimp only); (try ((with_reducible refine wpAny_tok ?_); intro tk9)))
  k_with "my room" => (first | exact room_rm _ (by decide) | exact room_of (k := 0) (by assumption) (by decide) | exact room_of (k := 1) (by assumption) (by decide) | exact room_of (k := 2) (by assumption) (by decide) | exact room_of (k := 3) (by assumption) (by decide) | exact room_of2 (by assumption) (by decide))
  k_with "my units" => (first | exact room_um _ (by decide) | exact room_of2 (by assumption) (by decide) | ktr_units)
  unfold Cl; k_fill
  intro dp un gd cn cs a ccd cl outer A₀ base h₀ L m s Q E p9 lo9 B0 F0 X0 N0 T0 hk hpre hd hu hret
  refine wpAny_call ?_
  k_with "my own" => (k_here; (with_reducible show wpAny _ _ (call (Value.ref _) _ _) _ _ _); k_dflt (refine wpAny_call ?_; (refine code_def1 (by exact rfl) (by exact rfl) (by first | exact rfl | assumption) (by k_asm) (by k_asm) (by k_asm) (by k_asm) (by k_asm) (by k_is) (by k_is) (by walk_at "my room") (by first | exact BindsTo.of_eq rfl | exact binds_K (by k_in) rfl (by k_is) rfl rfl rfl | fail "no binds") (by decide) (by exact locs rfl) (by exact rfl) (by exact rfl) (by exact rfl) ?_); k_whole; intro g' L' h' FG' F' N' B' X' T'; (try dsimp only); (try k_lift B'); (try k_fold)))
  k_with "my enter0" => ((refine code_def0 (by exact rfl) (by exact rfl) (by first | exact rfl | assumption) (by k_asm) (by k_asm) (by k_asm) (by k_asm) (by k_is) (by k_is) (by walk_at "my room") (by first | exact BindsTo.of_eq rfl | exact binds_K (by k_in) rfl (by k_is) rfl rfl rfl | fail "no binds") (by decide) (by exact locs rfl) (by exact rfl) (by exact rfl) (by exact rfl) ?_); k_whole; intro L' h' F' N' B' X' T'; (try dsimp only); (try k_lift B'); (try k_fold))
  k_with "my own" => (k_here; (with_reducible show wpAny _ _ (call (Value.type "type") [Value.bytes _ _]) _ _ _); refine call_type_of (typeIs_bytes _ _ _) (by decide +kernel) ?_)
  k_dflt (walk_at "my enter0")
  walk_at "my steps"
  rename Fr _ _ _ _ => lF
  rename News _ _ _ _ => lN
  obtain ⟨l', el'⟩ := news_head lN
  subst el'
  refine' KStb.kst_bytes (σ := A2) (fun c => (l', W.listOf c.vs.toArray c.n) :: []) (fun c => [(Str.ofString "quad_pos", .int c.q c.tq), (Str.ofString "leftchar", .int c.l c.tl), (Str.ofString "pads", .int c.p c.tp), (Str.ofString "i", .int c.i c.ti)]) (fun c => IntsAre c.vs c.ns) [Str.ofString "this_ch"] (fun pre c => A2inv pre c) ⟨[], [], 0, 0, _, 0, _, 0, _, 0, _⟩ rfl rfl rfl lF lN IntsAre.nil ?kk ?kp ?turn ?done
  case kk => kst_all
  case kp => exact A2inv.start
  case turn => 
    clear lF lN
    intro c pre post n t u h tk own hEq hLen hLo hHi hOff hFacts hInv hFr hNews
    have hMk := kstMark
    have hN := hpre.2.2 n (by rw [show KBw.bInts b = pre ++ n :: post from hEq]; simp)
    obtain ⟨hN1, hN2⟩ := hN
    obtain ⟨vs, ns, ne, q, tq, l, tl, p, tp, i, ti⟩ := c
    dsimp only at hFacts hInv hFr hNews ⊢
    simp only [kstB] at hFr
    have hP := hInv.p0
    have hq0 := hInv.q0
    have hq3 := hInv.q4
    have hl0 := hInv.l0
    have hl1 := hInv.l1
    have hlen := hInv.len
    dsimp only at hP hq0 hq3 hl0 hl1 hlen
    have hl64 : l < 65 := by simp only [qM] at hl1; split at hl1 <;> (try split at hl1) <;> (try split at hl1) <;> omega
    clear hl1
    have hvs : vs.length ≤ 100 := by have h1 := hFacts.length; have h2 := hpre.1; rw [KBw.ints_length] at hLen; omega
    simp only [List.cons_append, List.nil_append] at hNews
    simp only [List.map_cons, List.map_nil] at hOff
    walk_at "my steps"
    all_goals ((rename News _ _ _ _ => nE'); (try simp only [List.push_toArray] at nE'); (refine kst_end (A2.mk _ _ _ _ _ _ _ _ _ _ _) (by assumption) nE' (by kst_in) (by intro p hp; kst_mem) (by rfl) (by k_intsEnd) (by kst_all) (by kst_same) ?_))
    all_goals first | (exfalso; omega) | ((have hq : q = 0 := by assumption); exact a2_w0 hInv hN1 hN2 hq) | ((have hq : q = 1 := by assumption); exact a2_w1 hInv hN1 hN2 hq) | ((have hq : q = 2 := by assumption); exact a2_w2 hInv hN1 hN2 hq) | exact a2_w3 hInv hN1 hN2 (by assumption) (by assumption) (by assumption)
  case done =>
    clear lF lN
    intro c u h tk hLen hFacts hInv hFr hNews
    have hMk := kstMark
    obtain ⟨vs, ns, ne, q, tq, l, tl, p, tp, i, ti⟩ := c
    dsimp only at hFacts hInv hFr hNews ⊢
    simp only [kstB] at hFr
    have hP := hInv.p0
    have hq : q = 0 := by have h1 := hInv.ql; dsimp only at h1; rw [← h1, KBw.ints_length]; omega
    have hl : l = 0 := by have h1 := hInv.l0; have h2 := hInv.l1; dsimp only at h1 h2; rw [hq] at h2; simp [qM] at h2; omega
    dsimp only at hP
    subst hP hq hl
    have hrng := hInv.rng
    have hval := hInv.val
    have hlen := hInv.len
    dsimp only at hrng hval hlen
    have hvs : vs.length ≤ 100 := by have h1 := hFacts.length; have h2 := hpre.1; rw [KBw.ints_length] at hlen; omega
    walk_at "my steps"
    all_goals exact hret _ _ _ ⟨_, _, rfl, a2_end (by assumption) (by assumption) (by assumption) (by assumption)⟩ (by assumption) (news_keep N0 (by assumption))
set_option maxRecDepth 100000 in
set_option maxHeartbeats 8000000 in
theorem c_count (w : World) (mean : ExcName → Option Value) (mg mb : Str → Option Value) (news : List (Addr × Obj)) (b : Array UInt8) (tk : Tok) :
   Cl w mean mg mb 7 177 news (b.size ≤ 100 ∧ b.size % 4 = 0 ∧ ∀ k ∈ KBw.bInts b, 65 ≤ k ∧ k ≤ 90) [.bytes b tk] (fun v => ∃ t, v = .int (v64 (KBw.bInts b)) t) := by
  w_top off
  k_with_none
  k_with "my stop" => ((fail_if_success (with_reducible show InvEndN _ _ _ _ _ _ _)); (fail_if_success (with_reducible show KswEnd _ _ _ _ _ _ _ _ _ _ _ _)); (fail_if_success (with_reducible show LoopStep3 _ _ _ _ _ _ _ _ _ _)); (fail_if_success (with_reducible show LCg.CompSrc _ _ _ _ _ _ _ _ _ _ _ _ _ _)))
  k_with "my step" => (first | (k_unfold; (try dsimp only)) | (walk_at "my stop"; (first | walk_at "my own" | walk1 | (dsimp only; walk1)); (all_goals (try walk_at "my norm"))) | (leave1; (try dsimp only)) | fail "no step")
  k_with "my steps" => (repeat' walk_at "my step")
  k_with "my stepsW" => (repeat' ((fail_if_success (with_reducible show wpAny _ _ (exec (Stmt.While _ _ _ _) _) _ _ _)); walk_at "my step"))
  k_with "my norm" => ((try dsimp only); (try ((with_reducible refine wpAny_tok ?_); intro tk9)))
  k_with "my room" => (first | exact room_rm _ (by decide) | exact room_of (k := 0) (by assumption) (by decide) | exact room_of (k := 1) (by assumption) (by decide) | exact room_of (k := 2) (by assumption) (by decide) | exact room_of (k := 3) (by assumption) (by decide) | exact room_of2 (by assumption) (by decide))
  k_with "my units" => (first | exact room_um _ (by decide) | exact room_of2 (by assumption) (by decide) | ktr_units)
  unfold Cl; k_fill
  intro dp un gd cn cs a ccd cl outer A₀ base h₀ L m s Q E p9 lo9 B0 F0 X0 N0 T0 hk hpre hd hu hret
  refine wpAny_call ?_
  k_with "my own" => (k_here; (with_reducible show wpAny _ _ (call (Value.ref _) _ _) _ _ _); k_dflt (refine wpAny_call ?_; (refine code_def1 (by exact rfl) (by exact rfl) (by first | exact rfl | assumption) (by k_asm) (by k_asm) (by k_asm) (by k_asm) (by k_asm) (by k_is) (by k_is) (by walk_at "my room") (by first | exact BindsTo.of_eq rfl | exact binds_K (by k_in) rfl (by k_is) rfl rfl rfl | fail "no binds") (by decide) (by exact locs rfl) (by exact rfl) (by exact rfl) (by exact rfl) ?_); k_whole; intro g' L' h' FG' F' N' B' X' T'; (try dsimp only); (try k_lift B'); (try k_fold)))
  k_with "my enter0" => ((refine code_def0 (by exact rfl) (by exact rfl) (by first | exact rfl | assumption) (by k_asm) (by k_asm) (by k_asm) (by k_asm) (by k_is) (by k_is) (by walk_at "my room") (by first | exact BindsTo.of_eq rfl | exact binds_K (by k_in) rfl (by k_is) rfl rfl rfl | fail "no binds") (by decide) (by exact locs rfl) (by exact rfl) (by exact rfl) (by exact rfl) ?_); k_whole; intro L' h' F' N' B' X' T'; (try dsimp only); (try k_lift B'); (try k_fold))
  k_with "my own" => (k_here; (with_reducible show wpAny _ _ (call (Value.ref 156) [Value.bytes _ _]) _ _ _); k_dflt (refine c_b64decode _ _ _ _ _ _ _ _ _ _ _ _ _ _ _ _ _ _ _ _ _ _ _ _ _ _ (by k_asm) (by k_asm) (by k_asm) (by k_asm) (by k_asm) (by first | exact rfl | assumption) (by assumption) (by walk_at "my room") (by walk_at "my units") ?_; intro v9 h9 tk9 hv9 F9 N9; obtain ⟨b9, t9, hb9, hz9, he9⟩ := hv9; subst hb9; (try dsimp only)))
  k_dflt (walk_at "my enter0")
  walk_at "my steps"
  rename Fr _ _ _ _ => lF
  rename News _ _ _ _ => lN
  refine' KStb.kst_bytes (σ := Int × Tok) (fun _ => []) (fun c => [(Str.ofString "number", .int c.1 c.2)]) (fun _ => True) [] (fun pre c => c.1 = v256 pre) ⟨0, _⟩ rfl rfl rfl lF lN trivial ?kk ?kp ?turn ?done
  case kk => kst_all
  case kp => rfl
  case turn =>
    clear lF lN
    intro c pre post n t u h tk own hEq hLen hLo hHi hOff hFacts hInv hFr hNews
    have hMk := kstMark
    obtain ⟨x, tx⟩ := c
    dsimp only at hInv hFr hNews ⊢
    simp only [kstB] at hFr
    simp only [List.nil_append] at hNews
    walk_at "my steps"
    all_goals ((rename News _ _ _ _ => nE'); (refine kst_end (Prod.mk _ _) (by assumption) nE' (by kst_in) (by intro p hp; kst_mem) (by rfl) trivial (by kst_all) (by kst_same) ?_))
    all_goals (show _ = v256 (pre ++ [n]); rw [v256_app, ← hInv])
  case done =>
    clear lF lN
    intro c u h tk hLen hFacts hInv hFr hNews
    obtain ⟨x, tx⟩ := c
    dsimp only at hInv hFr hNews ⊢
    replace hInv : x = v64 (KBw.bInts b) := hInv.trans (by assumption)
    simp only [kstB] at hFr
    walk_at "my steps"
    all_goals exact hret _ _ _ ⟨_, congrArg (fun z => Value.int z _) (by assumption)⟩ (by assumption) (news_keep N0 (by assumption))
set_option maxRecDepth 100000 in
set_option maxHeartbeats 8000000 in
theorem c_b64encode (w : World) (mean : ExcName → Option Value) (mg mb : Str → Option Value) (news : List (Addr × Obj)) (b : Array UInt8) (tk : Tok) :
   Cl w mean mg mb 5 148 news (b.size ≤ 100 ∧ b.size % 3 = 0) [.bytes b tk] (fun v => ∃ t, v = .bytes (byteArr (encB (b.size / 3 * 4) (v256 (KBw.bInts b)).toNat)) t) := by
  w_top off
  k_with_none
  k_with "my stop" => ((fail_if_success (with_reducible show InvEndN _ _ _ _ _ _ _)); (fail_if_success (with_reducible show KswEnd _ _ _ _ _ _ _ _ _ _ _ _)); (fail_if_success (with_reducible show LoopStep3 _ _ _ _ _ _ _ _ _ _)); (fail_if_success (with_reducible show LCg.CompSrc _ _ _ _ _ _ _ _ _ _ _ _ _ _)))
  k_with "my step" => (first | (k_unfold; (try dsimp only)) | (walk_at "my stop"; (first | walk_at "my own" | walk1 | (dsimp only; walk1)); (all_goals (try walk_at "my norm"))) | (leave1; (try dsimp only)) | fail "no step")
  k_with "my steps" => (repeat' walk_at "my step")
  k_with "my stepsW" => (repeat' ((fail_if_success (with_reducible show wpAny _ _ (exec (Stmt.While _ _ _ _) _) _ _ _)); walk_at "my step"))
  k_with "my norm" => ((try dsimp only); (try ((with_reducible refine wpAny_tok ?_); intro tk9)))
  k_with "my room" => (first | exact room_rm _ (by decide) | exact room_of (k := 0) (by assumption) (by decide) | exact room_of (k := 1) (by assumption) (by decide) | exact room_of (k := 2) (by assumption) (by decide) | exact room_of (k := 3) (by assumption) (by decide) | exact room_of2 (by assumption) (by decide))
  k_with "my units" => (first | exact room_um _ (by decide) | exact room_of2 (by assumption) (by decide) | ktr_units)
  unfold Cl; k_fill
  intro dp un gd cn cs a ccd cl outer A₀ base h₀ L m s Q E p9 lo9 B0 F0 X0 N0 T0 hk hpre hd hu hret
  refine wpAny_call ?_
  k_with "my own" => (k_here; (with_reducible show wpAny _ _ (call (Value.ref _) _ _) _ _ _); k_dflt (refine wpAny_call ?_; (refine code_def1 (by exact rfl) (by exact rfl) (by first | exact rfl | assumption) (by k_asm) (by k_asm) (by k_asm) (by k_asm) (by k_asm) (by k_is) (by k_is) (by walk_at "my room") (by first | exact BindsTo.of_eq rfl | exact binds_K (by k_in) rfl (by k_is) rfl rfl rfl | fail "no binds") (by decide) (by exact locs rfl) (by exact rfl) (by exact rfl) (by exact rfl) ?_); k_whole; intro g' L' h' FG' F' N' B' X' T'; (try dsimp only); (try k_lift B'); (try k_fold)))
  k_with "my enter0" => ((refine code_def0 (by exact rfl) (by exact rfl) (by first | exact rfl | assumption) (by k_asm) (by k_asm) (by k_asm) (by k_asm) (by k_is) (by k_is) (by walk_at "my room") (by first | exact BindsTo.of_eq rfl | exact binds_K (by k_in) rfl (by k_is) rfl rfl rfl | fail "no binds") (by decide) (by exact locs rfl) (by exact rfl) (by exact rfl) (by exact rfl) ?_); k_whole; intro L' h' F' N' B' X' T'; (try dsimp only); (try k_lift B'); (try k_fold))
  k_with "my own" => (k_here; (with_reducible show wpAny _ _ (call (Value.type "type") [Value.bytes _ _]) _ _ _); refine call_type_of (typeIs_bytes _ _ _) (by decide +kernel) ?_)
  k_with "my own" => (k_here; (with_reducible show wpAny _ _ (subscriptTail _ _ (Value.bytes #[65, 66, 67, 68, 69, 70, 71, 72, 73, 74, 75, 76, 77, 78, 79, 80, 81, 82, 83, 84, 85, 86, 87, 88, 89, 90, 97, 98, 99, 100, 101, 102, 103, 104, 105, 106, 107, 108, 109, 110, 111, 112, 113, 114, 115, 116, 117, 118, 119, 120, 121, 122, 48, 49, 50, 51, 52, 53, 54, 55, 56, 57, 43, 47] _) (Value.int (Builtin.bitAnd _ 63) _)) _ _ _); (refine item_B64 (by rw [bitAnd_m6]; omega) (by rw [bitAnd_m6]; omega) ?_); intro _ _)
  k_dflt (walk_at "my enter0")
  walk_at "my steps"
  rename Fr _ _ _ _ => lF
  rename News _ _ _ _ => lN
  obtain ⟨l', el'⟩ := news_head lN
  subst el'
  refine' KStb.kst_bytes (σ := B2) (fun c => (l', W.listOf c.vs.toArray c.n) :: []) (fun c => [(Str.ofString "leftbits", .int c.lb c.tb), (Str.ofString "leftchar", .int c.lc c.tc)]) (fun c => IntsAre c.vs c.ns) [] (fun pre c => B2inv (v256 pre) pre.length c ∧ c.lb < 6) ⟨[], [], 0, 0, _, 0, _⟩ rfl rfl rfl lF lN IntsAre.nil ?kk ?kp ?turn ?done
  case kk => kst_all
  case kp => exact B2inv.start
  case turn =>
    clear lF lN
    intro c pre post n t u h tk own hEq hLen hLo hHi hOff hFacts hInv hFr hNews
    have hMk := kstMark
    obtain ⟨vs, ns, ne, lb, tb, lc, tc⟩ := c
    dsimp only at hFacts hInv hFr hNews ⊢
    obtain ⟨hInv, hlb⟩ := hInv
    simp only [kstB] at hFr
    simp only [List.cons_append, List.nil_append] at hNews
    simp only [List.map_cons, List.map_nil] at hOff
    have hlb0 := hInv.lb0
    have hlc0 := hInv.lc0
    have hlc1 := hInv.lc1
    dsimp only at hlb0 hlc0 hlc1
    walk_at "my stepsW"
    rename Fr _ _ _ _ => lF
    rename News _ _ _ _ => lN
    have hI1 := fun tb' => b2_in (tb' := tb') (tc' := 0) hInv hlb hLo hHi
    generalize Builtin.bitAnd (Builtin.bitOr (lc * 2 ^ Int.toNat 8) n) 65535 = lc' at lF hI1
    have hb0 := (hI1 0).lc0
    have hb1 := (hI1 0).lc1
    have hb2 := (hI1 0).lc
    dsimp only at hb0 hb1 hb2
    refine' ksw_while (σ := B2) (fun c => (l', W.listOf c.vs.toArray c.n) :: own) (fun c => [(Str.ofString "leftbits", .int c.lb c.tb)]) (fun c => IntsAre c.vs c.ns) [] (fun c => B2inv (v256 (pre ++ [n])) (pre ++ [n]).length c) (fun c => c.lb.toNat) ⟨vs, ns, ne, lb + 8, _, lc', 0⟩ lF lN hFacts ?kk (hI1 _) ?turn2
    case kk => kst_all
    case turn2 =>
      clear lF lN hFacts
      intro c u h tk hFacts hI2 hFr hNews
      obtain ⟨vs, ns, ne, lb, tb, lc2, tc⟩ := c
      dsimp only at hFacts hI2 hFr hNews ⊢
      simp only [kstB] at hFr
      have hlb0 := hI2.lb0
      have hlb1 := hI2.lb1
      dsimp only at hlb0 hlb1
      have hvs : vs.length ≤ 1000 := by have h1 := hFacts.length; have h2 := hpre.1; have h3 := hI2.bits; dsimp only at h3; rw [KBw.ints_length] at hLen; simp only [List.length_append, List.length_cons, List.length_nil] at h3; omega
      walk_at "my steps"
      · (rename News _ _ _ _ => nE'); (try simp only [List.push_toArray] at nE')
        refine ksw_end (B2.mk _ _ _ _ _ lc2 tc) (by assumption) nE' (by kst_in) (by k_intsEnd) (by kst_all) (by ksw_same) ?_ ?_
        · exact b2_step hI2 hb2 (by assumption)
        · exact b2_less (by assumption)
      · have e2 : lc' = lc2 := by have h5 := hI2.lc; dsimp only at h5; rw [h5]; exact hb2
        subst e2
        refine kst_end (B2.mk vs ns ne lb tb _ _) (by assumption) hNews (by kst_in) (by intro p hp; kst_mem) (by rfl) hFacts (by kst_all) (by kst_same) ⟨?_, ?_⟩
        · exact ⟨hI2.V0, hI2.lb0, hI2.lb1, hI2.bits, hI2.lc0, hI2.lc1, hI2.lc, hI2.out⟩
        · show lb < 6; omega
  case done =>
    clear lF lN
    intro c u h tk hLen hFacts hInv hFr hNews
    have hMk := kstMark
    obtain ⟨vs, ns, ne, lb, tb, lc, tc⟩ := c
    dsimp only at hFacts hInv hFr hNews ⊢
    simp only [kstB] at hFr
    obtain ⟨hInv, hlb⟩ := hInv
    have hE := b2_end hInv hlb hpre
    obtain ⟨hlb0, hns⟩ := hE
    subst hlb0
    have hvs : vs.length ≤ 1000 := by have h1 := hFacts.length; have h2 := hpre.1; have h3 := hInv.bits; dsimp only at h3; rw [KBw.ints_length] at h3; omega
    have hin : KBa.In ns := by rw [hns]; exact encB_in _ _
    have hrng : ∀ z ∈ ns, 0 ≤ z ∧ z < 256 := hin
    walk_at "my steps"
    all_goals (rw [hns]; exact hret _ _ _ ⟨_, rfl⟩ (by assumption) (news_keep N0 (by assumption)))
set_option maxRecDepth 100000 in
set_option maxHeartbeats 8000000 in
theorem c_filemode (w : World) (mean : ExcName → Option Value) (mg mb : Str → Option Value) (news : List (Addr × Obj)) (x : Int) (tk0 : Tok) :
   Cl w mean mg mb 4 75 news (Builtin.bitAnd x 61440 = 32768) [.int x tk0] (fun v => ∃ t, v = .str (Txt.join (Str.ofString "") (fmC (Str.ofString "-") x)) t) := by
  w_top off
  k_with_none
  k_with "my stop" => ((fail_if_success (with_reducible show InvEndN _ _ _ _ _ _ _)); (fail_if_success (with_reducible show KswEnd _ _ _ _ _ _ _ _ _ _ _ _)); (fail_if_success (with_reducible show LoopStep3 _ _ _ _ _ _ _ _ _ _)); (fail_if_success (with_reducible show LCg.CompSrc _ _ _ _ _ _ _ _ _ _ _ _ _ _)))
  k_with "my step" => (first | (k_unfold; (try dsimp only)) | (walk_at "my stop"; (first | walk_at "my own" | walk1 | (dsimp only; walk1)); (all_goals (try walk_at "my norm"))) | (leave1; (try dsimp only)) | fail "no step")
  k_with "my steps" => (repeat' walk_at "my step")
  k_with "my stepsW" => (repeat' ((fail_if_success (with_reducible show wpAny _ _ (exec (Stmt.While _ _ _ _) _) _ _ _)); walk_at "my step"))
  k_with "my norm" => ((try dsimp only); (try ((with_reducible refine wpAny_tok ?_); intro tk9)))
  k_with "my room" => (first | exact room_rm _ (by decide) | exact room_of (k := 0) (by assumption) (by decide) | exact room_of (k := 1) (by assumption) (by decide) | exact room_of (k := 2) (by assumption) (by decide) | exact room_of (k := 3) (by assumption) (by decide) | exact room_of2 (by assumption) (by decide))
  k_with "my units" => (first | exact room_um _ (by decide) | exact room_of2 (by assumption) (by decide) | ktr_units)
  unfold Cl; k_fill
  intro dp un gd cn cs a ccd cl outer A₀ base h₀ L m s Q E p9 lo9 B0 F0 X0 N0 T0 hk hpre hd hu hret
  refine wpAny_call ?_
  k_with "my own" => (k_here; (with_reducible show wpAny _ _ (call (Value.ref _) _ _) _ _ _); k_dflt (refine wpAny_call ?_; (refine code_def1 (by exact rfl) (by exact rfl) (by first | exact rfl | assumption) (by k_asm) (by k_asm) (by k_asm) (by k_asm) (by k_asm) (by k_is) (by k_is) (by walk_at "my room") (by first | exact BindsTo.of_eq rfl | exact binds_K (by k_in) rfl (by k_is) rfl rfl rfl | fail "no binds") (by decide) (by exact locs rfl) (by exact rfl) (by exact rfl) (by exact rfl) ?_); k_whole; intro g' L' h' FG' F' N' B' X' T'; (try dsimp only); (try k_lift B'); (try k_fold)))
  k_with "my enter0" => ((refine code_def0 (by exact rfl) (by exact rfl) (by first | exact rfl | assumption) (by k_asm) (by k_asm) (by k_asm) (by k_asm) (by k_is) (by k_is) (by walk_at "my room") (by first | exact BindsTo.of_eq rfl | exact binds_K (by k_in) rfl (by k_is) rfl rfl rfl | fail "no binds") (by decide) (by exact locs rfl) (by exact rfl) (by exact rfl) (by exact rfl) ?_); k_whole; intro L' h' F' N' B' X' T'; (try dsimp only); (try k_lift B'); (try k_fold))
  k_with "my own" => ((with_reducible show TupRest _ _ _ _ _ _ _ _ _ _ _ _ _ _ _); (with_unfolding_all first | (refine TupRest.succ (fun it' h' tk' hc' F' N' => ?_)) | (refine TupRest.zero (fun h' tk' F' N' => ?_))))
  k_with "my own" => (with_reducible show UnrEnd _ _ _ _ _ _ _); (first | contradiction | ((rename News _ _ _ _ => nE'); (refine unrEnd_tail (by assumption) nE' (by assumption) ?_)))
  k_with "fm ch" => (first | rfl | (exfalso; omega) | exact fm1_t (by assumption) | exact fm1_f (by assumption) | exact fm3_1 (by assumption) | exact fm3_2 (by assumption) (by assumption) | exact fm3_3 (by assumption) (by assumption) (by assumption) | exact fm3_4 (by assumption) (by assumption) (by assumption))
  k_with "fm turn" => (refine wpAny_execs_cons ?_; (rename Fr _ _ _ _ => lF'); (rename News _ _ _ _ => lN'); (rename Frag.In _ _ => lX'); (refine For_tupElse (by rfl) lF' lN' (by intro Q' hq; exact ld lF' rfl hq) (tupK lX' (by k_is)) ?_ (by intro x; rfl) (by passes_own)); clear lF' lN'; (intro I' l1; have l2 := l1; (try k_lt l1)); walk_at "my steps")
  k_dflt (walk_at "my enter0")
  walk_at "my steps"
  rename Fr _ _ _ _ => lF
  rename News _ _ _ _ => lN
  rename Frag.In _ _ => X'
  obtain ⟨l', el'⟩ := news_head lN
  subst el'
  k_dflt (refine' call_enum_tup (by rfl) (tupK ?kx ?kl) lF lN ?_)
  case kx => exact X'
  case kl => k_is
  intro h1 e F1 N1 S
  refine S.at _ rfl _ _ _ _ (fun i m₁ news₁ => m₁ (Str.ofString "mode") = some (.int x tk0) ∧ m₁ (Str.ofString "perm") = some (.ref l') ∧ ∃ vs n, news₁ = [(l', W.listOf vs.toArray n)] ∧ StrsAre vs ((fmC (Str.ofString "-") x).take i)) ?h0 ?step ?done
  case h0 => exact ⟨rfl, rfl, [], 0, rfl, StrsAre.nil⟩
  case step =>
    rintro i a t v m₁ news₁ s₁ own ⟨hh, tkk, rfl⟩ hai hav ⟨hm1, hm2, vs, n, rfl, hvs⟩ hmap hoff F2 N2
    have hav' : v = a := hav
    subst hav'
    rw [two_names hm1 hm2] at F2
    have N3 := news_swap N2
    have hOff : OwnOff own [l'] := fun p hp b hb => by rw [List.mem_singleton.mp hb]; exact hoff p hp _ (.head _)
    have hvl : vs.length ≤ 10 := by rw [hvs.length, List.length_take]; exact Nat.le_trans (Nat.min_le_right _ _) (by show 10 ≤ 10; exact Nat.le_refl _)
    clear N2 hoff lF lN F1 N1 S hav
    dsimp only at F2 N3 ⊢
    rcases i with _ | i
    · simp only [List.getElem?_cons_zero, Option.some.injEq] at hai
      subst hai
      walk_at "fm turn"
      all_goals (rename News _ _ _ _ => nE')
      all_goals (try simp only [List.push_toArray] at nE')
      all_goals first | refine fm_endA (by assumption) nE' hvs (by with_unfolding_all rfl) (by with_unfolding_all rfl) rfl ?_ | refine fm_endB (by assumption) nE' hvs (by with_unfolding_all rfl) (by with_unfolding_all rfl) rfl ?_
      all_goals walk_at "fm ch"
    · have tab : ∃ (ta : Addr) (q : List (Addr × Int × Str)), v = .ref ta ∧ IsTup s.heap ta (q.map fun p => Value.ref p.1).toArray ∧ (∀ p ∈ q, ∃ t1 t2, IsTup s.heap p.1 #[Value.int p.2.1 t1, Value.str p.2.2 t2]) ∧ (fmC (Str.ofString "-") x)[i + 1]? = some (fmFind x q) := by
        rcases i with _|_|_|_|_|_|_|_|_|i
        case succ.succ.succ.succ.succ.succ.succ.succ.succ => exact absurd hai (by simp)
        all_goals (simp only [List.getElem?_cons_zero, List.getElem?_cons_succ, Option.some.injEq, Nat.zero_add] at hai; subst hai)
        all_goals first
          | exact ⟨_, [(_, _, _)], rfl, tupK X' (by k_is), List.forall_mem_cons.mpr ⟨⟨_, _, tupK X' (by k_is)⟩, List.forall_mem_nil _⟩, rfl⟩
          | exact ⟨_, [(_, _, _), (_, _, _), (_, _, _)], rfl, tupK X' (by k_is), List.forall_mem_cons.mpr ⟨⟨_, _, tupK X' (by k_is)⟩, List.forall_mem_cons.mpr ⟨⟨_, _, tupK X' (by k_is)⟩, List.forall_mem_cons.mpr ⟨⟨_, _, tupK X' (by k_is)⟩, List.forall_mem_nil _⟩⟩⟩, rfl⟩
      obtain ⟨ta, q, rfl, hT, hst, hfm⟩ := tab
      clear hai
      refine wpAny_execs_cons ?_
      rename Fr _ _ _ _ => lF'
      rename News _ _ _ _ => lN'
      refine For_tupElse (by rfl) lF' lN' (by intro Q' hq; exact ld lF' rfl hq) hT ?_ (by intro x; rfl) (by passes_own)
      clear lF' lN'
      intro I' l1
      have l2 := l1
      (try k_lt l1)
      generalize hch : fmFind x q = ch at hfm
      refine tupRest_J (fun r' m' => ∃ q : List (Addr × Int × Str), r' = q.map (fun p => Value.ref p.1) ∧ (∀ p ∈ q, ∃ t1 t2, IsTup s.heap p.1 #[Value.int p.2.1 t1, Value.str p.2.2 t2]) ∧ fmFind x q = ch ∧ m' (Str.ofString "mode") = some (.int x tk0) ∧ m' (Str.ofString "perm") = some (.ref l') ∧ m' (Str.ofString "index") = some (.int ((i + 1 : Nat) : Int) t)) ?_ ?_ _ _ ⟨q, rfl, hst, hch, rfl, rfl, rfl⟩
      · clear hst hch hT
        rintro v r' m' it hh' tk' ⟨q, hq, hst, hch, g1, g2, g3⟩ hc F' N'
        cases q with
        | nil => cases hq
        | cons p q =>
          obtain ⟨pa, pk, pc⟩ := p
          simp only [List.map_cons, List.cons.injEq] at hq
          obtain ⟨rfl, rfl⟩ := hq
          obtain ⟨⟨t1, t2, hT⟩, hst⟩ := List.forall_mem_cons.mp hst
          rw [three_names g1 g2 g3] at F'
          have hix : ((i + 1 : Nat) : Int) ≠ 0 := by omega
          dsimp only at hT F' ⊢
          k_with "my own" => ((with_reducible show ite _ _ _); rw [if_neg hix])
          repeat' ((fail_if_success (with_reducible show UnrEnd _ _ _ _ _ _ _)); walk_at "my step")
          all_goals (rename News _ _ _ _ => nE')
          all_goals (try simp only [List.push_toArray] at nE')
          all_goals first
            | exact absurd (by assumption) hix
            | exact fm_endA (by assumption) nE' hvs (by with_unfolding_all rfl) (by with_unfolding_all rfl) hfm (hch.symm.trans (if_pos (by assumption)))
            | exact unrEnd_tail (by assumption) nE' (by assumption) ⟨rfl, q, rfl, hst, (if_neg (by assumption)).symm.trans hch, rfl, rfl, rfl⟩
      · rintro m' hh' tk' ⟨q, hq, hst, hch, g1, g2, g3⟩ F' N'
        cases q with
        | cons p q => cases hq
        | nil =>
          rw [three_names g1 g2 g3] at F'
          have hix : ((i + 1 : Nat) : Int) ≠ 0 := by omega
          dsimp only at F' ⊢
          k_with "my own" => ((with_reducible show ite _ _ _); rw [if_neg hix])
          walk_at "my steps"
          all_goals (rename News _ _ _ _ => nE')
          all_goals (try simp only [List.push_toArray] at nE')
          all_goals first
            | exact absurd (by assumption) hix
            | exact fm_endB (by assumption) nE' hvs (by with_unfolding_all rfl) (by with_unfolding_all rfl) hfm hch.symm
  case done =>
    rintro h2 tk2 m2 news2 F2 N2 hmap ⟨hm1, hm2, vs, n, rfl, hvs⟩
    rw [two_names hm1 hm2] at F2
    clear lF lN F1 N1 S
    dsimp only at F2 N2 ⊢
    have hvs' : StrsAre vs (fmC (Str.ofString "-") x) := hvs
    have hvl : vs.length ≤ 10 := by rw [hvs'.length]; exact Nat.le_refl _
    have hokk := fmC_ok (c := Str.ofString "-") (x := x) (by decide +kernel)
    walk_at "my steps"
    refine join_listC (News.isList N2 (.head _)) hvs' (by decide +kernel) hokk ?_
    intro t3 k3
    walk_at "my steps"
    all_goals exact hret _ _ _ ⟨_, rfl⟩ (by assumption) (news_keep N0 (by assumption))
set_option maxRecDepth 100000 in
set_option maxHeartbeats 8000000 in
theorem c_imode (w : World) (mean : ExcName → Option Value) (mg mb : Str → Option Value) (news : List (Addr × Obj)) (x : Int) (tk : Tok) :
   Cl w mean mg mb 2 28 news True [.int x tk] (fun v => ∃ t, v = .int (Builtin.bitAnd x 4095) t) := by
  w_top off
  k_with_none
  k_with "my stop" => ((fail_if_success (with_reducible show InvEndN _ _ _ _ _ _ _)); (fail_if_success (with_reducible show KswEnd _ _ _ _ _ _ _ _ _ _ _ _)); (fail_if_success (with_reducible show LoopStep3 _ _ _ _ _ _ _ _ _ _)); (fail_if_success (with_reducible show LCg.CompSrc _ _ _ _ _ _ _ _ _ _ _ _ _ _)))
  k_with "my step" => (first | (k_unfold; (try dsimp only)) | (walk_at "my stop"; (first | walk_at "my own" | walk1 | (dsimp only; walk1)); (all_goals (try walk_at "my norm"))) | (leave1; (try dsimp only)) | fail "no step")
  k_with "my steps" => (repeat' walk_at "my step")
  k_with "my stepsW" => (repeat' ((fail_if_success (with_reducible show wpAny _ _ (exec (Stmt.While _ _ _ _) _) _ _ _)); walk_at "my step"))
  k_with "my norm" => ((try dsimp only); (try ((with_reducible refine wpAny_tok ?_); intro tk9)))
  k_with "my room" => (first | exact room_rm _ (by decide) | exact room_of (k := 0) (by assumption) (by decide) | exact room_of (k := 1) (by assumption) (by decide) | exact room_of (k := 2) (by assumption) (by decide) | exact room_of (k := 3) (by assumption) (by decide) | exact room_of2 (by assumption) (by decide))
  k_with "my units" => (first | exact room_um _ (by decide) | exact room_of2 (by assumption) (by decide) | ktr_units)
  unfold Cl; k_fill
  intro dp un gd cn cs a ccd cl outer A₀ base h₀ L m s Q E p9 lo9 B0 F0 X0 N0 T0 hk hpre hd hu hret
  refine wpAny_call ?_
  k_with "my own" => (k_here; (with_reducible show wpAny _ _ (call (Value.ref _) _ _) _ _ _); k_dflt (refine wpAny_call ?_; (refine code_def1 (by exact rfl) (by exact rfl) (by first | exact rfl | assumption) (by k_asm) (by k_asm) (by k_asm) (by k_asm) (by k_asm) (by k_is) (by k_is) (by walk_at "my room") (by first | exact BindsTo.of_eq rfl | exact binds_K (by k_in) rfl (by k_is) rfl rfl rfl | fail "no binds") (by decide) (by exact locs rfl) (by exact rfl) (by exact rfl) (by exact rfl) ?_); k_whole; intro g' L' h' FG' F' N' B' X' T'; (try dsimp only); (try k_lift B'); (try k_fold)))
  k_with "my enter0" => ((refine code_def0 (by exact rfl) (by exact rfl) (by first | exact rfl | assumption) (by k_asm) (by k_asm) (by k_asm) (by k_asm) (by k_is) (by k_is) (by walk_at "my room") (by first | exact BindsTo.of_eq rfl | exact binds_K (by k_in) rfl (by k_is) rfl rfl rfl | fail "no binds") (by decide) (by exact locs rfl) (by exact rfl) (by exact rfl) (by exact rfl) ?_); k_whole; intro L' h' F' N' B' X' T'; (try dsimp only); (try k_lift B'); (try k_fold))
  k_dflt (walk_at "my enter0")
  walk_at "my steps"
  all_goals exact hret _ _ _ ⟨_, rfl⟩ (by assumption) (news_keep N0 (by assumption))
set_option maxRecDepth 100000 in
set_option maxHeartbeats 8000000 in
theorem c_word (w : World) (mean : ExcName → Option Value) (mg mb : Str → Option Value) (news : List (Addr × Obj)) (x : Int) (tk : Tok) :
   Cl w mean mg mb 6 170 news (x.natAbs < 16 ^ 20) [.int x tk] (fun v => ∃ t, v = .bytes (wordA x.natAbs) t) := by
  w_top off
  k_with_none
  k_with "my stop" => ((fail_if_success (with_reducible show InvEndN _ _ _ _ _ _ _)); (fail_if_success (with_reducible show KswEnd _ _ _ _ _ _ _ _ _ _ _ _)); (fail_if_success (with_reducible show LoopStep3 _ _ _ _ _ _ _ _ _ _)); (fail_if_success (with_reducible show LCg.CompSrc _ _ _ _ _ _ _ _ _ _ _ _ _ _)))
  k_with "my step" => (first | (k_unfold; (try dsimp only)) | (walk_at "my stop"; (first | walk_at "my own" | walk1 | (dsimp only; walk1)); (all_goals (try walk_at "my norm"))) | (leave1; (try dsimp only)) | fail "no step")
  k_with "my steps" => (repeat' walk_at "my step")
  k_with "my stepsW" => (repeat' ((fail_if_success (with_reducible show wpAny _ _ (exec (Stmt.While _ _ _ _) _) _ _ _)); walk_at "my step"))
  k_with "my norm" => ((try dsimp only); (try ((with_reducible refine wpAny_tok ?_); intro tk9)))
  k_with "my room" => (first | exact room_rm _ (by decide) | exact room_of (k := 0) (by assumption) (by decide) | exact room_of (k := 1) (by assumption) (by decide) | exact room_of (k := 2) (by assumption) (by decide) | exact room_of (k := 3) (by assumption) (by decide) | exact room_of2 (by assumption) (by decide))
  k_with "my units" => (first | exact room_um _ (by decide) | exact room_of2 (by assumption) (by decide) | ktr_units)
  unfold Cl; k_fill
  intro dp un gd cn cs a ccd cl outer A₀ base h₀ L m s Q E p9 lo9 B0 F0 X0 N0 T0 hk hpre hd hu hret
  refine wpAny_call ?_
  k_with "my own" => (k_here; (with_reducible show wpAny _ _ (call (Value.ref _) _ _) _ _ _); k_dflt (refine wpAny_call ?_; (refine code_def1 (by exact rfl) (by exact rfl) (by first | exact rfl | assumption) (by k_asm) (by k_asm) (by k_asm) (by k_asm) (by k_asm) (by k_is) (by k_is) (by walk_at "my room") (by first | exact BindsTo.of_eq rfl | exact binds_K (by k_in) rfl (by k_is) rfl rfl rfl | fail "no binds") (by decide) (by exact locs rfl) (by exact rfl) (by exact rfl) (by exact rfl) ?_); k_whole; intro g' L' h' FG' F' N' B' X' T'; (try dsimp only); (try k_lift B'); (try k_fold)))
  k_with "my enter0" => ((refine code_def0 (by exact rfl) (by exact rfl) (by first | exact rfl | assumption) (by k_asm) (by k_asm) (by k_asm) (by k_asm) (by k_is) (by k_is) (by walk_at "my room") (by first | exact BindsTo.of_eq rfl | exact binds_K (by k_in) rfl (by k_is) rfl rfl rfl | fail "no binds") (by decide) (by exact locs rfl) (by exact rfl) (by exact rfl) (by exact rfl) ?_); k_whole; intro L' h' F' N' B' X' T'; (try dsimp only); (try k_lift B'); (try k_fold))
  k_with "my own" => (k_here; (with_reducible show wpAny _ _ (call (Value.ref 163) [Value.int _ _]) _ _ _); k_dflt (refine c_Int2AP _ _ _ _ _ _ _ _ _ _ _ _ _ _ _ _ _ _ _ _ _ _ _ _ _ _ (by k_asm) (by k_asm) (by k_asm) (by k_asm) (by k_asm) (by first | exact rfl | assumption) (by assumption) (by walk_at "my room") (by walk_at "my units") ?_; intro v9 h9 tk9 hv9 F9 N9; obtain ⟨t9, hb9⟩ := hv9; subst hb9; (try dsimp only)))
  k_with "my own" => (k_here; (with_reducible show wpAny _ _ (call (Value.builtin "len") [Value.bytes _ _]) _ _ _); (refine PySem.W.len_bytes (by omega) ?_))
  k_with "my own" => (k_here; (with_reducible show wpAny _ _ (binaryOp Operator.Mult (Value.bytes #[65] _) (Value.int _ _)) _ _ _); (refine PySem.W.bytes_mul_any (b := [65]) (by decide) (by omega) (by omega) (by decide) ?_); intro _ _)
  k_with "my own" => (k_here; (with_reducible show wpAny _ _ (binaryOp Operator.Add (Value.bytes _ _) (Value.bytes _ _)) _ _ _); (refine KBy.add_bytes (Nat.le_trans (Nat.add_le_add (pad_size (by omega)) (by assumption)) (by decide)) ?_); intro _ _)
  have hp30 : x.natAbs < 16 ^ 30 := Nat.lt_of_lt_of_le hpre (by decide)
  have hWs := ap_size hpre
  k_dflt (walk_at "my enter0")
  walk_at "my steps"
  all_goals exact hret _ _ _ ⟨_, rfl⟩ (by assumption) (news_keep N0 (by assumption))
set_option maxRecDepth 100000 in
set_option maxHeartbeats 8000000 in
theorem c_octets (w : World) (mean : ExcName → Option Value) (mg mb : Str → Option Value) (news : List (Addr × Obj)) (x : Int) (n : Nat) (tk tk2 : Tok) :
   Cl w mean mg mb 4 182 news (n ≤ 15) [.int x tk, .int (n : Int) tk2] (fun v => ∃ t, v = .bytes (byteArr (octsG n x)) t) := by
  w_top off
  k_with_none
  k_with "my stop" => ((fail_if_success (with_reducible show InvEndN _ _ _ _ _ _ _)); (fail_if_success (with_reducible show KswEnd _ _ _ _ _ _ _ _ _ _ _ _)); (fail_if_success (with_reducible show LoopStep3 _ _ _ _ _ _ _ _ _ _)); (fail_if_success (with_reducible show LCg.CompSrc _ _ _ _ _ _ _ _ _ _ _ _ _ _)))
  k_with "my step" => (first | (k_unfold; (try dsimp only)) | (walk_at "my stop"; (first | walk_at "my own" | walk1 | (dsimp only; walk1)); (all_goals (try walk_at "my norm"))) | (leave1; (try dsimp only)) | fail "no step")
  k_with "my steps" => (repeat' walk_at "my step")
  k_with "my stepsW" => (repeat' ((fail_if_success (with_reducible show wpAny _ _ (exec (Stmt.While _ _ _ _) _) _ _ _)); walk_at "my step"))
  k_with "my norm" => ((try dsimp only); (try ((with_reducible refine wpAny_tok ?_); intro tk9)))
  k_with "my room" => (first | exact room_rm _ (by decide) | exact room_of (k := 0) (by assumption) (by decide) | exact room_of (k := 1) (by assumption) (by decide) | exact room_of (k := 2) (by assumption) (by decide) | exact room_of (k := 3) (by assumption) (by decide) | exact room_of2 (by assumption) (by decide))
  k_with "my units" => (first | exact room_um _ (by decide) | exact room_of2 (by assumption) (by decide) | ktr_units)
  unfold Cl; k_fill
  intro dp un gd cn cs a ccd cl outer A₀ base h₀ L m s Q E p9 lo9 B0 F0 X0 N0 T0 hk hpre hd hu hret
  refine wpAny_call ?_
  k_with "my own" => (k_here; (with_reducible show wpAny _ _ (call (Value.ref _) _ _) _ _ _); k_dflt (refine wpAny_call ?_; (refine code_def1 (by exact rfl) (by exact rfl) (by first | exact rfl | assumption) (by k_asm) (by k_asm) (by k_asm) (by k_asm) (by k_asm) (by k_is) (by k_is) (by walk_at "my room") (by first | exact BindsTo.of_eq rfl | exact binds_K (by k_in) rfl (by k_is) rfl rfl rfl | fail "no binds") (by decide) (by exact locs rfl) (by exact rfl) (by exact rfl) (by exact rfl) ?_); k_whole; intro g' L' h' FG' F' N' B' X' T'; (try dsimp only); (try k_lift B'); (try k_fold)))
  k_with "my enter0" => ((refine code_def0 (by exact rfl) (by exact rfl) (by first | exact rfl | assumption) (by k_asm) (by k_asm) (by k_asm) (by k_asm) (by k_is) (by k_is) (by walk_at "my room") (by first | exact BindsTo.of_eq rfl | exact binds_K (by k_in) rfl (by k_is) rfl rfl rfl | fail "no binds") (by decide) (by exact locs rfl) (by exact rfl) (by exact rfl) (by exact rfl) ?_); k_whole; intro L' h' F' N' B' X' T'; (try dsimp only); (try k_lift B'); (try k_fold))
  k_with "my enter0C" => ((refine code_defC0 (by exact rfl) (by exact rfl) (by first | exact rfl | assumption) (by k_asm) (by k_asm) (by k_asm) (by k_asm) (by k_is) (by k_is) (by walk_at "my room") (by first | exact BindsTo.of_eq rfl | exact binds_K (by k_in) rfl (by k_is) rfl rfl rfl | fail "no binds") (by exact rfl) (by decide +kernel) (by exact rfl) (by exact rfl) (by exact rfl) ?_); k_whole; intro L' h' tk' cells' F' N' Y' B' X' T'; k_cells Y'; (try simp only [List.cons_append, List.nil_append] at N'); (try dsimp only); (try k_lift B'); (try k_fold))
  k_with "my own" => (k_here; (with_reducible show wpAny _ _ (eval (Expr.ListComp _ [⟨_, Expr.Call _ _ _ _, _, _⟩] _ _) _) _ _ _); (rename Fr _ _ _ _ => lF'); k_dflt (refine ListComp_S lF' (by rfl) (by decide) (by rfl) (by decide) (by rfl) ?_))
  k_with "my own" => (k_here; (with_reducible show wpAny _ _ (binaryOp Operator.FloorDiv (Value.int _ _) (Value.int _ _)) _ _ _); (refine floordiv_int (pow256_ne _) ?_ (Or.inl (p256_room (by assumption)))))
  k_dflt (walk_at "my enter0C")
  walk_at "my steps"
  (k_here; k_dflt (refine srcS_rng n (fun i => (x.fdiv (256 ^ ((n : Int) - 1 - (i : Int)).toNat)).fmod 256) (by rfl) (by k_asm) (by k_asm) (by assumption) (by rfl) (by omega) ?_ ?_))
  · intro i ti I oI C oC D ys m₂ h tk E' hi hC hx F' N'
    walk_at "my steps"
    all_goals exact CInt.intro rfl (by assumption) (by assumption)
  intro g ys nA hnA hys
  replace hys : IntsAre ys (octsG n x) := by rw [hnA] at hys; exact hys
  clear hnA
  k_with "my own" => (k_here; (with_reducible show wpAny _ _ (call (Value.type "bytes") [Value.ref _]) _ _ _); (with_reducible rename Fr _ _ _ _ => F'); (with_reducible rename News _ _ _ _ => N'); (refine KBa.make_K F' N' (by rfl) (News.isList N' (.head _)) hys (octsG_in _ _) (Nat.le_trans (Nat.le_of_eq (octsG_len _ _)) (Nat.le_trans (by assumption) (by decide))) ?_))
  walk_at "my steps"
  all_goals exact hret _ _ _ ⟨_, rfl⟩ (by assumption) (news_keep N0 (by assumption))
set_option maxRecDepth 100000 in
set_option maxHeartbeats 8000000 in
theorem c_listing (w : World) (mean : ExcName → Option Value) (mg mb : Str → Option Value) (news : List (Addr × Obj)) (la : Addr) (vs : List Value) (ns : List Int) :
   ClH w mean mg mb 4 189 news (fun h => h.IsList la vs.toArray ∧ IntsAre vs ns ∧ ns.length = 12 ∧ ∀ z ∈ ns, 0 ≤ z ∧ z ≤ 1) [.ref la] (fun v => ∃ t, v = .str (lbS ns) t) := by
  w_top off
  k_with_none
  k_with "my stop" => ((fail_if_success (with_reducible show InvEndN _ _ _ _ _ _ _)); (fail_if_success (with_reducible show KswEnd _ _ _ _ _ _ _ _ _ _ _ _)); (fail_if_success (with_reducible show LoopStep3 _ _ _ _ _ _ _ _ _ _)); (fail_if_success (with_reducible show LCg.CompSrc _ _ _ _ _ _ _ _ _ _ _ _ _ _)))
  k_with "my step" => (first | (k_unfold; (try dsimp only)) | (walk_at "my stop"; (first | walk_at "my own" | walk1 | (dsimp only; walk1)); (all_goals (try walk_at "my norm"))) | (leave1; (try dsimp only)) | fail "no step")
  k_with "my steps" => (repeat' walk_at "my step")
  k_with "my stepsW" => (repeat' ((fail_if_success (with_reducible show wpAny _ _ (exec (Stmt.While _ _ _ _) _) _ _ _)); walk_at "my step"))
  k_with "my norm" => ((try dsimp only); (try ((with_reducible refine wpAny_tok ?_); intro tk9)))
  k_with "my room" => (first | exact room_rm _ (by decide) | exact room_of (k := 0) (by assumption) (by decide) | exact room_of (k := 1) (by assumption) (by decide) | exact room_of (k := 2) (by assumption) (by decide) | exact room_of (k := 3) (by assumption) (by decide) | exact room_of2 (by assumption) (by decide))
  k_with "my units" => (first | exact room_um _ (by decide) | exact room_of2 (by assumption) (by decide) | ktr_units)
  unfold ClH; k_fill
  intro dp un gd cn cs a ccd cl outer A₀ base h₀ L m s Q E p9 lo9 B0 F0 X0 N0 T0 hk hpre hd hu hret
  refine wpAny_call ?_
  k_with "my own" => (k_here; (with_reducible show wpAny _ _ (call (Value.ref _) _ _) _ _ _); k_dflt (refine wpAny_call ?_; (refine code_def1 (by exact rfl) (by exact rfl) (by first | exact rfl | assumption) (by k_asm) (by k_asm) (by k_asm) (by k_asm) (by k_asm) (by k_is) (by k_is) (by walk_at "my room") (by first | exact BindsTo.of_eq rfl | exact binds_K (by k_in) rfl (by k_is) rfl rfl rfl | fail "no binds") (by decide) (by exact locs rfl) (by exact rfl) (by exact rfl) (by exact rfl) ?_); k_whole; intro g' L' h' FG' F' N' B' X' T'; (try dsimp only); (try k_lift B'); (try k_fold)))
  k_with "my enter0" => ((refine code_def0 (by exact rfl) (by exact rfl) (by first | exact rfl | assumption) (by k_asm) (by k_asm) (by k_asm) (by k_asm) (by k_is) (by k_is) (by walk_at "my room") (by first | exact BindsTo.of_eq rfl | exact binds_K (by k_in) rfl (by k_is) rfl rfl rfl | fail "no binds") (by decide) (by exact locs rfl) (by exact rfl) (by exact rfl) (by exact rfl) ?_); k_whole; intro L' h' F' N' B' X' T'; (try dsimp only); (try k_lift B'); (try k_fold))
  obtain ⟨hL, hvi, hnl, hb⟩ := hpre
  have hbit := gb_rng hb
  k_with "my own" => ((with_reducible show ite _ _ _); (fail_if_success k_closed); refine ite_str4 (by decide +kernel) (by decide +kernel) ?_; intro u9 hu9 hl9)
  k_with "my own" => ((with_reducible show wpAny _ _ (binaryOp Operator.Add (Value.str _ _) (Value.str _ _)) _ _ _); (refine add_strL (by assumption) (by assumption) (by decide) ?_); intro z9 hz9 hl9 t9 k9)
  k_with "my own" => ((with_reducible show wpAny _ _ (subscriptTail _ _ (Value.str _ _) (Value.int _ _)) _ _ _); (first | refine item_strG 2 (hbit _).1 (hbit _).2 (by decide +kernel) (by decide) ?_ | refine item_strG 4 (gb2_rng (hbit _) (hbit _)).1 (gb2_rng (hbit _) (hbit _)).2 (by omega) (by decide) ?_); intro u9 hu9 hl9 t9 k9)
  k_with "my own" => (k_here; (with_reducible show wpAny _ _ (subscriptTail _ _ (Value.ref _) (Value.int _ _)) _ _ _); (rename Fr _ _ _ _ => lF'); (refine item_int hL hvi lF' (by omega) (by omega) (by omega) ?_); intro t9)
  k_with "my own" => (k_here; (with_reducible show wpAny _ _ (exec (Stmt.For (Expr.Name _ _) (Expr.Tuple _ _ _) _ [] _) _) _ _ _); (rename Fr _ _ _ _ => lF'); k_dflt (refine For_T lF' (by rfl) (by rfl) ?_))
  have hlen0 : (Str.ofString "-").length ≤ 1 := by decide +kernel
  k_dflt (walk_at "my enter0")
  repeat' ((fail_if_success (with_reducible show wpAny _ _ (pyIter _) _ _ _)); walk_at "my step")
  rename Fr _ _ _ _ => lF
  rename News _ _ _ _ => lN
  refine kst_tup (σ := Str × Tok) (fun _ => []) (fun c => [(Str.ofString "text", .str c.1 c.2)]) (fun _ => True) [] (fun pre c => c.1 = lbP ns pre ∧ c.1.length ≤ 1 + 3 * pre.length) ⟨_, _⟩ (by rfl) lF lN ⟨_, (lN _ (.head _)).1, rfl, _, rfl⟩ (.cons _ _ (.cons _ _ (.cons _ _ .nil))) rfl (List.forall_mem_nil _) trivial (by kst_all) ⟨rfl, hlen0⟩ ?_ ?_
  · clear lF lN
    intro c pre post k t u h tk own hEq hOff _ hInv hFr hNews
    have hMk := kstMark
    obtain ⟨hk0, hk2, hpl⟩ := ls_k hEq
    obtain ⟨text, tt⟩ := c
    dsimp only at hInv hFr hNews ⊢
    obtain ⟨hI1, hI2⟩ := hInv
    have htl : text.length ≤ 7 := by omega
    simp only [kstB] at hFr
    simp only [List.nil_append] at hNews
    walk_at "my steps"
    rename News _ _ _ _ => nE'
    refine kst_end (Prod.mk _ _) (by assumption) nE' (by kst_in) (by intro p hp; kst_mem) (by rfl) trivial (by kst_all) (by kst_same) ⟨by subst_vars; rw [lbP_app]; rfl, ?_⟩
    simp only [List.length_append, List.length_cons, List.length_nil]
    omega
  clear lF lN
  intro c u h tk _ hInv hFr hNews
  obtain ⟨text, tt⟩ := c
  dsimp only at hInv hFr hNews ⊢
  simp only [kstB] at hFr
  have hq : text = lbS ns := hInv.1
  walk_at "my steps"
  all_goals exact hret _ _ _ ⟨_, congrArg (fun z => Value.str z _) hq⟩ (by assumption) (news_keep N0 (by assumption))
set_option maxRecDepth 100000 in
set_option maxHeartbeats 8000000 in
theorem c_carries (w : World) (mean : ExcName → Option Value) (mg mb : Str → Option Value) (news : List (Addr × Obj)) (x y : Int) (tk tk2 : Tok) :
   ClN w mean mg mb 4 196 news (fun _ => True) [.int x tk, .int y tk2] (fun v own => ∃ l vs n, v = .ref l ∧ own = [(l, W.listOf vs.toArray n)] ∧ IntsAre vs (crL x y 84)) := by
  w_top off
  k_with_none
  k_with "my stop" => ((fail_if_success (with_reducible show InvEndN _ _ _ _ _ _ _)); (fail_if_success (with_reducible show KswEnd _ _ _ _ _ _ _ _ _ _ _ _)); (fail_if_success (with_reducible show LoopStep3 _ _ _ _ _ _ _ _ _ _)); (fail_if_success (with_reducible show LCg.CompSrc _ _ _ _ _ _ _ _ _ _ _ _ _ _)))
  k_with "my step" => (first | (k_unfold; (try dsimp only)) | (walk_at "my stop"; (first | walk_at "my own" | walk1 | (dsimp only; walk1)); (all_goals (try walk_at "my norm"))) | (leave1; (try dsimp only)) | fail "no step")
  k_with "my steps" => (repeat' walk_at "my step")
  k_with "my stepsW" => (repeat' ((fail_if_success (with_reducible show wpAny _ _ (exec (Stmt.While _ _ _ _) _) _ _ _)); walk_at "my step"))
  k_with "my norm" => ((try dsimp only); (try ((with_reducible refine wpAny_tok ?_); intro tk9)))
  k_with "my room" => (first | exact room_rm _ (by decide) | exact room_of (k := 0) (by assumption) (by decide) | exact room_of (k := 1) (by assumption) (by decide) | exact room_of (k := 2) (by assumption) (by decide) | exact room_of (k := 3) (by assumption) (by decide) | exact room_of2 (by assumption) (by decide))
  k_with "my units" => (first | exact room_um _ (by decide) | exact room_of2 (by assumption) (by decide) | ktr_units)
  unfold ClN; k_fill
  intro dp un gd cn cs a ccd cl outer A₀ base h₀ L m s Q E p9 lo9 B0 F0 X0 N0 T0 hk hpre hd hu hret
  refine wpAny_call ?_
  k_with "my own" => (k_here; (with_reducible show wpAny _ _ (call (Value.ref _) _ _) _ _ _); k_dflt (refine wpAny_call ?_; (refine code_def1 (by exact rfl) (by exact rfl) (by first | exact rfl | assumption) (by k_asm) (by k_asm) (by k_asm) (by k_asm) (by k_asm) (by k_is) (by k_is) (by walk_at "my room") (by first | exact BindsTo.of_eq rfl | exact binds_K (by k_in) rfl (by k_is) rfl rfl rfl | fail "no binds") (by decide) (by exact locs rfl) (by exact rfl) (by exact rfl) (by exact rfl) ?_); k_whole; intro g' L' h' FG' F' N' B' X' T'; (try dsimp only); (try k_lift B'); (try k_fold)))
  k_with "my enter0" => ((refine code_def0 (by exact rfl) (by exact rfl) (by first | exact rfl | assumption) (by k_asm) (by k_asm) (by k_asm) (by k_asm) (by k_is) (by k_is) (by walk_at "my room") (by first | exact BindsTo.of_eq rfl | exact binds_K (by k_in) rfl (by k_is) rfl rfl rfl | fail "no binds") (by decide) (by exact locs rfl) (by exact rfl) (by exact rfl) (by exact rfl) ?_); k_whole; intro L' h' F' N' B' X' T'; (try dsimp only); (try k_lift B'); (try k_fold))
  k_with "my own" => (k_here; (with_reducible show wpAny _ _ (newList _) _ _ _); (with_reducible rename Fr _ _ _ _ => F'); (with_reducible rename News _ _ _ _ => N'); k_dflt (refine newList_L F' N' ?_ (by size_fits)); intro l' h' F' N' l1 l2; (try k_lt l1); (try k_sweep))
  k_dflt (walk_at "my enter0")
  repeat' ((fail_if_success (with_reducible show wpAny _ _ (pyIter _) _ _ _)); walk_at "my step")
  rename Fr _ _ _ _ => lF
  rename News _ _ _ _ => lN
  rename IsRange _ _ _ _ _ _ _ _ => hR
  obtain ⟨l', el'⟩ := news_head lN
  subst el'
  have hlt : s.heap.objs.size < l' := Nat.lt_of_le_of_lt lF.above (by assumption)
  refine kst_range (σ := C1) (n := 83) (fun c => (l', W.listOf c.vs.toArray c.n) :: []) (fun _ => []) (fun c => IntsAre c.vs c.ns) [] (fun pre c => c.ns = crL x y (pre.length + 1)) ⟨[_], [0], 0⟩ (by rfl) hR (by decide) (by rfl) lF lN (.cons _ _ .nil) (by kst_all) rfl ?_ ?_
  · clear lF lN hR
    intro c pre k t u h tk own hk0 hk1 hOff hFacts hInv hFr hNews
    have hMk := kstMark
    obtain ⟨vs, ns, ne⟩ := c
    dsimp only at hFacts hInv hFr hNews ⊢
    subst hInv
    simp only [kstB] at hFr
    simp only [List.cons_append, List.nil_append] at hNews
    simp only [List.map_cons, List.map_nil] at hOff
    have hlen := crL_len x y (pre.length + 1)
    have hvs : vs.length ≤ 100 := by rw [hFacts.length, hlen]; omega
    have hget := crL_get x y (Nat.lt_succ_self pre.length)
    have hkn : k.toNat = pre.length := by omega
    k_with "my own" => (k_here; (with_reducible show wpAny _ _ (subscriptTail _ _ (Value.ref _) (Value.int _ _)) _ _ _); (rename News _ _ _ _ => lN'); (refine item_led lN' (by k_mem) hFacts (by omega) (by omega) (by omega) ?_); intro t9)
    repeat' ((fail_if_success (with_reducible show wpAny _ _ (eval (Expr.IfExp _ _ _ _) _) _ _ _)); walk_at "my step")
    refine wpAny_int (cr x y (pre.length + 1)) ?_ ?_
    · walk_at "my steps"
      · exact IntIs.intro (cr_t hk0 (by assumption) (by rw [hkn]; exact hget))
      · exact IntIs.intro (cr_f hk0 (by assumption) (by rw [hkn]; exact hget))
    intro tb tk1
    walk_at "my steps"
    rename News _ _ _ _ => nE'
    try simp only [List.push_toArray] at nE'
    refine kst_end (C1.mk _ _ _) (by assumption) nE' (by kst_in) (by intro p hp; kst_mem) (by rfl) (by k_intsEnd) (by kst_all) (by kst_same) ?_
    rw [List.length_append]
    exact (crL_app _ _ _).symm
  clear lF lN hR
  intro c u h tk hFacts hInv hFr hNews
  obtain ⟨vs, ns, ne⟩ := c
  dsimp only at hFacts hInv hFr hNews ⊢
  simp only [kstB] at hFr
  subst hInv
  walk_at "my steps"
  all_goals exact hret _ _ _ _ ⟨_, _, _, rfl, rfl, hFacts⟩ (List.forall_mem_cons.mpr ⟨lt_base N0 hlt, List.forall_mem_nil _⟩) (by assumption) (news_both (by assumption) (news_keep N0 (by assumption)))
set_option maxRecDepth 100000 in
set_option maxHeartbeats 8000000 in
theorem c_told (w : World) (mean : ExcName → Option Value) (mg mb : Str → Option Value) (news : List (Addr × Obj)) (la : Addr) (vs : List Value) (ss : List Str) (p : Int) (tk : Tok) :
   ClH w mean mg mb 4 203 news (fun h => h.IsList la vs.toArray ∧ StrsAre vs ss ∧ ss.length = 7 ∧ (∀ x ∈ ss, x.length = 10) ∧ 0 ≤ p ∧ p < 84 ∧ (p.fmod 12 = 0 ∨ p.fmod 12 = 4 ∨ p.fmod 12 = 6 ∨ p.fmod 12 = 8)) [.ref la, .int p tk] (fun v => ∃ t, v = .int (toldOf ss p) t) := by
  w_top off
  k_with_none
  k_with "my stop" => ((fail_if_success (with_reducible show InvEndN _ _ _ _ _ _ _)); (fail_if_success (with_reducible show KswEnd _ _ _ _ _ _ _ _ _ _ _ _)); (fail_if_success (with_reducible show LoopStep3 _ _ _ _ _ _ _ _ _ _)); (fail_if_success (with_reducible show LCg.CompSrc _ _ _ _ _ _ _ _ _ _ _ _ _ _)))
  k_with "my step" => (first | (k_unfold; (try dsimp only)) | (walk_at "my stop"; (first | walk_at "my own" | walk1 | (dsimp only; walk1)); (all_goals (try walk_at "my norm"))) | (leave1; (try dsimp only)) | fail "no step")
  k_with "my steps" => (repeat' walk_at "my step")
  k_with "my stepsW" => (repeat' ((fail_if_success (with_reducible show wpAny _ _ (exec (Stmt.While _ _ _ _) _) _ _ _)); walk_at "my step"))
  k_with "my norm" => ((try dsimp only); (try ((with_reducible refine wpAny_tok ?_); intro tk9)))
  k_with "my room" => (first | exact room_rm _ (by decide) | exact room_of (k := 0) (by assumption) (by decide) | exact room_of (k := 1) (by assumption) (by decide) | exact room_of (k := 2) (by assumption) (by decide) | exact room_of (k := 3) (by assumption) (by decide) | exact room_of2 (by assumption) (by decide))
  k_with "my units" => (first | exact room_um _ (by decide) | exact room_of2 (by assumption) (by decide) | ktr_units)
  unfold ClH; k_fill
  intro dp un gd cn cs a ccd cl outer A₀ base h₀ L m s Q E p9 lo9 B0 F0 X0 N0 T0 hk hpre hd hu hret
  refine wpAny_call ?_
  k_with "my own" => (k_here; (with_reducible show wpAny _ _ (call (Value.ref _) _ _) _ _ _); k_dflt (refine wpAny_call ?_; (refine code_def1 (by exact rfl) (by exact rfl) (by first | exact rfl | assumption) (by k_asm) (by k_asm) (by k_asm) (by k_asm) (by k_asm) (by k_is) (by k_is) (by walk_at "my room") (by first | exact BindsTo.of_eq rfl | exact binds_K (by k_in) rfl (by k_is) rfl rfl rfl | fail "no binds") (by decide) (by exact locs rfl) (by exact rfl) (by exact rfl) (by exact rfl) ?_); k_whole; intro g' L' h' FG' F' N' B' X' T'; (try dsimp only); (try k_lift B'); (try k_fold)))
  k_with "my enter0" => ((refine code_def0 (by exact rfl) (by exact rfl) (by first | exact rfl | assumption) (by k_asm) (by k_asm) (by k_asm) (by k_asm) (by k_is) (by k_is) (by walk_at "my room") (by first | exact BindsTo.of_eq rfl | exact binds_K (by k_in) rfl (by k_is) rfl rfl rfl | fail "no binds") (by decide) (by exact locs rfl) (by exact rfl) (by exact rfl) (by exact rfl) ?_); k_whole; intro L' h' F' N' B' X' T'; (try dsimp only); (try k_lift B'); (try k_fold))
  obtain ⟨hL, hvi, hnl, hss, hp0, hp1, hpq⟩ := hpre
  have hf0 : 0 ≤ p.fdiv 12 := by rw [Int.fdiv_eq_ediv_of_nonneg _ (by decide)]; omega
  have hf1 : p.fdiv 12 < 7 := by rw [Int.fdiv_eq_ediv_of_nonneg _ (by decide)]; omega
  have hsl := getD_len hss (i := (p.fdiv 12).toNat) (by omega)
  k_with "my own" => (k_here; (with_reducible show wpAny _ _ (subscriptTail _ _ (Value.ref _) (Value.int (Int.fdiv _ _) _)) _ _ _); (rename Fr _ _ _ _ => lF'); (refine item_strs hL hvi lF' (by omega) (by omega) (by omega) ?_); intro t9)
  k_with "my own" => ((with_reducible show wpAny _ _ (subscriptTail _ _ (Value.str _ _) (Value.int _ _)) _ _ _); (refine item_strG 10 (ix_rng _).1 (ix_rng _).2 hsl (by decide) ?_); intro u9 hu9 hl9 t9 k9)
  k_dflt (walk_at "my enter0")
  repeat' ((fail_if_success (with_reducible show wpAny _ _ (eval (Expr.Subscript (Expr.Dict _ _ _) _ _) _) _ _ _)); walk_at "my step")
  rename Fr _ _ _ _ => lF
  rename News _ _ _ _ => lN
  refine wpAny_cint lF lN (ix (p.fmod 12)) ?_ ?_
  · k_with "my own" => ((with_reducible show wpAny _ _ (subscriptTail (Expr.Dict _ _ _) _ (Value.ref _) (Value.int (Int.fmod _ _) _)) _ _ _); (rcases hpq with hq | hq | hq | hq); (all_goals rw [hq]))
    walk_at "my steps"
    all_goals exact CInt.intro (by decide) (by assumption) News.nil
  clear lF lN
  intro t9 h9 tk9 F9 N9
  walk_at "my steps"
  · exact hret _ _ _ ⟨_, congrArg (fun z => Value.int z _) (told_t (by assumption) (by assumption))⟩ (by assumption) (news_keep N0 (by assumption))
  · exact hret _ _ _ ⟨_, congrArg (fun z => Value.int z _) (told_f (by assumption) (by assumption))⟩ (by assumption) (news_keep N0 (by assumption))
set_option maxRecDepth 100000 in
set_option maxHeartbeats 8000000 in
theorem c_columns (w : World) (mean : ExcName → Option Value) (mg mb : Str → Option Value) (news : List (Addr × Obj)) (la : Addr) (vs : List Value) (ss : List Str) (x y wd : Int) (n : Nat) (t1 t2 t3 t4 : Tok) :
   ClN w mean mg mb 6 210 news (fun h => h.IsList la vs.toArray ∧ StrsAre vs ss ∧ ss.length = 7 ∧ (∀ u ∈ ss, u.length = 10) ∧ ColOk wd n) [.int x t1, .int y t2, .ref la, .int wd t3, .int (n : Int) t4] (fun v own => ∃ r l0 l1 l2, ∃ c : C3, v = .ref r ∧ own = (r, W.listOf #[.ref l0, .ref l1, .ref l2] 0) :: c.led l0 l1 l2 ∧ c.facts ∧ c.a.ns = colF x wd n ∧ c.b.ns = colF y wd n ∧ c.c.ns = colS ss x y wd n) := by
  w_top off
  k_with_none
  k_with "my stop" => ((fail_if_success (with_reducible show InvEndN _ _ _ _ _ _ _)); (fail_if_success (with_reducible show KswEnd _ _ _ _ _ _ _ _ _ _ _ _)); (fail_if_success (with_reducible show LoopStep3 _ _ _ _ _ _ _ _ _ _)); (fail_if_success (with_reducible show LCg.CompSrc _ _ _ _ _ _ _ _ _ _ _ _ _ _)))
  k_with "my step" => (first | (k_unfold; (try dsimp only)) | (walk_at "my stop"; (first | walk_at "my own" | walk1 | (dsimp only; walk1)); (all_goals (try walk_at "my norm"))) | (leave1; (try dsimp only)) | fail "no step")
  k_with "my steps" => (repeat' walk_at "my step")
  k_with "my stepsW" => (repeat' ((fail_if_success (with_reducible show wpAny _ _ (exec (Stmt.While _ _ _ _) _) _ _ _)); walk_at "my step"))
  k_with "my norm" => ((try dsimp only); (try ((with_reducible refine wpAny_tok ?_); intro tk9)))
  k_with "my room" => (first | exact room_rm _ (by decide) | exact room_of (k := 0) (by assumption) (by decide) | exact room_of (k := 1) (by assumption) (by decide) | exact room_of (k := 2) (by assumption) (by decide) | exact room_of (k := 3) (by assumption) (by decide) | exact room_of2 (by assumption) (by decide))
  k_with "my units" => (first | exact room_um _ (by decide) | exact room_of2 (by assumption) (by decide) | ktr_units)
  unfold ClN; k_fill
  intro dp un gd cn cs a ccd cl outer A₀ base h₀ L m s Q E p9 lo9 B0 F0 X0 N0 T0 hk hpre hd hu hret
  refine wpAny_call ?_
  k_with "my own" => (k_here; (with_reducible show wpAny _ _ (call (Value.ref _) _ _) _ _ _); k_dflt (refine wpAny_call ?_; (refine code_def1 (by exact rfl) (by exact rfl) (by first | exact rfl | assumption) (by k_asm) (by k_asm) (by k_asm) (by k_asm) (by k_asm) (by k_is) (by k_is) (by walk_at "my room") (by first | exact BindsTo.of_eq rfl | exact binds_K (by k_in) rfl (by k_is) rfl rfl rfl | fail "no binds") (by decide) (by exact locs rfl) (by exact rfl) (by exact rfl) (by exact rfl) ?_); k_whole; intro g' L' h' FG' F' N' B' X' T'; (try dsimp only); (try k_lift B'); (try k_fold)))
  k_with "my enter0" => ((refine code_def0 (by exact rfl) (by exact rfl) (by first | exact rfl | assumption) (by k_asm) (by k_asm) (by k_asm) (by k_asm) (by k_is) (by k_is) (by walk_at "my room") (by first | exact BindsTo.of_eq rfl | exact binds_K (by k_in) rfl (by k_is) rfl rfl rfl | fail "no binds") (by decide) (by exact locs rfl) (by exact rfl) (by exact rfl) (by exact rfl) ?_); k_whole; intro L' h' F' N' B' X' T'; (try dsimp only); (try k_lift B'); (try k_fold))
  k_with "my own" => (k_here; (with_reducible show wpAny _ _ (newList _) _ _ _); (with_reducible rename Fr _ _ _ _ => F'); (with_reducible rename News _ _ _ _ => N'); k_dflt (refine newList_L F' N' ?_ (by size_fits)); intro l' h' F' N' l1 l2; (try k_lt l1); (try k_sweep))
  obtain ⟨hL, hvi, hnl, hss, hok⟩ := hpre
  have hW0 := hok.w0
  have hW1 := hok.w1
  have hn1 := hok.n1
  k_with "my own" => (k_here; (with_reducible show wpAny _ _ (call (Value.ref 203) [Value.ref _, Value.int _ _]) _ _ _); k_dflt (refine c_told _ _ _ _ _ _ _ _ _ _ _ _ _ _ _ _ _ _ _ _ _ _ _ _ _ _ _ _ _ (by k_asm) (by k_asm) (by k_asm) (by k_asm) (by k_asm) (by first | exact rfl | assumption) ⟨hL.at (Fr.keep (by assumption) _), hvi, hnl, hss, hpl⟩ (by walk_at "my room") (by walk_at "my units") ?_; intro v9 h9 tk9 hv9 F9 N9; obtain ⟨t9, hb9⟩ := hv9; subst hb9; (try dsimp only)))
  k_dflt (walk_at "my enter0")
  repeat' ((fail_if_success (with_reducible show wpAny _ _ (pyIter _) _ _ _)); walk_at "my step")
  rename Fr _ _ _ _ => lF
  rename News _ _ _ _ => lN
  rename IsRange _ _ _ _ _ _ _ _ => hR
  obtain ⟨e1, e2, e3, e4, q1, q2, q3, q4⟩ := news_four lN
  subst q1 q2 q3 q4
  have hlt : s.heap.objs.size < e4 := Nat.lt_of_le_of_lt lF.above (by assumption)
  refine kst_rangeD (σ := C3) (n := n) (fun c => (e1, W.listOf #[.ref e4, .ref e3, .ref e2] 0) :: c.led e4 e3 e2) (fun _ => []) (fun c => c.facts) [Str.ofString "one", Str.ofString "two"] (fun pre c => c.a.ns = pre.map (fig x wd) ∧ c.b.ns = pre.map (fig y wd) ∧ c.c.ns = pre.map (figS ss x y wd)) ⟨⟨[], [], 0⟩, ⟨[], [], 0⟩, ⟨[], [], 0⟩⟩ (by rfl) hR (small_down hn1) (size_down n) lF lN ⟨.nil, .nil, .nil⟩ (by kst_all) ⟨rfl, rfl, rfl⟩ ?_ ?_
  · clear lF lN hR
    intro c pre k t u h tk own hk0 hk1 hOff hFacts hInv hFr hNews
    have hMk := kstMark
    obtain ⟨⟨v0, z0, n0⟩, ⟨v1, z1, n1⟩, ⟨v2, z2, n2⟩⟩ := c
    obtain ⟨hf0, hf1, hf2⟩ := hFacts
    dsimp only at hf0 hf1 hf2 hInv hFr hNews ⊢
    obtain ⟨hi0, hi1, hi2⟩ := hInv
    have hpl := hok.pl k (by omega) (by omega)
    have hk9 : 0 ≤ wd * k := hpl.1
    have hv0 : v0.length ≤ 20 := by rw [hf0.length, hi0, List.length_map]; omega
    have hv1 : v1.length ≤ 20 := by rw [hf1.length, hi1, List.length_map]; omega
    have hv2 : v2.length ≤ 20 := by rw [hf2.length, hi2, List.length_map]; omega
    simp only [kstB] at hFr
    simp only [C3.led, List.cons_append, List.nil_append] at hNews
    simp only [C3.led, List.map_cons, List.map_nil] at hOff
    k_with "my own" => (k_here; (with_reducible show wpAny _ _ (binaryOp Operator.Mult (Value.int wd _) (Value.int k _)) _ _ _); (refine PyProof.Rows.mul_int ?_ (mul_ok (by omega) (by omega))))
    k_with "my own" => (k_here; (with_reducible show wpAny _ _ (binaryOp Operator.Mod (Value.int _ _) (Value.int _ _)) _ _ _); (refine mod_int (pow2_ne _) ?_))
    walk_at "my steps"
    rename News _ _ _ _ => nE'
    try simp only [List.push_toArray] at nE'
    subst hi0 hi1 hi2
    refine kst_end (C3.mk (C1.mk _ _ _) (C1.mk _ _ _) (C1.mk _ _ _)) (by assumption) nE' (by kst_in) (by intro p hp; kst_mem) (by rfl) ⟨by k_intsEnd, by k_intsEnd, by k_intsEnd⟩ (by kst_all) (by kst_same) ⟨(List.map_append ..).symm, (List.map_append ..).symm, (List.map_append ..).symm⟩
  clear lF lN hR
  intro c u h tk hFacts hInv hFr hNews
  obtain ⟨⟨v0, z0, n0⟩, ⟨v1, z1, n1⟩, ⟨v2, z2, n2⟩⟩ := c
  dsimp only at hInv hFr hNews ⊢
  simp only [kstB] at hFr
  walk_at "my steps"
  all_goals exact hret _ _ _ _ ⟨e1, e4, e3, e2, _, rfl, rfl, hFacts, hInv.1, hInv.2.1, hInv.2.2⟩ (List.forall_mem_cons.mpr ⟨lt_base N0 (by omega), List.forall_mem_cons.mpr ⟨lt_base N0 (by omega), List.forall_mem_cons.mpr ⟨lt_base N0 (by omega), List.forall_mem_cons.mpr ⟨lt_base N0 (by omega), List.forall_mem_nil _⟩⟩⟩⟩) (by assumption) (news_both (by assumption) (news_keep N0 (by assumption)))
set_option maxRecDepth 100000 in
set_option maxHeartbeats 0 in
theorem c_sum : ∀ (w : World) (mean : ExcName → Option Value) (mg mb : Str → Option Value) (news : List (Addr × Obj)) (a b : Int) (ta tb : Tok), Cl w mean mg mb 9 215 news (0 ≤ a ∧ a < 2 ^ 71 ∧ 0 ≤ b ∧ b < 2 ^ 71) [.int a ta, .int b tb] (fun v => v = .bool true) := by
  intro w mean mg mb news a b ta tb
  w_top off
  k_with_none
  k_with "my stop" => ((fail_if_success (with_reducible show InvEndN _ _ _ _ _ _ _)); (fail_if_success (with_reducible show KswEnd _ _ _ _ _ _ _ _ _ _ _ _)); (fail_if_success (with_reducible show LoopStep3 _ _ _ _ _ _ _ _ _ _)); (fail_if_success (with_reducible show LCg.CompSrc _ _ _ _ _ _ _ _ _ _ _ _ _ _)))
  k_with "my step" => (first | (k_unfold; (try dsimp only)) | (walk_at "my stop"; (first | walk_at "my own" | walk1 | (dsimp only; walk1)); (all_goals (try walk_at "my norm"))) | (leave1; (try dsimp only)) | fail "no step")
  k_with "my steps" => (repeat' walk_at "my step")
  k_with "my stepsW" => (repeat' ((fail_if_success (with_reducible show wpAny _ _ (exec (Stmt.While _ _ _ _) _) _ _ _)); walk_at "my step"))
  k_with "my norm" => ((try dsimp only); (try ((with_reducible refine wpAny_tok ?_); intro tk9)))
  k_with "my room" => (first | exact room_rm _ (by decide) | exact room_of (k := 0) (by assumption) (by decide) | exact room_of (k := 1) (by assumption) (by decide) | exact room_of (k := 2) (by assumption) (by decide) | exact room_of (k := 3) (by assumption) (by decide) | exact room_of2 (by assumption) (by decide))
  k_with "my units" => (first | exact room_um _ (by decide) | exact room_of2 (by assumption) (by decide) | ktr_units)
  unfold Cl; k_fill
  intro dp un gd cn cs fa ccd cl outer A₀ base h₀ L m s Q E p9 lo9 B0 F0 X0 N0 T0 hk hpre hd hu hret
  obtain ⟨ha0, ha1, hb0, hb1⟩ := hpre
  refine wpAny_call ?_
  k_with "my enter0C" => ((refine code_defC0 (by exact rfl) (by exact rfl) (by first | exact rfl | assumption) (by k_asm) (by k_asm) (by k_asm) (by k_asm) (by k_is) (by k_is) (by walk_at "my room") (by first | exact BindsTo.of_eq rfl | exact binds_K (by k_in) rfl (by k_is) rfl rfl rfl | fail "no binds") (by exact rfl) (by decide +kernel) (by exact rfl) (by exact rfl) (by exact rfl) ?_); k_whole; intro L' h' tk' cells' F' N' Y' B' X' T'; k_cells Y'; (try simp only [List.cons_append, List.nil_append] at N'); (try dsimp only); (try k_lift B'); (try k_fold))
  k_dflt (walk_at "my enter0C")
  k_with "my own" => (k_here; (with_reducible show wpAny _ _ (call (Value.ref 196) [Value.int _ _, Value.int _ _]) _ _ _); k_dflt (refine c_carries _ _ _ _ _ _ _ _ _ _ _ _ _ _ _ _ _ _ _ _ _ _ _ _ _ _ _ _ (by k_asm) (by k_asm) (by k_asm) (by k_asm) (by k_asm) (by first | exact rfl | assumption) trivial (by walk_at "my room") (by walk_at "my units") ?_; intro v9 own9 h9 tk9 hv9 lo9 F9 N9; obtain ⟨l9, vs9, n9, e9, o9, hc9⟩ := hv9; subst e9 o9; (replace lo9 := lo9 _ (.head _)); (try k_lt lo9); (try simp only [List.cons_append, List.nil_append] at N9); (try dsimp only)))
  k_with "my own" => (k_here; (with_reducible show wpAny _ _ (eval (Expr.ListComp _ [⟨_, Expr.Call _ _ _ _, _, _⟩] _ _) _) _ _ _); (rename Fr _ _ _ _ => lF'); k_dflt (refine ListComp_S lF' (by rfl) (by decide) (by rfl) (by decide) (by rfl) ?_))
  walk_at "my steps"

  k_with "my own" => (k_here; (with_reducible show wpAny _ _ (call (Value.ref 28) [Value.int _ _]) _ _ _); k_dflt (refine c_imode _ _ _ _ _ _ _ _ _ _ _ _ _ _ _ _ _ _ _ _ _ _ _ _ _ _ (by k_asm) (by k_asm) (by k_asm) (by k_asm) (by k_asm) (by first | exact rfl | assumption) trivial (by walk_at "my room") (by walk_at "my units") ?_; walk_at "my call1"))
  k_with "my own" => (k_here; (with_reducible show wpAny _ _ (call (Value.ref 75) [Value.int _ _]) _ _ _); k_dflt (refine c_filemode _ _ _ _ _ _ _ _ _ _ _ _ _ _ _ _ _ _ _ _ _ _ _ _ _ _ (by k_asm) (by k_asm) (by k_asm) (by k_asm) (by k_asm) (by first | exact rfl | assumption) (plain_pre (imode_rng _)) (by walk_at "my room") (by walk_at "my units") ?_; walk_at "my call1"))
  k_with "my call1" => (intro v9 h9 tk9 hv9 F9 N9; obtain ⟨t9, hb9⟩ := hv9; subst hb9; (try dsimp only))
  rename Fr _ _ _ _ => lF
  rename News _ _ _ _ => lN
  rename IsRange _ _ _ _ _ _ _ _ => hR
  (k_here; k_dflt (refine srcS_vals 7 (fun i v => ∃ t, v = .str (lbS (slc a b i)) t) (by rfl) lF lN hR (by rfl) (by decide) ?_ ?_))
  · clear lF lN hR
    intro i ti I oI C oC D ys m₂ h tk E' hi hC hx F' N'
    walk_at "my steps"
    all_goals exact CVal.intro ⟨_, congrArg (fun z => Value.str z _) (fm_lb ha0 ha1 hb0 hb1 hi)⟩ (by assumption) (by assumption)
  clear hR
  intro g ys hys hyl
  have hst := strs_of hys hyl
  clear hys hyl lF lN
  walk_at "my steps"

  k_with "my own" => (k_here; (with_reducible show wpAny _ _ (subscriptTail _ (Expr.Slice _ _ none _) (Value.ref _) (Value.ref _)) _ _ _); (with_reducible rename Fr _ _ _ _ => F'); (with_reducible rename News _ _ _ _ => N'); k_dflt (refine kmk_slice_ints (s := ⟨_, _, _, _, _⟩) F' N' (News.isList N' (by k_mem)) (IsPart.int _ _) (IsPart.int _ _) hc9 (slc_are hc9 (by assumption)) rfl ?_ (by with_unfolding_all rfl) (by intro _; with_unfolding_all rfl) (slc_sz hc9)); intro D9 ws9 h9 F9 N9 l9 hi9 hc9' hle9)
  k_with "my own" => (k_here; (with_reducible show wpAny _ _ (call (Value.ref 189) [Value.ref _]) _ _ _); (rename News _ _ _ _ => N'); k_dflt (refine c_listing _ _ _ _ _ _ _ _ _ _ _ _ _ _ _ _ _ _ _ _ _ _ _ _ _ _ _ (by k_asm) (by k_asm) (by k_asm) (by k_asm) (by k_asm) (by first | exact rfl | assumption) ⟨News.isList N' (.head _), by assumption, slc_len _ _ (by assumption), slc_bit _ _ _⟩ (by walk_at "my room") (by walk_at "my units") ?_; (intro v9 h9 tk9 hv9 F9 N9; obtain ⟨t9, hb9⟩ := hv9; subst hb9; (try dsimp only))))
  rename Fr _ _ _ _ => lF
  rename News _ _ _ _ => lN
  rename IsRange _ _ _ _ _ _ _ _ => hR
  (k_here; k_dflt (refine srcS_vals 7 (fun i v => ∃ t, v = .str (lbS (slc a b i)) t) (by rfl) lF lN hR (by rfl) (by decide) ?_ ?_))
  · clear lF lN hR
    intro i ti I oI C oC D ys m₂ h tk E' hi hC hx F' N'
    walk_at "my steps"

    all_goals exact CVal.intro ⟨_, rfl⟩ (by assumption) (fun q hq => by rename News _ _ _ _ => nE'; exact nE' q (.tail _ hq))
  clear hR
  intro g ys2 hys hyl
  have hst2 := strs_of hys hyl
  clear hys hyl lF lN
  k_with "my own" => (k_here; (with_reducible show wpAny _ _ (compareOp CmpOp.NotEq (Value.ref _) (Value.ref _)) _ _ _); (rename News _ _ _ _ => N'); k_dflt (refine ne_lists (News.isList N' (by k_mem)) (News.isList N' (.head _)) (strs_len2 hst hst2) (by walk_at "my units") (strs_eqAt hst hst2) ?_))
  repeat' ((fail_if_success (with_reducible show wpAny _ _ (execs (Stmt.Assign [Expr.Name _ _] (Expr.List _ _) _ :: _) _) _ _ _)); walk_at "my step")

  have hwa : a.natAbs < 16 ^ 20 := by omega
  have hwb : (-b).natAbs < 16 ^ 20 := by omega
  have hwt : (a + b).natAbs < 16 ^ 20 := by omega
  k_with "my own" => (k_here; (with_reducible show wpAny _ _ (call (Value.ref 170) [Value.int _ _]) _ _ _); k_dflt (refine c_word _ _ _ _ _ _ _ _ _ _ _ _ _ _ _ _ _ _ _ _ _ _ _ _ _ _ (by k_asm) (by k_asm) (by k_asm) (by k_asm) (by k_asm) (by first | exact rfl | assumption) (by assumption) (by walk_at "my room") (by walk_at "my units") ?_; (intro v9 h9 tk9 hv9 F9 N9; obtain ⟨t9, hb9⟩ := hv9; subst hb9; (try dsimp only))))
  k_with "my own" => (k_here; (with_reducible show wpAny _ _ (exec (Stmt.Assign [Expr.Name _ _] (Expr.ListComp _ [⟨_, Expr.Tuple _ _ _, _, _⟩] _ _) _) _) _ _ _); k_dflt (refine Assign_ListComp_T (F₀ := by k_asm) (by rfl) (by with_unfolding_all rfl) (by rfl) (by decide) (by rfl) (by decide) (by rfl) (by rfl) (by rfl) ?_))
  walk_at "my steps"

  k_with "my own" => (k_here; (with_reducible show wpAny _ _ (call (Value.ref 182) [Value.int _ _, Value.int _ _]) _ _ _); k_dflt (refine c_octets _ _ _ _ _ _ 9 _ _ _ _ _ _ _ _ _ _ _ _ _ _ _ _ _ _ _ _ _ (by k_asm) (by k_asm) (by k_asm) (by k_asm) (by k_asm) (by first | exact rfl | assumption) (by decide) (by walk_at "my room") (by walk_at "my units") ?_; (intro v9 h9 tk9 hv9 F9 N9; obtain ⟨t9, hb9⟩ := hv9; subst hb9; (try dsimp only))))
  k_with "my own" => (k_here; (with_reducible show wpAny _ _ (call (Value.ref 148) [Value.bytes _ _]) _ _ _); k_dflt (refine c_b64encode _ _ _ _ _ _ _ _ _ _ _ _ _ _ _ _ _ _ _ _ _ _ _ _ _ _ (by k_asm) (by k_asm) (by k_asm) (by k_asm) (by k_asm) (by first | exact rfl | assumption) (oct9_pre _) (by walk_at "my room") (by walk_at "my units") ?_; (intro v9 h9 tk9 hv9 F9 N9; obtain ⟨t9, hb9⟩ := hv9; subst hb9; (try dsimp only))))
  rename Fr _ _ _ _ => lF
  rename News _ _ _ _ => lN
  refine srcT_led (fun i v => ∃ z t, [a, b, a + b][i]? = some z ∧ v = .bytes (txtB z) t) (by rfl) lF lN (.head _) rfl rfl (Nat.le_of_ble_eq_true rfl) ?_ ?_
  · clear lF lN
    intro i v I oI C oC D ys m₂ h tk E' hP hC hx F' N'
    have hv : ∃ z t, [a, b, a + b][i]? = some z ∧ v = .int z t := by
      rcases i with _ | _ | _ | i
      · exact ⟨_, _, rfl, by simpa using hP.symm⟩
      · exact ⟨_, _, rfl, by simpa using hP.symm⟩
      · exact ⟨_, _, rfl, by simpa using hP.symm⟩
      · simp at hP
    obtain ⟨z, t, hz, rfl⟩ := hv
    clear hP
    walk_at "my steps"
    all_goals exact CVal.intro ⟨_, _, hz, rfl⟩ (by assumption) (by assumption)
  intro g ys3 hys hyl
  obtain ⟨y0, y1, y2, rfl, ⟨z0, t0, g0, rfl⟩, ⟨z1, t1, g1, rfl⟩, ⟨z2, t2, g2, rfl⟩⟩ := vals3 hys hyl
  obtain rfl := Option.some.inj g0
  obtain rfl := Option.some.inj g1
  obtain rfl := Option.some.inj g2
  clear hys hyl lF lN g0 g1 g2
  repeat' ((fail_if_success (with_reducible show wpAny _ _ (execs (Stmt.For _ _ _ _ _ :: _) _) _ _ _)); walk_at "my step")
  (try dsimp only)
  rename Fr _ _ _ _ => F1
  rename News _ _ _ _ => N1
  replace N1 := news_sub N1 (.cons_cons _ (.cons _ (.cons_cons _ (.cons _ (.cons_cons _ (.cons _ (.cons_cons _ (.cons _ (.cons_cons _ (.cons_cons _ (.cons_cons _ (.cons_cons _ .slnil))))))))))))
  revert F0 N0 F1 N1
  clear hc9 hst2
  repeat (rename _ ∧ _ => z; clear z)
  repeat (rename Fr _ _ _ _ => z; clear z)
  repeat (rename News _ _ _ _ => z; clear z)
  intro F0 N0 F1 N1
  replace hst : StrsAre ys (LS a b) := hst
  k_with "my own" => (k_here; (with_reducible show wpAny _ _ (exec (Stmt.For (Expr.Tuple _ _ _) (Expr.Tuple _ _ _) _ [] _) _) _ _ _); k_dflt (refine For_ev ?_ (by intro x; rfl)))
  repeat' ((fail_if_success (with_reducible show wpAny _ _ (pyIter _) _ _ _)); walk_at "my step")
  repeat (rename _ ∧ _ => z; clear z)
  rename Fr _ _ _ _ => lF
  rename News _ _ _ _ => lN
  obtain ⟨e0, e1, e2, e3, e4, q0, q1, q2, q3, q4⟩ := news_five lN
  subst q0 q1 q2 q3 q4
  refine forLoop_tupL (fun l m₁ => (∀ v ∈ l, v = .ref e1 ∨ v = .ref e2) ∧ m₁ (Str.ofString "words") = some (.ref e4)) (by rfl) lF lN (.head _) rfl rfl (by passes_own) ⟨by intro v hv; simp only [List.mem_cons, List.not_mem_nil, or_false] at hv; exact hv.symm, rfl⟩ ?_ ?_
  · clear lF lN
    intro I v r m₁ it h tk off ⟨hv, hw⟩ hit F' N'
    refine turn_mid a b F' N' ?_ ?_
    · rcases hv v (.head _) with rfl | rfl
      all_goals walk_at "my steps"
      · exact Mid3.intro (n := 12) (by assumption) (by assumption) ⟨by k_mem, rfl, rfl, rfl, colOk6, turn6 ha0 ha1 hb0 hb1 _ _ _⟩
      · exact Mid3.intro (n := 20) (by assumption) (by assumption) ⟨by k_mem, rfl, rfl, rfl, colOk4, turn4 ha0 ha1 hb0 hb1 _ _ _⟩
    clear F' N'
    intro wd n tl to ws k t1 t2 h2 tk2 F2 N2 T
    k_with "my own" => (k_here; (with_reducible show wpAny _ _ (call (Value.ref 210) [Value.int _ _, Value.int _ _, Value.ref _, Value.int _ _, Value.int _ _]) _ _ _); (rename News _ _ _ _ => N'); k_dflt (refine c_columns _ _ _ _ _ _ _ _ _ _ _ _ _ _ _ _ _ _ _ _ _ _ _ _ _ _ _ _ _ _ _ _ _ _ _ (by k_asm) (by k_asm) (by k_asm) (by k_asm) (by k_asm) (by first | exact rfl | assumption) ⟨News.isList N' (by k_mem), hst, LS_len _ _, LS_10 _ _, T.ok⟩ (by walk_at "my room") (by walk_at "my units") ?_; (intro v9 own9 h9 tk9 hv9 lo9 F9 N9; obtain ⟨r9, l0, l1, l2, c9, e9, o9, hf9, i0, i1, i2⟩ := hv9; subst e9 o9; clear lo9; (try simp only [C3.led, List.cons_append, List.nil_append] at N9); (try dsimp only))))
    k_with "my own" => (k_here; (with_reducible show wpAny _ _ (eval (Expr.ListComp _ [⟨_, Expr.Call _ [_, _, _, _, _] _ _, _, _⟩] _ _) _) _ _ _); k_dflt (refine LCg.ListComp_U (F₀ := by k_asm) (by rfl) (by decide) (by rfl) (by decide) (by rfl) ?_))
    walk_at "my steps"
    rename Fr _ _ _ _ => lF
    rename News _ _ _ _ => lN
    have hT := T.mem
    have hcl := T.cls
    have hda := T.dat
    refine comp_led (fun j y => ∃ t, y = .bytes (byteArr ((zz a b wd n j).map sgI)) t) (by rfl) lF lN (.head _) (Nat.le_of_ble_eq_true rfl) ?_ ?_
    · clear lF lN
      intro i v I' oI C oC D ys' m₂ h tk E' hP hC hx F' N'
      obtain ⟨lj, vj, kj, rfl, hmj, hij⟩ := rows_in hf9 i0 i1 i2 hP
      walk_at "my steps"
      rename Fr _ _ _ _ => lF
      rename News _ _ _ _ => lN
      have hzl : ((zz a b wd n i).map sgI).length ≤ 20 := by rw [List.length_map, zz_len]; exact T.ok.n1
      refine comp_ints sgI (by rfl) lF lN (.tail _ (.tail _ (.tail _ (.tail _ (hmj _))))) hij (by rw [List.length_map] at hzl; omega) ?_ ?_
      · clear lF lN
        intro z tz I2 oI2 C2 oC2 D2 ys2 m3 h3 tk3 E3 hz hC3 hx3 F3 N3
        have hzr := zz_rng T.ok.w1 i z hz
        k_with "my own" => (k_here; (with_reducible show wpAny _ _ (subscriptTail _ _ (Value.bytes _ _) (Value.int _ _)) _ _ _); (refine item_B64 hzr.1 hzr.2 ?_); intro _ _)
        walk_at "my steps"
        all_goals exact CInt.intro rfl (by assumption) (by assumption)
      intro gh ys4 hys4
      clear lF lN
      k_with "my own" => (k_here; (with_reducible show wpAny _ _ (call (Value.type "bytes") [Value.ref _]) _ _ _); (with_reducible rename Fr _ _ _ _ => F'); (with_reducible rename News _ _ _ _ => N'); (refine KBa.make_K F' N' (by rfl) (News.isList N' (.head _)) hys4 (sgI_in _) (Nat.le_trans hzl (by decide)) ?_))
      walk_at "my steps"
      all_goals exact CVal.intro ⟨_, rfl⟩ (by assumption) (fun q hq => by rename News _ _ _ _ => nE'; exact nE' q (.tail _ hq))
    intro gh ys5 hys5 hyl5
    clear lF lN
    k_with "my own" => (k_here; (with_reducible show wpAny _ _ (compareOp CmpOp.NotEq (Value.ref _) (Value.ref _)) _ _ _); (rename News _ _ _ _ => N'); k_dflt (refine ne_lists ⟨to, (N' _ (.tail _ (.tail _ (.tail _ (.tail _ (.tail _ (.tail _ hT)))))) ).1, hcl, _, hda⟩ (News.isList N' (.head _)) (T.len.trans hyl5.symm) (by walk_at "my units") (bytes3_eqAt T.eq hys5) ?_))
    walk_at "my steps"
    rename Fr _ _ _ _ => lF
    rename News _ _ _ _ => lN
    exact ⟨_, _, _, _, rfl, lF, fun q hq => lN q (.tail _ (.tail _ (.tail _ (.tail _ (.tail _ hq))))), fun p hp => Nat.ne_of_lt (off p hp), rfl, fun v' hv' => hv v' (.tail _ hv'), hw⟩
  clear lF lN
  intro m₁ h tk ⟨_, hw⟩ F1 N1
  rw [one_name hw] at F1
  clear hw
  replace N1 := news_sub N1 (.cons _ (.cons _ (.cons _ (.cons _ (.cons_cons _ (.cons_cons _ (.cons_cons _ (.cons_cons _ (.cons_cons _ (.cons_cons _ (.cons_cons _ .slnil)))))))))))
  k_with "my own" => (k_here; (with_reducible show wpAny _ _ (call (Value.ref 177) [Value.bytes _ _]) _ _ _); k_dflt (refine c_count _ _ _ _ _ _ _ _ _ _ _ _ _ _ _ _ _ _ _ _ _ _ _ _ _ _ (by k_asm) (by k_asm) (by k_asm) (by k_asm) (by k_asm) (by first | exact rfl | assumption) (wordA_pre (by assumption)) (by walk_at "my room") (by walk_at "my units") ?_; intro v9 h9 tk9 hv9 F9 N9; obtain ⟨t9, hb9⟩ := hv9; subst hb9; (try dsimp only)))
  k_with "my own" => (k_here; (with_reducible show wpAny _ _ (call (Value.ref 203) [Value.ref _, Value.int _ _]) _ _ _); (rename News _ _ _ _ => N'); k_dflt (refine c_told _ _ _ _ _ _ _ _ _ _ _ _ _ _ _ _ _ _ _ _ _ _ _ _ _ _ _ _ _ (by k_asm) (by k_asm) (by k_asm) (by k_asm) (by k_asm) (by first | exact rfl | assumption) ⟨News.isList N' (by k_mem), hst, LS_len _ _, LS_10 _ _, pl80 (by assumption)⟩ (by walk_at "my room") (by walk_at "my units") ?_; intro v9 h9 tk9 hv9 F9 N9; obtain ⟨t9, hb9⟩ := hv9; subst hb9; (try dsimp only)))
  k_with "my own" => (k_here; (with_reducible show wpAny _ _ (eval (Expr.ListComp _ [⟨_, Expr.Call _ _ _ _, _, _⟩] _ _) _) _ _ _); (rename Fr _ _ _ _ => lF'); k_dflt (refine ListComp_S lF' (by rfl) (by decide) (by rfl) (by decide) (by rfl) ?_))
  walk_at "my steps"
  rename Fr _ _ _ _ => lF
  rename News _ _ _ _ => lN
  rename IsRange _ _ _ _ _ _ _ _ => hR
  have hM := more_48 ha0 ha1 hb0 hb1
  have hFin := final_eq ha0 ha1 hb0 hb1
  simp only [moreOf, W64] at hM hFin
  generalize v64 (KBw.bInts (wordA (a + b).natAbs)) - v64 (KBw.bInts (wordA a.natAbs)) - v64 (KBw.bInts (wordA (-b).natAbs)) = M at *
  (k_here; k_dflt (refine srcS_rng 20 (fun i => 65 + toldOf (LS a b) (80 - 4 * (i : Int))) (by rfl) lF lN hR (by rfl) (by decide) ?_ ?_))
  · clear lF lN hR hM hFin
    intro i ti I oI C oC D ys' m₂ h' tk' E' hi hC hx F' N'
    walk_at "my steps"
    all_goals exact CInt.intro rfl (by assumption) (by assumption)
  intro g ys' nA hnA hys
  clear lF lN hR
  replace hys : IntsAre ys' (rowL a b) := by rw [hnA] at hys; exact hys
  clear hnA
  k_with "my own" => (k_here; (with_reducible show wpAny _ _ (call (Value.type "bytes") [Value.ref _]) _ _ _); (with_reducible rename Fr _ _ _ _ => F'); (with_reducible rename News _ _ _ _ => N'); (refine KBa.make_K F' N' (by rfl) (News.isList N' (.head _)) hys (rowL_in _ _) (by rw [rowL_len]; decide) ?_))
  k_with "my own" => (k_here; (with_reducible show wpAny _ _ (call (Value.ref 182) [Value.int _ _, Value.int 15 _]) _ _ _); k_dflt (refine c_octets _ _ _ _ _ _ 15 _ _ _ _ _ _ _ _ _ _ _ _ _ _ _ _ _ _ _ _ _ (by k_asm) (by k_asm) (by k_asm) (by k_asm) (by k_asm) (by first | exact rfl | assumption) (by decide) (by walk_at "my room") (by walk_at "my units") ?_; (intro v9 h9 tk9 hv9 F9 N9; obtain ⟨t9, hb9⟩ := hv9; subst hb9; (try dsimp only))))
  k_with "my own" => (k_here; (with_reducible show wpAny _ _ (call (Value.ref 148) [Value.bytes (byteArr (octsG 15 _)) _]) _ _ _); k_dflt (refine c_b64encode _ _ _ _ _ _ _ _ _ _ _ _ _ _ _ _ _ _ _ _ _ _ _ _ _ _ (by k_asm) (by k_asm) (by k_asm) (by k_asm) (by k_asm) (by first | exact rfl | assumption) (oct15_pre _) (by walk_at "my room") (by walk_at "my units") ?_; (intro v9 h9 tk9 hv9 F9 N9; obtain ⟨t9, hb9⟩ := hv9; subst hb9; (try dsimp only))))
  walk_at "my steps"
  · exact hret _ _ _ (congrArg Value.bool (beq_iff_eq.mpr hFin)) (by assumption) (news_keep N0 (by assumption))
  · exact absurd hM (by assumption)
def law02.tw691199897772300721 : Unit := ()
def law02.tw5528348792984854232 : Unit := ()
def law02.tw11990039614067172486 : Unit := ()
def law02.tw1855376938204319325 : Unit := ()
def law02.tw13045081305494474497 : Unit := ()
def law02.tw10862410098079042782 : Unit := ()
def law02.tw13269572159966905897 : Unit := ()
def law02.tw15279936415327195439 : Unit := ()
def law02.tw7966848236843684485 : Unit := ()
def law02.tw8376635005809692900 : Unit := ()
def law02.tw1185260781922082192 : Unit := ()
def law02.tw3326790986974254825 : Unit := ()
def law02.tw7716914061118245405 : Unit := ()
def law02.tw17246072139809577090 : Unit := ()
def law02.tw7616533049946222916 : Unit := ()
def law02.tw1381162361878078426 : Unit := ()
def law02.tw10856087746063560285 : Unit := ()
def law02.tw16416944529677541020 : Unit := ()
def law02.tw9038003799601143760 : Unit := ()
def law02.tw145396876785135184 : Unit := ()
def law02.tw10393509478760709350 : Unit := ()
def law02.tw1761705135840322746 : Unit := ()
def law02.tw130866948583109019 : Unit := ()
def law02.tw6368978809517949807 : Unit := ()
def law02.tw4541428470169540524 : Unit := ()
def law02.tw17789503524567672590 : Unit := ()
def law02.tw16725434089792086838 : Unit := ()
def law02.tw14529791715056949495 : Unit := ()
def law02.tw8088854471124877080 : Unit := ()
def law02.tw16289050965616822916 : Unit := ()
def law02.tw15642221367494256583 : Unit := ()
def law02.tw292319250341545894 : Unit := ()
def law02.tw15786804994471155617 : Unit := ()
def law02.tw16047457542175451834 : Unit := ()
def law02.tw12158462047625318990 : Unit := ()
def law02.tw16536087034426237756 : Unit := ()
def law02.tw9308690572589347788 : Unit := ()
def law02.tw14798713217389744266 : Unit := ()
def law02.tw7094617588999534772 : Unit := ()
def law02.tw16899149427684519 : Unit := ()
def law02.tw5910589296550067128 : Unit := ()
def law02.tw4002097355046490988 : Unit := ()
def law02.tw12502774735706500522 : Unit := ()
def law02.tw599847812700705795 : Unit := ()
def law02.tw8824736369805763480 : Unit := ()
def law02.tw8208927889354399061 : Unit := ()
def law02.tw3016042667574615597 : Unit := ()
def law02.tw3505930166093143927 : Unit := ()
def law02.tw9154167552539583154 : Unit := ()
def law02.tw2032168898783990495 : Unit := ()
def law02.tw11458259733483605537 : Unit := ()
def law02.tw1535275272887520759 : Unit := ()
def law02.tw9415048254635051273 : Unit := ()
def law02.tw10173391783938236586 : Unit := ()
def law02.tw6989068487318164293 : Unit := ()
def law02.tw17656496414247819679 : Unit := ()
def law02.tw15693175009220303977 : Unit := ()
def law02.tw8867901783647729802 : Unit := ()
def law02.tw13965565803098257060 : Unit := ()
def law02.tw15454619006561038506 : Unit := ()
def law02.tw2930047884349038411 : Unit := ()
def law02.tw17119764172087862152 : Unit := ()
def law02.tw7904571406361262759 : Unit := ()
def law02.tw233107852715387922 : Unit := ()
def law02.tw4609251451420051310 : Unit := ()
def law02.tw4322456128364264570 : Unit := ()
def law02.tw2932377234294586804 : Unit := ()
def law02.tw3559646754768365140 : Unit := ()
def law02.tw13736780271968351086 : Unit := ()
def law02.tw12910298377210405475 : Unit := ()
def law02.tw817771686075855331 : Unit := ()
def law02.tw3766527301006237466 : Unit := ()
def law02.tw5952314550148652173 : Unit := ()
def law02.tw16826405161935296732 : Unit := ()
def law02.tw16130998961393006193 : Unit := ()
def law02.tw10015740755600335887 : Unit := ()
def law02.tw14621836238410599391 : Unit := ()
def law02.tw18384337367238534838 : Unit := ()
def law02.tw4554775242189887236 : Unit := ()
def law02.tw10491900037547972210 : Unit := ()
def law02.tw10085108192025784595 : Unit := ()
def law02.tw195357039814935309 : Unit := ()
def law02.tw5736385407055248270 : Unit := ()
def law02.tw13205599626593684610 : Unit := ()
def law02.tw17200712067856455678 : Unit := ()
def law02.tw4397516396517113795 : Unit := ()
def law02.tw8054359169988293572 : Unit := ()
def law02.tw17874433686095366955 : Unit := ()
def law02.tw12285693088701553598 : Unit := ()
def law02.tw7989304185049972688 : Unit := ()
def law02.tw6534186741012266437 : Unit := ()
def law02.tw17656506376725044135 : Unit := ()
def law02.tw11135339407976377789 : Unit := ()
def law02.tw4399083868515125690 : Unit := ()
def law02.tw653484160685602802 : Unit := ()
def law02.tw3624772613303979295 : Unit := ()
def law02.tw4418820539713005086 : Unit := ()
def law02.tw5708038057900563849 : Unit := ()
def law02.tw12577474892876528398 : Unit := ()
def law02.tw11054632153335294254 : Unit := ()
def law02.tw16443981536247076783 : Unit := ()
def law02.tw15302801390118759891 : Unit := ()
def law02.tw9760704868036205536 : Unit := ()
def law02.tw1195372298772831506 : Unit := ()
def law02.tw14473577237074961045 : Unit := ()
def law02.tw7066022774850947649 : Unit := ()
def law02.tw9663921023237951412 : Unit := ()
def law02.tw5669293764716322957 : Unit := ()
def law02.tw6421830291164007456 : Unit := ()
def law02.tw15196049237739069509 : Unit := ()
def law02.tw2180940939003790376 : Unit := ()
def law02.tw8356621238293079380 : Unit := ()
def law02.tw138240792328242627 : Unit := ()
def law02.tw4113712027625811330 : Unit := ()
def law02.tw5269481058668835838 : Unit := ()
def law02.tw11287959568989137410 : Unit := ()
def law02.tw8303531378404823144 : Unit := ()
def law02.tw12758909091421349578 : Unit := ()
def law02.tw10560298394112599996 : Unit := ()
def law02.tw11241618234542035536 : Unit := ()
def law02.tw969353889636376461 : Unit := ()
def law02.tw11561829238474789561 : Unit := ()
def law02.tw9601659763587429737 : Unit := ()
def law02.tw3459134488161414708 : Unit := ()
def law02.tw10471919745643208041 : Unit := ()
def law02.tw9555791179150102212 : Unit := ()
def law02.tw3646555035903357064 : Unit := ()
def law02.tw13993816449772973523 : Unit := ()
def law02.tw6642192432938033781 : Unit := ()
def law02.tw5216031890288007665 : Unit := ()
def law02.tw16977394226403473601 : Unit := ()
def law02.tw3641910584783420527 : Unit := ()
def law02.tw8984488011939248847 : Unit := ()
def law02.tw8407127246213401734 : Unit := ()
def law02.tw4508407212516338941 : Unit := ()
def law02.tw4519290943902929975 : Unit := ()
def law02.tw13061614074522577045 : Unit := ()
def law02.tw9499172196566889414 : Unit := ()
def law02.tw10462896926375054642 : Unit := ()
def law02.tw12131550422841914057 : Unit := ()
def law02.tw14854344648987096811 : Unit := ()
def law02.tw15668131671010191851 : Unit := ()
def law02.tw10866297214401493091 : Unit := ()
def law02.tw8877435204667607252 : Unit := ()
def law02.tw1734699081558846817 : Unit := ()
def law02.tw11478012435357391013 : Unit := ()
def law02.tw9575217834431326467 : Unit := ()
def law02.tw3760019874774743792 : Unit := ()
def law02.tw854893228362825191 : Unit := ()
def law02.tw11672229448567093055 : Unit := ()
def law02.tw16672735318791521803 : Unit := ()
def law02.tw6914093000844019939 : Unit := ()
def law02.tw14370216172790832756 : Unit := ()
def law02.tw3299305232681401508 : Unit := ()
def law02.tw3437488969983361004 : Unit := ()
def law02.tw8980276918971808154 : Unit := ()
def law02.tw4696776103228754077 : Unit := ()
def law02.tw11762117009899502348 : Unit := ()
def law02.tw10286357344509432413 : Unit := ()
def law02.tw15670968865690987363 : Unit := ()
def law02.tw8201985416829597789 : Unit := ()
def law02.tw14730555061251716866 : Unit := ()
def law02.tw12689971128881688394 : Unit := ()
def law02.tw14559258118370277766 : Unit := ()
def law02.tw5295279219809379438 : Unit := ()
def law02.tw9829344144321501552 : Unit := ()
def law02.tw14298317666114942103 : Unit := ()
def law02.tw16088382973444856251 : Unit := ()
def law02.tw927344414403885824 : Unit := ()
def law02.tw18266843284470905879 : Unit := ()
def law02.tw749155454580409970 : Unit := ()
def law02.tw4176353105740368607 : Unit := ()
def law02.tw10732070154752949477 : Unit := ()
def law02.tw15689517174651917040 : Unit := ()
def law02.tw6374938367772165260 : Unit := ()
def law02.tw8355735442666785006 : Unit := ()
def law02.tw12780244941553444909 : Unit := ()
def law02.tw5276561970825748897 : Unit := ()
def law02.tw12689845209703266363 : Unit := ()
def law02.tw12039183179757326172 : Unit := ()
def law02.tw4477608825100599729 : Unit := ()
def law02.tw10303360331831574788 : Unit := ()
def law02.tw7971899034208424938 : Unit := ()
def law02.tw17840027605974692252 : Unit := ()
def law02.tw12603003036841681452 : Unit := ()
def law02.tw15246264699485311541 : Unit := ()
def law02.tw3240867657368546183 : Unit := ()
def law02.tw16202694050447362741 : Unit := ()
def law02.tw8872474736310761893 : Unit := ()
def law02.tw17243319452621785912 : Unit := ()
def law02.tw11260501670143198771 : Unit := ()
def law02.tw5658285465304084504 : Unit := ()
def law02.tw13427699872659281045 : Unit := ()
def law02.tw12372365615809306764 : Unit := ()
def law02.tw9914222188637937375 : Unit := ()
def law02.tw389764499326730423 : Unit := ()
def law02.tw16048261246370489095 : Unit := ()
def law02.tw13365352412069375425 : Unit := ()
def law02.tw5783678266147400154 : Unit := ()
def law02.tw5180306375680614414 : Unit := ()
def law02.tw1896073653191179714 : Unit := ()
def law02.tw8799375751425954542 : Unit := ()
def law02.tw14369709374533725495 : Unit := ()
def law02.tw3622567242197925659 : Unit := ()
def law02.tw4776136607692011329 : Unit := ()
section
local macro_rules | `(tactic| o_head (kHook $_K $as $_e)) => `(tactic| o_head kHook $(Lean.mkIdent `Mine.KK02) $as (fun _ => by kernel_rfl))
set_option Elab.async true in
set_option maxRecDepth 100000 in
set_option maxHeartbeats 0 in
theorem law02 : PySem.Challenge.rw_op0070_02.Holds := by
  w_on; o_law; k_head; (case hw => w_witness2)
  w_top off
  k_with_none
  k_with "my stop" => ((fail_if_success (with_reducible show InvEndN _ _ _ _ _ _ _)); (fail_if_success (with_reducible show KswEnd _ _ _ _ _ _ _ _ _ _ _ _)); (fail_if_success (with_reducible show LoopStep3 _ _ _ _ _ _ _ _ _ _)); (fail_if_success (with_reducible show LCg.CompSrc _ _ _ _ _ _ _ _ _ _ _ _ _ _)))
  k_with "my step" => (first | (k_unfold; (try dsimp only)) | (walk_at "my stop"; (first | walk_at "my own" | walk1 | (dsimp only; walk1)); (all_goals (try walk_at "my norm"))) | (leave1; (try dsimp only)) | fail "no step")
  k_with "my steps" => (repeat' walk_at "my step")
  k_with "my stepsW" => (repeat' ((fail_if_success (with_reducible show wpAny _ _ (exec (Stmt.While _ _ _ _) _) _ _ _)); walk_at "my step"))
  k_with "my norm" => ((try dsimp only); (try ((with_reducible refine wpAny_tok ?_); intro tk9)))
  k_with "my room" => (first | exact room_rm _ (by decide) | exact room_of (k := 0) (by assumption) (by decide) | exact room_of (k := 1) (by assumption) (by decide) | exact room_of (k := 2) (by assumption) (by decide) | exact room_of (k := 3) (by assumption) (by decide) | exact room_of2 (by assumption) (by decide))
  k_with "my units" => (first | exact room_um _ (by decide) | exact room_of2 (by assumption) (by decide) | ktr_units)
  k_with "my own" => (k_here; (with_reducible show wpAny _ _ (eval (Expr.ListComp _ [⟨_, Expr.Call _ _ _ _, _, _⟩] _ _) _) _ _ _); (rename Fr _ _ _ _ => lF'); k_dflt (refine ListComp_S lF' (by rfl) (by decide) (by rfl) (by decide) (by rfl) ?_))
  k_with "my own" => (k_here; (with_reducible show wpAny _ _ (eval (Expr.ListComp _ [⟨_, Expr.Name _ _, _, _⟩] _ _) _) _ _ _); k_dflt (refine LCg.ListComp_U (F₀ := by k_asm) (by rfl) (by decide) (by rfl) (by decide) (by rfl) ?_))
  k_with "my own" => (k_here; (with_reducible show wpAny _ _ (eval (Expr.ListComp _ [⟨_, Expr.Subscript _ _ _, _, _⟩] _ _) _) _ _ _); k_dflt (refine LCg.ListComp_U (F₀ := by k_asm) (by rfl) (by decide) (by rfl) (by decide) (by rfl) ?_))
  k_with "my clean" => ((repeat (rename Fr _ _ _ _ => z; clear z)); (repeat (rename News _ _ _ _ => z; clear z)); (repeat (rename _ ∧ _ => z; clear z)); (repeat (rename @Eq (Option Value) _ _ => z; clear z)); (repeat (rename @Eq (List Int) _ _ => z; clear z)); (repeat (rename IsRange _ _ _ _ _ _ _ _ => z; clear z)); (repeat (rename InElt _ _ => z; clear z)); (repeat (rename GSub _ _ _ => z; clear z)); (repeat (rename LCg.NsObj _ _ => z; clear z)); (repeat (rename Heap.IsList _ _ _ => z; clear z)); (repeat (rename IntsAre _ _ => z; clear z)))
  k_with "my own" => (k_here; (with_reducible show wpAny _ _ (binaryOp Operator.Mult (Value.int _ _) (Value.int _ _)) _ _ _); (refine PyProof.Rows.mul_int ?_ (mul_ok (by first | exact sm_bit _ | assumption) (by first | exact sm_pow16 (by assumption) | exact sm_pow16' (by assumption) | assumption))))
  k_with "my call1" => (intro v9 h9 tk9 hv9 F9 N9; obtain ⟨t9, hb9⟩ := hv9; subst hb9; (try dsimp only))
  k_with "my own" => (k_here; (with_reducible show wpAny _ _ (exec (Stmt.Assign [Expr.Name _ _] (Expr.ListComp _ [⟨_, Expr.Name _ _, _, _⟩] _ _) _) _) _ _ _); k_dflt (refine LCg.Assign_ListComp_U (F₀ := by k_asm) (by rfl) (by with_unfolding_all rfl) (by rfl) (by decide) (by rfl) (by decide) (by rfl) (by rfl) (by rfl) ?_))
  k_with "my own" => (k_here; (with_reducible show wpAny _ _ (exec (Stmt.Assign [Expr.Name _ _] (Expr.ListComp _ [⟨_, Expr.Subscript _ _ _, _, _⟩] _ _) _) _) _ _ _); k_dflt (refine LCg.Assign_ListComp_U (F₀ := by k_asm) (by rfl) (by with_unfolding_all rfl) (by rfl) (by decide) (by rfl) (by decide) (by rfl) (by rfl) (by rfl) ?_))
  k_go0
  (all_goals try k_fold)
  rename_i w s0 s1 mg mb G Y fa o pm doc kV ho hg KX X V GL T B TE TW bA bO BM cA cB hcd ns hs hlay0 hLp hr1 hl2 _ _ la vs _ hL ra w1 r0 hI hr hc1 hc2 K0 hD h1 F0 N0
  refine law_enter2 F0 (by passes_own) ?_ ?_
  · intro m' news' h tk F9 N9
    wrow_close
  intro qk ek hE hret
  have hn63 : ns.length ≤ 63 := by omega
  clear hs hlay0 hLp hr1 hl2 ra r0 w1 hr hc2 hD hcd hc1
  dsimp only at hE ⊢
  k_with "my own" => (k_here; (with_reducible show wpAny _ _ (subscriptTail _ (Expr.Slice none (some _) none _) (Value.ref _) (Value.ref _)) _ _ _); (with_reducible rename Fr _ _ _ _ => F'); (with_reducible rename News _ _ _ _ => N'); k_dflt (refine kmk_slice_ints (s := ⟨_, _, _, _, _⟩) F' N' (hL.at (F'.keep _)) IsPart.none (IsPart.int _ _) hI (kmk_upto hI (by decide)) rfl ?_ (by with_unfolding_all rfl) (by intro _; with_unfolding_all rfl) (ns_sz hI hn63)); intro D9 ws9 h9 F9 N9 l9 hi9 hc9' hle9)
  walk_at "my steps"
  rename Fr _ _ _ _ => lF
  rename News _ _ _ _ => lN
  refine comp_ints (fun z => z.fmod (2 ^ (71 : Int).toNat)) (by rfl) lF lN (.head _) hi9 (by rw [List.length_take]; omega) ?_ ?_
  · clear lF lN
    intro z tz I oI C oC D ys m₂ h tk E' hz hC hx F' N'
    walk_at "my steps"
    all_goals exact CInt.intro rfl (by assumption) (by assumption)
  intro gh ys hys
  clear lF lN
  have hnr := nums_rng ns
  have hnl := nums_len ns
  k_with "my own" => (k_here; (with_reducible show wpAny _ _ (binaryOp Operator.Add (Value.ref _) (Value.ref _)) _ _ _); (with_reducible rename Fr _ _ _ _ => F'); (with_reducible rename News _ _ _ _ => N'); k_dflt (refine kmk_add_ints F' N' (News.isList N' (.tail _ (.tail _ (.head _)))) (News.isList N' (.head _)) (.cons _ _ (.cons _ _ .nil)) hys ?_ (nums_sz ns)); intro D9 us9 h9 F9 N9 l9 hus)
  walk_at "my steps"
  rename Fr _ _ _ _ => lF
  rename News _ _ _ _ => lN
  rename IsRange _ _ _ _ _ _ _ _ => hR
  replace hus : IntsAre us9 (nums ns) := hus
  rw [nums_eq] at hR
  obtain ⟨dn, ed⟩ := news_head lN
  subst ed
  replace lN := news_sub lN (.cons_cons _ (.cons _ (.cons _ (.cons _ .slnil))))
  refine kst_range (σ := Unit) (n := (nums ns).length - 1) (fun _ => [(dn, W.listOf us9.toArray 0)]) (fun _ => []) (fun _ => True) [] (fun _ _ => True) () (by rfl) hR (small_1n hnl.2) (size_1n hnl.1) lF lN trivial (by kst_all) trivial ?_ ?_
  · clear lF lN hR
    intro c pre k t u h tk own hk0 hk1 hOff _ _ hFr hNews
    have hMk := kstMark
    dsimp only at hFr hNews ⊢
    simp only [kstB] at hFr
    simp only [List.cons_append, List.nil_append] at hNews
    k_with "my own" => (k_here; (with_reducible show wpAny _ _ (subscriptTail _ _ (Value.ref _) (Value.int _ _)) _ _ _); (rename News _ _ _ _ => lN'); (refine item_led lN' (by k_mem) hus (by omega) (by omega) (by omega) ?_); intro t9)
    k_with "my own" => (k_here; (with_reducible show wpAny _ _ (call (Value.ref 215) [Value.int _ _, Value.int _ _]) _ _ _); k_dflt (refine c_sum _ _ _ _ _ _ _ _ _ _ _ _ _ _ _ _ _ _ _ _ _ _ _ _ _ _ _ _ (by k_asm) (by k_asm) (by k_asm) (by k_asm) (by k_asm) (by first | exact rfl | assumption) ⟨(hnr _).1, (hnr _).2, (hnr _).1, (hnr _).2⟩ (by walk_at "my room") (by walk_at "my units") ?_; intro v9 h9 tk9 hv9 F9 N9; subst hv9; (try dsimp only)))
    walk_at "my steps"
    rename News _ _ _ _ => nE'
    exact kst_end () (by assumption) nE' (by kst_in) (by intro p hp; kst_mem) (by rfl) trivial (by kst_all) (by kst_same) trivial
  clear lF lN hR
  intro c u h tk _ _ hFr hNews
  dsimp only at hFr hNews ⊢
  simp only [kstB] at hFr
  walk_at "my steps"
  all_goals exact hret _ _ _ _ (by assumption) (by assumption)
end
end Mine
theorem PySem.Challenge.cw_op0070_02_holds : PySem.Challenge.rw_op0070_02.Holds :=
  Mine.law02
#print axioms PySem.Challenge.cw_op0070_02_holds
