import PyProof.Rows.All
import Wide.All
import OpenK.AllK
import Wide.FinOn
import PySem.Challenge.RW_op0070_01
open PySem PySem.W PyProof.Rows
set_option Elab.async false
set_option linter.all false
namespace Mine
section
local macro_rules | `(tactic| o_head (kHook $_K $as $_e)) => `(tactic| first | (exfalso; assumption) | o_head kHook $(Lean.mkIdent `Mine.KK01) $as (fun _ => by kernel_rfl))
theorem pre01 : False → PySem.Challenge.rw_op0070_01.row.Holds := by
  intro hf
  k_head
noncomputable def gd : Str := Str.ofString "a"
theorem gd_of {α : Type} {a b : α} (_ : a = b) : gd = Str.ofString "a" ∧ b = b := ⟨rfl, rfl⟩
noncomputable def KK01 : Params → Frag := fun P => by
  refine' (fun (l : Frag) (_ : gd = Str.ofString "a" ∧ l = l) => l) _ (gd_of (?_ : pre01.heap_1 P = _))
  rotate_left
  delta pre01.heap_1
  exact rfl
set_option maxRecDepth 100000 in
set_option maxHeartbeats 8000000 in
open_top hd01 for PySem.Challenge.rw_op0070_01
end
noncomputable def ap (n : Nat) : List UInt8 := if n = 0 then [] else ap (n / 16) ++ [(65 + n % 16).toUInt8]
decreasing_by omega
theorem ap_zero : ap 0 = [] := by rw [ap]; simp
theorem i2a_start {x : Int} (h : x.natAbs < 16 ^ 30) : 0 ≤ (if x < 0 then -x else x) ∧ ap (if x < 0 then -x else x).toNat ++ (#[] : Array UInt8).toList = ap x.natAbs ∧ (if x < 0 then -x else x).toNat * 16 ^ (#[] : Array UInt8).size < 16 ^ 30 ∧ (#[] : Array UInt8).size ≤ 30 := by
  have e : (if x < 0 then -x else x) = (x.natAbs : Int) := by omega
  rw [e]
  simp [h]
theorem ap_step {n : Nat} (h : n ≠ 0) : ap n = ap (n / 16) ++ [(65 + n % 16).toUInt8] := by rw [ap]; simp [h]
theorem picked_AP : ∀ k : Fin 16, KBy.picked #[65, 66, 67, 68, 69, 70, 71, 72, 73, 74, 75, 76, 77, 78, 79, 80] (some (k.val : Int)) (some ((k.val : Int) + 1)) = #[(65 + k.val).toUInt8] := by decide +kernel
theorem picked_AP' {k : Int} (h0 : 0 ≤ k) (h1 : k < 16) : KBy.picked #[65, 66, 67, 68, 69, 70, 71, 72, 73, 74, 75, 76, 77, 78, 79, 80] (some k) (some (k + 1)) = #[(65 + k.toNat).toUInt8] := by
  have := picked_AP ⟨k.toNat, by omega⟩
  simp only [show ((k.toNat : Nat) : Int) = k by omega] at this
  exact this
theorem i2a_turn {x n : Int} {v : Array UInt8} (h0 : 0 ≤ n) (h : ap n.toNat ++ v.toList = ap x.natAbs) (hb : n.toNat * 16 ^ v.size < 16 ^ 30) (hs : v.size ≤ 30) (hn : n ≠ 0) :
    0 ≤ n.fdiv 16 ∧ ap (n.fdiv 16).toNat ++ (#[(65 + (n.fmod 16).toNat).toUInt8] ++ v).toList = ap x.natAbs ∧ (n.fdiv 16).toNat * 16 ^ (#[(65 + (n.fmod 16).toNat).toUInt8] ++ v).size < 16 ^ 30 ∧ (#[(65 + (n.fmod 16).toNat).toUInt8] ++ v).size ≤ 30 := by
  have e1 : n.fdiv 16 = n / 16 := by rw [Int.fdiv_eq_ediv_of_nonneg _ (by omega)]
  have e2 : n.fmod 16 = n % 16 := by rw [Int.fmod_eq_emod_of_nonneg _ (by omega)]
  obtain ⟨k, rfl⟩ := Int.eq_ofNat_of_zero_le h0
  rw [e1, e2]
  have hk : k ≠ 0 := by omega
  have t1 : ((k : Int) / 16).toNat = k / 16 := by omega
  have t2 : ((k : Int) % 16).toNat = k % 16 := by omega
  rw [t1, t2]
  simp only [Int.toNat_natCast] at h hb
  rw [ap_step hk] at h
  have hsz : v.size < 30 := by
    refine Nat.lt_of_le_of_ne hs fun e => ?_
    rw [e] at hb
    have : 1 * 16 ^ 30 ≤ k * 16 ^ 30 := Nat.mul_le_mul_right _ (by omega)
    omega
  refine ⟨by omega, by simpa using h, ?_, by simp; omega⟩
  rw [Array.size_append]
  show k / 16 * 16 ^ (1 + v.size) < 16 ^ 30
  rw [Nat.pow_add, ← Nat.mul_assoc]
  refine Nat.lt_of_le_of_lt (Nat.mul_le_mul_right _ ?_) hb
  omega
theorem i2a_end {x n : Int} {v : Array UInt8} (h : ap n.toNat ++ v.toList = ap x.natAbs) (hn : n = 0) : v = (ap x.natAbs).toArray := by
  subst hn
  rw [← h, show (0 : Int).toNat = 0 from rfl, ap_zero]
  simp
theorem i2a_less {n : Int} (h0 : 0 ≤ n) (hn : n ≠ 0) : (n.fdiv 16).toNat < n.toNat := by
  rw [Int.fdiv_eq_ediv_of_nonneg _ (by omega)]
  omega
theorem bitOr_nat (x y : Nat) : Builtin.bitOr (x : Int) (y : Int) = ((x ||| y : Nat) : Int) := by
  have e1 : Builtin.bitNot (x : Int) = -(x : Int) - 1 := rfl
  have e2 : Builtin.bitNot (y : Int) = -(y : Int) - 1 := rfl
  unfold Builtin.bitOr
  unfold Builtin.bitAnd
  rw [e1, e2]
  have d1 : decide (0 ≤ -(x : Int) - 1) = false := by rw [decide_eq_false_iff_not]; omega
  have d2 : decide (0 ≤ -(y : Int) - 1) = false := by rw [decide_eq_false_iff_not]; omega
  rw [d1, d2]
  dsimp only
  show Builtin.bitNot (Builtin.bitNot _) = _
  have k (z : Int) : Builtin.bitNot z = -z - 1 := rfl
  simp only [k]
  rw [show (-(-(x : Int) - 1) - 1).toNat = x by omega, show (-(-(y : Int) - 1) - 1).toNat = y by omega]
  omega
theorem bitOr_add {l x : Int} (k : Nat) (hl : 0 ≤ l) (h0 : 0 ≤ x) (h1 : x < 2 ^ k) : Builtin.bitOr (l * 2 ^ k) x = l * 2 ^ k + x := by
  obtain ⟨l, rfl⟩ := Int.eq_ofNat_of_zero_le hl
  obtain ⟨x, rfl⟩ := Int.eq_ofNat_of_zero_le h0
  have h2 : x < 2 ^ k := by exact_mod_cast h1
  have e : (l : Int) * 2 ^ k = ((2 ^ k * l : Nat) : Int) := by push_cast; rw [Int.mul_comm]
  rw [e, bitOr_nat, ← Nat.two_pow_add_eq_or_of_lt h2]
  push_cast
  rfl
noncomputable def v64 (l : List Int) : Int := l.foldl (fun a c => a * 64 + (c - 65)) 0
noncomputable def v256 (l : List Int) : Int := l.foldl (fun a c => a * 256 + c) 0
theorem v64_app (l : List Int) (n : Int) : v64 (l ++ [n]) = v64 l * 64 + (n - 65) := by simp [v64]
theorem v256_app (l : List Int) (n : Int) : v256 (l ++ [n]) = v256 l * 256 + n := by simp [v256]
structure A2 where
  vs : List Value
  ns : List Int
  n : Nat
  q : Int
  tq : Tok
  l : Int
  tl : Tok
  p : Int
  tp : Tok
  i : Int
  ti : Tok
noncomputable def qM (q : Int) : Int := if q = 0 then 1 else if q = 1 then 64 else if q = 2 then 16 else 4
structure A2inv (pre : List Int) (c : A2) : Prop where
  p0 : c.p = 0
  q0 : 0 ≤ c.q
  q4 : c.q < 4
  l0 : 0 ≤ c.l
  l1 : c.l < qM c.q
  len : c.ns.length ≤ pre.length
  rng : ∀ z ∈ c.ns, 0 ≤ z ∧ z < 256
  ql : (pre.length : Int) % 4 = c.q
  val : v64 pre = v256 c.ns * qM c.q + c.l
theorem A2inv.start {a b c d : Tok} : A2inv [] ⟨[], [], 0, 0, a, 0, b, 0, c, 0, d⟩ :=
  ⟨rfl, Int.le_refl _, by show (0:Int) < 4; decide, Int.le_refl _, by show (0:Int) < 1; decide, Nat.le_refl _, (fun _ h => nomatch h), rfl, rfl⟩
section
variable {pre ns : List Int} {vs vs' : List Value} {ne ne' : Nat} {q l p i n : Int} {tq tl tp ti tq' tl' tp' ti' : Tok} {ii : Int}
theorem a2_w0 (I : A2inv pre ⟨vs, ns, ne, q, tq, l, tl, p, tp, i, ti⟩) (h1 : 65 ≤ n) (h2 : n ≤ 90) (hq : q = 0) : A2inv (pre ++ [n]) ⟨vs', ns, ne', 1, tq', n - 65, tl', 0, tp', ii, ti'⟩ := by
  obtain ⟨a1, a2, a3, a4, a5, a6, a7, a8, a9⟩ := I
  dsimp only at a1 a2 a3 a4 a5 a6 a7 a8 a9
  subst hq
  simp only [qM, if_pos] at a5 a9
  refine ⟨rfl, by dsimp only; omega, by dsimp only; omega, by dsimp only; omega, by simp [qM]; omega, by simp; omega, a7, by simp; omega, ?_⟩
  rw [v64_app]
  simp [qM]
  omega
theorem a2_w1 (I : A2inv pre ⟨vs, ns, ne, q, tq, l, tl, p, tp, i, ti⟩) (h1 : 65 ≤ n) (h2 : n ≤ 90) (hq : q = 1) : A2inv (pre ++ [n]) ⟨vs', ns ++ [Builtin.bitOr (l * 2 ^ Int.toNat 2) ((n - 65).fdiv (2 ^ Int.toNat 4))], ne', 2, tq', Builtin.bitAnd (n - 65) 15, tl', 0, tp', ii, ti'⟩ := by
  obtain ⟨a1, a2, a3, a4, a5, a6, a7, a8, a9⟩ := I
  dsimp only at a1 a2 a3 a4 a5 a6 a7 a8 a9
  subst hq
  simp [qM] at a5 a9
  have e1 : (n - 65).fdiv (2 ^ Int.toNat 4) = (n - 65) / 16 := by rw [Int.fdiv_eq_ediv_of_nonneg _ (by decide)]; rfl
  rw [e1, bitOr_add _ a4 (by omega) (by show (n - 65) / 16 < 4; omega), bitAnd_m4]
  have e2 : l * 2 ^ Int.toNat 2 = l * 4 := rfl
  rw [e2]
  refine ⟨rfl, by dsimp only; omega, by dsimp only; omega, by dsimp only; omega, by simp [qM]; omega, by simp; omega, ?_, by simp; omega, ?_⟩
  · intro z hz
    rcases List.mem_append.mp hz with hz | hz
    · exact a7 z hz
    · rw [List.mem_singleton.mp hz]; omega
  · rw [v64_app]
    simp [qM]
    rw [v256_app]
    omega
theorem a2_w2 (I : A2inv pre ⟨vs, ns, ne, q, tq, l, tl, p, tp, i, ti⟩) (h1 : 65 ≤ n) (h2 : n ≤ 90) (hq : q = 2) : A2inv (pre ++ [n]) ⟨vs', ns ++ [Builtin.bitOr (l * 2 ^ Int.toNat 4) ((n - 65).fdiv (2 ^ Int.toNat 2))], ne', 3, tq', Builtin.bitAnd (n - 65) 3, tl', 0, tp', ii, ti'⟩ := by
  obtain ⟨a1, a2, a3, a4, a5, a6, a7, a8, a9⟩ := I
  dsimp only at a1 a2 a3 a4 a5 a6 a7 a8 a9
  subst hq
  simp [qM] at a5 a9
  have e1 : (n - 65).fdiv (2 ^ Int.toNat 2) = (n - 65) / 4 := by rw [Int.fdiv_eq_ediv_of_nonneg _ (by decide)]; rfl
  rw [e1, bitOr_add _ a4 (by omega) (by show (n - 65) / 4 < 16; omega), bitAnd_m2]
  have e2 : l * 2 ^ Int.toNat 4 = l * 16 := rfl
  rw [e2]
  refine ⟨rfl, by dsimp only; omega, by dsimp only; omega, by dsimp only; omega, by simp [qM]; omega, by simp; omega, ?_, by simp; omega, ?_⟩
  · intro z hz
    rcases List.mem_append.mp hz with hz | hz
    · exact a7 z hz
    · rw [List.mem_singleton.mp hz]; omega
  · rw [v64_app]
    simp [qM]
    rw [v256_app]
    omega
theorem a2_w3 (I : A2inv pre ⟨vs, ns, ne, q, tq, l, tl, p, tp, i, ti⟩) (h1 : 65 ≤ n) (h2 : n ≤ 90) (hq0 : q ≠ 0) (hq1 : q ≠ 1) (hq2 : q ≠ 2) : A2inv (pre ++ [n]) ⟨vs', ns ++ [Builtin.bitOr (l * 2 ^ Int.toNat 6) (n - 65)], ne', 0, tq', 0, tl', 0, tp', ii, ti'⟩ := by
  obtain ⟨a1, a2, a3, a4, a5, a6, a7, a8, a9⟩ := I
  dsimp only at a1 a2 a3 a4 a5 a6 a7 a8 a9
  have hq : q = 3 := by omega
  subst hq
  simp [qM] at a5 a9
  rw [bitOr_add _ a4 (by omega) (by show (n - 65) < 64; omega)]
  have e2 : l * 2 ^ Int.toNat 6 = l * 64 := rfl
  rw [e2]
  refine ⟨rfl, by dsimp only; omega, by dsimp only; omega, by dsimp only; omega, by simp [qM], by simp; omega, ?_, by simp; omega, ?_⟩
  · intro z hz
    rcases List.mem_append.mp hz with hz | hz
    · exact a7 z hz
    · rw [List.mem_singleton.mp hz]; omega
  · rw [v64_app]
    simp [qM]
    rw [v256_app]
    omega
end
theorem a2_end {b : Array UInt8} {ns : List Int} {vs : List Value} (hr : KBa.In ns) (hv : v64 (KBw.bInts b) = v256 ns * qM 0 + 0) (hf : IntsAre vs ns) (hl : vs.length ≤ 100) :
    (byteArr ns).size ≤ 100 ∧ v256 (KBw.bInts (byteArr ns)) = v64 (KBw.bInts b) := by
  refine ⟨by rw [byteArr_size, ← hf.length]; exact hl, ?_⟩
  rw [KBa.ints_make hr, hv]
  simp [qM]
noncomputable def b64tab : List Int := [65, 66, 67, 68, 69, 70, 71, 72, 73, 74, 75, 76, 77, 78, 79, 80, 81, 82, 83, 84, 85, 86, 87, 88, 89, 90, 97, 98, 99, 100, 101, 102, 103, 104, 105, 106, 107, 108, 109, 110, 111, 112, 113, 114, 115, 116, 117, 118, 119, 120, 121, 122, 48, 49, 50, 51, 52, 53, 54, 55, 56, 57, 43, 47]
noncomputable def sg (d : Nat) : Int := b64tab.getD d 0
noncomputable def dig64 : Nat → Nat → List Nat
  | 0, _ => []
  | m + 1, N => dig64 m (N / 64) ++ [N % 64]
theorem dig64_len : ∀ m N, (dig64 m N).length = m
  | 0, _ => rfl
  | m + 1, N => by rw [dig64, List.length_append, dig64_len m]; rfl
structure B2 where
  vs : List Value
  ns : List Int
  n : Nat
  lb : Int
  tb : Tok
  lc : Int
  tc : Tok
structure B2inv (V : Int) (len : Nat) (c : B2) : Prop where
  V0 : 0 ≤ V
  lb0 : 0 ≤ c.lb
  lb1 : c.lb ≤ 13
  bits : 6 * (c.ns.length : Int) + c.lb = 8 * len
  lc0 : 0 ≤ c.lc
  lc1 : c.lc < 65536
  lc : c.lc = V % 65536
  out : c.ns = (dig64 c.ns.length (V.toNat / 2 ^ c.lb.toNat)).map sg
theorem B2inv.start {a b : Tok} : B2inv (v256 []) ([] : List Int).length ⟨[], [], 0, 0, a, 0, b⟩ ∧ (0 : Int) < 6 :=
  ⟨⟨Int.le_refl _, Int.le_refl _, by show (0 : Int) ≤ 13; decide, rfl, Int.le_refl _, by show (0 : Int) < 65536; decide, rfl, rfl⟩, by decide⟩
theorem nat_div_pow_shift (V n b : Nat) (hn : n < 256) : (V * 256 + n) / 2 ^ (b + 8) = V / 2 ^ b := by
  rw [Nat.pow_add, Nat.mul_comm (2 ^ b) (2 ^ 8), ← Nat.div_div_eq_div_mul]
  congr 1
  omega
theorem b2_acc {V lc n : Int} (h5 : 0 ≤ lc) (h7 : lc = V % 65536) (h0 : 0 ≤ n) (h1 : n < 256) : Builtin.bitAnd (Builtin.bitOr (lc * 2 ^ Int.toNat 8) n) 65535 = (V * 256 + n) % 65536 := by
  rw [bitOr_add _ h5 h0 (by show n < 256; exact h1), bitAnd_m16, show lc * 2 ^ Int.toNat 8 = lc * 256 from rfl, h7]
  rw [Int.add_emod, Int.mul_emod, Int.emod_emod, ← Int.mul_emod, ← Int.add_emod]
theorem b2_in {pre ns : List Int} {vs : List Value} {ne : Nat} {lb lc n : Int} {tb tc tb' tc' : Tok} (I : B2inv (v256 pre) pre.length ⟨vs, ns, ne, lb, tb, lc, tc⟩) (hlb : lb < 6) (h0 : 0 ≤ n) (h1 : n < 256) :
    B2inv (v256 (pre ++ [n])) (pre ++ [n]).length ⟨vs, ns, ne, lb + 8, tb', Builtin.bitAnd (Builtin.bitOr (lc * 2 ^ Int.toNat 8) n) 65535, tc'⟩ := by
  obtain ⟨a1, a2, a3, a4, a5, a6, a7, a8⟩ := I
  dsimp only at a1 a2 a3 a4 a5 a6 a7 a8
  rw [v256_app, b2_acc a5 a7 h0 h1]
  generalize v256 pre = V at *
  refine ⟨Int.add_nonneg (Int.mul_nonneg a1 (by decide)) h0, Int.add_nonneg a2 (by decide), Int.le_trans (Int.add_le_add_right (Int.le_of_lt_add_one (show lb < 5 + 1 from hlb)) 8) (by decide), ?_, Int.emod_nonneg _ (by decide), Int.emod_lt_of_pos _ (by decide), rfl, ?_⟩
  · clear a1 a2 a3 a5 a6 a7 a8
    rw [List.length_append, List.length_singleton]
    show 6 * (ns.length : Int) + (lb + 8) = _
    omega
  · dsimp only
    rw [show (V * 256 + n).toNat = V.toNat * 256 + n.toNat by clear a2 a3 a4 a5 a6 a7 a8; omega, show (lb + 8).toNat = lb.toNat + 8 by clear a1 a3 a4 a5 a6 a7 a8; omega, nat_div_pow_shift _ _ _ (by clear a1 a2 a3 a4 a5 a6 a7 a8; omega)]
    exact a8
noncomputable def b64arr : Array UInt8 := #[65, 66, 67, 68, 69, 70, 71, 72, 73, 74, 75, 76, 77, 78, 79, 80, 81, 82, 83, 84, 85, 86, 87, 88, 89, 90, 97, 98, 99, 100, 101, 102, 103, 104, 105, 106, 107, 108, 109, 110, 111, 112, 113, 114, 115, 116, 117, 118, 119, 120, 121, 122, 48, 49, 50, 51, 52, 53, 54, 55, 56, 57, 43, 47]
theorem b64arr_ints : KBw.bInts b64arr = b64tab := by decide +kernel
theorem b2_idx {V : Int} {len : Nat} {c : B2} {lc : Int} (I : B2inv V len c) (hlc : lc = V % 65536) (h6 : 6 ≤ c.lb) :
    Builtin.bitAnd (lc.fdiv (2 ^ (c.lb - 6).toNat)) 63 = ((V.toNat / 2 ^ (c.lb - 6).toNat % 64 : Nat) : Int) := by
  have h0 := I.V0
  have h1 := I.lb1
  rw [bitAnd_m6, Int.fdiv_eq_ediv_of_nonneg _ (by exact Int.pow_nonneg (by decide))]
  obtain ⟨W, hW⟩ := Int.eq_ofNat_of_zero_le h0
  rw [hlc, hW, show ((W : Nat) : Int).toNat = W from rfl]
  generalize hk : (c.lb - 6).toNat = k
  have hk9 : k ≤ 10 := by omega
  have e : ((W : Int) % 65536 / 2 ^ k) % 64 = (((W % 65536) / 2 ^ k % 64 : Nat) : Int) := by rw [Int.natCast_emod, Int.natCast_ediv, Int.natCast_emod, Int.natCast_pow]; rfl
  rw [e]
  congr 1
  have e2 : (65536 : Nat) = 2 ^ k * (2 ^ (10 - k) * 64) := by
    rw [← Nat.mul_assoc, ← Nat.pow_add, show k + (10 - k) = 10 by omega]
  rw [e2, Nat.mod_mul_right_div_self, Nat.mod_mul_left_mod]
theorem b2_step {V : Int} {len : Nat} {vs vs' : List Value} {ns : List Int} {ne ne' : Nat} {lb lc lc2 : Int} {tb tc tb' tc' : Tok} (I : B2inv V len ⟨vs, ns, ne, lb, tb, lc2, tc⟩) (hlc : lc = V % 65536) (h6 : 6 ≤ lb) :
    B2inv V len ⟨vs', ns ++ [sg (Builtin.bitAnd (lc.fdiv (2 ^ (lb - 6).toNat)) 63).toNat], ne', lb - 6, tb', lc2, tc'⟩ := by
  have hi := b2_idx I hlc h6
  obtain ⟨a1, a2, a3, a4, a5, a6, a7, a8⟩ := I
  dsimp only at hi a1 a2 a3 a4 a5 a6 a7 a8
  refine ⟨a1, by dsimp only; omega, by dsimp only; omega, by simp; omega, a5, a6, a7, ?_⟩
  dsimp only
  rw [hi, Int.toNat_natCast, List.length_append, List.length_singleton, dig64, List.map_append, Nat.div_div_eq_div_mul]
  have e : 2 ^ (lb - 6).toNat * 64 = 2 ^ lb.toNat := by
    rw [show (64 : Nat) = 2 ^ 6 from rfl, ← Nat.pow_add]
    congr 1
    omega
  rw [e, ← a8]
  rfl
theorem b2_less {lb : Int} (h : 6 ≤ lb) : (lb - 6).toNat < lb.toNat := by omega
theorem sg_in (d : Nat) : 0 ≤ sg d ∧ sg d < 256 := by
  have k : ∀ i : Fin 64, 0 ≤ sg i.val ∧ sg i.val < 256 := by decide +kernel
  by_cases h : d < 64
  · exact k ⟨d, h⟩
  · have : sg d = 0 := by unfold sg; rw [List.getD_eq_getElem?_getD, List.getElem?_eq_none (by show 64 ≤ d; omega)]; rfl
    rw [this]
    decide
noncomputable def encB (m : Nat) (N : Nat) : List Int := (dig64 m N).map sg
theorem encB_in (m N : Nat) : KBa.In (encB m N) := by
  intro z hz
  obtain ⟨d, _, rfl⟩ := List.mem_map.mp hz
  exact sg_in d
theorem b2_end {b : Array UInt8} {vs : List Value} {ns : List Int} {ne : Nat} {lb lc : Int} {tb tc : Tok} (I : B2inv (v256 (KBw.bInts b)) (KBw.bInts b).length ⟨vs, ns, ne, lb, tb, lc, tc⟩) (hlb : lb < 6) (hp : b.size ≤ 100 ∧ b.size % 3 = 0) :
    lb = 0 ∧ ns = encB (b.size / 3 * 4) (v256 (KBw.bInts b)).toNat := by
  obtain ⟨a1, a2, a3, a4, a5, a6, a7, a8⟩ := I
  dsimp only at a1 a2 a3 a4 a5 a6 a7 a8
  rw [KBw.ints_length] at a4
  have hl : lb = 0 := by omega
  refine ⟨hl, ?_⟩
  subst hl
  rw [a8]
  show List.map sg (dig64 ns.length (_ / 2 ^ 0)) = _
  rw [Nat.pow_zero, Nat.div_one, show ns.length = b.size / 3 * 4 by omega]
  rfl
noncomputable def fm1 (x k : Int) (c : String) : Str := if Builtin.bitAnd x k = k then Str.ofString c else Str.ofString "-"
noncomputable def fm3 (x k1 : Int) (c1 : String) (k2 : Int) (c2 : String) (k3 : Int) (c3 : String) : Str := if Builtin.bitAnd x k1 = k1 then Str.ofString c1 else if Builtin.bitAnd x k2 = k2 then Str.ofString c2 else if Builtin.bitAnd x k3 = k3 then Str.ofString c3 else Str.ofString "-"
noncomputable def fmC (c : Str) (x : Int) : List Str := [c, fm1 x 256 "r", fm1 x 128 "w", fm3 x 2112 "s" 2048 "S" 64 "x", fm1 x 32 "r", fm1 x 16 "w", fm3 x 1032 "s" 1024 "S" 8 "x", fm1 x 4 "r", fm1 x 2 "w", fm3 x 513 "t" 512 "T" 1 "x"]
section
variable {x k k1 k2 k3 : Int} {c c1 c2 c3 : String}
theorem fm1_t (h : Builtin.bitAnd x k = k) : fm1 x k c = Str.ofString c := by unfold fm1; rw [if_pos h]
theorem fm1_f (h : Builtin.bitAnd x k ≠ k) : fm1 x k c = Str.ofString "-" := by unfold fm1; rw [if_neg h]
theorem fm3_1 (h : Builtin.bitAnd x k1 = k1) : fm3 x k1 c1 k2 c2 k3 c3 = Str.ofString c1 := by unfold fm3; rw [if_pos h]
theorem fm3_2 (h1 : Builtin.bitAnd x k1 ≠ k1) (h : Builtin.bitAnd x k2 = k2) : fm3 x k1 c1 k2 c2 k3 c3 = Str.ofString c2 := by unfold fm3; rw [if_neg h1, if_pos h]
theorem fm3_3 (h1 : Builtin.bitAnd x k1 ≠ k1) (h2 : Builtin.bitAnd x k2 ≠ k2) (h : Builtin.bitAnd x k3 = k3) : fm3 x k1 c1 k2 c2 k3 c3 = Str.ofString c3 := by unfold fm3; rw [if_neg h1, if_neg h2, if_pos h]
theorem fm3_4 (h1 : Builtin.bitAnd x k1 ≠ k1) (h2 : Builtin.bitAnd x k2 ≠ k2) (h : Builtin.bitAnd x k3 ≠ k3) : fm3 x k1 c1 k2 c2 k3 c3 = Str.ofString "-" := by unfold fm3; rw [if_neg h1, if_neg h2, if_neg h]
end
theorem fm_next {l : List Str} {i : Nat} {ch ch' : Str} {vs : List Value} {t : Tok} (hv : StrsAre vs (l.take i)) (h : l[i]? = some ch') (e : ch' = ch) : StrsAre (vs ++ [.str ch t]) (l.take (i + 1)) := by
  subst e
  rw [List.take_add_one, h]
  exact StrsAre.append' hv (.cons _ _ .nil)
theorem fm1_len {x k : Int} {c : String} (h : (Str.ofString c).length = 1) : (fm1 x k c).length = 1 := by
  unfold fm1
  split
  · exact h
  · decide +kernel
theorem fm3_len {x k1 k2 k3 : Int} {c1 c2 c3 : String} (h1 : (Str.ofString c1).length = 1) (h2 : (Str.ofString c2).length = 1) (h3 : (Str.ofString c3).length = 1) : (fm3 x k1 c1 k2 c2 k3 c3).length = 1 := by
  unfold fm3
  split
  · exact h1
  · split
    · exact h2
    · split
      · exact h3
      · decide +kernel
theorem fmC_ok {c : Str} {x : Int} (h : c.length = 1) : ((fmC c x).map (·.length)).sum + (fmC c x).length * 64 ≤ 16777216 := by
  simp only [fmC, List.map_cons, List.map_nil, h, fm1_len (show (Str.ofString "r").length = 1 by decide +kernel), fm1_len (show (Str.ofString "w").length = 1 by decide +kernel),
    fm3_len (show (Str.ofString "s").length = 1 by decide +kernel) (show (Str.ofString "S").length = 1 by decide +kernel) (show (Str.ofString "x").length = 1 by decide +kernel),
    fm3_len (show (Str.ofString "t").length = 1 by decide +kernel) (show (Str.ofString "T").length = 1 by decide +kernel) (show (Str.ofString "x").length = 1 by decide +kernel)]
  show [1, 1, 1, 1, 1, 1, 1, 1, 1, 1].sum + 10 * 64 ≤ 16777216
  decide
noncomputable def lsC (x k : Int) (tab : String) : Str :=
  (if (Builtin.bitAnd (x.fdiv (2 ^ (3 * k).toNat)) 4 != 0) = true then Str.ofString "r" else Str.ofString "-") ++ (if (Builtin.bitAnd (x.fdiv (2 ^ (3 * k).toNat)) 2 != 0) = true then Str.ofString "w" else Str.ofString "-") ++
    Txt.item (Str.ofString tab) (2 * Builtin.bitAnd (x.fdiv (2 ^ (9 + k).toNat)) 1 + Builtin.bitAnd (x.fdiv (2 ^ (3 * k).toNat)) 1)
noncomputable def lsS (c : Str) (x : Int) : Str := c ++ lsC x 2 "-xSs" ++ lsC x 1 "-xSs" ++ lsC x 0 "-xTt"
theorem bitAnd_m12 (x : Int) : Builtin.bitAnd x 4095 = x % 4096 := by
  by_cases hx : 0 ≤ x
  · rw [bitAnd_pp hx (by decide)]
    have h : x.toNat &&& (4095 : Int).toNat = x.toNat % 4096 := Nat.and_two_pow_sub_one_eq_mod x.toNat 12
    rw [h]
    omega
  · rw [bitAnd_np hx (by decide)]
    have h : (4095 : Int).toNat &&& (Builtin.bitNot x).toNat = (Builtin.bitNot x).toNat % 4096 := by
      rw [Nat.and_comm]
      exact Nat.and_two_pow_sub_one_eq_mod (Builtin.bitNot x).toNat 12
    rw [h]
    unfold Builtin.bitNot
    omega
theorem imode_eq (x y : Int) : [Builtin.bitAnd x 4095, Builtin.bitAnd y 4095] = [x.fmod 4096, y.fmod 4096] := by
  rw [bitAnd_m12, bitAnd_m12, Int.fmod_eq_emod_of_nonneg _ (by decide), Int.fmod_eq_emod_of_nonneg _ (by decide)]
theorem imode_rng (x : Int) : 0 ≤ Builtin.bitAnd x 4095 ∧ Builtin.bitAnd x 4095 < 4096 := by
  rw [bitAnd_m12]; omega
theorem mul_ok {a b : Int} (ha : a.natAbs < 2 ^ 100) (hb : b.natAbs < 2 ^ 100) : IntMulOk a b := IntMulOk.of_bits (Nat.le_trans (intBits_le_iff.mpr ha) (by decide)) (Nat.le_trans (intBits_le_iff.mpr hb) (by decide))
theorem sm_bit (x : Int) : (Builtin.bitAnd x 1).natAbs < 2 ^ 100 := by
  rw [bitAnd_m1]
  exact Nat.lt_of_lt_of_le (show (x % 2).natAbs < 2 by omega) (by decide)
theorem sm_pow16n (n : Nat) (h : n < 12) : ((16 : Int) ^ n).natAbs < 2 ^ 100 := by
  rw [Int.natAbs_pow]
  exact Nat.lt_of_le_of_lt (Nat.pow_le_pow_right (by decide) (Nat.le_of_lt h)) (by decide)
theorem sm_pow16 {i : Nat} (h : i < 12) : ((16 : Int) ^ (i : Int).toNat).natAbs < 2 ^ 100 := sm_pow16n _ (by omega)
theorem sm_pow16' {i : Nat} (h : i < 12) : ((16 : Int) ^ (11 - (i : Int)).toNat).natAbs < 2 ^ 100 := sm_pow16n _ (by omega)
noncomputable def rowA (x : Int) : Int := ((List.range 12).map fun i : Nat => Builtin.bitAnd (x.fdiv (2 ^ (i : Int).toNat)) 1 * 16 ^ (i : Int).toNat).sum
noncomputable def rowB (x : Int) : Int := ((List.range 12).map fun i : Nat => Builtin.bitAnd (x.fdiv (2 ^ (i : Int).toNat)) 1 * 16 ^ (11 - (i : Int)).toNat).sum
theorem bit_rng (x : Int) (n : Nat) : 0 ≤ Builtin.bitAnd (x.fdiv (2 ^ n)) 1 ∧ Builtin.bitAnd (x.fdiv (2 ^ n)) 1 ≤ 1 := by
  rw [bitAnd_m1]; omega
noncomputable def bsum (b : Nat → Int) : Int := b 0 * 16 ^ 0 + (b 1 * 16 ^ 1 + (b 2 * 16 ^ 2 + (b 3 * 16 ^ 3 + (b 4 * 16 ^ 4 + (b 5 * 16 ^ 5 + (b 6 * 16 ^ 6 + (b 7 * 16 ^ 7 + (b 8 * 16 ^ 8 + (b 9 * 16 ^ 9 + (b 10 * 16 ^ 10 + (b 11 * 16 ^ 11 + 0)))))))))))
theorem bsum_rng {b : Nat → Int} (h : ∀ n, 0 ≤ b n ∧ b n ≤ 1) : 0 ≤ bsum b ∧ bsum b < 16 ^ 12 := by
  have := h 0; have := h 1; have := h 2; have := h 3; have := h 4; have := h 5; have := h 6; have := h 7; have := h 8; have := h 9; have := h 10; have := h 11
  unfold bsum
  omega
noncomputable def bitOf (x : Int) (n : Nat) : Int := Builtin.bitAnd (x.fdiv (2 ^ n)) 1
theorem rowA_eq (x : Int) : rowA x = bsum (bitOf x) := rfl
theorem rowB_eq (x : Int) : rowB x = bsum (fun n => bitOf x (11 - n)) := by
  show bitOf x 0 * 16 ^ 11 + (bitOf x 1 * 16 ^ 10 + (bitOf x 2 * 16 ^ 9 + (bitOf x 3 * 16 ^ 8 + (bitOf x 4 * 16 ^ 7 + (bitOf x 5 * 16 ^ 6 + (bitOf x 6 * 16 ^ 5 + (bitOf x 7 * 16 ^ 4 + (bitOf x 8 * 16 ^ 3 + (bitOf x 9 * 16 ^ 2 + (bitOf x 10 * 16 ^ 1 + (bitOf x 11 * 16 ^ 0 + 0))))))))))) = _
  unfold bsum
  simp only [show 11 - 0 = 11 from rfl, show 11 - 1 = 10 from rfl, show 11 - 2 = 9 from rfl, show 11 - 3 = 8 from rfl, show 11 - 4 = 7 from rfl, show 11 - 5 = 6 from rfl, show 11 - 6 = 5 from rfl, show 11 - 7 = 4 from rfl, show 11 - 8 = 3 from rfl, show 11 - 9 = 2 from rfl, show 11 - 10 = 1 from rfl, show 11 - 11 = 0 from rfl]
  omega
theorem rowA_rng (x : Int) : 0 ≤ rowA x ∧ rowA x < 16 ^ 12 := rowA_eq x ▸ bsum_rng (bit_rng x)
theorem rowB_rng (x : Int) : 0 ≤ rowB x ∧ rowB x < 16 ^ 12 := rowB_eq x ▸ bsum_rng fun n => bit_rng x (11 - n)
theorem sm_row {x : Int} (h : 0 ≤ x ∧ x < 16 ^ 12) : x.natAbs < 2 ^ 100 := by omega
theorem w_pre1 {x : Int} (h : 0 ≤ x ∧ x < 16 ^ 12) : x.natAbs < 16 ^ 30 := by omega
theorem w_pre2 {x : Int} (h : 0 ≤ x ∧ x < 16 ^ 12) : (-x).natAbs < 16 ^ 30 := by omega
theorem mul_rng {x y : Int} (hx : 0 ≤ x ∧ x < 16 ^ 12) (hy : 0 ≤ y ∧ y < 16 ^ 12) : 0 ≤ x * y ∧ x * y < 16 ^ 24 := by
  refine ⟨Int.mul_nonneg hx.1 hy.1, ?_⟩
  have h1 : x * y ≤ (16 ^ 12 - 1) * y := Int.mul_le_mul_of_nonneg_right (by omega) hy.1
  omega
theorem w_pre3 {x y : Int} (hx : 0 ≤ x ∧ x < 16 ^ 12) (hy : 0 ≤ y ∧ y < 16 ^ 12) : (x * y + 14877268145274081611751763986).natAbs < 16 ^ 30 := by
  have := mul_rng hx hy
  omega
theorem ap_len : ∀ (k n : Nat), n < 16 ^ k → (ap n).length ≤ k
  | 0, n, h => by
    have : n = 0 := by simpa using h
    subst this
    rw [ap_zero]
    exact Nat.le_refl _
  | k + 1, n, h => by
    by_cases h0 : n = 0
    · subst h0; rw [ap_zero]; exact Nat.zero_le _
    · rw [ap_step h0, List.length_append]
      have := ap_len k (n / 16) (by rw [Nat.pow_succ] at h; omega)
      simp
      exact this
theorem ap_sz {k n : Nat} (h : n < 16 ^ k) (hk : k ≤ 100) : (KBw.bInts (ap n).toArray).length ≤ 16777216 := by
  rw [KBw.ints_length]
  have := ap_len k n h
  simp
  omega
theorem digit_ne {n : Nat} (h0 : n ≠ 0) (h : n < 16) : ((65 + n % 16).toUInt8 == 65) = false := by
  have k : ∀ i : Fin 16, i.val ≠ 0 → ((65 + i.val % 16).toUInt8 == 65) = false := by decide +kernel
  exact k ⟨n, h⟩ h0
theorem ap_head : ∀ n : Nat, (ap n).head? ≠ some 65
  | n => by
    by_cases h0 : n = 0
    · subst h0; rw [ap_zero]; simp
    · rw [ap_step h0]
      by_cases h1 : n / 16 = 0
      · rw [h1, ap_zero]
        have := digit_ne h0 (by omega)
        simp only [List.nil_append, List.head?_cons, ne_eq, Option.some.injEq]
        exact fun e => by rw [e] at this; simp at this
      · have ih := ap_head (n / 16)
        have hne : ap (n / 16) ≠ [] := by rw [ap_step h1]; simp
        obtain ⟨a, r, e⟩ := List.exists_cons_of_ne_nil hne
        rw [e] at ih ⊢
        simpa using ih
  decreasing_by omega
theorem ap_first (n : Nat) : (KBy.picked (ap n).toArray none (some 1)).toList ≠ [65] := by
  intro h
  have e := KBc.ints_picked (b := (ap n).toArray) rfl none (some 1)
  have e1 : KBw.bInts (KBy.picked (ap n).toArray none (some 1)) = [65] := by
    unfold KBw.bInts
    rw [h]
    rfl
  rw [e1] at e
  simp only [Option.elim, List.drop_zero, Nat.sub_zero] at e
  have hh := ap_head n
  cases hq : ap n with
  | nil => rw [hq] at e; simp [KBw.bInts] at e
  | cons a r =>
    rw [hq] at e hh
    have hc : clipAt (KBw.bInts (a :: r).toArray).length 1 = 1 := by
      have := clipAt_cast (KBw.bInts (a :: r).toArray).length 1
      rw [KBw.ints_length] at this ⊢
      simp only [List.size_toArray, List.length_cons] at this ⊢
      omega
    rw [hc] at e
    simp [KBw.bInts] at e hh
    exact hh (UInt8.toNat_inj.mp (by have h65 : (65 : UInt8).toNat = 65 := rfl; omega))
noncomputable def padA (n : Int) : List UInt8 := (List.replicate n.toNat [65]).flatten
theorem padA_eq (n : Int) : padA n = List.replicate n.toNat 65 := by
  unfold padA
  generalize n.toNat = k
  induction k with
  | zero => rfl
  | succ k ih => rw [List.replicate_succ, List.flatten_cons, ih, List.replicate_succ]; rfl
theorem padA_len (n : Int) : (padA n).length = n.toNat := by rw [padA_eq, List.length_replicate]
noncomputable def r64 (n : Nat) : Int := if n = 0 then 0 else r64 (n / 16) * 64 + (n % 16 : Nat)
decreasing_by omega
theorem r64_zero : r64 0 = 0 := by rw [r64]; rfl
theorem r64_step {n : Nat} (h : n ≠ 0) : r64 n = r64 (n / 16) * 64 + (n % 16 : Nat) := by rw [r64, if_neg h]
theorem bInts_app (b c : Array UInt8) : KBw.bInts (b ++ c) = KBw.bInts b ++ KBw.bInts c := by simp [KBw.bInts]
theorem u8_dig (n : Nat) : (((65 + n % 16).toUInt8.toNat : Nat) : Int) = 65 + (n % 16 : Nat) := by
  have : (65 + n % 16).toUInt8.toNat = 65 + n % 16 := by
    show (65 + n % 16) % 256 = _
    omega
  omega
theorem v64_ap : ∀ n : Nat, v64 (KBw.bInts (ap n).toArray) = r64 n
  | n => by
    by_cases h0 : n = 0
    · subst h0; rw [ap_zero, r64_zero]; rfl
    · rw [ap_step h0, r64_step h0, ← v64_ap (n / 16), ← List.append_toArray, bInts_app]
      show v64 (_ ++ [(((65 + n % 16).toUInt8.toNat : Nat) : Int)]) = _
      rw [v64_app, u8_dig]
      omega
  decreasing_by omega
theorem v64_pad (k : Nat) (l : List Int) : v64 (List.replicate k 65 ++ l) = v64 l := by
  induction k with
  | zero => rfl
  | succ k ih =>
    rw [List.replicate_succ, List.cons_append]
    show List.foldl _ (0 * 64 + (65 - 65)) _ = _
    exact ih
theorem bInts_pad (n : Int) : KBw.bInts (padA n).toArray = List.replicate n.toNat 65 := by
  rw [padA_eq]
  simp [KBw.bInts]
theorem ap_rng : ∀ n : Nat, ∀ k ∈ KBw.bInts (ap n).toArray, 65 ≤ k ∧ k ≤ 90
  | n => by
    by_cases h0 : n = 0
    · subst h0; rw [ap_zero]; intro k hk; simp [KBw.bInts] at hk
    · rw [ap_step h0, ← List.append_toArray, bInts_app]
      intro k hk
      rcases List.mem_append.mp hk with hk | hk
      · exact ap_rng (n / 16) k hk
      · have : k = (((65 + n % 16).toUInt8.toNat : Nat) : Int) := List.mem_singleton.mp hk
        rw [this, u8_dig]
        omega
  decreasing_by omega
theorem word_pre {n m : Nat} {W : Array UInt8} (hW : W = (ap n).toArray) (hs : W.size ≤ m) (hm : m % 4 = 0) (hm2 : m ≤ 100) {i : Int} (hi : i = m) :
    ((List.replicate (i - W.size).toNat [65]).flatten.toArray ++ W).size ≤ 100 ∧ ((List.replicate (i - W.size).toNat [65]).flatten.toArray ++ W).size % 4 = 0 ∧ ∀ k ∈ KBw.bInts ((List.replicate (i - W.size).toNat [65]).flatten.toArray ++ W), 65 ≤ k ∧ k ≤ 90 := by
  have e : ((padA (i - W.size)).toArray ++ W).size = m := by rw [Array.size_append, List.size_toArray, padA_len]; omega
  show ((padA (i - W.size)).toArray ++ W).size ≤ 100 ∧ ((padA (i - W.size)).toArray ++ W).size % 4 = 0 ∧ ∀ k ∈ KBw.bInts ((padA (i - W.size)).toArray ++ W), 65 ≤ k ∧ k ≤ 90
  rw [e]
  refine ⟨hm2, hm, fun k hk => ?_⟩
  rw [bInts_app, bInts_pad] at hk
  rcases List.mem_append.mp hk with hk | hk
  · rw [(List.mem_replicate.mp hk).2]; omega
  · subst hW; exact ap_rng n k hk
theorem word_val {n : Nat} {W : Array UInt8} (hW : W = (ap n).toArray) (i : Int) : v64 (KBw.bInts ((List.replicate i.toNat [65]).flatten.toArray ++ W)) = r64 n := by
  show v64 (KBw.bInts ((padA i).toArray ++ W)) = _
  rw [bInts_app, bInts_pad, v64_pad, hW, v64_ap]
theorem pad_size {n : Nat} (h : n ≤ 100) : (List.replicate n [(65 : UInt8)]).flatten.toArray.size ≤ 100 := by
  have := padA_len (n : Int)
  unfold padA at this
  rw [List.size_toArray]
  simp only [Int.toNat_natCast] at this
  omega
theorem r64_nonneg : ∀ n : Nat, 0 ≤ r64 n
  | n => by
    by_cases h0 : n = 0
    · subst h0; rw [r64_zero]; exact Int.le_refl _
    · have h := r64_nonneg (n / 16)
      rw [r64_step h0]
      omega
  decreasing_by omega
theorem r64_lt : ∀ (k n : Nat), n < 16 ^ k → r64 n < 64 ^ k
  | 0, n, h => by
    have : n = 0 := by simpa using h
    subst this
    rw [r64_zero]; decide
  | k + 1, n, h => by
    by_cases h0 : n = 0
    · subst h0; rw [r64_zero]; exact Int.pow_pos (by decide)
    · have h1 := r64_lt k (n / 16) (by rw [Nat.pow_succ] at h; omega)
      rw [r64_step h0, Int.pow_succ]
      omega
theorem sm_r64 {x : Int} (h0 : 0 ≤ x) (h1 : x < 16 ^ 12) : (r64 x.natAbs).natAbs < 2 ^ 100 := by
  have a := r64_nonneg x.natAbs
  have b := r64_lt 12 x.natAbs (by omega)
  omega
theorem sm_r64' {x : Int} (h0 : 0 ≤ x) (h1 : x < 16 ^ 12) : (r64 (-x).natAbs).natAbs < 2 ^ 100 := by
  have a := r64_nonneg (-x).natAbs
  have b := r64_lt 12 (-x).natAbs (by omega)
  omega
theorem ap_size {k n : Nat} (h : n < 16 ^ k) : (ap n).toArray.size ≤ k := by
  have := ap_len k n h
  simpa using this
noncomputable def dabc : Array UInt8 := #[68, 65, 66, 67, 68, 65, 66, 67, 68, 65, 66, 67, 68, 65, 66, 67, 68, 65, 66, 67, 68, 65, 66, 67]
theorem dabc_pre : dabc.size ≤ 100 ∧ dabc.size % 4 = 0 ∧ ∀ k ∈ KBw.bInts dabc, 65 ≤ k ∧ k ≤ 90 := by decide +kernel
noncomputable def dabcN : Int := v64 (KBw.bInts dabc)
theorem pow256_ne (n : Nat) : (256 : Int) ^ n ≠ 0 := Int.ne_of_gt (Int.pow_pos (by decide))
noncomputable def octs (N : Int) : List Int := (List.range 18).map fun i : Nat => (N.fdiv (256 ^ (17 - (i : Int)).toNat)).fmod 256
theorem octs_in (N : Int) : KBa.In (octs N) := by
  intro z hz
  obtain ⟨i, _, rfl⟩ := List.mem_map.mp hz
  rw [Int.fmod_eq_emod_of_nonneg _ (by decide)]
  omega
theorem octs_len (N : Int) : (octs N).length = 18 := by simp [octs]
theorem octs_pre (N : Int) : (byteArr (octs N)).size ≤ 100 ∧ (byteArr (octs N)).size % 3 = 0 := by
  rw [byteArr_size, octs_len]; decide
noncomputable def lsT (x k : Int) : Str :=
  (if (Builtin.bitAnd (x.fdiv (2 ^ (3 * k).toNat)) 4 != 0) = true then Str.ofString "r" else Str.ofString "-") ++ (if (Builtin.bitAnd (x.fdiv (2 ^ (3 * k).toNat)) 2 != 0) = true then Str.ofString "w" else Str.ofString "-") ++
    Txt.item (if (k != 0) = true then Str.ofString "-xSs" else Str.ofString "-xTt") (2 * Builtin.bitAnd (x.fdiv (2 ^ (9 + k).toNat)) 1 + Builtin.bitAnd (x.fdiv (2 ^ (3 * k).toNat)) 1)
noncomputable def lsP (c : Str) (x : Int) (l : List Int) : Str := l.foldl (fun t k => t ++ lsT x k) c
theorem lsP_app (c : Str) (x : Int) (l : List Int) (k : Int) : lsP c x (l ++ [k]) = lsP c x l ++ lsT x k := by simp [lsP]
theorem lsP_all (c : Str) (x : Int) : lsP c x [2, 1, 0] = lsS c x := rfl
theorem ls_k {pre post : List Int} {n : Int} (h : [2, 1, 0] = pre ++ n :: post) : 0 ≤ n ∧ n ≤ 2 ∧ pre.length ≤ 2 := by
  have hl := congrArg List.length h
  have hm : n ∈ ([2, 1, 0] : List Int) := by rw [h]; simp
  simp at hl hm
  refine ⟨?_, ?_, ?_⟩ <;> omega
noncomputable def fmFind (x : Int) : List (Addr × Int × Str) → Str
  | [] => Str.ofString "-"
  | p :: q => if Builtin.bitAnd x p.2.1 = p.2.1 then p.2.2 else fmFind x q
theorem ret_bytes {Q : Value → Shared → Prop} {S : Shared} {b b' : Array UInt8} {t : Tok} (e : b = b') (h : Q (.bytes b' t) S) : Q (.bytes b t) S := e ▸ h
section
variable {prog : Program} {w : World} {A : Around} {E : Value → Shared → Prop} {s : Shared} {value slice : PySem.Expr} {t t1 t2 : Tok} {h₀ : Heap} {L : Addr} {m : PySem.Str → Option Value} {news : List (Addr × Obj)} {k : Int} {Q : Value → Shared → Prop}
theorem slice_AP (hF : Fr h₀ L s.heap m) (hN : News h₀ L s.heap news) (h0 : 0 ≤ k) (h1 : k < 16)
    (h : ∀ h' t' k', Fr h₀ L h' m → News h₀ L h' news → Q (.bytes #[(65 + k.toNat).toUInt8] t') { s with heap := h', toks := k' })
    (hs : subscripted slice false (.bytes #[65, 66, 67, 68, 69, 70, 71, 72, 73, 74, 75, 76, 77, 78, 79, 80] t) (.ref s.heap.objs.size) = operate [.ref s.heap.objs.size, .bytes #[65, 66, 67, 68, 69, 70, 71, 72, 73, 74, 75, 76, 77, 78, 79, 80] t] (getItem (.bytes #[65, 66, 67, 68, 69, 70, 71, 72, 73, 74, 75, 76, 77, 78, 79, 80] t) (.ref s.heap.objs.size)) := by with_unfolding_all rfl)
    (ht : ∀ r, letTemporaryGo value (.bytes #[65, 66, 67, 68, 69, 70, 71, 72, 73, 74, 75, 76, 77, 78, 79, 80] t) r = pure () := by intro _; with_unfolding_all rfl) :
    wpAny (model prog w) A (subscriptTail value slice (.bytes #[65, 66, 67, 68, 69, 70, 71, 72, 73, 74, 75, 76, 77, 78, 79, 80] t) (.ref s.heap.objs.size)) Q E { s with heap := s.heap.push { cls := .type "slice", data := .fields #[.int k t1, .int (k + 1) t2, .none] } } := by
  refine KBc.slice_K hF hN rfl (IsPart.int _ _) (IsPart.int _ _) (by decide) (fun h' t' k' F N _ => ?_) hs ht
  rw [picked_AP' h0 h1]
  exact h h' t' k' F N
end
section
variable {prog : Program} {w : World} {A A₀ : Around} {s : Shared} {K : Frag} {L : Addr} {h₀ base : Heap} {m mg mb : Str → Option Value} {p : Program} {loose : List Str} {mean : ExcName → Option Value}
theorem code_def0 {env : Env} {outer : List Env} {R : Result → Shared → Prop} {name qual : Str} {params : Arguments} {body : List Stmt} {scope : Scope} {dV kV doc pm cdv ct oc : Value} {an od : Option Addr} {osl : Array (Option Value)} {f : Addr} {args : Args} {binds : List (Str × Value)}
    (hA : A.frames = some (env :: outer))
    (hf : env.frame = some L)
    (hke : env.scope.kind = .function)
    (B : Below A₀ base outer h₀)
    (F : Fr h₀ L s.heap m)
    (X₀ : K.In h₀)
    (T : Top p loose mean mg mb h₀)
    (ho : K.lookup f = some ⟨oc, od, .func (fnOf name qual params body scope dV kV doc pm an cdv ct), osl⟩)
    (hcd : codeIn K cdv qual = true)
    (hroom : A.depth < recursionLimit)
    (hbind : BindsTo s (fnOf name qual params body scope dV kV doc pm an cdv ct) args binds)
    (hcell : ∀ x ∈ scope.names, x.2 ≠ .cell)
    (hloc : ∀ y ∈ binds, scope.names.lookup y.1 = some .local)
    (hco : scope.isCoroutine = false)
    (hgen : scope.isGenerator = false)
    (hk : scope.kind = .function)
    (h : ∀ L' h₁, Fr s.heap L' h₁ (fun y => binds.reverse.lookup y) → News s.heap L' h₁ [] → Below A base (env :: outer) s.heap → K.In s.heap → Top p loose mean mg mb s.heap →
      wpAny (model prog w) (A.deeper (envOf qual scope L' f cdv)) (execs body (envOf qual scope L' f cdv))
        (fun fl s' => LeaveK h₀ L m s.heap (fun r s' => (∀ b o, s.heap.get? b = some o → s'.heap.get? b = some o) → R r s') (match fl with | .ret v => v | _ => .none) s')
        (fun e s' => wpAny (model prog w) (A.deeper (envOf qual scope L' f cdv)) (leaving (envOf qual scope L' f cdv) e) (fun _ s'' => R (.error e) s'') (fun e' s'' => R (.error e') s'') s')
        { s with heap := h₁, toks := s.toks + binds.length }) : codeAny (model prog w) A (.call (.ref f) args) R s := by
  have X := X₀.keeps F.keep
  obtain ⟨FG, BG, st, lv⟩ := groundX (R := fun r s' => (∀ b o, s.heap.get? b = some o → s'.heap.get? b = some o) → R r s') (news := []) (A := A) B F (News.nil) hA hf hke
  refine codeAny_call_def (fd := fnOf name qual params body scope dV kV doc pm an cdv ct) (body := body) (binds := binds) hroom (X _ _ ho) rfl (T.nolimit.keeps F.keep) (codeRec_of X hcd) rfl hbind hcell hloc (fun h₁ hns hk₁ => ?_) hco hgen hk
  have FF : Fr s.heap s.heap.objs.size h₁ (fun y => binds.reverse.lookup y) := ⟨hns, hk₁, Nat.le_refl _⟩
  refine wpAny_mono (h s.heap.objs.size h₁ FF News.nil BG X (T.keeps F.keep)) (fun fl s' hl => ?_) fun _ _ y => y
  exact lv _ _ hl (by obtain ⟨_, _, _, F', _, _⟩ := hl; exact F'.keep)
theorem code_def1 {env : Env} {news : List (Addr × Obj)} {outer : List Env} {R : Result → Shared → Prop} {name qual : Str} {params : Arguments} {body : List Stmt} {scope : Scope} {dV kV doc pm cdv ct oc : Value} {an od : Option Addr} {osl : Array (Option Value)} {f : Addr} {args : Args} {binds : List (Str × Value)}
    (hA : A.frames = some (env :: outer))
    (hf : env.frame = some L)
    (hke : env.scope.kind = .function)
    (B : Below A₀ base outer h₀)
    (F : Fr h₀ L s.heap m)
    (X₀ : K.In h₀)
    (N : News h₀ L s.heap news)
    (T : Top p loose mean mg mb h₀)
    (ho : K.lookup f = some ⟨oc, od, .func (fnOf name qual params body scope dV kV doc pm an cdv ct), osl⟩)
    (hcd : codeIn K cdv qual = true)
    (hroom : A.depth < recursionLimit)
    (hbind : BindsTo s (fnOf name qual params body scope dV kV doc pm an cdv ct) args binds)
    (hcell : ∀ x ∈ scope.names, x.2 ≠ .cell)
    (hloc : ∀ y ∈ binds, scope.names.lookup y.1 = some .local)
    (hco : scope.isCoroutine = false)
    (hgen : scope.isGenerator = false)
    (hk : scope.kind = .function)
    (h : ∀ g L' h₁, Fr h₀ L g m → Fr g L' h₁ (fun y => binds.reverse.lookup y) → News g L' h₁ news → Below A base (env :: outer) g → K.In g → Top p loose mean mg mb g →
      wpAny (model prog w) (A.deeper (envOf qual scope L' f cdv)) (execs body (envOf qual scope L' f cdv))
        (fun fl s' => LeaveK h₀ L m g R (match fl with | .ret v => v | _ => .none) s')
        (fun e s' => wpAny (model prog w) (A.deeper (envOf qual scope L' f cdv)) (leaving (envOf qual scope L' f cdv) e) (fun _ s'' => R (.error e) s'') (fun e' s'' => R (.error e') s'') s')
        { s with heap := h₁, toks := s.toks + binds.length }) : codeAny (model prog w) A (.call (.ref f) args) R s :=
  code_def B F X₀ N T hA hf hke ho hcd hroom hbind hloc h hco hgen hk hcell
end
theorem news_keep {h₀ h h' : Heap} {L : Addr} {news : List (Addr × Obj)} (N : News h₀ L h news) (k : ∀ b o, h.get? b = some o → h'.get? b = some o) : News h₀ L h' news :=
  fun p hp => ⟨k _ _ (N p hp).1, (N p hp).2⟩
section
variable {prog : Program} {w : World} {A : Around} {E : Value → Shared → Prop} {s : Shared} {value slice : PySem.Expr} {t : Tok} {i : Int} {ui : Tok} {Q : Value → Shared → Prop}
theorem item_B64 (h0 : 0 ≤ i) (h1 : i < 64) (h : ∀ t' k, Q (.int (sg i.toNat) t') { s with toks := k })
    (hs : subscripted slice false (.bytes #[65, 66, 67, 68, 69, 70, 71, 72, 73, 74, 75, 76, 77, 78, 79, 80, 81, 82, 83, 84, 85, 86, 87, 88, 89, 90, 97, 98, 99, 100, 101, 102, 103, 104, 105, 106, 107, 108, 109, 110, 111, 112, 113, 114, 115, 116, 117, 118, 119, 120, 121, 122, 48, 49, 50, 51, 52, 53, 54, 55, 56, 57, 43, 47] t) (.int i ui) = operate [.bytes #[65, 66, 67, 68, 69, 70, 71, 72, 73, 74, 75, 76, 77, 78, 79, 80, 81, 82, 83, 84, 85, 86, 87, 88, 89, 90, 97, 98, 99, 100, 101, 102, 103, 104, 105, 106, 107, 108, 109, 110, 111, 112, 113, 114, 115, 116, 117, 118, 119, 120, 121, 122, 48, 49, 50, 51, 52, 53, 54, 55, 56, 57, 43, 47] t, .int i ui] (getItem (.bytes #[65, 66, 67, 68, 69, 70, 71, 72, 73, 74, 75, 76, 77, 78, 79, 80, 81, 82, 83, 84, 85, 86, 87, 88, 89, 90, 97, 98, 99, 100, 101, 102, 103, 104, 105, 106, 107, 108, 109, 110, 111, 112, 113, 114, 115, 116, 117, 118, 119, 120, 121, 122, 48, 49, 50, 51, 52, 53, 54, 55, 56, 57, 43, 47] t) (.int i ui)) := by with_unfolding_all rfl)
    (ht : ∀ r, letTemporaryGo value (.bytes #[65, 66, 67, 68, 69, 70, 71, 72, 73, 74, 75, 76, 77, 78, 79, 80, 81, 82, 83, 84, 85, 86, 87, 88, 89, 90, 97, 98, 99, 100, 101, 102, 103, 104, 105, 106, 107, 108, 109, 110, 111, 112, 113, 114, 115, 116, 117, 118, 119, 120, 121, 122, 48, 49, 50, 51, 52, 53, 54, 55, 56, 57, 43, 47] t) r = pure () := by intro _; with_unfolding_all rfl) :
    wpAny (model prog w) A (subscriptTail value slice (.bytes #[65, 66, 67, 68, 69, 70, 71, 72, 73, 74, 75, 76, 77, 78, 79, 80, 81, 82, 83, 84, 85, 86, 87, 88, 89, 90, 97, 98, 99, 100, 101, 102, 103, 104, 105, 106, 107, 108, 109, 110, 111, 112, 113, 114, 115, 116, 117, 118, 119, 120, 121, 122, 48, 49, 50, 51, 52, 53, 54, 55, 56, 57, 43, 47] t) (.int i ui)) Q E s :=
  KBw.item_K (b := #[65, 66, 67, 68, 69, 70, 71, 72, 73, 74, 75, 76, 77, 78, 79, 80, 81, 82, 83, 84, 85, 86, 87, 88, 89, 90, 97, 98, 99, 100, 101, 102, 103, 104, 105, 106, 107, 108, 109, 110, 111, 112, 113, 114, 115, 116, 117, 118, 119, 120, 121, 122, 48, 49, 50, 51, 52, 53, 54, 55, 56, 57, 43, 47]) b64arr_ints (by decide) h0 (by show i < 64; exact h1) (fun t' k _ _ => h t' k) hs ht
end
theorem ite_strs {M : Model} {A : Around} {E : Value → Shared → Prop} {s : Shared} {env : Env} {Q : Value → Shared → Prop} {c : Prop} [Decidable c] {a b : Str} {k k' : Nat} {p p' : Pos}
    (ha : a.length ≤ 1) (hb : b.length ≤ 1) (h : ∀ u : Str, u = (if c then a else b) → u.length ≤ 1 → Q (.str u s.toks) { s with toks := s.toks + 1 }) : if c then wpAny M A (eval (.Constant (.str a) k p) env) Q E s else wpAny M A (eval (.Constant (.str b) k' p') env) Q E s := by
  by_cases hc : c
  · rw [if_pos hc] at h ⊢; exact PySem.Calls.Constant_str (h _ rfl ha)
  · rw [if_neg hc] at h ⊢; exact PySem.Calls.Constant_str (h _ rfl hb)
theorem add_strL {prog : Program} {w : World} {A : Around} {E : Value → Shared → Prop} {s : Shared} {x y : Str} {t u : Tok} {n m : Nat} {Q : Value → Shared → Prop} (hx : x.length ≤ n) (hy : y.length ≤ m) (hnm : n + m ≤ 1000)
    (h : ∀ z : Str, z = x ++ y → z.length ≤ n + m → ∀ t' k, Q (.str z t') { s with toks := k }) : wpAny (model prog w) A (binaryOp .Add (.str x t) (.str y u)) Q E s := by
  have hl : (x ++ y).length ≤ n + m := by rw [strLen_append]; omega
  exact PyProof.Rows.add_str (h _ rfl hl) (by rw [sizeLine_eq]; omega)
theorem item_strL {prog : Program} {w : World} {A : Around} {E : Value → Shared → Prop} {s : Shared} {value slice : PySem.Expr} {x : Str} {t ui : Tok} {i : Int} {Q : Value → Shared → Prop} (h0 : 0 ≤ i) (h1 : i < 4) (hx : x.length = 4)
    (h : ∀ u : Str, u = Txt.item x i → u.length ≤ 1 → ∀ t' k, Q (.str u t') { s with toks := k })
    (hs : subscripted slice false (.str x t) (.int i ui) = operate [.str x t, .int i ui] (getItem (.str x t) (.int i ui)) := by with_unfolding_all rfl)
    (ht : ∀ r, letTemporaryGo value (.str x t) r = pure () := by intro _; with_unfolding_all rfl) :
    wpAny (model prog w) A (subscriptTail value slice (.str x t) (.int i ui)) Q E s :=
  tail_of_ItemOn (SB.item (fitsSsize_of (N := 9223372036854775808) (by omega) (by omega) (Int.le_refl _)) (charAt_isSome (by omega) (by omega)) (h _ rfl (Nat.le_of_eq (len_item x i)) _ _)) hs ht
theorem last_range (a b : Int) : 0 ≤ 2 * Builtin.bitAnd a 1 + Builtin.bitAnd b 1 ∧ 2 * Builtin.bitAnd a 1 + Builtin.bitAnd b 1 < 4 := by
  rw [bitAnd_m1, bitAnd_m1]
  omega
theorem news_head {h₀ h : Heap} {L a : Addr} {o : Obj} {rest : List (Addr × Obj)} (_N : News h₀ L h ((a, o) :: rest)) : ∃ z : Addr, z = a := ⟨a, rfl⟩
theorem wpAny_tok {α : Type} {M : Model} {A : Around} {m : Sem α} {Q : α → Shared → Prop} {E : Value → Shared → Prop} {h : Heap} {g : Array GenState} {d : Drawn} {a b : Nat} {o : OsState} (H : ∀ t', wpAny M A m Q E ⟨h, g, d, t', o⟩) : wpAny M A m Q E ⟨h, g, d, a + b, o⟩ := H _
theorem room_of {dp r k L : Nat} (hd : dp + r < L) (h : k ≤ r) : dp + k < L := by omega
theorem room_rm (r : Nat) (h : r ≤ 9) : callerA.depth + 1 + r < recursionLimit := by
  simp only [depth_caller, recursionLimit]; omega
theorem room_um (r : Nat) (h : r ≤ 9) : callerA.units + 3 + 8 * r < cLine := by
  have := cLine_is
  simp only [units_caller, cLine]; omega
theorem room_of2 {dp r a b L : Nat} (hd : dp + r < L) (h : a + b ≤ r) : dp + a + b < L := by omega
section
open AutoSeq1 (wpAny_loadPart')
set_option maxRecDepth 100000
theorem enum_new_tup (l : Addr) (items : Array Value) (n : Nat) (dct : Option Addr) (sl : Array (Option Value)) :
    Meets (Builtin.«enumerate.__new__» ⟨[.type "enumerate", .ref l], []⟩) (fun _ R s => s.heap.get? l = some { cls := .type "tuple", dict := dct, data := .seq items n, slots := sl } ∧
      R (.ok (.ret (.ref (s.heap.push { cls := .type "tuple_iterator", data := .fields #[.ref l, .int 0 0] }).objs.size)))
        { s with heap := (s.heap.push { cls := .type "tuple_iterator", data := .fields #[.ref l, .int 0 0] }).push { cls := .type "enumerate", data := .fields #[.none, .bool false, .ref s.heap.objs.size, rawInt 0, .none, .none] } }) :=
  .of_wp fun prog w A R s h => by
    obtain ⟨hp, g, d, tk, os⟩ := s; obtain ⟨hl, h⟩ := h
    have hsub := sub_enumerate
    have hL : Heap.IsTuple (Shared.heap ⟨hp, g, d, tk, os⟩) l items := ⟨_, hl, rfl, n, rfl⟩
    wp_walk using wpAny_loadPart' hl
    refine wpAny_stack_any fun st => wpAny_pure ?_
    split
    · rename_i c _ _ _ _ _
      cases (c == Value.type "enumerate")
      · wp_walk using wpAny_loadPart' hl, wpAny_pyIter_tuple hL
        exact ⟨_, rfl, h⟩
      · wp_walk using wpAny_loadPart' hl, wpAny_pyIter_tuple hL
        exact ⟨_, rfl, h⟩
    · wp_walk using wpAny_loadPart' hl, wpAny_pyIter_tuple hL
      exact ⟨_, rfl, h⟩
end
section
variable {prog : Program} {w : World} {A : Around} {E : Value → Shared → Prop} {s : Shared}
theorem nextOf_tup_item {it l : Addr} {i : Nat} {items : Array Value} {x : Value} {Q : Value → Shared → Prop} (hit : s.heap.IsTupleIter it l i)
    (hl : s.heap.IsTuple l items) (hx : items[i]? = some x)
    (hQ : ∀ h', h'.IsTupleIter it l (i + 1) → Heap.SameBut it s.heap h' → Q x { s with heap := h' }) :
    wpAny (model prog w) A (Builtin.SmallTypes.nextOf (.ref it)) Q E s := by
  obtain ⟨o, ho, hc, hd⟩ := id hit
  obtain ⟨ol, hol, _, nl, hdl⟩ := hl
  unfold Builtin.SmallTypes.nextOf
  refine wpAny_bind (wpAny_callSpecial?_slot (name := Str.ofString "__next__") hit.typeIs F.slot_tuple_iterator_next
    (wpAny_call_entry F.slot_tuple_iterator_next hit.typeIs F.entry_tuple_iterator_next ?_ (F.args_tuple_iterator_next_1 _)))
  show wpAny _ _ (field (.ref it) 0 >>= _) _ _ s
  refine wpAny_bind (wpAny_field ho hd (x := .ref l) rfl ?_)
  show wpAny _ _ (if (Value.ref l == Value.none) = true then _ else _) _ _ s
  rw [if_neg (show ¬ ((Value.ref l == Value.none) = true) from Bool.false_ne_true)]
  show wpAny _ _ (field (.ref it) 1 >>= _) _ _ s
  refine wpAny_bind (wpAny_field ho hd (x := .int i 0) rfl ?_)
  show wpAny _ _ (seqItems? (.ref l) >>= _) _ _ s
  refine wpAny_bind (wpAny_seqItems hol hdl ?_)
  simp only [Int.toNat_natCast, hx]
  refine wpAny_bind (wpAny_setField ho hd (by simp) (wpAny_pure ⟨x, rfl, wpAny_pure (hQ _ ?_ (Heap.SameBut.update ..))⟩))
  exact ⟨_, Heap.get?_update_self _ ho (Obj.isFreed_of_fields (Obj.data_mapFields hd _)), (Obj.cls_mapFields ..).trans hc, by
    rw [Obj.data_mapFields hd]; simp [rawInt]⟩
theorem nextOf_tup_end {it l : Addr} {i : Nat} {items : Array Value} {Q : Value → Shared → Prop} (hh : A.handled = none)
    (hit : s.heap.IsTupleIter it l i) (hl : s.heap.IsTuple l items) (hx : items[i]? = none)
    (hE : ∀ h' e, Heap.ExtBut it s.heap h' → (∃ o, h'.get? e = some o ∧ o.cls = .type "StopIteration") → E (.ref e) { s with heap := h' }) :
    wpAny (model prog w) A (Builtin.SmallTypes.nextOf (.ref it)) Q E s := by
  obtain ⟨o, ho, hc, hd⟩ := id hit
  obtain ⟨ol, hol, _, nl, hdl⟩ := hl
  unfold Builtin.SmallTypes.nextOf
  refine wpAny_bind (wpAny_callSpecial?_slot (name := Str.ofString "__next__") hit.typeIs F.slot_tuple_iterator_next
    (wpAny_call_entry F.slot_tuple_iterator_next hit.typeIs F.entry_tuple_iterator_next ?_ (F.args_tuple_iterator_next_1 _)))
  show wpAny _ _ (field (.ref it) 0 >>= _) _ _ s
  refine wpAny_bind (wpAny_field ho hd (x := .ref l) rfl ?_)
  show wpAny _ _ (if (Value.ref l == Value.none) = true then _ else _) _ _ s
  rw [if_neg (show ¬ ((Value.ref l == Value.none) = true) from Bool.false_ne_true)]
  show wpAny _ _ (field (.ref it) 1 >>= _) _ _ s
  refine wpAny_bind (wpAny_field ho hd (x := .int i 0) rfl ?_)
  show wpAny _ _ (seqItems? (.ref l) >>= _) _ _ s
  refine wpAny_bind (wpAny_seqItems hol hdl ?_)
  simp only [Int.toNat_natCast, hx]
  refine wpAny_bind (wpAny_rule (wpAny_bind (wpAny_setField ho hd (by simp) ?_)))
  show wpAny _ _ (newExc (.type "StopIteration") [] >>= _) _ _ _
  refine wpAny_bind ?_
  simp only [newExc, newTuple]
  refine wpAny_bind (wpAny_newObj_type ?_ (by size_fits))
  refine wpAny_bind (m := firstArgMember _ _) (wpAny_of_eq (a := Value.none) (by first | rfl | (simp only [firstArgMember]; rfl)) ?_)
  refine wpAny_newObj_type ?_ (by size_fits)
  simp only [raiseNew]
  refine wpAny_bind (wpAny_handled ?_)
  first | rw [show A.in1.handled = none from hh] | rw [hh]
  refine wpAny_bind (wpAny_pure (wpAny_throw ?_))
  exact hE _ _ (((Heap.SameBut.update ..).extBut.push _).push _) ⟨_, Heap.get?_push_size _ rfl, rfl⟩
end
theorem draws_tup {prog : Program} {w : World} {A : Around} (hh : A.handled = none) (it l : Addr) (hne : l ≠ it) (items : Array Value) :
    Draws prog w A it [it, l] items.size (fun i v => items[i]? = some v) (fun i h => h.IsTupleIter it l i ∧ h.IsTuple l items) where
  live := fun _ _ st => let ⟨o, ho, _⟩ := st.1; ⟨o, ho⟩
  frame := fun _ _ _ st hk => ⟨st.1.at fun o e => hk it (by simp) o e, st.2.at fun o e => hk l (by simp) o e⟩
  item := fun i s Q E hi st hQ => by
    refine nextOf_tup_item st.1 st.2 (x := items[i]) (by simp [hi]) fun h' hit' hs' => ?_
    exact hQ _ h' s.toks (by simp [hi]) ⟨hit', st.2.extBut hs'.extBut hne⟩ hs'
  done := fun s Q E st hE => nextOf_tup_end hh st.1 st.2 (by simp) hE
noncomputable def valKind : ItemKind Value := ⟨fun a v => v = a, fun v => some v, fun _ _ h => by rw [h]⟩
section
variable {prog : Program} {w : World} {A : Around} {E : Value → Shared → Prop} {s : Shared} {h₀ : Heap} {L : Addr} {m : Str → Option Value} {news : List (Addr × Obj)}
theorem call_enum_tup0 {l : Addr} {items : Array Value} {Q : Value → Shared → Prop} (hL : s.heap.IsTuple l items)
    (h : ∀ h', IsEnum h' (s.heap.objs.size + 1) s.heap.objs.size 0 .none → h'.IsTupleIter s.heap.objs.size l 0 → h'.objs.size = s.heap.objs.size + 2 →
      (∀ b o, s.heap.get? b = some o → h'.get? b = some o) → Q (.ref (s.heap.objs.size + 1)) { s with heap := h' }) :
    wpAny (model prog w) A (call (.type "enumerate") [.ref l]) Q E s := by
  obtain ⟨⟨c, dct, dt, sl⟩, hl, hc, n, hd⟩ := hL
  replace hc : c = .type "tuple" := hc
  replace hd : dt = .seq items n := hd
  subst hc hd
  refine callType_new F.called_enumerate (by decide) (F.typeCall_enumerate_1 _) (F.newCall_enumerate_1 _) (fun obj => F.args_object_init_2 obj _) F.entry_enumerate_new
    (enum_new_tup l items n dct sl) ⟨hl, ?_⟩
  have hz : (s.heap.push { cls := .type "tuple_iterator", data := .fields #[.ref l, .int 0 0] }).objs.size = s.heap.objs.size + 1 := Heap.size_push ..
  show _ ∧ _
  rw [hz]
  have he : IsEnum ((s.heap.push { cls := .type "tuple_iterator", data := .fields #[.ref l, .int 0 0] }).push
      { cls := .type "enumerate", data := .fields #[.none, .bool false, .ref s.heap.objs.size, rawInt 0, .none, .none] }) (s.heap.objs.size + 1) s.heap.objs.size 0 .none := by
    have := Heap.get?_push_size (s.heap.push { cls := .type "tuple_iterator", data := .fields #[.ref l, .int 0 0] })
      (o := { cls := .type "enumerate", data := .fields #[.none, .bool false, .ref s.heap.objs.size, rawInt 0, .none, .none] }) rfl
    rw [hz] at this; exact this
  refine ⟨⟨_, he, rfl⟩, h _ he ⟨_, Heap.get?_push_of_some _ (Heap.get?_push_size _ rfl), rfl, rfl⟩ (by rw [Heap.size_push, hz]) fun b o x => Heap.get?_push_of_some _ (Heap.get?_push_of_some _ x)⟩
theorem call_enum_tup {l : Addr} {vs : List Value} {Q : Value → Shared → Prop} (hh : A.handled = none) (hl : h₀.IsTuple l vs.toArray)
    (F : Fr h₀ L s.heap m) (N : News h₀ L s.heap news)
    (h : ∀ h' e, Fr h₀ L h' m → News h₀ L h' news → PairSrcL prog w A E h₀ L valKind vs (.ref e) { s with heap := h' } m news → Q (.ref e) { s with heap := h' }) :
    wpAny (model prog w) A (call (.type "enumerate") [.ref l]) Q E s := by
  have hls : s.heap.IsTuple l vs.toArray := hl.at fun o e => F.keep l o e
  obtain ⟨ol, hol, _⟩ := id hl
  have hlt : l < h₀.objs.size := Heap.lt_size hol
  have hLs : L < s.heap.objs.size := F.ns.lt
  have hab : h₀.objs.size ≤ L := F.above
  refine call_enum_tup0 hls fun h' he hit hsz hk => ?_
  have F' : Fr h₀ L h' m := ⟨F.ns.keeps hk, fun b o e => hk b o (F.keep b o e), F.above⟩
  have N' : News h₀ L h' news := fun p hp => ⟨hk _ _ (N p hp).1, (N p hp).2⟩
  refine h h' _ F' N' fun env hL => ?_
  subst hL
  have hl2 : l < s.heap.objs.size := Nat.lt_trans (Nat.lt_of_lt_of_le hlt hab) hLs
  refine enumSrc (draws_tup (A := A.in1) hh s.heap.objs.size l (Nat.ne_of_lt hl2) vs.toArray) he ⟨hit, hls.at fun o e => hk l o e⟩ (Nat.succ_ne_self _) ?_ (by simp) ?_
    (Heap.get?_none_of_le (Nat.le_trans hab (Nat.le_of_lt (Nat.lt_succ_of_lt hLs)))) (Heap.get?_none_of_le (Nat.le_trans hab (Nat.le_of_lt hLs))) ?_ (by simp) (fun i x hx => ⟨x, by simpa using hx, rfl⟩) F' N'
  · intro hm
    rcases List.mem_cons.mp hm with e | hm
    · exact Nat.succ_ne_self _ e
    · exact Nat.ne_of_gt (Nat.lt_succ_of_lt hl2) (List.mem_singleton.mp hm)
  · intro hm
    rcases List.mem_cons.mp hm with e | hm
    · exact Nat.ne_of_lt (Nat.lt_succ_of_lt hLs) e
    · rcases List.mem_cons.mp hm with e | hm
      · exact Nat.ne_of_lt hLs e
      · exact Nat.ne_of_gt (Nat.lt_of_lt_of_le hlt hab) (List.mem_singleton.mp hm)
  · intro b hb q hq e
    have hq1 : q.1 < s.heap.objs.size := Heap.lt_size (N q hq).1
    simp only [List.mem_cons, List.not_mem_nil, or_false] at hb
    rcases hb with e1 | e1 | e1
    · rw [e1] at e; exact Nat.ne_of_gt (Nat.lt_succ_of_lt hq1) e
    · rw [e1] at e; exact Nat.ne_of_gt hq1 e
    · have hn := (N q hq).2.2
      rw [← e, e1, hol] at hn
      cases hn
end
noncomputable def TupRest (prog : Program) (w : World) (A : Around) (E : Value → Shared → Prop) (h₀ : Heap) (env : Env) (target : PySem.Expr) (body orelse : List Stmt) (Q : Flow → Shared → Prop) (s : Shared) (I : Addr) : List Value → (Str → Option Value) → List (Addr × Obj) → Prop
  | [], m, news => ∀ h tk, Fr h₀ env.locals h m → News h₀ env.locals h news → wpAny (model prog w) A (execs orelse env) Q E { s with heap := h, toks := tk }
  | v :: r, m, news => ∀ (it : Obj) h tk, it.cls = .type "tuple_iterator" → Fr h₀ env.locals h m → News h₀ env.locals h ((I, it) :: news) →
      wpAny (model prog w) A (assign target env v) (fun _ s₂ => wpAny (model prog w) A (execs body env) (UnrPost h₀ env.locals { s with heap := h, toks := tk } I it (TupRest prog w A E h₀ env target body orelse Q s I r) Q) E s₂) E { s with heap := h, toks := tk }
section
variable {prog : Program} {w : World} {A : Around} {E : Value → Shared → Prop} {s : Shared} {env : Env} {h₀ : Heap} {target : PySem.Expr} {body orelse : List Stmt} {Q : Flow → Shared → Prop}
theorem TupRest.zero {I : Addr} {m : Str → Option Value} {news : List (Addr × Obj)} (h : ∀ h tk, Fr h₀ env.locals h m → News h₀ env.locals h news → wpAny (model prog w) A (execs orelse env) Q E { s with heap := h, toks := tk }) :
    TupRest prog w A E h₀ env target body orelse Q s I [] m news := h
theorem TupRest.succ {I : Addr} {v : Value} {r : List Value} {m : Str → Option Value} {news : List (Addr × Obj)}
    (h : ∀ (it : Obj) h tk, it.cls = .type "tuple_iterator" → Fr h₀ env.locals h m → News h₀ env.locals h ((I, it) :: news) →
      wpAny (model prog w) A (assign target env v) (fun _ s₂ => wpAny (model prog w) A (execs body env) (UnrPost h₀ env.locals { s with heap := h, toks := tk } I it (TupRest prog w A E h₀ env target body orelse Q s I r) Q) E s₂) E { s with heap := h, toks := tk }) :
    TupRest prog w A E h₀ env target body orelse Q s I (v :: r) m news := h
theorem forLoop_tupElse {ta : Addr} {vs : List Value} {m : Str → Option Value} {news : List (Addr × Obj)} (hh : A.handled = none) (ht : h₀.IsTuple ta vs.toArray)
    (F : Fr h₀ env.locals s.heap m) (N : News h₀ env.locals s.heap news) (hE : PassesOwn (model prog w) A env E)
    (rest : ∀ I, (∀ p ∈ news, p.1 < I) → TupRest prog w A E h₀ env target body orelse Q s I vs m news) :
    wpAny (model prog w) A (pyIter (.ref ta)) (fun it s₂ => codeAny (model prog w) A (.forLoop target it body orelse env) (fun r s' => match r with | .ok f => Q f s' | .error e => cameBackBy (model prog w) A env E e s') s₂) E s := by
  have hts : s.heap.IsTuple ta vs.toArray := ht.at fun o e => F.keep ta o e
  refine wpAny_pyIter_tuple hts ?_
  have hI0 := next_is_new F
  have hLI : env.locals ≠ s.heap.objs.size := Nat.ne_of_lt F.ns.lt
  have rest := rest s.heap.objs.size fun p hp => Heap.lt_size (N p hp).1
  have hnI : ∀ p ∈ news, p.1 ≠ s.heap.objs.size := fun p hp => Nat.ne_of_lt (Heap.lt_size (N p hp).1)
  generalize hI : s.heap.objs.size = I at *
  have step : ∀ (h h₁ : Heap) (m₁ : Str → Option Value) (news₁ : List (Addr × Obj)), (∀ b o, b ≠ I → h.get? b = some o → h₁.get? b = some o) → (∀ p ∈ news₁, p.1 ≠ I) → Fr h₀ env.locals h m₁ → News h₀ env.locals h news₁ → Fr h₀ env.locals h₁ m₁ ∧ News h₀ env.locals h₁ news₁ := by
    intro h h₁ m₁ news₁ hk hn F₁ N₁
    refine ⟨⟨F₁.ns.at' fun o e => hk _ o hLI e, fun b o e => hk b o (fun q => ?_) (F₁.keep b o e), F₁.above⟩, fun p hp => ⟨hk _ _ (hn p hp) (N₁ p hp).1, (N₁ p hp).2⟩⟩
    rw [q, hI0] at e; cases e
  refine codeAny_forLoop_any (fun k s' => ∃ i h tk m₁ news₁, s' = { s with heap := h, toks := tk } ∧ h.IsTupleIter I ta i ∧ Fr h₀ env.locals h m₁ ∧ News h₀ env.locals h news₁ ∧ (∀ p ∈ news₁, p.1 ≠ I) ∧ TupRest prog w A E h₀ env target body orelse Q s I (vs.drop i) m₁ news₁ ∧ i ≤ vs.length ∧ k = vs.length + 1 - i) ?_ (vs.length + 1)
    ⟨0, _, _, m, news, rfl, ⟨_, hI ▸ Heap.get?_push_size _ rfl, rfl, rfl⟩, F.push _, fun p hp => ⟨Heap.get?_push_of_some _ (N p hp).1, (N p hp).2⟩, hnI, rest, Nat.zero_le _, rfl⟩
  rintro k s' ⟨i, h, tk, m₁, news₁, rfl, hit, F₁, N₁, hn₁, rest₁, hi, rfl⟩
  have ht₁ : h.IsTuple ta vs.toArray := ht.at fun o e => F₁.keep ta o e
  by_cases hlt : i < vs.length
  · refine wpAny_pyNext_tuple_item hit ht₁ (x := vs[i]) (by simp [hlt]) fun h₁ hit₁ hs₁ => ?_
    obtain ⟨F₂, N₂⟩ := step h h₁ m₁ news₁ (fun b o hb e => hs₁.extBut b o hb e) hn₁ F₁ N₁
    refine letGo_tupleiter hit₁ ?_
    rw [List.drop_eq_getElem_cons hlt] at rest₁
    obtain ⟨o, ho, hc, hd⟩ := hit₁
    have N₃ : News h₀ env.locals h₁ ((I, o) :: news₁) := fun p hp => by
      rcases List.mem_cons.mp hp with rfl | hp
      · exact ⟨ho, Ne.symm hLI, hI0⟩
      · exact N₂ p hp
    refine wpAny_mono (wpAny_passesOwn hE (rest₁ o h₁ tk hc F₂ N₃)) (fun _ s₂ h₂ => wpAny_mono (wpAny_passesOwn hE h₂) (fun f s₃ h₃ => ?_) fun _ _ e => e) fun _ _ e => e
    have fin : UnrEnd h₀ env.locals { s with heap := h₁, toks := tk } I o (TupRest prog w A E h₀ env target body orelse Q s I (vs.drop (i + 1))) s₃ → _ := fun ⟨h', tk', m', news', e, F', N', ho', r⟩ =>
      show ∃ m, m < vs.length + 1 - i ∧ ∃ i h tk m₁ news₁, s₃ = { s with heap := h, toks := tk } ∧ h.IsTupleIter I ta i ∧ Fr h₀ env.locals h m₁ ∧ News h₀ env.locals h news₁ ∧ (∀ p ∈ news₁, p.1 ≠ I) ∧ TupRest prog w A E h₀ env target body orelse Q s I (vs.drop i) m₁ news₁ ∧ i ≤ vs.length ∧ m = vs.length + 1 - i from
      ⟨vs.length + 1 - (i + 1), by omega, i + 1, h', tk', m', news', e, ⟨o, (N' _ (.head _)).1, hc, hd⟩, F', fun p hp => N' p (.tail _ hp), ho', r, hlt, rfl⟩
    cases f with
    | ret v => exact h₃
    | brk => exact h₃
    | next => exact fin h₃
    | cont => exact fin h₃
  · have hin : i = vs.length := by omega
    subst hin
    refine wpAny_pyNext_tuple_end hh hit ht₁ (by simp) fun h₁ he₁ => ?_
    obtain ⟨F₂, N₂⟩ := step h h₁ m₁ news₁ (fun b o hb e => he₁ b o hb e) hn₁ F₁ N₁
    rw [List.drop_length] at rest₁
    exact wpAny_passesOwn hE (rest₁ h₁ tk F₂ N₂)
theorem For_tupElse {ta : Addr} {vs : List Value} {m : Str → Option Value} {news : List (Addr × Obj)} {iter : PySem.Expr} {pos : Pos} (hh : A.handled = none)
    (F : Fr h₀ env.locals s.heap m) (N : News h₀ env.locals s.heap news)
    (hev : ∀ (Q' : Value → Shared → Prop), (Q' (.ref ta) s) → wpAny (model prog w) A (eval iter env) Q' E s) (ht : h₀.IsTuple ta vs.toArray)
    (rest : ∀ I, (∀ p ∈ news, p.1 < I) → TupRest prog w A E h₀ env target body orelse Q s I vs m news)
    (hs : ∀ x, foldedSetIterable iter env x = pure x)
    (hE : PassesOwn (model prog w) A env E := by passes_own) :
    wpAny (model prog w) A (exec (.For target iter body orelse pos) env) Q E s :=
  wpAny_For (hev _ (forLoop_tupElse hh ht F N hE rest)) hs
end
theorem two_names {m₁ : Str → Option Value} {a b : Str} {va vb : Value} (ha : m₁ a = some va) (hb : m₁ b = some vb) : m₁ = fun z => if z = a then some va else if z = b then some vb else m₁ z := by
  funext z
  by_cases h1 : z = a
  · rw [if_pos h1, h1, ha]
  · rw [if_neg h1]
    by_cases h2 : z = b
    · rw [if_pos h2, h2, hb]
    · rw [if_neg h2]
theorem news_swap {h₀ h : Heap} {L : Addr} {own : List (Addr × Obj)} {p : Addr × Obj} (N : News h₀ L h (own ++ [p])) : News h₀ L h (p :: own) := fun q hq => by
  rcases List.mem_cons.mp hq with rfl | hq
  · exact N _ (List.mem_append_right _ (.head _))
  · exact N _ (List.mem_append_left _ hq)
theorem news_swap' {h₀ h : Heap} {L : Addr} {own : List (Addr × Obj)} {p : Addr × Obj} (N : News h₀ L h (p :: own)) : News h₀ L h (own ++ [p]) := fun q hq => by
  rcases List.mem_append.mp hq with hq | hq
  · exact N _ (.tail _ hq)
  · rw [List.mem_singleton.mp hq]; exact N _ (.head _)
theorem unrEnd_tail {h₀ : Heap} {L I : Addr} {it : Obj} {rest : (Str → Option Value) → List (Addr × Obj) → Prop} {s₁ : Shared} {h' : Heap} {tk : Nat} {m' : Str → Option Value} {news' : List (Addr × Obj)} (F : Fr h₀ L h' m') (N : News h₀ L h' ((I, it) :: news'))
    (off : ∀ p ∈ news', p.1 < I) (r : rest m' news') : UnrEnd h₀ L s₁ I it rest { s₁ with heap := h', toks := tk } := ⟨h', tk, m', news', rfl, F, N, fun p hp => Nat.ne_of_lt (off p hp), r⟩
theorem news_end1 {h₀ h : Heap} {L I : Addr} {it : Obj} {own : List (Addr × Obj)} {p : Addr × Obj} (N : News h₀ L h ((I, it) :: p :: own)) : News h₀ L h (own ++ [p]) := news_swap' fun q hq => N q (.tail _ hq)
section
variable {h₀ h' : Heap} {L l' I : Addr} {it o : Obj} {own : List (Addr × Obj)} {m' : Str → Option Value} {vs : List Value} {n' i tk : Nat} {ch ch' : Str} {t tx : Tok} {x : Int} {l : List Str} {s₁ : Shared} {Qr : Value → Shared → Prop} {Qb : Shared → Prop}
theorem fm_endB (F : Fr h₀ L h' m') (N : News h₀ L h' ((l', W.listOf (vs ++ [Value.str ch t]).toArray n') :: own)) (hv : StrsAre vs (l.take i)) (h1 : m' (Str.ofString "mode") = some (.int x tx)) (h2 : m' (Str.ofString "perm") = some (.ref l')) (hl : l[i]? = some ch') (e : ch' = ch) :
    LoopStep3 h₀ L own [(l', o)] (fun m₁ news₁ => m₁ (Str.ofString "mode") = some (.int x tx) ∧ m₁ (Str.ofString "perm") = some (.ref l') ∧ ∃ vs n, news₁ = [(l', W.listOf vs.toArray n)] ∧ StrsAre vs (l.take (i + 1))) s₁ Qr Qb .next { s₁ with heap := h', toks := tk } :=
  LoopStep3.next (LoopStep2.intro F (news_swap' N) rfl ⟨h1, h2, _, _, rfl, fm_next hv hl e⟩)
theorem fm_endA (F : Fr h₀ L h' m') (N : News h₀ L h' ((I, it) :: (l', W.listOf (vs ++ [Value.str ch t]).toArray n') :: own)) (hv : StrsAre vs (l.take i)) (h1 : m' (Str.ofString "mode") = some (.int x tx)) (h2 : m' (Str.ofString "perm") = some (.ref l')) (hl : l[i]? = some ch') (e : ch' = ch) :
    LoopStep3 h₀ L own [(l', o)] (fun m₁ news₁ => m₁ (Str.ofString "mode") = some (.int x tx) ∧ m₁ (Str.ofString "perm") = some (.ref l') ∧ ∃ vs n, news₁ = [(l', W.listOf vs.toArray n)] ∧ StrsAre vs (l.take (i + 1))) s₁ Qr Qb .next { s₁ with heap := h', toks := tk } :=
  fm_endB F (fun q hq => N q (.tail _ hq)) hv h1 h2 hl e
end
theorem three_names {m₁ : Str → Option Value} {a b c : Str} {va vb vc : Value} (ha : m₁ a = some va) (hb : m₁ b = some vb) (hc : m₁ c = some vc) : m₁ = fun z => if z = a then some va else if z = b then some vb else if z = c then some vc else m₁ z := by
  funext z
  by_cases h1 : z = a
  · rw [if_pos h1, h1, ha]
  · rw [if_neg h1]
    by_cases h2 : z = b
    · rw [if_pos h2, h2, hb]
    · rw [if_neg h2]
      by_cases h3 : z = c
      · rw [if_pos h3, h3, hc]
      · rw [if_neg h3]
theorem unrPost_mono {h₀ : Heap} {L : Addr} {s₁ : Shared} {I : Addr} {it : Obj} {rest rest' : (Str → Option Value) → List (Addr × Obj) → Prop} {Q : Flow → Shared → Prop} {f : Flow} {s₂ : Shared} (h : UnrPost h₀ L s₁ I it rest Q f s₂) (k : ∀ m n, rest m n → rest' m n) : UnrPost h₀ L s₁ I it rest' Q f s₂ := by
  have e : UnrEnd h₀ L s₁ I it rest s₂ → UnrEnd h₀ L s₁ I it rest' s₂ := fun ⟨h', tk, m', n', e, F, N, o, r⟩ => ⟨h', tk, m', n', e, F, N, o, k _ _ r⟩
  cases f with
  | ret v => exact h
  | brk => exact h
  | next => exact e h
  | cont => exact e h
theorem tupRest_J {prog : Program} {w : World} {A : Around} {E : Value → Shared → Prop} {s : Shared} {env : Env} {h₀ : Heap} {target : PySem.Expr} {body orelse : List Stmt} {Q : Flow → Shared → Prop} {I : Addr} {news : List (Addr × Obj)} (J : List Value → (Str → Option Value) → Prop)
    (turn : ∀ v r m₁ (it : Obj) h tk, J (v :: r) m₁ → it.cls = .type "tuple_iterator" → Fr h₀ env.locals h m₁ → News h₀ env.locals h ((I, it) :: news) →
      wpAny (model prog w) A (assign target env v) (fun _ s₂ => wpAny (model prog w) A (execs body env) (UnrPost h₀ env.locals { s with heap := h, toks := tk } I it (fun m' n' => n' = news ∧ J r m') Q) E s₂) E { s with heap := h, toks := tk })
    (zero : ∀ m₁ h tk, J [] m₁ → Fr h₀ env.locals h m₁ → News h₀ env.locals h news → wpAny (model prog w) A (execs orelse env) Q E { s with heap := h, toks := tk }) :
    ∀ r m, J r m → TupRest prog w A E h₀ env target body orelse Q s I r m news
  | [], m, hj => fun h tk F N => zero m h tk hj F N
  | v :: r, m, hj => fun it h tk hc F N => wpAny_mono (turn v r m it h tk hj hc F N) (fun _ s₂ h₂ => wpAny_mono h₂ (fun f s₃ h₃ => unrPost_mono h₃ fun m' n' ⟨e, hj'⟩ => by subst e; exact tupRest_J J turn zero r m' hj') fun _ _ e => e) fun _ _ e => e
section
open LCg
variable {prog : Program} {w : World} {A : Around} {E : Value → Shared → Prop} {s : Shared} {h₀ : Heap} {L : Addr} {m : Str → Option Value} {env : Env}
noncomputable def SrcS (prog : Program) (w : World) (A : Around) (h₀ : Heap) (L : Addr) (m : Str → Option Value) (env : Env) (elt : PySem.Expr) (x : Str) (scope : Scope) (cl : List (Str × Addr)) (Fin : Shared → List Value → List (Addr × Obj) → Prop) (xv : Value) (s₁ : Shared) : Prop :=
  ∃ r a b c t u v n news, xv = .ref r ∧ A.handled = none ∧ Fr h₀ L s₁.heap m ∧ News h₀ L s₁.heap news ∧ IsRange s₁.heap r a b c t u v ∧ Builtin.Range.small a b c = true ∧ Builtin.Range.rangeSize a b c = ((n : Nat) : Int) ∧ n ≤ sizeLine ∧
    ∀ s₂ : Shared, (∃ h, s₂ = { s₁ with heap := h }) → CompRest prog w A h₀ L m env elt x scope cl s₂ (fun _ => True) (fun i v => i < n ∧ ∃ t, v = .int (a + (i : Int) * c) t) (Fin s₂) n 0 [] news
theorem range_stS {I : Addr} {a c : Int} {n : Nat} : ∀ i (h h' : Heap) (o : Obj) (nw : List (Addr × Obj)), IsRangeIter h I (a + (i : Nat) * c) ((n : Int) - (i : Nat)) c → h.get? I = some o → h'.get? I = some o → (∀ b o, h₀.get? b = some o → h'.get? b = some o) → News h₀ L h' nw → True → IsRangeIter h' I (a + (i : Nat) * c) ((n : Int) - (i : Nat)) c :=
  fun i h h' o nw st e e' _ _ _ => by
    have st' : h.get? I = some _ := st
    show h'.get? I = some _
    rw [st'] at e
    rw [e', ← e]
theorem ListComp_S {elt iter : PySem.Expr} {x : Str} {px : Pos} {scope : Scope} {cl : List (Str × Addr)} {pos : Pos} {Q : Value → Shared → Prop} (_F : Fr h₀ L s.heap m)
    (hclos : closureFor scope env = pure cl) (hcell : ∀ y ∈ scope.names, y.2 ≠ .cell) (hkind : scope.kind = .function)
    (hnames : ∀ y ∈ scope.names, y.2 = .local → scope.names.lookup y.1 = some .local) (hx : scope.names.lookup x = some .local)
    (h : wpAny (model prog w) A (eval iter env) (SrcS prog w A h₀ L m env elt x scope cl (fun s₂ => FinE h₀ L m s₂ Q)) E s)
    (hs : ∀ x, foldedSetIterable iter env x = pure x := by intro _; rfl) :
    wpAny (model prog w) A (eval (.ListComp elt [⟨.Name x px, iter, [], 0⟩] scope pos) env) Q E s := by
  rw [eval_ListComp]
  refine wpAny_comprehension_free (use := none) rfl hs hclos hkind hnames (wpAny_mono h (fun xv s₁ h₁ => ?_) fun _ _ e => e)
  obtain ⟨r, a, b, c, t, u, v, n, news, rfl, hh, F, N, hr, hsm, hn, hsz, R⟩ := h₁
  refine wpAny_pyIter_range hr hsm ?_
  refine block_U (Walks.range hh _ a c n).bound hsz (fun i h st => ⟨_, st⟩) range_stS hcell hkind hx (by show IsRangeIter _ _ _ _ _; rw [hn]; simpa using Heap.get?_push_size _ rfl) (fun b hb => ?_)
    (F.keeps fun _ _ e => Heap.get?_push_of_some _ e) (N.grown fun _ _ e => Heap.get?_push_of_some _ e) (Nat.ne_of_lt F.ns.lt) (next_is_new F) (fun p hp => Nat.ne_of_lt (Heap.lt_size (N p hp).1)) trivial (R _ ⟨_, rfl⟩) ?_
  · rw [List.mem_singleton.mp hb]
    show s₁.heap.objs.size < (s₁.heap.push _).objs.size
    rw [Heap.size_push]; exact Nat.lt_succ_self _
  · intro D C h tk m' ys news' F' N' o1 hn hC₀ hD₀ hCL hDL hCD offC fin
    refine ⟨m', hn, fun h'' hs'' => fin D h'' tk (F'.change hs'' hCL hC₀) (fun p hp => ?_) o1⟩
    refine ⟨hs''.extBut _ _ ?_ (N' p hp).1, (N' p hp).2⟩
    rcases List.mem_cons.mp hp with rfl | hp
    · exact Ne.symm hCD
    · exact offC p hp
noncomputable def CInt (h₀ : Heap) (L : Addr) (m : Str → Option Value) (all : List (Addr × Obj)) (G : Int → Prop) (s : Shared) (y : Value) (s' : Shared) : Prop :=
  ∃ z t h' tk', y = .int z t ∧ G z ∧ s' = { s with heap := h', toks := tk' } ∧ Fr h₀ L h' m ∧ News h₀ L h' all
theorem CInt.intro {h₀ h' : Heap} {L : Addr} {m : Str → Option Value} {all : List (Addr × Obj)} {G : Int → Prop} {s : Shared} {z : Int} {t tk' : Nat} (hz : G z) (F : Fr h₀ L h' m) (N : News h₀ L h' all) : CInt h₀ L m all G s (.int z t) { s with heap := h', toks := tk' } :=
  ⟨z, t, h', tk', rfl, hz, rfl, F, N⟩
theorem compRest_ints {elt : PySem.Expr} {x : Str} {scope : Scope} {cl : List (Str × Addr)} {S : List (Addr × Obj) → Prop} {P : Nat → Value → Prop} {Fin : List Value → List (Addr × Obj) → Prop} {news : List (Addr × Obj)} (f : Nat → Int → Prop) (hS : S news)
    (turn : ∀ (i : Nat) v I oI C oC D ys m₂ h tk (E' : Value → Shared → Prop), P i v → NsObj oC m₂ → m₂ x = some v → Fr h₀ L h m → News h₀ L h ((I, oI) :: (C, oC) :: (D, lst ys) :: news) →
      wpAny (model prog w) A (eval elt (compEnvC scope cl C env)) (CInt h₀ L m ((I, oI) :: (C, oC) :: (D, lst ys) :: news) (f i) s) E' { s with heap := h, toks := tk }) :
    ∀ (k i : Nat) (ys : List Value) (ns : List Int), IntsAre ys ns → (∀ (j : Nat) z, ns[j]? = some z → f j z) → ns.length = i →
      (∀ ys ns, IntsAre ys ns → (∀ (j : Nat) z, ns[j]? = some z → f j z) → ns.length = i + k → Fin ys news) → CompRest prog w A h₀ L m env elt x scope cl s S P Fin k i ys news
  | 0, i, ys, ns, hi, hf, hl, fin => CompRest.zero (fin ys ns hi hf hl)
  | k + 1, i, ys, ns, hi, hf, hl, fin => by
    refine CompRest.succ fun v I oI C oC D m₂ h tk E' hP hC hx F N off ne => ?_
    refine wpAny_mono (turn i v I oI C oC D ys m₂ h tk E' hP hC hx F N) (fun y s' hy => ?_) fun _ _ e => e
    obtain ⟨z, t, h', tk', rfl, hz, rfl, F', N'⟩ := hy
    refine CompEnd.intro F' N' news (fun p hp => hp) off hS ?_
    refine compRest_ints f hS turn k (i + 1) (ys ++ [.int z t]) (ns ++ [z]) (IntsAre.append hi (.cons _ _ .nil)) (fun j z' hj => ?_) (by simp [hl]) (fun ys ns a b c => fin ys ns a b (by omega))
    by_cases h1 : j < ns.length
    · rw [List.getElem?_append_left h1] at hj; exact hf j z' hj
    · rw [List.getElem?_append_right (by omega)] at hj
      have hj0 : j - ns.length = 0 := by
        cases hq : j - ns.length with
        | zero => rfl
        | succ q => rw [hq] at hj; simp at hj
      rw [hj0] at hj
      simp at hj
      have : j = i := by omega
      subst this hj
      exact hz
theorem small_two {a b : Int} (ha : 0 ≤ a) (ha' : a ≤ 1) (hb : 0 ≤ b) (hb' : b ≤ 63) : Builtin.Range.small a b 2 = true := by
  unfold Builtin.Range.small Builtin.Range.rangeSize
  simp only [Builtin.Range.rangeFitsLong, Bool.and_eq_true, Bool.or_eq_true, decide_eq_true_eq, beq_iff_eq, show (2 : Int) > 0 by decide, if_true]
  split <;> omega
theorem size_two {a b : Int} (hb' : b ≤ 63) (ha : 0 ≤ a) : Builtin.Range.rangeSize a b 2 = (((Builtin.Range.rangeSize a b 2).toNat : Nat) : Int) ∧ (Builtin.Range.rangeSize a b 2).toNat ≤ 63 ∧ ∀ i : Nat, i < (Builtin.Range.rangeSize a b 2).toNat → a + (i : Int) * 2 < b := by
  unfold Builtin.Range.rangeSize
  simp only [show (2 : Int) > 0 by decide, if_true]
  split
  · refine ⟨by omega, by omega, fun i hi => by omega⟩
  · refine ⟨by omega, by omega, fun i hi => by omega⟩
theorem srcS_two {elt : PySem.Expr} {x : Str} {scope : Scope} {cl : List (Str × Addr)} {Fin : Shared → List Value → List (Addr × Obj) → Prop} {r : Addr} {a b : Int} {t u v : Tok} {news : List (Addr × Obj)} {s₁ : Shared} (G : Int → Prop)
    (hh : A.handled = none) (F : Fr h₀ L s₁.heap m) (N : News h₀ L s₁.heap news) (hr : IsRange s₁.heap r a b 2 t u v) (ha : 0 ≤ a) (ha' : a ≤ 1) (hb : 0 ≤ b) (hb' : b ≤ 63)
    (turn : ∀ (j : Int) t I oI C oC D ys m₂ h tk (E' : Value → Shared → Prop), 0 ≤ j → j < b → NsObj oC m₂ → m₂ x = some (.int j t) → Fr h₀ L h m → News h₀ L h ((I, oI) :: (C, oC) :: (D, lst ys) :: news) →
      wpAny (model prog w) A (eval elt (compEnvC scope cl C env)) (CInt h₀ L m ((I, oI) :: (C, oC) :: (D, lst ys) :: news) G s₁) E' { s₁ with heap := h, toks := tk })
    (fin : ∀ g ys ns, IntsAre ys ns → (∀ z ∈ ns, G z) → ns.length ≤ 63 → Fin { s₁ with heap := g } ys news) : SrcS prog w A h₀ L m env elt x scope cl Fin (.ref r) s₁ := by
  obtain ⟨e1, e2, e3⟩ := size_two (a := a) hb' ha
  refine ⟨r, a, b, 2, t, u, v, _, news, rfl, hh, F, N, hr, small_two ha ha' hb hb', e1, by rw [sizeLine_eq]; omega, ?_⟩
  rintro s₂ ⟨g, rfl⟩
  refine compRest_ints (fun _ z => G z) trivial ?_ _ 0 [] [] IntsAre.nil (fun j z hj => by simp at hj) rfl fun ys ns hi hf hl => fin g ys ns hi (fun z hz => ?_) (by omega)
  · rintro i v I oI C oC D ys m₂ h tk E' ⟨hi, t, rfl⟩ hC hx F' N'
    exact turn _ t I oI C oC D ys m₂ h tk E' (by omega) (e3 i hi) hC hx F' N'
  · obtain ⟨j, hj⟩ := List.getElem?_of_mem hz
    exact hf j z hj
theorem rng_size {n : Nat} : Builtin.Range.rangeSize 0 (n : Int) 1 = (n : Int) := by
  rw [rangeSize_nat]; omega
theorem rng_small {n : Nat} (h : n ≤ 100) : Builtin.Range.small 0 (n : Int) 1 = true := by
  exact small_one (by omega) (by omega) (by omega) (by omega)
theorem map_of_get {f : Nat → Int} : ∀ {ns : List Int} {n : Nat}, ns.length = n → (∀ (j : Nat) z, ns[j]? = some z → z = f j) → ns = (List.range n).map f := by
  intro ns n hl h
  apply List.ext_getElem?
  intro j
  by_cases hj : j < n
  · obtain ⟨z, hz⟩ : ∃ z, ns[j]? = some z := ⟨ns[j]'(by omega), List.getElem?_eq_getElem (by omega)⟩
    rw [hz, h j z hz]
    simp [hj]
  · rw [List.getElem?_eq_none (by omega), List.getElem?_eq_none (by simp; omega)]
theorem srcS_rng {elt : PySem.Expr} {x : Str} {scope : Scope} {cl : List (Str × Addr)} {Fin : Shared → List Value → List (Addr × Obj) → Prop} {r : Addr} {b : Int} {t u v : Tok} {news : List (Addr × Obj)} {s₁ : Shared} (n : Nat) (f : Nat → Int)
    (hh : A.handled = none) (F : Fr h₀ L s₁.heap m) (N : News h₀ L s₁.heap news) (hr : IsRange s₁.heap r 0 b 1 t u v) (hb : b = (n : Int)) (hn : n ≤ 100)
    (turn : ∀ (i : Nat) t I oI C oC D ys m₂ h tk (E' : Value → Shared → Prop), i < n → NsObj oC m₂ → m₂ x = some (.int (i : Int) t) → Fr h₀ L h m → News h₀ L h ((I, oI) :: (C, oC) :: (D, lst ys) :: news) →
      wpAny (model prog w) A (eval elt (compEnvC scope cl C env)) (CInt h₀ L m ((I, oI) :: (C, oC) :: (D, lst ys) :: news) (fun z => z = f i) s₁) E' { s₁ with heap := h, toks := tk })
    (fin : ∀ g ys ns, ns = (List.range n).map f → IntsAre ys ns → Fin { s₁ with heap := g } ys news) : SrcS prog w A h₀ L m env elt x scope cl Fin (.ref r) s₁ := by
  subst hb
  refine ⟨r, 0, n, 1, t, u, v, n, news, rfl, hh, F, N, hr, rng_small hn, rng_size, by rw [sizeLine_eq]; omega, ?_⟩
  rintro s₂ ⟨g, rfl⟩
  refine compRest_ints (fun i z => z = f i) trivial ?_ _ 0 [] [] IntsAre.nil (fun j z hj => by simp at hj) rfl fun ys ns hi hf hl => ?_
  · rintro i v I oI C oC D ys m₂ h tk E' ⟨hi, t, rfl⟩ hC hx F' N'
    exact turn i t I oI C oC D ys m₂ h tk E' hi hC (by rw [hx]; congr 2; omega) F' N'
  · have e : ns = (List.range n).map f := map_of_get (by omega) hf
    exact fin g ys ns e hi
end
theorem law_enter {M : Model} {A : Around} {E : Value → Shared → Prop} {env : Env} {body : List Stmt} {Q : Flow → Shared → Prop} {s : Shared} (hp : PassesOwn M A env E) (h : PassesOwn M A env E → wpAny M A (execs body env) Q E s) : wpAny M A (execs body env) Q E s := h hp
theorem news_sub {h₀ h : Heap} {L : Addr} {a b : List (Addr × Obj)} (N : News h₀ L h a) (hs : b.Sublist a) : News h₀ L h b := fun p hp => N p (hs.subset hp)
section
variable {prog : Program} {w : World} {A : Around} {E : Value → Shared → Prop} {s : Shared}
theorem in_bytes_no {l : Addr} {vs : List Value} {c : Array UInt8} {t : Tok} {Q : Value → Shared → Prop} (hl : s.heap.IsList l vs.toArray) (hv : ∀ y ∈ vs, ∃ b u, y = .bytes b u ∧ b.toList ≠ c.toList) (h : Q (.bool false) s) :
    wpAny (model prog w) A (compareOp .In (.bytes c t) (.ref l)) Q E s := by
  refine SeqAt.in_listAt (fun _ => false) hl (fun y hy => ?_) ?_
  · obtain ⟨b, u, rfl, hne⟩ := hv y (by simpa using hy)
    intro prog w E Q hq
    exact PySem.W.eqBool_bytes (by rw [decide_eq_false hne]; exact hq)
  · have e : (vs.toArray.any fun _ => false) = false := by simp
    rw [e]; exact h
end
noncomputable def IntIs (z : Int) (s : Shared) (v : Value) (s' : Shared) : Prop := ∃ t tk', v = .int z t ∧ s' = { s with toks := tk' }
theorem IntIs.intro {z z' : Int} {s : Shared} {t : Tok} {tk' : Nat} (e : z' = z) : IntIs z s (.int z' t) { s with toks := tk' } := ⟨_, _, by rw [e], rfl⟩
theorem wpAny_int {M : Model} {A : Around} {m : Sem Value} {Q E : Value → Shared → Prop} {s : Shared} (z : Int) (h1 : wpAny M A m (IntIs z s) E s) (h2 : ∀ t tk', Q (.int z t) { s with toks := tk' }) : wpAny M A m Q E s :=
  wpAny_mono h1 (fun v s' ⟨t, tk', e1, e2⟩ => by subst e1 e2; exact h2 t tk') fun _ _ e => e
section
variable {prog : Program} {w : World} {A : Around} {E : Value → Shared → Prop} {s : Shared} {env : Env} {h₀ : Heap} {x : Str} {body : List Stmt} {Q : Flow → Shared → Prop}
theorem kst_tup {σ : Type} {l : Addr} {vs : List Value} {ns : List Int} {ot : Obj} {m₀ : Str → Option Value} {rest : List (Addr × Obj)} (Led : σ → List (Addr × Obj)) (ps : σ → List (Str × Value)) (Facts : σ → Prop) (stored : List Str) (P : List Int → σ → Prop) (c₀ : σ)
    (hh : A.handled = none) (F : Fr h₀ env.locals s.heap m₀) (N : News h₀ env.locals s.heap ((l, ot) :: rest)) (hl : s.heap.IsTuple l vs.toArray) (hi : IntsAre vs ns) (hr : rest = Led c₀) (hln : ∀ q ∈ Led c₀, q.1 ≠ l) (hf : Facts c₀) (hk : ∀ p ∈ ps c₀, m₀ p.1 = some p.2) (hp : P [] c₀)
    (turn : ∀ (c : σ) pre post n t (u : Str → Option Value) h tk own, ns = pre ++ n :: post → OwnOff own ((Led c₀).map (·.1)) → Facts c → P pre c →
      Fr h₀ env.locals h (fun y => if y = x then some (.int n t) else kstB (fun z => if stored.contains z then u z else m₀ z) (ps c) y) → News h₀ env.locals h (Led c ++ own) →
      wpAny (model prog w) A (execs body env) (InvPostN h₀ env.locals (KstS Led ps Facts x stored m₀ P (pre ++ [n])) own ((Led c₀).map (·.1)) { s with heap := h, toks := tk } Q) E { s with heap := h, toks := tk })
    (done : ∀ (c : σ) (u : Str → Option Value) h tk, Facts c → P ns c → Fr h₀ env.locals h (fun y => if y = x then u y else kstB (fun z => if stored.contains z then u z else m₀ z) (ps c) y) → News h₀ env.locals h (Led c) → Q .next { s with heap := h, toks := tk }) :
    wpAny (model prog w) A (pyIter (.ref l)) (fun it s₂ => LoopAtV prog w A h₀ env x body Q E it s₂) E s := by
  have hL := (N (l, ot) (.head _))
  have N' : News h₀ env.locals s.heap (Led c₀) := fun p hp => N p (.tail _ (hr ▸ hp))
  have hne : l ≠ s.heap.objs.size := Nat.ne_of_lt (Heap.lt_size hL.1)
  refine wpAny_pyIter_tuple hl ?_
  have W := Walks.tuple (prog := prog) (w := w) hh s.heap.objs.size l hne vs.toArray
  have hlen : vs.toArray.size = ns.length := by simp [hi.length]
  rw [hlen] at W
  refine loop_invN (fun i m nx => KstS Led ps Facts x stored m₀ P (ns.take i) m nx) W ?_ ?_ ?_ ?_ ⟨⟨_, Heap.get?_push_size _ rfl, rfl, rfl⟩, hl.at fun o e => Heap.get?_push_of_some _ e⟩ (F.push _) (fun p hp => ⟨Heap.get?_push_of_some _ (N' p hp).1, (N' p hp).2⟩) ⟨c₀, rfl, hf, hk, fun _ _ _ _ => rfl, by simpa using hp⟩ ?_ ?_
  · intro hm
    rcases List.mem_cons.mp hm with e | hm
    · exact absurd F.ns.lt (e ▸ Nat.lt_irrefl _)
    · exact hL.2.1 (List.mem_singleton.mp hm).symm
  · intro b hb
    rw [List.mem_singleton.mp hb]
    exact next_is_new F
  · intro p hp hI
    exact absurd (Heap.lt_size (N' p hp).1) ((List.mem_singleton.mp hI) ▸ Nat.lt_irrefl _)
  · intro q hq hm
    rcases List.mem_cons.mp hm with e | hm
    · exact absurd (Heap.lt_size (N' q hq).1) (e ▸ Nat.lt_irrefl _)
    · exact hln q hq (List.mem_singleton.mp hm)
  · rintro i v m₁ nx h tk own hi' hP _ hoff ⟨c, rfl, hf', h1, h2, hp'⟩ F₁ N₁
    have hlt : i < ns.length := hi'
    obtain ⟨t, hx⟩ := hi.get i ns[i] (by simp [hlt])
    have hv : v = .int ns[i] t := by
      have hP' : vs.toArray[i]? = some v := hP
      have hx' : vs.toArray[i]? = some (.int ns[i] t) := by simpa using hx
      exact Option.some.inj (hP'.symm.trans hx')
    subst hv
    have hn : ns[i]? = some ns[i] := List.getElem?_eq_getElem hlt
    have hs : ns.take (i + 1) = ns.take i ++ [ns[i]] := by rw [List.take_add_one, hn]; rfl
    have e : ns = ns.take i ++ ns[i] :: ns.drop (i + 1) := by rw [List.getElem_cons_drop, List.take_append_drop]
    rw [hs]
    exact turn c _ _ _ t m₁ h tk own e hoff hf' hp' (kst_fr h1 h2 F₁) N₁
  · rintro m₁ nx h tk ⟨c, rfl, hf', h1, h2, hp'⟩ F₁ N₁
    rw [List.take_length] at hp'
    exact done c m₁ h tk hf' hp' (kst_frOut h1 h2 F₁) N₁
end
theorem ite_str4 {M : Model} {A : Around} {E : Value → Shared → Prop} {s : Shared} {env : Env} {Q : Value → Shared → Prop} {c : Prop} [Decidable c] {a b : Str} {k k' : Nat} {p p' : Pos}
    (ha : a.length = 4) (hb : b.length = 4) (h : ∀ u : Str, u = (if c then a else b) → u.length = 4 → Q (.str u s.toks) { s with toks := s.toks + 1 }) : if c then wpAny M A (eval (.Constant (.str a) k p) env) Q E s else wpAny M A (eval (.Constant (.str b) k' p') env) Q E s := by
  by_cases hc : c
  · rw [if_pos hc] at h ⊢; exact PySem.Calls.Constant_str (h _ rfl ha)
  · rw [if_neg hc] at h ⊢; exact PySem.Calls.Constant_str (h _ rfl hb)
theorem For_T {prog : Program} {w : World} {A : Around} {s : Shared} {env : Env} {h₀ : Heap} {m : Str → Option Value} {E : Value → Shared → Prop} {Q : Flow → Shared → Prop} {x : Str} {px pos : Pos} {iter : PySem.Expr} {body : List Stmt} (_F : Fr h₀ env.locals s.heap m) (hx : env.kindOf x = some .local)
    (hp : (env.scope.kind == .class || (env.scope.kind == .module && env.locals != env.globals)) = false)
    (h : wpAny (model prog w) A (eval iter env) (fun xv s₁ => wpAny (model prog w) A (pyIter xv) (fun it s₂ => LoopAtV prog w A h₀ env x body Q E it s₂) E s₁) E s)
    (hs : ∀ x, foldedSetIterable iter env x = pure x := by intro _; rfl)
    (hE : PassesOwn (model prog w) A env E := by passes_own) :
    wpAny (model prog w) A (exec (.For (.Name x px) iter body [] pos) env) Q E s := For_invV h₀ hx hp h hs hE
section
open LCg
variable {prog : Program} {w : World} {A : Around} {E : Value → Shared → Prop} {s : Shared} {h₀ : Heap} {L : Addr} {m : Str → Option Value} {env : Env}
noncomputable def CVal (h₀ : Heap) (L : Addr) (m : Str → Option Value) (all : List (Addr × Obj)) (G : Value → Prop) (s : Shared) (y : Value) (s' : Shared) : Prop :=
  ∃ h' tk', G y ∧ s' = { s with heap := h', toks := tk' } ∧ Fr h₀ L h' m ∧ News h₀ L h' all
theorem CVal.intro {h₀ h' : Heap} {L : Addr} {m : Str → Option Value} {all : List (Addr × Obj)} {G : Value → Prop} {s : Shared} {y : Value} {tk' : Nat} (hz : G y) (F : Fr h₀ L h' m) (N : News h₀ L h' all) : CVal h₀ L m all G s y { s with heap := h', toks := tk' } :=
  ⟨h', tk', hz, rfl, F, N⟩
theorem compRest_vals {elt : PySem.Expr} {x : Str} {scope : Scope} {cl : List (Str × Addr)} {S : List (Addr × Obj) → Prop} {P : Nat → Value → Prop} {Fin : List Value → List (Addr × Obj) → Prop} {news : List (Addr × Obj)} (f : Nat → Value → Prop) (hS : S news)
    (turn : ∀ (i : Nat) v I oI C oC D ys m₂ h tk (E' : Value → Shared → Prop), P i v → NsObj oC m₂ → m₂ x = some v → Fr h₀ L h m → News h₀ L h ((I, oI) :: (C, oC) :: (D, lst ys) :: news) →
      wpAny (model prog w) A (eval elt (compEnvC scope cl C env)) (CVal h₀ L m ((I, oI) :: (C, oC) :: (D, lst ys) :: news) (f i) s) E' { s with heap := h, toks := tk }) :
    ∀ (k i : Nat) (ys : List Value), (∀ (j : Nat) y, ys[j]? = some y → f j y) → ys.length = i →
      (∀ ys : List Value, (∀ (j : Nat) y, ys[j]? = some y → f j y) → ys.length = i + k → Fin ys news) → CompRest prog w A h₀ L m env elt x scope cl s S P Fin k i ys news
  | 0, i, ys, hf, hl, fin => CompRest.zero (fin ys hf hl)
  | k + 1, i, ys, hf, hl, fin => by
    refine CompRest.succ fun v I oI C oC D m₂ h tk E' hP hC hx F N off ne => ?_
    refine wpAny_mono (turn i v I oI C oC D ys m₂ h tk E' hP hC hx F N) (fun y s' hy => ?_) fun _ _ e => e
    obtain ⟨h', tk', hz, rfl, F', N'⟩ := hy
    refine CompEnd.intro F' N' news (fun p hp => hp) off hS ?_
    refine compRest_vals f hS turn k (i + 1) (ys ++ [y]) (fun j z' hj => ?_) (by rw [List.length_append, hl]; rfl) (fun ys a c => fin ys a (by rw [c, Nat.add_assoc, Nat.add_comm 1 k]))
    by_cases h1 : j < ys.length
    · rw [List.getElem?_append_left h1] at hj; exact hf j z' hj
    · rw [List.getElem?_append_right (Nat.le_of_not_lt h1)] at hj
      have hj0 : j - ys.length = 0 := by
        cases hq : j - ys.length with
        | zero => rfl
        | succ q => rw [hq] at hj; simp at hj
      rw [hj0] at hj
      simp at hj
      have : j = i := by omega
      subst this hj
      exact hz
theorem comp_led {elt : PySem.Expr} {x : Str} {scope : Scope} {cl : List (Str × Addr)} {Fin : Shared → List Value → List (Addr × Obj) → Prop} {ax : Addr} {its : Array Value} {kk : Nat} {news : List (Addr × Obj)} {s₁ : Shared} (f : Nat → Value → Prop)
    (hh : A.handled = none) (F : Fr h₀ L s₁.heap m) (N : News h₀ L s₁.heap news) (hm : (ax, ({ cls := .type "list", data := .seq its kk } : Obj)) ∈ news) (hsz : its.size ≤ 1000)
    (turn : ∀ (i : Nat) v I oI C oC D ys m₂ h tk (E' : Value → Shared → Prop), its[i]? = some v → NsObj oC m₂ → m₂ x = some v → Fr h₀ L h m → News h₀ L h ((I, oI) :: (C, oC) :: (D, lst ys) :: news) →
      wpAny (model prog w) A (eval elt (compEnvC scope cl C env)) (CVal h₀ L m ((I, oI) :: (C, oC) :: (D, lst ys) :: news) (f i) s₁) E' { s₁ with heap := h, toks := tk })
    (fin : ∀ g (ys : List Value), (∀ (j : Nat) y, ys[j]? = some y → f j y) → ys.length = its.size → Fin { s₁ with heap := g } ys news) : CompSrc prog w A h₀ L m env elt x scope cl Fin (.ref ax) s₁ :=
  CompSrc.ledger hh F N hm (Nat.le_trans hsz (by rw [sizeLine_eq]; decide)) fun g => compRest_vals (s := { s₁ with heap := g }) f (Or.inr ⟨_, hm, rfl, _, rfl⟩) turn _ 0 [] (fun j y hj => by simp at hj) rfl fun ys a b => fin g ys a (by rw [b, Nat.zero_add])
end
theorem vals2 {f : Nat → Value → Prop} {ys : List Value} (h : ∀ (j : Nat) y, ys[j]? = some y → f j y) (hl : ys.length = 2) : ∃ y0 y1, ys = [y0, y1] ∧ f 0 y0 ∧ f 1 y1 := by
  obtain ⟨y0, r, rfl⟩ := List.exists_cons_of_length_eq_add_one hl
  obtain ⟨y1, r, rfl⟩ := List.exists_cons_of_length_eq_add_one (Nat.succ.inj hl)
  obtain rfl := List.eq_nil_of_length_eq_zero (Nat.succ.inj (Nat.succ.inj hl))
  exact ⟨y0, y1, rfl, h 0 y0 rfl, h 1 y1 rfl⟩
theorem vals3 {f : Nat → Value → Prop} {ys : List Value} (h : ∀ (j : Nat) y, ys[j]? = some y → f j y) (hl : ys.length = 3) : ∃ y0 y1 y2, ys = [y0, y1, y2] ∧ f 0 y0 ∧ f 1 y1 ∧ f 2 y2 := by
  obtain ⟨y0, r, rfl⟩ := List.exists_cons_of_length_eq_add_one hl
  obtain ⟨y1, r, rfl⟩ := List.exists_cons_of_length_eq_add_one (Nat.succ.inj hl)
  obtain ⟨y2, r, rfl⟩ := List.exists_cons_of_length_eq_add_one (Nat.succ.inj (Nat.succ.inj hl))
  obtain rfl := List.eq_nil_of_length_eq_zero (Nat.succ.inj (Nat.succ.inj (Nat.succ.inj hl)))
  exact ⟨y0, y1, y2, rfl, h 0 y0 rfl, h 1 y1 rfl, h 2 y2 rfl⟩
theorem tb_mod (x i : Nat) : x / 2 ^ i % 2 = if x.testBit i then 1 else 0 := by
  rw [Nat.testBit_eq_decide_div_mod_eq]
  by_cases h : x / 2 ^ i % 2 = 1
  · simp [h]
  · simp [h]; omega
theorem and_bit (x y i : Nat) : (x &&& y) / 2 ^ i % 2 = (x / 2 ^ i % 2) * (y / 2 ^ i % 2) := by
  rw [tb_mod, tb_mod, tb_mod, Nat.testBit_and]
  cases x.testBit i <;> cases y.testBit i <;> rfl
theorem shl_bit (y s i : Nat) : (y * 2 ^ s) / 2 ^ i % 2 = if i < s then 0 else y / 2 ^ (i - s) % 2 := by
  rw [tb_mod, Nat.testBit_mul_two_pow, tb_mod]
  by_cases h : i < s
  · rw [if_pos h]; simp [Nat.not_le.mpr h]
  · rw [if_neg h]; simp [Nat.not_lt.mp h]
theorem bitAnd_nat (x y : Nat) : Builtin.bitAnd (x : Int) (y : Int) = ((x &&& y : Nat) : Int) := by
  rw [bitAnd_pp (Int.natCast_nonneg x) (Int.natCast_nonneg y)]; rfl
theorem bitOf_nat (x n : Nat) : bitOf (x : Int) n = ((x / 2 ^ n % 2 : Nat) : Int) := by
  unfold bitOf
  rw [bitAnd_m1, Int.fdiv_eq_ediv_of_nonneg _ (Int.pow_nonneg (by decide))]
  push_cast
  rfl
noncomputable def chW (p c : Nat) : Nat := if p = 1 then c else 45
noncomputable def chX (q p a b c : Nat) : Nat := if p = 1 ∧ q = 1 then a else if q = 1 then b else if p = 1 then c else 45
theorem and_hi (x m s : Nat) : x &&& (m * 2 ^ s) = (x / 2 ^ s &&& m) * 2 ^ s := by
  apply Nat.eq_of_testBit_eq
  intro i
  rw [Nat.testBit_and, Nat.testBit_mul_two_pow, Nat.testBit_mul_two_pow, Nat.testBit_and, Nat.testBit_div_two_pow]
  by_cases h : s ≤ i
  · simp [h, Nat.sub_add_cancel h]
  · simp [h]
theorem and_one (x n : Nat) : x &&& 2 ^ n = x / 2 ^ n % 2 * 2 ^ n := by
  have := and_hi x 1 n
  rw [Nat.one_mul] at this
  rw [this, Nat.and_one_is_mod]
theorem link_preN (m b : Nat) (h : b < 4096) (hm : m < 16) : (m * 4096 + b) &&& 61440 = m * 4096 := by
  have := and_hi (m * 4096 + b) 15 12
  rw [show 15 * 2 ^ 12 = 61440 from rfl, show (m * 4096 + b) / 2 ^ 12 = m by omega] at this
  rw [this]
  have k : ∀ i : Fin 16, i.val &&& 15 = i.val := by decide
  rw [k ⟨m, hm⟩]
theorem s_l : Str.ofString "l" = ⟨#[108]⟩ := by decide +kernel
theorem s_r : Str.ofString "r" = ⟨#[114]⟩ := by decide +kernel
theorem s_w : Str.ofString "w" = ⟨#[119]⟩ := by decide +kernel
theorem s_x : Str.ofString "x" = ⟨#[120]⟩ := by decide +kernel
theorem s_s : Str.ofString "s" = ⟨#[115]⟩ := by decide +kernel
theorem s_S : Str.ofString "S" = ⟨#[83]⟩ := by decide +kernel
theorem s_t : Str.ofString "t" = ⟨#[116]⟩ := by decide +kernel
theorem s_T : Str.ofString "T" = ⟨#[84]⟩ := by decide +kernel
theorem s_d : Str.ofString "-" = ⟨#[45]⟩ := by decide +kernel
theorem fm1_ch {x n c : Nat} {k : Int} {t : String} (hk : k = ((2 ^ n : Nat) : Int)) (ht : Str.ofString t = ⟨#[c]⟩) : fm1 (x : Int) k t = ⟨#[chW (x / 2 ^ n % 2) c]⟩ := by
  subst hk
  unfold fm1 chW
  rw [bitAnd_nat, and_one, ht, s_d]
  have hp : 0 < 2 ^ n := Nat.two_pow_pos n
  rcases (by omega : x / 2 ^ n % 2 = 0 ∨ x / 2 ^ n % 2 = 1) with h | h
  · rw [h, if_neg (fun e => by have e2 := Int.natCast_inj.mp e; rw [Nat.zero_mul] at e2; omega), if_neg (by decide)]
  · rw [h, if_pos (by simp), if_pos rfl]
theorem and_two (x a b : Nat) : (x &&& (2 ^ a ||| 2 ^ b) = (2 ^ a ||| 2 ^ b)) ↔ (x / 2 ^ a % 2 = 1 ∧ x / 2 ^ b % 2 = 1) := by
  rw [tb_mod, tb_mod]
  constructor
  · intro e
    have ea := congrArg (fun z => z.testBit a) e
    have eb := congrArg (fun z => z.testBit b) e
    simp [Nat.testBit_and, Nat.testBit_or, Nat.testBit_two_pow_self] at ea eb
    simp [ea, eb]
  · intro ⟨ha, hb⟩
    apply Nat.eq_of_testBit_eq
    intro i
    rw [Nat.testBit_and, Nat.testBit_or]
    by_cases h1 : a = i
    · subst h1
      cases hx : x.testBit a
      · rw [hx] at ha; simp at ha
      · simp
    · by_cases h2 : b = i
      · subst h2
        cases hx : x.testBit b
        · rw [hx] at hb; simp at hb
        · simp
      · rw [Nat.testBit_two_pow_of_ne h1, Nat.testBit_two_pow_of_ne h2]; simp
theorem fm3_ch {x p q c1 c2 c3 : Nat} {k1 k2 k3 : Int} {t1 t2 t3 : String} (hk1 : k1 = (((2 ^ p ||| 2 ^ q) : Nat) : Int)) (hk2 : k2 = ((2 ^ q : Nat) : Int)) (hk3 : k3 = ((2 ^ p : Nat) : Int))
    (ht1 : Str.ofString t1 = ⟨#[c1]⟩) (ht2 : Str.ofString t2 = ⟨#[c2]⟩) (ht3 : Str.ofString t3 = ⟨#[c3]⟩) : fm3 (x : Int) k1 t1 k2 t2 k3 t3 = ⟨#[chX (x / 2 ^ q % 2) (x / 2 ^ p % 2) c1 c2 c3]⟩ := by
  subst hk1 hk2 hk3
  unfold fm3 chX
  rw [bitAnd_nat, bitAnd_nat, bitAnd_nat, and_one, and_one, ht1, ht2, ht3, s_d]
  have hp := Nat.two_pow_pos p
  have hq := Nat.two_pow_pos q
  have h2 := and_two x p q
  have ep : ((x / 2 ^ p % 2 * 2 ^ p : Nat) : Int) = ((2 ^ p : Nat) : Int) ↔ x / 2 ^ p % 2 = 1 := by
    rw [Int.natCast_inj]
    rcases (by omega : x / 2 ^ p % 2 = 0 ∨ x / 2 ^ p % 2 = 1) with h | h <;> rw [h] <;> simp
    omega
  have eq : ((x / 2 ^ q % 2 * 2 ^ q : Nat) : Int) = ((2 ^ q : Nat) : Int) ↔ x / 2 ^ q % 2 = 1 := by
    rw [Int.natCast_inj]
    rcases (by omega : x / 2 ^ q % 2 = 0 ∨ x / 2 ^ q % 2 = 1) with h | h <;> rw [h] <;> simp
    omega
  have e2 : (((x &&& (2 ^ p ||| 2 ^ q) : Nat) : Int) = (((2 ^ p ||| 2 ^ q) : Nat) : Int)) ↔ (x / 2 ^ p % 2 = 1 ∧ x / 2 ^ q % 2 = 1) := by rw [Int.natCast_inj, h2]
  simp only [e2, ep, eq]
  split
  · rfl
  · split
    · rfl
    · split <;> rfl
/-- the nine signs of a row of twelve rights -/
noncomputable def lch (B : Nat) : List Nat := [chW (B / 2 ^ 8 % 2) 114, chW (B / 2 ^ 7 % 2) 119, chX (B / 2 ^ 11 % 2) (B / 2 ^ 6 % 2) 115 83 120, chW (B / 2 ^ 5 % 2) 114, chW (B / 2 ^ 4 % 2) 119, chX (B / 2 ^ 10 % 2) (B / 2 ^ 3 % 2) 115 83 120, chW (B / 2 ^ 2 % 2) 114, chW (B / 2 ^ 1 % 2) 119, chX (B / 2 ^ 9 % 2) (B / 2 ^ 0 % 2) 116 84 120]
theorem join10 (c a1 a2 a3 a4 a5 a6 a7 a8 a9 : Nat) : Txt.join (Str.ofString "") [⟨#[c]⟩, ⟨#[a1]⟩, ⟨#[a2]⟩, ⟨#[a3]⟩, ⟨#[a4]⟩, ⟨#[a5]⟩, ⟨#[a6]⟩, ⟨#[a7]⟩, ⟨#[a8]⟩, ⟨#[a9]⟩] = ⟨#[c, a1, a2, a3, a4, a5, a6, a7, a8, a9]⟩ := by
  have e : Str.ofString "" = ⟨#[]⟩ := by decide +kernel
  rw [e]
  rfl
theorem hi_bits (m B n : Nat) (hn : n < 12) : (m * 4096 + B) / 2 ^ n % 2 = B / 2 ^ n % 2 := by
  have e : m * 4096 = 2 ^ n * (2 * (m * 2 ^ (11 - n))) := by
    rw [show 2 ^ n * (2 * (m * 2 ^ (11 - n))) = m * (2 ^ n * 2 ^ (11 - n) * 2) by rw [Nat.mul_left_comm 2 m, Nat.mul_left_comm (2 ^ n) m, Nat.mul_comm 2, Nat.mul_assoc]]
    rw [← Nat.pow_add, show n + (11 - n) = 11 by omega]
  rw [e, Nat.mul_add_div (Nat.two_pow_pos n), Nat.mul_add_mod]
theorem fmC_ch (c m B : Nat) : Txt.join (Str.ofString "") (fmC ⟨#[c]⟩ (((m * 4096 + B : Nat)) : Int)) = ⟨(c :: lch B).toArray⟩ := by
  unfold fmC
  rw [fm1_ch (k := 256) (n := 8) (by decide) s_r, fm1_ch (k := 128) (n := 7) (by decide) s_w, fm3_ch (k1 := 2112) (k2 := 2048) (k3 := 64) (p := 6) (q := 11) (by decide) (by decide) (by decide) s_s s_S s_x, fm1_ch (k := 32) (n := 5) (by decide) s_r, fm1_ch (k := 16) (n := 4) (by decide) s_w, fm3_ch (k1 := 1032) (k2 := 1024) (k3 := 8) (p := 3) (q := 10) (by decide) (by decide) (by decide) s_s s_S s_x,
    fm1_ch (k := 4) (n := 2) (by decide) s_r, fm1_ch (k := 2) (n := 1) (by decide) s_w, fm3_ch (k1 := 513) (k2 := 512) (k3 := 1) (p := 0) (q := 9) (by decide) (by decide) (by decide) s_t s_T s_x, join10]
  simp only [hi_bits, show 8 < 12 by decide, show 7 < 12 by decide, show 11 < 12 by decide, show 6 < 12 by decide, show 5 < 12 by decide, show 4 < 12 by decide, show 10 < 12 by decide, show 3 < 12 by decide, show 2 < 12 by decide, show 1 < 12 by decide, show 9 < 12 by decide, show 0 < 12 by decide, lch]
theorem fdiv_nat (x n : Nat) : (x : Int).fdiv (2 ^ n) = ((x / 2 ^ n : Nat) : Int) := by
  rw [Int.fdiv_eq_ediv_of_nonneg _ (Int.pow_nonneg (by decide))]
  push_cast
  rfl
theorem item4 (a b c d : Nat) (q p : Nat) (hq : q < 2) (hp : p < 2) (tab : String) (ht : Str.ofString tab = ⟨#[a, b, c, d]⟩) : Txt.item (Str.ofString tab) (2 * (q : Int) + (p : Int)) = ⟨#[if p = 1 ∧ q = 1 then d else if q = 1 then c else if p = 1 then b else a]⟩ := by
  rw [ht]
  rcases (by omega : p = 0 ∨ p = 1) with rfl | rfl <;> rcases (by omega : q = 0 ∨ q = 1) with rfl | rfl <;> rfl
theorem lsC_ch {B k a3 a2 : Nat} {kk : Int} {tab : String} (hk : kk = (k : Int)) (ht : Str.ofString tab = ⟨#[45, 120, a2, a3]⟩) :
    lsC (B : Int) kk tab = ⟨#[chW (B / 2 ^ (3 * k + 2) % 2) 114, chW (B / 2 ^ (3 * k + 1) % 2) 119, chX (B / 2 ^ (9 + k) % 2) (B / 2 ^ (3 * k) % 2) a3 a2 120]⟩ := by
  subst hk
  unfold lsC
  rw [show (3 * (k : Int)).toNat = 3 * k by omega, show (9 + (k : Int)).toNat = 9 + k by omega, fdiv_nat, fdiv_nat]
  have e4 : Builtin.bitAnd ((B / 2 ^ (3 * k) : Nat) : Int) 4 = ((B / 2 ^ (3 * k + 2) % 2 * 4 : Nat) : Int) := by
    show Builtin.bitAnd _ ((4 : Nat) : Int) = _
    rw [bitAnd_nat, show (4 : Nat) = 2 ^ 2 from rfl, and_one, Nat.div_div_eq_div_mul, ← Nat.pow_add]
  have e2 : Builtin.bitAnd ((B / 2 ^ (3 * k) : Nat) : Int) 2 = ((B / 2 ^ (3 * k + 1) % 2 * 2 : Nat) : Int) := by
    show Builtin.bitAnd _ ((2 : Nat) : Int) = _
    rw [bitAnd_nat, show (2 : Nat) = 2 ^ 1 from rfl, and_one, Nat.div_div_eq_div_mul, ← Nat.pow_add]
  have e1 : ∀ z : Nat, Builtin.bitAnd (z : Int) 1 = ((z % 2 : Nat) : Int) := by
    intro z
    rw [bitAnd_m1]
    rfl
  rw [e4, e2, e1, e1, item4 _ _ _ _ _ _ (Nat.mod_lt _ (by decide)) (Nat.mod_lt _ (by decide)) tab ht, s_r, s_w, s_d]
  unfold chW chX
  rcases (by omega : B / 2 ^ (3 * k + 2) % 2 = 0 ∨ B / 2 ^ (3 * k + 2) % 2 = 1) with h | h <;> rcases (by omega : B / 2 ^ (3 * k + 1) % 2 = 0 ∨ B / 2 ^ (3 * k + 1) % 2 = 1) with h' | h' <;> rw [h, h'] <;> rfl
theorem lsS_ch (c B : Nat) : lsS ⟨#[c]⟩ (B : Int) = ⟨(c :: lch B).toArray⟩ := by
  unfold lsS
  rw [lsC_ch (kk := 2) (k := 2) rfl (show Str.ofString "-xSs" = ⟨#[45, 120, 83, 115]⟩ by decide +kernel), lsC_ch (kk := 1) (k := 1) rfl (show Str.ofString "-xSs" = ⟨#[45, 120, 83, 115]⟩ by decide +kernel), lsC_ch (kk := 0) (k := 0) rfl (show Str.ofString "-xTt" = ⟨#[45, 120, 84, 116]⟩ by decide +kernel)]
  rfl
open StrLaws in
theorem occ_cnt (x : Str) (c : Nat) : ∀ (n a : Nat) (st : Array Nat × Nat), a + n = x.cps.toList.length + 1 → st.snd ≤ a → st.fst.size + n ≤ x.length + 1 →
    (forIn (List.range' a n) st (occBody x ⟨#[c]⟩ x.length (x.length + 1))).run.fst.size = st.fst.size + (x.cps.toList.drop a).countP (· == c)
  | 0, a, st, hn, h1, h2 => by
    rw [List.drop_eq_nil_of_le (by omega)]
    rfl
  | n + 1, a, st, hn, h1, h2 => by
    rw [List.range'_succ, List.forIn_cons]
    unfold occBody
    have key := subAt_one x c a
    by_cases h : x.cps.toList[a]? = some c
    · have hk := key.mpr h
      rw [if_pos ⟨⟨⟨by omega, h1⟩, hk.1⟩, hk.2⟩]
      have ih := occ_cnt x c n (a + 1) (st.fst.push a, a + (⟨#[c]⟩ : Str).length) (by omega) (by show a + 1 ≤ a + 1; omega) (by show (st.fst.push a).size + n ≤ _; rw [Array.size_push]; omega)
      refine ih.trans ?_
      obtain ⟨hlt, he⟩ := List.getElem?_eq_some_iff.mp h
      rw [List.drop_eq_getElem_cons hlt, he]
      show (st.fst.push a).size + _ = _
      rw [Array.size_push, List.countP_cons]
      simp
      omega
    · rw [if_neg (fun hh => h (key.mp ⟨hh.1.2, hh.2⟩))]
      have ih := occ_cnt x c n (a + 1) (st.fst, st.snd) (by omega) (by show st.snd ≤ a + 1; omega) (by show st.fst.size + n ≤ _; omega)
      refine ih.trans ?_
      by_cases hlt : a < x.cps.toList.length
      · rw [List.drop_eq_getElem_cons hlt, List.countP_cons]
        have : (x.cps.toList[a] == c) = false := by
          rw [beq_eq_false_iff_ne]
          intro e
          exact h (by rw [List.getElem?_eq_getElem hlt, e])
        rw [this]
        simp
      · rw [List.drop_eq_nil_of_le (by omega), List.drop_eq_nil_of_le (by omega)]
theorem count_one (x : Str) (c : Nat) : Txt.count x ⟨#[c]⟩ = (x.cps.toList.countP (· == c) : Nat) := by
  unfold Txt.count
  rw [StrLaws.occ_eq, Array.length_toList]
  have h := occ_cnt x c (x.length + 1) 0 (#[], 0) (by simp [Str.length]) (Nat.le_refl _) (by simp)
  have e : x.length + 1 - 0 = x.length + 1 := rfl
  rw [e, h]
  simp
theorem slice9 (a c1 c2 c3 c4 c5 c6 c7 c8 c9 : Nat) : Txt.slice ⟨#[a, c1, c2, c3, c4, c5, c6, c7, c8, c9]⟩ (some 1) none = ⟨#[c1, c2, c3, c4, c5, c6, c7, c8, c9]⟩ := by
  have e : Builtin.Str.strSliceIndices (some 1) none 1 10 = [1, 2, 3, 4, 5, 6, 7, 8, 9] := by decide +kernel
  unfold Txt.slice
  have e2 : Builtin.Str.strSliceIndices (some 1) none 1 (⟨#[a, c1, c2, c3, c4, c5, c6, c7, c8, c9]⟩ : Str).length = [1, 2, 3, 4, 5, 6, 7, 8, 9] := e
  rw [e2]
  rfl
noncomputable def gr (c : Nat) : Int := 1 - (if (c == 45) = true then 1 else 0) + (if (c == 115) = true then 1 else 0) + (if (c == 116) = true then 1 else 0)
theorem gr_W {p c : Nat} (hp : p < 2) (hc : c = 114 ∨ c = 119) : gr (chW p c) = p := by
  rcases (by omega : p = 0 ∨ p = 1) with rfl | rfl <;> rcases hc with rfl | rfl <;> rfl
theorem gr_X {q p a b : Nat} (hq : q < 2) (hp : p < 2) (hab : (a = 115 ∧ b = 83) ∨ (a = 116 ∧ b = 84)) : gr (chX q p a b 120) = q + p := by
  rcases (by omega : p = 0 ∨ p = 1) with rfl | rfl <;> rcases (by omega : q = 0 ∨ q = 1) with rfl | rfl <;> rcases hab with ⟨rfl, rfl⟩ | ⟨rfl, rfl⟩ <;> rfl
theorem gr_list : ∀ l : List Nat, (l.length : Int) - ((l.countP (· == 45) : Nat) : Int) + ((l.countP (· == 115) : Nat) : Int) + ((l.countP (· == 116) : Nat) : Int) = (l.map gr).sum
  | [] => rfl
  | c :: l => by
    have ih := gr_list l
    have e : ∀ b : Nat, (((c :: l).countP (· == b) : Nat) : Int) = (l.countP (· == b) : Nat) + (if (c == b) = true then 1 else 0) := fun b => by
      rw [List.countP_cons]; split <;> simp
    rw [e, e, e, List.map_cons, List.sum_cons, ← ih, List.length_cons, gr]
    generalize (if (c == 45) = true then (1 : Int) else 0) = z1
    generalize (if (c == 115) = true then (1 : Int) else 0) = z2
    generalize (if (c == 116) = true then (1 : Int) else 0) = z3
    clear ih e
    omega
theorem perm12 (b0 b1 b2 b3 b4 b5 b6 b7 b8 b9 b10 b11 : Nat) : (b8 : Int) + ((b7 : Int) + ((b11 + b6 : Int) + ((b5 : Int) + ((b4 : Int) + ((b10 + b3 : Int) + ((b2 : Int) + ((b1 : Int) + ((b9 + b0 : Int) + 0)))))))) = ((b0 + (b1 + (b2 + (b3 + (b4 + (b5 + (b6 + (b7 + (b8 + (b9 + (b10 + b11)))))))))) : Nat) : Int) := by omega
theorem grants_eq (B c : Nat) : 9 - Txt.count (Txt.slice ⟨(c :: lch B).toArray⟩ (some 1) none) (Str.ofString "-") + Txt.count (Txt.slice ⟨(c :: lch B).toArray⟩ (some 1) none) (Str.ofString "s") + Txt.count (Txt.slice ⟨(c :: lch B).toArray⟩ (some 1) none) (Str.ofString "t") =
    ((B / 2 ^ 0 % 2 + (B / 2 ^ 1 % 2 + (B / 2 ^ 2 % 2 + (B / 2 ^ 3 % 2 + (B / 2 ^ 4 % 2 + (B / 2 ^ 5 % 2 + (B / 2 ^ 6 % 2 + (B / 2 ^ 7 % 2 + (B / 2 ^ 8 % 2 + (B / 2 ^ 9 % 2 + (B / 2 ^ 10 % 2 + B / 2 ^ 11 % 2)))))))))) : Nat) : Int) := by
  have m2 : ∀ n, B / 2 ^ n % 2 < 2 := fun n => Nat.mod_lt _ (by decide)
  have e : Txt.slice ⟨(c :: lch B).toArray⟩ (some 1) none = ⟨(lch B).toArray⟩ := slice9 _ _ _ _ _ _ _ _ _ _
  rw [e, s_d, s_s, s_t, count_one, count_one, count_one]
  refine (gr_list (lch B)).trans ?_
  unfold lch
  rw [List.map_cons, List.map_cons, List.map_cons, List.map_cons, List.map_cons, List.map_cons, List.map_cons, List.map_cons, List.map_cons, List.map_nil, List.sum_cons, List.sum_cons, List.sum_cons, List.sum_cons, List.sum_cons, List.sum_cons, List.sum_cons, List.sum_cons, List.sum_cons, List.sum_nil,
    gr_W (m2 _) (.inl rfl), gr_W (m2 _) (.inr rfl), gr_X (m2 _) (m2 _) (.inl ⟨rfl, rfl⟩), gr_W (m2 _) (.inl rfl), gr_W (m2 _) (.inr rfl), gr_X (m2 _) (m2 _) (.inl ⟨rfl, rfl⟩), gr_W (m2 _) (.inl rfl), gr_W (m2 _) (.inr rfl), gr_X (m2 _) (m2 _) (.inr ⟨rfl, rfl⟩)]
  exact perm12 _ _ _ _ _ _ _ _ _ _ _ _
noncomputable def ev (b : Nat) : List Nat → Nat
  | [] => 0
  | d :: l => d + b * ev b l
noncomputable def addP : List Nat → List Nat → List Nat
  | [], m => m
  | a :: l, [] => a :: l
  | a :: l, b :: m => (a + b) :: addP l m
noncomputable def mulP : List Nat → List Nat → List Nat
  | [], _ => []
  | a :: l, m => addP (m.map (a * ·)) (0 :: mulP l m)
theorem ev_add (b : Nat) : ∀ l m, ev b (addP l m) = ev b l + ev b m
  | [], m => by simp [addP, ev]
  | a :: l, [] => by simp [addP, ev]
  | a :: l, c :: m => by
    rw [addP, ev, ev, ev, ev_add b l m, Nat.mul_add]
    omega
theorem ev_map (b a : Nat) : ∀ m, ev b (m.map (a * ·)) = a * ev b m
  | [] => by simp [ev]
  | c :: m => by
    rw [List.map_cons, ev, ev, ev_map b a m, Nat.mul_add, Nat.mul_left_comm]
theorem ev_mul (b : Nat) : ∀ l m, ev b (mulP l m) = ev b l * ev b m
  | [], m => by simp [mulP, ev]
  | a :: l, m => by
    rw [mulP, ev_add, ev_map, ev, ev, ev_mul b l m, Nat.add_mul, Nat.zero_add, Nat.mul_assoc]
theorem r64_ev : ∀ l : List Nat, (∀ d ∈ l, d < 16) → r64 (ev 16 l) = (ev 64 l : Nat)
  | [], _ => r64_zero
  | d :: l, h => by
    have ih := r64_ev l fun z hz => h z (List.mem_cons_of_mem _ hz)
    have hd := h d (List.mem_cons_self ..)
    rw [ev, ev]
    by_cases h0 : d + 16 * ev 16 l = 0
    · have h1 : ev 16 l = 0 := by omega
      rw [h1, r64_zero] at ih
      rw [h0, r64_zero]
      omega
    · rw [r64_step h0, show (d + 16 * ev 16 l) / 16 = ev 16 l by omega, show (d + 16 * ev 16 l) % 16 = d by omega, ih]
      omega
theorem ap_ev : ∀ (l : List Nat) (t : Nat), (∀ d ∈ l, d < 16) → t < 16 → t ≠ 0 → ap (ev 16 (l ++ [t])) = (l ++ [t]).reverse.map fun d => (65 + d).toUInt8
  | [], t, _, ht, h0 => by
    rw [List.nil_append, ev, ev, Nat.mul_zero, Nat.add_zero, ap_step h0, show t / 16 = 0 by omega, ap_zero, show t % 16 = t by omega]
    rfl
  | d :: l, t, h, ht, h0 => by
    have ih := ap_ev l t (fun z hz => h z (List.mem_cons_of_mem _ hz)) ht h0
    have hd := h d (List.mem_cons_self ..)
    have hE : ev 16 (l ++ [t]) ≠ 0 := by
      intro e
      rw [e, ap_zero] at ih
      have := congrArg List.length ih
      simp at this
    rw [List.cons_append, ev, ap_step (by omega), show (d + 16 * ev 16 (l ++ [t])) / 16 = ev 16 (l ++ [t]) by omega, show (d + 16 * ev 16 (l ++ [t])) % 16 = d by omega, ih, List.reverse_cons, List.map_append]
    rfl
theorem dig64_ev : ∀ l : List Nat, (∀ d ∈ l, d < 64) → dig64 l.length (ev 64 l) = l.reverse
  | [], _ => rfl
  | d :: l, h => by
    have ih := dig64_ev l fun z hz => h z (List.mem_cons_of_mem _ hz)
    have hd := h d (List.mem_cons_self ..)
    rw [List.length_cons, dig64, ev, show (d + 64 * ev 64 l) / 64 = ev 64 l by omega, show (d + 64 * ev 64 l) % 64 = d by omega, ih, List.reverse_cons]
noncomputable def cv (a b : Nat → Nat) (s : Nat) : Nat := (if 0 < s then 0 else a 0 * b (0 - s)) + ((if 1 < s then 0 else a 1 * b (1 - s)) + ((if 2 < s then 0 else a 2 * b (2 - s)) + ((if 3 < s then 0 else a 3 * b (3 - s)) + ((if 4 < s then 0 else a 4 * b (4 - s)) + ((if 5 < s then 0 else a 5 * b (5 - s)) + ((if 6 < s then 0 else a 6 * b (6 - s)) + ((if 7 < s then 0 else a 7 * b (7 - s)) + ((if 8 < s then 0 else a 8 * b (8 - s)) + ((if 9 < s then 0 else a 9 * b (9 - s)) + ((if 10 < s then 0 else a 10 * b (10 - s)) + ((if 11 < s then 0 else a 11 * b (11 - s)))))))))))))
noncomputable def cw (a b : Nat → Nat) (s : Nat) : Nat := (if 0 < s then 0 else a (0 - s) * b 0) + ((if 1 < s then 0 else a (1 - s) * b 1) + ((if 2 < s then 0 else a (2 - s) * b 2) + ((if 3 < s then 0 else a (3 - s) * b 3) + ((if 4 < s then 0 else a (4 - s) * b 4) + ((if 5 < s then 0 else a (5 - s) * b 5) + ((if 6 < s then 0 else a (6 - s) * b 6) + ((if 7 < s then 0 else a (7 - s) * b 7) + ((if 8 < s then 0 else a (8 - s) * b 8) + ((if 9 < s then 0 else a (9 - s) * b 9) + ((if 10 < s then 0 else a (10 - s) * b 10) + ((if 11 < s then 0 else a (11 - s) * b 11))))))))))))
noncomputable def lst12 (a : Nat → Nat) : List Nat := [a 0, a 1, a 2, a 3, a 4, a 5, a 6, a 7, a 8, a 9, a 10, a 11]
noncomputable def dabcL : List Nat := [2, 1, 0, 3, 2, 1, 0, 3, 2, 1, 0, 3, 2, 1, 0, 3, 2, 1, 0, 3, 2, 1, 0, 3]
noncomputable def digs (a b : Nat → Nat) : List Nat := addP (mulP (lst12 a) (lst12 fun n => b (11 - n))) dabcL
noncomputable def dg (a b : Nat → Nat) (k : Nat) : Nat := (if k < 13 then cv a b (12 - k) else cw a b (k - 12)) + (k + 3) % 4
theorem dgr_0 (a b : Nat → Nat) : dg a b 23 = a 0 * b 11 + (0) + 2 := by
  rw [dg, if_neg (by decide)]
  simp only [cw, Nat.reduceSub, Nat.reduceLT, Nat.reduceMod, Nat.reduceAdd, if_true, if_false, Nat.zero_add, Nat.add_zero]
theorem dgr_1 (a b : Nat → Nat) : dg a b 22 = a 0 * b 10 + (a 1 * b 11 + (0)) + 1 := by
  rw [dg, if_neg (by decide)]
  simp only [cw, Nat.reduceSub, Nat.reduceLT, Nat.reduceMod, Nat.reduceAdd, if_true, if_false, Nat.zero_add, Nat.add_zero]
theorem dgr_2 (a b : Nat → Nat) : dg a b 21 = a 0 * b 9 + (a 1 * b 10 + (a 2 * b 11 + (0))) + 0 := by
  rw [dg, if_neg (by decide)]
  simp only [cw, Nat.reduceSub, Nat.reduceLT, Nat.reduceMod, Nat.reduceAdd, if_true, if_false, Nat.zero_add, Nat.add_zero]
theorem dgr_3 (a b : Nat → Nat) : dg a b 20 = a 0 * b 8 + (a 1 * b 9 + (a 2 * b 10 + (a 3 * b 11 + (0)))) + 3 := by
  rw [dg, if_neg (by decide)]
  simp only [cw, Nat.reduceSub, Nat.reduceLT, Nat.reduceMod, Nat.reduceAdd, if_true, if_false, Nat.zero_add, Nat.add_zero]
theorem dgr_4 (a b : Nat → Nat) : dg a b 19 = a 0 * b 7 + (a 1 * b 8 + (a 2 * b 9 + (a 3 * b 10 + (a 4 * b 11 + (0))))) + 2 := by
  rw [dg, if_neg (by decide)]
  simp only [cw, Nat.reduceSub, Nat.reduceLT, Nat.reduceMod, Nat.reduceAdd, if_true, if_false, Nat.zero_add, Nat.add_zero]
theorem dgr_5 (a b : Nat → Nat) : dg a b 18 = a 0 * b 6 + (a 1 * b 7 + (a 2 * b 8 + (a 3 * b 9 + (a 4 * b 10 + (a 5 * b 11 + (0)))))) + 1 := by
  rw [dg, if_neg (by decide)]
  simp only [cw, Nat.reduceSub, Nat.reduceLT, Nat.reduceMod, Nat.reduceAdd, if_true, if_false, Nat.zero_add, Nat.add_zero]
theorem dgr_6 (a b : Nat → Nat) : dg a b 17 = a 0 * b 5 + (a 1 * b 6 + (a 2 * b 7 + (a 3 * b 8 + (a 4 * b 9 + (a 5 * b 10 + (a 6 * b 11 + (0))))))) + 0 := by
  rw [dg, if_neg (by decide)]
  simp only [cw, Nat.reduceSub, Nat.reduceLT, Nat.reduceMod, Nat.reduceAdd, if_true, if_false, Nat.zero_add, Nat.add_zero]
theorem dgr_7 (a b : Nat → Nat) : dg a b 16 = a 0 * b 4 + (a 1 * b 5 + (a 2 * b 6 + (a 3 * b 7 + (a 4 * b 8 + (a 5 * b 9 + (a 6 * b 10 + (a 7 * b 11 + (0)))))))) + 3 := by
  rw [dg, if_neg (by decide)]
  simp only [cw, Nat.reduceSub, Nat.reduceLT, Nat.reduceMod, Nat.reduceAdd, if_true, if_false, Nat.zero_add, Nat.add_zero]
theorem dgr_8 (a b : Nat → Nat) : dg a b 15 = a 0 * b 3 + (a 1 * b 4 + (a 2 * b 5 + (a 3 * b 6 + (a 4 * b 7 + (a 5 * b 8 + (a 6 * b 9 + (a 7 * b 10 + (a 8 * b 11 + (0))))))))) + 2 := by
  rw [dg, if_neg (by decide)]
  simp only [cw, Nat.reduceSub, Nat.reduceLT, Nat.reduceMod, Nat.reduceAdd, if_true, if_false, Nat.zero_add, Nat.add_zero]
theorem dgr_9 (a b : Nat → Nat) : dg a b 14 = a 0 * b 2 + (a 1 * b 3 + (a 2 * b 4 + (a 3 * b 5 + (a 4 * b 6 + (a 5 * b 7 + (a 6 * b 8 + (a 7 * b 9 + (a 8 * b 10 + (a 9 * b 11 + (0)))))))))) + 1 := by
  rw [dg, if_neg (by decide)]
  simp only [cw, Nat.reduceSub, Nat.reduceLT, Nat.reduceMod, Nat.reduceAdd, if_true, if_false, Nat.zero_add, Nat.add_zero]
theorem dgr_10 (a b : Nat → Nat) : dg a b 13 = a 0 * b 1 + (a 1 * b 2 + (a 2 * b 3 + (a 3 * b 4 + (a 4 * b 5 + (a 5 * b 6 + (a 6 * b 7 + (a 7 * b 8 + (a 8 * b 9 + (a 9 * b 10 + (a 10 * b 11 + (0))))))))))) + 0 := by
  rw [dg, if_neg (by decide)]
  simp only [cw, Nat.reduceSub, Nat.reduceLT, Nat.reduceMod, Nat.reduceAdd, if_true, if_false, Nat.zero_add, Nat.add_zero]
theorem dgr_11 (a b : Nat → Nat) : dg a b 12 = a 0 * b 0 + (a 1 * b 1 + (a 2 * b 2 + (a 3 * b 3 + (a 4 * b 4 + (a 5 * b 5 + (a 6 * b 6 + (a 7 * b 7 + (a 8 * b 8 + (a 9 * b 9 + (a 10 * b 10 + (a 11 * b 11 + (0)))))))))))) + 3 := by
  rw [dg, if_pos (by decide)]
  simp only [cv, Nat.reduceSub, Nat.reduceLT, Nat.reduceMod, Nat.reduceAdd, if_true, if_false, Nat.zero_add, Nat.add_zero]
theorem dgr_12 (a b : Nat → Nat) : dg a b 11 = a 1 * b 0 + (a 2 * b 1 + (a 3 * b 2 + (a 4 * b 3 + (a 5 * b 4 + (a 6 * b 5 + (a 7 * b 6 + (a 8 * b 7 + (a 9 * b 8 + (a 10 * b 9 + (a 11 * b 10)))))))))) + 2 := by
  rw [dg, if_pos (by decide)]
  simp only [cv, Nat.reduceSub, Nat.reduceLT, Nat.reduceMod, Nat.reduceAdd, if_true, if_false, Nat.zero_add, Nat.add_zero]
theorem dgr_13 (a b : Nat → Nat) : dg a b 10 = a 2 * b 0 + (a 3 * b 1 + (a 4 * b 2 + (a 5 * b 3 + (a 6 * b 4 + (a 7 * b 5 + (a 8 * b 6 + (a 9 * b 7 + (a 10 * b 8 + (a 11 * b 9))))))))) + 1 := by
  rw [dg, if_pos (by decide)]
  simp only [cv, Nat.reduceSub, Nat.reduceLT, Nat.reduceMod, Nat.reduceAdd, if_true, if_false, Nat.zero_add, Nat.add_zero]
theorem dgr_14 (a b : Nat → Nat) : dg a b 9 = a 3 * b 0 + (a 4 * b 1 + (a 5 * b 2 + (a 6 * b 3 + (a 7 * b 4 + (a 8 * b 5 + (a 9 * b 6 + (a 10 * b 7 + (a 11 * b 8)))))))) + 0 := by
  rw [dg, if_pos (by decide)]
  simp only [cv, Nat.reduceSub, Nat.reduceLT, Nat.reduceMod, Nat.reduceAdd, if_true, if_false, Nat.zero_add, Nat.add_zero]
theorem dgr_15 (a b : Nat → Nat) : dg a b 8 = a 4 * b 0 + (a 5 * b 1 + (a 6 * b 2 + (a 7 * b 3 + (a 8 * b 4 + (a 9 * b 5 + (a 10 * b 6 + (a 11 * b 7))))))) + 3 := by
  rw [dg, if_pos (by decide)]
  simp only [cv, Nat.reduceSub, Nat.reduceLT, Nat.reduceMod, Nat.reduceAdd, if_true, if_false, Nat.zero_add, Nat.add_zero]
theorem dgr_16 (a b : Nat → Nat) : dg a b 7 = a 5 * b 0 + (a 6 * b 1 + (a 7 * b 2 + (a 8 * b 3 + (a 9 * b 4 + (a 10 * b 5 + (a 11 * b 6)))))) + 2 := by
  rw [dg, if_pos (by decide)]
  simp only [cv, Nat.reduceSub, Nat.reduceLT, Nat.reduceMod, Nat.reduceAdd, if_true, if_false, Nat.zero_add, Nat.add_zero]
theorem dgr_17 (a b : Nat → Nat) : dg a b 6 = a 6 * b 0 + (a 7 * b 1 + (a 8 * b 2 + (a 9 * b 3 + (a 10 * b 4 + (a 11 * b 5))))) + 1 := by
  rw [dg, if_pos (by decide)]
  simp only [cv, Nat.reduceSub, Nat.reduceLT, Nat.reduceMod, Nat.reduceAdd, if_true, if_false, Nat.zero_add, Nat.add_zero]
theorem dgr_18 (a b : Nat → Nat) : dg a b 5 = a 7 * b 0 + (a 8 * b 1 + (a 9 * b 2 + (a 10 * b 3 + (a 11 * b 4)))) + 0 := by
  rw [dg, if_pos (by decide)]
  simp only [cv, Nat.reduceSub, Nat.reduceLT, Nat.reduceMod, Nat.reduceAdd, if_true, if_false, Nat.zero_add, Nat.add_zero]
theorem dgr_19 (a b : Nat → Nat) : dg a b 4 = a 8 * b 0 + (a 9 * b 1 + (a 10 * b 2 + (a 11 * b 3))) + 3 := by
  rw [dg, if_pos (by decide)]
  simp only [cv, Nat.reduceSub, Nat.reduceLT, Nat.reduceMod, Nat.reduceAdd, if_true, if_false, Nat.zero_add, Nat.add_zero]
theorem dgr_20 (a b : Nat → Nat) : dg a b 3 = a 9 * b 0 + (a 10 * b 1 + (a 11 * b 2)) + 2 := by
  rw [dg, if_pos (by decide)]
  simp only [cv, Nat.reduceSub, Nat.reduceLT, Nat.reduceMod, Nat.reduceAdd, if_true, if_false, Nat.zero_add, Nat.add_zero]
theorem dgr_21 (a b : Nat → Nat) : dg a b 2 = a 10 * b 0 + (a 11 * b 1) + 1 := by
  rw [dg, if_pos (by decide)]
  simp only [cv, Nat.reduceSub, Nat.reduceLT, Nat.reduceMod, Nat.reduceAdd, if_true, if_false, Nat.zero_add, Nat.add_zero]
theorem dgr_22 (a b : Nat → Nat) : dg a b 1 = a 11 * b 0 + 0 := by
  rw [dg, if_pos (by decide)]
  simp only [cv, Nat.reduceSub, Nat.reduceLT, Nat.reduceMod, Nat.reduceAdd, if_true, if_false, Nat.zero_add, Nat.add_zero]
theorem dgr_23 (a b : Nat → Nat) : dg a b 0 = 3 := by
  rw [dg, if_pos (by decide)]
  simp only [cv, Nat.reduceSub, Nat.reduceLT, Nat.reduceMod, Nat.reduceAdd, if_true, if_false, Nat.zero_add, Nat.add_zero]
theorem digs_rev (a b : Nat → Nat) : digs a b = [dg a b 23, dg a b 22, dg a b 21, dg a b 20, dg a b 19, dg a b 18, dg a b 17, dg a b 16, dg a b 15, dg a b 14, dg a b 13, dg a b 12, dg a b 11, dg a b 10, dg a b 9, dg a b 8, dg a b 7, dg a b 6, dg a b 5, dg a b 4, dg a b 3, dg a b 2, dg a b 1, dg a b 0] := by
  rw [dgr_0, dgr_1, dgr_2, dgr_3, dgr_4, dgr_5, dgr_6, dgr_7, dgr_8, dgr_9, dgr_10, dgr_11, dgr_12, dgr_13, dgr_14, dgr_15, dgr_16, dgr_17, dgr_18, dgr_19, dgr_20, dgr_21, dgr_22, dgr_23]
  rfl
theorem term_le {x y : Nat} {p : Prop} [Decidable p] (hx : x ≤ 1) (hy : y ≤ 1) : (if p then 0 else x * y) ≤ 1 := by
  split
  · exact Nat.zero_le _
  · exact Nat.le_trans (Nat.mul_le_mul hx hy) (Nat.le_refl _)
theorem cv_le {a b : Nat → Nat} (ha : ∀ i, a i ≤ 1) (hb : ∀ i, b i ≤ 1) (s : Nat) : cv a b s ≤ 12 := by
  unfold cv
  have k : ∀ i, (if i < s then 0 else a i * b (i - s)) ≤ 1 := fun i => term_le (ha _) (hb _)
  have := k 0; have := k 1; have := k 2; have := k 3; have := k 4; have := k 5; have := k 6; have := k 7; have := k 8; have := k 9; have := k 10; have := k 11
  omega
theorem cw_le {a b : Nat → Nat} (ha : ∀ i, a i ≤ 1) (hb : ∀ i, b i ≤ 1) (s : Nat) : cw a b s ≤ 12 := by
  unfold cw
  have k : ∀ i, (if i < s then 0 else a (i - s) * b i) ≤ 1 := fun i => term_le (ha _) (hb _)
  have := k 0; have := k 1; have := k 2; have := k 3; have := k 4; have := k 5; have := k 6; have := k 7; have := k 8; have := k 9; have := k 10; have := k 11
  omega
theorem dg_lt {a b : Nat → Nat} (ha : ∀ i, a i ≤ 1) (hb : ∀ i, b i ≤ 1) (k : Nat) : dg a b k < 16 := by
  unfold dg
  have h1 := cv_le ha hb (12 - k)
  have h2 := cw_le ha hb (k - 12)
  split <;> omega
theorem dg_zero (a b : Nat → Nat) : dg a b 0 = 3 := by
  simp only [dg, cv, Nat.reduceSub, Nat.reduceLT, Nat.reduceAdd, Nat.reduceMod, if_true, Nat.zero_add]
theorem digs_lt {a b : Nat → Nat} (ha : ∀ i, a i ≤ 1) (hb : ∀ i, b i ≤ 1) : ∀ d ∈ digs a b, d < 16 := by
  rw [digs_rev]
  intro d hd
  simp only [List.mem_cons, List.not_mem_nil, or_false] at hd
  rcases hd with h | h | h | h | h | h | h | h | h | h | h | h | h | h | h | h | h | h | h | h | h | h | h | h <;> (rw [h]; exact dg_lt ha hb _)
noncomputable def digL (a b : Nat → Nat) : List Nat := (List.range 24).map fun k => dg a b k
theorem digs_reverse (a b : Nat → Nat) : (digs a b).reverse = digL a b := by rw [digs_rev]; rfl
theorem ap_digs {a b : Nat → Nat} (ha : ∀ i, a i ≤ 1) (hb : ∀ i, b i ≤ 1) : ap (ev 16 (digs a b)) = (digL a b).map fun d => (65 + d).toUInt8 := by
  have hl := digs_lt ha hb
  rw [← digs_reverse]
  have e : digs a b = (digs a b).dropLast ++ [dg a b 0] := by rw [digs_rev]; rfl
  rw [e] at hl ⊢
  exact ap_ev _ _ (fun d hd => hl d (List.mem_append_left _ hd)) (dg_lt ha hb 0) (by rw [dg_zero]; decide)
theorem sg_dg {d : Nat} (h : d < 16) : sg d = 65 + (d : Int) := by
  have k : ∀ i : Fin 16, sg i.val = 65 + (i.val : Int) := by decide +kernel
  exact k ⟨d, h⟩
theorem digs_len (a b : Nat → Nat) : (digs a b).length = 24 := by rw [digs_rev]; rfl
theorem digL_lt {a b : Nat → Nat} (ha : ∀ i, a i ≤ 1) (hb : ∀ i, b i ≤ 1) : ∀ d ∈ digL a b, d < 16 := by
  rw [← digs_reverse]
  intro d hd
  exact digs_lt ha hb d (List.mem_reverse.mp hd)
theorem enc_digs {a b : Nat → Nat} (ha : ∀ i, a i ≤ 1) (hb : ∀ i, b i ≤ 1) : byteArr (encB 24 (ev 64 (digs a b))) = ((digL a b).map fun d => (65 + d).toUInt8).toArray := by
  have h16 := digL_lt ha hb
  have h64 : ∀ d ∈ digs a b, d < 64 := fun d hd => Nat.lt_trans (digs_lt ha hb d hd) (by decide)
  have hr := digs_reverse a b
  have hl := digs_len a b
  generalize digs a b = D at *
  generalize digL a b = R at *
  have e := dig64_ev D h64
  rw [hl, hr] at e
  unfold byteArr encB
  rw [e, List.map_map]
  refine congrArg List.toArray (List.map_congr_left fun d hd => ?_)
  show (sg d).toNat.toUInt8 = (65 + d).toUInt8
  rw [sg_dg (h16 d hd), show (65 + (d : Int)).toNat = 65 + d by omega]
theorem bInts_digs {a b : Nat → Nat} (ha : ∀ i, a i ≤ 1) (hb : ∀ i, b i ≤ 1) : KBw.bInts ((digL a b).map fun d => (65 + d).toUInt8).toArray = (digL a b).map fun d : Nat => 65 + (d : Int) := by
  unfold KBw.bInts
  rw [List.map_map]
  apply List.map_congr_left
  intro d hd
  have h := digL_lt ha hb d hd
  show (((65 + d).toUInt8.toNat : Nat) : Int) = 65 + (d : Int)
  have : (65 + d).toUInt8.toNat = 65 + d := by
    show (65 + d) % 256 = _
    omega
  omega
theorem octs_nat (N : Nat) : octs (N : Int) = (List.range 18).map fun i => ((N / 256 ^ (17 - i) % 256 : Nat) : Int) := by
  unfold octs
  apply List.map_congr_left
  intro i hi
  have h18 := List.mem_range.mp hi
  rw [show (17 - (i : Int)).toNat = 17 - i by omega, Int.fdiv_eq_ediv_of_nonneg _ (Int.pow_nonneg (by decide)), Int.fmod_eq_emod_of_nonneg _ (by decide), Int.natCast_emod, Int.natCast_ediv, Int.natCast_pow]
  rfl
theorem v256_oct : ∀ (m N : Nat), N < 256 ^ m → v256 ((List.range m).map fun i => ((N / 256 ^ (m - 1 - i) % 256 : Nat) : Int)) = N
  | 0, N, h => by
    have : N = 0 := by simpa using h
    subst this; rfl
  | m + 1, N, h => by
    have ih := v256_oct m (N / 256) (by rw [Nat.pow_succ] at h; omega)
    rw [List.range_succ, List.map_append, List.map_cons, List.map_nil, v256_app]
    have e : (List.map (fun i => ((N / 256 ^ (m + 1 - 1 - i) % 256 : Nat) : Int)) (List.range m)) = List.map (fun i => ((N / 256 / 256 ^ (m - 1 - i) % 256 : Nat) : Int)) (List.range m) := by
      apply List.map_congr_left
      intro i hi
      have hlt := List.mem_range.mp hi
      rw [Nat.div_div_eq_div_mul, ← Nat.pow_succ', show (m - 1 - i).succ = m + 1 - 1 - i by omega]
    rw [e, ih, show m + 1 - 1 - m = 0 by omega, Nat.pow_zero, Nat.div_one]
    omega
noncomputable def cNum : Int := 14877268145274081611751763986
noncomputable def pc (x : Int) : Int := bitOf x 0 + (bitOf x 1 + (bitOf x 2 + (bitOf x 3 + (bitOf x 4 + (bitOf x 5 + (bitOf x 6 + (bitOf x 7 + (bitOf x 8 + (bitOf x 9 + (bitOf x 10 + bitOf x 11))))))))))
noncomputable def bothAt (x y : Int) (k : Nat) : Int := if k < 13 then Builtin.bitAnd x (y * 2 ^ (12 - (k : Int)).toNat) else Builtin.bitAnd y (x * 2 ^ ((k : Int) - 12).toNat)
noncomputable def wsigns (x y : Int) : List Int := (List.range 24).map fun k : Nat => 65 + pc (bothAt x y k) + ((k : Int) + 3) % 4
theorem wsigns_len (x y : Int) : (wsigns x y).length = 24 := by simp [wsigns]
theorem bne_self_no {l : List UInt8} : ¬ ((l != l) = true) := by simp
theorem sne_self_no {l : Str} : ¬ ((l != l) = true) := by simp
theorem both_lt {x y k : Int} {n : Nat} (hk : k = 0 + (n : Int)) (h : k < 13) : Builtin.bitAnd x (y * 2 ^ (12 - k).toNat) = bothAt x y n := by
  unfold bothAt
  rw [if_pos (by omega)]
  congr 4
  omega
theorem both_ge {x y k : Int} {n : Nat} (hk : k = 0 + (n : Int)) (h : ¬ k < 13) : Builtin.bitAnd y (x * 2 ^ (k - 12).toNat) = bothAt x y n := by
  unfold bothAt
  rw [if_neg (by omega)]
  congr 4
  omega
noncomputable def bt (x : Nat) (i : Nat) : Nat := x / 2 ^ i % 2
theorem bt_le (x i : Nat) : bt x i ≤ 1 := by unfold bt; omega
noncomputable def bothN (x y k : Nat) : Nat := if k < 13 then x &&& (y * 2 ^ (12 - k)) else y &&& (x * 2 ^ (k - 12))
theorem mul_cast (y s : Nat) : (y : Int) * 2 ^ s = ((y * 2 ^ s : Nat) : Int) := by rw [Int.natCast_mul, Int.natCast_pow]; rfl
theorem bothAt_nat (x y k : Nat) : bothAt (x : Int) (y : Int) k = (bothN x y k : Int) := by
  unfold bothAt bothN
  rw [show (12 - (k : Int)).toNat = 12 - k by omega, show ((k : Int) - 12).toNat = k - 12 by omega, mul_cast, mul_cast, bitAnd_nat, bitAnd_nat]
  split <;> rfl
theorem bothN_lt {x y : Nat} (hx : x < 4096) (hy : y < 4096) (k : Nat) : bothN x y k < 4096 := by
  unfold bothN
  split
  · exact Nat.lt_of_le_of_lt Nat.and_le_left hx
  · exact Nat.lt_of_le_of_lt Nat.and_le_left hy
theorem both_rng {x y : Int} (hx0 : 0 ≤ x) (hx1 : x < 4096) (hy0 : 0 ≤ y) (hy1 : y < 4096) (k : Nat) : 0 ≤ bothAt x y k ∧ bothAt x y k < 4096 := by
  obtain ⟨X, rfl⟩ := Int.eq_ofNat_of_zero_le hx0
  obtain ⟨Y, rfl⟩ := Int.eq_ofNat_of_zero_le hy0
  rw [bothAt_nat]
  have := bothN_lt (x := X) (y := Y) (by omega) (by omega) k
  omega
theorem link_pre {b : Int} (h : 0 ≤ b ∧ b < 4096) : Builtin.bitAnd (40960 + b) 61440 = 40960 := by
  obtain ⟨B, rfl⟩ := Int.eq_ofNat_of_zero_le h.1
  have e : (40960 + (B : Int)) = ((10 * 4096 + B : Nat) : Int) := by omega
  rw [e]
  show Builtin.bitAnd _ ((61440 : Nat) : Int) = _
  rw [bitAnd_nat, link_preN 10 B (by omega) (by decide)]
  rfl
theorem list_eq {b : Int} (h : 0 ≤ b ∧ b < 4096) : Txt.join (Str.ofString "") (fmC (Str.ofString "l") (40960 + b)) = lsS (Str.ofString "l") b := by
  obtain ⟨B, rfl⟩ := Int.eq_ofNat_of_zero_le h.1
  have e : (40960 + (B : Int)) = ((10 * 4096 + B : Nat) : Int) := by omega
  rw [e, s_l, fmC_ch, lsS_ch]
theorem ls_len {b : Int} (h : 0 ≤ b ∧ b < 4096) : (lsS (Str.ofString "l") b).length = 10 := by
  obtain ⟨B, rfl⟩ := Int.eq_ofNat_of_zero_le h.1
  rw [s_l, lsS_ch]
  rfl
theorem bt_lt (x y s i : Nat) : (x &&& (y * 2 ^ s)) / 2 ^ i % 2 = if i < s then 0 else bt x i * bt y (i - s) := by
  rw [and_bit, shl_bit]
  unfold bt
  split
  · exact Nat.mul_zero _
  · rfl
theorem bt_ge (x y s i : Nat) : (y &&& (x * 2 ^ s)) / 2 ^ i % 2 = if i < s then 0 else bt x (i - s) * bt y i := by
  rw [bt_lt]
  split
  · rfl
  · exact Nat.mul_comm _ _
noncomputable def pcN (x : Nat) : Nat := x / 2 ^ 0 % 2 + (x / 2 ^ 1 % 2 + (x / 2 ^ 2 % 2 + (x / 2 ^ 3 % 2 + (x / 2 ^ 4 % 2 + (x / 2 ^ 5 % 2 + (x / 2 ^ 6 % 2 + (x / 2 ^ 7 % 2 + (x / 2 ^ 8 % 2 + (x / 2 ^ 9 % 2 + (x / 2 ^ 10 % 2 + x / 2 ^ 11 % 2))))))))))
theorem pc_nat (x : Nat) : pc (x : Int) = (pcN x : Int) := by
  unfold pc pcN
  simp only [bitOf_nat]
  omega
theorem pcN_both (x y k : Nat) : pcN (bothN x y k) = if k < 13 then cv (bt x) (bt y) (12 - k) else cw (bt x) (bt y) (k - 12) := by
  unfold bothN
  split
  · unfold pcN cv
    simp only [bt_lt]
  · unfold pcN cw
    simp only [bt_ge]
theorem pc_both (x y k : Nat) : 65 + pc (bothAt (x : Int) (y : Int) k) + ((k : Int) + 3) % 4 = 65 + (dg (bt x) (bt y) k : Int) := by
  rw [bothAt_nat, pc_nat, pcN_both]
  unfold dg
  generalize (if k < 13 then cv (bt x) (bt y) (12 - k) else cw (bt x) (bt y) (k - 12)) = z
  omega
theorem wsigns_nat (x y : Nat) : wsigns (x : Int) (y : Int) = (digL (bt x) (bt y)).map fun d : Nat => 65 + (d : Int) := by
  unfold wsigns digL
  rw [List.map_map]
  exact List.map_congr_left fun k _ => pc_both x y k
theorem bsum_nat (a : Nat → Nat) : bsum (fun n => ((a n : Nat) : Int)) = (ev 16 (lst12 a) : Nat) := by
  unfold bsum lst12
  simp only [ev]
  omega
theorem bitOf_fun (x : Nat) : bitOf (x : Int) = fun n => ((bt x n : Nat) : Int) := funext fun n => bitOf_nat x n
theorem rowA_nat (x : Nat) : rowA (x : Int) = (ev 16 (lst12 (bt x)) : Nat) := by rw [rowA_eq, bitOf_fun, bsum_nat]
theorem rowB_nat (x : Nat) : rowB (x : Int) = (ev 16 (lst12 fun n => bt x (11 - n)) : Nat) := by
  rw [rowB_eq, bitOf_fun]
  exact bsum_nat fun n => bt x (11 - n)
theorem lst12_lt {a : Nat → Nat} (h : ∀ i, a i ≤ 1) : ∀ d ∈ lst12 a, d < 16 := by
  intro d hd
  unfold lst12 at hd
  simp only [List.mem_cons, List.not_mem_nil, or_false] at hd
  rcases hd with e | e | e | e | e | e | e | e | e | e | e | e <;> (rw [e]; exact Nat.lt_of_le_of_lt (h _) (by decide))
theorem cNum_ev : cNum = (ev 16 dabcL : Nat) := by decide +kernel
theorem dabcN_ev : dabcN = (ev 64 dabcL : Nat) := by decide +kernel
theorem ev_lt : ∀ l : List Nat, (∀ d ∈ l, d < 64) → ev 64 l < 64 ^ l.length
  | [], _ => by decide
  | d :: l, h => by
    have ih := ev_lt l fun z hz => h z (List.mem_cons_of_mem _ hz)
    have hd := h d (List.mem_cons_self ..)
    rw [ev, List.length_cons, Nat.pow_succ]
    omega
theorem ev_digs (b : Nat) (f g : Nat → Nat) : ev b (digs f g) = ev b (lst12 f) * ev b (lst12 fun n => g (11 - n)) + ev b dabcL := by
  unfold digs
  rw [ev_add, ev_mul]
theorem prod_nat (x y : Nat) : (rowA (x : Int) * rowB (y : Int) + cNum).natAbs = ev 16 (digs (bt x) (bt y)) := by
  rw [rowA_nat, rowB_nat, cNum_ev, ev_digs, ← Int.natCast_mul, ← Int.natCast_add, Int.natAbs_natCast]
theorem num_nat (x y : Nat) : r64 (rowA (x : Int)).natAbs * r64 (-rowB (y : Int)).natAbs + dabcN = (ev 64 (digs (bt x) (bt y)) : Nat) := by
  rw [Int.natAbs_neg, rowA_nat, rowB_nat, Int.natAbs_natCast, Int.natAbs_natCast, r64_ev _ (lst12_lt (bt_le x)), r64_ev _ (lst12_lt fun i => bt_le y (11 - i)), dabcN_ev, ev_digs, Int.natCast_add, Int.natCast_mul]
theorem num_lt (x y : Nat) : ev 64 (digs (bt x) (bt y)) < 256 ^ 18 := by
  have h := ev_lt (digs (bt x) (bt y)) fun d hd => Nat.lt_trans (digs_lt (bt_le x) (bt_le y) d hd) (by decide)
  rw [digs_len] at h
  exact Nat.lt_of_lt_of_le h (by decide)
theorem writing_eq {x y : Int} (hx0 : 0 ≤ x) (_hx1 : x < 4096) (hy0 : 0 ≤ y) (_hy1 : y < 4096) :
    byteArr (encB ((byteArr (octs (r64 (rowA x).natAbs * r64 (-rowB y).natAbs + dabcN))).size / 3 * 4) (v256 (KBw.bInts (byteArr (octs (r64 (rowA x).natAbs * r64 (-rowB y).natAbs + dabcN))))).toNat) = (ap (rowA x * rowB y + cNum).natAbs).toArray := by
  obtain ⟨X, rfl⟩ := Int.eq_ofNat_of_zero_le hx0
  obtain ⟨Y, rfl⟩ := Int.eq_ofNat_of_zero_le hy0
  rw [byteArr_size, octs_len, KBa.ints_make (octs_in _), num_nat, octs_nat, v256_oct 18 _ (num_lt X Y), Int.toNat_natCast, prod_nat, ap_digs (bt_le X) (bt_le Y)]
  exact enc_digs (bt_le X) (bt_le Y)
theorem wsigns_eq {x y : Int} (hx0 : 0 ≤ x) (_hx1 : x < 4096) (hy0 : 0 ≤ y) (_hy1 : y < 4096) : KBw.bInts (ap (rowA x * rowB y + cNum).natAbs).toArray = wsigns x y := by
  obtain ⟨X, rfl⟩ := Int.eq_ofNat_of_zero_le hx0
  obtain ⟨Y, rfl⟩ := Int.eq_ofNat_of_zero_le hy0
  rw [prod_nat, ap_digs (bt_le X) (bt_le Y), bInts_digs (bt_le X) (bt_le Y), wsigns_nat]
theorem turn_eq {x y k : Int} {n : Nat} {lst : Str} (hx0 : 0 ≤ x) (_hx1 : x < 4096) (hy0 : 0 ≤ y) (_hy1 : y < 4096) (hk : k = 0 + (n : Int)) (hn : n < 24) (e : lsS (Str.ofString "l") (bothAt x y n) = lst) :
    (wsigns x y).getD k.toNat 0 = 65 + (9 - Txt.count (Txt.slice lst (some 1) none) (Str.ofString "-") + Txt.count (Txt.slice lst (some 1) none) (Str.ofString "s") + Txt.count (Txt.slice lst (some 1) none) (Str.ofString "t")) + (k + 3).fmod 4 := by
  obtain ⟨X, rfl⟩ := Int.eq_ofNat_of_zero_le hx0
  obtain ⟨Y, rfl⟩ := Int.eq_ofNat_of_zero_le hy0
  subst hk e
  have hp := pc_nat (bothN X Y n)
  rw [bothAt_nat, s_l, lsS_ch, grants_eq]
  show _ = 65 + (pcN (bothN X Y n) : Int) + _
  rw [← hp, ← bothAt_nat, Int.fmod_eq_emod_of_nonneg _ (by decide), Int.zero_add, Int.toNat_natCast]
  unfold wsigns
  rw [List.getD_eq_getElem?_getD, List.getElem?_map, List.getElem?_range hn]
  rfl
noncomputable abbrev loose01 : List Str := looseW hd01.view_39 [Str.ofString "bytes_types", Str.ofString "a2b_base64", Str.ofString "b2a_base64", Str.ofString "b64encode", Str.ofString "b64decode", Str.ofString "_filemode_table"]
abbrev Cl (w : World) (mean : ExcName → Option Value) (mg mb : Str → Option Value) (r : Nat) (f : Addr) (news : List (Addr × Obj)) (pre : Prop) (vs : List Value) (post : Value → Prop) : Prop :=
  ∀ (dp un : Nat) (gd : Option (List Code)) (cn : Str) (cs : Scope) (a : Addr) (ccd : Value) (cl : List (Str × Addr)) (outer : List Env) (A₀ : Around) (base h₀ : Heap) (L : Addr) (m : Str → Option Value) (s : Shared) (Q E : Value → Shared → Prop),
    Below A₀ base outer h₀ → Fr h₀ L s.heap m → (KK01 w.params).In h₀ → News h₀ L s.heap news → Top hd01.view_39 loose01 mean mg mb h₀ → cs.kind = .function →
    pre → dp + r < recursionLimit → un + 8 * r < cLine →
    (∀ (v : Value) (h' : Heap) (tk' : Nat), post v → Fr h₀ L h' m → News h₀ L h' news → Q v { s with heap := h', toks := tk' }) →
      wpAny (model Challenge.rw_op0070_01.row.prog w) (ktrTop dp un gd cn cs L a ccd cl outer) (call (.ref f) vs) Q E s
set_option maxRecDepth 100000 in
set_option maxHeartbeats 8000000 in
theorem c_Int2AP (w : World) (mean : ExcName → Option Value) (mg mb : Str → Option Value) (news : List (Addr × Obj)) (x : Int) (tk : Tok) :
   Cl w mean mg mb 4 28 news (x.natAbs < 16 ^ 30) [.int x tk] (fun v => ∃ t, v = .bytes (ap x.natAbs).toArray t) := by
  w_top off
  k_with_none
  k_with "my stop" => ((fail_if_success (with_reducible show InvEndN _ _ _ _ _ _ _)); (fail_if_success (with_reducible show KswEnd _ _ _ _ _ _ _ _ _ _ _ _)); (fail_if_success (with_reducible show LoopStep3 _ _ _ _ _ _ _ _ _ _)); (fail_if_success (with_reducible show LCg.CompSrc _ _ _ _ _ _ _ _ _ _ _ _ _ _)))
  k_with "my step" => (first | (k_unfold; (try dsimp only)) | (walk_at "my stop"; (first | walk_at "my own" | walk1 | (dsimp only; walk1)); (all_goals (try walk_at "my norm"))) | (leave1; (try dsimp only)) | fail "no step")
  k_with "my steps" => (repeat' walk_at "my step")
  k_with "my stepsW" => (repeat' ((fail_if_success (with_reducible show wpAny _ _ (exec (Stmt.While _ _ _ _) _) _ _ _)); walk_at "my step"))
  k_with "my norm" => ((try dsimp only); (try ((with_reducible refine wpAny_tok ?_); intro tk9)))
  k_with "my room" => (first | exact room_rm _ (by decide) | exact room_of (k := 0) (by assumption) (by decide) | exact room_of (k := 1) (by assumption) (by decide) | exact room_of (k := 2) (by assumption) (by decide) | exact room_of (k := 3) (by assumption) (by decide) | exact room_of2 (by assumption) (by decide))
  k_with "my units" => (first | exact room_um _ (by decide) | exact room_of2 (by assumption) (by decide) | ktr_units)
  unfold Cl; k_fill
  intro dp un gd cn cs a ccd cl outer A₀ base h₀ L m s Q E B0 F0 X0 N0 T0 hk hpre hd hu hret
  refine wpAny_call ?_
  k_with "my own" => (k_here; (with_reducible show wpAny _ _ (call (Value.ref _) _ _) _ _ _); k_dflt (refine wpAny_call ?_; (refine code_def1 (by exact rfl) (by exact rfl) (by first | exact rfl | assumption) (by k_asm) (by k_asm) (by k_asm) (by k_asm) (by k_asm) (by k_is) (by k_is) (by walk_at "my room") (by first | exact BindsTo.of_eq rfl | exact binds_K (by k_in) rfl (by k_is) rfl rfl rfl | fail "no binds") (by decide) (by exact locs rfl) (by exact rfl) (by exact rfl) (by exact rfl) ?_); k_whole; intro g' L' h' FG' F' N' B' X' T'; (try dsimp only); (try k_lift B'); (try k_fold)))
  k_with "my enter0" => ((refine code_def0 (by exact rfl) (by exact rfl) (by first | exact rfl | assumption) (by k_asm) (by k_asm) (by k_asm) (by k_asm) (by k_is) (by k_is) (by walk_at "my room") (by first | exact BindsTo.of_eq rfl | exact binds_K (by k_in) rfl (by k_is) rfl rfl rfl | fail "no binds") (by decide) (by exact locs rfl) (by exact rfl) (by exact rfl) (by exact rfl) ?_); k_whole; intro L' h' F' N' B' X' T'; (try dsimp only); (try k_lift B'); (try k_fold))
  k_with "my own" => (k_here; (with_reducible show wpAny _ _ (subscriptTail _ (Expr.Slice _ _ none _) (Value.bytes #[65, 66, 67, 68, 69, 70, 71, 72, 73, 74, 75, 76, 77, 78, 79, 80] _) (Value.ref _)) _ _ _); (with_reducible rename Fr _ _ _ _ => F'); (with_reducible rename News _ _ _ _ => N'); (refine slice_AP (s := ⟨_, _, _, _, _⟩) F' N' (by (rw [Int.fmod_eq_emod_of_nonneg _ (by omega)]; omega)) (by (rw [Int.fmod_eq_emod_of_nonneg _ (by omega)]; omega)) ?_); intro _ _ _ _ _)
  k_dflt (walk_at "my enter0")
  walk_at "my stepsW"
  k_with "state" => exact i2a_start (by assumption)
  k_while (fun _ num val => 0 ≤ num ∧ (ap num.toNat) ++ val.toList = ap x.natAbs ∧ num.toNat * 16 ^ val.size < 16 ^ 30 ∧ val.size ≤ 30) (fun _ num _ => num.toNat) "num" "val"
  k_with "state" => exact i2a_turn (by assumption) (by assumption) (by assumption) (by assumption) (by assumption)
  k_with "measure" => exact i2a_less (by assumption) (by assumption)
  repeat' (first | (k_unfold; (try dsimp only)) | (k_end; wrow_close) | walk_at "my own" | walk1 | (dsimp only; walk1) | (leave1; (try dsimp only)) | fail "no step")
  all_goals exact hret _ _ _ ⟨_, congrArg (fun b => Value.bytes b _) (i2a_end (by assumption) (by assumption))⟩ (by assumption) (news_keep N0 (by assumption))
set_option maxRecDepth 100000 in
set_option maxHeartbeats 8000000 in
theorem c_b64decode (w : World) (mean : ExcName → Option Value) (mg mb : Str → Option Value) (news : List (Addr × Obj)) (b : Array UInt8) (tk : Tok) :
   Cl w mean mg mb 5 109 news (b.size ≤ 100 ∧ b.size % 4 = 0 ∧ ∀ k ∈ KBw.bInts b, 65 ≤ k ∧ k ≤ 90) [.bytes b tk] (fun v => ∃ b' t, v = .bytes b' t ∧ b'.size ≤ 100 ∧ v256 (KBw.bInts b') = v64 (KBw.bInts b)) := by
  w_top off
  k_with_none
  k_with "my stop" => ((fail_if_success (with_reducible show InvEndN _ _ _ _ _ _ _)); (fail_if_success (with_reducible show KswEnd _ _ _ _ _ _ _ _ _ _ _ _)); (fail_if_success (with_reducible show LoopStep3 _ _ _ _ _ _ _ _ _ _)); (fail_if_success (with_reducible show LCg.CompSrc _ _ _ _ _ _ _ _ _ _ _ _ _ _)))
  k_with "my step" => (first | (k_unfold; (try dsimp only)) | (walk_at "my stop"; (first | walk_at "my own" | walk1 | (dsimp only; walk1)); (all_goals (try walk_at "my norm"))) | (leave1; (try dsimp only)) | fail "no step")
  k_with "my steps" => (repeat' walk_at "my step")
  k_with "my stepsW" => (repeat' ((fail_if_success (with_reducible show wpAny _ _ (exec (Stmt.While _ _ _ _) _) _ _ _)); walk_at "my step"))
  k_with "my norm" => ((try dsimp only); (try ((with_reducible refine wpAny_tok ?_); intro tk9)))
  k_with "my room" => (first | exact room_rm _ (by decide) | exact room_of (k := 0) (by assumption) (by decide) | exact room_of (k := 1) (by assumption) (by decide) | exact room_of (k := 2) (by assumption) (by decide) | exact room_of (k := 3) (by assumption) (by decide) | exact room_of2 (by assumption) (by decide))
  k_with "my units" => (first | exact room_um _ (by decide) | exact room_of2 (by assumption) (by decide) | ktr_units)
  unfold Cl; k_fill
  intro dp un gd cn cs a ccd cl outer A₀ base h₀ L m s Q E B0 F0 X0 N0 T0 hk hpre hd hu hret
  refine wpAny_call ?_
  k_with "my own" => (k_here; (with_reducible show wpAny _ _ (call (Value.ref _) _ _) _ _ _); k_dflt (refine wpAny_call ?_; (refine code_def1 (by exact rfl) (by exact rfl) (by first | exact rfl | assumption) (by k_asm) (by k_asm) (by k_asm) (by k_asm) (by k_asm) (by k_is) (by k_is) (by walk_at "my room") (by first | exact BindsTo.of_eq rfl | exact binds_K (by k_in) rfl (by k_is) rfl rfl rfl | fail "no binds") (by decide) (by exact locs rfl) (by exact rfl) (by exact rfl) (by exact rfl) ?_); k_whole; intro g' L' h' FG' F' N' B' X' T'; (try dsimp only); (try k_lift B'); (try k_fold)))
  k_with "my enter0" => ((refine code_def0 (by exact rfl) (by exact rfl) (by first | exact rfl | assumption) (by k_asm) (by k_asm) (by k_asm) (by k_asm) (by k_is) (by k_is) (by walk_at "my room") (by first | exact BindsTo.of_eq rfl | exact binds_K (by k_in) rfl (by k_is) rfl rfl rfl | fail "no binds") (by decide) (by exact locs rfl) (by exact rfl) (by exact rfl) (by exact rfl) ?_); k_whole; intro L' h' F' N' B' X' T'; (try dsimp only); (try k_lift B'); (try k_fold))
  k_with "my own" => (k_here; (with_reducible show wpAny _ _ (call (Value.type "type") [Value.bytes _ _]) _ _ _); refine call_type_of (typeIs_bytes _ _ _) (by decide +kernel) ?_)
  k_dflt (walk_at "my enter0")
  walk_at "my steps"
  rename Fr _ _ _ _ => lF
  rename News _ _ _ _ => lN
  obtain ⟨l', el'⟩ := news_head lN
  subst el'
  refine' KStb.kst_bytes (σ := A2) (fun c => (l', W.listOf c.vs.toArray c.n) :: []) (fun c => [(Str.ofString "quad_pos", .int c.q c.tq), (Str.ofString "leftchar", .int c.l c.tl), (Str.ofString "pads", .int c.p c.tp), (Str.ofString "i", .int c.i c.ti)]) (fun c => IntsAre c.vs c.ns) [Str.ofString "this_ch"] (fun pre c => A2inv pre c) ⟨[], [], 0, 0, _, 0, _, 0, _, 0, _⟩ rfl rfl rfl lF lN IntsAre.nil ?kk ?kp ?turn ?done
  case kk => kst_all
  case kp => exact A2inv.start
  case turn => 
    clear lF lN
    intro c pre post n t u h tk own hEq hLen hLo hHi hOff hFacts hInv hFr hNews
    have hMk := kstMark
    have hN := hpre.2.2 n (by rw [show KBw.bInts b = pre ++ n :: post from hEq]; simp)
    obtain ⟨hN1, hN2⟩ := hN
    obtain ⟨vs, ns, ne, q, tq, l, tl, p, tp, i, ti⟩ := c
    dsimp only at hFacts hInv hFr hNews ⊢
    simp only [kstB] at hFr
    have hP := hInv.p0
    have hq0 := hInv.q0
    have hq3 := hInv.q4
    have hl0 := hInv.l0
    have hl1 := hInv.l1
    have hlen := hInv.len
    dsimp only at hP hq0 hq3 hl0 hl1 hlen
    have hl64 : l < 65 := by simp only [qM] at hl1; split at hl1 <;> (try split at hl1) <;> (try split at hl1) <;> omega
    clear hl1
    have hvs : vs.length ≤ 100 := by have h1 := hFacts.length; have h2 := hpre.1; rw [KBw.ints_length] at hLen; omega
    simp only [List.cons_append, List.nil_append] at hNews
    simp only [List.map_cons, List.map_nil] at hOff
    walk_at "my steps"
    all_goals ((rename News _ _ _ _ => nE'); (try simp only [List.push_toArray] at nE'); (refine kst_end (A2.mk _ _ _ _ _ _ _ _ _ _ _) (by assumption) nE' (by kst_in) (by intro p hp; kst_mem) (by rfl) (by k_intsEnd) (by kst_all) (by kst_same) ?_))
    all_goals first | (exfalso; omega) | ((have hq : q = 0 := by assumption); exact a2_w0 hInv hN1 hN2 hq) | ((have hq : q = 1 := by assumption); exact a2_w1 hInv hN1 hN2 hq) | ((have hq : q = 2 := by assumption); exact a2_w2 hInv hN1 hN2 hq) | exact a2_w3 hInv hN1 hN2 (by assumption) (by assumption) (by assumption)
  case done =>
    clear lF lN
    intro c u h tk hLen hFacts hInv hFr hNews
    have hMk := kstMark
    obtain ⟨vs, ns, ne, q, tq, l, tl, p, tp, i, ti⟩ := c
    dsimp only at hFacts hInv hFr hNews ⊢
    simp only [kstB] at hFr
    have hP := hInv.p0
    have hq : q = 0 := by have h1 := hInv.ql; dsimp only at h1; rw [← h1, KBw.ints_length]; omega
    have hl : l = 0 := by have h1 := hInv.l0; have h2 := hInv.l1; dsimp only at h1 h2; rw [hq] at h2; simp [qM] at h2; omega
    dsimp only at hP
    subst hP hq hl
    have hrng := hInv.rng
    have hval := hInv.val
    have hlen := hInv.len
    dsimp only at hrng hval hlen
    have hvs : vs.length ≤ 100 := by have h1 := hFacts.length; have h2 := hpre.1; rw [KBw.ints_length] at hlen; omega
    walk_at "my steps"
    all_goals exact hret _ _ _ ⟨_, _, rfl, a2_end (by assumption) (by assumption) (by assumption) (by assumption)⟩ (by assumption) (news_keep N0 (by assumption))
set_option maxRecDepth 100000 in
set_option maxHeartbeats 8000000 in
theorem c_count (w : World) (mean : ExcName → Option Value) (mg mb : Str → Option Value) (news : List (Addr × Obj)) (b : Array UInt8) (tk : Tok) :
   Cl w mean mg mb 7 170 news (b.size ≤ 100 ∧ b.size % 4 = 0 ∧ ∀ k ∈ KBw.bInts b, 65 ≤ k ∧ k ≤ 90) [.bytes b tk] (fun v => ∃ t, v = .int (v64 (KBw.bInts b)) t) := by
  w_top off
  k_with_none
  k_with "my stop" => ((fail_if_success (with_reducible show InvEndN _ _ _ _ _ _ _)); (fail_if_success (with_reducible show KswEnd _ _ _ _ _ _ _ _ _ _ _ _)); (fail_if_success (with_reducible show LoopStep3 _ _ _ _ _ _ _ _ _ _)); (fail_if_success (with_reducible show LCg.CompSrc _ _ _ _ _ _ _ _ _ _ _ _ _ _)))
  k_with "my step" => (first | (k_unfold; (try dsimp only)) | (walk_at "my stop"; (first | walk_at "my own" | walk1 | (dsimp only; walk1)); (all_goals (try walk_at "my norm"))) | (leave1; (try dsimp only)) | fail "no step")
  k_with "my steps" => (repeat' walk_at "my step")
  k_with "my stepsW" => (repeat' ((fail_if_success (with_reducible show wpAny _ _ (exec (Stmt.While _ _ _ _) _) _ _ _)); walk_at "my step"))
  k_with "my norm" => ((try dsimp only); (try ((with_reducible refine wpAny_tok ?_); intro tk9)))
  k_with "my room" => (first | exact room_rm _ (by decide) | exact room_of (k := 0) (by assumption) (by decide) | exact room_of (k := 1) (by assumption) (by decide) | exact room_of (k := 2) (by assumption) (by decide) | exact room_of (k := 3) (by assumption) (by decide) | exact room_of2 (by assumption) (by decide))
  k_with "my units" => (first | exact room_um _ (by decide) | exact room_of2 (by assumption) (by decide) | ktr_units)
  unfold Cl; k_fill
  intro dp un gd cn cs a ccd cl outer A₀ base h₀ L m s Q E B0 F0 X0 N0 T0 hk hpre hd hu hret
  refine wpAny_call ?_
  k_with "my own" => (k_here; (with_reducible show wpAny _ _ (call (Value.ref _) _ _) _ _ _); k_dflt (refine wpAny_call ?_; (refine code_def1 (by exact rfl) (by exact rfl) (by first | exact rfl | assumption) (by k_asm) (by k_asm) (by k_asm) (by k_asm) (by k_asm) (by k_is) (by k_is) (by walk_at "my room") (by first | exact BindsTo.of_eq rfl | exact binds_K (by k_in) rfl (by k_is) rfl rfl rfl | fail "no binds") (by decide) (by exact locs rfl) (by exact rfl) (by exact rfl) (by exact rfl) ?_); k_whole; intro g' L' h' FG' F' N' B' X' T'; (try dsimp only); (try k_lift B'); (try k_fold)))
  k_with "my enter0" => ((refine code_def0 (by exact rfl) (by exact rfl) (by first | exact rfl | assumption) (by k_asm) (by k_asm) (by k_asm) (by k_asm) (by k_is) (by k_is) (by walk_at "my room") (by first | exact BindsTo.of_eq rfl | exact binds_K (by k_in) rfl (by k_is) rfl rfl rfl | fail "no binds") (by decide) (by exact locs rfl) (by exact rfl) (by exact rfl) (by exact rfl) ?_); k_whole; intro L' h' F' N' B' X' T'; (try dsimp only); (try k_lift B'); (try k_fold))
  k_with "my own" => (k_here; (with_reducible show wpAny _ _ (call (Value.ref 109) [Value.bytes _ _]) _ _ _); k_dflt (refine c_b64decode _ _ _ _ _ _ _ _ _ _ _ _ _ _ _ _ _ _ _ _ _ _ _ _ (by k_asm) (by k_asm) (by k_asm) (by k_asm) (by k_asm) (by first | exact rfl | assumption) (by assumption) (by walk_at "my room") (by walk_at "my units") ?_; intro v9 h9 tk9 hv9 F9 N9; obtain ⟨b9, t9, hb9, hz9, he9⟩ := hv9; subst hb9; (try dsimp only)))
  k_dflt (walk_at "my enter0")
  walk_at "my steps"
  rename Fr _ _ _ _ => lF
  rename News _ _ _ _ => lN
  refine' KStb.kst_bytes (σ := Int × Tok) (fun _ => []) (fun c => [(Str.ofString "number", .int c.1 c.2)]) (fun _ => True) [] (fun pre c => c.1 = v256 pre) ⟨0, _⟩ rfl rfl rfl lF lN trivial ?kk ?kp ?turn ?done
  case kk => kst_all
  case kp => rfl
  case turn =>
    clear lF lN
    intro c pre post n t u h tk own hEq hLen hLo hHi hOff hFacts hInv hFr hNews
    have hMk := kstMark
    obtain ⟨x, tx⟩ := c
    dsimp only at hInv hFr hNews ⊢
    simp only [kstB] at hFr
    simp only [List.nil_append] at hNews
    walk_at "my steps"
    all_goals ((rename News _ _ _ _ => nE'); (refine kst_end (Prod.mk _ _) (by assumption) nE' (by kst_in) (by intro p hp; kst_mem) (by rfl) trivial (by kst_all) (by kst_same) ?_))
    all_goals (show _ = v256 (pre ++ [n]); rw [v256_app, ← hInv])
  case done =>
    clear lF lN
    intro c u h tk hLen hFacts hInv hFr hNews
    obtain ⟨x, tx⟩ := c
    dsimp only at hInv hFr hNews ⊢
    replace hInv : x = v64 (KBw.bInts b) := hInv.trans (by assumption)
    simp only [kstB] at hFr
    walk_at "my steps"
    all_goals exact hret _ _ _ ⟨_, congrArg (fun z => Value.int z _) (by assumption)⟩ (by assumption) (news_keep N0 (by assumption))
set_option maxRecDepth 100000 in
set_option maxHeartbeats 8000000 in
theorem c_b64encode (w : World) (mean : ExcName → Option Value) (mg mb : Str → Option Value) (news : List (Addr × Obj)) (b : Array UInt8) (tk : Tok) :
   Cl w mean mg mb 5 101 news (b.size ≤ 100 ∧ b.size % 3 = 0) [.bytes b tk] (fun v => ∃ t, v = .bytes (byteArr (encB (b.size / 3 * 4) (v256 (KBw.bInts b)).toNat)) t) := by
  w_top off
  k_with_none
  k_with "my stop" => ((fail_if_success (with_reducible show InvEndN _ _ _ _ _ _ _)); (fail_if_success (with_reducible show KswEnd _ _ _ _ _ _ _ _ _ _ _ _)); (fail_if_success (with_reducible show LoopStep3 _ _ _ _ _ _ _ _ _ _)); (fail_if_success (with_reducible show LCg.CompSrc _ _ _ _ _ _ _ _ _ _ _ _ _ _)))
  k_with "my step" => (first | (k_unfold; (try dsimp only)) | (walk_at "my stop"; (first | walk_at "my own" | walk1 | (dsimp only; walk1)); (all_goals (try walk_at "my norm"))) | (leave1; (try dsimp only)) | fail "no step")
  k_with "my steps" => (repeat' walk_at "my step")
  k_with "my stepsW" => (repeat' ((fail_if_success (with_reducible show wpAny _ _ (exec (Stmt.While _ _ _ _) _) _ _ _)); walk_at "my step"))
  k_with "my norm" => ((try dsimp only); (try ((with_reducible refine wpAny_tok ?_); intro tk9)))
  k_with "my room" => (first | exact room_rm _ (by decide) | exact room_of (k := 0) (by assumption) (by decide) | exact room_of (k := 1) (by assumption) (by decide) | exact room_of (k := 2) (by assumption) (by decide) | exact room_of (k := 3) (by assumption) (by decide) | exact room_of2 (by assumption) (by decide))
  k_with "my units" => (first | exact room_um _ (by decide) | exact room_of2 (by assumption) (by decide) | ktr_units)
  unfold Cl; k_fill
  intro dp un gd cn cs a ccd cl outer A₀ base h₀ L m s Q E B0 F0 X0 N0 T0 hk hpre hd hu hret
  refine wpAny_call ?_
  k_with "my own" => (k_here; (with_reducible show wpAny _ _ (call (Value.ref _) _ _) _ _ _); k_dflt (refine wpAny_call ?_; (refine code_def1 (by exact rfl) (by exact rfl) (by first | exact rfl | assumption) (by k_asm) (by k_asm) (by k_asm) (by k_asm) (by k_asm) (by k_is) (by k_is) (by walk_at "my room") (by first | exact BindsTo.of_eq rfl | exact binds_K (by k_in) rfl (by k_is) rfl rfl rfl | fail "no binds") (by decide) (by exact locs rfl) (by exact rfl) (by exact rfl) (by exact rfl) ?_); k_whole; intro g' L' h' FG' F' N' B' X' T'; (try dsimp only); (try k_lift B'); (try k_fold)))
  k_with "my enter0" => ((refine code_def0 (by exact rfl) (by exact rfl) (by first | exact rfl | assumption) (by k_asm) (by k_asm) (by k_asm) (by k_asm) (by k_is) (by k_is) (by walk_at "my room") (by first | exact BindsTo.of_eq rfl | exact binds_K (by k_in) rfl (by k_is) rfl rfl rfl | fail "no binds") (by decide) (by exact locs rfl) (by exact rfl) (by exact rfl) (by exact rfl) ?_); k_whole; intro L' h' F' N' B' X' T'; (try dsimp only); (try k_lift B'); (try k_fold))
  k_with "my own" => (k_here; (with_reducible show wpAny _ _ (call (Value.type "type") [Value.bytes _ _]) _ _ _); refine call_type_of (typeIs_bytes _ _ _) (by decide +kernel) ?_)
  k_with "my own" => (k_here; (with_reducible show wpAny _ _ (subscriptTail _ _ (Value.bytes #[65, 66, 67, 68, 69, 70, 71, 72, 73, 74, 75, 76, 77, 78, 79, 80, 81, 82, 83, 84, 85, 86, 87, 88, 89, 90, 97, 98, 99, 100, 101, 102, 103, 104, 105, 106, 107, 108, 109, 110, 111, 112, 113, 114, 115, 116, 117, 118, 119, 120, 121, 122, 48, 49, 50, 51, 52, 53, 54, 55, 56, 57, 43, 47] _) (Value.int (Builtin.bitAnd _ 63) _)) _ _ _); (refine item_B64 (by rw [bitAnd_m6]; omega) (by rw [bitAnd_m6]; omega) ?_); intro _ _)
  k_dflt (walk_at "my enter0")
  walk_at "my steps"
  rename Fr _ _ _ _ => lF
  rename News _ _ _ _ => lN
  obtain ⟨l', el'⟩ := news_head lN
  subst el'
  refine' KStb.kst_bytes (σ := B2) (fun c => (l', W.listOf c.vs.toArray c.n) :: []) (fun c => [(Str.ofString "leftbits", .int c.lb c.tb), (Str.ofString "leftchar", .int c.lc c.tc)]) (fun c => IntsAre c.vs c.ns) [] (fun pre c => B2inv (v256 pre) pre.length c ∧ c.lb < 6) ⟨[], [], 0, 0, _, 0, _⟩ rfl rfl rfl lF lN IntsAre.nil ?kk ?kp ?turn ?done
  case kk => kst_all
  case kp => exact B2inv.start
  case turn =>
    clear lF lN
    intro c pre post n t u h tk own hEq hLen hLo hHi hOff hFacts hInv hFr hNews
    have hMk := kstMark
    obtain ⟨vs, ns, ne, lb, tb, lc, tc⟩ := c
    dsimp only at hFacts hInv hFr hNews ⊢
    obtain ⟨hInv, hlb⟩ := hInv
    simp only [kstB] at hFr
    simp only [List.cons_append, List.nil_append] at hNews
    simp only [List.map_cons, List.map_nil] at hOff
    have hlb0 := hInv.lb0
    have hlc0 := hInv.lc0
    have hlc1 := hInv.lc1
    dsimp only at hlb0 hlc0 hlc1
    walk_at "my stepsW"
    rename Fr _ _ _ _ => lF
    rename News _ _ _ _ => lN
    have hI1 := fun tb' => b2_in (tb' := tb') (tc' := 0) hInv hlb hLo hHi
    generalize Builtin.bitAnd (Builtin.bitOr (lc * 2 ^ Int.toNat 8) n) 65535 = lc' at lF hI1
    have hb0 := (hI1 0).lc0
    have hb1 := (hI1 0).lc1
    have hb2 := (hI1 0).lc
    dsimp only at hb0 hb1 hb2
    refine' ksw_while (σ := B2) (fun c => (l', W.listOf c.vs.toArray c.n) :: own) (fun c => [(Str.ofString "leftbits", .int c.lb c.tb)]) (fun c => IntsAre c.vs c.ns) [] (fun c => B2inv (v256 (pre ++ [n])) (pre ++ [n]).length c) (fun c => c.lb.toNat) ⟨vs, ns, ne, lb + 8, _, lc', 0⟩ lF lN hFacts ?kk (hI1 _) ?turn2
    case kk => kst_all
    case turn2 =>
      clear lF lN hFacts
      intro c u h tk hFacts hI2 hFr hNews
      obtain ⟨vs, ns, ne, lb, tb, lc2, tc⟩ := c
      dsimp only at hFacts hI2 hFr hNews ⊢
      simp only [kstB] at hFr
      have hlb0 := hI2.lb0
      have hlb1 := hI2.lb1
      dsimp only at hlb0 hlb1
      have hvs : vs.length ≤ 1000 := by have h1 := hFacts.length; have h2 := hpre.1; have h3 := hI2.bits; dsimp only at h3; rw [KBw.ints_length] at hLen; simp only [List.length_append, List.length_cons, List.length_nil] at h3; omega
      walk_at "my steps"
      · (rename News _ _ _ _ => nE'); (try simp only [List.push_toArray] at nE')
        refine ksw_end (B2.mk _ _ _ _ _ lc2 tc) (by assumption) nE' (by kst_in) (by k_intsEnd) (by kst_all) (by ksw_same) ?_ ?_
        · exact b2_step hI2 hb2 (by assumption)
        · exact b2_less (by assumption)
      · have e2 : lc' = lc2 := by have h5 := hI2.lc; dsimp only at h5; rw [h5]; exact hb2
        subst e2
        refine kst_end (B2.mk vs ns ne lb tb _ _) (by assumption) hNews (by kst_in) (by intro p hp; kst_mem) (by rfl) hFacts (by kst_all) (by kst_same) ⟨?_, ?_⟩
        · exact ⟨hI2.V0, hI2.lb0, hI2.lb1, hI2.bits, hI2.lc0, hI2.lc1, hI2.lc, hI2.out⟩
        · show lb < 6; omega
  case done =>
    clear lF lN
    intro c u h tk hLen hFacts hInv hFr hNews
    have hMk := kstMark
    obtain ⟨vs, ns, ne, lb, tb, lc, tc⟩ := c
    dsimp only at hFacts hInv hFr hNews ⊢
    simp only [kstB] at hFr
    obtain ⟨hInv, hlb⟩ := hInv
    have hE := b2_end hInv hlb hpre
    obtain ⟨hlb0, hns⟩ := hE
    subst hlb0
    have hvs : vs.length ≤ 1000 := by have h1 := hFacts.length; have h2 := hpre.1; have h3 := hInv.bits; dsimp only at h3; rw [KBw.ints_length] at h3; omega
    have hin : KBa.In ns := by rw [hns]; exact encB_in _ _
    have hrng : ∀ z ∈ ns, 0 ≤ z ∧ z < 256 := hin
    walk_at "my steps"
    all_goals (rw [hns]; exact hret _ _ _ ⟨_, rfl⟩ (by assumption) (news_keep N0 (by assumption)))
set_option maxRecDepth 100000 in
set_option maxHeartbeats 8000000 in
theorem c_filemode (w : World) (mean : ExcName → Option Value) (mg mb : Str → Option Value) (news : List (Addr × Obj)) (x : Int) (tk0 : Tok) :
   Cl w mean mg mb 4 163 news (Builtin.bitAnd x 61440 = 40960) [.int x tk0] (fun v => ∃ t, v = .str (Txt.join (Str.ofString "") (fmC (Str.ofString "l") x)) t) := by
  w_top off
  k_with_none
  k_with "my stop" => ((fail_if_success (with_reducible show InvEndN _ _ _ _ _ _ _)); (fail_if_success (with_reducible show KswEnd _ _ _ _ _ _ _ _ _ _ _ _)); (fail_if_success (with_reducible show LoopStep3 _ _ _ _ _ _ _ _ _ _)); (fail_if_success (with_reducible show LCg.CompSrc _ _ _ _ _ _ _ _ _ _ _ _ _ _)))
  k_with "my step" => (first | (k_unfold; (try dsimp only)) | (walk_at "my stop"; (first | walk_at "my own" | walk1 | (dsimp only; walk1)); (all_goals (try walk_at "my norm"))) | (leave1; (try dsimp only)) | fail "no step")
  k_with "my steps" => (repeat' walk_at "my step")
  k_with "my stepsW" => (repeat' ((fail_if_success (with_reducible show wpAny _ _ (exec (Stmt.While _ _ _ _) _) _ _ _)); walk_at "my step"))
  k_with "my norm" => ((try dsimp only); (try ((with_reducible refine wpAny_tok ?_); intro tk9)))
  k_with "my room" => (first | exact room_rm _ (by decide) | exact room_of (k := 0) (by assumption) (by decide) | exact room_of (k := 1) (by assumption) (by decide) | exact room_of (k := 2) (by assumption) (by decide) | exact room_of (k := 3) (by assumption) (by decide) | exact room_of2 (by assumption) (by decide))
  k_with "my units" => (first | exact room_um _ (by decide) | exact room_of2 (by assumption) (by decide) | ktr_units)
  unfold Cl; k_fill
  intro dp un gd cn cs a ccd cl outer A₀ base h₀ L m s Q E B0 F0 X0 N0 T0 hk hpre hd hu hret
  refine wpAny_call ?_
  k_with "my own" => (k_here; (with_reducible show wpAny _ _ (call (Value.ref _) _ _) _ _ _); k_dflt (refine wpAny_call ?_; (refine code_def1 (by exact rfl) (by exact rfl) (by first | exact rfl | assumption) (by k_asm) (by k_asm) (by k_asm) (by k_asm) (by k_asm) (by k_is) (by k_is) (by walk_at "my room") (by first | exact BindsTo.of_eq rfl | exact binds_K (by k_in) rfl (by k_is) rfl rfl rfl | fail "no binds") (by decide) (by exact locs rfl) (by exact rfl) (by exact rfl) (by exact rfl) ?_); k_whole; intro g' L' h' FG' F' N' B' X' T'; (try dsimp only); (try k_lift B'); (try k_fold)))
  k_with "my enter0" => ((refine code_def0 (by exact rfl) (by exact rfl) (by first | exact rfl | assumption) (by k_asm) (by k_asm) (by k_asm) (by k_asm) (by k_is) (by k_is) (by walk_at "my room") (by first | exact BindsTo.of_eq rfl | exact binds_K (by k_in) rfl (by k_is) rfl rfl rfl | fail "no binds") (by decide) (by exact locs rfl) (by exact rfl) (by exact rfl) (by exact rfl) ?_); k_whole; intro L' h' F' N' B' X' T'; (try dsimp only); (try k_lift B'); (try k_fold))
  k_with "my own" => ((with_reducible show TupRest _ _ _ _ _ _ _ _ _ _ _ _ _ _ _); (with_unfolding_all first | (refine TupRest.succ (fun it' h' tk' hc' F' N' => ?_)) | (refine TupRest.zero (fun h' tk' F' N' => ?_))))
  k_with "my own" => (with_reducible show UnrEnd _ _ _ _ _ _ _); (first | contradiction | ((rename News _ _ _ _ => nE'); (refine unrEnd_tail (by assumption) nE' (by assumption) ?_)))
  k_with "fm ch" => (first | rfl | (exfalso; omega) | exact fm1_t (by assumption) | exact fm1_f (by assumption) | exact fm3_1 (by assumption) | exact fm3_2 (by assumption) (by assumption) | exact fm3_3 (by assumption) (by assumption) (by assumption) | exact fm3_4 (by assumption) (by assumption) (by assumption))
  k_with "fm turn" => (refine wpAny_execs_cons ?_; (rename Fr _ _ _ _ => lF'); (rename News _ _ _ _ => lN'); (rename Frag.In _ _ => lX'); (refine For_tupElse (by rfl) lF' lN' (by intro Q' hq; exact ld lF' rfl hq) (tupK lX' (by k_is)) ?_ (by intro x; rfl) (by passes_own)); clear lF' lN'; (intro I' l1; have l2 := l1; (try k_lt l1)); walk_at "my steps")
  k_dflt (walk_at "my enter0")
  walk_at "my steps"
  rename Fr _ _ _ _ => lF
  rename News _ _ _ _ => lN
  rename Frag.In _ _ => X'
  obtain ⟨l', el'⟩ := news_head lN
  subst el'
  k_dflt (refine' call_enum_tup (by rfl) (tupK ?kx ?kl) lF lN ?_)
  case kx => exact X'
  case kl => k_is
  intro h1 e F1 N1 S
  refine S.at _ rfl _ _ _ _ (fun i m₁ news₁ => m₁ (Str.ofString "mode") = some (.int x tk0) ∧ m₁ (Str.ofString "perm") = some (.ref l') ∧ ∃ vs n, news₁ = [(l', W.listOf vs.toArray n)] ∧ StrsAre vs ((fmC (Str.ofString "l") x).take i)) ?h0 ?step ?done
  case h0 => exact ⟨rfl, rfl, [], 0, rfl, StrsAre.nil⟩
  case step =>
    rintro i a t v m₁ news₁ s₁ own ⟨hh, tkk, rfl⟩ hai hav ⟨hm1, hm2, vs, n, rfl, hvs⟩ hmap hoff F2 N2
    have hav' : v = a := hav
    subst hav'
    rw [two_names hm1 hm2] at F2
    have N3 := news_swap N2
    have hOff : OwnOff own [l'] := fun p hp b hb => by rw [List.mem_singleton.mp hb]; exact hoff p hp _ (.head _)
    have hvl : vs.length ≤ 10 := by rw [hvs.length, List.length_take]; exact Nat.le_trans (Nat.min_le_right _ _) (by show 10 ≤ 10; exact Nat.le_refl _)
    clear N2 hoff lF lN F1 N1 S hav
    dsimp only at F2 N3 ⊢
    rcases i with _ | i
    · simp only [List.getElem?_cons_zero, Option.some.injEq] at hai
      subst hai
      walk_at "fm turn"
      all_goals (rename News _ _ _ _ => nE')
      all_goals (try simp only [List.push_toArray] at nE')
      all_goals first | refine fm_endA (by assumption) nE' hvs (by with_unfolding_all rfl) (by with_unfolding_all rfl) rfl ?_ | refine fm_endB (by assumption) nE' hvs (by with_unfolding_all rfl) (by with_unfolding_all rfl) rfl ?_
      all_goals walk_at "fm ch"
    · have tab : ∃ (ta : Addr) (q : List (Addr × Int × Str)), v = .ref ta ∧ IsTup s.heap ta (q.map fun p => Value.ref p.1).toArray ∧ (∀ p ∈ q, ∃ t1 t2, IsTup s.heap p.1 #[Value.int p.2.1 t1, Value.str p.2.2 t2]) ∧ (fmC (Str.ofString "l") x)[i + 1]? = some (fmFind x q) := by
        rcases i with _|_|_|_|_|_|_|_|_|i
        case succ.succ.succ.succ.succ.succ.succ.succ.succ => exact absurd hai (by simp)
        all_goals (simp only [List.getElem?_cons_zero, List.getElem?_cons_succ, Option.some.injEq, Nat.zero_add] at hai; subst hai)
        all_goals first
          | exact ⟨_, [(_, _, _)], rfl, tupK X' (by k_is), List.forall_mem_cons.mpr ⟨⟨_, _, tupK X' (by k_is)⟩, List.forall_mem_nil _⟩, rfl⟩
          | exact ⟨_, [(_, _, _), (_, _, _), (_, _, _)], rfl, tupK X' (by k_is), List.forall_mem_cons.mpr ⟨⟨_, _, tupK X' (by k_is)⟩, List.forall_mem_cons.mpr ⟨⟨_, _, tupK X' (by k_is)⟩, List.forall_mem_cons.mpr ⟨⟨_, _, tupK X' (by k_is)⟩, List.forall_mem_nil _⟩⟩⟩, rfl⟩
      obtain ⟨ta, q, rfl, hT, hst, hfm⟩ := tab
      clear hai
      refine wpAny_execs_cons ?_
      rename Fr _ _ _ _ => lF'
      rename News _ _ _ _ => lN'
      refine For_tupElse (by rfl) lF' lN' (by intro Q' hq; exact ld lF' rfl hq) hT ?_ (by intro x; rfl) (by passes_own)
      clear lF' lN'
      intro I' l1
      have l2 := l1
      (try k_lt l1)
      generalize hch : fmFind x q = ch at hfm
      refine tupRest_J (fun r' m' => ∃ q : List (Addr × Int × Str), r' = q.map (fun p => Value.ref p.1) ∧ (∀ p ∈ q, ∃ t1 t2, IsTup s.heap p.1 #[Value.int p.2.1 t1, Value.str p.2.2 t2]) ∧ fmFind x q = ch ∧ m' (Str.ofString "mode") = some (.int x tk0) ∧ m' (Str.ofString "perm") = some (.ref l') ∧ m' (Str.ofString "index") = some (.int ((i + 1 : Nat) : Int) t)) ?_ ?_ _ _ ⟨q, rfl, hst, hch, rfl, rfl, rfl⟩
      · clear hst hch hT
        rintro v r' m' it hh' tk' ⟨q, hq, hst, hch, g1, g2, g3⟩ hc F' N'
        cases q with
        | nil => cases hq
        | cons p q =>
          obtain ⟨pa, pk, pc⟩ := p
          simp only [List.map_cons, List.cons.injEq] at hq
          obtain ⟨rfl, rfl⟩ := hq
          obtain ⟨⟨t1, t2, hT⟩, hst⟩ := List.forall_mem_cons.mp hst
          rw [three_names g1 g2 g3] at F'
          have hix : ((i + 1 : Nat) : Int) ≠ 0 := by omega
          dsimp only at hT F' ⊢
          k_with "my own" => ((with_reducible show ite _ _ _); rw [if_neg hix])
          repeat' ((fail_if_success (with_reducible show UnrEnd _ _ _ _ _ _ _)); walk_at "my step")
          all_goals (rename News _ _ _ _ => nE')
          all_goals (try simp only [List.push_toArray] at nE')
          all_goals first
            | exact absurd (by assumption) hix
            | exact fm_endA (by assumption) nE' hvs (by with_unfolding_all rfl) (by with_unfolding_all rfl) hfm (hch.symm.trans (if_pos (by assumption)))
            | exact unrEnd_tail (by assumption) nE' (by assumption) ⟨rfl, q, rfl, hst, (if_neg (by assumption)).symm.trans hch, rfl, rfl, rfl⟩
      · rintro m' hh' tk' ⟨q, hq, hst, hch, g1, g2, g3⟩ F' N'
        cases q with
        | cons p q => cases hq
        | nil =>
          rw [three_names g1 g2 g3] at F'
          have hix : ((i + 1 : Nat) : Int) ≠ 0 := by omega
          dsimp only at F' ⊢
          k_with "my own" => ((with_reducible show ite _ _ _); rw [if_neg hix])
          walk_at "my steps"
          all_goals (rename News _ _ _ _ => nE')
          all_goals (try simp only [List.push_toArray] at nE')
          all_goals first
            | exact absurd (by assumption) hix
            | exact fm_endB (by assumption) nE' hvs (by with_unfolding_all rfl) (by with_unfolding_all rfl) hfm hch.symm
  case done =>
    rintro h2 tk2 m2 news2 F2 N2 hmap ⟨hm1, hm2, vs, n, rfl, hvs⟩
    rw [two_names hm1 hm2] at F2
    clear lF lN F1 N1 S
    dsimp only at F2 N2 ⊢
    have hvs' : StrsAre vs (fmC (Str.ofString "l") x) := hvs
    have hvl : vs.length ≤ 10 := by rw [hvs'.length]; exact Nat.le_refl _
    have hokk := fmC_ok (c := Str.ofString "l") (x := x) (by decide +kernel)
    walk_at "my steps"
    refine join_listC (News.isList N2 (.head _)) hvs' (by decide +kernel) hokk ?_
    intro t3 k3
    walk_at "my steps"
    all_goals exact hret _ _ _ ⟨_, rfl⟩ (by assumption) (news_keep N0 (by assumption))
set_option maxRecDepth 100000 in
set_option maxHeartbeats 8000000 in
theorem c_listing (w : World) (mean : ExcName → Option Value) (mg mb : Str → Option Value) (news : List (Addr × Obj)) (x : Int) (tk0 : Tok) :
   Cl w mean mg mb 4 177 news (0 ≤ x ∧ x < 4096) [.int x tk0] (fun v => ∃ t, v = .str (lsS (Str.ofString "l") x) t) := by
  w_top off
  k_with_none
  k_with "my stop" => ((fail_if_success (with_reducible show InvEndN _ _ _ _ _ _ _)); (fail_if_success (with_reducible show KswEnd _ _ _ _ _ _ _ _ _ _ _ _)); (fail_if_success (with_reducible show LoopStep3 _ _ _ _ _ _ _ _ _ _)); (fail_if_success (with_reducible show LCg.CompSrc _ _ _ _ _ _ _ _ _ _ _ _ _ _)))
  k_with "my step" => (first | (k_unfold; (try dsimp only)) | (walk_at "my stop"; (first | walk_at "my own" | walk1 | (dsimp only; walk1)); (all_goals (try walk_at "my norm"))) | (leave1; (try dsimp only)) | fail "no step")
  k_with "my steps" => (repeat' walk_at "my step")
  k_with "my stepsW" => (repeat' ((fail_if_success (with_reducible show wpAny _ _ (exec (Stmt.While _ _ _ _) _) _ _ _)); walk_at "my step"))
  k_with "my norm" => ((try dsimp only); (try ((with_reducible refine wpAny_tok ?_); intro tk9)))
  k_with "my room" => (first | exact room_rm _ (by decide) | exact room_of (k := 0) (by assumption) (by decide) | exact room_of (k := 1) (by assumption) (by decide) | exact room_of (k := 2) (by assumption) (by decide) | exact room_of (k := 3) (by assumption) (by decide) | exact room_of2 (by assumption) (by decide))
  k_with "my units" => (first | exact room_um _ (by decide) | exact room_of2 (by assumption) (by decide) | ktr_units)
  unfold Cl; k_fill
  intro dp un gd cn cs a ccd cl outer A₀ base h₀ L m s Q E B0 F0 X0 N0 T0 hk hpre hd hu hret
  refine wpAny_call ?_
  k_with "my own" => (k_here; (with_reducible show wpAny _ _ (call (Value.ref _) _ _) _ _ _); k_dflt (refine wpAny_call ?_; (refine code_def1 (by exact rfl) (by exact rfl) (by first | exact rfl | assumption) (by k_asm) (by k_asm) (by k_asm) (by k_asm) (by k_asm) (by k_is) (by k_is) (by walk_at "my room") (by first | exact BindsTo.of_eq rfl | exact binds_K (by k_in) rfl (by k_is) rfl rfl rfl | fail "no binds") (by decide) (by exact locs rfl) (by exact rfl) (by exact rfl) (by exact rfl) ?_); k_whole; intro g' L' h' FG' F' N' B' X' T'; (try dsimp only); (try k_lift B'); (try k_fold)))
  k_with "my enter0" => ((refine code_def0 (by exact rfl) (by exact rfl) (by first | exact rfl | assumption) (by k_asm) (by k_asm) (by k_asm) (by k_asm) (by k_is) (by k_is) (by walk_at "my room") (by first | exact BindsTo.of_eq rfl | exact binds_K (by k_in) rfl (by k_is) rfl rfl rfl | fail "no binds") (by decide) (by exact locs rfl) (by exact rfl) (by exact rfl) (by exact rfl) ?_); k_whole; intro L' h' F' N' B' X' T'; (try dsimp only); (try k_lift B'); (try k_fold))
  k_with "my own" => ((with_reducible show ite _ _ _); (fail_if_success k_closed); (first | (refine ite_strs (by decide +kernel) (by decide +kernel) ?_) | (refine ite_str4 (by decide +kernel) (by decide +kernel) ?_)); intro u9 hu9 hl9)
  k_with "my own" => ((with_reducible show wpAny _ _ (binaryOp Operator.Add (Value.str _ _) (Value.str _ _)) _ _ _); (refine add_strL (by assumption) (by assumption) (by decide) ?_); intro z9 hz9 hl9 t9 k9)
  k_with "my own" => ((with_reducible show wpAny _ _ (subscriptTail _ _ (Value.str _ _) (Value.int _ _)) _ _ _); refine item_strL (last_range _ _).1 (last_range _ _).2 (by assumption) ?_; intro u9 hu9 hl9 t9 k9)
  k_with "my own" => (k_here; (with_reducible show wpAny _ _ (exec (Stmt.For (Expr.Name _ _) (Expr.Tuple _ _ _) _ [] _) _) _ _ _); (rename Fr _ _ _ _ => lF'); k_dflt (refine For_T lF' (by rfl) (by rfl) ?_))
  have hlen0 : (Str.ofString "l").length ≤ 1 := by decide +kernel
  k_dflt (walk_at "my enter0")
  repeat' ((fail_if_success (with_reducible show wpAny _ _ (pyIter _) _ _ _)); walk_at "my step")
  rename Fr _ _ _ _ => lF
  rename News _ _ _ _ => lN
  refine kst_tup (σ := Str × Tok) (fun _ => []) (fun c => [(Str.ofString "text", .str c.1 c.2)]) (fun _ => True) [Str.ofString "three", Str.ofString "last"] (fun pre c => c.1 = lsP (Str.ofString "l") x pre ∧ c.1.length ≤ 1 + 3 * pre.length) ⟨_, _⟩ (by rfl) lF lN ⟨_, (lN _ (.head _)).1, rfl, _, rfl⟩ (.cons _ _ (.cons _ _ (.cons _ _ .nil))) rfl (List.forall_mem_nil _) trivial (by kst_all) ⟨rfl, hlen0⟩ ?_ ?_
  · clear lF lN
    intro c pre post k t u h tk own hEq hOff _ hInv hFr hNews
    have hMk := kstMark
    obtain ⟨hk0, hk2, hpl⟩ := ls_k hEq
    obtain ⟨text, tt⟩ := c
    dsimp only at hInv hFr hNews ⊢
    obtain ⟨hI1, hI2⟩ := hInv
    have htl : text.length ≤ 7 := by omega
    simp only [kstB] at hFr
    simp only [List.nil_append] at hNews
    walk_at "my steps"
    rename News _ _ _ _ => nE'
    refine kst_end (Prod.mk _ _) (by assumption) nE' (by kst_in) (by intro p hp; kst_mem) (by rfl) trivial (by kst_all) (by kst_same) ⟨by subst_vars; rw [lsP_app]; rfl, ?_⟩
    simp only [List.length_append, List.length_cons, List.length_nil]
    omega
  clear lF lN
  intro c u h tk _ hInv hFr hNews
  obtain ⟨text, tt⟩ := c
  dsimp only at hInv hFr hNews ⊢
  simp only [kstB] at hFr
  have hq := hInv.1.trans (lsP_all _ _)
  walk_at "my steps"
  all_goals exact hret _ _ _ ⟨_, congrArg (fun z => Value.str z _) hq⟩ (by assumption) (news_keep N0 (by assumption))
set_option maxRecDepth 100000 in
set_option maxHeartbeats 0 in
theorem law01 : PySem.Challenge.rw_op0070_01.Holds := by
  refine hd01 ?_
  w_top off
  k_with_none
  k_with "my stop" => ((fail_if_success (with_reducible show InvEndN _ _ _ _ _ _ _)); (fail_if_success (with_reducible show KswEnd _ _ _ _ _ _ _ _ _ _ _ _)); (fail_if_success (with_reducible show LoopStep3 _ _ _ _ _ _ _ _ _ _)); (fail_if_success (with_reducible show LCg.CompSrc _ _ _ _ _ _ _ _ _ _ _ _ _ _)))
  k_with "my step" => (first | (k_unfold; (try dsimp only)) | (walk_at "my stop"; (first | walk_at "my own" | walk1 | (dsimp only; walk1)); (all_goals (try walk_at "my norm"))) | (leave1; (try dsimp only)) | fail "no step")
  k_with "my steps" => (repeat' walk_at "my step")
  k_with "my stepsW" => (repeat' ((fail_if_success (with_reducible show wpAny _ _ (exec (Stmt.While _ _ _ _) _) _ _ _)); walk_at "my step"))
  k_with "my norm" => ((try dsimp only); (try ((with_reducible refine wpAny_tok ?_); intro tk9)))
  k_with "my room" => (first | exact room_rm _ (by decide) | exact room_of (k := 0) (by assumption) (by decide) | exact room_of (k := 1) (by assumption) (by decide) | exact room_of (k := 2) (by assumption) (by decide) | exact room_of (k := 3) (by assumption) (by decide) | exact room_of2 (by assumption) (by decide))
  k_with "my units" => (first | exact room_um _ (by decide) | exact room_of2 (by assumption) (by decide) | ktr_units)
  k_with "my own" => (k_here; (with_reducible show wpAny _ _ (eval (Expr.ListComp _ [⟨_, Expr.Call _ _ _ _, _, _⟩] _ _) _) _ _ _); (rename Fr _ _ _ _ => lF'); k_dflt (refine ListComp_S lF' (by rfl) (by decide) (by rfl) (by decide) (by rfl) ?_))
  k_with "my own" => (k_here; (with_reducible show wpAny _ _ (eval (Expr.ListComp _ [⟨_, Expr.Name _ _, _, _⟩] _ _) _) _ _ _); k_dflt (refine LCg.ListComp_U (F₀ := by k_asm) (by rfl) (by decide) (by rfl) (by decide) (by rfl) ?_))
  k_with "my own" => (k_here; (with_reducible show wpAny _ _ (eval (Expr.ListComp _ [⟨_, Expr.Subscript _ _ _, _, _⟩] _ _) _) _ _ _); k_dflt (refine LCg.ListComp_U (F₀ := by k_asm) (by rfl) (by decide) (by rfl) (by decide) (by rfl) ?_))
  k_with "my clean" => ((repeat (rename Fr _ _ _ _ => z; clear z)); (repeat (rename News _ _ _ _ => z; clear z)); (repeat (rename _ ∧ _ => z; clear z)); (repeat (rename @Eq (Option Value) _ _ => z; clear z)); (repeat (rename @Eq (List Int) _ _ => z; clear z)); (repeat (rename IsRange _ _ _ _ _ _ _ _ => z; clear z)); (repeat (rename InElt _ _ => z; clear z)); (repeat (rename GSub _ _ _ => z; clear z)); (repeat (rename LCg.NsObj _ _ => z; clear z)); (repeat (rename Heap.IsList _ _ _ => z; clear z)); (repeat (rename IntsAre _ _ => z; clear z)))
  k_with "my own" => (k_here; (with_reducible show wpAny _ _ (binaryOp Operator.Mult (Value.int _ _) (Value.int _ _)) _ _ _); (refine PyProof.Rows.mul_int ?_ (mul_ok (by first | exact sm_bit _ | assumption) (by first | exact sm_pow16 (by assumption) | exact sm_pow16' (by assumption) | assumption))))
  k_with "my call1" => (intro v9 h9 tk9 hv9 F9 N9; obtain ⟨t9, hb9⟩ := hv9; subst hb9; (try dsimp only))
  k_with "my own" => (k_here; (with_reducible show wpAny _ _ (exec (Stmt.Assign [Expr.Name _ _] (Expr.ListComp _ [⟨_, Expr.Name _ _, _, _⟩] _ _) _) _) _ _ _); k_dflt (refine LCg.Assign_ListComp_U (F₀ := by k_asm) (by rfl) (by with_unfolding_all rfl) (by rfl) (by decide) (by rfl) (by decide) (by rfl) (by rfl) (by rfl) ?_))
  k_with "my own" => (k_here; (with_reducible show wpAny _ _ (exec (Stmt.Assign [Expr.Name _ _] (Expr.ListComp _ [⟨_, Expr.Subscript _ _ _, _, _⟩] _ _) _) _) _ _ _); k_dflt (refine LCg.Assign_ListComp_U (F₀ := by k_asm) (by rfl) (by with_unfolding_all rfl) (by rfl) (by decide) (by rfl) (by decide) (by rfl) (by rfl) (by rfl) ?_))
  k_go0
  (all_goals try k_fold)
  rename CellsAre _ _ _ => X0
  clear X0
  rename Fr _ _ _ _ => F0
  rename_i w s0 s1 mg mb G Y fa o pm doc ho hg KX X V GL T B TE TW bA bO BM cA cB hcd ns hs hlay0 hLp hr1 hl2 _ _ la vs _ hL ra w1 r0 hI hr hc1 hc2 K0 hD h1 tk1 c3 c2 c1 c0 d3 d2 d1 d0 N0
  with_unfolding_all replace F0 : Fr _ _ _ (fun _ => none) := F0
  with_unfolding_all replace d0 : c0.data = .cell (some (.ref la)) := d0
  with_unfolding_all replace d1 : c1.data = .cell none := d1
  with_unfolding_all replace d2 : c2.data = .cell none := d2
  with_unfolding_all replace d3 : c3.data = .cell none := d3
  have hret : ∀ (m' : Str → Option Value) (news' : List (Addr × Obj)) (h : Heap) (tk : Nat), Fr s1.heap s1.heap.objs.size h m' → News s1.heap s1.heap.objs.size h news' → qk (.ret (.bool true)) { s1 with heap := h, toks := tk } := by
    intro m' news' h tk F9 N9
    wrow_close
  refine law_enter (by passes_own) ?_
  intro hE
  clear_value qk ek
  have hn63 : ns.length ≤ 63 := by omega
  clear hs hlay0 hLp hr1 hl2 ra r0 w1 hr hc2 hD hcd hc1
  dsimp only at hE ⊢
  k_with "my srcS" => (k_here; k_dflt (refine srcS_two (fun _ => True) (by rfl) (by k_asm) (by k_asm) (by assumption) (by decide) (by decide) (by omega) (by omega) ?_ ?_))
  walk_at "my steps"
  walk_at "my srcS"
  · intro j tj I oI C oC D ys m₂ h tk E' hj0 hj1 hC hx F' N'
    walk_at "my steps"
    all_goals exact CInt.intro trivial (by assumption) (by assumption)
  intro g ys ns1 hys hns1 hnl1
  walk_at "my steps"
  walk_at "my srcS"
  · intro j tj I oI C oC D ys m₂ h tk E' hj0 hj1 hC hx F' N'
    walk_at "my steps"
    all_goals exact CInt.intro trivial (by assumption) (by assumption)
  intro g2 ys2 ns2 hys2 hns2 hnl2
  repeat' ((fail_if_success (with_reducible show wpAny _ _ (execs (Stmt.Assign [Expr.Tuple _ _ _] _ _ :: _) _) _ _ _)); walk_at "my step")
  (try dsimp only)
  rename Fr _ _ _ _ => F1
  rename News _ _ _ _ => N1
  generalize 3817 + ns1.sum = x1 at *
  generalize 2007 + ns2.sum = x2 at *
  replace N1 := news_sub N1 (.cons _ (.cons_cons _ (.cons _ (.cons_cons _ (.cons_cons _ (.cons_cons _ (.cons_cons _ .slnil)))))))
  clear hys hys2 hnl1 hnl2 hns1 hns2
  walk_at "my steps"
  rename Fr _ _ _ _ => lF
  rename News _ _ _ _ => lN
  refine comp_led (fun i y => ∃ z t, [x1, x2][i]? = some z ∧ y = .int (Builtin.bitAnd z 4095) t) (by rfl) lF lN (by k_mem) (Nat.le_of_ble_eq_true rfl) ?_ ?_
  · clear lF lN
    intro i v I oI C oC D ys m₂ h tk E' hP hC hx F' N'
    have hv : ∃ z t, [x1, x2][i]? = some z ∧ v = .int z t := by
      rcases i with _ | _ | i
      · exact ⟨_, _, rfl, by simpa using hP.symm⟩
      · exact ⟨_, _, rfl, by simpa using hP.symm⟩
      · simp at hP
    obtain ⟨z, t, hz, rfl⟩ := hv
    clear hP
    walk_at "my steps"
    all_goals exact CVal.intro ⟨_, _, hz, rfl⟩ (by assumption) (by assumption)
  intro g ys hys hyl
  obtain ⟨y0, y1, rfl, ⟨z0, t0, h0, rfl⟩, ⟨z1, t1, h1, rfl⟩⟩ := vals2 hys hyl
  obtain rfl : x1 = z0 := Option.some.inj h0
  obtain rfl : x2 = z1 := Option.some.inj h1
  clear hys hyl h0 h1 lF lN
  repeat' ((fail_if_success (with_reducible show wpAny _ _ (execs (Stmt.If _ _ _ _ :: _) _) _ _ _)); walk_at "my step")
  (try dsimp only)
  rename Fr _ _ _ _ => F1
  rename News _ _ _ _ => N1
  replace N1 := news_sub N1 (.cons _ (.cons_cons _ (.cons_cons _ (.cons_cons _ (.cons_cons _ (.cons_cons _ .slnil))))))
  repeat (rename IsRange _ _ _ _ _ _ _ _ => z; clear z)
  walk_at "my steps"
  rename Fr _ _ _ _ => lF
  rename News _ _ _ _ => lN
  refine comp_led (fun i y => ∃ z t, [x1, x2][i]? = some z ∧ y = .int (z.fmod 4096) t) (by rfl) lF lN (by k_mem) (Nat.le_of_ble_eq_true rfl) ?_ ?_
  · clear lF lN
    intro i v I oI C oC D ys m₂ h tk E' hP hC hx F' N'
    have hv : ∃ z t, [x1, x2][i]? = some z ∧ v = .int z t := by
      rcases i with _ | _ | i
      · exact ⟨_, _, rfl, by simpa using hP.symm⟩
      · exact ⟨_, _, rfl, by simpa using hP.symm⟩
      · simp at hP
    obtain ⟨z, t, hz, rfl⟩ := hv
    clear hP
    walk_at "my steps"
    all_goals exact CVal.intro ⟨_, _, hz, rfl⟩ (by assumption) (by assumption)
  intro g ys hys hyl
  obtain ⟨y0, y1, rfl, ⟨z0, t0, h0, rfl⟩, ⟨z1, t1, h1, rfl⟩⟩ := vals2 hys hyl
  obtain rfl : x1 = z0 := Option.some.inj h0
  obtain rfl : x2 = z1 := Option.some.inj h1
  clear hys hyl h0 h1 lF lN
  repeat' ((fail_if_success (with_reducible show wpAny _ _ (execs (Stmt.Assign _ _ _ :: _) _) _ _ _)); walk_at "my step")
  all_goals first | exact absurd (imode_eq _ _) (by assumption) | skip
  (try dsimp only)
  rename Fr _ _ _ _ => F1
  rename News _ _ _ _ => N1
  replace N1 := news_sub N1 (.cons _ (.cons _ (.cons _ (.cons_cons _ (.cons_cons _ (.cons_cons _ (.cons_cons _ .slnil)))))))
  revert F1 N1
  walk_at "my clean"
  have ha := imode_rng x1
  have hb := imode_rng x2
  generalize Builtin.bitAnd x1 4095 = xa at *
  generalize Builtin.bitAnd x2 4095 = xb at *
  obtain ⟨ha0, ha1⟩ := ha
  obtain ⟨hb0, hb1⟩ := hb
  intro F1 N1
  walk_at "my steps"
  (k_here; k_dflt (refine srcS_rng 12 (fun i => Builtin.bitAnd (xa.fdiv (2 ^ (i : Int).toNat)) 1 * 16 ^ (i : Int).toNat) (by rfl) (by k_asm) (by k_asm) (by assumption) (by rfl) (by decide) ?_ ?_))
  · intro i ti I oI C oC D ys m₂ h tk E' hi hC hx F' N'
    walk_at "my steps"
    all_goals exact CInt.intro rfl (by assumption) (by assumption)
  intro g ys nA hnA hys
  walk_at "my steps"
  (k_here; k_dflt (refine srcS_rng 12 (fun i => Builtin.bitAnd (xb.fdiv (2 ^ (i : Int).toNat)) 1 * 16 ^ (11 - (i : Int)).toNat) (by rfl) (by k_asm) (by k_asm) (by assumption) (by rfl) (by decide) ?_ ?_))
  · intro i ti I oI C oC D ys m₂ h tk E' hi hC hx F' N'
    walk_at "my steps"
    all_goals exact CInt.intro rfl (by assumption) (by assumption)
  intro g2 ys2 nB hnB hys2
  repeat' ((fail_if_success (with_reducible show wpAny _ _ (execs (Stmt.Assign [Expr.Name _ _] (Expr.List _ _) _ :: _) _) _ _ _)); walk_at "my step")
  (try dsimp only)
  rename Fr _ _ _ _ => F1
  rename News _ _ _ _ => N1
  replace N1 := news_sub N1 (.cons _ (.cons _ (.cons_cons _ (.cons_cons _ (.cons_cons _ (.cons_cons _ .slnil))))))
  revert F1 N1
  have hrA : rowA xa = nA.sum := by rw [hnA]; rfl
  have hrB : rowB xb = nB.sum := by rw [hnB]; rfl
  clear hnA hnB
  walk_at "my clean"
  intro F1 N1
  generalize nA.sum = rA at *
  generalize nB.sum = rB at *
  have hA := hrA ▸ rowA_rng xa
  have hB := hrB ▸ rowB_rng xb
  have hsA := sm_row hA
  have hsB := sm_row hB
  have hp1 := w_pre1 hA
  have hp2 := w_pre2 hB
  have hp3 := w_pre3 hA hB
  k_with "my own" => (k_here; (with_reducible show wpAny _ _ (call (Value.ref 28) [Value.int _ _]) _ _ _); k_dflt (refine c_Int2AP _ _ _ _ _ _ _ _ _ _ _ _ _ _ _ _ _ _ _ _ _ _ _ _ (by k_asm) (by k_asm) (by k_asm) (by k_asm) (by k_asm) (by first | exact rfl | assumption) (by assumption) (by walk_at "my room") (by walk_at "my units") ?_; walk_at "my call1"))
  k_with "my own" => (k_here; (with_reducible show wpAny _ _ (subscriptTail _ (Expr.Slice none (some (Expr.Constant _ _ _)) none _) (Value.bytes _ _) (Value.ref _)) _ _ _); (with_reducible rename Fr _ _ _ _ => F'); (with_reducible rename News _ _ _ _ => N'); (refine KBc.slice_K (s := ⟨_, _, _, _, _⟩) F' N' rfl IsPart.none (IsPart.int _ _) (by assumption) ?_); intro _ _ _ _ _ _)
  k_with "my own" => (k_here; (with_reducible show wpAny _ _ (compareOp CmpOp.In (Value.bytes #[65] _) (Value.ref _)) _ _ _); (with_reducible rename News _ _ _ _ => N'); (refine in_bytes_no (News.isList N' (.head _)) ?_ ?_); (focus (intro y hy; simp only [List.mem_cons, List.not_mem_nil, or_false] at hy; rcases hy with rfl | rfl | rfl <;> exact ⟨_, _, rfl, ap_first _⟩)))
  walk_at "my steps"
  rename Fr _ _ _ _ => lF
  rename News _ _ _ _ => lN
  refine comp_led (fun _ y => ∃ n t, y = .bytes (KBy.picked (ap n).toArray none (some 1)) t) (by rfl) lF lN (by k_mem) (Nat.le_of_ble_eq_true rfl) ?_ ?_
  · clear lF lN
    intro i v I oI C oC D ys m₂ h tk E' hP hC hx F' N'
    have hv : ∃ n t, v = .bytes (ap n).toArray t ∧ n < 16 ^ 30 := by
      rcases i with _ | _ | _ | i
      · exact ⟨_, _, by simpa using hP.symm, hp1⟩
      · exact ⟨_, _, by simpa using hP.symm, hp2⟩
      · exact ⟨_, _, by simpa using hP.symm, hp3⟩
      · simp at hP
    obtain ⟨n, t, rfl, hn⟩ := hv
    have hz := ap_sz hn (by decide)
    clear hP
    walk_at "my steps"
    all_goals exact CVal.intro ⟨_, _, rfl⟩ (by assumption) (by assumption)
  intro g ys hys hyl
  obtain ⟨y0, y1, y2, rfl, ⟨z0, t0, rfl⟩, ⟨z1, t1, rfl⟩, ⟨z2, t2, rfl⟩⟩ := vals3 hys hyl
  clear hys hyl lF lN
  repeat' ((fail_if_success (with_reducible show wpAny _ _ (execs (Stmt.Assign [Expr.Name _ _] (Expr.ListComp _ _ _ _) _ :: _) _) _ _ _)); walk_at "my step")
  (try dsimp only)
  rename Fr _ _ _ _ => F1
  rename News _ _ _ _ => N1
  replace N1 := news_sub N1 (.cons _ (.cons_cons _ (.cons_cons _ (.cons_cons _ (.cons_cons _ (.cons_cons _ .slnil))))))
  revert F1 N1
  rename _ < _ ∧ _ => l1
  obtain ⟨l1a, l1b, l1c, l1d⟩ := l1
  obtain ⟨hA0, hA1⟩ := hA
  obtain ⟨hB0, hB1⟩ := hB
  walk_at "my clean"
  repeat (rename KBw.bInts _ = _ => z; clear z)
  intro F1 N1
  have l1 := And.intro l1a (And.intro l1b (And.intro l1c l1d))
  clear l1a l1b l1c l1d
  have hW1s := ap_size (k := 12) (n := rA.natAbs) (by omega)
  have hW2s := ap_size (k := 12) (n := (-rB).natAbs) (by omega)
  have hr1 := sm_r64 hA0 hA1
  have hr2 := sm_r64' hB0 hB1
  generalize eW1 : (ap rA.natAbs).toArray = W1 at *
  generalize eW2 : (ap (-rB).natAbs).toArray = W2 at *
  generalize eW3 : (ap (rA * rB + 14877268145274081611751763986).natAbs).toArray = W3 at *
  replace eW1 := eW1.symm
  replace eW2 := eW2.symm
  k_with "my own" => (k_here; (with_reducible show wpAny _ _ (call (Value.builtin "len") [Value.bytes _ _]) _ _ _); (refine PySem.W.len_bytes (by omega) ?_))
  k_with "my own" => (k_here; (with_reducible show wpAny _ _ (binaryOp Operator.Mult (Value.bytes #[65] _) (Value.int _ _)) _ _ _); (refine PySem.W.bytes_mul_any (b := [65]) (by decide) (by omega) (by omega) (by decide) ?_); intro _ _)
  k_with "my own" => (k_here; (with_reducible show wpAny _ _ (binaryOp Operator.Add (Value.bytes _ _) (Value.bytes _ _)) _ _ _); (refine KBy.add_bytes (Nat.le_trans (Nat.add_le_add (pad_size (by omega)) (by assumption)) (by decide)) ?_); intro _ _)
  k_with "my own" => (k_here; (with_reducible show wpAny _ _ (call (Value.ref 170) [Value.bytes _ _]) _ _ _); k_dflt (refine c_count _ _ _ _ _ _ _ _ _ _ _ _ _ _ _ _ _ _ _ _ _ _ _ _ (by k_asm) (by k_asm) (by k_asm) (by k_asm) (by k_asm) (by first | exact rfl | assumption) (by first | exact word_pre (by assumption) (by assumption) (by decide) (by decide) (by rfl) | exact dabc_pre) (by walk_at "my room") (by walk_at "my units") ?_; intro v9 h9 tk9 hv9 F9 N9; obtain ⟨t9, hb9⟩ := hv9; (try rw [word_val (by assumption)] at hb9); subst hb9; (try dsimp only)))
  repeat' ((fail_if_success (with_reducible show wpAny _ _ (eval (Expr.Subscript _ _ _) _) _ _ _)); walk_at "my step")
  repeat' ((fail_if_success (with_reducible show LCg.CompSrc _ _ _ _ _ _ _ _ _ _ _ _ _ _)); first | walk1 | (dsimp only; walk1))
  rename Fr _ _ _ _ => lF
  rename News _ _ _ _ => lN
  refine comp_led (fun i y => ∃ n t, [rA.natAbs, (-rB).natAbs][i]? = some n ∧ y = .int (r64 n) t) (by rfl) lF lN (by k_mem) (Nat.le_of_ble_eq_true rfl) ?_ ?_
  · clear lF lN
    intro i v I oI C oC D ys m₂ h tk E' hP hC hx F' N'
    have hv : ∃ n W t, [rA.natAbs, (-rB).natAbs][i]? = some n ∧ v = .bytes W t ∧ W = (ap n).toArray ∧ W.size ≤ 12 := by
      rcases i with _ | _ | i
      · exact ⟨_, _, _, rfl, by simpa using hP.symm, eW1, hW1s⟩
      · exact ⟨_, _, _, rfl, by simpa using hP.symm, eW2, hW2s⟩
      · simp at hP
    obtain ⟨n, W, t, hz, rfl, eW, hWs⟩ := hv
    clear hP eW1 eW2 hW1s hW2s
    walk_at "my steps"
    all_goals exact CVal.intro ⟨_, _, hz, rfl⟩ (by assumption) (by assumption)
  intro g ys hys hyl
  obtain ⟨y0, y1, rfl, ⟨z0, t0, h0, rfl⟩, ⟨z1, t1, h1, rfl⟩⟩ := vals2 hys hyl
  obtain rfl := Option.some.inj h0
  obtain rfl := Option.some.inj h1
  clear hys hyl h0 h1 lF lN
  repeat' ((fail_if_success (with_reducible show wpAny _ _ (execs (Stmt.Assign [Expr.Name _ _] (Expr.Call _ _ _ _) _ :: _) _) _ _ _)); walk_at "my step")
  (try dsimp only)
  rename Fr _ _ _ _ => F1
  rename News _ _ _ _ => N1
  rename _ = Data.cell _ => d4
  replace d4 : _ = Data.cell (some (Value.int (r64 rA.natAbs * r64 (-rB).natAbs + dabcN) _)) := d4
  generalize enm : r64 rA.natAbs * r64 (-rB).natAbs + dabcN = nm at *
  replace N1 := news_sub N1 (.cons _ (.cons _ (.cons_cons _ (.cons_cons _ (.cons_cons _ (.cons_cons _ (.cons_cons _ .slnil)))))))
  revert F1 N1
  rename _ < _ ∧ _ => l1'
  clear l1'
  rename _ < _ ∧ _ => l1
  obtain ⟨l1a, l1b, l1c, l1d⟩ := l1
  walk_at "my clean"
  intro F1 N1
  have l1 := And.intro l1a (And.intro l1b (And.intro l1c l1d))
  clear l1a l1b l1c l1d
  walk_at "my steps"
  (k_here; k_dflt (refine srcS_rng 18 (fun i => (nm.fdiv (256 ^ (17 - (i : Int)).toNat)).fmod 256) (by rfl) (by k_asm) (by k_asm) (by assumption) (by rfl) (by decide) ?_ ?_))
  · intro i ti I oI C oC D ys m₂ h tk E' hi hC hx F' N'
    walk_at "my steps"
    all_goals first | exact CInt.intro rfl (by assumption) (by assumption) | exact absurd (by assumption) (pow256_ne _)
  intro g ys nA hnA hys
  replace hys : IntsAre ys (octs nm) := by rw [hnA] at hys; exact hys
  clear hnA
  k_with "my own" => (k_here; (with_reducible show wpAny _ _ (call (Value.type "bytes") [Value.ref _]) _ _ _); (with_reducible rename Fr _ _ _ _ => F'); (with_reducible rename News _ _ _ _ => N'); (refine KBa.make_K F' N' (by rfl) (News.isList N' (.head _)) hys (octs_in _) (by rw [octs_len]; decide) ?_))
  have hw := writing_eq ha0 ha1 hb0 hb1
  have hk := wsigns_eq ha0 ha1 hb0 hb1
  replace eW3 : (ap (rA * rB + cNum).natAbs).toArray = W3 := eW3
  rw [hrA, hrB, enm, eW3] at hw
  rw [hrA, hrB, eW3] at hk
  k_with "my own" => (k_here; (with_reducible show wpAny _ _ (call (Value.ref 101) [Value.bytes _ _]) _ _ _); k_dflt (refine c_b64encode _ _ _ _ _ _ _ _ _ _ _ _ _ _ _ _ _ _ _ _ _ _ _ _ (by k_asm) (by k_asm) (by k_asm) (by k_asm) (by k_asm) (by first | exact rfl | assumption) (octs_pre _) (by walk_at "my room") (by walk_at "my units") ?_; intro v9 h9 tk9 hv9 F9 N9; obtain ⟨t9, hb9⟩ := hv9; rw [hw] at hb9; subst hb9; (try dsimp only)))
  repeat' ((fail_if_success (with_reducible show wpAny _ _ (execs (Stmt.For _ _ _ _ _ :: _) _) _ _ _)); walk_at "my step")
  all_goals first | exact absurd (by assumption) bne_self_no | skip
  (try dsimp only)
  rename Fr _ _ _ _ => F1
  rename News _ _ _ _ => N1
  replace N1 := news_sub N1 (.cons _ (.cons _ (.cons_cons _ (.cons_cons _ (.cons_cons _ (.cons_cons _ .slnil))))))
  revert F1 N1 hk
  clear hw hys
  walk_at "my clean"
  intro hk F1 N1
  repeat' ((fail_if_success (with_reducible show wpAny _ _ (pyIter _) _ _ _)); walk_at "my step")
  rename Fr _ _ _ _ => lF
  rename News _ _ _ _ => lN
  refine kst_range (σ := Unit) (n := 24) (fun _ => _) (fun _ => []) (fun _ => True) [Str.ofString "both", Str.ofString "listing", Str.ofString "grants"] (fun _ _ => True) () (by rfl) (by assumption) (by decide) (by rfl) lF lN trivial (by kst_all) trivial ?_ ?_
  · clear lF lN
    intro c pre k t u h tk own hk0 hk1 hOff _ _ hFr hNews
    have hMk := kstMark
    dsimp only at hFr hNews ⊢
    simp only [kstB] at hFr
    simp only [List.cons_append, List.nil_append] at hNews
    repeat' ((fail_if_success (with_reducible show wpAny _ _ (eval (Expr.IfExp _ _ _ _) _) _ _ _)); walk_at "my step")
    refine wpAny_int (bothAt xa xb pre.length) ?_ ?_
    · walk_at "my steps"
      · exact IntIs.intro (both_lt hk0 (by assumption))
      · exact IntIs.intro (both_ge hk0 (by assumption))
    intro tb tk1
    have hbr := both_rng ha0 ha1 hb0 hb1 pre.length
    generalize eb : bothAt xa xb pre.length = bo at *
    k_with "my own" => (k_here; (with_reducible show wpAny _ _ (call (Value.ref 163) [Value.int _ _]) _ _ _); k_dflt (refine c_filemode _ _ _ _ _ _ _ _ _ _ _ _ _ _ _ _ _ _ _ _ _ _ _ _ (by k_asm) (by k_asm) (by k_asm) (by k_asm) (by k_asm) (by first | exact rfl | assumption) (link_pre hbr) (by walk_at "my room") (by walk_at "my units") ?_; intro v9 h9 tk9 hv9 F9 N9; obtain ⟨t9, hb9⟩ := hv9; rw [list_eq hbr] at hb9; subst hb9; (try dsimp only)))
    k_with "my own" => (k_here; (with_reducible show wpAny _ _ (call (Value.ref 177) [Value.int _ _]) _ _ _); k_dflt (refine c_listing _ _ _ _ _ _ _ _ _ _ _ _ _ _ _ _ _ _ _ _ _ _ _ _ (by k_asm) (by k_asm) (by k_asm) (by k_asm) (by k_asm) (by first | exact rfl | assumption) hbr (by walk_at "my room") (by walk_at "my units") ?_; walk_at "my call1"))
    repeat' ((fail_if_success (with_reducible show wpAny _ _ (execs (Stmt.Assign [Expr.Name _ _] (Expr.BinOp _ _ _ _) _ :: _) _) _ _ _)); walk_at "my step")
    all_goals first | exact absurd (by assumption) sne_self_no | skip
    have hul := ls_len hbr
    subst eb
    have htq := turn_eq ha0 ha1 hb0 hb1 hk0 hk1 rfl
    generalize lsS (Str.ofString "l") (bothAt xa xb pre.length) = lst at *
    k_with "my own" => (k_here; (with_reducible show wpAny _ _ (subscriptTail _ _ (Value.bytes _ _) (Value.int _ _)) _ _ _); (refine KBw.item_K hk (by rw [wsigns_len]; decide) (by omega) (by rw [wsigns_len]; omega) ?_); intro _ _ _ _)
    repeat' ((fail_if_success (with_reducible show wpAny _ _ (execs [Stmt.Return _ _] _) _ _ _)); walk_at "my step")
    all_goals first | exact absurd htq (by assumption) | skip
    walk_at "my steps"
    rename News _ _ _ _ => nE'
    exact kst_end () (by assumption) nE' (by kst_in) (by intro p hp; kst_mem) (by rfl) trivial (by kst_all) (by kst_same) trivial
  clear lF lN
  intro c u h tk _ _ hFr hNews
  dsimp only at hFr hNews ⊢
  simp only [kstB] at hFr
  walk_at "my steps"
  all_goals exact hret _ _ _ _ (by assumption) (by assumption)
end Mine
theorem PySem.Challenge.cw_op0070_01_holds : PySem.Challenge.rw_op0070_01.Holds :=
  Mine.law01
#print axioms PySem.Challenge.cw_op0070_01_holds
