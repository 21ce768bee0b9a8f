import PyProof.Rows.All
import Wide.All
import OpenK.AllK
import Wide.FinOn
import Lean
import PySem.Challenge.RW_xo0001_01
set_option Elab.async false

section XHeadPart
open PySem PySem.W PyProof.Rows
namespace Mine
set_option maxRecDepth 100000 in
set_option maxHeartbeats 8000000 in
open_top hd for PySem.Challenge.rw_xo0001_01
end Mine
end XHeadPart

section XBasePart
open PySem PySem.Spec PySem.Calls PySem.W PyProof.Rows
namespace Mine
abbrev Claim (w : World) (mean : ExcName → Option Value) (mg mb : Str → Option Value) (f : Addr) (rm : Nat) (pre : Prop) (vs : List Value) (R : Tok → Value) : Prop :=
  ∀ (dp un : Nat) (gd : Option (List Code)) (cn : Str) (cs : Scope) (a : Addr) (ccd : Value) (cl : List (Str × Addr)) (outer : List Env) (A₀ : Around) (base h₀ : Heap) (L : Addr) (m : Str → Option Value) (news : List (Addr × Obj)) (s : Shared) (Q E : Value → Shared → Prop),
    Below A₀ base outer h₀ → Fr h₀ L s.heap m → (hd.heap_39 w.params).In h₀ → News h₀ L s.heap news → Top hd.view_39 (looseW hd.view_39 []) mean mg mb h₀ → cs.kind = .function → pre → dp + rm < recursionLimit → un + 8 * rm < cLine → CbRet h₀ L m news s Q R →
      wpAny (model PySem.Challenge.rw_xo0001_01.row.prog w) (ktrTop dp un gd cn cs L a ccd cl outer) (call (.ref f) vs) Q E s

def hexL (n : Nat) : List Int := if h : n = 0 then [] else hexL (n / 16) ++ [((n % 16 : Nat) : Int) + 65]
termination_by n
decreasing_by omega
def apB (n : Int) : Array UInt8 := ((hexL n.toNat).map fun k => UInt8.ofNat k.toNat).toArray
end Mine
end XBasePart

section XPlainPart
open PySem PySem.Spec PySem.Calls PySem.W PyProof.Rows
namespace Mine
theorem hexL_zero : hexL 0 = [] := by rw [hexL]; simp
theorem hexL_pos {n : Nat} (h : n ≠ 0) : hexL n = hexL (n / 16) ++ [((n % 16 : Nat) : Int) + 65] := by rw [hexL]; simp [h]
theorem hexL_len : ∀ (k n : Nat), n < 16 ^ k → (hexL n).length ≤ k := by
  intro k
  induction k with
  | zero => intro n h; have : n = 0 := by simp at h; exact h
            subst this; rw [hexL_zero]; simp
  | succ k ih =>
    intro n h
    by_cases h0 : n = 0
    · subst h0; rw [hexL_zero]; simp
    · rw [hexL_pos h0, List.length_append]
      have := ih (n / 16) (by rw [Nat.pow_succ] at h; omega)
      simp; omega
theorem hexL_in : ∀ (n : Nat) (k : Int), k ∈ hexL n → 65 ≤ k ∧ k < 81 := by
  intro n
  induction n using Nat.strongRecOn with
  | _ n ih =>
    intro k hk
    by_cases h0 : n = 0
    · subst h0; rw [hexL_zero] at hk; cases hk
    · rw [hexL_pos h0] at hk
      rcases List.mem_append.mp hk with hk | hk
      · exact ih (n / 16) (by omega) k hk
      · have := List.mem_singleton.mp hk
        omega
theorem apB_ints (n : Int) : KBw.bInts (apB n) = hexL n.toNat := by
  unfold apB
  rw [KBw.ints_list, List.map_map]
  have : ∀ k ∈ hexL n.toNat, ((fun c : UInt8 => (c.toNat : Int)) ∘ fun k => UInt8.ofNat k.toNat) k = k := by
    intro k hk
    have := hexL_in _ k hk
    show ((UInt8.ofNat k.toNat).toNat : Int) = k
    rw [UInt8.toNat_ofNat']
    omega
  rw [List.map_congr_left this]
  simp
theorem u8_inj : ∀ l r : List UInt8, (l.map fun c => (c.toNat : Int)) = (r.map fun c => (c.toNat : Int)) → l = r
  | [], [], _ => rfl
  | [], _ :: _, h => by simp at h
  | _ :: _, [], h => by simp at h
  | x :: l, y :: r, h => by
    rw [List.map_cons, List.map_cons, List.cons.injEq] at h
    have h1 : x = y := UInt8.toNat_inj.mp (by have := h.1; omega)
    rw [h1, u8_inj l r h.2]
theorem bInts_inj {b c : Array UInt8} (h : KBw.bInts b = KBw.bInts c) : b = c := Array.toList_inj.mp (u8_inj _ _ h)

theorem ap_start {n : Int} (h : 0 ≤ n) : 0 ≤ n ∧ n ≤ n ∧ hexL n.toNat ++ KBw.bInts #[] = hexL n.toNat := ⟨h, Int.le_refl _, by simp [KBw.bInts]⟩
def apKs : List Int := [65, 66, 67, 68, 69, 70, 71, 72, 73, 74, 75, 76, 77, 78, 79, 80]
theorem ap_cell : ∀ m : Nat, m < 16 → (apKs.drop (clipAt apKs.length (m : Int))).take (clipAt apKs.length ((m : Int) + 1) - clipAt apKs.length (m : Int)) = [(m : Int) + 65] := by decide
theorem fmod16 {num : Int} (h0 : 0 ≤ num) : num.fmod 16 = ((num.toNat % 16 : Nat) : Int) := by
  rw [Int.fmod_eq_emod_of_nonneg _ (by decide)]; omega
theorem fdiv16 {num : Int} (h0 : 0 ≤ num) : (num.fdiv 16).toNat = num.toNat / 16 := by
  rw [Int.fdiv_eq_ediv_of_nonneg _ (by decide)]; omega
theorem ap_slice {num : Int} {b : Array UInt8} (h0 : 0 ≤ num) (h : KBw.bInts b = (apKs.drop (clipAt apKs.length (num.fmod 16))).take (clipAt apKs.length (num.fmod 16 + 1) - clipAt apKs.length (num.fmod 16))) : KBw.bInts b = [((num.toNat % 16 : Nat) : Int) + 65] := by
  rw [h, fmod16 h0]
  exact ap_cell _ (by omega)
theorem ap_fit {n num : Int} {val : Array UInt8} {k : Int} (hn : n < 2 ^ 64) (h : hexL num.toNat ++ KBw.bInts val = hexL n.toNat) : [k].length + (KBw.bInts val).length ≤ 16777216 := by
  have h1 := congrArg List.length h
  rw [List.length_append] at h1
  have := hexL_len 16 n.toNat (by omega)
  simp; omega
theorem ap_turn {n0 num : Int} {val val' : Array UInt8} (h0 : 0 ≤ num) (h1 : num ≤ n0) (h : hexL num.toNat ++ KBw.bInts val = hexL n0.toNat) (hne : num ≠ 0)
    (happ : KBw.bInts val' = [((num.toNat % 16 : Nat) : Int) + 65] ++ KBw.bInts val) : 0 ≤ num.fdiv 16 ∧ num.fdiv 16 ≤ n0 ∧ hexL (num.fdiv 16).toNat ++ KBw.bInts val' = hexL n0.toNat := by
  refine ⟨?_, ?_, ?_⟩
  · rw [Int.fdiv_eq_ediv_of_nonneg _ (by decide)]; omega
  · rw [Int.fdiv_eq_ediv_of_nonneg _ (by decide)]; omega
  · rw [fdiv16 h0, happ, ← List.append_assoc, ← hexL_pos (by omega), h]
theorem ap_less {num : Int} (h0 : 0 ≤ num) (hne : num ≠ 0) : (num.fdiv 16).toNat < num.toNat := by
  rw [fdiv16 h0]; omega
theorem ap_done {n num : Int} {val : Array UInt8} (h : hexL num.toNat ++ KBw.bInts val = hexL n.toNat) (h0 : num = 0) : val = apB n := by
  subst h0
  refine bInts_inj ?_
  rw [apB_ints, ← h]
  simp [hexL_zero]
def rdL (p : Nat) (ks : List Int) : Int := ks.foldl (fun a k => a * 2 ^ p + (k - 65)) 0
theorem rdL_snoc (p : Nat) (ks : List Int) (k : Int) : rdL p (ks ++ [k]) = rdL p ks * 2 ^ p + (k - 65) := by
  unfold rdL; rw [List.foldl_append]; rfl
theorem pow_le16 {p : Nat} (hp : p ≤ 4) : 1 ≤ (2 : Int) ^ p ∧ (2 : Int) ^ p ≤ 16 := by
  match p, hp with
  | 0, _ => decide
  | 1, _ => decide
  | 2, _ => decide
  | 3, _ => decide
  | 4, _ => decide
theorem rdL_bound {p : Nat} (hp : p ≤ 4) (ks : List Int) : (∀ k ∈ ks, 65 ≤ k ∧ k < 81) → 0 ≤ rdL p ks ∧ rdL p ks < 16 ^ ks.length := by
  have key : ∀ n : Nat, ∀ ks : List Int, ks.length = n → (∀ k ∈ ks, 65 ≤ k ∧ k < 81) → 0 ≤ rdL p ks ∧ rdL p ks < 16 ^ ks.length := by
    intro n
    induction n with
    | zero => intro ks h _; have := List.length_eq_zero_iff.mp h; subst this; simp [rdL]
    | succ n ih =>
      intro ks hl hin
      have hne : ks ≠ [] := by intro h; subst h; simp at hl
      have e := List.dropLast_concat_getLast hne
      have hk := hin _ (List.getLast_mem hne)
      have hd : ∀ k ∈ ks.dropLast, 65 ≤ k ∧ k < 81 := fun k hk => hin k (by rw [← e]; exact List.mem_append.mpr (.inl hk))
      have h1 := ih ks.dropLast (by rw [List.length_dropLast]; omega) hd
      rw [← e, rdL_snoc, List.length_append, List.length_singleton, Int.pow_succ]
      generalize rdL p ks.dropLast = a at h1 ⊢
      generalize ks.getLast hne = k at hk ⊢
      generalize (16 : Int) ^ ks.dropLast.length = b at h1 ⊢
      have h2 := pow_le16 hp
      generalize (2 : Int) ^ p = c at h2 ⊢
      have h3 : 0 ≤ a * c := Int.mul_nonneg h1.1 (by omega)
      have h4 : a * c ≤ a * 16 := Int.mul_le_mul_of_nonneg_left h2.2 h1.1
      constructor <;> omega
  exact fun h => key _ ks rfl h
theorem rd_lt {p : Nat} (hp : p ≤ 4) {ks : List Int} (hl : ks.length ≤ 16) (hin : ∀ k ∈ ks, 65 ≤ k ∧ k < 81) : 0 ≤ rdL p ks ∧ rdL p ks < 2 ^ 64 := by
  have h := rdL_bound hp ks hin
  have h2 : (16 : Int) ^ ks.length ≤ 16 ^ 16 := by
    have : (16 : Nat) ^ ks.length ≤ 16 ^ 16 := Nat.pow_le_pow_right (by decide) hl
    exact_mod_cast this
  have h3 : (16 : Int) ^ 16 = 2 ^ 64 := by decide
  omega
theorem rd_turn {p : Nat} (hp : p ≤ 4) {ks pre post : List Int} {k a : Int} (hl : ks.length ≤ 16) (hin : ∀ k ∈ ks, 65 ≤ k ∧ k < 81) (e : ks = pre ++ k :: post) (ha : a = rdL p pre) :
    a * 2 ^ p + (k - 65) = rdL p (pre ++ [k]) ∧ 0 ≤ a * 2 ^ p + (k - 65) ∧ a * 2 ^ p + (k - 65) < 2 ^ 64 := by
  subst ha
  rw [← rdL_snoc]
  refine ⟨rfl, rd_lt hp ?_ ?_⟩
  · have := congrArg List.length e
    rw [List.length_append, List.length_cons] at this
    rw [List.length_append, List.length_singleton]; omega
  · intro j hj
    refine hin j ?_
    rw [e]
    rcases List.mem_append.mp hj with h | h
    · exact List.mem_append.mpr (.inl h)
    · have := List.mem_singleton.mp h; subst this; simp
theorem rd_start (p : Nat) : (0 : Int) = rdL p [] ∧ (0 : Int) ≤ 0 ∧ (0 : Int) < 2 ^ 64 := ⟨rfl, by decide, by decide⟩
end Mine
end XPlainPart

section XHexPart
open PySem PySem.Spec PySem.Calls PySem.W PyProof.Rows
namespace Mine
theorem rdL_cons (p : Nat) (k : Int) (ks : List Int) : rdL p (k :: ks) = (k - 65) * (2 ^ p) ^ ks.length + rdL p ks := by
  have key : ∀ (ks : List Int) (a : Int), ks.foldl (fun a k => a * 2 ^ p + (k - 65)) a = a * (2 ^ p) ^ ks.length + rdL p ks := by
    intro ks
    induction ks with
    | nil => intro a; simp [rdL]
    | cons k ks ih =>
      intro a
      have e : rdL p (k :: ks) = (0 * 2 ^ p + (k - 65)) * (2 ^ p) ^ ks.length + rdL p ks := by
        show List.foldl _ _ _ = _
        rw [List.foldl_cons, ih]
      rw [List.foldl_cons, ih, e, List.length_cons, Int.pow_succ, Int.add_mul, Int.zero_mul, Int.zero_add, Int.mul_assoc, Int.mul_comm (2 ^ p) ((2 ^ p) ^ ks.length)]
      omega
  show List.foldl _ _ _ = _
  rw [List.foldl_cons, key]
  simp
theorem rd_hex (n : Nat) : rdL 4 (hexL n) = n := by
  induction n using Nat.strongRecOn with
  | _ n ih =>
    by_cases h : n = 0
    · subst h; rw [hexL_zero]; rfl
    · rw [hexL_pos h, rdL_snoc, ih (n / 16) (by omega)]
      have : (2 : Int) ^ 4 = 16 := by decide
      rw [this]
      omega
theorem hex_cut (n : Nat) : ∀ k : Nat, ∃ l, hexL n = hexL (n / 16 ^ k) ++ l ∧ l.length ≤ k ∧ (n / 16 ^ k ≠ 0 → l.length = k) ∧ rdL 4 l = ((n % 16 ^ k : Nat) : Int) := by
  intro k
  induction k with
  | zero => exact ⟨[], by simp, by simp, fun _ => rfl, by simp [rdL, Nat.mod_one]⟩
  | succ k ih =>
    obtain ⟨l, h1, h2, h3, h4⟩ := ih
    by_cases h : n / 16 ^ k = 0
    · have hlt : n < 16 ^ k := by
        rcases Nat.div_eq_zero_iff.mp h with h | h
        · have := Nat.pow_pos (n := k) (show 0 < 16 by decide); omega
        · exact h
      have hlt' : n < 16 ^ (k + 1) := by rw [Nat.pow_succ]; omega
      have e : n / 16 ^ (k + 1) = 0 := Nat.div_eq_of_lt hlt'
      refine ⟨l, by rw [e, ← h, ← h1], by omega, fun hne => absurd e hne, ?_⟩
      rw [h4, Nat.mod_eq_of_lt hlt, Nat.mod_eq_of_lt hlt']
    · have hl := h3 h
      have e : n / 16 ^ k / 16 = n / 16 ^ (k + 1) := by rw [Nat.div_div_eq_div_mul, Nat.pow_succ]
      refine ⟨((n / 16 ^ k % 16 : Nat) + 65 : Int) :: l, ?_, by simp; omega, fun _ => by simp; omega, ?_⟩
      · rw [h1, hexL_pos h, e, List.append_assoc]; rfl
      · rw [rdL_cons, h4, hl]
        have e2 : n % 16 ^ (k + 1) = (n / 16 ^ k % 16) * 16 ^ k + n % 16 ^ k := by
          rw [Nat.pow_succ, Nat.mod_mul, Nat.mul_comm]; omega
        rw [e2]
        have e3 : ((2 : Int) ^ 4) ^ k = ((16 ^ k : Nat) : Int) := by
          have : (2 : Int) ^ 4 = 16 := by decide
          rw [this]; push_cast; rfl
        have e4 : (((n / 16 ^ k % 16 : Nat) : Int) + 65 - 65) = ((n / 16 ^ k % 16 : Nat) : Int) := by omega
        rw [e3, e4, Int.natCast_add, Int.natCast_mul]
theorem hex_split (n k : Nat) : (hexL n).take ((hexL n).length - k) = hexL (n / 16 ^ k) ∧ rdL 4 ((hexL n).drop ((hexL n).length - k)) = ((n % 16 ^ k : Nat) : Int) := by
  obtain ⟨l, h1, h2, h3, h4⟩ := hex_cut n k
  have e : (hexL n).length - k = (hexL (n / 16 ^ k)).length := by
    rw [h1, List.length_append]
    by_cases h : n / 16 ^ k = 0
    · rw [h, hexL_zero]; simp; omega
    · have := h3 h; omega
  rw [e, h1, List.take_left, List.drop_left]
  exact ⟨rfl, h4⟩
def Word (v : Int) (b : Array UInt8) : Prop := rdL 4 (KBw.bInts b) = v ∧ (KBw.bInts b).length ≤ 16 ∧ ∀ k ∈ KBw.bInts b, 65 ≤ k ∧ k < 81
theorem hex_ok {N : Int} (h1 : N < 2 ^ 64) : (hexL N.toNat).length ≤ 16 ∧ ∀ k ∈ hexL N.toNat, 65 ≤ k ∧ k < 81 :=
  ⟨hexL_len 16 _ (by omega), fun k hk => hexL_in _ k hk⟩
theorem ap_size {N : Int} (h1 : N < 2 ^ 64) : (hexL N.toNat).length ≤ 16777216 := by have := (hex_ok h1).1; omega
theorem cut_hi {N : Int} {b : Array UInt8} (h0 : 0 ≤ N) (h1 : N < 2 ^ 64) (h : KBw.bInts b = ((hexL N.toNat).drop 0).take (clipAt (hexL N.toNat).length (-8) - 0)) :
    rdL 4 (KBw.bInts b) = N / 4294967296 ∧ (KBw.bInts b).length ≤ 16 ∧ ∀ k ∈ KBw.bInts b, 65 ≤ k ∧ k < 81 := by
  have hok := hex_ok h1
  have hc : clipAt (hexL N.toNat).length (-8) = (hexL N.toNat).length - 8 := clipAt_neg _ 8 (by decide)
  rw [List.drop_zero, Nat.sub_zero, hc] at h
  have hin : ∀ k ∈ KBw.bInts b, k ∈ hexL N.toNat := fun k hk => by rw [h] at hk; exact List.mem_of_mem_take hk
  refine ⟨?_, ?_, fun k hk => hok.2 k (hin k hk)⟩
  · rw [h, (hex_split _ 8).1, rd_hex]
    have : (16 : Nat) ^ 8 = 4294967296 := by decide
    omega
  · rw [h, List.length_take]; omega
theorem cut_lo {N : Int} {b : Array UInt8} (h0 : 0 ≤ N) (h1 : N < 2 ^ 64) (h : KBw.bInts b = ((hexL N.toNat).drop (clipAt (hexL N.toNat).length (-8))).take ((hexL N.toNat).length - clipAt (hexL N.toNat).length (-8))) :
    rdL 4 (KBw.bInts b) = N % 4294967296 ∧ (KBw.bInts b).length ≤ 16 ∧ ∀ k ∈ KBw.bInts b, 65 ≤ k ∧ k < 81 := by
  have hok := hex_ok h1
  have hc : clipAt (hexL N.toNat).length (-8) = (hexL N.toNat).length - 8 := clipAt_neg _ 8 (by decide)
  rw [hc, List.take_of_length_le (by rw [List.length_drop]; omega)] at h
  have hin : ∀ k ∈ KBw.bInts b, k ∈ hexL N.toNat := fun k hk => by rw [h] at hk; exact List.mem_of_mem_drop hk
  refine ⟨?_, ?_, fun k hk => hok.2 k (hin k hk)⟩
  · rw [h, (hex_split _ 8).2]
    have : (16 : Nat) ^ 8 = 4294967296 := by decide
    omega
  · rw [h, List.length_drop]; omega
theorem hex_five {N : Int} (h0 : 65536 ≤ N) (h1 : N < 1048576) : ∃ l, hexL N.toNat = (N / 65536 + 65) :: l ∧ l.length = 4 ∧ rdL 4 l = N % 65536 := by
  obtain ⟨l, a1, a2, a3, a4⟩ := hex_cut N.toNat 4
  have e : (16 : Nat) ^ 4 = 65536 := by decide
  rw [e] at a1 a3 a4
  have hne : N.toNat / 65536 ≠ 0 := by omega
  refine ⟨l, ?_, a3 hne, by omega⟩
  have h2 : N.toNat / 65536 / 16 = 0 := by omega
  rw [a1, hexL_pos hne, h2, hexL_zero]
  simp
  omega
theorem word_first {N : Int} (h0 : 65536 ≤ N) (h1 : N < 1048576) : (hexL N.toNat).getD 0 0 = N / 65536 + 65 := by
  obtain ⟨l, e, _⟩ := hex_five h0 h1
  rw [e]; rfl
theorem word_len {N : Int} (h0 : 65536 ≤ N) (h1 : N < 1048576) : (hexL N.toNat).length = 5 := by
  obtain ⟨l, e, e2, _⟩ := hex_five h0 h1
  rw [e, List.length_cons, e2]
theorem word_rest {N : Int} {b : Array UInt8} (h0 : 65536 ≤ N) (h1 : N < 1048576) (h : KBw.bInts b = ((hexL N.toNat).drop (clipAt (hexL N.toNat).length 1)).take ((hexL N.toNat).length - clipAt (hexL N.toNat).length 1)) :
    rdL 4 (KBw.bInts b) = N % 65536 ∧ (KBw.bInts b).length ≤ 16 ∧ ∀ k ∈ KBw.bInts b, 65 ≤ k ∧ k < 81 := by
  have hok := hex_ok (N := N) (by omega)
  have hl := word_len h0 h1
  have hc : clipAt (hexL N.toNat).length 1 = 1 := by
    have := clipAt_nat (hexL N.toNat).length 1
    rw [hl] at this ⊢
    exact this
  rw [hc, List.take_of_length_le (by rw [List.length_drop]; omega)] at h
  have hin : ∀ k ∈ KBw.bInts b, k ∈ hexL N.toNat := fun k hk => by rw [h] at hk; exact List.mem_of_mem_drop hk
  refine ⟨?_, ?_, fun k hk => hok.2 k (hin k hk)⟩
  · obtain ⟨l, e, _, e3⟩ := hex_five h0 h1
    rw [h, e]; exact e3
  · rw [h, List.length_drop]; omega
theorem rd_one_mod (n : Nat) : ∃ q : Int, rdL 1 (hexL n) = n - 7 * q := by
  induction n using Nat.strongRecOn with
  | _ n ih =>
    by_cases h : n = 0
    · subst h; exact ⟨0, by rw [hexL_zero]; rfl⟩
    · obtain ⟨q, hq⟩ := ih (n / 16) (by omega)
      refine ⟨2 * q + 2 * ((n / 16 : Nat) : Int), ?_⟩
      rw [hexL_pos h, rdL_snoc, hq]
      have : (2 : Int) ^ 1 = 2 := by decide
      rw [this]
      omega
theorem day_word {N : Int} (h0 : 0 ≤ N) (h1 : N < 2 ^ 64) : ∃ v, (rdL 1 (KBw.bInts (apB N)) = v ∧ (KBw.bInts (apB N)).length ≤ 16 ∧ ∀ k ∈ KBw.bInts (apB N), 65 ≤ k ∧ k < 81) ∧ (v + 2) % 7 = (N + 2) % 7 := by
  refine ⟨_, ⟨rfl, ?_⟩, ?_⟩
  · rw [apB_ints]; exact hex_ok h1
  · rw [apB_ints]
    obtain ⟨q, hq⟩ := rd_one_mod N.toNat
    omega
end Mine
end XHexPart

section XToldPart
open PySem PySem.Spec PySem.Calls PySem.W PyProof.Rows
namespace Mine
theorem store_gen {M : Model} {A : Around} {E : Value → Shared → Prop} {Q : Unit → Shared → Prop} {s : Shared} {env : Env} {name : Str} {v : Int} {t : Tok}
    (h : ∀ x, x = v → wpAny M A (storeName env name (.int x t)) Q E s) : wpAny M A (storeName env name (.int v t)) Q E s := h v rfl
def Is (a b : Int) : Prop := a = b
theorem Is.mk {a b : Int} (h : a = b) : Is a b := h
theorem Is.out {a b : Int} (h : Is a b) : a = b := h
theorem fd (a : Int) {b : Int} (h : 0 ≤ b) : a.fdiv b = a / b := Int.fdiv_eq_ediv_of_nonneg _ h
theorem fm (a : Int) {b : Int} (h : 0 ≤ b) : a.fmod b = a % b := Int.fmod_eq_emod_of_nonneg _ h
theorem store_fd {M : Model} {A : Around} {E : Value → Shared → Prop} {Q : Unit → Shared → Prop} {s : Shared} {env : Env} {name : Str} {a b : Int} {t : Tok}
    (hb : 0 ≤ b) (h : wpAny M A (storeName env name (.int (a / b) t)) Q E s) : wpAny M A (storeName env name (.int (a.fdiv b) t)) Q E s := by rw [fd a hb]; exact h
theorem store_fm {M : Model} {A : Around} {E : Value → Shared → Prop} {Q : Unit → Shared → Prop} {s : Shared} {env : Env} {name : Str} {a b : Int} {t : Tok}
    (hb : 0 ≤ b) (h : wpAny M A (storeName env name (.int (a % b) t)) Q E s) : wpAny M A (storeName env name (.int (a.fmod b) t)) Q E s := by rw [fm a hb]; exact h
theorem ap_item {prog : Program} {w : World} {A : Around} {E : Value → Shared → Prop} {s : Shared} {value slice : PySem.Expr} {N : Int} {t ui : Tok} {Q : Value → Shared → Prop} (h0 : 65536 ≤ N) (h1 : N < 1048576)
    (h : ∀ t' k, Q (.int (N / 65536 + 65) t') { s with toks := k })
    (hs : subscripted slice false (.bytes (apB N) t) (.int 0 ui) = operate [.bytes (apB N) t, .int 0 ui] (getItem (.bytes (apB N) t) (.int 0 ui)) := by with_unfolding_all rfl)
    (ht : ∀ r, letTemporaryGo value (.bytes (apB N) t) r = pure () := by intro _; with_unfolding_all rfl) :
    wpAny (model prog w) A (subscriptTail value slice (.bytes (apB N) t) (.int 0 ui)) Q E s := by
  refine KBw.item_K (apB_ints N) (by have := word_len h0 h1; omega) (by decide) (by rw [word_len h0 h1]; decide) (fun t' k _ _ => ?_) hs ht
  have e : (hexL N.toNat).getD (0 : Int).toNat 0 = N / 65536 + 65 := word_first h0 h1
  rw [e]
  exact h t' k
end Mine
end XToldPart

section XFmtPart
open PySem PySem.Spec PySem.Calls PySem.W PyProof.Rows
open PySem.Builtin PySem.Builtin.Str
namespace Mine
def padL (k : Nat) (l : List Nat) : List Nat := List.replicate (k - l.length) 48 ++ l
def digs (n : Int) : List Nat := (PySem.Str.ofString (toString n)).cps.toList
def padT (k : Nat) (n : Int) : PySem.Str := ⟨(padL k (digs n)).toArray⟩
theorem head_match (l : List Nat) (h1 : l.head? ≠ some 45) (h2 : l.head? ≠ some 43) : (match l with
      | 45 :: r => (([45] : List Nat), r)
      | 43 :: r => ([43], r)
      | _ => ([], l)) = ([], l) := by
  split
  · exact absurd rfl h1
  · exact absurd rfl h2
  · rfl
theorem pad_field {c : Percent} {l : List Nat} {k : Nat} (h1 : c.alt = false) (h2 : c.type = 100) (h3 : c.prec = none) (h4 : c.ljust = false) (h5 : c.sign = false) (h6 : c.blank = false) (h7 : c.zero = true) (h8 : c.width = some k)
    (hl : l.head? ≠ some 45 ∧ l.head? ≠ some 43) : (percentField c true l = none ∧ padL k l = l) ∨ percentField c true l = some (padL k l) := by
  by_cases h : k ≤ l.length
  · left
    refine ⟨?_, ?_⟩
    · unfold percentField
      rw [if_pos]
      simp [h8, h3, h5, h6, h]
    · unfold padL
      rw [Nat.sub_eq_zero_of_le h]; rfl
  · right
    unfold percentField
    rw [if_neg (by simp [h8, h])]
    have key : ∀ m : List Nat × List Nat, m = ([], l) → m.1 ++ (List.replicate (k - (m.1.length + m.2.length)) 48 ++ m.2) = List.replicate (k - l.length) 48 ++ l := by
      rintro _ rfl; simp
    simp only [h1, h2, h4, h5, h6, h7, h8, Bool.not_true, Bool.false_eq_true, if_false]
    simp [padL]
    refine key _ ?_
    split
    · exact absurd rfl hl.1
    · exact absurd rfl hl.2
    · rfl
theorem pad_turn {M : Model} {A : Around} {E : Value → Shared → Prop} {s : Shared} {α : Type} {Q : α → Shared → Prop} {c : Percent} {l : List Nat} {k : Nat} {o : Option (List Nat)} {X : Option (List Nat) → Sem α} (hp : percentField c true l = o)
    (h1 : c.alt = false) (h2 : c.type = 100) (h3 : c.prec = none) (h4 : c.ljust = false) (h5 : c.sign = false) (h6 : c.blank = false) (h7 : c.zero = true) (h8 : c.width = some k)
    (hl : l.head? ≠ some 45 ∧ l.head? ≠ some 43) (h0 : X none = X (some l)) (h : wpAny M A (X (some (padL k l))) Q E s) : wpAny M A (X o) Q E s := by
  rcases pad_field h1 h2 h3 h4 h5 h6 h7 h8 hl with ⟨e, e2⟩ | e
  · rw [e] at hp; subst hp
    rw [h0]; rw [e2] at h; exact h
  · rw [e] at hp; subst hp; exact h
theorem after_pad {M : Model} {A : Around} {E : Value → Shared → Prop} {s : Shared} {l : List Nat} {p : List Value} {r : List Nat}
    {f : Nat → List Value × Writer × List Nat → Sem (ForInStep (List Value × Writer × List Nat))} {Q : List Value × Writer × List Nat → Shared → Prop}
    {w : Writer} {T x y : PySem.Str} {N K : Nat} {o : Option Value} (g : KPc.Good w T N) (hx : x = y) (hy : y.length ≤ K) (ho : KPc.Obj o x)
    (h : ∀ w', KPc.Good w' (T ++ y) (N + K) → wpAny M A (forIn l (p, w', r) f) Q E s) : wpAny M A (forIn l (p, w.add x o, r) f) Q E s := by
  subst hx
  exact h _ (KPc.good_mono (KPc.good_add g ho) (Nat.add_le_add_left hy _))
def digN (m : Nat) : List Nat := (Nat.toDigits 10 m).map Char.toNat
theorem digs_nat (m : Nat) : digs ((m : Nat) : Int) = digN m := KIN.signs_num m
theorem digs_int {n : Int} (h : 0 ≤ n) : digs n = digN n.toNat := by
  have e : ((n.toNat : Nat) : Int) = n := Int.toNat_of_nonneg h
  rw [← digs_nat, e]
theorem digit_is : ∀ d : Nat, d < 10 → (Nat.digitChar d).toNat = 48 + d := by decide
theorem digN_lt {m : Nat} (h : m < 10) : digN m = [48 + m] := by
  unfold digN
  rw [Nat.toDigits_of_lt_base h]
  show [(Nat.digitChar m).toNat] = _
  rw [digit_is m h]
theorem digN_ge {m : Nat} (h : 10 ≤ m) : digN m = digN (m / 10) ++ [48 + m % 10] := by
  have hm : m % 10 < 10 := Nat.mod_lt m (by decide)
  have key := Nat.toDigits_append_toDigits (b := 10) (n := m / 10) (d := m % 10) (by decide) (by omega) hm
  have back : 10 * (m / 10) + m % 10 = m := by omega
  have one : Nat.toDigits 10 (m % 10) = [Nat.digitChar (m % 10)] := Nat.toDigits_of_lt_base hm
  rw [back, one] at key
  show (Nat.toDigits 10 m).map Char.toNat = (Nat.toDigits 10 (m / 10)).map Char.toNat ++ [48 + m % 10]
  rw [← key, ← digit_is _ hm]
  exact List.map_append
theorem digN_in (m : Nat) : ∀ c ∈ digN m, 48 ≤ c ∧ c < 58 := by
  induction m using Nat.strongRecOn with
  | _ m ih =>
    by_cases h : m < 10
    · rw [digN_lt h]; intro c hc; have := List.mem_singleton.mp hc; omega
    · rw [digN_ge (by omega)]
      intro c hc
      rcases List.mem_append.mp hc with hc | hc
      · exact ih (m / 10) (by omega) c hc
      · have := List.mem_singleton.mp hc; omega
theorem digs_head {n : Int} (h : 0 ≤ n) : (digs n).head? ≠ some 45 ∧ (digs n).head? ≠ some 43 := by
  rw [digs_int h]
  have key : ∀ c, (digN n.toNat).head? = some c → 48 ≤ c := fun c hc => (digN_in _ c (List.mem_of_head? hc)).1
  exact ⟨fun e => absurd (key _ e) (by decide), fun e => absurd (key _ e) (by decide)⟩
theorem digN_len : ∀ (k m : Nat), m < 10 ^ (k + 1) → (digN m).length ≤ k + 1 := by
  intro k
  induction k with
  | zero => intro m h; rw [digN_lt (by simpa using h)]; simp
  | succ k ih =>
    intro m h
    by_cases hm : m < 10
    · rw [digN_lt hm]; simp
    · rw [digN_ge (by omega), List.length_append]
      have := ih (m / 10) (by rw [Nat.pow_succ] at h; omega)
      simp; omega
theorem padT_len {k : Nat} {n : Int} (hk : k ≤ 10) (h0 : 0 ≤ n) (h1 : n < 10 ^ 10) : (padT k n).length ≤ 20 := by
  have h := digN_len 9 n.toNat (by omega)
  show (padL k (digs n)).toArray.size ≤ 20
  rw [digs_int h0, List.size_toArray]
  unfold padL
  rw [List.length_append, List.length_replicate]
  omega
def two (n : Int) : PySem.Str := ⟨#[48 + n.toNat / 10, 48 + n.toNat % 10]⟩
def four (n : Int) : PySem.Str := ⟨#[48 + n.toNat / 1000, 48 + n.toNat / 100 % 10, 48 + n.toNat / 10 % 10, 48 + n.toNat % 10]⟩
theorem pad_two {n : Int} (h0 : 0 ≤ n) (h1 : n < 100) : padT 2 n = two n := by
  unfold padT two padL
  rw [digs_int h0]
  by_cases h : n.toNat < 10
  · have e1 : n.toNat / 10 = 0 := by omega
    have e2 : n.toNat % 10 = n.toNat := by omega
    rw [digN_lt h, e1, e2]; rfl
  · rw [digN_ge (by omega), digN_lt (by omega)]; rfl
theorem pad_four {n : Int} (h0 : 0 ≤ n) (h1 : n < 10000) : padT 4 n = four n := by
  unfold padT four padL
  rw [digs_int h0]
  have hm : n.toNat < 10000 := by omega
  generalize n.toNat = m at hm ⊢
  by_cases a : m < 10
  · have e1 : m / 1000 = 0 := by omega
    have e2 : m / 100 % 10 = 0 := by omega
    have e3 : m / 10 % 10 = 0 := by omega
    have e4 : m % 10 = m := by omega
    rw [digN_lt a, e1, e2, e3, e4]; rfl
  · rw [digN_ge (by omega)]
    by_cases b : m / 10 < 10
    · have e1 : m / 1000 = 0 := by omega
      have e2 : m / 100 % 10 = 0 := by omega
      have e3 : m / 10 % 10 = m / 10 := by omega
      rw [digN_lt b, e1, e2, e3]; rfl
    · rw [digN_ge (by omega)]
      by_cases c : m / 10 / 10 < 10
      · have e1 : m / 1000 = 0 := by omega
        have e2 : m / 100 % 10 = m / 10 / 10 := by omega
        rw [digN_lt c, e1, e2]; rfl
      · have e1 : m / 1000 = m / 10 / 10 / 10 := by omega
        have e2 : m / 100 % 10 = m / 10 / 10 % 10 := by omega
        rw [digN_ge (by omega), digN_lt (by omega), e1, e2]; rfl
theorem pad_int {M : Model} {A : Around} {E : Value → Shared → Prop} {s : Shared} {α : Type} {Q : α → Shared → Prop} {c : Percent} {n : Int} {k : Nat} {X : Option (List Nat) → Sem α}
    (hn : 0 ≤ n)
    (h1 : c.alt = false) (h2 : c.type = 100) (h3 : c.prec = none) (h4 : c.ljust = false) (h5 : c.sign = false) (h6 : c.blank = false) (h7 : c.zero = true) (h8 : c.width = some k)
    (h0 : X none = X (some (percentInt c (decide (n < 0)) (PySem.Str.ofString (toString ((n.natAbs : Nat) : Int))).cps.toList))) (h : wpAny M A (X (some (padL k (digs n)))) Q E s) : ∀ o, percentField c true (percentInt c (decide (n < 0)) (PySem.Str.ofString (toString ((n.natAbs : Nat) : Int))).cps.toList) = o → wpAny M A (X o) Q E s := by
  intro o hp
  have e : percentInt c (decide (n < 0)) (PySem.Str.ofString (toString ((n.natAbs : Nat) : Int))).cps.toList = digs n := by
    rw [KPc.int_text c h1 (.inl h2) h3 hn, Int.natAbs_of_nonneg hn]
    rfl
  rw [e] at hp h0
  exact pad_turn hp h1 h2 h3 h4 h5 h6 h7 h8 (digs_head hn) h0 h
def stamp (a : PySem.Str) (dt : Int) (m : PySem.Str) (yr hh mm ss : Int) (z : PySem.Str) : PySem.Str :=
  a ++ Str.ofString ", " ++ padT 2 dt ++ Str.ofString " " ++ m ++ Str.ofString " " ++ padT 4 yr ++ Str.ofString " " ++ padT 2 hh ++ Str.ofString ":" ++ padT 2 mm ++ Str.ofString ":" ++ padT 2 ss ++ Str.ofString " " ++ z
theorem getD_le {L : List PySem.Str} {k : Nat} (h : ∀ x ∈ L, x.length ≤ k) (i : Nat) : (L.getD i PySem.Str.empty).length ≤ k := by
  rw [List.getD_eq_getElem?_getD]
  by_cases hi : i < L.length
  · rw [List.getElem?_eq_getElem hi]
    exact h _ (List.getElem_mem hi)
  · rw [List.getElem?_eq_none (by omega)]
    exact Nat.zero_le _
abbrev dayNames : List PySem.Str := [Str.ofString "Mon", Str.ofString "Tue", Str.ofString "Wed", Str.ofString "Thu", Str.ofString "Fri", Str.ofString "Sat", Str.ofString "Sun"]
abbrev monNames : List PySem.Str := [Str.ofString "Jan", Str.ofString "Feb", Str.ofString "Mar", Str.ofString "Apr", Str.ofString "May", Str.ofString "Jun", Str.ofString "Jul", Str.ofString "Aug", Str.ofString "Sep", Str.ofString "Oct", Str.ofString "Nov", Str.ofString "Dec"]
theorem day_len (i : Nat) : (dayNames.getD i PySem.Str.empty).length ≤ 16 := getD_le (by decide +kernel) i
theorem mon_len (i : Nat) : (monNames.getD i PySem.Str.empty).length ≤ 16 := getD_le (by decide +kernel) i
def toldF (d s : Int) (z : PySem.Str) : PySem.Str :=
  let ff := d * 4 + 3
  let sp := ff % 146097 / 4 * 4 + 3
  let yy := sp * 2939745 / 4294967296
  let rr := sp * 2939745 % 4294967296
  let yr := ff / 146097 * 100 + yy
  let pl := rr / 2939745 / 4
  let mo := (pl * 2141 + 197913) / 65536 + 65 - 65
  let dt := (pl * 2141 + 197913) % 65536 / 2141 + 1
  let hh := s * 1193047 / 4294967296
  let r2 := s * 1193047 % 4294967296
  let mm := r2 / 1193047 * 71582789 / 4294967296
  let r3 := r2 / 1193047 * 71582789 % 4294967296
  stamp (dayNames.getD ((d + 2) % 7).toNat PySem.Str.empty) dt (monNames.getD ((if mo > 12 then mo - 12 else mo) - 1).toNat PySem.Str.empty) (if mo > 12 then yr + 1 else yr) hh mm (r3 / 71582789) z
theorem told_val1 {d s ff sp yy rr yr yr2 pl mo mo2 dt hh r2 mm r3 wd : Int} {z : PySem.Str}
    (hdt : Is dt ((pl * 2141 + 197913) % 65536 / 2141 + 1)) (hmo2 : Is mo2 (mo - 12)) (hyr2 : Is yr2 (yr + 1)) (hmm : Is mm (r2 / 1193047 * 71582789 / 4294967296)) (hr3 : Is r3 (r2 / 1193047 * 71582789 % 4294967296)) (hhh : Is hh (s * 1193047 / 4294967296)) (hr2 : Is r2 (s * 1193047 % 4294967296))
    (hwd : Is wd ((d + 2) % 7)) (hmo : Is mo ((pl * 2141 + 197913) / 65536 + 65 - 65)) (hyr : Is yr (ff / 146097 * 100 + yy)) (hpl : Is pl (rr / 2939745 / 4)) (hrr : Is rr (sp * 2939745 % 4294967296)) (hyy : Is yy (sp * 2939745 / 4294967296)) (hsp : Is sp (ff % 146097 / 4 * 4 + 3)) (hff : Is ff (d * 4 + 3))
    (h12 : mo > 12) : stamp (dayNames.getD wd.toNat PySem.Str.empty) dt (monNames.getD (mo2 - 1).toNat PySem.Str.empty) yr2 hh mm (r3 / 71582789) z = toldF d s z := by
  unfold Is at *
  subst hdt hmo2 hyr2 hmm hr3 hhh hr2 hwd hmo hyr hpl hrr hyy hsp hff
  unfold toldF
  dsimp only
  rw [if_pos h12, if_pos h12]
theorem told_val2 {d s ff sp yy rr yr pl mo dt hh r2 mm r3 wd : Int} {z : PySem.Str}
    (hdt : Is dt ((pl * 2141 + 197913) % 65536 / 2141 + 1)) (hmm : Is mm (r2 / 1193047 * 71582789 / 4294967296)) (hr3 : Is r3 (r2 / 1193047 * 71582789 % 4294967296)) (hhh : Is hh (s * 1193047 / 4294967296)) (hr2 : Is r2 (s * 1193047 % 4294967296))
    (hwd : Is wd ((d + 2) % 7)) (hmo : Is mo ((pl * 2141 + 197913) / 65536 + 65 - 65)) (hyr : Is yr (ff / 146097 * 100 + yy)) (hpl : Is pl (rr / 2939745 / 4)) (hrr : Is rr (sp * 2939745 % 4294967296)) (hyy : Is yy (sp * 2939745 / 4294967296)) (hsp : Is sp (ff % 146097 / 4 * 4 + 3)) (hff : Is ff (d * 4 + 3))
    (h12 : ¬ mo > 12) : stamp (dayNames.getD wd.toNat PySem.Str.empty) dt (monNames.getD (mo - 1).toNat PySem.Str.empty) yr hh mm (r3 / 71582789) z = toldF d s z := by
  unfold Is at *
  subst hdt hmm hr3 hhh hr2 hwd hmo hyr hpl hrr hyy hsp hff
  unfold toldF
  dsimp only
  rw [if_neg h12, if_neg h12]
theorem forIn_gen {M : Model} {A : Around} {E : Value → Shared → Prop} {s : Shared} {β : Type} {l : List Nat} {b : β} {g : Nat → β → Sem (ForInStep β)} {Q : β → Shared → Prop}
    (h : ∀ (f : Nat → β → Sem (ForInStep β)) (Qf : β → Shared → Prop), f = g → (∀ r s', Q r s' → Qf r s') → wpAny M A (forIn l b f) Qf E s) : wpAny M A (forIn l b g) Q E s := h g Q rfl fun _ _ x => x
end Mine
end XFmtPart

section XStrPart
open PySem PySem.Spec PySem.Calls PySem.W PyProof PyProof.Rows
namespace Mine
def aheadF (n : Int) : Int := 365 * (n - 1) + (n - 1) / 4 - (n - 1) / 100 + (n - 1) / 400
theorem slice_one {x : PySem.Str} {c : Nat} {l : List Nat} (h : x.cps.toList = c :: l) : Txt.slice x (some 1) none = ⟨l.toArray⟩ := by
  have hl : x.cps.toList.length = l.length + 1 := by rw [h]; rfl
  have e : Txt.slice x (some 1) none = ⟨((x.cps.toList.drop (1 : Int).toNat).take ((x.cps.toList.length : Int) - 1).toNat).toArray⟩ := PySem.StrLaws.sliceText_from (by omega)
  rw [e, h]
  have e2 : (((c :: l).length : Int) - 1).toNat = l.length := by simp
  rw [e2]
  show (⟨(l.take l.length).toArray⟩ : PySem.Str) = _
  rw [List.take_length]
theorem str_two {n : Int} (h0 : 0 ≤ n) (h1 : n < 100) : Txt.slice (Str.ofString (toString (100 + n))) (some 1) none = two n := by
  refine slice_one (c := 49) ?_
  show digs (100 + n) = _
  rw [digs_int (by omega), digN_ge (by omega), digN_ge (by omega), digN_lt (by omega)]
  have e1 : (100 + n).toNat / 10 / 10 = 1 := by omega
  have e2 : (100 + n).toNat / 10 % 10 = n.toNat / 10 := by omega
  have e3 : (100 + n).toNat % 10 = n.toNat % 10 := by omega
  rw [e1, e2, e3]; rfl
theorem str_four {n : Int} (h0 : 0 ≤ n) (h1 : n < 10000) : Txt.slice (Str.ofString (toString (10000 + n))) (some 1) none = four n := by
  refine slice_one (c := 49) ?_
  show digs (10000 + n) = _
  rw [digs_int (by omega), digN_ge (by omega), digN_ge (by omega), digN_ge (by omega), digN_ge (by omega), digN_lt (by omega)]
  have e1 : (10000 + n).toNat / 10 / 10 / 10 / 10 = 1 := by omega
  have e2 : (10000 + n).toNat / 10 / 10 / 10 % 10 = n.toNat / 1000 := by omega
  have e3 : (10000 + n).toNat / 10 / 10 % 10 = n.toNat / 100 % 10 := by omega
  have e4 : (10000 + n).toNat / 10 % 10 = n.toNat / 10 % 10 := by omega
  have e5 : (10000 + n).toNat % 10 = n.toNat % 10 := by omega
  rw [e1, e2, e3, e4, e5]; rfl
theorem cut_day : ∀ k : Nat, k < 7 → Txt.slice (Str.ofString "MonTueWedThuFriSatSun") (some (3 * (k : Int))) (some (3 * (k : Int) + 3)) = dayNames.getD k PySem.Str.empty := by decide +kernel
theorem cut_mon : ∀ k : Nat, k < 12 → Txt.slice (Str.ofString "JanFebMarAprMayJunJulAugSepOctNovDec") (some (3 * (k : Int))) (some (3 * (k : Int) + 3)) = monNames.getD k PySem.Str.empty := by decide +kernel
theorem slice_day {k : Int} (h0 : 0 ≤ k) (h1 : k < 7) : Txt.slice (Str.ofString "MonTueWedThuFriSatSun") (some (3 * k)) (some (3 * k + 3)) = dayNames.getD k.toNat PySem.Str.empty := by
  have e : ((k.toNat : Nat) : Int) = k := Int.toNat_of_nonneg h0
  have := cut_day k.toNat (by omega)
  rw [e] at this; exact this
theorem slice_mon {k : Int} (h0 : 0 ≤ k) (h1 : k < 12) : Txt.slice (Str.ofString "JanFebMarAprMayJunJulAugSepOctNovDec") (some (3 * k)) (some (3 * k + 3)) = monNames.getD k.toNat PySem.Str.empty := by
  have e : ((k.toNat : Nat) : Int) = k := Int.toNat_of_nonneg h0
  have := cut_mon k.toNat (by omega)
  rw [e] at this; exact this
end Mine
end XStrPart

section XCalPart
open PySem PySem.Spec PySem.Calls PySem.W PyProof PyProof.Rows
namespace Mine
def leapB (y : Int) : Bool := decide (y % 4 = 0) && (decide (y % 100 ≠ 0) || decide (y % 400 = 0))
def splitF : List Int → Int → Int → Int × Int
  | [], m, x => (m, x)
  | k :: r, m, x => if x < k then (m, x) else splitF r (m + 1) (x - k)
def sizesF (lp : Bool) : List Int := [31, if lp = true then 29 else 28, 31, 30, 31, 30, 31, 31, 30, 31, 30]
/-- the second half of told: place of a day in a year that begins in March -/
def monP (pl : Int) : Int := (pl * 2141 + 197913) / 65536
def dateP (pl : Int) : Int := (pl * 2141 + 197913) % 65536 / 2141 + 1
theorem place_tab : ∀ lp : Bool, ∀ p : Nat, p < 366 →
    (p < 306 → splitF (sizesF lp) 0 ((p : Int) + 59 + (if lp = true then 1 else 0)) = (monP p - 1, dateP p - 1) ∧ monP p ≤ 12) ∧
    (306 ≤ p → (lp = true ∨ p < 365) → splitF (sizesF lp) 0 ((p : Int) - 306) = (monP p - 13, dateP p - 1) ∧ 12 < monP p) := by decide +kernel
theorem leap_step (y : Int) : aheadF (y + 1) = aheadF y + 365 + (if leapB y = true then 1 else 0) := by
  unfold aheadF leapB
  by_cases h4 : y % 4 = 0 <;> by_cases h100 : y % 100 = 0 <;> by_cases h400 : y % 400 = 0 <;> simp [h4, h100, h400] <;> omega
theorem place_split {N ff c t s sp y r pl : Int} (hff : ff = N * 4 + 3) (hc : c = ff / 146097) (ht : t = ff % 146097) (hs : s = t / 4) (hsp : sp = s * 4 + 3) (hy : y = sp / 1461) (hr : r = sp % 1461) (hpl : pl = r / 4) (h0 : 0 ≤ N) (h1 : N < 3652365) :
    N = aheadF (c * 100 + y + 1) + pl ∧ 0 ≤ pl ∧ pl ≤ 365 ∧ (pl = 365 → (c * 100 + y + 1) % 4 = 0 ∧ ((c * 100 + y + 1) % 100 ≠ 0 ∨ (c * 100 + y + 1) % 400 = 0)) ∧ 0 ≤ y ∧ y ≤ 99 ∧ 0 ≤ c ∧ c ≤ 99 := by
  have e1 : N = 36524 * c + c / 4 + s := by omega
  have e2 : s = 365 * y + y / 4 + pl := by omega
  have hc2 : 0 ≤ c ∧ c ≤ 99 := by omega
  have hs2 : 0 ≤ s ∧ s ≤ 36524 := by omega
  have hs3 : s = 36524 → c % 4 = 3 := by omega
  have hy2 : 0 ≤ y ∧ y ≤ 99 := by omega
  have hp2 : 0 ≤ pl ∧ pl ≤ 365 := by omega
  have hp3 : pl = 365 → y % 4 = 3 := by omega
  have hp4 : pl = 365 → y = 99 → s = 36524 := by omega
  clear hff hc ht hs hsp hy hr hpl h0 h1
  unfold aheadF
  have g1 : (c * 100 + y + 1 - 1) / 4 = 25 * c + y / 4 := by omega
  have g2 : (c * 100 + y + 1 - 1) / 100 = c := by omega
  have g3 : (c * 100 + y + 1 - 1) / 400 = c / 4 := by omega
  refine ⟨by rw [g1, g2, g3]; omega, hp2.1, hp2.2, ?_, hy2.1, hy2.2, hc2.1, hc2.2⟩
  intro h
  have a1 := hp3 h
  by_cases hy99 : y = 99
  · have a2 := hs3 (hp4 h hy99)
    exact ⟨by omega, .inr (by omega)⟩
  · exact ⟨by omega, .inl (by omega)⟩
theorem cut_year {s : Int} (h0 : 3 ≤ s) (h1 : s ≤ 146099) : s * 2939745 / 4294967296 = s / 1461 ∧ s * 2939745 % 4294967296 / 2939745 = s % 1461 := by
  have e : s = 1461 * (s / 1461) + s % 1461 := by omega
  have a : 0 ≤ s / 1461 ∧ s / 1461 ≤ 99 := by omega
  have b : 0 ≤ s % 1461 ∧ s % 1461 ≤ 1460 := by omega
  generalize s / 1461 = q at *
  generalize s % 1461 = r at *
  have e1 : s * 2939745 = 4294967296 * q + (149 * q + 2939745 * r) := by omega
  have w0 : 0 ≤ 149 * q + 2939745 * r := by omega
  have w1 : 149 * q + 2939745 * r < 4294967296 := by omega
  have e3 : (149 * q + 2939745 * r) / 2939745 = r := by omega
  rw [e1]
  generalize 149 * q + 2939745 * r = w at *
  have e4 : (4294967296 * q + w) % 4294967296 = w := by omega
  rw [e4]
  exact ⟨by omega, e3⟩
theorem cut_hour {s : Int} (h0 : 0 ≤ s) (h1 : s < 86400) : s * 1193047 / 4294967296 = s / 3600 ∧ s * 1193047 % 4294967296 / 1193047 = s % 3600 := by
  have e : s = 3600 * (s / 3600) + s % 3600 := by omega
  have a : 0 ≤ s / 3600 ∧ s / 3600 ≤ 23 := by omega
  have b : 0 ≤ s % 3600 ∧ s % 3600 < 3600 := by omega
  generalize s / 3600 = q at *
  generalize s % 3600 = r at *
  have e1 : s * 1193047 = 4294967296 * q + (1904 * q + 1193047 * r) := by omega
  have w0 : 0 ≤ 1904 * q + 1193047 * r := by omega
  have w1 : 1904 * q + 1193047 * r < 4294967296 := by omega
  have e3 : (1904 * q + 1193047 * r) / 1193047 = r := by omega
  rw [e1]
  generalize 1904 * q + 1193047 * r = w at *
  have e4 : (4294967296 * q + w) % 4294967296 = w := by omega
  rw [e4]
  exact ⟨by omega, e3⟩
theorem cut_minute {s : Int} (h0 : 0 ≤ s) (h1 : s < 3600) : s * 71582789 / 4294967296 = s / 60 ∧ s * 71582789 % 4294967296 / 71582789 = s % 60 := by
  have e : s = 60 * (s / 60) + s % 60 := by omega
  have a : 0 ≤ s / 60 ∧ s / 60 ≤ 59 := by omega
  have b : 0 ≤ s % 60 ∧ s % 60 < 60 := by omega
  generalize s / 60 = q at *
  generalize s % 60 = r at *
  have e1 : s * 71582789 = 4294967296 * q + (44 * q + 71582789 * r) := by omega
  have w0 : 0 ≤ 44 * q + 71582789 * r := by omega
  have w1 : 44 * q + 71582789 * r < 4294967296 := by omega
  have e3 : (44 * q + 71582789 * r) / 71582789 = r := by omega
  rw [e1]
  generalize 44 * q + 71582789 * r = w at *
  have e4 : (4294967296 * q + w) % 4294967296 = w := by omega
  rw [e4]
  exact ⟨by omega, e3⟩
theorem ahead_mono {a b : Int} (h : a ≤ b) : aheadF a ≤ aheadF b := by unfold aheadF; omega
theorem year_is {y Y d : Int} (h1 : aheadF y ≤ d) (h2 : d < aheadF (y + 1)) (h3 : aheadF Y ≤ d) (h4 : d < aheadF (Y + 1)) : y = Y := by
  by_cases a : y + 1 ≤ Y
  · have := ahead_mono a; omega
  · by_cases b : Y + 1 ≤ y
    · have := ahead_mono b; omega
    · omega
/-- what told reckons is the plain calendar's day -/
theorem cal_main {d yr lf a b ff sp yy rr pl : Int} (hd0 : 0 ≤ d) (hd1 : d < 3652059) (h1 : aheadF yr ≤ d) (h2 : d < aheadF (yr + 1)) (hlf : lf = d - aheadF yr) (hP : splitF (sizesF (leapB yr)) 0 lf = (a, b))
    (hff : ff = (d + 306) * 4 + 3) (hsp : sp = ff % 146097 / 4 * 4 + 3) (hyy : yy = sp * 2939745 / 4294967296) (hrr : rr = sp * 2939745 % 4294967296) (hpl : pl = rr / 2939745 / 4) :
    (monP pl > 12 → monP pl - 13 = a ∧ dateP pl = b + 1 ∧ ff / 146097 * 100 + yy + 1 = yr) ∧ (¬ monP pl > 12 → monP pl - 1 = a ∧ dateP pl = b + 1 ∧ ff / 146097 * 100 + yy = yr) := by
  have hsp2 : 3 ≤ sp ∧ sp ≤ 146099 := by omega
  obtain ⟨k1, k2⟩ := cut_year hsp2.1 hsp2.2
  rw [k1] at hyy
  have hpl2 : pl = sp % 1461 / 4 := by rw [hpl, hrr, k2]
  obtain ⟨e, p0, p1, p2, y0, y1, c0, c1⟩ := place_split (N := d + 306) hff rfl rfl rfl hsp hyy rfl hpl2 (by omega) (by omega)
  clear hff hsp hyy hrr hpl hpl2 k1 k2
  generalize ff / 146097 = c at *
  generalize hY : c * 100 + yy = Y at *
  have hpn : ((pl.toNat : Nat) : Int) = pl := Int.toNat_of_nonneg p0
  obtain ⟨t1, t2⟩ := place_tab (leapB yr) pl.toNat (by omega)
  rw [hpn] at t1 t2
  by_cases hp : pl < 306
  · have hs := leap_step Y
    have hy : yr = Y := year_is h1 h2 (by split at hs <;> omega) (by omega)
    subst hy
    obtain ⟨t3, t4⟩ := t1 (by omega)
    have hl : lf = pl + 59 + (if leapB yr = true then 1 else 0) := by split at hs <;> simp_all <;> omega
    rw [← hl, hP, Prod.mk.injEq] at t3
    refine ⟨fun h => absurd h (by omega), fun _ => ⟨by omega, by omega, rfl⟩⟩
  · have hs := leap_step (Y + 1)
    have hy : yr = Y + 1 := year_is h1 h2 (by omega) (by split at hs <;> omega)
    subst hy
    have hlp : leapB (Y + 1) = true ∨ pl.toNat < 365 := by
      by_cases h365 : pl = 365
      · left
        have := p2 h365
        unfold leapB
        simp [this.1]
        rcases this.2 with h | h
        · exact .inl h
        · exact .inr h
      · right; omega
    obtain ⟨t3, t4⟩ := t2 (by omega) hlp
    have hl : lf = pl - 306 := by omega
    rw [← hl, hP, Prod.mk.injEq] at t3
    refine ⟨fun _ => ⟨by omega, by omega, rfl⟩, fun h => absurd t4 (by omega)⟩
end Mine
end XCalPart

section XLinePart
open PySem PySem.Spec PySem.Calls PySem.W PyProof PyProof.Rows
namespace Mine
section
variable {M : Model} {A : Around} {E : Value → Shared → Prop} {s : Shared} {h₀ : Heap} {L : Addr} {m : Str → Option Value} {news : List (Addr × Obj)}
theorem cut_two {Q : Flow → Shared → Prop} {st : Stmt} {env : Env} (x1 x2 x3 : Str) (P : Int → Int → Prop) (F : Fr h₀ L s.heap m) (N : News h₀ L s.heap news)
    (hw : ∀ Qx : Flow → Shared → Prop, (∀ h tk m' a b ta tb, Fr h₀ L h m' → News h₀ L h news → m' x1 = some (.int a ta) → m' x2 = some (.int b tb) → (∀ z, z ≠ x1 → z ≠ x2 → z ≠ x3 → m' z = m z) → P a b → Qx .next { s with heap := h, toks := tk }) → wpAny M A (exec st env) Qx E s)
    (hk : ∀ h tk a b ta tb u, P a b → Fr h₀ L h (fun y => if y = x1 then some (.int a ta) else if y = x2 then some (.int b tb) else if y = x3 then u else m y) → News h₀ L h news → Q .next { s with heap := h, toks := tk }) :
    wpAny M A (exec st env) Q E s := by
  refine hw Q fun h tk m' a b ta tb F' N' h1 h2 h3 hP => hk h tk a b ta tb (m' x3) hP ?_ N'
  have e : (fun y => if y = x1 then some (Value.int a ta) else if y = x2 then some (.int b tb) else if y = x3 then m' x3 else m y) = m' := by
    funext y
    by_cases a1 : y = x1
    · rw [if_pos a1, a1, h1]
    · rw [if_neg a1]
      by_cases a2 : y = x2
      · rw [if_pos a2, a2, h2]
      · rw [if_neg a2]
        by_cases a3 : y = x3
        · rw [if_pos a3, a3]
        · rw [if_neg a3]; exact (h3 y a1 a2 a3).symm
  rw [e]; exact F'
theorem cut_bool {Q : Value → Shared → Prop} {c : Sem Value} (b : Bool) (hw : ∀ Qx : Value → Shared → Prop, (∀ b' tk, b' = b → Qx (.bool b') { s with toks := tk }) → wpAny M A c Qx E s)
    (hk : ∀ tk, Q (.bool b) { s with toks := tk }) : wpAny M A c Q E s :=
  hw Q fun b' tk e => by subst e; exact hk tk
end
def Lt (a b : Int) : Prop := a < b
structure Cut : Prop where
  mark :: (one : True)
theorem Cut.it : Cut := ⟨trivial⟩
theorem split_in {lp : Bool} {x a b : Int} (h0 : 0 ≤ x) (h1 : Lt x (365 + (if lp = true then 1 else 0))) (h : splitF (sizesF lp) 0 x = (a, b)) : 0 ≤ a ∧ a < 12 ∧ 0 ≤ b ∧ b < 31 := by
  have key : ∀ lp : Bool, ∀ n : Nat, n < 366 → ((n : Int) < 365 + (if lp = true then 1 else 0)) → 0 ≤ (splitF (sizesF lp) 0 n).1 ∧ (splitF (sizesF lp) 0 n).1 < 12 ∧ 0 ≤ (splitF (sizesF lp) 0 n).2 ∧ (splitF (sizesF lp) 0 n).2 < 31 := by decide +kernel
  have e : ((x.toNat : Nat) : Int) = x := Int.toNat_of_nonneg h0
  have h1 : x < 365 + (if lp = true then 1 else 0) := h1
  have := key lp x.toNat (by split at h1 <;> omega) (by rw [e]; exact h1)
  rw [e, h] at this
  exact this
theorem leap_lt {d yr : Int} (h2 : d < aheadF (yr + 1)) : d - aheadF yr < 365 + (if leapB yr = true then 1 else 0) := by
  have := leap_step yr
  split <;> simp_all <;> omega
theorem year_start {d : Int} (h0 : 0 ≤ d) (h1 : d < 3652059) : 1 ≤ 1 + d / 366 ∧ 1 + d / 366 ≤ 9999 ∧ aheadF (1 + d / 366) ≤ d := by
  unfold aheadF
  have : 1 + d / 366 - 1 = d / 366 := by omega
  rw [this]
  generalize hq : d / 366 = q
  omega
theorem year_turn {d y : Int} (h1 : d < 3652059) (h2 : 1 ≤ y) (h : aheadF (y + 1) ≤ d) : 1 ≤ y + 1 ∧ y + 1 ≤ 9999 ∧ aheadF (y + 1) ≤ d := by
  refine ⟨by omega, ?_, h⟩
  unfold aheadF at h
  omega
theorem name_it {a d : Int} (_h : aheadF a ≤ d) : ∃ y, y = a := ⟨a, rfl⟩
theorem store_left {M : Model} {A : Around} {E : Value → Shared → Prop} {Q : Unit → Shared → Prop} {s : Shared} {env : Env} {name : Str} {d y : Int} {t : Tok} (h1 : aheadF y ≤ d) (h2 : ¬ aheadF (y + 1) ≤ d)
    (h : ∀ x, Is x (d - aheadF y) → 0 ≤ x → x < 366 → Lt x (365 + (if leapB y = true then 1 else 0)) → wpAny M A (storeName env name (.int x t)) Q E s) : wpAny M A (storeName env name (.int (d - aheadF y) t)) Q E s :=
  h _ (Is.mk rfl) (by omega) (by have := leap_lt (d := d) (yr := y) (by omega); split at this <;> omega) (leap_lt (by omega))
theorem leap_f1 {y : Int} (h : y.fmod 4 ≠ 0) : (y.fmod 4 == 0) = leapB y := by
  rw [fm _ (by decide)] at h ⊢; unfold leapB; simp [h]
theorem leap_t1 {y : Int} (h : y.fmod 4 = 0) (h2 : y.fmod 100 ≠ 0) : (y.fmod 100 != 0) = leapB y := by
  rw [fm _ (by decide)] at h h2 ⊢; unfold leapB; simp [h, h2]
theorem leap_d {y : Int} (h : y.fmod 4 = 0) (h2 : y.fmod 100 = 0) : (y.fmod 400 == 0) = leapB y := by
  rw [fm _ (by decide)] at h h2 ⊢; unfold leapB
  rw [decide_eq_true h, h2]
  by_cases h4 : y % 400 = 0 <;> simp [h4]
theorem sp_hit {k : Int} {r : List Int} {m x a b : Int} (h : x < k) (e : (m, x) = (a, b)) : splitF (k :: r) m x = (a, b) := by
  unfold splitF; rw [if_pos h]; exact e
theorem sp_miss {k : Int} {r : List Int} {m x a b : Int} (h : ¬ x < k) (e : splitF r (m + 1) (x - k) = (a, b)) : splitF (k :: r) m x = (a, b) := by
  unfold splitF; rw [if_neg h]; exact e
theorem sp_end {m x a b : Int} (e : (m, x) = (a, b)) : splitF [] m x = (a, b) := e
theorem sizes_t {y : Int} (h : leapB y = true) : sizesF (leapB y) = [31, 29, 31, 30, 31, 30, 31, 31, 30, 31, 30] := by rw [h]; rfl
theorem sizes_f {y : Int} (h : leapB y = false) : sizesF (leapB y) = [31, 28, 31, 30, 31, 30, 31, 31, 30, 31, 30] := by rw [h]; rfl
end Mine
end XLinePart

section XEndPart
open PySem PySem.Spec PySem.Calls PySem.W PyProof PyProof.Rows
namespace Mine
theorem two_len (n : Int) : (two n).length = 2 := rfl
theorem four_len (n : Int) : (four n).length = 4 := rfl
theorem lit_comma : (Str.ofString ", ").length = 2 := by decide +kernel
theorem lit_blank : (Str.ofString " ").length = 1 := by decide +kernel
theorem lit_colon : (Str.ofString ":").length = 1 := by decide +kernel
theorem size_room {n : Nat} (h : n ≤ 10000) : n ≤ sizeLine := by rw [sizeLine_eq]; omega
theorem pre_hour {s : Int} (h0 : 0 ≤ s) (h1 : s < 86400) : 0 ≤ s.fdiv 3600 ∧ s.fdiv 3600 < 100 := by rw [fd _ (by decide)]; omega
theorem pre_min (s : Int) : 0 ≤ (s.fdiv 60).fmod 60 ∧ (s.fdiv 60).fmod 60 < 100 := by rw [fm _ (by decide)]; omega
theorem pre_sec (s : Int) : 0 ≤ s.fmod 60 ∧ s.fmod 60 < 100 := by rw [fm _ (by decide)]; omega
theorem min_eq (s : Int) : s / 60 % 60 = s % 3600 / 60 := by omega
theorem sec_eq (s : Int) : s % 60 = s % 3600 % 60 := by omega
theorem wd_eq {d wd : Int} (h : wd = d % 7) : (d + 306 + 2) % 7 = wd := by omega
theorem mon_eq (x : Int) : (x * 2141 + 197913) / 65536 + 65 - 65 = monP x := by unfold monP; omega
theorem join_eq (a b c : PySem.Str) (e f g h i j k l : PySem.Str) : a ++ b ++ c ++ e ++ (f ++ e ++ g ++ e) ++ (h ++ i ++ j ++ i ++ k) ++ e ++ l = a ++ b ++ c ++ e ++ f ++ e ++ g ++ e ++ h ++ i ++ j ++ i ++ k ++ e ++ l := by
  simp only [PySem.Str.append_assoc]
theorem line_val {d se yv lf a b wd : Int} {z : PySem.Str} (hd0 : 0 ≤ d) (hd1 : d < 3652059) (hs0 : 0 ≤ se) (hs1 : se < 86400) (hy0 : 1 ≤ yv) (hy1 : yv ≤ 9999) (hA : aheadF yv ≤ d) (hB : ¬ aheadF (yv + 1) ≤ d)
    (hlf : Is lf (d - aheadF yv)) (hP : splitF (sizesF (leapB yv)) 0 lf = (a, b)) (_a0 : 0 ≤ a) (_a1 : a < 12) (b0 : 0 ≤ b) (b1 : b < 31) (hwd : Is wd (d % 7)) :
    dayNames.getD wd.toNat PySem.Str.empty ++ Str.ofString ", " ++ two (b + 1) ++ Str.ofString " " ++ (monNames.getD a.toNat PySem.Str.empty ++ Str.ofString " " ++ four yv ++ Str.ofString " ")
      ++ (two (se.fdiv 3600) ++ Str.ofString ":" ++ two ((se.fdiv 60).fmod 60) ++ Str.ofString ":" ++ two (se.fmod 60)) ++ Str.ofString " " ++ z = toldF (d + 306) se z := by
  obtain ⟨ff, hff⟩ : ∃ x, x = (d + 306) * 4 + 3 := ⟨_, rfl⟩
  obtain ⟨sp, hsp⟩ : ∃ x, x = ff % 146097 / 4 * 4 + 3 := ⟨_, rfl⟩
  obtain ⟨yy, hyy⟩ : ∃ x, x = sp * 2939745 / 4294967296 := ⟨_, rfl⟩
  obtain ⟨rr, hrr⟩ : ∃ x, x = sp * 2939745 % 4294967296 := ⟨_, rfl⟩
  obtain ⟨pl, hpl⟩ : ∃ x, x = rr / 2939745 / 4 := ⟨_, rfl⟩
  obtain ⟨c1, c2⟩ := cal_main (yr := yv) hd0 hd1 hA (Int.not_le.mp hB) hlf.out hP hff hsp hyy hrr hpl
  obtain ⟨h1, h2⟩ := cut_hour hs0 hs1
  obtain ⟨m1, m2⟩ := cut_minute (s := se % 3600) (Int.emod_nonneg _ (by decide)) (Int.emod_lt_of_pos _ (by decide))
  have f1 : se.fdiv 3600 = se / 3600 := fd _ (by decide)
  have f2 : (se.fdiv 60).fmod 60 = se % 3600 / 60 := by rw [fm _ (by decide), fd _ (by decide)]; exact min_eq se
  have f3 : se.fmod 60 = se % 3600 % 60 := by rw [fm _ (by decide)]; exact sec_eq se
  have p1 : padT 2 (se / 3600) = two (se / 3600) := by clear hff hsp hyy hrr hpl c1 c2 h1 h2 m1 m2 hP hlf hwd hA hB; exact pad_two (by omega) (by omega)
  have p2 : padT 2 (se % 3600 / 60) = two (se % 3600 / 60) := by clear hff hsp hyy hrr hpl c1 c2 h1 h2 m1 m2 hP hlf hwd hA hB; exact pad_two (by omega) (by omega)
  have p3 : padT 2 (se % 3600 % 60) = two (se % 3600 % 60) := by clear hff hsp hyy hrr hpl c1 c2 h1 h2 m1 m2 hP hlf hwd hA hB; exact pad_two (by omega) (by omega)
  have p4 : padT 4 yv = four yv := pad_four (by omega) (by omega)
  have p5 : padT 2 (b + 1) = two (b + 1) := pad_two (by omega) (by omega)
  have e2 : (pl * 2141 + 197913) % 65536 / 2141 + 1 = dateP pl := rfl
  unfold toldF stamp
  dsimp only
  rw [← hff, ← hsp, ← hyy, ← hrr, ← hpl, h1, h2, m1, m2, wd_eq hwd.out, f1, f2, f3, mon_eq, e2, p1, p2, p3]
  clear hff hsp hyy hrr hpl h1 h2 m1 m2 f1 f2 f3 p1 p2 p3 e2
  by_cases h12 : monP pl > 12
  · obtain ⟨q1, q2, q3⟩ := c1 h12
    have q4 : monP pl - 12 - 1 = a := by omega
    rw [if_pos h12, if_pos h12, q2, q3, q4, p4, p5]
    exact join_eq ..
  · obtain ⟨q1, q2, q3⟩ := c2 h12
    rw [if_neg h12, if_neg h12, q1, q2, q3, p4, p5]
    exact join_eq ..
end Mine
end XEndPart

section G1Part
open PySem PySem.Spec PySem.Calls PySem.W PyProof.Rows
open PySem.Builtin PySem.Builtin.Str
namespace Mine
local macro_rules | `(tactic| kpt_turns) => `(tactic| skip)
set_option maxRecDepth 100000 in
set_option maxHeartbeats 8000000 in
theorem fmt_meets (a m z : PySem.Str) (t t1 t2 t3 t4 t5 t6 t7 t8 : Tok) (dt yr hh mm ss : Int) (B : Addr) (ha : a.length ≤ 16) (hm : m.length ≤ 16) (hz : z.length ≤ 16)
   (h10 : 0 ≤ dt) (h11 : dt < 10 ^ 10) (h20 : 0 ≤ yr) (h21 : yr < 10 ^ 10) (h30 : 0 ≤ hh) (h31 : hh < 10 ^ 10) (h40 : 0 ≤ mm) (h41 : mm < 10 ^ 10) (h50 : 0 ≤ ss) (h51 : ss < 10 ^ 10) :
   Meets («str.__mod__» ⟨[.str ⟨#[37, 115, 44, 32, 37, 48, 50, 100, 32, 37, 115, 32, 37, 48, 52, 100, 32, 37, 48, 50, 100, 58, 37, 48, 50, 100, 58, 37, 48, 50, 100, 32, 37, 115]⟩ t, .ref B], []⟩) (fun _ R s => IsTup s.heap B #[.str a t1, .int dt t2, .str m t3, .int yr t4, .int hh t5, .int mm t6, .int ss t7, .str z t8] ∧ ∀ t' k, R (.ok (.ret (.str (stamp a dt m yr hh mm ss z) t'))) { s with toks := k }) := by
  kpt_run
  refine forIn_gen (fun f Qf hf hQ => ?_)
  refine KPc.turn ?_; rw [congrFun (congrFun hf _) _]; kpc_check; (repeat kpc_if)
  refine wpAny_bind ?_; refine wpAny_holding ?_; (repeat kpc_if); kpt_conv; refine wpAny_pure ?_; refine wpAny_pure ?_; kpt_piece
  refine KPc.turn ?_; rw [congrFun (congrFun hf _) _]; kpc_check; (repeat kpc_if)
  refine wpAny_pure ?_; (try dsimp only); kpt_piece
  refine KPc.turn ?_; rw [congrFun (congrFun hf _) _]; kpc_check; (repeat kpc_if)
  refine wpAny_bind ?_; refine wpAny_holding ?_; (repeat kpc_if); kpt_conv; refine wpAny_pure ?_
  dsimp only
  generalize hp : percentField _ _ _ = o
  revert o
  refine pad_int h10 rfl rfl rfl rfl rfl rfl rfl rfl (by rfl) ?_
  refine wpAny_pure ?_
  refine after_pad (by kpc_g) (y := padT 2 _) rfl (padT_len (by decide) h10 h11) (by kpc_obj) ?_; intro _ _
  refine KPc.turn ?_; rw [congrFun (congrFun hf _) _]; kpc_check; (repeat kpc_if)
  refine wpAny_pure ?_; (try dsimp only); kpt_piece
  refine KPc.turn ?_; rw [congrFun (congrFun hf _) _]; kpc_check; (repeat kpc_if)
  refine wpAny_bind ?_; refine wpAny_holding ?_; (repeat kpc_if); kpt_conv; refine wpAny_pure ?_; refine wpAny_pure ?_; kpt_piece
  refine KPc.turn ?_; rw [congrFun (congrFun hf _) _]; kpc_check; (repeat kpc_if)
  refine wpAny_pure ?_; (try dsimp only); kpt_piece
  refine KPc.turn ?_; rw [congrFun (congrFun hf _) _]; kpc_check; (repeat kpc_if)
  refine wpAny_bind ?_; refine wpAny_holding ?_; (repeat kpc_if); kpt_conv; refine wpAny_pure ?_
  dsimp only
  generalize hp : percentField _ _ _ = o
  revert o
  refine pad_int h20 rfl rfl rfl rfl rfl rfl rfl rfl (by rfl) ?_
  refine wpAny_pure ?_
  refine after_pad (by kpc_g) (y := padT 4 _) rfl (padT_len (by decide) h20 h21) (by kpc_obj) ?_; intro _ _
  refine KPc.turn ?_; rw [congrFun (congrFun hf _) _]; kpc_check; (repeat kpc_if)
  refine wpAny_pure ?_; (try dsimp only); kpt_piece
  refine KPc.turn ?_; rw [congrFun (congrFun hf _) _]; kpc_check; (repeat kpc_if)
  refine wpAny_bind ?_; refine wpAny_holding ?_; (repeat kpc_if); kpt_conv; refine wpAny_pure ?_
  dsimp only
  generalize hp : percentField _ _ _ = o
  revert o
  refine pad_int h30 rfl rfl rfl rfl rfl rfl rfl rfl (by rfl) ?_
  refine wpAny_pure ?_
  refine after_pad (by kpc_g) (y := padT 2 _) rfl (padT_len (by decide) h30 h31) (by kpc_obj) ?_; intro _ _
  refine KPc.turn ?_; rw [congrFun (congrFun hf _) _]; kpc_check; (repeat kpc_if)
  refine wpAny_pure ?_; (try dsimp only); kpt_piece
  refine KPc.turn ?_; rw [congrFun (congrFun hf _) _]; kpc_check; (repeat kpc_if)
  refine wpAny_bind ?_; refine wpAny_holding ?_; (repeat kpc_if); kpt_conv; refine wpAny_pure ?_
  dsimp only
  generalize hp : percentField _ _ _ = o
  revert o
  refine pad_int h40 rfl rfl rfl rfl rfl rfl rfl rfl (by rfl) ?_
  refine wpAny_pure ?_
  refine after_pad (by kpc_g) (y := padT 2 _) rfl (padT_len (by decide) h40 h41) (by kpc_obj) ?_; intro _ _
  refine KPc.turn ?_; rw [congrFun (congrFun hf _) _]; kpc_check; (repeat kpc_if)
  refine wpAny_pure ?_; (try dsimp only); kpt_piece
  refine KPc.turn ?_; rw [congrFun (congrFun hf _) _]; kpc_check; (repeat kpc_if)
  refine wpAny_bind ?_; refine wpAny_holding ?_; (repeat kpc_if); kpt_conv; refine wpAny_pure ?_
  dsimp only
  generalize hp : percentField _ _ _ = o
  revert o
  refine pad_int h50 rfl rfl rfl rfl rfl rfl rfl rfl (by rfl) ?_
  refine wpAny_pure ?_
  refine after_pad (by kpc_g) (y := padT 2 _) rfl (padT_len (by decide) h50 h51) (by kpc_obj) ?_; intro _ _
  refine KPc.turn ?_; rw [congrFun (congrFun hf _) _]; kpc_check; (repeat kpc_if)
  refine wpAny_pure ?_; (try dsimp only); kpt_piece
  refine KPc.turn ?_; rw [congrFun (congrFun hf _) _]; kpc_check; (repeat kpc_if)
  refine wpAny_bind ?_; refine wpAny_holding ?_; (repeat kpc_if); kpt_conv; refine wpAny_pure ?_; refine wpAny_pure ?_; kpt_piece
  refine KPc.turn ?_; rw [congrFun (congrFun hf _) _]; kpc_check; (repeat kpc_if)
  refine wpAny_pure ?_; refine hQ _ _ ?_; kpc_if; refine KPc.finish_ok (by kpc_g) (by decide +kernel) rfl ?_; first | (with_reducible assumption) | assumption
end Mine
end G1Part

section F0Part
open PySem PySem.Spec PySem.Calls PySem.W PyProof.Rows
namespace Mine
set_option maxRecDepth 100000 in
set_option maxHeartbeats 8000000 in
theorem iadd_ok (w : World) (mean : ExcName → Option Value) (mg mb : Str → Option Value) (a b : Int) (ta tb : Tok) : Claim w mean mg mb 35 2 (True) [.int a ta, .int b tb] (fun t => .int (a + b) t) := by
  unfold Claim
  k_fill
  k_with_none
  w_top off
  dsimp only [CbRet]
  intros
  rename_i hpre hdp hun hret
  refine wpAny_call ?_
  k_dflt cell_enter
  k_steps
  all_goals first | (exfalso; omega) | exact hret _ _ _ (by k_asm) (by k_asm)
set_option maxRecDepth 100000 in
set_option maxHeartbeats 8000000 in
theorem isub_ok (w : World) (mean : ExcName → Option Value) (mg mb : Str → Option Value) (a b : Int) (ta tb : Tok) : Claim w mean mg mb 70 2 (True) [.int a ta, .int b tb] (fun t => .int (a - b) t) := by
  unfold Claim
  k_fill
  k_with_none
  w_top off
  dsimp only [CbRet]
  intros
  rename_i hpre hdp hun hret
  refine wpAny_call ?_
  k_dflt cell_enter
  k_steps
  all_goals first | (exfalso; omega) | exact hret _ _ _ (by k_asm) (by k_asm)
set_option maxRecDepth 100000 in
set_option maxHeartbeats 8000000 in
theorem imul_ok (w : World) (mean : ExcName → Option Value) (mg mb : Str → Option Value) (a b : Int) (ta tb : Tok) : Claim w mean mg mb 63 2 (0 ≤ a ∧ a < 2 ^ 62 ∧ 0 ≤ b ∧ b < 2 ^ 62) [.int a ta, .int b tb] (fun t => .int (a * b) t) := by
  unfold Claim
  k_fill
  k_with_none
  w_top off
  dsimp only [CbRet]
  intros
  rename_i hpre hdp hun hret
  refine wpAny_call ?_
  k_dflt cell_enter
  obtain ⟨h1, h2, h3, h4⟩ := hpre
  k_steps
  all_goals first | (exfalso; omega) | exact hret _ _ _ (by k_asm) (by k_asm)
set_option maxRecDepth 100000 in
set_option maxHeartbeats 8000000 in
theorem ifloordiv_ok (w : World) (mean : ExcName → Option Value) (mg mb : Str → Option Value) (a b : Int) (ta tb : Tok) : Claim w mean mg mb 42 2 (0 < b ∧ b < 1073741824) [.int a ta, .int b tb] (fun t => .int (a / b) t) := by
  unfold Claim
  k_fill
  k_with_none
  w_top off
  dsimp only [CbRet]
  intros
  rename_i hpre hdp hun hret
  refine wpAny_call ?_
  k_dflt cell_enter
  obtain ⟨h1, h2⟩ := hpre
  k_with "storeName" => (with_reducible refine store_fd (by omega) ?_)
  k_steps
  all_goals first | (exfalso; omega) | exact hret _ _ _ (by k_asm) (by k_asm)
set_option maxRecDepth 100000 in
set_option maxHeartbeats 8000000 in
theorem imod_ok (w : World) (mean : ExcName → Option Value) (mg mb : Str → Option Value) (a b : Int) (ta tb : Tok) : Claim w mean mg mb 56 2 (0 < b) [.int a ta, .int b tb] (fun t => .int (a % b) t) := by
  unfold Claim
  k_fill
  k_with_none
  w_top off
  dsimp only [CbRet]
  intros
  rename_i hpre hdp hun hret
  refine wpAny_call ?_
  k_dflt cell_enter
  k_with "storeName" => (with_reducible refine store_fm (by omega) ?_)
  k_steps
  all_goals first | (exfalso; omega) | exact hret _ _ _ (by k_asm) (by k_asm)
end Mine
end F0Part

section F1Part
open PySem PySem.Spec PySem.Calls PySem.W PyProof.Rows
namespace Mine
local macro_rules | `(tactic| walk_at "exec While Name cons nil") => `(tactic| k_extra "my while")
local macro_rules | `(tactic| walk_at "subscriptTail Name Slice bytes ref") => `(tactic| k_extra "my slice")
local macro_rules | `(tactic| walk_at "binaryOp Add bytes bytes") => `(tactic| k_extra "my add")
set_option maxRecDepth 100000 in
set_option maxHeartbeats 8000000 in
theorem int2ap_ok (w : World) (mean : ExcName → Option Value) (mg mb : Str → Option Value) (n : Int) (t : Tok) : Claim w mean mg mb 28 4 (0 ≤ n ∧ n < 2^64) [.int n t] (fun t => .bytes (apB n) t) := by
  unfold Claim
  k_fill
  k_with_none
  w_top off
  dsimp only [CbRet]
  intros
  rename_i hpre hdp hun hret
  obtain ⟨hn0, hn1⟩ := hpre
  refine wpAny_call ?_
  k_dflt cell_enter
  k_with "my while" => (k_while_given ["num!"] (fun (n0 : Int) script num (val : Array UInt8) => 0 ≤ num ∧ num ≤ n0 ∧ hexL num.toNat ++ KBw.bInts val = hexL n0.toNat) (fun n0 script num val => num.toNat) "num" "val")
  k_with "storeName" => ((with_reducible show wpAny _ _ (storeName _ _ (Value.int (if n < 0 then -n else n) _)) _ _ _); rw [if_neg (Int.not_lt.mpr hn0)])
  k_with "my slice" => (k_here; (rename Fr _ _ _ _ => F'); (rename News _ _ _ _ => N'); k_dflt (refine KBc.slice_K (ks := apKs) (s := ⟨_, _, _, _, _⟩) F' N' (by rfl) (by constructor) (by constructor) (by decide) ?_); intro _ _ _ F' N' kbcK; replace kbcK := ap_slice (by assumption) kbcK)
  k_with "my add" => (k_dflt (refine KBa.add_K (by assumption) rfl (ap_fit hn1 (by assumption)) ?_); intro _ _ kbaApp)
  k_with "state" => first | exact ap_start hn0 | exact ap_turn (by assumption) (by assumption) (by assumption) (by assumption) (by assumption)
  k_with "measure" => exact ap_less (by assumption) (by assumption)
  k_steps
  have e := ap_done (n := n) (by assumption) (by assumption)
  rw [e]
  exact hret _ _ _ (by assumption) (by assumption)
end Mine
end F1Part

section F2Part
open PySem PySem.Spec PySem.Calls PySem.W PyProof.Rows
namespace Mine
local macro_rules | `(tactic| walk_at "call ref") => `(tactic| (refine wpAny_call ?_; k_dflt (refine' code_def ?k1 ?k2 ?k3 ?k4 ?k5 ?kA ?kF ?kK ?k6 ?k7 ?k8 ?k9 ?kB ?_ ?c2 ?c3 ?c4 ?c5; (case kA => exact rfl); (case kF => exact rfl); (case kK => first | exact rfl | assumption); (case k1 => k_asm); (case k2 => k_asm); (case k3 => k_asm); (case k4 => k_asm); (case k5 => k_asm); (case k6 => k_is); (case k7 => k_is); (case k8 => ktr_room); (case k9 => exact BindsTo.of_eq rfl); (case c5 => decide); (case kB => exact locs rfl); (case c2 => exact rfl); (case c3 => exact rfl); (case c4 => exact rfl); k_whole; intro g' L' h' FG' F' N' B' X' T'; (try dsimp only); (try k_lift B'); (try k_fold))))
set_option maxRecDepth 100000 in
set_option maxHeartbeats 8000000 in
theorem read4_ok (w : World) (mean : ExcName → Option Value) (mg mb : Str → Option Value) (b : Array UInt8) (v : Int) (tb tp : Tok) : Claim w mean mg mb 77 4 (rdL 4 (KBw.bInts b) = v ∧ (KBw.bInts b).length ≤ 16 ∧ ∀ k ∈ KBw.bInts b, 65 ≤ k ∧ k < 81) [.bytes b tb, .int 4 tp] (fun t => .int v t) := by
  unfold Claim
  k_fill
  k_with_none
  w_top off
  dsimp only [CbRet]
  intros
  rename_i hpre hdp hun hret
  obtain ⟨hv, hn0, hn1⟩ := hpre
  subst hv
  refine wpAny_call ?_
  k_dflt cell_enter
  k_with "pyIter bytes" => (k_state (fun (pre : List Int) (number : Int) => number = rdL 4 pre ∧ 0 ≤ number ∧ number < 2 ^ 64) "number")
  k_with "state" => first | exact rd_start 4 | exact rd_turn (p := 4) (by decide) hn0 hn1 (by assumption) (by assumption)
  k_steps
  exact cb_retI hret (by assumption) (by assumption) (by assumption)
set_option maxRecDepth 100000 in
set_option maxHeartbeats 8000000 in
theorem read1_ok (w : World) (mean : ExcName → Option Value) (mg mb : Str → Option Value) (b : Array UInt8) (v : Int) (tb tp : Tok) : Claim w mean mg mb 77 4 (rdL 1 (KBw.bInts b) = v ∧ (KBw.bInts b).length ≤ 16 ∧ ∀ k ∈ KBw.bInts b, 65 ≤ k ∧ k < 81) [.bytes b tb, .int 1 tp] (fun t => .int v t) := by
  unfold Claim
  k_fill
  k_with_none
  w_top off
  dsimp only [CbRet]
  intros
  rename_i hpre hdp hun hret
  obtain ⟨hv, hn0, hn1⟩ := hpre
  subst hv
  refine wpAny_call ?_
  k_dflt cell_enter
  k_with "pyIter bytes" => (k_state (fun (pre : List Int) (number : Int) => number = rdL 1 pre ∧ 0 ≤ number ∧ number < 2 ^ 64) "number")
  k_with "state" => first | exact rd_start 1 | exact rd_turn (p := 1) (by decide) hn0 hn1 (by assumption) (by assumption)
  k_steps
  exact cb_retI hret (by assumption) (by assumption) (by assumption)
end Mine
end F2Part

section F4Part
open PySem PySem.Spec PySem.Calls PySem.W PyProof.Rows
namespace Mine
set_option maxRecDepth 100000 in
set_option maxHeartbeats 8000000 in
theorem two_ok (w : World) (mean : ExcName → Option Value) (mg mb : Str → Option Value) (n : Int) (t : Tok) : Claim w mean mg mb 105 4 (0 ≤ n ∧ n < 100) [.int n t] (fun t => .str (two n) t) := by
  unfold Claim
  k_fill
  k_with_none
  w_top off
  dsimp only [CbRet]
  intros
  rename_i hpre hdp hun hret
  obtain ⟨hn0, hn1⟩ := hpre
  refine wpAny_call ?_
  k_dflt cell_enter
  k_steps
  rw [str_two hn0 hn1]
  exact hret _ _ _ (by assumption) (by assumption)
set_option maxRecDepth 100000 in
set_option maxHeartbeats 8000000 in
theorem ahead_ok (w : World) (mean : ExcName → Option Value) (mg mb : Str → Option Value) (n : Int) (t : Tok) : Claim w mean mg mb 98 4 (0 ≤ n ∧ n < 100000) [.int n t] (fun t => .int (aheadF n) t) := by
  unfold Claim
  k_fill
  k_with_none
  w_top off
  dsimp only [CbRet]
  intros
  rename_i hpre hdp hun hret
  obtain ⟨hn0, hn1⟩ := hpre
  refine wpAny_call ?_
  k_dflt cell_enter
  k_steps
  rw [fd _ (b := 4) (by decide), fd _ (b := 100) (by decide), fd _ (b := 400) (by decide)]
  exact hret _ _ _ (by assumption) (by assumption)
end Mine
end F4Part

section F6Part
open PySem PySem.Spec PySem.Calls PySem.W PyProof.Rows
namespace Mine
abbrev ClaimN (w : World) (mean : ExcName → Option Value) (mg mb : Str → Option Value) (f : Addr) (rm : Nat) (pre : List (Addr × Obj) → Prop) (vs : List Value) (R : Tok → Value) : Prop :=
  ∀ (dp un : Nat) (gd : Option (List Code)) (cn : Str) (cs : Scope) (a : Addr) (ccd : Value) (cl : List (Str × Addr)) (outer : List Env) (A₀ : Around) (base h₀ : Heap) (L : Addr) (m : Str → Option Value) (news : List (Addr × Obj)) (s : Shared) (Q E : Value → Shared → Prop),
    Below A₀ base outer h₀ → Fr h₀ L s.heap m → (hd.heap_39 w.params).In h₀ → News h₀ L s.heap news → Top hd.view_39 (looseW hd.view_39 []) mean mg mb h₀ → cs.kind = .function → pre news → dp + rm < recursionLimit → un + 8 * rm < cLine → CbRet h₀ L m news s Q R →
      wpAny (model PySem.Challenge.rw_xo0001_01.row.prog w) (ktrTop dp un gd cn cs L a ccd cl outer) (call (.ref f) vs) Q E s
local macro_rules | `(tactic| walk_at "subscriptTail Name Constant ref int") => `(tactic| k_extra "my tup")
local macro_rules | `(tactic| walk_at "binaryOp Mod str ref") => `(tactic| k_extra "my percent")
set_option maxRecDepth 100000 in
set_option maxHeartbeats 8000000 in
theorem fmt_ok (w : World) (mean : ExcName → Option Value) (mg mb : Str → Option Value) (T : Addr) (yr mo dt hh mm ss wd : Int) (z : Str) (k : Nat) (a1 a2 a3 a4 a5 a6 a7 a8 a9 t : Tok) :
    ClaimN w mean mg mb 21 4 (fun news => (T, ({ cls := .type "tuple", data := .seq #[.int yr a1, .int mo a2, .int dt a3, .int hh a4, .int mm a5, .int ss a6, .int wd a7, .int 0 a8, .int 0 a9] k } : Obj)) ∈ news ∧ 0 ≤ yr ∧ yr < 100000 ∧ 1 ≤ mo ∧ mo ≤ 12 ∧ 0 ≤ dt ∧ dt < 100 ∧ 0 ≤ hh ∧ hh < 100 ∧ 0 ≤ mm ∧ mm < 100 ∧ 0 ≤ ss ∧ ss < 100 ∧ 0 ≤ wd ∧ wd < 7 ∧ z.length ≤ 5)
      [.ref T, .str z t] (fun t => .str (stamp (dayNames.getD wd.toNat PySem.Str.empty) dt (monNames.getD (mo - 1).toNat PySem.Str.empty) yr hh mm ss z) t) := by
  unfold ClaimN
  k_fill
  k_with_none
  w_top off
  dsimp only [CbRet]
  intros
  rename_i hpre hdp hun hret
  obtain ⟨hT, y0, y1, m0, m1, d0, d1, h0, h1, n0, n1, s0, s1, w0, w1, z0⟩ := hpre
  refine wpAny_call ?_
  k_dflt cell_enter
  k_with "table" => skip
  k_with "my tup" => ((with_reducible show wpAny _ _ (subscriptTail _ _ (Value.ref T) (Value.int _ _)) _ _ _); k_dflt (refine' item_tupleT (News.isTup (by k_asm) (by repeat first | exact hT | refine List.Mem.tail _ ?_)) ?a ?b ?c ?d ?_; (case a => decide); (case b => decide); (case c => rfl); (case d => rfl)))
  k_with "my percent" => ((with_reducible show wpAny _ _ (binaryOp Operator.Mod (Value.str _ _) (Value.ref _)) _ _ _); k_dflt (refine' KPt.mod_tuple ?kptN ?kptb ?kptF ?kptM ?_; (case kptN => k_asm); (case kptb => k_mem); (case kptF => kpt_eq); (case kptM => exact (fmt_meets _ _ _ _ _ _ _ _ _ _ _ _ _ _ _ _ _ _ (day_len _) (mon_len _) (by omega) (by omega) (by omega) (by omega) (by omega) (by omega) (by omega) (by omega) (by omega) (by omega) (by omega)))); intro _ _)
  k_steps
  refine hret _ _ _ (by assumption) ?_
  refine' cb_drop ?cbN ?cbS
  case cbN => assumption
  case cbS => kcj_all
end Mine
end F6Part

section F3cPart
open PySem PySem.Spec PySem.Calls PySem.W PyProof.Rows
namespace Mine
local macro_rules | `(tactic| walk_at "call ref") => `(tactic| (refine wpAny_call ?_; k_dflt (refine' code_def ?k1 ?k2 ?k3 ?k4 ?k5 ?kA ?kF ?kK ?k6 ?k7 ?k8 ?k9 ?kB ?_ ?c2 ?c3 ?c4 ?c5; (case kA => exact rfl); (case kF => exact rfl); (case kK => first | exact rfl | assumption); (case k1 => k_asm); (case k2 => k_asm); (case k3 => k_asm); (case k4 => k_asm); (case k5 => k_asm); (case k6 => k_is); (case k7 => k_is); (case k8 => ktr_room); (case k9 => exact BindsTo.of_eq rfl); (case c5 => decide); (case kB => exact locs rfl); (case c2 => exact rfl); (case c3 => exact rfl); (case c4 => exact rfl); k_whole; intro g' L' h' FG' F' N' B' X' T'; (try dsimp only); (try k_lift B'); (try k_fold))))
local macro_rules | `(tactic| walk_at "call ref") => `(tactic| k_extra "my call")
local macro_rules | `(tactic| walk_at "subscriptTail Name Slice bytes ref") => `(tactic| k_extra "my slice")
local macro_rules | `(tactic| walk_at "subscriptTail Name Constant bytes int") => `(tactic| k_extra "my item")
set_option maxRecDepth 100000 in
set_option maxHeartbeats 8000000 in
theorem told_ok (w : World) (mean : ExcName → Option Value) (mg mb : Str → Option Value) (d se : Int) (z : Str) (t1 t2 t3 : Tok) : Claim w mean mg mb 91 16 (306 ≤ d ∧ d < 3652365 ∧ 0 ≤ se ∧ se < 86400 ∧ z.length ≤ 5) [.int d t1, .int se t2, .str z t3] (fun t => .str (toldF d se z) t) := by
  unfold Claim
  k_fill
  k_with_none
  w_top off
  dsimp only [CbRet]
  intros
  rename_i hpre hdp hun hret
  obtain ⟨hd0, hd1, hs0, hs1, hz⟩ := hpre
  refine wpAny_call ?_
  k_dflt cell_enter
  k_with "my call" => ((with_reducible show wpAny _ _ (call (Value.ref 35) [Value.int _ _, Value.int _ _]) _ _ _); k_dflt (refine' iadd_ok _ _ _ _ _ _ _ _ _ _ _ _ _ _ _ _ _ _ _ _ _ _ _ _ _ _ ?k1 ?k2 ?k3 ?k4 ?k5 ?kK ?kp ?kd ?ku ?_; (case k1 => k_asm); (case k2 => k_asm); (case k3 => k_asm); (case k4 => k_asm); (case k5 => k_asm); (case kK => first | exact rfl | assumption); (case kp => exact trivial); (case kd => ktr_room); (case ku => ktr_units)); intro t9 h9 tk9 F9 N9; (try dsimp only); (try k_fold))
  k_with "my call" => ((with_reducible show wpAny _ _ (call (Value.ref 70) [Value.int _ _, Value.int _ _]) _ _ _); k_dflt (refine' isub_ok _ _ _ _ _ _ _ _ _ _ _ _ _ _ _ _ _ _ _ _ _ _ _ _ _ _ ?k1 ?k2 ?k3 ?k4 ?k5 ?kK ?kp ?kd ?ku ?_; (case k1 => k_asm); (case k2 => k_asm); (case k3 => k_asm); (case k4 => k_asm); (case k5 => k_asm); (case kK => first | exact rfl | assumption); (case kp => exact trivial); (case kd => ktr_room); (case ku => ktr_units)); intro t9 h9 tk9 F9 N9; (try dsimp only); (try k_fold))
  k_with "my call" => ((with_reducible show wpAny _ _ (call (Value.ref 63) [Value.int _ _, Value.int _ _]) _ _ _); k_dflt (refine' imul_ok _ _ _ _ _ _ _ _ _ _ _ _ _ _ _ _ _ _ _ _ _ _ _ _ _ _ ?k1 ?k2 ?k3 ?k4 ?k5 ?kK ?kp ?kd ?ku ?_; (case k1 => k_asm); (case k2 => k_asm); (case k3 => k_asm); (case k4 => k_asm); (case k5 => k_asm); (case kK => first | exact rfl | assumption); (case kp => exact ⟨by omega, by omega, by omega, by omega⟩); (case kd => ktr_room); (case ku => ktr_units)); intro t9 h9 tk9 F9 N9; (try dsimp only); (try k_fold))
  k_with "my call" => ((with_reducible show wpAny _ _ (call (Value.ref 42) [Value.int _ _, Value.int _ _]) _ _ _); k_dflt (refine' ifloordiv_ok _ _ _ _ _ _ _ _ _ _ _ _ _ _ _ _ _ _ _ _ _ _ _ _ _ _ ?k1 ?k2 ?k3 ?k4 ?k5 ?kK ?kp ?kd ?ku ?_; (case k1 => k_asm); (case k2 => k_asm); (case k3 => k_asm); (case k4 => k_asm); (case k5 => k_asm); (case kK => first | exact rfl | assumption); (case kp => exact ⟨by decide, by decide⟩); (case kd => ktr_room); (case ku => ktr_units)); intro t9 h9 tk9 F9 N9; (try dsimp only); (try k_fold))
  k_with "my call" => ((with_reducible show wpAny _ _ (call (Value.ref 56) [Value.int _ _, Value.int _ _]) _ _ _); k_dflt (refine' imod_ok _ _ _ _ _ _ _ _ _ _ _ _ _ _ _ _ _ _ _ _ _ _ _ _ _ _ ?k1 ?k2 ?k3 ?k4 ?k5 ?kK ?kp ?kd ?ku ?_; (case k1 => k_asm); (case k2 => k_asm); (case k3 => k_asm); (case k4 => k_asm); (case k5 => k_asm); (case kK => first | exact rfl | assumption); (case kp => (show (0 : Int) < _; decide)); (case kd => ktr_room); (case ku => ktr_units)); intro t9 h9 tk9 F9 N9; (try dsimp only); (try k_fold))
  k_with "my call" => ((with_reducible show wpAny _ _ (call (Value.ref 28) [Value.int _ _]) _ _ _); k_dflt (refine' int2ap_ok _ _ _ _ _ _ _ _ _ _ _ _ _ _ _ _ _ _ _ _ _ _ _ _ ?k1 ?k2 ?k3 ?k4 ?k5 ?kK ?kp ?kd ?ku ?_; (case k1 => k_asm); (case k2 => k_asm); (case k3 => k_asm); (case k4 => k_asm); (case k5 => k_asm); (case kK => first | exact rfl | assumption); (case kp => constructor <;> omega); (case kd => ktr_room); (case ku => ktr_units)); intro t9 h9 tk9 F9 N9; (try dsimp only); (try k_fold))
  k_with "my call" => ((with_reducible show wpAny _ _ (call (Value.ref 77) [Value.bytes _ _, Value.int 4 _]) _ _ _); k_dflt (refine' read4_ok _ _ _ _ _ _ _ _ _ _ _ _ _ _ _ _ _ _ _ _ _ _ _ _ _ _ ?k1 ?k2 ?k3 ?k4 ?k5 ?kK ?kp ?kd ?ku ?_; (case k1 => k_asm); (case k2 => k_asm); (case k3 => k_asm); (case k4 => k_asm); (case k5 => k_asm); (case kK => first | exact rfl | assumption); (case kp => assumption); (case kd => ktr_room); (case ku => ktr_units)); intro t9 h9 tk9 F9 N9; (try dsimp only); (try k_fold))
  k_with "my slice" => (k_here; (rename Fr _ _ _ _ => F'); (rename News _ _ _ _ => N'); k_dflt (refine KBc.slice_K (s := ⟨_, _, _, _, _⟩) F' N' (apB_ints _) (by constructor) (by constructor) (ap_size (by omega)) ?_); intro _ _ _ F' N' kbcK; first | replace kbcK := cut_hi (by omega) (by omega) kbcK | replace kbcK := cut_lo (by omega) (by omega) kbcK | replace kbcK := word_rest (by omega) (by omega) kbcK)
  k_with "my call" => ((with_reducible show wpAny _ _ (call (Value.ref 77) [Value.bytes (apB d) _, Value.int 1 _]) _ _ _); (obtain ⟨dv, hdv, hdv2⟩ := day_word (N := d) (by omega) (by omega)); k_dflt (refine' read1_ok _ _ _ _ _ _ _ _ _ _ _ _ _ _ _ _ _ _ _ _ _ _ _ _ _ _ ?k1 ?k2 ?k3 ?k4 ?k5 ?kK ?kp ?kd ?ku ?_; (case k1 => k_asm); (case k2 => k_asm); (case k3 => k_asm); (case k4 => k_asm); (case k5 => k_asm); (case kK => first | exact rfl | assumption); (case kp => exact hdv); (case kd => ktr_room); (case ku => ktr_units)); intro t9 h9 tk9 F9 N9; (try dsimp only); (try k_fold))
  k_with "my call" => ((with_reducible show wpAny _ _ (call (Value.ref 21) [Value.ref _, Value.str _ _]) _ _ _); k_dflt (refine' fmt_ok _ _ _ _ _ _ _ _ _ _ _ _ _ _ _ _ _ _ _ _ _ _ _ _ _ _ _ _ _ _ _ _ _ _ _ _ _ _ _ _ _ _ ?k1 ?k2 ?k3 ?k4 ?k5 ?kK ?kp ?kd ?ku ?_; (case k1 => k_asm); (case k2 => k_asm); (case k3 => k_asm); (case k4 => k_asm); (case k5 => k_asm); (case kK => first | exact rfl | assumption); (case kp => refine ⟨by k_mem, by omega, by omega, by omega, by omega, by omega, by omega, by omega, by omega, by omega, by omega, by omega, by omega, by omega, by omega, hz⟩); (case kd => ktr_room); (case ku => ktr_units)); intro t9 h9 tk9 F9 N9; (try dsimp only); (try k_fold))
  k_with "my item" => ((with_reducible show wpAny _ _ (subscriptTail _ _ (Value.bytes (apB _) _) (Value.int 0 _)) _ _ _); k_dflt (refine ap_item (by omega) (by omega) ?_); intro _ _)
  k_with "storeName" => (with_reducible refine store_fd (by decide) ?_)
  k_with "storeName" => (with_reducible refine store_fm (by decide) ?_)
  k_with "storeName" => ((with_reducible show wpAny _ _ (storeName _ (Str.ofString "fourfold") (Value.int (_ + 3) _)) _ _ _); refine store_gen (fun ff hff => ?_); (have hff2 : 3 ≤ ff ∧ ff ≤ 14609459 := by omega); replace hff := Is.mk hff)
  k_with "storeName" => ((with_reducible show wpAny _ _ (storeName _ (Str.ofString "spot") (Value.int (_ + 3) _)) _ _ _); refine store_gen (fun sp hsp => ?_); (have hsp2 : 3 ≤ sp ∧ sp ≤ 146099 := by omega); replace hsp := Is.mk hsp)
  k_with "storeName" => ((with_reducible show wpAny _ _ (storeName _ (Str.ofString "years") (Value.int (_ / 4294967296) _)) _ _ _); refine store_gen (fun yy hyy => ?_); (have hyy2 : 0 ≤ yy ∧ yy ≤ 99 := by omega); replace hyy := Is.mk hyy)
  k_with "storeName" => ((with_reducible show wpAny _ _ (storeName _ (Str.ofString "rest") (Value.int (_ % 4294967296) _)) _ _ _); refine store_gen (fun rr hrr => ?_); (have hrr2 : 0 ≤ rr ∧ rr < 4294967296 := by omega); replace hrr := Is.mk hrr)
  k_with "storeName" => ((with_reducible show wpAny _ _ (storeName _ (Str.ofString "year") (Value.int (_ + _) _)) _ _ _); refine store_gen (fun yr hyr => ?_); (first | (have hyr2 : 0 ≤ yr ∧ yr ≤ 9999 := by omega) | (have hyr2 : 0 ≤ yr ∧ yr ≤ 10000 := by omega)); replace hyr := Is.mk hyr)
  k_with "storeName" => ((with_reducible show wpAny _ _ (storeName _ (Str.ofString "place") (Value.int (_ / 4) _)) _ _ _); refine store_gen (fun pl hpl => ?_); (have hpl2 : 0 ≤ pl ∧ pl ≤ 365 := by omega); replace hpl := Is.mk hpl)
  k_with "storeName" => ((with_reducible show wpAny _ _ (storeName _ (Str.ofString "month") (Value.int (_ - 65) _)) _ _ _); refine store_gen (fun mo hmo => ?_); (have hmo2 : 3 ≤ mo ∧ mo ≤ 14 := by omega); replace hmo := Is.mk hmo)
  k_with "storeName" => ((with_reducible show wpAny _ _ (storeName _ (Str.ofString "month") (Value.int (_ - 12) _)) _ _ _); refine store_gen (fun mo hmo => ?_); (have hmo2 : 1 ≤ mo ∧ mo ≤ 2 := by omega); replace hmo := Is.mk hmo)
  k_with "storeName" => ((with_reducible show wpAny _ _ (storeName _ (Str.ofString "date") (Value.int (_ + 1) _)) _ _ _); refine store_gen (fun dt hdt => ?_); (have hdt2 : 1 ≤ dt ∧ dt ≤ 31 := by omega); replace hdt := Is.mk hdt)
  k_with "storeName" => ((with_reducible show wpAny _ _ (storeName _ (Str.ofString "hour") (Value.int (_ / 4294967296) _)) _ _ _); refine store_gen (fun hh hhh => ?_); (have hhh2 : 0 ≤ hh ∧ hh < 24 := by omega); replace hhh := Is.mk hhh)
  k_with "storeName" => ((with_reducible show wpAny _ _ (storeName _ (Str.ofString "minute") (Value.int (_ / 4294967296) _)) _ _ _); refine store_gen (fun mm hmm => ?_); (have hmm2 : 0 ≤ mm ∧ mm < 60 := by omega); replace hmm := Is.mk hmm)
  k_with "storeName" => ((with_reducible show wpAny _ _ (storeName _ (Str.ofString "weekday") (Value.int (_ % 7) _)) _ _ _); refine store_gen (fun wd hwd => ?_); rw [hdv2] at hwd; (have hwd2 : 0 ≤ wd ∧ wd < 7 := by omega); replace hwd := Is.mk hwd)
  k_steps
  refine cb_retS hret ?e1 (by with_reducible assumption) (cb_drop (by with_reducible assumption) ?e2)
  case e2 => (intro p hp; repeat (first | (with_reducible exact hp) | (with_reducible refine List.mem_cons_of_mem _ ?_) | (with_reducible refine List.mem_append_right _ ?_)))
  case e1 => exact told_val1 (by with_reducible assumption) (by with_reducible assumption) (by with_reducible assumption) (by with_reducible assumption) (by with_reducible assumption) (by with_reducible assumption) (by with_reducible assumption) (by with_reducible assumption) (by with_reducible assumption) (by with_reducible assumption) (by with_reducible assumption) (by with_reducible assumption) (by with_reducible assumption) (by with_reducible assumption) (by with_reducible assumption) (by with_reducible assumption)
  refine cb_retS hret ?e1 (by with_reducible assumption) (cb_drop (by with_reducible assumption) ?e2)
  case e2 => (intro p hp; repeat (first | (with_reducible exact hp) | (with_reducible refine List.mem_cons_of_mem _ ?_) | (with_reducible refine List.mem_append_right _ ?_)))
  case e1 => exact told_val2 (by with_reducible assumption) (by with_reducible assumption) (by with_reducible assumption) (by with_reducible assumption) (by with_reducible assumption) (by with_reducible assumption) (by with_reducible assumption) (by with_reducible assumption) (by with_reducible assumption) (by with_reducible assumption) (by with_reducible assumption) (by with_reducible assumption) (by with_reducible assumption) (by with_reducible assumption)
end Mine
end F3cPart

section F5Part
open PySem PySem.Spec PySem.Calls PySem.W PyProof.Rows
namespace Mine
local macro_rules | `(tactic| walk_at "call ref") => `(tactic| k_extra "my call")
local macro_rules | `(tactic| walk_at "exec While Compare cons nil") => `(tactic| k_extra "my while")
local macro_rules | `(tactic| walk_at "binaryOp Add str str") => `(tactic| k_extra "my plus")
local macro_rules | `(tactic| walk_at "inplaceOp Add str str") => `(tactic| k_extra "my plus")
local macro_rules | `(tactic| walk_at "eval BoolOp") => `(tactic| k_extra "my leap")
local macro_rules | `(tactic| walk_at "exec For Name Tuple") => `(tactic| k_extra "my for")
set_option maxRecDepth 100000 in
set_option maxHeartbeats 8000000 in
theorem line_ok (w : World) (mean : ExcName → Option Value) (mg mb : Str → Option Value) (d se : Int) (z : Str) (t1 t2 t3 : Tok) : Claim w mean mg mb 112 16 (0 ≤ d ∧ d < 3652059 ∧ 0 ≤ se ∧ se < 86400 ∧ z.length ≤ 5) [.int d t1, .int se t2, .str z t3] (fun t => .str (toldF (d + 306) se z) t) := by
  unfold Claim
  k_fill
  k_with_none
  w_top off
  dsimp only [CbRet]
  intros
  rename_i hpre hdp hun hret
  obtain ⟨hd0, hd1, hs0, hs1, hz⟩ := hpre
  refine wpAny_call ?_
  k_dflt cell_enter
  k_with "my call" => ((with_reducible show wpAny _ _ (call (Value.ref 105) [Value.int _ _]) _ _ _); k_dflt (refine' two_ok _ _ _ _ _ _ _ _ _ _ _ _ _ _ _ _ _ _ _ _ _ _ _ _ ?k1 ?k2 ?k3 ?k4 ?k5 ?kK ?kp ?kd ?ku ?_; (case k1 => k_asm); (case k2 => k_asm); (case k3 => k_asm); (case k4 => k_asm); (case k5 => k_asm); (case kK => first | exact rfl | assumption); (case kp => first | exact pre_hour hs0 hs1 | exact pre_min se | exact pre_sec se | (constructor <;> omega)); (case kd => ktr_room); (case ku => ktr_units)); intro t9 h9 tk9 F9 N9; (try dsimp only); (try k_fold))
  k_with "my call" => ((with_reducible show wpAny _ _ (call (Value.ref 98) [Value.int _ _]) _ _ _); k_dflt (refine' ahead_ok _ _ _ _ _ _ _ _ _ _ _ _ _ _ _ _ _ _ _ _ _ _ _ _ ?k1 ?k2 ?k3 ?k4 ?k5 ?kK ?kp ?kd ?ku ?_; (case k1 => k_asm); (case k2 => k_asm); (case k3 => k_asm); (case k4 => k_asm); (case k5 => k_asm); (case kK => first | exact rfl | assumption); (case kp => constructor <;> omega); (case kd => ktr_room); (case ku => ktr_units)); intro t9 h9 tk9 F9 N9; (try dsimp only); (try k_fold))
  k_with "my while" => (k_while (fun (_ : List Int) (year : Int) => 1 ≤ year ∧ year ≤ 9999 ∧ aheadF year ≤ d) (fun (_ : List Int) (year : Int) => (10000 - year).toNat) "year")
  k_with "state" => first | exact year_start hd0 hd1 | exact year_turn hd1 (by assumption) (by assumption)
  k_with "storeName" => ((with_reducible show wpAny _ _ (storeName _ (Str.ofString "year") (Value.int (1 + Int.fdiv _ _) _)) _ _ _); rw [fd _ (b := 366) (by decide)])
  k_with "storeName" => ((with_reducible show wpAny _ _ (storeName _ (Str.ofString "left") (Value.int (_ - aheadF _) _)) _ _ _); (rename aheadF _ ≤ d => hA); (obtain ⟨yv, hyv⟩ := name_it hA); subst hyv; (have hyv0 : 0 ≤ yv := by omega); (have hyv1 : yv < 10000 := by omega); k_dflt (refine store_left hA (by assumption) ?_); intro lf hlf hl0 hl2 hl1)
  k_with "my plus" => (k_dflt (refine PyProof.Rows.add_str (hsz := ?hz) (fun _ _ => ?_)); (case hz => (refine size_room ?_; simp only [PySem.Str.length_append, two_len, four_len, lit_comma, lit_blank, lit_colon]; (have hl8 := day_len wd.toNat); (have hl9 := mon_len a.toNat); omega)))
  k_with "my plus" => (k_dflt (refine PyProof.Rows.iadd_str (hsz := ?hz) (fun _ _ => ?_)); (case hz => (refine size_room ?_; simp only [PySem.Str.length_append, two_len, four_len, lit_comma, lit_blank, lit_colon]; (have hl8 := day_len wd.toNat); (have hl9 := mon_len a.toNat); omega)))
  k_with "my plus" => (with_reducible rw [slice_day (k := wd) hwd2.1 hwd2.2])
  k_with "my plus" => (with_reducible rw [slice_mon (k := a) a0 a1])
  k_with "my plus" => (with_reducible rw [str_four (n := yv) hyv0 hyv1])
  k_with "storeName" => ((with_reducible show wpAny _ _ (storeName _ (Str.ofString "weekday") (Value.int (_ % 7) _)) _ _ _); refine store_gen (fun wd hwd => ?_); (have hwd2 : 0 ≤ wd ∧ wd < 7 := by omega); replace hwd := Is.mk hwd)
  k_with "storeName" => ((with_reducible show wpAny _ _ (storeName _ (Str.ofString "weekday") (Value.int (Int.fmod _ _) _)) _ _ _); (with_reducible refine store_fm (by decide) ?_))
  k_with "my leap" => (
    (with_reducible show wpAny _ _ (eval (Expr.BoolOp _ _ _) _) _ _ _)
    (fail_if_success (have hc9 : Cut := by assumption))
    k_dflt (refine cut_bool (leapB yv) (fun Qx hx => ?_) ?_)
    k_dflt (focus (
      (have hcut := Cut.it)
      k_steps
      all_goals first | exact hx _ _ (leap_f1 (by assumption)) | exact hx _ _ (leap_t1 (by assumption) (by assumption)) | exact hx _ _ (leap_d (by assumption) (by assumption))))
    intro _)
  k_with "my for" => (
    (with_reducible show wpAny _ _ (exec (Stmt.For _ _ _ _ _) _) _ _ _)
    (fail_if_success (have hc9 : Cut := by assumption))
    (rename Fr _ _ _ _ => lF)
    (rename News _ _ _ _ => lN)
    k_dflt (refine cut_two (Str.ofString "month") (Str.ofString "left") (Str.ofString "size") (fun a b => splitF (sizesF (leapB yv)) 0 lf = (a, b)) lF lN (fun Qx hx => ?_) ?_)
    k_dflt (focus (
      (have hcut := Cut.it)
      k_steps
      (refine' hx _ _ _ _ _ _ _ (by k_asm) (cb_drop (by k_asm) ?n1) ?c1 ?c2 ?c3 ?c4)
      (case n1 => (intro p hp; repeat (first | (with_reducible exact hp) | (with_reducible refine List.mem_cons_of_mem _ ?_) | (with_reducible refine List.mem_append_right _ ?_))))
      (case c1 => with_unfolding_all rfl)
      (case c2 => with_unfolding_all rfl)
      (case c3 => (intro z z1 z2 z3; simp only [z1, z2, z3, if_false]))
      (case c4 => ((first | rw [sizes_t (by with_reducible assumption : leapB yv = true)] | rw [sizes_f (by with_reducible assumption : leapB yv = false)]); (repeat (with_reducible refine sp_miss (by with_reducible assumption) ?_)); (first | (with_reducible refine sp_hit (by with_reducible assumption) ?_) | (with_reducible refine sp_end ?_)); rfl))
      (refine' hx _ _ _ _ _ _ _ (by k_asm) (cb_drop (by k_asm) ?n1) ?c1 ?c2 ?c3 ?c4)
      (case n1 => (intro p hp; repeat (first | (with_reducible exact hp) | (with_reducible refine List.mem_cons_of_mem _ ?_) | (with_reducible refine List.mem_append_right _ ?_))))
      (case c1 => with_unfolding_all rfl)
      (case c2 => with_unfolding_all rfl)
      (case c3 => (intro z z1 z2 z3; simp only [z1, z2, z3, if_false]))
      (case c4 => ((first | rw [sizes_t (by with_reducible assumption : leapB yv = true)] | rw [sizes_f (by with_reducible assumption : leapB yv = false)]); (repeat (with_reducible refine sp_miss (by with_reducible assumption) ?_)); (first | (with_reducible refine sp_hit (by with_reducible assumption) ?_) | (with_reducible refine sp_end ?_)); rfl))
      (refine' hx _ _ _ _ _ _ _ (by k_asm) (cb_drop (by k_asm) ?n1) ?c1 ?c2 ?c3 ?c4)
      (case n1 => (intro p hp; repeat (first | (with_reducible exact hp) | (with_reducible refine List.mem_cons_of_mem _ ?_) | (with_reducible refine List.mem_append_right _ ?_))))
      (case c1 => with_unfolding_all rfl)
      (case c2 => with_unfolding_all rfl)
      (case c3 => (intro z z1 z2 z3; simp only [z1, z2, z3, if_false]))
      (case c4 => ((first | rw [sizes_t (by with_reducible assumption : leapB yv = true)] | rw [sizes_f (by with_reducible assumption : leapB yv = false)]); (repeat (with_reducible refine sp_miss (by with_reducible assumption) ?_)); (first | (with_reducible refine sp_hit (by with_reducible assumption) ?_) | (with_reducible refine sp_end ?_)); rfl))
      (refine' hx _ _ _ _ _ _ _ (by k_asm) (cb_drop (by k_asm) ?n1) ?c1 ?c2 ?c3 ?c4)
      (case n1 => (intro p hp; repeat (first | (with_reducible exact hp) | (with_reducible refine List.mem_cons_of_mem _ ?_) | (with_reducible refine List.mem_append_right _ ?_))))
      (case c1 => with_unfolding_all rfl)
      (case c2 => with_unfolding_all rfl)
      (case c3 => (intro z z1 z2 z3; simp only [z1, z2, z3, if_false]))
      (case c4 => ((first | rw [sizes_t (by with_reducible assumption : leapB yv = true)] | rw [sizes_f (by with_reducible assumption : leapB yv = false)]); (repeat (with_reducible refine sp_miss (by with_reducible assumption) ?_)); (first | (with_reducible refine sp_hit (by with_reducible assumption) ?_) | (with_reducible refine sp_end ?_)); rfl))
      (refine' hx _ _ _ _ _ _ _ (by k_asm) (cb_drop (by k_asm) ?n1) ?c1 ?c2 ?c3 ?c4)
      (case n1 => (intro p hp; repeat (first | (with_reducible exact hp) | (with_reducible refine List.mem_cons_of_mem _ ?_) | (with_reducible refine List.mem_append_right _ ?_))))
      (case c1 => with_unfolding_all rfl)
      (case c2 => with_unfolding_all rfl)
      (case c3 => (intro z z1 z2 z3; simp only [z1, z2, z3, if_false]))
      (case c4 => ((first | rw [sizes_t (by with_reducible assumption : leapB yv = true)] | rw [sizes_f (by with_reducible assumption : leapB yv = false)]); (repeat (with_reducible refine sp_miss (by with_reducible assumption) ?_)); (first | (with_reducible refine sp_hit (by with_reducible assumption) ?_) | (with_reducible refine sp_end ?_)); rfl))
      (refine' hx _ _ _ _ _ _ _ (by k_asm) (cb_drop (by k_asm) ?n1) ?c1 ?c2 ?c3 ?c4)
      (case n1 => (intro p hp; repeat (first | (with_reducible exact hp) | (with_reducible refine List.mem_cons_of_mem _ ?_) | (with_reducible refine List.mem_append_right _ ?_))))
      (case c1 => with_unfolding_all rfl)
      (case c2 => with_unfolding_all rfl)
      (case c3 => (intro z z1 z2 z3; simp only [z1, z2, z3, if_false]))
      (case c4 => ((first | rw [sizes_t (by with_reducible assumption : leapB yv = true)] | rw [sizes_f (by with_reducible assumption : leapB yv = false)]); (repeat (with_reducible refine sp_miss (by with_reducible assumption) ?_)); (first | (with_reducible refine sp_hit (by with_reducible assumption) ?_) | (with_reducible refine sp_end ?_)); rfl))
      (refine' hx _ _ _ _ _ _ _ (by k_asm) (cb_drop (by k_asm) ?n1) ?c1 ?c2 ?c3 ?c4)
      (case n1 => (intro p hp; repeat (first | (with_reducible exact hp) | (with_reducible refine List.mem_cons_of_mem _ ?_) | (with_reducible refine List.mem_append_right _ ?_))))
      (case c1 => with_unfolding_all rfl)
      (case c2 => with_unfolding_all rfl)
      (case c3 => (intro z z1 z2 z3; simp only [z1, z2, z3, if_false]))
      (case c4 => ((first | rw [sizes_t (by with_reducible assumption : leapB yv = true)] | rw [sizes_f (by with_reducible assumption : leapB yv = false)]); (repeat (with_reducible refine sp_miss (by with_reducible assumption) ?_)); (first | (with_reducible refine sp_hit (by with_reducible assumption) ?_) | (with_reducible refine sp_end ?_)); rfl))
      (refine' hx _ _ _ _ _ _ _ (by k_asm) (cb_drop (by k_asm) ?n1) ?c1 ?c2 ?c3 ?c4)
      (case n1 => (intro p hp; repeat (first | (with_reducible exact hp) | (with_reducible refine List.mem_cons_of_mem _ ?_) | (with_reducible refine List.mem_append_right _ ?_))))
      (case c1 => with_unfolding_all rfl)
      (case c2 => with_unfolding_all rfl)
      (case c3 => (intro z z1 z2 z3; simp only [z1, z2, z3, if_false]))
      (case c4 => ((first | rw [sizes_t (by with_reducible assumption : leapB yv = true)] | rw [sizes_f (by with_reducible assumption : leapB yv = false)]); (repeat (with_reducible refine sp_miss (by with_reducible assumption) ?_)); (first | (with_reducible refine sp_hit (by with_reducible assumption) ?_) | (with_reducible refine sp_end ?_)); rfl))
      (refine' hx _ _ _ _ _ _ _ (by k_asm) (cb_drop (by k_asm) ?n1) ?c1 ?c2 ?c3 ?c4)
      (case n1 => (intro p hp; repeat (first | (with_reducible exact hp) | (with_reducible refine List.mem_cons_of_mem _ ?_) | (with_reducible refine List.mem_append_right _ ?_))))
      (case c1 => with_unfolding_all rfl)
      (case c2 => with_unfolding_all rfl)
      (case c3 => (intro z z1 z2 z3; simp only [z1, z2, z3, if_false]))
      (case c4 => ((first | rw [sizes_t (by with_reducible assumption : leapB yv = true)] | rw [sizes_f (by with_reducible assumption : leapB yv = false)]); (repeat (with_reducible refine sp_miss (by with_reducible assumption) ?_)); (first | (with_reducible refine sp_hit (by with_reducible assumption) ?_) | (with_reducible refine sp_end ?_)); rfl))
      (refine' hx _ _ _ _ _ _ _ (by k_asm) (cb_drop (by k_asm) ?n1) ?c1 ?c2 ?c3 ?c4)
      (case n1 => (intro p hp; repeat (first | (with_reducible exact hp) | (with_reducible refine List.mem_cons_of_mem _ ?_) | (with_reducible refine List.mem_append_right _ ?_))))
      (case c1 => with_unfolding_all rfl)
      (case c2 => with_unfolding_all rfl)
      (case c3 => (intro z z1 z2 z3; simp only [z1, z2, z3, if_false]))
      (case c4 => ((first | rw [sizes_t (by with_reducible assumption : leapB yv = true)] | rw [sizes_f (by with_reducible assumption : leapB yv = false)]); (repeat (with_reducible refine sp_miss (by with_reducible assumption) ?_)); (first | (with_reducible refine sp_hit (by with_reducible assumption) ?_) | (with_reducible refine sp_end ?_)); rfl))
      (refine' hx _ _ _ _ _ _ _ (by k_asm) (cb_drop (by k_asm) ?n1) ?c1 ?c2 ?c3 ?c4)
      (case n1 => (intro p hp; repeat (first | (with_reducible exact hp) | (with_reducible refine List.mem_cons_of_mem _ ?_) | (with_reducible refine List.mem_append_right _ ?_))))
      (case c1 => with_unfolding_all rfl)
      (case c2 => with_unfolding_all rfl)
      (case c3 => (intro z z1 z2 z3; simp only [z1, z2, z3, if_false]))
      (case c4 => ((first | rw [sizes_t (by with_reducible assumption : leapB yv = true)] | rw [sizes_f (by with_reducible assumption : leapB yv = false)]); (repeat (with_reducible refine sp_miss (by with_reducible assumption) ?_)); (first | (with_reducible refine sp_hit (by with_reducible assumption) ?_) | (with_reducible refine sp_end ?_)); rfl))
      (refine' hx _ _ _ _ _ _ _ (by k_asm) (cb_drop (by k_asm) ?n1) ?c1 ?c2 ?c3 ?c4)
      (case n1 => (intro p hp; repeat (first | (with_reducible exact hp) | (with_reducible refine List.mem_cons_of_mem _ ?_) | (with_reducible refine List.mem_append_right _ ?_))))
      (case c1 => with_unfolding_all rfl)
      (case c2 => with_unfolding_all rfl)
      (case c3 => (intro z z1 z2 z3; simp only [z1, z2, z3, if_false]))
      (case c4 => ((first | rw [sizes_t (by with_reducible assumption : leapB yv = true)] | rw [sizes_f (by with_reducible assumption : leapB yv = false)]); (repeat (with_reducible refine sp_miss (by with_reducible assumption) ?_)); (first | (with_reducible refine sp_hit (by with_reducible assumption) ?_) | (with_reducible refine sp_end ?_)); rfl))
      (refine' hx _ _ _ _ _ _ _ (by k_asm) (cb_drop (by k_asm) ?n1) ?c1 ?c2 ?c3 ?c4)
      (case n1 => (intro p hp; repeat (first | (with_reducible exact hp) | (with_reducible refine List.mem_cons_of_mem _ ?_) | (with_reducible refine List.mem_append_right _ ?_))))
      (case c1 => with_unfolding_all rfl)
      (case c2 => with_unfolding_all rfl)
      (case c3 => (intro z z1 z2 z3; simp only [z1, z2, z3, if_false]))
      (case c4 => ((first | rw [sizes_t (by with_reducible assumption : leapB yv = true)] | rw [sizes_f (by with_reducible assumption : leapB yv = false)]); (repeat (with_reducible refine sp_miss (by with_reducible assumption) ?_)); (first | (with_reducible refine sp_hit (by with_reducible assumption) ?_) | (with_reducible refine sp_end ?_)); rfl))
      (refine' hx _ _ _ _ _ _ _ (by k_asm) (cb_drop (by k_asm) ?n1) ?c1 ?c2 ?c3 ?c4)
      (case n1 => (intro p hp; repeat (first | (with_reducible exact hp) | (with_reducible refine List.mem_cons_of_mem _ ?_) | (with_reducible refine List.mem_append_right _ ?_))))
      (case c1 => with_unfolding_all rfl)
      (case c2 => with_unfolding_all rfl)
      (case c3 => (intro z z1 z2 z3; simp only [z1, z2, z3, if_false]))
      (case c4 => ((first | rw [sizes_t (by with_reducible assumption : leapB yv = true)] | rw [sizes_f (by with_reducible assumption : leapB yv = false)]); (repeat (with_reducible refine sp_miss (by with_reducible assumption) ?_)); (first | (with_reducible refine sp_hit (by with_reducible assumption) ?_) | (with_reducible refine sp_end ?_)); rfl))
      (refine' hx _ _ _ _ _ _ _ (by k_asm) (cb_drop (by k_asm) ?n1) ?c1 ?c2 ?c3 ?c4)
      (case n1 => (intro p hp; repeat (first | (with_reducible exact hp) | (with_reducible refine List.mem_cons_of_mem _ ?_) | (with_reducible refine List.mem_append_right _ ?_))))
      (case c1 => with_unfolding_all rfl)
      (case c2 => with_unfolding_all rfl)
      (case c3 => (intro z z1 z2 z3; simp only [z1, z2, z3, if_false]))
      (case c4 => ((first | rw [sizes_t (by with_reducible assumption : leapB yv = true)] | rw [sizes_f (by with_reducible assumption : leapB yv = false)]); (repeat (with_reducible refine sp_miss (by with_reducible assumption) ?_)); (first | (with_reducible refine sp_hit (by with_reducible assumption) ?_) | (with_reducible refine sp_end ?_)); rfl))
      (refine' hx _ _ _ _ _ _ _ (by k_asm) (cb_drop (by k_asm) ?n1) ?c1 ?c2 ?c3 ?c4)
      (case n1 => (intro p hp; repeat (first | (with_reducible exact hp) | (with_reducible refine List.mem_cons_of_mem _ ?_) | (with_reducible refine List.mem_append_right _ ?_))))
      (case c1 => with_unfolding_all rfl)
      (case c2 => with_unfolding_all rfl)
      (case c3 => (intro z z1 z2 z3; simp only [z1, z2, z3, if_false]))
      (case c4 => ((first | rw [sizes_t (by with_reducible assumption : leapB yv = true)] | rw [sizes_f (by with_reducible assumption : leapB yv = false)]); (repeat (with_reducible refine sp_miss (by with_reducible assumption) ?_)); (first | (with_reducible refine sp_hit (by with_reducible assumption) ?_) | (with_reducible refine sp_end ?_)); rfl))
      (refine' hx _ _ _ _ _ _ _ (by k_asm) (cb_drop (by k_asm) ?n1) ?c1 ?c2 ?c3 ?c4)
      (case n1 => (intro p hp; repeat (first | (with_reducible exact hp) | (with_reducible refine List.mem_cons_of_mem _ ?_) | (with_reducible refine List.mem_append_right _ ?_))))
      (case c1 => with_unfolding_all rfl)
      (case c2 => with_unfolding_all rfl)
      (case c3 => (intro z z1 z2 z3; simp only [z1, z2, z3, if_false]))
      (case c4 => ((first | rw [sizes_t (by with_reducible assumption : leapB yv = true)] | rw [sizes_f (by with_reducible assumption : leapB yv = false)]); (repeat (with_reducible refine sp_miss (by with_reducible assumption) ?_)); (first | (with_reducible refine sp_hit (by with_reducible assumption) ?_) | (with_reducible refine sp_end ?_)); rfl))
      (refine' hx _ _ _ _ _ _ _ (by k_asm) (cb_drop (by k_asm) ?n1) ?c1 ?c2 ?c3 ?c4)
      (case n1 => (intro p hp; repeat (first | (with_reducible exact hp) | (with_reducible refine List.mem_cons_of_mem _ ?_) | (with_reducible refine List.mem_append_right _ ?_))))
      (case c1 => with_unfolding_all rfl)
      (case c2 => with_unfolding_all rfl)
      (case c3 => (intro z z1 z2 z3; simp only [z1, z2, z3, if_false]))
      (case c4 => ((first | rw [sizes_t (by with_reducible assumption : leapB yv = true)] | rw [sizes_f (by with_reducible assumption : leapB yv = false)]); (repeat (with_reducible refine sp_miss (by with_reducible assumption) ?_)); (first | (with_reducible refine sp_hit (by with_reducible assumption) ?_) | (with_reducible refine sp_end ?_)); rfl))
      (refine' hx _ _ _ _ _ _ _ (by k_asm) (cb_drop (by k_asm) ?n1) ?c1 ?c2 ?c3 ?c4)
      (case n1 => (intro p hp; repeat (first | (with_reducible exact hp) | (with_reducible refine List.mem_cons_of_mem _ ?_) | (with_reducible refine List.mem_append_right _ ?_))))
      (case c1 => with_unfolding_all rfl)
      (case c2 => with_unfolding_all rfl)
      (case c3 => (intro z z1 z2 z3; simp only [z1, z2, z3, if_false]))
      (case c4 => ((first | rw [sizes_t (by with_reducible assumption : leapB yv = true)] | rw [sizes_f (by with_reducible assumption : leapB yv = false)]); (repeat (with_reducible refine sp_miss (by with_reducible assumption) ?_)); (first | (with_reducible refine sp_hit (by with_reducible assumption) ?_) | (with_reducible refine sp_end ?_)); rfl))
      (refine' hx _ _ _ _ _ _ _ (by k_asm) (cb_drop (by k_asm) ?n1) ?c1 ?c2 ?c3 ?c4)
      (case n1 => (intro p hp; repeat (first | (with_reducible exact hp) | (with_reducible refine List.mem_cons_of_mem _ ?_) | (with_reducible refine List.mem_append_right _ ?_))))
      (case c1 => with_unfolding_all rfl)
      (case c2 => with_unfolding_all rfl)
      (case c3 => (intro z z1 z2 z3; simp only [z1, z2, z3, if_false]))
      (case c4 => ((first | rw [sizes_t (by with_reducible assumption : leapB yv = true)] | rw [sizes_f (by with_reducible assumption : leapB yv = false)]); (repeat (with_reducible refine sp_miss (by with_reducible assumption) ?_)); (first | (with_reducible refine sp_hit (by with_reducible assumption) ?_) | (with_reducible refine sp_end ?_)); rfl))
      (refine' hx _ _ _ _ _ _ _ (by k_asm) (cb_drop (by k_asm) ?n1) ?c1 ?c2 ?c3 ?c4)
      (case n1 => (intro p hp; repeat (first | (with_reducible exact hp) | (with_reducible refine List.mem_cons_of_mem _ ?_) | (with_reducible refine List.mem_append_right _ ?_))))
      (case c1 => with_unfolding_all rfl)
      (case c2 => with_unfolding_all rfl)
      (case c3 => (intro z z1 z2 z3; simp only [z1, z2, z3, if_false]))
      (case c4 => ((first | rw [sizes_t (by with_reducible assumption : leapB yv = true)] | rw [sizes_f (by with_reducible assumption : leapB yv = false)]); (repeat (with_reducible refine sp_miss (by with_reducible assumption) ?_)); (first | (with_reducible refine sp_hit (by with_reducible assumption) ?_) | (with_reducible refine sp_end ?_)); rfl))
      (refine' hx _ _ _ _ _ _ _ (by k_asm) (cb_drop (by k_asm) ?n1) ?c1 ?c2 ?c3 ?c4)
      (case n1 => (intro p hp; repeat (first | (with_reducible exact hp) | (with_reducible refine List.mem_cons_of_mem _ ?_) | (with_reducible refine List.mem_append_right _ ?_))))
      (case c1 => with_unfolding_all rfl)
      (case c2 => with_unfolding_all rfl)
      (case c3 => (intro z z1 z2 z3; simp only [z1, z2, z3, if_false]))
      (case c4 => ((first | rw [sizes_t (by with_reducible assumption : leapB yv = true)] | rw [sizes_f (by with_reducible assumption : leapB yv = false)]); (repeat (with_reducible refine sp_miss (by with_reducible assumption) ?_)); (first | (with_reducible refine sp_hit (by with_reducible assumption) ?_) | (with_reducible refine sp_end ?_)); rfl))
      (refine' hx _ _ _ _ _ _ _ (by k_asm) (cb_drop (by k_asm) ?n1) ?c1 ?c2 ?c3 ?c4)
      (case n1 => (intro p hp; repeat (first | (with_reducible exact hp) | (with_reducible refine List.mem_cons_of_mem _ ?_) | (with_reducible refine List.mem_append_right _ ?_))))
      (case c1 => with_unfolding_all rfl)
      (case c2 => with_unfolding_all rfl)
      (case c3 => (intro z z1 z2 z3; simp only [z1, z2, z3, if_false]))
      (case c4 => ((first | rw [sizes_t (by with_reducible assumption : leapB yv = true)] | rw [sizes_f (by with_reducible assumption : leapB yv = false)]); (repeat (with_reducible refine sp_miss (by with_reducible assumption) ?_)); (first | (with_reducible refine sp_hit (by with_reducible assumption) ?_) | (with_reducible refine sp_end ?_)); rfl))
      (refine' hx _ _ _ _ _ _ _ (by k_asm) (cb_drop (by k_asm) ?n1) ?c1 ?c2 ?c3 ?c4)
      (case n1 => (intro p hp; repeat (first | (with_reducible exact hp) | (with_reducible refine List.mem_cons_of_mem _ ?_) | (with_reducible refine List.mem_append_right _ ?_))))
      (case c1 => with_unfolding_all rfl)
      (case c2 => with_unfolding_all rfl)
      (case c3 => (intro z z1 z2 z3; simp only [z1, z2, z3, if_false]))
      (case c4 => ((first | rw [sizes_t (by with_reducible assumption : leapB yv = true)] | rw [sizes_f (by with_reducible assumption : leapB yv = false)]); (repeat (with_reducible refine sp_miss (by with_reducible assumption) ?_)); (first | (with_reducible refine sp_hit (by with_reducible assumption) ?_) | (with_reducible refine sp_end ?_)); rfl))))
    (intro h9 tk9 a b ta tb u hP F9 N9)
    (clear lF lN)
    (obtain ⟨a0, a1, b0, b1⟩ := split_in hl0 hl1 hP)
    (try dsimp only)
    (try k_fold))
  k_steps
  refine cb_retS hret ?e1 (by k_asm) (cb_drop (by k_asm) ?e2)
  case e2 => (intro p hp; repeat (first | (with_reducible exact hp) | (with_reducible refine List.mem_cons_of_mem _ ?_) | (with_reducible refine List.mem_append_right _ ?_)))
  case e1 => exact line_val hd0 hd1 hs0 hs1 (by omega) (by omega) hA (by with_reducible assumption) hlf hP a0 a1 b0 b1 hwd
end Mine
end F5Part

section D3Part
open PySem PySem.W PyProof.Rows
namespace Mine
theorem zone_len : ∀ i : Nat, i < 3 → (List.getD [Str.ofString "GMT", Str.ofString "-0000", Str.ofString "+0130"] i PySem.Str.empty).length ≤ 5 := by
  intro i hi
  match i, hi with
  | 0, _ => decide
  | 1, _ => decide
  | 2, _ => decide
end Mine
local macro_rules | `(tactic| walk_at "exec For Name BinOp cons nil") => `(tactic| (k_here; (rename Fr _ _ _ _ => lF'); (with_unfolding_all refine' For_invVF lF' ?k1 ?k2 ?_; (case k1 => exact rfl); (case k2 => exact rfl); k_whole)))
local macro_rules | `(tactic| walk_at "subscriptTail Tuple cons BinOp ref int") => `(tactic| k_extra "my zone")
local macro_rules | `(tactic| walk_at "call ref") => `(tactic| k_extra "my call")
set_option maxRecDepth 100000 in
set_option maxHeartbeats 8000000 in
theorem PySem.Challenge.cw_xo0001_01_holds : PySem.Challenge.rw_xo0001_01.Holds :=
  Mine.hd (by
  k_with_none
  w_top off
  k_with "pyIter ref" => (k_of "number" => k_search (fun (pre : List Int) => True))
  k_with "storeName" => ((with_reducible show wpAny _ _ (storeName _ _ (Value.int (Int.fmod _ 315537897600) _)) _ _ _); (have hm0 : 0 ≤ Int.fmod kN 315537897600 := Int.fmod_nonneg_of_pos _ (by decide)); (have hm1 : Int.fmod kN 315537897600 < 315537897600 := Int.fmod_lt_of_pos _ (by decide)); generalize Int.fmod kN 315537897600 = mo at hm0 hm1 ⊢)
  k_with "storeName" => ((with_reducible show wpAny _ _ (storeName _ _ (Value.int (Int.fdiv _ 86400) _)) _ _ _); (have hd0 : 0 ≤ Int.fdiv mo 86400 := by rw [Int.fdiv_eq_ediv_of_nonneg _ (by decide)]; omega); (have hd1 : Int.fdiv mo 86400 < 3652059 := by rw [Int.fdiv_eq_ediv_of_nonneg _ (by decide)]; omega); generalize Int.fdiv mo 86400 = da at hd0 hd1 ⊢)
  k_with "storeName" => ((with_reducible show wpAny _ _ (storeName _ _ (Value.int (Int.fmod _ 86400) _)) _ _ _); (have hs0 : 0 ≤ Int.fmod mo 86400 := Int.fmod_nonneg_of_pos _ (by decide)); (have hs1 : Int.fmod mo 86400 < 86400 := Int.fmod_lt_of_pos _ (by decide)); generalize Int.fmod mo 86400 = se at hs0 hs1 ⊢)
  k_with "my zone" => (k_here; k_dflt ((have hz0 : 0 ≤ Int.fmod mo 3 := Int.fmod_nonneg_of_pos _ (by decide)); (have hz1 : Int.fmod mo 3 < 3 := Int.fmod_lt_of_pos _ (by decide)); (refine' KTb.item_tup (ws := [Str.ofString "GMT", Str.ofString "-0000", Str.ofString "+0130"]) ?ktbl ?ktbw hz0 hz1 ?ktbf ?_; (case ktbl => exact News.isTup (by k_asm) (by k_mem)); (case ktbw => repeat constructor); (case ktbf => omega)); (intro zt hzt); (have hz2 : (List.getD [Str.ofString "GMT", Str.ofString "-0000", Str.ofString "+0130"] (Int.fmod mo 3).toNat PySem.Str.empty).length ≤ 5 := Mine.zone_len _ hzt); generalize List.getD [Str.ofString "GMT", Str.ofString "-0000", Str.ofString "+0130"] (Int.fmod mo 3).toNat PySem.Str.empty = zo at hz2 ⊢; (clear hz0 hz1 hzt)))
  k_with "my call" => ((with_reducible show wpAny _ _ (call (Value.ref 91) _) _ _ _); k_dflt (refine' Mine.told_ok _ _ _ _ _ _ _ _ _ _ _ _ _ _ _ _ _ _ _ _ _ _ _ _ _ _ _ _ ?k1 ?k2 ?k3 ?k4 ?k5 ?kK ?kp ?kd ?ku ?_; (case k1 => k_asm); (case k2 => k_asm); (case k3 => k_asm); (case k4 => k_asm); (case k5 => k_asm); (case kK => first | exact rfl | assumption); (case kp => exact ⟨by omega, by omega, hs0, hs1, hz2⟩); (case kd => ktr_room); (case ku => ktr_units)); intro t9 h9 tk9 F9 N9; (try dsimp only); (try k_fold))
  k_with "my call" => ((with_reducible show wpAny _ _ (call (Value.ref 112) _) _ _ _); k_dflt (refine' Mine.line_ok _ _ _ _ _ _ _ _ _ _ _ _ _ _ _ _ _ _ _ _ _ _ _ _ _ _ _ _ ?k1 ?k2 ?k3 ?k4 ?k5 ?kK ?kp ?kd ?ku ?_; (case k1 => k_asm); (case k2 => k_asm); (case k3 => k_asm); (case k4 => k_asm); (case k5 => k_asm); (case kK => first | exact rfl | assumption); (case kp => exact ⟨hd0, hd1, hs0, hs1, hz2⟩); (case kd => ktr_room); (case ku => ktr_units)); intro t9 h9 tk9 F9 N9; (try dsimp only); (try k_fold))
  w_strict (k_go0; (all_goals try k_fold); k_steps))
end D3Part
