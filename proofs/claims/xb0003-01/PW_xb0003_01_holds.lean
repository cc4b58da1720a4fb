import PyProof.Rows.All
import Wide.All
import OpenK.AllK
import Wide.FinOn
import PySem.Challenge.RW_xb0003_01
open PySem PySem.W PyProof.Rows PySem.Spec
set_option Elab.async false
namespace Mine

/-- the name of the place k -/
def nm : Nat → Str
  | 0 => Str.ofString "OPTIMIZED"
  | 1 => Str.ofString "NEWLOCALS"
  | 2 => Str.ofString "VARARGS"
  | 3 => Str.ofString "VARKEYWORDS"
  | 4 => Str.ofString "NESTED"
  | 5 => Str.ofString "GENERATOR"
  | 6 => Str.ofString "NOFREE"
  | 7 => Str.ofString "COROUTINE"
  | 8 => Str.ofString "ITERABLE_COROUTINE"
  | 9 => Str.ofString "ASYNC_GENERATOR"
  | k => baseText "0x" 16 (2 ^ k)
/-- the names of the set places below k, lowest first -/
def low (n : Int) : Nat → List Str
  | 0 => []
  | k + 1 => if n / 2 ^ k % 2 = 1 then low n k ++ [nm k] else low n k
def tail (n : Int) : List Str :=
  if n - n % 4294967296 ≠ 0 ∨ low n 32 = [] then [baseText "0x" 16 (n - n % 4294967296)] else []
def told (n : Int) : Str := Txt.join (Str.ofString ", ") (low n 32 ++ tail n)

/-- at most c binary places, beside the sign -/
def Fits (c : Nat) (n : Int) : Prop := ∃ B, B ≤ c ∧ n.natAbs < 2 ^ B
def Fit (n : Int) : Prop := Fits 1048600 n

theorem pow_ne (k : Nat) : (1 : Int) * 2 ^ k ≠ 0 := by
  have := kbt_pos k
  omega
theorem par (x : Int) : x % 2 = 0 ∨ x % 2 = 1 := by omega
theorem ipow_le {a b : Nat} (h : a ≤ b) : (2 : Int) ^ a ≤ 2 ^ b := by
  rw [← kbt_cast, ← kbt_cast]
  exact Int.ofNat_le.mpr (Nat.pow_le_pow_right (by decide) h)
theorem ipow_abs (k : Nat) : ((2 : Int) ^ k).natAbs = 2 ^ k := by
  rw [← kbt_cast]
  exact Int.natAbs_natCast _
theorem pow_succ' (k : Nat) : (2 : Int) ^ (k + 1) = 2 * 2 ^ k := by rw [Int.pow_succ]; omega
theorem emod_succ (n : Int) (k : Nat) : n % 2 ^ (k + 1) = n % 2 ^ k + n / 2 ^ k % 2 * 2 ^ k := by
  have hp := kbt_pos k
  have h1 := Int.emod_nonneg n (show (2 : Int) ^ k ≠ 0 by omega)
  have h2 := Int.emod_lt_of_pos n hp
  have e1 : 2 ^ k * (n / 2 ^ k) + n % 2 ^ k = n := Int.mul_ediv_add_emod n (2 ^ k)
  rw [pow_succ']
  generalize hq : n / 2 ^ k = q at *
  generalize hr : n % 2 ^ k = r at *
  generalize (2 : Int) ^ k = p at *
  rcases par q with h | h
  · refine (kbt_unique (a := n) (b := 2 * p) (q := q / 2) (by omega) ?_ ?_ ?_).2 <;> rw [h]
    · have e : 2 * p * (q / 2) = p * q := by rw [Int.mul_comm 2 p, Int.mul_assoc]; congr 1; omega
      rw [e]; omega
    · omega
    · omega
  · refine (kbt_unique (a := n) (b := 2 * p) (q := q / 2) (by omega) ?_ ?_ ?_).2 <;> rw [h]
    · have e : 2 * p * (q / 2) = p * q - p := by
        have e2 : 2 * (q / 2) = q - 1 := by omega
        rw [Int.mul_comm 2 p, Int.mul_assoc, e2, Int.mul_sub, Int.mul_one]
      rw [e]; omega
    · omega
    · omega

/-- what holds in pretty_flags's loop, its turns 0 .. i - 1 taken -/
def PInv (n : Int) (i : Nat) (names : List Str) (flags : Int) : Prop := names = low n i ∧ flags = n - n % 2 ^ i ∧ (flags = 0 → names = [])
theorem pinv_start (n : Int) : PInv n 0 [] n := ⟨rfl, by simp [Int.emod_one], fun _ => rfl⟩
theorem high_div (n : Int) (i : Nat) : (n - n % 2 ^ i) / 2 ^ i = n / 2 ^ i := by
  have hp := kbt_pos i
  have e : n - n % 2 ^ i = n / 2 ^ i * 2 ^ i := by
    have e1 : 2 ^ i * (n / 2 ^ i) + n % 2 ^ i = n := Int.mul_ediv_add_emod n (2 ^ i)
    rw [Int.mul_comm] at e1
    omega
  rw [e, Int.mul_ediv_cancel _ (by omega)]
theorem and_place {n : Int} {i : Nat} {names : List Str} {flags : Int} (h : PInv n i names flags) : Builtin.bitAnd flags (2 ^ i) = n / 2 ^ i % 2 * 2 ^ i := by
  rw [kbt_bit, h.2.1, high_div]
theorem place_set {n : Int} {i : Nat} {names : List Str} {flags : Int} (h : PInv n i names flags) (hb : Builtin.bitAnd flags (2 ^ i) ≠ 0) :
    n / 2 ^ i % 2 = 1 ∧ Builtin.bitXor flags (2 ^ i) = n - n % 2 ^ (i + 1) := by
  have e1 : n / 2 ^ i % 2 = 1 := by
    rcases par (n / 2 ^ i) with e | e
    · rw [and_place h, e] at hb; simp at hb
    · exact e
  refine ⟨e1, ?_⟩
  rw [bitXor_and, and_place h, e1, emod_succ, e1, h.2.1]
  omega
theorem place_clear {n : Int} {i : Nat} {names : List Str} {flags : Int} (h : PInv n i names flags) (hb : Builtin.bitAnd flags (2 ^ i) = 0) : n / 2 ^ i % 2 = 0 := by
  rcases par (n / 2 ^ i) with e | e
  · exact e
  · rw [and_place h, e] at hb
    have := kbt_pos i
    omega
theorem turn_set {n : Int} {i : Nat} {names : List Str} {flags : Int} (h : PInv n i names flags) (hb : Builtin.bitAnd flags (2 ^ i) ≠ 0) (hx : Builtin.bitXor flags (2 ^ i) ≠ 0) :
    PInv n (i + 1) (names ++ [nm i]) (Builtin.bitXor flags (2 ^ i)) := by
  obtain ⟨e1, e2⟩ := place_set h hb
  refine ⟨?_, e2, fun h0 => absurd h0 hx⟩
  rw [low, if_pos e1, h.1]
theorem turn_clear {n : Int} {i : Nat} {names : List Str} {flags : Int} (h : PInv n i names flags) (hb : Builtin.bitAnd flags (2 ^ i) = 0) : PInv n (i + 1) names flags := by
  have e1 := place_clear h hb
  refine ⟨?_, ?_, h.2.2⟩
  · rw [low, if_neg (by omega), h.1]
  · rw [emod_succ, e1, h.2.1]; omega

theorem low_stop {n : Int} {i : Nat} (h0 : 0 ≤ n) (h1 : n < 2 ^ i) : ∀ d, low n (i + d) = low n i
  | 0 => rfl
  | d + 1 => by
    have e : n / 2 ^ (i + d) = 0 := by
      refine Int.ediv_eq_zero_of_lt h0 (Int.lt_of_lt_of_le h1 ?_)
      exact ipow_le (Nat.le_add_right i d)
    show (if n / 2 ^ (i + d) % 2 = 1 then low n (i + d) ++ [nm (i + d)] else low n (i + d)) = _
    rw [e, if_neg (by decide), low_stop h0 h1 d]
theorem told_left {n : Int} {i : Nat} {names : List Str} {flags : Int} (h : PInv n i names flags) (hi : i < 32) (hb : Builtin.bitAnd flags (2 ^ i) ≠ 0) (hx : Builtin.bitXor flags (2 ^ i) = 0) :
    Txt.join (Str.ofString ", ") (names ++ [nm i]) = told n := by
  obtain ⟨e1, e2⟩ := place_set h hb
  rw [hx] at e2
  have hp := kbt_pos (i + 1)
  have h0 := Int.emod_nonneg n (show (2 : Int) ^ (i + 1) ≠ 0 by omega)
  have h1 := Int.emod_lt_of_pos n hp
  have hn0 : 0 ≤ n := by omega
  have hn1 : n < 2 ^ (i + 1) := by omega
  have e32 : (4294967296 : Int) = 2 ^ 32 := by decide
  have hle : (2 : Int) ^ (i + 1) ≤ 2 ^ 32 := ipow_le (by omega)
  have hl : low n 32 = low n (i + 1) := by
    have := low_stop hn0 hn1 (31 - i)
    rwa [show i + 1 + (31 - i) = 32 by omega] at this
  have hl2 : low n (i + 1) = names ++ [nm i] := by rw [low, if_pos e1, h.1]
  have ht : tail n = [] := by
    unfold tail
    rw [hl, hl2, if_neg]
    rintro (q | q)
    · exact q (by rw [e32, Int.emod_eq_of_lt hn0 (Int.lt_of_lt_of_le hn1 hle)]; omega)
    · simp at q
  rw [told, ht, hl, hl2, List.append_nil]
theorem told_done {n : Int} {names : List Str} {flags : Int} (h : PInv n 32 names flags) : Txt.join (Str.ofString ", ") (names ++ [baseText "0x" 16 flags]) = told n := by
  have e32 : (2 : Int) ^ 32 = 4294967296 := by decide
  obtain ⟨h1, h2, h3⟩ := h
  rw [e32] at h2
  have ht : tail n = [baseText "0x" 16 flags] := by
    unfold tail
    rw [if_pos, h2]
    by_cases h0 : flags = 0
    · exact .inr (h1 ▸ h3 h0)
    · exact .inl (h2 ▸ h0)
  rw [told, ht, h1]

/-- _law_told's loop, its turns 0 .. k - 1 taken: m is the number's rest -/
def TInv (m : Int) (k : Nat) (found : List Str) : Prop := found = low m k
theorem tinv_set {m : Int} {k : Nat} {found : List Str} (h : TInv m k found) (hb : (m.fdiv (2 ^ k)).fmod 2 = 1) : TInv m (k + 1) (found ++ [nm k]) := by
  have hp := kbt_pos k
  rw [Int.fdiv_eq_ediv_of_nonneg _ (by omega), Int.fmod_eq_emod_of_nonneg _ (by decide)] at hb
  show _ = _
  rw [low, if_pos hb, h]
theorem tinv_clear {m : Int} {k : Nat} {found : List Str} (h : TInv m k found) (hb : ¬ (m.fdiv (2 ^ k)).fmod 2 = 1) : TInv m (k + 1) found := by
  have hp := kbt_pos k
  rw [Int.fdiv_eq_ediv_of_nonneg _ (by omega), Int.fmod_eq_emod_of_nonneg _ (by decide)] at hb
  show _ = _
  rw [low, if_neg hb, h]
theorem bit_rest (n : Int) : ∀ k : Nat, k < 32 → n % 4294967296 / 2 ^ k % 2 = n / 2 ^ k % 2 := by
  intro k hk
  have e32 : (4294967296 : Int) = 2 ^ k * 2 ^ (32 - k) := by rw [← Int.pow_add, show k + (32 - k) = 32 by omega]; decide
  have e2 : (2 : Int) ^ (32 - k) = 2 * 2 ^ (31 - k) := by rw [← pow_succ']; congr 1; omega
  have hp := kbt_pos k
  have e3 : n % 4294967296 = n - 4294967296 * (n / 4294967296) := Int.emod_def _ _
  rw [e3]
  generalize n / 4294967296 = q
  rw [e32, e2]
  have e4 : n - 2 ^ k * (2 * 2 ^ (31 - k)) * q = n + (-(2 * (2 ^ (31 - k) * q))) * 2 ^ k := by
    rw [Int.neg_mul, Int.sub_eq_add_neg, Int.mul_comm _ ((2 : Int) ^ k)]
    simp only [Int.mul_assoc]
  rw [e4, Int.add_mul_ediv_right _ _ (by omega)]
  generalize (2 : Int) ^ (31 - k) * q = z
  omega
theorem low_rest (n : Int) : ∀ k : Nat, k ≤ 32 → low (n % 4294967296) k = low n k
  | 0, _ => rfl
  | k + 1, h => by
    show (if n % 4294967296 / 2 ^ k % 2 = 1 then low (n % 4294967296) k ++ [nm k] else low (n % 4294967296) k) = (if n / 2 ^ k % 2 = 1 then low n k ++ [nm k] else low n k)
    rw [bit_rest n k (by omega), low_rest n k (by omega)]
theorem told_more {n : Int} {found : List Str} (h : TInv (n.fmod 4294967296) 32 found) (hl : n - n.fmod 4294967296 ≠ 0 ∨ found = []) :
    Txt.join (Str.ofString ", ") (found ++ [baseText "0x" 16 (n - n.fmod 4294967296)]) = told n := by
  rw [Int.fmod_eq_emod_of_nonneg _ (by decide)] at *
  have h' : found = low n 32 := Eq.trans h (low_rest n 32 (by decide))
  have ht : tail n = [baseText "0x" 16 (n - n % 4294967296)] := by
    unfold tail
    rw [if_pos]
    exact hl.imp id fun q => h' ▸ q
  rw [told, ht, h']
theorem told_bare {n : Int} {found : List Str} (h : TInv (n.fmod 4294967296) 32 found) (hl : n - n.fmod 4294967296 = 0) (hf : found ≠ []) :
    Txt.join (Str.ofString ", ") found = told n := by
  rw [Int.fmod_eq_emod_of_nonneg _ (by decide)] at *
  have h' : found = low n 32 := Eq.trans h (low_rest n 32 (by decide))
  have ht : tail n = [] := by
    unfold tail
    rw [if_neg]
    rintro (q | q)
    · exact q hl
    · exact hf (h' ▸ q)
  rw [told, ht, h', List.append_nil]

/- sizes -/
theorem fits_mono {c d : Nat} {n : Int} (h : Fits c n) (hd : c ≤ d) : Fits d n := let ⟨B, hB, hn⟩ := h; ⟨B, Nat.le_trans hB hd, hn⟩
theorem fits_add {c : Nat} {n m : Int} (h : Fits c n) (k : Nat) (hm : m.natAbs < 2 ^ k) (hk : k ≤ c) : Fits (c + 1) (n + m) := by
  obtain ⟨B, hB, hn⟩ := h
  refine ⟨max B k + 1, by omega, ?_⟩
  have h1 : 2 ^ B ≤ 2 ^ max B k := Nat.pow_le_pow_right (by decide) (Nat.le_max_left ..)
  have h2 : 2 ^ k ≤ 2 ^ max B k := Nat.pow_le_pow_right (by decide) (Nat.le_max_right ..)
  rw [Nat.pow_succ]
  omega
theorem fits_item {ns : List Int} (h : (PyData.list (List.map PyData.int ns)).layable0 = true) {n : Int} (hn : n ∈ ns) : Fits 1048576 n := by
  have hb := PyData.bits_item_of_ints h hn
  rw [show (2 : Nat) ^ 20 = 1048576 by decide] at hb
  refine ⟨Builtin.Int.intBits n, hb, ?_⟩
  unfold Builtin.Int.intBits
  by_cases h0 : n = 0
  · subst h0; decide
  · have e : (n == 0) = false := by simpa using h0
    rw [e]
    exact Nat.lt_log2_self
theorem place34 (n : Int) : ((1 : Int) * 2 ^ (n.fmod 34).toNat).natAbs < 2 ^ 34 := by
  have h1 := Int.fmod_nonneg_of_pos n (show (0 : Int) < 34 by decide)
  have h2 := Int.fmod_lt_of_pos n (show (0 : Int) < 34 by decide)
  have h3 : 2 ^ (n.fmod 34).toNat ≤ 2 ^ 33 := Nat.pow_le_pow_right (by decide) (by omega)
  rw [Int.one_mul, ipow_abs]
  omega
theorem fit_mem {ns : List Int} (h : (PyData.list (List.map PyData.int ns)).layable0 = true) {n : Int} (hn : n ∈ ns) : Fit n := fits_mono (fits_item h hn) (by decide)
theorem fits_without {c : Nat} {n x : Int} (h : Fits c x) (hc : 34 ≤ c) : Fits (c + 1) (x - 1 * 2 ^ (n.fmod 34).toNat) := by
  rw [Int.sub_eq_add_neg]
  exact fits_add h 34 (by rw [Int.natAbs_neg]; exact place34 n) hc
theorem fits_with {c : Nat} {n x : Int} (h : Fits c x) (hc : 34 ≤ c) : Fits (c + 1) (x + 1 * 2 ^ (n.fmod 34).toNat) := fits_add h 34 (place34 n) hc
theorem fit_without {ns : List Int} (h : (PyData.list (List.map PyData.int ns)).layable0 = true) {n : Int} (hn : n ∈ ns) : Fit (n - 1 * 2 ^ (n.fmod 34).toNat) := fits_mono (fits_without (fits_item h hn) (by decide)) (by decide)
theorem fit_with {ns : List Int} (h : (PyData.list (List.map PyData.int ns)).layable0 = true) {n : Int} (hn : n ∈ ns) : Fit (n + 1 * 2 ^ (n.fmod 34).toNat) := fits_mono (fits_with (fits_item h hn) (by decide)) (by decide)
theorem fit_both {ns : List Int} (h : (PyData.list (List.map PyData.int ns)).layable0 = true) {n : Int} (hn : n ∈ ns) : Fit (n - 1 * 2 ^ (n.fmod 34).toNat + 1 * 2 ^ (n.fmod 34).toNat) :=
  fits_mono (fits_with (fits_without (fits_item h hn) (by decide)) (by decide)) (by decide)
theorem fits_high {n : Int} (h : Fit n) : Fits 1048601 (n - n % 4294967296) := by
  rw [Int.sub_eq_add_neg]
  exact fits_add h 32 (by omega) (by decide)
theorem hex_len {c : Nat} {n : Int} (h : Fits c n) : (baseText "0x" 16 n).length ≤ c + 4 := by
  obtain ⟨B, hB, hn⟩ := h
  have h1 : n.natAbs < 16 ^ (B + 1) := Nat.lt_of_lt_of_le hn (Nat.le_trans (Nat.pow_le_pow_left (by decide) B) (Nat.pow_le_pow_right (by decide) (by omega)))
  have h2 := toDigits_len_pow (by decide : 2 ≤ 16) (by omega : 1 ≤ B + 1) h1
  unfold baseText
  rw [Str.length_append, Str.length_append]
  have h5 := ofString_ofList_length (Nat.toDigits 16 n.natAbs)
  have h3 : (Str.ofString (if n < 0 then "-" else "")).length ≤ 1 := by
    split <;> (rw [PyProof.Rows.ofString_len]; decide)
  have h4 : (Str.ofString "0x").length = 2 := by rw [PyProof.Rows.ofString_len]; rfl
  omega
theorem hex_high {n : Int} (h : Fit n) : (baseText "0x" 16 (n - n % 4294967296)).length ≤ 1048605 := hex_len (fits_high h)
theorem nm_len : ∀ k : Nat, k < 32 → (nm k).length ≤ 40 := by
  intro k hk
  by_cases h : k < 10
  · have : ∀ k, k < 10 → (nm k).length ≤ 40 := by decide +kernel
    exact this k h
  · have e : nm k = baseText "0x" 16 (2 ^ k) := by
      obtain ⟨j, rfl⟩ : ∃ j, k = j + 10 := ⟨k - 10, by omega⟩
      rfl
    rw [e]
    have h3 : 2 ^ k < 2 ^ 32 := Nat.pow_lt_pow_right (by decide) hk
    have := hex_len (c := 32) (n := 2 ^ k) ⟨32, by decide, by rw [ipow_abs]; exact h3⟩
    omega
theorem low_len (n : Int) : ∀ k : Nat, k ≤ 32 → (low n k).length ≤ k ∧ ((low n k).map (·.length)).sum ≤ 40 * k
  | 0, _ => ⟨Nat.le_refl _, Nat.le_refl _⟩
  | k + 1, h => by
    have ih := low_len n k (by omega)
    have := nm_len k (by omega)
    show (if n / 2 ^ k % 2 = 1 then low n k ++ [nm k] else low n k).length ≤ k + 1 ∧ ((if n / 2 ^ k % 2 = 1 then low n k ++ [nm k] else low n k).map (·.length)).sum ≤ 40 * (k + 1)
    split
    · simp only [List.length_append, List.length_cons, List.length_nil, List.map_append, List.map_cons, List.map_nil, List.sum_append, List.sum_cons, List.sum_nil]
      omega
    · omega
theorem sep_len : (Str.ofString ", ").length = 2 := by rw [PyProof.Rows.ofString_len]; rfl
theorem room_one {n : Int} {i : Nat} {x : Str} (hi : i ≤ 32) (hx : x.length ≤ 1048605) : ((low n i ++ [x]).map (·.length)).sum + (low n i ++ [x]).length * (Str.ofString ", ").length ≤ 16777216 := by
  have := low_len n i hi
  rw [sep_len]
  simp only [List.length_append, List.length_cons, List.length_nil, List.map_append, List.map_cons, List.map_nil, List.sum_append, List.sum_cons, List.sum_nil]
  omega
theorem room_none {n : Int} {i : Nat} (hi : i ≤ 32) : ((low n i).map (·.length)).sum + (low n i).length * (Str.ofString ", ").length ≤ 16777216 := by
  have := low_len n i hi
  rw [sep_len]
  omega

/-- a for that bears an else: what is left once its iterator is made -/
def LoopElse (prog : Program) (w : World) (A : Around) (env : Env) (x : Str) (px : Pos) (body orelse : List Stmt) (Q : Flow → Shared → Prop) (E : Value → Shared → Prop) (it : Value) (s : Shared) : Prop :=
  codeAny (model prog w) A (.forLoop (.Name x px) it body orelse env) (fun r s' => match r with | .ok f => Q f s' | .error e => cameBackBy (model prog w) A env E e s') s

section
variable {prog : Program} {w : World} {A : Around} {s : Shared} {env : Env} {h₀ : Heap} {x : Str} {px : Pos} {body orelse : List Stmt} {Q : Flow → Shared → Prop} {E : Value → Shared → Prop}

theorem for_else {m : Str → Option Value} {pos : Pos} {iter : Expr} (_F : Fr h₀ env.locals s.heap m)
    (h : wpAny (model prog w) A (eval iter env) (fun v s₁ => wpAny (model prog w) A (pyIter v) (fun it s₂ => LoopElse prog w A env x px body orelse Q E it s₂) E s₁) E s)
    (hs : ∀ v, foldedSetIterable iter env v = pure v := by intro _; rfl) :
    wpAny (model prog w) A (exec (.For (.Name x px) iter body orelse pos) env) Q E s := wpAny_For h hs

theorem loop_else {I : Addr} {fp wr : List Addr} {n : Nat} {P : Nat → Value → Prop} {St : Nat → Heap → Prop} {m₀ : Str → Option Value} {news : List (Addr × Obj)}
    (J : Nat → (Str → Option Value) → List (Addr × Obj) → Prop) (W : Walks prog w A I fp wr n P St) (hx : env.kindOf x = some .local)
    (hp : (env.scope.kind == .class || (env.scope.kind == .module && env.locals != env.globals)) = false) (hE : PassesOwn (model prog w) A env E)
    (hLf : env.locals ∉ fp) (hwr : ∀ b ∈ wr, h₀.get? b = none) (hnw : ∀ p ∈ news, p.1 ∉ wr) (hfp : ∀ q ∈ news, q.1 ∉ fp)
    (hst : St 0 s.heap) (F : Fr h₀ env.locals s.heap m₀) (N : News h₀ env.locals s.heap news) (hj : J 0 m₀ news)
    (turn : ∀ i v m₁ news₁ h tk own, i < n → P i v → OwnOff own (news.map (·.1)) → J i m₁ news₁ → Fr h₀ env.locals h (fun y => if y = x then some v else m₁ y) → News h₀ env.locals h (news₁ ++ own) →
      wpAny (model prog w) A (execs body env) (InvPostN h₀ env.locals (J (i + 1)) own (news.map (·.1)) { s with heap := h, toks := tk } Q) E { s with heap := h, toks := tk })
    (done : ∀ m₁ news₁ h tk, J n m₁ news₁ → Fr h₀ env.locals h m₁ → News h₀ env.locals h news₁ → wpAny (model prog w) A (execs orelse env) Q E { s with heap := h, toks := tk }) :
    LoopElse prog w A env x px body orelse Q E (.ref I) s := by
  have hLw : env.locals ∉ wr := fun h => hLf (W.sub _ h)
  have here : ∀ {news₁ : List (Addr × Obj)} {p : Addr × Obj}, news₁.map (·.1) = news.map (·.1) → p ∈ news₁ → ∃ q ∈ news, q.1 = p.1 := fun ha hp => by
    have h1 := List.mem_map_of_mem (f := fun q : Addr × Obj => q.1) hp
    rw [ha] at h1
    exact List.mem_map.mp h1
  refine codeAny_forLoop (fun k s' => ∃ i h' tk m' news', k = n - i ∧ i ≤ n ∧ s' = { s with heap := h', toks := tk } ∧ St i h' ∧ Fr h₀ env.locals h' m' ∧ News h₀ env.locals h' news' ∧ news'.map (·.1) = news.map (·.1) ∧ J i m' news')
    ?_ n ⟨0, s.heap, s.toks, m₀, news, rfl, Nat.zero_le _, rfl, hst, F, N, rfl, hj⟩
  rintro k s' ⟨i, h', tk, m', news', rfl, hi, rfl, st, F', N', ha, hJ⟩
  have off : ∀ p ∈ news', p.1 ∉ wr := fun p hp hq => by
    obtain ⟨q, hq1, hq2⟩ := here ha hp
    exact hnw q hq1 (hq2 ▸ hq)
  have stays : ∀ h₁ : Heap, (∀ b o, b ∉ wr → h'.get? b = some o → h₁.get? b = some o) → Fr h₀ env.locals h₁ m' ∧ News h₀ env.locals h₁ news' := fun h₁ hk =>
    ⟨⟨F'.ns.at' fun o e => hk _ o hLw e, fun b o e => hk b o (fun hb => by rw [hwr b hb] at e; cases e) (F'.keep b o e), F'.above⟩, fun p hp => ⟨hk _ _ (off p hp) (N' p hp).1, (N' p hp).2⟩⟩
  rcases Nat.lt_or_ge i n with hlt | hge
  · refine W.item i _ _ _ hlt st fun v h₁ tk₁ hPv st₁ hk₁ => ?_
    obtain ⟨F₁, N₁⟩ := stays h₁ hk₁
    refine wpAny_assign_Name (wpAny_storeName_local hx F₁.ns (fun h₂ hn₂ hs₂ => ?_) hp)
    have F₂ := F₁.set hn₂ hs₂
    have up : ∀ b ∈ fp, ∀ o, h₁.get? b = some o → h₂.get? b = some o := fun b hb o e => (hs₂.2 b fun q => hLf (q ▸ hb)).trans e
    have No : News h₀ env.locals h₂ (ownOf h₀ fp h₂) := news_ownOf hLf
    have apart : OwnOff (ownOf h₀ fp h₂) (news.map (·.1)) := fun p hp b hb e => by
      obtain ⟨q, hq, rfl⟩ := List.mem_map.mp hb
      exact hfp q hq (e ▸ ownOf_sub p hp)
    have N₂ : News h₀ env.locals h₂ (news' ++ ownOf h₀ fp h₂) := fun p hp => (List.mem_append.mp hp).elim (N₁.set hs₂ p) (No p)
    have on : ∀ tk₂ s₃, InvEndN h₀ env.locals (J (i + 1)) (ownOf h₀ fp h₂) (news.map (·.1)) { s with heap := h₂, toks := tk₂ } s₃ →
        ∃ k' < n - i, ∃ i h' tk m' news', k' = n - i ∧ i ≤ n ∧ s₃ = { s with heap := h', toks := tk } ∧ St i h' ∧ Fr h₀ env.locals h' m' ∧ News h₀ env.locals h' news' ∧ news'.map (·.1) = news.map (·.1) ∧ J i m' news' := by
      rintro tk₂ s₃ ⟨h₃', tk₃, m₃, all, nx, rfl, F₃, N₃, hn, ho, hadr, hJ₃⟩
      refine ⟨n - (i + 1), by omega, i + 1, h₃', tk₃, m₃, nx, rfl, hlt, rfl, ?_, F₃, fun p hp => N₃ p (hn p hp), hadr, hJ₃⟩
      refine W.frame _ _ _ st₁ fun b hb o e => ?_
      cases hb₀ : h₀.get? b with
      | some o₀ =>
        have h2 := F₂.keep b o₀ hb₀
        rw [up b hb o e] at h2
        cases h2
        exact F₃.keep b _ hb₀
      | none => exact (N₃ _ (ho _ (mem_ownOf hb hb₀ (up b hb o e)))).1
    refine wpAny_passesOwn hE (wpAny_mono (turn i v m' news' h₂ _ _ hlt hPv apart hJ F₂ N₂) (fun f s₃ h₃ => ?_) fun _ _ e => e)
    cases f with
    | next => exact on _ _ h₃
    | cont => exact on _ _ h₃
    | brk => exact h₃
    | ret v => exact h₃
  · have e : i = n := Nat.le_antisymm hi hge
    subst e
    refine W.done _ _ _ st fun h₁ tk₁ hk₁ => ?_
    obtain ⟨F₁, N₁⟩ := stays h₁ hk₁
    exact wpAny_passesOwn hE (done m' news' h₁ tk₁ hJ F₁ N₁)

theorem else_range {σ : Type} {r : Addr} {b₀ : Int} {t₀ u₀ v₀ : Tok} {n : Nat} {m₀ : Str → Option Value} (Led : σ → List (Addr × Obj)) (ps : σ → List (Str × Value)) (Facts : σ → Prop) (stored : List Str) (P : Nat → σ → Prop) (c₀ : σ)
    (hh : A.handled = none) (hr : IsRange s.heap r 0 b₀ 1 t₀ u₀ v₀) (hsmall : Builtin.Range.small 0 b₀ 1 = true) (hn : Builtin.Range.rangeSize 0 b₀ 1 = (n : Int)) (hx : env.kindOf x = some .local)
    (hp : (env.scope.kind == .class || (env.scope.kind == .module && env.locals != env.globals)) = false) (hE : PassesOwn (model prog w) A env E)
    (F : Fr h₀ env.locals s.heap m₀) (N : News h₀ env.locals s.heap (Led c₀)) (hf : Facts c₀) (hk : ∀ p ∈ ps c₀, m₀ p.1 = some p.2) (h0 : P 0 c₀)
    (turn : ∀ (c : σ) (i : Nat) t (u : Str → Option Value) h tk own, i < n → OwnOff own ((Led c₀).map (·.1)) → Facts c → P i c →
      Fr h₀ env.locals h (fun y => if y = x then some (.int (i : Int) t) else kstB (fun z => if stored.contains z then u z else m₀ z) (ps c) y) → News h₀ env.locals h (Led c ++ own) →
      wpAny (model prog w) A (execs body env) (InvPostN h₀ env.locals (KstS Led ps Facts x stored m₀ (fun _ => P (i + 1)) []) own ((Led c₀).map (·.1)) { s with heap := h, toks := tk } Q) E { s with heap := h, toks := tk })
    (done : ∀ (c : σ) (u : Str → Option Value) h tk, Facts c → P n c → Fr h₀ env.locals h (fun y => if y = x then u y else kstB (fun z => if stored.contains z then u z else m₀ z) (ps c) y) → News h₀ env.locals h (Led c) →
      wpAny (model prog w) A (execs orelse env) Q E { s with heap := h, toks := tk }) :
    wpAny (model prog w) A (pyIter (.ref r)) (fun it s₂ => LoopElse prog w A env x px body orelse Q E it s₂) E s := by
  refine wpAny_pyIter_range hr hsmall ?_
  have fresh : ∀ p ∈ Led c₀, p.1 ∉ [s.heap.objs.size] := fun p hp hI => absurd (Heap.lt_size (N p hp).1) ((List.mem_singleton.mp hI) ▸ Nat.lt_irrefl _)
  refine loop_else (h₀ := h₀) (fun i => KstS Led ps Facts x stored m₀ (fun _ => P i) []) (Walks.range hh s.heap.objs.size 0 1 n).bound hx hp hE ?_ ?_ fresh fresh
    (by show IsRangeIter _ _ _ _ _; rw [hn]; simpa using Heap.get?_push_size _ rfl) (F.push _) (fun p hp => ⟨Heap.get?_push_of_some _ (N p hp).1, (N p hp).2⟩)
    ⟨c₀, rfl, hf, hk, fun _ _ _ _ => rfl, h0⟩ ?_ ?_
  · intro hm
    exact absurd F.ns.lt ((List.mem_singleton.mp hm) ▸ Nat.lt_irrefl _)
  · intro b hb
    rw [List.mem_singleton.mp hb]
    exact next_is_new F
  · rintro i v m₁ nx h tk own hi ⟨_, t, rfl⟩ hoff ⟨c, rfl, hf', h1, h2, hp'⟩ F₁ N₁
    have e : (0 : Int) + (i : Int) * 1 = (i : Int) := by omega
    rw [e] at F₁
    exact turn c i t m₁ h tk own hi hoff hf' hp' (kst_fr h1 h2 F₁) N₁
  · rintro m₁ nx h tk ⟨c, rfl, hf', h1, h2, hp'⟩ F₁ N₁
    exact done c m₁ h tk hf' hp' (kst_frOut h1 h2 F₁) N₁
end

section
variable {prog : Program} {w : World} {A : Around} {s : Shared} {env : Env} {h₀ : Heap} {x : Str} {px : Pos} {body orelse : List Stmt} {Q : Flow → Shared → Prop} {E : Value → Shared → Prop}

theorem pretty_iter {r l : Addr} {news : List (Addr × Obj)} {n : Int} {tn t₀ u₀ v₀ : Tok} {m₀ : Str → Option Value} {c : Nat}
    (hh : A.handled = none) (hr : IsRange s.heap r 0 32 1 t₀ u₀ v₀) (hx : env.kindOf x = some .local)
    (hp : (env.scope.kind == .class || (env.scope.kind == .module && env.locals != env.globals)) = false)
    (F : Fr h₀ env.locals s.heap m₀) (N : News h₀ env.locals s.heap ((l, listOf #[] c) :: news)) (hk : m₀ (Str.ofString "flags") = some (.int n tn))
    (turn : ∀ (vs : List Value) (names : List Str) (cnt : Nat) (flags : Int) (tf : Tok) (i : Nat) t (u : Str → Option Value) h tk own, i < 32 → OwnOff own (l :: news.map (·.1)) → StrsAre vs names → PInv n i names flags →
      Fr h₀ env.locals h (fun y => if y = x then some (.int (i : Int) t) else if y = Str.ofString "flags" then some (.int flags tf) else if [Str.ofString "flag"].contains y then u y else m₀ y) → News h₀ env.locals h ((l, listOf vs.toArray cnt) :: (news ++ own)) →
      wpAny (model prog w) A (execs body env) (InvPostN h₀ env.locals (KstS (fun c : (List Value × List Str × Nat × Int × Tok) => (l, listOf c.1.toArray c.2.2.1) :: news) (fun c => [(Str.ofString "flags", .int c.2.2.2.1 c.2.2.2.2)]) (fun c => StrsAre c.1 c.2.1) x [Str.ofString "flag"] m₀
        (fun _ c => PInv n (i + 1) c.2.1 c.2.2.2.1) []) own (l :: news.map (·.1)) { s with heap := h, toks := tk } Q) E { s with heap := h, toks := tk })
    (done : ∀ (vs : List Value) (names : List Str) (cnt : Nat) (flags : Int) (tf : Tok) (u : Str → Option Value) h tk, StrsAre vs names → PInv n 32 names flags →
      Fr h₀ env.locals h (fun y => if y = x then u y else if y = Str.ofString "flags" then some (.int flags tf) else if [Str.ofString "flag"].contains y then u y else m₀ y) → News h₀ env.locals h ((l, listOf vs.toArray cnt) :: news) →
      wpAny (model prog w) A (execs orelse env) Q E { s with heap := h, toks := tk })
    (hE : PassesOwn (model prog w) A env E := by passes_own) :
    wpAny (model prog w) A (pyIter (.ref r)) (fun it s₂ => LoopElse prog w A env x px body orelse Q E it s₂) E s := by
  refine else_range (σ := (List Value × List Str × Nat × Int × Tok)) (n := 32) (fun c => (l, listOf c.1.toArray c.2.2.1) :: news) (fun c => [(Str.ofString "flags", .int c.2.2.2.1 c.2.2.2.2)]) (fun c => StrsAre c.1 c.2.1) [Str.ofString "flag"]
    (fun i c => PInv n i c.2.1 c.2.2.2.1) ([], [], c, n, tn) hh hr (by decide) (by decide) hx hp hE F N .nil (List.forall_mem_cons.mpr ⟨hk, List.forall_mem_nil _⟩) (pinv_start n) ?_ ?_
  · rintro ⟨vs, names, cnt, flags, tf⟩ i t u h tk own hi hoff hf hP F₁ N₁
    exact turn vs names cnt flags tf i t u h tk own hi hoff hf hP F₁ N₁
  · rintro ⟨vs, names, cnt, flags, tf⟩ u h tk hf hP F₁ N₁
    exact done vs names cnt flags tf u h tk hf hP F₁ N₁

theorem shl_place {i : Nat} {t u : Tok} {Q : Value → Shared → Prop} (hi : i < 32) (h : Q (.int (2 ^ i) s.toks) { s with toks := s.toks + 1 }) :
    wpAny (model prog w) A (binaryOp .LShift (.int 1 t) (.int (i : Int) u)) Q E s := by
  refine lshift_int_small (by omega) (by omega) (by decide) ?_
  rw [Int.one_mul, Int.toNat_natCast]
  exact h
theorem hex_place_fits {i : Nat} (hi : i < 32) : (baseText "0x" 16 (2 ^ i)).length ≤ sizeLine := by
  have h1 : ∀ i < 32, ((2 : Int) ^ i).natAbs < 18446744073709551616 := by decide
  exact baseText_under (by decide) (by decide) (h1 i hi)
theorem hex_place {i : Nat} {t : Tok} {Q : Value → Shared → Prop} (hi : i < 32) (h : Q (.str (baseText "0x" 16 (2 ^ i)) s.toks) { s with toks := s.toks + 1 }) :
    wpAny (model prog w) A (call (.builtin "hex") [.int (2 ^ i) t]) Q E s := P.hex_of_int h (hex_place_fits hi)

theorem vs_room {vs : List Value} {n : Int} {i : Nat} {names : List Str} {flags : Int} (hvs : StrsAre vs names) (hP : PInv n i names flags) (hi : i ≤ 32) : vs.length ≤ 32 := by
  have h1 := (low_len n i hi).1
  rw [hvs.length, hP.1]
  omega
theorem hex_flags {n : Int} {names : List Str} {flags : Int} (hF : Fit n) (hP : PInv n 32 names flags) : (baseText "0x" 16 flags).length ≤ 1048605 := by
  have e32 : (2 : Int) ^ 32 = 4294967296 := by decide
  rw [hP.2.1, e32]
  exact hex_high hF
theorem hex_rest {n : Int} {names : List Str} {flags : Int} {t : Tok} {Q : Value → Shared → Prop} (hF : Fit n) (hP : PInv n 32 names flags) (h : Q (.str (baseText "0x" 16 flags) s.toks) { s with toks := s.toks + 1 }) :
    wpAny (model prog w) A (call (.builtin "hex") [.int flags t]) Q E s := P.hex_of_int h (by have := hex_flags hF hP; rw [sizeLine_eq]; omega)
theorem hex_left {n : Int} {t : Tok} {Q : Value → Shared → Prop} (hF : Fit n) (h : Q (.str (baseText "0x" 16 (n - n.fmod 4294967296)) s.toks) { s with toks := s.toks + 1 }) :
    wpAny (model prog w) A (call (.builtin "hex") [.int (n - n.fmod 4294967296) t]) Q E s := P.hex_of_int h (by
      have := hex_high hF
      rw [Int.fmod_eq_emod_of_nonneg _ (by decide), sizeLine_eq]
      omega)
theorem join_names {l : Addr} {vs : List Value} {names : List Str} {t : Tok} {Q : Value → Shared → Prop} (hl : s.heap.IsList l vs.toArray) (hvs : StrsAre vs names)
    (hok : (names.map (·.length)).sum + names.length * (Str.ofString ", ").length ≤ 16777216) (h : ∀ t' k, Q (.str (Txt.join (Str.ofString ", ") names) t') { s with toks := k }) :
    wpAny (model prog w) A (call (.builtin "str.join") [.str (Str.ofString ", ") t, .ref l]) Q E s :=
  join_list hl hvs hok h

abbrev Room (names : List Str) : Prop := (names.map (·.length)).sum + names.length * (Str.ofString ", ").length ≤ 16777216
theorem room_set {n : Int} {i : Nat} {names : List Str} {flags : Int} (hP : PInv n i names flags) (hi : i < 32) : Room (names ++ [nm i]) := by
  rw [hP.1]
  have := nm_len i hi
  exact room_one (Nat.le_of_lt hi) (by omega)
theorem room_done {n : Int} {names : List Str} {flags : Int} (hF : Fit n) (hP : PInv n 32 names flags) : Room (names ++ [baseText "0x" 16 flags]) := by
  have h := hex_flags hF hP
  rw [hP.1]
  exact room_one (Nat.le_refl _) h
theorem room_more {n : Int} {found : List Str} (hF : Fit n) (h : TInv (n.fmod 4294967296) 32 found) : Room (found ++ [baseText "0x" 16 (n - n.fmod 4294967296)]) := by
  have h1 := hex_high hF
  rw [Int.fmod_eq_emod_of_nonneg _ (by decide)] at *
  rw [show found = _ from h]
  exact room_one (Nat.le_refl _) h1
theorem room_bare {m : Int} {found : List Str} (h : TInv m 32 found) : Room found := by
  rw [show found = _ from h]
  exact room_none (Nat.le_refl _)

abbrev flagTab : List (Int × PyData) := [(1, PyData.str { cps := #[79, 80, 84, 73, 77, 73, 90, 69, 68] }), (2, PyData.str { cps := #[78, 69, 87, 76, 79, 67, 65, 76, 83] }), (4, PyData.str { cps := #[86, 65, 82, 65, 82, 71, 83] }), (8, PyData.str { cps := #[86, 65, 82, 75, 69, 89, 87, 79, 82, 68, 83] }), (16, PyData.str { cps := #[78, 69, 83, 84, 69, 68] }), (32, PyData.str { cps := #[71, 69, 78, 69, 82, 65, 84, 79, 82] }), (64, PyData.str { cps := #[78, 79, 70, 82, 69, 69] }), (128, PyData.str { cps := #[67, 79, 82, 79, 85, 84, 73, 78, 69] }), (256, PyData.str { cps := #[73, 84, 69, 82, 65, 66, 76, 69, 95, 67, 79, 82, 79, 85, 84, 73, 78, 69] }), (512, PyData.str { cps := #[65, 83, 89, 78, 67, 95, 71, 69, 78, 69, 82, 65, 84, 79, 82] })]
theorem tab_at : ∀ i : Nat, i < 32 → (KTD.datumAt (2 ^ i) flagTab).getD (PyData.str (baseText "0x" 16 (2 ^ i))) = PyData.str (nm i)
  | 0, _ => by rfl
  | 1, _ => by rfl
  | 2, _ => by rfl
  | 3, _ => by rfl
  | 4, _ => by rfl
  | 5, _ => by rfl
  | 6, _ => by rfl
  | 7, _ => by rfl
  | 8, _ => by rfl
  | 9, _ => by rfl
  | 10, _ => by rfl
  | 11, _ => by rfl
  | 12, _ => by rfl
  | 13, _ => by rfl
  | 14, _ => by rfl
  | 15, _ => by rfl
  | 16, _ => by rfl
  | 17, _ => by rfl
  | 18, _ => by rfl
  | 19, _ => by rfl
  | 20, _ => by rfl
  | 21, _ => by rfl
  | 22, _ => by rfl
  | 23, _ => by rfl
  | 24, _ => by rfl
  | 25, _ => by rfl
  | 26, _ => by rfl
  | 27, _ => by rfl
  | 28, _ => by rfl
  | 29, _ => by rfl
  | 30, _ => by rfl
  | 31, _ => by rfl
  | i + 32, h => absurd h (by omega)
theorem get_flag {a : Addr} {i : Nat} {t u : Tok} {Q : Value → Shared → Prop} (K : KTD.Keyed h₀ a flagTab) (hk : ∀ b o, h₀.get? b = some o → s.heap.get? b = some o) (hi : i < 32)
    (h : ∀ u, Q (.str (nm i) u) { s with toks := s.toks + 1 }) :
    wpAny (model prog w) A (call (.builtin "dict.get") [.ref a, .int (2 ^ i) t, .str (baseText "0x" 16 (2 ^ i)) u]) Q E s :=
  call_get2_intTab (K.keep hk prog w) (PyProof.V.Flat.str _ _) fun v hv => by
    rw [KTD.lookup_keyed, tab_at i hi] at hv
    obtain ⟨u', rfl⟩ := PyProof.V.Flat.str_inv hv
    exact h u'
end

section
variable {prog : Program} {w : World} {A : Around} {s : Shared} {env : Env} {h₀ : Heap} {x : Str} {px : Pos} {body orelse : List Stmt} {Q : Flow → Shared → Prop} {E : Value → Shared → Prop}
theorem told_iter {r l : Addr} {news : List (Addr × Obj)} {m : Int} {tm t₀ u₀ v₀ : Tok} {m₀ : Str → Option Value} {c : Nat}
    (hh : A.handled = none) (hr : IsRange s.heap r 0 32 1 t₀ u₀ v₀) (F : Fr h₀ env.locals s.heap m₀) (N : News h₀ env.locals s.heap ((l, listOf #[] c) :: news)) (_hk : m₀ (Str.ofString "low") = some (.int m tm))
    (turn : ∀ (vs : List Value) (found : List Str) (cnt : Nat) (k : Nat) t h tk own, k < 32 → OwnOff own (l :: news.map (·.1)) → StrsAre vs found → TInv m k found →
      Fr h₀ env.locals h (fun y => if y = x then some (.int (k : Int) t) else m₀ y) → News h₀ env.locals h ((l, listOf vs.toArray cnt) :: (news ++ own)) →
      wpAny (model prog w) A (execs body env) (InvPostN h₀ env.locals (KstS (fun c : (List Value × List Str × Nat) => (l, listOf c.1.toArray c.2.2) :: news) (fun _ => []) (fun c => StrsAre c.1 c.2.1) x [] m₀
        (fun _ c => TInv m (k + 1) c.2.1) []) own (l :: news.map (·.1)) { s with heap := h, toks := tk } Q) E { s with heap := h, toks := tk })
    (done : ∀ (vs : List Value) (found : List Str) (cnt : Nat) (u : Str → Option Value) h tk, StrsAre vs found → TInv m 32 found →
      Fr h₀ env.locals h (fun y => if y = x then u y else m₀ y) → News h₀ env.locals h ((l, listOf vs.toArray cnt) :: news) → Q .next { s with heap := h, toks := tk }) :
    wpAny (model prog w) A (pyIter (.ref r)) (fun it s₂ => LoopAtV prog w A h₀ env x body Q E it s₂) E s := by
  refine wpAny_pyIter_range hr (by decide) ?_
  have fresh : ∀ p ∈ (l, listOf #[] c) :: news, p.1 ∉ [s.heap.objs.size] := fun p hp hI => absurd (Heap.lt_size (N p hp).1) ((List.mem_singleton.mp hI) ▸ Nat.lt_irrefl _)
  have bare : ∀ (g : Str → Option Value) (v : Option Value), (fun y => if y = x then v else kstB (fun z => if ([] : List Str).contains z then g z else m₀ z) [] y) = fun y => if y = x then v else m₀ y := fun _ _ => rfl
  refine loop_invN (h₀ := h₀) (n := 32) (fun i => KstS (fun c : (List Value × List Str × Nat) => (l, listOf c.1.toArray c.2.2) :: news) (fun _ => []) (fun c => StrsAre c.1 c.2.1) x [] m₀ (fun _ c => TInv m i c.2.1) [])
    (Walks.range hh s.heap.objs.size 0 1 32).bound ?_ ?_ fresh fresh
    (by show IsRangeIter _ _ _ _ _; rw [show Builtin.Range.rangeSize 0 32 1 = 32 by decide]; simpa using Heap.get?_push_size _ rfl) (F.push _) (fun p hp => ⟨Heap.get?_push_of_some _ (N p hp).1, (N p hp).2⟩)
    ⟨([], [], c), rfl, .nil, List.forall_mem_nil _, fun _ _ _ _ => rfl, rfl⟩ ?_ ?_
  · intro hm
    exact absurd F.ns.lt ((List.mem_singleton.mp hm) ▸ Nat.lt_irrefl _)
  · intro b hb
    rw [List.mem_singleton.mp hb]
    exact next_is_new F
  · rintro i v m₁ nx h tk own hi ⟨_, t, rfl⟩ _ hoff ⟨⟨vs, found, cnt⟩, rfl, hf', h1, h2, hp'⟩ F₁ N₁
    have e : (0 : Int) + (i : Int) * 1 = (i : Int) := by omega
    rw [e] at F₁
    exact turn vs found cnt i t h tk own hi hoff hf' hp' (kst_fr h1 h2 F₁) N₁
  · rintro m₁ nx h tk ⟨⟨vs, found, cnt⟩, rfl, hf', h1, h2, hp'⟩ F₁ N₁
    exact done vs found cnt m₁ h tk hf' hp' (kst_frOut h1 h2 F₁) N₁

theorem told_room {vs : List Value} {m : Int} {k : Nat} {found : List Str} (hvs : StrsAre vs found) (h : TInv m k found) (hk : k ≤ 32) : vs.length ≤ 32 := by
  have h1 := (low_len m k hk).1
  rw [hvs.length, show found = _ from h]
  omega
theorem strs_at : ∀ {vs : List Value} {ys : List Str}, StrsAre vs ys → ∀ {i : Nat} {y : Str}, ys[i]? = some y → ∃ u, vs[i]? = some (.str y u)
  | _, _, .nil, i, y, h => by simp at h
  | _, _, .cons z t hr, 0, y, h => by
    simp only [List.getElem?_cons_zero, Option.some.injEq] at h
    subst h
    exact ⟨t, rfl⟩
  | _, _, .cons z t hr, i + 1, y, h => strs_at hr (i := i) (by simpa using h)
abbrev nameTab : List Str := [Str.ofString "OPTIMIZED", Str.ofString "NEWLOCALS", Str.ofString "VARARGS", Str.ofString "VARKEYWORDS", Str.ofString "NESTED", Str.ofString "GENERATOR", Str.ofString "NOFREE", Str.ofString "COROUTINE", Str.ofString "ITERABLE_COROUTINE", Str.ofString "ASYNC_GENERATOR"]
theorem name_at : ∀ k : Nat, k < 10 → nameTab[k]? = some (nm k)
  | 0, _ => rfl | 1, _ => rfl | 2, _ => rfl | 3, _ => rfl | 4, _ => rfl | 5, _ => rfl | 6, _ => rfl | 7, _ => rfl | 8, _ => rfl | 9, _ => rfl
  | k + 10, h => absurd h (by omega)
theorem item_name {value slice : PySem.Expr} {D : Addr} {vs : List Value} {k : Nat} {u : Tok} {Q : Value → Shared → Prop} (hl : s.heap.IsList D vs.toArray) (hvs : StrsAre vs nameTab) (hk : k < 10) (h : ∀ u, Q (.str (nm k) u) s)
    (hs : subscripted slice false (.ref D) (.int (k : Int) u) = operate [.ref D, .int (k : Int) u] (getItem (.ref D) (.int (k : Int) u)) := by with_unfolding_all rfl) :
    wpAny (model prog w) A (subscriptTail value slice (.ref D) (.int (k : Int) u)) Q E s := by
  obtain ⟨t, ht⟩ := strs_at hvs (name_at k hk)
  refine tail_any hl.typeIs slot_list_getitem.lookup (wpAny_getItem_list hl (by omega) (by omega) ?_ (h t)) hs
  simpa using ht

theorem eq_nil {a b : Addr} {vs : List Value} {found : List Str} {Q : Value → Shared → Prop} (ha : s.heap.IsList a vs.toArray) (hb : s.heap.IsList b #[]) (hvs : StrsAre vs found) (hu : A.units < cLine)
    (h : Q (.bool (decide (found = []))) s) : wpAny (model prog w) A (compareOp .Eq (.ref a) (.ref b)) Q E s := by
  have hlen := hvs.length
  cases found with
  | nil =>
    have hv : vs = [] := List.length_eq_zero_iff.mp hlen
    subst hv
    exact PySem.SeqAt.eq_listAt (e := fun _ => true) ha hb rfl hu (fun j h1 _ => absurd h1 (Nat.not_lt_zero _)) h
  | cons y r =>
    refine PySem.SeqAt.eq_list_lengthsAt ha hb ?_ hu h
    rw [List.size_toArray, hlen]
    simp
theorem place_text : ∀ k : Nat, k < 32 → ¬ k < 10 → Str.ofString "0x" ++ Txt.item (Str.ofString "1248") ((k : Int).fmod 4) ++ Txt.mul (Str.ofString "0") ((k : Int).fdiv 4) = nm k := by decide +kernel
theorem add_place {k : Nat} {t u : Tok} {Q : Value → Shared → Prop} (hk : k < 32) (h10 : ¬ k < 10) (h : ∀ t' tk, Q (.str (nm k) t') { s with toks := tk }) :
    wpAny (model prog w) A (binaryOp .Add (.str (Str.ofString "0x" ++ Txt.item (Str.ofString "1248") ((k : Int).fmod 4)) t) (.str (Txt.mul (Str.ofString "0") ((k : Int).fdiv 4)) u)) Q E s := by
  have e := place_text k hk h10
  have hl := nm_len k hk
  refine PyProof.Rows.add_str (fun t' tk => by rw [e]; exact h t' tk) ?_
  rw [← e, Str.length_append] at hl
  rw [sizeLine_eq]
  omega
theorem told_set {m : Int} {k : Nat} {found : List Str} (h : TInv m k found) (hb : (m.fdiv (2 ^ ((k : Int)).toNat)).fmod 2 = 1) : TInv m (k + 1) (found ++ [nm k]) := by
  rw [Int.toNat_natCast] at hb
  exact tinv_set h hb
theorem told_clear {m : Int} {k : Nat} {found : List Str} (h : TInv m k found) (hb : (m.fdiv (2 ^ ((k : Int)).toNat)).fmod 2 ≠ 1) : TInv m (k + 1) found := by
  rw [Int.toNat_natCast] at hb
  exact tinv_clear h hb
theorem fd_place {n : Int} {t u : Tok} {a : Int} {Q : Value → Shared → Prop} (h : Q (.int (a.fdiv (1 * 2 ^ (n.fmod 34).toNat)) s.toks) { s with toks := s.toks + 1 }) :
    wpAny (model prog w) A (binaryOp .FloorDiv (.int a t) (.int (1 * 2 ^ (n.fmod 34).toNat) u)) Q E s := by
  refine floordiv_int (pow_ne _) h (Or.inl (PyProof.noPylong_of_log2 ?_))
  have h1 := place34 n
  have h2 : ((1 : Int) * 2 ^ (n.fmod 34).toNat).natAbs ≠ 0 := by have := pow_ne (n.fmod 34).toNat; omega
  have h3 : ((1 : Int) * 2 ^ (n.fmod 34).toNat).natAbs.log2 < 34 := (Nat.log2_lt h2).mpr h1
  omega
theorem ne_self {x : Str} {t u : Tok} {Q : Value → Shared → Prop} (h : Q (.bool false) s) : wpAny (model prog w) A (compareOp .NotEq (.str x t) (.str x u)) Q E s := by
  refine ne_str ?_
  simpa using h
theorem unr_end {L I : Addr} {it : Obj} {s₁ s₂ : Shared} {lp : Addr × Obj} {rest : List Value} {h' : Heap} {tk : Nat} {m' : Str → Option Value} {news' : List (Addr × Obj)} (F : Fr h₀ L h' m') (N : News h₀ L h' ((I, it) :: news'))
    (off : ∀ p ∈ news', p.1 < I) (hm : lp ∈ news') (r : ListRest prog w A E h₀ env x body Q s₂ I lp rest m' news') :
    UnrEnd h₀ L s₁ I it (fun m' n' => lp ∈ n' ∧ ListRest prog w A E h₀ env x body Q s₂ I lp rest m' n') { s₁ with heap := h', toks := tk } :=
  UnrEnd.intro F N news' (fun _ hp => hp) (fun p hp => Nat.ne_of_lt (off p hp)) ⟨hm, r⟩
end

set_option maxRecDepth 100000 in
set_option maxHeartbeats 8000000 in
open_top hd for PySem.Challenge.rw_xb0003_01

section
local macro_rules | `(tactic| walk_at "exec For Name Call cons cons") => `(tactic| (k_here; (rename Fr _ _ _ _ => lF'); (with_unfolding_all refine' for_else lF' ?_); walk_say "ELSE"))
local macro_rules | `(tactic| walk_at "pyIter ref") => `(tactic| (k_here; (with_reducible show wpAny _ _ (pyIter (Value.ref _)) (fun it s₂ => LoopElse _ _ _ _ _ _ _ _ _ _ it s₂) _ _); (rename Fr _ _ _ _ => lF'); (rename News _ _ _ _ => lN'); (rename IsRange _ _ _ _ _ _ _ _ => rgX); (with_unfolding_all refine pretty_iter (by rfl) rgX (by rfl) (by rfl) lF' lN' (by with_unfolding_all rfl) ?_ ?_); (all_goals (try clear lF' lN')); (case' refine_1 => (intro vs names cnt flags tf i ti u h' tk' own' hi hoff hvs hP F' N')); (case' refine_2 => (intro vs names cnt flags tf u h' tk' hvs hP F' N')); (case' refine_1 => have hRoom := vs_room hvs hP (Nat.le_of_lt hi)); (case' refine_2 => have hRoom := vs_room hvs hP (Nat.le_refl _)); (all_goals (have kMark := kstMark)); (all_goals (try k_fold)); walk_say "PRETTY"))
local macro_rules | `(tactic| walk_at "binaryOp LShift int int") => `(tactic| (k_here; refine shl_place (by assumption) ?_))
local macro_rules | `(tactic| walk_at "call builtin:hex") => `(tactic| (k_here; first | refine hex_place (by assumption) ?_ | refine hex_rest (by assumption) (by assumption) ?_ | refine hex_left (by assumption) ?_))
local macro_rules | `(tactic| walk_at "call builtin:dict.get") => `(tactic| (k_here; (with_reducible rename KTD.Keyed _ _ _ => kyX); (with_unfolding_all refine get_flag kyX (by kt_keeps) (by assumption) ?_); intro u'))
local macro_rules | `(tactic| walk_at "call builtin:str.join") => `(tactic| (k_here; (rename News _ _ _ _ => lN'); (try simp only [List.push_toArray] at lN'); refine join_names (by first | exact News.isList lN' (by k_mem) | is_list) (by first | (with_reducible assumption) | exact StrsAre.append' (by assumption) (.cons _ _ .nil)) ?hok ?_; (case hok => first | exact room_set (by assumption) (by assumption) | exact room_done (by assumption) (by assumption) | exact room_more (by assumption) (by assumption) | exact room_bare (by assumption)); intro _ _))
local macro_rules | `(tactic| kst_facts) => `(tactic| ((try dsimp only); first | (with_reducible assumption) | exact StrsAre.append' (by assumption) (.cons _ _ .nil)))
set_option maxRecDepth 100000 in
set_option maxHeartbeats 8000000 in
theorem pretty_claim (w : World) (s₀ : Shared) (mg mb : Str → Option Value) : ∀ (cbNews : CbLed) (cbV0 : Int) (cbT0 : CbTok), CbClaim PySem.Challenge.rw_xb0003_01.row.prog w (hd.heap_39 w.params) hd.view_39 (looseW hd.view_39 [Str.ofString "COMPILER_FLAG_NAMES"]) (ExcName.means s₀.heap) mg mb 22 cbNews [] (Fit cbV0) [Value.int cbV0 cbT0] (fun t => Value.str (told cbV0) t) := by
  k_with_none
  k_fill
  w_top off
  (k_with "state" => first | exact turn_set (by assumption) (by assumption) (by assumption) | exact turn_clear (by assumption) (by assumption))
  (k_with "tree" => first | exact told_left (by assumption) (by assumption) (by assumption) (by assumption) | exact told_done (by assumption))
  dsimp only [CbClaim, CbLists, CbRet]
  intros
  rename_i hret
  have cbI : CbIn 22 := CbIn.mk
  refine wpAny_call ?_
  k_dflt cell_enter
  k_steps
  all_goals cb_end hret
end

section
local macro_rules | `(tactic| walk_at "call builtin:hex") => `(tactic| (k_here; first | refine hex_place (by assumption) ?_ | refine hex_rest (by assumption) (by assumption) ?_ | refine hex_left (by assumption) ?_))
local macro_rules | `(tactic| walk_at "call builtin:str.join") => `(tactic| (k_here; (rename News _ _ _ _ => lN'); (try simp only [List.push_toArray] at lN'); refine join_names (by first | exact News.isList lN' (by k_mem) | is_list) (by first | (with_reducible assumption) | exact StrsAre.append' (by assumption) (.cons _ _ .nil)) ?hok ?_; (case hok => first | exact room_set (by assumption) (by assumption) | exact room_done (by assumption) (by assumption) | exact room_more (by assumption) (by assumption) | exact room_bare (by assumption)); intro _ _))
local macro_rules | `(tactic| walk_at "pyIter ref") => `(tactic| (k_here; (with_reducible show wpAny _ _ (pyIter (Value.ref _)) (fun it s₂ => LoopAtV _ _ _ _ _ _ _ _ _ it s₂) _ _); (k_of "k" => skip); (rename Fr _ _ _ _ => lF'); (rename News _ _ _ _ => lN'); (rename IsRange _ _ _ _ _ _ _ _ => rgX); (with_unfolding_all refine told_iter (by rfl) rgX lF' lN' (by with_unfolding_all rfl) ?_ ?_); (all_goals (try clear lF' lN')); (case' refine_1 => (intro vs found cnt k tk0 h' tk' own' hi hoff hvs hT F' N')); (case' refine_2 => (intro vs found cnt u h' tk' hvs hT F' N')); (case' refine_1 => have hRoom := told_room hvs hT (Nat.le_of_lt hi)); (case' refine_2 => have hRoom := told_room hvs hT (Nat.le_refl _)); (all_goals (have kMark := kstMark)); (all_goals (try k_fold)); walk_say "TOLD"))
local macro_rules | `(tactic| walk_at "subscriptTail") => `(tactic| (k_here; (with_reducible show wpAny _ _ (subscriptTail _ _ (Value.ref _) (Value.int (Nat.cast _) _)) _ _ _); (with_unfolding_all refine item_name (by is_list) (by kct_strs) (by omega) ?_); intro _))
local macro_rules | `(tactic| walk_at "binaryOp Add str str") => `(tactic| (k_here; (with_reducible show wpAny _ _ (binaryOp Operator.Add (Value.str _ _) (Value.str (PySem.Txt.mul _ _) _)) _ _ _); (refine add_place (by assumption) (by omega) ?_); intro _ _))
local macro_rules | `(tactic| walk_at "compareOp Eq ref ref") => `(tactic| (k_here; (with_reducible show wpAny _ _ (compareOp CmpOp.Eq (Value.ref _) (Value.ref _)) _ _ _); (refine eq_nil (by is_list) (by is_list) (by assumption) (by ktr_units) ?_)))
local macro_rules | `(tactic| walk_at "mine: one rule more than the part before") => `(tactic| fail "none")
local macro_rules | `(tactic| kst_facts) => `(tactic| ((try dsimp only); first | (with_reducible assumption) | exact StrsAre.append' (by assumption) (.cons _ _ .nil)))
set_option maxRecDepth 100000 in
set_option maxHeartbeats 2000000 in
theorem told_claim (w : World) (s₀ : Shared) (mg mb : Str → Option Value) : ∀ (cbNews : CbLed) (cbV0 : Int) (cbT0 : CbTok), CbClaim PySem.Challenge.rw_xb0003_01.row.prog w (hd.heap_39 w.params) hd.view_39 (looseW hd.view_39 [Str.ofString "COMPILER_FLAG_NAMES"]) (ExcName.means s₀.heap) mg mb 29 cbNews [] (Fit cbV0) [Value.int cbV0 cbT0] (fun t => Value.str (told cbV0) t) := by
  k_with_none
  k_fill
  w_top off
  (k_with "tree" => first | exact told_more (by assumption) (by first | exact .inl (by assumption) | exact .inr (by assumption)) | exact told_bare (by assumption) (by assumption) (by assumption))
  (k_with "state" => first | exact told_set (by assumption) (by assumption) | exact told_clear (by assumption) (by assumption))
  dsimp only [CbClaim, CbLists, CbRet]
  intros
  rename_i hret
  have cbI : CbIn 29 := CbIn.mk
  refine wpAny_call ?_
  k_dflt cell_enter
  k_steps
  all_goals cb_end hret
end

section
variable {w : World} {s₀ : Shared} {mg mb : Str → Option Value} {news : CbLed} {n : Int} {tn : Tok} {dp un : Nat} {gd : Option (List Code)} {cn : Str} {cs : Scope} {a : Addr} {ccd : Value} {cl : List (Str × Addr)} {outer : List Env} {A₀ : Around} {base h₀ : Heap} {L : Addr} {m : Str → Option Value} {s : Shared} {Q E : Value → Shared → Prop}
theorem pretty_call (B : Below A₀ base outer h₀) (F : Fr h₀ L s.heap m) (X : (hd.heap_39 w.params).In h₀) (N : News h₀ L s.heap news) (T : Top hd.view_39 (looseW hd.view_39 [Str.ofString "COMPILER_FLAG_NAMES"]) (ExcName.means s₀.heap) mg mb h₀)
    (hk : cs.kind = .function) (hn : Fit n) (hdp : dp + 1 < recursionLimit) (hun : un + 8 < cLine)
    (hret : ∀ (t : Tok) (h' : Heap) (tk' : Nat), Fr h₀ L h' m → News h₀ L h' news → Q (.str (told n) t) { s with heap := h', toks := tk' }) :
    wpAny (model PySem.Challenge.rw_xb0003_01.row.prog w) (ktrTop dp un gd cn cs L a ccd cl outer) (call (.ref 22) [.int n tn]) Q E s :=
  pretty_claim w s₀ mg mb news n tn dp un gd cn cs a ccd cl outer A₀ base h₀ L m s Q E B F X N T hk hn hdp hun hret
theorem told_call (B : Below A₀ base outer h₀) (F : Fr h₀ L s.heap m) (X : (hd.heap_39 w.params).In h₀) (N : News h₀ L s.heap news) (T : Top hd.view_39 (looseW hd.view_39 [Str.ofString "COMPILER_FLAG_NAMES"]) (ExcName.means s₀.heap) mg mb h₀)
    (hk : cs.kind = .function) (hn : Fit n) (hdp : dp + 1 < recursionLimit) (hun : un + 8 < cLine)
    (hret : ∀ (t : Tok) (h' : Heap) (tk' : Nat), Fr h₀ L h' m → News h₀ L h' news → Q (.str (told n) t) { s with heap := h', toks := tk' }) :
    wpAny (model PySem.Challenge.rw_xb0003_01.row.prog w) (ktrTop dp un gd cn cs L a ccd cl outer) (call (.ref 29) [.int n tn]) Q E s :=
  told_claim w s₀ mg mb news n tn dp un gd cn cs a ccd cl outer A₀ base h₀ L m s Q E B F X N T hk hn hdp hun hret
end
end Mine

section
open Mine
local macro_rules | `(tactic| walk_at "binaryOp FloorDiv int int") => `(tactic| (k_here; refine fd_place ?_))
local macro_rules | `(tactic| walk_at "pyIter ref") => `(tactic| (k_here; (with_reducible show wpAny _ _ (pyIter (Value.ref _)) (fun it s₂ => LoopAtV _ _ _ _ _ _ _ _ _ it s₂) _ _); (k_of "one" => skip); (with_reducible rename Fr _ _ _ _ => lF'); (with_reducible rename News _ _ _ ((_, W.listOf #[_, _, _] _) :: _) => lN'); (with_unfolding_all refine iter_listUnr (by rfl) lF' lN' (List.mem_cons_self ..) (by rfl) (by rfl) ?_); clear lF'; intro i' l1; (with_reducible rename PyData.layable0 _ = true => hLay); (rename (_ : Int) ∈ _ => hMm); (have fN := fit_mem hLay hMm); (have fA := fit_without hLay hMm); (have fB := fit_with hLay hMm); (have fC := fit_both hLay hMm); walk_say "MINE"))
local macro_rules | `(tactic| walk_at "compareOp NotEq str str") => `(tactic| (k_here; (with_reducible refine ne_self ?_)))
local macro_rules | `(tactic| walk_at "UnrEnd") => `(tactic| (k_here; (rename News _ _ _ _ => lN'); (with_unfolding_all refine unr_end (by assumption) lN' (by assumption) (List.mem_cons_self ..) ?_)))
local macro_rules | `(tactic| walk_at "call ref") => `(tactic| (k_here; (with_reducible show wpAny _ _ (call (Value.ref 22) _) _ _ _); k_dflt ((refine' pretty_call ?k1 ?k2 ?k3 ?k4 ?k5 ?kK ?kp ?kd ?ku ?_); (case k1 => k_asm); (case k2 => k_asm); (case k3 => k_asm); (case k4 => k_asm); (case k5 => k_asm); (case kK => first | exact rfl | assumption); (case kp => assumption); (case kd => ktr_room); (case ku => ktr_units)); (intro t9 h9 tk9 F9 N9); (try dsimp only); (try k_fold)))
local macro_rules | `(tactic| walk_at "call ref") => `(tactic| (k_here; (with_reducible show wpAny _ _ (call (Value.ref 29) _) _ _ _); k_dflt ((refine' told_call ?k1 ?k2 ?k3 ?k4 ?k5 ?kK ?kp ?kd ?ku ?_); (case k1 => k_asm); (case k2 => k_asm); (case k3 => k_asm); (case k4 => k_asm); (case k5 => k_asm); (case kK => first | exact rfl | assumption); (case kp => assumption); (case kd => ktr_room); (case ku => ktr_units)); (intro t9 h9 tk9 F9 N9); (try dsimp only); (try k_fold)))
set_option maxRecDepth 100000 in
set_option maxHeartbeats 8000000 in
theorem PySem.Challenge.cw_xb0003_01_holds : PySem.Challenge.rw_xb0003_01.Holds := by
  k_with_none
  refine hd ?_
  w_strict (k_go0; (all_goals try k_fold); k_steps)
end
