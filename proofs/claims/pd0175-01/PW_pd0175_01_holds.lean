import PyProof.Rows.All
import Wide.All
import OpenK.AllK
import Wide.FinOn
import PySem.Challenge.RW_pd0175_01
open PySem PySem.W PyProof.Rows PySem.Spec PySem.Calls
set_option Elab.async false
set_option maxRecDepth 100000
namespace Mine
/-! plain laws of digits -/
theorem land_high (x s : Nat) : Nat.land x (x / 2 ^ s * 2 ^ s) = x / 2 ^ s * 2 ^ s := by
  show x &&& (x / 2 ^ s * 2 ^ s) = _
  apply Nat.eq_of_testBit_eq
  intro i
  rw [Nat.testBit_and, ← Nat.shiftRight_eq_div_pow, ← Nat.shiftLeft_eq, Nat.testBit_shiftLeft, Nat.testBit_shiftRight]
  by_cases h : s ≤ i
  · rw [Nat.add_sub_cancel' h]; simp [h]
  · simp [h]
theorem xor_high {x : Int} (h : 0 ≤ x) (s : Nat) : Builtin.bitXor x (x / 2 ^ s * 2 ^ s) = x % 2 ^ s := by
  obtain ⟨n, rfl⟩ := Int.eq_ofNat_of_zero_le h
  rw [PyProof.Rows.bitXor_and]
  have e : ((n : Int) / 2 ^ s * 2 ^ s) = ((n / 2 ^ s * 2 ^ s : Nat) : Int) := by push_cast; rfl
  have e2 : Builtin.bitAnd (n : Int) ((n / 2 ^ s * 2 ^ s : Nat) : Int) = ((n / 2 ^ s * 2 ^ s : Nat) : Int) := by
    show (((Nat.land n (n / 2 ^ s * 2 ^ s) : Nat)) : Int) = _
    rw [land_high]
  rw [e, e2]
  have h1 := Nat.div_add_mod n (2 ^ s)
  have e3 : ((n : Int) % 2 ^ s) = ((n % 2 ^ s : Nat) : Int) := by push_cast; rfl
  rw [e3]
  rw [Nat.mul_comm] at h1
  omega
theorem bits_lt {a : Int} (h : 0 ≤ a) : a < 2 ^ Builtin.Int.intBits a := by
  unfold Builtin.Int.intBits
  by_cases h0 : a = 0
  · subst h0; decide
  · have : (a == 0) = false := by simpa using h0
    rw [this]
    have h1 := Nat.lt_log2_self (n := a.natAbs)
    have h2 : ((a.natAbs : Nat) : Int) < ((2 ^ (a.natAbs.log2 + 1) : Nat) : Int) := by exact_mod_cast h1
    simp only [Bool.false_eq_true, if_false]
    push_cast at h2
    omega
theorem bits_le {a : Int} {k : Nat} (h : 0 ≤ a) (hk : a < 2 ^ k) : Builtin.Int.intBits a ≤ k := by
  unfold Builtin.Int.intBits
  by_cases h0 : a = 0
  · subst h0; simp
  · have : (a == 0) = false := by simpa using h0
    rw [this]
    simp only [Bool.false_eq_true, if_false]
    have hn : a.natAbs ≠ 0 := by omega
    have : a.natAbs < 2 ^ k := by
      have : ((a.natAbs : Nat) : Int) < ((2 ^ k : Nat) : Int) := by push_cast; omega
      exact_mod_cast this
    have := (Nat.log2_lt hn).mpr this
    omega
noncomputable def digs (B : Int) : Int → Nat → List Int
  | _, 0 => []
  | x, k + 1 => x % B :: digs B (x / B) k
noncomputable def val (B : Int) : List Int → Int
  | [] => 0
  | d :: r => d + B * val B r
theorem digs_length (B : Int) : ∀ (k : Nat) (x : Int), (digs B x k).length = k
  | 0, _ => rfl
  | k + 1, x => by rw [digs, List.length_cons, digs_length B k]
theorem val_digs {B : Int} (hB : 0 < B) : ∀ (k : Nat) (x : Int), 0 ≤ x → x < B ^ k → val B (digs B x k) = x
  | 0, x, h0, h1 => by simp at h1; simp [digs, val]; omega
  | k + 1, x, h0, h1 => by
    rw [digs, val, val_digs hB k (x / B) (Int.ediv_nonneg h0 (by omega))]
    · exact Int.emod_add_mul_ediv x B
    · rw [Int.pow_succ] at h1
      exact Int.ediv_lt_of_lt_mul hB h1
theorem digs_add {B : Int} (hB : 0 < B) : ∀ (i j : Nat) (x : Int), digs B x (i + j) = digs B (x % B ^ i) i ++ digs B (x / B ^ i) j
  | 0, j, x => by simp [digs]
  | i + 1, j, x => by
    have e1 : i + 1 + j = (i + j) + 1 := by omega
    rw [e1, digs, digs, digs_add hB i j (x / B), List.cons_append]
    have hp : (0 : Int) < B ^ i := Int.pow_pos hB
    have e2 : x % B ^ (i + 1) % B = x % B := by rw [Int.pow_succ]; exact Int.emod_emod_of_dvd x ⟨B ^ i, by rw [Int.mul_comm]⟩
    have e3 : x / B / B ^ i = x / B ^ (i + 1) := by rw [Int.ediv_ediv_of_nonneg (by omega), Int.pow_succ, Int.mul_comm]
    have e4 : x % B ^ (i + 1) / B = x / B % B ^ i := by
      have q : x % B ^ (i + 1) = x % B + B * (x / B % B ^ i) := by
        rw [Int.emod_def x (B ^ (i + 1)), ← e3, Int.pow_succ, Int.emod_def (x / B), Int.mul_sub, Int.mul_comm (B ^ i) B, Int.mul_assoc]
        have := Int.emod_add_mul_ediv x B
        omega
      rw [q, Int.add_mul_ediv_left _ _ (by omega), Int.ediv_eq_zero_of_lt (Int.emod_nonneg _ (by omega)) (Int.emod_lt_of_pos _ hB)]; omega
    rw [e2, e3, e4]
noncomputable def splice (is : List Int) (l : Nat) (d : List Int) : List Int := is.take l ++ d ++ is.drop (l + d.length)
theorem splice_length {is : List Int} {l : Nat} {d : List Int} (h : l + d.length ≤ is.length) : (splice is l d).length = is.length := by
  unfold splice; simp; omega
theorem splice_one {is : List Int} {l : Nat} {x : Int} (h : l < is.length) : is.set l x = splice is l [x] := by
  unfold splice
  rw [List.set_eq_take_append_cons_drop, if_pos h]; simp
theorem splice_two {is : List Int} {l : Nat} {d e : List Int} (h : l + d.length + e.length ≤ is.length) : splice (splice is l d) (l + d.length) e = splice is l (d ++ e) := by
  unfold splice
  have h1 : (is.take l ++ d).length = l + d.length := by simp; omega
  rw [List.take_append_of_le_length (by rw [h1]; omega), List.take_of_length_le (by rw [h1]; omega), List.drop_append]
  rw [List.drop_of_length_le (by rw [h1]; omega), h1, List.drop_drop]
  simp [Nat.add_assoc]
theorem splice_all {is d : List Int} (h : is.length = d.length) : splice is 0 d = d := by
  unfold splice; simp [h]
theorem pow_sh {d n : Int} (hd : 0 ≤ d) (hn : 0 ≤ n) : (2 : Int) ^ (d * n).toNat = (2 ^ n.toNat) ^ d.toNat := by
  rw [← Int.pow_mul]
  congr 1
  obtain ⟨a, rfl⟩ := Int.eq_ofNat_of_zero_le hd
  obtain ⟨b, rfl⟩ := Int.eq_ofNat_of_zero_le hn
  rw [← Int.natCast_mul, Int.toNat_natCast, Int.toNat_natCast, Int.toNat_natCast, Nat.mul_comm]
theorem in1_math {n x l r : Int} {k : Nat} (hn : 1 ≤ n) (hlr : r - l = k + 1) (hne : l + 1 ≠ r) (hl : 0 ≤ l) (hx0 : 0 ≤ x) (hx2 : x ≤ 10000) (hx : x < (2 ^ n.toNat) ^ (k + 1)) :
    ∃ i j : Nat, i + j + 1 = k ∧ (l + r) / 2 = l + i + 1 ∧ r = l + i + j + 2 ∧ (2 : Int) ^ (((l + r) / 2 - l) * n).toNat = (2 ^ n.toNat) ^ (i + 1) ∧
      0 ≤ x % (2 ^ n.toNat) ^ (i + 1) ∧ x % (2 ^ n.toNat) ^ (i + 1) ≤ 10000 ∧ x % (2 ^ n.toNat) ^ (i + 1) < (2 ^ n.toNat) ^ (i + 1) ∧
      0 ≤ x / (2 ^ n.toNat) ^ (i + 1) ∧ x / (2 ^ n.toNat) ^ (i + 1) ≤ 10000 ∧ x / (2 ^ n.toNat) ^ (i + 1) < (2 ^ n.toNat) ^ (j + 1) := by
  have hB : (0 : Int) < 2 ^ n.toNat := Int.pow_pos (by decide)
  refine ⟨((l + r) / 2 - l - 1).toNat, (r - (l + r) / 2 - 1).toNat, by omega, by omega, by omega, ?_, ?_⟩
  · rw [pow_sh (by omega) (by omega)]; congr 1; omega
  generalize hi : ((l + r) / 2 - l - 1).toNat = i
  generalize hj : (r - (l + r) / 2 - 1).toNat = j
  have hp : (0 : Int) < (2 ^ n.toNat) ^ (i + 1) := Int.pow_pos hB
  have h1 := Int.emod_nonneg x (Int.ne_of_gt hp)
  have h2 := Int.emod_lt_of_pos x hp
  have h3 : x % (2 ^ n.toNat) ^ (i + 1) ≤ x := by
    have a := Int.emod_add_mul_ediv x ((2 ^ n.toNat) ^ (i + 1))
    have b := Int.mul_nonneg (Int.le_of_lt hp) (Int.ediv_nonneg hx0 (Int.le_of_lt hp))
    omega
  have h4 := Int.ediv_nonneg hx0 (Int.le_of_lt hp)
  have h5 : x / (2 ^ n.toNat) ^ (i + 1) ≤ x := Int.ediv_le_self _ hx0
  refine ⟨h1, by omega, h2, h4, by omega, ?_⟩
  have e : k + 1 = (j + 1) + (i + 1) := by omega
  rw [e, Int.pow_add] at hx
  exact Int.ediv_lt_of_lt_mul hp hx
theorem splice_digs {B x : Int} (hB : 0 < B) {is : List Int} {l i j : Nat} (h : l + (i + 1) + (j + 1) ≤ is.length) :
    splice (splice is l (digs B (x % B ^ (i + 1)) (i + 1))) (l + (i + 1)) (digs B (x / B ^ (i + 1)) (j + 1)) = splice is l (digs B x (i + j + 1 + 1)) := by
  have e : i + j + 1 + 1 = (i + 1) + (j + 1) := by omega
  have h2 := splice_two (is := is) (l := l) (d := digs B (x % B ^ (i + 1)) (i + 1)) (e := digs B (x / B ^ (i + 1)) (j + 1)) (by rw [digs_length, digs_length]; exact h)
  rw [digs_length] at h2
  rw [h2, e, digs_add hB (i + 1) (j + 1)]
/-- the number of digits -/
noncomputable def ndig (a n : Int) : Nat := (((Builtin.Int.intBits a : Int) + n - 1).fdiv n).toNat
theorem ndig_eq {b n : Int} (hb : 0 ≤ b) (hn : 1 ≤ n) : (b + n - 1).fdiv n = (b + n - 1) / n := Int.fdiv_eq_ediv_of_nonneg _ (by omega)
theorem ndig_nn {b n : Int} (hb : 0 ≤ b) (hn : 1 ≤ n) : 0 ≤ (b + n - 1).fdiv n := by
  rw [ndig_eq hb hn]; exact Int.ediv_nonneg (by omega) (by omega)
theorem ndig_le {b n : Int} (hb : 0 ≤ b) (h14 : b ≤ 14) (hn : 1 ≤ n) : (b + n - 1).fdiv n ≤ 14 := by
  rw [ndig_eq hb hn]
  exact Int.le_of_lt_add_one (Int.ediv_lt_of_lt_mul (by omega) (by rw [Int.mul_comm]; have := Int.mul_le_mul_of_nonneg_right hn (show (0:Int) ≤ 14 by decide); omega))
theorem ndig_ge {b n : Int} (hb : 0 ≤ b) (hn : 1 ≤ n) : b ≤ n * (b + n - 1).fdiv n := by
  rw [ndig_eq hb hn]
  have h1 := Int.emod_add_mul_ediv (b + n - 1) n
  have h2 := Int.emod_lt_of_pos (b + n - 1) (show 0 < n by omega)
  omega
theorem ndig_lt {a n : Int} (ha : 0 ≤ a) (hn : 1 ≤ n) : a < (2 ^ n.toNat) ^ ndig a n := by
  have hb : (0 : Int) ≤ (Builtin.Int.intBits a : Int) := Int.natCast_nonneg _
  have h1 := bits_lt ha
  have h2 := ndig_ge hb hn
  have h3 : Builtin.Int.intBits a ≤ n.toNat * ndig a n := by
    unfold ndig
    have e : ((n.toNat * (((Builtin.Int.intBits a : Int) + n - 1).fdiv n).toNat : Nat) : Int) = n * ((Builtin.Int.intBits a : Int) + n - 1).fdiv n := by
      rw [Int.natCast_mul, Int.toNat_of_nonneg (by omega), Int.toNat_of_nonneg (ndig_nn hb hn)]
    omega
  rw [← Int.pow_mul]
  exact Int.lt_of_lt_of_le h1 (by exact_mod_cast Nat.pow_le_pow_right (by decide) h3)
theorem ndig_zero {n : Int} (hn : 1 ≤ n) : ndig 0 n = 0 := by
  unfold ndig
  rw [show Builtin.Int.intBits 0 = 0 from rfl, ndig_eq (by decide) hn, Int.ediv_eq_zero_of_lt (by omega) (by omega)]; rfl
theorem rep_zero (k : Nat) : (List.replicate k [(0 : Int)]).flatten.length = k := by
  induction k with
  | zero => rfl
  | succ k ih => rw [List.replicate_succ, List.flatten_cons, List.length_append, ih, List.length_singleton]; omega
theorem val_append (B : Int) : ∀ xs ys : List Int, val B (xs ++ ys) = val B xs + B ^ xs.length * val B ys
  | [], ys => by simp [val]
  | x :: xs, ys => by
    rw [List.cons_append, val, val_append B xs ys, val, List.length_cons, Int.pow_succ, Int.mul_add, Int.mul_comm (B ^ xs.length) B, Int.mul_assoc, Int.add_assoc]
theorem val_nn {B : Int} (hB : 0 < B) : ∀ {xs : List Int}, (∀ d ∈ xs, 0 ≤ d) → 0 ≤ val B xs
  | [], _ => Int.le_refl _
  | x :: xs, h => Int.add_nonneg (h x (.head _)) (Int.mul_nonneg (Int.le_of_lt hB) (val_nn hB fun d hd => h d (.tail _ hd)))
/-- a stretch of a list -/
noncomputable def cut (is : List Int) (l k : Nat) : List Int := (is.drop l).take k
theorem cut_add (is : List Int) (l i j : Nat) : cut is l (i + j) = cut is l i ++ cut is (l + i) j := by
  unfold cut
  rw [List.take_add, List.drop_drop]
theorem cut_length {is : List Int} {l k : Nat} (h : l + k ≤ is.length) : (cut is l k).length = k := by
  unfold cut; rw [List.length_take, List.length_drop]; omega
theorem cut_mem {is : List Int} {l k : Nat} {P : Int → Prop} (h : ∀ d ∈ is, P d) : ∀ d ∈ cut is l k, P d := fun d hd => h d (List.mem_of_mem_drop (List.mem_of_mem_take hd))
theorem cut_one {is : List Int} {l : Nat} (h : l < is.length) : cut is l 1 = [is.getD l 0] := by
  unfold cut
  rw [List.drop_eq_getElem_cons h, List.take_succ_cons, List.take_zero, List.getD_eq_getElem?_getD, List.getElem?_eq_getElem h]; rfl
theorem cut_all (is : List Int) : cut is 0 is.length = is := by unfold cut; rw [List.drop_zero, List.take_length]
theorem cut_le {B : Int} (hB : 0 < B) {is : List Int} {l k : Nat} (hn : ∀ d ∈ is, 0 ≤ d) : val B (cut is l k) ≤ val B is := by
  have e : is = is.take l ++ (cut is l k ++ (is.drop l).drop k) := by unfold cut; rw [List.take_append_drop, List.take_append_drop]
  have h1 := val_append B (is.take l) (cut is l k ++ (is.drop l).drop k)
  have h2 := val_append B (cut is l k) ((is.drop l).drop k)
  rw [← e] at h1
  have a1 := val_nn hB (xs := is.take l) fun d hd => hn d (List.mem_of_mem_take hd)
  have a2 := val_nn hB (xs := (is.drop l).drop k) fun d hd => hn d (List.mem_of_mem_drop (List.mem_of_mem_drop hd))
  have a3 := val_nn hB (xs := cut is l k) (cut_mem hn)
  have a4 := Int.mul_nonneg (Int.le_of_lt (show (0:Int) < B ^ (cut is l k).length from Int.pow_pos hB)) a2
  have a5 : val B (cut is l k) ≤ val B (cut is l k ++ (is.drop l).drop k) := by omega
  have a6 : (1 : Int) ≤ B ^ (is.take l).length := Int.pow_pos hB
  have a7 := Int.mul_le_mul_of_nonneg_right a6 (Int.le_trans a3 a5)
  rw [Int.one_mul] at a7
  omega
/-- the heap's part that the proof names: the module's names, the defs (their text is the program's own), their codes -/
noncomputable def fnAt (k : Nat) (pm : String) (t : Tok) (c : Addr) : Obj := match (Challenge.pw_pd0175_01.main.body)[k]? with
  | some (Stmt.FunctionDef name args body _ _ _ scope _ _ _) => ⟨.type "function", none, .func (fnOf name name args body scope .none .none .none (.str (Str.ofString pm) t) none (.ref c) .none), #[]⟩
  | _ => default
noncomputable def codeO (name : Str) (t : Tok) (line argc fl : Int) (a : Addr) (v1 v2 : Value) (z : Addr) (e : Nat) : Obj :=
  ⟨.type "code", none, .fields #[.str name t, .str name (t + 1), .str (Str.ofString "/claim/cut.py") (t + 2), .int line 0, .int argc 0, .int 0 0, .int 0 0, .int fl 0, .ref a, .bool true, .int 181 0, .ref (a + 1), .none, v1, v2, .ref z, .int e 0, .int line 0, .str (Str.ofString "/claim/cut.py") (e + 1)], #[]⟩
noncomputable def ent (P : Params) (x : Str) (t : Tok) (v : Value) : DictEntry := ⟨PyData.keyHash P x, .str x t, v⟩
noncomputable def KF (P : Params) : Frag :=
  (nat_lit 3, ⟨.type "dict", none, .dict #[ent P (Str.ofString "__name__") 165 (.str (Str.ofString "law_pd0175_01") 469),
    ent P (Str.ofString "__doc__") 166 (.none),
    ent P (Str.ofString "__package__") 167 (.none),
    ent P (Str.ofString "__loader__") 168 (.builtin "__main__.__loader__#opaque"),
    ent P (Str.ofString "__spec__") 169 (.none),
    ent P (Str.ofString "__annotations__") 170 (.ref 6),
    ent P (Str.ofString "__builtins__") 171 (.ref 4),
    ent P (Str.ofString "__file__") 173 (.str (Str.ofString "/claim/cut.py") 172),
    ent P (Str.ofString "__cached__") 174 (.none),
    ent P (Str.ofString "_wall") 193 (.ref 21),
    ent P (Str.ofString "_DIV_LIMIT") 197 (.int 4000 196),
    ent P (Str.ofString "_div2n1n") 214 (.ref 28),
    ent P (Str.ofString "_div3n2n") 228 (.ref 35),
    ent P (Str.ofString "_int2digits") 239 (.ref 42),
    ent P (Str.ofString "_digits2int") 250 (.ref 49),
    ent P (Str.ofString "_divmod_pos") 265 (.ref 56),
    ent P (Str.ofString "int_divmod") 275 (.ref 63),
    ent P (Str.ofString "heappush") 285 (.ref 70),
    ent P (Str.ofString "heappop") 294 (.ref 77),
    ent P (Str.ofString "_siftdown") 306 (.ref 84),
    ent P (Str.ofString "_siftup") 319 (.ref 91),
    ent P (Str.ofString "_plain_name") 330 (.ref 98),
    ent P (Str.ofString "ABCMeta") 356 (.ref 115),
    ent P (Str.ofString "_ABCLike") 399 (.ref 148),
    ent P (Str.ofString "_abc_plain_meta") 406 (.ref 157),
    ent P (Str.ofString "fspath") 418 (.ref 164),
    ent P (Str.ofString "_check_arg_types") 431 (.ref 171),
    ent P (Str.ofString "_get_sep") 440 (.ref 178),
    ent P (Str.ofString "join") 451 (.ref 185),
    ent P (Str.ofString "split") 462 (.ref 192),
    ent P (Str.ofString "commonpath") 468 (.ref 197),
    ent P (Str.ofString "_law_drawn") 476 (.ref 202),
    ent P (Str.ofString "_law_way") 487 (.ref 209),
    ent P (Str.ofString "_law_plain") 497 (.ref 216),
    ent P (Str.ofString "_law_read") 507 (.ref 223),
    ent P (Str.ofString "_law_refuses") 514 (.ref 230),
    ent P (Str.ofString "law") 520 (.ref 235)] 37, #[]⟩) ::
  (nat_lit 27, codeO (Str.ofString "_div2n1n") 198 6 3 3 22 (.ref 24) (.ref 25) 26 212) ::
  (nat_lit 28, fnAt 3 "cpy313._pylong" 194 27) ::
  (nat_lit 41, codeO (Str.ofString "_int2digits") 229 32 2 3 36 (.ref 38) (.ref 39) 40 237) ::
  (nat_lit 42, fnAt 5 "cpy313._pylong" 194 41) ::
  (nat_lit 48, codeO (Str.ofString "_digits2int") 240 48 2 3 43 (.ref 45) (.ref 46) 47 248) ::
  (nat_lit 49, fnAt 6 "cpy313._pylong" 194 48) ::
  (nat_lit 55, codeO (Str.ofString "_divmod_pos") 251 57 2 3 50 (.ref 52) (.ref 53) 54 263) ::
  (nat_lit 56, fnAt 7 "cpy313._pylong" 194 55) ::
  (nat_lit 62, codeO (Str.ofString "int_divmod") 266 68 2 3 57 (.ref 59) (.ref 60) 61 273) ::
  (nat_lit 63, fnAt 8 "cpy313._pylong" 194 62) ::
  (nat_lit 69, codeO (Str.ofString "heappush") 278 80 2 3 64 (.ref 66) (.ref 67) 68 283) ::
  (nat_lit 70, fnAt 10 "cpy313.heapq" 276 69) ::
  (nat_lit 76, codeO (Str.ofString "heappop") 286 83 1 3 71 (.ref 73) (.ref 74) 75 292) ::
  (nat_lit 77, fnAt 11 "cpy313.heapq" 276 76) ::
  (nat_lit 83, codeO (Str.ofString "_siftdown") 295 91 3 3 78 (.ref 80) (.ref 81) 82 304) ::
  (nat_lit 84, fnAt 12 "cpy313.heapq" 276 83) ::
  (nat_lit 90, codeO (Str.ofString "_siftup") 307 102 2 3 85 (.ref 87) (.ref 88) 89 317) ::
  (nat_lit 91, fnAt 13 "cpy313.heapq" 276 90) ::
  (nat_lit 163, codeO (Str.ofString "fspath") 409 147 1 3 158 (.ref 160) (.ref 161) 162 416) ::
  (nat_lit 164, fnAt 22 "os" 407 163) ::
  (nat_lit 177, codeO (Str.ofString "_get_sep") 434 176 1 3 172 (.ref 174) (.ref 175) 176 438) ::
  (nat_lit 178, fnAt 26 "cpy313.posixpath" 432 177) ::
  (nat_lit 184, codeO (Str.ofString "join") 441 181 1 7 179 (.ref 181) (.ref 182) 183 449) ::
  (nat_lit 185, fnAt 27 "cpy313.posixpath" 432 184) ::
  (nat_lit 191, codeO (Str.ofString "split") 452 198 1 3 186 (.ref 188) (.ref 189) 190 460) ::
  (nat_lit 192, fnAt 28 "cpy313.posixpath" 432 191) ::
  (nat_lit 196, codeO (Str.ofString "commonpath") 463 206 1 3 193 (.none) (.none) 195 466) ::
  (nat_lit 197, fnAt 29 "cpy313.posixpath" 432 196) ::
  (nat_lit 201, codeO (Str.ofString "_law_drawn") 471 236 1 3 198 (.none) (.none) 200 474) ::
  (nat_lit 202, fnAt 31 "law_pd0175_01" 469 201) ::
  (nat_lit 208, codeO (Str.ofString "_law_way") 477 243 2 3 203 (.ref 205) (.ref 206) 207 485) ::
  (nat_lit 209, fnAt 32 "law_pd0175_01" 469 208) ::
  (nat_lit 215, codeO (Str.ofString "_law_plain") 488 249 2 3 210 (.ref 212) (.ref 213) 214 495) ::
  (nat_lit 216, fnAt 33 "law_pd0175_01" 469 215) ::
  (nat_lit 222, codeO (Str.ofString "_law_read") 498 255 3 3 217 (.ref 219) (.ref 220) 221 505) ::
  (nat_lit 223, fnAt 34 "law_pd0175_01" 469 222) ::
  (nat_lit 229, codeO (Str.ofString "_law_refuses") 508 260 1 3 224 (.ref 226) (.ref 227) 228 512) ::
  (nat_lit 230, fnAt 35 "law_pd0175_01" 469 229) ::
  (nat_lit 234, codeO (Str.ofString "law") 515 266 1 3 231 (.none) (.none) 233 518) ::
  (nat_lit 235, fnAt 36 "law_pd0175_01" 469 234) :: []
/-! the head: the top of the text, run once by the kernel's own evaluation -/
noncomputable def vw : Program := view Challenge.pw_pd0175_01 [0,2,3,4,5,6,7,8,10,11,12,13,15,17,19,20,22,24,26,27,28,29,31,32,33,34,35,36]
noncomputable abbrev hk : Hook := kmHook KF [3, 27, 28, 41, 42, 48, 49, 55, 56, 62, 63, 69, 70, 76, 77, 83, 84, 90, 91, 163, 164, 177, 178, 184, 185, 191, 192, 196, 197, 201, 202, 208, 209, 215, 216, 222, 223, 229, 230, 234, 235] (fun _ => by kernel_rfl) [44, 37]
set_option maxHeartbeats 0 in
theorem left : LeftO Challenge.pw_pd0175_01 vw [] (fun s => xlAt vw [] s && recOk (RowW.records (OpenRow.toRowW Challenge.rw_pd0175_01.row)) s) hk.obs hk.val 2928 := fun w => by kernel_rfl
set_option maxHeartbeats 0 in
theorem well : Challenge.rw_pd0175_01.wellSaid = true := by kernel_rfl
abbrev PG : Program := Challenge.rw_pd0175_01.row.prog
abbrev Led := List (Addr × Obj)
/-- the part of the world that no call turns: program, names, the built-ins -/
structure Wd where
  w : World
  p : Program
  loose : List Str
  mean : ExcName → Option Value
  mg : Str → Option Value
  mb : Str → Option Value
/-- what a call of the function at f upon vs gives, whatever frame calls it: P says the value and the ledger behind the call -/
noncomputable def Does (W : Wd) (f : Addr) (D : Nat) (vs : List Value) (news : Led) (P : Value → Led → Prop) : Prop :=
  ∀ (dp un : Nat) (gd : Option (List Code)) (cn : Str) (cs : Scope) (a : Addr) (ccd : Value) (cl : List (Str × Addr)) (outer : List Env) (A₀ : Around) (base h₀ : Heap) (L : Addr) (m : Str → Option Value) (s : Shared) (Q E : Value → Shared → Prop),
    Below A₀ base outer h₀ → Fr h₀ L s.heap m → (KF W.w.params).In h₀ → News h₀ L s.heap news → Top W.p W.loose W.mean W.mg W.mb h₀ → cs.kind = .function → dp + D < recursionLimit → un + 8 * D < cLine →
    (∀ r news' h' tk', Fr h₀ L h' m → News h₀ L h' news' → P r news' → Q r { s with heap := h', toks := tk' }) →
    wpAny (model PG W.w) (ktrTop dp un gd cn cs L a ccd cl outer) (call (.ref f) vs) Q E s
theorem does_use {W : Wd} {f : Addr} {D : Nat} {vs : List Value} {news : Led} {P : Value → Led → Prop}
  {dp un : Nat} {gd : Option (List Code)} {cn : Str} {cs : Scope} {a : Addr} {ccd : Value} {cl : List (Str × Addr)} {outer : List Env} {A₀ : Around} {base h₀ : Heap} {L : Addr} {m : Str → Option Value} {s : Shared} {Q E : Value → Shared → Prop}
  (C : Does W f D vs news P)
  (B : Below A₀ base outer h₀) (F : Fr h₀ L s.heap m) (X : (KF W.w.params).In h₀) (N : News h₀ L s.heap news) (T : Top W.p W.loose W.mean W.mg W.mb h₀) (hk : cs.kind = .function) (hd : dp + D < recursionLimit) (hu : un + 8 * D < cLine)
  (ret : ∀ r news' h' tk', Fr h₀ L h' m → News h₀ L h' news' → P r news' → Q r { s with heap := h', toks := tk' }) :
  wpAny (model PG W.w) (ktrTop dp un gd cn cs L a ccd cl outer) (call (.ref f) vs) Q E s := C _ _ _ _ _ _ _ _ _ _ _ _ _ _ _ _ _ B F X N T hk hd hu ret
abbrev tupO (vs : List Value) : Obj := { cls := .type "tuple", data := .seq vs.toArray }
theorem does_le {W : Wd} {f : Addr} {D D' : Nat} {vs : List Value} {news : Led} {P : Value → Led → Prop} (h : D ≤ D') (C : Does W f D vs news P) : Does W f D' vs news P :=
  fun _ _ _ _ _ _ _ _ _ _ _ _ _ _ _ _ _ B F X N T hk hd hu hret => C _ _ _ _ _ _ _ _ _ _ _ _ _ _ _ _ _ B F X N T hk (by omega) (by omega) hret
/-- a pair of ints comes back, on the top of the ledger -/
abbrev Pair (q r : Int) (news : Led) (v : Value) (n' : Led) : Prop := ∃ x t1 t2, v = .ref x ∧ n' = (x, tupO [.int q t1, .int r t2]) :: news ∧ ∀ p ∈ news, p.1 < x
/-- all of the ledger's part lies below d -/
noncomputable def Lo (d : Nat) (l : Led) : Prop := ∀ p ∈ l, @LT.lt Nat _ p.1 d
theorem Lo.ne {d d' : Nat} {l : Led} (h : Lo d l) (hd : d ≤ d') : ∀ p ∈ l, p.1 ≠ d' := fun p hp => Nat.ne_of_lt (Nat.lt_of_lt_of_le (h p hp) hd)
/-- no object of the ledger's part lies at d -/
noncomputable def Off (d : Addr) (l : Led) : Prop := ∀ p ∈ l, p.1 ≠ d
noncomputable def retOf : Flow → Value
  | .ret v => v
  | _ => .none
/-- what a function's body does in its own frame at L -/
noncomputable def Runs (W : Wd) (qual : Str) (scope : Scope) (f : Addr) (cdv : Value) (cl : List (Str × Addr)) (body : List Stmt) (env : Env) (D : Nat) (m : Str → Option Value) (L : Addr) (news : Led) (P : Value → Led → Prop) : Prop :=
  ∀ (dp un : Nat) (gd : Option (List Code)) (outer : List Env) (A₀ : Around) (base g : Heap) (s : Shared) (Q : Flow → Shared → Prop),
    Below A₀ base outer g → Fr g L s.heap m → (KF W.w.params).In g → News g L s.heap news → Top W.p W.loose W.mean W.mg W.mb g → dp + D < recursionLimit → un + 8 * D < cLine →
    (∀ (fl : Flow) (news' : Led) (m' : Str → Option Value) (h' : Heap) (tk' : Nat), Fr g L h' m' → News g L h' news' → P (retOf fl) news' → Q fl { s with heap := h', toks := tk' }) →
    wpAny (model PG W.w) (ktrTop dp un gd qual scope L f cdv cl outer) (execs body env) Q (fun _ _ => False) s
section
variable {W : Wd} {f : Addr} {D : Nat} {vs : List Value} {news : Led} {P : Value → Led → Prop} {name qual : Str} {params : Arguments} {body : List Stmt} {scope : Scope} {dV kV doc pm cdv ct oc : Value} {an od : Option Addr} {osl : Array (Option Value)}
theorem does_plain (binds : List (Str × Value)) (ho : (KF W.w.params).lookup f = some ⟨oc, od, .func (fnOf name qual params body scope dV kV doc pm an cdv ct), osl⟩) (hcd : codeIn (KF W.w.params) cdv qual = true)
    (hbind : bindArgs (fnOf name qual params body scope dV kV doc pm an cdv ct) ⟨vs, []⟩ = pure binds) (hloc : ∀ y ∈ binds, scope.names.lookup y.1 = some .local)
    (hco : scope.isCoroutine = false) (hgen : scope.isGenerator = false) (hk : scope.kind = .function) (hcell : ∀ x ∈ scope.names, x.2 ≠ .cell)
    (h : ∀ L, Lo L news → Runs W qual scope f cdv [] body (envOf qual scope L f cdv) D (fun y => binds.reverse.lookup y) L news P) : Does W f (D + 1) vs news P := by
  intro dp un gd cn cs a ccd cl outer A₀ base h₀ L m s Q E B F X N T hke hd hu hret
  refine wpAny_call (callX_plain (cl := []) B F N T.nolimit rfl rfl hke ((X.keeps F.keep) _ _ ho) rfl (codeRec_of (X.keeps F.keep) hcd) (by dsimp only [ktrTop]; omega) (BindsTo.of_eq hbind) hloc (fun g L' h₁ FG F' N' B' st lt => ?_) hcell hco hgen hk)
  exact wpAny_mono (h L' lt (dp + 1) (un + 3) gd _ _ base g _ _ B' F' (X.keeps st) N' (T.keeps st) (by omega) (by omega) fun fl news' m' h' tk' F2 N2 hP => leaveK_ F2 N2 fun k1 k2 => hret _ _ _ _ k1 k2 hP) (fun _ _ y => y) fun _ _ y => y.elim
theorem does_cells (binds : List (Str × Value)) (ho : (KF W.w.params).lookup f = some ⟨oc, od, .func (fnOf name qual params body scope dV kV doc pm an cdv ct), osl⟩) (hcd : codeIn (KF W.w.params) cdv qual = true)
    (hbind : bindArgs (fnOf name qual params body scope dV kV doc pm an cdv ct) ⟨vs, []⟩ = pure binds) (hkind : (binds.all fun y => scope.names.lookup y.1 == some .local || scope.names.lookup y.1 == some .cell) = true)
    (hnd : ((cellsFrom 0 scope.names []).map (·.1)).Nodup)
    (hco : scope.isCoroutine = false) (hgen : scope.isGenerator = false) (hk : scope.kind = .function)
    (h : ∀ L cells, Lo L news → CellsAre (bindC (envOfC qual scope L f cdv).kindOf binds fun _ => none) (cellsFrom (L + 1) scope.names []) cells →
      Runs W qual scope f cdv (cellsFrom (L + 1) scope.names []) body (envOfC qual scope L f cdv) D (bindL (envOfC qual scope L f cdv).kindOf binds fun _ => none) L (cells ++ news) P) : Does W f (D + 1) vs news P := by
  intro dp un gd cn cs a ccd cl outer A₀ base h₀ L m s Q E B F X N T hke hd hu hret
  refine wpAny_call (callX_cells B F N T.nolimit rfl rfl hke ((X.keeps F.keep) _ _ ho) rfl (codeRec_of (X.keeps F.keep) hcd) (by dsimp only [ktrTop]; omega) (BindsTo.of_eq hbind) (kindsX hkind) hnd (fun g L' h₁ tk cells FG F' N' Y B' st lt => ?_) hco hgen hk)
  exact wpAny_mono (h L' cells lt Y (dp + 1) (un + 3) gd _ _ base g _ _ B' F' (X.keeps st) N' (T.keeps st) (by omega) (by omega) fun fl news' m' h' tk' F2 N2 hP => leaveK_ F2 N2 fun k1 k2 => hret _ _ _ _ k1 k2 hP) (fun _ _ y => y) fun _ _ y => y.elim
theorem does_nest {clos : List (Str × Addr)} {c' : Addr} {ctv : Value} {oc' : Obj} {vs' : Array Value} {t' : Tok} (binds : List (Str × Value)) (ho : (f, fnMade name qual params body scope clos doc pm c' ctv) ∈ news) (hc : (c', oc') ∈ news) (hd' : oc'.data = .fields vs') (hv : vs'[1]? = some (.str qual t'))
    (hbind : bindArgs (fnX name qual params body scope clos .none .none doc pm none (.ref c') ctv) ⟨vs, []⟩ = pure binds) (hloc : ∀ y ∈ binds, scope.names.lookup y.1 = some .local)
    (hco : scope.isCoroutine = false) (hgen : scope.isGenerator = false) (hk : scope.kind = .function) (hcell : ∀ x ∈ scope.names, x.2 ≠ .cell)
    (h : ∀ L, Lo L news → Runs W qual scope f (.ref c') clos body (envX qual scope L f (.ref c') clos) D (fun y => binds.reverse.lookup y) L news P) : Does W f (D + 1) vs news P := by
  intro dp un gd cn cs a ccd cl outer A₀ base h₀ L m s Q E B F X N T hke hd hu hret
  refine wpAny_call (callX_plain (cl := clos) B F N T.nolimit rfl rfl hke (N _ ho).1 rfl (codeRec_news N hc hd' hv) (by dsimp only [ktrTop]; omega) (BindsTo.of_eq hbind) hloc (fun g L' h₁ FG F' N' B' st lt => ?_) hcell hco hgen hk)
  exact wpAny_mono (h L' lt (dp + 1) (un + 3) gd _ _ base g _ _ B' F' (X.keeps st) N' (T.keeps st) (by omega) (by omega) fun fl news' m' h' tk' F2 N2 hP => leaveK_ F2 N2 fun k1 k2 => hret _ _ _ _ k1 k2 hP) (fun _ _ y => y) fun _ _ y => y.elim
theorem does_rest {rs : List Value} {g₁ : Addr → Option (List (Str × Value))} (binds : Addr → List (Str × Value)) (ho : (KF W.w.params).lookup f = some ⟨oc, od, .func (fnOf name qual params body scope dV kV doc pm an cdv ct), osl⟩) (hcd : codeIn (KF W.w.params) cdv qual = true)
    (hv : vs.drop (params.posonlyargs.length + params.args.length) = rs)
    (hp : peek1 (KF W.w.params) ⟨PG, W.w.params⟩ (bindArgs (fnOf name qual params body scope dV kV doc pm an cdv ct) ⟨vs, []⟩) = some (tupO rs, g₁))
    (hg : ∀ D, g₁ D = some (binds D)) (hloc : ∀ D, ∀ y ∈ binds D, scope.names.lookup y.1 = some .local)
    (hco : scope.isCoroutine = false) (hgen : scope.isGenerator = false) (hk : scope.kind = .function) (hcell : ∀ x ∈ scope.names, x.2 ≠ .cell)
    (h : ∀ L a, Lo a news → Runs W qual scope f cdv [] body (envOf qual scope L f cdv) D (fun y => (binds a).reverse.lookup y) L ((a, tupO rs) :: news) P) : Does W f (D + 1) vs news P := by
  intro dp un gd cn cs a ccd cl outer A₀ base h₀ L m s Q E B F X N T hke hd hu hret
  refine wpAny_call (kp_rest (args := ⟨vs, []⟩) B F X N T rfl rfl hke ho hcd (by dsimp only [ktrTop]; omega) hv hp hg hloc (fun a g L' h₁ lt FG F' N' B' X' T' => ?_) hco hgen hk hcell)
  exact wpAny_mono (h L' a lt (dp + 1) (un + 3) gd _ _ base g _ _ B' F' X' N' T' (by omega) (by omega) fun fl news' m' h' tk' F2 N2 hP => leaveK_ F2 N2 fun k1 k2 => hret _ _ _ _ k1 k2 hP) (fun _ _ y => y) fun _ _ y => y.elim
end

theorem try_calm {prog : Program} {w : World} {A : Around} {env : Env} {E : Value → Shared → Prop} {s : Shared} {body : List Stmt} {h₀ : ExceptHandler} {hs : List ExceptHandler} {pos : Pos} {Q : Flow → Shared → Prop}
    (h : wpAny (model prog w) A (execs body env) Q (fun _ _ => False) s) : wpAny (model prog w) A (exec (.Try body (h₀ :: hs) [] [] pos) env) Q E s :=
  wpAny_Try_except (wpAny_mono h (fun f s₁ q => by cases f with | next => exact wpAny_execs_nil q | _ => exact q) fun _ _ y => y.elim)
/-- a turn's end: out of the loop, or the invariant again -/
noncomputable def Turn (h₀ : Heap) (L I : Addr) (own : Led) (Jn : (Str → Option Value) → Led → Prop) (s : Shared) (Q : Flow → Shared → Prop) (fl : Flow) (s' : Shared) : Prop :=
  match fl with
  | .ret v => Q (.ret v) s'
  | .brk => Q .next s'
  | _ => ∃ h' tk' m₂ news₂, s' = { s with heap := h', toks := tk' } ∧ Fr h₀ L h' m₂ ∧ News h₀ L h' (own ++ news₂) ∧ (∀ p ∈ news₂, p.1 ≠ I) ∧ Jn m₂ news₂
theorem loop_inv {prog : Program} {w : World} {A : Around} {h₀ : Heap} {env : Env} {x : Str} {body : List Stmt} {Q : Flow → Shared → Prop} {E : Value → Shared → Prop} {s : Shared} {I : Addr} {fp : List Addr} {n : Nat} {P : Nat → Value → Prop} {St : Nat → Heap → Prop} {m : Str → Option Value} {news : Led}
    (J : Nat → (Str → Option Value) → Led → Prop) (W : Walks prog w A I fp [I] n P St) (hLf : env.locals ∉ fp) (hI : h₀.get? I = none) (hfp : I ∈ fp) (hSI : ∀ i h, St i h → ∃ o, h.get? I = some o) (hst : St 0 s.heap) (F : Fr h₀ env.locals s.heap m) (N : News h₀ env.locals s.heap news) (hnI : ∀ p ∈ news, p.1 ≠ I) (hJ : J 0 m news)
    (turn : ∀ i v m₁ news₁ h tk own, i < n → P i v → J i m₁ news₁ → (∀ p ∈ news₁, p.1 ≠ I) → (∀ p ∈ own, p.1 ∈ fp) → (∃ o, (I, o) ∈ own) → Fr h₀ env.locals h (fun y => if y = x then some v else m₁ y) → News h₀ env.locals h (own ++ news₁) →
      wpAny (model prog w) A (execs body env) (Turn h₀ env.locals I own (J (i + 1)) s Q) E { s with heap := h, toks := tk })
    (done : ∀ h' tk m' news', Fr h₀ env.locals h' m' → News h₀ env.locals h' news' → J n m' news' → Q .next { s with heap := h', toks := tk }) : LoopAtV prog w A h₀ env x body Q E (.ref I) s := by
  refine ⟨I, fp, [I], n, P, St, m, news, J, rfl, W, hLf, fun b hb => by rw [List.mem_singleton.mp hb]; exact hI, fun p hp q => hnI p hp (List.mem_singleton.mp q), hst, F, N, hJ, ?_, fun h' tk m' news' F' N' _ hj => done h' tk m' news' F' N' hj⟩
  rintro i v m₁ news₁ s₁ own ⟨hh', tk', rfl⟩ hin hP hj hoff ho _ hIn hst' F₁ N₁
  refine wpAny_mono (turn i v m₁ news₁ hh' tk' own hin hP hj (fun p hp q => hoff p hp (List.mem_singleton.mpr q)) ho ((hSI _ _ hst').imp fun o e => hIn I hfp hI o e) F₁ N₁) (fun f s₂ p => ?_) fun _ _ e => e
  have fin : (∃ h' tk' m₂ news₂, s₂ = { s with heap := h', toks := tk' } ∧ Fr h₀ env.locals h' m₂ ∧ News h₀ env.locals h' (own ++ news₂) ∧ (∀ p ∈ news₂, p.1 ≠ I) ∧ J (i + 1) m₂ news₂) → LoopStepU h₀ env.locals [I] own (J (i + 1)) { s with heap := hh', toks := tk' } .next s₂ := by
    rintro ⟨h', tk, m', news', e, F', N', hn, hm⟩
    exact ⟨rfl, h', tk, m', news', e, F', N', fun p hp q => hn p hp (List.mem_singleton.mp q), hm⟩
  cases f with
  | ret v => exact .ret p
  | brk => exact .brk p
  | next => exact .next (fin p)
  | cont => exact .cont (fin p)
section
variable {prog : Program} {w : World} {A : Around} {h₀ : Heap} {env : Env} {x : Str} {body : List Stmt} {Q : Flow → Shared → Prop} {E : Value → Shared → Prop} {s : Shared} {m : Str → Option Value} {news : Led}
theorem push_all {L : Addr} {h : Heap} (N : News h₀ L h news) (o : Obj) : News h₀ L (h.push o) news := fun p hp => ⟨Heap.get?_push_of_some _ (N p hp).1, (N p hp).2⟩
theorem push_off {L : Addr} {h : Heap} (N : News h₀ L h news) : ∀ p ∈ news, p.1 ≠ h.objs.size := fun p hp => Nat.ne_of_lt (Heap.lt_size (N p hp).1)
theorem it_list {l : Addr} {vs : List Value} {nn : Nat} (J : Nat → (Str → Option Value) → Led → Prop) (hh : A.handled = none) (F : Fr h₀ env.locals s.heap m) (N : News h₀ env.locals s.heap news) (hl : (l, listOf vs.toArray nn) ∈ news) (hJ : J 0 m news)
    (turn : ∀ i v m₁ news₁ h tk own I, vs[i]? = some v → J i m₁ news₁ → (∀ p ∈ news₁, p.1 ≠ I) → (∀ p ∈ own, p.1 = I ∨ p.1 = l) → (∃ o, (I, o) ∈ own) → Fr h₀ env.locals h (fun y => if y = x then some v else m₁ y) → News h₀ env.locals h (own ++ news₁) →
      wpAny (model prog w) A (execs body env) (Turn h₀ env.locals I own (J (i + 1)) s Q) E { s with heap := h, toks := tk })
    (done : ∀ h' tk m' news', Fr h₀ env.locals h' m' → News h₀ env.locals h' news' → J vs.length m' news' → Q .next { s with heap := h', toks := tk }) :
    wpAny (model prog w) A (pyIter (.ref l)) (fun it s₂ => LoopAtV prog w A h₀ env x body Q E it s₂) E s := by
  have hls : s.heap.IsList l vs.toArray := ⟨_, (N _ hl).1, rfl, _, rfl⟩
  refine wpAny_pyIter_list hls ?_
  refine loop_inv (fp := [s.heap.objs.size, l]) (n := vs.length) (P := fun i v => vs[i]? = some v) (St := fun i h => h.IsListIter s.heap.objs.size l i ∧ h.IsList l vs.toArray) J ?_ ?_ (next_is_new F) (.head _) (fun _ _ q => q.1.imp fun _ e => e.1) ⟨⟨_, Heap.get?_push_size _ rfl, rfl, rfl⟩, hls.at fun o e => Heap.get?_push_of_some _ e⟩ (F.push _) (push_all N _) (push_off N) hJ ?_ fun h' tk m' news' F' N' hj => done h' tk m' news' F' N' hj
  · have W := Walks.list (prog := prog) (w := w) hh s.heap.objs.size l (push_off N _ hl) vs.toArray
    simpa using W
  · intro hm
    rcases List.mem_cons.mp hm with e | hm
    · exact absurd F.ns.lt (e ▸ Nat.lt_irrefl _)
    · exact (N _ hl).2.1 (List.mem_singleton.mp hm).symm
  · intro i v m₁ news₁ h tk own _ hP hj hn ho hO F₁ N₁
    exact turn i v m₁ news₁ h tk own _ hP hj hn (fun p hp => (List.mem_cons.mp (ho p hp)).imp id fun q => List.mem_singleton.mp q) hO F₁ N₁
theorem it_tup {l : Addr} {vs : List Value} (J : Nat → (Str → Option Value) → Led → Prop) (hh : A.handled = none) (F : Fr h₀ env.locals s.heap m) (N : News h₀ env.locals s.heap news) (hl : (l, tupO vs) ∈ news) (hJ : J 0 m news)
    (turn : ∀ i v m₁ news₁ h tk own I, vs[i]? = some v → J i m₁ news₁ → (∀ p ∈ news₁, p.1 ≠ I) → (∀ p ∈ own, p.1 = I ∨ p.1 = l) → (∃ o, (I, o) ∈ own) → Fr h₀ env.locals h (fun y => if y = x then some v else m₁ y) → News h₀ env.locals h (own ++ news₁) →
      wpAny (model prog w) A (execs body env) (Turn h₀ env.locals I own (J (i + 1)) s Q) E { s with heap := h, toks := tk })
    (done : ∀ h' tk m' news', Fr h₀ env.locals h' m' → News h₀ env.locals h' news' → J vs.length m' news' → Q .next { s with heap := h', toks := tk }) :
    wpAny (model prog w) A (pyIter (.ref l)) (fun it s₂ => LoopAtV prog w A h₀ env x body Q E it s₂) E s := by
  have hls : s.heap.IsTuple l vs.toArray := ⟨_, (N _ hl).1, rfl, _, rfl⟩
  refine wpAny_pyIter_tuple hls ?_
  refine loop_inv (fp := [s.heap.objs.size, l]) (n := vs.length) (P := fun i v => vs[i]? = some v) (St := fun i h => h.IsTupleIter s.heap.objs.size l i ∧ h.IsTuple l vs.toArray) J ?_ ?_ (next_is_new F) (.head _) (fun _ _ q => q.1.imp fun _ e => e.1) ⟨⟨_, Heap.get?_push_size _ rfl, rfl, rfl⟩, hls.at fun o e => Heap.get?_push_of_some _ e⟩ (F.push _) (push_all N _) (push_off N) hJ ?_ fun h' tk m' news' F' N' hj => done h' tk m' news' F' N' hj
  · have W := Walks.tuple (prog := prog) (w := w) hh s.heap.objs.size l (push_off N _ hl) vs.toArray
    simpa using W
  · intro hm
    rcases List.mem_cons.mp hm with e | hm
    · exact absurd F.ns.lt (e ▸ Nat.lt_irrefl _)
    · exact (N _ hl).2.1 (List.mem_singleton.mp hm).symm
  · intro i v m₁ news₁ h tk own _ hP hj hn ho hO F₁ N₁
    exact turn i v m₁ news₁ h tk own _ hP hj hn (fun p hp => (List.mem_cons.mp (ho p hp)).imp id fun q => List.mem_singleton.mp q) hO F₁ N₁
theorem it_range {r : Addr} {b₀ : Int} {t₀ u₀ v₀ : Tok} {n : Nat} (J : Nat → (Str → Option Value) → Led → Prop) (hh : A.handled = none) (hr : IsRange s.heap r 0 b₀ 1 t₀ u₀ v₀) (hb : b₀ = (n : Int)) (hn : n < 1000) (F : Fr h₀ env.locals s.heap m) (N : News h₀ env.locals s.heap news) (hJ : J 0 m news)
    (turn : ∀ i t m₁ news₁ h tk own I, i < n → J i m₁ news₁ → (∀ p ∈ news₁, p.1 ≠ I) → (∀ p ∈ own, p.1 = I) → (∃ o, (I, o) ∈ own) → Fr h₀ env.locals h (fun y => if y = x then some (.int (i : Int) t) else m₁ y) → News h₀ env.locals h (own ++ news₁) →
      wpAny (model prog w) A (execs body env) (Turn h₀ env.locals I own (J (i + 1)) s Q) E { s with heap := h, toks := tk })
    (done : ∀ h' tk m' news', Fr h₀ env.locals h' m' → News h₀ env.locals h' news' → J n m' news' → Q .next { s with heap := h', toks := tk }) :
    wpAny (model prog w) A (pyIter (.ref r)) (fun it s₂ => LoopAtV prog w A h₀ env x body Q E it s₂) E s := by
  have hsm : Builtin.Range.small 0 b₀ 1 = true := by subst hb; exact small_one (by omega) (by omega) (by omega) (by omega)
  have hsz : Builtin.Range.rangeSize 0 b₀ 1 = (n : Int) := by subst hb; rw [rangeSize_nat]; omega
  refine wpAny_pyIter_range hr hsm ?_
  refine loop_inv (fp := [s.heap.objs.size]) (n := n) (P := fun i v => ∃ t, v = .int (i : Int) t) (St := fun i h => IsRangeIter h s.heap.objs.size (i : Int) ((n : Int) - (i : Nat)) 1) J ?_ ?_ (next_is_new F) (.head _) (fun _ _ q => ⟨_, q⟩) ?_ (F.push _) (push_all N _) (push_off N) hJ ?_ fun h' tk m' news' F' N' hj => done h' tk m' news' F' N' hj
  · have W := Walks.range (prog := prog) (w := w) hh s.heap.objs.size 0 1 n
    simpa using W
  · intro hm
    exact absurd F.ns.lt ((List.mem_singleton.mp hm) ▸ Nat.lt_irrefl _)
  · rw [hsz]; simpa using Heap.get?_push_size _ rfl
  · rintro i v m₁ news₁ h tk own hi ⟨t, rfl⟩ hj hn ho hO F₁ N₁
    exact turn i t m₁ news₁ h tk own _ hi hj hn (fun p hp => List.mem_singleton.mp (ho p hp)) hO F₁ N₁
theorem it_rev {I l : Addr} {vs : List Value} {nn : Nat} (J : Nat → (Str → Option Value) → Led → Prop) (hh : A.handled = none) (F : Fr h₀ env.locals s.heap m) (N : News h₀ env.locals s.heap ((I, revObj l ((vs.length : Int) - 1)) :: news)) (hl : (l, listOf vs.toArray nn) ∈ news) (hI : ∀ p ∈ news, p.1 < I) (hJ : J 0 m news)
    (turn : ∀ i v m₁ news₁ h tk own, i < vs.length → vs[vs.length - 1 - i]? = some v → J i m₁ news₁ → (∀ p ∈ news₁, p.1 ≠ I) → (∀ p ∈ own, p.1 = I ∨ p.1 = l) → (∃ o, (I, o) ∈ own) → Fr h₀ env.locals h (fun y => if y = x then some v else m₁ y) → News h₀ env.locals h (own ++ news₁) →
      wpAny (model prog w) A (execs body env) (Turn h₀ env.locals I own (J (i + 1)) s Q) E { s with heap := h, toks := tk })
    (done : ∀ h' tk m' news', Fr h₀ env.locals h' m' → News h₀ env.locals h' news' → J vs.length m' news' → Q .next { s with heap := h', toks := tk }) :
    wpAny (model prog w) A (pyIter (.ref I)) (fun it s₂ => LoopAtV prog w A h₀ env x body Q E it s₂) E s := by
  have hIx := N _ (List.mem_cons_self ..)
  have hax := N _ (List.mem_cons_of_mem _ hl)
  have hls : s.heap.IsList l vs.toArray := ⟨_, hax.1, rfl, _, rfl⟩
  have hit : s.heap.IsRevIter I l ((vs.length : Int) - 1) := ⟨_, hIx.1, rfl, rfl⟩
  refine wpAny_pyIter_revIter hit ?_
  refine loop_inv (fp := [I, l]) (n := vs.length) (P := fun i v => vs[vs.length - 1 - i]? = some v) (St := fun i h => i ≤ vs.length ∧ h.IsRevIter I l ((vs.length : Int) - 1 - (i : Int)) ∧ h.IsList l vs.toArray) J ?_ ?_ hIx.2.2 (.head _) (fun _ _ q => q.2.1.imp fun _ e => e.1) ⟨Nat.zero_le _, by simpa using hit, hls⟩ F (fun p hp => N p (.tail _ hp)) (fun p hp => Nat.ne_of_lt (hI p hp)) hJ ?_ done
  · have W := Walks.listRev (prog := prog) (w := w) hh I l (Nat.ne_of_lt (hI _ hl)) vs.toArray
    simpa using W
  · intro hm
    rcases List.mem_cons.mp hm with e | hm
    · exact hIx.2.1 e.symm
    · exact hax.2.1 (List.mem_singleton.mp hm).symm
  · intro i v m₁ news₁ h tk own hi hP hj hn ho hO F₁ N₁
    exact turn i v m₁ news₁ h tk own hi hP hj hn (fun p hp => (List.mem_cons.mp (ho p hp)).imp id fun q => List.mem_singleton.mp q) hO F₁ N₁
noncomputable def Once (h₀ : Heap) (L I : Addr) (own : Led) (s : Shared) (Q : Flow → Shared → Prop) (fl : Flow) (s' : Shared) : Prop :=
  match fl with
  | .ret v => Q (.ret v) s'
  | .brk => Q .next s'
  | _ => ∃ h' tk' m₂ news₂, s' = { s with heap := h', toks := tk' } ∧ Fr h₀ L h' m₂ ∧ News h₀ L h' (own ++ news₂) ∧ (∀ p ∈ news₂, p.1 ≠ I) ∧ ∀ h tk, Fr h₀ L h m₂ → News h₀ L h news₂ → Q .next { s with heap := h, toks := tk }
theorem Once.next {L I : Addr} {own news₂ : Led} {m₂ : Str → Option Value} {h' : Heap} {tk' : Nat} (F : Fr h₀ L h' m₂) (N : News h₀ L h' (own ++ news₂)) (hI : ∀ p ∈ news₂, p.1 ≠ I) (k : ∀ h tk, Fr h₀ L h m₂ → News h₀ L h news₂ → Q .next { s with heap := h, toks := tk }) :
    Once h₀ L I own s Q .next { s with heap := h', toks := tk' } := ⟨h', tk', m₂, news₂, rfl, F, N, hI, k⟩
theorem it_tup1 {l : Addr} {v : Value} (hh : A.handled = none) (F : Fr h₀ env.locals s.heap m) (N : News h₀ env.locals s.heap news) (hl : (l, tupO [v]) ∈ news)
    (turn : ∀ h tk own I, (∀ p ∈ news, p.1 ≠ I) → (∀ p ∈ own, p.1 = I ∨ p.1 = l) → (∃ o, (I, o) ∈ own) → Fr h₀ env.locals h (fun y => if y = x then some v else m y) → News h₀ env.locals h (own ++ news) →
      wpAny (model prog w) A (execs body env) (Once h₀ env.locals I own s Q) E { s with heap := h, toks := tk }) :
    wpAny (model prog w) A (pyIter (.ref l)) (fun it s₂ => LoopAtV prog w A h₀ env x body Q E it s₂) E s := by
  refine it_tup (fun i m₁ n₁ => if i = 0 then m₁ = m ∧ n₁ = news else ∀ h tk, Fr h₀ env.locals h m₁ → News h₀ env.locals h n₁ → Q .next { s with heap := h, toks := tk }) hh F N hl (by simp) ?_ ?_
  · intro i v' m₁ n₁ h tk own I hv hj hI ho hO F₁ N₁
    have h0 : i = 0 := by
      cases i with
      | zero => rfl
      | succ i => simp at hv
    subst h0
    obtain rfl : v = v' := by simpa using hv
    simp only [if_true] at hj
    obtain ⟨rfl, rfl⟩ := hj
    refine wpAny_mono (turn h tk own I hI ho hO F₁ N₁) (fun f s₂ p => ?_) fun _ _ e => e
    cases f with
    | ret v => exact p
    | brk => exact p
    | next => simpa [Turn, Once] using p
    | cont => simpa [Turn, Once] using p
  · intro h' tk m' news' F' N' hj
    exact (by simpa using hj : ∀ h tk, Fr h₀ env.locals h m' → News h₀ env.locals h news' → Q .next { s with heap := h, toks := tk }) h' tk F' N'
end
/-- the table of a code whose def makes one def: empty, or the made code beside it -/
noncomputable def Tab (P : Addr) (pos : Pos) (qual : Str) (T : Led) : Prop :=
  T = [(P, tabObj #[])] ∨ ∃ c' oc vs t, T = [(P, tabObj #[rawInt pos.line, rawInt pos.col, .ref c']), (c', oc)] ∧ oc.data = .fields vs ∧ vs[1]? = some (.str qual t) ∧ P < c'
/-- two parts of the ledger lie apart -/
noncomputable def Dj (a b : Led) : Prop := ∀ p ∈ a, ∀ q ∈ b, p.1 ≠ q.1
section
variable {M : Model} {A : Around} {E : Value → Shared → Prop} {s : Shared} {h₀ : Heap} {L a c P : Addr} {m mg mb : Str → Option Value} {cn : Str} {cs : Scope} {ccd : Value} {cl : List (Str × Addr)} {news T : Led}
  {p : Program} {loose : List Str} {mean : ExcName → Option Value} {name qual : Str} {params : Arguments} {body : List Stmt} {scope : Scope} {pos : Pos} {firstLine : Nat} {clos : List (Str × Addr)}
theorem nest_tab {Q : Value → Shared → Prop} (F : Fr h₀ L s.heap m) (N : News h₀ L s.heap (T ++ news)) (Tp : Top p loose mean mg mb h₀) (C : CodeHd h₀ c P) (hcd : ccd = .ref c) (hT : Tab P pos qual T) (hD : Dj T news)
    (hcl : closureFor scope (envX cn cs L a ccd cl) = pure clos)
    (h : ∀ f c' oc vs t ctv doc h' tk T', Fr h₀ L h' m → News h₀ L h' ((f, fnMade name qual params body scope clos doc ((mg "__name__").getD .none) c' ctv) :: (T' ++ news)) → Tab P pos qual T' → Dj T' news → (c', oc) ∈ T' → oc.data = .fields vs → vs[1]? = some (.str qual t) → (∀ q ∈ T' ++ news, q.1 < f) → Q (.ref f) { s with heap := h', toks := tk }) :
    wpAny M A (makeFunction name qual params (.stmts body) scope (envX cn cs L a ccd cl) [] [] [] pos firstLine) Q E s := by
  rcases hT with rfl | ⟨c', oc, vs, t, rfl, hd, hv, hPc⟩
  · refine nest_K (g := fun o => (P, o) :: news) F N Tp C hcd (UpdF.head fun q hq => (hD _ (.head _) q hq).symm) (by trivial) rfl hcl ?_
    intro f c' oc vs t ctv doc h' tk F' N' hd hv hlt hcf
    refine h f c' oc vs t ctv doc h' tk [(P, tabObj #[rawInt pos.line, rawInt pos.col, .ref c']), (c', oc)] F' (fun q hq => N' q ?_) (.inr ⟨c', oc, vs, t, rfl, hd, hv, hlt _ (.head _)⟩) ?_ (.tail _ (.head _)) hd hv ?_
    · rcases List.mem_cons.mp hq with rfl | hq
      · exact .head _
      · rcases List.mem_cons.mp hq with rfl | hq
        · exact .tail _ (.tail _ (.head _))
        · rcases List.mem_cons.mp hq with rfl | hq
          · exact .tail _ (.head _)
          · exact .tail _ (.tail _ (.tail _ hq))
    · intro q hq r hr
      rcases List.mem_cons.mp hq with rfl | hq
      · exact hD _ (.head _) r hr
      · rw [List.mem_singleton.mp hq]; exact Nat.ne_of_gt (hlt r (.tail _ hr))
    · intro q hq
      rcases List.mem_cons.mp hq with rfl | hq
      · exact Nat.lt_trans (show P < c' from hlt (P, tabObj #[]) (.head _)) hcf
      · rcases List.mem_cons.mp hq with rfl | hq
        · exact hcf
        · exact Nat.lt_trans (hlt _ (.tail _ hq)) hcf
  · refine nestHit_K (c' := c') (ps := #[rawInt pos.line, rawInt pos.col, .ref c']) F N Tp C hcd (.head _) ?_ ?_ hcl ?_
    · exact trivial
    · simp [codeAmong, rawInt]
    · intro f ctv doc h' tk F' N' hlt
      exact h f c' oc vs t ctv doc h' tk _ F' N' (.inr ⟨c', oc, vs, t, rfl, hd, hv, hPc⟩) hD (.tail _ (.head _)) hd hv hlt
end
/-- the walk halts here -/
noncomputable def Halt (P : Prop) : Prop := P
theorem Halt.go {P : Prop} (h : Halt P) : P := h
theorem Dj.cons {T rest : Led} {d a : Nat} {o : Obj} (h : Dj T rest) (hl : Lo d T) (hd : d ≤ a) : Dj T ((a, o) :: rest) := fun p hp q hq => by
  rcases List.mem_cons.mp hq with rfl | hq
  · exact Nat.ne_of_lt (Nat.lt_of_lt_of_le (hl p hp) hd)
  · exact h p hp q hq
theorem Dj.tail {T rest : Led} {q : Addr × Obj} (h : Dj T (q :: rest)) : Dj T rest := fun p hp r hr => h p hp r (.tail _ hr)
theorem Dj.off {T rest : Led} {a : Addr} {o : Obj} (h : Dj T ((a, o) :: rest)) : ∀ p ∈ T, p.1 ≠ a := fun p hp => h p hp _ (.head _)
theorem off_app {a : Addr} {x y : Led} (h1 : ∀ p ∈ x, p.1 ≠ a) (h2 : ∀ p ∈ y, p.1 ≠ a) : ∀ p ∈ x ++ y, p.1 ≠ a := fun p hp => (List.mem_append.mp hp).elim (h1 p) (h2 p)
theorem Lo.left {d : Nat} {x y : Led} (h : Lo d (x ++ y)) : Lo d x := fun p hp => h p (List.mem_append_left _ hp)
theorem Lo.right {d : Nat} {x y : Led} (h : Lo d (x ++ y)) : Lo d y := fun p hp => h p (List.mem_append_right _ hp)
/-- the ledger's parts in another order, some left out -/
theorem news_swap {h₀ h : Heap} {L : Addr} {A A' T rest : Led} (N : News h₀ L h (A ++ (T ++ rest))) (hA : ∀ p ∈ A', p ∈ A) : News h₀ L h (T ++ (A' ++ rest)) := fun p hp => N p (by
  rcases List.mem_append.mp hp with hp | hp
  · exact List.mem_append_right _ (List.mem_append_left _ hp)
  · rcases List.mem_append.mp hp with hp | hp
    · exact List.mem_append_left _ (hA p hp)
    · exact List.mem_append_right _ (List.mem_append_right _ hp))
theorem news_back {h₀ h : Heap} {L : Addr} {q : Addr × Obj} {A T rest : Led} (N : News h₀ L h (q :: (T ++ (A ++ rest)))) : News h₀ L h (q :: (A ++ (T ++ rest))) := fun p hp => N p (by
  rcases List.mem_cons.mp hp with rfl | hp
  · exact .head _
  · refine .tail _ ?_
    rcases List.mem_append.mp hp with hp | hp
    · exact List.mem_append_right _ (List.mem_append_left _ hp)
    · rcases List.mem_append.mp hp with hp | hp
      · exact List.mem_append_left _ hp
      · exact List.mem_append_right _ (List.mem_append_right _ hp))
theorem sub_but2 {a b : Addr × Obj} {r : Led} : ∀ p ∈ a :: r, p ∈ a :: b :: r := fun _ hp => (List.mem_cons.mp hp).elim (fun e => e ▸ .head _) fun h => .tail _ (.tail _ h)
theorem perm_news {h₀ h : Heap} {L : Addr} {a b : Led} (N : News h₀ L h a) (hs : ∀ p ∈ b, p ∈ a) : News h₀ L h b := fun p hp => N p (hs p hp)
theorem perm_swap {h₀ h : Heap} {L : Addr} {p q : Addr × Obj} {r : Led} (N : News h₀ L h (p :: q :: r)) : News h₀ L h (q :: p :: r) := perm_news N fun _ hx => (List.mem_cons.mp hx).elim (fun e => e ▸ .tail _ (.head _)) fun hx => (List.mem_cons.mp hx).elim (fun e => e ▸ .head _) fun h => .tail _ (.tail _ h)
section
variable {prog : Program} {w : World} {A : Around} {E : Value → Shared → Prop} {s : Shared}
theorem kind_issub_n : builtinKind "issubclass.nested" = none := by decide +kernel
theorem plain_issub_n : plainId "issubclass.nested" = true := by decide +kernel
theorem args_issub_n (a b c : Value) : argsOk "issubclass.nested" ⟨[a, b, c], []⟩ := by unfold argsOk; kernel_rfl
theorem issub_nested_str {dep : Int} {tk : Tok} : Meets (Builtin.«issubclass.nested» ⟨[.type "str", .type "str", .int dep tk], []⟩) (fun _ R s => R (.ok (.ret (.bool true))) s) := by
  intro _ _ _ _ _ hs
  have f2 := PyProof.Rows.meta_str
  have hself := PyProof.Rows.sub_str_str
  repeat (any_goals (first | assumption | (rw [hself]) | wp_step))
theorem issub_nested_tup {tp : Addr} {tk : Tok} {Q : Fin → Shared → Prop} (htp : s.heap.get? tp = some (tupO [.type "str", .type "bytes"])) (hq : Q (.done (.ret (.bool true))) s) :
    wpAny (model prog w) A (Builtin.«issubclass.nested» ⟨[.type "str", .ref tp, .int 0 tk], []⟩) Q E s := by
  obtain ⟨h, g, d, t, os⟩ := s
  have hT2 : (⟨h, g, d, t, os⟩ : Shared).TypeIs (.ref tp) "tuple" := ⟨_, htp, rfl⟩
  have f1 := F.isi_sub_tuple
  repeat (any_goals (first | assumption | refine call_function_meets kind_issub_n plain_issub_n F.entry_issubclass_nested (args_issub_n _ _ _) issub_nested_str ?_ | wp_step))
theorem issub_tup {tp : Addr} {Q : Value → Shared → Prop} (htp : s.heap.get? tp = some (tupO [.type "str", .type "bytes"])) (hq : Q (.bool true) s) : wpAny (model prog w) A (call (.builtin "issubclass") [.type "str", .ref tp]) Q E s :=
  call_issubclass (S := fun _ R s => s.heap.get? tp = some (tupO [.type "str", .type "bytes"]) ∧ R (.ok (.ret (.bool true))) s) (fun _ _ _ _ _ hs => issubclass_outer (issub_nested_tup hs.1 hs.2)) ⟨htp, hq⟩
end
section
variable {prog : Program} {w : World} {A : Around} {E : Value → Shared → Prop} {s : Shared}
theorem truthy_pos {x : Str} {t : Tok} {Q : Bool → Shared → Prop} (h0 : 0 < x.length) (h1 : x.length ≤ 1000) (h : ∀ tk, Q true { s with toks := tk }) : wpAny (model prog w) A (truthy (.str x t)) Q E s := by
  refine P.truthy_str (by omega) ?_
  have e : ((x.length : Int) != 0) = true := by simp; omega
  rw [e]
  exact h _
theorem rsh {a b : Int} {t u : Tok} {Q : Value → Shared → Prop} (ha : 0 ≤ a) (hb : 0 ≤ b) (h : ∀ t tk, Q (.int (a / 2 ^ b.toNat) t) { s with toks := tk }) : wpAny (model prog w) A (binaryOp .RShift (.int a t) (.int b u)) Q E s := by
  by_cases hc : b ≥ ((Builtin.Int.intBits a : Nat) : Int)
  · refine AutoIntOps.rshift_1 (by omega) hc ?_
    have e : a / 2 ^ b.toNat = 0 := by
      have h1 := bits_lt ha
      have h2 : (2 : Int) ^ Builtin.Int.intBits a ≤ 2 ^ b.toNat := by
        have : Builtin.Int.intBits a ≤ b.toNat := by omega
        exact_mod_cast Nat.pow_le_pow_right (by decide) this
      exact Int.ediv_eq_zero_of_lt ha (by omega)
    rw [if_neg (by omega), ← e]
    exact h _ _
  · refine AutoIntOps.rshift_2 (by omega) hc ?_
    rw [Int.fdiv_eq_ediv_of_nonneg _ (Int.le_of_lt (Int.pow_pos (by decide)))]
    exact h _ _
theorem rsh1 {a : Int} {t u : Tok} {Q : Value → Shared → Prop} (ha : 0 ≤ a) (h : ∀ t tk, Q (.int (a / 2) t) { s with toks := tk }) : wpAny (model prog w) A (binaryOp .RShift (.int a t) (.int 1 u)) Q E s := rsh ha (by decide) h
theorem lsh {a b : Int} {t u : Tok} {Q : Value → Shared → Prop} (ha : 0 ≤ a) (ha2 : a ≤ 10000) (hb : 0 ≤ b) (hb2 : b ≤ 1000) (h : ∀ t tk, Q (.int (a * 2 ^ b.toNat) t) { s with toks := tk }) : wpAny (model prog w) A (binaryOp .LShift (.int a t) (.int b u)) Q E s :=
  lshift_int_small hb (by omega) (by omega) (h _ _)
theorem divp_nn {x : Int} (h : 0 ≤ x) (k : Nat) : 0 ≤ x / 2 ^ k := Int.ediv_nonneg h (Int.le_of_lt (Int.pow_pos (by decide)))
theorem divp_le {x y : Int} (h : 0 ≤ x) (hy : x ≤ y) (k : Nat) : x / 2 ^ k ≤ y := Int.le_trans (Int.ediv_le_self _ h) hy
theorem sh_le {d n : Int} (h0 : 0 ≤ d) (h1 : d ≤ 20) (h2 : 0 ≤ n) (h3 : n ≤ 4) : d * n ≤ 1000 := Int.le_trans (Int.mul_le_mul h1 h3 h2 (by decide)) (by decide)
end
example : (Challenge.rw_pd0175_01, KF) = (Challenge.rw_pd0175_01, KF) := by k_fill; rfl
local macro_rules | `(tactic| k_all) => `(tactic| first | exact Lo.ne (by assumption) (by omega) | assumption)
-- a plain def is entered: cell_end BINDS 0 0; one with cells: cell_end BINDS 1 1
local macro_rules | `(tactic| cell_end $b:term 0 0) => `(tactic| (k_dflt (refine' does_plain $b ?k6 ?k7 ?k9 ?kB ?c2 ?c3 ?c4 ?c5 ?_; (case k6 => k_is); (case k7 => k_is); (case k9 => exact rfl); (case kB => exact locs rfl); (case c2 => exact rfl); (case c3 => exact rfl); (case c4 => exact rfl); (case c5 => decide); k_whole)))
local macro_rules | `(tactic| cell_end $b:term 1 1) => `(tactic| (k_dflt (refine' does_cells $b ?k6 ?k7 ?k9 ?kB ?kD ?c2 ?c3 ?c4 ?_; (case k6 => k_is); (case k7 => k_is); (case k9 => exact rfl); (case kB => exact rfl); (case kD => decide +kernel); (case c2 => exact rfl); (case c3 => exact rfl); (case c4 => exact rfl); k_whole)))
-- a contract C is used at a call: cell_end C 2 2; what it hands on is left to intro
local macro_rules | `(tactic| cell_end $c:term 2 2) => `(tactic| (k_dflt (refine' does_use $c ?k1 ?k2 ?k3 ?k4 ?k5 ?k6 ?k7 ?k8 ?_; (case k1 => k_asm); (case k2 => k_asm); (case k3 => k_asm); (case k4 => k_asm); (case k5 => k_asm); (case k6 => first | exact rfl | assumption); (case k7 => ((try dsimp only [ktrTop]); omega)); (case k8 => ((try dsimp only [ktrTop]); omega)))))
-- a def with *rest: cell_end BINDS 3 3
local macro_rules | `(tactic| cell_end $b:term 3 3) => `(tactic| (k_dflt (refine' does_rest $b ?k6 ?k7 ?kV ?kP ?kG ?kB ?c2 ?c3 ?c4 ?c5 ?_; (case k6 => k_is); (case k7 => k_is); (case kV => exact rfl); (case kP => exact rfl); (case kG => exact fun _ => rfl); (case kB => exact fun _ => locs rfl); (case c2 => exact rfl); (case c3 => exact rfl); (case c4 => exact rfl); (case c5 => decide); k_whole)))
-- hooks that are asked first: k_with "mine .." => ..
local macro_rules | `(tactic| walk_at "eval Name") => `(tactic| k_extra "mine name")
local macro_rules | `(tactic| walk_at "call ref") => `(tactic| k_extra "mine call")
local macro_rules | `(tactic| walk_at "callWith ref") => `(tactic| k_extra "mine callWith")
local macro_rules | `(tactic| walk_at "And") => `(tactic| k_extra "mine and")
local macro_rules | `(tactic| walk_at "pyIter ref") => `(tactic| k_extra "mine iter")
local macro_rules | `(tactic| walk_at "binaryOp RShift int int") => `(tactic| first | (refine rsh1 (by omega) ?_; intro _ _) | (refine rsh (by omega) (by first | omega | exact Int.mul_nonneg (by omega) (by omega)) ?_; intro _ _))
local macro_rules | `(tactic| walk_at "binaryOp LShift int int") => `(tactic| k_extra "mine lshift")
-- no joining of a callee's ways: contracts serve calls
local macro_rules | `(tactic| walk_at "eval Call") => `(tactic| refine Call_ ?_)
-- every k_with row is asked first, whatever its key
local macro_rules | `(tactic| walk_at $s:str) => `(tactic| k_extra $s)
-- room for the frames below a caller whose depth is a letter
local macro_rules | `(tactic| k_room) => `(tactic| ((try simp only [depth_mark, depth_under_make, depth_under_kw, depth_in1, depth_deeper, depth_caller, ktrTop]); first | decide | omega))
set_option maxHeartbeats 4000000 in
theorem get_sep {W : Wd} (news : Led) (x : Str) (t : Tok) : Does W 178 1 [.str x t] news (fun r n' => n' = news ∧ ∃ t', r = .str (Str.ofString "/") t') := by
  cell_end [(Str.ofString "path", .str x t)] 0 0
  intro L hLo dp un gd outer A₀ base g s Q B F X N T hd hu hret
  k_steps
  all_goals exact hret _ _ _ _ _ (by k_asm) (by k_asm) ⟨rfl, _, rfl⟩
theorem News.off {h₀ h : Heap} {L : Addr} {p : Addr × Obj} {news : Led} (N : News h₀ L h (p :: news)) : News h₀ L h news := fun q hq => N q (.tail _ hq)
set_option maxHeartbeats 4000000 in
theorem fspath {W : Wd} (news : Led) (x : Str) (t : Tok) : Does W 164 1 [.str x t] news (fun r n' => n' = news ∧ r = .str x t) := by
  cell_end [(Str.ofString "path", .str x t)] 0 0
  intro L hLo dp un gd outer A₀ base g s Q B F X N T hd hu hret
  k_with "call builtin:issubclass" => k_dflt (refine issub_tup (News.get (by k_asm) (.head _)) ?_)
  k_steps
  all_goals exact hret _ _ _ _ _ (by k_asm) (News.off (by k_asm)) ⟨rfl, rfl⟩
set_option maxHeartbeats 4000000 in
theorem join2 {W : Wd} (news : Led) (x y : Str) (t u : Tok) (hy : Txt.startswith y (Str.ofString "/") = false) (hx : 0 < x.length) (hx2 : x.length ≤ 1000) (hy2 : y.length ≤ 1000) : Does W 185 3 [.str x t, .str y u] news (fun r n' => n' = news ∧ ∃ t', r = .str (if Txt.endswith x (Str.ofString "/") then x ++ y else x ++ (Str.ofString "/" ++ y)) t') := by
  cell_end (fun d => [(Str.ofString "a", .str x t), (Str.ofString "p", .ref d)]) 3 3
  intro L d hLo dp un gd outer A₀ base g s Q B F X N T hd hu hret
  k_with "exec Try" => refine try_calm ?_
  k_with "call ref" => (cell_end (fspath _ _ _) 2 2; rintro r9 n9 h9 tk9 F9 N9 ⟨rfl, rfl⟩; (try dsimp only); (try k_fold))
  k_with "call ref" => (cell_end (get_sep _ _ _) 2 2; rintro r9 n9 h9 tk9 F9 N9 ⟨rfl, t9, rfl⟩; (try dsimp only); (try k_fold))
  k_with "truthy str" => (refine truthy_pos (by assumption) (by assumption) ?_; intro tk8)
  k_with "exec For" => (refine For_invVF (by k_asm) rfl rfl ?_)
  k_with "pyIter ref" => (refine it_tup1 rfl (by k_asm) (by k_asm) (.head _) ?_; intro h9 tk9 own9 I9 hI9 ho9 hO9 F9 N9)
  k_steps
  all_goals (refine Once.next (by k_asm) (by k_asm) (by assumption) ?_; intro h8 tk8 F8 N8; dsimp only; k_steps)
  · exact hret _ _ _ _ _ (by k_asm) (News.off (by k_asm)) ⟨rfl, _, by rw [if_pos (by assumption)]; rfl⟩
  · exact hret _ _ _ _ _ (by k_asm) (News.off (by k_asm)) ⟨rfl, _, by rw [if_neg (fun e => absurd (e.symm.trans (by assumption : Txt.endswith x (Str.ofString "/") = false)) (by decide))]; rfl⟩
/-- the def within _int2digits -/
noncomputable def defAt (k j : Nat) : Arguments × List Stmt × Scope := match (Challenge.pw_pd0175_01.main.body)[k]? with
  | some (Stmt.FunctionDef _ _ b _ _ _ _ _ _ _) => (match b[j]? with
    | some (Stmt.FunctionDef _ a b _ _ _ sc _ _ _) => (a, b, sc)
    | _ => (default, [], default))
  | _ => (default, [], default)
noncomputable abbrev i1 := defAt 5 1
/-- what the call of inner wants of the ledger -/
structure In1 (f la : Addr) (n : Int) (rest : Led) : Prop where
  fn : ∃ z, z = i1 ∧ ∃ qual cn ci ca doc pm c' ctv oc vs t on tn oi oa, (f, fnMade (Str.ofString "inner") qual z.1 z.2.1 z.2.2 [(Str.ofString "n", cn), (Str.ofString "inner", ci), (Str.ofString "a_digits", ca)] doc pm c' ctv) ∈ rest ∧ (c', oc) ∈ rest ∧ oc.data = .fields vs ∧ vs[1]? = some (.str qual t) ∧
    (cn, on) ∈ rest ∧ on.data = .cell (some (.int n tn)) ∧ (ci, oi) ∈ rest ∧ oi.data = .cell (some (.ref f)) ∧ (ca, oa) ∈ rest ∧ oa.data = .cell (some (.ref la))
  off : Off la rest
set_option maxHeartbeats 400000 in
theorem inner1 {W : Wd} (n : Int) (hn1 : 1 ≤ n) (hn4 : n ≤ 4) : ∀ (k : Nat) (x l r : Int) (t1 t2 t3 : Tok) (f la : Addr) (rest : Led) (ds : List Value) (is : List Int) (nn : Nat), In1 f la n rest →
    r - l = k + 1 → 0 ≤ l → r ≤ is.length → is.length ≤ 20 → 0 ≤ x → x ≤ 10000 → x < (2 ^ n.toNat) ^ (k + 1) → IntsAre ds is →
    Does W f (k + 1) [.int x t1, .int l t2, .int r t3] ((la, listOf ds.toArray nn) :: rest) (fun v n' => v = .none ∧ ∃ ds', IntsAre ds' (splice is l.toNat (digs (2 ^ n.toNat) x (k + 1))) ∧ n' = (la, listOf ds'.toArray nn) :: rest) := by
  intro k
  induction k using Nat.strongRecOn with
  | ind k ih =>
  intro x l r t1 t2 t3 f la rest ds is nn hin hlr hl0 hrl hlen hx0 hx2 hx1 hds
  obtain ⟨z, hz, hin'⟩ := hin.fn
  conv at hz => rhs; whnf
  subst hz
  obtain ⟨qual, cn, ci, ca, doc, pm, c', ctv, oc, vs, t, on, tn, oi, oa, h1, h2, h3, h4, h5, h6, h7, h8, h9, h10⟩ := hin'
  have hoff := hin.off
  refine does_nest [(Str.ofString "x", .int x t1), (Str.ofString "L", .int l t2), (Str.ofString "R", .int r t3)] (.tail _ h1) (.tail _ h2) h3 h4 rfl (locs rfl) rfl rfl rfl (by decide) ?_
  intro L hLo dp un gd outer A₀ base g s Q B F X N Tp hd hu hret
  dsimp only at F ⊢
  k_with "mine name" => (k_dflt (refine' nameX_F ?N ?c ?m ?d ?_ ?a ?b; (case b => exact rfl); (case a => exact rfl); (case N => k_asm); (case c => exact rfl); (case m => (refine List.Mem.tail _ ?_; assumption)); (case d => assumption); k_whole))
  k_with "mine callWith" => (refine callWith_F (FnAt.of (by k_asm) (.tail _ h1)) ?_)
  k_with "mine and" => (k_dflt (refine ⟨FnAt.of (by k_asm) (.tail _ h1), ?_⟩); try dsimp only [List.nil_append, List.cons_append])
  k_with "mine lshift" => (k_dflt (refine lsh (divp_nn hx0 _) (divp_le hx0 hx2 _) (Int.mul_nonneg (by omega) (by omega)) (sh_le (by omega) (by omega) (by omega) (by omega)) ?_; intro _ _))
  k_with "mine call" => refine Halt.go ?_
  k_steps
  · have hk0 : k = 0 := by omega
    subst hk0
    refine hret _ _ _ _ _ (by k_asm) (by k_asm) ⟨rfl, _, ?_, rfl⟩
    have e : digs (2 ^ n.toNat) x (0 + 1) = [x] := by
      show [x % 2 ^ n.toNat] = [x]
      rw [Int.emod_eq_of_lt hx0 (by rw [show (0 + 1 : Nat) = 1 from rfl, Int.pow_one] at hx1; exact hx1)]
    rw [e, ← splice_one (by omega)]
    assumption
  · obtain ⟨i, j, e1, e2, e3, e4, m1, m2, m3, m4, m5, m6⟩ := in1_math hn1 hlr (by assumption) hl0 hx0 hx2 hx1
    have hB : (0 : Int) < 2 ^ n.toNat := Int.pow_pos (by decide)
    unfold Halt
    have C1 : ∀ t1 t2 t3, Does W f (i + 1) [.int (Builtin.bitXor x (x / 2 ^ (((l + r) / 2 - l) * n).toNat * 2 ^ (((l + r) / 2 - l) * n).toNat)) t1, .int l t2, .int ((l + r) / 2) t3] ((la, listOf ds.toArray nn) :: rest) (fun v n' => v = .none ∧ ∃ ds', IntsAre ds' (splice is l.toNat (digs (2 ^ n.toNat) (x % (2 ^ n.toNat) ^ (i + 1)) (i + 1))) ∧ n' = (la, listOf ds'.toArray nn) :: rest) := by
      intro u1 u2 u3
      rw [xor_high hx0, e4, e2]
      exact ih i (by omega) _ _ _ _ _ _ f la rest ds is nn hin (by omega) hl0 (by omega) hlen m1 m2 m3 hds
    cell_end (C1 _ _ _) 2 2
    rintro r9 n9 h9 tk9 F9 N9 ⟨rfl, ds1, hi1, rfl⟩
    dsimp only
    k_steps
    unfold Halt
    have C2 : ∀ t1 t2 t3, Does W f (j + 1) [.int (x / 2 ^ (((l + r) / 2 - l) * n).toNat) t1, .int ((l + r) / 2) t2, .int r t3] ((la, listOf ds1.toArray nn) :: rest) (fun v n' => v = .none ∧ ∃ ds', IntsAre ds' (splice is l.toNat (digs (2 ^ n.toNat) x (k + 1))) ∧ n' = (la, listOf ds'.toArray nn) :: rest) := by
      intro u1 u2 u3
      have hsl := splice_length (is := is) (l := l.toNat) (d := digs (2 ^ n.toNat) (x % (2 ^ n.toNat) ^ (i + 1)) (i + 1)) (by rw [digs_length]; omega)
      have hs := splice_digs (x := x) hB (is := is) (l := l.toNat) (i := i) (j := j) (by omega)
      rw [e4, e2]
      have q := ih j (by omega) (x / (2 ^ n.toNat) ^ (i + 1)) (l + i + 1) r u1 u2 u3 f la rest ds1 _ nn hin (by omega) (by omega) (by omega) (by omega) m4 m5 m6 hi1
      have e5 : (l + i + 1).toNat = l.toNat + (i + 1) := by omega
      rw [e5, hs, e1] at q
      exact q
    cell_end (C2 _ _ _) 2 2
    rintro r9 n9 h9 tk9 F9 N9 ⟨rfl, ds2, hi2, rfl⟩
    dsimp only
    k_steps
    exact hret _ _ _ _ _ (by k_asm) (by k_asm) ⟨rfl, _, hi2, rfl⟩
theorem codeHd41 {W : Wd} {h : Heap} (X : (KF W.w.params).In h) : CodeHd h 41 37 := codeHd_of_K X (by kernel_rfl)
theorem codeHd48 {W : Wd} {h : Heap} (X : (KF W.w.params).In h) : CodeHd h 48 44 := codeHd_of_K X (by kernel_rfl)
abbrev pos1 : Pos := ⟨35, 4, 44, 29⟩
abbrev qual1 : Str := (Str.ofString "_int2digits" ++ ".<locals>.") ++ Str.ofString "inner"
theorem in1_of {h₀ h : Heap} {L f la : Addr} {n : Int} {tail : Led} {qual : Str} {params : Arguments} {body : List Stmt} {scope : Scope} {cn ci ca c' : Addr} {doc pm ctv : Value} {oc on oi oa : Obj} {vs : Array Value} {t tn : Tok}
    (_N : News h₀ L h ((f, fnMade (Str.ofString "inner") qual params body scope [(Str.ofString "n", cn), (Str.ofString "inner", ci), (Str.ofString "a_digits", ca)] doc pm c' ctv) :: tail)) (hz : (params, body, scope) = i1)
    (h2 : (c', oc) ∈ tail) (h3 : oc.data = .fields vs) (h4 : vs[1]? = some (.str qual t)) (h5 : (cn, on) ∈ tail) (h6 : on.data = .cell (some (.int n tn))) (h7 : (ci, oi) ∈ tail) (h8 : oi.data = .cell (some (.ref f))) (h9 : (ca, oa) ∈ tail) (h10 : oa.data = .cell (some (.ref la)))
    (ho : Off la ((f, fnMade (Str.ofString "inner") qual params body scope [(Str.ofString "n", cn), (Str.ofString "inner", ci), (Str.ofString "a_digits", ca)] doc pm c' ctv) :: tail)) :
    In1 f la n ((f, fnMade (Str.ofString "inner") qual params body scope [(Str.ofString "n", cn), (Str.ofString "inner", ci), (Str.ofString "a_digits", ca)] doc pm c' ctv) :: tail) :=
  ⟨⟨(params, body, scope), hz, qual, cn, ci, ca, doc, pm, c', ctv, oc, vs, t, on, tn, oi, oa, .head _, .tail _ h2, h3, h4, .tail _ h5, h6, .tail _ h7, h8, .tail _ h9, h10⟩, ho⟩
set_option maxHeartbeats 1000000 in
theorem int2digits {W : Wd} (T rest : Led) (a n : Int) (t u : Tok) (ha1 : 0 ≤ a) (ha2 : a ≤ 10000) (hn1 : 1 ≤ n) (hn2 : n ≤ 4) (hT : Tab 37 pos1 qual1 T) (hD : Dj T rest) :
    Does W 42 16 [.int a t, .int n u] (T ++ rest) (fun r n' => ∃ T' la ds, r = .ref la ∧ n' = (la, listOf ds.toArray 0) :: (T' ++ rest) ∧ Tab 37 pos1 qual1 T' ∧ Dj T' rest ∧ Off la (T' ++ rest) ∧ IntsAre ds (digs (2 ^ n.toNat) a (ndig a n))) := by
  have hb := bits_le (k := 14) ha1 (by omega)
  have hK1 := ndig_nn (b := Builtin.Int.intBits a) (by omega) hn1
  have hK2 := ndig_le (b := Builtin.Int.intBits a) (by omega) (by omega) hn1
  cell_end [(Str.ofString "a", .int a t), (Str.ofString "n", .int n u)] 1 1
  intro L cells hLo Y dp un gd outer A₀ base g s Q B F X N Tp hd hu hret
  obtain ⟨oi, oa, on, rfl, d1, d2, d3⟩ := CellsAre.three Y
  replace F : Fr g L s.heap (fun y => if y = Str.ofString "a" then some (.int a t) else none) := F
  replace d1 : oi.data = .cell none := d1
  replace d2 : oa.data = .cell none := d2
  replace d3 : on.data = .cell (some (.int n u)) := d3
  replace N : News g L s.heap ((L + 3, oi) :: (L + 2, oa) :: (L + 1, on) :: (T ++ rest)) := N
  have CH := codeHd41 (by assumption)
  k_with "exec FunctionDef" => refine Halt.go ?_
  k_with "mine call" => refine Halt.go ?_
  k_steps
  unfold Halt
  refine nestDef_K rfl rfl rfl ?_
  rename_i l' _ hl' D' _ hi' n1 _ he1 _ _ hD' h2 oa2 F2 N2 d22
  have N3 := news_swap (A := [_, _, _, _, _]) (T := T) (rest := rest) N2 sub_but2
  have hLT := hLo.left
  refine nest_tab F2 N3 Tp CH rfl hT (((((hD.cons hLT (by omega)).cons hLT (by omega)).cons hLT (by omega)).cons hLT (by omega))) rfl ?_
  intro f' c' oc' vs' t' ctv' doc' h' tk' T' F' N' hT' hD2 hc' hd' hv' hlt'
  replace N' := news_back (A := [_, _, _, _]) N'
  have hLR := hLo.right
  have o3 : ∀ p ∈ T' ++ rest, p.1 ≠ L + 3 := off_app hD2.tail.off (hLR.ne (by omega))
  have hf3 : L + 3 < f' := hlt' _ (List.mem_append_right _ (.tail _ (.head _)))
  have hfD : D' < f' := hlt' _ (List.mem_append_right _ (.head _))
  clear N3 hlt' N2 F2
  have hn : n1 = ndig a n := he1.symm.trans (rep_zero _)
  have hDR : Dj T' rest := hD2.tail.tail.tail.tail
  have oD : Off D' (T' ++ rest) := off_app hD2.off (hLR.ne (by omega))
  k_steps
  · unfold Halt
    have h9 := ndig_lt ha1 hn1
    rw [← hn] at h9
    have hn0 : n1 ≠ 0 := fun e => by rw [e] at h9; simp at h9; omega
    have hn14 : n1 ≤ 14 := by rw [hn]; unfold ndig; omega
    rename_i hx ox Fx Nx dx ha0
    have hoff : ∀ fo, Off D' ((f', fo) :: (L + 3, ox) :: (L + 2, oa2) :: (L + 1, on) :: (T' ++ rest)) := fun fo => List.forall_mem_cons.mpr ⟨Nat.ne_of_gt hfD, List.forall_mem_cons.mpr ⟨Nat.ne_of_lt hD'.2.1, List.forall_mem_cons.mpr ⟨Nat.ne_of_lt hD'.2.2.1, List.forall_mem_cons.mpr ⟨Nat.ne_of_lt hD'.2.2.2.1, oD⟩⟩⟩⟩
    have N4 := perm_swap Nx
    have I1 := in1_of (la := D') (n := n) (perm_news Nx sub_but2) rfl (List.mem_append_left rest hc' |> fun h => .tail _ (.tail _ (.tail _ h))) hd' hv' (.tail _ (.tail _ (.head _))) d3 (.head _) dx (.tail _ (.head _)) d22 (hoff _)
    have C := inner1 (W := W) n hn1 hn2 (n1 - 1) a 0 n1 t tk' (tk' + 1 + 1) f' D' _ _ _ 0 I1 (by omega) (by omega) (by rw [he1]; omega) (by rw [he1]; omega) ha1 ha2 (by rw [show n1 - 1 + 1 = n1 by omega]; exact h9) hi'
    cell_end C 2 2
    rintro r9 n9 h9 tk9 F9 N9 ⟨rfl, ds1, hi1, rfl⟩
    dsimp only
    k_steps
    refine hret _ _ _ _ _ (by k_asm) (perm_news N9 (b := (D', _) :: (T' ++ rest)) fun p hp => (List.mem_cons.mp hp).elim (fun e => e ▸ .head _) fun h => .tail _ (.tail _ (.tail _ (.tail _ (.tail _ h))))) ⟨T', D', ds1, rfl, rfl, hT', hDR, oD, ?_⟩
    rw [show n1 - 1 + 1 = n1 by omega, hn, show (0 : Int).toNat = 0 from rfl, splice_all (by rw [digs_length]; exact rep_zero _)] at hi1
    exact hi1
  · rename_i hx ox Fx Nx dx ha0
    have e0 : a = 0 := by omega
    subst e0
    refine hret _ _ _ _ _ (by k_asm) (perm_news Nx (b := (D', _) :: (T' ++ rest)) fun p hp => (List.mem_cons.mp hp).elim (fun e => e ▸ .tail _ (.head _)) fun h => .tail _ (.tail _ (.tail _ (.tail _ (.tail _ h))))) ⟨T', D', _, rfl, rfl, hT', hDR, oD, ?_⟩
    have e1 : digs (2 ^ n.toNat) 0 (ndig 0 n) = (List.replicate (ndig 0 n) [0]).flatten := by rw [ndig_zero hn1]; rfl
    rw [e1]
    exact hi'
noncomputable abbrev i2 := defAt 6 0
/-- what the call of the inner def of _digits2int wants of the ledger -/
structure In2 (f la : Addr) (n : Int) (rest : Led) : Prop where
  fn : ∃ z, z = i2 ∧ ∃ qual cn ci ca doc pm c' ctv oc vs t on tn oi oa, (f, fnMade (Str.ofString "inner") qual z.1 z.2.1 z.2.2 [(Str.ofString "n", cn), (Str.ofString "inner", ci), (Str.ofString "digits", ca)] doc pm c' ctv) ∈ rest ∧ (c', oc) ∈ rest ∧ oc.data = .fields vs ∧ vs[1]? = some (.str qual t) ∧
    (cn, on) ∈ rest ∧ on.data = .cell (some (.int n tn)) ∧ (ci, oi) ∈ rest ∧ oi.data = .cell (some (.ref f)) ∧ (ca, oa) ∈ rest ∧ oa.data = .cell (some (.ref la))
theorem cut1_val {B : Int} {is : List Int} {l : Nat} (h : l < is.length) : val B (cut is l (0 + 1)) = is.getD l 0 := by
  rw [Nat.zero_add, cut_one h, val, val, Int.mul_zero, Int.add_zero]
theorem in2_math {n l r : Int} {k : Nat} (hn : 1 ≤ n) (hlr : r - l = k + 1) (hne : l + 1 ≠ r) (hl : 0 ≤ l) :
    ∃ i j : Nat, i + j + 1 = k ∧ (l + r) / 2 = l + i + 1 ∧ r = l + i + j + 2 ∧ (2 : Int) ^ (((l + r) / 2 - l) * n).toNat = (2 ^ n.toNat) ^ (i + 1) := by
  refine ⟨((l + r) / 2 - l - 1).toNat, (r - (l + r) / 2 - 1).toNat, by omega, by omega, by omega, ?_⟩
  rw [pow_sh (by omega) (by omega)]; congr 1; omega
theorem in2_val {B : Int} {is : List Int} {l : Int} {i j k : Nat} (hl : 0 ≤ l) (h : i + j + 1 = k) (h2 : l + i + j + 2 ≤ is.length) :
    val B (cut is l.toNat (k + 1)) = val B (cut is (l + i + 1).toNat (j + 1)) * B ^ (i + 1) + val B (cut is l.toNat (i + 1)) := by
  rw [show k + 1 = (i + 1) + (j + 1) by omega, cut_add, show (l + i + 1).toNat = l.toNat + (i + 1) by omega, val_append, cut_length (by omega), Int.mul_comm, Int.add_comm]
set_option maxHeartbeats 1000000 in
theorem inner2 {W : Wd} (n : Int) (hn1 : 1 ≤ n) (hn4 : n ≤ 4) : ∀ (k : Nat) (l r : Int) (t2 t3 : Tok) (f la : Addr) (rest : Led) (ds : List Value) (is : List Int) (nn : Nat), In2 f la n rest →
    r - l = k + 1 → 0 ≤ l → r ≤ is.length → is.length ≤ 20 → (∀ d ∈ is, 0 ≤ d) → val (2 ^ n.toNat) is ≤ 10000 → IntsAre ds is → (la, listOf ds.toArray nn) ∈ rest →
    Does W f (k + 1) [.int l t2, .int r t3] rest (fun v n' => n' = rest ∧ ∃ t, v = .int (val (2 ^ n.toNat) (cut is l.toNat (k + 1))) t) := by
  intro k
  induction k using Nat.strongRecOn with
  | ind k ih =>
  intro l r t2 t3 f la rest ds is nn hin hlr hl0 hrl hlen hnn hmax hds hla
  obtain ⟨z, hz, hin'⟩ := hin.fn
  conv at hz => rhs; whnf
  subst hz
  obtain ⟨qual, cn, ci, ca, doc, pm, c', ctv, oc, vs, t, on, tn, oi, oa, h1, h2, h3, h4, h5, h6, h7, h8, h9, h10⟩ := hin'
  refine does_nest [(Str.ofString "L", .int l t2), (Str.ofString "R", .int r t3)] h1 h2 h3 h4 rfl (locs rfl) rfl rfl rfl (by decide) ?_
  intro L hLo dp un gd outer A₀ base g s Q B F X N Tp hd hu hret
  dsimp only at F ⊢
  k_with "mine name" => (k_dflt (refine' nameX_F ?mnN ?mnc ?mnm ?mnd ?_ ?mna ?mnb; (case mnb => exact rfl); (case mna => exact rfl); (case mnN => k_asm); (case mnc => exact rfl); (case mnm => with_reducible assumption); (case mnd => with_reducible assumption); k_whole))
  k_with "mine callWith" => (refine callWith_F (FnAt.of (by k_asm) h1) ?_)
  k_with "mine and" => (k_dflt (refine ⟨FnAt.of (by k_asm) h1, ?_⟩); try dsimp only [List.nil_append, List.cons_append])
  k_with "mine call" => refine Halt.go ?_
  k_steps
  · have hk0 : k = 0 := by omega
    subst hk0
    have ev : is.getD l.toNat 0 = val (2 ^ n.toNat) (cut is l.toNat (0 + 1)) := (cut1_val (by omega)).symm
    dsimp only
    rw [← ev] at hret
    exact hret _ _ _ _ _ F N ⟨rfl, _, rfl⟩
  · obtain ⟨i, j, e1, e2, e3, e4⟩ := in2_math hn1 hlr (by assumption) hl0
    have hB : (0 : Int) < 2 ^ n.toNat := Int.pow_pos (by decide)
    unfold Halt
    have v0 := val_nn hB (xs := cut is (l + i + 1).toNat (j + 1)) (cut_mem hnn)
    have v1 := Int.le_trans (cut_le hB (l := (l + i + 1).toNat) (k := j + 1) hnn) hmax
    have ev := in2_val (B := 2 ^ n.toNat) (is := is) (l := l) (i := i) (j := j) (k := k) hl0 (by omega) (by omega)
    have C1 : ∀ t1 t2, Does W f (j + 1) [.int ((l + r) / 2) t1, .int r t2] rest (fun v n' => n' = rest ∧ ∃ t, v = .int (val (2 ^ n.toNat) (cut is (l + i + 1).toNat (j + 1))) t) := by
      intro u1 u2
      rw [e2]
      exact ih j (by omega) _ _ _ _ f la rest ds is nn hin (by omega) (by omega) (by omega) hlen hnn hmax hds hla
    have C2 : ∀ t1 t2, Does W f (i + 1) [.int l t1, .int ((l + r) / 2) t2] rest (fun v n' => n' = rest ∧ ∃ t, v = .int (val (2 ^ n.toNat) (cut is l.toNat (i + 1))) t) := by
      intro u1 u2
      rw [e2]
      exact ih i (by omega) _ _ _ _ f la rest ds is nn hin (by omega) (by omega) (by omega) hlen hnn hmax hds hla
    rw [ev] at hret
    clear ev hmax hnn ih hla hds hin
    generalize val (2 ^ n.toNat) (cut is (l + i + 1).toNat (j + 1)) = w2 at *
    generalize val (2 ^ n.toNat) (cut is l.toNat (i + 1)) = w1 at *
    k_with "mine lshift" => (k_dflt (refine lsh v0 v1 (Int.mul_nonneg (by omega) (by omega)) (sh_le (by omega) (by omega) (by omega) (by omega)) ?_; intro _ _))
    cell_end (C1 _ _) 2 2
    rintro r9 n9 h9 tk9 F9 N9 ⟨rfl, t9, rfl⟩
    dsimp only
    k_steps
    unfold Halt
    cell_end (C2 _ _) 2 2
    rintro r8 n8 h8 tk8 F8 N8 ⟨rfl, t9, rfl⟩
    dsimp only
    k_steps
    rw [← e4] at hret
    exact hret _ _ _ _ _ F8 N8 ⟨rfl, _, rfl⟩
abbrev pos2 : Pos := ⟨50, 4, 55, 55⟩
abbrev qual2 : Str := (Str.ofString "_digits2int" ++ ".<locals>.") ++ Str.ofString "inner"
theorem in2_of {h₀ h : Heap} {L f la : Addr} {n : Int} {tail : Led} {qual : Str} {params : Arguments} {body : List Stmt} {scope : Scope} {cn ci ca c' : Addr} {doc pm ctv : Value} {oc on oi oa : Obj} {vs : Array Value} {t tn : Tok}
    (_N : News h₀ L h ((f, fnMade (Str.ofString "inner") qual params body scope [(Str.ofString "n", cn), (Str.ofString "inner", ci), (Str.ofString "digits", ca)] doc pm c' ctv) :: tail)) (hz : (params, body, scope) = i2)
    (h2 : (c', oc) ∈ tail) (h3 : oc.data = .fields vs) (h4 : vs[1]? = some (.str qual t)) (h5 : (cn, on) ∈ tail) (h6 : on.data = .cell (some (.int n tn))) (h7 : (ci, oi) ∈ tail) (h8 : oi.data = .cell (some (.ref f))) (h9 : (ca, oa) ∈ tail) (h10 : oa.data = .cell (some (.ref la))) :
    In2 f la n ((f, fnMade (Str.ofString "inner") qual params body scope [(Str.ofString "n", cn), (Str.ofString "inner", ci), (Str.ofString "digits", ca)] doc pm c' ctv) :: tail) :=
  ⟨⟨(params, body, scope), hz, qual, cn, ci, ca, doc, pm, c', ctv, oc, vs, t, on, tn, oi, oa, .head _, .tail _ h2, h3, h4, .tail _ h5, h6, .tail _ h7, h8, .tail _ h9, h10⟩⟩
set_option maxHeartbeats 1000000 in
theorem digits2int {W : Wd} (T rest : Led) (la : Addr) (ds : List Value) (is : List Int) (nn : Nat) (n : Int) (u : Tok) (hn1 : 1 ≤ n) (hn2 : n ≤ 4) (hlen : is.length ≤ 20) (hnn : ∀ d ∈ is, 0 ≤ d) (hmax : val (2 ^ n.toNat) is ≤ 10000) (hds : IntsAre ds is)
    (hla : (la, listOf ds.toArray nn) ∈ rest) (hT : Tab 44 pos2 qual2 T) (hD : Dj T rest) :
    Does W 49 24 [.ref la, .int n u] (T ++ rest) (fun r n' => ∃ T' t, n' = T' ++ rest ∧ r = .int (val (2 ^ n.toNat) is) t ∧ Tab 44 pos2 qual2 T' ∧ Dj T' rest) := by
  k_with_none
  have C : ∀ t2 t3 f rest' (r : Int), In2 f la n rest' → (la, listOf ds.toArray nn) ∈ rest' → is.length ≠ 0 → r = is.length → Does W f 20 [.int 0 t2, .int r t3] rest' (fun v n' => n' = rest' ∧ ∃ t, v = .int (val (2 ^ n.toNat) is) t) := by
    intro t2 t3 f rest' r h1 h2 h3 h4
    have q := inner2 (W := W) n hn1 hn2 (is.length - 1) 0 r t2 t3 f la rest' ds is nn h1 (by omega) (by omega) (by omega) hlen hnn hmax hds h2
    rw [show is.length - 1 + 1 = is.length by omega, show (0 : Int).toNat = 0 from rfl, cut_all] at q
    exact does_le (by omega) q
  have V0 : is.length = 0 → val (2 ^ n.toNat) is = 0 := fun h => by rw [List.length_eq_zero_iff.mp h]; rfl
  have hdl := hds.length
  clear hmax hnn
  generalize val (2 ^ n.toNat) is = V at *
  cell_end [(Str.ofString "digits", .ref la), (Str.ofString "n", .int n u)] 1 1
  intro L cells hLo Y dp un gd outer A₀ base g s Q B F X N Tp hd hu hret
  obtain ⟨oi, on, od, rfl, d1, d2, d3⟩ := CellsAre.three Y
  replace F : Fr g L s.heap (fun _ => none) := F
  replace d1 : oi.data = .cell none := d1
  replace d2 : on.data = .cell (some (.int n u)) := d2
  replace d3 : od.data = .cell (some (.ref la)) := d3
  replace N : News g L s.heap ((L + 3, oi) :: (L + 2, on) :: (L + 1, od) :: (T ++ rest)) := N
  have CH := codeHd48 (by assumption)
  k_with "exec FunctionDef" => refine Halt.go ?_
  k_with "mine call" => refine Halt.go ?_
  k_steps
  unfold Halt
  refine nestDef_K rfl rfl rfl ?_
  have N3 := news_swap (A := [_, _, _]) (T := T) (rest := rest) N (fun _ h => h)
  have hLT := hLo.left
  refine nest_tab F N3 Tp CH rfl hT (((hD.cons hLT (by omega)).cons hLT (by omega)).cons hLT (by omega)) rfl ?_
  intro f' c' oc' vs' t' ctv' doc' h' tk' T' F' N' hT' hD2 hc' hd' hv' hlt'
  replace N' := news_back (A := [_, _, _]) N'
  have hLR := hLo.right
  have o3 : ∀ p ∈ T' ++ rest, p.1 ≠ L + 3 := off_app hD2.off (hLR.ne (by omega))
  have hf3 : L + 3 < f' := hlt' _ (List.mem_append_right _ (.head _))
  clear N3 hlt'
  have hDR : Dj T' rest := hD2.tail.tail.tail
  have hla' : (la, listOf ds.toArray nn) ∈ T' ++ rest := List.mem_append_right _ hla
  have hdl2 : ds.length ≤ 20 := by omega
  k_with "truthy ref" => k_dflt (refine kgr_truthy (vs := ds) (n := nn) (by k_asm) (.tail _ (.tail _ (.tail _ (.tail _ hla')))) rfl rfl (by omega) ?_)
  k_with "call builtin:len" => k_dflt (refine KM.len_K (n := is.length) (by k_asm) (.tail _ (.tail _ (.tail _ (.tail _ hla')))) (by rw [List.size_toArray]; exact hdl) (by omega) ?_)
  k_steps
  · rename_i hx ox Fx Nx dx he
    have hV := V0 (by rw [← hdl, List.isEmpty_iff.mp he]; rfl)
    rw [hV] at hret
    exact hret _ _ _ _ _ Fx (perm_news Nx (b := T' ++ rest) fun p hp => .tail _ (.tail _ (.tail _ (.tail _ hp)))) ⟨T', _, rfl, rfl, hT', hDR⟩
  · rename_i hx ox Fx Nx dx he
    unfold Halt
    have hne : is.length ≠ 0 := fun h => by rw [List.length_eq_zero_iff.mp (hdl.trans h)] at he; exact absurd he (by decide)
    have I2 := in2_of (la := la) (n := n) Nx rfl (List.mem_append_left rest hc' |> fun h => .tail _ (.tail _ (.tail _ h))) hd' hv' (.tail _ (.head _)) d2 (.head _) dx (.tail _ (.tail _ (.head _))) d3
    cell_end (C _ _ _ _ _ I2 (.tail _ (.tail _ (.tail _ (.tail _ hla')))) hne rfl) 2 2
    rintro r9 n9 h9 tk9 F9 N9 ⟨rfl, t9, rfl⟩
    dsimp only
    k_steps
    exact hret _ _ _ _ _ F9 (perm_news N9 (b := T' ++ rest) fun p hp => .tail _ (.tail _ (.tail _ (.tail _ hp)))) ⟨T', _, rfl, rfl, hT', hDR⟩
theorem dm_step {B b A r d V : Int} (hb : 0 < b) (hr : r = A % b) (hV : V = A / b) : (r * B + d) % b = (d + B * A) % b ∧ (r * B + d) / b + B * V = (d + B * A) / b := by
  have e := Int.emod_add_mul_ediv A b
  rw [← hr, ← hV] at e
  have e2 : d + B * A = (r * B + d) + b * (B * V) := by
    rw [← e, Int.mul_add, Int.mul_comm r B, Int.mul_left_comm B b V]; omega
  rw [e2, Int.add_mul_emod_self_left, Int.add_mul_ediv_left _ _ (by omega)]
  exact ⟨rfl, rfl⟩
theorem digs_mem {B : Int} (hB : 0 < B) : ∀ (k : Nat) (x : Int), ∀ d ∈ digs B x k, 0 ≤ d ∧ d < B
  | 0, _, _, h => nomatch h
  | k + 1, x, d, h => by
    rw [digs] at h
    rcases List.mem_cons.mp h with rfl | h
    · exact ⟨Int.emod_nonneg _ (by omega), Int.emod_lt_of_pos _ hB⟩
    · exact digs_mem hB k _ d h
/-- the value of the upper i digits -/
noncomputable def topv (B : Int) (ds : List Int) (i : Nat) : Int := val B (ds.drop (ds.length - i))
theorem topv_zero (B : Int) (ds : List Int) : topv B ds 0 = 0 := by unfold topv; rw [Nat.sub_zero, List.drop_length]; rfl
theorem topv_all (B : Int) (ds : List Int) : topv B ds ds.length = val B ds := by unfold topv; rw [Nat.sub_self, List.drop_zero]
theorem topv_succ (B : Int) {ds : List Int} {i : Nat} {d : Int} (hi : i < ds.length) (hd : ds[ds.length - 1 - i]? = some d) : topv B ds (i + 1) = d + B * topv B ds i := by
  unfold topv
  obtain ⟨hlt, hd⟩ := List.getElem?_eq_some_iff.mp hd
  have e : ds.drop (ds.length - (i + 1)) = d :: ds.drop (ds.length - i) := by
    rw [show ds.length - (i + 1) = ds.length - 1 - i by omega, List.drop_eq_getElem_cons hlt, hd, show ds.length - 1 - i + 1 = ds.length - i by omega]
  rw [e, val]
theorem ints_at {vs : List Value} {is : List Int} (h : IntsAre vs is) {i : Nat} {v : Value} (hv : vs[i]? = some v) : ∃ d t, v = .int d t ∧ is[i]? = some d := by
  induction h generalizing i with
  | nil => simp at hv
  | cons n t h ih =>
    cases i with
    | zero => simp at hv; subst hv; exact ⟨n, t, rfl, rfl⟩
    | succ i => simp at hv; exact ih hv
theorem bits_ge {b : Int} (hb : 1 ≤ b) : 1 ≤ ((Builtin.Int.intBits b : Nat) : Int) := by
  unfold Builtin.Int.intBits
  have : (b == 0) = false := by simp; omega
  rw [this]; simp only [Bool.false_eq_true, if_false]; omega
theorem ints_app : ∀ {vs ws : List Value} {is js : List Int}, IntsAre vs is → IntsAre ws js → IntsAre (vs ++ ws) (is ++ js)
  | _, _, _, _, .nil, h => h
  | _, _, _, _, .cons n t h, h2 => .cons n t (ints_app h h2)
theorem ints_rev : ∀ {vs : List Value} {is : List Int}, IntsAre vs is → IntsAre vs.reverse is.reverse
  | _, _, .nil => .nil
  | _, _, .cons n t h => by rw [List.reverse_cons, List.reverse_cons]; exact ints_app (ints_rev h) (.cons n t .nil)
theorem off_cons {a x : Nat} {o : Obj} {l : Led} (h : a ≠ x) (hl : ∀ p ∈ l, p.1 ≠ x) : ∀ p ∈ ((a, o) :: l : Led), p.1 ≠ x := fun p hp => (List.mem_cons.mp hp).elim (fun e => e ▸ h) (hl p)
theorem lt_cons {a x : Nat} {o : Obj} {l : Led} (h : a < x) (hl : Lo x l) : Lo x ((a, o) :: l) := fun p hp => (List.mem_cons.mp hp).elim (fun e => e ▸ h) (hl p)
set_option maxHeartbeats 1000000 in
theorem div2n1n {W : Wd} (news : Led) (a b n : Int) (t u v : Tok) (ha : 0 ≤ a) (ha2 : a ≤ 100000) (hb : 1 ≤ b) (hb2 : b ≤ 9) (hn : 1 ≤ n) (hn4 : n ≤ 4) : Does W 28 2 [.int a t, .int b u, .int n v] news (Pair (a / b) (a % b) news) := by
  k_with_none
  have hbits := bits_le (k := 17) ha (by omega)
  cell_end [(Str.ofString "a", .int a t), (Str.ofString "b", .int b u), (Str.ofString "n", .int n v)] 0 0
  intro L hLo dp un gd outer A₀ base g s Q B F X N T hd hu hret
  k_steps
  rename_i h9 F9 N9
  have e1 : a.fdiv b = a / b := Int.fdiv_eq_ediv_of_nonneg _ (by omega)
  have e2 : a.fmod b = a % b := Int.fmod_eq_emod_of_nonneg _ (by omega)
  rw [e1, e2] at N9
  exact hret _ _ _ _ _ F9 N9 ⟨_, _, _, rfl, rfl, fun p hp => Heap.lt_size (N p hp).1⟩
theorem allLt_lt {d : Nat} : ∀ {l : Led}, AllLt d l → ∀ p ∈ l, @LT.lt Nat _ p.1 d
  | [], _, _, hp => nomatch hp
  | _ :: _, h, _, hp => (List.mem_cons.mp hp).elim (fun e => e ▸ h.1) (fun q => allLt_lt h.2 _ q)
theorem see {m : Str → Option Value} {x : Str} {v : Value} (h : m x = some v) : m = fun y => if y = x then some v else m y := by
  funext y; by_cases e : y = x
  · subst e; rw [if_pos rfl]; exact h
  · rw [if_neg e]
/-- the two code tables that the made defs fill -/
noncomputable def Tabs (T : Led) : Prop := ∃ T1 T2, T = T1 ++ T2 ∧ Tab 37 pos1 qual1 T1 ∧ Tab 44 pos2 qual2 T2 ∧ Dj T1 T2
theorem Dj.left {x y z : Led} (h : Dj (x ++ y) z) : Dj x z := fun p hp => h p (List.mem_append_left _ hp)
theorem Dj.right {x y z : Led} (h : Dj (x ++ y) z) : Dj y z := fun p hp => h p (List.mem_append_right _ hp)
theorem Dj.app {x y z : Led} (h1 : Dj x y) (h2 : Dj x z) : Dj x (y ++ z) := fun p hp q hq => (List.mem_append.mp hq).elim (h1 p hp q) (h2 p hp q)
theorem Dj.join {x y z : Led} (h1 : Dj x z) (h2 : Dj y z) : Dj (x ++ y) z := fun p hp q hq => (List.mem_append.mp hp).elim (fun h => h1 p h q hq) (fun h => h2 p h q hq)
theorem Dj.inl {x y z : Led} (h : Dj x (y ++ z)) : Dj x y := fun p hp q hq => h p hp q (List.mem_append_left _ hq)
theorem Dj.inr {x y z : Led} (h : Dj x (y ++ z)) : Dj x z := fun p hp q hq => h p hp q (List.mem_append_right _ hq)
theorem Dj.symm {x y : Led} (h : Dj x y) : Dj y x := fun p hp q hq e => h q hq p hp e.symm
theorem Dj.add {T rest : Led} {a : Addr} {o : Obj} (h : Dj T rest) (ho : Off a T) : Dj T ((a, o) :: rest) := fun p hp q hq => by
  rcases List.mem_cons.mp hq with rfl | hq
  · exact ho p hp
  · exact h p hp q hq
/-- what holds ahead of turn i of the loop of _divmod_pos -/
structure DmJ (is : List Int) (b n : Int) (ql : Addr) (tn tb : Tok) (R : Led) (i : Nat) (m : Str → Option Value) (news : Led) : Prop where
  mn : m (Str.ofString "n") = some (.int n tn)
  mb : m (Str.ofString "b") = some (.int b tb)
  mq : m (Str.ofString "q_digits") = some (.ref ql)
  ex : ∃ r t vs qs nn, m (Str.ofString "r") = some (.int r t) ∧ news = (ql, listOf vs.toArray nn) :: R ∧ IntsAre vs qs ∧ r = topv (2 ^ n.toNat) is i % b ∧ val (2 ^ n.toNat) qs.reverse = topv (2 ^ n.toNat) is i / b ∧ (∀ d ∈ qs, 0 ≤ d) ∧ qs.length = i
set_option maxHeartbeats 4000000 in
theorem divmod_pos {W : Wd} (T rest : Led) (a b : Int) (t u : Tok) (ha : 0 ≤ a) (ha2 : a ≤ 10000) (hb : 1 ≤ b) (hb2 : b ≤ 9) (hT : Tabs T) (hD : Dj T rest) :
    Does W 56 30 [.int a t, .int b u] (T ++ rest) (fun v n' => ∃ T', Pair (a / b) (a % b) (T' ++ rest) v n' ∧ Tabs T' ∧ Dj T' rest) := by
  k_with_none
  obtain ⟨T1, T2, rfl, hT1, hT2, hD12⟩ := hT
  have hn1 : 1 ≤ ((Builtin.Int.intBits b : Nat) : Int) := bits_ge (by omega)
  have hn4 : ((Builtin.Int.intBits b : Nat) : Int) ≤ 4 := by exact_mod_cast bits_le (a := b) (k := 4) (by omega) (by omega)
  have hbB := bits_lt (a := b) (by omega)
  have C1 := fun u => int2digits (W := W) T1 (T2 ++ rest) a (Builtin.Int.intBits b) t u ha ha2 hn1 (by omega) hT1 (hD12.app hD.left)
  rw [List.append_assoc]
  cell_end [(Str.ofString "a", .int a t), (Str.ofString "b", .int b u)] 0 0
  intro L hLo dp un gd outer A₀ base g s Q B F X N Tp hd hu hret
  k_with "mine call" => refine Halt.go ?_
  k_with "exec For" => (refine For_invVF (by k_asm) rfl rfl ?_)
  k_with "pyIter ref" => refine Halt.go ?_
  k_steps
  unfold Halt
  cell_end (C1 _) 2 2
  clear C1
  rintro r9 n9 h9 tk9 F9 N9 ⟨T1', la, ds, rfl, rfl, hT1', hD1', hOff, hds⟩
  dsimp only
  k_steps
  unfold Halt
  rename_i h0 h1 tk1 h2 ql h3 lq h4 D' h5 F5 N5 lD
  have hK := ndig_le (b := Builtin.Int.intBits a) (by omega) (by exact_mod_cast bits_le (k := 14) ha (by omega)) hn1
  have hval := val_digs (B := 2 ^ ((Builtin.Int.intBits b : Nat) : Int).toNat) (Int.pow_pos (by decide)) (ndig a (Builtin.Int.intBits b)) a ha (ndig_lt ha hn1)
  have hmem := digs_mem (B := 2 ^ ((Builtin.Int.intBits b : Nat) : Int).toNat) (Int.pow_pos (by decide)) (ndig a (Builtin.Int.intBits b)) a
  have hlen := digs_length (2 ^ ((Builtin.Int.intBits b : Nat) : Int).toNat) (ndig a (Builtin.Int.intBits b)) a
  have hlen2 : ndig a (Builtin.Int.intBits b) ≤ 14 := by unfold ndig; omega
  rw [← hlen] at hlen2
  clear hlen hK
  generalize digs (2 ^ ((Builtin.Int.intBits b : Nat) : Int).toNat) a (ndig a (Builtin.Int.intBits b)) = is at *
  have hnb : b < 2 ^ ((Builtin.Int.intBits b : Nat) : Int).toNat := hbB
  have hB16 : (2 : Int) ^ ((Builtin.Int.intBits b : Nat) : Int).toNat ≤ 16 := by exact_mod_cast Nat.pow_le_pow_right (n := 2) (by decide) (show ((Builtin.Int.intBits b : Nat) : Int).toNat ≤ 4 by omega)
  clear hbB
  generalize ((Builtin.Int.intBits b : Nat) : Int) = n at *
  refine it_rev (DmJ is b n ql s.toks u ((la, listOf ds.toArray 0) :: (T1' ++ (T2 ++ rest)))) rfl F5 N5 (.tail _ (.head _)) ?_ ?_ ?_ ?_
  · exact List.forall_mem_cons.mpr ⟨lD.1, List.forall_mem_cons.mpr ⟨lD.2.1, allLt_lt lD.2.2⟩⟩
  · exact ⟨rfl, rfl, rfl, 0, _, [], [], 0, rfl, rfl, .nil, by rw [topv_zero, Int.zero_emod], by rw [topv_zero, Int.zero_ediv]; rfl, fun _ h => (nomatch h), rfl⟩
  · rintro i v m₁ n₁ h tk own hi hv ⟨mn, mb, mq, r, tr, vs, qs, nn, mr, rfl, hvs, er, eV, hq0, hql⟩ hI ho _ F₁ N₁
    obtain ⟨d, td, rfl, hd'⟩ := ints_at hds hv
    rw [hds.length] at hi hd'
    have hdm := hmem d (List.mem_of_getElem? hd')
    have hs := topv_succ (2 ^ n.toNat) hi hd'
    have st := dm_step (B := 2 ^ n.toNat) (d := d) (show 0 < b by omega) er eV
    rw [← hs] at st
    have hr0 : 0 ≤ r ∧ r ≤ 8 := by
      have := Int.emod_nonneg (topv (2 ^ n.toNat) is i) (show b ≠ 0 by omega)
      have := Int.emod_lt_of_pos (topv (2 ^ n.toNat) is i) (show 0 < b by omega)
      omega
    rw [see mn, see mb, see mq, see mr] at F₁
    have lq2 := allLt_lt lq.2
    have hIq : ql ≠ D' := hI _ (.head _)
    have oR : ∀ p ∈ ((la, listOf ds.toArray 0) :: (T1' ++ (T2 ++ rest))) ++ own, p.1 ≠ ql := off_app (List.forall_mem_cons.mpr ⟨Nat.ne_of_lt lq.1, fun p hp => Nat.ne_of_lt (lq2 p hp)⟩) fun p hp e => (ho p hp).elim (fun h => hIq (e ▸ h)) fun h => Nat.ne_of_gt lq.1 (e.symm.trans h)
    have N2 : News g L h ((ql, listOf vs.toArray nn) :: (((la, listOf ds.toArray 0) :: (T1' ++ (T2 ++ rest))) ++ own)) := perm_news N₁ fun p hp => (List.mem_cons.mp hp).elim (fun e => List.mem_append_right _ (e ▸ .head _)) fun hp => (List.mem_append.mp hp).elim (fun hp => List.mem_append_right _ (.tail _ hp)) (List.mem_append_left _)
    have hoR : ∀ p ∈ ((la, listOf ds.toArray 0) :: (T1' ++ (T2 ++ rest))), p.1 ≠ D' := fun p hp => hI p (.tail _ hp)
    generalize hRR : ((la, listOf ds.toArray 0) :: (T1' ++ (T2 ++ rest))) = R at *
    generalize hRO : R ++ own = RO at *
    clear N₁
    have hvsz : vs.toArray.size ≤ sizeLine := by
      have := hvs.length
      rw [List.size_toArray, sizeLine_eq]; omega
    have hx0 : 0 ≤ r * 2 ^ n.toNat + d := Int.add_nonneg (Int.mul_nonneg hr0.1 (by omega)) hdm.1
    have hx1 : r * 2 ^ n.toNat + d ≤ 100000 := by
      have h1 : r * 2 ^ n.toNat ≤ 8 * 16 := Int.mul_le_mul hr0.2 hB16 (by omega) (by decide)
      omega
    have C2 := fun t1 t2 t3 => div2n1n (W := W) ((ql, listOf vs.toArray nn) :: RO) (r * 2 ^ n.toNat + d) b n t1 t2 t3 hx0 hx1 hb hb2 hn1 hn4
    k_with "mine lshift" => (k_dflt (refine lsh hr0.1 (by omega) (by omega) (by omega) ?_; intro _ _))
    k_steps
    unfold Halt
    cell_end (C2 _ _ _) 2 2
    clear C2
    rintro r9 n9 h9 tk9 F9 N9 ⟨x, u1, u2, rfl, rfl, hlt9⟩
    dsimp only
    k_steps
    refine append_K (by k_asm) (by k_asm) (Upd.tail (show x ≠ ql from Nat.ne_of_gt (hlt9 _ (.head _))) (Upd.head oR)) ?_ hvsz
    intro h8 F8 N8
    dsimp only
    k_steps
    refine ⟨_, _, _, (ql, listOf (vs ++ [Value.int ((r * 2 ^ n.toNat + d) / b) u1]).toArray (nn + 1)) :: R, rfl, by k_asm, ?_, ?_, ⟨rfl, rfl, rfl, _, _, _, qs ++ [(r * 2 ^ n.toNat + d) / b], _, rfl, rfl, ints_app hvs (.cons _ _ .nil), st.1, ?_, ?_, ?_⟩⟩
    · have N7 : News g L h8 ((x, tupO [.int ((r * 2 ^ n.toNat + d) / b) u1, .int ((r * 2 ^ n.toNat + d) % b) u2]) :: (ql, listOf (vs.toArray.push (.int ((r * 2 ^ n.toNat + d) / b) u1)) (nn + 1)) :: RO) := by k_asm
      rw [List.push_toArray] at N7
      refine perm_news N7 fun p hp => ?_
      subst hRO
      rcases List.mem_append.mp hp with hp | hp
      · exact .tail _ (.tail _ (List.mem_append_right _ hp))
      · rcases List.mem_cons.mp hp with rfl | hp
        · exact .tail _ (.head _)
        · exact .tail _ (.tail _ (List.mem_append_left _ hp))
    · exact List.forall_mem_cons.mpr ⟨hIq, hoR⟩
    · rw [List.reverse_append, List.reverse_cons, List.reverse_nil, List.nil_append, List.singleton_append, val]
      exact st.2
    · intro z hz
      rcases List.mem_append.mp hz with hz | hz
      · exact hq0 z hz
      · rw [List.mem_singleton.mp hz]; exact Int.ediv_nonneg hx0 (by omega)
    · rw [List.length_append, hql]; rfl
  · rintro h' tk m' n' F' N' ⟨mn, mb, mq, r, tr, vs, qs, nn, mr, rfl, hvs, er, eV, hq0, hql⟩
    rw [hds.length, topv_all, hval] at er eV
    rw [hds.length] at hql
    rw [see mn, see mb, see mq, see mr] at F'
    have lq2 := allLt_lt lq.2
    have oql : ∀ p ∈ (la, listOf ds.toArray 0) :: (T1' ++ (T2 ++ rest)), p.1 ≠ ql := off_cons (Nat.ne_of_lt lq.1) fun p hp => Nat.ne_of_lt (lq2 p hp)
    have N2 : News g L h' ((ql, listOf vs.toArray nn) :: (la, listOf ds.toArray 0) :: (T1' ++ (T2 ++ rest))) := N'
    dsimp only
    k_steps
    have hvsz : vs.toArray.toList.length ≤ sizeLine := by
      have := hvs.length
      rw [show vs.toArray.toList = vs from rfl, sizeLine_eq]; omega
    refine kl_reverse (l := vs.reverse) (by k_asm) (by k_asm) rfl (Upd.head oql) hvsz ?_
    intro h8 F8 N8
    dsimp only
    have hD2' : Dj T2 ((ql, listOf vs.reverse.toArray nn) :: (la, listOf ds.toArray 0) :: (T1' ++ rest)) := Dj.add (Dj.add (Dj.app hD1'.inl.symm hD.right) fun p hp => hOff p (List.mem_append_right _ (List.mem_append_left _ hp))) fun p hp => Nat.ne_of_lt (lq2 p (List.mem_append_right _ (List.mem_append_left _ hp)))
    have N7 : News g L h8 (T2 ++ ((ql, listOf vs.reverse.toArray nn) :: (la, listOf ds.toArray 0) :: (T1' ++ rest))) := perm_news N8 fun p hp => by
      rcases List.mem_append.mp hp with hp | hp
      · exact .tail _ (.tail _ (List.mem_append_right _ (List.mem_append_left _ hp)))
      · rcases List.mem_cons.mp hp with rfl | hp
        · exact .head _
        · rcases List.mem_cons.mp hp with rfl | hp
          · exact .tail _ (.head _)
          · rcases List.mem_append.mp hp with hp | hp
            · exact .tail _ (.tail _ (List.mem_append_left _ hp))
            · exact .tail _ (.tail _ (List.mem_append_right _ (List.mem_append_right _ hp)))
    have hab : a / b ≤ 10000 := Int.le_trans (Int.ediv_le_self _ ha) ha2
    have C3 := fun t3 => digits2int (W := W) T2 ((ql, listOf vs.reverse.toArray nn) :: (la, listOf ds.toArray 0) :: (T1' ++ rest)) ql vs.reverse qs.reverse nn n t3 hn1 hn4 (by rw [List.length_reverse]; omega) (fun d hd => hq0 d (List.mem_reverse.mp hd)) (by rw [eV]; exact hab) (ints_rev hvs) (.head _) hT2 hD2'
    rw [eV] at C3
    clear N8 N2 F' N' eV hmem hval
    k_steps
    unfold Halt
    cell_end (C3 _) 2 2
    rintro r9 n9 h9 tk9 F9 N9 ⟨T2', t9, rfl, rfl, hT2', hD2''⟩
    clear C3
    dsimp only
    k_steps
    rename_i h6 tk6 D6 h7 F7 N7 l6
    subst er
    have hsub : ∀ p ∈ (T1' ++ T2') ++ rest, p ∈ T2' ++ (ql, listOf vs.reverse.toArray nn) :: (la, listOf ds.toArray 0) :: (T1' ++ rest) := fun p hp => by
      rcases List.mem_append.mp hp with hp | hp
      · rcases List.mem_append.mp hp with hp | hp
        · exact List.mem_append_right _ (.tail _ (.tail _ (List.mem_append_left _ hp)))
        · exact List.mem_append_left _ hp
      · exact List.mem_append_right _ (.tail _ (.tail _ (List.mem_append_right _ hp)))
    refine hret _ ((D6, tupO [.int (a / b) t9, .int (a % b) tr]) :: ((T1' ++ T2') ++ rest)) _ _ _ F7 (perm_news N7 fun p hp => (List.mem_cons.mp hp).elim (fun e => e ▸ .head _) fun h => .tail _ (hsub p h)) ⟨T1' ++ T2', ⟨D6, t9, tr, rfl, rfl, fun p hp => l6 p (hsub p hp)⟩, ⟨T1', T2', rfl, hT1', hT2', ?_⟩, Dj.join hD1'.inr ?_⟩
    · exact hD2''.tail.tail.inl.symm
    · exact hD2''.tail.tail.inr
/-- what a call of int_divmod gives -/
abbrev Divd (q r : Int) (rest : Led) (v : Value) (n' : Led) : Prop := ∃ T', Pair q r (T' ++ rest) v n' ∧ Tabs T' ∧ Dj T' rest
set_option maxHeartbeats 1000000 in
theorem divmod_nn {W : Wd} (T rest : Led) (a b : Int) (t u : Tok) (ha : 0 ≤ a) (ha2 : a ≤ 10000) (hb : 1 ≤ b) (hb2 : b ≤ 9) (hT : Tabs T) (hD : Dj T rest) : Does W 63 31 [.int a t, .int b u] (T ++ rest) (Divd (a / b) (a % b) rest) := by
  k_with_none
  have C := fun t u => divmod_pos (W := W) T rest a b t u ha ha2 hb hb2 hT hD
  cell_end [(Str.ofString "a", .int a t), (Str.ofString "b", .int b u)] 0 0
  intro L hLo dp un gd outer A₀ base g s Q B F X N Tp hd hu hret
  k_with "mine call" => refine Halt.go ?_
  k_steps
  · exfalso; omega
  unfold Halt
  cell_end (C _ _) 2 2
  intro r9 n9 h9 tk9 F9 N9 P9
  dsimp only
  k_steps
  exact hret _ _ _ _ _ F9 N9 P9
theorem not_div {a b : Int} (hb : 1 ≤ b) : -((-a - 1) / b) - 1 = a / b ∧ b + (-((-a - 1) % b) - 1) = a % b := by
  have h1 := Int.emod_add_mul_ediv (-a - 1) b
  have h2 := Int.emod_nonneg (-a - 1) (show b ≠ 0 by omega)
  have h3 := Int.emod_lt_of_pos (-a - 1) (show 0 < b by omega)
  have e : a = (b + (-((-a - 1) % b) - 1)) + b * (-((-a - 1) / b) - 1) := by rw [Int.mul_sub, Int.mul_neg]; omega
  have g0 : 0 ≤ b + (-((-a - 1) % b) - 1) := by omega
  have g1 : b + (-((-a - 1) % b) - 1) < b := by omega
  generalize b + (-((-a - 1) % b) - 1) = r at *
  generalize -((-a - 1) / b) - 1 = q at *
  rw [e, Int.add_mul_ediv_left _ _ (by omega), Int.add_mul_emod_self_left, Int.ediv_eq_zero_of_lt g0 g1, Int.emod_eq_of_lt g0 g1]
  exact ⟨(Int.zero_add q).symm, rfl⟩
set_option maxHeartbeats 1000000 in
theorem divmod_neg {W : Wd} (T rest : Led) (a b : Int) (t u : Tok) (ha : a < 0) (ha2 : -10000 ≤ a) (hb : 1 ≤ b) (hb2 : b ≤ 9) (hT : Tabs T) (hD : Dj T rest) : Does W 63 32 [.int a t, .int b u] (T ++ rest) (Divd (a / b) (a % b) rest) := by
  k_with_none
  have C := fun t u => divmod_nn (W := W) T rest (-a-1) b t u (by omega) (by omega) hb hb2 hT hD
  have nd := not_div (a := a) hb
  cell_end [(Str.ofString "a", .int a t), (Str.ofString "b", .int b u)] 0 0
  intro L hLo dp un gd outer A₀ base g s Q B F X N Tp hd hu hret
  k_with "mine call" => refine Halt.go ?_
  k_steps
  · exfalso; omega
  unfold Halt
  have en : ∀ x, Builtin.bitNot x = -x - 1 := fun x => rfl
  rw [en]
  cell_end (C _ _) 2 2
  rintro r9 n9 h9 tk9 F9 N9 ⟨T', ⟨x, t1, t2, rfl, rfl, hx⟩, hT', hD'⟩
  dsimp only
  k_steps
  rename_i h1 h2 h3 D6 h7 F7 N7 l7
  rw [en, en, nd.1, nd.2] at N7
  exact hret _ ((D6, tupO [_, _]) :: (T' ++ rest)) _ _ _ F7 (perm_news N7 sub_but2) ⟨T', ⟨D6, _, _, rfl, rfl, allLt_lt l7.2⟩, hT', hD'⟩
theorem neg_div {a b : Int} (hb : b ≤ -1) : (-a) / (-b) = a.fdiv b ∧ -((-a) % (-b)) = a.fmod b := by
  have e1 : a.fdiv b = (-a) / (-b) := by
    rw [← Int.neg_fdiv_neg, Int.fdiv_eq_ediv_of_nonneg _ (by omega)]
  refine ⟨e1.symm, ?_⟩
  have h1 := Int.emod_add_mul_ediv (-a) (-b)
  rw [Int.fmod_def, e1]
  rw [Int.neg_mul] at h1
  omega
set_option maxHeartbeats 1000000 in
theorem divmod_flip {W : Wd} (T rest : Led) (a b : Int) (t u : Tok) (ha : -10000 ≤ a) (ha2 : a ≤ 10000) (hb : b ≤ -1) (hb2 : -9 ≤ b) (hT : Tabs T) (hD : Dj T rest) : Does W 63 33 [.int a t, .int b u] (T ++ rest) (Divd (a.fdiv b) (a.fmod b) rest) := by
  k_with_none
  have C : ∀ t u, Does W 63 32 [.int (-a) t, .int (-b) u] (T ++ rest) (Divd ((-a) / (-b)) ((-a) % (-b)) rest) := fun t u =>
    if h : 0 ≤ -a then does_le (by omega) (divmod_nn (W := W) T rest (-a) (-b) t u h (by omega) (by omega) (by omega) hT hD) else divmod_neg (W := W) T rest (-a) (-b) t u (by omega) (by omega) (by omega) (by omega) hT hD
  have nd := neg_div (a := a) hb
  cell_end [(Str.ofString "a", .int a t), (Str.ofString "b", .int b u)] 0 0
  intro L hLo dp un gd outer A₀ base g s Q B F X N Tp hd hu hret
  k_with "mine call" => refine Halt.go ?_
  k_steps
  · exfalso; omega
  unfold Halt
  cell_end (C _ _) 2 2
  rintro r9 n9 h9 tk9 F9 N9 ⟨T', ⟨x, t1, t2, rfl, rfl, hx⟩, hT', hD'⟩
  dsimp only
  k_steps
  rename_i h1 h2 h3 D6 h7 F7 N7 l7
  rw [nd.1, nd.2] at N7
  exact hret _ ((D6, tupO [_, _]) :: (T' ++ rest)) _ _ _ F7 (perm_news N7 sub_but2) ⟨T', ⟨D6, _, _, rfl, rfl, allLt_lt l7.2⟩, hT', hD'⟩
theorem intdiv {W : Wd} (T rest : Led) (a b : Int) (t u : Tok) (ha : -10000 ≤ a) (ha2 : a ≤ 10000) (hb0 : b ≠ 0) (hb : -9 ≤ b) (hb2 : b ≤ 9) (hT : Tabs T) (hD : Dj T rest) : Does W 63 33 [.int a t, .int b u] (T ++ rest) (Divd (a.fdiv b) (a.fmod b) rest) := by
  by_cases h : b < 0
  · exact divmod_flip T rest a b t u ha ha2 (by omega) hb hT hD
  · rw [Int.fdiv_eq_ediv_of_nonneg _ (by omega), Int.fmod_eq_emod_of_nonneg _ (by omega)]
    by_cases h2 : 0 ≤ a
    · exact does_le (by omega) (divmod_nn T rest a b t u h2 ha2 (by omega) hb2 hT hD)
    · exact does_le (by omega) (divmod_neg T rest a b t u (by omega) ha (by omega) hb2 hT hD)
set_option maxHeartbeats 2000000 in
theorem refuses {W : Wd} (news : Led) (a : Int) (t : Tok) (dp un : Nat) (gd : Option (List Code)) (cn : Str) (cs : Scope) (b : Addr) (ccd : Value) (A₀ : Around) (base h₀ : Heap) (L : Addr) (m : Str → Option Value) (s : Shared) (Q E : Value → Shared → Prop)
    (B : Below A₀ base [] h₀) (F : Fr h₀ L s.heap m) (X : (KF W.w.params).In h₀) (XB : (KF W.w.params).In base) (N : News h₀ L s.heap news) (Tp : Top W.p W.loose W.mean W.mg W.mb h₀) (TB : Top W.p W.loose W.mean W.mg W.mb base) (hk : cs.kind = .function) (hd : dp + 4 < recursionLimit)
    (hret : ∀ h' tk', Fr h₀ L h' m → News h₀ L h' news → Q (.bool true) { s with heap := h', toks := tk' }) :
    wpAny (model PG W.w) (ktrTop dp un gd cn cs L b ccd [] []) (call (.ref 230) [.int a t]) Q E s := by
  k_with_none
  refine wpAny_call ?_
  refine' code_defS0 B F X N Tp rfl ?k6 ?k7 ?k8 ?k9 ?kB ?_ hk ?c2 ?c3 ?c4 ?c5
  case k6 => k_is
  case k7 => k_is
  case k8 => (dsimp only [ktrTop]; omega)
  case k9 => exact BindsTo.of_eq rfl
  case kB => exact locs rfl
  case c2 => exact rfl
  case c3 => exact rfl
  case c4 => exact rfl
  case c5 => decide
  intro g' L' h' FG' F' N' B' X' T' D'
  dsimp only
  k_with "exec Raise some none" => refine Halt.go ?_
  k_steps
  unfold Halt
  refine Raise_classB rfl PyProof.Rows.excClass_ZeroDivisionError (by rw [isSubtype_type]; kernel_rfl) ?_ ?_
  · walk_at "eval Name"
    exact ⟨rfl, rfl⟩
  intro h9 e9 x9
  k_steps
  exact hret _ _ (by k_asm) (by k_asm)
/-- the path of the signs -/
noncomputable def wy (ds : List Nat) : Str := ⟨(ds.flatMap fun d => [47, d]).toArray⟩
theorem sl_cps : (Str.ofString "/") = ⟨#[47]⟩ := by decide +kernel
theorem rfind3 {a b c : Nat} (ha : a ≠ 47) (hb : b ≠ 47) (hc : c ≠ 47) : Txt.rfind (wy [a, b, c]) (Str.ofString "/") = 4 := by
  rw [sl_cps]
  simp [Txt.rfind, wy, StrLaws.last_eq, StrLaws.lastBody, StrLaws.subAt_eq, Str.length, List.range', ha, hb, hc]
theorem rfind2 {a b : Nat} (ha : a ≠ 47) (hb : b ≠ 47) : Txt.rfind (wy [a, b]) (Str.ofString "/") = 2 := by
  rw [sl_cps]
  simp [Txt.rfind, wy, StrLaws.last_eq, StrLaws.lastBody, StrLaws.subAt_eq, Str.length, List.range', ha, hb]
theorem rfind1 {a : Nat} (ha : a ≠ 47) : Txt.rfind (wy [a]) (Str.ofString "/") = 0 := by
  rw [sl_cps]
  simp [Txt.rfind, wy, StrLaws.last_eq, StrLaws.lastBody, StrLaws.subAt_eq, Str.length, List.range', ha]
noncomputable def splitH (x : Str) : Str := Txt.slice x none (some (Txt.rfind x (Str.ofString "/") + 1))
noncomputable def splitC (x : Str) : Str := Txt.slice x (some (Txt.rfind x (Str.ofString "/") + 1)) none
/-- head and tail of a path: what split gives -/
noncomputable def splitP (x : Str) : Str := if splitH x != Txt.mul (Str.ofString "/") (splitH x).length then Txt.rstripChars (splitH x) (Str.ofString "/") else splitH x
theorem splitH3 {a b c : Nat} (ha : a ≠ 47) (hb : b ≠ 47) (hc : c ≠ 47) : splitH (wy [a, b, c]) = ⟨#[47, a, 47, b, 47]⟩ ∧ splitC (wy [a, b, c]) = ⟨#[c]⟩ := by
  have e : Builtin.Str.strSliceIndices none (some 5) 1 6 = [0, 1, 2, 3, 4] := by decide +kernel
  have e2 : Builtin.Str.strSliceIndices (some 5) none 1 6 = [5] := by decide +kernel
  unfold splitH splitC
  rw [rfind3 ha hb hc]
  simp [Txt.slice, wy, Str.length, e, e2]
theorem splitH2 {a b : Nat} (ha : a ≠ 47) (hb : b ≠ 47) : splitH (wy [a, b]) = ⟨#[47, a, 47]⟩ ∧ splitC (wy [a, b]) = ⟨#[b]⟩ := by
  have e : Builtin.Str.strSliceIndices none (some 3) 1 4 = [0, 1, 2] := by decide +kernel
  have e2 : Builtin.Str.strSliceIndices (some 3) none 1 4 = [3] := by decide +kernel
  unfold splitH splitC
  rw [rfind2 ha hb]
  simp [Txt.slice, wy, Str.length, e, e2]
theorem splitH1 {a : Nat} (ha : a ≠ 47) : splitH (wy [a]) = ⟨#[47]⟩ ∧ splitC (wy [a]) = ⟨#[a]⟩ := by
  have e : Builtin.Str.strSliceIndices none (some 1) 1 2 = [0] := by decide +kernel
  have e2 : Builtin.Str.strSliceIndices (some 1) none 1 2 = [1] := by decide +kernel
  unfold splitH splitC
  rw [rfind1 ha]
  simp [Txt.slice, wy, Str.length, e, e2]
theorem mul5 : Txt.mul ⟨#[47]⟩ 5 = ⟨#[47, 47, 47, 47, 47]⟩ := by decide +kernel
theorem mul3 : Txt.mul ⟨#[47]⟩ 3 = ⟨#[47, 47, 47]⟩ := by decide +kernel
theorem mul1 : Txt.mul ⟨#[47]⟩ 1 = ⟨#[47]⟩ := by decide +kernel
theorem rst3 {a b : Nat} (hb : b ≠ 47) : Txt.rstripChars ⟨#[47, a, 47, b, 47]⟩ ⟨#[47]⟩ = wy [a, b] := by
  simp [Str.length, Txt.rstripChars, Txt.stripBy, PySem.stripped, stripSame, stripHi, stripLo, List.takeWhile_cons, hb, Builtin.Str.strSub, wy]
theorem rst2 {a : Nat} (ha : a ≠ 47) : Txt.rstripChars ⟨#[47, a, 47]⟩ ⟨#[47]⟩ = wy [a] := by
  simp [Str.length, Txt.rstripChars, Txt.stripBy, PySem.stripped, stripSame, stripHi, stripLo, List.takeWhile_cons, ha, Builtin.Str.strSub, wy]
theorem splitP3 {a b c : Nat} (ha : a ≠ 47) (hb : b ≠ 47) (hc : c ≠ 47) : splitP (wy [a, b, c]) = wy [a, b] := by
  unfold splitP
  rw [(splitH3 ha hb hc).1, sl_cps]
  have e : ((⟨#[47, a, 47, b, 47]⟩ : Str) != Txt.mul ⟨#[47]⟩ ((⟨#[47, a, 47, b, 47]⟩ : Str).length : Nat)) = true := by
    rw [show ((⟨#[47, a, 47, b, 47]⟩ : Str).length : Nat) = 5 from rfl, show ((5 : Nat) : Int) = 5 from rfl, mul5]; simp [ha]
  rw [if_pos e, rst3 hb]
theorem splitP2 {a b : Nat} (ha : a ≠ 47) (hb : b ≠ 47) : splitP (wy [a, b]) = wy [a] := by
  unfold splitP
  rw [(splitH2 ha hb).1, sl_cps]
  have e : ((⟨#[47, a, 47]⟩ : Str) != Txt.mul ⟨#[47]⟩ ((⟨#[47, a, 47]⟩ : Str).length : Nat)) = true := by
    rw [show ((⟨#[47, a, 47]⟩ : Str).length : Nat) = 3 from rfl, show ((3 : Nat) : Int) = 3 from rfl, mul3]; simp [ha]
  rw [if_pos e, rst2 ha]
theorem splitP1 {a : Nat} (ha : a ≠ 47) : splitP (wy [a]) = ⟨#[47]⟩ := by
  unfold splitP
  rw [(splitH1 ha).1, sl_cps]
  have e : ((⟨#[47]⟩ : Str) != Txt.mul ⟨#[47]⟩ ((⟨#[47]⟩ : Str).length : Nat)) = false := by
    rw [show ((⟨#[47]⟩ : Str).length : Nat) = 1 from rfl, show ((1 : Nat) : Int) = 1 from rfl, mul1]; rfl
  rw [if_neg (by rw [e]; decide)]
theorem tail_pos (x : Str) (h : (splitH x).length ≠ 0) : 0 < (splitH x).length := by omega
/-- the parts of a path -/
theorem parts3 {a b c : Nat} (ha : a ≠ 47) (hb : b ≠ 47) (hc : c ≠ 47) (h1 : a < 128) (h2 : b < 128) (h3 : c < 128) : Txt.split (wy [a, b, c]) (Str.ofString "/") = [⟨#[]⟩, ⟨#[a]⟩, ⟨#[b]⟩, ⟨#[c]⟩] := by
  rw [sl_cps]
  have q1 : a < 256 := by omega
  have q2 : b < 256 := by omega
  have q3 : c < 256 := by omega
  simp [Txt.split, wy, Str.length, Builtin.Str.strKind, Builtin.Str.occurrences, StrLaws.subAt_eq, Builtin.Str.partsBetween, Builtin.Str.strSub, List.range', ha, hb, hc, q1, q2, q3]
/-- the sign of a rest -/
noncomputable def sg (r : Int) : Nat := (73 + r).toNat
theorem ends1 {a : Nat} (ha : a ≠ 47) : Txt.endswith (wy [a]) (Str.ofString "/") = false := by
  rw [sl_cps]; simp [Txt.endswith, wy, StrLaws.subAt_eq, Str.length, ha]
theorem ends2 {a b : Nat} (hb : b ≠ 47) : Txt.endswith (wy [a, b]) (Str.ofString "/") = false := by
  rw [sl_cps]; simp [Txt.endswith, wy, StrLaws.subAt_eq, Str.length, hb]
theorem ends0 : Txt.endswith (Str.ofString "/") (Str.ofString "/") = true := by decide +kernel
theorem starts1 {a : Nat} (ha : a ≠ 47) : Txt.startswith ⟨#[a]⟩ (Str.ofString "/") = false := by
  rw [sl_cps]; simp [Txt.startswith, StrLaws.subAt_eq, Str.length, ha]
theorem starts3 {a b c : Nat} : Txt.startswith (wy [a, b, c]) (Str.ofString "/") = true := by
  rw [sl_cps]; simp [Txt.startswith, wy, StrLaws.subAt_eq, Str.length]
theorem glue0 {a : Nat} : Str.ofString "/" ++ (⟨#[a]⟩ : Str) = wy [a] := by rw [sl_cps]; rfl
theorem glue1 {a b : Nat} : wy [a] ++ (Str.ofString "/" ++ (⟨#[b]⟩ : Str)) = wy [a, b] := by rw [sl_cps]; rfl
theorem glue2 {a b c : Nat} : wy [a, b] ++ (Str.ofString "/" ++ (⟨#[c]⟩ : Str)) = wy [a, b, c] := by rw [sl_cps]; rfl
theorem splitP_yes {x : Str} (h : (splitH x != Txt.mul (Str.ofString "/") (splitH x).length) = true) : splitP x = Txt.rstripChars (splitH x) (Str.ofString "/") := if_pos h
theorem splitP_no {x : Str} (h : (splitH x != Txt.mul (Str.ofString "/") (splitH x).length) = false) : splitP x = splitH x := if_neg (by rw [h]; decide)
theorem splitP_nil {x : Str} (h : ((splitH x).length : Int) = 0) : splitP x = splitH x := by
  by_cases e : (splitH x != Txt.mul (Str.ofString "/") (splitH x).length) = true
  · exfalso
    have h0 : (splitH x).length = 0 := by omega
    have h1 : ∀ y : Str, y.length = 0 → y = ⟨#[]⟩ := fun ⟨c⟩ h => congrArg Str.mk (Array.eq_empty_of_size_eq_zero h)
    rw [h1 _ h0] at e
    exact absurd e (by decide +kernel)
  · exact if_neg e
set_option maxHeartbeats 2000000 in
theorem split_ {W : Wd} (news : Led) (x : Str) (t : Tok) (hx : x.length ≤ 1000) : Does W 192 3 [.str x t] news (fun r n' => ∃ a t1 t2, r = .ref a ∧ n' = (a, tupO [.str (splitP x) t1, .str (splitC x) t2]) :: news ∧ ∀ p ∈ news, p.1 < a) := by
  k_with_none
  cell_end [(Str.ofString "p", .str x t)] 0 0
  intro L hLo dp un gd outer A₀ base g s Q B F X N Tp hd hu hret
  k_with "call ref" => (cell_end (fspath _ _ _) 2 2; rintro r9 n9 h9 tk9 F9 N9 ⟨rfl, rfl⟩; (try dsimp only); (try k_fold))
  k_with "call ref" => (cell_end (get_sep _ _ _) 2 2; rintro r9 n9 h9 tk9 F9 N9 ⟨rfl, t9, rfl⟩; (try dsimp only); (try k_fold))
  k_steps
  · rename_i hc _ _ _ _ _ D h F N l
    have e := splitP_yes (x := x) (by assumption)
    rw [show Txt.rstripChars (Txt.slice x none (some (Txt.rfind x (Str.ofString "/") + 1))) (Str.ofString "/") = splitP x from e.symm] at N
    exact hret _ _ _ _ _ F (perm_news N sub_but2) ⟨_, _, _, rfl, rfl, allLt_lt l.2⟩
  · rename_i hc D h F N l
    have e := splitP_no (x := x) hc
    rw [show Txt.slice x none (some (Txt.rfind x (Str.ofString "/") + 1)) = splitP x from e.symm] at N
    exact hret _ _ _ _ _ F (perm_news N sub_but2) ⟨_, _, _, rfl, rfl, allLt_lt l.2⟩
  · rename_i hc D h F N l
    have e := splitP_nil (x := x) (by assumption)
    rw [show Txt.slice x none (some (Txt.rfind x (Str.ofString "/") + 1)) = splitP x from e.symm] at N
    exact hret _ _ _ _ _ F (perm_news N sub_but2) ⟨_, _, _, rfl, rfl, allLt_lt l.2⟩
theorem fdiv_bound {a b : Int} (h1 : -10000 ≤ a) (h2 : a ≤ 10000) (hb : b ≠ 0) : -10000 ≤ a.fdiv b ∧ a.fdiv b ≤ 10000 := by
  have key : ∀ (a b : Int), -10000 ≤ a → a ≤ 10000 → 1 ≤ b → -10000 ≤ a / b ∧ a / b ≤ 10000 := by
    intro a b h1 h2 h
    have e1 : a / b ≤ 10000 := by
      by_cases h0 : 0 ≤ a
      · exact Int.le_trans (Int.ediv_le_self _ h0) h2
      · have := Int.ediv_neg_of_neg_of_pos (show a < 0 by omega) (show 0 < b by omega); omega
    refine ⟨?_, e1⟩
    have := Int.emod_add_mul_ediv a b
    have e3 := Int.emod_lt_of_pos a (show 0 < b by omega)
    by_cases h0 : a / b < -10000
    · exfalso
      have h4 : b * (a / b) ≤ b * (-10001) := Int.mul_le_mul_of_nonneg_left (by omega) (by omega)
      omega
    · omega
  by_cases h : b < 0
  · rw [← Int.neg_fdiv_neg, Int.fdiv_eq_ediv_of_nonneg _ (by omega)]
    exact key (-a) (-b) (by omega) (by omega) (by omega)
  · rw [Int.fdiv_eq_ediv_of_nonneg _ (by omega)]
    exact key a b h1 h2 (by omega)
theorem fmod_bound {a b : Int} (hb : b ≠ 0) (hb1 : -9 ≤ b) (hb2 : b ≤ 9) : -8 ≤ a.fmod b ∧ a.fmod b ≤ 8 := by
  by_cases h : b < 0
  · have := Int.fmod_def a b
    rw [← Int.neg_fdiv_neg, Int.fdiv_eq_ediv_of_nonneg _ (by omega)] at this
    have e := Int.emod_add_mul_ediv (-a) (-b)
    have e3 := Int.emod_lt_of_pos (-a) (show 0 < -b by omega)
    have e4 := Int.emod_nonneg (-a) (show -b ≠ 0 by omega)
    rw [Int.neg_mul] at e
    omega
  · rw [Int.fmod_eq_emod_of_nonneg _ (by omega)]
    have e3 := Int.emod_lt_of_pos a (show 0 < b by omega)
    have e4 := Int.emod_nonneg a hb
    omega
/-- the number ahead of turn i, and the sign of that turn -/
noncomputable def nAt (n b : Int) : Nat → Int
  | 0 => n
  | i + 1 => (nAt n b i).fdiv b
noncomputable def dAt (n b : Int) (i : Nat) : Int := (nAt n b i).fmod b
theorem nAt_bound {n b : Int} (h1 : -10000 ≤ n) (h2 : n ≤ 10000) (hb : b ≠ 0) : ∀ i, -10000 ≤ nAt n b i ∧ nAt n b i ≤ 10000
  | 0 => ⟨h1, h2⟩
  | i + 1 => fdiv_bound (nAt_bound h1 h2 hb i).1 (nAt_bound h1 h2 hb i).2 hb
noncomputable def wayAt (n b : Int) : Nat → Str
  | 0 => Str.ofString "/"
  | i + 1 => wy ((List.range (i + 1)).map fun j => sg (dAt n b j))
theorem sg_ne {r : Int} (h : -8 ≤ r ∧ r ≤ 8) : sg r ≠ 47 := by unfold sg; omega
theorem wayAt_step {n b : Int} (hb : b ≠ 0) (hb1 : -9 ≤ b) (hb2 : b ≤ 9) {i : Nat} (hi : i < 3) : 0 < (wayAt n b i).length ∧ (wayAt n b i).length ≤ 1000 ∧
    (if Txt.endswith (wayAt n b i) (Str.ofString "/") then wayAt n b i ++ ⟨#[sg (dAt n b i)]⟩ else wayAt n b i ++ (Str.ofString "/" ++ ⟨#[sg (dAt n b i)]⟩)) = wayAt n b (i + 1) := by
  have h : ∀ i, sg (dAt n b i) ≠ 47 := fun i => sg_ne (fmod_bound (a := nAt n b i) hb hb1 hb2)
  match i, hi with
  | 0, _ => exact ⟨show 0 < (Str.ofString "/").length by decide +kernel, show (Str.ofString "/").length ≤ 1000 by decide +kernel, by rw [show wayAt n b 0 = Str.ofString "/" from rfl, ends0, if_pos rfl, glue0]; rfl⟩
  | 1, _ => exact ⟨show 0 < 2 by decide, show 2 ≤ 1000 by decide, by rw [show wayAt n b 1 = wy [sg (dAt n b 0)] from rfl, ends1 (h 0), if_neg (by decide), glue1]; rfl⟩
  | 2, _ => exact ⟨show 0 < 4 by decide, show 4 ≤ 1000 by decide, by rw [show wayAt n b 2 = wy [sg (dAt n b 0), sg (dAt n b 1)] from rfl, ends2 (h 1), if_neg (by decide), glue2]; rfl⟩
/-- ahead of turn i of the loop of _law_way -/
structure LwJ (n b : Int) (tb : Tok) (rest : Led) (i : Nat) (m : Str → Option Value) (news : Led) : Prop where
  mn : ∃ t, m (Str.ofString "number") = some (.int (nAt n b i) t)
  mb : m (Str.ofString "base") = some (.int b tb)
  mw : ∃ t, m (Str.ofString "way") = some (.str (wayAt n b i) t)
  ex : ∃ T, news = T ++ rest ∧ Tabs T ∧ Dj T rest
set_option maxHeartbeats 4000000 in
theorem law_way {W : Wd} (T rest : Led) (n b : Int) (t u : Tok) (ha : -10000 ≤ n) (ha2 : n ≤ 10000) (hb0 : b ≠ 0) (hb : -9 ≤ b) (hb2 : b ≤ 9) (hT : Tabs T) (hD : Dj T rest) :
    Does W 209 40 [.int n t, .int b u] (T ++ rest) (fun v n' => ∃ T' x t1 t2, v = .ref x ∧ n' = (x, tupO [.str (wayAt n b 3) t1, .int (nAt n b 3) t2]) :: (T' ++ rest) ∧ Tabs T' ∧ Dj T' rest ∧ ∀ p ∈ T' ++ rest, p.1 < x) := by
  k_with_none
  cell_end [(Str.ofString "number", .int n t), (Str.ofString "base", .int b u)] 0 0
  intro L hLo dp un gd outer A₀ base g s Q B F X N Tp hd hu hret
  k_with "exec For" => (refine For_invVF (by k_asm) rfl rfl ?_)
  k_with "exec For Name Call cons nil" => (refine For_invVF (by k_asm) rfl rfl ?_)
  k_with "pyIter ref" => refine Halt.go ?_
  k_with "mine call" => refine Halt.go ?_
  k_steps
  unfold Halt
  rename_i hr F2 N2 _
  refine it_range (n := 3) (LwJ n b u rest) rfl hr rfl (by decide) F2 N2 ⟨⟨_, rfl⟩, rfl, ⟨_, rfl⟩, T, rfl, hT, hD⟩ ?_ ?_
  · rintro i ti m₁ n₁ h tk own I hi ⟨⟨tn, mn⟩, mb, ⟨tw, mw⟩, T1, rfl, hT1, hD1⟩ hI ho ⟨oI, hO⟩ F₁ N₁
    rw [see mn, see mb, see mw] at F₁
    have hI1 : ∀ p ∈ T1, p.1 ≠ I := fun p hp => hI p (List.mem_append_left _ hp)
    have hI2 : ∀ p ∈ rest, p.1 ≠ I := fun p hp => hI p (List.mem_append_right _ hp)
    have bd := nAt_bound (n := n) (b := b) ha ha2 hb0 i
    have rb := fmod_bound (a := nAt n b i) hb0 hb hb2
    have hd1 : Dj T1 (own ++ rest) := fun p hp q hq => (List.mem_append.mp hq).elim (fun h e => hI1 p hp (e.trans (ho q h))) (hD1 p hp q)
    have C := fun t u => intdiv (W := W) T1 (own ++ rest) (nAt n b i) b t u bd.1 bd.2 hb0 hb hb2 hT1 hd1
    have N3 : News g L h (T1 ++ (own ++ rest)) := perm_news N₁ fun p hp => (List.mem_append.mp hp).elim (fun h => List.mem_append_right _ (List.mem_append_left _ h)) fun hp => (List.mem_append.mp hp).elim (List.mem_append_left _) fun h => List.mem_append_right _ (List.mem_append_right _ h)
    clear N₁
    k_steps
    unfold Halt
    cell_end (C _ _) 2 2
    rintro r9 n9 h9 tk9 F9 N9 ⟨T2, ⟨x, t1, t2, rfl, rfl, hx⟩, hT2, hD2⟩
    clear C
    dsimp only
    k_steps
    unfold Halt
    have st := wayAt_step (n := n) (b := b) hb0 hb hb2 hi
    have C2 := fun news t1 t2 => join2 (W := W) news (wayAt n b i) ⟨#[sg (dAt n b i)]⟩ t1 t2 (starts1 (sg_ne (fmod_bound (a := nAt n b i) hb0 hb hb2))) st.1 st.2.1 (show 1 ≤ 1000 by decide)
    rw [st.2.2] at C2
    cell_end (C2 _ _ _) 2 2
    rintro r8 n8 h8 tk8 F8 N8 ⟨rfl, t8, rfl⟩
    clear C2
    dsimp only
    k_steps
    have hsub : ∀ p ∈ own ++ (T2 ++ rest), p ∈ T2 ++ (own ++ rest) := fun p hp => (List.mem_append.mp hp).elim (fun h => List.mem_append_right _ (List.mem_append_left _ h)) fun hp => (List.mem_append.mp hp).elim (List.mem_append_left _) fun h => List.mem_append_right _ (List.mem_append_right _ h)
    refine ⟨_, _, _, T2 ++ rest, rfl, by k_asm, perm_news (by k_asm) (fun p hp => List.mem_cons_of_mem _ (hsub p hp)), off_app (fun p hp => hD2 p hp _ (List.mem_append_left _ hO)) hI2, ⟨⟨_, rfl⟩, rfl, ⟨_, rfl⟩, T2, rfl, hT2, hD2.inr⟩⟩
  · rintro h' tk m' n' F' N' ⟨⟨tn, mn⟩, mb, ⟨tw, mw⟩, T1, rfl, hT1, hD1⟩
    rw [see mn, see mw] at F'
    dsimp only
    k_steps
    rename_i D _ F N l
    exact hret _ _ _ _ _ F N ⟨T1, D, _, _, rfl, rfl, hT1, hD1, l⟩
noncomputable def plainAt (n b : Int) : Nat → Str
  | 0 => Str.ofString ""
  | i + 1 => wayAt n b (i + 1)
theorem plainAt_step {n b : Int} {i : Nat} (hi : i < 3) : (plainAt n b i).length ≤ 1000 ∧ plainAt n b i ++ Str.ofString "/" ++ ⟨#[sg (dAt n b i)]⟩ = plainAt n b (i + 1) := by
  rw [sl_cps]
  match i, hi with
  | 0, _ => exact ⟨show (Str.ofString "").length ≤ 1000 by decide +kernel, by rw [show plainAt n b 0 = ⟨#[]⟩ from (by decide +kernel : Str.ofString "" = ⟨#[]⟩)]; rfl⟩
  | 1, _ => exact ⟨show 2 ≤ 1000 by decide, rfl⟩
  | 2, _ => exact ⟨show 4 ≤ 1000 by decide, rfl⟩
theorem plain_next {a b : Int} (hb : b ≠ 0) : (a - a.fmod b).fdiv b = a.fdiv b := by
  have := Int.fmod_def a b
  rw [show a - a.fmod b = b * a.fdiv b by omega, Int.mul_fdiv_cancel_left _ hb]
/-- ahead of turn i of the loop of _law_plain -/
structure LpJ (n b : Int) (tb : Tok) (rest : Led) (i : Nat) (m : Str → Option Value) (news : Led) : Prop where
  mn : ∃ t, m (Str.ofString "number") = some (.int (nAt n b i) t)
  mb : m (Str.ofString "base") = some (.int b tb)
  mw : ∃ t, m (Str.ofString "way") = some (.str (plainAt n b i) t)
  ex : news = rest
set_option maxHeartbeats 4000000 in
theorem law_plain {W : Wd} (rest : Led) (n b : Int) (t u : Tok) (ha : -10000 ≤ n) (ha2 : n ≤ 10000) (hb0 : b ≠ 0) (hb : -9 ≤ b) (hb2 : b ≤ 9) :
    Does W 216 4 [.int n t, .int b u] rest (fun v n' => n' = rest ∧ ∃ t1, v = .str (wayAt n b 3) t1) := by
  k_with_none
  cell_end [(Str.ofString "number", .int n t), (Str.ofString "base", .int b u)] 0 0
  intro L hLo dp un gd outer A₀ base g s Q B F X N Tp hd hu hret
  k_with "exec For Name Call cons nil" => (refine For_invVF (by k_asm) rfl rfl ?_)
  k_with "pyIter ref" => refine Halt.go ?_
  k_steps
  unfold Halt
  rename_i hr F2 N2 _
  refine it_range (n := 3) (LpJ n b u rest) rfl hr rfl (by decide) F2 N2 ⟨⟨_, rfl⟩, rfl, ⟨_, rfl⟩, rfl⟩ ?_ ?_
  · rintro i ti m₁ n₁ h tk own I hi ⟨⟨tn, mn⟩, mb, ⟨tw, mw⟩, rfl⟩ hI ho hO F₁ N₁
    rw [see mn, see mb, see mw] at F₁
    have bd := nAt_bound (n := n) (b := b) ha ha2 hb0 i
    have rb := fmod_bound (a := nAt n b i) hb0 hb hb2
    have st := plainAt_step (n := n) (b := b) hi
    have pn := plain_next (a := nAt n b i) hb0
    have hl := st.1
    have b1 := bd.1
    have b2 := bd.2
    have b3 := rb.1
    have b4 := rb.2
    k_steps
    exact ⟨_, _, _, n₁, rfl, by k_asm, by k_asm, hI, ⟨⟨_, congrArg (fun z => some (Value.int z _)) pn⟩, rfl, ⟨_, congrArg (fun z => some (Value.str z _)) st.2⟩, rfl⟩⟩
  · rintro h' tk m' n' F' N' ⟨⟨tn, mn⟩, mb, ⟨tw, mw⟩, rfl⟩
    rw [see mn, see mw] at F'
    dsimp only
    k_steps
    exact hret _ _ _ _ _ F' N' ⟨rfl, _, rfl⟩
theorem wayAt_ne {n b : Int} (hb : b ≠ 0) {i : Nat} : (wayAt n b (i + 1) != Str.ofString "/") = true := by
  rw [sl_cps]
  have : wayAt n b (i + 1) ≠ ⟨#[47]⟩ := fun e => by
    have := congrArg (fun x => x.cps.size) e
    simp [wayAt, wy, List.range_succ_eq_map] at this
  simpa using this
theorem wayAt_split {n b : Int} (hb : b ≠ 0) (hb1 : -9 ≤ b) (hb2 : b ≤ 9) {i : Nat} (hi : i < 3) : splitP (wayAt n b (i + 1)) = wayAt n b i ∧ splitC (wayAt n b (i + 1)) = ⟨#[sg (dAt n b i)]⟩ ∧ (wayAt n b (i + 1)).length ≤ 1000 := by
  have h : ∀ i, sg (dAt n b i) ≠ 47 := fun i => sg_ne (fmod_bound (a := nAt n b i) hb hb1 hb2)
  match i, hi with
  | 0, _ => exact ⟨(splitP1 (h 0)).trans sl_cps.symm, (splitH1 (h 0)).2, show 2 ≤ 1000 by decide⟩
  | 1, _ => exact ⟨splitP2 (h 0) (h 1), (splitH2 (h 0) (h 1)).2, show 4 ≤ 1000 by decide⟩
  | 2, _ => exact ⟨splitP3 (h 0) (h 1) (h 2), (splitH3 (h 0) (h 1) (h 2)).2, show 6 ≤ 1000 by decide⟩
theorem read_step {n b : Int} (hb : b ≠ 0) (hb1 : -9 ≤ b) (hb2 : b ≤ 9) (i : Nat) : nAt n b (i + 1) * b + (sg (dAt n b i) : Nat) - 73 = nAt n b i := by
  have h := fmod_bound (a := nAt n b i) hb hb1 hb2
  have e := Int.fmod_def (nAt n b i) b
  have s : ((sg (dAt n b i) : Nat) : Int) = 73 + dAt n b i := by unfold sg; have : dAt n b i = (nAt n b i).fmod b := rfl; omega
  rw [s, show nAt n b (i + 1) = (nAt n b i).fdiv b from rfl, show dAt n b i = (nAt n b i).fmod b from rfl, Int.mul_comm]
  omega
structure LrJ (n b : Int) (tb : Tok) (rest : Led) (i : Nat) (m : Str → Option Value) (news : Led) : Prop where
  mn : ∃ t, m (Str.ofString "number") = some (.int (nAt n b i) t)
  mb : m (Str.ofString "base") = some (.int b tb)
  mw : ∃ t, m (Str.ofString "way") = some (.str (wayAt n b i) t)
  hi : i ≤ 3
  ex : news = rest
set_option maxHeartbeats 4000000 in
theorem law_read {W : Wd} (rest : Led) (n b : Int) (t u v : Tok) (ha : -10000 ≤ n) (ha2 : n ≤ 10000) (hb0 : b ≠ 0) (hb : -9 ≤ b) (hb2 : b ≤ 9) :
    Does W 223 8 [.str (wayAt n b 3) t, .int b u, .int (nAt n b 3) v] rest (fun v n' => n' = rest ∧ ∃ t1, v = .int n t1) := by
  k_with_none
  cell_end [(Str.ofString "way", .str (wayAt n b 3) t), (Str.ofString "base", .int b u), (Str.ofString "number", .int (nAt n b 3) v)] 0 0
  intro L hLo dp un gd outer A₀ base g s Q B F X N Tp hd hu hret
  k_with "exec While Compare cons nil" => refine Halt.go ?_
  k_with "mine call" => refine Halt.go ?_
  k_steps
  unfold Halt
  refine While_inv2 (LrJ n b u rest) (n₀ := 3) F N ⟨⟨_, rfl⟩, rfl, ⟨_, rfl⟩, Nat.le_refl _, rfl⟩ ?_
  rintro i m₁ n₁ h tk F₁ N₁ ⟨⟨tn, mn⟩, mb, ⟨tw, mw⟩, hi, rfl⟩
  rw [see mn, see mb, see mw] at F₁
  cases i with
  | zero =>
    rw [show wayAt n b 0 = Str.ofString "/" from rfl] at F₁
    k_steps
    exact hret _ _ _ _ _ F₁ N₁ ⟨rfl, _, rfl⟩
  | succ i =>
    have bd := nAt_bound (n := n) (b := b) ha ha2 hb0 (i + 1)
    have hs := wayAt_split (n := n) (b := b) hb0 hb hb2 (i := i) (by omega)
    have hr := read_step (n := n) (b := b) hb0 hb hb2 i
    have hne := wayAt_ne (n := n) (b := b) hb0 (i := i)
    have b1 := bd.1
    have b2 := bd.2
    k_steps
    unfold Halt
    cell_end (split_ _ _ _ hs.2.2) 2 2
    rintro r9 n9 h9 tk9 F9 N9 ⟨a, t1, t2, rfl, rfl, hlt⟩
    rw [hs.1, hs.2.1] at N9
    dsimp only
    k_steps
    exact ⟨_, _, _, n₁, i, rfl, by k_asm, (News.off (by k_asm)), Nat.lt_succ_self i, ⟨⟨_, congrArg (fun z => some (Value.int z _)) hr⟩, rfl, ⟨_, rfl⟩, by omega, rfl⟩⟩
/-- Does, where the caller's ground bears C -/
noncomputable def DoesC (C : Heap → Prop) (W : Wd) (f : Addr) (D : Nat) (vs : List Value) (news : Led) (P : Value → Led → Prop) : Prop :=
  ∀ (dp un : Nat) (gd : Option (List Code)) (cn : Str) (cs : Scope) (a : Addr) (ccd : Value) (cl : List (Str × Addr)) (outer : List Env) (A₀ : Around) (base h₀ : Heap) (L : Addr) (m : Str → Option Value) (s : Shared) (Q E : Value → Shared → Prop), C h₀ →
    Below A₀ base outer h₀ → Fr h₀ L s.heap m → (KF W.w.params).In h₀ → News h₀ L s.heap news → Top W.p W.loose W.mean W.mg W.mb h₀ → cs.kind = .function → dp + D < recursionLimit → un + 8 * D < cLine →
    (∀ r news' h' tk', Fr h₀ L h' m → News h₀ L h' news' → P r news' → Q r { s with heap := h', toks := tk' }) →
    wpAny (model PG W.w) (ktrTop dp un gd cn cs L a ccd cl outer) (call (.ref f) vs) Q E s
noncomputable def RunsC (C : Heap → Prop) (W : Wd) (qual : Str) (scope : Scope) (f : Addr) (cdv : Value) (cl : List (Str × Addr)) (body : List Stmt) (env : Env) (D : Nat) (m : Str → Option Value) (L : Addr) (news : Led) (P : Value → Led → Prop) : Prop :=
  ∀ (dp un : Nat) (gd : Option (List Code)) (outer : List Env) (A₀ : Around) (base g : Heap) (s : Shared) (Q : Flow → Shared → Prop), C g →
    Below A₀ base outer g → Fr g L s.heap m → (KF W.w.params).In g → News g L s.heap news → Top W.p W.loose W.mean W.mg W.mb g → dp + D < recursionLimit → un + 8 * D < cLine →
    (∀ (fl : Flow) (news' : Led) (m' : Str → Option Value) (h' : Heap) (tk' : Nat), Fr g L h' m' → News g L h' news' → P (retOf fl) news' → Q fl { s with heap := h', toks := tk' }) →
    wpAny (model PG W.w) (ktrTop dp un gd qual scope L f cdv cl outer) (execs body env) Q (fun _ _ => False) s
theorem does_plainC {C : Heap → Prop} (hC : ∀ g h : Heap, g.StaysIn h → C g → C h) {W : Wd} {f : Addr} {D : Nat} {vs : List Value} {news : Led} {P : Value → Led → Prop} {name qual : Str} {params : Arguments} {body : List Stmt} {scope : Scope} {dV kV doc pm cdv ct oc : Value} {an od : Option Addr} {osl : Array (Option Value)}
    (binds : List (Str × Value)) (ho : (KF W.w.params).lookup f = some ⟨oc, od, .func (fnOf name qual params body scope dV kV doc pm an cdv ct), osl⟩) (hcd : codeIn (KF W.w.params) cdv qual = true)
    (hbind : bindArgs (fnOf name qual params body scope dV kV doc pm an cdv ct) ⟨vs, []⟩ = pure binds) (hloc : ∀ y ∈ binds, scope.names.lookup y.1 = some .local)
    (hco : scope.isCoroutine = false) (hgen : scope.isGenerator = false) (hk : scope.kind = .function) (hcell : ∀ x ∈ scope.names, x.2 ≠ .cell)
    (h : ∀ L, Lo L news → RunsC C W qual scope f cdv [] body (envOf qual scope L f cdv) D (fun y => binds.reverse.lookup y) L news P) : DoesC C W f (D + 1) vs news P := by
  intro dp un gd cn cs a ccd cl outer A₀ base h₀ L m s Q E hc B F X N T hke hd hu hret
  refine wpAny_call (callX_plain (cl := []) B F N T.nolimit rfl rfl hke ((X.keeps F.keep) _ _ ho) rfl (codeRec_of (X.keeps F.keep) hcd) (by dsimp only [ktrTop]; omega) (BindsTo.of_eq hbind) hloc (fun g L' h₁ FG F' N' B' st lt => ?_) hcell hco hgen hk)
  exact wpAny_mono (h L' lt (dp + 1) (un + 3) gd _ _ base g _ _ (hC _ _ st hc) B' F' (X.keeps st) N' (T.keeps st) (by omega) (by omega) fun fl news' m' h' tk' F2 N2 hP => leaveK_ F2 N2 fun k1 k2 => hret _ _ _ _ k1 k2 hP) (fun _ _ y => y) fun _ _ y => y.elim
theorem ints_drop {vs : List Value} {is : List Int} (h : IntsAre vs is) : ∀ k, IntsAre (vs.drop k) (is.drop k) := fun k => by
  induction h generalizing k with
  | nil => simp; exact .nil
  | cons n t h ih => cases k with
    | zero => exact .cons n t h
    | succ k => exact ih k
/-- the numbers that the law draws -/
noncomputable def drawn (ns : List Int) : List Int := ((ns.drop 1).take 5).map (fun x => Int.fmod (x + 10000) 20001 - 10000) ++ [26, -1, 5]
noncomputable def drawnBase : List Int → Int
  | [] => -3
  | a :: _ => if 0 ≤ Int.fmod (a + 10) 18 - 9 then Int.fmod (a + 10) 18 - 9 + 1 else Int.fmod (a + 10) 18 - 9
theorem keep2_1 {h₀ h : Heap} {L : Addr} {a b c : Addr × Obj} {r : Led} (N : News h₀ L h (a :: b :: c :: r)) : News h₀ L h (a :: b :: r) := fun p hp => N p ((List.mem_cons.mp hp).elim (fun e => e ▸ .head _) fun hp => (List.mem_cons.mp hp).elim (fun e => e ▸ .tail _ (.head _)) fun h => .tail _ (.tail _ (.tail _ h)))
theorem keep2_4 {h₀ h : Heap} {L : Addr} {a b c d e f : Addr × Obj} {r : Led} (N : News h₀ L h (a :: b :: c :: d :: e :: f :: r)) : News h₀ L h (a :: b :: r) := fun p hp => N p ((List.mem_cons.mp hp).elim (fun e => e ▸ .head _) fun hp => (List.mem_cons.mp hp).elim (fun e => e ▸ .tail _ (.head _)) fun h => .tail _ (.tail _ (.tail _ (.tail _ (.tail _ (.tail _ h))))))
theorem take_min (a : Int) (r : List Int) : List.take (min 6 (a :: r).length - 1) (List.drop 1 (a :: r)) = List.take 5 (List.drop 1 (a :: r)) := by
  rw [List.drop_one, List.tail_cons, List.length_cons]
  by_cases h : r.length ≤ 5
  · rw [List.take_of_length_le (by omega), List.take_of_length_le h]
  · rw [show min 6 (r.length + 1) - 1 = 5 by omega]
set_option maxHeartbeats 4000000 in
theorem law_drawn {W : Wd} (rest : Led) (sa : Addr) (vs : List Value) (ns : List Int) (hi : IntsAre vs ns) (hl : ns.length ≤ 63) :
    DoesC (fun h => h.IsList sa vs.toArray) W 202 20 [.ref sa] rest (fun v n' => ∃ x la t vs' nn, v = .ref x ∧ n' = (x, tupO [.int (drawnBase ns) t, .ref la]) :: (la, listOf vs'.toArray nn) :: rest ∧ IntsAre vs' (drawn ns)) := by
  k_with_none
  refine' does_plainC (fun g h st x => x.at fun o e => st _ _ e) [(Str.ofString "script", .ref sa)] ?k6 ?k7 ?k9 ?kB ?c2 ?c3 ?c4 ?c5 ?_
  case k6 => k_is
  case k7 => k_is
  case k9 => exact rfl
  case kB => exact locs rfl
  case c2 => exact rfl
  case c3 => exact rfl
  case c4 => exact rfl
  case c5 => decide
  intro L hLo dp un gd outer A₀ base g s Q hs B F X N Tp hd hu hret
  have hl2 := hi.length
  k_with "compareOp Eq ref ref" => (k_dflt (refine ke_eq_ints (Fr.lst (by k_asm) hs) (News.isList (by k_asm) (.head _)) hi .nil (by dsimp only [ktrTop]; omega) ?_))
  cases ns with
  | nil =>
    k_steps
    rename_i hh F9 N9 l9
    exact hret _ _ _ _ _ F9 (keep2_1 N9) ⟨_, _, _, [_, _, _], _, rfl, rfl, .cons _ _ (.cons _ _ (.cons _ _ .nil))⟩
  | cons n0 rs =>
    have h0 : 0 < vs.length := by rw [hl2]; exact Nat.succ_pos _
    have hl3 : vs.length ≤ 63 := by omega
    k_steps
    · exact absurd (by assumption : decide (n0 :: rs = []) = true) (by simp)
    · rename_i hI l1 hh F9 N9 hk9 x1 x2 nm9
      rw [take_min] at hI
      have hc : 0 ≤ Int.fmod (n0 + 10) 18 - 9 := by assumption
      have eb : drawnBase (n0 :: rs) = Int.fmod (n0 + 10) 18 - 9 + 1 := if_pos hc
      rw [eb] at hret
      exact hret _ _ _ _ _ F9 (keep2_4 N9) ⟨_, _, _, _, _, rfl, rfl, hI⟩
    · rename_i hI l1 hh F9 N9 hk9 x1 x2 nm9
      rw [take_min] at hI
      have hc : ¬ 0 ≤ Int.fmod (n0 + 10) 18 - 9 := by assumption
      have eb : drawnBase (n0 :: rs) = Int.fmod (n0 + 10) 18 - 9 := if_neg hc
      rw [eb] at hret
      exact hret _ _ _ _ _ F9 (keep2_4 N9) ⟨_, _, _, _, _, rfl, rfl, hI⟩
/-- the order of the pairs (way, place) -/
noncomputable def ltK (a b : Str × Int) : Bool := if a.1 = b.1 then decide (a.2 < b.2) else decide (a.1.cps.toList < b.1.cps.toList)
abbrev pairO (x : Str) (t : Tok) (p : Int) (u : Tok) : Obj := tupO [.str x t, .int p u]
open PySem.Builtin in
theorem tuple_lt2 (l b : Addr) (x y : Str) (t1 t2 u1 u2 : Tok) (p q : Int) :
    Meets (Builtin.«tuple.__lt__» ⟨[.ref l, .ref b], []⟩)
      (fun _ R s => s.heap.get? l = some (pairO x t1 p u1) ∧ s.heap.get? b = some (pairO y t2 q u2) ∧ R (.ok (.ret (.bool (ltK (x, p) (y, q))))) s) :=
  .of_wp fun prog w A R s h => by
    obtain ⟨hp, g, d, tk, os⟩ := s; obtain ⟨hl, hb, h⟩ := h
    have f2 := AutoSeq1.sub_tuple_tuple
    wp_walk using wpAny_loadPart' hl, wpAny_loadPart' hb
    have r1 : ∀ {Q : Value → Shared → Prop} {E : Value → Shared → Prop} {s : Shared}, Q (.bool (decide (p < q))) s → wpAny (model prog w) A.in1 (richCompare .Lt (.int p u1) (.int q u2)) Q E s := fun h => cmp_ofLt (M := model prog w) (PyProof.Rows.lt_int h)
    have r2 : ∀ {Q : Value → Shared → Prop} {E : Value → Shared → Prop} {s : Shared}, Q (.bool (decide (x.cps.toList < y.cps.toList))) s → wpAny (model prog w) A.in1 (richCompare .Lt (.str x t1) (.str y t2)) Q E s := fun h => cmp_ofLt (M := model prog w) (PyProof.Rows.lt_str h)
    change wpAny _ _ (eqBool (.str x t1) (.str y t2)) _ _ _
    refine wpAny_eqBool_str ?_
    by_cases e : x = y
    · rw [decide_eq_true e]
      have eK : ltK (x, p) (y, q) = decide (p < q) := if_pos e
      rw [eK] at h
      wp_walk
      change wpAny _ _ (eqBool (.int p u1) (.int q u2)) _ _ _
      refine wpAny_eqBool_int ?_
      by_cases e2 : p = q
      · subst e2
        rw [show decide (p < p) = false from decide_eq_false (by omega)] at h
        rw [show (p == p) = true from beq_self_eq_true p]
        wp_walk
        exact ⟨_, rfl, h⟩
      · rw [show (p == q) = false from beq_eq_false_iff_ne.mpr e2]
        wp_walk using r1
        exact ⟨_, rfl, h⟩
    · rw [decide_eq_false e]
      have eK : ltK (x, p) (y, q) = decide (x.cps.toList < y.cps.toList) := if_neg e
      rw [eK] at h
      wp_walk using r2
      exact ⟨_, rfl, h⟩
section
variable {prog : Program} {w : World} {A : Around} {E : Value → Shared → Prop} {s : Shared} {h₀ : Heap} {L D : Addr} {m : Str → Option Value} {news rest : Led} {vs : List Value} {n : Nat} {k : Int} {t u : Tok}
theorem tup_lt {l b : Addr} {x y : Str} {t1 t2 u1 u2 : Tok} {p q : Int} {Q : Value → Shared → Prop} (N : News h₀ L s.heap news) (hl : (l, pairO x t1 p u1) ∈ news) (hb : (b, pairO y t2 q u2) ∈ news) (hu : A.units < cLine)
    (h : Q (.bool (ltK (x, p) (y, q))) s) : wpAny (model prog w) A (compareOp .Lt (.ref l) (.ref b)) Q E s :=
  cmp_ofLt (richCompare_meets_room (op := .Lt) ⟨_, (N _ hl).1, rfl⟩ ⟨_, (N _ hb).1, rfl⟩ F.slot_tuple_lt F.entry_tuple_lt (F.args_tuple_lt_2 _ _) (tuple_lt2 l b x y t1 t2 u1 u2 p q) ⟨(N _ hl).1, (N _ hb).1, ⟨(by intro e; cases e), h⟩⟩ hu)
theorem set_led {v : Value} {Q : Unit → Shared → Prop} (F : Fr h₀ L s.heap m) (N : News h₀ L s.heap ((D, listOf vs.toArray n) :: rest)) (ho : ∀ p ∈ rest, p.1 ≠ D) (h0 : 0 ≤ k) (h1 : k < vs.length) (hfit : k < 2 ^ 63)
    (h : ∀ h', Fr h₀ L h' m → News h₀ L h' ((D, listOf (vs.set k.toNat v).toArray n) :: rest) → Q () { s with heap := h' }) :
    wpAny (model prog w) A (setItem (.ref D) (.int k t) v) Q E s := by
  have z := N (D, listOf vs.toArray n) (.head _)
  refine ki_setAt z.1 h0 hfit (by rw [List.size_toArray]; exact h1) (h _ (F.change (Heap.SameBut.update ..) z.2.1 z.2.2) (ki_turn (pre := []) _ N (fun _ h => nomatch h) ho ?_ ?_))
  · show vs.toArray.setIfInBounds k.toNat v = (vs.set k.toNat v).toArray
    apply Array.toList_inj.mp
    simp
  · simp
theorem get_led {value slice : PySem.Expr} {x : Value} {Q : Value → Shared → Prop} (N : News h₀ L s.heap news) (hm : (D, listOf vs.toArray n) ∈ news) (h0 : 0 ≤ k) (hfit : k < 2 ^ 63) (hx : vs[k.toNat]? = some x) (h : Q x s)
    (hs : subscripted slice false (.ref D) (.int k u) = operate [.ref D, .int k u] (getItem (.ref D) (.int k u)) := by with_unfolding_all rfl) :
    wpAny (model prog w) A (subscriptTail value slice (.ref D) (.int k u)) Q E s :=
  have hl : s.heap.IsList D vs.toArray := PySem.IsL.isList (n := n) (N _ hm).1
  tail_any hl.typeIs slot_list_getitem.lookup (wpAny_getItem_list hl h0 hfit (by simpa using hx) h) hs
theorem len_led {Q : Value → Shared → Prop} (N : News h₀ L s.heap news) (hm : (D, listOf vs.toArray n) ∈ news) (hf : vs.length < 2 ^ 62) (h : Q (.int (vs.length : Nat) (s.toks + 1)) { s with toks := s.toks + 1 + 1 }) :
    wpAny (model prog w) A (call (.builtin "len") [.ref D]) Q E s := KM.len_K N hm (by rw [List.size_toArray]) hf h
end
/-- an item of the heap: its tuple's place in the ledger, its way, its number's place -/
abbrev Itm := Addr × Str × Int
noncomputable def rf (x : Itm) : Value := .ref x.1
noncomputable def ItemsIn (xs : List Itm) (rest : Led) : Prop := ∀ x ∈ xs, ∃ t u, (x.1, pairO x.2.1 t x.2.2 u) ∈ rest
noncomputable def ltI (a b : Itm) : Bool := ltK a.2 b.2
theorem rf_at {xs : List Itm} {i : Nat} {x : Itm} (h : xs[i]? = some x) : (xs.map rf)[i]? = some (.ref x.1) := by rw [List.getElem?_map, h]; rfl
theorem rf_set (xs : List Itm) (i : Nat) (x : Itm) : (xs.map rf).set i (.ref x.1) = (xs.set i x).map rf := (List.map_set (f := rf)).symm
noncomputable def dI : Itm := (0, ⟨#[]⟩, 0)
/-- what _siftdown leaves: x sinks from place p towards the top -/
noncomputable def sd (x : Itm) : Nat → List Itm → Nat → List Itm
  | 0, ys, p => ys.set p x
  | f + 1, ys, p => if p = 0 then ys.set p x else if ltI x (ys.getD ((p - 1) / 2) dI) then sd x f (ys.set p (ys.getD ((p - 1) / 2) dI)) ((p - 1) / 2) else ys.set p x
theorem sd_zero (x : Itm) (ys : List Itm) : ∀ f, sd x f ys 0 = ys.set 0 x
  | 0 => rfl
  | f + 1 => by rw [sd, if_pos rfl]
theorem sd_down {x : Itm} {ys : List Itm} {f p : Nat} (hp : p ≠ 0) (hf : p ≤ f) (h : ltI x (ys.getD ((p - 1) / 2) dI) = true) : sd x f ys p = sd x (f - 1) (ys.set p (ys.getD ((p - 1) / 2) dI)) ((p - 1) / 2) := by
  obtain ⟨f, rfl⟩ := Nat.exists_eq_succ_of_ne_zero (show f ≠ 0 by omega)
  rw [Nat.succ_eq_add_one, sd, if_neg hp, if_pos h, Nat.add_sub_cancel]
theorem sd_stay {x : Itm} {ys : List Itm} {f p : Nat} (hp : p ≠ 0) (h : ltI x (ys.getD ((p - 1) / 2) dI) = false) : sd x f ys p = ys.set p x := by
  cases f with
  | zero => rfl
  | succ f => rw [sd, if_neg hp, if_neg (by rw [h]; decide)]
/-- what the first loop of _siftup leaves: the lesser child moves up, the hole sinks to a leaf -/
noncomputable def suC (ys : List Itm) (p : Nat) : Nat := if 2 * p + 2 < ys.length ∧ ltI (ys.getD (2 * p + 1) dI) (ys.getD (2 * p + 2) dI) = false then 2 * p + 2 else 2 * p + 1
noncomputable def su : Nat → List Itm → Nat → List Itm × Nat
  | 0, ys, p => (ys, p)
  | f + 1, ys, p => if 2 * p + 1 < ys.length then su f (ys.set p (ys.getD (suC ys p) dI)) (suC ys p) else (ys, p)
theorem su_stop {ys : List Itm} {p : Nat} (h : ¬ 2 * p + 1 < ys.length) : ∀ f, su f ys p = (ys, p)
  | 0 => rfl
  | f + 1 => by rw [su, if_neg h]
theorem su_step {ys : List Itm} {p f : Nat} (h : 2 * p + 1 < ys.length) (hf : ys.length ≤ f + p) : su f ys p = su (f - 1) (ys.set p (ys.getD (suC ys p) dI)) (suC ys p) := by
  obtain ⟨f, rfl⟩ := Nat.exists_eq_succ_of_ne_zero (show f ≠ 0 by omega)
  rw [Nat.succ_eq_add_one, su, if_pos h, Nat.add_sub_cancel]
theorem getD_at {ys : List Itm} {i : Nat} (h : i < ys.length) : ys[i]? = some (ys.getD i dI) := by
  rw [List.getD_eq_getElem?_getD, List.getElem?_eq_getElem h]; rfl
theorem itemsIn_set {ys : List Itm} {rest : Led} (h : ItemsIn ys rest) {i : Nat} {x : Itm} (hx : ∃ t u, (x.1, pairO x.2.1 t x.2.2 u) ∈ rest) : ItemsIn (ys.set i x) rest := fun y hy => by
  rcases List.mem_or_eq_of_mem_set hy with h1 | rfl
  · exact h y h1
  · exact hx
theorem itemsIn_at {ys : List Itm} {rest : Led} (h : ItemsIn ys rest) {i : Nat} (hi : i < ys.length) : ∃ t u, ((ys.getD i dI).1, pairO (ys.getD i dI).2.1 t (ys.getD i dI).2.2 u) ∈ rest := h _ (List.mem_of_getElem? (getD_at hi))
/-- ahead of a turn of the loop of _siftdown -/
structure SdJ (R : List Itm) (x : Itm) (hl : Addr) (nn len : Nat) (rest : Led) (p : Nat) (m : Str → Option Value) (news : Led) : Prop where
  mh : m (Str.ofString "heap") = some (.ref hl)
  ms : ∃ t, m (Str.ofString "startpos") = some (.int 0 t)
  mp : ∃ t, m (Str.ofString "pos") = some (.int p t)
  mx : m (Str.ofString "newitem") = some (.ref x.1)
  ex : ∃ ys f, p ≤ f ∧ p < len ∧ ys.length = len ∧ sd x f ys p = R ∧ ItemsIn ys rest ∧ news = (hl, listOf (ys.map rf).toArray nn) :: rest
set_option maxHeartbeats 4000000 in
theorem siftdown {W : Wd} (rest : Led) (hl : Addr) (xs : List Itm) (nn p : Nat) (t u : Tok) (hp : p < xs.length) (hlen : xs.length ≤ 20) (hit : ItemsIn xs rest) (ho : Off hl rest) :
    Does W 84 12 [.ref hl, .int 0 t, .int p u] ((hl, listOf (xs.map rf).toArray nn) :: rest) (fun v n' => v = .none ∧ n' = (hl, listOf ((sd (xs.getD p dI) p xs p).map rf).toArray nn) :: rest) := by
  k_with_none
  have hx := itemsIn_at hit hp
  have hxa := getD_at hp
  generalize hX : xs.getD p dI = x at *
  cell_end [(Str.ofString "heap", .ref hl), (Str.ofString "startpos", .int 0 t), (Str.ofString "pos", .int p u)] 0 0
  intro L hLo dp un gd outer A₀ base g s Q B F X N Tp hd hu hret
  k_with "subscriptTail" => k_dflt (refine get_led (by k_asm) (.head _) (by omega) (by omega) (rf_at hxa) ?_)
  k_with "exec While Compare cons nil" => refine Halt.go ?_
  k_steps
  unfold Halt
  obtain ⟨xt, xu, hxm⟩ := hx
  refine While_inv2 (SdJ (sd x p xs p) x hl nn xs.length rest) (n₀ := p) (by k_asm) (by k_asm) ⟨rfl, ⟨_, rfl⟩, ⟨_, rfl⟩, rfl, xs, p, Nat.le_refl _, hp, rfl, rfl, hit, rfl⟩ ?_
  rintro i m₁ n₁ h tk F₁ N₁ ⟨mh, ⟨ts, ms⟩, ⟨tp, mp⟩, mx, ys, f, hf, hil, hyl, hR, hyi, rfl⟩
  rw [see mh, see ms, see mp, see mx] at F₁
  rw [← hyl] at hil
  have hil2 : (i : Int) < (ys.map rf).length := by rw [List.length_map]; omega
  have hst : ∀ y : Itm, ((ys.map rf).set (i : Int).toNat (.ref y.1)) = (ys.set i y).map rf := fun y => by rw [Int.toNat_natCast]; exact rf_set ys i y
  obtain ⟨yt, yu, hym⟩ := itemsIn_at hyi (i := (i - 1) / 2) (by omega)
  have hg : (ys.map rf)[(((i : Int) - 1) / 2).toNat]? = some (.ref (ys.getD ((i - 1) / 2) dI).1) := by
    rw [show (((i : Int) - 1) / 2).toNat = (i - 1) / 2 by omega]
    exact rf_at (getD_at (by omega))
  generalize hY : ys.getD ((i - 1) / 2) dI = y at *
  k_with "subscriptTail" => k_dflt (refine get_led (by k_asm) (.head _) (by omega) (by omega) hg ?_)
  k_with "compareOp Lt ref ref" => k_dflt (refine tup_lt (by k_asm) (.tail _ hxm) (.tail _ hym) (by dsimp only [ktrTop]; omega) ?_)
  k_with "setItem ref int" => k_dflt (refine set_led (by k_asm) (by k_asm) ho (by omega) hil2 (by omega) ?_; intro h8 F8 N8; rw [hst] at N8)
  k_steps
  · have hR2 : sd x (f - 1) (ys.set i y) ((i - 1) / 2) = sd x p xs p := by
      rw [← hR, sd_down (by omega) hf (by rw [hY]; assumption), hY]
    have hc : ((i : Int) - 1) / 2 = (((i - 1) / 2 : Nat) : Int) := by omega
    exact ⟨_, _, _, _, (i - 1) / 2, rfl, by k_asm, by k_asm, by omega, ⟨rfl, ⟨_, rfl⟩, ⟨_, congrArg (fun z => some (Value.int z _)) hc⟩, rfl, ys.set i y, f - 1, by omega, by omega, by rw [List.length_set]; exact hyl, hR2, itemsIn_set hyi ⟨_, _, hym⟩, rfl⟩⟩
  · have hR2 : ys.set i x = sd x p xs p := by
      rw [← hR, sd_stay (by omega) (by rw [hY]; assumption)]
    dsimp only
    rw [← hR2] at hret
    show wpAny _ _ _ _ _ _
    k_steps
    exact hret _ _ _ _ _ (by k_asm) (by k_asm) ⟨rfl, rfl⟩
  · have hi0 : i = 0 := by omega
    subst hi0
    have hR2 : ys.set 0 x = sd x p xs p := by rw [← hR, sd_zero]
    rw [← hR2] at hret
    exact hret _ _ _ _ _ (by k_asm) (by k_asm) ⟨rfl, rfl⟩
/-- what _siftup leaves -/
noncomputable def upR (x : Itm) (R : List Itm × Nat) : List Itm := sd x R.2 (R.1.set R.2 x) R.2
/-- ahead of a turn of the loop of _siftup -/
structure SuJ (R : List Itm × Nat) (x : Itm) (hl : Addr) (nn len : Nat) (rest : Led) (n : Nat) (m : Str → Option Value) (news : Led) : Prop where
  mh : m (Str.ofString "heap") = some (.ref hl)
  me : ∃ t, m (Str.ofString "endpos") = some (.int len t)
  ms : ∃ t, m (Str.ofString "startpos") = some (.int 0 t)
  mx : m (Str.ofString "newitem") = some (.ref x.1)
  ex : ∃ ys f p, n = len - p ∧ len ≤ f + p ∧ p < len ∧ ys.length = len ∧ su f ys p = R ∧ ItemsIn ys rest ∧ news = (hl, listOf (ys.map rf).toArray nn) :: rest ∧ (∃ t, m (Str.ofString "pos") = some (.int p t)) ∧ ∃ t, m (Str.ofString "childpos") = some (.int ((2 * p + 1 : Nat) : Int) t)
theorem suC_le {ys : List Itm} {p : Nat} (h : 2 * p + 1 < ys.length) : p < suC ys p ∧ suC ys p < ys.length := by
  unfold suC; split <;> omega
set_option maxHeartbeats 8000000 in
theorem siftup {W : Wd} (rest : Led) (hl : Addr) (xs : List Itm) (nn : Nat) (t : Tok) (h0 : 0 < xs.length) (hlen : xs.length ≤ 20) (hit : ItemsIn xs rest) (ho : Off hl rest) :
    Does W 91 20 [.ref hl, .int 0 t] ((hl, listOf (xs.map rf).toArray nn) :: rest) (fun v n' => v = .none ∧ n' = (hl, listOf ((upR (xs.getD 0 dI) (su xs.length xs 0)).map rf).toArray nn) :: rest) := by
  k_with_none
  have hx := itemsIn_at hit h0
  have hxa := getD_at h0
  generalize hX : xs.getD 0 dI = x at *
  obtain ⟨xt, xu, hxm⟩ := hx
  have hxs : (xs.map rf).length = xs.length := List.length_map _
  cell_end [(Str.ofString "heap", .ref hl), (Str.ofString "pos", .int 0 t)] 0 0
  intro L hLo dp un gd outer A₀ base g s Q B F X N Tp hd hu hret
  k_with "subscriptTail" => k_dflt (refine get_led (by k_asm) (.head _) (by omega) (by omega) (rf_at hxa) ?_)
  k_with "call builtin:len" => k_dflt (refine len_led (by k_asm) (.head _) (by omega) ?_)
  k_with "exec While Compare cons nil" => refine Halt.go ?_
  k_with "mine call" => refine Halt.go ?_
  k_steps
  unfold Halt
  rw [hxs] at *
  refine While_inv2 (SuJ (su xs.length xs 0) x hl nn xs.length rest) (n₀ := xs.length) (by k_asm) (by k_asm) ⟨rfl, ⟨_, rfl⟩, ⟨_, rfl⟩, rfl, xs, xs.length, 0, rfl, by omega, h0, rfl, rfl, hit, rfl, ⟨_, rfl⟩, ⟨_, rfl⟩⟩ ?_
  rintro n m₁ n₁ h tk F₁ N₁ ⟨mh, ⟨te, me⟩, ⟨ts, ms⟩, mx, ys, f, i, rfl, hf, hil, hyl, hR, hyi, rfl, ⟨tp, mp⟩, ⟨tc, mc⟩⟩
  rw [see mh, see me, see ms, see mx, see mp, see mc] at F₁
  rw [← hyl] at hil
  have hil2 : (i : Int) < (ys.map rf).length := by rw [List.length_map]; omega
  have hst : ∀ y : Itm, ((ys.map rf).set (i : Int).toNat (.ref y.1)) = (ys.set i y).map rf := fun y => by rw [Int.toNat_natCast]; exact rf_set ys i y
  have hgA : 2 * i + 1 < ys.length → (ys.map rf)[((2 * i + 1 : Nat) : Int).toNat]? = some (.ref (ys.getD (2 * i + 1) dI).1) := fun h => by
    rw [Int.toNat_natCast]; exact rf_at (getD_at h)
  have hgB : 2 * i + 2 < ys.length → (ys.map rf)[(((2 * i + 1 : Nat) : Int) + 1).toNat]? = some (.ref (ys.getD (2 * i + 2) dI).1) := fun h => by
    rw [show (((2 * i + 1 : Nat) : Int) + 1).toNat = 2 * i + 2 by omega]; exact rf_at (getD_at h)
  k_with "subscriptTail" => k_dflt (refine get_led (by k_asm) (.head _) (by omega) (by omega) (hgA (by omega)) ?_)
  k_with "subscriptTail" => k_dflt (refine get_led (by k_asm) (.head _) (by omega) (by omega) (hgB (by omega)) ?_)
  k_with "compareOp Lt ref ref" => k_dflt (obtain ⟨at1, au1, ham⟩ := itemsIn_at hyi (i := 2 * i + 1) (by omega); obtain ⟨bt1, bu1, hbm⟩ := itemsIn_at hyi (i := 2 * i + 2) (by omega); refine tup_lt (by k_asm) (.tail _ ham) (.tail _ hbm) (by dsimp only [ktrTop]; omega) ?_)
  k_with "setItem ref int" => k_dflt (refine set_led (by k_asm) (by k_asm) ho (by omega) hil2 (by omega) ?_; intro h8 F8 N8; rw [hst] at N8)
  k_steps
  · have hc : suC ys i = 2 * i + 1 := if_neg fun h => absurd (h.2.symm.trans (by assumption : ltI (ys.getD (2 * i + 1) dI) (ys.getD (2 * i + 2) dI) = true)) (by decide)
    have hcl := suC_le (ys := ys) (p := i) (by omega)
    rw [hc] at hcl
    have hR2 : su (f - 1) (ys.set i (ys.getD (2 * i + 1) dI)) (2 * i + 1) = su xs.length xs 0 := by
      have h7 := su_step (ys := ys) (p := i) (f := f) (by omega) (by omega)
      rw [hc] at h7
      exact h7.symm.trans hR
    have e1 : (((2 * i + 1 : Nat)) : Int) = (((2 * i + 1 : Nat)) : Int) := by omega
    have e2 : 2 * ((((2 * i + 1 : Nat)) : Int)) + 1 = ((2 * (2 * i + 1) + 1 : Nat) : Int) := by omega
    exact ⟨_, _, _, _, xs.length - (2 * i + 1), rfl, by k_asm, by k_asm, by omega, ⟨rfl, ⟨_, rfl⟩, ⟨_, rfl⟩, rfl, _, f - 1, 2 * i + 1, rfl, by omega, by omega, by rw [List.length_set]; exact hyl, hR2, itemsIn_set hyi (itemsIn_at hyi (by omega)), rfl, ⟨_, congrArg (fun z => some (Value.int z _)) e1⟩, ⟨_, congrArg (fun z => some (Value.int z _)) e2⟩⟩⟩
  · have hc : suC ys i = 2 * i + 2 := if_pos ⟨by omega, by assumption⟩
    have hcl := suC_le (ys := ys) (p := i) (by omega)
    rw [hc] at hcl
    have hR2 : su (f - 1) (ys.set i (ys.getD (2 * i + 2) dI)) (2 * i + 2) = su xs.length xs 0 := by
      have h7 := su_step (ys := ys) (p := i) (f := f) (by omega) (by omega)
      rw [hc] at h7
      exact h7.symm.trans hR
    have e1 : (((2 * i + 1 : Nat)) : Int) + 1 = (((2 * i + 2 : Nat)) : Int) := by omega
    have e2 : 2 * ((((2 * i + 1 : Nat)) : Int) + 1) + 1 = ((2 * (2 * i + 2) + 1 : Nat) : Int) := by omega
    exact ⟨_, _, _, _, xs.length - (2 * i + 2), rfl, by k_asm, by k_asm, by omega, ⟨rfl, ⟨_, rfl⟩, ⟨_, rfl⟩, rfl, _, f - 1, 2 * i + 2, rfl, by omega, by omega, by rw [List.length_set]; exact hyl, hR2, itemsIn_set hyi (itemsIn_at hyi (by omega)), rfl, ⟨_, congrArg (fun z => some (Value.int z _)) e1⟩, ⟨_, congrArg (fun z => some (Value.int z _)) e2⟩⟩⟩
  · have hc : suC ys i = 2 * i + 1 := if_neg fun h => absurd h.1 (by omega)
    have hcl := suC_le (ys := ys) (p := i) (by omega)
    rw [hc] at hcl
    have hR2 : su (f - 1) (ys.set i (ys.getD (2 * i + 1) dI)) (2 * i + 1) = su xs.length xs 0 := by
      have h7 := su_step (ys := ys) (p := i) (f := f) (by omega) (by omega)
      rw [hc] at h7
      exact h7.symm.trans hR
    have e1 : (((2 * i + 1 : Nat)) : Int) = (((2 * i + 1 : Nat)) : Int) := by omega
    have e2 : 2 * ((((2 * i + 1 : Nat)) : Int)) + 1 = ((2 * (2 * i + 1) + 1 : Nat) : Int) := by omega
    exact ⟨_, _, _, _, xs.length - (2 * i + 1), rfl, by k_asm, by k_asm, by omega, ⟨rfl, ⟨_, rfl⟩, ⟨_, rfl⟩, rfl, _, f - 1, 2 * i + 1, rfl, by omega, by omega, by rw [List.length_set]; exact hyl, hR2, itemsIn_set hyi (itemsIn_at hyi (by omega)), rfl, ⟨_, congrArg (fun z => some (Value.int z _)) e1⟩, ⟨_, congrArg (fun z => some (Value.int z _)) e2⟩⟩⟩
  · have hR2 : su xs.length xs 0 = (ys, i) := by rw [← hR, su_stop (by omega)]
    rw [hR2] at hret
    have hgd : (ys.set i x).getD i dI = x := by rw [List.getD_eq_getElem?_getD, List.getElem?_set_self hil]; rfl
    have C := fun t u => siftdown (W := W) rest hl (ys.set i x) nn i t u (by rw [List.length_set]; exact hil) (by rw [List.length_set]; omega) (itemsIn_set hyi ⟨_, _, hxm⟩) ho
    rw [hgd] at C
    unfold Halt
    cell_end (C _ _) 2 2
    rintro r9 n9 h9 tk9 F9 N9 ⟨rfl, rfl⟩
    dsimp only
    k_steps
    exact hret _ _ _ _ _ F9 N9 ⟨rfl, rfl⟩
theorem kl_last_app (y : Value) : ∀ l : List Value, kl_last (l ++ [y]) = some (l, y)
  | [] => rfl
  | x :: r => by rw [List.cons_append, kl_last, kl_last_app y r]
set_option maxHeartbeats 4000000 in
theorem heappush {W : Wd} (rest : Led) (hl : Addr) (xs : List Itm) (x : Itm) (nn : Nat) (hlen : xs.length < 20) (hit : ItemsIn xs rest) (hx : ∃ t u, (x.1, pairO x.2.1 t x.2.2 u) ∈ rest) (ho : Off hl rest) :
    Does W 70 16 [.ref hl, .ref x.1] ((hl, listOf (xs.map rf).toArray nn) :: rest) (fun v n' => v = .none ∧ ∃ nn', n' = (hl, listOf ((sd x xs.length (xs ++ [x]) xs.length).map rf).toArray nn') :: rest) := by
  k_with_none
  have e1 : (xs.map rf).toArray.push (.ref x.1) = ((xs ++ [x]).map rf).toArray := by rw [List.push_toArray, List.map_append]; rfl
  have e2 : xs.map rf ++ [Value.ref x.1] = (xs ++ [x]).map rf := (List.map_append (f := rf) (l₁ := xs) (l₂ := [x])).symm
  have hl2 : (xs.map rf ++ [Value.ref x.1]).length = xs.length + 1 := by rw [e2, List.length_map, List.length_append]; rfl
  have hl1 : ((xs ++ [x]).map rf).length = xs.length + 1 := by rw [List.length_map, List.length_append]; rfl
  have hgd : (xs ++ [x]).getD xs.length dI = x := by rw [List.getD_eq_getElem?_getD, List.getElem?_append_right (Nat.le_refl _), Nat.sub_self]; rfl
  have hit2 : ItemsIn (xs ++ [x]) rest := fun y hy => (List.mem_append.mp hy).elim (hit y) fun h => by rw [List.mem_singleton.mp h]; exact hx
  have C := fun t u => siftdown (W := W) rest hl (xs ++ [x]) (nn + 1) xs.length t u (by rw [List.length_append]; exact Nat.lt_succ_self _) (by rw [List.length_append]; exact hlen) hit2 ho
  rw [hgd] at C
  have hz : (xs.map rf).toArray.size ≤ sizeLine := by rw [List.size_toArray, List.length_map, sizeLine_eq]; omega
  cell_end [(Str.ofString "heap", .ref hl), (Str.ofString "item", .ref x.1)] 0 0
  intro L hLo dp un gd outer A₀ base g s Q B F X N Tp hd hu hret
  k_with "call builtin:list.append" => k_dflt (refine append_K (by k_asm) (by k_asm) (Upd.head ho) ?_ hz; intro h8 F8 N8; first | rw [e1] at N8 | (rw [List.push_toArray, e2] at N8))
  k_with "call builtin:len" => k_dflt (refine len_led (by k_asm) (.head _) (by omega) ?_)
  k_with "mine call" => refine Halt.go ?_
  k_steps
  unfold Halt
  rw [e2] at *
  rw [hl1, show ((xs.length + 1 : Nat) : Int) - 1 = (xs.length : Int) by omega]
  cell_end (C _ _) 2 2
  rintro r9 n9 h9 tk9 F9 N9 ⟨rfl, rfl⟩
  dsimp only
  k_steps
  exact hret _ _ _ _ _ F9 N9 ⟨rfl, _, rfl⟩
/-- what heappop gives and leaves -/
noncomputable def popR (zs : List Itm) (y : Itm) : Itm × List Itm := if zs.length = 0 then (y, []) else (zs.getD 0 dI, upR y (su zs.length (zs.set 0 y) 0))
set_option maxHeartbeats 4000000 in
theorem heappop {W : Wd} (rest : Led) (hl : Addr) (zs : List Itm) (y : Itm) (nn : Nat) (hlen : zs.length < 20) (hit : ItemsIn (zs ++ [y]) rest) (ho : Off hl rest) :
    Does W 77 28 [.ref hl] ((hl, listOf ((zs ++ [y]).map rf).toArray nn) :: rest) (fun v n' => v = rf (popR zs y).1 ∧ ∃ nn', n' = (hl, listOf ((popR zs y).2.map rf).toArray nn') :: rest) := by
  k_with_none
  have hitz : ItemsIn zs rest := fun z hz => hit z (List.mem_append_left _ hz)
  have hyi := hit y (List.mem_append_right _ (.head _))
  have e1 : kl_last ((zs ++ [y]).map rf).toArray.toList = some (zs.map rf, .ref y.1) := by
    rw [show ((zs ++ [y]).map rf).toArray.toList = zs.map rf ++ [.ref y.1] from List.map_append]
    exact kl_last_app _ _
  have hz : ((zs ++ [y]).map rf).toArray.toList.length ≤ sizeLine := by rw [show ((zs ++ [y]).map rf).toArray.toList = (zs ++ [y]).map rf from rfl, List.length_map, List.length_append, sizeLine_eq]; show _ + 1 ≤ _; omega
  have hz2 : (zs.map rf).length = zs.length := List.length_map _
  cell_end [(Str.ofString "heap", .ref hl)] 0 0
  intro L hLo dp un gd outer A₀ base g s Q B F X N Tp hd hu hret
  k_with "call builtin:list.pop" => k_dflt (refine kl_pop (by k_asm) (by k_asm) e1 (Upd.head ho) hz ?_; intro h8 F8 N8)
  k_with "truthy ref" => k_dflt (refine kgr_truthy (by k_asm) (.head _) rfl rfl (by omega) ?_)
  k_with "mine call" => refine Halt.go ?_
  cases zs with
  | nil =>
    k_steps
    · exact hret _ _ _ _ _ (by k_asm) (by k_asm) ⟨rfl, _, rfl⟩
  | cons z zs =>
    have hit2 : ItemsIn ((z :: zs).set 0 y) rest := itemsIn_set hitz hyi
    have C := fun t => siftup (W := W) rest hl ((z :: zs).set 0 y) (nn + 1) t (Nat.succ_pos _) (by rw [List.length_set]; omega) hit2 ho
    have hps : popR (z :: zs) y = (z, upR y (su (z :: zs).length ((z :: zs).set 0 y) 0)) := rfl
    rw [hps] at hret
    have e3 : ∀ i : Nat, ((z :: zs).map rf).set 0 (.ref y.1) = ((z :: zs).set 0 y).map rf := fun _ => rfl
    k_with "subscriptTail" => k_dflt (refine get_led (by k_asm) (.head _) (by omega) (by omega) (rf_at (i := 0) (x := z) rfl) ?_)
    k_with "setItem ref int" => k_dflt (refine set_led (by k_asm) (by k_asm) ho (by omega) (by rw [hz2]; exact Int.natCast_pos.mpr (Nat.succ_pos _)) (by omega) ?_; intro h8 F8 N8)
    k_steps
    · exact absurd (by assumption : (List.map rf (z :: zs)).isEmpty = true) (by simp)
    · unfold Halt
      cell_end (C _) 2 2
      rintro r9 n9 h9 tk9 F9 N9 ⟨rfl, rfl⟩
      dsimp only
      k_steps
      exact hret _ _ _ _ _ F9 N9 ⟨rfl, _, rfl⟩
/-! the built-in map, as commonpath uses it -/
theorem mp_slot_next : Slot "map" "__next__" "map.__next__" :=
  .of (owner := "map") (n := "__next__") (by rw [typeLookup_type, builtinLookup_eq_fast]; kernel_rfl) (by decide +kernel) (by decide +kernel) (by decide +kernel)
    (by first | exact .inl (by decide +kernel) | exact .inr (by decide +kernel)) (by rw [isSubtype_type]; kernel_rfl)
theorem mp_slot_iter : Slot "map" "__iter__" "map.__iter__" :=
  .of (owner := "map") (n := "__iter__") (by rw [typeLookup_type, builtinLookup_eq_fast]; kernel_rfl) (by decide +kernel) (by decide +kernel) (by decide +kernel)
    (by first | exact .inl (by decide +kernel) | exact .inr (by decide +kernel)) (by rw [isSubtype_type]; kernel_rfl)
theorem mp_slot_init : Slot "map" "__init__" "object.__init__" :=
  .of (owner := "object") (n := "__init__") (by rw [typeLookup_type, builtinLookup_eq_fast]; kernel_rfl) (by decide +kernel) (by decide +kernel) (by decide +kernel)
    (by first | exact .inl (by decide +kernel) | exact .inr (by decide +kernel)) (by rw [isSubtype_type]; kernel_rfl)
theorem mp_owner : Manifest.owners.lookup (String.ofList ['p', 'a', 'm'].reverse) = some Manifest.sig_map := by kernel_rfl
theorem mp_entry_next : entryFor table "map.__next__" = some Builtin.«map.__next__» := entryFor_of_tree (by kernel_rfl)
theorem mp_args_next (a : Value) : argsOk "map.__next__" ⟨[a], []⟩ := by
  unfold argsOk; rw [signature?_of (id := "map.__next__") (n := ['_', '_', 't', 'x', 'e', 'n', '_', '_']) (o := ['p', 'a', 'm']) (by kernel_rfl) mp_owner]; kernel_rfl
theorem mp_args_iter (a : Value) : argsOk "map.__iter__" ⟨[a], []⟩ := by
  unfold argsOk; rw [signature?_of (id := "map.__iter__") (n := ['_', '_', 'r', 'e', 't', 'i', '_', '_']) (o := ['p', 'a', 'm']) (by kernel_rfl) mp_owner]; kernel_rfl
theorem mp_entry_iter : entryFor table "map.__iter__" = some Builtin.«dict_keyiterator.__iter__» :=
  entryFor_alias (id' := "dict_keyiterator.__iter__") (by kernel_rfl) (by first | rfl | decide +kernel | (unfold String.splitOn; simp +decide [String.splitOnAux])) (by decide +kernel) (by kernel_rfl)
theorem mp_mro : mroOf (.type "map") = pure [.type "map", .type "object"] := by rw [mroOf_type]; kernel_rfl
theorem mp_lookup_new : typeLookup (.type "map") "__new__" = pure (some (.builtin "map.__new__")) := by rw [typeLookup_type, builtinLookup_eq_fast]; kernel_rfl
theorem mp_called : TypeCalled "map" "map.__new__" "object.__init__" :=
  ⟨by decide +kernel, by decide +kernel, ⟨_, _, mp_mro⟩, madeBy_type mp_mro mp_lookup_new (by decide +kernel), by decide +kernel, by rw [isSubtype_type]; kernel_rfl, mp_slot_init⟩
theorem mp_typeCall (a b : Value) : checkTypeCall "map" ⟨[a, b], []⟩ = pure () := by kernel_rfl
theorem mp_newCall (a b : Value) : checkBuiltinCall "map.__new__" ⟨[.type "map", a, b], []⟩ = pure () := by kernel_rfl
theorem mp_entry_new : entryFor table "map.__new__" = some Builtin.«map.__new__» := entryFor_of_tree (by kernel_rfl)
theorem mp_nolen : typeLookup (.type "map") "__len__" = pure none := by rw [typeLookup_type, builtinLookup_eq_fast]; kernel_rfl
theorem mp_nohint : typeLookup (.type "map") "__length_hint__" = pure none := by rw [typeLookup_type, builtinLookup_eq_fast]; kernel_rfl
abbrev mapO (tp f : Addr) : Obj := { cls := .type "map", data := .fields #[.ref tp, .ref f] }
abbrev litO (l : Addr) (i : Nat) : Obj := { cls := .type "list_iterator", data := .fields #[.ref l, .int (i : Int) 0] }
theorem mp_meets_new (f l : Addr) (items : Array Value) (n : Nat) :
    Meets (Builtin.«map.__new__» ⟨[.type "map", .ref f, .ref l], []⟩) (fun _ R s => s.heap.get? l = some { cls := .type "list", dict := none, data := .seq items n, slots := #[] } ∧
      R (.ok (.ret (.ref ((s.heap.push (litO l 0)).push (tupO [.ref s.heap.objs.size])).objs.size)))
        { s with heap := ((s.heap.push (litO l 0)).push (tupO [.ref s.heap.objs.size])).push (mapO (s.heap.push (litO l 0)).objs.size f) }) :=
  .of_wp fun prog w A R s h => by
    obtain ⟨hp, g, d, tk, os⟩ := s; obtain ⟨hl, h⟩ := h
    have hsub := mp_called.sub
    have hL : Heap.IsList (Shared.heap ⟨hp, g, d, tk, os⟩) l items := ⟨_, hl, rfl, n, rfl⟩
    wp_walk using AutoSeq1.wpAny_loadPart' hl, wpAny_pyIter_list hL
    exact ⟨_, rfl, h⟩
section
variable {prog : Program} {w : World} {A : Around} {E : Value → Shared → Prop} {s : Shared} {h₀ : Heap} {L : Addr} {m : Str → Option Value} {news : Led}
theorem call_map {f l : Addr} {items : Array Value} {n : Nat} {Q : Value → Shared → Prop} (F : Fr h₀ L s.heap m) (N : News h₀ L s.heap news) (hl : (l, listOf items n) ∈ news)
    (h : ∀ I tp mp h', Fr h₀ L h' m → News h₀ L h' ((mp, mapO tp f) :: (tp, tupO [.ref I]) :: (I, litO l 0) :: news) → (∀ p ∈ news, p.1 < I) → I < tp → tp < mp → Q (.ref mp) { s with heap := h' }) :
    wpAny (model prog w) A (call (.type "map") [.ref f, .ref l]) Q E s := by
  refine callType_new mp_called (by decide) (mp_typeCall _ _) (mp_newCall _ _) (fun obj => PySem.F.args_object_init_3 obj _ _) mp_entry_new (mp_meets_new f l items n) ⟨(N _ hl).1, ?_⟩
  refine ⟨⟨_, Heap.get?_push_size _ rfl, rfl⟩, h s.heap.objs.size _ _ _ (((F.push _).push _).push _) (((N.push F _).push (F.push _) _).push ((F.push _).push _) _) (fun p hp => Heap.lt_size (N p hp).1) ?_ ?_⟩
  · rw [Heap.size_push]; exact Nat.lt_succ_self _
  · rw [Heap.size_push (s.heap.push _)]; exact Nat.lt_succ_self _
end
section
variable {W : Wd} {f : Addr} {D : Nat} {x : Value}
  {dp un : Nat} {gd : Option (List Code)} {cn : Str} {cs : Scope} {a : Addr} {ccd : Value} {cl : List (Str × Addr)} {outer : List Env} {A₀ : Around} {base h₀ : Heap} {L : Addr} {m : Str → Option Value} {s : Shared} {E : Value → Shared → Prop}
  {S mp tp I l : Addr} {acc items : Array Value} {c n i : Nat} {oI : Obj} {news : Led}
set_option maxHeartbeats 1000000 in
theorem map_next {Q : Option Value → Shared → Prop} (C : ∀ n' : Led, Does W f D [x] n' (fun r n'' => n'' = n' ∧ r = x))
    (B : Below A₀ base outer h₀) (F : Fr h₀ L s.heap m) (X : (KF W.w.params).In h₀) (N : News h₀ L s.heap ((S, listOf acc c) :: (mp, mapO tp f) :: (tp, tupO [.ref I]) :: (I, oI) :: news)) (hoI : oI.cls = .type "list_iterator" ∧ oI.data = .fields #[.ref l, .int (i : Int) 0]) (T : Top W.p W.loose W.mean W.mg W.mb h₀) (hk : cs.kind = .function) (hd : dp + D < recursionLimit) (hu : un + 3 + 8 * D < cLine)
    (hl : (l, listOf items n) ∈ news) (hx : items[i]? = some x) (hoff : ∀ p ∈ news, p.1 ≠ I) (o1' : S ≠ I) (o2 : mp ≠ I) (o3 : tp ≠ I)
    (ret : ∀ h' tk' oI', Fr h₀ L h' m → News h₀ L h' ((S, listOf acc c) :: (mp, mapO tp f) :: (tp, tupO [.ref I]) :: (I, oI') :: news) → (oI'.cls = .type "list_iterator" ∧ oI'.data = .fields #[.ref l, .int ((i + 1 : Nat) : Int) 0]) → Q (some x) { s with heap := h', toks := tk' }) :
    wpAny (model PG W.w) (ktrTop dp un gd cn cs L a ccd cl outer) (pyNext (.ref mp)) Q E s := by
  have hmp := (N _ (.tail _ (.head _))).1
  have htp := (N _ (.tail _ (.tail _ (.head _)))).1
  have hI := N _ (.tail _ (.tail _ (.tail _ (.head _))))
  have hls := (N _ (.tail _ (.tail _ (.tail _ (.tail _ hl))))).1
  have hT : s.TypeIs (.ref mp) "map" := ⟨_, hmp, rfl⟩
  unfold pyNext
  refine wpAny_bind (wpAny_attempt (wpAny_callSpecial?_slot (name := Str.ofString "__next__") hT mp_slot_next
    (wpAny_call_entry mp_slot_next hT mp_entry_next ?_ (mp_args_next _))))
  obtain ⟨hp, g, d, tk, os⟩ := s
  have hit : Heap.IsListIter (Shared.heap ⟨hp, g, d, tk, os⟩) I l i := ⟨_, hI.1, hoI.1, hoI.2⟩
  have hlst : Heap.IsList (Shared.heap ⟨hp, g, d, tk, os⟩) l items := ⟨_, hls, rfl, n, rfl⟩
  have nx : ∀ {Q : Value → Shared → Prop} {E : Value → Shared → Prop}, (∀ h', h'.IsListIter I l (i + 1) → Heap.SameBut I hp h' → Q x ⟨h', g, d, tk, os⟩) → wpAny (model PG W.w) (ktrTop dp un gd cn cs L a ccd cl outer).in1 (Builtin.SmallTypes.nextOf #[Value.ref I][#[Value.ref I].size - 1 - 0]) Q E ⟨hp, g, d, tk, os⟩ := fun h => wpAny_nextOf_list_item hit hlst hx h
  wp_walk using AutoSeq1.wpAny_loadPart' hmp, AutoSeq1.wpAny_loadPart' htp, nx
  intro h1 hit1 hs1
  obtain ⟨o1, ho1, hc1, hd1⟩ := hit1
  have F1 : Fr h₀ L h1 m := F.change hs1 hI.2.1 hI.2.2
  have N1 : News h₀ L h1 ((S, listOf acc c) :: (mp, mapO tp f) :: (tp, tupO [.ref I]) :: (I, o1) :: news) := fun p hp => by
    rcases List.mem_cons.mp hp with rfl | hp
    · exact ⟨(hs1.2 _ o1').trans (N _ (.head _)).1, (N _ (.head _)).2⟩
    · rcases List.mem_cons.mp hp with rfl | hp
      · exact ⟨(hs1.2 _ o2).trans hmp, (N _ (.tail _ (.head _))).2⟩
      · rcases List.mem_cons.mp hp with rfl | hp
        · exact ⟨(hs1.2 _ o3).trans htp, (N _ (.tail _ (.tail _ (.head _)))).2⟩
        · rcases List.mem_cons.mp hp with rfl | hp
          · exact ⟨ho1, hI.2⟩
          · exact ⟨(hs1.2 _ (hoff p hp)).trans (N _ (.tail _ (.tail _ (.tail _ (.tail _ hp))))).1, (N _ (.tail _ (.tail _ (.tail _ (.tail _ hp))))).2⟩
  have hmp1 := (N1 _ (.tail _ (.head _))).1
  have cf : ∀ {Q : Value → Shared → Prop} {E : Value → Shared → Prop}, (∀ h' tk', Fr h₀ L h' m → News h₀ L h' ((S, listOf acc c) :: (mp, mapO tp f) :: (tp, tupO [.ref I]) :: (I, o1) :: news) → Q x ⟨h', g, d, tk', os⟩) →
      wpAny (model PG W.w) (ktrTop dp un gd cn cs L a ccd cl outer).in1 (call #[Value.ref tp, Value.ref f][1] (#[].push x).toList) Q E ⟨h1, g, d, tk, os⟩ := fun {Q E} h =>
    C _ dp (un + 1) gd cn cs a ccd cl outer A₀ base h₀ L m ⟨h1, g, d, tk, os⟩ Q E B F1 X N1 T hk hd (by omega) (fun r n' h' tk' F' N' q => by obtain ⟨rfl, rfl⟩ := q; exact h h' tk' F' N')
  wp_walk using AutoSeq1.wpAny_loadPart' hmp1, cf
  intro h2 tk2 F2 N2
  refine wpAny_bind (wpAny_letGo (wpAny_pure ⟨_, rfl, wpAny_pure (ret h2 tk2 o1 F2 N2 ⟨hc1, hd1⟩)⟩))
set_option maxHeartbeats 1000000 in
theorem map_end {Q : Option Value → Shared → Prop} (F : Fr h₀ L s.heap m) (N : News h₀ L s.heap ((S, listOf acc c) :: (mp, mapO tp f) :: (tp, tupO [.ref I]) :: (I, oI) :: news)) (hoI : oI.cls = .type "list_iterator" ∧ oI.data = .fields #[.ref l, .int (i : Int) 0])
    (hl : (l, listOf items n) ∈ news) (hx : items[i]? = none) (hoff : ∀ p ∈ news, p.1 ≠ I) (o1' : S ≠ I)
    (ret : ∀ h', Fr h₀ L h' m → News h₀ L h' ((S, listOf acc c) :: news) → Q none { s with heap := h' }) :
    wpAny (model PG W.w) (ktrTop dp un gd cn cs L a ccd cl outer) (pyNext (.ref mp)) Q E s := by
  have hmp := (N _ (.tail _ (.head _))).1
  have htp := (N _ (.tail _ (.tail _ (.head _)))).1
  have hI := N _ (.tail _ (.tail _ (.tail _ (.head _))))
  have hls := (N _ (.tail _ (.tail _ (.tail _ (.tail _ hl))))).1
  have hT : s.TypeIs (.ref mp) "map" := ⟨_, hmp, rfl⟩
  unfold pyNext
  refine wpAny_bind (wpAny_attempt (wpAny_callSpecial?_slot (name := Str.ofString "__next__") hT mp_slot_next
    (wpAny_call_entry mp_slot_next hT mp_entry_next ?_ (mp_args_next _))))
  obtain ⟨hp, g, d, tk, os⟩ := s
  have hit : Heap.IsListIter (Shared.heap ⟨hp, g, d, tk, os⟩) I l i := ⟨_, hI.1, hoI.1, hoI.2⟩
  have hlst : Heap.IsList (Shared.heap ⟨hp, g, d, tk, os⟩) l items := ⟨_, hls, rfl, n, rfl⟩
  have nx : ∀ {Q : Value → Shared → Prop} {E : Value → Shared → Prop}, (∀ h' e, Heap.ExtBut I hp h' → (∃ o, h'.get? e = some o ∧ o.cls = .type "StopIteration") → E (.ref e) ⟨h', g, d, tk, os⟩) → wpAny (model PG W.w) (ktrTop dp un gd cn cs L a ccd cl outer).in1 (Builtin.SmallTypes.nextOf #[Value.ref I][#[Value.ref I].size - 1 - 0]) Q E ⟨hp, g, d, tk, os⟩ := fun h => wpAny_nextOf_list_end rfl hit hlst hx h
  wp_walk using AutoSeq1.wpAny_loadPart' hmp, AutoSeq1.wpAny_loadPart' htp, nx
  intro h1 e1 hs1 he1
  obtain ⟨o, ho, hc⟩ := he1
  refine wpAny_bind (wpAny_isInstance (T := "StopIteration") (b := true) ⟨o, ho, hc⟩ isSubtype_stop (wpAny_pure ?_))
  have F1 : Fr h₀ L h1 m := ⟨F.ns.extBut hs1 hI.2.1.symm, fun b o' e => hs1 b o' (fun q => by rw [q, hI.2.2] at e; cases e) (F.keep b o' e), F.above⟩
  refine ret h1 F1 fun p hp => ?_
  rcases List.mem_cons.mp hp with rfl | hp
  · exact ⟨hs1 _ _ o1' (N _ (.head _)).1, (N _ (.head _)).2⟩
  · exact ⟨hs1 _ _ (hoff p hp) (N _ (.tail _ (.tail _ (.tail _ (.tail _ hp))))).1, (N _ (.tail _ (.tail _ (.tail _ (.tail _ hp))))).2⟩
theorem upd_led (k : Array Value → Array Value) {rest : Led} {h : Heap} (N : News h₀ L h ((S, listOf acc c) :: rest)) (ho : ∀ p ∈ rest, p.1 ≠ S) : ∃ c', News h₀ L (h.update S (Obj.mapSeq k)) ((S, listOf (k acc) c') :: rest) := by
  have z := N _ (.head _)
  refine ⟨if (k acc).size == acc.size then c else c + 1, fun p hp => ?_⟩
  rcases List.mem_cons.mp hp with rfl | hp
  · exact ⟨Heap.get?_update_self _ z.1 rfl, z.2⟩
  · exact ⟨(Heap.get?_update_other _ _ (fun e => ho p hp e.symm)).trans (N _ (.tail _ hp)).1, (N _ (.tail _ hp)).2⟩
end
section
variable {W : Wd} {f : Addr} {D : Nat}
  {gd : Option (List Code)} {cn : Str} {cs : Scope} {a : Addr} {ccd : Value} {cl : List (Str × Addr)} {outer : List Env} {A₀ : Around} {base h₀ : Heap} {L : Addr} {m : Str → Option Value}
  {S mp tp I l : Addr} {items : Array Value} {n : Nat} {news : Led} {dp un : Nat}
theorem map_loop {res : Value} {R : Result → Shared → Prop} (C : ∀ x ∈ items.toList, ∀ n' : Led, Does W f D [x] n' (fun r n'' => n'' = n' ∧ r = x)) (hz : items.size ≤ 1000)
    (B : Below A₀ base outer h₀) (X : (KF W.w.params).In h₀) (T : Top W.p W.loose W.mean W.mg W.mb h₀) (hk : cs.kind = .function) (hd : dp + D < recursionLimit) (hu : un + 5 + 8 * D < cLine)
    (hl : (l, listOf items n) ∈ news) (hoff : ∀ p ∈ news, p.1 ≠ I) (oS : ∀ p ∈ news, p.1 ≠ S) (o1 : S ≠ I) (o2 : mp ≠ I) (o3 : tp ≠ I) (o4 : mp ≠ S) (o5 : tp ≠ S) :
    ∀ (k i : Nat) (s : Shared) (acc : Array Value) (c : Nat) (oI : Obj), items.size - i = k → i ≤ items.size → acc = (items.toList.take i).toArray → Fr h₀ L s.heap m → News h₀ L s.heap ((S, listOf acc c) :: (mp, mapO tp f) :: (tp, tupO [.ref I]) :: (I, oI) :: news) →
    (oI.cls = .type "list_iterator" ∧ oI.data = .fields #[.ref l, .int (i : Int) 0]) →
    (∀ h' tk' c', Fr h₀ L h' m → News h₀ L h' ((S, listOf items c') :: news) → R (.ok (.ret res)) { s with heap := h', toks := tk' }) →
    codeAny (model PG W.w) (ktrTop dp un gd cn cs L a ccd cl outer) (.builtin "list.extend.loop" ⟨[.ref S, .ref mp, res], []⟩) R s := by
  intro k
  induction k with
  | zero =>
    intro i s acc c oI hki hi hacc F N hoI hR
    refine codeAny_builtin PySem.F.entry_extend_loop ?_
    rw [Around.under_plainId PySem.F.plain_extend_loop _]
    show wpAny _ (ktrTop dp (un + 1) gd cn cs L a ccd cl outer) (pyNext (.ref mp) >>= _) _ _ s
    refine wpAny_bind (map_end F N hoI hl (by rw [Array.getElem?_eq_none]; omega) hoff o1 fun h' F' N' => ?_)
    refine wpAny_pure (hR h' s.toks c F' ?_)
    have e : acc = items := by rw [hacc, List.take_of_length_le (by rw [Array.length_toList]; omega)]
    rw [← e]; exact N'
  | succ k ih =>
    intro i s acc c oI hki hi hacc F N hoI hR
    have hlt : i < items.size := by omega
    have hx : items[i]? = some items[i] := Array.getElem?_eq_getElem hlt
    have hsz : acc.size = i := by rw [hacc, List.size_toArray, List.length_take, Array.length_toList]; omega
    refine codeAny_builtin PySem.F.entry_extend_loop ?_
    rw [Around.under_plainId PySem.F.plain_extend_loop _]
    show wpAny _ (ktrTop dp (un + 1) gd cn cs L a ccd cl outer) (pyNext (.ref mp) >>= _) _ _ s
    refine wpAny_bind (map_next (C _ (by simp)) B F X N hoI T hk hd (by omega) hl hx hoff o1 o2 o3 fun h' tk' oI' F' N' hoI' => ?_)
    show wpAny _ _ (updateSeq S (·.push items[i]) >>= _) _ _ _
    have zS := N' _ (.head _)
    refine wpAny_bind (wpAny_updateSeq zS.1 rfl (wpAny_pure ⟨plainId_quiet PySem.F.plain_extend_loop _, ?_⟩) (by rw [hsz, sizeLine_eq]; omega) (by show (acc.push _).size ≤ _; rw [Array.size_push, hsz, sizeLine_eq]; omega))
    obtain ⟨c', N2⟩ := upd_led (·.push items[i]) N' (off_cons o4 (off_cons o5 (off_cons o1.symm oS)))
    refine ih (i + 1) _ (acc.push items[i]) c' oI' (by omega) hlt ?_ (F'.change (Heap.SameBut.update ..) zS.2.1 zS.2.2) N2 hoI' fun h2 tk2 c2 F2 N3 => hR h2 tk2 c2 F2 N3
    rw [hacc, List.push_toArray, List.take_add_one, Array.getElem?_toList, hx]; rfl
theorem map_collect {s : Shared} {Q : List Value → Shared → Prop} {E : Value → Shared → Prop} {oI : Obj} (C : ∀ x ∈ items.toList, ∀ n' : Led, Does W f D [x] n' (fun r n'' => n'' = n' ∧ r = x)) (hz : items.size ≤ 1000)
    (B : Below A₀ base outer h₀) (X : (KF W.w.params).In h₀) (T : Top W.p W.loose W.mean W.mg W.mb h₀) (hk : cs.kind = .function) (hd : dp + D < recursionLimit) (hu : un + 5 + 8 * D < cLine)
    (F : Fr h₀ L s.heap m) (N : News h₀ L s.heap ((mp, mapO tp f) :: (tp, tupO [.ref I]) :: (I, oI) :: news)) (hoI : oI.cls = .type "list_iterator" ∧ oI.data = .fields #[.ref l, .int ((0 : Nat) : Int) 0])
    (hl : (l, listOf items n) ∈ news) (hoff : ∀ p ∈ news, p.1 ≠ I) (o2 : mp ≠ I) (o3 : tp ≠ I)
    (ret : ∀ h' tk', Fr h₀ L h' m → News h₀ L h' news → Q items.toList { s with heap := h', toks := tk' }) :
    wpAny (model PG W.w) (ktrTop dp un gd cn cs L a ccd cl outer) (collect (.ref mp)) Q E s := by
  have lt : ∀ p ∈ ((mp, mapO tp f) :: (tp, tupO [.ref I]) :: (I, oI) :: news : Led), p.1 < s.heap.objs.size := fun p hp => Heap.lt_size (N p hp).1
  unfold collect
  refine wpAny_bind (wpAny_runValue (codeAny_builtin PySem.F.entry_proto_collect ?_))
  rw [Around.under_plainId PySem.F.plain_proto_collect _]
  show wpAny _ (ktrTop dp (un + 1) gd cn cs L a ccd cl outer) (newList [] >>= fun l => again (.builtin "list.__iadd__" ⟨[l, .ref mp], []⟩)) _ _ s
  refine wpAny_bind (newList_K F N fun S h1 F1 N1 lS => ?_)
  refine wpAny_pure ⟨plainId_quiet PySem.F.plain_list_iadd _, codeAny_builtin PySem.F.entry_list_iadd ?_⟩
  rw [Around.under_plainId PySem.F.plain_list_iadd _]
  show wpAny _ (ktrTop dp (un + 1) gd cn cs L a ccd cl outer) (Builtin.List.listExtendWith (.ref S) (.ref mp) (.ref S)) _ _ _
  have hS : S ≠ mp := Nat.ne_of_gt (lS _ (.head _))
  have hT : ({ s with heap := h1 } : Shared).TypeIs (.ref mp) "map" := ⟨_, (N1 _ (.tail _ (.head _))).1, rfl⟩
  unfold Builtin.List.listExtendWith
  refine wpAny_bind (wpAny_typeOf hT ?_)
  have e1 : Builtin.List.listSameRef (.ref S) (.ref mp) = false := by simp [Builtin.List.listSameRef, hS]
  rw [if_neg (by rw [e1]; decide)]
  refine wpAny_bind (wpAny_pyIter_slot hT mp_slot_iter (wpAny_call_entry mp_slot_iter hT mp_entry_iter (wpAny_pure ⟨_, rfl, "map", _, hT, mp_slot_next.lookup, ?_⟩) (mp_args_iter _)))
  refine wpAny_bind (wpAny_holding ?_)
  unfold Builtin.List.listLengthHint
  refine wpAny_bind (wpAny_specialOf hT mp_nolen ?_)
  show wpAny _ (ktrTop dp (un + 1) gd cn cs L a ccd cl outer) (specialOf (Value.ref mp) (Str.ofString "__length_hint__") >>= _) _ _ _
  refine wpAny_bind (wpAny_specialOf hT mp_nohint ?_)
  refine wpAny_pure ?_
  show wpAny _ (ktrTop dp (un + 1) gd cn cs L a ccd cl outer) (rule "list.extend.makes-room" >>= fun _ => Builtin.List.listTouch (.ref S) >>= fun _ =>
    again (.builtin "list.extend.loop" ⟨[.ref S, .ref mp, .ref S], []⟩)) _ _ _
  refine wpAny_bind (wpAny_rule ?_)
  refine wpAny_bind ?_
  show wpAny _ (ktrTop dp (un + 1) gd cn cs L a ccd cl outer) (updateSeq S (·.push .none) >>= fun _ => updateSeq S (·.pop)) _ _ _
  have z1 := N1 _ (.head _)
  have lS' : ∀ p ∈ ((mp, mapO tp f) :: (tp, tupO [.ref I]) :: (I, oI) :: news : Led), p.1 ≠ S := fun p hp => Nat.ne_of_lt (lS p hp)
  refine wpAny_bind (wpAny_updateSeq z1.1 rfl ?_)
  obtain ⟨c2, N2⟩ := upd_led (·.push .none) N1 lS'
  have F2 := F1.change (Heap.SameBut.update (a := S) (f := Obj.mapSeq (·.push .none)) ..) z1.2.1 z1.2.2
  have z2 := N2 _ (.head _)
  refine wpAny_updateSeq z2.1 rfl ?_
  obtain ⟨c3, N3⟩ := upd_led (·.pop) N2 lS'
  have F3 := F2.change (Heap.SameBut.update (a := S) (f := Obj.mapSeq (·.pop)) ..) z2.2.1 z2.2.2
  have e0 : (#[] : Array Value) = (items.toList.take 0).toArray := rfl
  refine wpAny_pure ⟨plainId_quiet PySem.F.plain_extend_loop _, map_loop C hz B X T hk hd hu hl hoff (fun p hp => lS' p (.tail _ (.tail _ (.tail _ hp)))) (lS' _ (.tail _ (.tail _ (.head _)))).symm o2 o3 (lS' _ (.head _)) (lS' _ (.tail _ (.head _))) items.size 0 _ #[] c3 oI rfl (Nat.zero_le _) e0 F3 N3 hoI fun h4 tk4 c4 F4 N4 => ?_⟩
  show wpAny _ _ (load S >>= _) _ _ _
  refine wpAny_bind (wpAny_load (N4 _ (.head _)).1 ?_)
  exact wpAny_pure (ret h4 tk4 F4 fun p hp => N4 p (.tail _ hp))
theorem map_tuple {s : Shared} {Q E : Value → Shared → Prop} {oI : Obj} (C : ∀ x ∈ items.toList, ∀ n' : Led, Does W f D [x] n' (fun r n'' => n'' = n' ∧ r = x)) (hz : items.size ≤ 1000)
    (B : Below A₀ base outer h₀) (X : (KF W.w.params).In h₀) (T : Top W.p W.loose W.mean W.mg W.mb h₀) (hk : cs.kind = .function) (hd : dp + D < recursionLimit) (hu : un + 8 + 8 * D < cLine)
    (F : Fr h₀ L s.heap m) (N : News h₀ L s.heap ((mp, mapO tp f) :: (tp, tupO [.ref I]) :: (I, oI) :: news)) (hoI : oI.cls = .type "list_iterator" ∧ oI.data = .fields #[.ref l, .int ((0 : Nat) : Int) 0])
    (hl : (l, listOf items n) ∈ news) (hoff : ∀ p ∈ news, p.1 ≠ I) (o2 : mp ≠ I) (o3 : tp ≠ I)
    (ret : ∀ t h' tk', Fr h₀ L h' m → News h₀ L h' ((t, tupO items.toList) :: news) → (∀ p ∈ news, p.1 < t) → Q (.ref t) { s with heap := h', toks := tk' }) :
    wpAny (model PG W.w) (ktrTop dp un gd cn cs L a ccd cl outer) (call (.type "tuple") [.ref mp]) Q E s := by
  have key : MeetsIn PG W.w (Builtin.«tuple.__new__» ⟨[.type "tuple", .ref mp], []⟩) (fun A R s' => A = ktrTop dp (un + 1) gd cn cs L a ccd cl outer ∧ s' = s ∧
      ∀ t h' tk', Fr h₀ L h' m → News h₀ L h' ((t, tupO items.toList) :: news) → (∀ p ∈ news, p.1 < t) → R (.ok (.ret (.ref t))) { s with heap := h', toks := tk' }) :=
    .of_wp fun A R s' h => by
      obtain ⟨rfl, rfl, h⟩ := h
      obtain ⟨hp, g, d, tk, os⟩ := s'
      have hmp := (N _ (.head _)).1
      have hsub := sub_tuple_self
      have hinit := init_tuple_lookup
      have hmh := madeHere_tuple
      have hT : Shared.TypeIs ⟨hp, g, d, tk, os⟩ (.ref mp) "map" := ⟨_, hmp, rfl⟩
      have col : ∀ {Q : List Value → Shared → Prop} {E : Value → Shared → Prop}, (∀ h' tk', Fr h₀ L h' m → News h₀ L h' news → Q items.toList ⟨h', g, d, tk', os⟩) → wpAny (model PG W.w) (ktrTop dp (un + 1) gd cn cs L a ccd cl outer).in1 (collect (.ref mp)) Q E ⟨hp, g, d, tk, os⟩ := fun h => map_collect (dp := dp) (un := un + 2) C hz B X T hk hd (by omega) F N hoI hl hoff o2 o3 h
      wp_walk using AutoSeq1.wpAny_loadPart' hmp, wpAny_typeOf hT, col
      intro h1 tk1 F1 N1
      show wpAny _ _ (Builtin.Tuple.tupleExact items.toList.toArray >>= fun v => PySem.ret v) _ _ _
      unfold Builtin.Tuple.tupleExact
      refine wpAny_bind (wpAny_newObj_type ?_ (by show items.toList.toArray.size ≤ sizeLine; rw [sizeLine_eq]; simp; omega))
      exact wpAny_pure ⟨_, rfl, h _ _ _ (F1.push _) (N1.push F1 _) fun p hp => Heap.lt_size (N1 p hp).1⟩
  refine callType_newIn PySem.F.called_tuple (by decide) (PySem.F.typeCall_tuple_1 _) (PySem.F.newCall_tuple_1 _) (fun obj => PySem.F.args_object_init_2 obj _) PySem.F.entry_tuple_new key ⟨rfl, rfl, fun t h' tk' F' N' lt => ⟨⟨_, (N' _ (.head _)).1, rfl⟩, ret t h' tk' F' N' lt⟩⟩
end
/-! a list comprehension over a tuple of the ledger, its list stored in a name -/
section
open PyProof.Rows.LCg
variable {prog : Program} {w : World} {A : Around} {E : Value → Shared → Prop} {s : Shared} {h₀ : Heap} {L : Addr} {m : Str → Option Value} {env : Env}
/-- a tuple of the ledger as a comprehension's source -/
noncomputable def TupSrc (prog : Program) (w : World) (A : Around) (h₀ : Heap) (L : Addr) (m : Str → Option Value) (env : Env) (elt : Expr) (x : Str) (scope : Scope) (cl : List (Str × Addr)) (Fin : Shared → List Value → Led → Prop) (xv : Value) (s₁ : Shared) : Prop :=
  ∃ ax its news, xv = .ref ax ∧ A.handled = none ∧ Fr h₀ L s₁.heap m ∧ News h₀ L s₁.heap news ∧ (ax, tupO its) ∈ news ∧ its.length ≤ 1000 ∧
    ∀ s₂ : Shared, (∃ h, s₂ = { s₁ with heap := h }) → CompRest prog w A h₀ L m env elt x scope cl s₂ (fun nw => (ax, tupO its) ∈ nw) (fun i v => its[i]? = some v) (Fin s₂) its.length 0 [] news
theorem tup_st {ax I : Addr} {its : List Value} (i : Nat) (h h' : Heap) (o : Obj) (nw : Led) (st : h.IsTupleIter I ax i ∧ h.IsTuple ax its.toArray) (e : h.get? I = some o) (e' : h'.get? I = some o) (_ : ∀ b o, h₀.get? b = some o → h'.get? b = some o) (N : News h₀ L h' nw) (S : (ax, tupO its) ∈ nw) : h'.IsTupleIter I ax i ∧ h'.IsTuple ax its.toArray := by
  refine ⟨?_, ⟨_, (N _ S).1, rfl, _, rfl⟩⟩
  obtain ⟨o', q, r⟩ := st.1
  rw [e] at q
  cases q
  exact ⟨o, e', r⟩
theorem asg_comp_tup {elt iter : Expr} {x y : Str} {px py : Pos} {scope : Scope} {cl : List (Str × Addr)} {pos spos : Pos} {Q : Flow → Shared → Prop} (_F₀ : Fr h₀ L s.heap m) (hLe : env.locals = L)
    (hsw : swapsWith (.ListComp elt [⟨.Name x px, iter, [], 0⟩] scope pos) (some (.Name y py)) spos.line env = pure true)
    (hclos : closureFor scope env = pure cl) (hcell : ∀ z ∈ scope.names, z.2 ≠ .cell) (hkind : scope.kind = .function)
    (hnames : ∀ z ∈ scope.names, z.2 = .local → scope.names.lookup z.1 = some .local) (hx : scope.names.lookup x = some .local)
    (hy : env.kindOf y = some .local) (hp : (env.scope.kind == .class || (env.scope.kind == .module && env.locals != env.globals)) = false)
    (h : wpAny (model prog w) A (eval iter env) (TupSrc prog w A h₀ L m env elt x scope cl (fun s₂ => FinA h₀ L m s₂ y Q)) E s)
    (hs : ∀ x, foldedSetIterable iter env x = pure x := by intro _; rfl) :
    wpAny (model prog w) A (exec (.Assign [.Name y py] (.ListComp elt [⟨.Name x px, iter, [], 0⟩] scope pos) spos) env) Q E s := by
  subst hLe
  rw [exec_Assign_Name_used _ _ _ _ hsw]
  refine wpAny_bind (wpAny_standAt (wpAny_bind ?_))
  show wpAny _ A (do let _ ← comprehension (.ListComp elt [⟨.Name x px, iter, [], 0⟩] scope pos) scope env _ (newList []) false (eval iter env) (some (assign (.Name y py) env))) _ _ s
  refine wpAny_bind (wpAny_mono (wpAny_comprehension_free (use := some (assign (.Name y py) env)) (Q := fun _ s' => Q .next s') rfl hs hclos hkind hnames
    (wpAny_mono h (fun xv s₁ h₁ => ?_) fun _ _ e => e)) (fun _ s' hq => wpAny_pure (wpAny_pure hq)) fun _ _ e => e)
  obtain ⟨ax, its, news, rfl, hh, F, N, S, hsz, R⟩ := h₁
  have hl : s₁.heap.IsTuple ax its.toArray := ⟨_, (N _ S).1, rfl, _, rfl⟩
  have hlt : ax < s₁.heap.objs.size := Heap.lt_size (N _ S).1
  refine wpAny_pyIter_tuple hl ?_
  have W := Walks.tuple (prog := prog) (w := w) hh s₁.heap.objs.size ax (Nat.ne_of_lt hlt) its.toArray
  rw [List.size_toArray] at W
  have W' : Walks prog w A s₁.heap.objs.size [s₁.heap.objs.size, ax] [s₁.heap.objs.size] its.length (fun i v => its[i]? = some v) (fun i h => h.IsTupleIter s₁.heap.objs.size ax i ∧ h.IsTuple ax its.toArray) := by simpa using W
  refine block_U W' (by rw [sizeLine_eq]; omega) (fun i h st => by obtain ⟨o, e, _⟩ := st.1; exact ⟨o, e⟩) tup_st hcell hkind hx ⟨⟨_, Heap.get?_push_size _ rfl, rfl, rfl⟩, hl.at fun o e => Heap.get?_push_of_some _ e⟩ (fun b hb => ?_)
    (F.push _) (push_all N _) (Nat.ne_of_lt F.ns.lt) (next_is_new F) (push_off N) S (R _ ⟨_, rfl⟩) ?_
  · show b < (s₁.heap.push _).objs.size
    rw [Heap.size_push]
    rcases List.mem_cons.mp hb with rfl | hb
    · exact Nat.lt_succ_self _
    · rw [List.mem_singleton.mp hb]; exact Nat.lt_succ_of_lt hlt
  · intro D C h' tk m' ys news' F' N' o1 hn hC₀ hD₀ hCL hDL hCD offC fin
    show wpAny _ A (assign (.Name y py) env (.ref D)) _ _ _
    refine wpAny_assign_Name (wpAny_storeName_local hy F'.ns (fun h₂ hn₂ hs₂ => ?_) hp)
    have hL₀ : h₀.get? env.locals = none := Heap.get?_none_of_le F'.above
    have F₂ : Fr h₀ env.locals h₂ (fun z => if z = y then some (.ref D) else m z) := ⟨hn₂, fun b o e => hs₂.extBut b o (fun q => by rw [q, hL₀] at e; cases e) (F'.keep b o e), F'.above⟩
    refine ⟨m', hn.sameBut hs₂ hCL, fun h'' hs'' => fin D h'' _ (F₂.change hs'' hCL hC₀) (fun p hp => ?_) o1⟩
    have z : h₂.get? p.1 = some p.2 := hs₂.extBut _ _ (N' p hp).2.1 (N' p hp).1
    refine ⟨hs''.extBut _ _ ?_ z, (N' p hp).2⟩
    rcases List.mem_cons.mp hp with rfl | hp
    · exact Ne.symm hCD
    · exact offC p hp
/-- a comprehension's turns by an invariant -/
theorem comp_ind {elt : Expr} {x : Str} {scope : Scope} {cl : List (Str × Addr)} {S : Led → Prop} {P : Nat → Value → Prop} {Fin : List Value → Led → Prop} {n : Nat} (J : Nat → List Value → Led → Prop)
    (turn : ∀ i ys news v I oI C oC D m₂ h tk (E' : Value → Shared → Prop), i < n → J i ys news → P i v → NsObj oC m₂ → m₂ x = some v → Fr h₀ L h m → News h₀ L h ((I, oI) :: (C, oC) :: (D, lst ys) :: news) → Off3 I C D news → I ≠ C → I ≠ D → C ≠ D →
      wpAny (model prog w) A (eval elt (compEnvC scope cl C env)) (CompEnd h₀ L m { s with heap := h, toks := tk } I oI C oC D (lst ys) S (fun y news' => J (i + 1) (ys ++ [y]) news')) E' { s with heap := h, toks := tk })
    (fin : ∀ ys news, J n ys news → Fin ys news) : ∀ (k i : Nat) (ys : List Value) (news : Led), i + k = n → J i ys news → CompRest prog w A h₀ L m env elt x scope cl s S P Fin k i ys news
  | 0, i, ys, news, e, hj => fin ys news (by rw [← e]; exact hj)
  | k + 1, i, ys, news, e, hj => fun v I oI C oC D m₂ h tk E' hP hC hx F N off ne =>
    wpAny_mono (turn i ys news v I oI C oC D m₂ h tk E' (by omega) hj hP hC hx F N off ne.1 ne.2.1 ne.2.2) (fun y s₂ q => by
      obtain ⟨h', tk', news', e1, F', N', o', hS, r⟩ := q
      exact ⟨h', tk', news', e1, F', N', o', hS, comp_ind J turn fin k (i + 1) _ _ (by omega) r⟩) fun _ _ z => z
end
/-! a set of True alone: its comprehension and its unpacking, as commonpath uses them -/
noncomputable def setE (led : Bool) : Obj := { cls := .type "set", dict := none, data := .set #[] 0 (.fresh 0 0 led) }
noncomputable def setT (led : Bool) : Obj := { cls := .type "set", dict := none, data := .set #[(1, .bool true)] 1 { mask := 7, place := #[1], dummies := #[], finger := 0, led := led, moves := 0, plain := true } }
section
variable {prog : Program} {w : World} {A : Around} {E : Value → Shared → Prop} {s : Shared} {a : Addr} {led : Bool}
theorem hash_true {Q : Int → Shared → Prop} (h : Q 1 { s with toks := s.toks + 1 }) : wpAny (model prog w) A (pyHash (.bool true)) Q E s := by
  unfold pyHash
  have hT : s.TypeIs (.bool true) "bool" := rfl
  have hv : [Value.bool true].any Value.onHeap = false := rfl
  refine wpAny_bind ?_
  rw [cRoomFor, if_neg (by rw [hv]; exact Bool.false_ne_true)]; refine wpAny_pure ?_
  refine wpAny_bind (wpAny_specialOf hT F.slot_bool_hash.lookup ?_)
  show wpAny _ _ (if (some (Value.builtin "int.__hash__") == some Value.none) = true then _ else _) Q E s
  rw [if_neg (by rw [beq_builtin_none]; exact Bool.false_ne_true)]
  refine wpAny_bind (wpAny_specialOf hT F.slot_bool_hash.lookup ?_)
  show wpAny _ _ (callSpecialIfBoundUnlessNone? (.bool true) "__hash__" _ >>= _) Q E s
  refine wpAny_bind (wpAny_callSpecialIfBoundUnlessNone?_slot hT F.slot_bool_hash
    (wpAny_call_entry F.slot_bool_hash hT entry_int_hash
      (show wpAny _ _ (do ret (← mkInt 1)) _ _ s from wpAny_ret_mkInt ?_) (args_int_hash _)))
  exact wpAny_pure h
theorem eq_true {Q : Bool → Shared → Prop} (h : Q true s) : wpAny (model prog w) A (eqBool (.bool true) (.bool true)) Q E s := by
  unfold eqBool
  refine wpAny_holding ?_
  rw [if_pos (by decide)]
  exact wpAny_bind (wpAny_rule (wpAny_pure h))
theorem add_true {o : Obj} {Q : Value → Shared → Prop} (ho : s.heap.get? a = some o) (hs : o = setE led ∨ o = setT led)
    (h : ∀ h', Heap.SameBut a s.heap h' → h'.get? a = some (setT led) → Q .none { s with heap := h', toks := s.toks + 1 }) :
    wpAny (model prog w) A (call (.builtin "set.add") [.ref a, .bool true]) Q E s := by
  have hT : s.TypeIs (.ref a) "set" := ⟨o, ho, by rcases hs with rfl | rfl <;> rfl⟩
  refine wpAny_call_entry F.slot_set_add hT F.entry_set_add ?_ (F.args_set_add_2 _ _)
  unfold Builtin.«set.add» Builtin.Frozenset.oneOther
  simp only [List.isEmpty_nil, bind_assoc]
  unfold Builtin.Frozenset.addrOf setAdd
  refine wpAny_bind (wpAny_pure ?_)
  try dsimp only
  refine wpAny_bind (wpAny_pure ?_)
  try dsimp only
  refine wpAny_bind ?_
  refine wpAny_holding ?_
  refine wpAny_bind (hash_true ?_)
  unfold setAddHashed setAddHashedIn
  rcases hs with rfl | rfl
  · refine wpAny_holding (wpAny_bind (wpAny_setState_of (s := { s with toks := s.toks + 1 }) ho rfl rfl ?_))
    dsimp only
    rw [show byScan (.bool true) #[] = true by decide +kernel, if_pos rfl]
    unfold setAddByScan
    refine wpAny_bind (wpAny_bind (wpAny_rule (wpAny_bind ?_)))
    show wpAny _ _ (pure ScanMet.absent) _ _ _
    refine wpAny_pure ?_
    dsimp only
    rw [show layNew (.fresh 0 0 led) #[] 1 (.bool true) = (#[((1 : Int), Value.bool true)], ({ mask := 7, place := #[1], dummies := #[], finger := 0, led := led, moves := 0, plain := true } : SetTable), false, false) by cases led <;> decide +kernel]
    dsimp only
    refine wpAny_bind (wpAny_pure ?_)
    rw [if_pos rfl]
    refine wpAny_bind ?_
    rw [hashByValue_scannable 8 rfl]
    refine wpAny_pure ?_
    dsimp only [plainKind]
    have e1 : (s.heap.update a (Obj.putSet #[((1 : Int), Value.bool true)] { mask := 7, place := #[1], dummies := #[], finger := 0, led := led, moves := 0, plain := true })).get? a = some (setT led) := Heap.get?_update_self (Obj.putSet _ _) ho rfl
    refine wpAny_bind (wpAny_storeSet_of (s := { s with toks := s.toks + 1 }) ho rfl ?_ (fits_of_scanBound (by decide)))
    rw [if_neg (by cases led <;> decide)]
    exact wpAny_pure (wpAny_pure (wpAny_pure ⟨_, rfl, h _ (Heap.SameBut.update ..) e1⟩))
  · refine wpAny_holding (wpAny_bind (wpAny_setState_of (s := { s with toks := s.toks + 1 }) ho rfl rfl ?_))
    dsimp only
    rw [show byScan (.bool true) #[((1 : Int), Value.bool true)] = true by decide +kernel, if_pos rfl]
    unfold setAddByScan
    refine wpAny_bind (wpAny_bind (wpAny_rule (wpAny_bind ?_)))
    show wpAny _ _ (setScanFrom a (.bool true) 1 true [((1 : Int), Value.bool true)] 0) _ _ _
    unfold setScanFrom
    rw [if_pos (by decide)]
    refine wpAny_bind ?_
    refine wpAny_setEpoch_of (s := { s with toks := s.toks + 1 }) ho rfl rfl ?_
    refine wpAny_bind (eq_true ?_)
    rw [if_pos rfl]
    exact wpAny_pure (wpAny_pure (wpAny_pure (wpAny_pure ⟨_, rfl, h _ (Heap.SameBut.refl ..) ho⟩)))
theorem si_slot_next : Slot "set_iterator" "__next__" "set_iterator.__next__" :=
  .of (owner := "set_iterator") (n := "__next__") (by rw [typeLookup_type, builtinLookup_eq_fast]; kernel_rfl) (by decide +kernel) (by decide +kernel) (by decide +kernel)
    (by first | exact .inl (by decide +kernel) | exact .inr (by decide +kernel)) (by rw [isSubtype_type]; kernel_rfl)
theorem si_owner : Manifest.owners.lookup (String.ofList ['r', 'o', 't', 'a', 'r', 'e', 't', 'i', '_', 't', 'e', 's'].reverse) = some Manifest.sig_set_iterator := by kernel_rfl
theorem si_entry_next : entryFor table "set_iterator.__next__" = some Builtin.«set_iterator.__next__» := entryFor_of_tree (by kernel_rfl)
theorem si_args_next (a : Value) : argsOk "set_iterator.__next__" ⟨[a], []⟩ := by
  unfold argsOk; rw [signature?_of (id := "set_iterator.__next__") (n := ['_', '_', 't', 'x', 'e', 'n', '_', '_']) (o := ['r', 'o', 't', 'a', 'r', 'e', 't', 'i', '_', 't', 'e', 's']) (by kernel_rfl) si_owner]; kernel_rfl
theorem si_entry_iter : entryFor table "set.__iter__" = some Builtin.«frozenset.__iter__» :=
  entryFor_alias (id' := "frozenset.__iter__") (by kernel_rfl) (by first | rfl | decide +kernel | (unfold String.splitOn; simp +decide [String.splitOnAux])) (by decide +kernel) (by kernel_rfl)
noncomputable def siO (_a : Addr) (x y : Nat) (r : Value) : Obj := { cls := .type "set_iterator", data := .fields #[.int (x : Int) 0, .int (y : Int) 0, r, .int 1 0, .int 1 0] }
theorem set_iter {Q : Value → Shared → Prop} (ho : s.heap.get? a = some (setT led)) (h : Q (.ref s.heap.objs.size) { s with heap := s.heap.push (siO a 0 0 (.ref a)) }) :
    wpAny (model prog w) A (pyIter (.ref a)) Q E s := by
  have hT : s.TypeIs (.ref a) "set" := ⟨_, ho, rfl⟩
  refine wpAny_pyIter_slot hT F.slot_set_iter (wpAny_call_entry F.slot_set_iter hT si_entry_iter ?_ (F.args_set_iter_1 _))
  unfold Builtin.«frozenset.__iter__»
  refine wpAny_bind (m := Builtin.Frozenset.slot0 "__iter__" _) (wpAny_pure ?_)
  refine wpAny_bind (wpAny_bind (wpAny_setEntries_of ho rfl rfl (wpAny_pure ?_)))
  refine wpAny_bind ?_
  unfold setDrawn
  refine wpAny_bind (wpAny_setState_of ho rfl rfl ?_)
  unfold setsByText
  refine wpAny_bind (wpAny_bind (wpAny_askSetting (wpAny_pure ?_)))
  refine wpAny_pure ?_
  dsimp only
  rw [if_neg (by intro e; rw [Bool.and_eq_true] at e; exact absurd e.2 (by cases led <;> decide))]
  refine wpAny_bind (wpAny_pure ?_)
  refine wpAny_bind (wpAny_setEpoch_of ho rfl rfl ?_)
  unfold newFields
  refine wpAny_bind (wpAny_newObj_type ?_)
  exact wpAny_pure ⟨_, rfl, "set_iterator", _, ⟨_, Heap.get?_push_size _ rfl, rfl⟩, si_slot_next.lookup, h⟩
theorem si_next {I : Addr} {Q : Option Value → Shared → Prop} (hl : led = !(w.params.followText "set-order")) (ho : s.heap.get? a = some (setT led)) (hI : s.heap.get? I = some (siO a 0 0 (.ref a))) (hne : a ≠ I)
    (h : ∀ h' x, Heap.SameBut I s.heap h' → h'.get? I = some (siO a x 1 (.ref a)) → (x = if w.params.followText "set-order" = true then 0 else 2) → Q (some (.bool true)) { s with heap := h' }) :
    wpAny (model prog w) A (pyNext (.ref I)) Q E s := by
  have hT : s.TypeIs (.ref I) "set_iterator" := ⟨_, hI, rfl⟩
  unfold pyNext
  refine wpAny_bind (wpAny_attempt (wpAny_callSpecial?_slot (name := Str.ofString "__next__") hT si_slot_next
    (wpAny_call_entry si_slot_next hT si_entry_next ?_ (si_args_next _))))
  obtain ⟨hp, g, d, tk, os⟩ := s
  unfold Builtin.«set_iterator.__next__» setNext
  wp_walk using AutoSeq1.wpAny_loadPart' hI, wpAny_setEntries_of ho rfl rfl, wpAny_setState_of ho rfl rfl
  have e0 : ∀ f : Nat → Nat, pickOrder f #[((1 : Int), Value.bool true)] = #[((1 : Int), Value.bool true)] := fun f => by simp [pickOrder, pickOrder.go, Nat.mod_one]
  have fin : ∀ (x : Nat) (E₂ : Value → Shared → Prop), (x = if w.params.followText "set-order" = true then 0 else 2) → wpAny (model prog w) A.in1 (do
      setField (.ref I) 0 (rawInt (x : Nat))
      setField (.ref I) 1 (rawInt (((0 : Nat) : Int) + 1))
      ret (.bool true)) (fun f s' => ∃ v, f = Fin.done (Flow.ret v) ∧ wpAny (model prog w) A (pure (some v)) Q E s') E₂ ⟨hp, g, d, tk, os⟩ := fun x E₂ hx => by
    refine wpAny_bind (wpAny_setField_rec hI (by show 0 < 5; decide) fun h1 g1 b1 => ?_)
    refine wpAny_bind (wpAny_setField_rec (s := ⟨h1, g, d, tk, os⟩) g1 (by show 1 < 5; decide) fun h2 g2 b2 => ?_)
    exact wpAny_pure ⟨_, rfl, wpAny_pure (h h2 x (b1.trans b2) g2 hx)⟩
  refine wpAny_askSetting (wpAny_pure ?_)
  dsimp only
  show wpAny _ _ (if w.params.followText "set-order" = true then _ else _) _ _ _
  cases hb : w.params.followText "set-order" with
  | true =>
    rw [if_pos rfl, if_neg (by decide)]
    unfold setWalk
    refine wpAny_bind (wpAny_bind (wpAny_setState_of ho rfl rfl ?_))
    unfold setsByText
    refine wpAny_bind (wpAny_bind (wpAny_askSetting (wpAny_pure ?_)))
    dsimp only
    show wpAny _ _ (if w.params.followText "set-order" = true then _ else _) _ _ _
    rw [if_pos hb]
    refine wpAny_bind (wpAny_askSetting (wpAny_pure ?_))
    rw [e0]
    refine wpAny_pure ?_
    rw [show (Option.map (fun e : Int × Value => (e.2, ((0 : Nat) : Int).toNat)) #[((1 : Int), Value.bool true)][((0 : Nat) : Int).toNat]?) = some (.bool true, 0) from rfl]
    exact fin 0 _ (by rw [hb]; rfl)
  | false =>
    rw [hb] at hl
    subst hl
    rw [if_neg (by decide)]
    rw [if_neg (by decide)]
    refine wpAny_bind (wpAny_pure ?_)
    refine wpAny_pure ?_
    exact fin 2 _ (by rw [hb]; rfl)
theorem si_end {I x : Nat} {Q : Option Value → Shared → Prop} (hh : A.handled = none) (hl : led = !(w.params.followText "set-order")) (ho : s.heap.get? a = some (setT led)) (hI : s.heap.get? I = some (siO a x 1 (.ref a))) (hx : x = if w.params.followText "set-order" = true then 0 else 2)
    (h : ∀ h', Heap.ExtBut I s.heap h' → Q none { s with heap := h' }) :
    wpAny (model prog w) A (pyNext (.ref I)) Q E s := by
  have hT : s.TypeIs (.ref I) "set_iterator" := ⟨_, hI, rfl⟩
  unfold pyNext
  refine wpAny_bind (wpAny_attempt (wpAny_callSpecial?_slot (name := Str.ofString "__next__") hT si_slot_next
    (wpAny_call_entry si_slot_next hT si_entry_next ?_ (si_args_next _))))
  obtain ⟨hp, g, d, tk, os⟩ := s
  unfold Builtin.«set_iterator.__next__» setNext
  wp_walk using AutoSeq1.wpAny_loadPart' hI, wpAny_setEntries_of ho rfl rfl, wpAny_setState_of ho rfl rfl
  have e0 : ∀ f : Nat → Nat, pickOrder f #[((1 : Int), Value.bool true)] = #[((1 : Int), Value.bool true)] := fun f => by simp [pickOrder, pickOrder.go, Nat.mod_one]
  have fin : ∀ (Q₂ : PySem.Fin → Shared → Prop), wpAny (model prog w) A.in1 (do
      setField (.ref I) 2 .none
      let e ← newExc (.type "StopIteration") []
      raiseNew e) Q₂ (fun e s' => wpAny (model prog w) A (do
          let r ← isInstance e (Value.type "StopIteration")
          if r = true then pure none else throw e) Q E s') ⟨hp, g, d, tk, os⟩ := fun Q₂ => by
    refine wpAny_bind (wpAny_setField_rec hI (by show 2 < 5; decide) fun h1 g1 b1 => ?_)
    refine wpAny_bind ?_
    simp only [newExc, newTuple]
    refine wpAny_bind (wpAny_newObj_type ?_ (by size_fits))
    refine wpAny_bind (m := firstArgMember _ _) (wpAny_of_eq (a := Value.none) (by first | rfl | (simp only [firstArgMember]; rfl)) ?_)
    refine wpAny_newObj_type ?_ (by size_fits)
    simp only [raiseNew]
    refine wpAny_bind (wpAny_handled ?_)
    first | rw [show A.in1.handled = none from hh] | rw [hh]
    refine wpAny_bind (wpAny_pure (wpAny_throw ?_))
    refine wpAny_bind (wpAny_isInstance (T := "StopIteration") (b := true) ⟨_, Heap.get?_push_size _ rfl, rfl⟩ isSubtype_stop ?_)
    exact wpAny_pure (h _ ((b1.extBut.push _).push _))
  refine wpAny_askSetting (wpAny_pure ?_)
  dsimp only
  show wpAny _ _ (if w.params.followText "set-order" = true then _ else _) _ _ _
  cases hb : w.params.followText "set-order" with
  | true =>
    rw [if_pos rfl, if_neg (by decide)]
    unfold setWalk
    refine wpAny_bind (wpAny_bind (wpAny_setState_of ho rfl rfl ?_))
    unfold setsByText
    refine wpAny_bind (wpAny_bind (wpAny_askSetting (wpAny_pure ?_)))
    dsimp only
    show wpAny _ _ (if w.params.followText "set-order" = true then _ else _) _ _ _
    rw [if_pos hb]
    refine wpAny_bind (wpAny_askSetting (wpAny_pure ?_))
    rw [e0]
    refine wpAny_pure ?_
    exact fin _
  | false =>
    rw [hb] at hl hx
    subst hl
    subst hx
    rw [if_neg (by decide)]
    rw [if_neg (by decide)]
    refine wpAny_bind (wpAny_pure ?_)
    refine wpAny_pure ?_
    exact fin _
theorem unp_set {h₀ : Heap} {L : Addr} {m : Str → Option Value} {news : Led} {Q : List Value → Shared → Prop} (hh : A.handled = none) (hl : led = !(w.params.followText "set-order")) (F : Fr h₀ L s.heap m) (N : News h₀ L s.heap news) (hm : (a, setT led) ∈ news)
    (h : ∀ h', Fr h₀ L h' m → News h₀ L h' news → Q [.bool true] { s with heap := h' }) :
    wpAny (model prog w) A (unpackItems (.ref a) 1 none) Q E s := by
  have ho := (N _ hm).1
  have hT : s.TypeIs (.ref a) "set" := ⟨_, ho, rfl⟩
  have hne : a ≠ s.heap.objs.size := Nat.ne_of_lt (Heap.lt_size ho)
  unfold unpackItems
  refine wpAny_bind ?_
  unfold notIterableAtAll
  refine wpAny_bind (wpAny_specialOf hT PySem.F.slot_set_iter.lookup ?_)
  refine wpAny_pure ?_
  simp only [Bool.false_eq_true, if_false]
  refine wpAny_bind (wpAny_holding (set_iter ho ?_))
  have ho1 : (s.heap.push (siO a 0 0 (.ref a))).get? a = some (setT led) := Heap.get?_push_of_some _ ho
  refine wpAny_bind (wpAny_holding ?_)
  show wpAny _ _ (pyNext (.ref s.heap.objs.size) >>= _) _ _ _
  refine wpAny_bind (si_next (s := { s with heap := s.heap.push (siO a 0 0 (.ref a)) }) hl ho1 (Heap.get?_push_size _ rfl) hne fun h1 x b1 g1 hx => ?_)
  refine wpAny_bind (wpAny_holding (wpAny_pure (wpAny_pure ?_)))
  rw [if_neg (by decide)]
  have ho2 : h1.get? a = some (setT led) := (b1.2 _ hne).trans ho1
  refine wpAny_bind (wpAny_holding (si_end (s := { s with heap := h1 }) hh hl ho2 g1 hx fun h2 b2 => ?_))
  simp only [Option.isSome_none, Bool.false_eq_true, if_false]
  have old : ∀ b o, s.heap.get? b = some o → h2.get? b = some o := fun b o e =>
    have q : b ≠ s.heap.objs.size := Nat.ne_of_lt (Heap.lt_size e)
    b2 b o q ((b1.2 b q).trans (Heap.get?_push_of_some _ e))
  exact wpAny_pure (h h2 (F.keeps old) fun p hp => ⟨old _ _ (N p hp).1, (N p hp).2⟩)
theorem compTurn_set1 (elt target iter : Expr) (scope : Scope) (pos : Pos) (it acc : Value) (env : Env) :
    compTurn (.SetComp elt [⟨target, iter, [], 0⟩] scope pos) 0 it acc env = (standAt iter.pos >>= fun _ => pyNext it >>= fun r => match r with
      | none => pure (.done .next)
      | some v => letOwnedTupleGo target it v >>= fun _ => assign target env v >>= fun _ =>
        (eval elt env >>= fun x => standAt elt.pos >>= fun _ => call (.builtin "set.add") [acc, x] >>= fun _ => pure ()) >>= fun _ =>
          again (.compLoop (.SetComp elt [⟨target, iter, [], 0⟩] scope pos) 0 it acc env)) := by rfl
theorem codeAny_compLoop_set {R : Result → Shared → Prop} {elt target iter : Expr} {scope : Scope} {pos : Pos} {it acc : Value} {env : Env} (I : Nat → Shared → Prop)
    (turn : ∀ n s, I n s → wpAny (model prog w) A (pyNext it) (fun r s₁ => match r with
      | none => R (.ok .next) s₁
      | some v => wpAny (model prog w) A (assign target env v) (fun _ s₂ => wpAny (model prog w) A (eval elt env) (fun x s₃ =>
          wpAny (model prog w) A (call (.builtin "set.add") [acc, x]) (fun _ s₄ => ∃ m, m < n ∧ I m s₄) (notedBy (model prog w) A env fun e s' => R (.error e) s') s₃)
          (notedBy (model prog w) A env fun e s' => R (.error e) s') s₂) (notedBy (model prog w) A env fun e s' => R (.error e) s') s₁) (notedBy (model prog w) A env fun e s' => R (.error e) s') s)
    (n : Nat) (h : I n s) (ht : ∀ v, letOwnedTupleGo target it v = pure () := by intro _; rfl) :
    codeAny (model prog w) A (.compLoop (.SetComp elt [⟨target, iter, [], 0⟩] scope pos) 0 it acc env) R s := by
  refine codeAny_loop rfl I (fun n s hI => ?_) n h
  show wpAny _ _ ((compTurn (.SetComp elt [⟨target, iter, [], 0⟩] scope pos) 0 it acc env).onRaise (fun x => do noteFrame x env; theTreesLotGoes x)) _ _ s
  refine wpAny_noted ?_
  rw [compTurn_set1]
  refine wpAny_bind (wpAny_standAt (wpAny_bind (wpAny_mono (turn n s hI) (fun r s₁ h₁ => ?_) fun _ _ h' => h')))
  cases r with
  | none => exact wpAny_pure h₁
  | some v =>
    refine wpAny_bind (wpAny_of_eq (ht v) ?_)
    exact wpAny_bind (wpAny_mono h₁ (fun _ s₂ h₂ => wpAny_bind (wpAny_bind (wpAny_mono h₂ (fun x s₃ h₃ => wpAny_bind (wpAny_standAt (wpAny_bind (wpAny_mono h₃
      (fun _ s₄ h₄ => wpAny_pure (wpAny_pure ⟨rfl, h₄⟩)) fun _ _ h' => h')))) fun _ _ h' => h'))) fun _ _ h' => h')
theorem codeAny_compStart_set {R : Result → Shared → Prop} {elt target iter ifs rest scope pos it acc env}
    (h0 : codeAny (model prog w) A (.compLoop (.SetComp elt (⟨target, iter, ifs, 0⟩ :: rest) scope pos) 0 it acc env) R s)
    (h : wpAny (model prog w) A (pyIter it) (fun it' s' => codeAny (model prog w) A (.compLoop (.SetComp elt (⟨target, iter, ifs, 0⟩ :: rest) scope pos) 0 it' acc env) R s')
      (notedBy (model prog w) A env fun x s' => R (.error x) s') s) :
    codeAny (model prog w) A (.compStart (.SetComp elt (⟨target, iter, ifs, 0⟩ :: rest) scope pos) 0 it acc env) R s := by
  refine codeAny_of_tree ?_
  show wpAny _ A ((compStart (.SetComp elt (⟨target, iter, ifs, 0⟩ :: rest) scope pos) 0 it acc env).onRaise (fun x => do noteFrame x env; standAt theWindowsPlace)) _ _ s
  refine wpAny_notedAt ?_
  unfold compStart
  show wpAny _ A (ask >>= _) _ _ s
  refine wpAny_bind (wpAny_askSetting (wpAny_ite ?_))
  split
  · first
      | exact wpAny_bind (wpAny_pure (wpAny_pure (And.intro rfl h0)))
      | exact wpAny_pure (And.intro rfl h0)
  · first
      | exact wpAny_bind (wpAny_rule (wpAny_bind (wpAny_standAt (wpAny_bind (wpAny_mono h (fun it' s' h' => wpAny_pure (And.intro rfl h')) fun _ _ x => x)))))
      | (refine wpAny_bind (wpAny_rule ?_); show wpAny _ _ (standAt iter.pos >>= _) _ _ s; exact wpAny_bind (wpAny_standAt (wpAny_bind (wpAny_mono h (fun it' s' h' => wpAny_pure (And.intro rfl h')) fun _ _ x => x))))
end
/-! the set comprehension whose elements are all True -/
section
open PyProof.Rows.LCg
variable {prog : Program} {w : World} {A : Around} {E : Value → Shared → Prop} {s : Shared} {h₀ : Heap} {L : Addr} {m : Str → Option Value} {env : Env}
theorem new_set {Q : Value → Shared → Prop} (h : Q (.ref s.heap.objs.size) { s with heap := s.heap.push (setE (!w.params.followText "set-order")) }) : wpAny (model prog w) A (newSet (.type "set")) Q E s := by
  unfold newSet setsByText
  refine wpAny_bind (wpAny_bind (wpAny_askSetting (wpAny_pure ?_)))
  dsimp only
  simp only [newObj]
  exact wpAny_bind (wpAny_alloc (wpAny_pure h))
noncomputable def SetSrc (prog : Program) (w : World) (A : Around) (h₀ : Heap) (L : Addr) (m : Str → Option Value) (env : Env) (elt : Expr) (x : Str) (scope : Scope) (cl : List (Str × Addr)) (Q : Value → Shared → Prop) (xv : Value) (s₁ : Shared) : Prop :=
  ∃ ax its news, xv = .ref ax ∧ A.handled = none ∧ Fr h₀ L s₁.heap m ∧ News h₀ L s₁.heap news ∧ (ax, tupO its) ∈ news ∧ 0 < its.length ∧ its.length ≤ 1000 ∧
    (∀ v C oC m₂ h tk (E' : Value → Shared → Prop), v ∈ its → NsObj oC m₂ → m₂ x = some v → News h₀ L h ((C, oC) :: news) →
      wpAny (model prog w) A (eval elt (compEnvC scope cl C env)) (fun y s' => y = .bool true ∧ ∃ tk', s' = { s₁ with heap := h, toks := tk' }) E' { s₁ with heap := h, toks := tk }) ∧
    (∀ D h tk, Fr h₀ L h m → News h₀ L h ((D, setT (!w.params.followText "set-order")) :: news) → Q (.ref D) { s₁ with heap := h, toks := tk })
theorem block_S {elt iter : Expr} {x : Str} {px : Pos} {scope : Scope} {cl : List (Str × Addr)} {pos : Pos} {s₂ : Shared} {I : Addr} {fp : List Addr} {n : Nat} {P : Nat → Value → Prop} {St : Nat → Heap → Prop} {news : Led}
    {RR : Value → Addr → Result → Shared → Prop}
    (W : Walks prog w A I fp [I] n P St) (hn0 : 0 < n)
    (hcell : ∀ y ∈ scope.names, y.2 ≠ .cell) (hkind : scope.kind = .function) (hx : scope.names.lookup x = some .local) (hst : St 0 s₂.heap) (hfp : ∀ b ∈ fp, b < s₂.heap.objs.size)
    (F : Fr h₀ L s₂.heap m) (N : News h₀ L s₂.heap news) (hIL : L ≠ I) (hI₀ : h₀.get? I = none) (off : ∀ p ∈ news, p.1 ≠ I)
    (R : ∀ i v C oC m₂ h tk (E' : Value → Shared → Prop), P i v → NsObj oC m₂ → m₂ x = some v → News h₀ L h ((C, oC) :: news) →
      wpAny (model prog w) A (eval elt (compEnvC scope cl C env)) (fun y s' => y = .bool true ∧ ∃ tk', s' = { s₂ with heap := h, toks := tk' }) E' { s₂ with heap := h, toks := tk })
    (hRR : ∀ D C h tk m', Fr h₀ L h m → News h₀ L h ((D, setT (!w.params.followText "set-order")) :: news) → h.Ns C m' → h₀.get? C = none → h₀.get? D = none → C ≠ L → D ≠ L → C ≠ D → (∀ p ∈ news, p.1 ≠ C) → RR (.ref D) C (.ok .next) { s₂ with heap := h, toks := tk }) :
    wpAny (model prog w) A (newSet (.type "set")) (fun acc s₃ => wpAny (model prog w) A (newFunctionEnv scope env.globals cl [] env.qual none .none (some env)) (fun cenv s₄ =>
      codeAny (model prog w) A (.compStart (.SetComp elt [⟨.Name x px, iter, [], 0⟩] scope pos) 0 (.ref I) acc { cenv with scope := relabel scope env }) (RR acc cenv.locals) s₄) E s₃) E s₂ := by
  refine new_set (wpAny_newFunctionEnv hcell (by intro y hy; simp at hy) (fun h₁ hns₁ hsb₁ => ?_) hkind)
  dsimp only at hns₁ hsb₁ ⊢
  generalize hled : (!w.params.followText "set-order") = led at *
  generalize hH2 : s₂.heap.push (setE led) = H2 at hns₁ hsb₁ ⊢
  have hC : H2.objs.size = s₂.heap.objs.size + 1 := by rw [← hH2, Heap.size_push]
  have hDC : s₂.heap.objs.size ≠ H2.objs.size := by rw [hC]; exact Nat.ne_of_lt (Nat.lt_succ_self _)
  have below : ∀ b, b < s₂.heap.objs.size → b ≠ H2.objs.size ∧ b ≠ s₂.heap.objs.size := fun b hb => ⟨by rw [hC]; exact Nat.ne_of_lt (Nat.lt_succ_of_lt hb), Nat.ne_of_lt hb⟩
  have hDf : s₂.heap.objs.size ∉ fp := fun hm => Nat.lt_irrefl _ (hfp _ hm)
  have hCf : H2.objs.size ∉ fp := fun hm => by have := hfp _ hm; rw [hC] at this; exact Nat.lt_irrefl _ (Nat.lt_of_succ_lt this)
  have hIf : I ∈ fp := W.sub I (List.mem_singleton.mpr rfl)
  have hIlt : I < s₂.heap.objs.size := hfp I hIf
  have old : ∀ b o, s₂.heap.get? b = some o → h₁.get? b = some o := fun b o e => hsb₁.extBut b o (below b (Heap.lt_size e)).1 (Heap.get?_push_of_some _ (by rw [← hH2]; exact Heap.get?_push_of_some _ e))
  have hacc : h₁.get? s₂.heap.objs.size = some (setE led) := hsb₁.extBut _ _ hDC (Heap.get?_push_of_some _ (by rw [← hH2]; exact Heap.get?_push_size _ rfl))
  have hst₁ : St 0 h₁ := W.frame _ _ _ hst fun b _ o e => old b o e
  have fresh : ∀ a, s₂.heap.objs.size ≤ a → s₂.heap.get? a = none := fun a ha => by
    cases e : s₂.heap.get? a with
    | none => rfl
    | some o' => exact absurd (Heap.lt_size e) (Nat.not_lt.mpr ha)
  have fresh₀ : ∀ a, s₂.heap.objs.size ≤ a → h₀.get? a = none := fun a ha => by
    cases e : h₀.get? a with
    | none => rfl
    | some o' => have := F.keep a o' e; rw [fresh a ha] at this; cases this
  have hD₀ : h₀.get? s₂.heap.objs.size = none := fresh₀ _ (Nat.le_refl _)
  have hC₀ : h₀.get? H2.objs.size = none := fresh₀ _ (by rw [hC]; exact Nat.le_succ _)
  have hLlt : L < s₂.heap.objs.size := F.ns.lt
  have hDL : s₂.heap.objs.size ≠ L := Ne.symm (below L hLlt).2
  have hCL : H2.objs.size ≠ L := Ne.symm (below L hLlt).1
  have hCI : I ≠ H2.objs.size := (below I hIlt).1
  have hDI : I ≠ s₂.heap.objs.size := (below I hIlt).2
  have offC : ∀ p ∈ news, p.1 ≠ H2.objs.size ∧ p.1 ≠ s₂.heap.objs.size := fun p hp => below _ (Heap.lt_size (N p hp).1)
  have loop : ∀ s₃ : Shared, s₃ = { s₂ with heap := h₁, toks := s₂.toks + ([] : List (Str × Value)).length } →
      codeAny (model prog w) A (.compLoop (.SetComp elt [⟨.Name x px, iter, [], 0⟩] scope pos) 0 (.ref I) (.ref s₂.heap.objs.size) (compEnvC scope cl H2.objs.size env))
        (RR (.ref s₂.heap.objs.size) H2.objs.size) s₃ := by
    rintro s₃ rfl
    refine codeAny_compLoop_set
      (fun k s' => ∃ h' tk i m' o, s' = { s₂ with heap := h', toks := tk } ∧ i ≤ n ∧ k = n + 1 - i ∧ St i h' ∧ Fr h₀ L h' m ∧ h'.Ns H2.objs.size m' ∧ News h₀ L h' ((s₂.heap.objs.size, o) :: news) ∧
        ((i = 0 ∧ o = setE led) ∨ o = setT led)) ?_ (n + 1)
      ⟨h₁, _, 0, _, setE led, rfl, Nat.zero_le _, rfl, hst₁, F.keeps old, hns₁, fun p hp => ?_, .inl ⟨rfl, rfl⟩⟩
    · rintro k s' ⟨h', tk, i, m', o, rfl, hi, rfl, hst', F', hn', N', ho'⟩
      by_cases hlt : i < n
      · refine W.item i _ _ _ hlt hst' fun v h₂ tk₂ hPv hst₂ hk₂ => ?_
        refine wpAny_assign_Name (wpAny_storeName_local (lookup_relabel_local hx) (hn'.at' fun o e => hk₂ _ o (by simpa using Ne.symm hCI) e) (fun h₃ hn₃ hs₃ => ?_) (by simp [compEnvC, relabel, hkind]))
        have hst₃ : St (i + 1) h₃ := W.frame _ _ _ hst₂ fun b hb o e => hs₃.extBut b o (fun q => hCf (by have q' : b = H2.objs.size := q; rw [← q']; exact hb)) e
        obtain ⟨oC, heC, hoC⟩ := ns_obj hn₃
        have F₃ : Fr h₀ L h₃ m := (fr_but F' hk₂ hIL hI₀).change hs₃ hCL hC₀
        have N₂ : News h₀ L h₂ ((s₂.heap.objs.size, o) :: news) := news_but N' hk₂ fun p hp => by
          rcases List.mem_cons.mp hp with rfl | hp
          · exact Ne.symm hDI
          · exact off p hp
        have N₃ : News h₀ L h₃ ((s₂.heap.objs.size, o) :: news) := fun p hp => by
          refine ⟨hs₃.extBut _ _ ?_ (N₂ p hp).1, (N₂ p hp).2⟩
          rcases List.mem_cons.mp hp with rfl | hp
          · exact hDC
          · exact (offC p hp).1
        have N₄ : News h₀ L h₃ ((H2.objs.size, oC) :: news) := fun p hp => by
          rcases List.mem_cons.mp hp with rfl | hp
          · exact ⟨heC, hCL, hC₀⟩
          · exact N₃ p (.tail _ hp)
        refine wpAny_mono (R i v H2.objs.size oC _ h₃ _ _ hPv hoC (by simp) N₄) (fun y s₄ h₄ => ?_) fun _ _ e => e
        obtain ⟨rfl, tk₄, rfl⟩ := h₄
        refine add_true (led := led) (s := { s₂ with heap := h₃, toks := tk₄ }) (N₃ _ (.head _)).1 (ho'.imp (·.2) id) fun h₅ hs₅ hD₅ => ?_
        refine ⟨n + 1 - (i + 1), by omega, h₅, tk₄ + 1, i + 1, _, setT led, rfl, hlt, rfl, W.frame _ _ _ hst₃ fun b hb o e => hs₅.extBut b o (fun q => hDf (q ▸ hb)) e, F₃.change hs₅ hDL hD₀,
          (hoC.ns heC).sameBut hs₅ (Ne.symm hDC), fun p hp => ?_, .inr rfl⟩
        rcases List.mem_cons.mp hp with rfl | hp
        · exact ⟨hD₅, hDL, hD₀⟩
        · exact ⟨hs₅.extBut _ _ (offC p hp).2 (N₃ p (.tail _ hp)).1, (N₃ p (.tail _ hp)).2⟩
      · obtain rfl : i = n := Nat.le_antisymm hi (Nat.not_lt.mp hlt)
        refine W.done _ _ _ hst' fun h₂ tk₂ hk₂ => ?_
        rcases ho' with ⟨q, _⟩ | rfl
        · omega
        exact hRR _ _ h₂ tk₂ _ (fr_but F' hk₂ hIL hI₀) (news_but N' hk₂ fun p hp => by
          rcases List.mem_cons.mp hp with rfl | hp
          · exact Ne.symm hDI
          · exact off p hp) (hn'.at' fun o e => hk₂ _ o (by simpa using Ne.symm hCI) e) hC₀ hD₀ hCL hDL (Ne.symm hDC) (fun p hp => (offC p hp).1)
    · rcases List.mem_cons.mp hp with rfl | hp
      · exact ⟨hacc, hDL, hD₀⟩
      · exact ⟨old _ _ (N p hp).1, (N p hp).2⟩
  exact codeAny_compStart_set (loop _ rfl) (W.self 0 _ _ _ hst₁ (loop _ rfl))
set_option maxHeartbeats 1000000 in
theorem set_comp {elt iter : Expr} {x : Str} {px : Pos} {scope : Scope} {cl : List (Str × Addr)} {pos : Pos} {Q : Value → Shared → Prop}
    (hclos : closureFor scope env = pure cl) (hcell : ∀ z ∈ scope.names, z.2 ≠ .cell) (hkind : scope.kind = .function)
    (hnames : ∀ z ∈ scope.names, z.2 = .local → scope.names.lookup z.1 = some .local) (hx : scope.names.lookup x = some .local)
    (h : wpAny (model prog w) A (eval iter env) (SetSrc prog w A h₀ L m env elt x scope cl Q) E s)
    (hs : ∀ x, foldedSetIterable iter env x = pure x := by intro _; rfl) :
    wpAny (model prog w) A (eval (.SetComp elt [⟨.Name x px, iter, [], 0⟩] scope pos) env) Q E s := by
  show wpAny _ A (comprehension (.SetComp elt [⟨.Name x px, iter, [], 0⟩] scope pos) scope env _ (newSet (.type "set")) false (eval iter env)) _ _ s
  refine wpAny_comprehension_free (use := none) rfl hs hclos hkind hnames (wpAny_mono h (fun xv s₁ h₁ => ?_) fun _ _ e => e)
  obtain ⟨ax, its, news, rfl, hh, F, N, S, h0, hsz, elt_, fin⟩ := h₁
  have hl : s₁.heap.IsTuple ax its.toArray := ⟨_, (N _ S).1, rfl, _, rfl⟩
  have hlt : ax < s₁.heap.objs.size := Heap.lt_size (N _ S).1
  refine wpAny_pyIter_tuple hl ?_
  have W := Walks.tuple (prog := prog) (w := w) hh s₁.heap.objs.size ax (Nat.ne_of_lt hlt) its.toArray
  rw [List.size_toArray] at W
  have W' : Walks prog w A s₁.heap.objs.size [s₁.heap.objs.size, ax] [s₁.heap.objs.size] its.length (fun i v => its[i]? = some v) (fun i h => h.IsTupleIter s₁.heap.objs.size ax i ∧ h.IsTuple ax its.toArray) := by simpa using W
  refine block_S W' h0 hcell hkind hx ⟨⟨_, Heap.get?_push_size _ rfl, rfl, rfl⟩, hl.at fun o e => Heap.get?_push_of_some _ e⟩ (fun b hb => ?_)
    (F.push _) (push_all N _) (Nat.ne_of_lt F.ns.lt) (next_is_new F) (push_off N) (fun i v C oC m₂ h tk E' hP hC hx' N' => elt_ v C oC m₂ h tk E' (List.mem_of_getElem? hP) hC hx' N') ?_
  · show b < (s₁.heap.push _).objs.size
    rw [Heap.size_push]
    rcases List.mem_cons.mp hb with rfl | hb
    · exact Nat.lt_succ_self _
    · rw [List.mem_singleton.mp hb]; exact Nat.lt_succ_of_lt hlt
  · intro D C h' tk m' F' N' hn hC₀ hD₀ hCL hDL hCD offC
    refine ⟨m', hn, fun h'' hs'' => fin D h'' _ (F'.change hs'' hCL hC₀) fun p hp => ?_⟩
    refine ⟨hs''.extBut _ _ ?_ (N' p hp).1, (N' p hp).2⟩
    rcases List.mem_cons.mp hp with rfl | hp
    · exact Ne.symm hCD
    · exact offC p hp
theorem asg_set {elt iter : Expr} {x y : Str} {px py pT : Pos} {kT : Nat} {scope : Scope} {cl : List (Str × Addr)} {pos spos : Pos} {Q : Flow → Shared → Prop} (hLe : env.locals = L)
    (hclos : closureFor scope env = pure cl) (hcell : ∀ z ∈ scope.names, z.2 ≠ .cell) (hkind : scope.kind = .function)
    (hnames : ∀ z ∈ scope.names, z.2 = .local → scope.names.lookup z.1 = some .local) (hx : scope.names.lookup x = some .local)
    (hy : env.kindOf y = some .local) (hp : (env.scope.kind == .class || (env.scope.kind == .module && env.locals != env.globals)) = false)
    (h : wpAny (model prog w) A (eval iter env) (fun xv s₁ => A.handled = none ∧ SetSrc prog w A h₀ L m env elt x scope cl (fun v s₂ => ∃ D news, v = .ref D ∧ Fr h₀ L s₂.heap m ∧ News h₀ L s₂.heap news ∧ (D, setT (!w.params.followText "set-order")) ∈ news ∧
      ∀ h₃ tk, Fr h₀ L h₃ (fun z => if z = y then some (.bool true) else m z) → News h₀ L h₃ news → Q .next { s₂ with heap := h₃, toks := tk }) xv s₁) E s)
    (hs : ∀ x, foldedSetIterable iter env x = pure x := by intro _; rfl) :
    wpAny (model prog w) A (exec (.Assign [.Tuple [.Name y py] kT pT] (.SetComp elt [⟨.Name x px, iter, [], 0⟩] scope pos) spos) env) Q E s := by
  subst hLe
  refine PyProof.Rows.Assign_Tuple ?_
  refine set_comp (h₀ := h₀) (L := env.locals) (m := m) hclos hcell hkind hnames hx (wpAny_mono h (fun xv s₁ h₁ => ?_) fun _ _ e => e) hs
  obtain ⟨hh, ax, its, news, rfl, hh', F, N, S, h0, hsz, elt_, fin⟩ := h₁
  refine ⟨ax, its, news, rfl, hh', F, N, S, h0, hsz, elt_, fun D h tk F' N' => ?_⟩
  obtain ⟨D', news', e, F₂, N₂, hm, k⟩ := fin D h tk F' N'
  cases e
  rw [PyProof.Rows.assign_Tuple]
  refine wpAny_bind (wpAny_standAt ?_)
  show wpAny _ A (unpack (.ref D) [(false, assign (.Name y py) env)]) _ _ _
  unfold unpack
  refine wpAny_bind (wpAny_holding ?_)
  show wpAny _ A (unpackItems (.ref D) 1 none) _ _ _
  refine unp_set (s := { s₁ with heap := h, toks := tk }) hh rfl F₂ N₂ hm fun h₃ F₃ N₃ => ?_
  show wpAny _ A (do holding [] (assign (.Name y py) env (.bool true)); assignInOrder [] []) _ _ _
  refine wpAny_bind (wpAny_holding (wpAny_assign_Name (wpAny_storeName_local hy F₃.ns (fun h₄ hn₄ hs₄ => wpAny_pure ?_) hp)))
  have hL₀ : h₀.get? env.locals = none := Heap.get?_none_of_le F₃.above
  exact k h₄ _ ⟨hn₄, fun b o e => hs₄.extBut b o (fun q => by rw [q, hL₀] at e; cases e) (F₃.keep b o e), F₃.above⟩ fun p hp => ⟨hs₄.extBut _ _ (N₃ p hp).2.1 (N₃ p hp).1, (N₃ p hp).2⟩
end
/-! comprehensions with a test, by an invariant -/
section
open PyProof.Rows.LCg PyProof.Rows.LCt
variable {prog : Program} {w : World} {A : Around} {E : Value → Shared → Prop} {s : Shared} {h₀ : Heap} {L : Addr} {m : Str → Option Value} {env : Env}
theorem compEnd_mono {I C D : Addr} {oI oC oD : Obj} {S : Led → Prop} {r r' : Value → Led → Prop} (hr : ∀ y n, r y n → r' y n) (y : Value) (s₂ : Shared) (q : CompEnd h₀ L m s I oI C oC D oD S r y s₂) : CompEnd h₀ L m s I oI C oC D oD S r' y s₂ := by
  obtain ⟨h', tk', news', e1, F', N', o', hS, q⟩ := q
  exact ⟨h', tk', news', e1, F', N', o', hS, hr _ _ q⟩
theorem compT_ind {ct elt : Expr} {x : Str} {scope : Scope} {cl : List (Str × Addr)} {S : Led → Prop} {P : Nat → Value → Prop} {Fin : List Value → Led → Prop} {n : Nat} (J : Nat → List Value → Led → Prop)
    (turn : ∀ i ys news v I oI C oC D m₂ h tk (E' : Value → Shared → Prop), i < n → J i ys news → P i v → NsObj oC m₂ → m₂ x = some v → Fr h₀ L h m → News h₀ L h ((I, oI) :: (C, oC) :: (D, lst ys) :: news) → Off3 I C D news → I ≠ C → I ≠ D → C ≠ D →
      wpAny (model prog w) A (isTrue ct (compEnvC scope cl C env) (eval ct (compEnvC scope cl C env))) (fun ok s' => if ok = true then
        wpAny (model prog w) A (eval elt (compEnvC scope cl C env)) (CompEnd h₀ L m { s with heap := h, toks := tk } I oI C oC D (lst ys) S (fun y news' => J (i + 1) (ys ++ [y]) news')) E' s'
        else CompEnd h₀ L m { s with heap := h, toks := tk } I oI C oC D (lst ys) S (fun _ news' => J (i + 1) ys news') Value.none s') E' { s with heap := h, toks := tk })
    (fin : ∀ ys news, J n ys news → Fin ys news) : ∀ (k i : Nat) (ys : List Value) (news : Led), i + k = n → J i ys news → CompRestT prog w A h₀ L m env ct elt x scope cl s S P Fin k i ys news
  | 0, i, ys, news, e, hj => fin ys news (by rw [← e]; exact hj)
  | k + 1, i, ys, news, e, hj => fun v I oI C oC D m₂ h tk E' hP hC hx F N off ne =>
    wpAny_mono (turn i ys news v I oI C oC D m₂ h tk E' (by omega) hj hP hC hx F N off ne.1 ne.2.1 ne.2.2) (fun ok s₂ q => by
      cases ok with
      | true => exact wpAny_mono q (fun y s₃ q' => compEnd_mono (fun y n r => compT_ind J turn fin k (i + 1) _ _ (by omega) r) y s₃ q') fun _ _ z => z
      | false =>
        rw [if_neg (by decide)] at q ⊢
        exact compEnd_mono (fun y n r => compT_ind J turn fin k (i + 1) _ _ (by omega) r) _ s₂ q) fun _ _ z => z
/-- the test `c and c != d` of two texts -/
theorem test_kept {c d : Str} {p1 p2 p3 p4 p5 : Pos} {x y : Str} {t u : Tok} {Q : Bool → Shared → Prop}
    (hc : ∀ (s' : Shared) (Q : Value → Shared → Prop) (p : Pos) (E' : Value → Shared → Prop), s'.heap = s.heap → Q (.str x t) s' → wpAny (model prog w) A (eval (.Name c p) env) Q E' s')
    (hd : ∀ (s' : Shared) (Q : Value → Shared → Prop) (p : Pos) (E' : Value → Shared → Prop), s'.heap = s.heap → Q (.str y u) s' → wpAny (model prog w) A (eval (.Name d p) env) Q E' s')
    (hx : x.length ≤ 200) (h : ∀ tk, Q (x.length != 0 && decide (x ≠ y)) { s with toks := tk }) :
    wpAny (model prog w) A (isTrue (.BoolOp .And [.Name c p1, .Compare (.Name c p2) [.NotEq] [.Name d p3] p4] p5) env (eval (.BoolOp .And [.Name c p1, .Compare (.Name c p2) [.NotEq] [.Name d p3] p4] p5) env)) Q E s := by
  refine isTrue_and (isTrue_plain (hc s _ p1 _ rfl (P.truthy_str (by omega) ?_)))
  by_cases h0 : x.length = 0
  · have e : ((x.length : Int) != 0) = false := by simp [h0]
    rw [e]
    have := h (s.toks + 1 + 1)
    rw [show (x.length != 0) = false by simp [h0], Bool.false_and] at this
    exact this
  · have e : ((x.length : Int) != 0) = true := by simp; omega
    rw [e, if_pos rfl]
    refine isTrue_and (wpAny_isTrue_Compare1 (hc _ _ p2 _ rfl (hd _ _ p3 _ rfl (PyProof.Rows.ne_str (wpAny_truthy_bool ?_)))))
    have := h (s.toks + 1 + 1)
    rw [show (x.length != 0) = true by simp; omega, Bool.true_and] at this
    by_cases hxy : x = y
    · rw [show (x != y) = false by simp [hxy], if_neg (by decide)]
      rw [show decide (x ≠ y) = false by simp [hxy]] at this
      exact this
    · rw [show (x != y) = true by simp [hxy], if_pos rfl]
      rw [show decide (x ≠ y) = true by simp [hxy]] at this
      exact isTrue_and_nil this
end
/-- the order of lists of texts -/
noncomputable def ltL : List Str → List Str → Bool
  | [], [] => false
  | [], _ :: _ => true
  | _ :: _, [] => false
  | x :: xs, y :: ys => if x = y then ltL xs ys else decide (x.cps.toList < y.cps.toList)
theorem strs_len {vs : List Value} {ws : List Str} (h : StrsAre vs ws) : vs.length = ws.length := by
  induction h with
  | nil => rfl
  | cons _ _ _ ih => rw [List.length_cons, List.length_cons, ih]
theorem strs_ith {vs : List Value} {ws : List Str} (h : StrsAre vs ws) {i : Nat} (hi : i < ws.length) : ∃ x t, vs[i]? = some (.str x t) ∧ ws[i]? = some x := by
  induction h generalizing i with
  | nil => exact absurd hi (Nat.not_lt_zero _)
  | cons w t _ ih =>
    cases i with
    | zero => exact ⟨w, t, rfl, rfl⟩
    | succ i => exact ih (Nat.lt_of_succ_lt_succ hi)
theorem drop_ith {ws : List Str} {i : Nat} {x : Str} (h : ws[i]? = some x) : ws.drop i = x :: ws.drop (i + 1) := by
  obtain ⟨hlt, e⟩ := List.getElem?_eq_some_iff.mp h
  rw [List.drop_eq_getElem_cons hlt, e]
theorem ltL_end {ss tt : List Str} (h : ss.length ≤ tt.length) : ltL [] (tt.drop ss.length) = decide (ss.length < tt.length) := by
  cases e : tt.drop ss.length with
  | nil => have := congrArg List.length e; rw [List.length_drop, List.length_nil] at this; rw [decide_eq_false (by omega)]; rfl
  | cons a r => have := congrArg List.length e; rw [List.length_drop, List.length_cons] at this; rw [decide_eq_true (by omega)]; rfl
open PySem.AutoSeq1 (wpAny_loadPart') in
open PySem.MeetsSeq3 (plain_eq_loop entry_eq_loop) in
open PySem.Builtin in
theorem lt_loop (l b : Addr) (vs us : List Value) (ss tt : List Str) (n n2 : Nat) (hs : StrsAre vs ss) (ht : StrsAre us tt) (k : Nat) :
    ∀ i : Nat, i ≤ ss.length → i ≤ tt.length → ss.length - i = k → Meets (Builtin.«list.__eq__.loop» ⟨[.ref l, .ref b, rawInt i, rawInt 0], []⟩)
      (fun _ R s => s.heap.get? l = some (listOf vs.toArray n) ∧ s.heap.get? b = some (listOf us.toArray n2) ∧
        R (.ok (.ret (.bool (ltL (ss.drop i) (tt.drop i))))) s) := by
  induction k with
  | zero =>
    intro i hi hi' hk prog w A R s h
    obtain ⟨hp, g, d, tk, os⟩ := s; obtain ⟨hl, hb, h⟩ := h
    have hi0 : i = ss.length := by omega
    subst hi0
    wp_walk using wpAny_loadPart' hl, wpAny_loadPart' hb
    have hi1 : vs.toArray[((ss.length : Nat) : Int).toNat]? = none := by simp [strs_len hs]
    rw [hi1]
    wp_walk using wpAny_loadPart' hl, wpAny_loadPart' hb
    show R (.ok (.ret (.bool (decide (vs.length < us.length))))) _
    rw [strs_len hs, strs_len ht]
    rw [List.drop_length, ltL_end hi'] at h
    exact h
  | succ k ih =>
    intro i hi hi' hk prog w A R s h
    obtain ⟨hp, g, d, tk, os⟩ := s; obtain ⟨hl, hb, h⟩ := h
    have hlt : i < ss.length := by omega
    obtain ⟨x, tx, hx, hx2⟩ := strs_ith hs hlt
    wp_walk using wpAny_loadPart' hl, wpAny_loadPart' hb
    have hi1 : vs.toArray[((i : Nat) : Int).toNat]? = some (.str x tx) := by rw [List.getElem?_toArray]; exact hx
    by_cases hlt2 : i < tt.length
    · obtain ⟨y, ty, hy, hy2⟩ := strs_ith ht hlt2
      have hi2 : us.toArray[((i : Nat) : Int).toNat]? = some (.str y ty) := by rw [List.getElem?_toArray]; exact hy
      rw [hi1, hi2]
      refine wpAny_bind (wpAny_eqBool_str ?_)
      have hc : ((i : Int) + 1) = ((i + 1 : Nat) : Int) := by push_cast; rfl
      rw [drop_ith hx2, drop_ith hy2] at h
      by_cases e : x = y
      · rw [decide_eq_true e]
        rw [show ltL (x :: ss.drop (i + 1)) (y :: tt.drop (i + 1)) = ltL (ss.drop (i + 1)) (tt.drop (i + 1)) from if_pos e] at h
        wp_walk
        rw [hc]
        exact ⟨plainId_quiet plain_eq_loop _, codeAny_builtin entry_eq_loop (by
          rw [Around.under_plainId plain_eq_loop _]
          exact ih (i + 1) (by omega) (by omega) (by omega) prog w A R _ ⟨hl, hb, h⟩)⟩
      · rw [decide_eq_false e]
        rw [show ltL (x :: ss.drop (i + 1)) (y :: tt.drop (i + 1)) = decide (x.cps.toList < y.cps.toList) from if_neg e] at h
        wp_walk using wpAny_loadPart' hl, wpAny_loadPart' hb
        rw [hi1, hi2]
        refine wpAny_bind (cmp_ofLt (M := model prog w) (PyProof.Rows.lt_str ?_))
        exact wpAny_pure h
    · have hi2 : us.toArray[((i : Nat) : Int).toNat]? = none := by rw [List.getElem?_toArray]; exact List.getElem?_eq_none (by rw [strs_len ht]; show tt.length ≤ i; omega)
      rw [hi1, hi2]
      wp_walk using wpAny_loadPart' hl, wpAny_loadPart' hb
      show R (.ok (.ret (.bool (decide (vs.length < us.length))))) _
      rw [strs_len hs, strs_len ht]
      rw [drop_ith hx2, show tt.drop i = [] from List.drop_eq_nil_of_le (by omega)] at h
      rw [show decide (ss.length < tt.length) = false by simp; omega]
      exact h
theorem ltL_end2 {ss tt : List Str} (h : ss.length ≤ tt.length) : ltL (tt.drop ss.length) [] = decide (tt.length < ss.length) := by
  rw [decide_eq_false (by omega)]
  cases tt.drop ss.length <;> rfl
open PySem.AutoSeq1 (wpAny_loadPart') in
open PySem.MeetsSeq3 (plain_eq_loop entry_eq_loop) in
open PySem.Builtin in
theorem gt_loop (l b : Addr) (vs us : List Value) (ss tt : List Str) (n n2 : Nat) (hs : StrsAre vs ss) (ht : StrsAre us tt) (k : Nat) :
    ∀ i : Nat, i ≤ ss.length → i ≤ tt.length → ss.length - i = k → Meets (Builtin.«list.__eq__.loop» ⟨[.ref l, .ref b, rawInt i, rawInt 4], []⟩)
      (fun _ R s => s.heap.get? l = some (listOf vs.toArray n) ∧ s.heap.get? b = some (listOf us.toArray n2) ∧
        R (.ok (.ret (.bool (ltL (tt.drop i) (ss.drop i))))) s) := by
  induction k with
  | zero =>
    intro i hi hi' hk prog w A R s h
    obtain ⟨hp, g, d, tk, os⟩ := s; obtain ⟨hl, hb, h⟩ := h
    have hi0 : i = ss.length := by omega
    subst hi0
    wp_walk using wpAny_loadPart' hl, wpAny_loadPart' hb
    have hi1 : vs.toArray[((ss.length : Nat) : Int).toNat]? = none := by simp [strs_len hs]
    rw [hi1]
    wp_walk using wpAny_loadPart' hl, wpAny_loadPart' hb
    show R (.ok (.ret (.bool (decide (us.length < vs.length))))) _
    rw [strs_len hs, strs_len ht]
    rw [List.drop_length, ltL_end2 hi'] at h
    exact h
  | succ k ih =>
    intro i hi hi' hk prog w A R s h
    obtain ⟨hp, g, d, tk, os⟩ := s; obtain ⟨hl, hb, h⟩ := h
    have hlt : i < ss.length := by omega
    obtain ⟨x, tx, hx, hx2⟩ := strs_ith hs hlt
    wp_walk using wpAny_loadPart' hl, wpAny_loadPart' hb
    have hi1 : vs.toArray[((i : Nat) : Int).toNat]? = some (.str x tx) := by rw [List.getElem?_toArray]; exact hx
    by_cases hlt2 : i < tt.length
    · obtain ⟨y, ty, hy, hy2⟩ := strs_ith ht hlt2
      have hi2 : us.toArray[((i : Nat) : Int).toNat]? = some (.str y ty) := by rw [List.getElem?_toArray]; exact hy
      rw [hi1, hi2]
      refine wpAny_bind (wpAny_eqBool_str ?_)
      have hc : ((i : Int) + 1) = ((i + 1 : Nat) : Int) := by push_cast; rfl
      rw [drop_ith hx2, drop_ith hy2] at h
      by_cases e : x = y
      · rw [decide_eq_true e]
        rw [show ltL (y :: tt.drop (i + 1)) (x :: ss.drop (i + 1)) = ltL (tt.drop (i + 1)) (ss.drop (i + 1)) from if_pos e.symm] at h
        wp_walk
        rw [hc]
        exact ⟨plainId_quiet plain_eq_loop _, codeAny_builtin entry_eq_loop (by
          rw [Around.under_plainId plain_eq_loop _]
          exact ih (i + 1) (by omega) (by omega) (by omega) prog w A R _ ⟨hl, hb, h⟩)⟩
      · rw [decide_eq_false e]
        rw [show ltL (y :: tt.drop (i + 1)) (x :: ss.drop (i + 1)) = decide (y.cps.toList < x.cps.toList) from if_neg (Ne.symm e)] at h
        wp_walk using wpAny_loadPart' hl, wpAny_loadPart' hb
        rw [hi1, hi2]
        refine wpAny_bind (cmp_ofGt (M := model prog w) (P.gt_str ?_))
        exact wpAny_pure h
    · have hi2 : us.toArray[((i : Nat) : Int).toNat]? = none := by rw [List.getElem?_toArray]; exact List.getElem?_eq_none (by rw [strs_len ht]; show tt.length ≤ i; omega)
      rw [hi1, hi2]
      wp_walk using wpAny_loadPart' hl, wpAny_loadPart' hb
      show R (.ok (.ret (.bool (decide (us.length < vs.length))))) _
      rw [strs_len hs, strs_len ht]
      rw [drop_ith hx2, show tt.drop i = [] from List.drop_eq_nil_of_le (by omega)] at h
      rw [show decide (tt.length < ss.length) = true by simp; omega]
      exact h
open PySem.AutoSeq1 (wpAny_loadPart') in
open PySem.MeetsSeq3 (plain_eq_loop entry_eq_loop) in
theorem list_lt (l b : Addr) (vs us : List Value) (ss tt : List Str) (n n2 : Nat) (hs : StrsAre vs ss) (ht : StrsAre us tt) :
    Meets (Builtin.«list.__lt__» ⟨[.ref l, .ref b], []⟩)
      (fun _ R s => s.heap.get? l = some (listOf vs.toArray n) ∧ s.heap.get? b = some (listOf us.toArray n2) ∧ R (.ok (.ret (.bool (ltL ss tt)))) s) := by
  intro prog w A R s h
  obtain ⟨hp, g, d, tk, os⟩ := s; obtain ⟨hl, hb, h⟩ := h
  have f3 := AutoSeq1.sub_list_list
  wp_walk using wpAny_loadPart' hl, wpAny_loadPart' hb
  exact ⟨plainId_quiet plain_eq_loop _, codeAny_builtin entry_eq_loop (by
    rw [Around.under_plainId plain_eq_loop _]
    exact lt_loop l b vs us ss tt n n2 hs ht _ 0 (Nat.zero_le _) (Nat.zero_le _) rfl prog w A R _ ⟨hl, hb, h⟩)⟩
open PySem.AutoSeq1 (wpAny_loadPart') in
open PySem.MeetsSeq3 (plain_eq_loop entry_eq_loop) in
theorem list_gt (l b : Addr) (vs us : List Value) (ss tt : List Str) (n n2 : Nat) (hs : StrsAre vs ss) (ht : StrsAre us tt) :
    Meets (Builtin.«list.__gt__» ⟨[.ref l, .ref b], []⟩)
      (fun _ R s => s.heap.get? l = some (listOf vs.toArray n) ∧ s.heap.get? b = some (listOf us.toArray n2) ∧ R (.ok (.ret (.bool (ltL tt ss)))) s) := by
  intro prog w A R s h
  obtain ⟨hp, g, d, tk, os⟩ := s; obtain ⟨hl, hb, h⟩ := h
  have f3 := AutoSeq1.sub_list_list
  wp_walk using wpAny_loadPart' hl, wpAny_loadPart' hb
  exact ⟨plainId_quiet plain_eq_loop _, codeAny_builtin entry_eq_loop (by
    rw [Around.under_plainId plain_eq_loop _]
    exact gt_loop l b vs us ss tt n n2 hs ht _ 0 (Nat.zero_le _) (Nat.zero_le _) rfl prog w A R _ ⟨hl, hb, h⟩)⟩
/-! min and max of a list of lists of texts -/
section
variable {prog : Program} {w : World} {A : Around} {E : Value → Shared → Prop} {s : Shared} {h₀ : Heap} {L : Addr} {m : Str → Option Value} {news : Led}
theorem lst_lt {l b : Addr} {vs us : List Value} {ss tt : List Str} {n n2 : Nat} {Q : Value → Shared → Prop} (N : News h₀ L s.heap news) (hl : (l, listOf vs.toArray n) ∈ news) (hb : (b, listOf us.toArray n2) ∈ news) (hs : StrsAre vs ss) (ht : StrsAre us tt) (hu : A.units < cLine)
    (h : Q (.bool (ltL ss tt)) s) : wpAny (model prog w) A (richCompare .Lt (.ref l) (.ref b)) Q E s :=
  richCompare_meets_room (op := .Lt) ⟨_, (N _ hl).1, rfl⟩ ⟨_, (N _ hb).1, rfl⟩ F.slot_list_lt F.entry_list_lt (F.args_list_lt_2 _ _) (list_lt l b vs us ss tt n n2 hs ht) ⟨(N _ hl).1, (N _ hb).1, ⟨(by intro e; cases e), h⟩⟩ hu
theorem lst_gt {l b : Addr} {vs us : List Value} {ss tt : List Str} {n n2 : Nat} {Q : Value → Shared → Prop} (N : News h₀ L s.heap news) (hl : (l, listOf vs.toArray n) ∈ news) (hb : (b, listOf us.toArray n2) ∈ news) (hs : StrsAre vs ss) (ht : StrsAre us tt) (hu : A.units < cLine)
    (h : Q (.bool (ltL tt ss)) s) : wpAny (model prog w) A (richCompare .Gt (.ref l) (.ref b)) Q E s :=
  richCompare_meets_room (op := .Gt) ⟨_, (N _ hl).1, rfl⟩ ⟨_, (N _ hb).1, rfl⟩ F.slot_list_gt F.entry_list_gt (F.args_list_gt_2 _ _) (list_gt l b vs us ss tt n n2 hs ht) ⟨(N _ hl).1, (N _ hb).1, ⟨(by intro e; cases e), h⟩⟩ hu
theorem but_ {h h' : Heap} {S : Addr} (N : News h₀ L h news) (hs : Heap.SameBut S h h') (ho : ∀ p ∈ news, p.1 ≠ S) : News h₀ L h' news := fun p hp => ⟨(hs.2 _ (ho p hp)).trans (N p hp).1, (N p hp).2⟩
theorem min_lp {l I S : Addr} {vs : List Value} {nn : Nat} {R : Result → Shared → Prop} (bt : Nat → Nat → Bool) (hh : A.handled = none) (hl : (l, listOf vs.toArray nn) ∈ news)
    (hSL : S ≠ L) (hS0 : h₀.get? S = none) (hIL : I ≠ L) (hI0 : h₀.get? I = none) (hSI : S ≠ I) (hnS : ∀ p ∈ news, p.1 ≠ S) (hnI : ∀ p ∈ news, p.1 ≠ I)
    (cmp : ∀ (j i : Nat) (vj vi : Value), vs[j]? = some vj → vs[i]? = some vi → ∀ (s' : Shared) (Q E : Value → Shared → Prop), News h₀ L s'.heap news → Q (.bool (bt j i)) s' → wpAny (model prog w) A.in1 (richCompare .Lt vj vi) Q E s')
    (hR : ∀ v h' tk', vs[argBest bt (vs.length - 1)]? = some v → Fr h₀ L h' m → News h₀ L h' news → R (.ok (.ret v)) { s with heap := h', toks := tk' }) :
    ∀ (r j : Nat) (h : Heap) (tk : Nat) (vb : Value) (c : Nat), vs.length - (j + 1) = r → j + 1 ≤ vs.length → Fr h₀ L h m → News h₀ L h news → h.get? S = some (listOf #[vb, vb] c) → h.IsListIter I l (j + 1) → vs[argBest bt j]? = some vb →
      codeAny (model prog w) A (.builtin "min.loop" ⟨[.ref I, .none, .ref S], []⟩) R { s with heap := h, toks := tk } := by
  have hname : (toString "min" ++ toString ".loop" : String) = "min.loop" := by decide
  have hlI : l ≠ I := hnI _ hl
  have W := Walks.list (prog := prog) (w := w) (A := A.in1) hh I l hlI vs.toArray
  have hsz : vs.toArray.size = vs.length := List.size_toArray ..
  have isl : ∀ h, News h₀ L h news → h.IsList l vs.toArray := fun h N => ⟨_, (N _ hl).1, rfl, nn, rfl⟩
  intro r
  induction r with
  | zero =>
    intro j h tk vb c hr hj F N nS hit hvb
    have hin : j + 1 = vs.length := by omega
    refine codeAny_builtin PySem.F.entry_min_loop ?_
    rw [Around.under_plainId PySem.F.plain_min_loop _]
    show wpAny _ A.in1 (seqItems? (.ref S) >>= _) _ _ _
    refine wpAny_bind (wpAny_seqItems nS rfl ?_)
    show wpAny _ A.in1 (tryCatch (pyNext (.ref I)) _ >>= _) _ _ _
    refine wpAny_bind (wpAny_tryCatch (W.done _ _ _ ⟨by rw [hsz, ← hin]; exact hit, isl h N⟩ fun h' tk' hk' => ?_))
    have F1 := kmb_fr F hk' hIL hI0
    have N1 := kmb_news N hk' hnI
    have hS' := hk' S _ (by simpa using hSI) nS
    have s1 := Heap.SameBut.update h' S (Obj.mapSeq fun _ => (#[] : Array Value))
    show wpAny _ A.in1 (updateSeq S (fun _ => #[]) >>= _) _ _ _
    refine wpAny_bind ?_
    refine wpAny_updateSeq hS' rfl (wpAny_bind (wpAny_letGo (wpAny_pure ?_)))
    exact hR vb _ _ (by rw [← hin]; exact hvb) (F1.change s1 hSL hS0) (but_ N1 s1 hnS)
  | succ r ih =>
    intro j h tk vb c hr hj F N nS hit hvb
    have hlt : j + 1 < vs.length := by omega
    refine codeAny_builtin PySem.F.entry_min_loop ?_
    rw [Around.under_plainId PySem.F.plain_min_loop _]
    show wpAny _ A.in1 (seqItems? (.ref S) >>= _) _ _ _
    refine wpAny_bind (wpAny_seqItems nS rfl ?_)
    show wpAny _ A.in1 (tryCatch (pyNext (.ref I)) _ >>= _) _ _ _
    refine wpAny_bind (wpAny_tryCatch (W.item (j + 1) _ _ _ (by rw [hsz]; exact hlt) ⟨hit, isl h N⟩ fun v h' tk' hP hst' hk' => ?_))
    have hv : vs[j + 1]? = some v := by simpa using hP
    have F1 := kmb_fr F hk' hIL hI0
    have N1 := kmb_news N hk' hnI
    have hS' := hk' S _ (by simpa using hSI) nS
    show wpAny _ A.in1 (tryCatch (holding [v, v] (richCompare .Lt v vb >>= _)) _ >>= _) _ _ _
    refine wpAny_bind (wpAny_tryCatch (wpAny_holding (wpAny_bind (cmp (j + 1) (argBest bt j) v vb hv hvb _ _ _ N1 ?_))))
    refine wpAny_bind (wpAny_holding (wpAny_truthy_bool ?_))
    refine wpAny_bind (wpAny_letGo (wpAny_pure ?_))
    cases hb : bt (j + 1) (argBest bt j) with
    | true =>
      rw [if_pos rfl]
      have s1 := Heap.SameBut.update h' S (Obj.mapSeq fun _ => #[v, v])
      obtain ⟨c2, hc2⟩ : ∃ c2, (h'.update S (Obj.mapSeq fun _ => #[v, v])).get? S = some (listOf #[v, v] c2) := ⟨_, get?_update_seq hS' fun _ => #[v, v]⟩
      refine wpAny_bind ?_
      refine wpAny_updateSeq hS' rfl (wpAny_bind (wpAny_letGo ?_))
      rw [hname]
      refine wpAny_pure ⟨plainId_quiet PySem.F.plain_min_loop _, ih (j + 1) _ _ v c2 (by omega) hlt (F1.change s1 hSL hS0) (but_ N1 s1 hnS) hc2 ?_ ?_⟩
      · obtain ⟨oI', hoI', hoc, hod⟩ := hst'.1
        exact ⟨oI', (s1.2 I hSI.symm).trans hoI', hoc, hod⟩
      · rw [show argBest bt (j + 1) = j + 1 from if_pos hb]; exact hv
    | false =>
      rw [if_neg (by decide)]
      refine wpAny_bind (wpAny_letGo ?_)
      rw [hname]
      refine wpAny_pure ⟨plainId_quiet PySem.F.plain_min_loop _, ih (j + 1) _ _ vb c (by omega) hlt F1 N1 hS' hst'.1 ?_⟩
      rw [show argBest bt (j + 1) = argBest bt j from if_neg (by rw [hb]; decide)]; exact hvb
theorem max_lp {l I S : Addr} {vs : List Value} {nn : Nat} {R : Result → Shared → Prop} (bt : Nat → Nat → Bool) (hh : A.handled = none) (hl : (l, listOf vs.toArray nn) ∈ news)
    (hSL : S ≠ L) (hS0 : h₀.get? S = none) (hIL : I ≠ L) (hI0 : h₀.get? I = none) (hSI : S ≠ I) (hnS : ∀ p ∈ news, p.1 ≠ S) (hnI : ∀ p ∈ news, p.1 ≠ I)
    (cmp : ∀ (j i : Nat) (vj vi : Value), vs[j]? = some vj → vs[i]? = some vi → ∀ (s' : Shared) (Q E : Value → Shared → Prop), News h₀ L s'.heap news → Q (.bool (bt j i)) s' → wpAny (model prog w) A.in1 (richCompare .Gt vj vi) Q E s')
    (hR : ∀ v h' tk', vs[argBest bt (vs.length - 1)]? = some v → Fr h₀ L h' m → News h₀ L h' news → R (.ok (.ret v)) { s with heap := h', toks := tk' }) :
    ∀ (r j : Nat) (h : Heap) (tk : Nat) (vb : Value) (c : Nat), vs.length - (j + 1) = r → j + 1 ≤ vs.length → Fr h₀ L h m → News h₀ L h news → h.get? S = some (listOf #[vb, vb] c) → h.IsListIter I l (j + 1) → vs[argBest bt j]? = some vb →
      codeAny (model prog w) A (.builtin "max.loop" ⟨[.ref I, .none, .ref S], []⟩) R { s with heap := h, toks := tk } := by
  have hname : (toString "max" ++ toString ".loop" : String) = "max.loop" := by decide
  have hlI : l ≠ I := hnI _ hl
  have W := Walks.list (prog := prog) (w := w) (A := A.in1) hh I l hlI vs.toArray
  have hsz : vs.toArray.size = vs.length := List.size_toArray ..
  have isl : ∀ h, News h₀ L h news → h.IsList l vs.toArray := fun h N => ⟨_, (N _ hl).1, rfl, nn, rfl⟩
  intro r
  induction r with
  | zero =>
    intro j h tk vb c hr hj F N nS hit hvb
    have hin : j + 1 = vs.length := by omega
    refine codeAny_builtin PySem.F.entry_max_loop ?_
    rw [Around.under_plainId PySem.F.plain_max_loop _]
    show wpAny _ A.in1 (seqItems? (.ref S) >>= _) _ _ _
    refine wpAny_bind (wpAny_seqItems nS rfl ?_)
    show wpAny _ A.in1 (tryCatch (pyNext (.ref I)) _ >>= _) _ _ _
    refine wpAny_bind (wpAny_tryCatch (W.done _ _ _ ⟨by rw [hsz, ← hin]; exact hit, isl h N⟩ fun h' tk' hk' => ?_))
    have F1 := kmb_fr F hk' hIL hI0
    have N1 := kmb_news N hk' hnI
    have hS' := hk' S _ (by simpa using hSI) nS
    have s1 := Heap.SameBut.update h' S (Obj.mapSeq fun _ => (#[] : Array Value))
    show wpAny _ A.in1 (updateSeq S (fun _ => #[]) >>= _) _ _ _
    refine wpAny_bind ?_
    refine wpAny_updateSeq hS' rfl (wpAny_bind (wpAny_letGo (wpAny_pure ?_)))
    exact hR vb _ _ (by rw [← hin]; exact hvb) (F1.change s1 hSL hS0) (but_ N1 s1 hnS)
  | succ r ih =>
    intro j h tk vb c hr hj F N nS hit hvb
    have hlt : j + 1 < vs.length := by omega
    refine codeAny_builtin PySem.F.entry_max_loop ?_
    rw [Around.under_plainId PySem.F.plain_max_loop _]
    show wpAny _ A.in1 (seqItems? (.ref S) >>= _) _ _ _
    refine wpAny_bind (wpAny_seqItems nS rfl ?_)
    show wpAny _ A.in1 (tryCatch (pyNext (.ref I)) _ >>= _) _ _ _
    refine wpAny_bind (wpAny_tryCatch (W.item (j + 1) _ _ _ (by rw [hsz]; exact hlt) ⟨hit, isl h N⟩ fun v h' tk' hP hst' hk' => ?_))
    have hv : vs[j + 1]? = some v := by simpa using hP
    have F1 := kmb_fr F hk' hIL hI0
    have N1 := kmb_news N hk' hnI
    have hS' := hk' S _ (by simpa using hSI) nS
    show wpAny _ A.in1 (tryCatch (holding [v, v] (richCompare .Gt v vb >>= _)) _ >>= _) _ _ _
    refine wpAny_bind (wpAny_tryCatch (wpAny_holding (wpAny_bind (cmp (j + 1) (argBest bt j) v vb hv hvb _ _ _ N1 ?_))))
    refine wpAny_bind (wpAny_holding (wpAny_truthy_bool ?_))
    refine wpAny_bind (wpAny_letGo (wpAny_pure ?_))
    cases hb : bt (j + 1) (argBest bt j) with
    | true =>
      rw [if_pos rfl]
      have s1 := Heap.SameBut.update h' S (Obj.mapSeq fun _ => #[v, v])
      obtain ⟨c2, hc2⟩ : ∃ c2, (h'.update S (Obj.mapSeq fun _ => #[v, v])).get? S = some (listOf #[v, v] c2) := ⟨_, get?_update_seq hS' fun _ => #[v, v]⟩
      refine wpAny_bind ?_
      refine wpAny_updateSeq hS' rfl (wpAny_bind (wpAny_letGo ?_))
      rw [hname]
      refine wpAny_pure ⟨plainId_quiet PySem.F.plain_max_loop _, ih (j + 1) _ _ v c2 (by omega) hlt (F1.change s1 hSL hS0) (but_ N1 s1 hnS) hc2 ?_ ?_⟩
      · obtain ⟨oI', hoI', hoc, hod⟩ := hst'.1
        exact ⟨oI', (s1.2 I hSI.symm).trans hoI', hoc, hod⟩
      · rw [show argBest bt (j + 1) = j + 1 from if_pos hb]; exact hv
    | false =>
      rw [if_neg (by decide)]
      refine wpAny_bind (wpAny_letGo ?_)
      rw [hname]
      refine wpAny_pure ⟨plainId_quiet PySem.F.plain_max_loop _, ih (j + 1) _ _ vb c (by omega) hlt F1 N1 hS' hst'.1 ?_⟩
      rw [show argBest bt (j + 1) = argBest bt j from if_neg (by rw [hb]; decide)]; exact hvb
theorem min_call {l : Addr} {vs : List Value} {nn : Nat} {Q : Value → Shared → Prop} (bt : Nat → Nat → Bool) (hh : A.handled = none) (F : Fr h₀ L s.heap m) (N : News h₀ L s.heap news) (hl : (l, listOf vs.toArray nn) ∈ news) (hne : 0 < vs.length)
    (cmp : ∀ (j i : Nat) (vj vi : Value), vs[j]? = some vj → vs[i]? = some vi → ∀ (s' : Shared) (Q E : Value → Shared → Prop), News h₀ L s'.heap news → Q (.bool (bt j i)) s' → wpAny (model prog w) A.in1 (richCompare .Lt vj vi) Q E s')
    (hQ : ∀ v h' tk', vs[argBest bt (vs.length - 1)]? = some v → Fr h₀ L h' m → News h₀ L h' news → Q v { s with heap := h', toks := tk' }) :
    wpAny (model prog w) A (call (.builtin "min") [.ref l]) Q E s := by
  have hname : (toString "min" ++ toString ".loop" : String) = "min.loop" := by decide
  have isl : ∀ h, News h₀ L h news → h.IsList l vs.toArray := fun h N => ⟨_, (N _ hl).1, rfl, nn, rfl⟩
  refine call_function_tree PySem.F.kind_min PySem.F.plain_min PySem.F.entry_min (PySem.F.args_min1 _) ?_
  show wpAny _ A.in1 (Builtin.Builtins.bindParams "min" ["key", "default"] 0 ⟨[], []⟩ >>= _) _ _ s
  refine wpAny_bind (wpAny_of_eq (show Builtin.Builtins.bindParams "min" ["key", "default"] 0 ⟨[], []⟩ = pure [none, none] from rfl) ?_)
  refine wpAny_bind (wpAny_pure ?_)
  refine wpAny_bind (wpAny_pyIter_list (isl _ N) ?_)
  refine wpAny_bind (wpAny_newObj_type ?_)
  rw [hname]
  have hI0 : h₀.get? s.heap.objs.size = none := next_is_new F
  generalize hH1 : s.heap.push { cls := .type "list_iterator", data := .fields #[.ref l, .int 0 0] } = H1
  have F1 : Fr h₀ L H1 m := hH1 ▸ F.push _
  have N1 : News h₀ L H1 news := hH1 ▸ push_all N _
  have z1 : H1.objs.size = s.heap.objs.size + 1 := by rw [← hH1, Heap.size_push]
  have gI1 : H1.get? s.heap.objs.size = some { cls := .type "list_iterator", data := .fields #[.ref l, .int 0 0] } := by rw [← hH1]; exact Heap.get?_push_size _ rfl
  have hS0 : h₀.get? H1.objs.size = none := next_is_new F1
  have hnI : ∀ p ∈ news, p.1 ≠ s.heap.objs.size := fun p hp => Nat.ne_of_lt (Heap.lt_size (N p hp).1)
  have hnS : ∀ p ∈ news, p.1 ≠ H1.objs.size := fun p hp => Nat.ne_of_lt (Heap.lt_size (N1 p hp).1)
  have hSI : H1.objs.size ≠ s.heap.objs.size := by rw [z1]; exact Nat.ne_of_gt (Nat.lt_succ_self _)
  have hIL : s.heap.objs.size ≠ L := Nat.ne_of_gt F.ns.lt
  have hSL : H1.objs.size ≠ L := Nat.ne_of_gt F1.ns.lt
  generalize hH2 : H1.push _ = H2
  have F2 : Fr h₀ L H2 m := hH2 ▸ F1.push _
  have N2 : News h₀ L H2 news := hH2 ▸ push_all N1 _
  have gI2 : H2.get? s.heap.objs.size = some { cls := .type "list_iterator", data := .fields #[.ref l, .int 0 0] } := by rw [← hH2]; exact Heap.get?_push_of_some _ gI1
  have gS2 : H2.get? H1.objs.size = some (listOf #[] 0) := by rw [← hH2]; exact Heap.get?_push_size _ rfl
  generalize hI : s.heap.objs.size = I at *
  generalize hS : H1.objs.size = S at *
  have hlI : l ≠ I := hnI _ hl
  have W := Walks.list (prog := prog) (w := w) (A := A.in1) hh I l hlI vs.toArray
  have hsz : vs.toArray.size = vs.length := List.size_toArray ..
  refine wpAny_pure ⟨plainId_quiet PySem.F.plain_min_loop _, codeAny_builtin PySem.F.entry_min_loop ?_⟩
  rw [Around.under_plainId PySem.F.plain_min_loop _]
  show wpAny _ A.in1 (seqItems? (.ref S) >>= _) _ _ _
  refine wpAny_bind (wpAny_seqItems gS2 rfl ?_)
  show wpAny _ A.in1 (tryCatch (pyNext (.ref I)) _ >>= _) _ _ _
  refine wpAny_bind (wpAny_tryCatch (W.item 0 _ _ _ (by rw [hsz]; exact hne) ⟨⟨_, gI2, rfl, rfl⟩, isl _ N2⟩ fun v h' tk' hP hst' hk' => ?_))
  have hv : vs[0]? = some v := by simpa using hP
  have F3 := kmb_fr F2 hk' hIL hI0
  have N3 := kmb_news N2 hk' hnI
  have hS' := hk' S _ (by simpa using hSI) gS2
  have s1 := Heap.SameBut.update h' S (Obj.mapSeq fun _ => #[v, v])
  obtain ⟨c2, hc2⟩ : ∃ c2, (h'.update S (Obj.mapSeq fun _ => #[v, v])).get? S = some (listOf #[v, v] c2) := ⟨_, get?_update_seq hS' fun _ => #[v, v]⟩
  show wpAny _ A.in1 (updateSeq S (fun _ => #[v, v]) >>= _) _ _ _
  refine wpAny_bind ?_
  refine wpAny_updateSeq hS' rfl ?_
  rw [hname]
  refine wpAny_pure ⟨plainId_quiet PySem.F.plain_min_loop _, min_lp (s := s) bt hh hl hSL hS0 hIL hI0 hSI hnS hnI cmp (fun v h' tk' q F' N' => hQ v h' tk' q F' N') _ 0 _ _ v c2 rfl hne (F3.change s1 hSL hS0) (but_ N3 s1 hnS) hc2 ?_ hv⟩
  obtain ⟨oI', hoI', hoc, hod⟩ := hst'.1
  exact ⟨oI', (s1.2 I hSI.symm).trans hoI', hoc, hod⟩
theorem max_call {l : Addr} {vs : List Value} {nn : Nat} {Q : Value → Shared → Prop} (bt : Nat → Nat → Bool) (hh : A.handled = none) (F : Fr h₀ L s.heap m) (N : News h₀ L s.heap news) (hl : (l, listOf vs.toArray nn) ∈ news) (hne : 0 < vs.length)
    (cmp : ∀ (j i : Nat) (vj vi : Value), vs[j]? = some vj → vs[i]? = some vi → ∀ (s' : Shared) (Q E : Value → Shared → Prop), News h₀ L s'.heap news → Q (.bool (bt j i)) s' → wpAny (model prog w) A.in1 (richCompare .Gt vj vi) Q E s')
    (hQ : ∀ v h' tk', vs[argBest bt (vs.length - 1)]? = some v → Fr h₀ L h' m → News h₀ L h' news → Q v { s with heap := h', toks := tk' }) :
    wpAny (model prog w) A (call (.builtin "max") [.ref l]) Q E s := by
  have hname : (toString "max" ++ toString ".loop" : String) = "max.loop" := by decide
  have isl : ∀ h, News h₀ L h news → h.IsList l vs.toArray := fun h N => ⟨_, (N _ hl).1, rfl, nn, rfl⟩
  refine call_function_tree PySem.F.kind_max PySem.F.plain_max PySem.F.entry_max (PySem.F.args_max1 _) ?_
  show wpAny _ A.in1 (Builtin.Builtins.bindParams "max" ["key", "default"] 0 ⟨[], []⟩ >>= _) _ _ s
  refine wpAny_bind (wpAny_of_eq (show Builtin.Builtins.bindParams "max" ["key", "default"] 0 ⟨[], []⟩ = pure [none, none] from rfl) ?_)
  refine wpAny_bind (wpAny_pure ?_)
  refine wpAny_bind (wpAny_pyIter_list (isl _ N) ?_)
  refine wpAny_bind (wpAny_newObj_type ?_)
  rw [hname]
  have hI0 : h₀.get? s.heap.objs.size = none := next_is_new F
  generalize hH1 : s.heap.push { cls := .type "list_iterator", data := .fields #[.ref l, .int 0 0] } = H1
  have F1 : Fr h₀ L H1 m := hH1 ▸ F.push _
  have N1 : News h₀ L H1 news := hH1 ▸ push_all N _
  have z1 : H1.objs.size = s.heap.objs.size + 1 := by rw [← hH1, Heap.size_push]
  have gI1 : H1.get? s.heap.objs.size = some { cls := .type "list_iterator", data := .fields #[.ref l, .int 0 0] } := by rw [← hH1]; exact Heap.get?_push_size _ rfl
  have hS0 : h₀.get? H1.objs.size = none := next_is_new F1
  have hnI : ∀ p ∈ news, p.1 ≠ s.heap.objs.size := fun p hp => Nat.ne_of_lt (Heap.lt_size (N p hp).1)
  have hnS : ∀ p ∈ news, p.1 ≠ H1.objs.size := fun p hp => Nat.ne_of_lt (Heap.lt_size (N1 p hp).1)
  have hSI : H1.objs.size ≠ s.heap.objs.size := by rw [z1]; exact Nat.ne_of_gt (Nat.lt_succ_self _)
  have hIL : s.heap.objs.size ≠ L := Nat.ne_of_gt F.ns.lt
  have hSL : H1.objs.size ≠ L := Nat.ne_of_gt F1.ns.lt
  generalize hH2 : H1.push _ = H2
  have F2 : Fr h₀ L H2 m := hH2 ▸ F1.push _
  have N2 : News h₀ L H2 news := hH2 ▸ push_all N1 _
  have gI2 : H2.get? s.heap.objs.size = some { cls := .type "list_iterator", data := .fields #[.ref l, .int 0 0] } := by rw [← hH2]; exact Heap.get?_push_of_some _ gI1
  have gS2 : H2.get? H1.objs.size = some (listOf #[] 0) := by rw [← hH2]; exact Heap.get?_push_size _ rfl
  generalize hI : s.heap.objs.size = I at *
  generalize hS : H1.objs.size = S at *
  have hlI : l ≠ I := hnI _ hl
  have W := Walks.list (prog := prog) (w := w) (A := A.in1) hh I l hlI vs.toArray
  have hsz : vs.toArray.size = vs.length := List.size_toArray ..
  refine wpAny_pure ⟨plainId_quiet PySem.F.plain_max_loop _, codeAny_builtin PySem.F.entry_max_loop ?_⟩
  rw [Around.under_plainId PySem.F.plain_max_loop _]
  show wpAny _ A.in1 (seqItems? (.ref S) >>= _) _ _ _
  refine wpAny_bind (wpAny_seqItems gS2 rfl ?_)
  show wpAny _ A.in1 (tryCatch (pyNext (.ref I)) _ >>= _) _ _ _
  refine wpAny_bind (wpAny_tryCatch (W.item 0 _ _ _ (by rw [hsz]; exact hne) ⟨⟨_, gI2, rfl, rfl⟩, isl _ N2⟩ fun v h' tk' hP hst' hk' => ?_))
  have hv : vs[0]? = some v := by simpa using hP
  have F3 := kmb_fr F2 hk' hIL hI0
  have N3 := kmb_news N2 hk' hnI
  have hS' := hk' S _ (by simpa using hSI) gS2
  have s1 := Heap.SameBut.update h' S (Obj.mapSeq fun _ => #[v, v])
  obtain ⟨c2, hc2⟩ : ∃ c2, (h'.update S (Obj.mapSeq fun _ => #[v, v])).get? S = some (listOf #[v, v] c2) := ⟨_, get?_update_seq hS' fun _ => #[v, v]⟩
  show wpAny _ A.in1 (updateSeq S (fun _ => #[v, v]) >>= _) _ _ _
  refine wpAny_bind ?_
  refine wpAny_updateSeq hS' rfl ?_
  rw [hname]
  refine wpAny_pure ⟨plainId_quiet PySem.F.plain_max_loop _, max_lp (s := s) bt hh hl hSL hS0 hIL hI0 hSI hnS hnI cmp (fun v h' tk' q F' N' => hQ v h' tk' q F' N') _ 0 _ _ v c2 rfl hne (F3.change s1 hSL hS0) (but_ N3 s1 hnS) hc2 ?_ hv⟩
  obtain ⟨oI', hoI', hoc, hod⟩ := hst'.1
  exact ⟨oI', (s1.2 I hSI.symm).trans hoI', hoc, hod⟩
end
section
open PySem.W
variable {prog : Program} {w : World} {A : Around} {E : Value → Shared → Prop} {s : Shared} {env : Env} {h₀ : Heap} {target : PySem.Expr} {body : List Stmt} {Q : Flow → Shared → Prop}
/-- a turn of a loop over enumerate: its iterators lie in its -/
noncomputable def TurnE (h₀ : Heap) (L I : Addr) (o1 o2 : Obj) (keep : Led) (Jn : (Str → Option Value) → Led → Prop) (s₁ : Shared) (Q : Flow → Shared → Prop) : Flow → Shared → Prop :=
  UnrPostW h₀ L s₁ [(I + 1, o1), (I, o2)] (fun m' n' => SubL keep n' ∧ Jn m' n') Q
theorem TurnE.next {L I : Addr} {o1 o2 : Obj} {keep : Led} {Jn : (Str → Option Value) → Led → Prop} {s₁ : Shared} {h' : Heap} {tk' : Nat} {m' : Str → Option Value} {news' : Led}
    (F : Fr h₀ L h' m') (N : News h₀ L h' ((I + 1, o1) :: (I, o2) :: news')) (ho : ∀ p ∈ news', p.1 < I) (hk : SubL keep news') (hj : Jn m' news') : TurnE h₀ L I o1 o2 keep Jn s₁ Q .next { s₁ with heap := h', toks := tk' } :=
  ⟨h', tk', m', news', rfl, F, N, fun p hp q hq e => by
    have l := ho p hp
    rcases List.mem_cons.mp hq with rfl | hq
    · exact Nat.ne_of_lt (Nat.lt_succ_of_lt l) e
    · rw [List.mem_singleton.mp hq] at e
      exact Nat.ne_of_lt l e, hk, hj⟩
theorem enum_ind {I : Addr} {keep : Led} {vs : List Value} (J : Nat → (Str → Option Value) → Led → Prop)
    (turn : ∀ i v m₁ news₁ T t h tk o1 o2, vs[i]? = some v → J i m₁ news₁ → IsTup h T #[.int (i : Int) t, v] → Fr h₀ env.locals h m₁ → News h₀ env.locals h ((I + 1, o1) :: (I, o2) :: news₁) →
      wpAny (model prog w) A (assign target env (.ref T)) (fun _ s₂ => wpAny (model prog w) A (execs body env) (TurnE h₀ env.locals I o1 o2 keep (J (i + 1)) { s with heap := h, toks := tk } Q) E s₂) E { s with heap := h, toks := tk })
    (done : ∀ h tk m' news', Fr h₀ env.locals h m' → News h₀ env.locals h news' → J vs.length m' news' → Q .next { s with heap := h, toks := tk }) :
    ∀ k i m news, i + k = vs.length → J i m news → ItemsRest prog w A E h₀ env target body Q s [(I + 1, "enumerate"), (I, "list_iterator")] keep (enumItems i (vs.drop i)) m news := by
  intro k
  induction k with
  | zero =>
    intro i m news hi hj
    rw [List.drop_of_length_le (by omega)]
    refine ItemsRest.zero fun h tk F N => ?_
    have e : i = vs.length := by omega
    subst e
    exact done h tk m news F N hj
  | succ k ih =>
    intro i m news hi hj
    have hlt : i < vs.length := by omega
    rw [List.drop_eq_getElem_cons hlt]
    refine ItemsRest.pair fun T t h tk hT F => ?_
    refine AllObj.cons fun o1 hc1 => AllObj.cons fun o2 hc2 => AllObj.nil fun N => ?_
    refine wpAny_mono (turn i _ m news T t h tk o1 o2 (List.getElem?_eq_getElem hlt) hj hT F N) (fun _ s₂ h₂ => wpAny_mono h₂ (fun f s₃ p => ?_) fun _ _ e => e) fun _ _ e => e
    have fin : UnrEndW h₀ env.locals { s with heap := h, toks := tk } [(I + 1, o1), (I, o2)] (fun m' n' => SubL keep n' ∧ J (i + 1) m' n') s₃ → UnrEndW h₀ env.locals { s with heap := h, toks := tk } [(I + 1, o1), (I, o2)] (fun m' n' => SubL keep n' ∧ ItemsRest prog w A E h₀ env target body Q s [(I + 1, "enumerate"), (I, "list_iterator")] keep (enumItems (i + 1) (vs.drop (i + 1))) m' n') s₃ := by
      rintro ⟨h', tk', m', news', e, F', N', ho, hk, hj'⟩
      exact ⟨h', tk', m', news', e, F', N', ho, hk, ih (i + 1) m' news' (by omega) hj'⟩
    cases f with
    | ret v => exact p
    | brk => exact p
    | next => exact fin p
    | cont => exact fin p
end
section
variable {prog : Program} {w : World} {A : Around} {E : Value → Shared → Prop} {s : Shared} {h₀ : Heap} {L l : Addr} {m : Str → Option Value} {news : Led} {value slice : PySem.Expr} {vs : List Value} {n : Nat} {k : Int} {t : Tok} {Q : Value → Shared → Prop}
/-- the front of a ledger's list -/
theorem front_led (F : Fr h₀ L s.heap m) (N : News h₀ L s.heap news) (hl : (l, listOf vs.toArray n) ∈ news) (h0 : 0 ≤ k)
    (h : ∀ D h', Fr h₀ L h' m → News h₀ L h' ((D, listOf (vs.take k.toNat).toArray 0) :: news) → (∀ p ∈ news, p.1 < D) → Q (.ref D) { s with heap := h' })
    (hs : subscripted slice false (.ref l) (.ref s.heap.objs.size) = operate [.ref s.heap.objs.size, .ref l] (getItem (.ref l) (.ref s.heap.objs.size))) (ht : ∀ r, letTemporaryGo value (.ref l) r = pure ()) (hz : vs.length ≤ sizeLine) :
    wpAny (model prog w) A (subscriptTail value slice (.ref l) (.ref s.heap.objs.size)) Q E { s with heap := s.heap.push { cls := .type "slice", data := .fields #[.none, .int k t, .none] } } := by
  refine PySem.W.kms_slice_lit F N (PySem.IsL.isList (n := n) (N _ hl).1) (lo := none) (hi := some k) ?_ ?_ ?_ h hs ht (by rw [List.size_toArray]; exact hz)
  · constructor
  · constructor
  · unfold PySem.W.kms_pick PySem.W.kms_lo PySem.W.kms_hi
    simp only [if_neg (show ¬ k < 0 by omega), List.drop_zero, Nat.sub_zero]
    exact PySem.W.kmk_take_min _ _
end
theorem strs_at {vs : List Value} {ws : List Str} (h : StrsAre vs ws) {x : Value} (hx : x ∈ vs) : ∃ w t, x = .str w t ∧ w ∈ ws := by
  induction h with
  | nil => nomatch hx
  | cons w t h ih =>
    rcases List.mem_cons.mp hx with rfl | hx
    · exact ⟨w, t, rfl, .head _⟩
    · obtain ⟨w', t', e, hw⟩ := ih hx
      exact ⟨w', t', e, .tail _ hw⟩
section
variable {prog : Program} {w : World} {A : Around} {E : Value → Shared → Prop} {s : Shared} {h₀ : Heap} {L D : Addr} {news : Led} {vs : List Value} {k : Int} {u : Tok}
theorem seq_at {k : Int} {n : Nat} (h0 : 0 ≤ k) (h : k < n) : seqIndex? k n = some k.toNat := by
  unfold seqIndex?
  have e : ¬ k < 0 := by omega
  simp only [e, if_false]
  rw [if_pos]
  simp only [decide_eq_true_eq, Bool.and_eq_true]
  omega
theorem get_tup {value slice : PySem.Expr} {x : Value} {Q : Value → Shared → Prop} (N : News h₀ L s.heap news) (hm : (D, tupO vs) ∈ news) (h0 : 0 ≤ k) (h1 : k < vs.length) (hfit : k < 2 ^ 63) (hx : vs[k.toNat]? = some x) (h : Q x s)
    (hs : subscripted slice false (.ref D) (.int k u) = operate [.ref D, .int k u] (getItem (.ref D) (.int k u)) := by with_unfolding_all rfl) :
    wpAny (model prog w) A (subscriptTail value slice (.ref D) (.int k u)) Q E s :=
  item_tupleT (l := vs) (j := k.toNat) ⟨_, (N _ hm).1, rfl, _, rfl⟩ (by omega) hfit (seq_at h0 h1) hx h hs
end
/-- lists of texts, their lists in the ledger's part -/
inductive LstsIn (own : Led) : List Value → List (List Str) → Prop
  | nil : LstsIn own [] []
  | cons {a : Addr} {vs ys : List Value} {c : Nat} {ss : List Str} {sss : List (List Str)} (hm : (a, listOf vs.toArray c) ∈ own) (hs : StrsAre vs ss) (h : LstsIn own ys sss) : LstsIn own (.ref a :: ys) (ss :: sss)
theorem strs_get {vs : List Value} {ws : List Str} (h : StrsAre vs ws) {i : Nat} {x : Value} (hx : vs[i]? = some x) : ∃ w t, x = .str w t ∧ ws[i]? = some w := by
  induction h generalizing i with
  | nil => simp at hx
  | cons w t h ih =>
    cases i with
    | zero => simp at hx; exact ⟨w, t, hx.symm, rfl⟩
    | succ i => simp at hx; exact ih hx
theorem LstsIn.mono {own own' : Led} {ys : List Value} {sss : List (List Str)} (h : LstsIn own ys sss) (hh : ∀ p ∈ own, p ∈ own') : LstsIn own' ys sss := by
  induction h with
  | nil => exact .nil
  | cons hm hs _ ih => exact .cons (hh _ hm) hs ih
theorem LstsIn.snoc {own : Led} {ys : List Value} {sss : List (List Str)} (h : LstsIn own ys sss) {a : Addr} {vs : List Value} {c : Nat} {ss : List Str} (hm : (a, listOf vs.toArray c) ∈ own) (hs : StrsAre vs ss) : LstsIn own (ys ++ [.ref a]) (sss ++ [ss]) := by
  induction h with
  | nil => exact .cons hm hs .nil
  | cons hm' hs' _ ih => exact .cons hm' hs' ih
theorem comp_sub (x a b c : Addr × Obj) (r : Led) : ∀ p ∈ a :: b :: c :: x :: r, p ∈ x :: a :: b :: c :: r := fun p hp => by
  simp only [List.mem_cons] at hp ⊢
  rcases hp with h | h | h | h | h
  · exact .inr (.inl h)
  · exact .inr (.inr (.inl h))
  · exact .inr (.inr (.inr (.inl h)))
  · exact .inl h
  · exact .inr (.inr (.inr (.inr h)))
theorem off3_cons {I C D Dn : Addr} {oI oC oD o : Obj} {r : Led} (h : ∀ p ∈ (I, oI) :: (C, oC) :: (D, oD) :: r, p.1 < Dn) (off : LCg.Off3 I C D r) : LCg.Off3 I C D ((Dn, o) :: r) :=
  ⟨⟨Nat.ne_of_gt (h (I, oI) (.head _)), Nat.ne_of_gt (h (C, oC) (.tail _ (.head _))), Nat.ne_of_gt (h (D, oD) (.tail _ (.tail _ (.head _))))⟩, off⟩
theorem LstsIn.length {own : Led} {ys : List Value} {sss : List (List Str)} (h : LstsIn own ys sss) : ys.length = sss.length := by
  induction h with
  | nil => rfl
  | cons _ _ _ ih => rw [List.length_cons, List.length_cons, ih]
theorem LstsIn.get {own : Led} {ys : List Value} {sss : List (List Str)} (h : LstsIn own ys sss) {i : Nat} {v : Value} (hv : ys[i]? = some v) : ∃ a us c ss, v = .ref a ∧ (a, listOf us.toArray c) ∈ own ∧ StrsAre us ss ∧ sss[i]? = some ss := by
  induction h generalizing i with
  | nil => simp at hv
  | cons hm hs _ ih =>
    cases i with
    | zero => simp at hv; exact ⟨_, _, _, _, hv.symm, hm, hs, rfl⟩
    | succ i => simp at hv; exact ih hv
theorem len_fit {x : Str} (h : x.length ≤ 200) : ¬ (x.length : Int) ≥ 2 ^ 63 := by omega
/-- the parts that commonpath keeps -/
noncomputable def kept (ss : List Str) : List Str := ss.filter fun c => c.length != 0 && decide (c ≠ Str.ofString ".")
theorem strs_snoc {vs : List Value} {ws : List Str} (h : StrsAre vs ws) (x : Str) (t : Tok) : StrsAre (vs ++ [.str x t]) (ws ++ [x]) := by
  induction h with
  | nil => exact .cons _ _ .nil
  | cons w t' _ ih => exact .cons w t' ih
theorem kept_snoc {ss : List Str} {i : Nat} {x : Str} {t : Tok} {zs : List Value} (hx : ss[i]? = some x) (hk : (x.length != 0 && decide (x ≠ Str.ofString ".")) = true) (h : StrsAre zs (kept (ss.take i))) : StrsAre (zs ++ [.str x t]) (kept (ss.take (i + 1))) := by
  have e : kept (ss.take (i + 1)) = kept (ss.take i) ++ [x] := by
    unfold kept
    rw [List.take_add_one, hx, List.filter_append]
    congr 1
    show List.filter _ [x] = [x]
    rw [List.filter_cons, if_pos hk, List.filter_nil]
  rw [e]
  exact strs_snoc h x t
theorem kept_skip {ss : List Str} {i : Nat} {x : Str} {zs : List Value} (hx : ss[i]? = some x) (hk : (x.length != 0 && decide (x ≠ Str.ofString ".")) = false) (h : StrsAre zs (kept (ss.take i))) : StrsAre zs (kept (ss.take (i + 1))) := by
  have e : kept (ss.take (i + 1)) = kept (ss.take i) := by
    unfold kept
    rw [List.take_add_one, hx, List.filter_append]
    have : List.filter (fun c : Str => c.length != 0 && decide (c ≠ Str.ofString ".")) (some x).toList = [] := by
      show List.filter _ [x] = []
      rw [List.filter_cons, if_neg (by rw [hk]; decide), List.filter_nil]
    rw [this, List.append_nil]
  rw [e]
  exact h
theorem strs_take {vs : List Value} {ws : List Str} (h : StrsAre vs ws) (i : Nat) : StrsAre (vs.take i) (ws.take i) := by
  induction h generalizing i with
  | nil => rw [List.take_nil, List.take_nil]; exact .nil
  | cons w t _ ih =>
    cases i with
    | zero => exact .nil
    | succ i => exact .cons w t (ih i)
theorem sum_ones {l : List Str} (h : ∀ x ∈ l, x.length = 1) : (l.map (·.length)).sum = l.length := by
  induction l with
  | nil => rfl
  | cons x r ih => rw [List.map_cons, List.sum_cons, ih fun y hy => h y (.tail _ hy), h x (.head _), List.length_cons]; omega
theorem join_short {l : List Str} (h3 : l.length ≤ 3) (h : ∀ x ∈ l, x.length = 1) : (Txt.join (Str.ofString "/") l).length ≤ 16 := by
  have hsl : (Str.ofString "/").length = 1 := by rw [sl_cps]; rfl
  match l, h3, h with
  | [], _, _ => show (0 : Nat) ≤ 16; decide
  | [x], _, h => show x.length ≤ 16; rw [h x (.head _)]; decide
  | [x, y], _, h => show (x ++ Str.ofString "/" ++ y).length ≤ 16; rw [Str.length_append, Str.length_append, hsl, h x (.head _), h y (.tail _ (.head _))]; decide
  | [x, y, z], _, h => show (x ++ Str.ofString "/" ++ y ++ Str.ofString "/" ++ z).length ≤ 16; rw [Str.length_append, Str.length_append, Str.length_append, Str.length_append, hsl, h x (.head _), h y (.tail _ (.head _)), h z (.tail _ (.tail _ (.head _)))]; decide
  | _ :: _ :: _ :: _ :: _, h3, _ => exact absurd h3 (by simp)
/-- the names of the paths -/
noncomputable def namesOf (ws : List Str) : List (List Str) := (ws.map fun w => Txt.split w (Str.ofString "/")).map kept
/-- what commonpath gives -/
noncomputable def CpPost (ws : List Str) (v : Value) : Prop :=
  ∃ (ss1 ss2 : List Str) (e : Nat) (t : Tok), (namesOf ws)[argBest (fun j i => ltL ((namesOf ws).getD j []) ((namesOf ws).getD i [])) (ws.length - 1)]? = some ss1 ∧ (namesOf ws)[argBest (fun j i => ltL ((namesOf ws).getD i []) ((namesOf ws).getD j [])) (ws.length - 1)]? = some ss2 ∧
    e ≤ ss1.length ∧ ss1.take e = ss2.take e ∧ (e = ss1.length ∨ ss1[e]? ≠ ss2[e]?) ∧ v = .str (Str.ofString "/" ++ Txt.join (Str.ofString "/") (ss1.take e)) t
/-- behind the loop of commonpath -/
noncomputable def CpMid (g : Heap) (L : Addr) (s : Shared) (os1 : Obj) (rest : Led) (ss1 ss2 : List Str) (fl : Flow) (s' : Shared) : Prop :=
  fl = .next ∧ ∃ (h' : Heap) (tk' : Nat) (m' : Str → Option Value) (news' : Led) (e : Nat) (bc : Addr) (zs : List Value) (kc : Nat), s' = { s with heap := h', toks := tk' } ∧ Fr g L h' m' ∧ News g L h' news' ∧ (bc, listOf zs.toArray kc) ∈ news' ∧ StrsAre zs (ss1.take e) ∧
    m' (Str.ofString "common") = some (.ref bc) ∧ m' (Str.ofString "isabs") = some (.bool true) ∧ (L + 1, os1) ∈ news' ∧ (∀ p ∈ rest, p ∈ news') ∧ e ≤ ss1.length ∧ ss1.take e = ss2.take e ∧ (e = ss1.length ∨ ss1[e]? ≠ ss2[e]?)
set_option maxHeartbeats 4000000 in
theorem commonpath {W : Wd} (rest : Led) (pl : Addr) (vs : List Value) (ws : List Str) (nn : Nat) (hl : (pl, listOf vs.toArray nn) ∈ rest) (h_strs : StrsAre vs ws) (hst : ∀ w ∈ ws, Txt.startswith w (Str.ofString "/") = true) (hwl : ∀ w ∈ ws, w.length ≤ 100) (hpl : ∀ ss ∈ ws.map (fun w => Txt.split w (Str.ofString "/")), ss.length ≤ 200 ∧ ∀ x ∈ ss, x.length ≤ 200) (h2 : 2 ≤ ws.length) (h8 : ws.length ≤ 8) (hvl : vs.length = ws.length) (hK : ∀ ss ∈ (ws.map fun w => Txt.split w (Str.ofString "/")).map kept, ss.length = 3 ∧ ∀ x ∈ ss, x.length = 1) :
    Does W 197 30 [.ref pl] rest (fun v n' => CpPost ws v ∧ ∀ p ∈ rest, p ∈ n') := by
  k_with_none
  obtain ⟨w0, t0, hv0⟩ : ∃ w0 t0, vs[0]? = some (.str w0 t0) := by
    cases h_strs with
    | nil => exact absurd h2 (by decide)
    | cons w t h => exact ⟨w, t, rfl⟩
  have hne : vs.isEmpty = false := by cases vs with | nil => simp at hv0 | cons => rfl
  cell_end [(Str.ofString "paths", .ref pl)] 1 1
  intro L cells hLo Y dp un gd outer A₀ base g s Q B F X N Tp hd hu hret
  obtain ⟨oc, os, rfl, d1, d2⟩ := CellsAre.two Y
  replace F : Fr g L s.heap (fun y => if y = Str.ofString "paths" then some (.ref pl) else none) := F
  replace d1 : oc.data = .cell none := d1
  replace d2 : os.data = .cell none := d2
  replace N : News g L s.heap ((L + 2, oc) :: (L + 1, os) :: rest) := N
  have hl' : (pl, listOf vs.toArray nn) ∈ (L + 2, oc) :: (L + 1, os) :: rest := .tail _ (.tail _ hl)
  k_with "mine call" => refine Halt.go ?_
  k_with "exec Try" => refine try_calm ?_
  k_with "call type:map" => (refine call_map (by k_asm) (by k_asm) hl' ?_; intro I9 tp9 mp9 h9 F9 N9 l1 l2 l3)
  k_with "call type:tuple" => (refine map_tuple (f := 164) (D := 1) (l := pl) (items := vs.toArray) (n := nn) (fun x hx n' => by obtain ⟨w, t, rfl, _⟩ := strs_at h_strs hx; exact fspath n' w t) (by rw [List.size_toArray]; omega) B X Tp rfl (by omega) (by omega) (by k_asm) (by k_asm) ⟨rfl, rfl⟩ hl' (fun p hp => Nat.ne_of_lt (l1 p hp)) (Nat.ne_of_gt (Nat.lt_trans l2 l3)) (Nat.ne_of_gt l2) ?_; intro t8 h8 tk8 F8 N8 l8; have q8 : L + 2 < t8 := l8 _ (List.Mem.head _))
  k_with "truthy ref" => k_dflt (refine ktl_truthyK (by k_asm) (.head _) (by show vs.length ≤ 1000; omega) ?_; rw [show vs.toArray.toList = vs from rfl, hne])
  k_with "subscriptTail" => k_dflt (refine get_tup (vs := vs) (by k_asm) (.head _) (by decide) (by show (0 : Int) < vs.length; omega) (by decide) hv0 ?_)
  k_with "exec Assign cons ListComp" => refine Halt.go ?_
  k_steps
  unfold Halt
  refine' asg_comp_tup (h₀ := g) (L := L) ?a0 rfl ?a1 ?a2 ?a3 ?a4 ?a5 ?a6 ?a7 ?a8 ?_
  case a0 => k_asm
  case a1 => with_unfolding_all rfl
  case a2 => rfl
  case a3 => decide
  case a4 => rfl
  case a5 => decide
  case a6 => rfl
  case a7 => rfl
  case a8 => rfl
  k_steps
  rename_i h6 os1 ds1 h7 oc1 F7 N7 dc1
  refine ⟨t8, vs, _, rfl, rfl, F7, N7, .head _, by omega, ?_⟩
  rintro s₂ ⟨g', rfl⟩
  refine comp_ind (fun i ys news => ∃ own, news = own ++ ((t8, tupO vs) :: (L + 1 + 1, oc1) :: (L + 1, os1) :: rest) ∧ LstsIn own ys ((ws.map fun w => Txt.split w (Str.ofString "/")).take i)) ?turn ?fin vs.length 0 [] _ (Nat.zero_add _) ⟨[], rfl, .nil⟩
  case turn =>
    rintro i ys news v I oI C oC D m₂ h tk E' hi ⟨own, rfl, hown⟩ hP hC hx F N off n1 n2 n3
    obtain ⟨w, tw, rfl, hw⟩ := strs_get (show StrsAre vs ws by assumption) hP
    k_with_none
    have mC : (C, oC) ∈ (I, oI) :: (C, oC) :: (D, LCg.lst ys) :: (own ++ ((t8, tupO vs) :: (L + 1 + 1, oc1) :: (L + 1, os1) :: rest)) := .tail _ (.head _)
    have mS : (L + 1, os1) ∈ (I, oI) :: (C, oC) :: (D, LCg.lst ys) :: (own ++ ((t8, tupO vs) :: (L + 1 + 1, oc1) :: (L + 1, os1) :: rest)) := .tail _ (.tail _ (.tail _ (List.mem_append_right _ (.tail _ (.tail _ (.head _))))))
    have hw2 : w.length + 2 ≤ sizeLine := by have := hwl w (List.mem_of_getElem? hw); rw [sizeLine_eq]; omega
    k_with "eval Name" => first
      | refine LCgL.ld_own N mC hC hx ?_
      | refine lcf_free N rfl mS ds1 ?_ rfl rfl
    k_with "call builtin:str.split" => (refine KSpl.split1 F N (by decide) ?_ hw2; intro Dn ln hn kn en an Fn Nn off_n)
    k_with "CompEnd" => refine Halt.go ?_
    k_steps
    unfold Halt
    refine LCg.CompEnd.intro Fn Nn ((Dn, listOf (strValues ln).toArray 0) :: (own ++ ((t8, tupO vs) :: (L + 1 + 1, oc1) :: (L + 1, os1) :: rest))) (comp_sub _ _ _ _ _) (off3_cons off_n off) (.tail _ (List.mem_append_right _ (.head _))) ⟨(Dn, listOf (strValues ln).toArray 0) :: own, rfl, ?_⟩
    rw [List.take_add_one, List.getElem?_map, hw]
    exact LstsIn.snoc (hown.mono fun p hp => .tail _ hp) (.head _) (by rw [en] at an; exact an)
  case fin =>
    rintro ys news ⟨own, rfl, hown⟩
    intro D h tk F N o1
    k_with_none
    k_with "exec Try" => refine try_calm ?_
    k_with "exec Assign" => refine Halt.go ?_
    k_steps
    unfold Halt
    refine asg_set (cl := [(Str.ofString "sep", L + 1)]) (h₀ := g) (L := L) (m := fun z => if z = Str.ofString "split_paths" then some (.ref D) else if z = Str.ofString "paths" then some (.ref t8) else if z = Str.ofString "paths" then some (.ref pl) else none) rfl ?b1 ?b2 ?b3 ?b4 ?b5 ?b6 ?b7 ?_
    case b1 => with_unfolding_all rfl
    case b2 => decide
    case b3 => rfl
    case b4 => decide
    case b5 => rfl
    case b6 => rfl
    case b7 => rfl
    k_with_none
    replace F : Fr g L h (fun z => if z = Str.ofString "split_paths" then some (.ref D) else if z = Str.ofString "paths" then some (.ref t8) else if z = Str.ofString "paths" then some (.ref pl) else none) := F
    k_steps
    refine ⟨t8, vs, _, rfl, rfl, F, N, .tail _ (List.mem_append_right _ (.head _)), by omega, by omega, ?elt, ?fin2⟩
    case elt =>
      intro v C oC m₂ h5 tk5 E' hv hC hx N5
      obtain ⟨w, tw, rfl, hw⟩ := strs_at (show StrsAre vs ws by assumption) hv
      have mC : (C, oC) ∈ (C, oC) :: (D, LCg.lst ys) :: (own ++ ((t8, tupO vs) :: (L + 1 + 1, oc1) :: (L + 1, os1) :: rest)) := .head _
      have mS : (L + 1, os1) ∈ (C, oC) :: (D, LCg.lst ys) :: (own ++ ((t8, tupO vs) :: (L + 1 + 1, oc1) :: (L + 1, os1) :: rest)) := .tail _ (.tail _ (List.mem_append_right _ (.tail _ (.tail _ (.head _)))))
      k_with_none
      k_with "eval Name" => first
        | refine LCgL.ld_own N5 mC hC hx ?_
        | refine lcf_free N5 rfl mS ds1 ?_ rfl rfl
      k_with "call builtin:str.startswith" => (refine SC.startswith ?_; rw [hst w hw])
      k_steps
    case fin2 =>
      intro D2 h5 tk5 F5 N5
      refine ⟨D2, _, rfl, F5, N5, .head _, fun h6 tk6 F6 N6 => ?_⟩
      k_with_none
      k_with "exec Assign cons ListComp" => refine Halt.go ?_
      k_steps
      unfold Halt
      have eys : LstsIn own ys (ws.map fun w => Txt.split w (Str.ofString "/")) := by
        have := hown
        rw [List.take_of_length_le (by rw [List.length_map]; omega)] at this
        exact this
      clear hown
      refine' LCg.Assign_ListComp_U (h₀ := g) (L := L) (cl := [(Str.ofString "curdir", L + 2)]) F6 rfl ?c1 ?c2 ?c3 ?c4 ?c5 ?c6 ?c7 ?c8 ?_
      case c1 => with_unfolding_all rfl
      case c2 => with_unfolding_all rfl
      case c3 => decide
      case c4 => rfl
      case c5 => decide
      case c6 => rfl
      case c7 => rfl
      case c8 => rfl
      k_with_none
      k_steps
      refine LCg.CompSrc.ledger rfl F6 N6 (.tail _ (.head _)) (by show ys.length ≤ sizeLine; rw [eys.length, List.length_map, sizeLine_eq]; omega) ?_
      intro g2
      refine comp_ind (fun i ys2 news => ∃ own2, news = own2 ++ ((D2, setT (!W.w.params.followText "set-order")) :: (D, LCg.lst ys) :: (own ++ ((t8, tupO vs) :: (L + 1 + 1, oc1) :: (L + 1, os1) :: rest))) ∧ LstsIn own2 ys2 (((ws.map fun w => Txt.split w (Str.ofString "/")).map kept).take i)) ?turn2 ?fin3 ys.length 0 [] _ (Nat.zero_add _) ⟨[], rfl, .nil⟩
      case turn2 =>
        rintro i2 ys2 news2 v I2 oI2 C2 oC2 D3 m₂ h8 tk8 E8 hi2 ⟨own2, rfl, hown2⟩ hP2 hC2 hx2 F8 N8 off2 n1 n2 n3
        obtain ⟨a, us, cu, ss, rfl, hma, hus, hss⟩ := eys.get (show ys[i2]? = some v by rw [← hP2]; exact (List.getElem?_toArray ..).symm)
        refine' LCt.ListComp_T (h₀ := g) (L := L) (cl := [(Str.ofString "curdir", L + 2)]) F8 ?d1 ?d2 ?d3 ?d4 ?d5 ?_
        case d1 => with_unfolding_all rfl
        case d2 => decide
        case d3 => rfl
        case d4 => decide
        case d5 => rfl
        have mC2 : (C2, oC2) ∈ (I2, oI2) :: (C2, oC2) :: (D3, LCg.lst ys2) :: (own2 ++ ((D2, setT (!W.w.params.followText "set-order")) :: (D, LCg.lst ys) :: (own ++ ((t8, tupO vs) :: (L + 1 + 1, oc1) :: (L + 1, os1) :: rest)))) := .tail _ (.head _)
        have ma : (a, listOf us.toArray cu) ∈ (I2, oI2) :: (C2, oC2) :: (D3, LCg.lst ys2) :: (own2 ++ ((D2, setT (!W.w.params.followText "set-order")) :: (D, LCg.lst ys) :: (own ++ ((t8, tupO vs) :: (L + 1 + 1, oc1) :: (L + 1, os1) :: rest)))) := .tail _ (.tail _ (.tail _ (List.mem_append_right _ (.tail _ (.tail _ (List.mem_append_left _ hma))))))
        have mc : (L + 1 + 1, oc1) ∈ (I2, oI2) :: (C2, oC2) :: (D3, LCg.lst ys2) :: (own2 ++ ((D2, setT (!W.w.params.followText "set-order")) :: (D, LCg.lst ys) :: (own ++ ((t8, tupO vs) :: (L + 1 + 1, oc1) :: (L + 1, os1) :: rest)))) := .tail _ (.tail _ (.tail _ (List.mem_append_right _ (.tail _ (.tail _ (List.mem_append_right _ (.tail _ (.head _))))))))
        k_with "eval Name" => refine LCgL.ld_own N8 mC2 hC2 hx2 ?_
        k_steps
        obtain ⟨hul, hxl⟩ := hpl ss (List.mem_of_getElem? hss)
        have hul : us.length ≤ 200 := by rw [strs_len hus]; exact hul
        refine LCt.CompSrcT.ledger rfl F8 N8 ma (by show us.length ≤ sizeLine; rw [sizeLine_eq]; omega) ?_
        intro g3
        refine compT_ind (fun i zs news => news = (I2, oI2) :: (C2, oC2) :: (D3, LCg.lst ys2) :: (own2 ++ ((D2, setT (!W.w.params.followText "set-order")) :: (D, LCg.lst ys) :: (own ++ ((t8, tupO vs) :: (L + 1 + 1, oc1) :: (L + 1, os1) :: rest)))) ∧ StrsAre zs (kept (ss.take i))) ?turn3 ?fin4 us.length 0 [] _ (Nat.zero_add _) ⟨rfl, .nil⟩
        case turn3 =>
          rintro i3 zs news3 v I3 oI3 C3 oC3 D4 m₃ h9 tk9 E9 hi3 ⟨rfl, hzs⟩ hP3 hC3 hx3 F9 N9 off3 p1 p2 p3
          obtain ⟨x, tx, rfl, hx⟩ := strs_get hus (show us[i3]? = some v by rw [← hP3]; exact (List.getElem?_toArray ..).symm)
          refine test_kept (x := x) (y := Str.ofString ".") (t := tx) (fun s' Q p E' e h => LCgL.ld_own (by rw [e]; exact N9) (.tail _ (.head _)) hC3 hx3 h) (fun s' Q p E' e h => by first | exact lcf_cell (by rw [e]; exact N9) rfl (.tail _ (.tail _ (.tail _ mc))) dc1 h rfl rfl | exact lcf_free (by rw [e]; exact N9) rfl (.tail _ (.tail _ (.tail _ mc))) dc1 h rfl rfl) (hxl x (List.mem_of_getElem? hx)) fun tkx => ?_
          cases hk : (x.length != 0 && decide (x ≠ Str.ofString ".")) with
          | true =>
            rw [if_pos rfl]
            refine LCgL.ld_own N9 (.tail _ (.head _)) hC3 hx3 ?_
            refine LCg.CompEnd.intro F9 N9 _ (fun p hp => hp) off3 (.inr ⟨_, ma, rfl, _, rfl⟩) ⟨rfl, ?_⟩
            exact kept_snoc hx hk hzs
          | false =>
            rw [if_neg (by decide)]
            refine LCg.CompEnd.intro F9 N9 _ (fun p hp => hp) off3 (.inr ⟨_, ma, rfl, _, rfl⟩) ⟨rfl, ?_⟩
            exact kept_skip hx hk hzs
        case fin4 =>
          rintro zs news3 ⟨rfl, hzs⟩
          intro D5 h10 tk10 F10 N10 o10
          rw [List.take_of_length_le (by rw [← strs_len hus]; exact Nat.le_refl _)] at hzs
          refine LCg.CompEnd.intro F10 N10 ((D5, LCg.lst zs) :: (own2 ++ ((D2, setT (!W.w.params.followText "set-order")) :: (D, LCg.lst ys) :: (own ++ ((t8, tupO vs) :: (L + 1 + 1, oc1) :: (L + 1, os1) :: rest))))) (comp_sub _ _ _ _ _) ⟨⟨o10.1.symm, o10.2.1.symm, o10.2.2.1.symm⟩, off2⟩ (.inr ⟨_, .tail _ (List.mem_append_right _ (.tail _ (.head _))), rfl, _, rfl⟩) ⟨(D5, LCg.lst zs) :: own2, rfl, ?_⟩
          rw [List.take_add_one, List.getElem?_map, hss]
          exact LstsIn.snoc (hown2.mono fun p hp => .tail _ hp) (.head _) hzs
      case fin3 =>
        rintro ys2 news2 ⟨own2, rfl, hown2⟩
        intro D6 h11 tk11 F11 N11 o11
        have eys2 : LstsIn own2 ys2 ((ws.map fun w => Txt.split w (Str.ofString "/")).map kept) := by
          have := hown2
          rw [List.take_of_length_le (by rw [List.length_map, eys.length]; exact Nat.le_refl _)] at this
          exact this
        clear hown2
        replace F11 : Fr g L h11 (fun z => if z = Str.ofString "split_paths" then some (.ref D6) else if z = Str.ofString "isabs" then some (.bool true) else if z = Str.ofString "split_paths" then some (.ref D) else if z = Str.ofString "paths" then some (.ref t8) else if z = Str.ofString "paths" then some (.ref pl) else none) := F11
        k_with_none
        have hys2 : 0 < ys2.length := by rw [eys2.length, List.length_map, List.length_map]; omega
        have cmpL : ∀ {A' : Around} (hA : A'.units < cLine) (j i : Nat) (vj vi : Value), ys2[j]? = some vj → ys2[i]? = some vi → ∀ (s' : Shared) (Q E : Value → Shared → Prop), News g L s'.heap ((D6, LCg.lst ys2) :: (own2 ++ ((D2, setT (!W.w.params.followText "set-order")) :: (D, LCg.lst ys) :: (own ++ ((t8, tupO vs) :: (L + 1 + 1, oc1) :: (L + 1, os1) :: rest))))) → Q (.bool (ltL (((ws.map fun w => Txt.split w (Str.ofString "/")).map kept).getD j []) (((ws.map fun w => Txt.split w (Str.ofString "/")).map kept).getD i []))) s' → wpAny (model PG W.w) A' (richCompare .Lt vj vi) Q E s' := by
          intro A' hA j i vj vi hj hi s' Q' E' N' hQ'
          obtain ⟨a1, us1, c1, ss1, rfl, ma1, hu1, hs1⟩ := eys2.get hj
          obtain ⟨a2, us2, c2, ss2, rfl, ma2, hu2, hs2⟩ := eys2.get hi
          rw [List.getD_eq_getElem?_getD, List.getD_eq_getElem?_getD, hs1, hs2] at hQ'
          exact lst_lt N' (.tail _ (List.mem_append_left _ ma1)) (.tail _ (List.mem_append_left _ ma2)) hu1 hu2 hA hQ'
        have cmpG : ∀ {A' : Around} (hA : A'.units < cLine) (j i : Nat) (vj vi : Value), ys2[j]? = some vj → ys2[i]? = some vi → ∀ (s' : Shared) (Q E : Value → Shared → Prop), News g L s'.heap ((D6, LCg.lst ys2) :: (own2 ++ ((D2, setT (!W.w.params.followText "set-order")) :: (D, LCg.lst ys) :: (own ++ ((t8, tupO vs) :: (L + 1 + 1, oc1) :: (L + 1, os1) :: rest))))) → Q (.bool (ltL (((ws.map fun w => Txt.split w (Str.ofString "/")).map kept).getD i []) (((ws.map fun w => Txt.split w (Str.ofString "/")).map kept).getD j []))) s' → wpAny (model PG W.w) A' (richCompare .Gt vj vi) Q E s' := by
          intro A' hA j i vj vi hj hi s' Q' E' N' hQ'
          obtain ⟨a1, us1, c1, ss1, rfl, ma1, hu1, hs1⟩ := eys2.get hj
          obtain ⟨a2, us2, c2, ss2, rfl, ma2, hu2, hs2⟩ := eys2.get hi
          rw [List.getD_eq_getElem?_getD, List.getD_eq_getElem?_getD, hs1, hs2] at hQ'
          exact lst_gt N' (.tail _ (List.mem_append_left _ ma1)) (.tail _ (List.mem_append_left _ ma2)) hu1 hu2 hA hQ'
        k_with "call builtin:min" => k_dflt (refine min_call (fun j i => ltL (((ws.map fun w => Txt.split w (Str.ofString "/")).map kept).getD j []) (((ws.map fun w => Txt.split w (Str.ofString "/")).map kept).getD i [])) rfl F11 N11 (.head _) hys2 (cmpL (by dsimp only [Around.in1, ktrTop]; omega)) ?_; intro v1 h12 tk12 hv1 F12 N12; obtain ⟨b1, us1, k1, ss1, rfl, mb1, hus1, hss1⟩ := eys2.get hv1)
        k_with "call builtin:max" => k_dflt (refine max_call (fun j i => ltL (((ws.map fun w => Txt.split w (Str.ofString "/")).map kept).getD i []) (((ws.map fun w => Txt.split w (Str.ofString "/")).map kept).getD j [])) rfl (by k_asm) (by k_asm) (.head _) hys2 (cmpG (by dsimp only [Around.in1, ktrTop]; omega)) ?_; intro v2 h13 tk13 hv2 F13 N13; obtain ⟨b2, us2, k2, ss2, rfl, mb2, hus2, hss2⟩ := eys2.get hv2)
        k_with "exec For Tuple Call cons nil" => refine Halt.go ?_
        k_steps
        rename_i F14 N14
        unfold Halt
        have hk1 := hK ss1 (List.mem_of_getElem? hss1)
        have hk2 := hK ss2 (List.mem_of_getElem? hss2)
        refine wpAny_mono (Q := CpMid g L s os1 rest ss1 ss2) ?loop ?after (fun _ _ y => y)
        case loop =>
          k_with_none
          refine For_turns F14 ?_
          k_with "call type:enumerate" => refine Halt.go ?_
          k_steps
          unfold Halt
          refine ktu_enum rfl F14 N14 (.tail _ (List.mem_append_left _ mb1)) rfl rfl rfl fun I hI => ?_
          refine enum_ind (fun i m₁ n₁ => n₁ = ((D6, LCg.lst ys2) :: (own2 ++ ((D2, setT (!W.w.params.followText "set-order")) :: (D, LCg.lst ys) :: (own ++ ((t8, tupO vs) :: (L + 1 + 1, oc1) :: (L + 1, os1) :: rest))))) ∧ m₁ (Str.ofString "s1") = some (.ref b1) ∧ m₁ (Str.ofString "s2") = some (.ref b2) ∧ m₁ (Str.ofString "common") = some (.ref b1) ∧ m₁ (Str.ofString "isabs") = some (.bool true) ∧ ss1.take i = ss2.take i) ?turn4 ?done4 us1.length 0 _ _ (Nat.zero_add _) ⟨rfl, rfl, rfl, rfl, rfl, rfl⟩
          case turn4 =>
            rintro i v m₁ n₁ T tt h15 tk15 o1 o2 hv ⟨rfl, e1, e2, e3, e4, hpre⟩ hT F15 N15
            obtain ⟨x, tx, rfl, hx⟩ := strs_get hus1 hv
            rw [see e1, see e2, see e3, see e4] at F15
            have hi3 : i < ss1.length := (List.getElem?_eq_some_iff.mp hx).1
            obtain ⟨y, ty, hy, hy2⟩ := strs_ith hus2 (show i < ss2.length by omega)
            have hy' : us2[(i : Int).toNat]? = some (.str y ty) := by rw [Int.toNat_natCast]; exact hy
            k_with_none
            k_with "subscriptTail" => k_dflt (rename Fr _ _ _ _ => F16; rename News _ _ _ _ => N16; first
              | refine get_led N16 (.tail _ (.tail _ (.tail _ (List.mem_append_left _ mb2)))) (by omega) (by omega) hy' ?_
              | (refine front_led F16 N16 (.tail _ (.tail _ (.tail _ (List.mem_append_left _ mb1)))) (by omega) ?_ (by with_unfolding_all rfl) (by kmk_pure) (by rw [sizeLine_eq, strs_len hus1]; omega); intro Dc hc Fc Nc lc))
            k_steps
            · rename Fr _ _ _ _ => F17
              rename News _ _ _ _ => N17
              have hxy : x ≠ y := by first | assumption | exact bne_iff_ne.mp (by assumption)
              show CpMid g L s os1 rest ss1 ss2 .next _
              have hsub : ∀ p, p ∈ ((D6, LCg.lst ys2) :: (own2 ++ ((D2, setT (!W.w.params.followText "set-order")) :: (D, LCg.lst ys) :: (own ++ ((t8, tupO vs) :: (L + 1 + 1, oc1) :: (L + 1, os1) :: rest))))) → p ∈ (_ : Led) := fun p hp => .tail (Dc, listOf (us1.take (i : Int).toNat).toArray 0) (.tail (I + 1, o1) (.tail (I, o2) hp))
              refine ⟨rfl, _, _, _, _, i, Dc, us1.take (i : Int).toNat, 0, rfl, F17, N17, .head _, ?_, rfl, rfl, hsub _ (.tail _ (List.mem_append_right _ (.tail _ (.tail _ (List.mem_append_right _ (.tail _ (.tail _ (.head _)))))))), fun p hp => hsub _ (.tail _ (List.mem_append_right _ (.tail _ (.tail _ (List.mem_append_right _ (.tail _ (.tail _ (.tail _ hp)))))))), by omega, hpre, .inr ?_⟩
              · rw [Int.toNat_natCast]; exact strs_take hus1 i
              · rw [hx, hy2]; exact fun e => hxy (Option.some.inj e)
            · rename Fr _ _ _ _ => F17
              rename News _ _ _ _ => N17
              have hxy : x = y := bne_eq_false_iff_eq.mp (show (x != y) = false by assumption)
              refine TurnE.next F17 N17 hI (And.intro (.tail _ (List.mem_append_left _ mb1)) trivial) ⟨rfl, rfl, rfl, rfl, rfl, ?_⟩
              rw [List.take_add_one, List.take_add_one, hpre, hx, hy2, hxy]
          case done4 =>
            rintro h15 tk15 m₁ n₁ F15 N15 ⟨rfl, e1, e2, e3, e4, hpre⟩
            have hl1 : us1.length = ss1.length := strs_len hus1
            rw [hl1] at hpre
            refine ⟨rfl, h15, tk15, m₁, _, ss1.length, b1, us1, k1, rfl, F15, N15, .tail _ (List.mem_append_left _ mb1), ?_, e3, e4, .tail _ (List.mem_append_right _ (.tail _ (.tail _ (List.mem_append_right _ (.tail _ (.tail _ (.head _))))))), fun p hp => .tail _ (List.mem_append_right _ (.tail _ (.tail _ (List.mem_append_right _ (.tail _ (.tail _ (.tail _ hp))))))), Nat.le_refl _, hpre, .inl rfl⟩
            rw [List.take_length]; exact hus1
        case after =>
          rintro fl s₁ ⟨rfl, h18, tk18, m18, n18, e, bc, zs, kc, rfl, F18, N18, mb, hzs, e3, e4, mS, hr, hel, hpre, hend⟩
          rw [see e3, see e4] at F18
          have hlt : (ss1.take e).length ≤ 3 := by rw [List.length_take]; omega
          have hxs : ∀ x ∈ ss1.take e, x.length = 1 := fun x hx => hk1.2 x (List.mem_of_mem_take hx)
          have hjl := join_short hlt hxs
          have hsl : (Str.ofString "/").length = 1 := by rw [sl_cps]; rfl
          k_with_none
          k_with "call builtin:str.join" => (rename News _ _ _ _ => N19; refine join_listC (N19.isList mb) hzs (by rw [hsl]; decide) (by rw [sum_ones hxs]; omega) ?_; intro tj kj)
          k_with "binaryOp Add str str" => (refine KOpn.add (by rw [hsl]; omega) ?_; intro ta ka _)
          k_steps
          rename Fr _ _ _ _ => F20
          rename News _ _ _ _ => N20
          have hyl : ys2.length = ws.length := by rw [eys2.length, List.length_map, List.length_map]
          rw [hyl] at hss1 hss2
          exact hret _ _ _ _ _ F20 N20 ⟨⟨ss1, ss2, e, _, hss1, hss2, hel, hpre, hend, rfl⟩, hr⟩
/-- a is no greater than b -/
noncomputable def leI (a b : Itm) : Prop := ltI b a = false
theorem list_lt_irrefl' (a : List Nat) : ¬ a < a := List.lt_irrefl a
theorem leI_iff (a b : Itm) : leI a b ↔ (if a.2.1 = b.2.1 then a.2.2 ≤ b.2.2 else ¬ b.2.1.cps.toList < a.2.1.cps.toList) := by
  unfold leI ltI ltK
  by_cases h : a.2.1 = b.2.1
  · rw [if_pos h.symm, if_pos h]; simp only [decide_eq_false_iff_not]; omega
  · rw [if_neg (fun e => h e.symm), if_neg h]; simp only [decide_eq_false_iff_not]
theorem str_ext {a b : Str} (h : a.cps.toList = b.cps.toList) : a = b := by
  cases a; cases b; exact congrArg _ (Array.toList_inj.mp h)
theorem leI_refl (a : Itm) : leI a a := by rw [leI_iff, if_pos rfl]; exact Int.le_refl _
theorem leI_trans {a b c : Itm} (h : leI a b) (h' : leI b c) : leI a c := by
  rw [leI_iff] at *
  by_cases e : a.2.1 = b.2.1
  · rw [if_pos e] at h
    by_cases e' : b.2.1 = c.2.1
    · rw [if_pos e'] at h'; rw [if_pos (e.trans e')]; omega
    · rw [if_neg e'] at h'; rw [if_neg (fun x => e' (e.symm.trans x)), e]; exact h'
  · rw [if_neg e] at h
    by_cases e' : b.2.1 = c.2.1
    · rw [if_pos e'] at h'; rw [if_neg (fun x => e (x.trans e'.symm)), ← e']; exact h
    · rw [if_neg e'] at h'
      have k : ¬ c.2.1.cps.toList < a.2.1.cps.toList := fun x => by
        have h1 : a.2.1.cps.toList ≤ b.2.1.cps.toList := h
        have h2 : b.2.1.cps.toList ≤ c.2.1.cps.toList := h'
        exact List.not_lt.mpr (List.le_trans h1 h2) x
      by_cases e2 : a.2.1 = c.2.1
      · exfalso
        apply e
        rw [e2] at h
        exact e2.trans (str_ext (List.le_antisymm (as := c.2.1.cps.toList) (bs := b.2.1.cps.toList) h h'))
      · rw [if_neg e2]; exact k
theorem leI_total (a b : Itm) : leI a b ∨ leI b a := by
  rw [leI_iff, leI_iff]
  by_cases e : a.2.1 = b.2.1
  · rw [if_pos e, if_pos e.symm]; omega
  · rw [if_neg e, if_neg fun x => e x.symm]
    exact List.le_total (l₁ := a.2.1.cps.toList) (l₂ := b.2.1.cps.toList)
theorem leI_of_lt {a b : Itm} (h : ltI a b = true) : leI a b := by
  rcases leI_total a b with x | x
  · exact x
  · unfold leI at x; rw [h] at x; exact absurd x (by decide)
theorem leI_anti {a b : Itm} (h : leI a b) (h' : leI b a) : a.2 = b.2 := by
  rw [leI_iff] at *
  by_cases e : a.2.1 = b.2.1
  · rw [if_pos e] at h; rw [if_pos e.symm] at h'
    exact Prod.ext e (by omega)
  · rw [if_neg e] at h; rw [if_neg fun x => e x.symm] at h'
    exact absurd (str_ext (List.le_antisymm (as := a.2.1.cps.toList) (bs := b.2.1.cps.toList) h h')) e
/-- a heap -/
noncomputable def Hp (ys : List Itm) : Prop := ∀ i, 0 < i → i < ys.length → leI (ys.getD ((i - 1) / 2) dI) (ys.getD i dI)
theorem getD_set (ys : List Itm) (p i : Nat) (x : Itm) (hi : i < ys.length) : (ys.set p x).getD i dI = if p = i then x else ys.getD i dI := by
  rw [List.getD_eq_getElem?_getD, List.getD_eq_getElem?_getD, List.getElem?_set]
  by_cases h : p = i
  · subst h; rw [if_pos rfl, if_pos rfl, if_pos hi]; rfl
  · rw [if_neg h, if_neg h]
theorem swap_perm (ys : List Itm) (p q : Nat) (x : Itm) (hp : p < ys.length) (hq : q < ys.length) (hpq : p ≠ q) : ((ys.set p (ys.getD q dI)).set q x).Perm (ys.set p x) := by
  have h := List.set_set_perm (as := ys.set p x) (i := p) (j := q) (by simpa using hp) (by simpa using hq)
  have e1 : (ys.set p x)[p]'(by simpa using hp) = x := by simp
  have e2 : (ys.set p x)[q]'(by simpa using hq) = ys.getD q dI := by
    rw [List.getElem_set_ne hpq, List.getD_eq_getElem?_getD, List.getElem?_eq_getElem hq]; rfl
  rw [e1, e2, List.set_set] at h
  exact h
/-- ys with x at the hole p is a heap but for x and the one above -/
structure UpOk (ys : List Itm) (p : Nat) (x : Itm) : Prop where
  a : ∀ i, 0 < i → i < ys.length → i ≠ p → leI ((ys.set p x).getD ((i - 1) / 2) dI) ((ys.set p x).getD i dI)
  b : 0 < p → ∀ c, 0 < c → c < ys.length → (c - 1) / 2 = p → leI (ys.getD ((p - 1) / 2) dI) (ys.getD c dI)
theorem sd_heap (x : Itm) : ∀ (f : Nat) (ys : List Itm) (p : Nat), p ≤ f → p < ys.length → UpOk ys p x → Hp (sd x f ys p) ∧ (sd x f ys p).Perm (ys.set p x) := by
  have base : ∀ (ys : List Itm) (p : Nat), p < ys.length → UpOk ys p x → (0 < p → leI (ys.getD ((p - 1) / 2) dI) x) → Hp (ys.set p x) := by
    intro ys p hp U h i h0 hi
    rw [List.length_set] at hi
    by_cases e : i = p
    · subst e
      rw [getD_set _ _ _ _ (by omega), if_neg (by omega), getD_set _ _ _ _ hi, if_pos rfl]
      exact h h0
    · exact U.a i h0 hi e
  intro f
  induction f with
  | zero =>
    intro ys p hf hp U
    obtain rfl : p = 0 := by omega
    exact ⟨base ys 0 hp U (by omega), .refl _⟩
  | succ f ih =>
    intro ys p hf hp U
    rw [sd]
    by_cases h0 : p = 0
    · subst h0
      rw [if_pos rfl]
      exact ⟨base ys 0 hp U (by omega), .refl _⟩
    · rw [if_neg h0]
      cases hlt : ltI x (ys.getD ((p - 1) / 2) dI) with
      | false =>
        rw [if_neg (by decide)]
        exact ⟨base ys p hp U fun _ => hlt, .refl _⟩
      | true =>
        rw [if_pos rfl]
        have hq : (p - 1) / 2 < p := by omega
        generalize hQ : (p - 1) / 2 = q at *
        have hql : q < ys.length := by omega
        have hxq : leI x (ys.getD q dI) := leI_of_lt hlt
        have U' : UpOk (ys.set p (ys.getD q dI)) q x := by
          constructor
          · intro i hi0 hil hiq
            rw [List.length_set] at hil
            have hj : (i - 1) / 2 < ys.length := by omega
            have key : ∀ k, k < ys.length → ((ys.set p (ys.getD q dI)).set q x).getD k dI = if q = k then x else if p = k then ys.getD q dI else ys.getD k dI := by
              intro k hk
              rw [getD_set _ _ _ _ (by rw [List.length_set]; exact hk), getD_set _ _ _ _ hk]
            rw [key _ hil, key _ hj, if_neg (show ¬ q = i from fun e => hiq e.symm)]
            by_cases e1 : p = i
            · subst e1
              rw [if_pos rfl, if_pos hQ.symm]
              exact hxq
            · rw [if_neg e1]
              have A := U.a i hi0 hil (fun e => e1 e.symm)
              rw [getD_set _ _ _ _ hil, getD_set _ _ _ _ hj, if_neg e1] at A
              by_cases e2 : q = (i - 1) / 2
              · rw [if_pos e2]
                rw [if_neg (by omega)] at A
                rw [← e2] at A
                exact leI_trans hxq A
              · rw [if_neg e2]
                by_cases e3 : p = (i - 1) / 2
                · rw [if_pos e3]
                  have := U.b (by omega) i hi0 hil e3.symm
                  rw [hQ] at this
                  exact this
                · rw [if_neg e3]
                  rw [if_neg e3] at A
                  exact A
          · intro hq0 c hc0 hcl hcq
            rw [List.length_set] at hcl
            have A := U.a q hq0 hql (by omega)
            rw [getD_set _ _ _ _ hql, getD_set _ _ _ _ (by omega), if_neg (by omega), if_neg (by omega)] at A
            rw [getD_set _ _ _ _ hcl, getD_set _ _ _ _ (by omega), if_neg (show ¬ p = (q - 1) / 2 by omega)]
            by_cases e1 : p = c
            · rw [if_pos e1]; exact A
            · rw [if_neg e1]
              have A2 := U.a c hc0 hcl (fun e => e1 e.symm)
              rw [getD_set _ _ _ _ hcl, getD_set _ _ _ _ (by omega), if_neg e1, if_neg (by omega), hcq] at A2
              exact leI_trans A A2
        obtain ⟨r1, r2⟩ := ih (ys.set p (ys.getD q dI)) q (by omega) (by rw [List.length_set]; exact hql) U'
        exact ⟨r1, r2.trans (swap_perm ys p q x hp hql (by omega))⟩
/-- ys but for its hole p is a heap -/
structure DnOk (ys : List Itm) (p : Nat) : Prop where
  c : ∀ i, 0 < i → i < ys.length → i ≠ p → (i - 1) / 2 ≠ p → leI (ys.getD ((i - 1) / 2) dI) (ys.getD i dI)
  d : 0 < p → ∀ c, 0 < c → c < ys.length → (c - 1) / 2 = p → leI (ys.getD ((p - 1) / 2) dI) (ys.getD c dI)
theorem suC_at {ys : List Itm} {p : Nat} (h : 2 * p + 1 < ys.length) : p < suC ys p ∧ suC ys p < ys.length ∧ (suC ys p - 1) / 2 = p ∧ ∀ i, 0 < i → i < ys.length → (i - 1) / 2 = p → leI (ys.getD (suC ys p) dI) (ys.getD i dI) := by
  unfold suC
  split
  · rename_i hh
    refine ⟨by omega, by omega, by omega, fun i h0 hi hp => ?_⟩
    have : i = 2 * p + 1 ∨ i = 2 * p + 2 := by omega
    rcases this with rfl | rfl
    · exact hh.2
    · exact leI_refl _
  · rename_i hh
    refine ⟨by omega, by omega, by omega, fun i h0 hi hp => ?_⟩
    have : i = 2 * p + 1 ∨ i = 2 * p + 2 := by omega
    rcases this with rfl | rfl
    · exact leI_refl _
    · cases hx : ltI (ys.getD (2 * p + 1) dI) (ys.getD (2 * p + 2) dI) with
      | false => exact absurd ⟨hi, hx⟩ hh
      | true => exact leI_of_lt hx
theorem su_heap (x : Itm) : ∀ (f : Nat) (ys : List Itm) (p : Nat), ys.length ≤ f + p → p < ys.length → DnOk ys p →
    DnOk (su f ys p).1 (su f ys p).2 ∧ (su f ys p).2 < (su f ys p).1.length ∧ (su f ys p).1.length = ys.length ∧ ¬ 2 * (su f ys p).2 + 1 < ys.length ∧ ((su f ys p).1.set (su f ys p).2 x).Perm (ys.set p x) := by
  intro f
  induction f with
  | zero => intro ys p hf hp; omega
  | succ f ih =>
    intro ys p hf hp D
    rw [su]
    by_cases h : 2 * p + 1 < ys.length
    · rw [if_pos h]
      obtain ⟨h1, h2, h3, h4⟩ := suC_at h
      generalize suC ys p = k at *
      have D' : DnOk (ys.set p (ys.getD k dI)) k := by
        constructor
        · intro i h0 hi hik hpk
          rw [List.length_set] at hi
          rw [getD_set _ _ _ _ hi, getD_set _ _ _ _ (by omega)]
          by_cases e : p = i
          · subst e
            rw [if_pos rfl, if_neg (by omega)]
            exact D.d h0 k (by omega) h2 h3
          · rw [if_neg e]
            by_cases e2 : p = (i - 1) / 2
            · rw [if_pos e2]; exact h4 i h0 hi e2.symm
            · rw [if_neg e2]; exact D.c i h0 hi (fun x => e x.symm) (fun x => e2 x.symm)
        · intro hk0 c hc0 hcl hck
          rw [List.length_set] at hcl
          rw [getD_set _ _ _ _ hcl, getD_set _ _ _ _ (by omega), if_pos h3.symm, if_neg (by omega)]
          have := D.c c hc0 hcl (by omega) (by omega)
          rw [hck] at this
          exact this
      obtain ⟨r1, r2, r3, r4, r5⟩ := ih (ys.set p (ys.getD k dI)) k (by rw [List.length_set]; omega) (by rw [List.length_set]; exact h2) D'
      rw [List.length_set] at r3 r4
      exact ⟨r1, r2, r3, r4, r5.trans (swap_perm ys p k x hp h2 (by omega))⟩
    · rw [if_neg h]
      exact ⟨D, hp, rfl, h, .refl _⟩
theorem upR_heap (y : Itm) (ys : List Itm) (h0 : 0 < ys.length) (D : DnOk ys 0) : Hp (upR y (su ys.length ys 0)) ∧ (upR y (su ys.length ys 0)).Perm (ys.set 0 y) := by
  obtain ⟨r1, r2, r3, r4, r5⟩ := su_heap y ys.length ys 0 (by omega) h0 D
  generalize su ys.length ys 0 = R at *
  obtain ⟨R, p⟩ := R
  dsimp only at *
  unfold upR
  have U : UpOk (R.set p y) p y := by
    constructor
    · intro i hi0 hi hip
      rw [List.length_set] at hi
      rw [List.set_set, getD_set _ _ _ _ hi, getD_set _ _ _ _ (by omega), if_neg (show ¬ p = i from fun e => hip e.symm), if_neg (by omega)]
      exact r1.c i hi0 hi hip (by omega)
    · intro hp0 c hc0 hcl hcp
      rw [List.length_set] at hcl
      omega
  obtain ⟨q1, q2⟩ := sd_heap y p (R.set p y) p (Nat.le_refl _) (by rw [List.length_set]; exact r2) U
  rw [List.set_set] at q2
  exact ⟨q1, q2.trans r5⟩
theorem heap_top {ys : List Itm} (h : Hp ys) : ∀ i, i < ys.length → leI (ys.getD 0 dI) (ys.getD i dI) := by
  intro i
  induction i using Nat.strongRecOn with
  | ind i ih =>
    intro hi
    by_cases h0 : i = 0
    · subst h0; exact leI_refl _
    · exact leI_trans (ih ((i - 1) / 2) (by omega) (by omega)) (h i (by omega) hi)
theorem push_heap {xs : List Itm} {x : Itm} (h : Hp xs) : Hp (sd x xs.length (xs ++ [x]) xs.length) ∧ (sd x xs.length (xs ++ [x]) xs.length).Perm (xs ++ [x]) := by
  have g : ∀ i, i < xs.length → (xs ++ [x]).getD i dI = xs.getD i dI := fun i hi => by
    rw [List.getD_eq_getElem?_getD, List.getD_eq_getElem?_getD, List.getElem?_append_left hi]
  have s : (xs ++ [x]).set xs.length x = xs ++ [x] := by rw [List.set_append_right _ _ (Nat.le_refl _), Nat.sub_self]; rfl
  have U : UpOk (xs ++ [x]) xs.length x := by
    constructor
    · intro i h0 hi hn
      rw [List.length_append] at hi
      have hi' : i < xs.length := by have : [x].length = 1 := rfl; omega
      rw [s, g i hi', g _ (by omega)]
      exact h i h0 hi'
    · intro h0 c hc0 hcl hcp
      rw [List.length_append] at hcl
      have : [x].length = 1 := rfl
      omega
  have := sd_heap x xs.length (xs ++ [x]) xs.length (Nat.le_refl _) (by rw [List.length_append]; exact Nat.lt_succ_self _) U
  rw [s] at this
  exact this
theorem pop_heap {zs : List Itm} {y : Itm} (h : Hp (zs ++ [y])) : Hp (popR zs y).2 ∧ ((popR zs y).1 :: (popR zs y).2).Perm (zs ++ [y]) ∧ ∀ z ∈ zs ++ [y], leI (popR zs y).1 z := by
  have top : ∀ z ∈ zs ++ [y], leI ((zs ++ [y]).getD 0 dI) z := fun z hz => by
    obtain ⟨i, hi, e⟩ := List.getElem_of_mem hz
    have := heap_top h i hi
    rw [show (zs ++ [y]).getD i dI = z by rw [List.getD_eq_getElem?_getD, List.getElem?_eq_getElem hi]; exact e] at this
    exact this
  unfold popR
  by_cases e : zs.length = 0
  · rw [if_pos e]
    obtain rfl := List.length_eq_zero_iff.mp e
    exact ⟨fun i h0 hi => absurd hi (Nat.not_lt_zero _), .refl _, top⟩
  · rw [if_neg e]
    obtain ⟨z, r, rfl⟩ : ∃ z r, zs = z :: r := by cases zs with | nil => exact absurd rfl e | cons z r => exact ⟨z, r, rfl⟩
    have D : DnOk ((z :: r).set 0 y) 0 := by
      constructor
      · intro i h0 hi hne hp
        rw [List.length_set] at hi
        rw [getD_set _ _ _ _ hi, getD_set _ _ _ _ (by omega), if_neg (by omega), if_neg (by omega)]
        have g : ∀ i, i < (z :: r).length → ((z :: r) ++ [y]).getD i dI = (z :: r).getD i dI := fun i hi => by
          rw [List.getD_eq_getElem?_getD, List.getD_eq_getElem?_getD, List.getElem?_append_left hi]
        have := h i h0 (by rw [List.length_append]; omega)
        rw [g i hi, g _ (by omega)] at this
        exact this
      · intro h0; omega
    obtain ⟨r1, r2⟩ := upR_heap y ((z :: r).set 0 y) (by rw [List.length_set]; exact Nat.succ_pos _) D
    rw [List.length_set] at r1 r2
    refine ⟨r1, ?_, top⟩
    rw [List.set_set] at r2
    show (z :: upR y (su (z :: r).length (y :: r) 0)).Perm (z :: (r ++ [y]))
    refine List.Perm.cons _ (r2.trans ?_)
    show (y :: r).Perm (r ++ [y])
    exact (List.perm_append_singleton y r).symm
/-- the answers of c to what a sort asks -/
noncomputable def krun {α : Type} (c : Nat → Nat → Bool) : KasT α → α
  | .ret a => a
  | .ask i j k => krun c (k (c i j))
theorem krun_bind {α β : Type} (c : Nat → Nat → Bool) (f : α → KasT β) : ∀ t : KasT α, krun c (t.bind f) = krun c (f (krun c t))
  | .ret _ => rfl
  | .ask i j k => krun_bind c f (k (c i j))
abbrev gA (p : Array Nat) (i : Nat) : Nat := p.getD i 0
theorem gA_congr {p q : Array Nat} {i j : Nat} (h : p[i]? = q[j]?) : gA p i = gA q j := by
  unfold gA
  rw [Array.getD_eq_getD_getElem?, Array.getD_eq_getD_getElem?, h]
section
variable {c : Nat → Nat → Bool} {n : Nat}
structure TotC (c : Nat → Nat → Bool) (n : Nat) : Prop where
  tr : ∀ i j k, c i j = true → c j k = true → c i k = true
  tot : ∀ i j, i < n → j < n → i ≠ j → c i j = false → c j i = true
  irr : ∀ i, c i i = false
noncomputable def OfN (n : Nat) (p : Array Nat) : Prop := p.Perm (List.toArray (List.range n))
theorem OfN.size {p : Array Nat} (h : OfN n p) : p.size = n := by
  have := Array.Perm.size_eq h
  simpa using this
theorem OfN.lt {p : Array Nat} (h : OfN n p) {i : Nat} (hi : i < n) : gA p i < n := by
  have hs := h.size
  have e : gA p i = p[i]'(by omega) := by unfold gA; simp [Array.getD, hs, hi]
  rw [e]
  have : p[i]'(by omega) ∈ p := Array.getElem_mem _
  have h2 := (Array.Perm.mem_iff h).mp this
  simpa using h2
theorem OfN.ne {p : Array Nat} (h : OfN n p) {i j : Nat} (hi : i < n) (hj : j < n) (hij : i ≠ j) : gA p i ≠ gA p j := by
  have hs := h.size
  have nd : p.toList.Nodup := by
    have hp : p.toList.Perm (List.range n) := by simpa using Array.Perm.toList h
    exact hp.nodup_iff.mpr List.nodup_range
  have e : ∀ k, (hk : k < n) → gA p k = p.toList[k]'(by simpa [hs] using hk) := fun k hk => by unfold gA; simp [Array.getD, hs, hk]
  rw [e i hi, e j hj]
  intro he
  exact hij ((List.getElem_inj nd).mp he)
noncomputable def AscA (c : Nat → Nat → Bool) (p : Array Nat) (k : Nat) : Prop := ∀ i j, i < j → j < k → c (gA p i) (gA p j) = true
noncomputable def DscA (c : Nat → Nat → Bool) (p : Array Nat) (k : Nat) : Prop := ∀ i j, i < j → j < k → c (gA p j) (gA p i) = true
theorem AscA.one (p : Array Nat) : AscA c p 1 := fun i j h h' => by omega
theorem AscA.snoc (T : TotC c n) {p : Array Nat} {k : Nat} (h : AscA c p k) (hk : 1 ≤ k) (hc : c (gA p (k - 1)) (gA p k) = true) : AscA c p (k + 1) := fun i j hij hj => by
  by_cases e : j = k
  · subst e
    by_cases e2 : i = j - 1
    · subst e2; exact hc
    · exact T.tr _ _ _ (h i (j - 1) (by omega) (by omega)) hc
  · exact h i j hij (by omega)
theorem DscA.snoc (T : TotC c n) {p : Array Nat} {k : Nat} (h : DscA c p k) (hk : 1 ≤ k) (hc : c (gA p k) (gA p (k - 1)) = true) : DscA c p (k + 1) := fun i j hij hj => by
  by_cases e : j = k
  · subst e
    by_cases e2 : i = j - 1
    · subst e2; exact hc
    · exact T.tr _ _ _ hc (h i (j - 1) (by omega) (by omega))
  · exact h i j hij (by omega)
theorem asc_ok (T : TotC c n) {p : Array Nat} (hp : OfN n p) : ∀ (f k : Nat), 1 ≤ k → k + f = n → AscA c p k →
    k ≤ krun c (kas_asc p f k) ∧ krun c (kas_asc p f k) ≤ n ∧ AscA c p (krun c (kas_asc p f k)) ∧ (krun c (kas_asc p f k) < n → c (gA p (krun c (kas_asc p f k))) (gA p (krun c (kas_asc p f k) - 1)) = true) := by
  intro f
  induction f with
  | zero =>
    intro k h1 hk h
    show k ≤ k ∧ k ≤ n ∧ AscA c p k ∧ (k < n → _)
    exact ⟨Nat.le_refl _, by omega, h, fun x => by omega⟩
  | succ f ih =>
    intro k h1 hk h
    cases hc : c (gA p k) (gA p (k - 1)) with
    | true =>
      have e : krun c (kas_asc p (f + 1) k) = k := by
        show krun c (if c (gA p k) (gA p (k - 1)) = true then KasT.ret k else kas_asc p f (k + 1)) = k
        rw [hc, if_pos rfl]; rfl
      rw [e]
      exact ⟨Nat.le_refl _, by omega, h, fun _ => hc⟩
    | false =>
      have e : krun c (kas_asc p (f + 1) k) = krun c (kas_asc p f (k + 1)) := by
        show krun c (if c (gA p k) (gA p (k - 1)) = true then KasT.ret k else kas_asc p f (k + 1)) = _
        rw [hc, if_neg (by decide)]
      rw [e]
      obtain ⟨a, b, d, g⟩ := ih (k + 1) (by omega) (by omega) (h.snoc T h1 (T.tot _ _ (hp.lt (by omega)) (hp.lt (by omega)) (hp.ne (by omega) (by omega) (by omega)) hc))
      exact ⟨by omega, b, d, g⟩
theorem gA_rev {p : Array Nat} {k : Nat} (hk : k ≤ p.size) (i : Nat) : gA (kas_rev p 0 k) i = if i < k then gA p (k - 1 - i) else gA p i := by
  have := getElem?_mirror_all (xs := p) (i := 0) (j := k) hk i
  unfold kas_rev
  by_cases h : i < k
  · rw [if_pos h]; rw [if_pos ⟨Nat.zero_le _, h⟩] at this
    exact gA_congr (by rw [this]; congr 1; omega)
  · rw [if_neg h]; rw [if_neg (by omega)] at this
    exact gA_congr this
theorem OfN.rev {p : Array Nat} (h : OfN n p) (a b : Nat) : OfN n (kas_rev p a b) := (mirror_perm p a b _).trans h
theorem desc_ok (T : TotC c n) {p : Array Nat} (hp : OfN n p) : ∀ (f k : Nat), 1 ≤ k → k + f = n → DscA c p k →
    ∃ m, krun c (kas_desc f p k 0) = (p, m, 0) ∧ k ≤ m ∧ m ≤ n ∧ DscA c p m := by
  intro f
  induction f with
  | zero => intro k h1 hk h; exact ⟨k, rfl, Nat.le_refl _, by omega, h⟩
  | succ f ih =>
    intro k h1 hk h
    cases hc : c (gA p k) (gA p (k - 1)) with
    | true =>
      obtain ⟨m, e, a, b, d⟩ := ih (k + 1) (by omega) (by omega) (h.snoc T h1 hc)
      refine ⟨m, ?_, by omega, b, d⟩
      rw [← e]
      show krun c (if c (gA p k) (gA p (k - 1)) = true then _ else _) = _
      rw [if_pos hc, if_neg (by decide)]
    | false =>
      refine ⟨k, ?_, Nat.le_refl _, by omega, h⟩
      show krun c (if c (gA p k) (gA p (k - 1)) = true then _ else _) = _
      rw [if_neg (by rw [hc]; decide)]
      show krun c (if c (gA p (k - 1)) (gA p k) = true then _ else _) = _
      rw [if_pos (T.tot _ _ (hp.lt (by omega)) (hp.lt (by omega)) (hp.ne (by omega) (by omega) (by omega)) hc)]
      rfl
theorem DscA.rev {p : Array Nat} {k : Nat} (hk : k ≤ p.size) (h : DscA c p k) : AscA c (kas_rev p 0 k) k := fun i j hij hj => by
  rw [gA_rev hk, gA_rev hk, if_pos (by omega), if_pos hj]
  exact h (k - 1 - j) (k - 1 - i) (by omega) (by omega)
/-- a run at the front: how long, and the row -/
noncomputable def Run (c : Nat → Nat → Bool) (n : Nat) (r : Nat × Array Nat) : Prop := OfN n r.2 ∧ 1 ≤ r.1 ∧ r.1 ≤ n ∧ AscA c r.2 r.1
theorem count_ok (T : TotC c n) {p : Array Nat} (hp : OfN n p) (h1 : 1 ≤ n) : Run c n (krun c (kas_count n p)) := by
  unfold kas_count
  rw [krun_bind]
  obtain ⟨a, b, d, g⟩ := asc_ok T hp (n - 1) 1 (Nat.le_refl _) (by omega) (.one p)
  generalize krun c (kas_asc p (n - 1) 1) = k at *
  by_cases e : k = n
  · subst e
    rw [if_pos (beq_self_eq_true _)]
    exact ⟨hp, a, b, d⟩
  · rw [if_neg (by rw [beq_iff_eq]; exact e)]
    by_cases e2 : k > 1
    · rw [if_pos e2]
      show Run c n (krun c (if c (gA p 0) (gA p (k - 1)) = true then _ else _))
      rw [if_pos (d 0 (k - 1) (by omega) (by omega))]
      exact ⟨hp, a, b, d⟩
    · rw [if_neg e2]
      obtain rfl : k = 1 := by omega
      unfold kas_descPart
      rw [krun_bind]
      have hd2 : DscA c p 2 := fun i j hij hj => by
        obtain rfl : i = 0 := by omega
        obtain rfl : j = 1 := by omega
        exact g (by omega)
      obtain ⟨m, em, a2, b2, d2⟩ := desc_ok T hp (n - (1 + 1)) (1 + 1) (by omega) (by omega) hd2
      rw [em]
      show Run c n (krun c (if (0 : Nat) > 0 then _ else kas_tail3 m n p))
      rw [if_neg (by decide)]
      unfold kas_tail3
      rw [krun_bind]
      obtain ⟨a3, b3, d3, _⟩ := asc_ok T (hp.rev 0 m) (n - m) m (by omega) (by omega) (d2.rev (by rw [hp.size]; exact b2))
      exact ⟨hp.rev 0 m, by show 1 ≤ krun c _; omega, b3, d3⟩
theorem place_ok (T : TotC c n) {p : Array Nat} (hp : OfN n p) {k : Nat} (hk : k < n) (h : AscA c p k) : ∀ (f l r : Nat), r ≤ l + f → l ≤ r → r ≤ k → (∀ i, i < l → c (gA p i) (gA p k) = true) → (∀ i, r ≤ i → i < k → c (gA p k) (gA p i) = true) →
    krun c (kas_place p k f l r) ≤ k ∧ (∀ i, i < krun c (kas_place p k f l r) → c (gA p i) (gA p k) = true) ∧ (∀ i, krun c (kas_place p k f l r) ≤ i → i < k → c (gA p k) (gA p i) = true) := by
  intro f
  induction f with
  | zero =>
    intro l r hf hlr hr h1 h2
    obtain rfl : l = r := by omega
    exact ⟨hr, h1, h2⟩
  | succ f ih =>
    intro l r hf hlr hr h1 h2
    rw [kas_place]
    by_cases e : l ≥ r
    · rw [if_pos e]
      obtain rfl : l = r := by omega
      exact ⟨hr, h1, h2⟩
    · rw [if_neg e]
      have hm1 : l ≤ (l + r) / 2 := by omega
      have hm2 : (l + r) / 2 < r := by omega
      generalize (l + r) / 2 = mm at *
      show krun c (if c (gA p k) (gA p mm) = true then _ else _) ≤ k ∧ (∀ i, i < krun c (if c (gA p k) (gA p mm) = true then _ else _) → _) ∧ (∀ i, krun c (if c (gA p k) (gA p mm) = true then _ else _) ≤ i → _)
      cases hc : c (gA p k) (gA p mm) with
      | true =>
        rw [if_pos rfl]
        refine ih l mm (by omega) hm1 (by omega) h1 fun i hi hik => ?_
        by_cases e2 : i = mm
        · subst e2; exact hc
        · exact T.tr _ _ _ hc (h mm i (by omega) hik)
      | false =>
        rw [if_neg (by decide)]
        have hc2 := T.tot _ _ (hp.lt hk) (hp.lt (show mm < n by omega)) (hp.ne hk (by omega) (by omega)) hc
        refine ih (mm + 1) r (by omega) (by omega) hr (fun i hi => ?_) h2
        by_cases e2 : i = mm
        · subst e2; exact hc2
        · exact T.tr _ _ _ (h i mm (by omega) (by omega)) hc2
theorem gA_bubble {p : Array Nat} {k d : Nat} (hs : k < p.size) (hd : d ≤ k) (i : Nat) : gA (bubble p k d) i = if i = k - d then gA p k else if k - d < i ∧ i ≤ k then gA p (i - 1) else gA p i := by
  have := getElem?_bubble hs d hd i
  by_cases h1 : i = k - d
  · rw [if_pos h1] at this ⊢; exact gA_congr this
  · rw [if_neg h1] at this ⊢
    by_cases h2 : k - d < i ∧ i ≤ k
    · rw [if_pos h2] at this ⊢; exact gA_congr this
    · rw [if_neg h2] at this ⊢; exact gA_congr this
theorem bin_ok (T : TotC c n) : ∀ (f k : Nat) (p : Array Nat), OfN n p → k + f = n → AscA c p k → OfN n (krun c (kas_bin f p k)) ∧ AscA c (krun c (kas_bin f p k)) n := by
  intro f
  induction f with
  | zero =>
    intro k p hp hk h
    obtain rfl : k = n := by omega
    exact ⟨hp, h⟩
  | succ f ih =>
    intro k p hp hk h
    rw [kas_bin, krun_bind]
    obtain ⟨a, b, d⟩ := place_ok T hp (show k < n by omega) h k 0 k (by omega) (by omega) (Nat.le_refl _) (fun i hi => by omega) (fun i hi hik => by omega)
    generalize krun c (kas_place p k k 0 k) = l at *
    refine ih (k + 1) (bubble p k (k - l)) ((bubble_perm p k (k - l)).trans hp) (by omega) ?_
    intro i j hij hj
    have hs : k < p.size := by rw [hp.size]; omega
    rw [gA_bubble hs (by omega), gA_bubble hs (by omega), show k - (k - l) = l by omega]
    by_cases e1 : i = l
    · rw [if_pos e1, if_neg (by omega), if_pos (by omega)]
      exact d (j - 1) (by omega) (by omega)
    · rw [if_neg e1]
      by_cases e2 : j = l
      · rw [if_pos e2, if_neg (by omega)]
        exact b i (by omega)
      · rw [if_neg e2]
        by_cases e3 : l < i
        · rw [if_pos (by omega), if_pos (by omega)]
          exact h (i - 1) (j - 1) (by omega) (by omega)
        · rw [if_neg (by omega)]
          by_cases e4 : l < j
          · rw [if_pos (by omega)]
            exact h i (j - 1) (by omega) (by omega)
          · rw [if_neg (by omega)]
            exact h i j hij (by omega)
theorem sort_ok (T : TotC c n) (h1 : 1 ≤ n) : OfN n (krun c (kas_sort n)) ∧ AscA c (krun c (kas_sort n)) n := by
  unfold kas_sort
  rw [krun_bind]
  obtain ⟨a, b, d, g⟩ := count_ok T (show OfN n (List.toArray (List.range n)) from Array.Perm.refl _) h1
  generalize krun c (kas_count n (List.toArray (List.range n))) = r at *
  by_cases e : r.1 < n
  · rw [if_pos e]
    have : max r.1 1 = r.1 := by omega
    rw [this]
    exact bin_ok T (n - r.1) r.1 r.2 a (by omega) g
  · rw [if_neg e]
    have : r.1 = n := by omega
    rw [this] at g
    exact ⟨a, g⟩
/-- all that is asked on the way lies below n -/
noncomputable def kok {α : Type} (c : Nat → Nat → Bool) (n : Nat) : KasT α → Prop
  | .ret _ => True
  | .ask i j k => i < n ∧ j < n ∧ kok c n (k (c i j))
theorem kok_bind {α β : Type} (f : α → KasT β) : ∀ t : KasT α, kok c n t → kok c n (f (krun c t)) → kok c n (t.bind f)
  | .ret _, _, h => h
  | .ask i j k, h, h' => ⟨h.1, h.2.1, kok_bind f (k (c i j)) h.2.2 h'⟩
theorem asc_in {p : Array Nat} (hp : OfN n p) : ∀ (f k : Nat), 1 ≤ k → k + f = n → kok c n (kas_asc p f k)
  | 0, _, _, _ => trivial
  | f + 1, k, h1, hk => by
    refine ⟨hp.lt (by omega), hp.lt (by omega), ?_⟩
    show kok c n (if c (gA p k) (gA p (k - 1)) = true then KasT.ret k else kas_asc p f (k + 1))
    split
    · trivial
    · exact asc_in hp f (k + 1) (by omega) (by omega)
theorem desc_in (T : TotC c n) {p : Array Nat} (hp : OfN n p) : ∀ (f k : Nat), 1 ≤ k → k + f = n → kok c n (kas_desc f p k 0)
  | 0, _, _, _ => trivial
  | f + 1, k, h1, hk => by
    have hk1 : gA p k < n := hp.lt (by omega)
    have hk2 : gA p (k - 1) < n := hp.lt (by omega)
    refine ⟨hk1, hk2, ?_⟩
    show kok c n (if c (gA p k) (gA p (k - 1)) = true then _ else _)
    cases hc : c (gA p k) (gA p (k - 1)) with
    | true =>
      rw [if_pos rfl, if_neg (by decide)]
      exact desc_in T hp f (k + 1) (by omega) (by omega)
    | false =>
      rw [if_neg (by decide)]
      refine ⟨hk2, hk1, ?_⟩
      show kok c n (if c (gA p (k - 1)) (gA p k) = true then _ else _)
      rw [if_pos (T.tot _ _ (hp.lt (by omega)) (hp.lt (by omega)) (hp.ne (by omega) (by omega) (by omega)) hc)]
      trivial
theorem count_in (T : TotC c n) {p : Array Nat} (hp : OfN n p) (h1 : 1 ≤ n) : kok c n (kas_count n p) := by
  unfold kas_count
  refine kok_bind _ _ (asc_in hp (n - 1) 1 (Nat.le_refl _) (by omega)) ?_
  obtain ⟨a, b, d, g⟩ := asc_ok T hp (n - 1) 1 (Nat.le_refl _) (by omega) (.one p)
  generalize krun c (kas_asc p (n - 1) 1) = k at *
  by_cases e : k = n
  · subst e
    rw [if_pos (beq_self_eq_true _)]
    trivial
  · rw [if_neg (by rw [beq_iff_eq]; exact e)]
    by_cases e2 : k > 1
    · rw [if_pos e2]
      refine ⟨hp.lt (by omega), hp.lt (by omega), ?_⟩
      show kok c n (if c (gA p 0) (gA p (k - 1)) = true then _ else _)
      rw [if_pos (d 0 (k - 1) (by omega) (by omega))]
      trivial
    · rw [if_neg e2]
      obtain rfl : k = 1 := by omega
      unfold kas_descPart
      refine kok_bind _ _ (desc_in T hp (n - (1 + 1)) (1 + 1) (by omega) (by omega)) ?_
      have hd2 : DscA c p 2 := fun i j hij hj => by
        obtain rfl : i = 0 := by omega
        obtain rfl : j = 1 := by omega
        exact g (by omega)
      obtain ⟨m, em, a2, b2, d2⟩ := desc_ok T hp (n - (1 + 1)) (1 + 1) (by omega) (by omega) hd2
      rw [em]
      show kok c n (if (0 : Nat) > 0 then _ else kas_tail3 m n p)
      rw [if_neg (by decide)]
      unfold kas_tail3
      exact kok_bind _ _ (asc_in (hp.rev 0 m) (n - m) m (by omega) (by omega)) trivial
theorem place_in {p : Array Nat} (hp : OfN n p) {k : Nat} (hk : k < n) : ∀ (f l r : Nat), r ≤ k → kok c n (kas_place p k f l r)
  | 0, _, _, _ => trivial
  | f + 1, l, r, hr => by
    rw [kas_place]
    by_cases e : l ≥ r
    · rw [if_pos e]; trivial
    · rw [if_neg e]
      refine ⟨hp.lt hk, hp.lt (by omega), ?_⟩
      show kok c n (if c (gA p k) (gA p ((l + r) / 2)) = true then _ else _)
      split
      · exact place_in hp hk f l _ (by omega)
      · exact place_in hp hk f _ r hr
theorem bin_in : ∀ (f k : Nat) (p : Array Nat), OfN n p → k + f = n → kok c n (kas_bin f p k)
  | 0, _, _, _, _ => trivial
  | f + 1, k, p, hp, hk => by
    rw [kas_bin]
    exact kok_bind _ _ (place_in hp (by omega) k 0 k (Nat.le_refl _)) (bin_in f (k + 1) _ ((bubble_perm p k _).trans hp) (by omega))
theorem sort_in (T : TotC c n) (h1 : 1 ≤ n) : kok c n (kas_sort n) := by
  unfold kas_sort
  refine kok_bind _ _ (count_in T (show OfN n (List.toArray (List.range n)) from Array.Perm.refl _) h1) ?_
  obtain ⟨a, b, d, g⟩ := count_ok T (show OfN n (List.toArray (List.range n)) from Array.Perm.refl _) h1
  generalize krun c (kas_count n (List.toArray (List.range n))) = r at *
  by_cases e : r.1 < n
  · rw [if_pos e]
    have : max r.1 1 = r.1 := by omega
    rw [this]
    exact bin_in (n - r.1) r.1 r.2 a (by omega)
  · rw [if_neg e]
    trivial
theorem wp_krun {α : Type} {cmp : Nat → Nat → (Bool → Shared → Prop) → Shared → Prop} {I : Shared → Prop} (hc : ∀ i j (C : Bool → Shared → Prop) s, i < n → j < n → I s → (∀ s', I s' → C (c i j) s') → cmp i j C s) {Q : α → Shared → Prop} : ∀ (t : KasT α) (s : Shared), kok c n t → I s → (∀ s', I s' → Q (krun c t) s') → t.kasWp cmp Q s
  | .ret _, s, _, hI, h => h s hI
  | .ask i j k, s, hk, hI, h => hc i j _ s hk.1 hk.2.1 hI fun s' hI' => wp_krun hc (k (c i j)) s' hk.2.2 hI' h
end
/-! the digits: how many are alike -/
theorem nAt_next (n b : Int) : ∀ i, nAt (n.fdiv b) b i = nAt n b (i + 1)
  | 0 => rfl
  | i + 1 => by show (nAt (n.fdiv b) b i).fdiv b = (nAt n b (i + 1)).fdiv b; rw [nAt_next n b i]
theorem dAt_next (n b : Int) (i : Nat) : dAt (n.fdiv b) b i = dAt n b (i + 1) := by unfold dAt; rw [nAt_next]
theorem fmod_range {n b : Int} (hb : b ≠ 0) : (0 < b ∧ 0 ≤ n.fmod b ∧ n.fmod b < b) ∨ (b < 0 ∧ b < n.fmod b ∧ n.fmod b ≤ 0) := by
  rcases Int.lt_or_gt_of_ne hb with h | h
  · right
    have e := Int.neg_fmod_neg n b
    have p1 := Int.fmod_nonneg_of_pos (-n) (show 0 < -b by omega)
    have p2 := Int.fmod_lt_of_pos (-n) (show 0 < -b by omega)
    omega
  · left
    exact ⟨h, Int.fmod_nonneg_of_pos n h, Int.fmod_lt_of_pos n h⟩
theorem dvd_small {b x : Int} (h : b ∣ x) (h1 : -(b.natAbs : Int) < x) (h2 : x < b.natAbs) : x = 0 := by
  have := Int.natAbs_dvd_natAbs.mpr h
  have h3 : x.natAbs < b.natAbs := by omega
  have := Nat.eq_zero_of_dvd_of_lt this h3
  omega
theorem dvd_step {n m b : Int} (hb : b ≠ 0) (e : Nat) : b ^ (e + 1) ∣ n - m ↔ dAt n b 0 = dAt m b 0 ∧ b ^ e ∣ n.fdiv b - m.fdiv b := by
  have hn := Int.mul_fdiv_add_fmod n b
  have hm := Int.mul_fdiv_add_fmod m b
  have hd : n - m = b * (n.fdiv b - m.fdiv b) + (n.fmod b - m.fmod b) := by rw [Int.mul_sub]; omega
  show b ^ (e + 1) ∣ n - m ↔ n.fmod b = m.fmod b ∧ _
  have hp : b ^ (e + 1) = b * b ^ e := by rw [Int.pow_succ, Int.mul_comm]
  constructor
  · intro h
    have hbd : b ∣ n - m := Int.dvd_trans (hp ▸ Int.dvd_mul_right b (b ^ e)) h
    have h2 : b ∣ n.fmod b - m.fmod b := by
      have := Int.dvd_sub hbd (Int.dvd_mul_right b (n.fdiv b - m.fdiv b))
      rwa [hd, Int.add_comm, Int.add_sub_cancel] at this
    have h3 : n.fmod b - m.fmod b = 0 := by
      rcases fmod_range (n := n) hb with r | r <;> rcases fmod_range (n := m) hb with r2 | r2
      · exact dvd_small h2 (by omega) (by omega)
      · omega
      · omega
      · exact dvd_small h2 (by omega) (by omega)
    refine ⟨by omega, ?_⟩
    rw [hd, h3, Int.add_zero, hp] at h
    exact Int.dvd_of_mul_dvd_mul_left hb h
  · rintro ⟨h1, h2⟩
    rw [hd, h1, Int.sub_self, Int.add_zero, hp]
    exact Int.mul_dvd_mul (Int.dvd_refl b) h2
theorem dvd_digits {b : Int} (hb : b ≠ 0) : ∀ (e : Nat) (n m : Int), b ^ e ∣ n - m ↔ ∀ i, i < e → dAt n b i = dAt m b i
  | 0, n, m => ⟨fun _ i hi => by omega, fun _ => by rw [Int.pow_zero]; exact Int.one_dvd _⟩
  | e + 1, n, m => by
    rw [dvd_step hb, dvd_digits hb e]
    constructor
    · rintro ⟨h1, h2⟩ i hi
      cases i with
      | zero => exact h1
      | succ i => rw [← dAt_next, ← dAt_next]; exact h2 i (by omega)
    · intro h
      exact ⟨h 0 (by omega), fun i hi => by rw [dAt_next, dAt_next]; exact h (i + 1) (by omega)⟩
/-- the rests of a number -/
noncomputable def digs3 (n b : Int) : List Int := [dAt n b 0, dAt n b 1, dAt n b 2]
/-- how many of the first are alike -/
noncomputable def same : List Int → List Int → Nat
  | x :: xs, y :: ys => if x = y then same xs ys + 1 else 0
  | _, _ => 0
/-- the exponents that the law picks -/
noncomputable def picks (n m b : Int) : List Nat := (List.range 4).filter fun e => Int.fmod (n - m) (b ^ e) == 0
theorem pick_iff {b : Int} (hb : b ≠ 0) (n m : Int) (e : Nat) : (Int.fmod (n - m) (b ^ e) == 0) = true ↔ ∀ i, i < e → dAt n b i = dAt m b i := by
  rw [beq_iff_eq, ← dvd_digits hb e n m]
  exact ⟨fun h => Int.dvd_of_fmod_eq_zero h, fun h => Int.fmod_eq_zero_of_dvd h⟩
theorem picks_same {b : Int} (hb : b ≠ 0) (n m : Int) : picks n m b = List.range (same (digs3 n b) (digs3 m b) + 1) := by
  have p := fun e => pick_iff hb n m e
  have key : ∀ (e : Nat) (c : Bool), (c = true ↔ ∀ i, i < e → dAt n b i = dAt m b i) → (Int.fmod (n - m) (b ^ e) == 0) = c := fun e c hc => by
    rw [Bool.eq_iff_iff, p e, hc]
  have k0 : (Int.fmod (n - m) (b ^ 0) == 0) = true := key 0 true ⟨fun _ i hi => by omega, fun _ => rfl⟩
  have k1 : (Int.fmod (n - m) (b ^ 1) == 0) = decide (dAt n b 0 = dAt m b 0) := key 1 _ (by
    rw [decide_eq_true_eq]
    exact ⟨fun h i hi => by rw [show i = 0 by omega]; exact h, fun h => h 0 (by omega)⟩)
  have k2 : (Int.fmod (n - m) (b ^ 2) == 0) = decide (dAt n b 0 = dAt m b 0 ∧ dAt n b 1 = dAt m b 1) := key 2 _ (by
    rw [decide_eq_true_eq]
    refine ⟨fun h i hi => ?_, fun h => ⟨h 0 (by omega), h 1 (by omega)⟩⟩
    have : i = 0 ∨ i = 1 := by omega
    rcases this with e | e <;> rw [e]
    · exact h.1
    · exact h.2)
  have k3 : (Int.fmod (n - m) (b ^ 3) == 0) = decide (dAt n b 0 = dAt m b 0 ∧ dAt n b 1 = dAt m b 1 ∧ dAt n b 2 = dAt m b 2) := key 3 _ (by
    rw [decide_eq_true_eq]
    refine ⟨fun h i hi => ?_, fun h => ⟨h 0 (by omega), h 1 (by omega), h 2 (by omega)⟩⟩
    have : i = 0 ∨ i = 1 ∨ i = 2 := by omega
    rcases this with e | e | e <;> rw [e]
    · exact h.1
    · exact h.2.1
    · exact h.2.2)
  unfold picks
  simp only [show List.range 4 = [0, 1, 2, 3] from rfl, List.filter_cons, List.filter_nil, k0, k1, k2, k3]
  simp only [digs3, same]
  by_cases h0 : dAt n b 0 = dAt m b 0
  · by_cases h1 : dAt n b 1 = dAt m b 1
    · by_cases h2 : dAt n b 2 = dAt m b 2
      · simp [h0, h1, h2]; rfl
      · simp [h0, h1, h2]; rfl
    · simp [h0, h1]; rfl
  · simp [h0]
section
variable {prog : Program} {w : World} {A₀ A : Around} {s : Shared} {base h₀ : Heap} {outer : List Env} {L : Addr} {m : Str → Option Value} {news : List (Addr × Obj)} {K : Frag} {p : Program} {loose : List Str} {mean : ExcName → Option Value} {mg mb : Str → Option Value}
    {R : Result → Shared → Prop} {name qual : Str} {params : Arguments} {body : List Stmt} {scope : Scope} {dV kV doc pm cdv ct oc : Value} {an od : Option Addr} {osl : Array (Option Value)} {f : Addr} {args : Args} {binds : List (Str × Value)} {env : Env}
/-- a helper that may catch is entered from a frame with cells: what its ground is -/
theorem ground_in (B : Below A₀ base [] h₀) (F : Fr h₀ L s.heap m) (N : News h₀ L s.heap news) (hA : A.frames = some [env]) (hf : env.frame = some L) (hke : env.scope.kind = .function) :
    ∃ oL es ep, (hideAll s.heap (news.map (·.1))).get? L = some oL ∧ oL.data = .dict es ep ∧ (∀ (sl : Array (Option Value)) h', h'.get? L = some { oL with slots := sl } → Heap.Ns h' L m) ∧
      h₀.StaysIn (hideAll s.heap (news.map (·.1))) ∧ Below A base [env] (hideAll s.heap (news.map (·.1))) := by
  have off : ∀ b o, h₀.get? b = some o → b ∉ news.map (·.1) := fun b o e q => by
    obtain ⟨p, hp, rfl⟩ := List.mem_map.mp q
    rw [(N p hp).2.2] at e; cases e
  have st : h₀.StaysIn (hideAll s.heap (news.map (·.1))) := fun b o e => hideAll_get _ (F.keep b o e) (off b o e)
  obtain ⟨oL, es, ep, hL, hLd, hLk, hLf⟩ := F.ns
  have nL : L ∉ news.map (·.1) := fun q => by
    obtain ⟨p, hp, e⟩ := List.mem_map.mp q
    exact (N p hp).2.1 e
  have hLg := hideAll_get (news.map (·.1)) hL nL
  have hnew : base.get? L = none := by
    cases hq : base.get? L with
    | none => rfl
    | some o => exact absurd (Nat.lt_of_lt_of_le (Heap.lt_size (B.stays L o hq)) F.above) (Nat.lt_irrefl _)
  have FF : (hideAll s.heap (news.map (·.1))).FunFrames base [env] := funFrames_hideAll (.cons (by rw [hke]; decide) hf F.ns hnew trivial) fun env' he b hb hf' => by
    rw [List.mem_singleton.mp he, hf] at hf'
    exact nL ((Option.some.inj hf' : L = b) ▸ hb)
  exact ⟨oL, es, ep, hLg, hLd, fun sl h' e => ⟨_, es, ep, e, hLd, hLk, hLf⟩, st, ⟨hA, fun b o e => st b o (B.stays b o e), FF⟩⟩
theorem only_ {b : Addr} (hf : env.frame = some L) (hb : b ∈ [env].filterMap (·.frame)) : b = L := by
  obtain ⟨e, he, h⟩ := List.mem_filterMap.mp hb
  rw [List.mem_singleton.mp he, hf] at h
  exact (Option.some.inj h).symm
/-- such a helper is called -/
theorem call_in (B : Below A₀ base [] h₀) (F : Fr h₀ L s.heap m) (X₀ : K.In h₀) (N : News h₀ L s.heap news) (T : Top p loose mean mg mb h₀) (hA : A.frames = some [env]) (hf : env.frame = some L) (hke : env.scope.kind = .function)
    (ho : K.lookup f = some ⟨oc, od, .func (fnOf name qual params body scope dV kV doc pm an cdv ct), osl⟩) (hcd : codeIn K cdv qual = true) (hroom : A.depth < recursionLimit)
    (hbind : BindsTo s (fnOf name qual params body scope dV kV doc pm an cdv ct) args binds) (hloc : ∀ y ∈ binds, scope.names.lookup y.1 = some .local)
    (h : ∀ g L' h₁, Fr h₀ L g m → Fr g L' h₁ (fun y => binds.reverse.lookup y) → News g L' h₁ news → Below A base [env] g → K.In g → Top p loose mean mg mb g → KtsDicts ([env].filterMap (·.frame)) g →
      wpAny (model prog w) (A.deeper (envOf qual scope L' f cdv)) (execs body (envOf qual scope L' f cdv))
        (fun fl s' => LeaveS0 ([env].filterMap (·.frame)) h₀ L m g R (match fl with | .ret v => v | _ => .none) s')
        (fun e s' => wpAny (model prog w) (A.deeper (envOf qual scope L' f cdv)) (leaving (envOf qual scope L' f cdv) e) (fun _ s'' => R (.error e) s'') (fun e' s'' => R (.error e') s'') s')
        { s with heap := h₁, toks := s.toks + binds.length })
    (hco : scope.isCoroutine = false) (hgen : scope.isGenerator = false) (hk : scope.kind = .function)
    (hcell : ∀ x ∈ scope.names, x.2 ≠ .cell) : codeAny (model prog w) A (.call (.ref f) args) R s := by
  have X := X₀.keeps F.keep
  refine codeAny_call_def (fd := fnOf name qual params body scope dV kV doc pm an cdv ct) (body := body) (binds := binds) hroom (X _ _ ho) rfl (T.nolimit.keeps F.keep) (codeRec_of X hcd) rfl hbind hcell hloc (fun h₁ hns hk₁ => ?_) hco hgen hk
  obtain ⟨oL, es, ep, hLg, hLd, hNs, st, B₂⟩ := ground_in B F N hA hf hke
  have hLg' : (hideAll s.heap (news.map (·.1))).get? L = some { oL with slots := oL.slots } := hLg
  refine wpAny_mono (h _ s.heap.objs.size h₁ ⟨hNs oL.slots _ hLg', st, F.above⟩ ⟨hns, fun b o e => hk₁ b o (of_hideAll _ e), Nat.le_of_eq (hideAll_size _ _)⟩
    (fun p hp => ⟨hk₁ _ _ (N p hp).1, Nat.ne_of_lt (Heap.lt_size (N p hp).1), hideAll_none _ (List.mem_map_of_mem hp)⟩) B₂ (X₀.keeps st) (T.keeps st) (fun b hb => by
      rw [only_ hf hb]; exact ⟨oL, es, ep, hLg, hLd⟩)) (fun fl s' hl => ?_) fun _ _ y => y
  obtain ⟨g', L', m', news', T', F', N', k⟩ := hl
  have nL₀ : h₀.get? L = none := kts_self F
  have hmem : L ∈ [env].filterMap (·.frame) := List.mem_filterMap.mpr ⟨env, .head _, hf⟩
  obtain ⟨sl, hs⟩ := T'.frame _ _ hLg hmem
  refine k ⟨hNs sl _ (F'.keep _ _ hs), fun b o e => F'.keep b o (T'.other b o (st b o e) (fun q => by
    rw [only_ hf q, nL₀] at e; cases e)), F.above⟩ fun p hp => ⟨(N' p hp).1, fun q => ?_, ?_⟩
  · have := (N' p hp).2.2; rw [q, hs] at this; cases this
  · cases q : h₀.get? p.1 with
    | none => rfl
    | some o =>
      have hne : p.1 ∉ [env].filterMap (·.frame) := fun hb => by rw [only_ hf hb, nL₀] at q; cases q
      have := (N' p hp).2.2
      rw [T'.other _ _ (st _ _ q) hne] at this
      cases this
end
set_option maxHeartbeats 2000000 in
theorem refusesC {W : Wd} (news : Led) (a : Int) (t : Tok) (dp un : Nat) (gd : Option (List Code)) (cn : Str) (cs : Scope) (b : Addr) (ccd : Value) (cl : List (Str × Addr)) (A₀ : Around) (base h₀ : Heap) (L : Addr) (m : Str → Option Value) (s : Shared) (Q E : Value → Shared → Prop)
    (B : Below A₀ base [] h₀) (F : Fr h₀ L s.heap m) (X : (KF W.w.params).In h₀) (XB : (KF W.w.params).In base) (N : News h₀ L s.heap news) (Tp : Top W.p W.loose W.mean W.mg W.mb h₀) (TB : Top W.p W.loose W.mean W.mg W.mb base) (hk : cs.kind = .function) (hd : dp + 4 < recursionLimit)
    (hret : ∀ h' tk', Fr h₀ L h' m → News h₀ L h' news → Q (.bool true) { s with heap := h', toks := tk' }) :
    wpAny (model PG W.w) (ktrTop dp un gd cn cs L b ccd cl []) (call (.ref 230) [.int a t]) Q E s := by
  k_with_none
  refine wpAny_call ?_
  refine' call_in B F X N Tp rfl rfl hk ?k6 ?k7 ?k8 ?k9 ?kB ?_ ?c2 ?c3 ?c4 ?c5
  case k6 => k_is
  case k7 => k_is
  case k8 => (dsimp only [ktrTop]; omega)
  case k9 => exact BindsTo.of_eq rfl
  case kB => exact locs rfl
  case c2 => exact rfl
  case c3 => exact rfl
  case c4 => exact rfl
  case c5 => decide
  intro g' L' h' FG' F' N' B' X' T' D'
  dsimp only
  k_with "exec Raise some none" => refine Halt.go ?_
  k_steps
  unfold Halt
  refine Raise_classB rfl PyProof.Rows.excClass_ZeroDivisionError (by rw [isSubtype_type]; kernel_rfl) ?_ ?_
  · walk_at "eval Name"
    exact ⟨rfl, rfl⟩
  intro h9 e9 x9
  k_steps
  exact hret _ _ (by k_asm) (by k_asm)
section
variable {X : Type} {a b c d e : X} {T T' own iown cs R : List X}
theorem sh1 : ∀ p ∈ T ++ (a :: b :: (cs ++ (iown ++ own))), p ∈ iown ++ (a :: b :: (cs ++ (T ++ own))) := fun p hp => by
  simp only [List.mem_append, List.mem_cons] at hp ⊢; grind
theorem sh6 : ∀ p ∈ a :: b :: (cs ++ (T ++ (iown ++ own))), p ∈ iown ++ (a :: b :: (cs ++ (T ++ own))) := fun p hp => by
  simp only [List.mem_append, List.mem_cons] at hp ⊢; grind
theorem sh7 : ∀ p ∈ T ++ (a :: b :: (cs ++ (iown ++ own))), p ∈ a :: b :: (cs ++ (T ++ (iown ++ own))) := fun p hp => by
  simp only [List.mem_append, List.mem_cons] at hp ⊢; grind
theorem sh8 : ∀ p ∈ c :: a :: b :: (cs ++ (T ++ (iown ++ own))), p ∈ c :: (T ++ (a :: b :: (cs ++ (iown ++ own)))) := fun p hp => by
  simp only [List.mem_append, List.mem_cons] at hp ⊢; grind
theorem sh2 : ∀ p ∈ c :: a :: b :: (cs ++ (T ++ (iown ++ own))), p ∈ c :: (T ++ (a :: b :: (cs ++ (iown ++ own)))) := fun p hp => by
  simp only [List.mem_append, List.mem_cons] at hp ⊢; grind
theorem sh3 : ∀ p ∈ a :: d :: c :: b :: (cs ++ (T ++ (iown ++ own))), p ∈ d :: c :: a :: b :: (cs ++ (T ++ (iown ++ own))) := fun p hp => by
  simp only [List.mem_append, List.mem_cons] at hp ⊢; grind
theorem sh4 : ∀ p ∈ b :: a :: d :: c :: (cs ++ (T ++ (iown ++ own))), p ∈ a :: d :: c :: b :: (cs ++ (T ++ (iown ++ own))) := fun p hp => by
  simp only [List.mem_append, List.mem_cons] at hp ⊢; grind
theorem sh5 : ∀ p ∈ iown ++ (a :: b :: (cs ++ (T ++ (d :: c :: own)))), p ∈ b :: a :: d :: c :: (cs ++ (T ++ (iown ++ own))) := fun p hp => by
  simp only [List.mem_append, List.mem_cons] at hp ⊢; grind
end
/-- ahead of a turn of the law's first loop -/
structure L1 (hp lp : Addr) (cs : Led) (nums : List Int) (b : Int) (i : Nat) (m : Str → Option Value) (news : Led) : Prop where
  mh : m (Str.ofString "heap") = some (.ref hp)
  ml : m (Str.ofString "lasts") = some (.ref lp)
  ex : ∃ T own xs lv nh nl, news = (hp, listOf (xs.map rf).toArray nh) :: (lp, listOf lv.toArray nl) :: (cs ++ (T ++ own)) ∧ Tabs T ∧ Off hp T ∧ Off lp T ∧ Dj T (cs ++ own) ∧ Off hp (cs ++ own) ∧ Off lp (cs ++ own) ∧ ItemsIn xs own ∧ Hp xs ∧
    (xs.map (·.2)).Perm ((List.range i).map fun p => (wayAt (nums.getD p 0) b 3, (p : Int))) ∧ IntsAre lv ((nums.take i).map fun n => nAt n b 3) ∧ ∀ p ∈ own, @LT.lt Nat _ hp p.1
theorem ints_gd {vs : List Value} {ns : List Int} (h : IntsAre vs ns) {i : Nat} (hi : i < ns.length) : ∃ t, vs[i]? = some (.int (ns.getD i 0) t) := by
  induction h generalizing i with
  | nil => exact absurd hi (Nat.not_lt_zero _)
  | cons n t _ ih =>
    cases i with
    | zero => exact ⟨t, rfl⟩
    | succ i => exact ih (Nat.lt_of_succ_lt_succ hi)
theorem ints_snoc {vs : List Value} {ns : List Int} (h : IntsAre vs ns) (x : Int) (t : Tok) : IntsAre (vs ++ [.int x t]) (ns ++ [x]) := by
  induction h with
  | nil => exact .cons _ _ .nil
  | cons n t' _ ih => exact .cons n t' ih
theorem perm_turn {xs ys : List Itm} {x : Itm} {nums : List Int} {b : Int} {i : Nat} (hp : ys.Perm (xs ++ [x])) (h : (xs.map (·.2)).Perm ((List.range i).map fun p => (wayAt (nums.getD p 0) b 3, (p : Int)))) (hx : x.2 = (wayAt (nums.getD i 0) b 3, (i : Int))) :
    (ys.map (·.2)).Perm ((List.range (i + 1)).map fun p => (wayAt (nums.getD p 0) b 3, (p : Int))) := by
  refine (hp.map (·.2)).trans ?_
  rw [List.map_append, List.range_succ, List.map_append, show [x].map (·.2) = [x.2] from rfl, hx]
  exact h.append_right _
theorem take_snoc {nums : List Int} {i : Nat} (hi : i < nums.length) (f : Int → Int) : (nums.take (i + 1)).map f = (nums.take i).map f ++ [f (nums.getD i 0)] := by
  rw [List.take_add_one, List.map_append, List.getD_eq_getElem?_getD, List.getElem?_eq_getElem hi]; rfl
theorem dj_five {T iown own cs : Led} {I hp lp : Addr} {oh ol : Obj} (o1 : Off hp T) (o2 : Off lp T) (o3 : Dj T (cs ++ own)) (hI : ∀ p ∈ T, p.1 ≠ I) (hio : ∀ p ∈ iown, p.1 = I) : Dj T ((hp, oh) :: (lp, ol) :: (cs ++ (iown ++ own))) := fun p hpT q hq => by
  rcases List.mem_cons.mp hq with rfl | hq
  · exact o1 p hpT
  rcases List.mem_cons.mp hq with rfl | hq
  · exact o2 p hpT
  rcases List.mem_append.mp hq with hq | hq
  · exact o3 p hpT q (List.mem_append_left _ hq)
  rcases List.mem_append.mp hq with hq | hq
  · rw [hio q hq]; exact hI p hpT
  · exact o3 p hpT q (List.mem_append_right _ hq)
theorem dj_back {T iown own cs : Led} {I hp lp : Addr} {oh ol oI : Obj} (h : Dj T ((hp, oh) :: (lp, ol) :: (cs ++ (iown ++ own)))) (hI : (I, oI) ∈ iown) : Off hp T ∧ Off lp T ∧ Dj T (cs ++ own) ∧ ∀ p ∈ T, p.1 ≠ I :=
  ⟨fun p hp => h p hp _ (.head _), fun p hp => h p hp _ (.tail _ (.head _)), fun p hp q hq => h p hp q (.tail _ (.tail _ ((List.mem_append.mp hq).elim (List.mem_append_left _) fun hq => List.mem_append_right _ (List.mem_append_right _ hq)))),
    fun p hp => h p hp _ (.tail _ (.tail _ (List.mem_append_right _ (List.mem_append_left _ hI))))⟩
theorem obj_ne {h₀ h : Heap} {L : Addr} {l : Led} (N : News h₀ L h l) {a c : Addr} {o o' : Obj} (ha : (a, o) ∈ l) (hc : (c, o') ∈ l) (hne : o.data ≠ o'.data) : @Ne Nat a c := fun e => by
  have h1 := (N _ ha).1
  have h2 := (N _ hc).1
  dsimp only at h1 h2
  rw [show a = c from e, h2] at h1
  exact hne (congrArg Obj.data (Option.some.inj h1)).symm
theorem off_five {hp lp D x I : Addr} {oD ox ol : Obj} {cs T own iown : Led} (h1 : D ≠ hp) (h2 : x ≠ hp) (h3 : lp ≠ hp) (h4 : Off hp (cs ++ own)) (h5 : Off hp T) (h6 : I ≠ hp) (hio : ∀ p ∈ iown, p.1 = I) : Off hp ((D, oD) :: (x, ox) :: (lp, ol) :: (cs ++ (T ++ (iown ++ own)))) := fun p hq => by
  rcases List.mem_cons.mp hq with rfl | hq
  · exact h1
  rcases List.mem_cons.mp hq with rfl | hq
  · exact h2
  rcases List.mem_cons.mp hq with rfl | hq
  · exact h3
  rcases List.mem_append.mp hq with hq | hq
  · exact h4 p (List.mem_append_left _ hq)
  rcases List.mem_append.mp hq with hq | hq
  · exact h5 p hq
  rcases List.mem_append.mp hq with hq | hq
  · rw [hio p hq]; exact h6
  · exact h4 p (List.mem_append_right _ hq)
theorem off_two {a D x : Addr} {oD ox : Obj} {cs own : Led} (h : Off a (cs ++ own)) (h1 : D ≠ a) (h2 : x ≠ a) : Off a (cs ++ (D, oD) :: (x, ox) :: own) := fun p hq => by
  rcases List.mem_append.mp hq with hq | hq
  · exact h p (List.mem_append_left _ hq)
  rcases List.mem_cons.mp hq with rfl | hq
  · exact h1
  rcases List.mem_cons.mp hq with rfl | hq
  · exact h2
  · exact h p (List.mem_append_right _ hq)
theorem dj_two {T cs own : Led} {D x : Addr} {oD ox : Obj} (h : Dj T (cs ++ own)) (h1 : ∀ p ∈ T, @LT.lt Nat _ p.1 x) (h2 : @LT.lt Nat _ x D) : Dj T (cs ++ (D, oD) :: (x, ox) :: own) := fun p hp q hq => by
  rcases List.mem_append.mp hq with hq | hq
  · exact h p hp q (List.mem_append_left _ hq)
  rcases List.mem_cons.mp hq with rfl | hq
  · exact Nat.ne_of_lt (Nat.lt_trans (h1 p hp) h2)
  rcases List.mem_cons.mp hq with rfl | hq
  · exact Nat.ne_of_lt (h1 p hp)
  · exact h p hp q (List.mem_append_right _ hq)
/-- the law's body and its scope, of the program -/
noncomputable def lawPair : Option (List Stmt × Scope) := match (Challenge.pw_pd0175_01.main.body)[36]? with
  | some (Stmt.FunctionDef _ _ body _ _ _ scope _ _ _) => some (body, scope)
  | _ => none
theorem with_law {C : List Stmt → Scope → Prop} {b : List Stmt} {s : Scope} (e : lawPair = some (b, s)) (h : C b s) : ∀ body scope, lawPair = some (body, scope) → C body scope := fun body scope e' => by
  have := e.symm.trans e'
  obtain ⟨rfl, rfl⟩ := Prod.mk.inj (Option.some.inj this)
  exact h
/-- what the law's frame stands on -/
structure Gd (W : Wd) (dp un : Nat) (A₀ : Around) (base g : Heap) : Prop where
  B : Below A₀ base [] g
  XB : (KF W.w.params).In base
  TB : Top W.p W.loose W.mean W.mg W.mb base
  X : (KF W.w.params).In g
  Tp : Top W.p W.loose W.mean W.mg W.mb g
  hd : dp + 60 < recursionLimit
  hu : un + 8 * 60 < cLine
/-- an item as data -/
noncomputable def datI (x : Itm) : PySem.W.Dat := .tuple [.str x.2.1, .int x.2.2]
theorem dat_items {own : Led} : ∀ {xs : List Itm}, ItemsIn xs own → DatAll own (xs.map rf) (xs.map datI)
  | [], _ => .nil
  | x :: xs, h => by
    obtain ⟨t, u, hm⟩ := h x (.head _)
    exact .cons (.tuple hm (.cons (.str _ _) (.cons (.int _ _) .nil))) (dat_items fun y hy => h y (.tail _ hy))
theorem datI_ok {x : Itm} (h : PyData.strOk x.2.1 = true) : kqdOk 8 (datI x) = true := by
  unfold datI
  simp [kqdOk, h]
theorem datI_inj {x y : Itm} (h : datI x = datI y) : x.2 = y.2 := by
  unfold datI at h
  injection h with h
  injection h with h1 h2
  injection h1 with h1
  injection h2 with h2 _
  injection h2 with h2
  exact Prod.ext h1 h2
theorem nil_or_snoc {α : Type} (l : List α) : l = [] ∨ ∃ r y, l = r ++ [y] := by
  rcases List.eq_nil_or_concat l with h | ⟨r, y, h⟩
  · exact .inl h
  · exact .inr ⟨r, y, by rw [h, List.concat_eq_append]⟩
theorem not_empty {zs : List Itm} (i : Decidable (zs.map datI = [])) : (!@decide _ i) = !zs.isEmpty := by
  cases zs <;> simp
theorem lt_all {d : Addr} : ∀ {l : Led}, AllLt d l → ∀ p ∈ l, @LT.lt Nat _ p.1 d
  | [], _, p, hp => nomatch hp
  | q :: r, h, p, hp => by
    rcases List.mem_cons.mp hp with rfl | hp
    · exact h.1
    · exact lt_all h.2 p hp
section
variable {X : Type} {a b c d e f g : X} {R K : List X}
theorem sh7a : ∀ p ∈ a :: b :: c :: d :: e :: f :: g :: (R ++ K), p ∈ R ++ (a :: b :: c :: d :: e :: f :: g :: K) := fun p hp => by
  simp only [List.mem_append, List.mem_cons] at hp ⊢; grind
theorem sh7b : ∀ p ∈ R ++ (a :: b :: c :: d :: e :: f :: g :: K), p ∈ a :: b :: c :: d :: e :: f :: g :: (R ++ K) := fun p hp => by
  simp only [List.mem_append, List.mem_cons] at hp ⊢; grind
end
/-! the front that commonpath finds, and the rests -/
/-- the names of a way -/
noncomputable def nm3 (a b c : Nat) : List Str := [⟨#[a]⟩, ⟨#[b]⟩, ⟨#[c]⟩]
noncomputable def code3 (a b c : Nat) : Nat := a * 16384 + b * 128 + c
theorem lt_one (a b : Nat) : ((⟨#[a]⟩ : Str).cps.toList < (⟨#[b]⟩ : Str).cps.toList) ↔ a < b := by
  show ([a] < [b]) ↔ a < b
  simp [List.cons_lt_cons_iff]
theorem lt_one' (a b : Nat) : ([a] < [b]) ↔ a < b := lt_one a b
theorem one_inj {a b : Nat} : ((⟨#[a]⟩ : Str) = ⟨#[b]⟩) ↔ a = b := by simp
theorem ltL_code {a b c a' b' c' : Nat} (hb : b < 128) (hc : c < 128) (hb' : b' < 128) (hc' : c' < 128) :
    ltL (nm3 a b c) (nm3 a' b' c') = decide (code3 a b c < code3 a' b' c') := by
  unfold nm3 code3
  simp only [ltL, one_inj, lt_one']
  by_cases h1 : a = a'
  · subst h1
    by_cases h2 : b = b'
    · subst h2
      by_cases h3 : c = c'
      · subst h3; simp
      · simp only [if_true, if_neg h3]
        rw [decide_eq_decide]; omega
    · simp only [if_true, if_neg h2]
      rw [decide_eq_decide]; omega
  · simp only [if_neg h1]
    rw [decide_eq_decide]; omega
theorem wy_cps (a b c : Nat) : (wy [a, b, c]).cps.toList = [47, a, 47, b, 47, c] := by simp [wy]
theorem way_code {a b c a' b' c' : Nat} (hb : b < 128) (hc : c < 128) (hb' : b' < 128) (hc' : c' < 128) (h : ¬ (wy [a', b', c']).cps.toList < (wy [a, b, c]).cps.toList) : code3 a b c ≤ code3 a' b' c' := by
  apply Nat.le_of_not_lt
  intro hlt
  apply h
  rw [wy_cps, wy_cps]
  unfold code3 at hlt
  simp only [List.cons_lt_cons_iff, Nat.lt_irrefl, false_or, true_and, List.not_lt_nil, and_false, or_false]
  omega
theorem wy_inj {a b c a' b' c' : Nat} (h : wy [a, b, c] = wy [a', b', c']) : a = a' ∧ b = b' ∧ c = c' := by
  have := congrArg (fun x : Str => x.cps.toList) h
  simp only [wy_cps] at this
  simpa using this
theorem leI_code {y y' : Itm} {a b c a' b' c' : Nat} (hb : b < 128) (hc : c < 128) (hb' : b' < 128) (hc' : c' < 128) (e : y.2.1 = wy [a, b, c]) (e' : y'.2.1 = wy [a', b', c']) (h : leI y y') : code3 a b c ≤ code3 a' b' c' := by
  rw [leI_iff, e, e'] at h
  by_cases he : wy [a, b, c] = wy [a', b', c']
  · obtain ⟨rfl, rfl, rfl⟩ := wy_inj he
    exact Nat.le_refl _
  · rw [if_neg he] at h
    exact way_code hb hc hb' hc' h
theorem code_inj {a b c a' b' c' : Nat} (hb : b < 128) (hc : c < 128) (hb' : b' < 128) (hc' : c' < 128) (h : code3 a b c = code3 a' b' c') : a = a' ∧ b = b' ∧ c = c' := by
  unfold code3 at h; omega
theorem best_min (f : Nat → Nat) (bt : Nat → Nat → Bool) : ∀ n, (∀ j i, j ≤ n → i ≤ n → bt j i = decide (f j < f i)) → argBest bt n ≤ n ∧ ∀ i, i ≤ n → f (argBest bt n) ≤ f i
  | 0, _ => ⟨Nat.le_refl _, fun i hi => by rw [show i = 0 by omega]; exact Nat.le_refl _⟩
  | n + 1, h => by
    obtain ⟨h1, h2⟩ := best_min f bt n fun j i hj hi => h j i (by omega) (by omega)
    have hb := h (n + 1) (argBest bt n) (Nat.le_refl _) (by omega)
    show (if bt (n + 1) (argBest bt n) then n + 1 else argBest bt n) ≤ n + 1 ∧ ∀ i, i ≤ n + 1 → f (if bt (n + 1) (argBest bt n) then n + 1 else argBest bt n) ≤ f i
    rw [hb]
    by_cases hlt : f (n + 1) < f (argBest bt n)
    · rw [decide_eq_true hlt, if_pos rfl]
      refine ⟨Nat.le_refl _, fun i hi => ?_⟩
      by_cases e : i = n + 1
      · rw [e]; exact Nat.le_refl _
      · have := h2 i (by omega); omega
    · rw [decide_eq_false hlt, if_neg (by decide)]
      refine ⟨by omega, fun i hi => ?_⟩
      by_cases e : i = n + 1
      · rw [e]; omega
      · exact h2 i (by omega)
theorem sg_lt {n b : Int} (hb : b ≠ 0) (h1 : -9 ≤ b) (h2 : b ≤ 9) (i : Nat) : 65 ≤ sg (dAt n b i) ∧ sg (dAt n b i) ≤ 81 ∧ ((sg (dAt n b i) : Nat) : Int) = 73 + dAt n b i := by
  have := fmod_bound (a := nAt n b i) hb h1 h2
  show 65 ≤ (73 + (nAt n b i).fmod b).toNat ∧ (73 + (nAt n b i).fmod b).toNat ≤ 81 ∧ (((73 + (nAt n b i).fmod b).toNat : Nat) : Int) = 73 + (nAt n b i).fmod b
  omega
theorem sg_eq {n m b : Int} (hb : b ≠ 0) (h1 : -9 ≤ b) (h2 : b ≤ 9) (i : Nat) : sg (dAt n b i) = sg (dAt m b i) ↔ dAt n b i = dAt m b i := by
  have a := sg_lt (n := n) hb h1 h2 i
  have c := sg_lt (n := m) hb h1 h2 i
  constructor
  · intro h; have := congrArg (fun k : Nat => (k : Int)) h; omega
  · intro h; rw [h]
theorem way3 (n b : Int) : wayAt n b 3 = wy [sg (dAt n b 0), sg (dAt n b 1), sg (dAt n b 2)] := rfl
noncomputable def nmOf (n b : Int) : List Str := nm3 (sg (dAt n b 0)) (sg (dAt n b 1)) (sg (dAt n b 2))
noncomputable def cdOf (n b : Int) : Nat := code3 (sg (dAt n b 0)) (sg (dAt n b 1)) (sg (dAt n b 2))
theorem kept3 {a b c : Nat} (ha : a ≠ 46) (hb : b ≠ 46) (hc : c ≠ 46) : kept [⟨#[]⟩, ⟨#[a]⟩, ⟨#[b]⟩, ⟨#[c]⟩] = nm3 a b c := by
  have e : Str.ofString "." = ⟨#[46]⟩ := by decide +kernel
  unfold kept nm3
  rw [e]
  simp [Str.length, ha, hb, hc]
theorem names_way {n b : Int} (hb : b ≠ 0) (h1 : -9 ≤ b) (h2 : b ≤ 9) : kept (Txt.split (wayAt n b 3) (Str.ofString "/")) = nmOf n b := by
  have q0 := sg_lt (n := n) hb h1 h2 0
  have q1 := sg_lt (n := n) hb h1 h2 1
  have q2 := sg_lt (n := n) hb h1 h2 2
  rw [way3, parts3 (by omega) (by omega) (by omega) (by omega) (by omega) (by omega), kept3 (by omega) (by omega) (by omega)]
  rfl
theorem names_all {b : Int} (hb : b ≠ 0) (h1 : -9 ≤ b) (h2 : b ≤ 9) (ms : List Int) : namesOf (ms.map fun n => wayAt n b 3) = ms.map fun n => nmOf n b := by
  unfold namesOf
  rw [List.map_map, List.map_map]
  exact List.map_congr_left fun n _ => names_way hb h1 h2
theorem ltL_nm {n m b : Int} (hb : b ≠ 0) (h1 : -9 ≤ b) (h2 : b ≤ 9) : ltL (nmOf n b) (nmOf m b) = decide (cdOf n b < cdOf m b) := by
  have q1 := sg_lt (n := n) hb h1 h2 1
  have q2 := sg_lt (n := n) hb h1 h2 2
  have r1 := sg_lt (n := m) hb h1 h2 1
  have r2 := sg_lt (n := m) hb h1 h2 2
  exact ltL_code (by omega) (by omega) (by omega) (by omega)
theorem cd_nm {n m b : Int} (hb : b ≠ 0) (h1 : -9 ≤ b) (h2 : b ≤ 9) (h : cdOf n b = cdOf m b) : nmOf n b = nmOf m b := by
  have q1 := sg_lt (n := n) hb h1 h2 1
  have q2 := sg_lt (n := n) hb h1 h2 2
  have r1 := sg_lt (n := m) hb h1 h2 1
  have r2 := sg_lt (n := m) hb h1 h2 2
  obtain ⟨e0, e1, e2⟩ := code_inj (by omega) (by omega) (by omega) (by omega) h
  unfold nmOf
  rw [e0, e1, e2]
theorem cd_le {y y' : Itm} {n m b : Int} (hb : b ≠ 0) (h1 : -9 ≤ b) (h2 : b ≤ 9) (e : y.2.1 = wayAt n b 3) (e' : y'.2.1 = wayAt m b 3) (h : leI y y') : cdOf n b ≤ cdOf m b := by
  have q1 := sg_lt (n := n) hb h1 h2 1
  have q2 := sg_lt (n := n) hb h1 h2 2
  have r1 := sg_lt (n := m) hb h1 h2 1
  have r2 := sg_lt (n := m) hb h1 h2 2
  exact leI_code (by omega) (by omega) (by omega) (by omega) (e.trans (way3 n b)) (e'.trans (way3 m b)) h
theorem getD_map {α β : Type} (l : List α) (f : α → β) (i : Nat) (a : α) (b : β) (hi : i < l.length) : (l.map f).getD i b = f (l.getD i a) := by
  rw [List.getD_eq_getElem?_getD, List.getD_eq_getElem?_getD, List.getElem?_map, List.getElem?_eq_getElem hi]; rfl
/-- what commonpath finds on ways of falling order: the front of the last, as long as it is the first's -/
theorem front_law {b : Int} (hb : b ≠ 0) (h1 : -9 ≤ b) (h2 : b ≤ 9) (ms : List Int) (hm : 2 ≤ ms.length) (hd : ∀ i j, i ≤ j → j < ms.length → cdOf (ms.getD j 0) b ≤ cdOf (ms.getD i 0) b) {v : Value} (h : CpPost (ms.map fun n => wayAt n b 3) v) :
    ∃ e t, v = .str (Str.ofString "/" ++ Txt.join (Str.ofString "/") ((nmOf (ms.getD (ms.length - 1) 0) b).take e)) t ∧ e ≤ 3 ∧ (nmOf (ms.getD (ms.length - 1) 0) b).take e = (nmOf (ms.getD 0 0) b).take e ∧ (e = 3 ∨ (nmOf (ms.getD (ms.length - 1) 0) b)[e]? ≠ (nmOf (ms.getD 0 0) b)[e]?) := by
  obtain ⟨ss1, ss2, e, t, g1, g2, hel, hpre, hend, rfl⟩ := h
  rw [names_all hb h1 h2] at g1 g2
  rw [List.length_map] at g1 g2
  have kk : ∀ i, i < ms.length → (ms.map fun n => nmOf n b).getD i [] = nmOf (ms.getD i 0) b := fun i hi => getD_map ms _ i 0 [] hi
  obtain ⟨p1, p2⟩ := best_min (fun i => cdOf (ms.getD i 0) b) (fun j i => ltL ((ms.map fun n => nmOf n b).getD j []) ((ms.map fun n => nmOf n b).getD i [])) (ms.length - 1) (fun j i hj hi => by
    rw [kk j (by omega), kk i (by omega)]; exact ltL_nm hb h1 h2)
  obtain ⟨q1, q2⟩ := best_min (fun i => 100000000 - cdOf (ms.getD i 0) b) (fun j i => ltL ((ms.map fun n => nmOf n b).getD i []) ((ms.map fun n => nmOf n b).getD j [])) (ms.length - 1) (fun j i hj hi => by
    rw [kk j (by omega), kk i (by omega), ltL_nm hb h1 h2, decide_eq_decide]
    have a0 := sg_lt (n := ms.getD j 0) hb h1 h2 0
    have a1 := sg_lt (n := ms.getD j 0) hb h1 h2 1
    have a2 := sg_lt (n := ms.getD j 0) hb h1 h2 2
    have b0 := sg_lt (n := ms.getD i 0) hb h1 h2 0
    have b1 := sg_lt (n := ms.getD i 0) hb h1 h2 1
    have b2 := sg_lt (n := ms.getD i 0) hb h1 h2 2
    unfold cdOf code3
    omega)
  generalize argBest (fun j i => ltL ((ms.map fun n => nmOf n b).getD j []) ((ms.map fun n => nmOf n b).getD i [])) (ms.length - 1) = u at *
  generalize argBest (fun j i => ltL ((ms.map fun n => nmOf n b).getD i []) ((ms.map fun n => nmOf n b).getD j [])) (ms.length - 1) = w at *
  have gg : ∀ i ss, i ≤ ms.length - 1 → (ms.map fun n => nmOf n b)[i]? = some ss → ss = nmOf (ms.getD i 0) b := fun i ss hi hg => by
    have := kk i (by omega)
    rw [List.getD_eq_getElem?_getD, hg] at this
    exact this
  have s1 := gg u ss1 p1 g1
  have s2 := gg w ss2 q1 g2
  have c1 : cdOf (ms.getD u 0) b = cdOf (ms.getD (ms.length - 1) 0) b := Nat.le_antisymm (p2 _ (Nat.le_refl _)) (hd u (ms.length - 1) p1 (by omega))
  have c2 : cdOf (ms.getD w 0) b = cdOf (ms.getD 0 0) b := by
    have x1 := q2 0 (Nat.zero_le _)
    have x2 := hd 0 w (Nat.zero_le _) (by omega)
    have a0 := sg_lt (n := ms.getD 0 0) hb h1 h2 0
    have a1 := sg_lt (n := ms.getD 0 0) hb h1 h2 1
    have a2 := sg_lt (n := ms.getD 0 0) hb h1 h2 2
    have ub : cdOf (ms.getD 0 0) b ≤ 100000000 := by unfold cdOf code3; omega
    omega
  rw [s1, cd_nm hb h1 h2 c1] at hel hpre hend ⊢
  rw [s2, cd_nm hb h1 h2 c2] at hpre hend
  exact ⟨e, t, rfl, hel, hpre, hend⟩
theorem slice_way {a b c : Nat} {e : Nat} (he : e ≤ 3) : Txt.slice (wy [a, b, c]) none (some ((2 * (e : Int)))) = (match e with | 0 => ⟨#[]⟩ | 1 => wy [a] | 2 => wy [a, b] | _ => wy [a, b, c]) := by
  have e0 : Builtin.Str.strSliceIndices none (some 0) 1 6 = [] := by decide +kernel
  have e1 : Builtin.Str.strSliceIndices none (some 2) 1 6 = [0, 1] := by decide +kernel
  have e2 : Builtin.Str.strSliceIndices none (some 4) 1 6 = [0, 1, 2, 3] := by decide +kernel
  have e3 : Builtin.Str.strSliceIndices none (some 6) 1 6 = [0, 1, 2, 3, 4, 5] := by decide +kernel
  have : e = 0 ∨ e = 1 ∨ e = 2 ∨ e = 3 := by omega
  rcases this with rfl | rfl | rfl | rfl
  · simp [Txt.slice, wy, Str.length, e0]
  · simp [Txt.slice, wy, Str.length, e1]
  · simp [Txt.slice, wy, Str.length, e2]
  · simp [Txt.slice, wy, Str.length, e3]
/-- the front that the law names -/
noncomputable def frontOf (w : Str) (c : Nat) : Str := if (Txt.slice w none (some (2 * (c : Int)))).length ≠ 0 then Txt.slice w none (some (2 * (c : Int))) else Str.ofString "/"
theorem front_same {n m b : Int} (hb : b ≠ 0) (h1 : -9 ≤ b) (h2 : b ≤ 9) {e : Nat} (he : e ≤ 3) (hp : (nmOf n b).take e = (nmOf m b).take e) (hx : e = 3 ∨ (nmOf n b)[e]? ≠ (nmOf m b)[e]?) :
    Str.ofString "/" ++ Txt.join (Str.ofString "/") ((nmOf n b).take e) = frontOf (wayAt n b 3) (same (digs3 m b) (digs3 n b)) := by
  have k0 := sg_eq (n := n) (m := m) hb h1 h2 0
  have k1 := sg_eq (n := n) (m := m) hb h1 h2 1
  have k2 := sg_eq (n := n) (m := m) hb h1 h2 2
  have hs : same (digs3 m b) (digs3 n b) = e := by
    unfold nmOf nm3 at hp hx
    have : e = 0 ∨ e = 1 ∨ e = 2 ∨ e = 3 := by omega
    rcases this with rfl | rfl | rfl | rfl
    · have x : ¬ dAt n b 0 = dAt m b 0 := fun h => by
        rcases hx with h' | h'
        · omega
        · exact h' (by simp [k0.mpr h])
      simp [same, digs3]
      exact fun h => x h.symm
    · have y0 : dAt n b 0 = dAt m b 0 := k0.mp (by simpa using hp)
      have x : ¬ dAt n b 1 = dAt m b 1 := fun h => by
        rcases hx with h' | h'
        · omega
        · exact h' (by simp [k1.mpr h])
      simp only [same, digs3, if_pos y0.symm, if_neg (fun h : dAt m b 1 = dAt n b 1 => x h.symm)]
    · have y : sg (dAt n b 0) = sg (dAt m b 0) ∧ sg (dAt n b 1) = sg (dAt m b 1) := by simpa using hp
      have x : ¬ dAt n b 2 = dAt m b 2 := fun h => by
        rcases hx with h' | h'
        · omega
        · exact h' (by simp [k2.mpr h])
      simp only [same, digs3, if_pos (k0.mp y.1).symm, if_pos (k1.mp y.2).symm, if_neg (fun h : dAt m b 2 = dAt n b 2 => x h.symm)]
    · have y : sg (dAt n b 0) = sg (dAt m b 0) ∧ sg (dAt n b 1) = sg (dAt m b 1) ∧ sg (dAt n b 2) = sg (dAt m b 2) := by simpa using hp
      simp only [same, digs3, if_pos (k0.mp y.1).symm, if_pos (k1.mp y.2.1).symm, if_pos (k2.mp y.2.2).symm]
  rw [hs]
  unfold frontOf
  rw [way3, slice_way he]
  have : e = 0 ∨ e = 1 ∨ e = 2 ∨ e = 3 := by omega
  rw [sl_cps]
  unfold nmOf nm3
  rcases this with rfl | rfl | rfl | rfl
  · rfl
  · rfl
  · rfl
  · rfl
theorem way_cp {n b : Int} (hb : b ≠ 0) (h1 : -9 ≤ b) (h2 : b ≤ 9) : Txt.startswith (wayAt n b 3) (Str.ofString "/") = true ∧ (wayAt n b 3).length ≤ 100 ∧ ((Txt.split (wayAt n b 3) (Str.ofString "/")).length ≤ 200 ∧ ∀ x ∈ Txt.split (wayAt n b 3) (Str.ofString "/"), x.length ≤ 200) ∧
    (kept (Txt.split (wayAt n b 3) (Str.ofString "/"))).length = 3 ∧ ∀ x ∈ kept (Txt.split (wayAt n b 3) (Str.ofString "/")), x.length = 1 := by
  have q0 := sg_lt (n := n) hb h1 h2 0
  have q1 := sg_lt (n := n) hb h1 h2 1
  have q2 := sg_lt (n := n) hb h1 h2 2
  have e := names_way (n := n) hb h1 h2
  rw [e]
  rw [way3, parts3 (by omega) (by omega) (by omega) (by omega) (by omega) (by omega)]
  refine ⟨starts3, by show (6 : Nat) ≤ 100; decide, ⟨by show (4 : Nat) ≤ 200; decide, fun x hx => ?_⟩, rfl, fun x hx => ?_⟩
  · simp only [List.mem_cons, List.not_mem_nil, or_false] at hx
    rcases hx with rfl | rfl | rfl | rfl
    · show (0 : Nat) ≤ 200; decide
    · show (1 : Nat) ≤ 200; decide
    · show (1 : Nat) ≤ 200; decide
    · show (1 : Nat) ≤ 200; decide
  · unfold nmOf nm3 at hx
    simp only [List.mem_cons, List.not_mem_nil, or_false] at hx
    rcases hx with rfl | rfl | rfl <;> rfl
theorem way_ok {n b : Int} (hb : b ≠ 0) (h1 : -9 ≤ b) (h2 : b ≤ 9) : PyData.strOk (wayAt n b 3) = true := by
  have q0 := sg_lt (n := n) hb h1 h2 0
  have q1 := sg_lt (n := n) hb h1 h2 1
  have q2 := sg_lt (n := n) hb h1 h2 2
  rw [way3]
  unfold PyData.strOk wy
  simp
  omega
theorem cc_le (xs ys : List Int) : same xs ys ≤ xs.length := by
  induction xs generalizing ys with
  | nil => exact Nat.le_refl 0
  | cons x xs ih =>
    cases ys with
    | nil => exact Nat.zero_le _
    | cons y ys =>
      show (if x = y then same xs ys + 1 else 0) ≤ xs.length + 1
      split
      · exact Nat.succ_le_succ (ih ys)
      · exact Nat.zero_le _
theorem slice_len {n b : Int} {c : Nat} (hc : c ≤ 3) : (Txt.slice (wayAt n b 3) none (some (2 * (c : Int)))).length ≤ 6 := by
  rw [way3, slice_way hc]
  have : c = 0 ∨ c = 1 ∨ c = 2 ∨ c = 3 := by omega
  rcases this with rfl | rfl | rfl | rfl
  · show (0 : Nat) ≤ 6; decide
  · show (2 : Nat) ≤ 6; decide
  · show (4 : Nat) ≤ 6; decide
  · show (6 : Nat) ≤ 6; decide
theorem way_len (n b : Int) : (wayAt n b 3).length = 6 := rfl
theorem pair_le {ys : List Itm} (h : ys.Pairwise leI) {i j : Nat} (hij : i ≤ j) (hj : j < ys.length) : leI (ys.getD i dI) (ys.getD j dI) := by
  by_cases e : i = j
  · rw [e]; exact leI_refl _
  · have := List.pairwise_iff_getElem.mp h i j (by omega) hj (by omega)
    rw [List.getD_eq_getElem?_getD, List.getD_eq_getElem?_getD, List.getElem?_eq_getElem hj, List.getElem?_eq_getElem (show i < ys.length by omega)]
    exact this
/-- what the law's third and later parts know of the row -/
structure RowOk (ys : List Itm) (nums : List Int) (b : Int) : Prop where
  len : ys.length = nums.length
  so : ys.Pairwise leI
  it : ∀ y ∈ ys, ∃ p, p < nums.length ∧ y.2 = (wayAt (nums.getD p 0) b 3, (p : Int))
theorem RowOk.at {ys : List Itm} {nums : List Int} {b : Int} (h : RowOk ys nums b) {i : Nat} (hi : i < ys.length) : ∃ p, p < nums.length ∧ (ys.getD i dI).2 = (wayAt (nums.getD p 0) b 3, (p : Int)) := h.it _ (List.mem_of_getElem? (getD_at hi))
/-- the number of the i-th of the row -/
noncomputable def numAt (ys : List Itm) (nums : List Int) (i : Nat) : Int := nums.getD (ys.getD i dI).2.2.toNat 0
theorem RowOk.num {ys : List Itm} {nums : List Int} {b : Int} (h : RowOk ys nums b) {i : Nat} (hi : i < ys.length) : (ys.getD i dI).2.1 = wayAt (numAt ys nums i) b 3 := by
  obtain ⟨p, hp, e⟩ := h.at hi
  unfold numAt
  rw [e]
  show wayAt _ b 3 = wayAt (nums.getD (p : Int).toNat 0) b 3
  rw [Int.toNat_natCast]
theorem RowOk.num_eq {ys : List Itm} {nums : List Int} {b : Int} {i p : Nat} (e : (ys.getD i dI).2 = (wayAt (nums.getD p 0) b 3, (p : Int))) : numAt ys nums i = nums.getD p 0 := by
  unfold numAt
  rw [e]
  show nums.getD (p : Int).toNat 0 = _
  rw [Int.toNat_natCast]
/-- the ways of a stretch, last first -/
theorem stretch {ys : List Itm} {nums : List Int} {b : Int} (h : RowOk ys nums b) {j k : Nat} (hjk : j < k) (hk : k < ys.length) :
    ((List.range (k - j + 1)).map fun d => (ys.getD (k - d) dI).2.1) = ((List.range (k - j + 1)).map fun d => numAt ys nums (k - d)).map fun n => wayAt n b 3 := by
  rw [List.map_map]
  exact List.map_congr_left fun d hd => h.num (by omega)
/-- commonpath of a stretch gives the law's front -/
theorem stretch_law {ys : List Itm} {nums : List Int} {b : Int} (hb : b ≠ 0) (h1 : -9 ≤ b) (h2 : b ≤ 9) (h : RowOk ys nums b) {j k : Nat} (hjk : j < k) (hk : k < ys.length) {v : Value} (hv : CpPost ((List.range (k - j + 1)).map fun d => (ys.getD (k - d) dI).2.1) v) :
    ∃ t, v = .str (frontOf (wayAt (numAt ys nums j) b 3) (same (digs3 (numAt ys nums k) b) (digs3 (numAt ys nums j) b))) t := by
  rw [stretch h hjk hk] at hv
  have gd : ∀ d, d < k - j + 1 → ((List.range (k - j + 1)).map fun d => numAt ys nums (k - d)).getD d 0 = numAt ys nums (k - d) := fun d hd => by
    rw [List.getD_eq_getElem?_getD, List.getElem?_map, List.getElem?_range hd]; rfl
  have hl : ((List.range (k - j + 1)).map fun d => numAt ys nums (k - d)).length = k - j + 1 := by rw [List.length_map, List.length_range]
  obtain ⟨e, t, rfl, he, hp, hx⟩ := front_law hb h1 h2 ((List.range (k - j + 1)).map fun d => numAt ys nums (k - d)) (by rw [hl]; omega) (fun x y hxy hy => by
    rw [hl] at hy
    rw [gd y hy, gd x (by omega)]
    exact cd_le hb h1 h2 (h.num (i := k - y) (by omega)) (h.num (i := k - x) (by omega)) (pair_le h.so (by omega) (by omega))) hv
  rw [hl, gd 0 (by omega), gd (k - j + 1 - 1) (by omega), show k - (k - j + 1 - 1) = j by omega] at *
  exact ⟨t, by rw [front_same hb h1 h2 he hp hx]; rfl⟩
/-! the row is what sorted gives -/
/-- the pair that the law makes of place i -/
noncomputable def kp (nums : List Int) (b : Int) (i : Nat) : Str × Int := (wayAt (nums.getD i 0) b 3, (i : Int))
noncomputable def kc (nums : List Int) (b : Int) (i j : Nat) : Bool := ltK (kp nums b i) (kp nums b j)
theorem kc_item (nums : List Int) (b : Int) (i j : Nat) : kc nums b i j = ltI (0, kp nums b i) (0, kp nums b j) := rfl
theorem leI_of2 {a b : Itm} {x y : Addr} (h : leI a b) : leI (x, a.2) (y, b.2) := h
theorem kc_tot (nums : List Int) (b : Int) (n : Nat) : TotC (kc nums b) n where
  tr := fun i j k h1 h2 => by
    rw [kc_item] at *
    cases h : ltI (0, kp nums b i) (0, kp nums b k) with
    | true => rfl
    | false =>
      have e : leI (0, kp nums b k) (0, kp nums b i) := h
      have a1 := leI_of_lt h1
      have a2 := leI_of_lt h2
      have e2 := leI_anti (leI_trans e a1) a2
      have : leI (0, kp nums b j) (0, kp nums b i) := by
        have e3 : kp nums b k = kp nums b j := e2
        rw [← e3]; exact e
      unfold leI at this
      rw [h1] at this
      cases this
  tot := fun i j _ _ hij h => by
    rw [kc_item] at *
    cases h2 : ltI (0, kp nums b j) (0, kp nums b i) with
    | true => rfl
    | false =>
      exfalso
      have e := leI_anti (a := (0, kp nums b i)) (b := (0, kp nums b j)) h2 h
      have := congrArg (fun x : Str × Int => x.2) e
      exact hij (Int.ofNat.inj this)
  irr := fun i => leI_refl (0, kp nums b i)
theorem sorted_row {ys : List Itm} {nums : List Int} {b : Int} {p : Array Nat} (hso : ys.Pairwise leI) (hpm : (ys.map (·.2)).Perm ((List.range nums.length).map (kp nums b))) (hp : OfN nums.length p) (ha : AscA (kc nums b) p nums.length) : p.toList.map (kp nums b) = ys.map (·.2) := by
  have h1 : p.toList.Perm (List.range nums.length) := by simpa using Array.Perm.toList hp
  refine List.Perm.eq_of_pairwise (le := fun a b => leI (0, a) (0, b)) (fun a b _ _ x y => leI_anti x y) ?_ ?_ ((h1.map _).trans hpm.symm)
  · rw [List.pairwise_map, List.pairwise_iff_getElem]
    intro i j hi hj hij
    have hs := hp.size
    have hi' : i < p.size := by simpa using hi
    have hj' : j < p.size := by simpa using hj
    have := ha i j hij (by omega)
    have g : ∀ k (hk : k < p.size), gA p k = p.toList[k]'(by simpa using hk) := fun k hk => by unfold gA; simp [Array.getD, hk]
    rw [g i hi', g j hj'] at this
    exact leI_of_lt this
  · rw [List.pairwise_map]
    exact hso.imp fun h => leI_of2 h
/-- the sort's answer, as data -/
theorem sorted_dat {ys zs : List Itm} {nums : List Int} {b : Int} {p : Array Nat} (hz : zs.map (·.2) = p.toList.map (kp nums b)) (h : p.toList.map (kp nums b) = ys.map (·.2)) : ys.map datI = zs.map datI := by
  have e : ∀ l : List Itm, l.map datI = (l.map (·.2)).map fun k => PySem.W.Dat.tuple [.str k.1, .int k.2] := fun l => by rw [List.map_map]; rfl
  rw [e, e, hz, h]
/-! sorted of a list of pairs (text, int), whatever its length -/
section
open PyProof.Rows
variable {prog : Program} {w : World} {A : Around} {E : Value → Shared → Prop} {s : Shared} {h₀ : Heap} {L : Addr} {m : Str → Option Value} {news : Led}
theorem sort_cmp {x y : Itm} {t1 t2 u1 u2 : Tok} {C : Bool → Shared → Prop} (N : News h₀ L s.heap news) (hx : (x.1, pairO x.2.1 t1 x.2.2 u1) ∈ news) (hy : (y.1, pairO y.2.1 t2 y.2.2 u2) ∈ news) (h : C (ltK x.2 y.2) s) :
    wpAny (model prog w) A (keyLt' (tuples' true) (.ref x.1) (.ref y.1)) C E s := by
  refine PySem.W.kat_lt (N _ hx).1 rfl (N _ hy).1 rfl ?_
  show PySem.W.KatLex prog w A true false C [(.str x.2.1 t1, .str y.2.1 t2), (.int x.2.2 u1, .int y.2.2 u2)] 0 s
  refine PySem.W.kat_cons (wpAny_eqBool_str ?_)
  unfold ltK at h
  by_cases e : x.2.1 = y.2.1
  · rw [decide_eq_true e]
    rw [if_pos e] at h
    refine PySem.W.kat_yes (PySem.W.kat_cons (wpAny_eqBool_int ?_))
    by_cases e2 : x.2.2 = y.2.2
    · rw [e2, beq_self_eq_true]
      refine PySem.W.kat_yes (PySem.W.kat_nil ?_)
      rw [e2, decide_eq_false (by omega)] at h
      exact h
    · rw [beq_eq_false_iff_ne.mpr e2]
      exact PySem.W.kat_no (PySem.W.kat_one _ _ (PyProof.Rows.lt_int h))
  · rw [decide_eq_false e]
    rw [if_neg e] at h
    exact PySem.W.kat_no (PyProof.Rows.oneLt_str h)
theorem sort_tups : ∀ {zs : List Itm}, ItemsIn zs news → News h₀ L s.heap news → ∃ fs, PySem.W.KatTups s.heap (zs.map rf) fs ∧ fs.length = zs.length ∧ ∀ v ∈ fs, ∃ x t, v = Value.str x t
  | [], _, _ => ⟨[], trivial, rfl, fun _ h => nomatch h⟩
  | z :: zs, hz, N => by
    obtain ⟨fs, h1, h2, h3⟩ := sort_tups (zs := zs) (fun x hx => hz x (.tail _ hx)) N
    obtain ⟨t, u, hm⟩ := hz z (.head _)
    refine ⟨.str z.2.1 t :: fs, PySem.W.KatTups.cons (N _ hm).1 rfl rfl rfl h1, by rw [List.length_cons, List.length_cons, h2], fun v hv => ?_⟩
    rcases List.mem_cons.mp hv with rfl | hv
    · exact ⟨_, _, rfl⟩
    · exact h3 v hv
theorem rf_getD (zs : List Itm) {i : Nat} (hi : i < zs.length) : (zs.map rf).getD i Value.none = .ref (zs.getD i dI).1 := by
  rw [List.getD_eq_getElem?_getD, List.getElem?_map, List.getD_eq_getElem?_getD, List.getElem?_eq_getElem hi]; rfl
theorem items_at {zs : List Itm} (hz : ItemsIn zs news) {i : Nat} (hi : i < zs.length) : ∃ t u, ((zs.getD i dI).1, pairO (zs.getD i dI).2.1 t (zs.getD i dI).2.2 u) ∈ news := hz _ (by
  rw [List.getD_eq_getElem?_getD, List.getElem?_eq_getElem hi]; exact List.getElem_mem hi)
theorem sorted_tup {l : Addr} {zs : List Itm} {nn : Nat} {c : Nat → Nat → Bool} {Q : Value → Shared → Prop} (F : Fr h₀ L s.heap m) (N : News h₀ L s.heap news) (hl : (l, listOf (zs.map rf).toArray nn) ∈ news) (hz : ItemsIn zs news) (h2 : 2 ≤ zs.length) (h64 : zs.length < 64)
    (hc : ∀ i j, i < zs.length → j < zs.length → c i j = ltK (zs.getD i dI).2 (zs.getD j dI).2) (T : TotC c zs.length)
    (hQ : ∀ D e h', Fr h₀ L h' m → News h₀ L h' ((D, listOf (((krun c (kas_sort zs.length)).toList.map fun i => zs.getD i dI).map rf).toArray e) :: news) → (∀ q ∈ news, q.1 < D) → Q (.ref D) { s with heap := h' }) :
    wpAny (model prog w) A (call (.builtin "sorted") [.ref l]) Q E s := by
  have hzl : (zs.map rf).length = zs.length := List.length_map _
  refine PySem.W.kat_sorted F N ⟨_, (N _ hl).1, rfl, _, rfl⟩ (by rw [hzl]; exact h2) (by rw [hzl]; exact h64) ?_
  intro D e1 h' F' N' hD
  have N2 : News h₀ L h' news := fun p hp => N' p (.tail _ hp)
  obtain ⟨fs, f1, f2, f3⟩ := sort_tups (s := { s with heap := h' }) hz N2
  refine PySem.W.kat_kind (T := .type "str") f1 (by omega) (fun v hv => by obtain ⟨x, t, rfl⟩ := f3 v hv; exact PySem.W.Looks.now) rfl ?_
  show (kas_sort (zs.map rf).length).kasWp _ _ _
  rw [hzl]
  obtain ⟨o1, o2⟩ := sort_ok T (by omega)
  refine wp_krun (c := c) (n := zs.length) (I := fun s' => s' = { s with heap := h' }) ?_ _ _ (sort_in T (by omega)) rfl ?_
  · rintro i j C s' hi hj rfl hC
    obtain ⟨t1, u1, m1⟩ := items_at hz hi
    obtain ⟨t2, u2, m2⟩ := items_at hz hj
    show wpAny _ _ (keyLt' (tuples' true) ((zs.map rf).getD i Value.none) ((zs.map rf).getD j Value.none)) _ _ _
    rw [rf_getD zs hi, rf_getD zs hj]
    refine sort_cmp (s := { s with heap := h' }) N2 m1 m2 ?_
    rw [← hc i j hi hj]
    exact hC _ rfl
  · rintro s' rfl
    refine KasFin.intro F' N' (UpdF.head fun q hq => Nat.ne_of_lt (hD q hq)) fun h2 cc F2 N2' => ?_
    have e : ((krun c (kas_sort zs.length)).toList.map fun i => (zs.map rf).getD i Value.none) = ((krun c (kas_sort zs.length)).toList.map fun i => zs.getD i dI).map rf := by
      rw [List.map_map]
      refine List.map_congr_left fun i hi => ?_
      have hil : i < zs.length := by
        have hp : (krun c (kas_sort zs.length)).toList.Perm (List.range zs.length) := by simpa using Array.Perm.toList o1
        exact List.mem_range.mp (hp.mem_iff.mp hi)
      exact rf_getD zs hil
    rw [e] at N2'
    exact hQ D cc h2 F2 N2' hD
end
/-! a for over a list of the ledger, whatever its target -/
section
open PySem.W
variable {prog : Program} {w : World} {A : Around} {h₀ : Heap} {env : Env} {target : PySem.Expr} {body : List Stmt} {Q : Flow → Shared → Prop} {E : Value → Shared → Prop} {s : Shared} {m : Str → Option Value} {news : Led}
theorem it_listT {l : Addr} {vs : List Value} {nn : Nat} (J : Nat → (Str → Option Value) → Led → Prop) (hh : A.handled = none) (F : Fr h₀ env.locals s.heap m) (N : News h₀ env.locals s.heap news) (hl : (l, listOf vs.toArray nn) ∈ news) (hJ : J 0 m news)
    (turn : ∀ i v m₁ news₁ h tk own I, vs[i]? = some v → J i m₁ news₁ → (∀ p ∈ news₁, p.1 ≠ I) → (∀ p ∈ own, p.1 = I ∨ p.1 = l) → (∃ o, (I, o) ∈ own) → Fr h₀ env.locals h m₁ → News h₀ env.locals h (own ++ news₁) →
      wpAny (model prog w) A (assign target env v) (fun _ s₂ => wpAny (model prog w) A (execs body env) (Turn h₀ env.locals I own (J (i + 1)) s Q) E s₂) E { s with heap := h, toks := tk })
    (done : ∀ h' tk m' news', Fr h₀ env.locals h' m' → News h₀ env.locals h' news' → J vs.length m' news' → Q .next { s with heap := h', toks := tk }) :
    wpAny (model prog w) A (pyIter (.ref l)) (fun it s₂ => TurnsAt prog w A h₀ env target body Q E it s₂) E s := by
  have hls : s.heap.IsList l vs.toArray := ⟨_, (N _ hl).1, rfl, _, rfl⟩
  have hne : l ≠ s.heap.objs.size := push_off N _ hl
  refine wpAny_pyIter_list hls ?_
  have W := KTurns.ofWalks (target := target) (Walks.list (prog := prog) (w := w) hh s.heap.objs.size l hne vs.toArray) fun i v s Q E st q => letGo_listiter st.1 q
  refine ⟨s.heap.objs.size, [s.heap.objs.size, l], [s.heap.objs.size], vs.length, (fun i v _ => vs[i]? = some v), _, (fun i h => h.IsListIter s.heap.objs.size l i ∧ h.IsList l vs.toArray), m, news, J, rfl, by simpa using W, ?_, fun b hb => ?_, fun p hp => ?_, ⟨⟨_, Heap.get?_push_size _ rfl, rfl, rfl⟩, hls.at fun o e => Heap.get?_push_of_some _ e⟩, F.push _, push_all N _, hJ, ?_, fun h' tk m' news' F' N' _ hj => done h' tk m' news' F' N' hj⟩
  · intro hm
    rcases List.mem_cons.mp hm with e | hm
    · exact absurd F.ns.lt (e ▸ Nat.lt_irrefl _)
    · exact (N _ hl).2.1 (List.mem_singleton.mp hm).symm
  · rw [List.mem_singleton.mp hb]; exact next_is_new F
  · rw [List.mem_singleton]; exact push_off N p hp
  · intro i v m₁ news₁ h₁ tk₁ own hi hP hj hoff hsub hget hall hst F₁ N₁
    have hI : ∃ o, (s.heap.objs.size, o) ∈ own := by
      obtain ⟨o, e, _⟩ := hst.1
      exact ⟨o, hall _ (.head _) (next_is_new F) o e⟩
    refine wpAny_mono (turn i v m₁ news₁ h₁ tk₁ own _ (by simpa using hP) hj (fun p hp q => hoff p hp (List.mem_singleton.mpr q)) (fun p hp => (List.mem_cons.mp (hsub p hp)).imp id fun q => List.mem_singleton.mp q) hI F₁ N₁) (fun _ s₂ q => wpAny_mono q (fun f s₃ p => ?_) fun _ _ e => e) fun _ _ e => e
    have fin : (∃ h' tk' m₂ news₂, s₃ = { s with heap := h', toks := tk' } ∧ Fr h₀ env.locals h' m₂ ∧ News h₀ env.locals h' (own ++ news₂) ∧ (∀ p ∈ news₂, p.1 ≠ s.heap.objs.size) ∧ J (i + 1) m₂ news₂) → LoopStepU h₀ env.locals [s.heap.objs.size] own (J (i + 1)) { s with heap := h₁, toks := tk₁ } .next s₃ := by
      rintro ⟨h', tk, m', news', e, F', N', hn, hm⟩
      exact ⟨rfl, h', tk, m', news', e, F', N', fun p hp q => hn p hp (List.mem_singleton.mp q), hm⟩
    cases f with
    | ret v => exact .ret p
    | brk => exact .brk p
    | next => exact .next (fin p)
    | cont => exact .cont (fin p)
end
section
variable {prog : Program} {w : World} {A : Around} {E : Value → Shared → Prop} {s : Shared} {env : Env}
/-- the test `gap % base ** e == 0` -/
theorem test_pick {gN bN eN : Str} {p1 p2 p3 p4 p5 p6 p7 : Pos} {kk : Nat} {gp b : Int} {e : Nat} {tg tb te : Tok} {Q : Bool → Shared → Prop}
    (hg : ∀ (s' : Shared) (Q : Value → Shared → Prop) (p : Pos) (E' : Value → Shared → Prop), s'.heap = s.heap → Q (.int gp tg) s' → wpAny (model prog w) A (eval (.Name gN p) env) Q E' s')
    (hbn : ∀ (s' : Shared) (Q : Value → Shared → Prop) (p : Pos) (E' : Value → Shared → Prop), s'.heap = s.heap → Q (.int b tb) s' → wpAny (model prog w) A (eval (.Name bN p) env) Q E' s')
    (he : ∀ (s' : Shared) (Q : Value → Shared → Prop) (p : Pos) (E' : Value → Shared → Prop), s'.heap = s.heap → Q (.int (e : Int) te) s' → wpAny (model prog w) A (eval (.Name eN p) env) Q E' s')
    (hb0 : b ≠ 0) (hb1 : -9 ≤ b) (hb2 : b ≤ 9) (he4 : e < 4) (h : ∀ tk, Q (Int.fmod gp (b ^ e) == 0) { s with toks := tk }) :
    wpAny (model prog w) A (isTrue (.Compare (.BinOp (.Name gN p1) .Mod (.BinOp (.Name bN p2) .Pow (.Name eN p3) p4) p5) [.Eq] [.Constant (.int 0) kk p6] p7) env (eval (.Compare (.BinOp (.Name gN p1) .Mod (.BinOp (.Name bN p2) .Pow (.Name eN p3) p4) p5) [.Eq] [.Constant (.int 0) kk p6] p7) env)) Q E s := by
  have hpow : b ^ (e : Int).toNat ≠ 0 := Int.pow_ne_zero hb0
  have hf : ∀ tk, Q (Int.fmod gp (b ^ (e : Int).toNat) == 0) { s with toks := tk } := fun tk => by rw [Int.toNat_natCast]; exact h tk
  k_with_none
  k_with "eval Name" => first
    | refine hg _ _ _ _ rfl ?_
    | refine hbn _ _ _ _ rfl ?_
    | refine he _ _ _ _ rfl ?_
  k_with "binaryOp Pow int int" => refine pow_int_small (by omega) (by omega) (by omega) ?_
  k_with "binaryOp Mod int int" => refine mod_int' hpow ?_
  k_steps
  exact hf _
theorem pick_snoc {zs : List Value} {f : Nat → Bool} {i : Nat} {t : Tok} (h : IntsAre zs (((List.range i).filter f).map fun e : Nat => (e : Int))) (hf : f i = true) : IntsAre (zs ++ [.int (i : Int) t]) (((List.range (i + 1)).filter f).map fun e : Nat => (e : Int)) := by
  rw [List.range_succ, List.filter_append, List.map_append]
  have e : List.filter f [i] = [i] := by rw [List.filter_cons, if_pos hf, List.filter_nil]
  rw [e]
  exact ints_snoc h _ _
theorem pick_skip {zs : List Value} {f : Nat → Bool} {i : Nat} (h : IntsAre zs (((List.range i).filter f).map fun e : Nat => (e : Int))) (hf : f i = false) : IntsAre zs (((List.range (i + 1)).filter f).map fun e : Nat => (e : Int)) := by
  rw [List.range_succ, List.filter_append, List.map_append]
  have e : List.filter f [i] = [] := by rw [List.filter_cons, if_neg (by rw [hf]; decide), List.filter_nil]
  rw [e]
  show IntsAre zs (_ ++ [])
  rw [List.append_nil]
  exact h
theorem best_last (n : Nat) : argBest (fun j i => decide (i < j)) n = n := by
  induction n with
  | zero => rfl
  | succ n ih =>
    show (if decide (argBest (fun j i => decide (i < j)) n < n + 1) then n + 1 else _) = n + 1
    rw [ih, decide_eq_true (Nat.lt_succ_self n), if_pos rfl]
/-- the greatest of 0, .., c -/
theorem max_upto {h₀ : Heap} {L : Addr} {m : Str → Option Value} {news : Led} {l : Addr} {zs : List Value} {nn c : Nat} {Q : Value → Shared → Prop} (hz : IntsAre zs ((List.range (c + 1)).map fun e : Nat => (e : Int))) (hh : A.handled = none) (F : Fr h₀ L s.heap m) (N : News h₀ L s.heap news) (hl : (l, listOf zs.toArray nn) ∈ news)
    (hQ : ∀ t h' tk', Fr h₀ L h' m → News h₀ L h' news → Q (.int (c : Int) t) { s with heap := h', toks := tk' }) :
    wpAny (model prog w) A (call (.builtin "max") [.ref l]) Q E s := by
  have hzl : zs.length = c + 1 := by rw [hz.length, List.length_map, List.length_range]
  have at_ : ∀ (i : Nat) (v : Value), zs[i]? = some v → ∃ t, v = .int (i : Int) t := fun i v hv => by
    obtain ⟨hi, _⟩ := List.getElem?_eq_some_iff.mp hv
    obtain ⟨t, ht⟩ := ints_gd hz (i := i) (by rw [List.length_map, List.length_range]; omega)
    rw [hv] at ht
    refine ⟨t, ?_⟩
    rw [Option.some.inj ht, List.getD_eq_getElem?_getD, List.getElem?_map, List.getElem?_range (by omega)]
    rfl
  refine max_call (fun j i => decide (i < j)) hh F N hl (by omega) (fun j i vj vi hj hi s' Q' E' N' hQ' => ?_) fun v h' tk' hv F' N' => ?_
  · obtain ⟨t1, rfl⟩ := at_ j vj hj
    obtain ⟨t2, rfl⟩ := at_ i vi hi
    refine (show wpAny _ _ (compareOp .Gt _ _) _ _ _ from PySem.P.gt_int ?_)
    have e : decide ((j : Int) > (i : Int)) = decide (i < j) := by rw [decide_eq_decide]; omega
    rw [e]
    exact hQ'
  · rw [best_last, hzl] at hv
    obtain ⟨t, rfl⟩ := at_ _ v hv
    exact hQ t h' tk' F' N'
end
section
open PyProof.Rows.LCg
variable {prog : Program} {w : World} {A : Around} {E : Value → Shared → Prop} {s : Shared} {h₀ : Heap} {L : Addr} {m : Str → Option Value} {env : Env}
theorem walks_dn {I : Addr} (hh : A.handled = none) (a : Int) (n : Nat) : Walks prog w A I [I] [I] n (fun i v => ∃ t, v = .int (a - (i : Int)) t) (fun i h => IsRangeIter h I (a + (i : Nat) * (-1)) ((n : Int) - (i : Nat)) (-1)) :=
  let W := Walks.range (prog := prog) (w := w) hh I a (-1) n
  { sub := W.sub, frame := W.frame, done := W.done, self := W.self,
    item := fun i s Q E hi st hQ => W.item i s Q E hi st fun v h' tk hP => hQ v h' tk (by
      obtain ⟨t, rfl⟩ := hP
      exact ⟨t, by congr 1; omega⟩) }
theorem st_dn {I : Addr} {a : Int} {n : Nat} : ∀ i (h h' : Heap) (o : Obj) (nw : List (Addr × Obj)), IsRangeIter h I (a + (i : Nat) * (-1)) ((n : Int) - (i : Nat)) (-1) → h.get? I = some o → h'.get? I = some o → (∀ b o, h₀.get? b = some o → h'.get? b = some o) → News h₀ L h' nw → True → IsRangeIter h' I (a + (i : Nat) * (-1)) ((n : Int) - (i : Nat)) (-1) :=
  fun i h h' o nw st e e' _ _ _ => by
    have st' : h.get? I = some _ := st
    show h'.get? I = some _
    rw [e', ← e]; exact st'
/-- a falling range and what the turns do -/
noncomputable def SrcDn (prog : Program) (w : World) (A : Around) (h₀ : Heap) (L : Addr) (m : Str → Option Value) (env : Env) (elt : Expr) (x : Str) (scope : Scope) (cl : List (Str × Addr)) (Q : Value → Shared → Prop) (xv : Value) (s₁ : Shared) : Prop :=
  ∃ r a b t u v n news, xv = .ref r ∧ A.handled = none ∧ Fr h₀ L s₁.heap m ∧ News h₀ L s₁.heap news ∧ IsRange s₁.heap r a b (-1) t u v ∧ Builtin.Range.small a b (-1) = true ∧ Builtin.Range.rangeSize a b (-1) = ((n : Nat) : Int) ∧ n ≤ sizeLine ∧
      ∀ s₂ : Shared, (∃ h, s₂ = { s₁ with heap := h }) → CompRest prog w A h₀ L m env elt x scope cl s₂ (fun _ => True) (fun i v => ∃ t, v = .int (a - (i : Int)) t) (FinE h₀ L m s₂ Q) n 0 [] news
/-- a list comprehension over a falling range -/
theorem ListComp_dn {elt iter : Expr} {x : Str} {px : Pos} {scope : Scope} {cl : List (Str × Addr)} {pos : Pos} {Q : Value → Shared → Prop} (F₀ : Fr h₀ L s.heap m)
    (hclos : closureFor scope env = pure cl) (hcell : ∀ y ∈ scope.names, y.2 ≠ .cell) (hkind : scope.kind = .function)
    (hnames : ∀ y ∈ scope.names, y.2 = .local → scope.names.lookup y.1 = some .local) (hx : scope.names.lookup x = some .local)
    (h : wpAny (model prog w) A (eval iter env) (SrcDn prog w A h₀ L m env elt x scope cl Q) E s)
    (hs : ∀ x, foldedSetIterable iter env x = pure x := by intro _; rfl) :
    wpAny (model prog w) A (eval (.ListComp elt [⟨.Name x px, iter, [], 0⟩] scope pos) env) Q E s := by
  rw [eval_ListComp]
  refine wpAny_comprehension_free (use := none) rfl hs hclos hkind hnames (wpAny_mono h (fun xv s₁ h₁ => ?_) fun _ _ e => e)
  obtain ⟨r, a, b, t, u, v, n, news, rfl, hh, F, N, hr, hsm, hn, hsz, R⟩ := h₁
  refine wpAny_pyIter_range hr hsm ?_
  refine block_U (walks_dn hh a n) hsz (fun i h st => ⟨_, st⟩) st_dn hcell hkind hx (by show IsRangeIter _ _ _ _ _; rw [hn]; simpa using Heap.get?_push_size _ rfl) (fun b hb => ?_)
    (F.keeps fun _ _ e => Heap.get?_push_of_some _ e) (N.grown fun _ _ e => Heap.get?_push_of_some _ e) (Nat.ne_of_lt F.ns.lt) (next_is_new F) (fun p hp => Nat.ne_of_lt (Heap.lt_size (N p hp).1)) trivial (R _ ⟨_, rfl⟩) ?_
  · rw [List.mem_singleton.mp hb]
    show s₁.heap.objs.size < (s₁.heap.push _).objs.size
    rw [Heap.size_push]; exact Nat.lt_succ_self _
  · intro D C h tk m' ys news' F' N' o1 hn hC₀ hD₀ hCL hDL hCD offC fin
    refine ⟨m', hn, fun h'' hs'' => fin D h'' tk (F'.change hs'' hCL hC₀) (fun p hp => ?_) o1⟩
    refine ⟨hs''.extBut _ _ ?_ (N' p hp).1, (N' p hp).2⟩
    rcases List.mem_cons.mp hp with rfl | hp
    · exact Ne.symm hCD
    · exact offC p hp
theorem small_dn {k j : Nat} (hk : k < 1000) (hj : j < 1000) : Builtin.Range.small (k : Int) ((j : Int) - 1) (-1) = true := by
  unfold Builtin.Range.small
  simp only [Builtin.Range.rangeFitsLong, Builtin.Range.rangeSize, Bool.and_eq_true, Bool.or_eq_true, decide_eq_true_eq, beq_iff_eq, show ¬ ((-1 : Int) > 0) by decide, if_false, Int.neg_neg, Int.ediv_one]
  split <;> omega
theorem size_dn {k j : Nat} (h : j ≤ k) : Builtin.Range.rangeSize (k : Int) ((j : Int) - 1) (-1) = ((k - j + 1 : Nat) : Int) := by
  unfold Builtin.Range.rangeSize
  simp only [show ¬ ((-1 : Int) > 0) by decide, if_false]
  split <;> simp <;> omega
end
/-- ahead of a turn of the law's second loop -/
structure L2 (hp rp lp : Addr) (cs : Led) (own : Led) (all : List Itm) (n : Nat) (m : Str → Option Value) (news : Led) : Prop where
  mh : m (Str.ofString "heap") = some (.ref hp)
  ml : m (Str.ofString "lasts") = some (.ref lp)
  ex : ∃ xs ys nh nr, n = xs.length ∧ news = (hp, listOf (xs.map rf).toArray nh) :: (rp, listOf (ys.map rf).toArray nr) :: (cs ++ own) ∧ Hp xs ∧ (ys ++ xs).Perm all ∧ ys.Pairwise leI ∧ ∀ y ∈ ys, ∀ x ∈ xs, leI y x
set_option maxHeartbeats 8000000 in
theorem law_two {W : Wd} (qual : Str) (fa : Addr) (cdv : Value) (dp un : Nat) (gd : Option (List Code)) (A₀ : Around) (base g : Heap) (hG : Gd W dp un A₀ base g) (s : Shared) (Q : Flow → Shared → Prop) (L hp lp la : Addr) (m : Str → Option Value) (xs : List Itm) (nh nl nn : Nat) (lv nv : List Value) (c1 c2 c3 c4 : Obj) (T own : Led)
    (F : Fr g L s.heap m) (mh : m (Str.ofString "heap") = some (.ref hp)) (ml : m (Str.ofString "lasts") = some (.ref lp)) (d3 : c3.data = .cell none)
    (N : News g L s.heap ((hp, listOf (xs.map rf).toArray nh) :: (lp, listOf lv.toArray nl) :: (la, listOf nv.toArray nn) :: (L + 4, c4) :: (L + 3, c3) :: (L + 2, c2) :: (L + 1, c1) :: (T ++ own)))
    (hH : Hp xs) (hxs : ItemsIn xs own) (hok : ∀ x ∈ xs, PyData.strOk x.2.1 = true) (hx8 : xs.length ≤ 8) (hlo : ∀ p ∈ own, @LT.lt Nat _ hp p.1) (hL : @LT.lt Nat _ (L + 4) hp) (hhl : @LT.lt Nat _ hp lp) (hla : @LT.lt Nat _ la hp) (hl3 : @Ne Nat la (L + 3)) (hT : ∀ p ∈ T, p.1 ≠ hp ∧ p.1 ≠ lp ∧ p.1 ≠ L + 3) : ∀ (body : List Stmt) (scope : Scope), lawPair = some (body, scope) →
    (∀ (h' : Heap) (tk' : Nat) (m' : Str → Option Value) (rp : Addr) (ys : List Itm) (nr : Nat) (c3' : Obj), Fr g L h' m' → m' (Str.ofString "lasts") = some (.ref lp) → c3'.data = .cell (some (.ref rp)) → ys.Pairwise leI → ys.Perm xs → @LT.lt Nat _ hp rp → @LT.lt Nat _ lp rp →
      News g L h' ((L + 4, c4) :: (L + 3, c3') :: (L + 2, c2) :: (L + 1, c1) :: (rp, listOf (ys.map rf).toArray nr) :: (lp, listOf lv.toArray nl) :: (la, listOf nv.toArray nn) :: (T ++ own)) →
      wpAny (model PG W.w) (ktrTop dp un gd qual scope L fa cdv (cellsFrom (L + 1) scope.names []) []) (execs (body.drop 6) (envX qual scope L fa cdv (cellsFrom (L + 1) scope.names []))) Q (fun _ _ => False) { s with heap := h', toks := tk' }) →
    wpAny (model PG W.w) (ktrTop dp un gd qual scope L fa cdv (cellsFrom (L + 1) scope.names []) []) (execs (body.drop 4) (envX qual scope L fa cdv (cellsFrom (L + 1) scope.names []))) Q (fun _ _ => False) s := by
  obtain ⟨B, XB, TB, X, Tp, hd, hu⟩ := hG
  refine with_law (by unfold lawPair; rfl) ?_
  intro hcont
  rw [see mh, see ml] at F
  have N0 : News g L s.heap ((hp, listOf (xs.map rf).toArray nh) :: (L + 3, c3) :: (lp, listOf lv.toArray nl) :: (la, listOf nv.toArray nn) :: (L + 4, c4) :: (L + 2, c2) :: (L + 1, c1) :: (T ++ own)) := perm_news N (fun p hp => by
    simp only [List.mem_cons] at hp ⊢; grind)
  clear N
  have o3 : ∀ p ∈ (lp, listOf lv.toArray nl) :: (la, listOf nv.toArray nn) :: (L + 4, c4) :: (L + 2, c2) :: (L + 1, c1) :: (T ++ own), p.1 ≠ L + 3 := by
    intro p hp
    simp only [List.mem_cons, List.mem_append] at hp
    rcases hp with rfl | rfl | rfl | rfl | rfl | hp | hp
    · refine neN ?_; dsimp only; omega
    · exact neN hl3
    · refine neN ?_; dsimp only; omega
    · refine neN ?_; dsimp only; omega
    · refine neN ?_; dsimp only; omega
    · exact (hT p hp).2.2
    · have := hlo p hp; refine neN ?_; omega
  k_with_none
  k_with "exec While Compare cons nil" => refine Halt.go ?_
  k_with "exec While" => refine Halt.go ?_
  k_with "newList" => (rename Fr _ _ _ _ => F7; rename News _ _ _ _ => N7; refine newList_K F7 N7 ?_; intro rp hR FR NR lR)
  k_steps
  have NS : News g L hR ((L + 3, c3) :: (rp, listOf (([] : List Itm).map rf).toArray 0) :: (hp, listOf (xs.map rf).toArray nh) :: (lp, listOf lv.toArray nl) :: (la, listOf nv.toArray nn) :: (L + 4, c4) :: (L + 2, c2) :: (L + 1, c1) :: (T ++ own)) := perm_news NR (fun p hp => by
    simp only [List.mem_cons, List.map_nil] at hp ⊢; grind)
  have r1 : @LT.lt Nat _ hp rp := lR _ (.head _)
  have r2 : @LT.lt Nat _ lp rp := lR _ (.tail _ (.tail _ (.head _)))
  have rall : ∀ p ∈ (T ++ own), @LT.lt Nat _ p.1 rp := fun p hp => lR p (.tail _ (.tail _ (.tail _ (.tail _ (.tail _ (.tail _ (.tail _ hp)))))))
  have o3' : ∀ p ∈ (rp, listOf (([] : List Itm).map rf).toArray 0) :: (hp, listOf (xs.map rf).toArray nh) :: (lp, listOf lv.toArray nl) :: (la, listOf nv.toArray nn) :: (L + 4, c4) :: (L + 2, c2) :: (L + 1, c1) :: (T ++ own), p.1 ≠ L + 3 := by
    intro p hp
    rcases List.mem_cons.mp hp with rfl | hp
    · refine neN ?_; dsimp only; omega
    rcases List.mem_cons.mp hp with rfl | hp
    · refine neN ?_; dsimp only; omega
    · exact o3 p hp
  refine storeX_C FR NS rfl (UpdF.head o3') d3 ?_ rfl rfl
  intro h1 c3' F1 N1 d3'
  replace N1 : News g L h1 ((L + 3, c3') :: (rp, listOf (([] : List Itm).map rf).toArray 0) :: (hp, listOf (xs.map rf).toArray nh) :: (lp, listOf lv.toArray nl) :: (la, listOf nv.toArray nn) :: (L + 4, c4) :: (L + 2, c2) :: (L + 1, c1) :: (T ++ own)) := N1
  clear NS NR N7 o3' o3 FR lR
  k_with_none
  k_with "exec While Compare cons nil" => refine Halt.go ?_
  k_with "exec While" => refine Halt.go ?_
  k_steps
  unfold Halt
  refine While_inv2 (L2 hp rp lp ((lp, listOf lv.toArray nl) :: (la, listOf nv.toArray nn) :: (L + 4, c4) :: (L + 3, c3') :: (L + 2, c2) :: (L + 1, c1) :: T) own xs) (n₀ := xs.length) F1 (news := (hp, listOf (xs.map rf).toArray nh) :: (rp, listOf (([] : List Itm).map rf).toArray 0) :: (((lp, listOf lv.toArray nl) :: (la, listOf nv.toArray nn) :: (L + 4, c4) :: (L + 3, c3') :: (L + 2, c2) :: (L + 1, c1) :: T) ++ own)) (perm_news N1 (fun p hp => by simp only [List.mem_cons, List.mem_append] at hp ⊢; grind)) ⟨rfl, rfl, xs, [], nh, 0, rfl, rfl, hH, .refl _, .nil, fun y hy => nomatch hy⟩ ?_
  clear N1 F1
  rintro n m₁ n₁ h tk F₁ N₁ ⟨mh1, ml1, zs, ys, nh1, nr1, rfl, rfl, hHz, hPm, hSo, hLe⟩
  rw [see mh1, see ml1] at F₁
  rw [List.cons_append, List.cons_append, List.cons_append, List.cons_append, List.cons_append, List.cons_append] at N₁
  k_with_none
  k_with "compareOp NotEq ref ref" => refine Halt.go ?_
  k_steps
  unfold Halt
  rename_i ep h2 F2 N2 le
  have hzi : ItemsIn zs own := fun x hx => hxs x (hPm.mem_iff.mp (List.mem_append_right _ hx))
  have hzl : zs.length ≤ 8 := by have := hPm.length_eq; rw [List.length_append] at this; omega
  refine kqd_ne N2 (.tail _ (.head _)) rfl rfl (dat_items hzi) (fun p hp => .tail _ (.tail _ (.tail _ (.tail _ (.tail _ (.tail _ (.tail _ (.tail _ (.tail _ (List.mem_append_right _ hp)))))))))) (.head _) rfl (ys := []) (kb := 0) rfl .nil (fun p hp => hp) (fun d hd => by obtain ⟨x, hx, rfl⟩ := List.mem_map.mp hd; exact datI_ok (hok x (hPm.mem_iff.mp (List.mem_append_right _ hx)))) (fun d hd => nomatch hd) (by dsimp only [ktrTop]; omega) ?_
  rw [not_empty]
  rcases nil_or_snoc zs with rfl | ⟨zs', y, rfl⟩
  · rw [show (!([] : List Itm).isEmpty) = false from rfl]
    k_with_none
    k_with "execs cons" => refine Halt.go ?_
    k_steps
    unfold Halt
    exact hcont h2 _ _ rp ys nr1 c3' (by k_asm) rfl d3' hSo (by simpa using hPm) r1 r2 (perm_news N2 (fun p hp => by simp only [List.mem_cons, List.mem_append] at hp ⊢; grind))
  · rw [show (!(zs' ++ [y]).isEmpty) = true by cases zs' <;> rfl]
    k_with_none
    k_with "mine call" => refine Halt.go ?_
    k_steps
    unfold Halt
    have hmem : ∀ p ∈ own, p ∈ (ep, listOf ([] : List Value).toArray 0) :: (rp, listOf (ys.map rf).toArray nr1) :: (lp, listOf lv.toArray nl) :: (la, listOf nv.toArray nn) :: (L + 4, c4) :: (L + 3, c3') :: (L + 2, c2) :: (L + 1, c1) :: (T ++ own) := fun p hp => .tail _ (.tail _ (.tail _ (.tail _ (.tail _ (.tail _ (.tail _ (.tail _ (List.mem_append_right _ hp))))))))
    have oH : Off hp ((ep, listOf ([] : List Value).toArray 0) :: (rp, listOf (ys.map rf).toArray nr1) :: (lp, listOf lv.toArray nl) :: (la, listOf nv.toArray nn) :: (L + 4, c4) :: (L + 3, c3') :: (L + 2, c2) :: (L + 1, c1) :: (T ++ own)) := by
      intro p hp
      simp only [List.mem_cons, List.mem_append] at hp
      rcases hp with rfl | rfl | rfl | rfl | rfl | rfl | rfl | rfl | hp | hp
      · refine neN ?_; dsimp only; omega
      · refine neN ?_; dsimp only; omega
      · refine neN ?_; dsimp only; omega
      · refine neN ?_; dsimp only; omega
      · refine neN ?_; dsimp only; omega
      · refine neN ?_; dsimp only; omega
      · refine neN ?_; dsimp only; omega
      · refine neN ?_; dsimp only; omega
      · exact (hT p hp).1
      · have := hlo p hp; refine neN ?_; omega
    refine does_use (heappop (W := W) _ hp zs' y nh1 (by rw [List.length_append] at hzl; omega) (fun x hx => by obtain ⟨t1, t2, hm⟩ := hzi x hx; exact ⟨t1, t2, hmem _ hm⟩) oH) B F2 X (perm_swap N2) Tp rfl (by omega) (by omega) ?_
    rintro r9 n9 h9 tk9 F9 N9 ⟨rfl, nh2, rfl⟩
    obtain ⟨pH, pP, pL⟩ := pop_heap hHz
    have hm1 : (popR zs' y).1 ∈ zs' ++ [y] := pP.mem_iff.mp (.head _)
    generalize popR zs' y = P at *
    have oR : ∀ p ∈ (hp, listOf (P.2.map rf).toArray nh2) :: (ep, listOf ([] : List Value).toArray 0) :: (lp, listOf lv.toArray nl) :: (la, listOf nv.toArray nn) :: (L + 4, c4) :: (L + 3, c3') :: (L + 2, c2) :: (L + 1, c1) :: (T ++ own), p.1 ≠ rp := by
      intro p hp
      simp only [List.mem_cons] at hp
      rcases hp with rfl | rfl | rfl | rfl | rfl | rfl | rfl | rfl | hp
      · refine neN ?_; dsimp only; omega
      · refine neN ?_; dsimp only; omega
      · refine neN ?_; dsimp only; omega
      · refine neN ?_; dsimp only; omega
      · refine neN ?_; dsimp only; omega
      · refine neN ?_; dsimp only; omega
      · refine neN ?_; dsimp only; omega
      · refine neN ?_; dsimp only; omega
      · have := rall p hp; refine neN ?_; omega
    have N10 : News g L h9 ((rp, listOf (ys.map rf).toArray nr1) :: (hp, listOf (P.2.map rf).toArray nh2) :: (ep, listOf ([] : List Value).toArray 0) :: (lp, listOf lv.toArray nl) :: (la, listOf nv.toArray nn) :: (L + 4, c4) :: (L + 3, c3') :: (L + 2, c2) :: (L + 1, c1) :: (T ++ own)) := perm_news N9 (fun p hp => by simp only [List.mem_cons, List.mem_append] at hp ⊢; grind)
    have hyl : ys.length ≤ 8 := by have := hPm.length_eq; rw [List.length_append] at this; omega
    k_with_none
    k_steps
    rename Fr _ _ _ _ => F8
    rename News _ _ _ _ => N8
    rw [List.push_toArray, show ys.map rf ++ [rf P.1] = (ys ++ [P.1]).map rf from (List.map_append (f := rf) (l₁ := ys) (l₂ := [P.1])).symm] at N8
    have hlt : P.2.length < (zs' ++ [y]).length := by have := pP.length_eq; rw [List.length_cons] at this; omega
    refine ⟨_, _, _, _, P.2.length, rfl, F8, perm_news N8 (fun p hp => by simp only [List.cons_append, List.mem_cons, List.mem_append] at hp ⊢; grind), hlt, rfl, rfl, P.2, ys ++ [P.1], nh2, nr1 + 1, rfl, rfl, pH, ?_, ?_, ?_⟩
    · rw [List.append_assoc]
      exact (List.Perm.append_left ys pP).trans hPm
    · rw [List.pairwise_append]
      refine ⟨hSo, List.pairwise_singleton _ _, fun a ha b hb => ?_⟩
      rw [List.mem_singleton.mp hb]
      exact hLe a ha _ hm1
    · intro a ha b hb
      rcases List.mem_append.mp ha with ha | ha
      · exact hLe a ha b (pP.mem_iff.mp (.tail _ hb))
      · rw [List.mem_singleton.mp ha]
        exact pL b (pP.mem_iff.mp (.tail _ hb))
set_option maxHeartbeats 8000000 in
theorem law_three {W : Wd} (qual : Str) (fa : Addr) (cdv : Value) (dp un : Nat) (gd : Option (List Code)) (A₀ : Around) (base g : Heap) (hG : Gd W dp un A₀ base g) (s : Shared) (Q : Flow → Shared → Prop) (L rp lp la : Addr) (m : Str → Option Value) (ys : List Itm) (nr nl nn : Nat) (lv nv : List Value) (c1 c2 c3 c4 : Obj) (K : Led) (nums : List Int) (b : Int) (tb : Tok) (v4 : Option Value)
    (F : Fr g L s.heap m) (ml : m (Str.ofString "lasts") = some (.ref lp)) (d1 : c1.data = .cell (some (.int b tb))) (d2 : c2.data = .cell (some (.ref la))) (d3 : c3.data = .cell (some (.ref rp))) (d4 : c4.data = .cell v4)
    (N : News g L s.heap ((L + 4, c4) :: (L + 3, c3) :: (L + 2, c2) :: (L + 1, c1) :: (rp, listOf (ys.map rf).toArray nr) :: (lp, listOf lv.toArray nl) :: (la, listOf nv.toArray nn) :: K))
    (hnv : IntsAre nv nums) (hn8 : nums.length ≤ 8) (hr : RowOk ys nums b) (hys : ItemsIn ys K) (bo : b ≠ 0 ∧ -9 ≤ b ∧ b ≤ 9) (dok : ∀ x ∈ nums, -10000 ≤ x ∧ x ≤ 10000)
    (o4 : ∀ p ∈ (L + 3, c3) :: (L + 2, c2) :: (L + 1, c1) :: (rp, listOf (ys.map rf).toArray nr) :: (lp, listOf lv.toArray nl) :: (la, listOf nv.toArray nn) :: K, p.1 ≠ L + 4) : ∀ (body : List Stmt) (scope : Scope), lawPair = some (body, scope) →
    (∀ (h' : Heap) (tk' : Nat) (m' : Str → Option Value) (c4' : Obj), Fr g L h' m' → m' (Str.ofString "lasts") = some (.ref lp) →
      News g L h' ((L + 4, c4') :: (L + 3, c3) :: (L + 2, c2) :: (L + 1, c1) :: (rp, listOf (ys.map rf).toArray nr) :: (lp, listOf lv.toArray nl) :: (la, listOf nv.toArray nn) :: K) →
      wpAny (model PG W.w) (ktrTop dp un gd qual scope L fa cdv (cellsFrom (L + 1) scope.names []) []) (execs (body.drop 7) (envX qual scope L fa cdv (cellsFrom (L + 1) scope.names []))) Q (fun _ _ => False) { s with heap := h', toks := tk' }) →
    wpAny (model PG W.w) (ktrTop dp un gd qual scope L fa cdv (cellsFrom (L + 1) scope.names []) []) (execs (body.drop 6) (envX qual scope L fa cdv (cellsFrom (L + 1) scope.names []))) Q (fun _ _ => False) s := by
  obtain ⟨B, XB, TB, X, Tp, hd, hu⟩ := hG
  refine with_law (by unfold lawPair; rfl) ?_
  intro hcont
  rw [see ml] at F
  have hyl : ys.length = nums.length := hr.len
  have hyl2 : (ys.map rf).length = ys.length := List.length_map _
  have hnl : nv.length = nums.length := hnv.length
  k_with_none
  k_with "exec For Name Call cons nil" => refine Halt.go ?_
  k_with "exec For" => refine Halt.go ?_
  k_steps
  unfold Halt
  refine For_invVF F rfl rfl ?_
  k_with_none
  k_with "call builtin:len" => k_dflt (rename News _ _ _ _ => N7; refine len_led N7 (.tail _ (.tail _ (.tail _ (.tail _ (.head _))))) (by omega) ?_)
  k_with "call type:range" => (rename Fr _ _ _ _ => F7; rename News _ _ _ _ => N7; refine range1_rows F7 N7 ?_; intro hR tkR tR1 tR2 tR3 isR FR NR kR)
  k_with "pyIter ref" => refine Halt.go ?_
  k_steps
  unfold Halt
  refine it_range (n := ys.length) (fun _ m₁ n₁ => m₁ (Str.ofString "lasts") = some (.ref lp) ∧ ∃ c4' v4', c4'.data = .cell v4' ∧ n₁ = (L + 4, c4') :: (L + 3, c3) :: (L + 2, c2) :: (L + 1, c1) :: (rp, listOf (ys.map rf).toArray nr) :: (lp, listOf lv.toArray nl) :: (la, listOf nv.toArray nn) :: K) rfl isR (by rw [hyl2]) (by omega) FR NR ⟨rfl, c4, v4, d4, rfl⟩ ?turnk ?donek
  case donek =>
    rintro h' tk m' n' F' N' ⟨ml', c4', v4', d4', rfl⟩
    exact hcont h' tk m' c4' F' ml' N'
  case turnk =>
    rintro k tk1 m₁ n₁ h1 tkk iown1 I1 hk ⟨ml1, c41, v41, d41, rfl⟩ hI1 hio1 ⟨oI1, hoI1⟩ F1 N1
    rw [see ml1] at F1
    k_with_none
    k_with "exec For Name Call cons nil" => refine Halt.go ?_
    k_with "exec For" => refine Halt.go ?_
    k_steps
    unfold Halt
    have N2 := perm_news N1 sh7a
    clear N1
    refine For_invVF F1 rfl rfl ?_
    k_with_none
    k_with "call type:range" => (rename Fr _ _ _ _ => F7; rename News _ _ _ _ => N7; refine range1_rows F7 N7 ?_; intro hR2 tkR2 tR4 tR5 tR6 isR2 FR2 NR2 kR2)
    k_with "pyIter ref" => refine Halt.go ?_
    k_steps
    unfold Halt
    refine it_range (n := k) (fun _ m₁ n₁ => m₁ (Str.ofString "lasts") = some (.ref lp) ∧ m₁ (Str.ofString "k") = some (.int k tk1) ∧ ∃ c4' v4', c4'.data = .cell v4' ∧ n₁ = (L + 4, c4') :: (L + 3, c3) :: (L + 2, c2) :: (L + 1, c1) :: (rp, listOf (ys.map rf).toArray nr) :: (lp, listOf lv.toArray nl) :: (la, listOf nv.toArray nn) :: (iown1 ++ K)) rfl isR2 rfl (by omega) FR2 NR2 ⟨rfl, rfl, c41, v41, d41, rfl⟩ ?turnj ?donej
    case donej =>
      rintro h' tk m' n' F' N' ⟨ml', mk', c4', v4', d4', rfl⟩
      k_with_none
      k_steps
      refine ⟨_, _, _, (L + 4, c4') :: (L + 3, c3) :: (L + 2, c2) :: (L + 1, c1) :: (rp, listOf (ys.map rf).toArray nr) :: (lp, listOf lv.toArray nl) :: (la, listOf nv.toArray nn) :: K, rfl, F', perm_news N' sh7b, ?_, ml', c4', v4', d4', rfl⟩
      intro p hp
      rcases List.mem_cons.mp hp with rfl | hp
      · exact (hI1 (L + 4, c41) (.head _) : L + 4 ≠ I1)
      · exact hI1 p (.tail _ hp)
    case turnj =>
      rintro j tj m₁ n₁ h2 tkj iown2 I2 hj ⟨ml2, mk2, c42, v42, d42, rfl⟩ hI2 hio2 ⟨oI2, hoI2⟩ F3 N3
      rw [see ml2, see mk2] at F3
      have N4 := perm_news N3 sh7a
      clear N3
      have hjl : j < ys.length := by omega
      obtain ⟨pk, hpk, ek⟩ := hr.at hk
      obtain ⟨pj, hpj, ej⟩ := hr.at hjl
      have xk : (ys.map rf)[(k : Int).toNat]? = some (.ref (ys.getD k dI).1) := by rw [Int.toNat_natCast]; exact rf_at (getD_at hk)
      have xj : (ys.map rf)[(j : Int).toNat]? = some (.ref (ys.getD j dI).1) := by rw [Int.toNat_natCast]; exact rf_at (getD_at hjl)
      obtain ⟨tyk, uyk, myk⟩ := hys _ (List.mem_of_getElem? (getD_at hk))
      obtain ⟨tyj, uyj, myj⟩ := hys _ (List.mem_of_getElem? (getD_at hjl))
      rw [ek] at myk
      rw [ej] at myj
      dsimp only at myk myj
      generalize hak : (ys.getD k dI).1 = ak at xk myk
      generalize haj : (ys.getD j dI).1 = aj at xj myj
      obtain ⟨tnk, nk⟩ := ints_gd hnv hpk
      obtain ⟨tnj, nj⟩ := ints_gd hnv hpj
      have nk' : nv[(pk : Int).toNat]? = some (.int (nums.getD pk 0) tnk) := by rw [Int.toNat_natCast]; exact nk
      have nj' : nv[(pj : Int).toNat]? = some (.int (nums.getD pj 0) tnj) := by rw [Int.toNat_natCast]; exact nj
      have memK : ∀ {x : Addr × Obj} {c4x : Obj}, x ∈ K → x ∈ (L + 4, c4x) :: (L + 3, c3) :: (L + 2, c2) :: (L + 1, c1) :: (rp, listOf (ys.map rf).toArray nr) :: (lp, listOf lv.toArray nl) :: (la, listOf nv.toArray nn) :: (iown2 ++ (iown1 ++ K)) := fun hx => .tail _ (.tail _ (.tail _ (.tail _ (.tail _ (.tail _ (.tail _ (List.mem_append_right _ (List.mem_append_right _ hx))))))))
      have o42 : ∀ p ∈ (L + 3, c3) :: (L + 2, c2) :: (L + 1, c1) :: (rp, listOf (ys.map rf).toArray nr) :: (lp, listOf lv.toArray nl) :: (la, listOf nv.toArray nn) :: (iown2 ++ (iown1 ++ K)), p.1 ≠ L + 4 := by
        intro p hp
        have h4 := hI2 (L + 4, c42) (.head _)
        have h4' := hI1 (L + 4, c41) (.head _)
        have : p ∈ iown2 ∨ p ∈ iown1 ∨ p ∈ (L + 3, c3) :: (L + 2, c2) :: (L + 1, c1) :: (rp, listOf (ys.map rf).toArray nr) :: (lp, listOf lv.toArray nl) :: (la, listOf nv.toArray nn) :: K := by
          simp only [List.mem_cons, List.mem_append] at hp ⊢
          grind
        rcases this with h | h | h
        · rw [hio2 p h]; exact Ne.symm h4
        · rw [hio1 p h]; exact Ne.symm h4'
        · exact o4 p h
      k_with_none
      k_with "subscriptTail" => k_dflt (rename News _ _ _ _ => N7; first
        | refine get_led N7 (.tail _ (.tail _ (.tail _ (.tail _ (.head _))))) (by omega) (by omega) xk ?_
        | refine get_led N7 (.tail _ (.tail _ (.tail _ (.tail _ (.head _))))) (by omega) (by omega) xj ?_
        | refine get_led N7 (.tail _ (.tail _ (.tail _ (.tail _ (.tail _ (.tail _ (.head _))))))) (by omega) (by omega) nk' ?_
        | refine get_led N7 (.tail _ (.tail _ (.tail _ (.tail _ (.tail _ (.tail _ (.head _))))))) (by omega) (by omega) nj' ?_
        | refine get_tup N7 (memK myk) (by decide) (show (1 : Int) < 2 by decide) (by decide) rfl ?_
        | refine get_tup N7 (memK myk) (by decide) (show (0 : Int) < 2 by decide) (by decide) rfl ?_
        | refine get_tup N7 (memK myj) (by decide) (show (1 : Int) < 2 by decide) (by decide) rfl ?_
        | refine get_tup N7 (memK myj) (by decide) (show (0 : Int) < 2 by decide) (by decide) rfl ?_)
      k_with "eval ListComp" => refine Halt.go ?_
      k_steps
      unfold Halt
      rename_i ta tb3 h3 c43 F5 N5 d43
      try rw [Int.toNat_natCast, Int.toNat_natCast] at d43
      replace N5 : News g L h3 ((L + 4, c43) :: (L + 3, c3) :: (L + 2, c2) :: (L + 1, c1) :: (rp, listOf (ys.map rf).toArray nr) :: (lp, listOf lv.toArray nl) :: (la, listOf nv.toArray nn) :: (iown2 ++ (iown1 ++ K))) := N5
      refine' LCt.ListComp_T (h₀ := g) (L := L) F5 ?e1 ?e2 ?e3 ?e4 ?e5 ?_
      case e1 => with_unfolding_all rfl
      case e2 => decide
      case e3 => rfl
      case e4 => decide
      case e5 => rfl
      k_with_none
      k_steps
      rename_i hR3 tkR3 tR7 tR8 tR9 isR3 FR3 NR3 kR3
      refine LCt.CompSrcT.range rfl FR3 NR3 isR3 (by decide) (n := 4) (by decide) (by rw [sizeLine_eq]; omega) ?_
      intro g3
      refine compT_ind (fun i zs n' => n' = (L + 4, c43) :: (L + 3, c3) :: (L + 2, c2) :: (L + 1, c1) :: (rp, listOf (ys.map rf).toArray nr) :: (lp, listOf lv.toArray nl) :: (la, listOf nv.toArray nn) :: (iown2 ++ (iown1 ++ K)) ∧ IntsAre zs (((List.range i).filter fun e => Int.fmod (nums.getD pk 0 - nums.getD pj 0) (b ^ e) == 0).map fun e : Nat => (e : Int))) ?turne ?fine 4 0 [] _ (Nat.zero_add _) ⟨rfl, .nil⟩
      case turne =>
        rintro e zs n1 v I oI C oC D m₂ h6 tk6 E6 he4 ⟨rfl, hzs⟩ ⟨tv, rfl⟩ hC hx F6 N6 off6 p1 p2 p3
        rw [Int.zero_add] at hx
        refine test_pick (gp := nums.getD pk 0 - nums.getD pj 0) (b := b) (e := e) (fun s' Q' p E' e' hq => by exact lcf_cell (by rw [e']; exact N6) rfl (.tail _ (.tail _ (.tail _ (.head _)))) d43 hq rfl rfl) (fun s' Q' p E' e' hq => by exact lcf_cell (by rw [e']; exact N6) rfl (.tail _ (.tail _ (.tail _ (.tail _ (.tail _ (.tail _ (.head _))))))) d1 hq rfl rfl) (fun s' Q' p E' e' hq => by exact LCgL.ld_own (by rw [e']; exact N6) (.tail _ (.head _)) hC hx hq) bo.1 bo.2.1 bo.2.2 he4 fun tkx => ?_
        cases hpk' : (Int.fmod (nums.getD pk 0 - nums.getD pj 0) (b ^ e) == 0) with
        | true =>
          rw [if_pos rfl]
          refine LCgL.ld_own N6 (.tail _ (.head _)) hC hx ?_
          exact LCg.CompEnd.intro F6 N6 _ (fun p hp => hp) off6 trivial ⟨rfl, pick_snoc hzs hpk'⟩
        | false =>
          rw [if_neg (by decide)]
          exact LCg.CompEnd.intro F6 N6 _ (fun p hp => hp) off6 trivial ⟨rfl, pick_skip hzs hpk'⟩
      case fine =>
        rintro zs n1 ⟨rfl, hzs⟩
        intro D5 h10 tk10 F10 N10 o10
        have hz : IntsAre zs ((List.range (same (digs3 (nums.getD pk 0) b) (digs3 (nums.getD pj 0) b) + 1)).map fun e : Nat => (e : Int)) := by
          rw [← picks_same bo.1]; exact hzs
        have hc3 := cc_le (digs3 (nums.getD pk 0) b) (digs3 (nums.getD pj 0) b)
        replace hc3 : same (digs3 (nums.getD pk 0) b) (digs3 (nums.getD pj 0) b) ≤ 3 := hc3
        generalize hcc : same (digs3 (nums.getD pk 0) b) (digs3 (nums.getD pj 0) b) = cc at hz hc3
        k_with_none
        k_with "call builtin:max" => k_dflt (refine max_upto hz rfl F10 N10 (.head _) ?_; intro tm hm tkm Fm Nm)
        k_with "eval ListComp" => refine Halt.go ?_
        k_steps
        unfold Halt
        rename_i h7 F7 N7
        have hjk : j ≤ k := by omega
        refine' ListComp_dn (h₀ := g) (L := L) F7 ?f1 ?f2 ?f3 ?f4 ?f5 ?_
        case f1 => with_unfolding_all rfl
        case f2 => decide
        case f3 => rfl
        case f4 => decide
        case f5 => rfl
        k_with_none
        k_steps
        rename_i hR4 tkR4 tRa tRb tRc isR4 FR4 NR4 kR4
        refine ⟨_, _, _, _, _, _, k - j + 1, _, rfl, rfl, FR4, NR4, isR4, small_dn (by omega) (by omega), size_dn hjk, by rw [sizeLine_eq]; omega, ?_⟩
        rintro s2 ⟨g4, rfl⟩
        refine comp_ind (fun i us n' => n' = (D5, LCg.lst zs) :: (L + 4, c43) :: (L + 3, c3) :: (L + 2, c2) :: (L + 1, c1) :: (rp, listOf (ys.map rf).toArray nr) :: (lp, listOf lv.toArray nl) :: (la, listOf nv.toArray nn) :: (iown2 ++ (iown1 ++ K)) ∧ StrsAre us ((List.range i).map fun d => (ys.getD (k - d) dI).2.1)) ?turnw ?finw (k - j + 1) 0 [] _ (Nat.zero_add _) ⟨rfl, .nil⟩
        case turnw =>
          rintro d us n1 v I oI C oC D m₂ h6 tk6 E6 hdl ⟨rfl, hus⟩ ⟨tv, rfl⟩ hC hx F6 N6 off6 p1 p2 p3
          have hdy : k - d < ys.length := by omega
          have xd : (ys.map rf)[((k : Int) - (d : Int)).toNat]? = some (.ref (ys.getD (k - d) dI).1) := by rw [show ((k : Int) - (d : Int)).toNat = k - d by omega]; exact rf_at (getD_at hdy)
          obtain ⟨tyd, uyd, myd⟩ := hys _ (List.mem_of_getElem? (getD_at hdy))
          have memD : ((ys.getD (k - d) dI).1, pairO (ys.getD (k - d) dI).2.1 tyd (ys.getD (k - d) dI).2.2 uyd) ∈ (I, oI) :: (C, oC) :: (D, LCg.lst us) :: (D5, LCg.lst zs) :: (L + 4, c43) :: (L + 3, c3) :: (L + 2, c2) :: (L + 1, c1) :: (rp, listOf (ys.map rf).toArray nr) :: (lp, listOf lv.toArray nl) :: (la, listOf nv.toArray nn) :: (iown2 ++ (iown1 ++ K)) := .tail _ (.tail _ (.tail _ (.tail _ (.tail _ (.tail _ (.tail _ (.tail _ (.tail _ (.tail _ (.tail _ (List.mem_append_right _ (List.mem_append_right _ myd))))))))))))
          k_with_none
          k_with "eval Name" => first
            | refine LCgL.ld_own N6 (.tail _ (.head _)) hC hx ?_
            | refine lcf_cell N6 rfl (.tail _ (.tail _ (.tail _ (.tail _ (.tail _ (.head _)))))) d3 ?_ rfl rfl
          k_with "subscriptTail" => first
            | refine get_led N6 (.tail _ (.tail _ (.tail _ (.tail _ (.tail _ (.tail _ (.tail _ (.tail _ (.head _))))))))) (by omega) (by omega) xd ?_
            | refine get_tup N6 memD (by decide) (show (0 : Int) < 2 by decide) (by decide) rfl ?_
          k_with "CompEnd" => refine Halt.go ?_
          k_steps
          unfold Halt
          refine LCg.CompEnd.intro F6 N6 _ (fun p hp => hp) off6 trivial ⟨rfl, ?_⟩
          rw [List.range_succ, List.map_append]
          exact strs_snoc hus _ _
        case finw =>
          rintro us n1 ⟨rfl, hus⟩
          intro D6 h11 tk11 F11 N11 o11
          have hul : us.length = k - j + 1 := by rw [strs_len hus, List.length_map, List.length_range]
          have hwin : ∀ w ∈ (List.range (k - j + 1)).map (fun d => (ys.getD (k - d) dI).2.1), ∃ n, w = wayAt n b 3 := fun w hw => by
            obtain ⟨d, hd', rfl⟩ := List.mem_map.mp hw
            exact ⟨_, hr.num (by omega)⟩
          k_with_none
          k_with "mine call" => refine Halt.go ?_
          k_steps
          unfold Halt
          refine does_use (commonpath (W := W) ((D6, LCg.lst us) :: (D5, LCg.lst zs) :: (L + 4, c43) :: (L + 3, c3) :: (L + 2, c2) :: (L + 1, c1) :: (rp, listOf (ys.map rf).toArray nr) :: (lp, listOf lv.toArray nl) :: (la, listOf nv.toArray nn) :: (iown2 ++ (iown1 ++ K))) D6 us ((List.range (k - j + 1)).map fun d => (ys.getD (k - d) dI).2.1) us.length (.head _) hus
            (fun w hw => by obtain ⟨n, rfl⟩ := hwin w hw; exact (way_cp bo.1 bo.2.1 bo.2.2).1) (fun w hw => by obtain ⟨n, rfl⟩ := hwin w hw; exact (way_cp bo.1 bo.2.1 bo.2.2).2.1)
            (fun ss hss => by obtain ⟨w, hw, rfl⟩ := List.mem_map.mp hss; obtain ⟨n, rfl⟩ := hwin w hw; exact (way_cp bo.1 bo.2.1 bo.2.2).2.2.1)
            (by rw [List.length_map, List.length_range]; omega) (by rw [List.length_map, List.length_range]; omega) (by rw [hul, List.length_map, List.length_range])
            (fun ss hss => by obtain ⟨ss', hss', rfl⟩ := List.mem_map.mp hss; obtain ⟨w, hw, rfl⟩ := List.mem_map.mp hss'; obtain ⟨n, rfl⟩ := hwin w hw; exact (way_cp bo.1 bo.2.1 bo.2.2).2.2.2)) B F11 X N11 Tp rfl (by omega) (by omega) ?_
          rintro r9 n9 h9 tk9 F9 N9 ⟨hcp, hsub⟩
          obtain ⟨t9, rfl⟩ := stretch_law bo.1 bo.2.1 bo.2.2 hr hj hk hcp
          rw [RowOk.num_eq ek, RowOk.num_eq ej, hcc]
          have N12 := perm_news N9 hsub
          clear N9 hsub N11
          clear hcp
          have hsl : (Txt.slice (wayAt (nums.getD pj 0) b 3) none (some (2 * (cc : Int)))).length ≤ 6 := slice_len hc3
          k_with_none
          k_with "subscriptTail" => k_dflt (rename News _ _ _ _ => N7; first
            | refine get_led N7 (.tail _ (.tail _ (.tail _ (.tail _ (.tail _ (.tail _ (.head _))))))) (by omega) (by omega) xj ?_
            | refine get_tup N7 (.tail _ (.tail _ (memK (c4x := c43) myj))) (by decide) (show (0 : Int) < 2 by decide) (by decide) rfl ?_)
          k_with "truthy str" => refine Halt.go ?_
          k_steps
          unfold Halt
          rename_i h13 t13 k13 F13 N13
          refine PySem.P.truthy_str (by omega) ?_
          by_cases h0 : (Txt.slice (wayAt (nums.getD pj 0) b 3) none (some (2 * (cc : Int)))).length = 0
          · have hfr : frontOf (wayAt (nums.getD pj 0) b 3) cc = Str.ofString "/" := if_neg fun h => h h0
            rw [hfr]
            have e : (((Txt.slice (wayAt (nums.getD pj 0) b 3) none (some (2 * (cc : Int)))).length : Int) != 0) = false := by rw [h0]; rfl
            rw [e, if_neg (by decide)]
            k_with_none
            k_with "compareOp NotEq str str" => (refine PyProof.Rows.ne_str ?_; rw [bne_self_eq_false])
            k_steps
            refine ⟨_, _, _, (L + 4, c43) :: (L + 3, c3) :: (L + 2, c2) :: (L + 1, c1) :: (rp, listOf (ys.map rf).toArray nr) :: (lp, listOf lv.toArray nl) :: (la, listOf nv.toArray nn) :: (iown1 ++ K), rfl, by k_asm, perm_news N13 (fun p hp => .tail _ (.tail _ (sh7b p hp))), ?_, rfl, rfl, c43, _, d43, rfl⟩
            intro p hp
            rcases List.mem_cons.mp hp with rfl | hp
            · exact (hI2 (L + 4, c42) (.head _) : L + 4 ≠ I2)
            · exact hI2 p (.tail _ hp)
          · have hfr : frontOf (wayAt (nums.getD pj 0) b 3) cc = Txt.slice (wayAt (nums.getD pj 0) b 3) none (some (2 * (cc : Int))) := if_pos h0
            rw [hfr]
            have e : (((Txt.slice (wayAt (nums.getD pj 0) b 3) none (some (2 * (cc : Int)))).length : Int) != 0) = true := bne_iff_ne.mpr fun h => h0 (Int.natCast_eq_zero.mp h)
            rw [e, if_pos rfl]
            k_with_none
            k_with "compareOp NotEq str str" => (refine PyProof.Rows.ne_str ?_; rw [bne_self_eq_false])
            k_steps
            refine ⟨_, _, _, (L + 4, c43) :: (L + 3, c3) :: (L + 2, c2) :: (L + 1, c1) :: (rp, listOf (ys.map rf).toArray nr) :: (lp, listOf lv.toArray nl) :: (la, listOf nv.toArray nn) :: (iown1 ++ K), rfl, by k_asm, perm_news N13 (fun p hp => .tail _ (.tail _ (sh7b p hp))), ?_, rfl, rfl, c43, _, d43, rfl⟩
            intro p hp
            rcases List.mem_cons.mp hp with rfl | hp
            · exact (hI2 (L + 4, c42) (.head _) : L + 4 ≠ I2)
            · exact hI2 p (.tail _ hp)
theorem dec_yes {p : Prop} (i : Decidable p) (h : p) : (!@decide p i) = false := by rw [decide_eq_true h]; rfl
set_option maxHeartbeats 8000000 in
theorem law_four {W : Wd} (qual : Str) (fa : Addr) (cdv : Value) (dp un : Nat) (gd : Option (List Code)) (A₀ : Around) (base g : Heap) (hG : Gd W dp un A₀ base g) (s : Shared) (Q : Flow → Shared → Prop) (L rp lp la : Addr) (m : Str → Option Value) (ys : List Itm) (nr nl nn : Nat) (lv nv : List Value) (c1 c2 c3 c4 : Obj) (K : Led) (nums : List Int) (b : Int) (tb : Tok)
    (F : Fr g L s.heap m) (ml : m (Str.ofString "lasts") = some (.ref lp)) (d1 : c1.data = .cell (some (.int b tb))) (d2 : c2.data = .cell (some (.ref la))) (d3 : c3.data = .cell (some (.ref rp)))
    (N : News g L s.heap ((L + 4, c4) :: (L + 3, c3) :: (L + 2, c2) :: (L + 1, c1) :: (rp, listOf (ys.map rf).toArray nr) :: (lp, listOf lv.toArray nl) :: (la, listOf nv.toArray nn) :: K))
    (hnv : IntsAre nv nums) (hn8 : nums.length ≤ 8) (hn3 : 3 ≤ nums.length) (hso : ys.Pairwise leI) (hpm : (ys.map (·.2)).Perm ((List.range nums.length).map (kp nums b))) (hys : ItemsIn ys K) (bo : b ≠ 0 ∧ -9 ≤ b ∧ b ≤ 9) (dok : ∀ x ∈ nums, -10000 ≤ x ∧ x ≤ 10000) (hok : ∀ x ∈ ys, PyData.strOk x.2.1 = true) : ∀ (body : List Stmt) (scope : Scope), lawPair = some (body, scope) →
    (∀ (h' : Heap) (tk' : Nat) (m' : Str → Option Value), Fr g L h' m' → m' (Str.ofString "lasts") = some (.ref lp) →
      News g L h' ((L + 4, c4) :: (L + 3, c3) :: (L + 2, c2) :: (L + 1, c1) :: (rp, listOf (ys.map rf).toArray nr) :: (lp, listOf lv.toArray nl) :: (la, listOf nv.toArray nn) :: K) →
      wpAny (model PG W.w) (ktrTop dp un gd qual scope L fa cdv (cellsFrom (L + 1) scope.names []) []) (execs (body.drop 8) (envX qual scope L fa cdv (cellsFrom (L + 1) scope.names []))) Q (fun _ _ => False) { s with heap := h', toks := tk' }) →
    wpAny (model PG W.w) (ktrTop dp un gd qual scope L fa cdv (cellsFrom (L + 1) scope.names []) []) (execs (body.drop 7) (envX qual scope L fa cdv (cellsFrom (L + 1) scope.names []))) Q (fun _ _ => False) s := by
  obtain ⟨B, XB, TB, X, Tp, hd, hu⟩ := hG
  refine with_law (by unfold lawPair; rfl) ?_
  intro hcont
  rw [see ml] at F
  have hnl : nv.length = nums.length := hnv.length
  k_with_none
  k_with "eval ListComp" => refine Halt.go ?_
  k_steps
  unfold Halt
  refine' LCg.ListComp_U (h₀ := g) (L := L) F ?e1 ?e2 ?e3 ?e4 ?e5 ?_
  case e1 => with_unfolding_all rfl
  case e2 => decide
  case e3 => rfl
  case e4 => decide
  case e5 => rfl
  k_with_none
  k_with "call builtin:len" => (rename News _ _ _ _ => N7; refine len_led N7 (.tail _ (.tail _ (.tail _ (.tail _ (.tail _ (.tail _ (.head _))))))) (by omega) ?_)
  k_with "call type:range" => (rename Fr _ _ _ _ => F7; rename News _ _ _ _ => N7; refine range1_rows F7 N7 ?_; intro hR tkR tR1 tR2 tR3 isR FR NR kR)
  k_with "CompSrc" => refine Halt.go ?_
  k_steps
  unfold Halt
  refine LCg.CompSrc.range rfl FR NR isR (small_one (by omega) (by omega) (by omega) (by omega)) (n := nums.length) (by rw [rangeSize_nat]; omega) (by rw [sizeLine_eq]; omega) ?_
  intro g3
  refine comp_ind (fun i us n' => ∃ (zs : List Itm) (own : Led), us = zs.map rf ∧ zs.map (·.2) = (List.range i).map (kp nums b) ∧ ItemsIn zs own ∧ n' = own ++ ((L + 4, c4) :: (L + 3, c3) :: (L + 2, c2) :: (L + 1, c1) :: (rp, listOf (ys.map rf).toArray nr) :: (lp, listOf lv.toArray nl) :: (la, listOf nv.toArray nn) :: K)) ?turn ?fin nums.length 0 [] _ (Nat.zero_add _) ⟨[], [], rfl, rfl, (fun x hx => nomatch hx), rfl⟩
  case turn =>
    rintro i us n1 v I oI C oC D m₂ h6 tk6 E6 hin ⟨zs, own, rfl, hzk, hzi, rfl⟩ ⟨tv, rfl⟩ hC hx F6 N6 off6 p1 p2 p3
    rw [Int.zero_add] at hx
    obtain ⟨ta, hat⟩ := ints_gd hnv hin
    have hat' : nv[(i : Int).toNat]? = some (.int (nums.getD i 0) ta) := by rw [Int.toNat_natCast]; exact hat
    have hnb := dok (nums.getD i 0) (by rw [List.getD_eq_getElem?_getD, List.getElem?_eq_getElem hin]; exact List.getElem_mem _)
    have memR : ∀ {x : Addr × Obj}, x ∈ (L + 4, c4) :: (L + 3, c3) :: (L + 2, c2) :: (L + 1, c1) :: (rp, listOf (ys.map rf).toArray nr) :: (lp, listOf lv.toArray nl) :: (la, listOf nv.toArray nn) :: K → x ∈ (I, oI) :: (C, oC) :: (D, LCg.lst (zs.map rf)) :: (own ++ ((L + 4, c4) :: (L + 3, c3) :: (L + 2, c2) :: (L + 1, c1) :: (rp, listOf (ys.map rf).toArray nr) :: (lp, listOf lv.toArray nl) :: (la, listOf nv.toArray nn) :: K)) := fun hx => .tail _ (.tail _ (.tail _ (List.mem_append_right _ hx)))
    k_with_none
    k_with "eval Name" => first
      | ((with_reducible show wpAny _ _ (eval (PySem.Expr.Name (Str.ofString "_law_plain") _) _) _ _ _); k_dflt (refine' LCgL.ld_global F6 X Tp ?gE ?_; (case gE => k_is)))
      | ((with_reducible show wpAny _ _ (eval (PySem.Expr.Name (Str.ofString "place") _) _) _ _ _); k_dflt (refine LCgL.ld_own N6 (.tail _ (.head _)) hC hx ?_))
      | ((with_reducible show wpAny _ _ (eval (PySem.Expr.Name (Str.ofString "numbers") _) _) _ _ _); k_dflt (refine lcf_cell N6 rfl (memR (.tail _ (.tail _ (.head _)))) d2 ?_ rfl rfl))
      | ((with_reducible show wpAny _ _ (eval (PySem.Expr.Name (Str.ofString "base") _) _) _ _ _); k_dflt (refine lcf_cell N6 rfl (memR (.tail _ (.tail _ (.tail _ (.head _))))) d1 ?_ rfl rfl))
    k_with "subscriptTail" => refine get_led N6 (memR (.tail _ (.tail _ (.tail _ (.tail _ (.tail _ (.tail _ (.head _)))))))) (by omega) (by omega) hat' ?_
    k_with "mine call" => refine Halt.go ?_
    k_steps
    unfold Halt
    refine does_use (law_plain (W := W) _ (nums.getD i 0) b _ _ hnb.1 hnb.2 bo.1 bo.2.1 bo.2.2) B F6 X N6 Tp rfl (by omega) (by omega) ?_
    rintro r9 n9 h9 tk9 F9 N9 ⟨rfl, t1, rfl⟩
    k_with_none
    k_with "eval Name" => k_dflt (refine LCgL.ld_own N9 (.tail _ (.head _)) hC hx ?_)
    k_with "newTuple" => refine Halt.go ?_
    k_steps
    unfold Halt
    refine PySem.W.kup_newTuple F9 N9 ?_ (by rw [sizeLine_eq]; show (2 : Nat) ≤ _; decide)
    intro D1 h10 F10 N10 l10
    refine LCg.CompEnd.intro F10 N10 ((D1, pairO (wayAt (nums.getD i 0) b 3) t1 (i : Int) tv) :: (own ++ ((L + 4, c4) :: (L + 3, c3) :: (L + 2, c2) :: (L + 1, c1) :: (rp, listOf (ys.map rf).toArray nr) :: (lp, listOf lv.toArray nl) :: (la, listOf nv.toArray nn) :: K))) (fun p hp => by simp only [List.mem_cons] at hp ⊢; grind) ⟨⟨(Nat.ne_of_gt (l10 _ (.head _))), (Nat.ne_of_gt (l10 _ (.tail _ (.head _)))), (Nat.ne_of_gt (l10 _ (.tail _ (.tail _ (.head _)))))⟩, off6⟩ trivial ⟨zs ++ [(D1, kp nums b i)], (D1, pairO (wayAt (nums.getD i 0) b 3) t1 (i : Int) tv) :: own, ?_, ?_, ?_, rfl⟩
    · rw [List.map_append]; rfl
    · rw [List.map_append, hzk, List.range_succ, List.map_append]; rfl
    · intro y hy
      rcases List.mem_append.mp hy with hy | hy
      · obtain ⟨t1, t2, hm⟩ := hzi y hy
        exact ⟨t1, t2, .tail _ hm⟩
      · rw [List.mem_singleton.mp hy]
        exact ⟨_, _, .head _⟩
  case fin =>
    rintro us n1 ⟨zs, own, rfl, hzk, hzi, rfl⟩
    intro D6 h11 tk11 F11 N11 o11
    k_with_none
    k_with "call builtin:sorted" => refine Halt.go ?_
    k_steps
    unfold Halt
    have hzl : zs.length = nums.length := by
      have := congrArg List.length hzk
      rw [List.length_map, List.length_map, List.length_range] at this
      exact this
    have hzg : ∀ i, i < nums.length → (zs.getD i dI).2 = kp nums b i := fun i hi => by
      have h1 : (zs.map (·.2))[i]? = some (kp nums b i) := by rw [hzk, List.getElem?_map, List.getElem?_range hi]; rfl
      rw [List.getElem?_map, List.getElem?_eq_getElem (show i < zs.length by omega)] at h1
      rw [List.getD_eq_getElem?_getD, List.getElem?_eq_getElem (show i < zs.length by omega)]
      exact Option.some.inj h1
    have hT := kc_tot nums b zs.length
    obtain ⟨so1, so2⟩ := sort_ok hT (by omega)
    refine sorted_tup F11 N11 (.head _) (fun x hx => by obtain ⟨t1, t2, hm⟩ := hzi x hx; exact ⟨t1, t2, .tail _ (List.mem_append_left _ hm)⟩) (by omega) (by omega) (c := kc nums b) (fun i j hi hj => by rw [hzg i (by omega), hzg j (by omega)]; rfl) hT ?_
    intro D7 e7 h12 F12 N12 l12
    rw [hzl] at so1 so2 N12
    generalize krun (kc nums b) (kas_sort nums.length) = pp at so1 so2 N12
    have hpl : ∀ i ∈ pp.toList, i < nums.length := fun i hi => by
      have hp : pp.toList.Perm (List.range nums.length) := by simpa using Array.Perm.toList so1
      exact List.mem_range.mp (hp.mem_iff.mp hi)
    have hqk : (pp.toList.map fun i => zs.getD i dI).map (·.2) = pp.toList.map (kp nums b) := by
      rw [List.map_map]
      exact List.map_congr_left fun i hi => hzg i (hpl i hi)
    have hqi : ItemsIn (pp.toList.map fun i => zs.getD i dI) own := fun x hx => by
      obtain ⟨i, hi, rfl⟩ := List.mem_map.mp hx
      exact items_at hzi (by have := hpl i hi; omega)
    have heq := sorted_dat hqk (sorted_row hso hpm so1 so2)
    generalize (pp.toList.map fun i => zs.getD i dI) = qs at *
    have hok2 : ∀ d ∈ qs.map datI, kqdOk 8 d = true := fun d hd => by
      rw [← heq] at hd
      obtain ⟨x, hx, rfl⟩ := List.mem_map.mp hd
      exact datI_ok (hok x hx)
    k_with_none
    k_with "compareOp NotEq ref ref" => refine Halt.go ?_
    k_steps
    unfold Halt
    refine kqd_ne N12 (.tail _ (.tail _ (List.mem_append_right _ (.tail _ (.tail _ (.tail _ (.tail _ (.head _)))))))) rfl rfl (dat_items hys) (fun p hp => .tail _ (.tail _ (List.mem_append_right _ (.tail _ (.tail _ (.tail _ (.tail _ (.tail _ (.tail _ (.tail _ hp)))))))))) (.head _) rfl rfl (dat_items hqi) (fun p hp => .tail _ (.tail _ (List.mem_append_left _ hp))) (fun d hd => by obtain ⟨x, hx, rfl⟩ := List.mem_map.mp hd; exact datI_ok (hok x hx)) hok2 (by dsimp only [ktrTop]; omega) ?_
    rw [dec_yes _ heq]
    k_with_none
    k_with "execs cons" => refine Halt.go ?_
    k_steps
    unfold Halt
    exact hcont _ _ _ (by k_asm) rfl (perm_news N12 fun p hp => .tail _ (.tail _ (List.mem_append_right _ hp)))
set_option maxHeartbeats 8000000 in
theorem law_five {W : Wd} (qual : Str) (fa : Addr) (cdv : Value) (dp un : Nat) (gd : Option (List Code)) (A₀ : Around) (base g : Heap) (hG : Gd W dp un A₀ base g) (s : Shared) (Q : Flow → Shared → Prop) (L rp lp la : Addr) (m : Str → Option Value) (ys : List Itm) (nr nl nn : Nat) (lv nv : List Value) (c1 c2 c3 c4 : Obj) (K : Led) (nums : List Int) (b : Int) (tb : Tok)
    (F : Fr g L s.heap m) (ml : m (Str.ofString "lasts") = some (.ref lp)) (d1 : c1.data = .cell (some (.int b tb))) (d2 : c2.data = .cell (some (.ref la))) (d3 : c3.data = .cell (some (.ref rp)))
    (N : News g L s.heap ((L + 4, c4) :: (L + 3, c3) :: (L + 2, c2) :: (L + 1, c1) :: (rp, listOf (ys.map rf).toArray nr) :: (lp, listOf lv.toArray nl) :: (la, listOf nv.toArray nn) :: K))
    (hnv : IntsAre nv nums) (hn8 : nums.length ≤ 8) (hlv : IntsAre lv (nums.map fun n => nAt n b 3)) (hr : RowOk ys nums b) (hys : ItemsIn ys K) (bo : b ≠ 0 ∧ -9 ≤ b ∧ b ≤ 9) (dok : ∀ x ∈ nums, -10000 ≤ x ∧ x ≤ 10000) : ∀ (body : List Stmt) (scope : Scope), lawPair = some (body, scope) →
    (∀ (h' : Heap) (tk' : Nat) (m' : Str → Option Value), Fr g L h' m' → News g L h' K → Q (.ret (.bool true)) { s with heap := h', toks := tk' }) →
    wpAny (model PG W.w) (ktrTop dp un gd qual scope L fa cdv (cellsFrom (L + 1) scope.names []) []) (execs (body.drop 8) (envX qual scope L fa cdv (cellsFrom (L + 1) scope.names []))) Q (fun _ _ => False) s := by
  obtain ⟨B, XB, TB, X, Tp, hd, hu⟩ := hG
  refine with_law (by unfold lawPair; rfl) ?_
  intro hret
  rw [see ml] at F
  k_with_none
  k_with "exec For Tuple Name cons nil" => refine Halt.go ?_
  k_with "exec For" => refine Halt.go ?_
  k_steps
  unfold Halt
  refine PySem.W.For_turns F ?_
  k_with_none
  k_with "pyIter ref" => refine Halt.go ?_
  k_steps
  unfold Halt
  refine it_listT (vs := ys.map rf) (nn := nr) (fun _ m₁ n₁ => m₁ (Str.ofString "lasts") = some (.ref lp) ∧ n₁ = (L + 4, c4) :: (L + 3, c3) :: (L + 2, c2) :: (L + 1, c1) :: (rp, listOf (ys.map rf).toArray nr) :: (lp, listOf lv.toArray nl) :: (la, listOf nv.toArray nn) :: K) rfl F N (.tail _ (.tail _ (.tail _ (.tail _ (.head _))))) ⟨rfl, rfl⟩ ?turn ?done
  case done =>
    rintro h' tk m' n' F' N' ⟨ml', rfl⟩
    k_with_none
    k_steps
    exact hret h' _ m' F' (perm_news N' fun p hp => .tail _ (.tail _ (.tail _ (.tail _ (.tail _ (.tail _ (.tail _ hp)))))))
  case turn =>
    rintro i v m₁ n₁ h tk own I hv ⟨ml1, rfl⟩ hI hio ⟨oI, hoI⟩ F₁ N₁
    rw [see ml1] at F₁
    obtain ⟨hil, rfl⟩ : ∃ hi : i < ys.length, v = .ref (ys.getD i dI).1 := by
      rw [List.getElem?_map] at hv
      by_cases hi : i < ys.length
      · rw [getD_at hi] at hv
        exact ⟨hi, (Option.some.inj hv).symm⟩
      · rw [List.getElem?_eq_none (by omega)] at hv
        cases hv
    obtain ⟨pi, hpi, ei⟩ := hr.at hil
    obtain ⟨ty, uy, my⟩ := hys _ (List.mem_of_getElem? (getD_at hil))
    rw [ei] at my
    dsimp only at my
    generalize (ys.getD i dI).1 = ai at *
    obtain ⟨tn, hn⟩ := ints_gd hnv hpi
    obtain ⟨tl, hl⟩ := ints_gd hlv (i := pi) (by rw [List.length_map]; exact hpi)
    have hn' : nv[(pi : Int).toNat]? = some (.int (nums.getD pi 0) tn) := by rw [Int.toNat_natCast]; exact hn
    have hl' : lv[(pi : Int).toNat]? = some (.int (nAt (nums.getD pi 0) b 3) tl) := by
      rw [Int.toNat_natCast, hl, getD_map nums (fun n => nAt n b 3) pi 0 0 hpi]
    have hnb := dok (nums.getD pi 0) (by rw [List.getD_eq_getElem?_getD, List.getElem?_eq_getElem hpi]; exact List.getElem_mem _)
    have N2 := perm_news N₁ sh7a
    clear N₁
    have mem7 : ∀ {x : Addr × Obj}, x ∈ K → x ∈ (L + 4, c4) :: (L + 3, c3) :: (L + 2, c2) :: (L + 1, c1) :: (rp, listOf (ys.map rf).toArray nr) :: (lp, listOf lv.toArray nl) :: (la, listOf nv.toArray nn) :: (own ++ K) := fun hx => .tail _ (.tail _ (.tail _ (.tail _ (.tail _ (.tail _ (.tail _ (List.mem_append_right _ hx)))))))
    k_with_none
    k_with "assign Tuple" => (refine unpackN_ F₁ N2 ⟨_, (N2 _ (mem7 my)).1, rfl, _, rfl⟩ rfl rfl rfl ?_; intro h2 F2 N3)
    k_with "mine call" => refine Halt.go ?_
    k_with "subscriptTail Name Name ref int" => (rename News _ _ _ _ => N7; first
      | k_dflt (refine get_led N7 (.tail _ (.tail _ (.tail _ (.tail _ (.tail _ (.head _)))))) (by omega) (by omega) hl' ?_)
      | k_dflt (refine get_led N7 (.tail _ (.tail _ (.tail _ (.tail _ (.tail _ (.tail _ (.head _))))))) (by omega) (by omega) hn' ?_))
    k_steps
    unfold Halt
    refine does_use (law_read (W := W) _ (nums.getD pi 0) b _ _ _ hnb.1 hnb.2 bo.1 bo.2.1 bo.2.2) B (by k_asm) X (by k_asm) Tp rfl (by omega) (by omega) ?_
    rintro r9 n9 h9 tk9 F9 N9 ⟨rfl, t9, rfl⟩
    k_with_none
    k_with "compareOp NotEq int int" => (refine PyProof.Rows.ne_int ?_; rw [bne_self_eq_false])
    k_with "mine call" => refine Halt.go ?_
    k_with "subscriptTail Name Name ref int" => (rename News _ _ _ _ => N7; first
      | k_dflt (refine get_led N7 (.tail _ (.tail _ (.tail _ (.tail _ (.tail _ (.head _)))))) (by omega) (by omega) hl' ?_)
      | k_dflt (refine get_led N7 (.tail _ (.tail _ (.tail _ (.tail _ (.tail _ (.tail _ (.head _))))))) (by omega) (by omega) hn' ?_))
    k_steps
    unfold Halt
    rename Fr _ _ _ _ => F10
    rename News _ _ _ _ => N10
    refine refusesC (W := W) _ (nums.getD pi 0) _ _ _ _ _ _ _ _ _ _ _ _ _ _ _ _ _ B F10 X XB N10 Tp TB rfl (by omega) ?_
    intro h11 tk11 F11 N11
    k_with_none
    k_steps
    refine ⟨_, _, _, (L + 4, c4) :: (L + 3, c3) :: (L + 2, c2) :: (L + 1, c1) :: (rp, listOf (ys.map rf).toArray nr) :: (lp, listOf lv.toArray nl) :: (la, listOf nv.toArray nn) :: K, rfl, F11, perm_news N11 sh7b, hI, rfl, rfl⟩
theorem drawn_ok {ns : List Int} : ∀ x ∈ drawn ns, -10000 ≤ x ∧ x ≤ 10000 := by
  intro x hx
  unfold drawn at hx
  rcases List.mem_append.mp hx with hx | hx
  · obtain ⟨y, _, rfl⟩ := List.mem_map.mp hx
    have h1 := Int.fmod_nonneg_of_pos (y + 10000) (show (0 : Int) < 20001 by decide)
    have h2 := Int.fmod_lt_of_pos (y + 10000) (show (0 : Int) < 20001 by decide)
    omega
  · simp only [List.mem_cons, List.not_mem_nil, or_false] at hx
    omega
theorem drawn_len {ns : List Int} : 3 ≤ (drawn ns).length ∧ (drawn ns).length ≤ 8 := by
  unfold drawn
  rw [List.length_append, List.length_map, List.length_take]
  show 3 ≤ _ + 3 ∧ _ + 3 ≤ 8
  omega
theorem base_ok {ns : List Int} : drawnBase ns ≠ 0 ∧ -9 ≤ drawnBase ns ∧ drawnBase ns ≤ 9 := by
  cases ns with
  | nil => show (-3 : Int) ≠ 0 ∧ -9 ≤ (-3 : Int) ∧ (-3 : Int) ≤ 9; decide
  | cons a r =>
    have h1 := Int.fmod_nonneg_of_pos (a + 10) (show (0 : Int) < 18 by decide)
    have h2 := Int.fmod_lt_of_pos (a + 10) (show (0 : Int) < 18 by decide)
    show (if 0 ≤ Int.fmod (a + 10) 18 - 9 then Int.fmod (a + 10) 18 - 9 + 1 else Int.fmod (a + 10) 18 - 9) ≠ 0 ∧ _ ≤ (if 0 ≤ Int.fmod (a + 10) 18 - 9 then Int.fmod (a + 10) 18 - 9 + 1 else Int.fmod (a + 10) 18 - 9) ∧ (if 0 ≤ Int.fmod (a + 10) 18 - 9 then Int.fmod (a + 10) 18 - 9 + 1 else Int.fmod (a + 10) 18 - 9) ≤ _
    split <;> omega
theorem cell_ne {h₀ h : Heap} {L : Addr} {l : Led} (N : News h₀ L h l) {a c : Addr} {o o' : Obj} (ha : (a, o) ∈ l) (hc : (c, o') ∈ l) {v : Option Value} (hv : o'.data = .cell v) {xs : Array Value} {n : Nat} (hd : o.data = .seq xs n) : @Ne Nat a c := fun e => by
  have h1 := (N _ ha).1
  have h2 := (N _ hc).1
  dsimp only at h1 h2
  rw [show a = c from e, h2] at h1
  rw [Option.some.inj h1, hd] at hv
  cases hv
theorem tabs0 : Tabs [(37, tabObj #[]), (44, tabObj #[])] := ⟨[(37, tabObj #[])], [(44, tabObj #[])], rfl, .inl rfl, .inl rfl, fun p hp q hq => by
  rw [List.mem_singleton.mp hp, List.mem_singleton.mp hq]; decide⟩
theorem doesC_use {C : Heap → Prop} {W : Wd} {f : Addr} {D : Nat} {vs : List Value} {news : Led} {P : Value → Led → Prop} (K : DoesC C W f D vs news P)
  {dp un : Nat} {gd : Option (List Code)} {cn : Str} {cs : Scope} {a : Addr} {ccd : Value} {cl : List (Str × Addr)} {outer : List Env} {A₀ : Around} {base h₀ : Heap} {L : Addr} {m : Str → Option Value} {s : Shared} {Q E : Value → Shared → Prop} (hC : C h₀)
  (B : Below A₀ base outer h₀) (F : Fr h₀ L s.heap m) (X : (KF W.w.params).In h₀) (N : News h₀ L s.heap news) (T : Top W.p W.loose W.mean W.mg W.mb h₀) (hk : cs.kind = .function) (hd : dp + D < recursionLimit) (hu : un + 8 * D < cLine)
  (ret : ∀ r news' h' tk', Fr h₀ L h' m → News h₀ L h' news' → P r news' → Q r { s with heap := h', toks := tk' }) :
  wpAny (model PG W.w) (ktrTop dp un gd cn cs L a ccd cl outer) (call (.ref f) vs) Q E s := K _ _ _ _ _ _ _ _ _ _ _ _ _ _ _ _ _ hC B F X N T hk hd hu ret
set_option maxHeartbeats 8000000 in
theorem law_runs {W : Wd} (qual : Str) (fa : Addr) (cdv : Value) (dp un : Nat) (gd : Option (List Code)) (A₀ : Around) (base g : Heap) (s : Shared) (Q : Flow → Shared → Prop) (sa L : Addr) (vs : List Value) (ns : List Int) (hi : IntsAre vs ns) (hl : ns.length ≤ 63) (hs : g.IsList sa vs.toArray)
    (c1 c2 c3 c4 : Obj) (d1 : c1.data = .cell none) (d2 : c2.data = .cell none) (d3 : c3.data = .cell none) (d4 : c4.data = .cell none)
    (B : Below A₀ base [] g) (XB : (KF W.w.params).In base) (TB : Top W.p W.loose W.mean W.mg W.mb base) (F : Fr g L s.heap (fun y => if y = Str.ofString "script" then some (.ref sa) else none)) (X : (KF W.w.params).In g)
    (N : News g L s.heap [(L + 4, c4), (L + 3, c3), (L + 2, c2), (L + 1, c1), (44, tabObj #[]), (37, tabObj #[])]) (h44 : @LT.lt Nat _ 44 L) (Tp : Top W.p W.loose W.mean W.mg W.mb g) (hd : dp + 60 < recursionLimit) (hu : un + 8 * 60 < cLine) : ∀ (body : List Stmt) (scope : Scope), lawPair = some (body, scope) →
    (∀ (h' : Heap) (tk' : Nat) (m' : Str → Option Value) (news' : Led) (T : Led) (t : Nat), Fr g L h' m' → News g L h' news' → Tabs T → (∀ p ∈ T, p ∈ news') → Q (.ret (.bool true)) { s with heap := h', toks := tk' }) →
    wpAny (model PG W.w) (ktrTop dp un gd qual scope L fa cdv (cellsFrom (L + 1) scope.names []) []) (execs body (envX qual scope L fa cdv (cellsFrom (L + 1) scope.names []))) Q (fun _ _ => False) s := by
  refine with_law (by unfold lawPair; rfl) ?_
  intro hret
  k_with_none
  k_with "mine call" => refine Halt.go ?_
  k_with "exec For Name Call cons nil" => refine Halt.go ?_
  k_steps
  unfold Halt
  refine doesC_use (law_drawn [(L + 4, c4), (L + 3, c3), (L + 2, c2), (L + 1, c1), (44, tabObj #[]), (37, tabObj #[])] sa vs ns hi hl) hs B F X N Tp rfl (by omega) (by omega) ?_
  rintro r1 n1 h1 tk1 F1 N1 ⟨x1, la, t1, nv, nn, rfl, rfl, hnv⟩
  have q1 : ∀ (c : Addr) (o : Obj) (v : Option Value), (c, o) ∈ [(L + 4, c4), (L + 3, c3), (L + 2, c2), (L + 1, c1)] → o.data = .cell v → @Ne Nat la c ∧ @Ne Nat x1 c := fun c o v hm hd => by
    have hm' : (c, o) ∈ (x1, tupO [.int (drawnBase ns) t1, .ref la]) :: (la, listOf nv.toArray nn) :: [(L + 4, c4), (L + 3, c3), (L + 2, c2), (L + 1, c1), (44, tabObj #[]), (37, tabObj #[])] := .tail _ (.tail _ (List.mem_append_left [(44, tabObj #[]), (37, tabObj #[])] hm))
    exact ⟨cell_ne N1 (.tail _ (.head _)) hm' hd rfl, cell_ne N1 (.head _) hm' hd rfl⟩
  have q11 := q1 (L + 1) c1 _ (by simp) d1
  have q12 := q1 (L + 2) c2 _ (by simp) d2
  have q13 := q1 (L + 3) c3 _ (by simp) d3
  have q14 := q1 (L + 4) c4 _ (by simp) d4
  clear q1
  have q44 : @Ne Nat la 44 := obj_ne N1 (.tail _ (.head _)) (c := 44) (o' := tabObj #[]) (by simp) (by intro e; cases e)
  have q37 : @Ne Nat la 37 := obj_ne N1 (.tail _ (.head _)) (c := 37) (o' := tabObj #[]) (by simp) (by intro e; cases e)
  k_steps
  unfold Halt
  rename_i g0 g1 c1b d1b g2 c2b d2b tkA hp g3 lhp g4 tkB lp g5 llp g6 F5 N5
  have hnl : nv.length = (drawn ns).length := hnv.length
  have dl := drawn_len (ns := ns)
  have bo := base_ok (ns := ns)
  have dok := drawn_ok (ns := ns)
  generalize hnums : drawn ns = nums at *
  generalize hbs : drawnBase ns = b at *
  clear hnums hbs
  have cs0 : ∃ cs : Led, cs = [(la, listOf nv.toArray nn), (L + 4, c4), (L + 3, c3), (L + 2, c2b), (L + 1, c1b)] := ⟨_, rfl⟩
  obtain ⟨cs, hcs⟩ := cs0
  have N6 : News g L g6 ((hp, listOf (([] : List Itm).map rf).toArray 0) :: (lp, listOf ([] : List Value).toArray 0) :: (cs ++ ([(37, tabObj #[]), (44, tabObj #[])] ++ []))) := perm_news N5 (by
    rw [hcs]
    intro p hp
    simp only [List.mem_append, List.mem_cons, List.not_mem_nil, or_false, List.map_nil] at hp ⊢
    grind)
  clear N5
  have b1 : Off hp (cs ++ []) := by rw [hcs]; intro p hp; simp only [List.append_nil, List.mem_cons, List.not_mem_nil, or_false] at hp; rcases hp with rfl | rfl | rfl | rfl | rfl <;> (refine neN ?_; dsimp only; omega)
  have b2 : Off lp (cs ++ []) := by rw [hcs]; intro p hp; simp only [List.append_nil, List.mem_cons, List.not_mem_nil, or_false] at hp; rcases hp with rfl | rfl | rfl | rfl | rfl <;> (refine neN ?_; dsimp only; omega)
  have b3 : Off hp [(37, tabObj #[]), (44, tabObj #[])] := by intro p hp; simp only [List.mem_cons, List.not_mem_nil, or_false] at hp; rcases hp with rfl | rfl <;> (refine neN ?_; dsimp only; omega)
  have b4 : Off lp [(37, tabObj #[]), (44, tabObj #[])] := by intro p hp; simp only [List.mem_cons, List.not_mem_nil, or_false] at hp; rcases hp with rfl | rfl <;> (refine neN ?_; dsimp only; omega)
  have b5 : Dj [(37, tabObj #[]), (44, tabObj #[])] (cs ++ []) := by
    rw [hcs]; intro p hp q hq
    simp only [List.append_nil, List.mem_cons, List.not_mem_nil, or_false] at hp hq
    rcases hp with rfl | rfl <;> rcases hq with rfl | rfl | rfl | rfl | rfl <;> (refine neN ?_; dsimp only; omega)
  k_with_none
  refine For_invVF F5 rfl rfl ?_
  rw [hcs, List.cons_append, List.cons_append, List.cons_append, List.cons_append, List.cons_append, List.nil_append] at N6
  have mla : (la, listOf nv.toArray nn) ∈ cs := by rw [hcs]; exact .head _
  k_with "call builtin:len" => k_dflt (rename News _ _ _ _ => N7; refine len_led N7 (.tail _ (.tail _ (.head _))) (by omega) ?_)
  k_with "call type:range" => (rename Fr _ _ _ _ => F7; rename News _ _ _ _ => N7; refine range1_rows F7 N7 ?_; intro hR tkR tR1 tR2 tR3 isR FR NR kR)
  k_with "pyIter ref" => refine Halt.go ?_
  k_steps
  unfold Halt
  refine it_range (n := nums.length) (L1 hp lp cs nums b) rfl isR (by first | rfl | rw [hnl]) (by omega) FR NR ⟨rfl, rfl, _, [], [], [], 0, 0, (by rw [hcs]; rfl), tabs0, b3, b4, b5, b1, b2, (fun x hx => nomatch hx), (fun i h0 h1 => absurd h1 (Nat.not_lt_zero _)), .refl _, .nil, (fun p hp => nomatch hp)⟩ ?turn1 ?done1
  case turn1 =>
    rintro i ti m₁ n₁ h tk iown I hi1 ⟨mh, ml, T, own, xs, lv, nh, nl, rfl, hT, oT1, oT2, oT3, oO1, oO2, hxs, hHp, hpm, hlv, hlo⟩ hI hio ⟨oI, hoI⟩ F₁ N₁
    rw [see mh, see ml] at F₁
    obtain ⟨ta, hat⟩ := ints_gd hnv hi1
    have N2 := perm_news N₁ sh6
    have N3 := N2
    rw [hcs, List.cons_append, List.cons_append, List.cons_append, List.cons_append, List.cons_append, List.nil_append] at N3
    have hat' : nv[(i : Int).toNat]? = some (.int (nums.getD i 0) ta) := by rw [Int.toNat_natCast]; exact hat
    have hnb := dok (nums.getD i 0) (by rw [List.getD_eq_getElem?_getD, List.getElem?_eq_getElem hi1]; exact List.getElem_mem _)
    k_with_none
    k_with "mine call" => refine Halt.go ?_
    k_with "subscriptTail" => k_dflt (rename News _ _ _ _ => N7; refine get_led N7 (.tail _ (.tail _ (.head _))) (by omega) (by omega) hat' ?_)
    k_steps
    unfold Halt
    rw [Int.toNat_natCast]
    refine does_use (law_way T ((hp, listOf (xs.map rf).toArray nh) :: (lp, listOf lv.toArray nl) :: (cs ++ (iown ++ own))) (nums.getD i 0) b _ _ hnb.1 hnb.2 bo.1 bo.2.1 bo.2.2 hT (dj_five oT1 oT2 oT3 (fun p hp => hI p (.tail _ (.tail _ (List.mem_append_right _ (List.mem_append_left _ hp))))) hio)) B F₁ X (perm_news N2 sh7) Tp rfl (by omega) (by omega) ?_
    rintro r9 n9 h9 tk9 F9 N9 ⟨T', x, u1, u2, rfl, rfl, hT', hD', hxlo⟩
    obtain ⟨oT1', oT2', oT3', hI'⟩ := dj_back hD' hoI
    have N10 := perm_news N9 sh8
    clear N9 N3 N2 N₁ F₁
    rw [hcs, List.cons_append, List.cons_append, List.cons_append, List.cons_append, List.cons_append, List.nil_append] at N10
    k_with_none
    k_with "mine call" => refine Halt.go ?_
    k_steps
    unfold Halt
    rename_i D1 h10 F10 N11 lD
    have hxl : xs.length = i := by have := hpm.length_eq; rw [List.length_map, List.length_map, List.length_range] at this; exact this
    have hIhp : I ≠ hp := Ne.symm (hI _ (.head _))
    have hIlp : I ≠ lp := Ne.symm (hI _ (.tail _ (.head _)))
    have hxI : ∀ p ∈ iown, @LT.lt Nat _ p.1 x := fun p hp => hxlo p (List.mem_append_right _ (.tail _ (.tail _ (List.mem_append_right _ (List.mem_append_left _ hp)))))
    have hIx : @LT.lt Nat _ I x := hxI (I, oI) hoI
    have hhl : lp ≠ hp := by refine neN ?_; omega
    have hD1 : D1 ≠ hp := by refine neN ?_; omega
    have hD2 : D1 ≠ lp := by refine neN ?_; omega
    have hx1 : x ≠ hp := Ne.symm (neN (Nat.ne_of_lt (hxlo _ (List.mem_append_right _ (.head _)))))
    have hx2 : x ≠ lp := Ne.symm (neN (Nat.ne_of_lt (hxlo _ (List.mem_append_right _ (.tail _ (.head _))))))
    have N12 : News g L h10 ((D1, pairO (wayAt (nums.getD i 0) b 3) u1 (i : Int) ti) :: (x, tupO [.str (wayAt (nums.getD i 0) b 3) u1, .int (nAt (nums.getD i 0) b 3) u2]) :: (hp, listOf (xs.map rf).toArray nh) :: (lp, listOf lv.toArray nl) :: (cs ++ (T' ++ (iown ++ own)))) := by rw [hcs]; exact N11
    clear N11
    have C := heappush (W := W) ((D1, pairO (wayAt (nums.getD i 0) b 3) u1 (i : Int) ti) :: (x, tupO [.str (wayAt (nums.getD i 0) b 3) u1, .int (nAt (nums.getD i 0) b 3) u2]) :: (lp, listOf lv.toArray nl) :: (cs ++ (T' ++ (iown ++ own)))) hp xs (D1, wayAt (nums.getD i 0) b 3, (i : Int)) nh (by omega) (fun y hy => by obtain ⟨t1, t2, hm⟩ := hxs y hy; exact ⟨t1, t2, .tail _ (.tail _ (.tail _ (List.mem_append_right _ (List.mem_append_right _ (List.mem_append_right _ hm)))))⟩) ⟨_, _, .head _⟩ (off_five hD1 hx1 hhl oO1 oT1' hIhp hio)
    refine does_use C B F10 X (perm_news N12 sh3) Tp rfl (by omega) (by omega) ?_
    rintro r11 n11 h11 tk11 F11 N13 ⟨rfl, nh2, rfl⟩
    clear C N12
    k_with_none
    k_with "call builtin:list.append" => k_dflt (refine append_K F11 (perm_news N13 sh4) (Upd.head (off_five (Ne.symm hhl) hD2 hx2 oO2 oT2' hIlp hio)) ?_ (by rw [List.size_toArray, sizeLine_eq, hlv.length, List.length_map, List.length_take]; omega))
    k_steps
    rename_i h12 F13 N14
    rw [List.push_toArray] at N14
    obtain ⟨pH, pP⟩ := push_heap (x := ((D1, wayAt (nums.getD i 0) b 3, (i : Int)) : Itm)) hHp
    refine ⟨h12, _, _, (hp, listOf ((sd (D1, wayAt (nums.getD i 0) b 3, (i : Int)) xs.length (xs ++ [(D1, wayAt (nums.getD i 0) b 3, (i : Int))]) xs.length).map rf).toArray nh2) :: (lp, listOf (lv ++ [Value.int (nAt (nums.getD i 0) b 3) u2]).toArray (nl + 1)) :: (cs ++ (T' ++ ((D1, pairO (wayAt (nums.getD i 0) b 3) u1 (i : Int) ti) :: (x, tupO [.str (wayAt (nums.getD i 0) b 3) u1, .int (nAt (nums.getD i 0) b 3) u2]) :: own))), rfl, F13, perm_news N14 sh5, ?offI, ?J⟩
    case offI =>
      intro p hp
      rcases List.mem_cons.mp hp with rfl | hp
      · exact Ne.symm hIhp
      rcases List.mem_cons.mp hp with rfl | hp
      · exact Ne.symm hIlp
      rcases List.mem_append.mp hp with hp | hp
      · exact hI p (.tail _ (.tail _ (List.mem_append_left _ hp)))
      rcases List.mem_append.mp hp with hp | hp
      · exact hI' p hp
      rcases List.mem_cons.mp hp with rfl | hp
      · refine Ne.symm (neN ?_); dsimp only; omega
      rcases List.mem_cons.mp hp with rfl | hp
      · refine Ne.symm (neN ?_); dsimp only; omega
      · exact hI p (.tail _ (.tail _ (List.mem_append_right _ (List.mem_append_right _ hp))))
    case J =>
      refine ⟨rfl, rfl, T', (D1, pairO (wayAt (nums.getD i 0) b 3) u1 (i : Int) ti) :: (x, tupO [.str (wayAt (nums.getD i 0) b 3) u1, .int (nAt (nums.getD i 0) b 3) u2]) :: own, _, _, nh2, nl + 1, rfl, hT', oT1', oT2', dj_two oT3' (fun p hp => hxlo p (List.mem_append_left _ hp)) lD.1, off_two oO1 hD1 hx1, off_two oO2 hD2 hx2, ?_, pH, perm_turn pP hpm rfl, ?_, ?_⟩
      · intro y hy
        rcases List.mem_append.mp (pP.mem_iff.mp hy) with hy | hy
        · obtain ⟨t1, t2, hm⟩ := hxs y hy
          exact ⟨t1, t2, .tail _ (.tail _ hm)⟩
        · rw [List.mem_singleton.mp hy]
          exact ⟨_, _, .head _⟩
      · rw [take_snoc hi1]
        exact ints_snoc hlv _ _
      · intro p hp
        rcases List.mem_cons.mp hp with rfl | hp
        · exact lD.2.1
        rcases List.mem_cons.mp hp with rfl | hp
        · exact hxlo _ (List.mem_append_right _ (.head _))
        · exact hlo p hp
  case done1 =>
    rintro h' tk' m' n' F' N' ⟨mh, ml, T, own, xs, lv, nh, nl, rfl, hT, oT1, oT2, oT3, oO1, oO2, hxs, hHp, hpm, hlv, hlo⟩
    rw [List.take_length] at hlv
    have hG : Gd W dp un A₀ base g := ⟨B, XB, TB, X, Tp, hd, hu⟩
    have hxl : xs.length = nums.length := by have := hpm.length_eq; rw [List.length_map, List.length_map, List.length_range] at this; exact this
    have hok : ∀ x ∈ xs, PyData.strOk x.2.1 = true := fun x hx => by
      obtain ⟨p, hp, e⟩ := List.mem_map.mp (hpm.mem_iff.mp (List.mem_map_of_mem (f := (·.2)) hx))
      rw [← e]
      exact way_ok bo.1 bo.2.1 bo.2.2
    have hTc : ∀ q ∈ cs, ∀ p ∈ T, p.1 ≠ q.1 := fun q hq p hp => oT3 p hp q (List.mem_append_left _ hq)
    rw [hcs] at hTc
    rw [hcs, List.cons_append, List.cons_append, List.cons_append, List.cons_append, List.cons_append, List.nil_append] at N'
    dsimp only
    refine law_two qual fa cdv dp un gd A₀ base g hG { s with heap := h', toks := tk' } Q L hp lp la m' xs nh nl nn lv nv c1b c2b c3 c4 T own F' mh ml d3 N' hHp hxs hok (by omega) hlo (by omega) (by omega) (by omega) (by first | assumption | omega) (fun p hp => ⟨oT1 p hp, oT2 p hp, hTc (L + 3, c3) (.tail _ (.tail _ (.head _))) p hp⟩) _ _ (by unfold lawPair; rfl) ?_
    intro h2 tk2 m2 rp ys nr c3' F2 ml2 d3' hso hpy hr1 hr2 N2
    have hyp : (ys.map (·.2)).Perm ((List.range nums.length).map (kp nums b)) := (hpy.map (·.2)).trans hpm
    have hyl : ys.length = nums.length := hpy.length_eq.trans hxl
    have hr : RowOk ys nums b := ⟨hyl, hso, fun y hy => by
      obtain ⟨p, hp, e⟩ := List.mem_map.mp (hyp.mem_iff.mp (List.mem_map_of_mem (f := (·.2)) hy))
      exact ⟨p, List.mem_range.mp hp, e.symm⟩⟩
    have hys : ItemsIn ys (T ++ own) := fun y hy => by
      obtain ⟨t1, t2, hm⟩ := hxs y (hpy.mem_iff.mp hy)
      exact ⟨t1, t2, List.mem_append_right _ hm⟩
    have o4 : ∀ p ∈ (L + 3, c3') :: (L + 2, c2b) :: (L + 1, c1b) :: (rp, listOf (ys.map rf).toArray nr) :: (lp, listOf lv.toArray nl) :: (la, listOf nv.toArray nn) :: (T ++ own), p.1 ≠ L + 4 := by
      intro p hp
      simp only [List.mem_cons, List.mem_append] at hp
      rcases hp with rfl | rfl | rfl | rfl | rfl | rfl | hp | hp
      · refine neN ?_; dsimp only; omega
      · refine neN ?_; dsimp only; omega
      · refine neN ?_; dsimp only; omega
      · refine neN ?_; dsimp only; omega
      · refine neN ?_; dsimp only; omega
      · exact neN q14.1
      · exact hTc (L + 4, c4) (.tail _ (.head _)) p hp
      · have := hlo p hp; refine neN ?_; omega
    refine law_three qual fa cdv dp un gd A₀ base g hG { s with heap := h2, toks := tk2 } Q L rp lp la m2 ys nr nl nn lv nv c1b c2b c3' c4 (T ++ own) nums b _ _ F2 ml2 d1b d2b d3' d4 N2 hnv (by omega) hr hys bo dok o4 _ _ (by unfold lawPair; rfl) ?_
    intro h3 tk3 m3 c4' F3 ml3 N3
    refine law_four qual fa cdv dp un gd A₀ base g hG { s with heap := h3, toks := tk3 } Q L rp lp la m3 ys nr nl nn lv nv c1b c2b c3' c4' (T ++ own) nums b _ F3 ml3 d1b d2b d3' N3 hnv (by omega) (by omega) hso hyp hys bo dok (fun x hx => hok x (hpy.mem_iff.mp hx)) _ _ (by unfold lawPair; rfl) ?_
    intro h4 tk4 m4 F4 ml4 N4
    refine law_five qual fa cdv dp un gd A₀ base g hG { s with heap := h4, toks := tk4 } Q L rp lp la m4 ys nr nl nn lv nv c1b c2b c3' c4' (T ++ own) nums b _ F4 ml4 d1b d2b d3' N4 hnv (by omega) hlv hr hys bo dok _ _ (by unfold lawPair; rfl) ?_
    intro h5 tk5 m5 F5 N5
    exact hret h5 tk5 m5 _ T 0 F5 N5 hT fun p hp => List.mem_append_left _ hp
end Mine
open Mine
set_option maxHeartbeats 8000000 in
theorem PySem.Challenge.cw_pd0175_01_holds : PySem.Challenge.rw_pd0175_01.Holds := by
  w_on
  refine holds_law well fun said => ?_
  refine holds_open (q := vw) (loose := []) (Xt := fun s => xlAt vw [] s && recOk (RowW.records (OpenRow.toRowW Challenge.rw_pd0175_01.row)) s) (XP := XL vw []) (Yf := Hook.obs (kmHook KF [3, 27, 28, 41, 42, 48, 49, 55, 56, 62, 63, 69, 70, 76, 77, 83, 84, 90, 91, 163, 164, 177, 178, 184, 185, 191, 192, 196, 197, 201, 202, 208, 209, 215, 216, 222, 223, 229, 230, 234, 235] (fun _ => by kernel_rfl) [44, 37])) (Ya := Hook.val (kmHook KF [3, 27, 28, 41, 42, 48, 49, 55, 56, 62, 63, 69, 70, 76, 77, 83, 84, 90, 91, 163, 164, 177, 178, 184, 185, 191, 192, 196, 197, 201, 202, 208, 209, 215, 216, 222, 223, 229, 230, 234, 235] (fun _ => by kernel_rfl) [44, 37])) (YP := Hook.says (kmHook KF [3, 27, 28, 41, 42, 48, 49, 55, 56, 62, 63, 69, 70, 76, 77, 83, 84, 90, 91, 163, 164, 177, 178, 184, 185, 191, 192, 196, 197, 201, 202, 208, 209, 215, 216, 222, 223, 229, 230, 234, 235] (fun _ => by kernel_rfl) [44, 37])) (N := 2928) left (Hook.of (kmHook KF [3, 27, 28, 41, 42, 48, 49, 55, 56, 62, 63, 69, 70, 76, 77, 83, 84, 90, 91, 163, 164, 177, 178, 184, 185, 191, 192, 196, 197, 201, 202, 208, 209, 215, 216, 222, 223, 229, 230, 234, 235] (fun _ => by kernel_rfl) [44, 37])) (Hook.keeps (kmHook KF [3, 27, 28, 41, 42, 48, 49, 55, 56, 62, 63, 69, 70, 76, 77, 83, 84, 90, 91, 163, 164, 177, 178, 184, 185, 191, 192, 196, 197, 201, 202, 208, 209, 215, 216, 222, 223, 229, 230, 234, 235] (fun _ => by kernel_rfl) [44, 37])) (fun s e => xl_of s (Bool.and_eq_true_iff.mp e).1) XL.keeps (by rfl) (by rfl) (by rfl) (fun s e => recFacts_of (Bool.and_eq_true_iff.mp e).2) (by rfl) (by first | assumption | decide +kernel) (by decide +kernel) ⟨rfl, rfl, rfl, rfl, rfl, by decide +kernel⟩ ?hw ?hc
  case hw => w_witness2
  case hc =>
    k_go0
    rename_i ns hs hlay0 hL1 hr1 hl2 w8 w7 sa vs w4 hL ra w1 r0 hI hr hc1 hc2 hD h1 tk1 c4 c3 c2 c1 d4 d3 d2 d1 X0 XK TK BK FK cH NK l0
    rename World => w
    have hFK : (fun y => if y = Str.ofString "script" then some (Value.ref sa) else none) = (fun y => if y = Str.ofString "script" then some (Value.ref sa) else none) := rfl
    refine wpAny_mono (law_runs (W := ⟨w, topProg, _, _, _, _⟩) (Str.ofString "law") _ _ (1 + claimMargin + 1) 7 (some []) callerA _ _ _ _ sa _ vs ns hI (by omega) lifted c1 c2 c3 c4 d1 d2 d3 d4 BK XK TK FK XK NK l0.1 TK (by decide) (by decide) _ _ (by unfold lawPair; rfl) ?hret) (fun _ _ q => q) fun _ _ x => x.elim
    case hret =>
      intro h' tk' m' news' T t F' N' hT hsub
      have g44 : ∃ ps, (44, tabObj ps) ∈ T := by
        obtain ⟨T1, T2, rfl, _, h2, _⟩ := hT
        rcases h2 with rfl | ⟨c', oc, vs', t', rfl, _, _, _⟩
        · exact ⟨_, List.mem_append_right _ (.head _)⟩
        · exact ⟨_, List.mem_append_right _ (.head _)⟩
      have g37 : ∃ ps, (37, tabObj ps) ∈ T := by
        obtain ⟨T1, T2, rfl, h1, _, _⟩ := hT
        rcases h1 with rfl | ⟨c', oc, vs', t', rfl, _, _, _⟩
        · exact ⟨_, List.mem_append_left _ (.head _)⟩
        · exact ⟨_, List.mem_append_left _ (.head _)⟩
      obtain ⟨p44, g44⟩ := g44
      obtain ⟨p37, g37⟩ := g37
      refine ⟨?_, GrownAt.of N' (hsub _ g44), GrownAt.of N' (hsub _ g37), trivial⟩
      clear g44 g37
      dsimp only
      k_steps
