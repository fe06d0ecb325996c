import PyProof.Rows.All
import Wide.All
import OpenK.AllK
import Wide.FinOn
import PySem.Challenge.RW_io0022_01
set_option Elab.async false
set_option maxRecDepth 100000
set_option linter.all false
set_option compiler.extract_closed false
-- P1
noncomputable section
open PySem PySem.Builtin PySem.Builtin.Str
namespace Mine
open PySem.StrLaws
noncomputable def hitAt (x : Str) (c i : Nat) : Bool := x.cps.toList[i]? == some c
theorem subAt_one (x : Str) (c i : Nat) : subAt x ⟨#[c]⟩ i = hitAt x c i := by
  unfold subAt hitAt
  rw [Bool.eq_iff_iff]
  simp only [beq_iff_eq]
  rw [← Array.toList_inj, Array.toList_extract]
  show List.extract x.cps.toList i (i + 1) = [c] ↔ _
  rw [List.extract_eq_take_drop]
  rw [show i + 1 - i = 1 by omega]
  rw [← List.head?_drop]
  cases x.cps.toList.drop i with
  | nil => simp
  | cons a l => simp
theorem occ_cnt (x : Str) (c hi limit : Nat) : ∀ (n a : Nat) (st : Array Nat × Nat), st.snd ≤ a → st.fst.size + n ≤ limit →
    (forIn (List.range' a n) st (occBody x ⟨#[c]⟩ hi limit)).run.fst.size = st.fst.size + (List.range' a n).countP (fun i => decide (i + 1 ≤ hi) && hitAt x c i)
  | 0, a, st, h1, h2 => by simp
  | n + 1, a, st, h1, h2 => by
    rw [List.range'_succ, List.forIn_cons, List.countP_cons]
    have hb : occBody x ⟨#[c]⟩ hi limit a st = pure (ForInStep.yield (if a + 1 ≤ hi ∧ hitAt x c a = true then (st.fst.push a, a + 1) else st)) := by
      unfold occBody
      rw [subAt_one]
      by_cases hc : a + 1 ≤ hi ∧ hitAt x c a = true
      · rw [if_pos hc, if_pos ⟨⟨⟨by omega, h1⟩, hc.1⟩, hc.2⟩]; rfl
      · rw [if_neg hc, if_neg fun h => hc ⟨h.1.2, h.2⟩]
    rw [hb]
    refine (occ_cnt x c hi limit n (a + 1) (if a + 1 ≤ hi ∧ hitAt x c a = true then (st.fst.push a, a + 1) else st) ?_ ?_).trans ?_
    · split
      · exact Nat.le_refl _
      · exact Nat.le_succ_of_le h1
    · split
      · show (st.fst.push a).size + n ≤ limit
        rw [Array.size_push]; omega
      · omega
    · by_cases hc : a + 1 ≤ hi ∧ hitAt x c a = true
      · rw [if_pos hc]
        simp only [Array.size_push, hc.1, hc.2, decide_true, Bool.true_and, if_true]
        omega
      · rw [if_neg hc]
        have : (decide (a + 1 ≤ hi) && hitAt x c a) = false := by
          rw [Bool.eq_false_iff]; intro h; rw [Bool.and_eq_true, decide_eq_true_eq] at h; exact hc h
        simp only [this, Bool.false_eq_true, if_false]
        omega
theorem cnt_take (l : List Nat) (c : Nat) : ∀ n, n ≤ l.length → (List.range' 0 n).countP (fun i => l[i]? == some c) = (l.take n).count c
  | 0, _ => by simp
  | n + 1, h => by
    rw [List.range'_concat, List.countP_append, cnt_take l c n (by omega), List.take_add_one, List.count_append]
    simp only [Nat.zero_add, Nat.one_mul]
    rw [List.getElem?_eq_getElem (show n < l.length by omega)]
    simp [List.count_cons, List.countP_cons, List.getElem?_eq_getElem (show n < l.length by omega)]
theorem occ_take (x : Str) (c pos limit : Nat) (h : pos ≤ x.length) (hl : x.length + 1 ≤ limit) : (occurrences x ⟨#[c]⟩ 0 pos limit).length = (x.cps.toList.take pos).count c := by
  have hx : x.cps.toList.length = x.length := Array.length_toList
  rw [occ_eq, Array.length_toList]
  rw [Nat.sub_zero, occ_cnt x c pos limit (pos + 1) 0 _ (Nat.le_refl _) (by simp only [List.size_toArray, List.length_nil]; omega)]
  rw [List.range'_concat, List.countP_append]
  simp only [Nat.zero_add, Nat.one_mul, List.size_toArray, List.length_nil]
  rw [← cnt_take x.cps.toList c pos (by omega)]
  have : (List.countP (fun i => decide (i + 1 ≤ pos) && hitAt x c i) [pos]) = 0 := by simp; omega
  rw [this, Nat.add_zero]
  refine List.countP_congr fun i hi => ?_
  rw [List.mem_range'_1] at hi
  simp [hitAt, show i + 1 ≤ pos by omega]
theorem last_eq (x : Str) (c lo hi : Nat) : lastOccurrence x ⟨#[c]⟩ lo hi = (List.range' lo (hi + 1 - lo)).foldl (fun st i => if i + 1 ≤ hi ∧ hitAt x c i = true then some i else st) none := by
  unfold lastOccurrence
  simp only [subAt_one]
  have hf : ∀ (i : Nat) (r : Option Nat), (if i + 1 ≤ hi ∧ hitAt x c i = true then (pure (ForInStep.yield (some i)) : Id _) else pure (ForInStep.yield r)) = pure (ForInStep.yield (if i + 1 ≤ hi ∧ hitAt x c i = true then some i else r)) := by intros; split <;> rfl
  simp [Str.length, hf]
noncomputable def lastN (x : Str) (c : Nat) : Nat → Option Nat
  | 0 => none
  | n + 1 => if hitAt x c n = true then some n else lastN x c n
theorem lastN_eq (x : Str) (c hi : Nat) : ∀ n, n ≤ hi → (List.range' 0 n).foldl (fun st i => if i + 1 ≤ hi ∧ hitAt x c i = true then some i else st) none = lastN x c n
  | 0, _ => rfl
  | n + 1, h => by
    rw [List.range'_concat, List.foldl_append, lastN_eq x c hi n (by omega)]
    simp [lastN, show n + 1 ≤ hi by omega]
theorem last_take (x : Str) (c pos : Nat) : lastOccurrence x ⟨#[c]⟩ 0 pos = lastN x c pos := by
  rw [last_eq, Nat.sub_zero, List.range'_concat, List.foldl_append, lastN_eq x c pos pos (Nat.le_refl _)]
  simp; omega
theorem lastN_col (x : Str) (c : Nat) : ∀ n, n ≤ x.length → (x.cps.toList.take n).count c ≠ 0 → ∃ k, lastN x c n = some k ∧ n = k + ((x.cps.toList.take n).reverse.takeWhile (· != c)).length + 1
  | 0, _, h => by simp at h
  | n + 1, hn, h => by
    have hx : x.cps.toList.length = x.length := Array.length_toList
    have hg : x.cps.toList[n]? = some (x.cps.toList[n]'(by omega)) := List.getElem?_eq_getElem (by omega)
    rw [List.take_add_one, hg] at h ⊢
    simp only [Option.toList_some, List.reverse_append, List.reverse_cons, List.reverse_nil, List.nil_append, List.cons_append, List.takeWhile_cons]
    unfold lastN hitAt
    rw [hg]
    by_cases hc : x.cps.toList[n]'(by omega) = c
    · refine ⟨n, ?_, ?_⟩ <;> simp [hc]
    · have hc' : ¬x.cps[n]'(by rw [Array.length_toList] at hx; unfold Str.length at hn; omega) = c := by simpa using hc
      obtain ⟨k, h1, h2⟩ := lastN_col x c n (by omega) (fun h0 => h (by rw [List.count_append, h0]; simp [List.count_cons, hc']))
      refine ⟨k, ?_, ?_⟩
      · simp [hc', h1]
      · have : (x.cps.toList[n]'(by omega) != c) = true := by simpa using hc
        rw [if_pos this, List.length_cons]; omega
theorem tw_all {p : Nat → Bool} : ∀ {l : List Nat}, (∀ a ∈ l, p a = true) → l.takeWhile p = l
  | [], _ => rfl
  | a :: l, h => by rw [List.takeWhile_cons, if_pos (h a (.head _)), tw_all fun b hb => h b (.tail _ hb)]
theorem noNl_col (x : Str) (c : Nat) (n : Nat) (hn : n ≤ x.length) (h : (x.cps.toList.take n).count c = 0) : ((x.cps.toList.take n).reverse.takeWhile (· != c)).length = n := by
  have hx : x.cps.toList.length = x.length := Array.length_toList
  rw [tw_all, List.length_reverse, List.length_take]
  · omega
  · intro a ha
    rw [List.mem_reverse] at ha
    rw [List.count_eq_zero] at h
    simp only [bne_iff_ne, ne_eq]
    rintro rfl; exact h ha
end Mine
end
-- P2
noncomputable section
open PySem PySem.W PyProof.Rows
namespace Mine
noncomputable def HEXS : Str := Str.ofString "0123456789abcdef0123456789ABCDEF"
noncomputable def hexC (i : Nat) : Nat := HEXS.cps.getD i 0
noncomputable def figC (n large k : Nat) : Nat := hexC (n / 16 ^ k % 16 + 16 * (large / 2 ^ k % 2))
noncomputable def figS (n large size : Nat) : Str := ⟨((List.range size).reverse.map (figC n large)).toArray⟩
noncomputable def one (c : Nat) : Str := ⟨#[c]⟩
theorem item_hex : ∀ i : Nat, i < 32 → Txt.item (Str.ofString "0123456789abcdef0123456789ABCDEF") (i : Int) = one (hexC i) := by
  have h : (List.range 32).all (fun i => decide (Txt.item (Str.ofString "0123456789abcdef0123456789ABCDEF") (i : Int) = one (hexC i))) = true := by kernel_rfl
  intro i hi
  exact of_decide_eq_true (List.all_eq_true.mp h i (List.mem_range.mpr hi))
theorem fdiv_nat (m k : Nat) : (m : Int).fdiv k = ((m / k : Nat) : Int) := by
  rw [Int.fdiv_eq_ediv_of_nonneg _ (Int.natCast_nonneg k)]; rfl
theorem fmod_nat (m k : Nat) : (m : Int).fmod k = ((m % k : Nat) : Int) := by
  rw [Int.fmod_eq_emod_of_nonneg _ (Int.natCast_nonneg k)]; rfl
theorem dig_eq (n large j : Nat) : Txt.item (Str.ofString "0123456789abcdef0123456789ABCDEF") ((n : Int).fmod 16 + 16 * ((large : Int).fdiv (2 ^ j)).fmod 2) = one (hexC (n % 16 + 16 * (large / 2 ^ j % 2))) := by
  have h1 : (n : Int).fmod 16 = ((n % 16 : Nat) : Int) := fmod_nat n 16
  have h2 : (large : Int).fdiv (2 ^ j) = ((large / 2 ^ j : Nat) : Int) := by
    have := fdiv_nat large (2 ^ j)
    rwa [Int.natCast_pow] at this
  have h3 : (((large / 2 ^ j : Nat) : Int)).fmod 2 = ((large / 2 ^ j % 2 : Nat) : Int) := fmod_nat _ 2
  rw [h1, h2, h3, ← item_hex _ (by omega)]
  congr 1
theorem div16 (n : Nat) : (n : Int).fdiv 16 = ((n / 16 : Nat) : Int) := fdiv_nat n 16
theorem one_app (a : Nat) (l : List Nat) : one a ++ (⟨l.toArray⟩ : Str) = ⟨(a :: l).toArray⟩ := by
  show Str.append _ _ = _
  simp [one, Str.append]
noncomputable def shr (n : Int) : Nat → Int
  | 0 => n
  | k + 1 => (shr n k).fdiv 16
noncomputable def walkF (n large : Int) : Nat → Str
  | 0 => Str.ofString ""
  | k + 1 => Txt.item (Str.ofString "0123456789abcdef0123456789ABCDEF") ((shr n k).fmod 16 + 16 * (large.fdiv (2 ^ (0 + (k : Int)).toNat)).fmod 2) ++ walkF n large k
theorem shr_eq (n : Nat) : ∀ k, shr n k = ((n / 16 ^ k : Nat) : Int)
  | 0 => by simp [shr]
  | k + 1 => by rw [shr, shr_eq n k, div16, Nat.div_div_eq_div_mul, Nat.pow_succ]
theorem walkF_eq (n large : Nat) : ∀ k, walkF n large k = figS n large k
  | 0 => by unfold walkF figS; kernel_rfl
  | k + 1 => by
    rw [walkF, walkF_eq n large k, shr_eq, show (0 + (k : Int)).toNat = k by omega, dig_eq]
    unfold figS
    rw [List.range_succ, List.reverse_append, List.reverse_cons, List.reverse_nil, List.nil_append, List.cons_append, List.nil_append, List.map_cons, one_app]
    rfl
theorem fig4_eq (n large : Nat) :
  (Txt.item (Str.ofString "0123456789abcdef0123456789ABCDEF") (((((n : Int).fdiv 16).fdiv 16).fdiv 16).fmod 16 + 16 * ((large : Int).fdiv (2 ^ (0 + ((0 + 1 + 1 + 1 : Nat) : Int)).toNat)).fmod 2) ++
        (Txt.item (Str.ofString "0123456789abcdef0123456789ABCDEF") ((((n : Int).fdiv 16).fdiv 16).fmod 16 + 16 * ((large : Int).fdiv (2 ^ (0 + ((0 + 1 + 1 : Nat) : Int)).toNat)).fmod 2) ++
          (Txt.item (Str.ofString "0123456789abcdef0123456789ABCDEF") (((n : Int).fdiv 16).fmod 16 + 16 * ((large : Int).fdiv (2 ^ (0 + ((0 + 1 : Nat) : Int)).toNat)).fmod 2) ++
            (Txt.item (Str.ofString "0123456789abcdef0123456789ABCDEF") ((n : Int).fmod 16 + 16 * ((large : Int).fdiv (2 ^ (0 + ((0 : Nat) : Int)).toNat)).fmod 2) ++ Str.ofString "")))) = figS n large 4 := walkF_eq n large 4
end Mine
namespace Mine
noncomputable def firstL : List Nat := [34, 92, 39, 9, 10, 13, 8, 12, 127, 0, 31, 32, 47, 48, 117, 85, 98, 110, 65, 102, 128, 55295, 57344, 65535, 65536, 1114111]
noncomputable def signC (k : Nat) : Nat := if k < 26 then firstL.getD k 0 else if k - 26 < 55296 then k - 26 else k - 26 + 2048
end Mine
namespace Mine
abbrev firstI : List Int := [34, 92, 39, 9, 10, 13, 8, 12, 127, 0, 31, 32, 47, 48, 117, 85, 98, 110, 65, 102, 128, 55295, 57344, 65535, 65536, 1114111]
theorem getD_bd {a b : Int} (h0 : a ≤ 0 ∧ 0 ≤ b) : ∀ (l : List Int) (j : Nat), (l.all fun x => decide (a ≤ x ∧ x ≤ b)) = true → a ≤ l.getD j 0 ∧ l.getD j 0 ≤ b
  | [], _, _ => h0
  | x :: l, 0, h => by
    rw [List.all_cons, Bool.and_eq_true] at h
    exact of_decide_eq_true h.1
  | x :: l, j + 1, h => by
    rw [List.all_cons, Bool.and_eq_true] at h
    exact getD_bd h0 l j h.2
theorem first_bd (j : Nat) : 0 ≤ firstI.getD j 0 ∧ firstI.getD j 0 ≤ 1114111 := getD_bd (by omega) _ _ (by decide +kernel)
theorem sign_e1 {k : Nat} (h : (k : Int) < 26) : (⟨#[(firstI.getD (k : Int).toNat 0).toNat]⟩ : Str) = one (signC k) := by
  have h' : k < 26 := by omega
  have hh : (List.range 26).all (fun k => decide ((firstI.getD k 0).toNat = firstL.getD k 0)) = true := by decide +kernel
  have := of_decide_eq_true (List.all_eq_true.mp hh k (List.mem_range.mpr h'))
  rw [show (k : Int).toNat = k by omega, this]
  unfold signC
  rw [if_pos h']
  rfl
theorem sign_e2 {k : Nat} (h : ¬ (k : Int) < 26) (h2 : (k : Int) - 26 < 55296) : (⟨#[((k : Int) - 26).toNat]⟩ : Str) = one (signC k) := by
  unfold signC one
  have h0 : ¬ k < 26 := fun q => h (Int.ofNat_lt.mpr q)
  have e : (k : Int) - 26 = ((k - 26 : Nat) : Int) := (Int.ofNat_sub (Nat.le_of_not_lt h0)).symm
  rw [e] at h2 ⊢
  rw [if_neg h0, if_pos (Int.ofNat_lt.mp h2)]
  rfl
theorem sign_e3 {k : Nat} (h : ¬ (k : Int) < 26) (h2 : ¬ (k : Int) - 26 < 55296) : (⟨#[((k : Int) - 26 + 2048).toNat]⟩ : Str) = one (signC k) := by
  unfold signC one
  have h0 : ¬ k < 26 := fun q => h (Int.ofNat_lt.mpr q)
  have e : (k : Int) - 26 = ((k - 26 : Nat) : Int) := (Int.ofNat_sub (Nat.le_of_not_lt h0)).symm
  rw [e] at h2 ⊢
  rw [if_neg h0, if_neg (fun q => h2 (Int.ofNat_lt.mpr q))]
  rfl
theorem signC_ok {k : Nat} (h : k < 1112090) : signC k ≤ 1114111 ∧ (signC k < 55296 ∨ 57344 ≤ signC k) := by
  unfold signC
  split
  · rename_i h'
    have hh : (List.range 26).all (fun k => decide (firstL.getD k 0 ≤ 1114111 ∧ (firstL.getD k 0 < 55296 ∨ 57344 ≤ firstL.getD k 0))) = true := by decide +kernel
    exact of_decide_eq_true (List.all_eq_true.mp hh k (List.mem_range.mpr h'))
  · split <;> omega
end Mine
namespace Mine
noncomputable def shortOf (c : Nat) : Str := if c = 8 then Str.ofString "b" else if c = 9 then Str.ofString "t" else if c = 10 then Str.ofString "n" else if c = 12 then Str.ofString "f" else if c = 13 then Str.ofString "r" else one c
noncomputable def jsonS (c way : Nat) : Str :=
  if way % 3 = 0 ∧ 32 ≤ c ∧ c ≠ 34 ∧ c ≠ 92 then one c
  else if way % 3 ≤ 1 ∧ c ∈ [8, 9, 10, 12, 13, 34, 47, 92] then Str.ofString "\\" ++ shortOf c
  else if c < 65536 then Str.ofString "\\u" ++ figS c (way / 3) 4
  else Str.ofString "\\u" ++ figS (55296 + (c - 65536) / 1024) (way / 3) 4 ++ Str.ofString "\\u" ++ figS (56320 + (c - 65536) % 1024) (way / 48) 4
end Mine
end
-- H1
noncomputable section
open PySem PySem.W PySem.Calls PyProof.Rows
namespace Mine
-- 1. the probing sequence visits every slot
noncomputable def it (m : Nat) : Nat → Nat × Nat → Nat × Nat
  | 0, x => x
  | n + 1, x => it m n (SetTable.leap m x.1 x.2)
theorem it_add (m : Nat) : ∀ (a b : Nat) (x : Nat × Nat), it m (a + b) x = it m b (it m a x)
  | 0, b, x => by rw [Nat.zero_add]; rfl
  | a + 1, b, x => by rw [show a + 1 + b = (a + b) + 1 by omega]; exact it_add m a b _
theorem it_pert (m : Nat) : ∀ (n : Nat) (x : Nat × Nat), (it m n x).2 = x.2 / 32 ^ n
  | 0, x => by simp [it]
  | n + 1, x => by
    rw [it, it_pert m n]
    show x.2 / 32 / 32 ^ n = _
    rw [Nat.div_div_eq_div_mul, Nat.pow_succ, Nat.mul_comm]
theorem it_lt (m : Nat) (hm : 0 < m + 1) : ∀ (n : Nat) (x : Nat × Nat), x.1 < m + 1 → (it m n x).1 < m + 1
  | 0, x, h => h
  | n + 1, x, h => it_lt m hm n _ (Nat.mod_lt _ hm)
noncomputable def seenBits (m : Nat) : Nat → Nat × Nat → Nat → Nat
  | 0, _, acc => acc
  | n + 1, x, acc => seenBits m n (SetTable.leap m x.1 x.2) (acc ||| (1 <<< x.1))
theorem seenBits_spec (m j : Nat) : ∀ (n : Nat) (x : Nat × Nat) (acc : Nat), (seenBits m n x acc).testBit j = true → acc.testBit j = true ∨ ∃ k, k < n ∧ (it m k x).1 = j
  | 0, x, acc, h => .inl h
  | n + 1, x, acc, h => by
    rcases seenBits_spec m j n _ _ h with h | ⟨k, hk, e⟩
    · rw [Nat.testBit_or, Bool.or_eq_true] at h
      rcases h with h | h
      · exact .inl h
      · right
        refine ⟨0, Nat.succ_pos _, ?_⟩
        rw [Nat.one_shiftLeft, Nat.testBit_two_pow] at h
        exact of_decide_eq_true h
    · exact .inr ⟨k + 1, by omega, e⟩
noncomputable def covers (m : Nat) : Bool := (List.range (m + 1)).all fun i => seenBits m (m + 1) (i, 0) 0 == 2 ^ (m + 1) - 1
theorem covers_spec {m : Nat} (h : covers m = true) {i j : Nat} (hi : i < m + 1) (hj : j < m + 1) : ∃ k, k < m + 1 ∧ (it m k (i, 0)).1 = j := by
  have := List.all_eq_true.mp h i (List.mem_range.mpr hi)
  have e := beq_iff_eq.mp this
  have : (seenBits m (m + 1) (i, 0) 0).testBit j = true := by
    rw [e, Nat.testBit_two_pow_sub_one]
    exact decide_eq_true hj
  rcases seenBits_spec m j _ _ _ this with h | h
  · rw [Nat.zero_testBit] at h; cases h
  · exact h
theorem covers_7 : covers 7 = true := by decide +kernel
theorem covers_127 : covers 127 = true := by decide +kernel
theorem free_some (m : Nat) (owner : Array (Option Nat)) : ∀ (fuel i pert j : Nat), SetTable.layClean.free m owner fuel i pert = some j → owner.getD j (some 0) = none
  | 0, _, _, _, h => by cases h
  | fuel + 1, i, pert, j, h => by
    unfold SetTable.layClean.free at h
    split at h
    · rename_i k hk
      cases h
      have := List.find?_some hk
      exact Option.isNone_iff_eq_none.mp this
    · exact free_some m owner fuel _ _ j h
theorem free_none (m : Nat) (owner : Array (Option Nat)) : ∀ (fuel i pert : Nat), SetTable.layClean.free m owner fuel i pert = none →
    ∀ k, k < fuel → (owner.getD (it m k (i, pert)).1 (some 0)).isSome = true
  | 0, _, _, _, k, hk => by omega
  | fuel + 1, i, pert, h, k, hk => by
    unfold SetTable.layClean.free at h
    split at h
    · cases h
    · rename_i hn
      cases k with
      | zero =>
        have hr : 0 ∈ List.range (SetTable.runEnd m i + 1 - i) := by
          rw [List.mem_range]
          unfold SetTable.runEnd
          split <;> omega
        have := List.find?_eq_none.mp hn 0 hr
        rw [Nat.add_zero] at this
        show (owner.getD i (some 0)).isSome = true
        revert this
        cases owner.getD i (some 0) <;> simp
      | succ k => exact free_none m owner fuel _ _ h k (by omega)
theorem bits_lt (h : Int) : SetTable.bits h < 2 ^ 64 := by
  unfold SetTable.bits
  have h1 := Int.emod_lt_of_pos h (show (0 : Int) < 2 ^ 64 by decide)
  have h0 := Int.emod_nonneg h (show (2 ^ 64 : Int) ≠ 0 by decide)
  omega
theorem free_ok {m : Nat} (hc : covers m = true) {owner : Array (Option Nat)} {j : Nat} (hj : j < m + 1) (hf : owner.getD j (some 0) = none) (h : Int) :
    ∃ j', SetTable.layClean.free m owner (SetTable.turns m) (SetTable.bits h % (m + 1)) (SetTable.bits h) = some j' ∧ owner.getD j' (some 0) = none := by
  cases e : SetTable.layClean.free m owner (SetTable.turns m) (SetTable.bits h % (m + 1)) (SetTable.bits h) with
  | some j' => exact ⟨j', rfl, free_some _ _ _ _ _ _ e⟩
  | none =>
    exfalso
    have hn := free_none _ _ _ _ _ e
    have hp : (it m 13 (SetTable.bits h % (m + 1), SetTable.bits h)).2 = 0 := by
      rw [it_pert]
      exact Nat.div_eq_of_lt (Nat.lt_of_lt_of_le (bits_lt h) (by decide))
    have hl := it_lt m (Nat.succ_pos m) 13 (SetTable.bits h % (m + 1), SetTable.bits h) (Nat.mod_lt _ (Nat.succ_pos m))
    obtain ⟨k, hk, ek⟩ := covers_spec hc hl hj
    have := hn (13 + k) (by unfold SetTable.turns; omega)
    rw [it_add] at this
    have e2 : it m 13 (SetTable.bits h % (m + 1), SetTable.bits h) = ((it m 13 (SetTable.bits h % (m + 1), SetTable.bits h)).1, 0) := by rw [← hp]
    rw [e2, ek, hf] at this
    cases this
-- 2. laying clean
theorem filterMap_set {l : List (Option Nat)} {j k : Nat} (h : l[j]? = some none) : ((l.set j (some k)).filterMap id).Perm (k :: l.filterMap id) := by
  induction l generalizing j with
  | nil => cases h
  | cons a l ih =>
    cases j with
    | zero =>
      rw [List.getElem?_cons_zero, Option.some.injEq] at h
      subst h
      simp
    | succ j =>
      rw [List.getElem?_cons_succ] at h
      have := ih h
      cases a with
      | none => simpa using this
      | some b =>
        simp only [List.set_cons_succ, List.filterMap_cons, id]
        exact (List.Perm.cons b this).trans (List.Perm.swap k b _)
theorem some_none {l : List (Option Nat)} (h : (l.filterMap id).length < l.length) : ∃ j : Nat, l[j]? = some none := by
  induction l with
  | nil => cases h
  | cons a l ih =>
    cases a with
    | none => exact ⟨0, rfl⟩
    | some b =>
      obtain ⟨j, hj⟩ := ih (by simpa using h)
      exact ⟨j + 1, by simpa using hj⟩
theorem layClean_go {m : Nat} (hc : covers m = true) : ∀ (hs : List Int) (owner : Array (Option Nat)) (k : Nat), owner.size = m + 1 → (owner.toList.filterMap id).Perm (List.range k) → k + hs.length ≤ m →
    ∃ owner', hs.foldl (init := some (owner, k)) (fun acc h => do
      let (owner, k) ← acc
      let j ← SetTable.layClean.free m owner (SetTable.turns m) (SetTable.bits h % (m + 1)) (SetTable.bits h)
      pure (owner.setIfInBounds j (some k), k + 1)) = some (owner', k + hs.length) ∧ owner'.size = m + 1 ∧ (owner'.toList.filterMap id).Perm (List.range (k + hs.length))
  | [], owner, k, hs, hp, _ => ⟨owner, rfl, hs, hp⟩
  | h :: hs, owner, k, hsz, hp, hle => by
    have hlen : (owner.toList.filterMap id).length < owner.toList.length := by
      rw [hp.length_eq, List.length_range, Array.length_toList, hsz]
      simp only [List.length_cons] at hle
      omega
    obtain ⟨j, hj⟩ := some_none hlen
    have hjlt : j < m + 1 := by
      have := List.getElem?_eq_some_iff.mp hj
      rw [← hsz, ← Array.length_toList]
      exact this.1
    have hjn : owner.getD j (some 0) = none := by
      rw [Array.getD_eq_getD_getElem?, ← Array.getElem?_toList, hj]; rfl
    obtain ⟨j', e1, e2⟩ := free_ok hc hjlt hjn h
    have hj' : owner.toList[j']? = some none := by
      rw [Array.getD_eq_getD_getElem?, ← Array.getElem?_toList] at e2
      cases q : owner.toList[j']? with
      | none => rw [q] at e2; cases e2
      | some v => rw [q] at e2; exact congrArg some e2
    have hp' : ((owner.setIfInBounds j' (some k)).toList.filterMap id).Perm (List.range (k + 1)) := by
      rw [Array.toList_setIfInBounds]
      refine (filterMap_set hj').trans ?_
      rw [List.range_succ]
      exact (List.Perm.cons k hp).trans (List.perm_append_singleton k (List.range k)).symm
    obtain ⟨o', q1, q2, q3⟩ := layClean_go hc hs (owner.setIfInBounds j' (some k)) (k + 1) (by rw [Array.size_setIfInBounds]; exact hsz) hp' (by simp only [List.length_cons] at hle; omega)
    refine ⟨o', ?_, q2, ?_⟩
    · rw [List.foldl_cons]
      have : ((do
        let (owner, k) ← some (owner, k)
        let j ← SetTable.layClean.free m owner (SetTable.turns m) (SetTable.bits h % (m + 1)) (SetTable.bits h)
        pure (owner.setIfInBounds j (some k), k + 1)) : Option (Array (Option Nat) × Nat)) = some (owner.setIfInBounds j' (some k), k + 1) := by
        show ((SetTable.layClean.free m owner (SetTable.turns m) (SetTable.bits h % (m + 1)) (SetTable.bits h)).bind fun j => some (owner.setIfInBounds j (some k), k + 1)) = _
        rw [e1]; rfl
      rw [this, q1, List.length_cons]
      congr 2
      omega
    · rw [List.length_cons]
      have : k + (hs.length + 1) = k + 1 + hs.length := by omega
      rw [this]; exact q3
theorem laid_ok {m : Nat} (hc : covers m = true) {hashes : Array Int} (hn : hashes.size ≤ m) (finger moves : Nat) (led plain : Bool) :
    ∃ place order, SetTable.laid m finger moves led plain hashes = some ({ mask := m, place, dummies := #[], finger, led, moves, plain }, order) ∧ place.size = hashes.size ∧ order.toList.Perm (List.range hashes.size) := by
  obtain ⟨o', q1, q2, q3⟩ := layClean_go hc hashes.toList (Array.replicate (m + 1) none) 0 (by simp) (by
    rw [Array.toList_replicate]
    have : ∀ n, (List.replicate n (none : Option Nat)).filterMap id = [] := fun n => by induction n <;> simp_all [List.replicate_succ]
    rw [this]; exact List.Perm.refl _) (by rw [Nat.zero_add, Array.length_toList]; exact hn)
  have hl : SetTable.layClean m hashes = some o' := by
    unfold SetTable.layClean
    rw [← Array.foldl_toList, q1]; rfl
  rw [Nat.zero_add, Array.length_toList] at q3
  have e : ∀ l : List (Option Nat), ((List.range l.length).filterMap fun j => ((l[j]?).getD none).map (j, ·)).map (·.2) = l.filterMap id := by
    intro l
    rw [List.map_filterMap]
    have : (fun x => Option.map (fun p : Nat × Nat => p.2) (Option.map (fun y => (x, y)) ((l[x]?).getD none))) = fun x => (l[x]?).getD none := by
      funext x; cases (l[x]?).getD none <;> rfl
    rw [this]
    induction l with
    | nil => rfl
    | cons a l ih =>
      rw [List.length_cons, List.range_succ_eq_map, List.filterMap_cons, List.filterMap_map]
      have ih' := ih (by funext x; cases (l[x]?).getD none <;> rfl)
      have e2 : ((fun x => ((a :: l)[x]?).getD none) ∘ Nat.succ) = fun x => (l[x]?).getD none := by funext x; simp
      rw [e2, ih']
      cases a <;> simp
  have e1 := e o'.toList
  rw [Array.length_toList, q2] at e1
  have e3 : (fun j => (o'.getD j none).map fun x => (j, x)) = fun j => ((o'.toList[j]?).getD none).map (j, ·) := by
    funext j; rw [Array.getD_eq_getD_getElem?, Array.getElem?_toList]
  refine ⟨(((List.range (m + 1)).filterMap fun j => (o'.getD j none).map (j, ·)).map (·.1)).toArray, (((List.range (m + 1)).filterMap fun j => (o'.getD j none).map (j, ·)).map (·.2)).toArray, ?_, ?_, ?_⟩
  · unfold SetTable.laid
    rw [hl]
    rfl
  · rw [List.size_toArray, List.length_map, e3]
    have := congrArg List.length e1
    rw [List.length_map] at this
    rw [this, q3.length_eq, List.length_range]
  · show (List.map _ _).Perm _
    rw [e3, e1]; exact q3
end Mine
end
-- H2
noncomputable section
open PySem PySem.W PySem.Calls PyProof.Rows
namespace Mine
-- 3. the logic of a run that comes through
noncomputable def TopOK (p : Program) (w : World) (n₀ : Nat) (ann : Option Value) (Φ : Shared → Prop) (N : Nat) (s : Shared) (t : Thread) : Prop :=
  ∃ r, topRun treeTable p w n₀ ann N s t = some r ∧ Φ r
section
variable {p : Program} {w : World} {n₀ : Nat} {ann : Option Value} {Φ : Shared → Prop} {N : Nat} {s s' : Shared} {t t' : Thread}
theorem TopOK.mono (k : Nat) (h : TopOK p w n₀ ann Φ N s t) : TopOK p w n₀ ann Φ (N + k) s t := let ⟨r, a, b⟩ := h; ⟨r, topRun_mono k _ _ _ _ a, b⟩
theorem TopOK.le {N' : Nat} (h : TopOK p w n₀ ann Φ N s t) (le : N ≤ N') : TopOK p w n₀ ann Φ N' s t := by
  have := h.mono (N' - N)
  rwa [show N + (N' - N) = N' by omega] at this
theorem TopOK.go {n : Nat} (g : topGo treeTable p w n₀ ann n s t = some (s', t')) (h : TopOK p w n₀ ann Φ N s' t') : TopOK p w n₀ ann Φ (n + N) s t := let ⟨r, a, b⟩ := h; ⟨r, go_top g a, b⟩
theorem TopOK.step1 (h1 : through t = false) (h2 : stepOk n₀ ann t = true) (h3 : step (denote treeTable) p w s t = .go s' t') (h : TopOK p w n₀ ann Φ N s' t') : TopOK p w n₀ ann Φ (N + 1) s t := by
  obtain ⟨r, a, b⟩ := h
  refine ⟨r, ?_, b⟩
  unfold topRun
  rw [h1, h2, h3]
  exact a
end
noncomputable def wq {α : Type} (p : Program) (w : World) (n₀ : Nat) (ann : Option Value) (c : Nat) (x : Sem α) (Q : α → Shared → Prop) (s : Shared) : Prop :=
  ∀ (Φ : Shared → Prop) (N : Nat) (K : α → Sem Fin) (H : Value → Sem Fin) (gd : Bool → Bool) (lv : List Value → List Value) (code : Code) (pos : Pos) (F : Frame) (st : List Frame),
    (∀ a s', Q a s' → TopOK p w n₀ ann Φ N s' ⟨K a, code, pos, F :: st⟩) → TopOK p w n₀ ann Φ (N + c) s ⟨x.wrap K H gd lv, code, pos, F :: st⟩
theorem bind_wrap {α β γ : Type} (m : Sem α) (f : α → Sem β) (K : β → Sem γ) (H : Value → Sem γ) (gd : Bool → Bool) (lv : List Value → List Value) :
    (m >>= f).wrap K H gd lv = m.wrap (fun a => (f a).wrap K H gd lv) H gd lv := by
  rw [Sem.bind_eq_wrap', Sem.wrap_wrap]
  rfl
section
variable {p : Program} {w : World} {n₀ : Nat} {ann : Option Value} {s : Shared} {α β : Type} {c c1 c2 : Nat}
theorem wq_pure {a : α} {Q : α → Shared → Prop} (h : Q a s) : wq p w n₀ ann 0 (pure a) Q s := fun Φ N K H gd lv code pos F st hK => hK a s h
theorem wq_le {x : Sem α} {Q : α → Shared → Prop} (h : wq p w n₀ ann c1 x Q s) (le : c1 ≤ c2) : wq p w n₀ ann c2 x Q s := fun Φ N K H gd lv code pos F st hK => (h Φ N K H gd lv code pos F st hK).le (by omega)
theorem wq_mono {x : Sem α} {Q Q' : α → Shared → Prop} (h : wq p w n₀ ann c x Q s) (hq : ∀ a s', Q a s' → Q' a s') : wq p w n₀ ann c x Q' s := fun Φ N K H gd lv code pos F st hK => h Φ N K H gd lv code pos F st fun a s' q => hK a s' (hq a s' q)
theorem wq_bind {m : Sem α} {f : α → Sem β} {Q : β → Shared → Prop} (h : wq p w n₀ ann c1 m (fun a s' => wq p w n₀ ann c2 (f a) Q s') s) : wq p w n₀ ann (c2 + c1) (m >>= f) Q s := fun Φ N K H gd lv code pos F st hK => by
  rw [bind_wrap, ← Nat.add_assoc]
  exact h Φ (N + c2) _ H gd lv code pos F st fun a s' hq => hq Φ N K H gd lv code pos F st hK
theorem wq_holding {vs : List Value} {m : Sem α} {Q : α → Shared → Prop} (h : wq p w n₀ ann c m Q s) : wq p w n₀ ann c (holding vs m) Q s := by
  unfold holding
  split
  · exact h
  · intro Φ N K H gd lv code pos F st hK
    rw [Sem.keep_eq_wrap, Sem.wrap_wrap]
    exact h Φ N K H _ _ code pos F st hK
theorem wq_rule {tag : String} {Q : Unit → Shared → Prop} (h : Q () s) : wq p w n₀ ann 1 (rule tag) Q s := fun Φ N K H gd lv code pos F st hK => TopOK.step1 rfl rfl rfl (hK () s h)
theorem wq_load {a : Addr} {o : Obj} {Q : Obj → Shared → Prop} (ho : s.heap.get? a = some o) (h : Q o s) : wq p w n₀ ann 1 (load a) Q s := fun Φ N K H gd lv code pos F st hK =>
  TopOK.step1 (s' := s) (t' := ⟨K o, code, pos, F :: st⟩) rfl rfl (by obtain ⟨hp, g, d, k, os⟩ := s; show (match hp.get? a with | some o => _ | none => _) = _; rw [show hp.get? a = some o from ho]; rfl) (hK o s h)
theorem wq_loadPart {a : Addr} {part : Option Value} {o : Obj} {Q : Obj → Shared → Prop} (ho : s.heap.get? a = some o) (h : Q o s) : wq p w n₀ ann 1 (loadPart a part) Q s := fun Φ N K H gd lv code pos F st hK =>
  TopOK.step1 (s' := s) (t' := ⟨K o, code, pos, F :: st⟩) rfl rfl (by obtain ⟨hp, g, d, k, os⟩ := s; show (match hp.get? a with | some o => _ | none => _) = _; rw [show hp.get? a = some o from ho]; rfl) (hK o s h)
theorem wq_ask {Q : Setting → Shared → Prop} (h : Q ⟨p, w.params⟩ s) : wq p w n₀ ann 1 ask Q s := fun Φ N K H gd lv code pos F st hK => TopOK.step1 rfl rfl rfl (hK _ s h)
theorem wq_point {Q : Unit → Shared → Prop} (h : Q () s) : wq p w n₀ ann 1 point Q s := fun Φ N K H gd lv code pos F st hK => TopOK.step1 rfl rfl rfl (hK () s h)
theorem wq_alloc {o : Obj} {Q : Addr → Shared → Prop} (h : Q s.heap.objs.size { s with heap := s.heap.push o }) : wq p w n₀ ann 1 (alloc o) Q s := fun Φ N K H gd lv code pos F st hK => TopOK.step1 rfl rfl rfl (hK _ _ h)
theorem wq_update {a : Addr} {f : Obj → Obj} {o : Obj} {Q : Unit → Shared → Prop} (ha : n₀ ≤ a) (ho : s.heap.get? a = some o) (h : Q () { s with heap := s.heap.update a f }) : wq p w n₀ ann 1 (update a f) Q s := fun Φ N K H gd lv code pos F st hK =>
  TopOK.step1 (s' := { s with heap := s.heap.update a f }) (t' := ⟨K (), code, pos, F :: st⟩) rfl (by
    show (true && (n₀.ble a || _ || _ || _)) = true
    rw [Nat.ble_eq_true_of_le ha]; rfl) (by obtain ⟨hp, g, d, k, os⟩ := s; show (if (hp.get? a).isSome = true then _ else _) = _; rw [show hp.get? a = some o from ho]; rfl) (hK () _ h)
end
end Mine
end
-- H3
noncomputable section
open PySem PySem.W PySem.Calls PyProof.Rows
namespace Mine
-- 4. frozensets of texts of one sign
noncomputable def FzO (es : Array (Int × Value)) (ep : Nat) (t : SetTable) : Obj := { cls := .type "frozenset", dict := none, data := .set es ep t, slots := #[] }
noncomputable def el (w : World) (q : Nat × Tok) : Int × Value := (hashStr w ⟨#[q.1]⟩, .str ⟨#[q.1]⟩ q.2)
noncomputable def Has (w : World) (es : Array (Int × Value)) (S : List Nat) : Prop := ∃ l : List (Nat × Tok), es.toList.Perm (l.map (el w)) ∧ (l.map (·.1)).Perm S
section
variable {w : World} {es es' : Array (Int × Value)} {S : List Nat} {c : Nat} {tk : Tok}
theorem Has.size (h : Has w es S) : es.size = S.length := by
  obtain ⟨l, p, e⟩ := h
  rw [← Array.length_toList, p.length_eq, List.length_map, ← e.length_eq, List.length_map]
theorem Has.mem (h : Has w es S) {e : Int × Value} (he : e ∈ es.toList) : ∃ q, q.1 ∈ S ∧ e = el w q := by
  obtain ⟨l, p, e'⟩ := h
  obtain ⟨q, hq, rfl⟩ := List.mem_map.mp (p.mem_iff.mp he)
  exact ⟨q, e'.mem_iff.mp (List.mem_map_of_mem hq), rfl⟩
theorem Has.of_mem (h : Has w es S) (hc : c ∈ S) : ∃ tk, el w (c, tk) ∈ es.toList := by
  obtain ⟨l, p, e⟩ := h
  obtain ⟨⟨c', tk⟩, hq, rfl⟩ := List.mem_map.mp (e.mem_iff.mpr hc)
  exact ⟨tk, p.mem_iff.mpr (List.mem_map_of_mem hq)⟩
theorem Has.nil : Has w #[] [] := ⟨[], List.Perm.refl _, List.Perm.refl _⟩
theorem Has.perm (h : Has w es S) (p : es'.toList.Perm es.toList) : Has w es' S := let ⟨l, q, e⟩ := h; ⟨l, p.trans q, e⟩
theorem Has.push (h : Has w es S) (p : es'.toList.Perm (es.toList ++ [el w (c, tk)])) : Has w es' (S ++ [c]) := by
  obtain ⟨l, q, e⟩ := h
  refine ⟨l ++ [(c, tk)], p.trans ?_, by rw [List.map_append]; exact List.Perm.append_right _ e⟩
  rw [List.map_append]
  exact List.Perm.append_right _ q
theorem isStr_el (c : Nat) (q : Nat × Tok) : (el w q).2.isStr ⟨#[c]⟩ = decide (q.1 = c) := by
  show ((⟨#[q.1]⟩ : Str) == ⟨#[c]⟩) = _
  by_cases h : q.1 = c
  · subst h; simp
  · have : (⟨#[q.1]⟩ : Str) ≠ ⟨#[c]⟩ := fun e => h (by simpa using e)
    simp [this, h]
theorem Has.find_none (h : Has w es S) (hc : c ∉ S) : es.findIdx? (fun e => e.2.isStr ⟨#[c]⟩) = none := by
  rw [show es.findIdx? (fun e => e.2.isStr ⟨#[c]⟩) = es.toList.findIdx? (fun e => e.2.isStr ⟨#[c]⟩) by cases es; simp, List.findIdx?_eq_none_iff]
  intro e he
  obtain ⟨q, hq, rfl⟩ := h.mem he
  rw [isStr_el]
  exact decide_eq_false fun x => hc (x ▸ hq)
theorem Has.find_some (h : Has w es S) (hc : c ∈ S) : ∃ i tk, es.findIdx? (fun e => e.2.isStr ⟨#[c]⟩) = some i ∧ es[i]? = some (el w (c, tk)) := by
  rw [show es.findIdx? (fun e => e.2.isStr ⟨#[c]⟩) = es.toList.findIdx? (fun e => e.2.isStr ⟨#[c]⟩) by cases es; simp]
  obtain ⟨tk, he⟩ := h.of_mem hc
  cases e : es.toList.findIdx? (fun e => e.2.isStr ⟨#[c]⟩) with
  | none =>
    have := List.findIdx?_eq_none_iff.mp e _ he
    rw [isStr_el] at this
    simp at this
  | some i =>
    obtain ⟨hi, hp, _⟩ := List.findIdx?_eq_some_iff_getElem.mp e
    obtain ⟨⟨c', tk'⟩, hq, e'⟩ := h.mem (List.getElem_mem hi)
    rw [e', isStr_el, decide_eq_true_eq] at hp
    dsimp only at hp
    subst hp
    refine ⟨i, tk', rfl, ?_⟩
    rw [← Array.getElem?_toList, List.getElem?_eq_getElem hi, e']
theorem Has.all_scan (h : Has w es S) : es.all (fun e => e.2.scannable) = true := by
  rw [← Array.all_toList, List.all_eq_true]
  intro e he
  obtain ⟨q, _, rfl⟩ := h.mem he
  rfl
theorem Has.all_keys (h : Has w es S) : es.all (fun e => isExactStrKey e.2) = true := by
  rw [← Array.all_toList, List.all_eq_true]
  intro e he
  obtain ⟨q, _, rfl⟩ := h.mem he
  rfl
theorem Has.byScan (h : Has w es S) (hs : S.length < 4096) : byScan (.str ⟨#[c]⟩ tk) es = true := by
  unfold PySem.byScan
  rw [h.all_scan, h.size]
  show (true && decide (S.length < 4096) && true) = true
  rw [decide_eq_true hs]; rfl
end
noncomputable def SB (A : List Addr) (s s' : Shared) : Prop :=
  s'.gens = s.gens ∧ s'.drawn = s.drawn ∧ s'.toks = s.toks ∧ s'.os = s.os ∧ s'.heap.life = s.heap.life ∧ s'.heap.objs.size = s.heap.objs.size ∧ ∀ b, b ∉ A → s'.heap.objs[b]? = s.heap.objs[b]?
theorem SB.refl (A : List Addr) (s : Shared) : SB A s s := ⟨rfl, rfl, rfl, rfl, rfl, rfl, fun _ _ => rfl⟩
theorem SB.trans {A : List Addr} {s s' s'' : Shared} (x : SB A s s') (y : SB A s' s'') : SB A s s'' :=
  ⟨y.1.trans x.1, y.2.1.trans x.2.1, y.2.2.1.trans x.2.2.1, y.2.2.2.1.trans x.2.2.2.1, y.2.2.2.2.1.trans x.2.2.2.2.1, y.2.2.2.2.2.1.trans x.2.2.2.2.2.1, fun b hb => (y.2.2.2.2.2.2 b hb).trans (x.2.2.2.2.2.2 b hb)⟩
theorem SB.symm {A : List Addr} {s s' : Shared} (x : SB A s s') : SB A s' s := ⟨x.1.symm, x.2.1.symm, x.2.2.1.symm, x.2.2.2.1.symm, x.2.2.2.2.1.symm, x.2.2.2.2.2.1.symm, fun b hb => (x.2.2.2.2.2.2 b hb).symm⟩
theorem SB.sub {A B : List Addr} {s s' : Shared} (x : SB A s s') (h : ∀ a ∈ A, a ∈ B) : SB B s s' := ⟨x.1, x.2.1, x.2.2.1, x.2.2.2.1, x.2.2.2.2.1, x.2.2.2.2.2.1, fun b hb => x.2.2.2.2.2.2 b fun q => hb (h b q)⟩
theorem SB.get {A : List Addr} {s s' : Shared} (x : SB A s s') {b : Addr} (hb : b ∉ A) : s'.heap.get? b = s.heap.get? b := by
  unfold Heap.get?; rw [x.2.2.2.2.2.2 b hb]
theorem SB.update (s : Shared) (a : Addr) (f : Obj → Obj) : SB [a] s { s with heap := s.heap.update a f } := by
  obtain ⟨⟨objs, life⟩, g, d, k, os⟩ := s
  refine ⟨rfl, rfl, rfl, rfl, rfl, Array.size_modify .., fun b hb => ?_⟩
  have : a ≠ b := fun e => hb (e ▸ List.mem_singleton.mpr rfl)
  show (objs.modify a f)[b]? = objs[b]?
  rw [Array.getElem?_modify, if_neg this]
section
variable {p : Program} {w : World} {n₀ : Nat} {ann : Option Value} {s : Shared} {a : Addr} {es es' : Array (Int × Value)} {ep : Nat} {t t' : SetTable} {S : List Nat} {c : Nat} {tk : Tok}
theorem wq_setState {Q : Array (Int × Value) × Nat × SetTable → Shared → Prop} (ho : s.heap.get? a = some (FzO es ep t)) (hf : t.fits es.size = true) (h : Q (es, ep, t) s) : wq p w n₀ ann 1 (setState a) Q s := by
  unfold setState
  refine wq_le (wq_bind (c2 := 0) (wq_load ho ?_)) (Nat.le_refl _)
  dsimp only [FzO]
  have hc : (t.place.size != es.size || decide (t.fill > t.mask)) = false := by
    simp only [SetTable.fits, Bool.and_eq_true, beq_iff_eq, decide_eq_true_eq] at hf
    simp [hf.1, Nat.not_lt.mpr hf.2]
  rw [hc]
  exact wq_pure h
theorem wq_setEpoch {Q : Nat → Shared → Prop} (ho : s.heap.get? a = some (FzO es ep t)) (hf : t.fits es.size = true) (h : Q ep s) : wq p w n₀ ann 1 (setEpoch a) Q s := by
  unfold setEpoch
  refine wq_bind (c2 := 0) (wq_setState ho hf ?_)
  exact wq_pure h
theorem wq_setEntries {Q : Array (Int × Value) → Shared → Prop} (ho : s.heap.get? a = some (FzO es ep t)) (hf : t.fits es.size = true) (h : Q es s) : wq p w n₀ ann 1 (setEntries a) Q s := by
  unfold setEntries
  refine wq_bind (c2 := 0) (wq_setState ho hf ?_)
  exact wq_pure h
theorem get_put (ho : s.heap.get? a = some (FzO es ep t)) : (s.heap.update a (Obj.putSet es' t')).get? a = some (FzO es' (ep + 1) t') := by
  have := Heap.get?_update_self (Obj.putSet es' t') ho (by rfl)
  exact this
theorem wq_storeSet {Q : Unit → Shared → Prop} (ha : n₀ ≤ a) (ho : s.heap.get? a = some (FzO es ep t)) (hz : es'.size ≤ sizeLine)
    (h : ∀ s', SB [a] s s' → s'.heap.get? a = some (FzO es' (ep + 1) t') → Q () s') : wq p w n₀ ann 2 (storeSet a es' t') Q s := by
  unfold storeSet
  refine wq_bind (c2 := 1) (wq_load ho ?_)
  dsimp only [FzO]
  rw [if_neg (Nat.not_lt.mpr hz)]
  exact wq_le (wq_bind (c2 := 1) (c1 := 0) (wq_pure (wq_update ha ho (h _ (SB.update s a _) (get_put ho))))) (Nat.le_refl _)
theorem wq_gave (b : Bool) {Q : Unit → Shared → Prop} (h : Q () s) : wq p w n₀ ann 1 (match b with | true => rule "set.scan.the-table-gave-way" | false => pure ()) Q s := by
  cases b
  · exact wq_le (wq_pure h) (by decide)
  · exact wq_rule h
theorem size_line {n : Nat} (h : n < 4096) : n ≤ sizeLine := by rw [sizeLine_eq]; omega
theorem wq_addTail {g : Bool → Sem Unit} (hg : ∀ (b : Bool) (s₁ : Shared) (Q' : Unit → Shared → Prop), Q' () s₁ → wq p w n₀ ann 1 (g b) Q' s₁)
    (ha : n₀ ≤ a) (ho : s.heap.get? a = some (FzO es ep t)) {es1 : Array (Int × Value)} {t2 : SetTable} (hh : Has w es1 S) (hs : S.length < 4096) (hf2 : t2.fits es1.size = true) {wasDummy : Bool} {R : Option Bool → Shared → Prop}
    (h : ∀ s' es' ep' t', SB [a] s s' → s'.heap.get? a = some (FzO es' ep' t') → t'.fits es'.size = true → Has w es' S → R (some true) s') :
    wq p w n₀ ann 5 (do
        storeSet a es1 t2
        if (!wasDummy && t2.tooFull) = true then do
            g (relayAll t2 es1 (SetTable.grown es1.size)).2.2
            storeSet a (relayAll t2 es1 (SetTable.grown es1.size)).1 (relayAll t2 es1 (SetTable.grown es1.size)).2.1
            pure (some true)
          else pure (some true)) R s := by
  have hz1 : es1.size ≤ sizeLine := by rw [hh.size]; exact size_line hs
  refine wq_bind (c2 := 3) (wq_storeSet ha ho hz1 fun s₁ hsb ho1 => ?_)
  split
  · have hp := relayAll_perm t2 es1 (SetTable.grown es1.size)
    have hfr := relayAll_fits t2 es1 (SetTable.grown es1.size)
    generalize relayAll t2 es1 (SetTable.grown es1.size) = Rl at hp hfr ⊢
    obtain ⟨es2, t3, gave2⟩ := Rl
    dsimp only at hp hfr ⊢
    have hh2 := hh.perm hp
    refine wq_bind (c2 := 2) (hg _ _ _ ?_)
    refine wq_bind (c2 := 0) (wq_storeSet ha ho1 (by rw [hh2.size]; exact size_line hs) fun s₂ hsb2 ho2 => ?_)
    exact wq_pure (h _ _ _ _ (hsb.trans hsb2) ho2 hfr hh2)
  · exact wq_le (wq_pure (h _ _ _ _ hsb ho1 hf2 hh)) (by decide)
theorem wq_addHashed {Q : Bool → Shared → Prop} (ha : n₀ ≤ a) (ho : s.heap.get? a = some (FzO es ep t)) (hf : t.fits es.size = true) (hh : Has w es S) (hc : c ∉ S) (hs : S.length + 1 < 4096)
    (h : ∀ b s' es' ep' t', SB [a] s s' → s'.heap.get? a = some (FzO es' ep' t') → t'.fits es'.size = true → Has w es' (S ++ [c]) → Q b s') :
    wq p w n₀ ann 9 (setAddHashed a (.str ⟨#[c]⟩ tk) (hashStr w ⟨#[c]⟩)) Q s := by
  unfold setAddHashed setAddHashedIn
  refine wq_holding (wq_bind (c2 := 8) (wq_setState ho hf ?_))
  dsimp only
  rw [hh.byScan (by omega)]
  simp only [↓reduceIte]
  unfold setAddByScan
  refine wq_bind (c2 := 0) (c1 := 8) ?_
  refine wq_bind (c2 := 7) (wq_rule ?_)
  have hscan : ∀ {R : ScanMet → Shared → Prop}, R .absent s → wq p w n₀ ann 0 (setScan a (.str ⟨#[c]⟩ tk) (hashStr w ⟨#[c]⟩) true es) R s := fun hR => by
    unfold setScan
    dsimp only
    rw [hh.all_keys]
    simp only [↓reduceIte]
    unfold setScanStrs
    rw [hh.find_none hc]
    exact wq_pure hR
  refine wq_bind (c2 := 7) (hscan ?_)
  dsimp only
  have hperm := layNew_perm t es (hashStr w ⟨#[c]⟩) (.str ⟨#[c]⟩ tk)
  have hfits := layNew_fits t es (hashStr w ⟨#[c]⟩) (.str ⟨#[c]⟩ tk)
  generalize layNew t es (hashStr w ⟨#[c]⟩) (.str ⟨#[c]⟩ tk) = L at hperm hfits ⊢
  obtain ⟨es1, t1, wasDummy, gave⟩ := L
  dsimp only at hperm hfits ⊢
  rw [Array.toList_push] at hperm
  have hh1 : Has w es1 (S ++ [c]) := hh.push hperm
  have hs1 : (S ++ [c]).length < 4096 := by rw [List.length_append]; exact hs
  refine wq_le (wq_bind (c2 := 5) (c1 := 1) (wq_gave gave ?_)) (by decide)
  have hgw : ∀ (b : Bool) (s₁ : Shared) (Q' : Unit → Shared → Prop), Q' () s₁ → wq p w n₀ ann 1 (match b with | true => rule "set.scan.the-table-gave-way" | false => pure ()) Q' s₁ := fun b s₁ Q' hq => wq_gave b hq
  split
  · refine wq_bind (c2 := 5) (c1 := 0) ?_
    rw [hashByValue_scannable 8 rfl]
    refine wq_pure ?_
    refine wq_addTail hgw ha ho hh1 hs1 ?_ ?_
    · split
      · exact hfits
      · exact SetTable.fits_plain_off hfits
    · intro s' es' ep' t' hsb ho' hf' hh'
      dsimp only
      exact wq_pure (h _ _ _ _ _ hsb ho' hf' hh')
  · refine wq_bind (c2 := 5) (c1 := 0) (wq_pure ?_)
    simp only [↓reduceIte]
    refine wq_addTail hgw ha ho hh1 hs1 hfits ?_
    intro s' es' ep' t' hsb ho' hf' hh'
    dsimp only
    exact wq_pure (h _ _ _ _ _ hsb ho' hf' hh')
end
end Mine
end
-- H4
noncomputable section
open PySem PySem.W PySem.Calls PyProof.Rows
namespace Mine
section
variable {p : Program} {w : World} {n₀ : Nat} {ann : Option Value} {s : Shared} {a r o : Addr} {es es' eo : Array (Int × Value)} {ep epo : Nat} {t t' to : SetTable} {S : List Nat} {c m n : Nat} {tk : Tok}
theorem List.getElem_cons_eraseIdx_perm' {α : Type} : ∀ {l : List α} {i : Nat} (h : i < l.length), (l[i] :: l.eraseIdx i).Perm l
  | a :: l, 0, _ => List.Perm.refl _
  | a :: l, i + 1, h => by
    have := List.getElem_cons_eraseIdx_perm' (l := l) (i := i) (by simpa using h)
    simp only [List.getElem_cons_succ, List.eraseIdx_cons_succ]
    exact (List.Perm.swap _ _ _).trans (List.Perm.cons a this)
theorem pick_go {α : Type} (next : Nat → Nat) : ∀ (fuel k : Nat) (left : List α) (out : Array α), left.length = fuel → (pickOrder.go next fuel k left out).toList.Perm (out.toList ++ left)
  | 0, k, left, out, h => by
    have : left = [] := List.eq_nil_of_length_eq_zero h
    subst this
    unfold pickOrder.go
    simp
  | fuel + 1, k, left, out, h => by
    have hl : next k % left.length < left.length := Nat.mod_lt _ (by omega)
    unfold pickOrder.go
    rw [List.getElem?_eq_getElem hl]
    dsimp only
    refine (pick_go next fuel (k + 1) (left.eraseIdx (next k % left.length)) (out.push _) (by rw [List.length_eraseIdx_of_lt hl]; omega)).trans ?_
    rw [Array.toList_push, List.append_assoc]
    exact List.Perm.append_left _ (List.getElem_cons_eraseIdx_perm' hl)
theorem pick_perm {α : Type} (next : Nat → Nat) (xs : Array α) : (pickOrder next xs).toList.Perm xs.toList := by
  have := pick_go next xs.size 0 xs.toList #[] (Array.length_toList)
  simpa [pickOrder] using this
theorem wq_byText {Q : Bool → Shared → Prop} (h : Q (w.params.followText "set-order") s) : wq p w n₀ ann 1 setsByText Q s := by
  unfold setsByText
  refine wq_bind (c2 := 0) (wq_ask ?_)
  exact wq_pure h
theorem wq_reordered {X : Option (SetTable × Array Nat)} {order : Array Nat} {Q : Array (Int × Value) × SetTable → Shared → Prop} (hX : X = some (t, order)) (hp : order.toList.Perm (List.range es.size))
    (h : ∀ es' : Array (Int × Value), es'.toList.Perm es.toList → Q (es', t) s) :
    wq p w n₀ ann 0 (do
      let some (t, order) := X | unsupported "internal:set-table-without-room"
      let es' := order.filterMap (es[·]?)
      if es'.size != es.size then unsupported "internal:set-table-lost-an-element"
      pure (es', t)) Q s := by
  subst hX
  have hp' : (order.filterMap (es[·]?)).toList.Perm es.toList := by
    rw [Array.toList_filterMap]
    exact (hp.filterMap _).trans (by rw [filterMap_getElem?_range])
  dsimp only
  have hz : ((order.filterMap (es[·]?)).size != es.size) = false := by
    rw [← Array.length_toList, hp'.length_eq, Array.length_toList]; simp
  rw [hz]
  exact wq_bind (c1 := 0) (c2 := 0) (wq_pure (wq_pure (h _ hp')))
theorem sizeAbove_cases : SetTable.sizeAbove 64 = 128 ∧ SetTable.sizeAbove 66 = 128 := by decide +kernel
theorem wq_relay_empty {wanted : Nat} {led : Bool} {Q : Unit → Shared → Prop} (ha : n₀ ≤ r) (hr : s.heap.get? r = some (FzO #[] 0 (.fresh 0 0 led))) (hw : SetTable.sizeAbove wanted = 128)
    (h : ∀ s' ep' t', SB [r] s s' → s'.heap.get? r = some (FzO #[] ep' t') → t'.mask = 127 → t'.place = #[] → t'.dummies = #[] → Q () s') : wq p w n₀ ann 4 (setRelay r wanted) Q s := by
  unfold setRelay
  refine wq_bind (c2 := 3) (wq_setState hr (by rfl) ?_)
  dsimp only
  rw [if_neg (by rw [hw, sizeLine_eq]; decide)]
  obtain ⟨place, order, e1, e2, e3⟩ := laid_ok covers_127 (hashes := #[]) (by decide) 0 ((SetTable.fresh 0 0 led).movedTo 127) led true
  have e1' : (SetTable.fresh 0 0 led).relaid ((#[] : Array (Int × Value)).map (·.1)) wanted = some ({ mask := 127, place, dummies := #[], finger := 0, led, moves := (SetTable.fresh 0 0 led).movedTo 127, plain := true }, order) := by
    unfold SetTable.relaid
    rw [hw]
    rw [show ((#[] : Array (Int × Value)).map (·.1)) = #[] by simp]
    exact e1
  have hpl : place = #[] := Array.eq_empty_of_size_eq_zero e2
  refine wq_le (wq_bind (c1 := 0) (c2 := 2) (wq_reordered (es := #[]) e1' e3 ?_)) (by decide)
  intro es' hp
  have : es' = #[] := by
    have := hp.length_eq
    exact Array.eq_empty_of_size_eq_zero (by rw [← Array.length_toList, this]; rfl)
  subst this
  dsimp only
  exact wq_storeSet ha hr (by decide) fun s' hsb ho' => h s' _ _ hsb ho' rfl hpl rfl
theorem fits_iff (t : SetTable) (n : Nat) : t.fits n = true ↔ t.place.size = n ∧ t.fill ≤ t.mask := by
  simp [SetTable.fits]
-- what a copy is
noncomputable def Copied (w : World) (h : Heap) (r : Addr) (S : List Nat) (m : Nat) : Prop := ∃ es ep t, h.get? r = some (FzO es ep t) ∧ t.fits es.size = true ∧ Has w es S ∧ t.mask = m ∧ t.dummies = #[]
theorem wq_copy_on {each : Sem Unit} {ts : SetTable} {Q : Unit → Shared → Prop} {epr : Nat} {P : Prop} (ha : n₀ ≤ r) (hr : s.heap.get? r = some (FzO #[] epr ts)) (hp : ts.place = #[]) (hd : ts.dummies = #[]) (hm : ts.mask = m) (hc : covers m = true)
    (hf : to.fits eo.size = true) (hh : Has w eo S) (hs : S.length ≤ m) (hs2 : S.length < 4096) {one : Sem Unit}
    (h : ∀ s', SB [r] s s' → Copied w s'.heap r S m → Q () s') :
    wq p w n₀ ann 3 (do
      let (_, _, ts) ← setState r
      match ts.road to with
      | .slotForSlot => storeSet r eo { to with finger := ts.finger, led := ts.led && to.led, moves := ts.moves, plain := ts.plain && to.plain }
      | .clean => do
        let (es, t) ← (do
          let some (t, order) := SetTable.laid ts.mask ts.finger ts.moves (led := ts.led && to.led) (plain := ts.plain && to.plain) (eo.map (·.1)) | unsupported "internal:set-table-without-room"
          let es' := order.filterMap (eo[·]?)
          if es'.size != eo.size then unsupported "internal:set-table-lost-an-element"
          pure (es', t))
        storeSet r es t
      | .oneByOne => one) Q s := by
  have hfill : ts.fill = 0 := by unfold SetTable.fill; rw [hp, hd]; rfl
  refine wq_bind (c2 := 2) (wq_setState hr (by rw [fits_iff, hp, hfill]; exact ⟨rfl, Nat.zero_le _⟩) ?_)
  dsimp only
  have hroad : ts.road to = if ts.mask == to.mask && to.dummies.isEmpty then .slotForSlot else .clean := by
    unfold SetTable.road
    rw [hfill]; rfl
  rw [hroad]
  have hz : eo.size ≤ sizeLine := by rw [hh.size]; exact size_line hs2
  by_cases q : (ts.mask == to.mask && to.dummies.isEmpty) = true
  · rw [if_pos q]
    obtain ⟨q1, q2⟩ := Bool.and_eq_true_iff.mp q
    have q2' : to.dummies = #[] := Array.isEmpty_iff.mp q2
    dsimp only
    exact wq_storeSet ha hr hz fun s' hsb ho' => h s' hsb ⟨_, _, _, ho', hf, hh, by show to.mask = m; rw [← hm]; exact (beq_iff_eq.mp q1).symm, q2'⟩
  · rw [if_neg q]
    dsimp only
    obtain ⟨place, order, e1, e2, e3⟩ := laid_ok hc (hashes := eo.map (·.1)) (by rw [Array.size_map, hh.size]; exact hs) ts.finger ts.moves (ts.led && to.led) (ts.plain && to.plain)
    rw [Array.size_map] at e2 e3
    refine wq_bind (c1 := 0) (c2 := 2) (wq_reordered (es := eo) (by rw [hm]; exact e1) e3 ?_)
    intro es' hpm
    dsimp only
    have hh' := hh.perm hpm
    refine wq_storeSet ha hr (by rw [hh'.size]; exact size_line hs2) fun s' hsb ho' => h s' hsb ⟨_, _, _, ho', ?_, hh', rfl, rfl⟩
    rw [fits_iff]
    refine ⟨by rw [hh'.size, e2, hh.size], ?_⟩
    show place.size + 0 ≤ m
    rw [e2, hh.size]; omega
theorem wq_copy {each : Sem Unit} {led : Bool} {Q : Unit → Shared → Prop} (ha : n₀ ≤ r) (hr : s.heap.get? r = some (FzO #[] 0 (.fresh 0 0 led))) (ho : s.heap.get? o = some (FzO eo epo to)) (hf : to.fits eo.size = true) (hh : Has w eo S) (hne : r ≠ o)
    (hn : (S.length = 2 ∧ m = 7) ∨ (S.length = 32 ∧ m = 127) ∨ (S.length = 33 ∧ m = 127)) (h : ∀ s', SB [r] s s' → Copied w s'.heap r S m → Q () s') : wq p w n₀ ann 9 (setMerge r o each) Q s := by
  unfold setMerge
  rw [if_neg (by simpa using hne)]
  refine wq_bind (c2 := 8) (wq_setState ho hf ?_)
  dsimp only
  have hemp : eo.isEmpty = false := by
    rw [Array.isEmpty_eq_false_iff]
    intro e
    have := hh.size
    rw [e] at this
    simp at this
    omega
  rw [hemp]
  simp only [Bool.false_eq_true, ↓reduceIte]
  have hfresh : (SetTable.fresh 0 0 led).roomFor eo.size = if eo.size * 5 ≥ 21 then some (eo.size * 2) else none := by
    unfold SetTable.roomFor SetTable.fill SetTable.fresh
    simp
  have hroom : ∀ {R : Unit → Shared → Prop}, (∀ s' epr ts, SB [r] s s' → s'.heap.get? r = some (FzO #[] epr ts) → ts.place = #[] → ts.dummies = #[] → ts.mask = m → R () s') → wq p w n₀ ann 5 (setRoomFor r eo.size) R s := fun hR => by
    unfold setRoomFor
    refine wq_bind (c2 := 4) (wq_setState hr (by rfl) ?_)
    dsimp only
    rw [hfresh, hh.size]
    rcases hn with ⟨q, rfl⟩ | ⟨q, rfl⟩ | ⟨q, rfl⟩
    · rw [q]
      exact wq_le (wq_pure (hR s 0 _ (SB.refl _ _) hr rfl rfl rfl)) (by decide)
    · rw [q]
      exact wq_relay_empty ha hr sizeAbove_cases.1 fun s' ep' t' a b c d e => hR s' ep' t' a b d e c
    · rw [q]
      exact wq_relay_empty ha hr sizeAbove_cases.2 fun s' ep' t' a b c d e => hR s' ep' t' a b d e c
  refine wq_bind (c2 := 3) (hroom ?_)
  intro s₁ epr ts hsb hr₁ hp hd hm
  have hc : covers m = true := by rcases hn with ⟨_, rfl⟩ | ⟨_, rfl⟩ | ⟨_, rfl⟩; exact covers_7; exact covers_127; exact covers_127
  exact wq_copy_on (each := pure ()) (P := True) ha hr₁ hp hd hm hc hf hh (by omega) (by omega) fun s' hsb' hC => h s' (hsb.trans hsb') hC
theorem isSub_fs_set : isSubtype (.type "frozenset") (.type "set") = pure false := by rw [isSubtype_type]; kernel_rfl
theorem isSub_fs_fs : isSubtype (.type "frozenset") (.type "frozenset") = pure true := by rw [isSubtype_type]; kernel_rfl
theorem wq_inst {b : Bool} {base : Value} {Q : Bool → Shared → Prop} (ho : s.heap.get? a = some (FzO es ep t)) (hb : isSubtype (.type "frozenset") base = pure b) (h : Q b s) : wq p w n₀ ann 1 (isInstance (.ref a) base) Q s := by
  unfold isInstance typeOf
  refine wq_bind (c2 := 0) (wq_bind (c2 := 0) (wq_loadPart ho (wq_pure ?_)))
  show wq p w n₀ ann 0 (isSubtype (.type "frozenset") base) Q s
  rw [hb]
  exact wq_pure h
theorem wq_anySet {Q : Bool → Shared → Prop} (ho : s.heap.get? a = some (FzO es ep t)) (h : Q true s) : wq p w n₀ ann 2 (Builtin.Frozenset.isAnySet (.ref a)) Q s := by
  unfold Builtin.Frozenset.isAnySet
  refine wq_bind (c2 := 1) (wq_inst ho isSub_fs_set ?_)
  exact wq_inst ho isSub_fs_fs h
theorem wq_baseOf {Q : Value → Shared → Prop} (ho : s.heap.get? a = some (FzO es ep t)) (h : Q (.type "frozenset") s) : wq p w n₀ ann 1 (Builtin.Frozenset.baseOf a) Q s := by
  unfold Builtin.Frozenset.baseOf
  refine wq_bind (c2 := 0) (wq_inst ho isSub_fs_set ?_)
  exact wq_pure h
theorem wq_newSet {Q : Value → Shared → Prop} (h : ∀ led, Q (.ref s.heap.objs.size) { s with heap := s.heap.push (FzO #[] 0 (.fresh 0 0 led)) }) : wq p w n₀ ann 2 (newSet (.type "frozenset")) Q s := by
  unfold newSet
  refine wq_bind (c2 := 1) (wq_byText ?_)
  dsimp only
  simp only [newObj]
  rw [if_neg (by simp)]
  unfold newObjAsIs
  refine wq_bind (c2 := 0) (wq_alloc ?_)
  exact wq_pure (h _)
end
end Mine
end
-- H5
noncomputable section
open PySem PySem.W PySem.Calls PyProof.Rows
namespace Mine
-- 5. a run that does not look at some objects is the same whatever they are
noncomputable def notIn (A : List Addr) (a : Addr) : Bool := A.all fun b => !Nat.beq a b
noncomputable def stepFree (A : List Addr) (t : Thread) : Bool := match t.cur with
  | .load a _ _ => notIn A a
  | .update a _ _ _ => notIn A a
  | .loadIfAlive a _ => notIn A a
  | _ => true
theorem notIn_spec {A : List Addr} {a : Addr} (h : notIn A a = true) : a ∉ A := fun q => by
  have := List.all_eq_true.mp h a q
  simp at this
noncomputable def SBx (A : List Addr) (s s2 : Shared) : Prop := SB A s s2 ∧ ∀ a ∈ A, a < s.heap.objs.size
noncomputable def Kept (A : List Addr) (s2 s2' : Shared) : Prop := ∀ a ∈ A, s2'.heap.objs[a]? = s2.heap.objs[a]?
theorem step_SB {den : Code → Sem Fin} {p : Program} {w : World} {A : List Addr} {s s' s2 : Shared} {t t' : Thread} (h : step den p w s t = .go s' t') (hf : stepFree A t = true) (x : SBx A s s2) :
    ∃ s2', step den p w s2 t = .go s2' t' ∧ SBx A s' s2' ∧ Kept A s2 s2' := by
  obtain ⟨x, hA⟩ := x
  have hget := fun b (hb : b ∉ A) => x.get hb
  obtain ⟨⟨objs, life⟩, gens, drawn, toks, os⟩ := s
  obtain ⟨⟨objs2, life2⟩, gens2, drawn2, toks2, os2⟩ := s2
  obtain ⟨cur, code, pos, stack⟩ := t
  obtain ⟨e1, e2, e3, e4, e5, e6, e7⟩ := x
  dsimp only at e1 e2 e3 e4 e5 e6 e7 hA hget
  subst e1 e2 e3 e4 e5
  have same : ∀ {g : Array GenState} {d : Drawn} {k : Nat} {o : OsState}, SBx A ⟨⟨objs, life2⟩, g, d, k, o⟩ ⟨⟨objs2, life2⟩, g, d, k, o⟩ ∧ Kept A ⟨⟨objs2, life2⟩, gens2, drawn2, toks2, os2⟩ ⟨⟨objs2, life2⟩, g, d, k, o⟩ :=
    ⟨⟨⟨rfl, rfl, rfl, rfl, rfl, e6, e7⟩, hA⟩, fun _ _ => rfl⟩
  cases cur with
  | load a part k =>
    have ha := hget a (notIn_spec hf)
    unfold step at h ⊢; dsimp only at h ⊢
    rw [ha]
    split at h
    · cases h
      exact ⟨_, rfl, same⟩
    · cases h
  | loadIfAlive a k =>
    have ha := hget a (notIn_spec hf)
    unfold step at h ⊢; dsimp only at h ⊢
    rw [ha]
    cases h
    exact ⟨_, rfl, same⟩
  | update a part f k =>
    have hn := notIn_spec hf
    have ha := hget a hn
    unfold step at h ⊢; dsimp only at h ⊢
    rw [ha]
    split at h
    · rename_i ho
      rw [if_pos ho]
      cases h
      refine ⟨_, rfl, ⟨⟨rfl, rfl, rfl, rfl, rfl, ?_, fun b hb => ?_⟩, fun b hb => ?_⟩, fun b hb => ?_⟩
      · show (objs2.modify a f).size = (objs.modify a f).size
        rw [Array.size_modify, Array.size_modify]; exact e6
      · show (objs2.modify a f)[b]? = (objs.modify a f)[b]?
        rw [Array.getElem?_modify, Array.getElem?_modify, e7 b hb]
      · show b < (objs.modify a f).size
        rw [Array.size_modify]; exact hA b hb
      · show (objs2.modify a f)[b]? = objs2[b]?
        rw [Array.getElem?_modify, if_neg (fun (e : a = b) => hn (by rw [e]; exact hb))]
    · cases h
  | alloc o k =>
    unfold step at h ⊢; dsimp only at h ⊢
    cases h
    have ez : objs2.size = objs.size := e6
    refine ⟨⟨⟨objs2.push o, life2⟩, gens2, drawn2, toks2, os2⟩, ?_, ⟨⟨rfl, rfl, rfl, rfl, rfl, ?_, fun b hb => ?_⟩, fun b hb => ?_⟩, fun b hb => ?_⟩
    · simp only [Heap.push, ez]
    · show (objs2.push o).size = (objs.push o).size
      rw [Array.size_push, Array.size_push, ez]
    · show (objs2.push o)[b]? = (objs.push o)[b]?
      rw [Array.getElem?_push, Array.getElem?_push, ez, e7 b hb]
    · show b < (objs.push o).size
      rw [Array.size_push]; exact Nat.lt_succ_of_lt (hA b hb)
    · show (objs2.push o)[b]? = objs2[b]?
      rw [Array.getElem?_push, if_neg (by rw [ez]; exact Nat.ne_of_lt (hA b hb))]
  | pure f =>
    cases f with
    | done f =>
      cases stack with
      | nil => simp only [step, finish] at h; split at h <;> cases h
      | cons F r => cases F <;> (unfold step at h ⊢; dsimp only at h ⊢; cases h; exact ⟨_, rfl, same⟩)
    | again c => unfold step at h ⊢; dsimp only at h ⊢; cases h; exact ⟨_, rfl, same⟩
  | raise e =>
    cases stack with
    | nil => simp only [step, finish] at h; split at h <;> cases h
    | cons F r => cases F <;> (unfold step at h ⊢; dsimp only at h ⊢; cases h; exact ⟨_, rfl, same⟩)
  | unsupported => simp only [step] at h; cases h
  | finish => simp only [step] at h; split at h <;> cases h
  | register => simp only [step] at h; cases h
  | fork => simp only [step] at h; cases h
  | await => simp only [step] at h; cases h
  | rule => unfold step at h ⊢; dsimp only at h ⊢; cases h; exact ⟨_, rfl, same⟩
  | «at» => unfold step at h ⊢; dsimp only at h ⊢; cases h; exact ⟨_, rfl, same⟩
  | point => unfold step at h ⊢; dsimp only at h ⊢; cases h; exact ⟨_, rfl, same⟩
  | fresh => unfold step at h ⊢; dsimp only at h ⊢; cases h; exact ⟨_, rfl, same⟩
  | ask => unfold step at h ⊢; dsimp only at h ⊢; cases h; exact ⟨_, rfl, same⟩
  | choose => unfold step at h ⊢; dsimp only at h ⊢; split at h <;> cases h; rename_i q; rw [if_neg q]; exact ⟨_, rfl, same⟩
  | os => unfold step at h ⊢; dsimp only at h ⊢; cases h; exact ⟨_, rfl, same⟩
  | call => unfold step at h ⊢; dsimp only at h ⊢; cases h; exact ⟨_, rfl, same⟩
  | handled => unfold step at h ⊢; dsimp only at h ⊢; cases h; exact ⟨_, rfl, same⟩
  | genState => unfold step at h ⊢; dsimp only at h ⊢; split at h <;> cases h; exact ⟨_, rfl, same⟩
  | stack => unfold step at h ⊢; dsimp only at h ⊢; cases h; exact ⟨_, rfl, same⟩
  | newGen => unfold step at h ⊢; dsimp only at h ⊢; cases h; exact ⟨_, rfl, same⟩
  | resume g r l k =>
    unfold step at h ⊢; dsimp only at h ⊢
    cases q : gens2[g]? with
    | none => rw [q] at h; cases h
    | some st =>
      rw [q] at h
      cases st with
      | fresh c =>
        cases r with
        | send v => cases v <;> (dsimp only at h ⊢; cases h; exact ⟨_, rfl, same⟩)
        | throw e => dsimp only at h ⊢; cases h; exact ⟨_, rfl, same⟩
      | suspended kk l' c p' fs cl => dsimp only at h ⊢; cases h; exact ⟨_, rfl, same⟩
      | running => dsimp only at h ⊢; cases h; exact ⟨_, rfl, same⟩
      | finished => dsimp only at h ⊢; cases h; exact ⟨_, rfl, same⟩
  | «yield» => unfold step at h ⊢; dsimp only at h ⊢; split at h <;> cases h; exact ⟨_, rfl, same⟩
  | thread => unfold step at h ⊢; dsimp only at h ⊢; cases h; exact ⟨_, rfl, same⟩
end Mine
end
-- H5b
noncomputable section
open PySem PySem.W PySem.Calls PyProof.Rows
namespace Mine
structure Mach where
  den : Code → Sem Fin
  stp : (Code → Sem Fin) → Program → World → Shared → Thread → Step
  ok : Nat → Option Value → Thread → Bool
noncomputable def frun (M : Mach) (A : List Addr) (p : Program) (w : World) (n₀ : Nat) (ann : Option Value) (b : Nat) : Nat → Shared → Thread → Option (Flow × Shared × Code × Pos)
  | 0, _, _ => none
  | n + 1, s, t => match endAt b t with
    | some f => some (f, s, t.code, t.pos)
    | none => match M.ok n₀ ann t with
      | false => none
      | true => match stepFree A t with
        | false => none
        | true => match M.stp M.den p w s t with
          | .go s' t' => frun M A p w n₀ ann b n s' t'
          | .halt _ _ => none
noncomputable def real : Mach := ⟨denote treeTable, step, stepOk⟩
noncomputable def quick : Mach := ⟨PySem.W.Fast.tw11892475500146522536 PySem.W.Fast.tw14364793385576792824, PySem.W.Fast.tw8437177126325714943, PySem.W.Fast.tw6613529449190102663⟩
theorem mach_eq {d d' : Code → Sem Fin} {st st' : (Code → Sem Fin) → Program → World → Shared → Thread → Step} {o o' : Nat → Option Value → Thread → Bool} (a : d = d') (b : st = st') (c : o = o') : Mach.mk d st o = Mach.mk d' st' o' := by subst a b c; rfl
theorem real_quick : real = quick := mach_eq (congr PySem.W.Fast.te11892475500146522536 PySem.W.Fast.te14364793385576792824) PySem.W.Fast.te8437177126325714943 PySem.W.Fast.te6613529449190102663
theorem topGo_quick : @topGo treeTable = PySem.W.Fast.tw15667345088766844465 PySem.W.Fast.tw14364793385576792824 :=
  congr PySem.W.Fast.te15667345088766844465 PySem.W.Fast.te14364793385576792824
theorem frun_seg {A : List Addr} {p : Program} {w : World} {n₀ : Nat} {ann : Option Value} {b : Nat} : ∀ {n : Nat} {s s2 s' : Shared} {t : Thread} {f : Flow} {c : Code} {q : Pos}, frun real A p w n₀ ann b n s t = some (f, s', c, q) → SBx A s s2 →
    ∃ s2', segRun treeTable p w n₀ ann b n s2 t = some (f, s2', c, q) ∧ SBx A s' s2' ∧ Kept A s2 s2'
  | 0, _, _, _, _, _, _, _, h, _ => by cases h
  | n + 1, s, s2, s', t, f, c, q, h, x => by
    unfold frun at h
    unfold segRun
    split at h
    · rename_i g hg
      rw [hg]
      cases h
      exact ⟨s2, rfl, x, fun _ _ => rfl⟩
    · rename_i hg
      rw [hg]
      split at h
      · cases h
      · rename_i ho
        rw [show stepOk n₀ ann t = true from ho]
        split at h
        · cases h
        · rename_i hf
          split at h
          · rename_i s₁ t₁ hs
            obtain ⟨s2₁, a, b, c⟩ := step_SB (show step (denote treeTable) p w s t = .go s₁ t₁ from hs) hf x
            obtain ⟨s2', a', b', c'⟩ := frun_seg h b
            dsimp only
            rw [a]
            exact ⟨s2', a', b', fun d hd => (c' d hd).trans (c d hd)⟩
          · cases h
end Mine
end
-- H6
noncomputable section
open PySem PySem.W PySem.Calls PyProof.Rows
namespace Mine
noncomputable def fw (w : World) (b1 b2 : Bool) : World := (w.withFollow "special-get-raises" b1).withFollow "comprehension-iter-twice" b2
theorem hash_fw (w : World) (b1 b2 : Bool) (x : Str) : hashStr (fw w b1 b2) x = hashStr w x := rfl
section
variable {p : Program} {w : World} {n₀ : Nat} {ann : Option Value} {s : Shared}
theorem hash_go (b1 b2 : Bool) (c : Nat) (tk : Tok) (K : Int → Sem Fin) (H : Value → Sem Fin) (gd : Bool → Bool) (lv : List Value → List Value) (code : Code) (pos : Pos) (F : Frame) (st : List Frame) :
    topGo treeTable p (fw w b1 b2) n₀ ann 7 s ⟨(pyHash (.str ⟨#[c]⟩ tk)).wrap K H gd lv, code, pos, F :: st⟩ = some ({ s with toks := s.toks + 1 }, ⟨K (hashStr w ⟨#[c]⟩), code, pos, F :: st⟩) := by
  rw [topGo_quick]
  cases b1 <;> cases b2 <;> kernel_rfl
theorem rich_go9 (b1 b2 : Bool) (tk tk' : Tok) (K : Bool → Sem Fin) (H : Value → Sem Fin) (gd : Bool → Bool) (lv : List Value → List Value) (code : Code) (pos : Pos) (F : Frame) (st : List Frame) :
    topGo treeTable p (fw w b1 b2) n₀ ann 4 s ⟨(do truthOfDropped (← richCompare .Eq (.str ⟨#[9]⟩ tk) (.str ⟨#[9]⟩ tk'))).wrap K H gd lv, code, pos, F :: st⟩ = some (s, ⟨K true, code, pos, F :: st⟩) := by
  rw [topGo_quick]
  cases b1 <;> cases b2 <;> kernel_rfl
theorem rich_go10 (b1 b2 : Bool) (tk tk' : Tok) (K : Bool → Sem Fin) (H : Value → Sem Fin) (gd : Bool → Bool) (lv : List Value → List Value) (code : Code) (pos : Pos) (F : Frame) (st : List Frame) :
    topGo treeTable p (fw w b1 b2) n₀ ann 4 s ⟨(do truthOfDropped (← richCompare .Eq (.str ⟨#[10]⟩ tk) (.str ⟨#[10]⟩ tk'))).wrap K H gd lv, code, pos, F :: st⟩ = some (s, ⟨K true, code, pos, F :: st⟩) := by
  rw [topGo_quick]
  cases b1 <;> cases b2 <;> kernel_rfl
theorem wq_hash {b1 b2 : Bool} {c : Nat} {tk : Tok} {Q : Int → Shared → Prop} (h : Q (hashStr w ⟨#[c]⟩) { s with toks := s.toks + 1 }) : wq p (fw w b1 b2) n₀ ann 7 (pyHash (.str ⟨#[c]⟩ tk)) Q s := fun Φ N K H gd lv code pos F st hK => by
  rw [Nat.add_comm]
  exact (hK _ _ h).go (hash_go b1 b2 c tk K H gd lv code pos F st)
theorem wq_eq {b1 b2 : Bool} {c : Nat} (hc : c = 9 ∨ c = 10) {tk tk' : Tok} {Q : Bool → Shared → Prop} (h : Q true s) : wq p (fw w b1 b2) n₀ ann 4 (eqBool (.str ⟨#[c]⟩ tk) (.str ⟨#[c]⟩ tk')) Q s := by
  unfold eqBool
  refine wq_holding ?_
  split
  · exact wq_le (wq_bind (c1 := 1) (c2 := 0) (wq_rule (wq_pure h))) (by decide)
  · dsimp only
    intro Φ N K H gd lv code pos F st hK
    rw [Nat.add_comm]
    rcases hc with rfl | rfl
    · exact (hK _ s h).go (rich_go9 b1 b2 tk tk' K H gd lv code pos F st)
    · exact (hK _ s h).go (rich_go10 b1 b2 tk tk' K H gd lv code pos F st)
end
end Mine
end
-- H7
noncomputable section
open PySem PySem.W PySem.Calls PyProof.Rows
namespace Mine
abbrev LOOP (a it : Addr) : Code := .builtin "set.update.loop" ⟨[.ref a, .ref it], []⟩
theorem den_loop (a it : Addr) : denote treeTable (LOOP a it) = Builtin.«set.update.loop» ⟨[.ref a, .ref it], []⟩ := by
  show (match entryFor treeTable "set.update.loop" with | some b => b ⟨[.ref a, .ref it], []⟩ | none => unsupported ((withoutEnding? "set.update.loop" "#data").getD "set.update.loop")) = _
  rw [← table_eq_tree, F.entry_set_update_loop]
noncomputable def resO : Option Value → Flow
  | some v => .ret v
  | none => .next
noncomputable def nextR : Value → Sem (Option Value) := pyNext
noncomputable def nextQ : Value → Sem (Option Value) := PySem.W.Fast.tw9404975358583537561
theorem next_eq : nextR = nextQ := PySem.W.Fast.te9404975358583537561
noncomputable def nxt (M : Mach) (nx : Value → Sem (Option Value)) (a it : Addr) (p : Program) (w : World) (n₀ : Nat) (ann : Option Value) (st : List Frame) (d : Shared) (pos : Pos) : Option (Flow × Shared × Code × Pos) :=
  frun M [a] p w n₀ ann st.length 400 d ⟨(nx (.ref it)).wrap (fun o => .pure (.done (resO o))) deadEnd id id, LOOP a it, pos, st⟩
noncomputable def loopD (M : Mach) (nx : Value → Sem (Option Value)) (a it : Addr) (p : Program) (w : World) (n₀ : Nat) (ann : Option Value) (st : List Frame) : List Nat → Shared → Pos → Option (Shared × Code × Pos)
  | [], d, pos => match nxt M nx a it p w n₀ ann st d pos with
    | some (.next, d', .builtin i r, pos') => some (d', .builtin i r, pos')
    | _ => none
  | c :: cs, d, pos => match nxt M nx a it p w n₀ ann st d pos with
    | some (.ret (.str ⟨⟨[c']⟩⟩ _), d', .builtin _ _, pos') => match Nat.beq c c' with
      | true => loopD M nx a it p w n₀ ann st cs { d' with toks := d'.toks + 1 } pos'
      | false => none
    | _ => none
section
variable {p : Program} {w : World} {n₀ : Nat} {ann : Option Value} {b1 b2 : Bool} {s d d' : Shared} {a it : Addr} {es es' : Array (Int × Value)} {ep : Nat} {t t' : SetTable} {S : List Nat} {c : Nat} {tk : Tok} {pos pos' : Pos} {F : Frame} {st : List Frame} {N : Nat} {Φ : Shared → Prop}
theorem Kept.get {A : List Addr} {s s' : Shared} (k : Kept A s s') {a : Addr} (ha : a ∈ A) : s'.heap.get? a = s.heap.get? a := by
  unfold Heap.get?; rw [k a ha]
theorem next_run {K : Option Value → Sem Fin} {H : Value → Sem Fin} {f : Flow} {code : Code} (hB : splitAtGen (F :: st) = none) (hn : nxt real nextR a it p w n₀ ann (F :: st) d pos = some (f, d', code, pos')) (x : SBx [a] d s)
    (h : ∀ o s', resO o = f → SBx [a] d' s' → Kept [a] s s' → TopOK p w n₀ ann Φ N s' ⟨K o, code, pos', F :: st⟩) :
    TopOK p w n₀ ann Φ (N + 400) s ⟨(pyNext (.ref it)).wrap K H id id, LOOP a it, pos, F :: st⟩ := by
  obtain ⟨s2, e1, e2, e3⟩ := frun_seg hn x
  obtain ⟨o, ho, k⟩ := seg_top (res := resO) (K' := K) (H' := H) (gd := id) (lv := id) hB 400 s _ ⟨(pyNext (.ref it)).wrap K H id id, LOOP a it, pos, F :: st⟩ _ _ _ _
    (show Rel2 _ _ _ _ _ _ _ ⟨(pyNext (.ref it)).wrap (fun o => .pure (.done (resO o))) deadEnd id id, LOOP a it, pos, F :: st⟩ _ from ⟨rfl, rfl, .inl ⟨rfl, rfl, _, rfl, rfl⟩⟩) e1
  obtain ⟨r, hr, hΦ⟩ := h o s2 ho e2 e3
  exact ⟨r, by rw [Nat.add_comm]; exact k _ _ hr, hΦ⟩
theorem wrap_id {x : Sem Fin} : x.wrap Sem.pure Sem.raise id id = x := by
  induction x <;> simp only [Sem.wrap, id, *]
theorem again_ok {i : String} {r : Args} {i' : String} {r' : Args} (h : TopOK p w n₀ ann Φ N s ⟨denote treeTable (.builtin i' r'), .builtin i' r', pos, F :: st⟩) (hl : i'.startsWith "lifetime." = false) :
    TopOK p w n₀ ann Φ (N + 1) s ⟨.pure (.again (.builtin i' r')), .builtin i r, pos, F :: st⟩ := by
  refine TopOK.step1 rfl ?_ ?_ h
  · show ((!(i'.startsWith "lifetime.") || _) && _ && _ && _) = true
    rw [hl]; rfl
  · obtain ⟨hp, g, dd, k, os⟩ := s
    rfl
theorem wq_setAdd {Q : Bool → Shared → Prop} (ha : n₀ ≤ a) (ho : s.heap.get? a = some (FzO es ep t)) (hf : t.fits es.size = true) (hh : Has w es S) (hc : c ∉ S) (hs : S.length + 1 < 4096)
    (h : ∀ b s' es' ep' t', SB [a] { s with toks := s.toks + 1 } s' → s'.heap.get? a = some (FzO es' ep' t') → t'.fits es'.size = true → Has w es' (S ++ [c]) → Q b s') :
    wq p (fw w b1 b2) n₀ ann 16 (setAdd a (.str ⟨#[c]⟩ tk)) Q s := by
  unfold setAdd
  refine wq_holding (wq_bind (c2 := 9) (wq_hash ?_))
  exact wq_addHashed (w := fw w b1 b2) (s := { s with toks := s.toks + 1 }) ha ho hf hh hc hs h
theorem turn (hB : splitAtGen (F :: st) = none) {i : String} {r : Args} (hn : nxt real nextR a it p (fw w b1 b2) n₀ ann (F :: st) d pos = some (.ret (.str ⟨#[c]⟩ tk), d', .builtin i r, pos')) (x : SBx [a] d s)
    (ha : n₀ ≤ a) (ho : s.heap.get? a = some (FzO es ep t)) (hf : t.fits es.size = true) (hh : Has w es S) (hc : c ∉ S) (hs : S.length + 1 < 4096)
    (h : ∀ s' es' ep' t', SBx [a] { d' with toks := d'.toks + 1 } s' → s'.heap.get? a = some (FzO es' ep' t') → t'.fits es'.size = true → Has w es' (S ++ [c]) →
      TopOK p (fw w b1 b2) n₀ ann Φ N s' ⟨denote treeTable (LOOP a it), LOOP a it, pos', F :: st⟩) :
    TopOK p (fw w b1 b2) n₀ ann Φ (N + 417) s ⟨denote treeTable (LOOP a it), LOOP a it, pos, F :: st⟩ := by
  rw [den_loop]
  unfold Builtin.«set.update.loop»
  dsimp only
  rw [Sem.bind_eq_wrap']
  rw [show N + 417 = (N + 1 + 16) + 400 by omega]
  refine next_run hB hn x fun o s' e y k => ?_
  obtain rfl : o = some (.str ⟨#[c]⟩ tk) := by
    cases o with
    | none => cases e
    | some v => injection e with e; rw [e]
  dsimp only
  have ho' : s'.heap.get? a = some (FzO es ep t) := by rw [k.get (List.mem_singleton.mpr rfl)]; exact ho
  rw [Sem.bind_eq_wrap']
  refine wq_holding (wq_setAdd (b1 := b1) (b2 := b2) (tk := tk) ha ho' hf hh hc hs (Q := fun _ s' => ∃ es' ep' t', SBx [a] { d' with toks := d'.toks + 1 } s' ∧ s'.heap.get? a = some (FzO es' ep' t') ∧ t'.fits es'.size = true ∧ Has w es' (S ++ [c])) ?_) Φ (N + 1) _ Sem.raise id id _ _ F st ?_
  · intro b s₂ es' ep' t' q1 q2 q3 q4
    refine ⟨es', ep', t', ⟨?_, y.2⟩, q2, q3, q4⟩
    have y1 := y.1
    exact SB.trans (s' := { s' with toks := s'.toks + 1 }) ⟨y1.1, y1.2.1, congrArg (· + 1) y1.2.2.1, y1.2.2.2.1, y1.2.2.2.2.1, y1.2.2.2.2.2.1, y1.2.2.2.2.2.2⟩ q1
  · rintro b s₂ ⟨es', ep', t', q1, q2, q3, q4⟩
    exact again_ok (h s₂ es' ep' t' q1 q2 q3 q4) (by decide +kernel)
theorem turn_end (hB : splitAtGen (F :: st) = none) {code : Code} (hn : nxt real nextR a it p (fw w b1 b2) n₀ ann (F :: st) d pos = some (.next, d', code, pos')) (x : SBx [a] d s)
    (h : ∀ s', SBx [a] d' s' → s'.heap.get? a = s.heap.get? a → TopOK p (fw w b1 b2) n₀ ann Φ N s' ⟨.pure (.done (.ret .none)), code, pos', F :: st⟩) :
    TopOK p (fw w b1 b2) n₀ ann Φ (N + 417) s ⟨denote treeTable (LOOP a it), LOOP a it, pos, F :: st⟩ := by
  rw [den_loop]
  unfold Builtin.«set.update.loop»
  dsimp only
  rw [Sem.bind_eq_wrap']
  rw [show N + 417 = (N + 17) + 400 by omega]
  refine next_run hB hn x fun o s' e y k => ?_
  obtain rfl : o = none := by
    cases o with
    | none => rfl
    | some v => cases e
  exact (h s' y (k.get (List.mem_singleton.mpr rfl))).mono 17
theorem loop_ok (hB : splitAtGen (F :: st) = none) (ha : n₀ ≤ a) {code : Code} : ∀ {cs : List Nat} {d : Shared} {pos : Pos} {s : Shared} {es : Array (Int × Value)} {ep : Nat} {t : SetTable} {S : List Nat},
    loopD real nextR a it p (fw w b1 b2) n₀ ann (F :: st) cs d pos = some (d', code, pos') → SBx [a] d s → s.heap.get? a = some (FzO es ep t) → t.fits es.size = true → Has w es S → (S ++ cs).Nodup → (S ++ cs).length < 4096 →
    (∀ s' es' ep' t', SBx [a] d' s' → s'.heap.get? a = some (FzO es' ep' t') → t'.fits es'.size = true → Has w es' (S ++ cs) →
      TopOK p (fw w b1 b2) n₀ ann Φ N s' ⟨.pure (.done (.ret .none)), code, pos', F :: st⟩) →
    TopOK p (fw w b1 b2) n₀ ann Φ (N + 417 * (cs.length + 1)) s ⟨denote treeTable (LOOP a it), LOOP a it, pos, F :: st⟩
  | [], d, pos, s, es, ep, t, S, hl, x, ho, hf, hh, hn, hz, h => by
    unfold loopD at hl
    split at hl
    · rename_i q
      cases hl
      exact turn_end hB q x fun s' y e => h s' es ep t y (e.trans ho) hf (by rw [List.append_nil]; exact hh)
    · cases hl
  | c :: cs, d, pos, s, es, ep, t, S, hl, x, ho, hf, hh, hn, hz, h => by
    unfold loopD at hl
    split at hl
    · rename_i c' tk d₁ i r pos₁ q
      split at hl
      · rename_i e
        obtain rfl : c = c' := Nat.eq_of_beq_eq_true e
        have hc : c ∉ S := fun m => (List.nodup_append.mp hn).2.2 c m c (.head _) rfl
        have hle : S.length + 1 < 4096 := by simp only [List.length_append, List.length_cons] at hz; omega
        rw [show N + 417 * ((c :: cs).length + 1) = (N + 417 * (cs.length + 1)) + 417 by rw [List.length_cons]; omega]
        refine turn hB q x ha ho hf hh hc hle fun s' es' ep' t' y1 y2 y3 y4 => ?_
        have e2 : S ++ [c] ++ cs = S ++ c :: cs := by simp
        refine loop_ok hB ha hl y1 y2 y3 y4 (by rw [e2]; exact hn) (by rw [e2]; exact hz) fun s'' es'' ep'' t'' z1 z2 z3 z4 => h s'' es'' ep'' t'' z1 z2 z3 (by rw [← e2]; exact z4)
      · cases hl
    · cases hl
end
end Mine
end
-- H8
noncomputable section
open PySem PySem.W PySem.Calls PyProof.Rows
open PySem.Builtin.Frozenset
namespace Mine
section
variable {p : Program} {w : World} {n₀ : Nat} {ann : Option Value} {b1 b2 : Bool} {s d d' : Shared} {a r o : Addr} {es es' eo : Array (Int × Value)} {ep epo : Nat} {t t' to : SetTable} {S So : List Nat} {c m n : Nat} {tk : Tok}
theorem wq_walk {Q : Array (Int × Value) → Shared → Prop} (ho : s.heap.get? o = some (FzO eo epo to)) (hf : to.fits eo.size = true)
    (hq : w.params.followText "set-order" = true ∨ (to.led && to.plain) = true ∨ eo.size ≤ 1) (h : ∀ W : Array (Int × Value), W.toList.Perm eo.toList → Q W s) :
    wq p w n₀ ann 4 (setWalk o) Q s := by
  unfold setWalk
  refine wq_bind (c2 := 3) (wq_setState ho hf ?_)
  dsimp only
  refine wq_bind (c2 := 2) (wq_byText ?_)
  split
  · refine wq_bind (c2 := 1) (c1 := 1) (wq_ask ?_)
    exact wq_le (wq_pure (h _ (pick_perm _ _))) (by decide)
  · rename_i hb
    split
    · rename_i hd
      exfalso
      have hd' : (!to.plain && decide (eo.size > 1)) = true := hd
      simp only [Bool.and_eq_true, Bool.not_eq_true', decide_eq_true_eq] at hd'
      rcases hq with q | q | q
      · exact hb q
      · simp only [Bool.and_eq_true] at q; rw [q.2] at hd'; exact absurd hd'.1 (by simp)
      · omega
    · refine wq_le (wq_bind (c2 := 0) (c1 := 0) ?_) (by decide)
      show wq p w n₀ ann 0 (if (!to.led && decide (eo.size > 1)) = true then unsupported "set:maker-not-led" else pure ()) _ s
      have hl : (!to.led && decide (eo.size > 1)) = false := by
        rcases hq with q | q | q
        · exact absurd q hb
        · simp only [Bool.and_eq_true] at q; rw [q.1]; rfl
        · rw [decide_eq_false (by omega)]; exact Bool.and_false _
      rw [hl]
      exact wq_pure (wq_pure (h _ (List.Perm.refl _)))
theorem forIn_pure {β : Type} {es : Array (Int × Value)} {b : β} {f : Int × Value → β → Sem (ForInStep β)} (hf : ∀ e ∈ es.toList, ∀ r, f e r = pure (.yield r)) : forIn es b f = (pure b : Sem β) := by
  rw [← Array.forIn_toList]
  revert hf
  generalize es.toList = l
  intro hf
  induction l with
  | nil => rfl
  | cons a l ih =>
    rw [List.forIn_cons, hf a (.head _)]
    exact ih fun e he => hf e (.tail _ he)
theorem forIn_quiet {f : Int × Value → (Option Bool × Unit) → Sem (ForInStep (Option Bool × Unit))} (hh : Has w eo So) (hb : ∀ q r, f (el w q) r = pure (.yield (none, ()))) : forIn eo ((none, ()) : Option Bool × Unit) f = pure ((none, ()) : Option Bool × Unit) := by
  rw [← Array.forIn_toList]
  have hm : ∀ e ∈ eo.toList, ∀ r, f e r = pure (.yield (none, ())) := fun e he r => by
    obtain ⟨q, _, rfl⟩ := hh.mem he
    exact hb q r
  revert hm
  generalize eo.toList = l
  intro hm
  induction l with
  | nil => rfl
  | cons a l ih =>
    rw [List.forIn_cons, hm a (.head _)]
    exact ih fun e he => hm e (.tail _ he)
theorem wq_quiet {Q : Bool → Shared → Prop} {s1 : Addr} {e1 : Array (Int × Value)} {p1 : Nat} {t1 : SetTable} (ho : s.heap.get? o = some (FzO eo epo to)) (hf : to.fits eo.size = true) (hh : Has w eo So)
    (ho1 : s.heap.get? s1 = some (FzO e1 p1 t1)) (hf1 : t1.fits e1.size = true) (hh1 : Has w e1 S) (h : Q true s) : wq p w n₀ ann 2 (setsQuiet [o, s1]) Q s := by
  unfold setsQuiet
  simp only [List.forIn_cons, List.forIn_nil]
  refine wq_bind (c1 := 2) (c2 := 0) (wq_bind (c1 := 1) (c2 := 1) (wq_bind (c1 := 1) (c2 := 0) (wq_setEntries ho hf ?_)))
  rw [forIn_quiet hh (fun _ _ => rfl)]
  refine wq_bind (c1 := 0) (c2 := 0) (wq_pure (wq_pure ?_))
  dsimp only
  refine wq_bind (c1 := 1) (c2 := 0) (wq_bind (c1 := 1) (c2 := 0) (wq_setEntries ho1 hf1 ?_))
  rw [forIn_quiet hh1 (fun _ _ => rfl)]
  refine wq_bind (c1 := 0) (c2 := 0) (wq_pure (wq_pure ?_))
  dsimp only
  exact wq_pure (wq_pure h)
theorem wq_unseen {Q : Array (Int × Value) → Shared → Prop} {s1 : Addr} {e1 : Array (Int × Value)} {p1 : Nat} {t1 : SetTable} {filled : Option Addr} (ho : s.heap.get? o = some (FzO eo epo to)) (hf : to.fits eo.size = true) (hh : Has w eo So)
    (ho1 : s.heap.get? s1 = some (FzO e1 p1 t1)) (hf1 : t1.fits e1.size = true) (hh1 : Has w e1 S) (hfil : filled = none ∨ eo.size ≤ 1) (h : ∀ W : Array (Int × Value), W.toList.Perm eo.toList → Q W s) :
    wq p w n₀ ann 9 (setWalkUnseen o [s1] filled) Q s := by
  unfold setWalkUnseen
  refine wq_bind (c2 := 8) (wq_setState ho hf ?_)
  dsimp only
  refine wq_bind (c2 := 7) (wq_byText ?_)
  split
  · rename_i q
    refine wq_le (wq_walk ho hf ?_ h) (by decide)
    simp only [Bool.or_eq_true, decide_eq_true_eq] at q
    rcases q with (q | q) | q
    · exact .inl q
    · exact .inr (.inl q)
    · exact .inr (.inr q)
  · rename_i q
    refine wq_le (wq_bind (c1 := 2) (c2 := 1) (wq_quiet ho hf hh ho1 hf1 hh1 ?_)) (by decide)
    simp only [Bool.not_true, Bool.false_eq_true, ↓reduceIte]
    refine wq_bind (c1 := 1) (c2 := 0) (wq_rule ?_)
    rcases hfil with rfl | hz
    · exact wq_pure (h _ (List.Perm.refl _))
    · exfalso
      apply q
      rw [decide_eq_true hz]; simp
-- the discards
theorem erase_toList (xs : Array (Int × Value)) (i : Nat) : (SetTable.eraseAt xs i).toList = xs.toList.eraseIdx i := by
  simp [SetTable.eraseAt, List.eraseIdx_eq_take_drop_succ, List.extract_eq_take_drop, List.take_of_length_le]
theorem el_inj {q q' : Nat × Tok} (h : el w q = el w q') : q = q' := by
  obtain ⟨c, tk⟩ := q
  obtain ⟨c', tk'⟩ := q'
  simp only [el, Prod.mk.injEq, Value.str.injEq, Str.mk.injEq] at h
  obtain ⟨_, h1, h2⟩ := h
  have : c = c' := by simpa using h1
  rw [this, h2]
theorem Has.erase {i : Nat} (h : Has w es S) (he : es[i]? = some (el w (c, tk))) : Has w (SetTable.eraseAt es i) (S.erase c) := by
  obtain ⟨l, p, q⟩ := h
  rw [← Array.getElem?_toList] at he
  obtain ⟨hi, he'⟩ := List.getElem?_eq_some_iff.mp he
  have p1 : (el w (c, tk) :: es.toList.eraseIdx i).Perm es.toList := by
    have := List.getElem_cons_eraseIdx_perm' hi
    rwa [he'] at this
  have hm : el w (c, tk) ∈ l.map (el w) := p.mem_iff.mp (he' ▸ List.getElem_mem hi)
  obtain ⟨x, hx, ex⟩ := List.mem_map.mp hm
  obtain rfl := el_inj ex
  have p2 : l.Perm ((c, tk) :: l.erase (c, tk)) := List.perm_cons_erase hx
  refine ⟨l.erase (c, tk), ?_, ?_⟩
  · rw [erase_toList]
    have := (p1.trans p).trans (p2.map (el w))
    rw [List.map_cons] at this
    exact this.cons_inv
  · have p3 := p2.map (·.1)
    rw [List.map_cons] at p3
    have p4 : (c :: (l.erase (c, tk)).map (·.1)).Perm S := p3.symm.trans q
    have hc : c ∈ S := p4.mem_iff.mp (.head _)
    exact (p4.trans (List.perm_cons_erase hc)).cons_inv
noncomputable def DS (w : World) (h : Heap) (r : Addr) (S : List Nat) (k : Nat) : Prop := ∃ es ep t, h.get? r = some (FzO es ep t) ∧ t.fits es.size = true ∧ Has w es S ∧ t.mask = 127 ∧ t.dummies.size ≤ k
theorem erase_size9 {α : Type} (a : Array α) {i : Nat} (h : i < a.size) : (SetTable.eraseAt a i).size = a.size - 1 := by
  simp [SetTable.eraseAt]; omega
theorem fit9 {a d : Nat} (h : 0 < a) : a - 1 + (d + 1) = a + d := by omega
theorem drop_fits {i : Nat} (hf : t.fits es.size = true) (hi : i < es.size) : (t.drop i).fits (SetTable.eraseAt es i).size = true ∧ (t.drop i).mask = t.mask ∧ (t.drop i).dummies.size = t.dummies.size + 1 := by
  rw [fits_iff] at hf ⊢
  unfold SetTable.drop
  have hp : i < t.place.size := by rw [hf.1]; exact hi
  rw [Array.getElem?_eq_getElem hp]
  dsimp only
  have e1 : (SetTable.eraseAt t.place i).size = t.place.size - 1 := erase_size9 _ hp
  have e2 : (SetTable.eraseAt es i).size = es.size - 1 := erase_size9 _ hi
  have e3 : ∀ j, (SetTable.insertAt t.dummies (SetTable.below t.dummies j) j).size = t.dummies.size + 1 := fun j => by
    rw [← Array.length_toList, (SetTable.insertAt_perm _ _ _).length_eq, Array.length_toList, Array.size_push]
  refine ⟨⟨by rw [e1, e2, hf.1], ?_⟩, rfl, e3 _⟩
  have := hf.2
  unfold SetTable.fill at this ⊢
  dsimp only
  rw [e1, e3, fit9 (Nat.lt_of_le_of_lt (Nat.zero_le i) hp)]; exact this
theorem wq_discard {k : Nat} {Q : Bool → Shared → Prop} (hc : c = 9 ∨ c = 10) (ha : n₀ ≤ a) (hd : DS w s.heap a S k) (hS : c ∈ S) (hs : S.length < 4096)
    (h : ∀ s', SB [a] s s' → DS w s'.heap a (S.erase c) (k + 1) → Q true s') : wq p (fw w b1 b2) n₀ ann 12 (setDiscardHashed a (.str ⟨#[c]⟩ tk) (hashStr w ⟨#[c]⟩)) Q s := by
  obtain ⟨es, ep, t, ho, hf, hh, hm, hk⟩ := hd
  obtain ⟨i, tk', hi, he⟩ := hh.find_some hS
  have hil : i < es.size := (Array.getElem?_eq_some_iff.mp he).1
  unfold setDiscardHashed
  refine wq_bind (c1 := 8) (c2 := 4) ?_
  · unfold setFind setFindIn
    refine wq_bind (c2 := 7) (wq_setState ho hf ?_)
    dsimp only
    rw [Has.byScan (w := w) hh hs]
    simp only [↓reduceIte]
    refine wq_bind (c1 := 1) (c2 := 6) (wq_rule ?_)
    unfold setScan
    dsimp only
    rw [hh.all_keys]
    simp only [↓reduceIte]
    unfold setScanStrs
    rw [hi]
    dsimp only
    rw [he]
    dsimp only [el]
    refine wq_bind (c1 := 6) (c2 := 0) (wq_bind (c2 := 5) (c1 := 1) (wq_setEpoch ho hf ?_))
    refine wq_bind (c1 := 4) (c2 := 1) (wq_eq hc ?_)
    simp only [Bool.false_and, Bool.false_eq_true, ↓reduceIte]
    refine wq_bind (c2 := 0) (c1 := 1) (wq_setEpoch ho hf ?_)
    simp only [bne_self_eq_false, Bool.false_eq_true, ↓reduceIte]
    refine wq_pure (wq_pure ?_)
    dsimp only
    refine wq_bind (c2 := 3) (wq_setState ho hf ?_)
    dsimp only
    obtain ⟨d1, d2, d3⟩ := drop_fits hf hil
    have hh' := hh.erase he
    refine wq_bind (c2 := 1) (wq_storeSet ha ho (by rw [hh'.size]; exact size_line (Nat.lt_of_le_of_lt List.length_erase_le hs)) fun s' hsb ho' => ?_)
    refine wq_bind (c2 := 0) (wq_point ?_)
    exact wq_pure (h s' hsb ⟨_, _, _, ho', d1, hh', d2.trans hm, by rw [d3]; omega⟩)
end
end Mine
end
-- H9
noncomputable section
open PySem PySem.W PySem.Calls PyProof.Rows
open PySem.Builtin.Frozenset
namespace Mine
section
variable {p : Program} {w : World} {n₀ : Nat} {ann : Option Value} {b1 b2 : Bool} {s d d' : Shared} {a r o : Addr} {es es' eo : Array (Int × Value)} {ep epo : Nat} {t t' to : SetTable} {S So : List Nat} {c m n : Nat} {tk : Tok}
noncomputable def FzAt (w : World) (h : Heap) (a : Addr) (S : List Nat) : Prop := ∃ es ep t, h.get? a = some (FzO es ep t) ∧ t.fits es.size = true ∧ Has w es S
-- what a new set is, made from s
noncomputable def Made (w : World) (s s' : Shared) (S : List Nat) : Prop := ∃ o, SB [s.heap.objs.size] { s with heap := s.heap.push o } s' ∧ FzAt w s'.heap s.heap.objs.size S
theorem push_get (s : Shared) {a : Addr} {o x : Obj} (h : s.heap.get? a = some x) : (s.heap.push o).get? a = some x := Heap.get?_push_of_some o h
theorem push_new (s : Shared) (es : Array (Int × Value)) (ep : Nat) (t : SetTable) : (s.heap.push (FzO es ep t)).get? s.heap.objs.size = some (FzO es ep t) := Heap.get?_push_size _ rfl
theorem wq_copyOf {Q : Value → Shared → Prop} (hn : n₀ ≤ s.heap.objs.size) (ho : s.heap.get? o = some (FzO eo epo to)) (hf : to.fits eo.size = true) (hh : Has w eo So)
    (hS : (So.length = 2 ∧ m = 7) ∨ (So.length = 32 ∧ m = 127) ∨ (So.length = 33 ∧ m = 127))
    (h : ∀ s' X, SB [s.heap.objs.size] { s with heap := s.heap.push X } s' → Copied w s'.heap s.heap.objs.size So m → Q (.ref s.heap.objs.size) s') : wq p w n₀ ann 12 (copyOf o) Q s := by
  unfold copyOf
  refine wq_bind (c1 := 1) (c2 := 11) (wq_baseOf ho ?_)
  refine wq_bind (c1 := 2) (c2 := 9) (wq_newSet fun led => ?_)
  refine wq_bind (c1 := 0) (c2 := 9) (wq_pure ?_)
  have hlt : o < s.heap.objs.size := Heap.lt_size ho
  refine wq_bind (c1 := 9) (c2 := 0) (wq_copy (s := { s with heap := s.heap.push (FzO #[] 0 (.fresh 0 0 led)) }) hn (push_new s _ _ _) (push_get s ho) hf hh (Nat.ne_of_gt hlt) hS fun s' hsb hC => ?_)
  exact wq_pure (h s' _ hsb hC)
theorem wq_unchanged {id : String} {Q : Unit → Shared → Prop} (ho : s.heap.get? o = some (FzO eo epo to)) (hf : to.fits eo.size = true) (h : Q () s) : wq p w n₀ ann 1 (unchanged id o epo) Q s := by
  unfold unchanged
  refine wq_bind (c1 := 1) (c2 := 0) (wq_setEpoch ho hf ?_)
  simp only [bne_self_eq_false, Bool.false_eq_true, ↓reduceIte]
  exact wq_pure h
theorem one_el (hh : Has w eo [c]) {W : Array (Int × Value)} (hW : W.toList.Perm eo.toList) : ∃ tk, W = #[el w (c, tk)] := by
  have hh' := hh.perm hW
  have hz := hh'.size
  have hz' : W.toList.length = 1 := by rw [Array.length_toList]; exact hz
  obtain ⟨e, he⟩ := List.length_eq_one_iff.mp hz'
  obtain ⟨⟨c', tk⟩, hq, rfl⟩ := hh'.mem (e := e) (by rw [he]; exact .head _)
  obtain rfl : c' = c := by simpa using hq
  refine ⟨tk, ?_⟩
  cases W
  simpa using he
theorem wq_addMerge {id : String} {Q : Unit → Shared → Prop} (ha : n₀ ≤ r) (hC : Copied w s.heap r S m) (hm : (S.length = 2 ∧ m = 7) ∨ (S.length = 32 ∧ m = 127)) (ho : s.heap.get? o = some (FzO eo epo to)) (hf : to.fits eo.size = true) (hh : Has w eo [c])
    (hne : r ≠ o) (hc : c ∉ S) (h : ∀ s', SB [r] s s' → FzAt w s'.heap r (S ++ [c]) → Q () s') : wq p w n₀ ann 40 (merge id r o) Q s := by
  obtain ⟨er, pr, tr, hr, hfr, hhr, hmr, hdr⟩ := hC
  unfold merge
  refine wq_bind (c1 := 1) (c2 := 39) (wq_setEpoch ho hf ?_)
  unfold setMerge
  rw [if_neg (by simpa using hne)]
  refine wq_bind (c1 := 1) (c2 := 38) (wq_setState ho hf ?_)
  dsimp only
  have hemp : eo.isEmpty = false := by
    rw [Array.isEmpty_eq_false_iff]
    intro e
    have := hh.size
    rw [e] at this
    simp at this
  rw [hemp]
  simp only [Bool.false_eq_true, ↓reduceIte]
  have hfill : tr.fill = S.length := by
    rw [fits_iff] at hfr
    unfold SetTable.fill
    rw [hdr, hfr.1, hhr.size]; rfl
  have hroom : wq p w n₀ ann 1 (setRoomFor r eo.size) (fun _ s' => s' = s) s := by
    unfold setRoomFor
    refine wq_bind (c1 := 1) (c2 := 0) (wq_setState hr hfr ?_)
    dsimp only
    have : tr.roomFor eo.size = none := by
      unfold SetTable.roomFor
      rw [hfill, hmr, hh.size, if_neg]
      simp only [List.length_singleton]
      omega
    rw [this]
    exact wq_pure rfl
  refine wq_bind (c1 := 1) (c2 := 37) (wq_mono hroom ?_)
  rintro _ _ rfl
  refine wq_bind (c1 := 1) (c2 := 36) (wq_setState hr hfr ?_)
  dsimp only
  have hroad : tr.road to = .oneByOne := by
    unfold SetTable.road
    rw [hfill, if_pos]
    simp only [bne_iff_ne, ne_eq]
    omega
  rw [hroad]
  dsimp only
  refine wq_bind (c1 := 9) (c2 := 27) (wq_unseen ho hf hh hr hfr hhr (.inr (by rw [hh.size]; simp)) fun W hW => ?_)
  obtain ⟨tk, rfl⟩ := one_el hh hW
  refine wq_bind (c1 := 27) (c2 := 0) ?_
  rw [← Array.forIn_toList]
  simp only [List.forIn_cons, List.forIn_nil]
  refine wq_bind (c1 := 27) (c2 := 0) ?_
  dsimp only [el]
  refine wq_le (wq_bind (c1 := 9) (c2 := 2) (wq_holding (wq_addHashed ha hr hfr hhr hc (by omega) ?_))) (by decide)
  intro b s' es' ep' t' q1 q2 q3 q4
  have ho' : s'.heap.get? o = some (FzO eo epo to) := by rw [q1.get (fun x => hne (List.mem_singleton.mp x).symm)]; exact ho
  refine wq_bind (c1 := 1) (c2 := 1) (wq_unchanged ho' hf ?_)
  refine wq_bind (c1 := 1) (c2 := 0) (wq_setState ho' hf ?_)
  dsimp only
  rw [if_neg (by simp)]
  exact wq_pure (wq_pure (wq_pure (h s' q1 ⟨_, _, _, q2, q3, q4⟩)))
theorem wq_or {Q : Fin → Shared → Prop} (hn : n₀ ≤ s.heap.objs.size) (ho : FzAt w s.heap a S) (hb : FzAt w s.heap o [c]) (hS : (S.length = 2 ∧ m = 7) ∨ (S.length = 32 ∧ m = 127)) (hc : c ∉ S) (hab : a ≠ o)
    (h : ∀ s', Made w s s' (S ++ [c]) → Q (.done (.ret (.ref s.heap.objs.size))) s') : wq p w n₀ ann 70 (Builtin.«frozenset.__or__» ⟨[.ref a, .ref o], []⟩) Q s := by
  obtain ⟨ea, pa, ta, ha, hfa, hha⟩ := ho
  obtain ⟨eb, pb, tb, hb, hfb, hhb⟩ := hb
  unfold Builtin.«frozenset.__or__»
  have hs : slot1 "__or__" ⟨[.ref a, .ref o], []⟩ = pure (.ref a, .ref o) := rfl
  refine wq_bind (c1 := 0) (c2 := 70) (m := slot1 "__or__" ⟨[.ref a, .ref o], []⟩) ?_
  rw [hs]
  refine wq_pure ?_
  dsimp only
  simp only [Bool.false_eq_true, ↓reduceIte]
  refine wq_bind (c1 := 4) (c2 := 60) ?_ |> (wq_le · (by decide))
  unfold andM
  refine wq_bind (c1 := 2) (c2 := 2) (wq_anySet ha ?_)
  dsimp only [toBool]
  refine wq_anySet hb ?_
  simp only [Bool.not_true, Bool.false_eq_true, ↓reduceIte]
  refine wq_bind (c1 := 0) (c2 := 60) (wq_pure ?_)
  refine wq_bind (c1 := 60) (c2 := 0) ?_
  refine wq_bind (c1 := 12) (c2 := 45) (m := copyOf a) (wq_copyOf hn ha hfa hha (m := m) (by rcases hS with q | q; exact .inl q; exact .inr (.inl q)) ?_) |> (wq_le · (by decide))
  intro s' X hsb hC
  have hlt : o < s.heap.objs.size := Heap.lt_size hb
  have hb' : s'.heap.get? o = some (FzO eb pb tb) := by
    rw [hsb.get (fun x => absurd (List.mem_singleton.mp x) (Nat.ne_of_lt hlt))]
    exact push_get s hb
  have hne : (Value.ref o != Value.ref a) = true := by
    rw [bne_iff_ne]
    intro e; injection e with e; exact hab e.symm
  rw [if_pos hne]
  refine wq_bind (c1 := 44) (c2 := 0) (wq_holding ?_) |> (wq_le · (by decide))
  unfold updateFrom
  refine wq_bind (c1 := 2) (c2 := 40) (wq_anySet hb' ?_) |> (wq_le · (by decide))
  simp only [↓reduceIte]
  refine wq_bind (c1 := 0) (c2 := 40) (wq_pure ?_)
  refine wq_addMerge hn hC hS hb' hfb hhb (Nat.ne_of_gt hlt) hc fun s'' hsb'' hF => ?_
  refine wq_pure (wq_pure (h s'' ⟨X, hsb.trans hsb'', hF⟩))
theorem wq_discards {id : String} {k : Nat} (ha : n₀ ≤ r) (hne : r ≠ o) (ho : s.heap.get? o = some (FzO eo epo to)) (hf : to.fits eo.size = true) :
    ∀ (L : List (Nat × Tok)) {s₁ : Shared} {S : List Nat} {k : Nat}, (∀ q ∈ L, q.1 = 9 ∨ q.1 = 10) → (L.map (·.1)).Nodup → (∀ q ∈ L, q.1 ∈ S) → S.length < 4096 → SB [r] s s₁ → DS w s₁.heap r S k → ∀ {Q : PUnit → Shared → Prop},
      (∀ s', SB [r] s s' → DS w s'.heap r ((L.map (·.1)).foldl List.erase S) (k + L.length) → Q PUnit.unit s') →
      wq p (fw w b1 b2) n₀ ann (13 * L.length) (forIn (L.map (el w)) PUnit.unit (fun x __s => do
        let _ ← holding [x.2] (setDiscardHashed r x.2 x.1)
        unchanged id o epo
        pure (ForInStep.yield PUnit.unit))) Q s₁
  | [], s₁, S, k, _, _, _, _, hsb, hD, Q, h => by
    rw [List.map_nil, List.forIn_nil]
    exact wq_pure (h s₁ hsb hD)
  | (c, tk) :: L, s₁, S, k, hc, hnd, hm, hs, hsb, hD, Q, h => by
    rw [List.map_cons, List.forIn_cons]
    have hnd' := List.nodup_cons.mp hnd
    refine wq_bind (c1 := 13) (c2 := 13 * L.length) ?_ |> (wq_le · (by rw [List.length_cons]; omega))
    dsimp only [el]
    refine wq_bind (c1 := 12) (c2 := 1) (wq_holding (wq_discard (hc _ (.head _)) ha hD (hm _ (.head _)) hs fun s' q1 q2 => ?_))
    have ho' : s'.heap.get? o = some (FzO eo epo to) := by rw [(hsb.trans q1).get (fun x => hne (List.mem_singleton.mp x).symm)]; exact ho
    refine wq_bind (c1 := 1) (c2 := 0) (wq_unchanged ho' hf ?_)
    refine wq_pure ?_
    refine wq_discards ha hne ho hf (k := k) L (fun q hq => hc q (.tail _ hq)) hnd'.2 (fun q hq => ?_) (Nat.lt_of_le_of_lt List.length_erase_le hs) (hsb.trans q1) q2 fun s'' z1 z2 => h s'' z1 (by rw [List.length_cons, show k + (L.length + 1) = k + 1 + L.length by omega]; exact z2)
    exact (List.mem_erase_of_ne (fun (e : q.1 = c) => hnd'.1 (show c ∈ L.map (·.1) from e ▸ List.mem_map_of_mem hq))).mpr (hm q (.tail _ hq))
noncomputable def dec (e : Int × Value) : Nat × Tok := match e.2 with
  | .str ⟨⟨[c]⟩⟩ tk => (c, tk)
  | _ => (0, 0)
theorem wq_sub {Q : Fin → Shared → Prop} (hn : n₀ ≤ s.heap.objs.size) (ho : FzAt w s.heap a S) (hb : FzAt w s.heap o So) (hS : S.length = 33) (hso : So = [9] ∨ So = [9, 10]) (h9 : 9 ∈ S) (h10 : 10 ∈ S) (hab : a ≠ o)
    (h : ∀ s', Made w s s' (So.foldl List.erase S) → Q (.done (.ret (.ref s.heap.objs.size))) s') : wq p (fw w b1 b2) n₀ ann 90 (Builtin.«frozenset.__sub__» ⟨[.ref a, .ref o], []⟩) Q s := by
  obtain ⟨ea, pa, ta, ha, hfa, hha⟩ := ho
  obtain ⟨eb, pb, tb, hb, hfb, hhb⟩ := hb
  have hsl : So.length ≤ 2 ∧ So.Nodup ∧ ∀ c ∈ So, (c = 9 ∨ c = 10) ∧ c ∈ S := by
    rcases hso with rfl | rfl
    · exact ⟨by decide, by decide, fun c hc => by simp at hc; subst hc; exact ⟨.inl rfl, h9⟩⟩
    · exact ⟨by decide, by decide, fun c hc => by simp at hc; rcases hc with rfl | rfl; exact ⟨.inl rfl, h9⟩; exact ⟨.inr rfl, h10⟩⟩
  have hlt : o < s.heap.objs.size := Heap.lt_size hb
  unfold Builtin.«frozenset.__sub__»
  have hs : slot1 "__sub__" ⟨[.ref a, .ref o], []⟩ = pure (.ref a, .ref o) := rfl
  refine wq_bind (c1 := 0) (c2 := 90) (m := slot1 "__sub__" ⟨[.ref a, .ref o], []⟩) ?_
  rw [hs]
  refine wq_pure ?_
  dsimp only
  simp only [Bool.false_eq_true, ↓reduceIte]
  refine wq_bind (c1 := 4) (c2 := 80) ?_ |> (wq_le · (by decide))
  unfold andM
  refine wq_bind (c1 := 2) (c2 := 2) (wq_anySet ha ?_)
  dsimp only [toBool]
  refine wq_anySet hb ?_
  simp only [Bool.not_true, Bool.false_eq_true, ↓reduceIte]
  refine wq_bind (c1 := 0) (c2 := 80) (wq_pure ?_)
  refine wq_bind (c1 := 80) (c2 := 0) ?_
  unfold difference
  dsimp only
  refine wq_bind (c1 := 2) (c2 := 70) (wq_anySet hb ?_) |> (wq_le · (by decide))
  simp only [Bool.not_true, Bool.false_eq_true, ↓reduceIte]
  refine wq_bind (c1 := 0) (c2 := 70) (wq_pure ?_)
  simp only [Bool.false_and, Bool.false_eq_true, ↓reduceIte]
  have hsz : ∀ {x : Addr} {ex : Array (Int × Value)} {px : Nat} {tx : SetTable} {s : Shared} {R : Nat → Shared → Prop}, s.heap.get? x = some (FzO ex px tx) → tx.fits ex.size = true → R ex.size s → wq p (fw w b1 b2) n₀ ann 1 (Builtin.Frozenset.sizeOf x) R s := fun h1 h2 h3 => by
    unfold Builtin.Frozenset.sizeOf
    refine wq_bind (c1 := 1) (c2 := 0) (wq_setEntries h1 h2 ?_)
    exact wq_pure h3
  refine wq_bind (c1 := 1) (c2 := 69) (hsz hb hfb ?_)
  refine wq_bind (c1 := 1) (c2 := 68) (hsz ha hfa ?_)
  rw [if_pos (by rw [hha.size, hhb.size, hS]; have := hsl.1; omega)]
  refine wq_bind (c1 := 1) (c2 := 67) (wq_rule ?_)
  refine wq_bind (c1 := 12) (c2 := 55) (wq_copyOf (w := fw w b1 b2) hn ha hfa hha (m := 127) (.inr (.inr ⟨hS, rfl⟩)) ?_)
  intro s' X hsb hC
  refine wq_bind (c1 := 0) (c2 := 55) (wq_pure ?_)
  have hne : s.heap.objs.size ≠ o := Nat.ne_of_gt hlt
  have hb' : s'.heap.get? o = some (FzO eb pb tb) := by
    rw [hsb.get (fun x => absurd (List.mem_singleton.mp x) (Nat.ne_of_lt hlt))]
    exact push_get s hb
  have hD : DS w s'.heap s.heap.objs.size S 0 := let ⟨e1, e2, e3, e4, e5, e6, e7, e8⟩ := hC; ⟨e1, e2, e3, e4, e5, e6, e7, by rw [e8]; exact Nat.le_refl 0⟩
  refine wq_bind (c1 := 55) (c2 := 0) (wq_holding ?_)
  unfold differenceUpdate
  rw [if_neg (by simpa using fun e => hne e.symm)]
  refine wq_bind (c1 := 2) (c2 := 50) (wq_anySet hb' ?_) |> (wq_le · (by decide))
  simp only [↓reduceIte]
  refine wq_bind (c1 := 0) (c2 := 50) (wq_pure ?_)
  obtain ⟨er, pr, tr, hr, hfr, hhr, hmr, hdr⟩ := hC
  refine wq_bind (c1 := 1) (c2 := 49) (hsz hb' hfb ?_)
  refine wq_bind (c1 := 1) (c2 := 48) (hsz hr hfr ?_)
  rw [if_neg (by rw [hhr.size, hhb.size, hS]; have := hsl.1; omega)]
  refine wq_bind (c1 := 1) (c2 := 47) (wq_setEpoch hb' hfb ?_)
  refine wq_bind (c1 := 40) (c2 := 1) (wq_holding (wq_bind (c1 := 9) (c2 := 26) (wq_unseen (w := fw w b1 b2) hb' hfb hhb hr hfr hhr (.inl rfl) fun W hW => ?_) |> (wq_le · (by decide)))) |> (wq_le · (by decide))
  obtain ⟨l, hl1, hl2⟩ := hhb.perm hW
  obtain ⟨l', hl3, hl4⟩ : ∃ l' : List (Nat × Tok), W.toList = l'.map (el w) ∧ (l'.map (·.1)).Perm So := by
    have hmap : (l.map (el w)).map dec = l := by
      rw [List.map_map]
      exact (List.map_congr_left fun q _ => rfl).trans (List.map_id l)
    have hp : (W.toList.map dec).Perm l := by
      have := hl1.map dec
      rw [hmap] at this
      exact this
    refine ⟨W.toList.map dec, ?_, (hp.map _).trans hl2⟩
    rw [List.map_map]
    have : ∀ e ∈ W.toList, e = (el w ∘ dec) e := fun e he => by
      obtain ⟨q, _, rfl⟩ := List.mem_map.mp (hl1.mem_iff.mp he)
      rfl
    exact (List.map_id W.toList).symm.trans (List.map_congr_left this)
  have hlen : l'.length ≤ 2 := by
    have := hl4.length_eq
    rw [List.length_map] at this
    rw [this]; exact hsl.1
  have hfold : (l'.map (·.1)).foldl List.erase S = So.foldl List.erase S := hl4.foldl_eq' (fun x _ y _ z => List.erase_comm x y) S
  rw [← Array.forIn_toList, hl3]
  refine wq_le (wq_bind (c1 := 13 * l'.length) (c2 := 0) (wq_discards (id := "frozenset.__sub__") (k := 0) hn hne hb' hfb l' (fun q hq => (hsl.2.2 q.1 (hl4.mem_iff.mp (List.mem_map_of_mem hq))).1) (hl4.nodup_iff.mpr hsl.2.1)
    (fun q hq => (hsl.2.2 q.1 (hl4.mem_iff.mp (List.mem_map_of_mem hq))).2) (by rw [hS]; decide) (SB.refl _ s') hD fun s'' z1 z2 => ?_)) (by omega)
  rw [hfold] at z2
  obtain ⟨ex, px, tx, x1, x2, x3, x4, x5⟩ := z2
  refine wq_pure ?_
  unfold setTidy
  refine wq_bind (c1 := 1) (c2 := 0) (wq_setState x1 x2 ?_)
  dsimp only
  have : tx.tooManyDummies = false := by
    unfold SetTable.tooManyDummies
    rw [x4]
    exact decide_eq_false (by omega)
  rw [this]
  simp only [Bool.false_eq_true, ↓reduceIte]
  exact wq_pure (wq_pure (wq_pure (h s'' ⟨X, hsb.trans z1, _, _, _, x1, x2, x3⟩)))
end
end Mine
end
-- H10
noncomputable section
open PySem PySem.W PySem.Calls PyProof.Rows
namespace Mine
abbrev PW : Program := PySem.Challenge.pw_io0022_01
abbrev AN : Option Value := some (.ref 6)
abbrev SD : Type := Array (Int × Value) × Nat × SetTable
noncomputable def ob (d : SD) : Obj := FzO d.1 d.2.1 d.2.2
noncomputable def putO (a : Addr) (o : Obj) (s : Shared) : Shared := { s with heap := s.heap.update a (fun _ => o) }
noncomputable def pushO (o : Obj) (s : Shared) : Shared := { s with heap := s.heap.push o }
noncomputable def retT (v : Value) (code : Code) (pos : Pos) (st : List Frame) : Thread := ⟨.pure (.done (.ret v)), code, pos, st⟩
noncomputable def hexes : List Nat := [48, 49, 50, 51, 52, 53, 54, 55, 56, 57, 97, 98, 99, 100, 101, 102, 65, 66, 67, 68, 69, 70]
noncomputable def boot0 (w : World) (os : OsState) : Shared := ⟨boot_heap w.params, #[], boot_drawn, boot_toks, os⟩
structure Eng where
  M : Mach
  nx : Value → Sem (Option Value)
  G : World → Nat → Shared → Thread → Option (Shared × Thread)
  T : World → Nat → Shared → Thread → Option Shared
noncomputable def engR : Eng := ⟨real, nextR, fun w n s t => topGo treeTable PW w 11 AN n s t, fun w n s t => topRun treeTable PW w 11 AN n s t⟩
noncomputable def engQ : Eng := ⟨quick, nextQ, fun w n s t => PySem.W.Fast.tw15667345088766844465 PySem.W.Fast.tw14364793385576792824 PW w 11 AN n s t, fun w n s t => PySem.W.Fast.tw14082659384304107361 PySem.W.Fast.tw14364793385576792824 PW w 11 AN n s t⟩
noncomputable def Eng.L (E : Eng) (w : World) (a it : Addr) (cs : List Nat) (x : Shared × Thread) : Option (Shared × Code × Pos) := loopD E.M E.nx a it PW w 11 AN x.2.stack cs x.1 x.2.pos
abbrev Cut : Type := Sem PySem.Fin × Code × Bool × Bool
noncomputable def cutOf (x : Shared × Thread) : Cut := (x.2.cur, x.2.code, (splitAtGen x.2.stack).isNone, x.2.stack.isEmpty)
noncomputable def chain {α : Type} (E : Eng) (w : World) (os : OsState) (D : Nat → SD) (fin : Shared → α) : Option (List Cut × List (Option Obj) × List Nat × α) := do
  let x1 ← E.G w 414 (boot0 w os) (topStub PW)
  let y1 ← E.L w 58 57 (List.range 32) x1
  let x2 ← E.G w 38 (putO 58 (ob (D 58)) y1.1) (retT .none y1.2.1 y1.2.2 x1.2.stack)
  let y2 ← E.L w 63 64 [127] x2
  let x3 ← E.G w 18 (putO 63 (ob (D 63)) y2.1) (retT .none y2.2.1 y2.2.2 x2.2.stack)
  let x4 ← E.G w 30 (pushO (ob (D 67)) x3.1) (retT (.ref 67) x3.2.code x3.2.pos x3.2.stack)
  let y4 ← E.L w 68 69 [9] x4
  let x5 ← E.G w 18 (putO 68 (ob (D 68)) y4.1) (retT .none y4.2.1 y4.2.2 x4.2.stack)
  let x6 ← E.G w 30 (pushO (ob (D 72)) x5.1) (retT (.ref 72) x5.2.code x5.2.pos x5.2.stack)
  let y6 ← E.L w 73 74 [9, 10] x6
  let x7 ← E.G w 18 (putO 73 (ob (D 73)) y6.1) (retT .none y6.2.1 y6.2.2 x6.2.stack)
  let x8 ← E.G w 28 (pushO (ob (D 77)) x7.1) (retT (.ref 77) x7.2.code x7.2.pos x7.2.stack)
  let y8 ← E.L w 78 79 [32, 9] x8
  let x9 ← E.G w 39 (putO 78 (ob (D 78)) y8.1) (retT .none y8.2.1 y8.2.2 x8.2.stack)
  let y9 ← E.L w 82 83 [10] x9
  let x10 ← E.G w 18 (putO 82 (ob (D 82)) y9.1) (retT .none y9.2.1 y9.2.2 x9.2.stack)
  let x11 ← E.G w 62 (pushO (ob (D 86)) x10.1) (retT (.ref 86) x10.2.code x10.2.pos x10.2.stack)
  let y11 ← E.L w 87 88 hexes x11
  let xf ← E.T w 900 (putO 87 (ob (D 87)) y11.1) (retT .none y11.2.1 y11.2.2 x11.2.stack)
  some ([cutOf x1, cutOf x2, cutOf x3, cutOf x4, cutOf x5, cutOf x6, cutOf x7, cutOf x8, cutOf x9, cutOf x10, cutOf x11],
    [x1.1.heap.get? 58, x2.1.heap.get? 63, x3.1.heap.get? 58, x3.1.heap.get? 63, x4.1.heap.get? 68, x5.1.heap.get? 67, x5.1.heap.get? 68, x6.1.heap.get? 73, x7.1.heap.get? 67, x7.1.heap.get? 73, x8.1.heap.get? 78, x9.1.heap.get? 82, x10.1.heap.get? 78, x10.1.heap.get? 82, x11.1.heap.get? 87, xf.heap.get? 72, xf.heap.get? 87],
    [x3.1.heap.objs.size, x5.1.heap.objs.size, x7.1.heap.objs.size, x10.1.heap.objs.size], fin xf)
end Mine
end
-- H11
noncomputable section
open PySem PySem.W PySem.Calls PyProof.Rows
namespace Mine
-- the top's own part of the heap, written out (printed by a program; the defs' bodies are taken from the row)
noncomputable def FD (i : Nat) (a : Arguments) (b : List Stmt) (sc : Scope) : Prop := ∃ n ds r tps tsc bd pos, PySem.Challenge.pw_io0022_01.main.body[i]? = some (.FunctionDef n a b ds r tps sc tsc bd pos)
noncomputable def A16 : Arguments := (fun (x : Arguments) (_ : ∃ b sc, FD 16 x b sc) => x) _ ⟨_, _, _, _, _, _, _, _, _, rfl⟩
noncomputable def B16 : List Stmt := (fun (x : List Stmt) (_ : ∃ a sc, FD 16 a x sc) => x) _ ⟨_, _, _, _, _, _, _, _, _, rfl⟩
noncomputable def C16 : Scope := (fun (x : Scope) (_ : ∃ a b, FD 16 a b x) => x) _ ⟨_, _, _, _, _, _, _, _, _, rfl⟩
noncomputable def A17 : Arguments := (fun (x : Arguments) (_ : ∃ b sc, FD 17 x b sc) => x) _ ⟨_, _, _, _, _, _, _, _, _, rfl⟩
noncomputable def B17 : List Stmt := (fun (x : List Stmt) (_ : ∃ a sc, FD 17 a x sc) => x) _ ⟨_, _, _, _, _, _, _, _, _, rfl⟩
noncomputable def C17 : Scope := (fun (x : Scope) (_ : ∃ a b, FD 17 a b x) => x) _ ⟨_, _, _, _, _, _, _, _, _, rfl⟩
noncomputable def A18 : Arguments := (fun (x : Arguments) (_ : ∃ b sc, FD 18 x b sc) => x) _ ⟨_, _, _, _, _, _, _, _, _, rfl⟩
noncomputable def B18 : List Stmt := (fun (x : List Stmt) (_ : ∃ a sc, FD 18 a x sc) => x) _ ⟨_, _, _, _, _, _, _, _, _, rfl⟩
noncomputable def C18 : Scope := (fun (x : Scope) (_ : ∃ a b, FD 18 a b x) => x) _ ⟨_, _, _, _, _, _, _, _, _, rfl⟩
noncomputable def A19 : Arguments := (fun (x : Arguments) (_ : ∃ b sc, FD 19 x b sc) => x) _ ⟨_, _, _, _, _, _, _, _, _, rfl⟩
noncomputable def B19 : List Stmt := (fun (x : List Stmt) (_ : ∃ a sc, FD 19 a x sc) => x) _ ⟨_, _, _, _, _, _, _, _, _, rfl⟩
noncomputable def C19 : Scope := (fun (x : Scope) (_ : ∃ a b, FD 19 a b x) => x) _ ⟨_, _, _, _, _, _, _, _, _, rfl⟩
noncomputable def A20 : Arguments := (fun (x : Arguments) (_ : ∃ b sc, FD 20 x b sc) => x) _ ⟨_, _, _, _, _, _, _, _, _, rfl⟩
noncomputable def B20 : List Stmt := (fun (x : List Stmt) (_ : ∃ a sc, FD 20 a x sc) => x) _ ⟨_, _, _, _, _, _, _, _, _, rfl⟩
noncomputable def C20 : Scope := (fun (x : Scope) (_ : ∃ a b, FD 20 a b x) => x) _ ⟨_, _, _, _, _, _, _, _, _, rfl⟩
noncomputable def A21 : Arguments := (fun (x : Arguments) (_ : ∃ b sc, FD 21 x b sc) => x) _ ⟨_, _, _, _, _, _, _, _, _, rfl⟩
noncomputable def B21 : List Stmt := (fun (x : List Stmt) (_ : ∃ a sc, FD 21 a x sc) => x) _ ⟨_, _, _, _, _, _, _, _, _, rfl⟩
noncomputable def C21 : Scope := (fun (x : Scope) (_ : ∃ a b, FD 21 a b x) => x) _ ⟨_, _, _, _, _, _, _, _, _, rfl⟩
noncomputable def A22 : Arguments := (fun (x : Arguments) (_ : ∃ b sc, FD 22 x b sc) => x) _ ⟨_, _, _, _, _, _, _, _, _, rfl⟩
noncomputable def B22 : List Stmt := (fun (x : List Stmt) (_ : ∃ a sc, FD 22 a x sc) => x) _ ⟨_, _, _, _, _, _, _, _, _, rfl⟩
noncomputable def C22 : Scope := (fun (x : Scope) (_ : ∃ a b, FD 22 a b x) => x) _ ⟨_, _, _, _, _, _, _, _, _, rfl⟩
noncomputable def A23 : Arguments := (fun (x : Arguments) (_ : ∃ b sc, FD 23 x b sc) => x) _ ⟨_, _, _, _, _, _, _, _, _, rfl⟩
noncomputable def B23 : List Stmt := (fun (x : List Stmt) (_ : ∃ a sc, FD 23 a x sc) => x) _ ⟨_, _, _, _, _, _, _, _, _, rfl⟩
noncomputable def C23 : Scope := (fun (x : Scope) (_ : ∃ a b, FD 23 a b x) => x) _ ⟨_, _, _, _, _, _, _, _, _, rfl⟩
noncomputable def A25 : Arguments := (fun (x : Arguments) (_ : ∃ b sc, FD 25 x b sc) => x) _ ⟨_, _, _, _, _, _, _, _, _, rfl⟩
noncomputable def B25 : List Stmt := (fun (x : List Stmt) (_ : ∃ a sc, FD 25 a x sc) => x) _ ⟨_, _, _, _, _, _, _, _, _, rfl⟩
noncomputable def C25 : Scope := (fun (x : Scope) (_ : ∃ a b, FD 25 a b x) => x) _ ⟨_, _, _, _, _, _, _, _, _, rfl⟩
noncomputable def A26 : Arguments := (fun (x : Arguments) (_ : ∃ b sc, FD 26 x b sc) => x) _ ⟨_, _, _, _, _, _, _, _, _, rfl⟩
noncomputable def B26 : List Stmt := (fun (x : List Stmt) (_ : ∃ a sc, FD 26 a x sc) => x) _ ⟨_, _, _, _, _, _, _, _, _, rfl⟩
noncomputable def C26 : Scope := (fun (x : Scope) (_ : ∃ a b, FD 26 a b x) => x) _ ⟨_, _, _, _, _, _, _, _, _, rfl⟩
noncomputable def A27 : Arguments := (fun (x : Arguments) (_ : ∃ b sc, FD 27 x b sc) => x) _ ⟨_, _, _, _, _, _, _, _, _, rfl⟩
noncomputable def B27 : List Stmt := (fun (x : List Stmt) (_ : ∃ a sc, FD 27 a x sc) => x) _ ⟨_, _, _, _, _, _, _, _, _, rfl⟩
noncomputable def C27 : Scope := (fun (x : Scope) (_ : ∃ a b, FD 27 a b x) => x) _ ⟨_, _, _, _, _, _, _, _, _, rfl⟩
noncomputable def A28 : Arguments := (fun (x : Arguments) (_ : ∃ b sc, FD 28 x b sc) => x) _ ⟨_, _, _, _, _, _, _, _, _, rfl⟩
noncomputable def B28 : List Stmt := (fun (x : List Stmt) (_ : ∃ a sc, FD 28 a x sc) => x) _ ⟨_, _, _, _, _, _, _, _, _, rfl⟩
noncomputable def C28 : Scope := (fun (x : Scope) (_ : ∃ a b, FD 28 a b x) => x) _ ⟨_, _, _, _, _, _, _, _, _, rfl⟩
noncomputable def A29 : Arguments := (fun (x : Arguments) (_ : ∃ b sc, FD 29 x b sc) => x) _ ⟨_, _, _, _, _, _, _, _, _, rfl⟩
noncomputable def B29 : List Stmt := (fun (x : List Stmt) (_ : ∃ a sc, FD 29 a x sc) => x) _ ⟨_, _, _, _, _, _, _, _, _, rfl⟩
noncomputable def C29 : Scope := (fun (x : Scope) (_ : ∃ a b, FD 29 a b x) => x) _ ⟨_, _, _, _, _, _, _, _, _, rfl⟩
noncomputable def n2 : Addr := nat_lit 2
noncomputable def n3 : Addr := nat_lit 3
noncomputable def n92 : Addr := nat_lit 92
noncomputable def n93 : Addr := nat_lit 93
noncomputable def n94 : Addr := nat_lit 94
noncomputable def n101 : Addr := nat_lit 101
noncomputable def n102 : Addr := nat_lit 102
noncomputable def n103 : Addr := nat_lit 103
noncomputable def n104 : Addr := nat_lit 104
noncomputable def n107 : Addr := nat_lit 107
noncomputable def n109 : Addr := nat_lit 109
noncomputable def n110 : Addr := nat_lit 110
noncomputable def n112 : Addr := nat_lit 112
noncomputable def n113 : Addr := nat_lit 113
noncomputable def n114 : Addr := nat_lit 114
noncomputable def n116 : Addr := nat_lit 116
noncomputable def n117 : Addr := nat_lit 117
noncomputable def n119 : Addr := nat_lit 119
noncomputable def n120 : Addr := nat_lit 120
noncomputable def n121 : Addr := nat_lit 121
noncomputable def n122 : Addr := nat_lit 122
noncomputable def n124 : Addr := nat_lit 124
noncomputable def n125 : Addr := nat_lit 125
noncomputable def n127 : Addr := nat_lit 127
noncomputable def n128 : Addr := nat_lit 128
noncomputable def n129 : Addr := nat_lit 129
noncomputable def n131 : Addr := nat_lit 131
noncomputable def n132 : Addr := nat_lit 132
noncomputable def n134 : Addr := nat_lit 134
noncomputable def n135 : Addr := nat_lit 135
noncomputable def n136 : Addr := nat_lit 136
noncomputable def n138 : Addr := nat_lit 138
noncomputable def n139 : Addr := nat_lit 139
noncomputable def n141 : Addr := nat_lit 141
noncomputable def n142 : Addr := nat_lit 142
noncomputable def n143 : Addr := nat_lit 143
noncomputable def n145 : Addr := nat_lit 145
noncomputable def n146 : Addr := nat_lit 146
noncomputable def n148 : Addr := nat_lit 148
noncomputable def n149 : Addr := nat_lit 149
noncomputable def n150 : Addr := nat_lit 150
noncomputable def n152 : Addr := nat_lit 152
noncomputable def n153 : Addr := nat_lit 153
noncomputable def n155 : Addr := nat_lit 155
noncomputable def n156 : Addr := nat_lit 156
noncomputable def n157 : Addr := nat_lit 157
noncomputable def n159 : Addr := nat_lit 159
noncomputable def n160 : Addr := nat_lit 160
noncomputable def n162 : Addr := nat_lit 162
noncomputable def n163 : Addr := nat_lit 163
noncomputable def n164 : Addr := nat_lit 164
noncomputable def n166 : Addr := nat_lit 166
noncomputable def n167 : Addr := nat_lit 167
noncomputable def n169 : Addr := nat_lit 169
noncomputable def n170 : Addr := nat_lit 170
noncomputable def n171 : Addr := nat_lit 171
noncomputable def n173 : Addr := nat_lit 173
noncomputable def n174 : Addr := nat_lit 174
noncomputable def n176 : Addr := nat_lit 176
noncomputable def n177 : Addr := nat_lit 177
noncomputable def n178 : Addr := nat_lit 178
noncomputable def n180 : Addr := nat_lit 180
noncomputable def n181 : Addr := nat_lit 181
noncomputable def n183 : Addr := nat_lit 183
noncomputable def n184 : Addr := nat_lit 184
noncomputable def n185 : Addr := nat_lit 185
noncomputable def n187 : Addr := nat_lit 187
noncomputable def n188 : Addr := nat_lit 188
noncomputable def n190 : Addr := nat_lit 190
noncomputable def n191 : Addr := nat_lit 191
noncomputable def n192 : Addr := nat_lit 192
noncomputable def n195 : Addr := nat_lit 195
noncomputable def n196 : Addr := nat_lit 196
noncomputable def K0 : Params → Frag := fun P => [
  (n2, (⟨.none, none, (.dict [].toArray 0), [].toArray⟩ : Obj)),
  (n3, (⟨(.type "dict"), none, (.dict [⟨PyData.keyHash P (Str.ofString "__name__"), (.str (Str.ofString "__name__") 165), (.str (Str.ofString "law_io0022_01") 578)⟩, ⟨PyData.keyHash P (Str.ofString "__doc__"), (.str (Str.ofString "__doc__") 166), .none⟩, ⟨PyData.keyHash P (Str.ofString "__package__"), (.str (Str.ofString "__package__") 167), .none⟩, ⟨PyData.keyHash P (Str.ofString "__loader__"), (.str (Str.ofString "__loader__") 168), (.builtin "__main__.__loader__#opaque")⟩, ⟨PyData.keyHash P (Str.ofString "__spec__"), (.str (Str.ofString "__spec__") 169), .none⟩, ⟨PyData.keyHash P (Str.ofString "__annotations__"), (.str (Str.ofString "__annotations__") 170), (.ref 6)⟩, ⟨PyData.keyHash P (Str.ofString "__builtins__"), (.str (Str.ofString "__builtins__") 171), (.ref 4)⟩, ⟨PyData.keyHash P (Str.ofString "__file__"), (.str (Str.ofString "__file__") 173), (.str (Str.ofString "/claim/cut.py") 172)⟩, ⟨PyData.keyHash P (Str.ofString "__cached__"), (.str (Str.ofString "__cached__") 174), .none⟩, ⟨PyData.keyHash P (Str.ofString "_wall"), (.str (Str.ofString "_wall") 193), (.ref 21)⟩, ⟨PyData.keyHash P (Str.ofString "_WallAttr"), (.str (Str.ofString "_WallAttr") 233), (.ref 46)⟩, ⟨PyData.keyHash P (Str.ofString "ASCII_CTRL"), (.str (Str.ofString "ASCII_CTRL") 379), (.ref 67)⟩, ⟨PyData.keyHash P (Str.ofString "ILLEGAL_BASIC_STR_CHARS"), (.str (Str.ofString "ILLEGAL_BASIC_STR_CHARS") 383), (.ref 72)⟩, ⟨PyData.keyHash P (Str.ofString "ILLEGAL_MULTILINE_BASIC_STR_CHARS"), (.str (Str.ofString "ILLEGAL_MULTILINE_BASIC_STR_CHARS") 389), (.ref 77)⟩, ⟨PyData.keyHash P (Str.ofString "TOML_WS"), (.str (Str.ofString "TOML_WS") 395), (.ref 78)⟩, ⟨PyData.keyHash P (Str.ofString "TOML_WS_AND_NEWLINE"), (.str (Str.ofString "TOML_WS_AND_NEWLINE") 399), (.ref 86)⟩, ⟨PyData.keyHash P (Str.ofString "digits"), (.str (Str.ofString "digits") 401), (.str (Str.ofString "0123456789") 400)⟩, ⟨PyData.keyHash P (Str.ofString "hexdigits"), (.str (Str.ofString "hexdigits") 406), (.str (Str.ofString "0123456789abcdefABCDEF") 405)⟩, ⟨PyData.keyHash P (Str.ofString "HEXDIGIT_CHARS"), (.str (Str.ofString "HEXDIGIT_CHARS") 451), (.ref 87)⟩, ⟨PyData.keyHash P (Str.ofString "MappingProxyType"), (.str (Str.ofString "MappingProxyType") 455), (.type "mappingproxy")⟩, ⟨PyData.keyHash P (Str.ofString "BASIC_STR_ESCAPE_REPLACEMENTS"), (.str (Str.ofString "BASIC_STR_ESCAPE_REPLACEMENTS") 479), (.ref 93)⟩, ⟨PyData.keyHash P (Str.ofString "TOMLDecodeError"), (.str (Str.ofString "TOMLDecodeError") 497), (.ref 103)⟩, ⟨PyData.keyHash P (Str.ofString "skip_chars"), (.str (Str.ofString "skip_chars") 506), (.ref 113)⟩, ⟨PyData.keyHash P (Str.ofString "parse_one_line_basic_str"), (.str (Str.ofString "parse_one_line_basic_str") 514), (.ref 120)⟩, ⟨PyData.keyHash P (Str.ofString "parse_basic_str_escape"), (.str (Str.ofString "parse_basic_str_escape") 526), (.ref 128)⟩, ⟨PyData.keyHash P (Str.ofString "parse_basic_str_escape_multiline"), (.str (Str.ofString "parse_basic_str_escape_multiline") 534), (.ref 135)⟩, ⟨PyData.keyHash P (Str.ofString "parse_hex_char"), (.str (Str.ofString "parse_hex_char") 545), (.ref 142)⟩, ⟨PyData.keyHash P (Str.ofString "parse_basic_str"), (.str (Str.ofString "parse_basic_str") 560), (.ref 149)⟩, ⟨PyData.keyHash P (Str.ofString "suffixed_err"), (.str (Str.ofString "suffixed_err") 570), (.ref 156)⟩, ⟨PyData.keyHash P (Str.ofString "is_unicode_scalar_value"), (.str (Str.ofString "is_unicode_scalar_value") 577), (.ref 163)⟩, ⟨PyData.keyHash P (Str.ofString "_law_sign"), (.str (Str.ofString "_law_sign") 587), (.ref 170)⟩, ⟨PyData.keyHash P (Str.ofString "_law_figures"), (.str (Str.ofString "_law_figures") 598), (.ref 177)⟩, ⟨PyData.keyHash P (Str.ofString "_law_json"), (.str (Str.ofString "_law_json") 608), (.ref 184)⟩, ⟨PyData.keyHash P (Str.ofString "_law_mended"), (.str (Str.ofString "_law_mended") 618), (.ref 191)⟩, ⟨PyData.keyHash P (Str.ofString "law"), (.str (Str.ofString "law") 624), (.ref 196)⟩].toArray 35), [].toArray⟩ : Obj)),
  (n92, (⟨(.type "dict"), none, (.dict [⟨PyData.keyHash P (Str.ofString "\\b"), (.str (Str.ofString "\\b") 458), (.str (Str.ofString "\x08") 459)⟩, ⟨PyData.keyHash P (Str.ofString "\\t"), (.str (Str.ofString "\\t") 460), (.str (Str.ofString "\t") 461)⟩, ⟨PyData.keyHash P (Str.ofString "\\n"), (.str (Str.ofString "\\n") 462), (.str (Str.ofString "\n") 463)⟩, ⟨PyData.keyHash P (Str.ofString "\\f"), (.str (Str.ofString "\\f") 464), (.str (Str.ofString "\x0c") 465)⟩, ⟨PyData.keyHash P (Str.ofString "\\r"), (.str (Str.ofString "\\r") 466), (.str (Str.ofString "\x0d") 467)⟩, ⟨PyData.keyHash P (Str.ofString "\\\""), (.str (Str.ofString "\\\"") 468), (.str (Str.ofString "\"") 469)⟩, ⟨PyData.keyHash P (Str.ofString "\\\\"), (.str (Str.ofString "\\\\") 470), (.str (Str.ofString "\\") 471)⟩].toArray 7), [].toArray⟩ : Obj)),
  (n93, (⟨(.type "mappingproxy"), none, (.fields [(.ref 92)].toArray), [].toArray⟩ : Obj)),
  (n94, (⟨(.type "tuple"), none, (.seq [(.type "ValueError")].toArray 0), [].toArray⟩ : Obj)),
  (n101, (⟨(.type "tuple"), none, (.seq [].toArray 0), [].toArray⟩ : Obj)),
  (n102, (⟨(.type "dict"), none, (.dict [⟨PyData.keyHash P (Str.ofString "__module__"), (.str (Str.ofString "__module__") 487), (.str (Str.ofString "cpy313.tomllib._parser") 456)⟩, ⟨PyData.keyHash P (Str.ofString "__firstlineno__"), (.str (Str.ofString "__firstlineno__") 491), (.int (23) 490)⟩, ⟨PyData.keyHash P (Str.ofString "__static_attributes__"), (.str (Str.ofString "__static_attributes__") 492), (.ref 101)⟩, ⟨PyData.keyHash P (Str.ofString "__weakref__"), (.str (Str.ofString "__weakref__") 494), (.ref 104)⟩, ⟨PyData.keyHash P (Str.ofString "__doc__"), (.str (Str.ofString "__doc__") 495), .none⟩].toArray 3), [].toArray⟩ : Obj)),
  (n103, (⟨(.type "type"), none, (.cls { name := (Str.ofString "TOMLDecodeError"), bases := [(.type "ValueError")], mro := [(.ref 103), (.type "ValueError"), (.type "Exception"), (.type "BaseException"), (.type "object")], ns := 102, qualname := (Str.ofString "TOMLDecodeError"), hasDict := true, slotNames := [], subclasses := [], abstract := false, collection := none, hasDel := false }), [(some (.ref 94)), none, (some (.str (Str.ofString "TOMLDecodeError") 480)), (some (.str (Str.ofString "TOMLDecodeError") 488)), (some (.builtin "ValueError.__new__")), (some (.bool true))].toArray⟩ : Obj)),
  (n104, (⟨(.type "getset_descriptor"), none, (.fields [(.str (Str.ofString "__weakref__") 493), (.ref 103), (.builtin "ExceptionGroup.__weakref__"), .none].toArray), [].toArray⟩ : Obj)),
  (n107, (⟨(.type "tuple"), none, (.seq [].toArray 0), [].toArray⟩ : Obj)),
  (n109, (⟨(.type "tuple"), none, (.seq [(.str (Str.ofString "src") 501), (.str (Str.ofString "pos") 502), (.str (Str.ofString "chars") 503)].toArray 0), [].toArray⟩ : Obj)),
  (n110, (⟨(.type "tuple"), none, (.seq [].toArray 0), [].toArray⟩ : Obj)),
  (n112, (⟨(.type "code"), none, (.fields [(.str (Str.ofString "skip_chars") 498), (.str (Str.ofString "skip_chars") 499), (.str (Str.ofString "/claim/cut.py") 500), (.int (25) 0), (.int (3) 0), (.int (0) 0), (.int (0) 0), (.int (3) 0), (.ref 107), (.bool true), (.int (181) 0), (.ref 108), .none, (.ref 109), (.ref 110), (.ref 111), (.int (504) 0), (.int (25) 0), (.str (Str.ofString "/claim/cut.py") 505)].toArray), [].toArray⟩ : Obj)),
  (n113, (⟨(.type "function"), none, (.func { name := (Str.ofString "skip_chars"), qualname := (Str.ofString "skip_chars"), params := A16, body := .stmts B16, scope := C16, globals := 3, closure := [], defaults := .none, kwdefaults := .none, doc := .none, pyModule := (.str (Str.ofString "cpy313.tomllib._parser") 456), annotations := none, code := (.ref 112), closureTuple := .none, builtins := 0 }), [].toArray⟩ : Obj)),
  (n114, (⟨(.type "tuple"), none, (.seq [].toArray 0), [].toArray⟩ : Obj)),
  (n116, (⟨(.type "tuple"), none, (.seq [(.str (Str.ofString "src") 510), (.str (Str.ofString "pos") 511)].toArray 0), [].toArray⟩ : Obj)),
  (n117, (⟨(.type "tuple"), none, (.seq [].toArray 0), [].toArray⟩ : Obj)),
  (n119, (⟨(.type "code"), none, (.fields [(.str (Str.ofString "parse_one_line_basic_str") 507), (.str (Str.ofString "parse_one_line_basic_str") 508), (.str (Str.ofString "/claim/cut.py") 509), (.int (32) 0), (.int (2) 0), (.int (0) 0), (.int (0) 0), (.int (3) 0), (.ref 114), (.bool true), (.int (181) 0), (.ref 115), .none, (.ref 116), (.ref 117), (.ref 118), (.int (512) 0), (.int (32) 0), (.str (Str.ofString "/claim/cut.py") 513)].toArray), [].toArray⟩ : Obj)),
  (n120, (⟨(.type "function"), none, (.func { name := (Str.ofString "parse_one_line_basic_str"), qualname := (Str.ofString "parse_one_line_basic_str"), params := A17, body := .stmts B17, scope := C17, globals := 3, closure := [], defaults := .none, kwdefaults := .none, doc := .none, pyModule := (.str (Str.ofString "cpy313.tomllib._parser") 456), annotations := none, code := (.ref 119), closureTuple := .none, builtins := 0 }), [].toArray⟩ : Obj)),
  (n121, (⟨(.type "dict"), none, (.dict [⟨PyData.keyHash P (Str.ofString "multiline"), (.str (Str.ofString "multiline") 515), (.bool false)⟩].toArray 1), [].toArray⟩ : Obj)),
  (n122, (⟨(.type "tuple"), none, (.seq [].toArray 0), [].toArray⟩ : Obj)),
  (n124, (⟨(.type "tuple"), none, (.seq [(.str (Str.ofString "src") 519), (.str (Str.ofString "pos") 520), (.str (Str.ofString "multiline") 521), (.str (Str.ofString "escape_id") 522), (.str (Str.ofString "char") 523)].toArray 0), [].toArray⟩ : Obj)),
  (n125, (⟨(.type "tuple"), none, (.seq [].toArray 0), [].toArray⟩ : Obj)),
  (n127, (⟨(.type "code"), none, (.fields [(.str (Str.ofString "parse_basic_str_escape") 516), (.str (Str.ofString "parse_basic_str_escape") 517), (.str (Str.ofString "/claim/cut.py") 518), (.int (35) 0), (.int (2) 0), (.int (0) 0), (.int (1) 0), (.int (3) 0), (.ref 122), (.bool true), (.int (181) 0), (.ref 123), .none, (.ref 124), (.ref 125), (.ref 126), (.int (524) 0), (.int (35) 0), (.str (Str.ofString "/claim/cut.py") 525)].toArray), [].toArray⟩ : Obj)),
  (n128, (⟨(.type "function"), none, (.func { name := (Str.ofString "parse_basic_str_escape"), qualname := (Str.ofString "parse_basic_str_escape"), params := A18, body := .stmts B18, scope := C18, globals := 3, closure := [], defaults := .none, kwdefaults := (.ref 121), doc := .none, pyModule := (.str (Str.ofString "cpy313.tomllib._parser") 456), annotations := none, code := (.ref 127), closureTuple := .none, builtins := 0 }), [].toArray⟩ : Obj)),
  (n129, (⟨(.type "tuple"), none, (.seq [].toArray 0), [].toArray⟩ : Obj)),
  (n131, (⟨(.type "tuple"), none, (.seq [(.str (Str.ofString "src") 530), (.str (Str.ofString "pos") 531)].toArray 0), [].toArray⟩ : Obj)),
  (n132, (⟨(.type "tuple"), none, (.seq [].toArray 0), [].toArray⟩ : Obj)),
  (n134, (⟨(.type "code"), none, (.fields [(.str (Str.ofString "parse_basic_str_escape_multiline") 527), (.str (Str.ofString "parse_basic_str_escape_multiline") 528), (.str (Str.ofString "/claim/cut.py") 529), (.int (58) 0), (.int (2) 0), (.int (0) 0), (.int (0) 0), (.int (3) 0), (.ref 129), (.bool true), (.int (181) 0), (.ref 130), .none, (.ref 131), (.ref 132), (.ref 133), (.int (532) 0), (.int (58) 0), (.str (Str.ofString "/claim/cut.py") 533)].toArray), [].toArray⟩ : Obj)),
  (n135, (⟨(.type "function"), none, (.func { name := (Str.ofString "parse_basic_str_escape_multiline"), qualname := (Str.ofString "parse_basic_str_escape_multiline"), params := A19, body := .stmts B19, scope := C19, globals := 3, closure := [], defaults := .none, kwdefaults := .none, doc := .none, pyModule := (.str (Str.ofString "cpy313.tomllib._parser") 456), annotations := none, code := (.ref 134), closureTuple := .none, builtins := 0 }), [].toArray⟩ : Obj)),
  (n136, (⟨(.type "tuple"), none, (.seq [].toArray 0), [].toArray⟩ : Obj)),
  (n138, (⟨(.type "tuple"), none, (.seq [(.str (Str.ofString "src") 538), (.str (Str.ofString "pos") 539), (.str (Str.ofString "hex_len") 540), (.str (Str.ofString "hex_str") 541), (.str (Str.ofString "hex_int") 542)].toArray 0), [].toArray⟩ : Obj)),
  (n139, (⟨(.type "tuple"), none, (.seq [].toArray 0), [].toArray⟩ : Obj)),
  (n141, (⟨(.type "code"), none, (.fields [(.str (Str.ofString "parse_hex_char") 535), (.str (Str.ofString "parse_hex_char") 536), (.str (Str.ofString "/claim/cut.py") 537), (.int (60) 0), (.int (3) 0), (.int (0) 0), (.int (0) 0), (.int (3) 0), (.ref 136), (.bool true), (.int (181) 0), (.ref 137), .none, (.ref 138), (.ref 139), (.ref 140), (.int (543) 0), (.int (60) 0), (.str (Str.ofString "/claim/cut.py") 544)].toArray), [].toArray⟩ : Obj)),
  (n142, (⟨(.type "function"), none, (.func { name := (Str.ofString "parse_hex_char"), qualname := (Str.ofString "parse_hex_char"), params := A20, body := .stmts B20, scope := C20, globals := 3, closure := [], defaults := .none, kwdefaults := .none, doc := .none, pyModule := (.str (Str.ofString "cpy313.tomllib._parser") 456), annotations := none, code := (.ref 141), closureTuple := .none, builtins := 0 }), [].toArray⟩ : Obj)),
  (n143, (⟨(.type "tuple"), none, (.seq [].toArray 0), [].toArray⟩ : Obj)),
  (n145, (⟨(.type "tuple"), none, (.seq [(.str (Str.ofString "src") 549), (.str (Str.ofString "pos") 550), (.str (Str.ofString "multiline") 551), (.str (Str.ofString "error_on") 552), (.str (Str.ofString "parse_escapes") 553), (.str (Str.ofString "result") 554), (.str (Str.ofString "start_pos") 555), (.str (Str.ofString "char") 556), (.str (Str.ofString "parsed_escape") 557)].toArray 0), [].toArray⟩ : Obj)),
  (n146, (⟨(.type "tuple"), none, (.seq [].toArray 0), [].toArray⟩ : Obj)),
  (n148, (⟨(.type "code"), none, (.fields [(.str (Str.ofString "parse_basic_str") 546), (.str (Str.ofString "parse_basic_str") 547), (.str (Str.ofString "/claim/cut.py") 548), (.int (69) 0), (.int (2) 0), (.int (0) 0), (.int (1) 0), (.int (3) 0), (.ref 143), (.bool true), (.int (181) 0), (.ref 144), .none, (.ref 145), (.ref 146), (.ref 147), (.int (558) 0), (.int (69) 0), (.str (Str.ofString "/claim/cut.py") 559)].toArray), [].toArray⟩ : Obj)),
  (n149, (⟨(.type "function"), none, (.func { name := (Str.ofString "parse_basic_str"), qualname := (Str.ofString "parse_basic_str"), params := A21, body := .stmts B21, scope := C21, globals := 3, closure := [], defaults := .none, kwdefaults := .none, doc := .none, pyModule := (.str (Str.ofString "cpy313.tomllib._parser") 456), annotations := none, code := (.ref 148), closureTuple := .none, builtins := 0 }), [].toArray⟩ : Obj)),
  (n150, (⟨(.type "tuple"), none, (.seq [].toArray 0), [].toArray⟩ : Obj)),
  (n152, (⟨(.type "tuple"), none, (.seq [(.str (Str.ofString "src") 564), (.str (Str.ofString "pos") 565), (.str (Str.ofString "msg") 566), (.str (Str.ofString "coord_repr") 567)].toArray 0), [].toArray⟩ : Obj)),
  (n153, (⟨(.type "tuple"), none, (.seq [].toArray 0), [].toArray⟩ : Obj)),
  (n155, (⟨(.type "code"), none, (.fields [(.str (Str.ofString "suffixed_err") 561), (.str (Str.ofString "suffixed_err") 562), (.str (Str.ofString "/claim/cut.py") 563), (.int (99) 0), (.int (3) 0), (.int (0) 0), (.int (0) 0), (.int (3) 0), (.ref 150), (.bool true), (.int (181) 0), (.ref 151), .none, (.ref 152), (.ref 153), (.ref 154), (.int (568) 0), (.int (99) 0), (.str (Str.ofString "/claim/cut.py") 569)].toArray), [].toArray⟩ : Obj)),
  (n156, (⟨(.type "function"), none, (.func { name := (Str.ofString "suffixed_err"), qualname := (Str.ofString "suffixed_err"), params := A22, body := .stmts B22, scope := C22, globals := 3, closure := [], defaults := .none, kwdefaults := .none, doc := .none, pyModule := (.str (Str.ofString "cpy313.tomllib._parser") 456), annotations := none, code := (.ref 155), closureTuple := .none, builtins := 0 }), [].toArray⟩ : Obj)),
  (n157, (⟨(.type "tuple"), none, (.seq [].toArray 0), [].toArray⟩ : Obj)),
  (n159, (⟨(.type "tuple"), none, (.seq [(.str (Str.ofString "codepoint") 574)].toArray 0), [].toArray⟩ : Obj)),
  (n160, (⟨(.type "tuple"), none, (.seq [].toArray 0), [].toArray⟩ : Obj)),
  (n162, (⟨(.type "code"), none, (.fields [(.str (Str.ofString "is_unicode_scalar_value") 571), (.str (Str.ofString "is_unicode_scalar_value") 572), (.str (Str.ofString "/claim/cut.py") 573), (.int (111) 0), (.int (1) 0), (.int (0) 0), (.int (0) 0), (.int (3) 0), (.ref 157), (.bool true), (.int (181) 0), (.ref 158), .none, (.ref 159), (.ref 160), (.ref 161), (.int (575) 0), (.int (111) 0), (.str (Str.ofString "/claim/cut.py") 576)].toArray), [].toArray⟩ : Obj)),
  (n163, (⟨(.type "function"), none, (.func { name := (Str.ofString "is_unicode_scalar_value"), qualname := (Str.ofString "is_unicode_scalar_value"), params := A23, body := .stmts B23, scope := C23, globals := 3, closure := [], defaults := .none, kwdefaults := .none, doc := .none, pyModule := (.str (Str.ofString "cpy313.tomllib._parser") 456), annotations := none, code := (.ref 162), closureTuple := .none, builtins := 0 }), [].toArray⟩ : Obj)),
  (n164, (⟨(.type "tuple"), none, (.seq [].toArray 0), [].toArray⟩ : Obj)),
  (n166, (⟨(.type "tuple"), none, (.seq [(.str (Str.ofString "k") 583), (.str (Str.ofString "first") 584)].toArray 0), [].toArray⟩ : Obj)),
  (n167, (⟨(.type "tuple"), none, (.seq [].toArray 0), [].toArray⟩ : Obj)),
  (n169, (⟨(.type "code"), none, (.fields [(.str (Str.ofString "_law_sign") 580), (.str (Str.ofString "_law_sign") 581), (.str (Str.ofString "/claim/cut.py") 582), (.int (114) 0), (.int (1) 0), (.int (0) 0), (.int (0) 0), (.int (3) 0), (.ref 164), (.bool true), (.int (181) 0), (.ref 165), .none, (.ref 166), (.ref 167), (.ref 168), (.int (585) 0), (.int (114) 0), (.str (Str.ofString "/claim/cut.py") 586)].toArray), [].toArray⟩ : Obj)),
  (n170, (⟨(.type "function"), none, (.func { name := (Str.ofString "_law_sign"), qualname := (Str.ofString "_law_sign"), params := A25, body := .stmts B25, scope := C25, globals := 3, closure := [], defaults := .none, kwdefaults := .none, doc := .none, pyModule := (.str (Str.ofString "law_io0022_01") 578), annotations := none, code := (.ref 169), closureTuple := .none, builtins := 0 }), [].toArray⟩ : Obj)),
  (n171, (⟨(.type "tuple"), none, (.seq [].toArray 0), [].toArray⟩ : Obj)),
  (n173, (⟨(.type "tuple"), none, (.seq [(.str (Str.ofString "n") 591), (.str (Str.ofString "size") 592), (.str (Str.ofString "large") 593), (.str (Str.ofString "row") 594), (.str (Str.ofString "k") 595)].toArray 0), [].toArray⟩ : Obj)),
  (n174, (⟨(.type "tuple"), none, (.seq [].toArray 0), [].toArray⟩ : Obj)),
  (n176, (⟨(.type "code"), none, (.fields [(.str (Str.ofString "_law_figures") 588), (.str (Str.ofString "_law_figures") 589), (.str (Str.ofString "/claim/cut.py") 590), (.int (119) 0), (.int (3) 0), (.int (0) 0), (.int (0) 0), (.int (3) 0), (.ref 171), (.bool true), (.int (181) 0), (.ref 172), .none, (.ref 173), (.ref 174), (.ref 175), (.int (596) 0), (.int (119) 0), (.str (Str.ofString "/claim/cut.py") 597)].toArray), [].toArray⟩ : Obj)),
  (n177, (⟨(.type "function"), none, (.func { name := (Str.ofString "_law_figures"), qualname := (Str.ofString "_law_figures"), params := A26, body := .stmts B26, scope := C26, globals := 3, closure := [], defaults := .none, kwdefaults := .none, doc := .none, pyModule := (.str (Str.ofString "law_io0022_01") 578), annotations := none, code := (.ref 176), closureTuple := .none, builtins := 0 }), [].toArray⟩ : Obj)),
  (n178, (⟨(.type "tuple"), none, (.seq [].toArray 0), [].toArray⟩ : Obj)),
  (n180, (⟨(.type "tuple"), none, (.seq [(.str (Str.ofString "sign") 602), (.str (Str.ofString "way") 603), (.str (Str.ofString "short") 604), (.str (Str.ofString "n") 605)].toArray 0), [].toArray⟩ : Obj)),
  (n181, (⟨(.type "tuple"), none, (.seq [].toArray 0), [].toArray⟩ : Obj)),
  (n183, (⟨(.type "code"), none, (.fields [(.str (Str.ofString "_law_json") 599), (.str (Str.ofString "_law_json") 600), (.str (Str.ofString "/claim/cut.py") 601), (.int (125) 0), (.int (2) 0), (.int (0) 0), (.int (0) 0), (.int (3) 0), (.ref 178), (.bool true), (.int (181) 0), (.ref 179), .none, (.ref 180), (.ref 181), (.ref 182), (.int (606) 0), (.int (125) 0), (.str (Str.ofString "/claim/cut.py") 607)].toArray), [].toArray⟩ : Obj)),
  (n184, (⟨(.type "function"), none, (.func { name := (Str.ofString "_law_json"), qualname := (Str.ofString "_law_json"), params := A27, body := .stmts B27, scope := C27, globals := 3, closure := [], defaults := .none, kwdefaults := .none, doc := .none, pyModule := (.str (Str.ofString "law_io0022_01") 578), annotations := none, code := (.ref 183), closureTuple := .none, builtins := 0 }), [].toArray⟩ : Obj)),
  (n185, (⟨(.type "tuple"), none, (.seq [].toArray 0), [].toArray⟩ : Obj)),
  (n187, (⟨(.type "tuple"), none, (.seq [(.str (Str.ofString "piece") 612), (.str (Str.ofString "sign") 613), (.str (Str.ofString "way") 614), (.str (Str.ofString "states") 615)].toArray 0), [].toArray⟩ : Obj)),
  (n188, (⟨(.type "tuple"), none, (.seq [].toArray 0), [].toArray⟩ : Obj)),
  (n190, (⟨(.type "code"), none, (.fields [(.str (Str.ofString "_law_mended") 609), (.str (Str.ofString "_law_mended") 610), (.str (Str.ofString "/claim/cut.py") 611), (.int (136) 0), (.int (3) 0), (.int (0) 0), (.int (0) 0), (.int (3) 0), (.ref 185), (.bool true), (.int (181) 0), (.ref 186), .none, (.ref 187), (.ref 188), (.ref 189), (.int (616) 0), (.int (136) 0), (.str (Str.ofString "/claim/cut.py") 617)].toArray), [].toArray⟩ : Obj)),
  (n191, (⟨(.type "function"), none, (.func { name := (Str.ofString "_law_mended"), qualname := (Str.ofString "_law_mended"), params := A28, body := .stmts B28, scope := C28, globals := 3, closure := [], defaults := .none, kwdefaults := .none, doc := .none, pyModule := (.str (Str.ofString "law_io0022_01") 578), annotations := none, code := (.ref 190), closureTuple := .none, builtins := 0 }), [].toArray⟩ : Obj)),
  (n192, (⟨(.type "tuple"), none, (.seq [].toArray 0), [].toArray⟩ : Obj)),
  (n195, (⟨(.type "code"), none, (.fields [(.str (Str.ofString "law") 619), (.str (Str.ofString "law") 620), (.str (Str.ofString "/claim/cut.py") 621), (.int (145) 0), (.int (1) 0), (.int (0) 0), (.int (0) 0), (.int (3) 0), (.ref 192), (.bool true), (.int (181) 0), (.ref 193), .none, .none, .none, (.ref 194), (.int (622) 0), (.int (145) 0), (.str (Str.ofString "/claim/cut.py") 623)].toArray), [].toArray⟩ : Obj)),
  (n196, (⟨(.type "function"), none, (.func { name := (Str.ofString "law"), qualname := (Str.ofString "law"), params := A29, body := .stmts B29, scope := C29, globals := 3, closure := [], defaults := .none, kwdefaults := .none, doc := .none, pyModule := (.str (Str.ofString "law_io0022_01") 578), annotations := none, code := (.ref 195), closureTuple := .none, builtins := 0 }), [].toArray⟩ : Obj))]
noncomputable def K : Params → Frag := by
  intro P
  refine (fun (x : Frag) (_ : K0 P = x) => x) ?x ?h
  case h =>
    delta K0 A16 B16 C16 A17 B17 C17 A18 B18 C18 A19 B19 C19 A20 B20 C20 A21 B21 C21 A22 B22 C22 A23 B23 C23 A25 B25 C25 A26 B26 C26 A27 B27 C27 A28 B28 C28 A29 B29 C29
    dsimp only
    delta n2 n3 n92 n93 n94 n101 n102 n103 n104 n107 n109 n110 n112 n113 n114 n116 n117 n119 n120 n121 n122 n124 n125 n127 n128 n129 n131 n132 n134 n135 n136 n138 n139 n141 n142 n143 n145 n146 n148 n149 n150 n152 n153 n155 n156 n157 n159 n160 n162 n163 n164 n166 n167 n169 n170 n171 n173 n174 n176 n177 n178 n180 n181 n183 n184 n185 n187 n188 n190 n191 n192 n195 n196
    exact rfl
noncomputable def T0 : { x : Stmt // PySem.Challenge.pw_io0022_01.main.body[0]? = some x } := ⟨_, rfl⟩
noncomputable def T1 : { x : Stmt // PySem.Challenge.pw_io0022_01.main.body[1]? = some x } := ⟨_, rfl⟩
noncomputable def T3 : { x : Stmt // PySem.Challenge.pw_io0022_01.main.body[3]? = some x } := ⟨_, rfl⟩
noncomputable def T4 : { x : Stmt // PySem.Challenge.pw_io0022_01.main.body[4]? = some x } := ⟨_, rfl⟩
noncomputable def T5 : { x : Stmt // PySem.Challenge.pw_io0022_01.main.body[5]? = some x } := ⟨_, rfl⟩
noncomputable def T6 : { x : Stmt // PySem.Challenge.pw_io0022_01.main.body[6]? = some x } := ⟨_, rfl⟩
noncomputable def T7 : { x : Stmt // PySem.Challenge.pw_io0022_01.main.body[7]? = some x } := ⟨_, rfl⟩
noncomputable def T8 : { x : Stmt // PySem.Challenge.pw_io0022_01.main.body[8]? = some x } := ⟨_, rfl⟩
noncomputable def T9 : { x : Stmt // PySem.Challenge.pw_io0022_01.main.body[9]? = some x } := ⟨_, rfl⟩
noncomputable def T10 : { x : Stmt // PySem.Challenge.pw_io0022_01.main.body[10]? = some x } := ⟨_, rfl⟩
noncomputable def T12 : { x : Stmt // PySem.Challenge.pw_io0022_01.main.body[12]? = some x } := ⟨_, rfl⟩
noncomputable def T14 : { x : Stmt // PySem.Challenge.pw_io0022_01.main.body[14]? = some x } := ⟨_, rfl⟩
noncomputable def T15 : { x : Stmt // PySem.Challenge.pw_io0022_01.main.body[15]? = some x } := ⟨_, rfl⟩
noncomputable def T16 : { x : Stmt // PySem.Challenge.pw_io0022_01.main.body[16]? = some x } := ⟨_, rfl⟩
noncomputable def T17 : { x : Stmt // PySem.Challenge.pw_io0022_01.main.body[17]? = some x } := ⟨_, rfl⟩
noncomputable def T19 : { x : Stmt // PySem.Challenge.pw_io0022_01.main.body[19]? = some x } := ⟨_, rfl⟩
noncomputable def T20 : { x : Stmt // PySem.Challenge.pw_io0022_01.main.body[20]? = some x } := ⟨_, rfl⟩
noncomputable def T21 : { x : Stmt // PySem.Challenge.pw_io0022_01.main.body[21]? = some x } := ⟨_, rfl⟩
noncomputable def T22 : { x : Stmt // PySem.Challenge.pw_io0022_01.main.body[22]? = some x } := ⟨_, rfl⟩
noncomputable def T23 : { x : Stmt // PySem.Challenge.pw_io0022_01.main.body[23]? = some x } := ⟨_, rfl⟩
noncomputable def T25 : { x : Stmt // PySem.Challenge.pw_io0022_01.main.body[25]? = some x } := ⟨_, rfl⟩
noncomputable def T26 : { x : Stmt // PySem.Challenge.pw_io0022_01.main.body[26]? = some x } := ⟨_, rfl⟩
noncomputable def T27 : { x : Stmt // PySem.Challenge.pw_io0022_01.main.body[27]? = some x } := ⟨_, rfl⟩
noncomputable def T28 : { x : Stmt // PySem.Challenge.pw_io0022_01.main.body[28]? = some x } := ⟨_, rfl⟩
noncomputable def T29 : { x : Stmt // PySem.Challenge.pw_io0022_01.main.body[29]? = some x } := ⟨_, rfl⟩
noncomputable def V0 : List Stmt := [T0.1, T1.1, T3.1, T4.1, T5.1, T6.1, T7.1, T8.1, T9.1, T10.1, T12.1, T14.1, T15.1, T16.1, T17.1, T19.1, T20.1, T21.1, T22.1, T23.1, T25.1, T26.1, T27.1, T28.1, T29.1]
noncomputable def V : Program := by
  refine (fun (x : List Stmt) (_ : V0 = x) => ({ PySem.Challenge.pw_io0022_01 with main := { PySem.Challenge.pw_io0022_01.main with body := x } } : Program)) ?x ?h
  case h =>
    delta V0 T0 T1 T3 T4 T5 T6 T7 T8 T9 T10 T12 T14 T15 T16 T17 T19 T20 T21 T22 T23 T25 T26 T27 T28 T29
    dsimp only
    exact rfl
noncomputable def looseN : List PySem.Str := ["_WallAttr", "ASCII_CTRL", "ILLEGAL_BASIC_STR_CHARS", "ILLEGAL_MULTILINE_BASIC_STR_CHARS", "TOML_WS", "TOML_WS_AND_NEWLINE", "hexdigits", "HEXDIGIT_CHARS", "MappingProxyType", "BASIC_STR_ESCAPE_REPLACEMENTS", "parse_basic_str_escape"]
end Mine
end
-- H12
noncomputable section
open PySem PySem.W PySem.Calls PyProof.Rows
namespace Mine
noncomputable def asK : List Addr := [2, 3, 92, 93, 94, 101, 102, 103, 104, 107, 109, 110, 112, 113, 114, 116, 117, 119, 120, 121, 122, 124, 125, 127, 128, 129, 131, 132, 134, 135, 136, 138, 139, 141, 142, 143, 145, 146, 148, 149, 150, 152, 153, 155, 156, 157, 159, 160, 162, 163, 164, 166, 167, 169, 170, 171, 173, 174, 176, 177, 178, 180, 181, 183, 184, 185, 187, 188, 190, 191, 192, 195, 196]
theorem asK_eq (P : Params) : asK = (K P).map (·.1) := by kernel_rfl
noncomputable def XT (s : Shared) : Bool := xlAt V [] s && recOk [] s
noncomputable def finR (w : World) (os : OsState) (xf : Shared) := (openSeen V looseN (importedModules PW.main.body) XT false xf,
  staticsOk (importedModules PW.main.body) (boot0 w os).heap xf.heap && namesBound PW xf.heap && gensDone xf && laidKept (boot0 w os).heap xf.heap, asK.map xf.heap.get?, xf.heap.get? 151, xf.heap.life.registered, xf.heap.life.counting)
noncomputable def finQ (w : World) (os : OsState) (xf : Shared) := (PySem.W.Fast.tw4187177175401517315 V looseN (PySem.W.Fast.tw5923862056798008813 PW.main.body) XT false xf,
  staticsOk (PySem.W.Fast.tw5923862056798008813 PW.main.body) (boot0 w os).heap xf.heap && namesBound PW xf.heap && gensDone xf && laidKept (boot0 w os).heap xf.heap, asK.map xf.heap.get?, xf.heap.get? 151, xf.heap.life.registered, xf.heap.life.counting)
noncomputable def cutsE (E : Eng) : List Cut := [LOOP 58 57, LOOP 63 64, .builtin "frozenset.__or__" ⟨[.ref 58, .ref 63], []⟩, LOOP 68 69, .builtin "frozenset.__sub__" ⟨[.ref 67, .ref 68], []⟩, LOOP 73 74, .builtin "frozenset.__sub__" ⟨[.ref 67, .ref 73], []⟩, LOOP 78 79, LOOP 82 83, .builtin "frozenset.__or__" ⟨[.ref 78, .ref 82], []⟩, LOOP 87 88].map fun c => (E.M.den c, c, true, false)
noncomputable def freshO (w : World) : Option Obj := some (FzO #[] 0 (.fresh 0 0 (!w.params.followText "set-order")))
noncomputable def objsE (w : World) (D : Nat → SD) : List (Option Obj) := [freshO w, freshO w, some (ob (D 58)), some (ob (D 63)), freshO w, some (ob (D 67)), some (ob (D 68)), freshO w, some (ob (D 67)), some (ob (D 73)), freshO w, freshO w, some (ob (D 78)), some (ob (D 82)), freshO w, some (ob (D 72)), some (ob (D 87))]
noncomputable def finE (w : World) := (openGood V looseN, true, (K w.params).map fun p => some p.2, some (tabObj #[]), ([] : List Addr), false)
theorem eng_mk {M M' : Mach} {n n' : Value → Sem (Option Value)} {G G' : World → Nat → Shared → Thread → Option (Shared × Thread)} {T T' : World → Nat → Shared → Thread → Option Shared} (a : M = M') (b : n = n') (c : G = G') (d : T = T') : Eng.mk M n G T = Eng.mk M' n' G' T' := by subst a b c d; rfl
theorem eng_eq : engR = engQ := eng_mk real_quick next_eq (funext fun w => funext fun n => funext fun s => funext fun t => congrFun (congrFun (congrFun (congrFun (congrFun (congrFun (congrFun topGo_quick PW) w) 11) AN) n) s) t)
  (funext fun w => funext fun n => funext fun s => funext fun t => congrFun (congrFun (congrFun (congrFun (congrFun (congrFun (congrFun (congr PySem.W.Fast.te14082659384304107361 PySem.W.Fast.te14364793385576792824) PW) w) 11) AN) n) s) t)
theorem fin_eq : finR = finQ := by
  funext w os xf
  unfold finR finQ
  rw [← PySem.W.Fast.te4187177175401517315, ← PySem.W.Fast.te5923862056798008813]
theorem chainQ_ff (w : World) (os : OsState) (D : Nat → SD) : chain engQ (fw w false false) os D (finQ (fw w false false) os) = some (cutsE engQ, objsE (fw w false false) D, [67, 72, 77, 86], finE (fw w false false)) := by kernel_rfl
theorem chainQ_ft (w : World) (os : OsState) (D : Nat → SD) : chain engQ (fw w false true) os D (finQ (fw w false true) os) = some (cutsE engQ, objsE (fw w false true) D, [67, 72, 77, 86], finE (fw w false true)) := by kernel_rfl
theorem chainQ_tf (w : World) (os : OsState) (D : Nat → SD) : chain engQ (fw w true false) os D (finQ (fw w true false) os) = some (cutsE engQ, objsE (fw w true false) D, [67, 72, 77, 86], finE (fw w true false)) := by kernel_rfl
theorem chainQ_tt (w : World) (os : OsState) (D : Nat → SD) : chain engQ (fw w true true) os D (finQ (fw w true true) os) = some (cutsE engQ, objsE (fw w true true) D, [67, 72, 77, 86], finE (fw w true true)) := by kernel_rfl
theorem chainR (b1 b2 : Bool) (w : World) (os : OsState) (D : Nat → SD) : chain engR (fw w b1 b2) os D (finR (fw w b1 b2) os) = some (cutsE engR, objsE (fw w b1 b2) D, [67, 72, 77, 86], finE (fw w b1 b2)) := by
  rw [eng_eq, fin_eq]
  cases b1 <;> cases b2
  · exact chainQ_ff w os D
  · exact chainQ_ft w os D
  · exact chainQ_tf w os D
  · exact chainQ_tt w os D
end Mine
end
-- H13
noncomputable section
open PySem PySem.W PySem.Calls PyProof.Rows
namespace Mine
noncomputable def dOK (w : World) (d : SD) (S : List Nat) : Prop := d.2.2.fits d.1.size = true ∧ Has w d.1 S
theorem objs_of_get {h : Heap} {a : Addr} {o : Obj} (e : h.get? a = some o) : h.objs[a]? = some o := by
  unfold Heap.get? at e
  split at e
  · cases e
  · exact e
theorem put_eq {s s' : Shared} {a : Addr} {o : Obj} (x : SB [a] s s') (h : s'.heap.get? a = some o) : s' = putO a o s := by
  have ho := objs_of_get h
  obtain ⟨⟨objs, life⟩, g, dd, k, os⟩ := s
  obtain ⟨⟨objs', life'⟩, g', dd', k', os'⟩ := s'
  obtain ⟨e1, e2, e3, e4, e5, e6, e7⟩ := x
  dsimp only at e1 e2 e3 e4 e5 e6 e7 ho
  subst e1 e2 e3 e4 e5
  unfold putO
  simp only [Heap.update]
  have : objs' = objs.modify a (fun _ => o) := by
    apply Array.ext_getElem?
    intro i
    rw [Array.getElem?_modify]
    by_cases q : a = i
    · subst q
      rw [if_pos rfl, ho]
      have hlt : a < objs.size := by
        rw [← e6]
        exact (Array.getElem?_eq_some_iff.mp ho).1
      rw [Array.getElem?_eq_getElem hlt]; rfl
    · rw [if_neg q]
      exact e7 i (fun m => q (List.mem_singleton.mp m).symm)
  rw [this]
theorem push_eq {s s' : Shared} {X o : Obj} (x : SB [s.heap.objs.size] { s with heap := s.heap.push X } s') (h : s'.heap.get? s.heap.objs.size = some o) : s' = pushO o s := by
  have := put_eq x h
  rw [this]
  obtain ⟨⟨objs, life⟩, g, dd, k, os⟩ := s
  unfold putO pushO
  simp only [Heap.update, Heap.push]
  congr 2
  apply Array.ext_getElem?
  intro i
  rw [Array.getElem?_modify]
  by_cases q : objs.size = i
  · subst q
    simp
  · rw [if_neg q]
    rw [Array.getElem?_push, Array.getElem?_push, if_neg (fun e => q e.symm), if_neg (fun e => q e.symm)]
theorem den_or (args : Args) : denote treeTable (.builtin "frozenset.__or__" args) = Builtin.«frozenset.__or__» args := by
  show (match entryFor treeTable "frozenset.__or__" with | some b => b args | none => unsupported ((withoutEnding? "frozenset.__or__" "#data").getD "frozenset.__or__")) = _
  rw [← table_eq_tree, show entryFor table "frozenset.__or__" = some Builtin.«frozenset.__or__» from entryFor_of_tree (by kernel_rfl)]
theorem den_sub (args : Args) : denote treeTable (.builtin "frozenset.__sub__" args) = Builtin.«frozenset.__sub__» args := by
  show (match entryFor treeTable "frozenset.__sub__" with | some b => b args | none => unsupported ((withoutEnding? "frozenset.__sub__" "#data").getD "frozenset.__sub__")) = _
  rw [← table_eq_tree, show entryFor table "frozenset.__sub__" = some Builtin.«frozenset.__sub__» from entryFor_of_tree (by kernel_rfl)]
section
variable {w : World} {b1 b2 : Bool} {Φ : Shared → Prop} {N : Nat} {x : Shared × Thread} {y : Shared × Code × Pos} {a it o : Addr} {cs S : List Nat}
theorem cut_open {c : Code} (hx : cutOf x = (engR.M.den c, c, true, false)) : ∃ s pos F st, x = (s, ⟨denote treeTable c, c, pos, F :: st⟩) ∧ splitAtGen (F :: st) = none := by
  obtain ⟨s, ⟨cur, code, pos, st⟩⟩ := x
  unfold cutOf at hx
  simp only [Prod.mk.injEq] at hx
  obtain ⟨h1, h2, h3, h4⟩ := hx
  subst h2
  cases st with
  | nil => cases h4
  | cons F st => exact ⟨s, pos, F, st, by rw [h1]; rfl, Option.isNone_iff_eq_none.mp h3⟩
theorem loop_claim (hx : cutOf x = (engR.M.den (LOOP a it), LOOP a it, true, false)) (hL : engR.L (fw w b1 b2) a it cs x = some y) (hf : x.1.heap.get? a = freshO (fw w b1 b2)) (hn : cs.Nodup) (hz : cs.length < 4096) (ha : 11 ≤ a)
    (k : ∀ d, dOK w d cs → TopOK PW (fw w b1 b2) 11 AN Φ N (putO a (ob d) y.1) (retT .none y.2.1 y.2.2 x.2.stack)) :
    TopOK PW (fw w b1 b2) 11 AN Φ (N + 417 * (cs.length + 1)) x.1 x.2 := by
  obtain ⟨s, pos, F, st, rfl, hB⟩ := cut_open hx
  obtain ⟨d', code, pos'⟩ := y
  refine loop_ok (S := []) hB ha hL ⟨SB.refl _ _, fun b hb => by rw [List.mem_singleton.mp hb]; exact Heap.lt_size hf⟩ hf (by rfl) Has.nil (by rw [List.nil_append]; exact hn) (by rw [List.nil_append]; exact hz) ?_
  intro s' es' ep' t' z1 z2 z3 z4
  rw [put_eq z1.1 z2]
  exact k (es', ep', t') ⟨z3, z4⟩
theorem or_claim {c m : Nat} {da db : SD} (hx : cutOf x = (engR.M.den (.builtin "frozenset.__or__" ⟨[.ref a, .ref o], []⟩), .builtin "frozenset.__or__" ⟨[.ref a, .ref o], []⟩, true, false)) (hz : 11 ≤ x.1.heap.objs.size)
    (ha : x.1.heap.get? a = some (ob da)) (hb : x.1.heap.get? o = some (ob db)) (hda : dOK w da S) (hdb : dOK w db [c]) (hS : (S.length = 2 ∧ m = 7) ∨ (S.length = 32 ∧ m = 127)) (hc : c ∉ S) (hab : a ≠ o)
    (k : ∀ d, dOK w d (S ++ [c]) → TopOK PW (fw w b1 b2) 11 AN Φ N (pushO (ob d) x.1) (retT (.ref x.1.heap.objs.size) x.2.code x.2.pos x.2.stack)) : TopOK PW (fw w b1 b2) 11 AN Φ (N + 70) x.1 x.2 := by
  obtain ⟨s, pos, F, st, rfl, hB⟩ := cut_open hx
  dsimp only at *
  rw [den_or, ← wrap_id (x := Builtin.«frozenset.__or__» _)]
  refine wq_or (w := fw w b1 b2) (S := S) (c := c) (m := m) (Q := fun f s' => f = .done (.ret (.ref s.heap.objs.size)) ∧ Made (fw w b1 b2) s s' (S ++ [c])) hz ⟨_, _, _, ha, hda.1, hda.2⟩ ⟨_, _, _, hb, hdb.1, hdb.2⟩ hS hc hab (fun s' h => ⟨rfl, h⟩) Φ N _ _ _ _ _ _ _ _ ?_
  rintro f s' ⟨rfl, X, z1, es, ep, t, z2, z3, z4⟩
  rw [push_eq z1 z2]
  exact k (es, ep, t) ⟨z3, z4⟩
theorem sub_claim {So : List Nat} {da db : SD} (hx : cutOf x = (engR.M.den (.builtin "frozenset.__sub__" ⟨[.ref a, .ref o], []⟩), .builtin "frozenset.__sub__" ⟨[.ref a, .ref o], []⟩, true, false)) (hz : 11 ≤ x.1.heap.objs.size)
    (ha : x.1.heap.get? a = some (ob da)) (hb : x.1.heap.get? o = some (ob db)) (hda : dOK w da S) (hdb : dOK w db So) (hS : S.length = 33) (hso : So = [9] ∨ So = [9, 10]) (h9 : 9 ∈ S) (h10 : 10 ∈ S) (hab : a ≠ o)
    (k : ∀ d, dOK w d (So.foldl List.erase S) → TopOK PW (fw w b1 b2) 11 AN Φ N (pushO (ob d) x.1) (retT (.ref x.1.heap.objs.size) x.2.code x.2.pos x.2.stack)) : TopOK PW (fw w b1 b2) 11 AN Φ (N + 90) x.1 x.2 := by
  obtain ⟨s, pos, F, st, rfl, hB⟩ := cut_open hx
  dsimp only at *
  rw [den_sub, ← wrap_id (x := Builtin.«frozenset.__sub__» _)]
  refine wq_sub (w := w) (S := S) (So := So) (Q := fun f s' => f = .done (.ret (.ref s.heap.objs.size)) ∧ Made w s s' (So.foldl List.erase S)) hz ⟨_, _, _, ha, hda.1, hda.2⟩ ⟨_, _, _, hb, hdb.1, hdb.2⟩ hS hso h9 h10 hab (fun s' h => ⟨rfl, h⟩) Φ N _ _ _ _ _ _ _ _ ?_
  rintro f s' ⟨rfl, X, z1, es, ep, t, z2, z3, z4⟩
  rw [push_eq z1 z2]
  exact k (es, ep, t) ⟨z3, z4⟩
end
end Mine
end
-- H14
noncomputable section
open PySem PySem.W PySem.Calls PyProof.Rows
namespace Mine
section
variable (w : World) (os : OsState) (D : Nat → SD)
noncomputable def px1 : Option (Shared × Thread) := engR.G w 414 (boot0 w os) (topStub PW)
noncomputable def py1 : Option (Shared × Code × Pos) := (px1 w os).bind (engR.L w 58 57 (List.range 32))
noncomputable def px2 : Option (Shared × Thread) := (px1 w os).bind fun x => (py1 w os).bind fun y => engR.G w 38 (putO 58 (ob (D 58)) y.1) (retT .none y.2.1 y.2.2 x.2.stack)
noncomputable def py2 : Option (Shared × Code × Pos) := (px2 w os D).bind (engR.L w 63 64 [127])
noncomputable def px3 : Option (Shared × Thread) := (px2 w os D).bind fun x => (py2 w os D).bind fun y => engR.G w 18 (putO 63 (ob (D 63)) y.1) (retT .none y.2.1 y.2.2 x.2.stack)
noncomputable def px4 : Option (Shared × Thread) := (px3 w os D).bind fun x => engR.G w 30 (pushO (ob (D 67)) x.1) (retT (.ref 67) x.2.code x.2.pos x.2.stack)
noncomputable def py4 : Option (Shared × Code × Pos) := (px4 w os D).bind (engR.L w 68 69 [9])
noncomputable def px5 : Option (Shared × Thread) := (px4 w os D).bind fun x => (py4 w os D).bind fun y => engR.G w 18 (putO 68 (ob (D 68)) y.1) (retT .none y.2.1 y.2.2 x.2.stack)
noncomputable def px6 : Option (Shared × Thread) := (px5 w os D).bind fun x => engR.G w 30 (pushO (ob (D 72)) x.1) (retT (.ref 72) x.2.code x.2.pos x.2.stack)
noncomputable def py6 : Option (Shared × Code × Pos) := (px6 w os D).bind (engR.L w 73 74 [9, 10])
noncomputable def px7 : Option (Shared × Thread) := (px6 w os D).bind fun x => (py6 w os D).bind fun y => engR.G w 18 (putO 73 (ob (D 73)) y.1) (retT .none y.2.1 y.2.2 x.2.stack)
noncomputable def px8 : Option (Shared × Thread) := (px7 w os D).bind fun x => engR.G w 28 (pushO (ob (D 77)) x.1) (retT (.ref 77) x.2.code x.2.pos x.2.stack)
noncomputable def py8 : Option (Shared × Code × Pos) := (px8 w os D).bind (engR.L w 78 79 [32, 9])
noncomputable def px9 : Option (Shared × Thread) := (px8 w os D).bind fun x => (py8 w os D).bind fun y => engR.G w 39 (putO 78 (ob (D 78)) y.1) (retT .none y.2.1 y.2.2 x.2.stack)
noncomputable def py9 : Option (Shared × Code × Pos) := (px9 w os D).bind (engR.L w 82 83 [10])
noncomputable def px10 : Option (Shared × Thread) := (px9 w os D).bind fun x => (py9 w os D).bind fun y => engR.G w 18 (putO 82 (ob (D 82)) y.1) (retT .none y.2.1 y.2.2 x.2.stack)
noncomputable def px11 : Option (Shared × Thread) := (px10 w os D).bind fun x => engR.G w 62 (pushO (ob (D 86)) x.1) (retT (.ref 86) x.2.code x.2.pos x.2.stack)
noncomputable def py11 : Option (Shared × Code × Pos) := (px11 w os D).bind (engR.L w 87 88 hexes)
noncomputable def pxf : Option Shared := (px11 w os D).bind fun x => (py11 w os D).bind fun y => engR.T w 900 (putO 87 (ob (D 87)) y.1) (retT .none y.2.1 y.2.2 x.2.stack)
end
structure XS where
  x1 : Shared × Thread
  y1 : Shared × Code × Pos
  x2 : Shared × Thread
  y2 : Shared × Code × Pos
  x3 : Shared × Thread
  x4 : Shared × Thread
  y4 : Shared × Code × Pos
  x5 : Shared × Thread
  x6 : Shared × Thread
  y6 : Shared × Code × Pos
  x7 : Shared × Thread
  x8 : Shared × Thread
  y8 : Shared × Code × Pos
  x9 : Shared × Thread
  y9 : Shared × Code × Pos
  x10 : Shared × Thread
  x11 : Shared × Thread
  y11 : Shared × Code × Pos
  xf : Shared
section
variable (b1 b2 : Bool) (w : World) (os : OsState) (D : Nat → SD)
structure FX (X : XS) : Prop where
  qx1 : px1 (fw w b1 b2) os = some X.x1
  qy1 : py1 (fw w b1 b2) os = some X.y1
  qx2 : px2 (fw w b1 b2) os D = some X.x2
  qy2 : py2 (fw w b1 b2) os D = some X.y2
  qx3 : px3 (fw w b1 b2) os D = some X.x3
  qx4 : px4 (fw w b1 b2) os D = some X.x4
  qy4 : py4 (fw w b1 b2) os D = some X.y4
  qx5 : px5 (fw w b1 b2) os D = some X.x5
  qx6 : px6 (fw w b1 b2) os D = some X.x6
  qy6 : py6 (fw w b1 b2) os D = some X.y6
  qx7 : px7 (fw w b1 b2) os D = some X.x7
  qx8 : px8 (fw w b1 b2) os D = some X.x8
  qy8 : py8 (fw w b1 b2) os D = some X.y8
  qx9 : px9 (fw w b1 b2) os D = some X.x9
  qy9 : py9 (fw w b1 b2) os D = some X.y9
  qx10 : px10 (fw w b1 b2) os D = some X.x10
  qx11 : px11 (fw w b1 b2) os D = some X.x11
  qy11 : py11 (fw w b1 b2) os D = some X.y11
  qxf : pxf (fw w b1 b2) os D = some X.xf
  h1 : [cutOf X.x1, cutOf X.x2, cutOf X.x3, cutOf X.x4, cutOf X.x5, cutOf X.x6, cutOf X.x7, cutOf X.x8, cutOf X.x9, cutOf X.x10, cutOf X.x11] = cutsE engR
  h2 : [X.x1.1.heap.get? 58, X.x2.1.heap.get? 63, X.x3.1.heap.get? 58, X.x3.1.heap.get? 63, X.x4.1.heap.get? 68, X.x5.1.heap.get? 67, X.x5.1.heap.get? 68, X.x6.1.heap.get? 73, X.x7.1.heap.get? 67, X.x7.1.heap.get? 73, X.x8.1.heap.get? 78, X.x9.1.heap.get? 82, X.x10.1.heap.get? 78, X.x10.1.heap.get? 82, X.x11.1.heap.get? 87, X.xf.heap.get? 72, X.xf.heap.get? 87] = objsE (fw w b1 b2) D
  h3 : [X.x3.1.heap.objs.size, X.x5.1.heap.objs.size, X.x7.1.heap.objs.size, X.x10.1.heap.objs.size] = [67, 72, 77, 86]
  h4 : finR (fw w b1 b2) os X.xf = finE (fw w b1 b2)
theorem facts : ∃ X : XS, FX b1 b2 w os D X := by
  have h := chainR b1 b2 w os D
  unfold chain at h
  obtain ⟨x1, ex1, h⟩ := Option.bind_eq_some_iff.mp h
  have qx1 : px1 (fw w b1 b2) os = some x1 := ex1
  obtain ⟨y1, ey1, h⟩ := Option.bind_eq_some_iff.mp h
  have qy1 : py1 (fw w b1 b2) os = some y1 := by
    unfold py1
    rw [qx1]
    exact ey1
  obtain ⟨x2, ex2, h⟩ := Option.bind_eq_some_iff.mp h
  have qx2 : px2 (fw w b1 b2) os D = some x2 := by
    unfold px2
    rw [qx1, qy1]
    exact ex2
  obtain ⟨y2, ey2, h⟩ := Option.bind_eq_some_iff.mp h
  have qy2 : py2 (fw w b1 b2) os D = some y2 := by
    unfold py2
    rw [qx2]
    exact ey2
  obtain ⟨x3, ex3, h⟩ := Option.bind_eq_some_iff.mp h
  have qx3 : px3 (fw w b1 b2) os D = some x3 := by
    unfold px3
    rw [qx2, qy2]
    exact ex3
  obtain ⟨x4, ex4, h⟩ := Option.bind_eq_some_iff.mp h
  have qx4 : px4 (fw w b1 b2) os D = some x4 := by
    unfold px4
    rw [qx3]
    exact ex4
  obtain ⟨y4, ey4, h⟩ := Option.bind_eq_some_iff.mp h
  have qy4 : py4 (fw w b1 b2) os D = some y4 := by
    unfold py4
    rw [qx4]
    exact ey4
  obtain ⟨x5, ex5, h⟩ := Option.bind_eq_some_iff.mp h
  have qx5 : px5 (fw w b1 b2) os D = some x5 := by
    unfold px5
    rw [qx4, qy4]
    exact ex5
  obtain ⟨x6, ex6, h⟩ := Option.bind_eq_some_iff.mp h
  have qx6 : px6 (fw w b1 b2) os D = some x6 := by
    unfold px6
    rw [qx5]
    exact ex6
  obtain ⟨y6, ey6, h⟩ := Option.bind_eq_some_iff.mp h
  have qy6 : py6 (fw w b1 b2) os D = some y6 := by
    unfold py6
    rw [qx6]
    exact ey6
  obtain ⟨x7, ex7, h⟩ := Option.bind_eq_some_iff.mp h
  have qx7 : px7 (fw w b1 b2) os D = some x7 := by
    unfold px7
    rw [qx6, qy6]
    exact ex7
  obtain ⟨x8, ex8, h⟩ := Option.bind_eq_some_iff.mp h
  have qx8 : px8 (fw w b1 b2) os D = some x8 := by
    unfold px8
    rw [qx7]
    exact ex8
  obtain ⟨y8, ey8, h⟩ := Option.bind_eq_some_iff.mp h
  have qy8 : py8 (fw w b1 b2) os D = some y8 := by
    unfold py8
    rw [qx8]
    exact ey8
  obtain ⟨x9, ex9, h⟩ := Option.bind_eq_some_iff.mp h
  have qx9 : px9 (fw w b1 b2) os D = some x9 := by
    unfold px9
    rw [qx8, qy8]
    exact ex9
  obtain ⟨y9, ey9, h⟩ := Option.bind_eq_some_iff.mp h
  have qy9 : py9 (fw w b1 b2) os D = some y9 := by
    unfold py9
    rw [qx9]
    exact ey9
  obtain ⟨x10, ex10, h⟩ := Option.bind_eq_some_iff.mp h
  have qx10 : px10 (fw w b1 b2) os D = some x10 := by
    unfold px10
    rw [qx9, qy9]
    exact ex10
  obtain ⟨x11, ex11, h⟩ := Option.bind_eq_some_iff.mp h
  have qx11 : px11 (fw w b1 b2) os D = some x11 := by
    unfold px11
    rw [qx10]
    exact ex11
  obtain ⟨y11, ey11, h⟩ := Option.bind_eq_some_iff.mp h
  have qy11 : py11 (fw w b1 b2) os D = some y11 := by
    unfold py11
    rw [qx11]
    exact ey11
  obtain ⟨xf, exf, h⟩ := Option.bind_eq_some_iff.mp h
  have qxf : pxf (fw w b1 b2) os D = some xf := by
    unfold pxf
    rw [qx11, qy11]
    exact exf
  obtain ⟨h1, h2, h3, h4⟩ : _ ∧ _ ∧ _ ∧ _ := by simpa only [Prod.mk.injEq] using Option.some.inj h
  exact ⟨⟨x1, y1, x2, y2, x3, x4, y4, x5, x6, y6, x7, x8, y8, x9, y9, x10, x11, y11, xf⟩, ⟨qx1, qy1, qx2, qy2, qx3, qx4, qy4, qx5, qx6, qy6, qx7, qx8, qy8, qx9, qy9, qx10, qx11, qy11, qxf, h1, h2, h3, h4⟩⟩
end
end Mine
end
-- H15
noncomputable section
open PySem PySem.W PySem.Calls PyProof.Rows
namespace Mine
section
variable (b1 b2 : Bool) (w : World) (os : OsState)
theorem g1 : ∃ x y, px1 (fw w b1 b2) os = some x ∧ py1 (fw w b1 b2) os = some y ∧ cutOf x = (engR.M.den (LOOP 58 57), LOOP 58 57, true, false) ∧ x.1.heap.get? 58 = freshO (fw w b1 b2) := by
  obtain ⟨X, f⟩ := facts b1 b2 w os default
  have hc : cutOf X.x1 = (engR.M.den (LOOP 58 57), LOOP 58 57, true, false) := Option.some.inj (congrArg (fun l : List Cut => l[0]?) f.h1)
  have ho58 : X.x1.1.heap.get? 58 = freshO (fw w b1 b2) := Option.some.inj (congrArg (fun l : List (Option Obj) => l[0]?) f.h2)
  exact ⟨X.x1, X.y1, f.qx1, f.qy1, hc, ho58⟩
theorem g2 (D : Nat → SD) : ∃ x y, px2 (fw w b1 b2) os D = some x ∧ py2 (fw w b1 b2) os D = some y ∧ cutOf x = (engR.M.den (LOOP 63 64), LOOP 63 64, true, false) ∧ x.1.heap.get? 63 = freshO (fw w b1 b2) := by
  obtain ⟨X, f⟩ := facts b1 b2 w os D
  have hc : cutOf X.x2 = (engR.M.den (LOOP 63 64), LOOP 63 64, true, false) := Option.some.inj (congrArg (fun l : List Cut => l[1]?) f.h1)
  have ho63 : X.x2.1.heap.get? 63 = freshO (fw w b1 b2) := Option.some.inj (congrArg (fun l : List (Option Obj) => l[1]?) f.h2)
  exact ⟨X.x2, X.y2, f.qx2, f.qy2, hc, ho63⟩
theorem g3 (D : Nat → SD) : ∃ x, px3 (fw w b1 b2) os D = some x ∧ cutOf x = (engR.M.den (.builtin "frozenset.__or__" ⟨[.ref 58, .ref 63], []⟩), .builtin "frozenset.__or__" ⟨[.ref 58, .ref 63], []⟩, true, false) ∧ x.1.heap.get? 58 = some (ob (D 58)) ∧ x.1.heap.get? 63 = some (ob (D 63)) ∧ x.1.heap.objs.size = 67 := by
  obtain ⟨X, f⟩ := facts b1 b2 w os D
  have hc : cutOf X.x3 = (engR.M.den (.builtin "frozenset.__or__" ⟨[.ref 58, .ref 63], []⟩), .builtin "frozenset.__or__" ⟨[.ref 58, .ref 63], []⟩, true, false) := Option.some.inj (congrArg (fun l : List Cut => l[2]?) f.h1)
  have ho58 : X.x3.1.heap.get? 58 = some (ob (D 58)) := Option.some.inj (congrArg (fun l : List (Option Obj) => l[2]?) f.h2)
  have ho63 : X.x3.1.heap.get? 63 = some (ob (D 63)) := Option.some.inj (congrArg (fun l : List (Option Obj) => l[3]?) f.h2)
  have hs : X.x3.1.heap.objs.size = 67 := Option.some.inj (congrArg (fun l : List Nat => l[0]?) f.h3)
  exact ⟨X.x3, f.qx3, hc, ho58, ho63, hs⟩
theorem g4 (D : Nat → SD) : ∃ x y, px4 (fw w b1 b2) os D = some x ∧ py4 (fw w b1 b2) os D = some y ∧ cutOf x = (engR.M.den (LOOP 68 69), LOOP 68 69, true, false) ∧ x.1.heap.get? 68 = freshO (fw w b1 b2) := by
  obtain ⟨X, f⟩ := facts b1 b2 w os D
  have hc : cutOf X.x4 = (engR.M.den (LOOP 68 69), LOOP 68 69, true, false) := Option.some.inj (congrArg (fun l : List Cut => l[3]?) f.h1)
  have ho68 : X.x4.1.heap.get? 68 = freshO (fw w b1 b2) := Option.some.inj (congrArg (fun l : List (Option Obj) => l[4]?) f.h2)
  exact ⟨X.x4, X.y4, f.qx4, f.qy4, hc, ho68⟩
theorem g5 (D : Nat → SD) : ∃ x, px5 (fw w b1 b2) os D = some x ∧ cutOf x = (engR.M.den (.builtin "frozenset.__sub__" ⟨[.ref 67, .ref 68], []⟩), .builtin "frozenset.__sub__" ⟨[.ref 67, .ref 68], []⟩, true, false) ∧ x.1.heap.get? 67 = some (ob (D 67)) ∧ x.1.heap.get? 68 = some (ob (D 68)) ∧ x.1.heap.objs.size = 72 := by
  obtain ⟨X, f⟩ := facts b1 b2 w os D
  have hc : cutOf X.x5 = (engR.M.den (.builtin "frozenset.__sub__" ⟨[.ref 67, .ref 68], []⟩), .builtin "frozenset.__sub__" ⟨[.ref 67, .ref 68], []⟩, true, false) := Option.some.inj (congrArg (fun l : List Cut => l[4]?) f.h1)
  have ho67 : X.x5.1.heap.get? 67 = some (ob (D 67)) := Option.some.inj (congrArg (fun l : List (Option Obj) => l[5]?) f.h2)
  have ho68 : X.x5.1.heap.get? 68 = some (ob (D 68)) := Option.some.inj (congrArg (fun l : List (Option Obj) => l[6]?) f.h2)
  have hs : X.x5.1.heap.objs.size = 72 := Option.some.inj (congrArg (fun l : List Nat => l[1]?) f.h3)
  exact ⟨X.x5, f.qx5, hc, ho67, ho68, hs⟩
theorem g6 (D : Nat → SD) : ∃ x y, px6 (fw w b1 b2) os D = some x ∧ py6 (fw w b1 b2) os D = some y ∧ cutOf x = (engR.M.den (LOOP 73 74), LOOP 73 74, true, false) ∧ x.1.heap.get? 73 = freshO (fw w b1 b2) := by
  obtain ⟨X, f⟩ := facts b1 b2 w os D
  have hc : cutOf X.x6 = (engR.M.den (LOOP 73 74), LOOP 73 74, true, false) := Option.some.inj (congrArg (fun l : List Cut => l[5]?) f.h1)
  have ho73 : X.x6.1.heap.get? 73 = freshO (fw w b1 b2) := Option.some.inj (congrArg (fun l : List (Option Obj) => l[7]?) f.h2)
  exact ⟨X.x6, X.y6, f.qx6, f.qy6, hc, ho73⟩
theorem g7 (D : Nat → SD) : ∃ x, px7 (fw w b1 b2) os D = some x ∧ cutOf x = (engR.M.den (.builtin "frozenset.__sub__" ⟨[.ref 67, .ref 73], []⟩), .builtin "frozenset.__sub__" ⟨[.ref 67, .ref 73], []⟩, true, false) ∧ x.1.heap.get? 67 = some (ob (D 67)) ∧ x.1.heap.get? 73 = some (ob (D 73)) ∧ x.1.heap.objs.size = 77 := by
  obtain ⟨X, f⟩ := facts b1 b2 w os D
  have hc : cutOf X.x7 = (engR.M.den (.builtin "frozenset.__sub__" ⟨[.ref 67, .ref 73], []⟩), .builtin "frozenset.__sub__" ⟨[.ref 67, .ref 73], []⟩, true, false) := Option.some.inj (congrArg (fun l : List Cut => l[6]?) f.h1)
  have ho67 : X.x7.1.heap.get? 67 = some (ob (D 67)) := Option.some.inj (congrArg (fun l : List (Option Obj) => l[8]?) f.h2)
  have ho73 : X.x7.1.heap.get? 73 = some (ob (D 73)) := Option.some.inj (congrArg (fun l : List (Option Obj) => l[9]?) f.h2)
  have hs : X.x7.1.heap.objs.size = 77 := Option.some.inj (congrArg (fun l : List Nat => l[2]?) f.h3)
  exact ⟨X.x7, f.qx7, hc, ho67, ho73, hs⟩
theorem g8 (D : Nat → SD) : ∃ x y, px8 (fw w b1 b2) os D = some x ∧ py8 (fw w b1 b2) os D = some y ∧ cutOf x = (engR.M.den (LOOP 78 79), LOOP 78 79, true, false) ∧ x.1.heap.get? 78 = freshO (fw w b1 b2) := by
  obtain ⟨X, f⟩ := facts b1 b2 w os D
  have hc : cutOf X.x8 = (engR.M.den (LOOP 78 79), LOOP 78 79, true, false) := Option.some.inj (congrArg (fun l : List Cut => l[7]?) f.h1)
  have ho78 : X.x8.1.heap.get? 78 = freshO (fw w b1 b2) := Option.some.inj (congrArg (fun l : List (Option Obj) => l[10]?) f.h2)
  exact ⟨X.x8, X.y8, f.qx8, f.qy8, hc, ho78⟩
theorem g9 (D : Nat → SD) : ∃ x y, px9 (fw w b1 b2) os D = some x ∧ py9 (fw w b1 b2) os D = some y ∧ cutOf x = (engR.M.den (LOOP 82 83), LOOP 82 83, true, false) ∧ x.1.heap.get? 82 = freshO (fw w b1 b2) := by
  obtain ⟨X, f⟩ := facts b1 b2 w os D
  have hc : cutOf X.x9 = (engR.M.den (LOOP 82 83), LOOP 82 83, true, false) := Option.some.inj (congrArg (fun l : List Cut => l[8]?) f.h1)
  have ho82 : X.x9.1.heap.get? 82 = freshO (fw w b1 b2) := Option.some.inj (congrArg (fun l : List (Option Obj) => l[11]?) f.h2)
  exact ⟨X.x9, X.y9, f.qx9, f.qy9, hc, ho82⟩
theorem g10 (D : Nat → SD) : ∃ x, px10 (fw w b1 b2) os D = some x ∧ cutOf x = (engR.M.den (.builtin "frozenset.__or__" ⟨[.ref 78, .ref 82], []⟩), .builtin "frozenset.__or__" ⟨[.ref 78, .ref 82], []⟩, true, false) ∧ x.1.heap.get? 78 = some (ob (D 78)) ∧ x.1.heap.get? 82 = some (ob (D 82)) ∧ x.1.heap.objs.size = 86 := by
  obtain ⟨X, f⟩ := facts b1 b2 w os D
  have hc : cutOf X.x10 = (engR.M.den (.builtin "frozenset.__or__" ⟨[.ref 78, .ref 82], []⟩), .builtin "frozenset.__or__" ⟨[.ref 78, .ref 82], []⟩, true, false) := Option.some.inj (congrArg (fun l : List Cut => l[9]?) f.h1)
  have ho78 : X.x10.1.heap.get? 78 = some (ob (D 78)) := Option.some.inj (congrArg (fun l : List (Option Obj) => l[12]?) f.h2)
  have ho82 : X.x10.1.heap.get? 82 = some (ob (D 82)) := Option.some.inj (congrArg (fun l : List (Option Obj) => l[13]?) f.h2)
  have hs : X.x10.1.heap.objs.size = 86 := Option.some.inj (congrArg (fun l : List Nat => l[3]?) f.h3)
  exact ⟨X.x10, f.qx10, hc, ho78, ho82, hs⟩
theorem g11 (D : Nat → SD) : ∃ x y, px11 (fw w b1 b2) os D = some x ∧ py11 (fw w b1 b2) os D = some y ∧ cutOf x = (engR.M.den (LOOP 87 88), LOOP 87 88, true, false) ∧ x.1.heap.get? 87 = freshO (fw w b1 b2) := by
  obtain ⟨X, f⟩ := facts b1 b2 w os D
  have hc : cutOf X.x11 = (engR.M.den (LOOP 87 88), LOOP 87 88, true, false) := Option.some.inj (congrArg (fun l : List Cut => l[10]?) f.h1)
  have ho87 : X.x11.1.heap.get? 87 = freshO (fw w b1 b2) := Option.some.inj (congrArg (fun l : List (Option Obj) => l[14]?) f.h2)
  exact ⟨X.x11, X.y11, f.qx11, f.qy11, hc, ho87⟩
theorem gf (D : Nat → SD) : ∃ x, pxf (fw w b1 b2) os D = some x ∧ x.heap.get? 72 = some (ob (D 72)) ∧ x.heap.get? 87 = some (ob (D 87)) ∧ finR (fw w b1 b2) os x = finE (fw w b1 b2) := by
  obtain ⟨X, f⟩ := facts b1 b2 w os D
  exact ⟨X.xf, f.qxf, Option.some.inj (congrArg (fun l : List (Option Obj) => l[15]?) f.h2), Option.some.inj (congrArg (fun l : List (Option Obj) => l[16]?) f.h2), f.h4⟩
end
end Mine
end
-- H16
noncomputable section
open PySem PySem.W PySem.Calls PyProof.Rows
namespace Mine
noncomputable def upd (D : Nat → SD) (a : Nat) (d : SD) : Nat → SD := fun n => if n = a then d else D n
noncomputable def S67 : List Nat := List.range 32 ++ [127]
noncomputable def S72 : List Nat := [9].foldl List.erase S67
noncomputable def Good (w : World) (b1 b2 : Bool) (os : OsState) (r : Shared) : Prop := finR (fw w b1 b2) os r = finE (fw w b1 b2) ∧ (∃ d, r.heap.get? 72 = some (ob d) ∧ dOK w d S72) ∧ ∃ d, r.heap.get? 87 = some (ob d) ∧ dOK w d hexes
section
variable (b1 b2 : Bool) (w : World) (os : OsState)
theorem goG {Φ : Shared → Prop} {N n : Nat} {s : Shared} {t : Thread} {x : Shared × Thread} (e : engR.G (fw w b1 b2) n s t = some x) (h : TopOK PW (fw w b1 b2) 11 AN Φ N x.1 x.2) : TopOK PW (fw w b1 b2) 11 AN Φ (n + N) s t :=
  TopOK.go (s' := x.1) (t' := x.2) e h
theorem loop_claim2 {Φ : Shared → Prop} {N M : Nat} {x : Shared × Thread} {y : Shared × Code × Pos} {a it : Addr} {cs : List Nat} {b1 b2 : Bool} {w : World} (hx : cutOf x = (engR.M.den (LOOP a it), LOOP a it, true, false)) (hL : engR.L (fw w b1 b2) a it cs x = some y) (hf : x.1.heap.get? a = freshO (fw w b1 b2)) (hn : cs.Nodup) (hz : cs.length < 4096) (ha : 11 ≤ a) (hM : N + 417 * (cs.length + 1) ≤ M)
    (k : ∀ d, dOK w d cs → TopOK PW (fw w b1 b2) 11 AN Φ N (putO a (ob d) y.1) (retT .none y.2.1 y.2.2 x.2.stack)) :
    TopOK PW (fw w b1 b2) 11 AN Φ M x.1 x.2 := (loop_claim hx hL hf hn hz ha k).le hM
theorem top_ok : TopOK PW (fw w b1 b2) 11 AN (Good w b1 b2 os) 30289 (boot0 (fw w b1 b2) os) (topStub PW) := by
  obtain ⟨x1, y1, p1, r1, c1, o1⟩ := g1 b1 b2 w os
  have e1 := p1
  unfold px1 at e1
  refine goG (n := 414) (N := 29875) b1 b2 w e1 ?_
  have l1 := r1
  unfold py1 at l1
  rw [p1] at l1
  simp only [Option.bind_some] at l1
  refine loop_claim2 (N := 16114) c1 l1 o1 (by decide) (by decide) (by decide) (by decide) fun d58 k58 => ?_
  -- 63
  let D1 : Nat → SD := upd default 58 d58
  obtain ⟨x2, y2, p2, r2, c2, o2⟩ := g2 b1 b2 w os D1
  have e2 := p2
  unfold px2 at e2
  rw [p1, r1] at e2
  simp only [Option.bind_some] at e2
  refine goG (n := 38) (N := 16076) b1 b2 w (x := x2) e2 ?_
  have l2 := r2
  unfold py2 at l2
  rw [p2] at l2
  simp only [Option.bind_some] at l2
  refine loop_claim2 (N := 15242) c2 l2 o2 (by decide) (by decide) (by decide) (by decide) fun d63 k63 => ?_
  -- or
  let D2 : Nat → SD := upd D1 63 d63
  obtain ⟨x3, p3, c3, o3a, o3b, z3⟩ := g3 b1 b2 w os D2
  have p2' : px2 (fw w b1 b2) os D2 = some x2 := p2
  have r2' : py2 (fw w b1 b2) os D2 = some y2 := r2
  have e3 := p3
  unfold px3 at e3
  rw [p2', r2'] at e3
  simp only [Option.bind_some] at e3
  refine goG (n := 18) (N := 15224) b1 b2 w (x := x3) e3 ?_
  refine or_claim (N := 15154) (S := List.range 32) (c := 127) (m := 127) c3 (by rw [z3]; decide) o3a o3b k58 k63 (.inr ⟨rfl, rfl⟩) (by decide) (by decide) fun d67 k67 => ?_
  rw [z3]
  -- 68
  let D3 : Nat → SD := upd D2 67 d67
  obtain ⟨x4, y4, p4, r4, c4, o4⟩ := g4 b1 b2 w os D3
  have p3' : px3 (fw w b1 b2) os D3 = some x3 := p3
  have e4 := p4
  unfold px4 at e4
  rw [p3'] at e4
  simp only [Option.bind_some] at e4
  refine goG (n := 30) (N := 15124) b1 b2 w (x := x4) e4 ?_
  have l4 := r4
  unfold py4 at l4
  rw [p4] at l4
  simp only [Option.bind_some] at l4
  refine loop_claim2 (N := 14290) c4 l4 o4 (by decide) (by decide) (by decide) (by decide) fun d68 k68 => ?_
  -- sub
  let D4 : Nat → SD := upd D3 68 d68
  obtain ⟨x5, p5, c5, o5a, o5b, z5⟩ := g5 b1 b2 w os D4
  have p4' : px4 (fw w b1 b2) os D4 = some x4 := p4
  have r4' : py4 (fw w b1 b2) os D4 = some y4 := r4
  have e5 := p5
  unfold px5 at e5
  rw [p4', r4'] at e5
  simp only [Option.bind_some] at e5
  refine goG (n := 18) (N := 14272) b1 b2 w (x := x5) e5 ?_
  refine sub_claim (N := 14182) (S := S67) (So := [9]) c5 (by rw [z5]; decide) o5a o5b k67 k68 rfl (.inl rfl) (by decide) (by decide) (by decide) fun d72 k72 => ?_
  rw [z5]
  -- 73
  let D5 : Nat → SD := upd D4 72 d72
  obtain ⟨x6, y6, p6, r6, c6, o6⟩ := g6 b1 b2 w os D5
  have p5' : px5 (fw w b1 b2) os D5 = some x5 := p5
  have e6 := p6
  unfold px6 at e6
  rw [p5'] at e6
  simp only [Option.bind_some] at e6
  refine goG (n := 30) (N := 14152) b1 b2 w (x := x6) e6 ?_
  have l6 := r6
  unfold py6 at l6
  rw [p6] at l6
  simp only [Option.bind_some] at l6
  refine loop_claim2 (N := 12901) c6 l6 o6 (by decide) (by decide) (by decide) (by decide) fun d73 k73 => ?_
  -- sub
  let D6 : Nat → SD := upd D5 73 d73
  obtain ⟨x7, p7, c7, o7a, o7b, z7⟩ := g7 b1 b2 w os D6
  have p6' : px6 (fw w b1 b2) os D6 = some x6 := p6
  have r6' : py6 (fw w b1 b2) os D6 = some y6 := r6
  have e7 := p7
  unfold px7 at e7
  rw [p6', r6'] at e7
  simp only [Option.bind_some] at e7
  refine goG (n := 18) (N := 12883) b1 b2 w (x := x7) e7 ?_
  refine sub_claim (N := 12793) (S := S67) (So := [9, 10]) c7 (by rw [z7]; decide) o7a o7b k67 k73 rfl (.inr rfl) (by decide) (by decide) (by decide) fun d77 k77 => ?_
  rw [z7]
  -- 78
  let D7 : Nat → SD := upd D6 77 d77
  obtain ⟨x8, y8, p8, r8, c8, o8⟩ := g8 b1 b2 w os D7
  have p7' : px7 (fw w b1 b2) os D7 = some x7 := p7
  have e8 := p8
  unfold px8 at e8
  rw [p7'] at e8
  simp only [Option.bind_some] at e8
  refine goG (n := 28) (N := 12765) b1 b2 w (x := x8) e8 ?_
  have l8 := r8
  unfold py8 at l8
  rw [p8] at l8
  simp only [Option.bind_some] at l8
  refine loop_claim2 (N := 11514) c8 l8 o8 (by decide) (by decide) (by decide) (by decide) fun d78 k78 => ?_
  -- 82
  let D8 : Nat → SD := upd D7 78 d78
  obtain ⟨x9, y9, p9, r9, c9, o9⟩ := g9 b1 b2 w os D8
  have p8' : px8 (fw w b1 b2) os D8 = some x8 := p8
  have r8' : py8 (fw w b1 b2) os D8 = some y8 := r8
  have e9 := p9
  unfold px9 at e9
  rw [p8', r8'] at e9
  simp only [Option.bind_some] at e9
  refine goG (n := 39) (N := 11475) b1 b2 w (x := x9) e9 ?_
  have l9 := r9
  unfold py9 at l9
  rw [p9] at l9
  simp only [Option.bind_some] at l9
  refine loop_claim2 (N := 10641) c9 l9 o9 (by decide) (by decide) (by decide) (by decide) fun d82 k82 => ?_
  -- or
  let D9 : Nat → SD := upd D8 82 d82
  obtain ⟨x10, p10, c10, o10a, o10b, z10⟩ := g10 b1 b2 w os D9
  have p9' : px9 (fw w b1 b2) os D9 = some x9 := p9
  have r9' : py9 (fw w b1 b2) os D9 = some y9 := r9
  have e10 := p10
  unfold px10 at e10
  rw [p9', r9'] at e10
  simp only [Option.bind_some] at e10
  refine goG (n := 18) (N := 10623) b1 b2 w (x := x10) e10 ?_
  refine or_claim (N := 10553) (S := [32, 9]) (c := 10) (m := 7) c10 (by rw [z10]; decide) o10a o10b k78 k82 (.inl ⟨rfl, rfl⟩) (by decide) (by decide) fun d86 k86 => ?_
  rw [z10]
  -- 87
  let D10 : Nat → SD := upd D9 86 d86
  obtain ⟨x11, y11, p11, r11, c11, o11⟩ := g11 b1 b2 w os D10
  have p10' : px10 (fw w b1 b2) os D10 = some x10 := p10
  have e11 := p11
  unfold px11 at e11
  rw [p10'] at e11
  simp only [Option.bind_some] at e11
  refine goG (n := 62) (N := 10491) b1 b2 w (x := x11) e11 ?_
  have l11 := r11
  unfold py11 at l11
  rw [p11] at l11
  simp only [Option.bind_some] at l11
  refine loop_claim2 (N := 900) c11 l11 o11 (by decide) (by decide) (by decide) (by decide) fun d87 k87 => ?_
  let D11 : Nat → SD := upd D10 87 d87
  obtain ⟨xf, pf, q72, q87, hf⟩ := gf b1 b2 w os D11
  have p11' : px11 (fw w b1 b2) os D11 = some x11 := p11
  have r11' : py11 (fw w b1 b2) os D11 = some y11 := r11
  unfold pxf at pf
  rw [p11', r11'] at pf
  simp only [Option.bind_some] at pf
  exact ⟨xf, pf, hf, ⟨_, q72, k72⟩, ⟨_, q87, k87⟩⟩
end
end Mine
end
-- H17
noncomputable section
open PySem PySem.W PySem.Calls PyProof.Rows
namespace Mine
theorem boot_size (w : World) (os : OsState) : (boot0 w os).heap.objs.size = 11 := by kernel_rfl
theorem boot_ns (w : World) (os : OsState) : ((boot0 w os).heap.isNs mainGlobals && (boot0 w os).gens.size == 0) = true := by kernel_rfl
theorem boot_ann (w : World) (os : OsState) : (boot0 w os).heap.nsMap mainGlobals "__annotations__" = AN := by kernel_rfl
theorem opens (w : World) : ∃ os, fencedOpening treeTable PW w 40000 = some (boot0 w os) := by
  have h := boot_open (p := PW) (N := 40000) (by kernel_rfl) (by decide) (fun s => by rfl) w
  obtain ⟨s, hs, e⟩ := Option.map_eq_some_iff.mp h
  simp only [Prod.mk.injEq] at e
  obtain ⟨e1, e2, e3, e4⟩ := e
  obtain ⟨hp, g, d, k, os⟩ := s
  dsimp only at e1 e2 e3 e4
  subst e1 e2 e3 e4
  exact ⟨os, hs⟩
noncomputable def GoodW (w : World) (s : Shared) : Prop := openSeen V looseN (importedModules PW.main.body) XT false s = openGood V looseN ∧ asK.map s.heap.get? = (K w.params).map (fun p => some p.2) ∧ s.heap.get? 151 = some (tabObj #[]) ∧
  FzAt w s.heap 72 S72 ∧ FzAt w s.heap 87 hexes
theorem ends_fw (b1 b2 : Bool) (w : World) : ∃ s, openEnds treeTable PW (fw w b1 b2) 40000 = some s ∧ GoodW (fw w b1 b2) s := by
  obtain ⟨os, ho⟩ := opens (fw w b1 b2)
  obtain ⟨r, hr, hg, ⟨d72, q72, k72⟩, ⟨d87, q87, k87⟩⟩ := (top_ok b1 b2 w os).le (show 30289 ≤ 40000 by decide)
  unfold finR finE at hg
  simp only [Prod.mk.injEq] at hg
  obtain ⟨h1, h2, h3, h4, h5, h6⟩ := hg
  refine ⟨r, ?_, h1, h3, h4, ⟨_, _, _, q72, k72.1, k72.2⟩, ⟨_, _, _, q87, k87.1, k87.2⟩⟩
  unfold openEnds
  rw [ho, Option.bind_some]
  unfold topFrom
  rw [boot_ns, boot_size, boot_ann]
  dsimp only
  rw [hr, Option.bind_some, h2]
theorem fw_self (w : World) : fw w (w.params.followText "special-get-raises") ((w.withFollow "special-get-raises" (w.params.followText "special-get-raises")).params.followText "comprehension-iter-twice") = w := by
  unfold fw
  rw [World.withFollow_self, World.withFollow_self]
theorem ends (w : World) : ∃ s, openEnds treeTable PW w 40000 = some s ∧ GoodW w s := by
  have := ends_fw (w.params.followText "special-get-raises") ((w.withFollow "special-get-raises" (w.params.followText "special-get-raises")).params.followText "comprehension-iter-twice") w
  rwa [fw_self] at this
noncomputable def finHeap (w : World) : Heap := match openEnds treeTable PW w 40000 with
  | some s => s.heap
  | none => default
theorem left : LeftO PW V looseN XT (fun s => s.heap) finHeap 40000 false := fun w => by
  obtain ⟨s, hs, hg⟩ := ends w
  unfold finHeap
  rw [hs]
  show some (openSeen V looseN (importedModules PW.main.body) XT false s, s.heap) = some (openGood V looseN, s.heap)
  rw [hg.1]
noncomputable def YP (w : World) (h : Heap) : Prop := (K w.params).In h ∧ (∀ P ∈ ([151] : List Addr), h.get? P = some (tabObj #[])) ∧ FzAt w h 72 S72 ∧ FzAt w h 87 hexes
theorem yp_of (w : World) (s : Shared) (e : s.heap = finHeap w) : YP w s.heap := by
  obtain ⟨s1, hs, hg⟩ := ends w
  unfold finHeap at e
  rw [hs] at e
  dsimp only at e
  obtain ⟨g1, g2, g3, g4, g5⟩ := hg
  rw [e]
  exact ⟨InK.of asK_eq w s1 g2, fun P hP => by rw [List.mem_singleton.mp hP]; exact g3, g4, g5⟩
theorem FzAt.keeps {w : World} {h h' : Heap} {a : Addr} {S : List Nat} (x : FzAt w h a S) (k : ∀ b o, h.get? b = some o → h'.get? b = some o) : FzAt w h' a S :=
  let ⟨es, ep, t, a, b, c⟩ := x; ⟨es, ep, t, k _ _ a, b, c⟩
theorem yp_keeps (w : World) (h h' : Heap) (x : YP w h) (k : ∀ b o, h.get? b = some o → h'.get? b = some o) : YP w h' :=
  ⟨Frag.In.keeps x.1 k, fun P hP => k _ _ (x.2.1 P hP), x.2.2.1.keeps k, x.2.2.2.keeps k⟩
end Mine
end
-- W1
noncomputable section
open PySem PySem.W PySem.Spec PySem.Calls PyProof.Rows
namespace Mine
abbrev LG : List PySem.Str := Mine.looseN ++ (recsOf Mine.V).map (·.name) ++ (litsOf Mine.V).map (·.1) ++ (clssOf Mine.V Mine.looseN).map (·.name)
section
variable {prog : Program} {w : World} {A : Around} {E : Value → Shared → Prop} {s : Shared}
theorem fieldStr {x : Str} {t : Tok} {Q : Value → Shared → Prop} (h : ∀ t' k, Q (.str x t') { s with toks := k }) (hx : x.length ≤ sizeLine) :
    wpAny (model prog w) A (formatField (.str x t) Str.empty) Q E s :=
  wpAny_formatField_str (h t s.toks) (h _ _) hx
theorem joinNil {env : Env} {out : Str} {Q : Value → Shared → Prop} (hsz : out.length ≤ sizeLine) (h : ∀ t' k, Q (.str out t') { s with toks := k }) : wpAny (model prog w) A (joinParts out (evalEach [] env)) Q E s := joinParts_nilE (joinParts_nil (h _ _) hsz)
end
theorem recLim_is : recursionLimit = 1000 := rfl
noncomputable def Sz (x : Str) (n : Nat) : Prop := x.length ≤ 10000 * n
theorem sz_app {a b : Str} {i j : Nat} (h : Sz a i) (k : Sz b j) : Sz (a ++ b) (i + j) := by unfold Sz at *; rw [Str.length_append]; omega
theorem sz_leaf {a : Str} (h : a.length ≤ 10000) : Sz a 1 := by unfold Sz; omega
theorem sz_lit {a : String} (h : Nat.ble (Str.ofString a).length 10000 = true) : Sz (Str.ofString a) 1 := sz_leaf (Nat.le_of_ble_eq_true h)
theorem sz_empty : Sz Str.empty 0 := Nat.le_refl 0
theorem sz_top {x : Str} {n : Nat} (h : Sz x n) (k : Nat.ble n 1600 = true) : x.length ≤ sizeLine := by
  have := Nat.le_of_ble_eq_true k; unfold Sz at h; rw [sizeLine_eq]; omega
abbrev kTop (hd : Option Value) (dp un : Nat) (gd : Option (List Code)) (cn : Str) (cs : Scope) (L a : Addr) (ccd : Value) (cl : List (Str × Addr)) (outer : List Env) : Around := { handled := hd, depth := dp, frames := some (envX cn cs L a ccd cl :: outer), guards := gd, units := un }
noncomputable def FzB (w : World) (h : Heap) : Prop := FzAt w h 72 S72 ∧ FzAt w h 87 hexes ∧ (K w.params).In h ∧ ∃ mean mg mb, Top topProg LG mean mg mb h
/-- What a def says: whoever calls it, with room for d frames more. -/
abbrev CbAt (hd : Option Value) (w : World) (mean : ExcName → Option Value) (mg mb : Str → Option Value) (d : Nat) (f : Addr) (news : List (Addr × Obj)) (vs : List Value) (Ret : Heap → List Env → Heap → Addr → (Str → Option Value) → Shared → (Value → Shared → Prop) → (Value → Shared → Prop) → Prop) : Prop :=
  ∀ (dp un : Nat) (gd : Option (List Code)) (cn : Str) (cs : Scope) (a : Addr) (ccd : Value) (cl : List (Str × Addr)) (outer : List Env) (A₀ : Around) (base h₀ : Heap) (L : Addr) (m : Str → Option Value) (s : Shared) (Q E : Value → Shared → Prop),
    Below A₀ base outer h₀ → FzB w base → Fr h₀ L s.heap m → (K w.params).In h₀ → News h₀ L s.heap news → Top topProg LG mean mg mb h₀ → cs.kind = .function →
    dp + d < recursionLimit → un + 20 * d < cLine → Ret base (envX cn cs L a ccd cl :: outer) h₀ L m s Q E → wpAny (model PySem.Challenge.pw_io0022_01 w) (kTop hd dp un gd cn cs L a ccd cl outer) (call (.ref f) vs) Q E s
/-- It gives back R, and the ledger is what it was. -/
abbrev RetV (news : List (Addr × Obj)) (R : Tok → Value) (_base : Heap) (_out : List Env) (h₀ : Heap) (L : Addr) (m : Str → Option Value) (s : Shared) (Q _E : Value → Shared → Prop) : Prop :=
  ∀ (t : Tok) (h' : Heap) (tk' : Nat), Fr h₀ L h' m → News h₀ L h' news → Q (R t) { s with heap := h', toks := tk' }
abbrev Cb := CbAt none
theorem cb_go {w : World} {mean : ExcName → Option Value} {mg mb : Str → Option Value} {d : Nat} {f : Addr} {news : List (Addr × Obj)} {vs : List Value} {Ret : Heap → List Env → Heap → Addr → (Str → Option Value) → Shared → (Value → Shared → Prop) → (Value → Shared → Prop) → Prop}
    {hd : Option Value} {dp un : Nat} {gd : Option (List Code)} {cn : Str} {cs : Scope} {a : Addr} {ccd : Value} {cl : List (Str × Addr)} {outer : List Env} {A₀ : Around} {base h₀ : Heap} {L : Addr} {m : Str → Option Value} {s : Shared} {Q E : Value → Shared → Prop}
    (C : CbAt hd w mean mg mb d f news vs Ret) (k1 : Below A₀ base outer h₀) (kz : FzB w base) (k2 : Fr h₀ L s.heap m) (k3 : (K w.params).In h₀) (k4 : News h₀ L s.heap news) (k5 : Top topProg LG mean mg mb h₀) (kK : cs.kind = .function) (kd : dp + d < recursionLimit) (ku : un + 20 * d < cLine)
    (kR : Ret base (envX cn cs L a ccd cl :: outer) h₀ L m s Q E) : wpAny (model PySem.Challenge.pw_io0022_01 w) (kTop hd dp un gd cn cs L a ccd cl outer) (call (.ref f) vs) Q E s :=
  C dp un gd cn cs a ccd cl outer A₀ base h₀ L m s Q E k1 kz k2 k3 k4 k5 kK kd ku kR
theorem cb_gq {w : World} {mean : ExcName → Option Value} {mg mb : Str → Option Value} {d : Nat} {f : Addr} {news : List (Addr × Obj)} {vs : List Value} {Ret : Heap → List Env → Heap → Addr → (Str → Option Value) → Shared → (Value → Shared → Prop) → (Value → Shared → Prop) → Prop}
    {hd : Option Value} {dp un : Nat} {gd : Option (List Code)} {cn : Str} {cs : Scope} {a : Addr} {ccd : Value} {cl : List (Str × Addr)} {outer : List Env} {A₀ : Around} {base h₀ : Heap} {L : Addr} {m : Str → Option Value} {s : Shared} {Q E : Value → Shared → Prop}
    (C : CbAt hd w mean mg mb d f news vs Ret) (kR : Ret base (envX cn cs L a ccd cl :: outer) h₀ L m s Q E) (k1 : Below A₀ base outer h₀ := by k_asm) (kz : FzB w base := by assumption) (k2 : Fr h₀ L s.heap m := by k_asm) (k3 : (K w.params).In h₀ := by k_asm) (k4 : News h₀ L s.heap news := by k_asm) (k5 : Top topProg LG mean mg mb h₀ := by k_asm) (kK : cs.kind = .function := by rfl) (kd : dp + d < recursionLimit := by k_room) (ku : un + 20 * d < cLine := by k_units) :
    wpAny (model PySem.Challenge.pw_io0022_01 w) (kTop hd dp un gd cn cs L a ccd cl outer) (call (.ref f) vs) Q E s :=
  C dp un gd cn cs a ccd cl outer A₀ base h₀ L m s Q E k1 kz k2 k3 k4 k5 kK kd ku kR
end Mine
end
-- W2
noncomputable section
open PySem PySem.W PySem.Spec PySem.Calls PyProof.Rows
namespace Mine
section
variable {prog : Program} {w : World} {A : Around} {E : Value → Shared → Prop} {s : Shared}
open PySem.Builtin PySem.Builtin.Str in
theorem count4 {x y : Str} {i j : Int} {t u v v2 : Tok} {Q : Value → Shared → Prop} (h : ∀ t' k, Q (.int (occurrences x y (fromIndex x.length i) (min (fromIndex x.length j) x.length) (x.length + 1)).length t') { s with toks := k }) :
    wpAny (model prog w) A (call (.builtin "str.count") [.str x t, .str y u, .int i v, .int j v2]) Q E s :=
  call_gives F.slot_str_count (typeIs_str _ _ _) F.entry_str_count (F.args_str_count_4 _ _ _ _) (m := .int (occurrences x y (fromIndex x.length i) (min (fromIndex x.length j) x.length) (x.length + 1)).length) (.of_eq rfl) (h _ _)
open PySem.Builtin PySem.Builtin.Str in
theorem rindex4 {x y : Str} {i j : Int} {n : Nat} {t u v v2 : Tok} {Q : Value → Shared → Prop} (hl : lastOccurrence x y (fromIndex x.length i) (min (fromIndex x.length j) x.length) = some n) (h : ∀ t' k, Q (.int n t') { s with toks := k }) :
    wpAny (model prog w) A (call (.builtin "str.rindex") [.str x t, .str y u, .int i v, .int j v2]) Q E s := by
  refine call_gives F.slot_str_rindex (typeIs_str _ _ _) F.entry_str_rindex (F.args_str_rindex_4 _ _ _ _) (m := .int n) ?_ (h _ _)
  show Gives (match lastOccurrence x y (fromIndex x.length i) (min (fromIndex x.length j) x.length) with | some i => retInt i | none => (do rule "str.rindex.not-found"; raiseError "ValueError" "substring not found")) _
  rw [hl]
  exact .of_eq rfl
end
/-- An object of the project's own error is made. -/
theorem newErr {w : World} {prog : Program} {A : Around} {E : Value → Shared → Prop} {s : Shared} {h₀ : Heap} {L : Addr} {m : Str → Option Value} {vs : List Value} {Q : Value → Shared → Prop} (F : Fr h₀ L s.heap m) (X : (K w.params).In h₀) (hl : vs.length ≤ 100)
    (hq : ∀ h' e, Heap.MadeExcOf s.heap h' e (.ref 103) vs → Q (.ref e) { s with heap := h' }) : wpAny (model prog w) A (call (.ref 103) vs) Q E s := by
  have X' := Frag.In.keeps X F.keep
  have hC := X' 103 (excClassObj (Str.ofString "TOMLDecodeError") (Str.ofString "TOMLDecodeError") 103 102 [.type "ValueError"] [.type "ValueError", .type "Exception", .type "BaseException", .type "object"] true [] [] false none none (some (.ref 94)) none (some (.str (Str.ofString "TOMLDecodeError") 480)) (some (.str (Str.ofString "TOMLDecodeError") 488)) (some (.bool true)) "ValueError.__new__") (by kernel_rfl)
  have hN : s.heap.isNs 102 = true := isNs_of_in X' (by kernel_rfl)
  have hi := nsMap_none_of_in (x := Str.ofString "__init__") X' (show nsOkIn (K w.params) 102 = true by kernel_rfl) (by kernel_rfl)
  exact wpAny_call_exc_sub PySem.F.excBase_ValueError hC (.of_isNs hN) hi hq (by rw [sizeLine_eq]; omega)
noncomputable def lineNo (src : Str) (pos : Nat) : Int := (src.cps.toList.take pos).count 10 + 1
noncomputable def colNo (src : Str) (pos : Nat) : Int := ((src.cps.toList.take pos).reverse.takeWhile (· != 10)).length + 1
noncomputable def errText (src : Str) (pos : Nat) (msg : Str) : Str := msg ++ Str.ofString " (at line " ++ Str.ofString (toString (lineNo src pos)) ++ Str.ofString ", column " ++ Str.ofString (toString (colNo src pos)) ++ Str.ofString ")"
theorem from_zero (n : Nat) : fromIndex n 0 = 0 := rfl
theorem from_nat (n pos : Nat) : fromIndex n (pos : Int) = pos := by
  unfold fromIndex
  rw [if_neg (by omega)]; omega
theorem nl_eq : Str.ofString "\n" = ⟨#[10]⟩ := by kernel_rfl
open PySem.Builtin.Str in
theorem cnt_nl {src : Str} {pos : Nat} (h : pos < src.length) : ((occurrences src (Str.ofString "\n") (fromIndex src.length 0) (min (fromIndex src.length (pos : Int)) src.length) (src.length + 1)).length : Int) + 1 = lineNo src pos := by
  rw [from_zero, from_nat, nl_eq, Nat.min_eq_left (Nat.le_of_lt h), occ_take src 10 pos _ (Nat.le_of_lt h) (Nat.le_refl _)]
  rfl
theorem line_one {src : Str} {pos : Nat} (h : pos < src.length) (h1 : lineNo src pos = 1) : (pos : Int) + 1 = colNo src pos := by
  unfold lineNo at h1
  unfold colNo
  rw [noNl_col src 10 pos (Nat.le_of_lt h) (by omega)]
open PySem.Builtin.Str in
theorem rindexNl {prog : Program} {w : World} {A : Around} {E : Value → Shared → Prop} {s : Shared} {src : Str} {pos : Nat} {t u v v2 : Tok} {Q : Value → Shared → Prop} (hp : pos < src.length) (hc : lineNo src pos ≠ 1)
    (h : ∀ (n : Nat) t' k, (pos : Int) - n = colNo src pos → n < pos → Q (.int n t') { s with toks := k }) :
    wpAny (model prog w) A (call (.builtin "str.rindex") [.str src t, .str (Str.ofString "\n") u, .int 0 v, .int pos v2]) Q E s := by
  unfold lineNo at hc
  obtain ⟨k, h1, h2⟩ := lastN_col src 10 pos (Nat.le_of_lt hp) (by omega)
  refine rindex4 (n := k) ?_ fun t' j => h k t' j ?_ (by omega)
  · rw [from_zero, from_nat, nl_eq, Nat.min_eq_left (Nat.le_of_lt hp), last_take, h1]
  · unfold colNo; omega
theorem line_le (src : Str) (pos : Nat) : 1 ≤ lineNo src pos ∧ lineNo src pos ≤ pos + 1 := by
  unfold lineNo
  have h1 := List.count_le_length (a := 10) (l := src.cps.toList.take pos)
  rw [List.length_take] at h1
  omega
theorem countNl {prog : Program} {w : World} {A : Around} {E : Value → Shared → Prop} {s : Shared} {src : Str} {pos : Nat} {t u v v2 : Tok} {Q : Value → Shared → Prop} (hp : pos < src.length)
    (h : ∀ t' k, 1 ≤ lineNo src pos → lineNo src pos ≤ pos + 1 → Q (.int (lineNo src pos - 1) t') { s with toks := k }) :
    wpAny (model prog w) A (call (.builtin "str.count") [.str src t, .str (Str.ofString "\n") u, .int 0 v, .int pos v2]) Q E s := by
  refine count4 fun t' k => ?_
  have := h t' k (line_le src pos).1 (line_le src pos).2
  rw [← cnt_nl hp, Int.add_sub_cancel] at this
  exact this
theorem shown_lt {a : Int} (h : a.natAbs < 2 ^ 62) : a.natAbs.log2 < 1920 := by
  by_cases h0 : a.natAbs = 0
  · rw [h0]; decide
  · exact Nat.lt_of_lt_of_le ((Nat.log2_lt h0).mpr h) (by decide)
theorem fieldInt {prog : Program} {w : World} {A : Around} {E : Value → Shared → Prop} {s : Shared} {a : Int} {t : Tok} {Q : Value → Shared → Prop} (h1 : -2000000 ≤ a) (h2 : a ≤ 2000000)
    (h : ∀ t' k, Q (.str (Str.ofString (toString a)) t') { s with toks := k }) : wpAny (model prog w) A (formatField (.int a t) Str.empty) Q E s :=
  wpAny_formatField_int (shown_lt (by omega)) (h _ _)
theorem sz_int {a : Int} (h1 : -2000000 ≤ a) (h2 : a ≤ 2000000) : Sz (Str.ofString (toString a)) 1 := sz_leaf (Nat.le_trans (int_text_len_1921 (shown_lt (by omega))) (by decide))
theorem errText_eq {src msg : Str} {pos : Nat} {l c : Int} (hl : l = lineNo src pos) (hc : c = colNo src pos) :
  Str.empty ++ msg ++ Str.ofString " (at " ++ (Str.empty ++ Str.ofString "line " ++ Str.ofString (toString l) ++ Str.ofString ", column " ++ Str.ofString (toString c)) ++ Str.ofString ")" = errText src pos msg := by
  subst hl hc
  unfold errText
  rw [show Str.ofString " (at line " = Str.ofString " (at " ++ Str.ofString "line " by kernel_rfl]
  simp only [Str.empty_append, Str.append_assoc]
abbrev EO (t : Addr) : Obj := { cls := .ref 103, data := .fields #[.ref t, .none, .none, .none, .bool false, .none] }
abbrev TO (vs : List Value) : Obj := { cls := .type "tuple", data := .seq vs.toArray }
theorem newErrN {w : World} {prog : Program} {A : Around} {E : Value → Shared → Prop} {s : Shared} {h₀ : Heap} {L : Addr} {m : Str → Option Value} {vs : List Value} {news : List (Addr × Obj)} {Q : Value → Shared → Prop} (F : Fr h₀ L s.heap m) (N : News h₀ L s.heap news) (X : (K w.params).In h₀) (hl : vs.length ≤ 100)
    (hq : ∀ h' e t, Fr h₀ L h' m → News h₀ L h' ((e, EO t) :: (t, TO vs) :: news) → e ≠ t → (∀ p ∈ news, p.1 ≠ e ∧ p.1 ≠ t) → Q (.ref e) { s with heap := h' }) : wpAny (model prog w) A (call (.ref 103) vs) Q E s := by
  refine newErr F X hl fun h' e hm => ?_
  obtain ⟨k, hn, t, h1, h2, h3⟩ := hm
  have hL : s.heap.get? L ≠ none := by
    obtain ⟨o, es, ep, e, _⟩ := F.ns
    rw [e]; nofun
  have old : ∀ b, s.heap.get? b = none → h₀.get? b = none := fun b hb => by
    cases q : h₀.get? b with
    | none => rfl
    | some o => rw [F.keep b o q] at hb; cases hb
  refine hq h' e t ⟨let ⟨o, es, ep, e, r⟩ := F.ns; ⟨o, es, ep, k _ _ e, r⟩, fun b o e => k b o (F.keep b o e), F.above⟩ (fun p hp => ?_) (fun q => ?_) fun p hp => ⟨fun q => ?_, fun q => ?_⟩
  · rcases List.mem_cons.mp hp with rfl | hp
    · exact ⟨h1, fun q => by rw [show (e, EO t).1 = e from rfl] at q; rw [q] at hn; exact hL hn, old _ hn⟩
    · rcases List.mem_cons.mp hp with rfl | hp
      · exact ⟨h3, fun q => by rw [show (t, TO vs).1 = t from rfl] at q; rw [q] at h2; exact hL h2, old _ h2⟩
      · exact ⟨k _ _ (N p hp).1, (N p hp).2⟩
  · rw [q, h3] at h1
    cases h1
  · have := (N p hp).1; rw [q, hn] at this; cases this
  · have := (N p hp).1; rw [q, h2] at this; cases this
noncomputable def qualCR : Str := Str.ofString "suffixed_err.<locals>.coord_repr"
abbrev tab1 (c' : Addr) : Obj := tabObj (#[] ++ #[rawInt 101, rawInt 4, .ref c'])
/-- The part of the ledger that keeps the code of the inner def: not made yet, or made. -/
noncomputable def LedOk (l : List (Addr × Obj)) : Prop := l = [(151, tabObj #[])] ∨ ∃ c' oc vs t, l = [(151, tab1 c'), (c', oc)] ∧ oc.data = .fields vs ∧ vs[1]? = some (.str qualCR t)
noncomputable def LedIn (news nw : List (Addr × Obj)) : Prop := ∃ led, LedOk led ∧ nw = led ++ news
abbrev RetErr (news : List (Addr × Obj)) (text : Str) (_base : Heap) (_out : List Env) (h₀ : Heap) (L : Addr) (m : Str → Option Value) (s : Shared) (Q _E : Value → Shared → Prop) : Prop :=
  ∀ e t tk h' tk' nw', LedIn news nw' → Fr h₀ L h' m → News h₀ L h' ((e, EO t) :: (t, TO [.str text tk]) :: nw') → e ≠ t → (∀ p ∈ nw', p.1 ≠ e ∧ p.1 ≠ t) → Q (.ref e) { s with heap := h', toks := tk' }
theorem err_end1 {news : List (Addr × Obj)} {text text' : Str} {h₀ h' : Heap} {L e t f c' : Addr} {tk tk' tq : Tok} {m : Str → Option Value} {s : Shared} {Q : Value → Shared → Prop} {fo oc : Obj} {vs : Array Value}
    (hret : ∀ e t tk h' tk' nw', LedIn news nw' → Fr h₀ L h' m → News h₀ L h' ((e, EO t) :: (t, TO [.str text tk]) :: nw') → e ≠ t → (∀ p ∈ nw', p.1 ≠ e ∧ p.1 ≠ t) → Q (.ref e) { s with heap := h', toks := tk' })
    (F : Fr h₀ L h' m) (N : News h₀ L h' ((e, EO t) :: (t, TO [.str text' tk]) :: (f, fo) :: (c', oc) :: (151, tab1 c') :: news)) (hd : oc.data = .fields vs) (hv : vs[1]? = some (.str qualCR tq))
    (hne : e ≠ t) (D : ∀ p ∈ (f, fo) :: (c', oc) :: (151, tab1 c') :: news, p.1 ≠ e ∧ p.1 ≠ t) (ht : text' = text) : Q (.ref e) { s with heap := h', toks := tk' } := by
  subst ht
  have sub : ∀ p ∈ [(151, tab1 c'), (c', oc)] ++ news, p ∈ (f, fo) :: (c', oc) :: (151, tab1 c') :: news := fun p hp => by
    simp only [List.cons_append, List.nil_append, List.mem_cons] at hp ⊢
    rcases hp with h | h | h <;> simp [h]
  refine hret e t tk h' tk' _ ⟨_, .inr ⟨c', oc, vs, tq, rfl, hd, hv⟩, rfl⟩ F (fun p hp => ?_) hne fun p hp => D p (sub p hp)
  rcases List.mem_cons.mp hp with rfl | hp
  · exact N _ (.head _)
  · rcases List.mem_cons.mp hp with rfl | hp
    · exact N _ (.tail _ (.head _))
    · exact N _ (.tail _ (.tail _ (sub _ hp)))
theorem err_end2 {news : List (Addr × Obj)} {text text' : Str} {h₀ h' : Heap} {L e t f c' : Addr} {tk tk' tq : Tok} {m : Str → Option Value} {s : Shared} {Q : Value → Shared → Prop} {fo oc : Obj} {vs : Array Value}
    (hret : ∀ e t tk h' tk' nw', LedIn news nw' → Fr h₀ L h' m → News h₀ L h' ((e, EO t) :: (t, TO [.str text tk]) :: nw') → e ≠ t → (∀ p ∈ nw', p.1 ≠ e ∧ p.1 ≠ t) → Q (.ref e) { s with heap := h', toks := tk' })
    (F : Fr h₀ L h' m) (N : News h₀ L h' ((e, EO t) :: (t, TO [.str text' tk]) :: (f, fo) :: (151, tab1 c') :: (c', oc) :: news)) (hd : oc.data = .fields vs) (hv : vs[1]? = some (.str qualCR tq))
    (hne : e ≠ t) (D : ∀ p ∈ (f, fo) :: (151, tab1 c') :: (c', oc) :: news, p.1 ≠ e ∧ p.1 ≠ t) (ht : text' = text) : Q (.ref e) { s with heap := h', toks := tk' } := by
  have sub : ∀ p ∈ (f, fo) :: (c', oc) :: (151, tab1 c') :: news, p ∈ (f, fo) :: (151, tab1 c') :: (c', oc) :: news := fun p hp => by
    simp only [List.mem_cons] at hp ⊢
    rcases hp with h | h | h | h <;> simp [h]
  refine err_end1 (tk := tk) hret F (fun p hp => ?_) hd hv hne (fun p hp => D p (sub p hp)) ht
  rcases List.mem_cons.mp hp with rfl | hp
  · exact N _ (.head _)
  · rcases List.mem_cons.mp hp with rfl | hp
    · exact N _ (.tail _ (.head _))
    · exact N _ (.tail _ (.tail _ (sub _ hp)))
theorem unr_end {h₀ : Heap} {L I : Addr} {it : Obj} {rest : (Str → Option Value) → List (Addr × Obj) → Prop} {s₁ : Shared} {h' : Heap} {tk : Nat} {m' : Str → Option Value} {news' : List (Addr × Obj)} (F : Fr h₀ L h' m') (N : News h₀ L h' ((I, it) :: news'))
    (lt : ∀ p ∈ news', p.1 < I) (r : rest m' news') : UnrEnd h₀ L s₁ I it rest { s₁ with heap := h', toks := tk } :=
  UnrEnd.intro F N news' (fun _ h => h) (fun p hp => Nat.ne_of_lt (lt p hp)) r
/-- The project's own error flies, with that text. -/
abbrev FlyT (news : List (Addr × Obj)) (text : Str) (base : Heap) (out : List Env) (h₀ : Heap) (L : Addr) (m : Str → Option Value) (s : Shared) (E : Value → Shared → Prop) : Prop :=
  ∀ e t tk h' tk' nw', LedIn news nw' → (∃ g, Fr h₀ L g m ∧ g.UpToSlots h') → RaisedK base out e (.ref 103) t [.str text tk] nw' h' → E (.ref e) { s with heap := h', toks := tk' }
noncomputable def RaiseQ (E : Value → Shared → Prop) (v : Value) (s₁ : Shared) : Prop :=
  ∃ e t, v = .ref e ∧ s₁.heap.get? 103 = some (excClassObj (Str.ofString "TOMLDecodeError") (Str.ofString "TOMLDecodeError") 103 102 [.type "ValueError"] [.type "ValueError", .type "Exception", .type "BaseException", .type "object"] true [] [] false none none (some (.ref 94)) none (some (.str (Str.ofString "TOMLDecodeError") 480)) (some (.str (Str.ofString "TOMLDecodeError") 488)) (some (.bool true)) "ValueError.__new__") ∧
    s₁.heap.get? e = some (EO t) ∧ E (.ref e) s₁
theorem raise_go {M : Model} {A : Around} {E : Value → Shared → Prop} {s : Shared} {env : Env} {x : Expr} {pos : Pos} {Q : Flow → Shared → Prop} (hh : A.handled = none) (h : wpAny M A (eval x env) (RaiseQ E) E s) :
    wpAny M A (exec (.Raise (some x) none pos) env) Q E s := by
  rw [arm_exec_Raise]
  simp only [evalOpt, Option.map]
  refine wpAny_bind (wpAny_standAt (wpAny_raiseStmt_made_sub (nm := Str.ofString "TOMLDecodeError") (q := Str.ofString "TOMLDecodeError") (bs := [.type "ValueError"]) (hdct := true) (sn := []) (sub := []) (ab := false) (col := none) (dd := none) (k0 := some (.ref 94)) (k1 := none) (k2 := some (.str (Str.ofString "TOMLDecodeError") 480)) (k3 := some (.str (Str.ofString "TOMLDecodeError") 488)) (k5 := some (.bool true)) (newId := "ValueError.__new__") (C := 103) (bm := [.type "ValueError", .type "Exception", .type "BaseException", .type "object"]) (N := 102) (by decide +kernel) hh (wpAny_bind (wpAny_mono h (fun v s₁ h₁ => wpAny_bind (wpAny_standAt (wpAny_pure ?_))) fun _ _ x => x))))
  obtain ⟨e, t, a, b, c, d⟩ := h₁
  exact ⟨e, t, a, b, c, d⟩
theorem raiseQ_mk {w : World} {E : Value → Shared → Prop} {e t : Addr} {s : Shared} {h₀ : Heap} {L : Addr} {m : Str → Option Value} {nw : List (Addr × Obj)} (F : Fr h₀ L s.heap m) (X : (K w.params).In h₀) (N : News h₀ L s.heap ((e, EO t) :: nw)) (h : E (.ref e) s) : RaiseQ E (.ref e) s :=
  ⟨e, t, rfl, Frag.In.keeps X F.keep 103 _ (by kernel_rfl), (N _ (.head _)).1, h⟩
theorem leave_err {M : Model} {A : Around} {E : Unit → Shared → Prop} {E' : Value → Shared → Prop} {s' : Shared} {base g : Heap} {outer : List Env} {L a e t : Addr} {m : Str → Option Value} {name : Str} {scope : Scope} {cd : Value} {nw : List (Addr × Obj)} {vs : List Value}
    (B : Below A base outer g) (F : Fr g L s'.heap m) (N : News g L s'.heap ((e, EO t) :: (t, TO vs) :: nw)) (hne : e ≠ t) (D : ∀ p ∈ nw, p.1 ≠ e ∧ p.1 ≠ t)
    (h : ∀ h' t', RaisedK base outer e (.ref 103) t' vs nw h' → g.UpToSlots h' → E () { s' with heap := h' }) (hk : scope.kind = .function := by rfl) :
    wpAny M (A.deeper (envOf name scope L a cd)) (leaving (envOf name scope L a cd) (.ref e)) E E' s' := by
  have n1 := N _ (.head _)
  have n2 := N _ (.tail _ (.head _))
  have hin : ∀ b, (b ≠ e ∧ b ≠ t) → ∀ o, s'.heap.get? b = some o → (hideAll s'.heap [e, t]).get? b = some o := fun b hb o q => hideAll_get _ q (by simp [hb.1, hb.2])
  have ge : ∀ b o, g.get? b = some o → b ≠ e ∧ b ≠ t := fun b o q => ⟨fun z => (by rw [z] at q; rw [n1.2.2] at q; cases q), fun z => (by rw [z] at q; rw [n2.2.2] at q; cases q)⟩
  have hx : Heap.MadeExcOf (hideAll s'.heap [e, t]) s'.heap e (.ref 103) vs := ⟨fun b o q => of_hideAll _ q, hideAll_none _ (.head _), t, n1.1, hideAll_none _ (.tail _ (.head _)), n2.1⟩
  have F' : Fr g L (hideAll s'.heap [e, t]) m := ⟨let ⟨o, es, ep, q, r⟩ := F.ns; ⟨o, es, ep, hin L ⟨n1.2.1.symm, n2.2.1.symm⟩ _ q, r⟩, fun b o q => hin b (ge b o q) o (F.keep b o q), F.above⟩
  have N' : News g L (hideAll s'.heap [e, t]) nw := fun p hp => by
    have n := N p (.tail _ (.tail _ hp))
    exact ⟨hin _ (D p hp) _ n.1, n.2⟩
  exact leave_raiseK B hx F' N' (fun h' t' R st => h h' t' R st) hk
end Mine
end
-- W2b
noncomputable section
open PySem PySem.W PySem.Spec PySem.Calls PyProof.Rows
namespace Mine
theorem ite_yes {c : Prop} [Decidable c] {a b : Prop} (h : c) (k : a) : ite c a b := by rw [if_pos h]; exact k
theorem ite_no {c : Prop} [Decidable c] {a b : Prop} (h : ¬c) (k : b) : ite c a b := by rw [if_neg h]; exact k
theorem js_1 (c way : Nat) : Str.ofString "\\u" ++ figS (c : Int).toNat ((way : Int).fdiv 3).toNat 4 = Str.ofString "\\u" ++ figS c (way / 3) 4 := by
  rw [show ((way : Int).fdiv 3) = ((way / 3 : Nat) : Int) from fdiv_nat way 3]
  rfl
theorem js_2 {c way : Nat} (hc : ¬ c < 65536) : Str.ofString "\\u" ++ figS (55296 + ((c : Int) - 65536).fdiv 1024).toNat ((way : Int).fdiv 3).toNat 4 ++ Str.ofString "\\u" ++ figS (56320 + ((c : Int) - 65536).fmod 1024).toNat ((way : Int).fdiv 48).toNat 4 =
    Str.ofString "\\u" ++ figS (55296 + (c - 65536) / 1024) (way / 3) 4 ++ Str.ofString "\\u" ++ figS (56320 + (c - 65536) % 1024) (way / 48) 4 := by
  rw [show ((way : Int).fdiv 3) = ((way / 3 : Nat) : Int) from fdiv_nat way 3, show ((way : Int).fdiv 48) = ((way / 48 : Nat) : Int) from fdiv_nat way 48,
    show ((c : Int) - 65536) = ((c - 65536 : Nat) : Int) by omega, show (((c - 65536 : Nat) : Int).fdiv 1024) = (((c - 65536) / 1024 : Nat) : Int) from fdiv_nat _ 1024, show (((c - 65536 : Nat) : Int).fmod 1024) = (((c - 65536) % 1024 : Nat) : Int) from fmod_nat _ 1024]
  rfl
/-- _law_mended's answer: a list of the states, the words, the mended text. -/
abbrev stL (p : Str) (k : Int) (t1 t2 : Tok) : Obj := W.listOf #[.str p t1, .int k t2] 0
abbrev RetL1 (news : List (Addr × Obj)) (piece : Str) (step : Int) (words mended : Str) (_base : Heap) (_out : List Env) (h₀ : Heap) (L : Addr) (m : Str → Option Value) (s : Shared) (Q _E : Value → Shared → Prop) : Prop :=
  ∀ (l l1 l2 : Addr) (t1 t2 t3 t4 : Tok) (h' : Heap) (tk' : Nat), Fr h₀ L h' m → News h₀ L h' ((l, W.listOf #[.ref l1, .str words t3, .str mended t4] 0) :: (l1, W.listOf #[.ref l2] 0) :: (l2, stL piece step t1 t2) :: news) → l2 < l1 → l1 < l → (∀ p ∈ news, p.1 < l2) → Q (.ref l) { s with heap := h', toks := tk' }
abbrev RetL0 (news : List (Addr × Obj)) (mended : Str) (_base : Heap) (_out : List Env) (h₀ : Heap) (L : Addr) (m : Str → Option Value) (s : Shared) (Q _E : Value → Shared → Prop) : Prop :=
  ∀ (l l1 : Addr) (t3 t4 : Tok) (h' : Heap) (tk' : Nat), Fr h₀ L h' m → News h₀ L h' ((l, W.listOf #[.ref l1, .str (Str.ofString "") t3, .str mended t4] 0) :: (l1, W.listOf #[] 0) :: news) → l1 < l → (∀ p ∈ news, p.1 < l1) → Q (.ref l) { s with heap := h', toks := tk' }
abbrev RetL4 (news : List (Addr × Obj)) (p1 p2 p3 p4 : Str) (words mended : Str) (_base : Heap) (_out : List Env) (h₀ : Heap) (L : Addr) (m : Str → Option Value) (s : Shared) (Q _E : Value → Shared → Prop) : Prop :=
  ∀ (l l0 l1 l2 l3 l4 : Addr) (t1 t2 t3 t4 u1 u2 u3 u4 v1 v2 : Tok) (h' : Heap) (tk' : Nat), Fr h₀ L h' m →
    News h₀ L h' ((l, W.listOf #[.ref l0, .str words v1, .str mended v2] 0) :: (l0, W.listOf #[.ref l1, .ref l2, .ref l3, .ref l4] 0) :: (l4, stL p4 10 t4 u4) :: (l3, stL p3 6 t3 u3) :: (l2, stL p2 6 t2 u2) :: (l1, stL p1 6 t1 u1) :: news) →
    l1 < l2 → l2 < l3 → l3 < l4 → l4 < l0 → l0 < l → (∀ p ∈ news, p.1 < l1) → Q (.ref l) { s with heap := h', toks := tk' }
end Mine
end
-- W3
noncomputable section
open PySem PySem.W PySem.Spec PySem.Calls PyProof.Rows
namespace Mine
abbrev inS (S : List Nat) (y : Str) : Bool := decide (y ∈ S.map one)
theorem isStrOf_one (c : Nat) (t : Tok) : Value.isStrOf (one c) (.str (one c) t) = true := by simp [Value.isStrOf]
theorem isStrOf_eq {c : Nat} {k : Str} {t : Tok} (h : Value.isStrOf k (.str (one c) t) = true) : one c = k := by
  simp only [Value.isStrOf, beq_iff_eq] at h
  exact h
theorem froz_of {prog : Program} {w : World} {h : Heap} {a : Addr} {S : List Nat} (x : FzAt w h a S) : FrozAt (strKind prog w) h a (inS S) S.length := by
  obtain ⟨es, ep, t, hg, hf, hh⟩ := x
  refine ⟨es, ep, t, hg, ?_, ?_, hh.size, hf⟩
  · intro e he
    obtain ⟨q, hq, rfl⟩ := hh.mem he
    exact ⟨⟨one q.1, isStrOf_one _ q.2, rfl⟩, rfl⟩
  · intro k
    unfold inS
    rw [decide_eq_true_eq, List.mem_map]
    constructor
    · rintro ⟨c, hc, rfl⟩
      obtain ⟨tk, ht⟩ := hh.of_mem hc
      exact ⟨_, ht, isStrOf_one _ tk⟩
    · rintro ⟨e, he, hk⟩
      obtain ⟨q, hq, rfl⟩ := hh.mem he
      refine ⟨q.1, hq, ?_⟩
      exact isStrOf_eq (t := q.2) hk
section
variable {prog : Program} {w : World} {A : Around} {E : Value → Shared → Prop} {s : Shared}
theorem slot_issup : Slot "frozenset" "issuperset" "frozenset.issuperset" :=
  .of (owner := "frozenset") (n := "issuperset") (by rw [typeLookup_type, builtinLookup_eq_fast]; kernel_rfl) (by decide +kernel) (by decide +kernel) (by decide +kernel)
    (by first | exact .inl (by decide +kernel) | exact .inr (by decide +kernel)) (by rw [isSubtype_type]; kernel_rfl)
theorem entry_issup : entryFor table "frozenset.issuperset" = some Builtin.«frozenset.issuperset» := entryFor_of_tree (by kernel_rfl)
theorem args_issup (a b : Value) : argsOk "frozenset.issuperset" ⟨[a, b], []⟩ := by
  unfold argsOk; rw [signature?_of (id := "frozenset.issuperset") (n := ['t', 'e', 's', 'r', 'e', 'p', 'u', 's', 's', 'i']) (o := ['t', 'e', 's', 'n', 'e', 'z', 'o', 'r', 'f']) (by kernel_rfl) PySem.W.FB.owner_frozenset]; kernel_rfl
theorem plain_loop : plainId "frozenset.issuperset.loop" = true := by decide +kernel
theorem entry_loop : entryFor table "frozenset.issuperset.loop" = some Builtin.«frozenset.issuperset.loop» := entryFor_of_tree (by kernel_rfl)
theorem isStr_set (x : Str) (t : Tok) : isInstance (.str x t) (.type "set") = pure false := by
  show isSubtype (.type "str") (.type "set") = _
  rw [isSubtype_type]; kernel_rfl
theorem isStr_fz (x : Str) (t : Tok) : isInstance (.str x t) (.type "frozenset") = pure false := by
  show isSubtype (.type "str") (.type "frozenset") = _
  rw [isSubtype_type]; kernel_rfl
theorem issup_loop {a it : Addr} {S : Str → Bool} {n : Nat} {x : Str} {St : Nat → Heap → Prop} (hb : n < 4096) (hne : a ≠ it) : ∀ k i : Nat, x.cps.size - i = k → i ≤ x.cps.size →
    MeetsIn prog w (Builtin.«frozenset.issuperset.loop» ⟨[.ref a, .ref it], []⟩) (fun A R s => A.handled = none ∧ Walks prog w A.in1 it [it] [it] x.cps.size (SignAt x) St ∧ FrozAt (PySem.strKind prog w) s.heap a S n ∧ St i s.heap ∧
      ∀ h' tk, (∀ b o, b ∉ [it] → s.heap.get? b = some o → h'.get? b = some o) → R (.ok (.ret (.bool ((x.cps.toList.drop i).all fun c => S (one c))))) { s with heap := h', toks := tk })
  | 0, i, hk, hi => fun A R s ⟨hh, W, hS, st, h⟩ => by
    have e : i = x.cps.size := by omega
    subst e
    unfold Builtin.«frozenset.issuperset.loop»
    refine wpAny_bind (W.done s _ _ st fun h' tk hkp => ?_)
    have hd : x.cps.toList.drop x.cps.size = [] := by simp
    rw [hd] at h
    exact wpAny_pure (h h' tk hkp)
  | k + 1, i, hk, hi => fun A R s ⟨hh, W, hS, st, h⟩ => by
    unfold Builtin.«frozenset.issuperset.loop»
    refine wpAny_bind (W.item i s _ _ (by omega) st fun v h' tk hP st' hkp => ?_)
    obtain ⟨c, u, hc, rfl⟩ := hP
    have hS' : FrozAt (PySem.strKind prog w) h' a S n := by
      obtain ⟨es, ep, t, hg, r⟩ := hS
      exact ⟨es, ep, t, hkp _ _ (by simpa using hne) hg, r⟩
    obtain ⟨es, ep, t, ho, hel, hmem, hn, hf⟩ := id hS'
    dsimp only
    unfold setContains
    refine wpAny_bind (wpAny_holding (wpAny_holding ?_))
    refine wpAny_bind ((PySem.strKind prog w).pyHash (k := one c) (isStrOf_one c u) ?_)
    refine wpAny_bind (setFind_any (s := { s with heap := h', toks := tk + 1 }) (k := one c) (isStrOf_one c u) rfl ho rfl hel hmem (by rw [hn]; exact hb) hf fun r hr => ?_)
    refine wpAny_pure ?_
    have hd : x.cps.toList.drop i = c :: x.cps.toList.drop (i + 1) := by
      have hi' : i < x.cps.toList.length := by rw [Array.length_toList]; omega
      rw [List.drop_eq_getElem_cons hi']
      congr 1
      have : x.cps.toList[i]? = some c := by rw [Array.getElem?_toList]; exact hc
      rw [List.getElem?_eq_getElem hi'] at this
      exact Option.some.inj this
    rw [hd, List.all_cons] at h
    cases hb' : S (one c) with
    | true =>
      rw [hr, hb']
      simp only [if_true]
      refine wpAny_pure ⟨plainId_quiet plain_loop _, codeAny_builtin entry_loop ?_⟩
      rw [Around.under_plainId plain_loop]
      refine issup_loop hb hne k (i + 1) (by omega) (by omega) A R _ ⟨hh, W, hS', st', fun h2 tk2 hk2 => ?_⟩
      rw [hb', Bool.true_and] at h
      exact h h2 tk2 fun b o hb e => hk2 b o hb (hkp b o hb e)
    | false =>
      rw [hr, hb']
      simp only [Bool.false_eq_true, if_false]
      rw [hb', Bool.false_and] at h
      exact wpAny_pure (h h' (tk + 1) hkp)
theorem issup_meets {a : Addr} {S : Str → Bool} {n : Nat} {x : Str} {t : Tok} (hb : n < 4096) :
    MeetsIn prog w (Builtin.«frozenset.issuperset» ⟨[.ref a, .str x t], []⟩) (fun A R s => A.handled = none ∧ FrozAt (PySem.strKind prog w) s.heap a S n ∧
      ∀ h' tk, (∀ b o, s.heap.get? b = some o → h'.get? b = some o) → R (.ok (.ret (.bool (x.cps.toList.all fun c => S (one c))))) { s with heap := h', toks := tk }) := fun A R s ⟨hh, hS, h⟩ => by
  unfold Builtin.«frozenset.issuperset» Builtin.Frozenset.oneOther
  simp only [List.isEmpty_nil, bind_assoc]
  unfold Builtin.Frozenset.addrOf Builtin.Frozenset.isAnySet
  refine wpAny_bind (wpAny_pure ?_)
  try dsimp only
  refine wpAny_bind (wpAny_pure ?_)
  try dsimp only
  simp only [isStr_set, isStr_fz, orM, pure_bind]
  try simp only [Bool.false_eq_true, if_false, toBool, pure_bind]
  refine wpAny_bind (wpAny_pyIter_str fun o St W st => ?_)
  refine wpAny_pure ⟨plainId_quiet plain_loop _, codeAny_builtin entry_loop ?_⟩
  rw [Around.under_plainId plain_loop]
  have hne : a ≠ s.heap.objs.size := by
    obtain ⟨es, ep, t, hg, _⟩ := hS
    exact Nat.ne_of_lt (Heap.lt_size hg)
  refine issup_loop (S := S) (n := n) hb hne _ 0 rfl (Nat.zero_le _) A R _ ⟨hh, W A.in1 hh, ?_, st, fun h' tk hk => ?_⟩
  · obtain ⟨es, ep, t, hg, r⟩ := hS
    exact ⟨es, ep, t, Heap.get?_push_of_some _ hg, r⟩
  · rw [List.drop_zero]
    exact h h' tk fun b o e => hk b o (by simpa using Nat.ne_of_lt (Heap.lt_size e)) (Heap.get?_push_of_some _ e)
theorem issup_call {h₀ base : Heap} {A₀ : Around} {outer : List Env} {L : Addr} {m : Str → Option Value} {news : List (Addr × Obj)} {x : Str} {t : Tok} {Q : Value → Shared → Prop} (hh : A.handled = none) (B : Below A₀ base outer h₀) (Z : FzB w base) (F : Fr h₀ L s.heap m) (N : News h₀ L s.heap news)
    (h : ∀ h' tk, Fr h₀ L h' m → News h₀ L h' news → Q (.bool (x.cps.toList.all fun c => inS hexes (one c))) { s with heap := h', toks := tk }) :
    wpAny (model prog w) A (call (.builtin "frozenset.issuperset") [.ref 87, .str x t]) Q E s := by
  have hS : FrozAt (PySem.strKind prog w) s.heap 87 (inS hexes) hexes.length := froz_of ((Z.2.1.keeps B.stays).keeps F.keep)
  obtain ⟨es, ep, tt, hg, _⟩ := id hS
  refine call_meetsIn slot_issup ⟨_, hg, rfl⟩ entry_issup (args_issup _ _) (issup_meets (by decide)) ⟨hh, hS, fun h' tk hk => ?_⟩
  exact h h' tk ⟨let ⟨o, es, ep, e, r⟩ := F.ns; ⟨o, es, ep, hk _ _ e, r⟩, fun b o e => hk b o (F.keep b o e), F.above⟩ fun p hp => ⟨hk _ _ (N p hp).1, (N p hp).2⟩
theorem plainFz : PlainAttrs "frozenset" :=
  ⟨⟨"object.__getattribute__", by rw [typeLookup_type, builtinLookup_eq_fast]; kernel_rfl, by decide +kernel⟩, by rw [typeLookup_type, builtinLookup_eq_fast]; kernel_rfl⟩
theorem type_issup : typeOf (.builtin "frozenset.issuperset") = pure (.type "method_descriptor") := by show builtinType _ = _; rw [builtinType_eq_fast]; kernel_rfl
theorem issup_method {h₀ base : Heap} {A₀ : Around} {outer : List Env} {L : Addr} {m : Str → Option Value} {pl : Sem Bool} {Q : Value × List Value → Shared → Prop} (B : Below A₀ base outer h₀) (Z : FzB w base) (F : Fr h₀ L s.heap m)
    (h : Q (.builtin "frozenset.issuperset", [.ref 87]) s) : wpAny (model prog w) A (getMethod (.ref 87) (Str.ofString "issuperset") pl) Q E s := by
  obtain ⟨es, ep, tt, hg, _⟩ := (Z.2.1.keeps B.stays).keeps F.keep
  exact getMethod_builtin (T := "frozenset") ⟨_, hg, rfl⟩ plainFz slot_issup type_issup (fun b e => by cases e; exact ⟨_, hg, rfl⟩) h
end
end Mine
end
-- W4
noncomputable section
open PySem PySem.W PySem.Spec PySem.Calls PyProof.Rows
namespace Mine
open PySem.NumText
noncomputable def hv (c : Nat) : Nat := (digit? c).getD 0
noncomputable def hexVal (l : List Nat) : Nat := l.foldl (fun acc c => acc * 16 + hv c) 0
theorem hex_facts : ∀ c ∈ hexes, digit? c = some (hv c) ∧ hv c < 16 ∧ blank c = false ∧ c ≠ 45 ∧ c ≠ 43 ∧ c ≠ 95 ∧ c < 128 ∧ c ≠ 0 ∧ c ≠ 120 ∧ c ≠ 88 := by decide +kernel
theorem drop_hex {l : List Nat} (h : ∀ c ∈ l, c ∈ hexes) : l.dropWhile blank = l := by
  cases l with
  | nil => rfl
  | cons c r => rw [List.dropWhile_cons, if_neg (by rw [(hex_facts c (h c (.head _))).2.2.1]; exact Bool.false_ne_true)]
theorem sign_hex {l : List Nat} (h : ∀ c ∈ l, c ∈ hexes) : sign l = (false, l) := by
  unfold sign
  split
  · exact absurd rfl (hex_facts _ (h 45 (.head _))).2.2.2.1
  · exact absurd rfl (hex_facts _ (h 43 (.head _))).2.2.2.2.1
  · rfl
theorem based_hex {l : List Nat} (h : ∀ c ∈ l, c ∈ hexes) : based 16 l = (16, false, l) := by
  unfold based
  split
  · rename_i p hp
    have : ((16 : Nat) == 0 || (16 : Nat) == p) = false := by
      unfold prefix? at hp
      split at hp
      · rename_i c r
        have hc := hex_facts c (h c (.tail _ (.head _)))
        split at hp
        · rename_i q
          rw [Bool.or_eq_true, beq_iff_eq, beq_iff_eq] at q
          rcases q with q | q
          · exact absurd q hc.2.2.2.2.2.2.2.2.1
          · exact absurd q hc.2.2.2.2.2.2.2.2.2
        · split at hp
          · cases hp; rfl
          · split at hp
            · cases hp; rfl
            · cases hp
      · cases hp
    rw [this]; rfl
  · rfl
theorem fold_hex : ∀ {l : List Nat} (acc : Array Nat) (b : Bool), (∀ c ∈ l, c ∈ hexes) → l.foldlM (NumText.step 16) (acc, b) = some (acc ++ (l.map hv).toArray, b || !l.isEmpty)
  | [], acc, b, _ => by simp
  | c :: l, acc, b, h => by
    have f := hex_facts c (h c (.head _))
    rw [List.foldlM_cons]
    have hs : NumText.step 16 (acc, b) c = some (acc.push (hv c), true) := by
      unfold NumText.step
      rw [if_neg (by rw [beq_iff_eq]; exact f.2.2.2.2.2.1), f.1]
      simp only
      rw [if_pos f.2.1]
    rw [hs]
    show l.foldlM (NumText.step 16) (acc.push (hv c), true) = _
    rw [fold_hex _ _ fun d hd => h d (.tail _ hd)]
    simp
theorem foldl_hex : ∀ (l : List Nat) (a : Nat), (l.map hv).foldl (fun acc d => acc * 16 + d) a = l.foldl (fun acc c => acc * 16 + hv c) a
  | [], _ => rfl
  | c :: l, a => by rw [List.map_cons, List.foldl_cons, List.foldl_cons, foldl_hex l]
theorem read16 {l : List Nat} (hne : l ≠ []) (h : ∀ c ∈ l, c ∈ hexes) : (int_private% "readNumeral") 0 16 l = (int_private% "Numeral.value") (hexVal l : Int) := by
  refine (readNumeral_eq 0 16 l).trans ?_
  rw [drop_hex h, sign_hex h]
  simp only
  rw [based_hex h]
  simp only
  rw [drop_hex (fun c hc => h c (List.mem_reverse.mp hc)), List.reverse_reverse]
  have hd : digits? 16 l = some ((l.map hv).toArray) := by
    unfold digits?
    rw [fold_hex _ _ h]
    cases l with
    | nil => exact absurd rfl hne
    | cons c r => simp
  rw [hd]
  unfold judge
  have : ((l.map hv).toArray.foldl (fun acc d => acc * 16 + d) 0) = hexVal l := by
    rw [List.foldl_toArray', foldl_hex]; rfl
    all_goals simp
  simp only [this]
  rfl
end Mine
end
-- W5
noncomputable section
open PySem PySem.W PySem.Calls PySem.NumText PyProof.Rows
namespace Mine
theorem typeCall_int_2 (a b : Value) : checkTypeCall "int" ⟨[a, b], []⟩ = pure () := by kernel_rfl
theorem newCall_int_2 (a b : Value) : checkBuiltinCall "int.__new__" ⟨[.type "int", a, b], []⟩ = pure () := by kernel_rfl
theorem wp_text16 {M : Model} {A : Around} {E : Value → Shared → Prop} {s : Shared} {Q : Value → Shared → Prop} {v : Value} {text : List Nat} {n : Int}
    (hs : (text.takeWhile (· != 0)).length ≤ 640) (hr : (int_private% "readNumeral") 0 16 (text.takeWhile (· != 0)) = (int_private% "Numeral.value") n)
    (ha : ((text.takeWhile (· != 0)).length == text.length) = true) (h : Q (.int n s.toks) { s with toks := s.toks + 1 }) :
    wpAny M A ((int_private% "intFromText") v text 16) Q E s := by
  obtain ⟨hp, g, d, tk, os⟩ := s
  repeat (any_goals (first
    | assumption
    | (with_reducible refine wpAny_ite_true (decide_eq_true hs) ?_)
    | (with_reducible refine wpAny_ite_true (decide_eq_true ha) ?_)
    | wp_step))
  all_goals (try rw [hr])
  all_goals (try dsimp only)
  repeat (any_goals (first
    | assumption
    | (with_reducible refine wpAny_ite_true (decide_eq_true hs) ?_)
    | (with_reducible refine wpAny_ite_true (decide_eq_true ha) ?_)
    | wp_step))
structure Hid (p : Prop) : Prop where
  out : p
set_option maxHeartbeats 4000000 in
theorem gives_text16 {x : PySem.Str} {u v : Tok} {n : Int} (ha : x.cps.all (· < 128) = true) (hs : (x.cps.toList.takeWhile (· != 0)).length ≤ 640)
   (hr : (int_private% "readNumeral") 0 16 (x.cps.toList.takeWhile (· != 0)) = (int_private% "Numeral.value") n) (hq : ((x.cps.toList.takeWhile (· != 0)).length == x.cps.toList.length) = true) : Gives (Builtin.«int.__new__» ⟨[.type "int", .str x u, .int 16 v], []⟩) (.int n) :=
  .of_wp fun M A E s Q h => by
    obtain ⟨hp, g, d, tk, os⟩ := s
    have f1 := F.conv_sub_int
    have f2 := F.madeHere_int
    have f6 : typeOf (.str x u) = pure (.type "str") := rfl
    have hk := Hid.mk (And.intro hs (And.intro hr hq))
    clear hs hr hq
    repeat (any_goals (first
      | assumption
      | ((with_reducible show wpAny _ _ ((int_private% "intFromText") _ _ _) _ _ _); (try rw [if_pos ha]); refine wp_text16 hk.out.1 hk.out.2.1 hk.out.2.2 ?_)
      | wp_step))
    all_goals first | exact ⟨_, rfl, h⟩ | skip
theorem gives_hex {x : PySem.Str} {u v : Tok} (h : ∀ c ∈ x.cps.toList, c ∈ hexes) (hne : x.cps.toList ≠ []) (hl : x.cps.toList.length ≤ 640) : Gives (Builtin.«int.__new__» ⟨[.type "int", .str x u, .int 16 v], []⟩) (.int (hexVal x.cps.toList)) := by
  have e : x.cps.toList.takeWhile (· != 0) = x.cps.toList := tw_all fun a ha => by
    have := (hex_facts a (h a ha)).2.2.2.2.2.2.2.1
    simpa using this
  refine gives_text16 ?_ (by rw [e]; exact hl) (by rw [e]; exact read16 hne h) (by rw [e, beq_self_eq_true])
  rw [← Array.all_toList, List.all_eq_true]
  exact fun a ha => decide_eq_true (hex_facts a (h a ha)).2.2.2.2.2.2.1
theorem call_hex {prog : Program} {w : World} {A : Around} {E : Value → Shared → Prop} {s : Shared} {Q : Value → Shared → Prop} {x : PySem.Str} {u v : Tok} (h : ∀ c ∈ x.cps.toList, c ∈ hexes) (hne : x.cps.toList ≠ []) (hl : x.cps.toList.length ≤ 640)
    (hq : ∀ t k, Q (.int (hexVal x.cps.toList) t) { s with toks := k }) : wpAny (model prog w) A (call (.type "int") [.str x u, .int 16 v]) Q E s :=
  callType_new F.called_int F.newNe_int (typeCall_int_2 _ _) (newCall_int_2 _ _) (fun obj => F.args_object_init_3 obj _ _) F.entry_int_new (gives_hex h hne hl).meets
    (show (Made.int (hexVal x.cps.toList)).post _ s from ⟨rfl, hq _ _⟩)
end Mine
namespace Mine
theorem issup_callT {prog : Program} {w : World} {A : Around} {E : Value → Shared → Prop} {s : Shared} {h₀ base : Heap} {A₀ : Around} {outer : List Env} {L : Addr} {m : Str → Option Value} {news : List (Addr × Obj)} {x : Str} {t : Tok} {Q : Value → Shared → Prop} (hh : A.handled = none) (B : Below A₀ base outer h₀) (Z : FzB w base) (F : Fr h₀ L s.heap m) (N : News h₀ L s.heap news)
    (ha : ∀ c ∈ x.cps.toList, c ∈ hexes) (h : ∀ h' tk, Fr h₀ L h' m → News h₀ L h' news → Q (.bool true) { s with heap := h', toks := tk }) :
    wpAny (model prog w) A (call (.builtin "frozenset.issuperset") [.ref 87, .str x t]) Q E s := by
  have e : (x.cps.toList.all fun c => inS hexes (one c)) = true := List.all_eq_true.mpr fun c hc => decide_eq_true (List.mem_map_of_mem (ha c hc))
  refine issup_call hh B Z F N fun h' tk F' N' => ?_
  rw [e]
  exact h h' tk F' N'
end Mine
end
-- W6
noncomputable section
open PySem PySem.W PySem.Spec PySem.Calls PyProof.Rows
namespace Mine
noncomputable def es92 (P : Params) : Array DictEntry := #[⟨PyData.keyHash P (Str.ofString "\\b"), (.str (Str.ofString "\\b") 458), (.str (Str.ofString "\x08") 459)⟩, ⟨PyData.keyHash P (Str.ofString "\\t"), (.str (Str.ofString "\\t") 460), (.str (Str.ofString "\t") 461)⟩, ⟨PyData.keyHash P (Str.ofString "\\n"), (.str (Str.ofString "\\n") 462), (.str (Str.ofString "\n") 463)⟩, ⟨PyData.keyHash P (Str.ofString "\\f"), (.str (Str.ofString "\\f") 464), (.str (Str.ofString "\x0c") 465)⟩, ⟨PyData.keyHash P (Str.ofString "\\r"), (.str (Str.ofString "\\r") 466), (.str (Str.ofString "\x0d") 467)⟩, ⟨PyData.keyHash P (Str.ofString "\\\""), (.str (Str.ofString "\\\"") 468), (.str (Str.ofString "\"") 469)⟩, ⟨PyData.keyHash P (Str.ofString "\\\\"), (.str (Str.ofString "\\\\") 470), (.str (Str.ofString "\\") 471)⟩]
theorem map92 {prog : Program} {w : World} {h : Heap} (X : (K w.params).In h) : h.MapOf (PySem.strKind prog w) 92 (fun k => findBy Value.isStrOf (es92 w.params) k) := by
  refine ⟨_, es92 w.params, 7, X 92 ⟨.type "dict", none, .dict (es92 w.params) 7, #[]⟩ (by kernel_rfl), ⟨rfl, rfl, rfl⟩, rfl, ?_, fun k => rfl⟩
  intro e he
  have : ∃ x t, e.key = .str x t ∧ e.hash = PyData.keyHash w.params x := by
    unfold es92 at he
    simp only [List.mem_toArray, List.mem_cons, List.not_mem_nil, or_false] at he
    rcases he with rfl | rfl | rfl | rfl | rfl | rfl | rfl <;> exact ⟨_, _, rfl, rfl⟩
  obtain ⟨x, t, h1, h2⟩ := this
  exact ⟨x, by rw [h1]; exact by simp [PySem.strKind, Value.isStrOf], h2⟩
section
variable {prog : Program} {w : World} {A : Around} {E : Value → Shared → Prop} {s : Shared}
theorem slot_prox : Slot "mappingproxy" "__getitem__" "mappingproxy.__getitem__" :=
  .of (owner := "mappingproxy") (n := "__getitem__") (by rw [typeLookup_type, builtinLookup_eq_fast]; kernel_rfl) (by decide +kernel) (by decide +kernel) (by decide +kernel)
    (by first | exact .inl (by decide +kernel) | exact .inr (by decide +kernel)) (by rw [isSubtype_type]; kernel_rfl)
theorem entry_prox : entryFor table "mappingproxy.__getitem__" = some Builtin.«mappingproxy.__getitem__» := entryFor_of_tree (by kernel_rfl)
theorem owner_prox : Manifest.owners.lookup (String.ofList ['y', 'x', 'o', 'r', 'p', 'g', 'n', 'i', 'p', 'p', 'a', 'm'].reverse) = some Manifest.sig_mappingproxy := by kernel_rfl
theorem args_prox (a b : Value) : argsOk "mappingproxy.__getitem__" ⟨[a, b], []⟩ := by
  unfold argsOk; rw [signature?_of (id := "mappingproxy.__getitem__") (n := ['_', '_', 'm', 'e', 't', 'i', 't', 'e', 'g', '_', '_']) (o := ['y', 'x', 'o', 'r', 'p', 'g', 'n', 'i', 'p', 'p', 'a', 'm']) (by kernel_rfl) owner_prox]; kernel_rfl
theorem prox_go {key : Value} {Q : Value → Shared → Prop} (X : (K w.params).In s.heap) (h : wpAny (model prog w) A.in1 (getItem (.ref 92) key) Q E s) :
    wpAny (model prog w) A (getItem (.ref 93) key) Q E s := by
  have h93 : s.heap.get? 93 = some ⟨.type "mappingproxy", none, .fields #[.ref 92], #[]⟩ := X 93 _ (by kernel_rfl)
  refine wpAny_getItem_slot (T := "mappingproxy") ⟨_, h93, rfl⟩ (by decide +kernel) slot_prox ?_
  refine wpAny_call (codeAny_call_builtin slot_prox.plain entry_prox (slot_prox.check _ _ _ _ _ _ _ _ ⟨_, h93, rfl⟩ (args_prox _ _) ?_))
  show wpAny _ _ (do let (self, r) ← slotArgs "__getitem__" 1 ⟨[.ref 93, key], []⟩; _) _ _ _
  refine wpAny_bind (m := slotArgs "__getitem__" 1 _) (wpAny_pure ?_)
  dsimp only
  refine wpAny_bind (wpAny_field h93 rfl rfl ?_)
  refine wpAny_bind (wpAny_mono h (fun v s₁ h₁ => ?_) fun _ _ e => e)
  exact wpAny_pure h₁
theorem prox_hit {x y : Str} {t : Tok} {v : Value} {Q : Value → Shared → Prop} (X : (K w.params).In s.heap) (hx : x = y) (hf : findBy Value.isStrOf (es92 w.params) y = some v) (h : ∀ k, Q v { s with toks := k }) :
    wpAny (model prog w) A (getItem (.ref 93) (.str x t)) Q E s := by
  subst hx
  exact prox_go X (wpAny_getItem_of (knd := PySem.strKind prog w) (k := x) (by simp [PySem.strKind, Value.isStrOf]) (map92 X) hf (h _))
theorem prox_miss {x y : Str} {t : Tok} {Q : Value → Shared → Prop} (X : (K w.params).In s.heap) (hh : A.handled = none) (hx : x = y) (hf : findBy Value.isStrOf (es92 w.params) y = none)
    (h : ∀ h' e k, Heap.NewExc s.heap h' e "KeyError" → E (.ref e) { s with heap := h', toks := k }) :
    wpAny (model prog w) A (getItem (.ref 93) (.str x t)) Q E s := by
  subst hx
  exact prox_go X (wpAny_getItem_missing_of (knd := PySem.strKind prog w) (k := x) (by simp [PySem.strKind, Value.isStrOf]) (by decide) hh (map92 X) hf fun h' e hn => h h' e _ hn)
end
/-- What the walk keeps of a caught error: its class, and that it came out of nothing (no context). -/
noncomputable def Tr (base : Heap) (e : Addr) (cls fl : Value) (h : Heap) : Prop :=
  ∃ oe vs T oT ts, h.get? e = some oe ∧ oe.cls = cls ∧ oe.data = .fields vs ∧ vs[1]? = some (.ref T) ∧ vs[2]? = some .none ∧ base.get? T = none ∧ T ≠ e ∧ h.get? T = some oT ∧ oT.data = .fields ts ∧ ts[3]? = some fl
section
variable {M : Model} {A : Around} {E : Value → Shared → Prop} {s : Shared}
theorem note_key {base : Heap} {env : Env} {outer : List Env} {L e : Addr} {oe : Obj} {vs : Array Value} {Q : Unit → Shared → Prop}
    (hfr : A.frames = some (env :: outer)) (hl : s.heap.FunFrames base (env :: outer)) (hf : env.frame = some L)
    (he : s.heap.get? e = some oe) (hkb : base.StaysIn s.heap) (hen : base.get? e = none) (hd : oe.data = .fields vs) (h1 : vs[1]? = some .none) (h2 : vs[2]? = some .none)
    (h : ∀ h', base.StaysIn h' → h'.FunFrames base (env :: outer) → Tr base e oe.cls (rawInt L) h' → s.heap.UpToSlots h' → Q () { s with heap := h' }) :
    wpAny M A (noteFrame (.ref e) env) Q E s := by
  unfold noteFrame
  simp only [hf]
  refine wpAny_bind (wpAny_field he hd h1 ?_)
  rw [if_neg (by decide)]
  have hene : e ∉ (env :: outer).filterMap (·.frame) := fun hm => by
    obtain ⟨_, o, ho, hnf⟩ := hl.mem hm
    rw [he] at ho; injection ho with ho; subst ho; exact hnf vs hd
  have hsz : 2 < vs.size := (Array.getElem?_eq_some_iff.mp h2).1
  refine wpAny_bind (wpAny_frameOf_fun hfr hl hf fun g₁ hs₁ => ?_)
  refine wpAny_bind (wpAny_entryPlaceOf fun pl hpl => ?_)
  unfold EntryCells.newEntry newFields
  refine wpAny_bind (wpAny_newObj_type ?_ (hpl.sizeOk5 _ _ _ _ _))
  have he₁ : g₁.get? e = some oe := (hs₁.2.1 e hene).trans he
  have kb₁ : base.StaysIn g₁ := fun b o hbo => (hs₁.2.1 b fun hm => by rw [(hl.mem hm).1] at hbo; cases hbo).trans (hkb b o hbo)
  generalize hto : (⟨.type "traceback", none, .fields _, #[]⟩ : Obj) = to
  have he₂ := Heap.get?_push_of_some (h := g₁) to he₁
  refine wpAny_setField he₂ hd (by omega) ?_
  have hTe : g₁.objs.size ≠ e := Nat.ne_of_gt (Heap.lt_size he₁)
  have hd₃ := Obj.data_mapFields hd (·.setIfInBounds 1 (Value.ref g₁.objs.size))
  have he₃ := Heap.get?_update_self (Obj.mapFields (·.setIfInBounds 1 (Value.ref g₁.objs.size))) he₂ (Obj.isFreed_of_fields hd₃)
  have hT₃ := (Heap.get?_update_other (g₁.push to) (Obj.mapFields (·.setIfInBounds 1 (Value.ref g₁.objs.size))) (Ne.symm hTe)).trans (Heap.get?_push_size g₁ (by subst hto; rfl))
  have keep : ∀ b o, b ≠ e → g₁.get? b = some o → ((g₁.push to).update e (Obj.mapFields (·.setIfInBounds 1 (Value.ref g₁.objs.size)))).get? b = some o := fun b o hbe hb => by
    rw [Heap.get?_update_other _ _ (Ne.symm hbe)]
    exact Heap.get?_push_of_some _ hb
  have noRecord : ∀ b o, s.heap.get? b = some o → (∀ vs, o.data ≠ .fields vs) → b ≠ e := fun b o hb hnf q => by
    rw [q, he] at hb; injection hb with hb; subst hb; exact hnf vs hd
  refine h _ (fun b o hbo => keep b o (fun q => by rw [q, hen] at hbo; cases hbo) (kb₁ b o hbo)) (hl.of_keeps fun b o hb hnf => ?_) ?_ fun b o hb hnf => ?_
  · obtain ⟨sl, hs⟩ := hs₁.2.2 b o hb
    exact ⟨_, keep b _ (noRecord b o hb hnf) hs, rfl⟩
  · refine ⟨_, _, g₁.objs.size, _, _, he₃, Obj.cls_mapFields _ _, hd₃, by simp [show 1 < vs.size by omega], by rw [Array.getElem?_setIfInBounds_ne (by decide)]; exact h2, kb₁.fresh, hTe, hT₃, by subst hto; rfl, by first | (simp; done) | (rcases hpl with rfl | ⟨_, _, _, _, _, _, _, rfl⟩ <;> simp)⟩
  · obtain ⟨sl, hs⟩ := hs₁.2.2 b o hb
    exact ⟨sl, keep b _ (noRecord b o hb hnf) hs⟩
theorem flight_key {base : Heap} {l : List Env} {e : Addr} {cls fl : Value} {Q : Unit → Shared → Prop}
    (hkb : base.StaysIn s.heap) (hl : s.heap.FunFrames base l) (ht : Tr base e cls fl s.heap)
    (h : ∀ h', base.StaysIn h' → h'.FunFrames base l → Tr base e cls .none h' → s.heap.UpToSlots h' → Q () { s with heap := h' }) :
    wpAny M A (setFlight (.ref e) none) Q E s := by
  obtain ⟨oe, vs, T, oT, ts, he, hcls, hd, h1, h2, hnT, hTe, hT, hdT, h3⟩ := ht
  have hsz3 : 3 < ts.size := (Array.getElem?_eq_some_iff.mp h3).1
  have other : ∀ b, b ≠ T → (s.heap.update T (Obj.mapFields (·.setIfInBounds 3 ((none : Option Addr).elim Value.none fun f => rawInt f)))).get? b = s.heap.get? b :=
    fun b hb => Heap.get?_update_other _ _ (Ne.symm hb)
  have noRecord : ∀ b o, s.heap.get? b = some o → (∀ vs, o.data ≠ .fields vs) → b ≠ T := fun b o hb hnf q => by
    rw [q, hT] at hb; injection hb with hb; subst hb; exact hnf ts hdT
  unfold setFlight
  refine wpAny_bind (wpAny_field he hd h1 ?_)
  rw [if_pos (show (Value.ref T != Value.none) = true from by simp)]
  refine wpAny_setField hT hdT hsz3 (h _ (fun b o hbo => (other b fun q => by rw [q, hnT] at hbo; cases hbo).trans (hkb b o hbo))
    (hl.of_keeps fun b o hb hnf => ⟨o, (other b (noRecord b o hb hnf)).trans hb, rfl⟩) ?_ fun b o hb hnf => ⟨o.slots, (other b (noRecord b o hb hnf)).trans hb⟩)
  exact ⟨oe, vs, T, _, _, (other e (Ne.symm hTe)).trans he, hcls, hd, h1, h2, hnT, hTe, Heap.get?_update_self _ hT (Obj.isFreed_of_fields (Obj.data_mapFields hdT _)), Obj.data_mapFields hdT _, by simp [hsz3]⟩
end
end Mine
end
-- W7
noncomputable section
open PySem PySem.W PySem.Spec PySem.Calls PyProof.Rows
namespace Mine
theorem entry_unchain : entryFor table "proto.unchain" = some Builtin.«proto.unchain» := entryFor_of_tree (by kernel_rfl)
theorem plain_unchain : plainId "proto.unchain" = true := by decide +kernel
abbrev EX : Obj := excClassObj (Str.ofString "TOMLDecodeError") (Str.ofString "TOMLDecodeError") 103 102 [.type "ValueError"] [.type "ValueError", .type "Exception", .type "BaseException", .type "object"] true [] [] false none none (some (.ref 94)) none (some (.str (Str.ofString "TOMLDecodeError") 480)) (some (.str (Str.ofString "TOMLDecodeError") 488)) (some (.bool true)) "ValueError.__new__"
/-- The error as it flies out of a handler: its context is the one that was caught. -/
abbrev EO2 (t k : Addr) : Obj := { cls := .ref 103, data := .fields #[.ref t, .none, .ref k, .none, .bool true, .none] }
noncomputable def RaiseF (k : Addr) (E : Value → Shared → Prop) (v : Value) (s₁ : Shared) : Prop :=
  ∃ e t ok kv, v = .ref e ∧ s₁.heap.get? 103 = some EX ∧ s₁.heap.get? e = some (EO t) ∧ s₁.heap.get? k = some ok ∧ ok.data = .fields kv ∧ kv[2]? = some .none ∧ e ≠ k ∧ e ≠ 103 ∧
    ∀ h', (∀ b, b ≠ e → h'.get? b = s₁.heap.get? b) → h'.get? e = some (EO2 t k) → E (.ref e) { s₁ with heap := h' }
theorem raise_from {prog : Program} {w : World} {A : Around} {E : Value → Shared → Prop} {s : Shared} {env : Env} {x : Expr} {pos np : Pos} {ki : Nat} {k : Addr} {Q : Flow → Shared → Prop} (hh : A.handled = some (.ref k)) (h : wpAny (model prog w) A (eval x env) (RaiseF k E) E s) :
    wpAny (model prog w) A (exec (.Raise (some x) (some (.Constant .none ki np)) pos) env) Q E s := by
  rw [arm_exec_Raise]
  simp only [evalOpt, Option.map]
  refine wpAny_bind (wpAny_standAt ?_)
  unfold raiseStmt
  refine wpAny_bind (wpAny_bind (wpAny_mono h (fun v s₁ h₁ => wpAny_bind (wpAny_standAt (wpAny_pure ?_))) fun _ _ x => x))
  obtain ⟨e, t, ok, kv, rfl, hC, he, hk, hkd, hk2, hne, hnc, hE⟩ := h₁
  obtain ⟨hp, g, d, tk, os⟩ := s₁
  have hcB : (Value.ref 103 :: [Value.type "ValueError", .type "Exception", .type "BaseException", .type "object"]).contains (.type "BaseException") = true := by decide +kernel
  repeat (first | with_reducible refine wpAny_loadPart_at he ?_ | with_reducible refine wpAny_loadPart_at hC ?_ | (with_reducible refine wpAny_isSubtype_exc hC ?_; rw [hcB]) | wp_step)
  have q1 := Heap.get?_update_self (Obj.mapFields fun x => x.setIfInBounds 3 Value.none) he (Obj.isFreed_of_fields (Obj.data_mapFields rfl _))
  have q2 := Heap.get?_update_self (Obj.mapFields fun x => x.setIfInBounds 4 (Value.bool true)) q1 (Obj.isFreed_of_fields (Obj.data_mapFields (Obj.data_mapFields rfl _) _))
  have o1 : ∀ b, b ≠ e → ((hp.update e (Obj.mapFields fun x => x.setIfInBounds 3 Value.none)).update e (Obj.mapFields fun x => x.setIfInBounds 4 (Value.bool true))).get? b = hp.get? b := fun b hb => by
    rw [Heap.get?_update_other _ _ (Ne.symm hb), Heap.get?_update_other _ _ (Ne.symm hb)]
  generalize ((hp.update e (Obj.mapFields fun x => x.setIfInBounds 3 Value.none)).update e (Obj.mapFields fun x => x.setIfInBounds 4 (Value.bool true))) = hp2 at q2 o1
  unfold raiseNew
  refine wpAny_bind (wpAny_handled ?_)
  rw [hh]
  dsimp only
  rw [if_pos (by simp only [bne_iff_ne, ne_eq, Value.ref.injEq]; exact fun q => hne q.symm)]
  have hk' : hp2.get? k = some ok := (o1 k (Ne.symm hne)).trans hk
  refine wpAny_bind (wpAny_holding (wpAny_runValue (codeAny_builtin entry_unchain ?_)))
  rw [Around.under_plainId plain_unchain]
  unfold Builtin.«proto.unchain»
  dsimp only
  refine wpAny_bind (wpAny_field hk' hkd hk2 ?_)
  rw [if_pos (by decide)]
  refine wpAny_pure ?_
  dsimp only
  show wpAny _ _ (setField (.ref e) 2 (.ref k) >>= fun _ => throw (.ref e)) _ _ _
  refine wpAny_bind (wpAny_setField (s := ⟨hp2, g, d, tk, os⟩) q2 (Obj.data_mapFields (Obj.data_mapFields rfl _) _) (by simp) ?_)
  refine wpAny_throw (hE _ (fun b hb => (Heap.get?_update_other _ _ (Ne.symm hb)).trans (o1 b hb)) ?_)
  exact Heap.get?_update_self (Obj.mapFields fun x => x.setIfInBounds 2 (Value.ref k)) q2 (Obj.isFreed_of_fields (Obj.data_mapFields (Obj.data_mapFields (Obj.data_mapFields rfl _) _) _))
theorem leave_err2 {M : Model} {A : Around} {E : Unit → Shared → Prop} {E' : Value → Shared → Prop} {s' : Shared} {base g : Heap} {outer : List Env} {L a e t k : Addr} {m : Str → Option Value} {name : Str} {scope : Scope} {cd : Value} {nw : List (Addr × Obj)} {vs : List Value}
    (B : Below A base outer g) (F : Fr g L s'.heap m) (he : s'.heap.get? e = some (EO2 t k)) (ht : s'.heap.get? t = some (TO vs)) (fe : g.get? e = none) (ft : g.get? t = none) (hLe : L ≠ e) (hLt : L ≠ t) (N : News g L s'.heap nw) (D : ∀ p ∈ nw, p.1 ≠ e ∧ p.1 ≠ t)
    (h : ∀ h', RaisedK base outer e (.ref 103) t vs nw h' → g.UpToSlots h' → E () { s' with heap := h' }) (hk : scope.kind = .function := by rfl) :
    wpAny M (A.deeper (envOf name scope L a cd)) (leaving (envOf name scope L a cd) (.ref e)) E E' s' := by
  have K' := B.push (name := name) (a := a) (cd := cd) F hk
  have hin : ∀ env ∈ (envOf name scope L a cd :: outer), ∀ b, env.frame = some b → b ∈ e :: t :: (envOf name scope L a cd :: outer).filterMap (·.frame) := fun env he b hb => .tail _ (.tail _ (List.mem_filterMap.mpr ⟨env, he, hb⟩))
  have be : base.get? e = none := fresh_of_stays B.stays fe
  have bt : base.get? t = none := fresh_of_stays B.stays ft
  have st : base.StaysIn (hideAll s'.heap (e :: t :: (envOf name scope L a cd :: outer).filterMap (·.frame))) := fun b o q => hideAll_get _ (K'.stays b o q) fun hm => by
    rcases List.mem_cons.mp hm with z | hm
    · rw [z, be] at q; cases q
    rcases List.mem_cons.mp hm with z | hm
    · rw [z, bt] at q; cases q
    rw [(K'.frames.mem hm).1] at q; cases q
  have hl : ∀ q ∈ nw, (hideAll s'.heap (e :: t :: (envOf name scope L a cd :: outer).filterMap (·.frame))).get? q.1 = some q.2 ∧ base.get? q.1 = none := fun q hq => by
    refine ⟨hideAll_get _ (N q hq).1 fun hm => ?_, fresh_of_stays B.stays (N q hq).2.2⟩
    rcases List.mem_cons.mp hm with z | hm
    · exact (D q hq).1 z
    rcases List.mem_cons.mp hm with z | hm
    · exact (D q hq).2 z
    obtain ⟨env, he, hf⟩ := List.mem_filterMap.mp hm
    rcases List.mem_cons.mp he with rfl | he
    · exact (N q hq).2.1 (Option.some.inj hf).symm
    · obtain ⟨o, ho, _⟩ := (B.frames.mem (List.mem_filterMap.mpr ⟨env, he, hf⟩)).2
      rw [(N q hq).2.2] at ho; cases ho
  have hen := hideAll_none (e :: t :: (envOf name scope L a cd :: outer).filterMap (·.frame)) (h := s'.heap) (b := e) (.head _)
  have htn := hideAll_none (e :: t :: (envOf name scope L a cd :: outer).filterMap (·.frame)) (h := s'.heap) (b := t) (.tail _ (.head _))
  refine wpAny_leaving_firstW (a0 := .ref t) K'.stack (funFrames_hide K'.frames hin) rfl he (fun b o hb => of_hideAll _ hb) hen rfl rfl rfl fun h' hL => ?_
  obtain ⟨k1, ⟨_, _, k2⟩, k3, k4⟩ := hL
  obtain ⟨sl, hs⟩ := k4 t _ ht (fun vs q => by cases q)
  exact h h' ⟨⟨_, st, hl, ⟨k1, hen, k2, k3⟩, htn⟩, ⟨_, _, hs, rfl, rfl⟩⟩ ((Heap.UpToSlots.of_keeps F.keep).trans k4)
theorem turn_up {fs : List Addr} {g g' : Heap} (x : KtsTurn fs g g') : g.UpToSlots g' := fun b o e _ => x.up e
theorem caught_key {w : World} {A₀ : Around} {E : Value → Shared → Prop} {s' : Shared} {base g h : Heap} {outer : List Env} {L a e : Addr} {m : Str → Option Value} {name : Str} {scope : Scope} {cd : Value} {b₀ : Stmt} {suite : List Stmt} {pos np : Pos} {rest : List ExceptHandler} {Q : Flow → Shared → Prop} {news : List (Addr × Obj)}
    {prog : Program}
    (hx : Heap.NewExc h s'.heap e "KeyError") (B0 : Below A₀ base outer g) (F : Fr g L h m) (N : News g L h news) (Z : FzB w base)
    (k : ∀ h' g' ok kv mean mg mb, Fr g' L h' m → News g' L h' ((e, ok) :: news) → (∀ p ∈ news, p.1 ≠ e) → Below A₀ base outer g' → (K w.params).In g' → Top topProg LG mean mg mb g' → g.UpToSlots g' → ok.data = .fields kv → kv[2]? = some .none →
      wpAny (model prog w) ((A₀.deeper (envOf name scope L a cd)).mark (some (.ref e))) (execs (b₀ :: suite) (envOf name scope L a cd)) Q E { s' with heap := h' })
    (hk : scope.kind = .function := by rfl) (hxk : (envOf name scope L a cd).kindOf "KeyError" = some .globalImplicit := by rfl)
    (hE : PassesOwnAt (model prog w) ((A₀.deeper (envOf name scope L a cd)).mark (some (.ref e))) (A₀.deeper (envOf name scope L a cd)) (envOf name scope L a cd) E := by passes_own) :
    wpAny (model prog w) (A₀.deeper (envOf name scope L a cd)) (noteFrame (.ref e) (envOf name scope L a cd))
      (fun _ s₂ => wpAny (model prog w) (A₀.deeper (envOf name scope L a cd)) (setFlight (.ref e) none) (fun _ s₃ =>
        wpAny (model prog w) (A₀.deeper (envOf name scope L a cd)) (handleBy (.ref e) (envOf name scope L a cd) (.ExceptHandler (some (.Name "KeyError" np)) none (b₀ :: suite) pos :: rest)) Q E s₃) E s₂) E s' := by
  obtain ⟨_, _, XB, mean, mg, mb, TB⟩ := Z
  have K' := B0.push (name := name) (a := a) (cd := cd) F hk
  have hin : ∀ env ∈ (envOf name scope L a cd :: outer), ∀ b, env.frame = some b → b ∈ (envOf name scope L a cd :: outer).filterMap (·.frame) := fun env he b hb => List.mem_filterMap.mpr ⟨env, he, hb⟩
  have hBG : ∀ b o, h.get? b = some o → b ∉ (envOf name scope L a cd :: outer).filterMap (·.frame) → (hideAll h ((envOf name scope L a cd :: outer).filterMap (·.frame))).get? b = some o := fun b o q nm => hideAll_get _ q nm
  obtain ⟨ob, tp, he, hcls, hd⟩ := hx.there
  have hen : (hideAll h ((envOf name scope L a cd :: outer).filterMap (·.frame))).get? e = none := by
    cases q : (hideAll h ((envOf name scope L a cd :: outer).filterMap (·.frame))).get? e with
    | none => rfl
    | some o => have := of_hideAll _ q; rw [hx.new] at this; cases this
  have hLn : (hideAll h ((envOf name scope L a cd :: outer).filterMap (·.frame))).get? L = none := hideAll_none _ (hin _ (.head _) L rfl)
  have hLe : L ≠ e := fun q => by
    obtain ⟨o, es, ep, z, _⟩ := F.ns
    rw [q, hx.new] at z; cases z
  have ge : g.get? e = none := kts_none F.keep hx.new
  have hnl : ∀ q ∈ news, (hideAll h ((envOf name scope L a cd :: outer).filterMap (·.frame))).get? q.1 = some q.2 := fun q hq => by
    refine hideAll_get _ (N q hq).1 fun hm => ?_
    obtain ⟨env, he, hf⟩ := List.mem_filterMap.mp hm
    rcases List.mem_cons.mp he with rfl | he
    · exact (N q hq).2.1 (Option.some.inj hf).symm
    · obtain ⟨o, ho, _⟩ := (B0.frames.mem (List.mem_filterMap.mpr ⟨env, he, hf⟩)).2
      rw [(N q hq).2.2] at ho; cases ho
  have hup : h.UpToSlots s'.heap := Heap.UpToSlots.of_keeps hx.keeps
  refine note_key K'.stack ((funFrames_hide K'.frames hin).of_keeps fun b o hb _ => ⟨o, hx.keeps b o hb, rfl⟩) rfl he (fun b o hb => hx.keeps b o (of_hideAll _ hb)) hen hd rfl rfl fun h₄ a1 a2 a3 a4 => ?_
  rw [hcls] at a3
  refine flight_key a1 a2 a3 fun h₅ c1 c2 c3 c4 => ?_
  obtain ⟨g₅, T₅, F₅, K₅⟩ := kts_ground B0 F hBG c1 (hup.trans (a4.trans c4))
  have X₅ : (K w.params).In g₅ := XB.keeps K₅.stays
  have P₅ : TopRead topProg LG mg mb g₅ := topRead_of (TB.keeps K₅.stays)
  obtain ⟨oe, vs, T, oT, ts, z1, z2, _⟩ := id c3
  refine wpAny_handleBy_builtin (X := "KeyError") (T := "KeyError") (b := true) kr_isExc_KeyError kr_notTuple_KeyError (by rw [isSubtype_type]; kernel_rfl) (name_B F₅ X₅ P₅ (by kernel_rfl) (by decide +kernel) (by decide +kernel) ⟨rfl, ⟨oe, z1, z2⟩, ?_⟩ hk hxk (by decide))
  rw [if_pos rfl]
  refine flight_key c1 c2 c3 fun h₆ d1 d2 d3 d4 => ?_
  obtain ⟨g₆, T₆, F₆, K₆⟩ := kts_ground B0 F hBG d1 (hup.trans (a4.trans (c4.trans d4)))
  obtain ⟨oe, vs, T, oT, ts, z1, z2, z3, _, z4, _⟩ := d3
  refine wpAny_passesOwnAt hE (k h₆ g₆ oe vs mean mg mb F₆ (fun q hq => ?_) (fun p hp q => by have := (N p hp).1; rw [q, hx.new] at this; cases this) K₆ (XB.keeps K₆.stays) (TB.keeps K₆.stays) (turn_up T₆) z3 z4)
  rcases List.mem_cons.mp hq with rfl | hq
  · exact ⟨z1, hLe.symm, T₆.none_ _ ge⟩
  · exact ⟨d1 _ _ (hnl q hq), (N q hq).2.1, T₆.none_ _ (N q hq).2.2⟩
theorem raiseF_leave {w : World} {M : Model} {A : Around} {Ea : Unit → Shared → Prop} {Eb : Value → Shared → Prop} {s' : Shared} {base g : Heap} {outer : List Env} {L a e t k : Addr} {ok : Obj} {kv : Array Value} {m : Str → Option Value} {name : Str} {scope : Scope} {cd : Value} {nw : List (Addr × Obj)} {vs : List Value} {ek : Value → Shared → Prop}
    (B : Below A base outer g) (F : Fr g L s'.heap m) (X : (K w.params).In g) (N : News g L s'.heap ((e, EO t) :: (t, TO vs) :: (k, ok) :: nw)) (hne : e ≠ t) (D : ∀ p ∈ (k, ok) :: nw, p.1 ≠ e ∧ p.1 ≠ t) (d : ok.data = .fields kv) (v : kv[2]? = some .none)
    (hE : ∀ s'', wpAny M (A.deeper (envOf name scope L a cd)) (leaving (envOf name scope L a cd) (.ref e)) Ea Eb s'' → ek (.ref e) s'')
    (h : ∀ h', RaisedK base outer e (.ref 103) t vs nw h' → g.UpToSlots h' → Ea () { s' with heap := h' }) (hk : scope.kind = .function := by rfl) : RaiseF k ek (.ref e) s' := by
  have n1 := N _ (.head _)
  have n2 := N _ (.tail _ (.head _))
  have n3 := N _ (.tail _ (.tail _ (.head _)))
  have X3 : g.get? 103 = some EX := X 103 _ (by kernel_rfl)
  have e3 : e ≠ 103 := fun q => by have := n1.2.2; rw [show (e, EO t).1 = e from rfl, q, X3] at this; cases this
  refine ⟨e, t, ok, kv, rfl, F.keep _ _ X3, n1.1, n3.1, d, v, fun q => (D _ (.head _)).1 q.symm, e3, fun h' h1 h2 => hE _ ?_⟩
  have F' : Fr g L h' m := ⟨let ⟨o, es, ep, q, r⟩ := F.ns; ⟨o, es, ep, (h1 L fun z => n1.2.1 z.symm).trans q, r⟩, fun b o q => (h1 b fun z => (by have := n1.2.2; rw [show (e, EO t).1 = e from rfl, ← z, q] at this; cases this)).trans (F.keep b o q), F.above⟩
  refine leave_err2 (s' := { s' with heap := h' }) B F' h2 ((h1 t (Ne.symm hne)).trans n2.1) n1.2.2 n2.2.2 (Ne.symm n1.2.1) (Ne.symm n2.2.1) (fun p hp => ?_) (fun p hp => D p (.tail _ hp)) h hk
  have n := N p (.tail _ (.tail _ (.tail _ hp)))
  exact ⟨(h1 _ (D p (.tail _ hp)).1).trans n.1, n.2⟩
end Mine
end
-- W8
noncomputable section
open PySem PySem.W PySem.Spec PySem.Calls PyProof.Rows
namespace Mine
theorem loop_ind {I : Nat → Shared → Prop} {G : Shared → Prop} {n : Nat} {s : Shared} (hI : I n s) (step : ∀ n s, (∀ n', n' < n → ∀ s', I n' s' → G s') → I n s → G s) : G s := by
  induction n using Nat.strongRecOn generalizing s with
  | _ n ih => exact step n s (fun n' h s' hI' => ih n' h hI') hI
theorem one_neq {c d : Nat} (h : c ≠ d) : (one c == one d) = false := by
  rw [beq_eq_false_iff_ne]
  intro q
  apply h
  have := congrArg (fun x : Str => x.cps.toList) q
  simpa [one] using this
theorem one_neQ {c : Nat} (h : c ≠ 34) : (one c == Str.ofString "\"") = false := one_neq h
theorem one_neB {c : Nat} (h : c ≠ 92) : (one c == Str.ofString "\\") = false := one_neq h
theorem in72 {prog : Program} {w : World} {A : Around} {E : Value → Shared → Prop} {s : Shared} {h₀ base : Heap} {A₀ : Around} {outer : List Env} {L : Addr} {m : Str → Option Value} {x : Str} {c : Nat} {t : Tok} {Q : Value → Shared → Prop} (B : Below A₀ base outer h₀) (Z : FzB w base) (F : Fr h₀ L s.heap m) (hx : x = one c)
    (h : ∀ k, Q (.bool (decide (c ∈ S72))) { s with toks := k }) : wpAny (model prog w) A (compareOp .In (.str x t) (.ref 72)) Q E s := by
  subst hx
  have e : inS S72 (one c) = decide (c ∈ S72) := by
    unfold inS
    rw [decide_eq_decide]
    constructor
    · intro q
      obtain ⟨d, hd, he⟩ := List.mem_map.mp q
      have := congrArg (fun x : Str => x.cps.toList) he
      simp [one] at this
      rw [← this]; exact hd
    · intro q; exact List.mem_map_of_mem q
  have hk : (PySem.strKind prog w).is (one c) (.str (one c) t) = true := isStrOf_one c t
  refine in_froz F (froz_of (prog := prog) (Z.1.keeps B.stays)) hk (by simp [Value.scannable]) (by decide) ?_
  rw [e]; exact h _
section
variable {prog : Program} {w : World} {A : Around} {E : Value → Shared → Prop} {s : Shared} {env : Env} {test : PySem.Expr} {body orelse : List Stmt} {Q : Flow → Shared → Prop}
noncomputable def RestW (prog : Program) (w : World) (A : Around) (E : Value → Shared → Prop) (env : Env) (test : PySem.Expr) (body orelse : List Stmt) (Q : Flow → Shared → Prop) (s : Shared) : Prop := WhlRest prog w A E env test body orelse Q 0 s
noncomputable def PostW (prog : Program) (w : World) (A : Around) (E : Value → Shared → Prop) (env : Env) (test : PySem.Expr) (body orelse : List Stmt) (Q : Flow → Shared → Prop) (f : Flow) (s : Shared) : Prop :=
  match f with
  | .next => RestW prog w A E env test body orelse Q s
  | .cont => RestW prog w A E env test body orelse Q s
  | .brk => Q .next s
  | .ret v => Q (.ret v) s
theorem restW_turn (hE : PassesOwn (model prog w) A env E) (h : wpAny (model prog w) A (isTrue test env (eval test env)) (fun b s₂ => WhlIf b (wpAny (model prog w) A (execs body env) (PostW prog w A E env test body orelse Q) E s₂) (wpAny (model prog w) A (execs orelse env) Q E s₂)) E s) :
    RestW prog w A E env test body orelse Q s := whl_turn (k := 0) hE (wpAny_mono h (fun b s₂ h₂ => by
      cases b with
      | false => exact WhlIf.no rfl (by unfold WhlIf at h₂; rwa [if_neg Bool.false_ne_true] at h₂)
      | true =>
        refine WhlIf.yes rfl ?_
        unfold WhlIf at h₂
        rw [if_pos rfl] at h₂
        exact wpAny_mono h₂ (fun f s₃ h₃ => by cases f <;> exact h₃) fun _ _ x => x) fun _ _ x => x)
theorem restW_start {pos : Pos} (h : RestW prog w A E env test body orelse Q s) : wpAny (model prog w) A (exec (.While test body orelse pos) env) Q E s := whl_start 0 h
end
section
variable {prog : Program} {w : World} {A : Around} {E : Value → Shared → Prop} {s : Shared} {h₀ base : Heap} {A₀ : Around} {outer : List Env} {L : Addr} {m : Str → Option Value} {x : Str} {c : Nat} {t : Tok} {Q : Value → Shared → Prop}
theorem in72F (B : Below A₀ base outer h₀) (Z : FzB w base) (F : Fr h₀ L s.heap m) (hx : x = one c) (hc : c ∉ S72) (h : ∀ k, Q (.bool false) { s with toks := k }) : wpAny (model prog w) A (compareOp .In (.str x t) (.ref 72)) Q E s :=
  in72 B Z F hx fun k => by rw [decide_eq_false hc]; exact h k
theorem in72T (B : Below A₀ base outer h₀) (Z : FzB w base) (F : Fr h₀ L s.heap m) (hx : x = one c) (hc : c ∈ S72) (h : ∀ k, Q (.bool true) { s with toks := k }) : wpAny (model prog w) A (compareOp .In (.str x t) (.ref 72)) Q E s :=
  in72 B Z F hx fun k => by rw [decide_eq_true hc]; exact h k
end
theorem slice_list {x : Str} {a b : Nat} (h1 : a ≤ b) (h2 : b ≤ x.length) : Txt.slice x (some (a : Int)) (some (b : Int)) = ⟨((x.cps.toList.drop a).take (b - a)).toArray⟩ := by
  have := beq_iff_eq.mp (slice_closesL (x := x) (i := (a : Int)) (j := (b : Int)) (by omega) (by omega) (by omega))
  rw [this]
  congr 4
  all_goals omega
theorem item_list {x : Str} {a c : Nat} (h : x.cps.toList[a]? = some c) : Txt.item x (a : Int) = one c :=
  item_meets (i := (a : Int)) (n := c) (by omega) (by rw [Array.getElem?_toList] at h; exact h)
theorem slice_self {x : Str} {a : Nat} (h2 : a ≤ x.length) : Txt.slice x (some (a : Int)) (some (a : Int)) = ⟨#[]⟩ := by
  rw [slice_list (Nat.le_refl _) h2]
  simp
theorem slice_snoc {x : Str} {a b c : Nat} (h1 : a ≤ b) (h2 : b < x.length) (h : Txt.item x (b : Int) = one c) : Txt.slice x (some (a : Int)) (some ((b : Int) + 1)) = Txt.slice x (some (a : Int)) (some (b : Int)) ++ one c := by
  have hl : x.cps.toList.length = x.length := Array.length_toList
  have hg : x.cps.toList[b]? = some (x.cps.toList[b]'(by omega)) := List.getElem?_eq_getElem (by omega)
  have hi := (item_list hg).symm.trans h
  have hc : x.cps.toList[b]'(by omega) = c := by
    have := congrArg (fun x : Str => x.cps.toList) hi
    simpa [one] using this
  have e1 := slice_list (x := x) (a := a) (b := b + 1) (by omega) (by omega)
  rw [show ((b : Int) + 1) = ((b + 1 : Nat) : Int) by omega, e1, slice_list h1 (by omega)]
  show _ = Str.append _ _
  unfold Str.append one
  congr 1
  simp only [List.append_toArray]
  congr 1
  rw [show b + 1 - a = (b - a) + 1 by omega, List.take_add_one, List.getElem?_drop, show a + (b - a) = b by omega, hg, hc]
  simp
end Mine
end
-- W9
noncomputable section
open PySem PySem.W PySem.Spec PySem.Calls PyProof.Rows
namespace Mine
/-- What the call leaves: as the kit's, with the code tables grown and no generator left. -/
noncomputable def GoodK (c : ClaimW) (cl : Str → Option Addr) (mean : ExcName → Option Value) (args : List WData) (s₁ : Shared) (r : Result) (s' : Shared) : Prop := GoodWG c cl mean args s₁ r s' ∧ s'.gens = #[]
theorem goodK_ends {c : ClaimW} {s₀ s₁ s' : Shared} {args : List WData} {vs : List Value} {as : List Addr} {r : Result} (hsame : c.same = none) (hwi : c.within = []) (hi : ∀ a b, c.ident a b = true)
    (hrd : ReadsAllW c.records (classAt s₀.heap) s₁.heap vs args as) (hold : ∀ a ∈ as, ∃ o, s₁.heap.get? a = some o) (hos₁ : s₁.os = s₀.os)
    (g : GoodK c (classAt s₀.heap) (ExcName.means s₀.heap) args { s₁ with gens := #[] } r s') : c.Ends s₀ args vs s₁ r s' ∧ s'.os = s₀.os ∧ s'.gens = #[] := by
  obtain ⟨⟨hcase, hK, hos, _⟩, hg'⟩ := g
  refine ⟨?_, hos.trans hos₁, hg'⟩
  rcases hcase with ⟨v, d, bs, rfl, hnr, hrv, hpost, hun⟩ | ⟨e, ob, cls, rfl, he, hcls, hpr, hnew⟩
  · exact .inl ⟨v, rfl, hnr, ⟨d, args, bs, as, hrv, hrd.keepsK fun b o e hc => hK.get_of_cls e hc, hpost, fun hu => ⟨(hun hu).1, (hun hu).2, fun a ha hb' => by
      obtain ⟨o, ho⟩ := hold a hb'
      have := (hun hu).2 a ha
      rw [show s₁.heap.get? a = none from this] at ho; cases ho⟩, fun _ _ => hi _ _⟩, (fun i hi' => by rw [hsame] at hi'; cases hi'), (fun b o hb' _ _ => hK.old b o hb'), fun i hi' => by rw [hwi] at hi'; cases hi'⟩
  · exact .inr ⟨e, ob, cls, rfl, he, hcls, hpr, hnew, fun b o hb' => hK.old b o hb'⟩
theorem open_anyK {r : RowW} {run : Value → List Value → Sem Value} {tree : List Value → Sem Fin} {q : Program} {loose defs kps : List Str} {writes : Bool} {Xt : Shared → Bool} {XP : (Str → Option Value) → Heap → Prop} {α : Type} {Yf : Shared → α} {Ya : World → α} {YP : World → Heap → Prop} {N : Nat}
    (left : LeftO r.prog q loose Xt Yf Ya N false) (hY : ∀ w s, Yf s = Ya w → YP w s.heap) (hYk : ∀ w h h', YP w h → (∀ b o, h.get? b = some o → h'.get? b = some o) → YP w h') (hX : ∀ s, Xt s = true → XP (s.heap.nsMap mainGlobals) s.heap) (hXk : ∀ mg h h', XP mg h → (∀ b o, h.get? b = some o → h'.get? b = some o) → XP mg h')
    (hRf : ∀ s, Xt s = true → RecFacts r.records s.heap) (hwr : (!writes || r.records.isEmpty) = true) (ok : (chainsOk q && opensWell r.prog && (frees r && r.within.isEmpty)) = true) (hb : r.prog.bare) (hw : r.promised)
    (ht : ∀ vs (w : World) (s : Shared) mg f (Q : Fin → Shared → Prop) (E : Value → Shared → Prop), s.heap.Ns mainGlobals mg → mg r.name = some f → wpAny (model r.prog w) callerA (run f vs) (fun v s' => Q (.done (.ret v)) s') E s → wpAny (model r.prog w) callerA (tree vs) Q E s)
    (pin : ∀ w s, s.heap.isNs mainGlobals = true → Ground q loose [] XP w s (s.heap.nsMap mainGlobals) (s.heap.nsMap builtinsNs) s.heap → ∀ n ∈ defs, isTheDefsW r.prog s.heap n)
    (call : ∀ (w : World) (s₀ s₁ : Shared) (mg mb : Str → Option Value), Ground q loose r.records XP w s₀ mg mb s₁.heap → YP w s₁.heap → ∀ (args : List WData) (vs : List Value) (as : List Addr),
      r.claim.pre args = true → WData.layableAll args = true → s₁.gens = #[] → ReadsAllW r.records (classAt s₀.heap) s₁.heap vs args as → WellAll w.params s₁.heap vs args → (∀ a ∈ as, (a == sysModules) = false) → ∃ f, mg r.name = some f ∧
        wpAny (model r.prog w) callerA (run f vs) (fun v s' => GoodK r.claim (classAt s₀.heap) (ExcName.means s₀.heap) args s₁ (.ok (.ret v)) s')
          (fun e s' => GoodK r.claim (classAt s₀.heap) (ExcName.means s₀.heap) args s₁ (.error e) s') s₁) : r.claim.HoldsOpenBy (fun vs => ⟨tree vs, .builtin "claim.caller" {}, default, []⟩) defs kps writes := by
  obtain ⟨ok, k5⟩ := Bool.and_eq_true_iff.mp ok
  obtain ⟨hch, o1⟩ := Bool.and_eq_true_iff.mp ok
  obtain ⟨k5, k6⟩ := Bool.and_eq_true_iff.mp k5
  obtain ⟨hsame, hu, ha, hap, hm⟩ := frees_parts k5
  refine ⟨⟨hb, o1, by show r.makers.map _ = []; rw [hm]; rfl⟩, hw.witness, fun w => ⟨(left.behind hX hch w).1, fun s' hs' => ?_⟩⟩
  obtain ⟨s₀, hf, hg0, s, hT, hz, hgens, hg, G00, y⟩ := (left.behind (XP := fun mg h => XP mg h ∧ RecFacts r.records h) (fun s hs => ⟨hX s hs, hRf s hs⟩) hch w).2 s' hs'
  have G0 : Ground q loose [] XP w s (s.heap.nsMap mainGlobals) (s.heap.nsMap builtinsNs) s.heap := ⟨G00.T, G00.B, G00.D, G00.TE, G00.TD, G00.W, G00.X.1, G00.cls, G00.has, G00.apart, G00.once, G00.K⟩
  have RF := G00.X.2
  have hT' := hT
  refine ⟨s₀, hf, hg0, s, hT, pin w s hg G0, RF.1, RF.2.1, ?_⟩
  have hgens : leftWithCleanup s.gens = false := by simpa using hgens
  have G : Ground q loose r.records XP w s _ _ s.heap := RF.ground G0
  refine ClaimW.callFrom_of_specN (c := r.claim) hz hgens fun args hpre hlay ord hord => ?_
  obtain ⟨⟨vs, s₁⟩, hlaid⟩ := Option.isSome_iff_exists.mp (layAllW_isSome (P := w.params) (ord := ord) G.has args r.args s (pre_splitW hpre).1)
  have keeps := layAllW_keeps _ _ _ hlaid
  have hal := layAllW_rest _ _ _ hlaid
  obtain ⟨as, hrd, hin, hold⟩ := reads_layAllW hord _ _ _ hlaid hlay s₁.heap (fun _ _ e => e)
  have G₁ := G.keeps hXk keeps
  obtain ⟨f, hf, h⟩ := call w s { s₁ with gens := #[] } _ _ G₁ (hYk _ _ _ (hY w s y) keeps) args vs as hpre hlay rfl hrd (well_layAllW hord args s _ hlaid _ fun _ _ e => e)
    (fun a ha => beq_eq_false_iff_ne.mpr fun e => by have := (hin.2.2 a ha).1; subst e; exact absurd G.low (Nat.not_lt.mpr this))
  have hi := ident_freeW hu ha hap
  have hwi : r.claim.within = [] := List.isEmpty_iff.mp k6
  exact ⟨vs, s₁, hlaid, ht vs w { s₁ with gens := #[] } _ f _ _ G₁.T.g hf (wpAny_mono h (fun v s' g => ⟨_, rfl, have z := goodK_ends (c := r.claim) hsame hwi hi hrd hold hal.2.2.1 g; ⟨z.1, z.2.1, z.2.2, fun q => ⟨namesKept_of hT' hg kps keeps g.1.2.1.old, noTable hwr q⟩⟩⟩) fun e s' g => have z := goodK_ends (c := r.claim) hsame hwi hi hrd hold hal.2.2.1 g; ⟨z.1, z.2.1, z.2.2, fun q => ⟨namesKept_of hT' hg kps keeps g.1.2.1.old, noTable hwr q⟩⟩)⟩
abbrev WalkK (q : Program) (loose : List Str) (XP : (Str → Option Value) → Heap → Prop) (YP : World → Heap → Prop) (r : RowW) (d : DefRec) (kwd : List (Str × Expr)) (run : Value → List Value → Sem Value) : Prop :=
  ∀ (w : World) (s₀ s₁ : Shared) (mg mb : Str → Option Value), Ground q loose r.records XP w s₀ mg mb s₁.heap → YP w s₁.heap → ∀ (a : Addr) (o : Obj) (pm cd doc dV kV : Value), s₁.heap.get? a = some o →
    o.data = .func { docDef d.name d.params d.body d.scope pm cd doc with defaults := dV, kwdefaults := kV } → s₁.heap.CodeRec cd d.name → Dflts mg s₁.heap d.params kwd dV kV → mg d.name = some (.ref a) → s₁.gens = #[] →
    ∀ (args : List WData) (vals : List Value) (as : List Addr), r.claim.pre args = true → WData.layableAll args = true → ReadsAllW r.records (classAt s₀.heap) s₁.heap vals args as → WellAll w.params s₁.heap vals args → (∀ a ∈ as, (a == sysModules) = false) →
      wpAny (model r.prog w) callerA (run (.ref a) vals) (fun v s' => GoodK r.claim (classAt s₀.heap) (ExcName.means s₀.heap) args s₁ (.ok (.ret v)) s')
        (fun e s' => GoodK r.claim (classAt s₀.heap) (ExcName.means s₀.heap) args s₁ (.error e) s') s₁
theorem holds_openK {r : OpenRow} {q : Program} {loose : List Str} {Xt : Shared → Bool} {XP : (Str → Option Value) → Heap → Prop} {α : Type} {Yf : Shared → α} {Ya : World → α} {YP : World → Heap → Prop} {d : DefRec} {kwd : List (Str × Expr)} {N : Nat}
    (left : LeftO r.prog q loose Xt Yf Ya N false) (hY : ∀ w s, Yf s = Ya w → YP w s.heap) (hYk : ∀ w h h', YP w h → (∀ b o, h.get? b = some o → h'.get? b = some o) → YP w h')
    (hX : ∀ s, Xt s = true → XP (s.heap.nsMap mainGlobals) s.heap) (hXk : ∀ mg h h', XP mg h → (∀ b o, h.get? b = some o → h'.get? b = some o) → XP mg h')
    (hdef : defOf q r.name = some (d, kwd)) (hp : r.prog.theDef r.name = some (d.params, d.body, d.scope)) (hk : kwWritten? d.params.kwonlyargs d.params.kw_defaults = some kwd) (hRf : ∀ s, Xt s = true → RecFacts r.records s.heap) (hwr : (!r.writes || r.records.isEmpty) = true)
    (k1 : r.wellSaid = true) (ok : (chainsOk q && opensWell r.prog && (frees r.toRowW && r.within.isEmpty)) = true) (hb : r.prog.bare) (hw : r.toRowW.promised)
    (call : WalkK q loose XP YP r.toRowW d kwd fun f vs => PySem.call f vs) : r.Holds := by
  refine ⟨k1, hw, open_anyK (r := r.toRowW) (run := fun f vs => PySem.call f vs) (tree := fun vs => do match ← nsGet mainNs r.name with
      | some f => do ret (← PySem.call f vs)
      | none => unsupported "claim.caller:no-such-global") left hY hYk hX hXk hRf hwr ok hb hw
    (fun vs w s mg f Q E hg hf h => wpAny_bind (wpAny_nsGet hg (by rw [hf]; exact wpAny_bind (wpAny_mono h (fun _ _ x => wpAny_pure x) fun _ _ x => x))))
    (fun w s hg G n hn => ?_) fun w s₀ s₁ mg mb G Y args vs as hpre hlay hg hrd hwl hlo => ?_⟩
  · obtain rfl : n = r.name := by split at hn <;> simp_all
    exact pinned_of_view hg G hdef hp hk
  · obtain ⟨a, o, pm, cd, doc, dV, kV, h1, h2, h3, h4, h5⟩ := G.fn hdef
    exact ⟨.ref a, h1, call w s₀ s₁ mg mb G Y a o pm cd doc dV kV h2 h3 h4 h5 (defOf_name hdef ▸ h1) hg args vs as hpre hlay hrd hwl hlo⟩
end Mine
end
-- W10
noncomputable section
open PySem PySem.W PySem.Spec PySem.Calls PyProof.Rows
namespace Mine
theorem goodK_of {s' s₁ : Shared} {cw : ClaimW} {cl : Str → Option Addr} {mean : ExcName → Option Value} {args : List WData} {tabs : List (Addr × Addr)} {r : Result} (hT : TabsAt tabs s₁.heap) (hr : ∀ a x, cw.raises a x = false)
    (g : PySem.W.GoodW cw cl mean args { s₁ with heap := ghostOf s₁.heap tabs } r s') (hgr : GrownAll tabs s'.heap) : GoodK cw cl mean args s₁ r s' := by
  obtain ⟨hc, hk, hos, hg⟩ := g
  have keep : ∀ b o, b ∉ tabs.map (·.2) → s₁.heap.get? b = some o → s'.heap.get? b = some o := fun b o hb e => hk b o (ghost_ne e hb)
  have grown : ∀ b o, b ∈ tabs.map (·.2) → s₁.heap.get? b = some o → isCodeTable s₁.heap b ∧ o = tabObj #[] ∧ ∃ ps, s'.heap.get? b = some (tabObj ps) := fun b o hb e => by
    obtain ⟨q, hq, rfl⟩ := List.mem_map.mp hb
    have e2 := (hT q hq).2
    rw [e] at e2
    exact ⟨((hT q hq).1.tab (hT q hq).2).isCodeTable, Option.some.inj e2, hgr.get q hq⟩
  refine ⟨⟨?_, ⟨fun b o e => ?_, fun b o e => ?_⟩, hos, .of_eq hg⟩, hg⟩
  · rcases hc with ⟨v, d, as, r1, r2, r3, r4, r5⟩ | ⟨e, ob, x, _, _, _, r4, _⟩
    · refine .inl ⟨v, d, as, r1, r2, r3, r4, fun q => ⟨(r5 q).1, fun a ha => ?_⟩⟩
      cases q1 : s₁.heap.get? a with
      | none => rfl
      | some o =>
        by_cases hb : a ∈ tabs.map (·.2)
        · obtain ⟨_, _, ps, hP⟩ := grown a o hb q1
          exact absurd ha (readsW_apart hP rfl r3)
        · have e3 := (r5 q).2 a ha
          rw [show (ghostOf s₁.heap tabs).get? a = some o from ghost_ne q1 hb] at e3
          cases e3
    · rw [hr] at r4; cases r4
  · by_cases hb : b ∈ tabs.map (·.2)
    · obtain ⟨ht, rfl, ps, hP⟩ := grown b o hb e
      exact .inr (.inl ⟨ht, rfl, #[], ps, rfl, by rw [Array.empty_append]; exact hP⟩)
    · exact .inl (keep b o hb e)
  · by_cases hb : b ∈ tabs.map (·.2)
    · obtain ⟨_, _, ps, hP⟩ := grown b o hb e
      exact ⟨_, hP⟩
    · exact ⟨o, keep b o hb e⟩
theorem postK {M : Model} {A : Around} {cd : Code} {s s₁ : Shared} {cw : ClaimW} {cl : Str → Option Addr} {mean : ExcName → Option Value} {args : List WData} {tabs : List (Addr × Addr)} (hT : TabsAt tabs s₁.heap) (hr : ∀ a x, cw.raises a x = false)
    (h : codeAny M A cd (fun r s' => PySem.W.GoodW cw cl mean args { s₁ with heap := ghostOf s₁.heap tabs } r s' ∧ GrownAll tabs s'.heap) s) : codeAny M A cd (GoodK cw cl mean args s₁) s :=
  codeAny_mono h fun r s' ⟨g, q⟩ => goodK_of hT hr g q
theorem enterK {M : Model} {A : Around} {f : Value} {vs : List Value} {kw : List (Str × Value)} {c : ClaimW} {cl : Str → Option Addr} {mean : ExcName → Option Value} {args : List WData} {s₁ s : Shared} (h : codeAny M A (.call f ⟨vs, kw⟩) (GoodK c cl mean args s₁) s) :
    wpAny M A (call f vs kw) (fun v s' => GoodK c cl mean args s₁ (.ok (.ret v)) s') (fun e s' => GoodK c cl mean args s₁ (.error e) s') s :=
  wpAny_call (codeAny_mono h fun r s' g => by
    match r with
    | .ok (.ret v) => exact g
    | .ok .next => obtain ⟨⟨⟨_, _, _, e, _⟩ | ⟨_, _, _, e, _⟩, _⟩, _⟩ := g <;> cases e
    | .ok .brk => obtain ⟨⟨⟨_, _, _, e, _⟩ | ⟨_, _, _, e, _⟩, _⟩, _⟩ := g <;> cases e
    | .ok .cont => obtain ⟨⟨⟨_, _, _, e, _⟩ | ⟨_, _, _, e, _⟩, _⟩, _⟩ := g <;> cases e
    | .error e => exact g)
end Mine
end
-- W11
noncomputable section
open PySem PySem.W PySem.Spec PySem.Calls PyProof.Rows
namespace Mine
section
variable {prog : Program} {w : World} {A : Around} {E : Value → Shared → Prop} {s : Shared} {env : Env} {h₀ : Heap} {x : Str} {body : List Stmt} {Q : Flow → Shared → Prop}
/-- A loop about to start over what was evaluated. -/
noncomputable def ForGo (prog : Program) (w : World) (A : Around) (h₀ : Heap) (env : Env) (x : Str) (body : List Stmt) (Q : Flow → Shared → Prop) (E : Value → Shared → Prop) (xv : Value) (s₁ : Shared) : Prop :=
  wpAny (model prog w) A (pyIter xv) (fun it s₂ => LoopAtV prog w A h₀ env x body Q E it s₂) E s₁
theorem for_start {L : Addr} {m : Str → Option Value} {px pos : Pos} {iter : Expr} (F : Fr h₀ L s.heap m) (hx : env.kindOf x = some .local)
    (hp : (env.scope.kind == .class || (env.scope.kind == .module && env.locals != env.globals)) = false) (h : wpAny (model prog w) A (eval iter env) (ForGo prog w A h₀ env x body Q E) E s)
    (hs : ∀ x, foldedSetIterable iter env x = pure x := by intro _; rfl) (hE : PassesOwn (model prog w) A env E := by passes_own) :
    wpAny (model prog w) A (exec (.For (.Name x px) iter body [] pos) env) Q E s := For_invV h₀ hx hp h hs hE
/-- The end of a turn: the invariant again, with what the walker owns kept. -/
noncomputable def TEnd (h₀ : Heap) (L : Addr) (I : Addr) (own : List (Addr × Obj)) (Jn : (Str → Option Value) → List (Addr × Obj) → Prop) (s : Shared) (Q : Flow → Shared → Prop) (f : Flow) (s₂ : Shared) : Prop :=
  match f with
  | .ret v => Q (.ret v) s₂
  | .brk => Q .next s₂
  | _ => ∃ h' tk m' news', s₂ = { s with heap := h', toks := tk } ∧ Fr h₀ L h' m' ∧ News h₀ L h' (news' ++ own) ∧ (∀ p ∈ news', p.1 ≠ I) ∧ Jn m' news'
theorem news_swap {L : Addr} {h : Heap} {a b : List (Addr × Obj)} (N : News h₀ L h (a ++ b)) : News h₀ L h (b ++ a) := fun p hp => N p (by rw [List.mem_append] at hp ⊢; exact hp.symm)
theorem loop_go {I : Addr} {fp : List Addr} {n : Nat} {P : Nat → Value → Prop} {St : Nat → Heap → Prop} {m : Str → Option Value} {news : List (Addr × Obj)} (W : Walks prog w A I fp [I] n P St) (hLf : env.locals ∉ fp) (hI : h₀.get? I = none) (hIfp : I ∈ fp)
    (hnw : ∀ p ∈ news, p.1 ≠ I) (st : St 0 s.heap) (F : Fr h₀ env.locals s.heap m) (N : News h₀ env.locals s.heap news) (J : Nat → (Str → Option Value) → List (Addr × Obj) → Prop) (h0 : J 0 m news)
    (turn : ∀ i v m₁ news₁ h tk own, i < n → P i v → J i m₁ news₁ → St (i + 1) h → (∀ p ∈ news₁, p.1 ≠ I) → (∀ p ∈ own, p.1 ∈ fp) → (∀ o, h.get? I = some o → (I, o) ∈ own) → Fr h₀ env.locals h (fun y => if y = x then some v else m₁ y) → News h₀ env.locals h (news₁ ++ own) →
      wpAny (model prog w) A (execs body env) (TEnd h₀ env.locals I own (J (i + 1)) s Q) E { s with heap := h, toks := tk })
    (done : ∀ h' tk m' news', Fr h₀ env.locals h' m' → News h₀ env.locals h' news' → J n m' news' → Q .next { s with heap := h', toks := tk }) : LoopAtV prog w A h₀ env x body Q E (.ref I) s := by
  refine ⟨I, fp, [I], n, P, St, m, news, J, rfl, W, hLf, ?_, ?_, st, F, N, h0, ?_, fun h' tk m' news' F' N' _ hJ => done h' tk m' news' F' N' hJ⟩
  · intro b hb; rw [List.mem_singleton.mp hb]; exact hI
  · intro p hp q; exact hnw p hp (List.mem_singleton.mp q)
  · rintro i v m₁ news₁ s₁ own ⟨hh, tk', rfl⟩ hi hP hJ hoff hin hown hall hst F₁ N₁
    refine wpAny_mono (turn i v m₁ news₁ hh tk' own hi hP hJ hst (fun p hp q => hoff p hp (by rw [q]; exact .head _)) hin (fun o ho => hall I hIfp hI o ho) F₁ (news_swap N₁)) (fun f s₂ h₂ => ?_) fun _ _ e => e
    have fin : (∃ h' tk m' news', s₂ = { s with heap := h', toks := tk } ∧ Fr h₀ env.locals h' m' ∧ News h₀ env.locals h' (news' ++ own) ∧ (∀ p ∈ news', p.1 ≠ I) ∧ J (i + 1) m' news') → LoopStepU h₀ env.locals [I] own (J (i + 1)) { s with heap := hh, toks := tk' } .next s₂ := by
      rintro ⟨h', tk, m', news', rfl, F', N', hoff', hJ'⟩
      exact ⟨rfl, h', tk, m', news', rfl, F', news_swap N', fun p hp q => hoff' p hp (List.mem_singleton.mp q), hJ'⟩
    cases f with
    | ret v => exact .ret h₂
    | brk => exact .brk h₂
    | next => exact .next (fin h₂)
    | cont => exact .cont (fin h₂)
theorem forList {l : Addr} {vs : Array Value} {m : Str → Option Value} {news : List (Addr × Obj)} (hh : A.handled = none) (hls : s.heap.IsList l vs) (hlL : l ≠ env.locals) (F : Fr h₀ env.locals s.heap m) (N : News h₀ env.locals s.heap news) (J : Nat → (Str → Option Value) → List (Addr × Obj) → Prop) (h0 : J 0 m news)
    (turn : ∀ I i v m₁ news₁ h tk own, i < vs.size → vs[i]? = some v → J i m₁ news₁ → (∀ p ∈ news₁, p.1 ≠ I) → (∀ p ∈ own, p.1 = I ∨ p.1 = l) → Fr h₀ env.locals h (fun y => if y = x then some v else m₁ y) → News h₀ env.locals h (news₁ ++ own) →
      wpAny (model prog w) A (execs body env) (TEnd h₀ env.locals I own (J (i + 1)) s Q) E { s with heap := h, toks := tk })
    (done : ∀ h' tk m' news', Fr h₀ env.locals h' m' → News h₀ env.locals h' news' → J vs.size m' news' → Q .next { s with heap := h', toks := tk }) : ForGo prog w A h₀ env x body Q E (.ref l) s := by
  obtain ⟨ol, hol, _⟩ := id hls
  have hlt := Heap.lt_size hol
  have hne : l ≠ s.heap.objs.size := Nat.ne_of_lt hlt
  unfold ForGo
  refine wpAny_pyIter_list hls ?_
  refine loop_go (s := { s with heap := s.heap.push _ }) (Walks.list hh s.heap.objs.size l hne vs) ?_ ?_ (.head _) ?_ ⟨⟨_, Heap.get?_push_size _ rfl, rfl, rfl⟩, hls.at fun o e => Heap.get?_push_of_some _ e⟩ (F.push _) (fun p hp => ⟨Heap.get?_push_of_some _ (N p hp).1, (N p hp).2⟩) J h0 ?_ ?_
  · intro hm
    rcases List.mem_cons.mp hm with e | hm
    · exact absurd F.ns.lt (e ▸ Nat.lt_irrefl _)
    · exact hlL (List.mem_singleton.mp hm).symm
  · exact next_is_new F
  · intro p hp q
    exact absurd (Heap.lt_size (N p hp).1) (q ▸ Nat.lt_irrefl _)
  · intro i v m₁ news₁ h tk own hi hP hJ hst hoff hin hIo F₁ N₁
    exact turn _ i v m₁ news₁ h tk own hi hP hJ hoff (fun p hp => (List.mem_cons.mp (hin p hp)).imp id List.mem_singleton.mp) F₁ N₁
  · exact done
noncomputable def NotCode (o : Obj) : Prop := ∀ vs t, o.data = .fields vs → vs[1]? ≠ some (.str qualCR t)
theorem forRange {r : Addr} {a₀ b₀ : Int} {t₀ u₀ v₀ : Tok} {n : Nat} {m : Str → Option Value} {news : List (Addr × Obj)} (hh : A.handled = none) (hr : IsRange s.heap r a₀ b₀ 1 t₀ u₀ v₀) (hsmall : Builtin.Range.small a₀ b₀ 1 = true) (hn : Builtin.Range.rangeSize a₀ b₀ 1 = (n : Int))
    (F : Fr h₀ env.locals s.heap m) (N : News h₀ env.locals s.heap news) (J : Nat → (Str → Option Value) → List (Addr × Obj) → Prop) (h0 : J 0 m news)
    (turn : ∀ I i t m₁ news₁ h tk own, i < n → J i m₁ news₁ → (∀ p ∈ news₁, p.1 ≠ I) → (∀ p ∈ own, p.1 = I) → (∃ o, (I, o) ∈ own ∧ NotCode o) → Fr h₀ env.locals h (fun y => if y = x then some (.int (a₀ + (i : Nat)) t) else m₁ y) → News h₀ env.locals h (news₁ ++ own) →
      wpAny (model prog w) A (execs body env) (TEnd h₀ env.locals I own (J (i + 1)) s Q) E { s with heap := h, toks := tk })
    (done : ∀ h' tk m' news', Fr h₀ env.locals h' m' → News h₀ env.locals h' news' → J n m' news' → Q .next { s with heap := h', toks := tk }) : ForGo prog w A h₀ env x body Q E (.ref r) s := by
  unfold ForGo
  refine wpAny_pyIter_range hr hsmall ?_
  refine loop_go (s := { s with heap := s.heap.push _ }) (Walks.range hh s.heap.objs.size a₀ 1 n) ?_ ?_ (.head _) ?_ (by show IsRangeIter _ _ _ _ _; rw [hn]; simpa using Heap.get?_push_size _ rfl) (F.push _) (fun p hp => ⟨Heap.get?_push_of_some _ (N p hp).1, (N p hp).2⟩) J h0 ?_ ?_
  · intro hm
    exact absurd F.ns.lt ((List.mem_singleton.mp hm) ▸ Nat.lt_irrefl _)
  · exact next_is_new F
  · intro p hp q
    exact absurd (Heap.lt_size (N p hp).1) (q ▸ Nat.lt_irrefl _)
  · rintro i v m₁ news₁ h tk own hi ⟨t, rfl⟩ hJ hst hoff hin hIo F₁ N₁
    rw [show a₀ + (i : Int) * 1 = a₀ + (i : Nat) by omega] at F₁
    refine turn _ i t m₁ news₁ h tk own hi hJ hoff (fun p hp => List.mem_singleton.mp (hin p hp)) ⟨_, hIo _ hst, ?_⟩ F₁ N₁
    intro vs t e q
    cases e
    simp [rawInt] at q
  · exact done
end
end Mine
end
-- W12
noncomputable section
open PySem PySem.W PySem.Spec PySem.Calls PyProof.Rows
namespace Mine
section
variable {prog : Program} {w : World} {A : Around} {E : Value → Shared → Prop} {s : Shared} {env : Env} {h₀ : Heap} {body : List Stmt} {Q : Flow → Shared → Prop}
/-- A loop with a tuple for its target, about to start. -/
noncomputable def ForGoT (prog : Program) (w : World) (A : Around) (env : Env) (target : Expr) (body : List Stmt) (Q : Flow → Shared → Prop) (E : Value → Shared → Prop) (xv : Value) (s₁ : Shared) : Prop :=
  wpAny (model prog w) A (pyIter xv) (fun it s₂ => codeAny (model prog w) A (.forLoop target it body [] env) (fun r s' => match r with | .ok f => Q f s' | .error e => cameBackBy (model prog w) A env E e s') s₂) E s₁
theorem for_startT {target iter : Expr} {pos : Pos} (h : wpAny (model prog w) A (eval iter env) (ForGoT prog w A env target body Q E) E s) (hs : ∀ x, foldedSetIterable iter env x = pure x := by intro _; rfl) :
    wpAny (model prog w) A (exec (.For target iter body [] pos) env) Q E s := wpAny_For h hs
noncomputable def TEndT (h₀ : Heap) (L : Addr) (I : Addr) (own : List (Addr × Obj)) (Jn : (Str → Option Value) → List (Addr × Obj) → Prop) (s : Shared) (Q : Flow → Shared → Prop) (f : Flow) (s₂ : Shared) : Prop := TEnd h₀ L I own Jn s Q f s₂
noncomputable def AsgT (prog : Program) (w : World) (A : Around) (h₀ : Heap) (env : Env) (target : Expr) (body : List Stmt) (I : Addr) (own : List (Addr × Obj)) (Jn : (Str → Option Value) → List (Addr × Obj) → Prop) (s0 : Shared) (Q : Flow → Shared → Prop) (E : Value → Shared → Prop) (v : Value) (s : Shared) : Prop :=
  wpAny (model prog w) A (assign target env v) (fun _ s₂ => wpAny (model prog w) A (execs body env) (TEnd h₀ env.locals I own Jn s0 Q) E s₂) E s
theorem forTup {elts : List Expr} {x1 : Nat} {tp : Pos} {l : Addr} {vs : Array Value} {m : Str → Option Value} {news : List (Addr × Obj)} (hE : PassesOwn (model prog w) A env E) (hh : A.handled = none) (hls : s.heap.IsList l vs) (hlL : l ≠ env.locals) (hl0 : h₀.get? l = none) (hrf : ∀ (i : Nat) v, vs[i]? = some v → ∃ a, v = .ref a) (F : Fr h₀ env.locals s.heap m) (N : News h₀ env.locals s.heap news) (J : Nat → (Str → Option Value) → List (Addr × Obj) → Prop) (h0 : J 0 m news)
    (turn : ∀ I i v m₁ news₁ h tk own, i < vs.size → vs[i]? = some v → J i m₁ news₁ → (∀ p ∈ news₁, p.1 ≠ I) → (∀ p ∈ own, p.1 = I ∨ p.1 = l) → (∃ o, (I, o) ∈ own ∧ NotCode o) → (∃ o, (l, o) ∈ own) → Fr h₀ env.locals h m₁ → News h₀ env.locals h (news₁ ++ own) →
      AsgT prog w A h₀ env (.Tuple elts x1 tp) body I own (J (i + 1)) s Q E v { s with heap := h, toks := tk })
    (done : ∀ h' tk m' news', Fr h₀ env.locals h' m' → News h₀ env.locals h' news' → J vs.size m' news' → Q .next { s with heap := h', toks := tk }) : ForGoT prog w A env (.Tuple elts x1 tp) body Q E (.ref l) s := by
  obtain ⟨ol, hol, hcl, hdl⟩ := id hls
  have hlt := Heap.lt_size hol
  have hne : l ≠ s.heap.objs.size := Nat.ne_of_lt hlt
  unfold ForGoT
  refine wpAny_pyIter_list hls ?_
  have W := Walks.list (prog := prog) (w := w) (A := A) hh s.heap.objs.size l hne vs
  generalize hI : s.heap.objs.size = I at *
  have hIL : I ≠ env.locals := by rw [← hI]; exact (Nat.ne_of_lt F.ns.lt).symm
  have hI0 : h₀.get? I = none := by rw [← hI]; exact next_is_new F
  refine codeAny_forLoop_any (fun n s' => ∃ i h tk m' news' oI, n + i = vs.size ∧ s' = { s with heap := h, toks := tk } ∧ (h.IsListIter I l i ∧ h.IsList l vs) ∧ Fr h₀ env.locals h m' ∧ News h₀ env.locals h (news' ++ [(I, oI), (l, ol)]) ∧ (∀ p ∈ news', p.1 ≠ I) ∧ J i m' news') ?_ vs.size ?_
  · rintro n s' ⟨i, h, tk, m', news', oI, hn, rfl, hst, F', N', hoff, hJ⟩
    by_cases hi : i < vs.size
    · refine W.item i _ _ _ hi hst fun v h2 tk2 hv hst2 hk => ?_
      dsimp only
      have F2 : Fr h₀ env.locals h2 m' := ⟨let ⟨o, es, ep, e, r⟩ := F'.ns; ⟨o, es, ep, hk _ _ (fun q => hIL (List.mem_singleton.mp q).symm) e, r⟩, fun b o e => hk b o (fun q => by rw [List.mem_singleton.mp q, hI0] at e; cases e) (F'.keep b o e), F'.above⟩
      obtain ⟨oI2, hoI2, hcI2, hdI2⟩ := id hst2.1
      have N2 : News h₀ env.locals h2 (news' ++ [(I, oI2), (l, ol)]) := fun p hp => by
        rcases List.mem_append.mp hp with q | q
        · have n := N' p (List.mem_append_left _ q)
          exact ⟨hk _ _ (fun z => hoff p q (List.mem_singleton.mp z)) n.1, n.2⟩
        · rcases List.mem_cons.mp q with rfl | q
          · exact ⟨hoI2, hIL, hI0⟩
          · rw [List.mem_singleton.mp q]
            have n := N' (l, ol) (List.mem_append_right _ (.tail _ (.head _)))
            exact ⟨hk _ _ (fun z => hne (List.mem_singleton.mp z)) n.1, n.2⟩
      obtain ⟨va, rfl⟩ := hrf i v hv
      refine wpAny_letOwnedTupleGo_listiter (s := { s with heap := h2, toks := tk2 }) hst2.1 ?_
      have ht := turn I i _ m' news' h2 tk2 [(I, oI2), (l, ol)] hi hv hJ hoff (fun p hp => by
        rcases List.mem_cons.mp hp with rfl | hp
        · exact .inl rfl
        · rw [List.mem_singleton.mp hp]; exact .inr rfl) ⟨oI2, .head _, fun vs t e q => by rw [hdI2] at e; cases e; simp at q⟩ ⟨ol, .tail _ (.head _)⟩ F2 N2
      unfold AsgT at ht
      refine wpAny_passesOwn hE (wpAny_mono ht (fun _ s₂ h₂ => wpAny_passesOwn hE (wpAny_mono h₂ (fun f s₃ h₃ => ?_) fun _ _ e => e)) fun _ _ e => e)
      have fin : (∃ h' tk m' news', s₃ = { s with heap := h', toks := tk } ∧ Fr h₀ env.locals h' m' ∧ News h₀ env.locals h' (news' ++ [(I, oI2), (l, ol)]) ∧ (∀ p ∈ news', p.1 ≠ I) ∧ J (i + 1) m' news') →
          ∃ k, k < n ∧ ∃ i h tk m' news' oI, k + i = vs.size ∧ s₃ = { s with heap := h, toks := tk } ∧ (h.IsListIter I l i ∧ h.IsList l vs) ∧ Fr h₀ env.locals h m' ∧ News h₀ env.locals h (news' ++ [(I, oI), (l, ol)]) ∧ (∀ p ∈ news', p.1 ≠ I) ∧ J i m' news' := by
        rintro ⟨h', tk3, m3, news3, rfl, F3, N3, off3, J3⟩
        refine ⟨n - 1, by omega, i + 1, h', tk3, m3, news3, oI2, by omega, rfl, ⟨⟨oI2, (N3 _ (List.mem_append_right _ (.head _))).1, hcI2, hdI2⟩, ⟨ol, (N3 (l, ol) (List.mem_append_right _ (.tail _ (.head _)))).1, hcl, hdl⟩⟩, F3, N3, off3, J3⟩
      cases f with
      | next => exact fin h₃
      | cont => exact fin h₃
      | brk => exact h₃
      | ret v => exact h₃
    · have hi2 : i = vs.size := by omega
      subst hi2
      refine W.done _ _ _ hst fun h2 tk2 hk => ?_
      dsimp only
      refine wpAny_execs_nil ?_
      refine done h2 tk2 m' news' ⟨let ⟨o, es, ep, e, r⟩ := F'.ns; ⟨o, es, ep, hk _ _ (fun q => hIL (List.mem_singleton.mp q).symm) e, r⟩, fun b o e => hk b o (fun q => by rw [List.mem_singleton.mp q, hI0] at e; cases e) (F'.keep b o e), F'.above⟩ (fun p hp => ?_) hJ
      have n := N' p (List.mem_append_left _ hp)
      exact ⟨hk _ _ (fun z => hoff p hp (List.mem_singleton.mp z)) n.1, n.2⟩
  · refine ⟨0, _, _, m, news, { cls := .type "list_iterator", data := .fields #[.ref l, .int 0 0] }, rfl, rfl, ⟨⟨_, by rw [← hI]; exact Heap.get?_push_size _ rfl, rfl, rfl⟩, hls.at fun o e => Heap.get?_push_of_some _ e⟩, F.push _, fun p hp => ?_, fun p hp q => ?_, h0⟩
    · rcases List.mem_append.mp hp with q | q
      · exact ⟨Heap.get?_push_of_some _ (N p q).1, (N p q).2⟩
      · rcases List.mem_cons.mp q with rfl | q
        · exact ⟨by rw [← hI]; exact Heap.get?_push_size _ rfl, hIL, hI0⟩
        · rw [List.mem_singleton.mp q]
          exact ⟨Heap.get?_push_of_some _ hol, hlL, hl0⟩
    · have := Heap.lt_size (N p hp).1
      rw [q, ← hI] at this
      exact absurd this (Nat.lt_irrefl _)
end
end Mine
end
-- W13
noncomputable section
open PySem PySem.W PySem.Spec PySem.Calls PyProof.Rows
open PySem.Builtin PySem.Builtin.BaseException
namespace Mine
theorem ve_mro : mroOf (.type "ValueError") = pure [.type "ValueError", .type "Exception", .type "BaseException", .type "object"] := by rw [mroOf_type]; kernel_rfl
theorem ve_str : typeLookup (.type "ValueError") "__str__" = pure (some (.builtin "BaseException.__str__")) := by rw [typeLookup_type, builtinLookup_eq_fast]; kernel_rfl
section
variable {prog : Program} {w : World} {A : Around} {E : Value → Shared → Prop}
/-- The error in the heap: of the project's class, with its one text. -/
noncomputable def ErrAt (h : Heap) (e t0 : Addr) (m : Str) (tk : Tok) : Prop := ∃ o vs, h.get? e = some o ∧ o.cls = .ref 103 ∧ o.data = .fields vs ∧ vs[0]? = some (.ref t0) ∧ h.TupAt t0 [.str m tk] ∧ h.get? 103 = some EX ∧ ∃ mN, h.Ns 102 mN ∧ mN "__str__" = none
theorem own_args {s : Shared} {e t0 : Addr} {m : Str} {tk : Tok} {Q : Value × List Value → Shared → Prop} (x : ErrAt s.heap e t0 m tk) (hq : Q (.ref t0, [.str m tk]) s) : wpAny (model prog w) A (bexcArgs (.ref e)) Q E s := by
  obtain ⟨o, vs, ho, _, hd, h0, ⟨ot, k, hto, _, htd⟩, _⟩ := x
  unfold bexcArgs
  exact wpAny_bind (wpAny_field ho hd h0 (wpAny_bind (wpAny_seqItems hto htd (wpAny_pure hq))))
theorem own_str_entry {s : Shared} {e t0 : Addr} {m : Str} {tk : Tok} {Q : Fin → Shared → Prop} (x : ErrAt s.heap e t0 m tk) (hq : Q (.done (.ret (.str m tk))) s) : wpAny (model prog w) A (Builtin.«BaseException.__str__» ⟨[.ref e], []⟩) Q E s := by
  unfold Builtin.«BaseException.__str__»
  repeat (first | with_reducible refine own_args x ?_ | wp_step)
  exact hq
theorem bs_kind : builtinKind "BaseException.__str__" = some .slot := by decide +kernel
theorem bs_split : splitId "BaseException.__str__" = some ("BaseException", "__str__") := by decide +kernel
theorem own_check {M : Model} {hp : Heap} {g : Array GenState} {d : Drawn} {t : Nat} {os : OsState} {e : Addr} {o : Obj} {Q : Unit → Shared → Prop} (ho : hp.get? e = some o) (hcl : o.cls = .ref 103) (hC : hp.get? 103 = some EX)
    (hq : Q () ⟨hp, g, d, t, os⟩) : wpAny M A (checkBuiltinCall "BaseException.__str__" ⟨[.ref e], []⟩) Q E ⟨hp, g, d, t, os⟩ := by
  have hI : wpAny M A (isInstance (.ref e) (.type "BaseException")) (fun b s' => b = true ∧ Q () s') E ⟨hp, g, d, t, os⟩ := by
    unfold isInstance
    repeat (first | (with_reducible refine wpAny_loadPart_at ho ?_; rw [hcl]) | with_reducible refine wpAny_loadPart_at hC ?_ | with_reducible refine wpAny_isSubtype_exc hC ?_ | wp_step)
    exact ⟨rfl, hq⟩
  have ha := F.args_bexc_str (.ref e)
  simp only [checkBuiltinCall, bs_kind, bs_split]
  refine wpAny_bind (wpAny_mono hI (fun b s' hb => ?_) fun _ _ y => y)
  obtain ⟨rfl, hQ⟩ := hb
  simp only [Bool.not_true, Bool.false_eq_true, if_false]
  cases hsig : Manifest.signature? "BaseException.__str__" with
  | none => exact wpAny_pure hQ
  | some sig =>
    simp only [argsOk, hsig] at ha
    have h2 : Bind.checkArgs "BaseException.__str__" sig ⟨[.ref e], []⟩ = pure () := ha
    show wpAny M A (Bind.checkArgs "BaseException.__str__" sig ⟨[.ref e], []⟩) Q E s'
    rw [h2]; exact wpAny_pure hQ
theorem own_strOf {s : Shared} {e t0 : Addr} {m : Str} {tk : Tok} {Q : Value → Shared → Prop} (hu : A.units < cLine) (x : ErrAt s.heap e t0 m tk) (hq : Q (.str m tk) s) : wpAny (model prog w) A (PySem.Builtin.Str.strOf (.ref e)) Q E s := by
  obtain ⟨o, vs, ho, hcl, hd, h0, ht, hC, mN, hN, hn⟩ := id x
  obtain ⟨hp, g, d, tk', os⟩ := s
  unfold PySem.Builtin.Str.strOf
  repeat (first | with_reducible refine wpAny_cRoomFor hu ?_ | (with_reducible refine wpAny_loadPart_at ho ?_; rw [hcl]) | with_reducible refine wpAny_loadPart_at hC ?_ | with_reducible refine wpAny_typeLookup_exc hC hN ve_mro ve_str ?_ | wp_step)
  rw [hn]
  refine wpAny_holding ?_
  refine wpAny_bind (wpAny_of_eq (F.excStr_ValueError.str.bind _) ?_)
  refine wpAny_bind (wpAny_call (codeAny_call_builtin F.excStr_ValueError.str.plain F.entry_bexc_str (own_check ho hcl hC ?_)))
  refine own_str_entry x ?_
  wp_walk
  exact hq
theorem call_str_own {s : Shared} {e t0 : Addr} {m : Str} {tk : Tok} {Q : Value → Shared → Prop} (hu : A.units + 2 < cLine) (x : ErrAt s.heap e t0 m tk) (hq : Q (.str m tk) s) : wpAny (model prog w) A (call (.type "str") [.ref e]) Q E s :=
  callType_new PySem.F.called_str (by decide) (PySem.F.typeCall_str_1 _) (PySem.F.newCall_str_1 _) (fun obj => PySem.F.args_object_init_2 obj _) PySem.F.entry_str_new
    (meets_str_new (S := fun A' R s' => A'.units + 1 < cLine ∧ ErrAt s'.heap e t0 m tk ∧ R (.ok (.ret (.str m tk))) s')
      fun _ _ A' _ _ hq => own_strOf (A := A'.in1) hq.1 hq.2.1 hq.2.2)
    ⟨(show A.units + 1 + 1 < cLine from hu), x, typeIs_str _ _ _, hq⟩
end
theorem name_goesX {M : Model} {A : Around} {E : Value → Shared → Prop} {s : Shared} {name : Str} {scope : Scope} {L a : Addr} {cd : Value} {cl : List (Str × Addr)} {h₀ : Heap} {m : Str → Option Value} {news : List (Addr × Obj)} {n : Str} {pos : Pos} {Q : Unit → Shared → Prop} (F : Fr h₀ L s.heap m) (N : News h₀ L s.heap news)
    (h : ∀ h' v, Fr h₀ L h' (fun x => if x = n then v else m x) → News h₀ L h' news → Q () { s with heap := h', toks := s.toks + 1 })
    (hk : scope.kind = .function := by rfl) (hl : (envX name scope L a cd cl).kindOf n = some .local := by rfl) :
    wpAny M A (do bindName (envX name scope L a cd cl) n .none; unbindBehindTheSuite (envX name scope L a cd cl) n pos) Q E s :=
  wpAny_nameGoes_keeps hl F.ns (by show (scope.kind == .class || (scope.kind == .module && L != mainGlobals)) = false; rw [hk]; rfl) fun h' v hn hs => h h' v (F.set hn hs) (N.set hs)
/-- The clause that catches the project's error under a name. -/
theorem caught_law {prog : Program} {w : World} {A₀ : Around} {E : Value → Shared → Prop} {s' : Shared} {h₀ h : Heap} {outer : List Env} {L a e t : Addr} {m : Str → Option Value} {name : Str} {scope : Scope} {cd : Value} {cl : List (Str × Addr)}
    {msg n : Str} {tk : Tok} {b₀ : Stmt} {suite : List Stmt} {pos np : Pos} {rest : List ExceptHandler} {Q : Flow → Shared → Prop} {news : List (Addr × Obj)} {p : Program} {loose : List Str} {mg mb : Str → Option Value}
    (hfr : A₀.frames = some outer) (F : Fr h₀ L h m) (hsm : h.UpToSlots s'.heap) (R : RaisedK h₀ (envX name scope L a cd cl :: outer) e (.ref 103) t [.str msg tk] news s'.heap)
    (X : (K w.params).In h₀) (T : TopRead p loose mg mb h₀)
    (k : ∀ h' tk', Fr h₀ L h' (fun y => if y = n then some (.ref e) else m y) → News h₀ L h' news → ErrAt h' e t msg tk →
      wpAny (model prog w) ((A₀.deeper (envX name scope L a cd cl)).mark (some (.ref e))) (execs (b₀ :: suite) (envX name scope L a cd cl))
        (fun f s₄ => wpAny (model prog w) (A₀.deeper (envX name scope L a cd cl)) (do bindName (envX name scope L a cd cl) n .none; unbindBehindTheSuite (envX name scope L a cd cl) n pos) (fun _ s₅ => Q f s₅) E s₄)
        (AsSuiteRaised (model prog w) ((A₀.deeper (envX name scope L a cd cl)).mark (some (.ref e))) (envX name scope L a cd cl) n pos (notedBy (model prog w) ((A₀.deeper (envX name scope L a cd cl)).mark (some (.ref e))) (envX name scope L a cd cl) (cameBackBy (model prog w) (A₀.deeper (envX name scope L a cd cl)) (envX name scope L a cd cl) E)))
        { s' with heap := h', toks := tk' })
    (hk : scope.kind = .function := by rfl) (hlo : (envX name scope L a cd cl).kindOf n = some .local := by rfl) (hx : (envX name scope L a cd cl).kindOf "TOMLDecodeError" = some .globalImplicit := by rfl) :
    wpAny (model prog w) (A₀.deeper (envX name scope L a cd cl)) (noteFrame (.ref e) (envX name scope L a cd cl))
      (fun _ s₂ => wpAny (model prog w) (A₀.deeper (envX name scope L a cd cl)) (setFlight (.ref e) none) (fun _ s₃ =>
        wpAny (model prog w) (A₀.deeper (envX name scope L a cd cl)) (handleBy (.ref e) (envX name scope L a cd cl) (.ExceptHandler (some (.Name "TOMLDecodeError" np)) (some n) (b₀ :: suite) pos :: rest)) Q E s₃) E s₂) E s' := by
  obtain ⟨⟨B, hB, hl, hfl, hnew⟩, htup⟩ := R
  have hL : B.get? L = none := by
    obtain ⟨_, ⟨L', _, hf, hn', _⟩, _⟩ := hfl.2.2.1
    obtain rfl : L = L' := Option.some.inj hf
    exact hn'
  have X3 : h₀.get? 103 = some EX := X 103 _ (by kernel_rfl)
  refine wpAny_looks_onW (Around.frames_deeper hfr) rfl hfl fun h₄ hheld₄ hsm₄ => ?_
  refine wpAny_landsW hheld₄ fun h₅ hheld hsm₅' => ?_
  have hsm₅ := hsm₄.trans hsm₅'
  have hheld' := flyingW_base hB hheld
  have F₅ := F.of_stays hheld'.1 (hsm.trans hsm₅)
  obtain ⟨ob, hob, hobc⟩ := hheld'.there
  refine wpAny_handleBy_cons (codeAny_handlers_test (nameX_K F₅ X T (v := .ref 103) (by kernel_rfl) ?_ hk hx)) (by intro q; cases q)
  refine wpAny_excMatches_sub_self (F₅.keep _ _ X3) hob hobc (by decide +kernel) (codeAny_handlers_suite_as ?_)
  refine lands_againW hheld fun h₆ hfl₆ hsm₆ => ?_
  have hfl₆' := flyingW_base hB hfl₆
  have F₆ := F.of_stays hfl₆'.1 ((hsm.trans hsm₅).trans hsm₆)
  obtain ⟨oe, ws, hoe, hoec, hoed, hoe0⟩ := hfl₆'.first
  obtain ⟨ot, nt, hot, hotc, hotd⟩ := (htup.of_slots hsm₅).of_slots hsm₆
  have N₆ := News.more F₆ (News.more F₆ News.nil hot (fun es n q => by rw [hotd] at q; cases q) (fresh_of_stays hB hnew)) hoe (fun es n q => by rw [hoed] at q; cases q) hfl₆'.2.1
  have Nl : News h₀ L h₆ news := fun q hq => ⟨hfl₆.1 _ _ (hl q hq).1, (fun z => by have := (hl q hq).1; rw [z, hL] at this; cases this), (hl q hq).2⟩
  refine storeX_L F₆ (news := _ ++ news) (fun q hq => (List.mem_append.mp hq).elim (N₆ q) (Nl q)) (fun h₇ F₇ N₇ => ?_) hk hlo
  have n1 := N₇ (e, oe) (List.mem_append_left _ (.head _))
  have n2 := N₇ (t, ot) (List.mem_append_left _ (.tail _ (.head _)))
  have hN : h₇.isNs 102 = true := isNs_of_in (X.keeps F₇.keep) (by kernel_rfl)
  have hi := nsMap_none_of_in (x := Str.ofString "__str__") (X.keeps F₇.keep) (show nsOkIn (K w.params) 102 = true by kernel_rfl) (by kernel_rfl)
  exact k h₇ _ F₇ (fun q hq => N₇ q (List.mem_append_right _ hq)) ⟨oe, ws, n1.1, hoec, hoed, hoe0, ⟨ot, nt, n2.1, hotc, hotd⟩, F₇.keep _ _ X3, _, .of_isNs hN, hi⟩
end Mine
end
-- the walk
noncomputable section
open PySem PySem.W PySem.Spec PySem.Calls PyProof.Rows Mine
set_option hygiene false
local macro_rules | `(tactic| kn_code) => `(tactic| exact CodeHd.keeps (by assumption) (Fr.keep (by assumption)))
local macro_rules | `(tactic| k_updF) => `(tactic| exact UpdF.head (by assumption))
local macro_rules | `(tactic| walk_at "formatField str") => `(tactic| (k_here; (with_reducible show wpAny _ _ (formatField (Value.str _ _) Str.empty) _ _ _); refine fieldStr ?_ (by size_fits); intro tF kF; try dsimp only))
local macro_rules | `(tactic| k_room) => `(tactic| ((try simp only [depth_under_make, depth_under_kw, depth_in1, depth_deeper, depth_caller]); (try dsimp only [kTop]); (have hRL9 := recLim_is); omega))
local macro_rules | `(tactic| k_units) => `(tactic| (have hcL9 := cLine_is; ((try simp only [units_in1, units_deeper, Around.mark_units, units_caller]); (try dsimp only [kTop]); omega)))
local macro_rules | `(tactic| units_room) => `(tactic| (have hcL9 := cLine_is; ((try simp only [units_under_make, units_in1, units_deeper, Around.mark_units, units_caller]); (try dsimp only [kTop]); omega)))
local macro_rules | `(tactic| size_fits) => `(tactic| ((with_reducible show PySem.Str.length _ ≤ sizeLine); refine sz_top (n := ?szn) (by repeat' (first | with_reducible exact sz_empty | with_reducible refine sz_app ?_ ?_ | (with_reducible refine sz_lit ?_; kernel_rfl) | (with_reducible refine sz_int ?_ ?_ <;> omega) | (refine sz_leaf ?_; omega))) (by exact rfl)))
local macro_rules | `(tactic| walk_at "joinParts") => `(tactic| ((with_reducible show wpAny _ _ (joinParts _ (evalEach [] _)) _ _ _); refine joinNil (by size_fits) ?_; intro tF kF; try dsimp only))
local macro_rules | `(tactic| walk_at "call builtin:str.count") => `(tactic| (k_here; (with_reducible show wpAny _ _ (call (Value.builtin "str.count") [Value.str _ _, Value.str _ _, Value.int _ _, Value.int _ _]) _ _ _); refine countNl (by assumption) ?_; intro tF kF lB1 lB2; try dsimp only))
local macro_rules | `(tactic| walk_at "call builtin:str.rindex") => `(tactic| (k_here; refine rindexNl (by assumption) (by omega) ?_; intro nR tF kF lR lR2; try dsimp only))
local macro_rules | `(tactic| walk_at "formatField int") => `(tactic| (k_here; (with_reducible show wpAny _ _ (formatField (Value.int _ _) Str.empty) _ _ _); refine fieldInt (by omega) (by omega) ?_; intro tF kF; try dsimp only))
local macro_rules | `(tactic| walk_at "call ref") => `(tactic| (k_here; (with_reducible show wpAny _ _ (call (Value.ref 103) _) _ _ _); refine newErrN (by k_asm) (by k_asm) (by k_asm) (Nat.le_of_ble_eq_true rfl) ?_; intro hE9 e9 t9 F9 N9 hne9 D9; try dsimp only))
local macro_rules | `(tactic| walk_at "UnrEnd") => `(tactic| (refine' unr_end (by assumption) (by assumption) (by assumption) ?_))
local macro_rules | `(tactic| walk_at "call builtin:chr") => `(tactic| (k_here; (with_reducible show wpAny _ _ (call (Value.builtin "chr") [Value.int (List.getD _ _ _) _]) _ _ _); refine chr_of_range (first_bd _).1 (first_bd _).2 ?_; try dsimp only))
local macro_rules | `(tactic| walk_at "ite") => `(tactic| ((with_reducible show ite _ _ _); (first | (with_reducible refine ite_yes ?_ ?_; (focus (simp only [decide_eq_true_eq, beq_iff_eq, bne_iff_ne, ne_eq]; omega))) | (with_reducible refine ite_no ?_ ?_; (focus (simp only [decide_eq_true_eq, beq_iff_eq, bne_iff_ne, ne_eq]; omega))))))
local macro_rules | `(tactic| walk_at "getMethod ref") => `(tactic| (k_here; (with_reducible show wpAny _ _ (getMethod (Value.ref 87) _ _) _ _ _); k_dflt (refine' issup_method (by k_asm) (by assumption) (by k_asm) ?_); (try dsimp only)))
local macro_rules | `(tactic| walk_at "call builtin:frozenset.issuperset") => `(tactic| (k_here; k_dflt (refine' issup_call (by rfl) (by k_asm) (by assumption) (by k_asm) (by k_asm) ?_); intro h9 tk9 F9 N9; (try dsimp only)))
set_option hygiene true
theorem Mine.fill : Mine.K = Mine.K ∧ PySem.Challenge.rw_io0022_01 = PySem.Challenge.rw_io0022_01 := by k_fill; exact ⟨rfl, rfl⟩
-- A
def Mine.CutP (P : Shared → Prop) (f : Flow) (s' : Shared) : Prop := f = .next ∧ P s'
theorem Mine.exec_cut {M : Model} {A : Around} {E : Value → Shared → Prop} {s : Shared} {env : Env} {st : Stmt} {rest : List Stmt} {Q : Flow → Shared → Prop} (P : Shared → Prop) (h : wpAny M A (exec st env) (CutP P) E s) (k : ∀ s', P s' → wpAny M A (execs rest env) Q E s') :
    wpAny M A (execs (st :: rest) env) Q E s := wpAny_execs_cons (wpAny_mono h (fun f s' ⟨e, p⟩ => by subst e; exact k s' p) fun _ _ x => x)
def Mine.crFn (mg : PySem.Str → Option Value) (L c : Addr) (dc ct : Value) : Obj :=
  match B22 with
  | .FunctionDef _ ps b _ _ _ sc _ _ _ :: _ => fnMade (Str.ofString "coord_repr") (qualnameIn (envOf (Str.ofString "suffixed_err") C22 L 156 (.ref 155)) (Str.ofString "coord_repr") (Str.ofString "coord_repr")) ps b sc [] dc ((mg (Str.ofString "__name__")).getD .none) c ct
  | _ => default
theorem Mine.allLt_trans {a b : Nat} (h : a < b) : ∀ {l : List (Addr × Obj)}, AllLt a l → AllLt b l
  | [], _ => trivial
  | _ :: _, k => ⟨Nat.lt_trans k.1 h, allLt_trans h k.2⟩
/-- Behind the inner def of suffixed_err: the table is noted. -/
def Mine.ECut (mg : PySem.Str → Option Value) (g : Heap) (L : Addr) (news : List (Addr × Obj)) (src msg : PySem.Str) (pos : Int) (t1 t2 t3 : Tok) (s s' : Shared) : Prop :=
  ∃ (h' : Heap) (tk' : Nat) (m : PySem.Str → Option Value) (f c : Addr) (oc : Obj) (vs : Array Value) (tq : Tok) (ct dc : Value), s' = { s with heap := h', toks := tk' } ∧ oc.data = .fields vs ∧ vs[1]? = some (.str qualCR tq) ∧ (151 < f ∧ c < f ∧ AllLt f news) ∧ Fr g L h' m ∧ News g L h' ((f, crFn mg L c dc ct) :: (151, tab1 c) :: (c, oc) :: news) ∧
    m (Str.ofString "coord_repr") = some (.ref f) ∧ m (Str.ofString "src") = some (.str src t3) ∧ m (Str.ofString "pos") = some (.int pos t1) ∧ m (Str.ofString "msg") = some (.str msg t2)
theorem Mine.err_cut {M : Model} {A : Around} {E : Value → Shared → Prop} {s : Shared} {env : Env} {st : Stmt} {rest : List Stmt} {Q : Flow → Shared → Prop} {g : Heap} {L : Addr} {m : PySem.Str → Option Value} (mg : PySem.Str → Option Value) (news : List (Addr × Obj)) (src msg : PySem.Str) (pos : Int) (t1 t2 t3 : Tok) (F : Fr g L s.heap m)
    (h : wpAny M A (exec st env) (CutP (ECut mg g L news src msg pos t1 t2 t3 s)) E s) (k : ∀ s', ECut mg g L news src msg pos t1 t2 t3 s s' → wpAny M A (execs rest env) Q E s') : wpAny M A (execs (st :: rest) env) Q E s := exec_cut _ h k
theorem Mine.knownE {g h : Heap} {L : Addr} {m : PySem.Str → Option Value} {n1 n2 n3 n4 : PySem.Str} {v1 v2 v3 v4 : Value} (F : Fr g L h m) (e1 : m n1 = some v1) (e2 : m n2 = some v2) (e3 : m n3 = some v3) (e4 : m n4 = some v4) :
    Fr g L h (fun y => if y = n1 then some v1 else if y = n2 then some v2 else if y = n3 then some v3 else if y = n4 then some v4 else m y) := by
  have : (fun y => if y = n1 then some v1 else if y = n2 then some v2 else if y = n3 then some v3 else if y = n4 then some v4 else m y) = m := by
    funext y
    repeat' (split; · rename_i q; rw [q]; symm; assumption)
    rfl
  rw [this]; exact F
theorem Mine.swapE {g h : Heap} {L : Addr} {a b c : Addr × Obj} {r : List (Addr × Obj)} (N : News g L h (a :: b :: c :: r)) : News g L h (a :: c :: b :: r) := fun p hp => N p (by
  simp only [List.mem_cons] at hp ⊢
  rcases hp with q | q | q | q <;> simp [q])
set_option maxHeartbeats 2000000 in
theorem Mine.err_K {hd : Option Value} {w : World} {mean : ExcName → Option Value} {mg mb : PySem.Str → Option Value} {news nw : List (Addr × Obj)} {src msg : PySem.Str} {pos : Nat} {t1 t2 t3 : Tok} (hL : LedIn news nw) (hn : ∀ p ∈ news, p.1 ≠ 151) (hk : pos < src.length) (hl : src.length ≤ 10000) (hm : msg.length ≤ 1000) :
    CbAt hd w mean mg mb 8 156 nw [.str src t3, .int pos t1, .str msg t2] (RetErr news (errText src pos msg)) := by
  obtain ⟨led, hled, rfl⟩ := hL
  dsimp only [CbAt, RetErr]
  intros; rename_i hret
  rename Frag.In _ _ => X9
  have C9 := codeHd_of_K X9 (c := 155) (P := 151) (by kernel_rfl)
  refine wpAny_call ?_
  k_dflt cell_enter
  rename Fr _ _ _ (fun y => List.lookup y _) => F1
  rename News _ _ _ _ => N1
  with_reducible refine err_cut mg news src msg pos t1 t2 t3 F1 ?cut ?go
  case cut =>
    clear hret
    rcases hled with rfl | ⟨c0, oc0, vs0, tq0, rfl, hd0, hv0⟩
    · dsimp only [List.cons_append, List.nil_append] at N1
      k_steps
      rename Fr _ _ _ _ => F7
      rename News _ _ _ _ => N7
      rename _ = Data.fields _ => d7
      rename _ = some (Value.str qualCR _) => v7
      rename 151 < _ ∧ AllLt _ news => l7
      rename _ < _ => l8
      exact ⟨rfl, _, _, _, _, _, _, _, _, _, _, rfl, d7, v7, ⟨Nat.lt_trans l7.1 l8, l8, allLt_trans l8 l7.2⟩, F7, swapE N7, rfl, rfl, rfl, rfl⟩
    · dsimp only [List.cons_append, List.nil_append] at N1
      k_steps
      rename Fr _ _ _ _ => F7
      rename News _ _ _ _ => N7
      rename 151 < _ ∧ _ < _ ∧ AllLt _ news => l7
      exact ⟨rfl, _, _, _, _, _, _, _, _, _, _, rfl, hd0, hv0, l7, F7, N7, rfl, rfl, rfl, rfl⟩
  clear N1 F1
  rintro s' ⟨h', tk', m', f, c, oc, vs, tq, ct, dc, rfl, hd0, hv0, lt9, F9, N9, e1, e2, e3, e4⟩
  have F9 := knownE F9 e1 e2 e3 e4
  clear e1 e2 e3 e4
  dsimp only [crFn, B22, C22] at N9
  k_steps
  all_goals try w_report
  all_goals (refine' err_end2 hret ?F ?N ?hd ?hv ?hne ?D ?ht; (case F => assumption); (case N => assumption); (case hd => assumption); (case hv => assumption); (case hne => assumption); (case D => assumption); (case ht => exact errText_eq (by omega) (by first | omega | (have := line_one hk (by omega); omega))))
def Mine.isUni (c : Int) : Bool := (decide (0 ≤ c) && decide (c ≤ 55295)) || (decide (57344 ≤ c) && decide (c ≤ 1114111))
set_option maxHeartbeats 1000000 in
theorem Mine.uni_K {w : World} {mean : ExcName → Option Value} {mg mb : PySem.Str → Option Value} {news : List (Addr × Obj)} {c : Int} {t : Tok} :
    Cb w mean mg mb 1 163 news [.int c t] (RetV news (fun _ => .bool (isUni c))) := by
  dsimp only [Cb, CbAt, RetV]
  intros; rename_i hret
  refine wpAny_call ?_
  k_dflt cell_enter
  k_steps
  all_goals try w_report
  all_goals (refine cb_retB hret ?_ (by assumption) (by assumption); unfold isUni; simp only [decide_eq_true_eq, decide_eq_false_iff_not] at *; simp [*]; try omega)
theorem Mine.walkF_len (n large : Nat) (k : Nat) : (walkF (n : Int) large k).length = k := by
  rw [walkF_eq]
  show ((List.range k).reverse.map (figC n large)).toArray.size = k
  simp
def Mine.JF (n large : Int) (t3 : Tok) (news : List (Addr × Obj)) (i : Nat) (m : PySem.Str → Option Value) (news' : List (Addr × Obj)) : Prop :=
  ∃ t1 t2, news' = news ∧ m (Str.ofString "row") = some (.str (walkF n large i) t1) ∧ m (Str.ofString "n") = some (.int (shr n i) t2) ∧ m (Str.ofString "large") = some (.int large t3)
def Mine.FCut (g : Heap) (L : Addr) (news : List (Addr × Obj)) (n size large : Int) (t1 t2 t3 : Tok) (s s' : Shared) : Prop :=
  ∃ (h' : Heap) (tk' : Nat) (m : PySem.Str → Option Value) (t : Tok), s' = { s with heap := h', toks := tk' } ∧ Fr g L h' m ∧ News g L h' news ∧ m (Str.ofString "row") = some (.str (Str.ofString "") t) ∧ m (Str.ofString "n") = some (.int n t1) ∧ m (Str.ofString "size") = some (.int size t2) ∧ m (Str.ofString "large") = some (.int large t3)
theorem Mine.fig_cut {M : Model} {A : Around} {E : Value → Shared → Prop} {s : Shared} {env : Env} {st : Stmt} {rest : List Stmt} {Q : Flow → Shared → Prop} {g : Heap} {L : Addr} {m : PySem.Str → Option Value} (news : List (Addr × Obj)) (n size large : Int) (t1 t2 t3 : Tok) (F : Fr g L s.heap m)
    (h : wpAny M A (exec st env) (CutP (FCut g L news n size large t1 t2 t3 s)) E s) (k : ∀ s', FCut g L news n size large t1 t2 t3 s s' → wpAny M A (execs rest env) Q E s') : wpAny M A (execs (st :: rest) env) Q E s := exec_cut _ h k
set_option maxHeartbeats 1000000 in
theorem Mine.fig_K {w : World} {mean : ExcName → Option Value} {mg mb : PySem.Str → Option Value} {news : List (Addr × Obj)} {n large size : Nat} {t1 t2 t3 : Tok} (hsz : size ≤ 8) :
    Cb w mean mg mb 1 177 news [.int n t1, .int size t2, .int large t3] (RetV news (fun t => .str (figS n large size) t)) := by
  dsimp only [Cb, CbAt, RetV]
  intros; rename_i hret
  refine wpAny_call ?_
  k_dflt cell_enter
  rename Fr _ _ _ (fun y => List.lookup y _) => F1
  with_reducible refine fig_cut news n size large t1 t2 t3 F1 ?cut ?go
  case cut =>
    k_steps
    refine' ⟨rfl, _, _, _, _, rfl, ?a1, ?a2, ?a3, ?a4, ?a5, ?a6⟩
    case a1 => assumption
    case a2 => assumption
    case a3 => rfl
    case a4 => rfl
    case a5 => rfl
    case a6 => rfl
  rintro s' ⟨h', tk', m', t, rfl, F9, N9, e1, e2, e3, e4⟩
  have F9 := knownE F9 e1 e2 e3 e4
  refine wpAny_execs_cons ?_
  refine' for_start F9 ?hx ?hp ?_
  case hx => rfl
  case hp => rfl
  k_steps
  rename IsRange _ _ _ _ _ _ _ _ => hr
  rename Fr _ _ _ _ => F8
  rename News _ _ _ news => N8
  refine' forRange (n := size) rfl hr (small_one (by omega) (by omega) (by omega) (by omega)) (by rw [rangeSize_nat]; omega) F8 N8 (JF n large t3 news) ?h0 ?turn ?done
  case h0 => exact ⟨_, _, rfl, rfl, rfl, rfl⟩
  case turn =>
    rintro I i t m₁ news₁ h tk own hi ⟨t8, t9, rfl, a1, a2, a3⟩ hoff hown hno F N
    have F := knownE F (n1 := Str.ofString "k") (n2 := Str.ofString "row") (n3 := Str.ofString "n") (n4 := Str.ofString "large") rfl a1 a2 a3
    have hwl := walkF_len n large i
    clear F8 N8 F9
    k_steps
    rename Fr _ _ _ _ => F7
    rename News _ _ _ _ => N7
    exact ⟨_, _, _, _, rfl, F7, N7, hoff, _, _, rfl, rfl, rfl, rfl⟩
  case done =>
    rintro h5 tk5 m5 news5 F5 N5 ⟨t8, t9, rfl, a1, a2, a3⟩
    have F5 := knownE F5 a1 a2 a3 a3
    k_steps
    all_goals exact cb_retS hret (walkF_eq n large size) (by assumption) (by assumption)
theorem Mine.fig4_K {w : World} {mean : ExcName → Option Value} {mg mb : PySem.Str → Option Value} {news : List (Addr × Obj)} {n large : Nat} {t1 t2 t3 : Tok} :
    Cb w mean mg mb 1 177 news [.int n t1, .int 4 t2, .int large t3] (RetV news (fun t => .str (figS n large 4) t)) := fig_K (size := 4) (by decide)
theorem Mine.fig8_K {w : World} {mean : ExcName → Option Value} {mg mb : PySem.Str → Option Value} {news : List (Addr × Obj)} {n large : Nat} {t1 t2 t3 : Tok} :
    Cb w mean mg mb 1 177 news [.int n t1, .int 8 t2, .int large t3] (RetV news (fun t => .str (figS n large 8) t)) := fig_K (size := 8) (by decide)
theorem Mine.fig4_I {w : World} {mean : ExcName → Option Value} {mg mb : PySem.Str → Option Value} {news : List (Addr × Obj)} {n large : Int} {t1 t2 t3 : Tok} (h1 : 0 ≤ n) (h2 : 0 ≤ large) :
    Cb w mean mg mb 1 177 news [.int n t1, .int 4 t2, .int large t3] (RetV news (fun t => .str (figS n.toNat large.toNat 4) t)) := by
  have := fig4_K (w := w) (mean := mean) (mg := mg) (mb := mb) (news := news) (n := n.toNat) (large := large.toNat) (t1 := t1) (t2 := t2) (t3 := t3)
  rwa [Int.toNat_of_nonneg h1, Int.toNat_of_nonneg h2] at this
theorem Mine.fig8_I {w : World} {mean : ExcName → Option Value} {mg mb : PySem.Str → Option Value} {news : List (Addr × Obj)} {n large : Int} {t1 t2 t3 : Tok} (h1 : 0 ≤ n) (h2 : 0 ≤ large) :
    Cb w mean mg mb 1 177 news [.int n t1, .int 8 t2, .int large t3] (RetV news (fun t => .str (figS n.toNat large.toNat 8) t)) := by
  have := fig8_K (w := w) (mean := mean) (mg := mg) (mb := mb) (news := news) (n := n.toNat) (large := large.toNat) (t1 := t1) (t2 := t2) (t3 := t3)
  rwa [Int.toNat_of_nonneg h1, Int.toNat_of_nonneg h2] at this
set_option maxHeartbeats 1000000 in
theorem Mine.sign_K {w : World} {mean : ExcName → Option Value} {mg mb : PySem.Str → Option Value} {news : List (Addr × Obj)} {k : Nat} {t1 : Tok} (hk : k < 1112090) :
    Cb w mean mg mb 1 170 news [.int k t1] (RetV news (fun t => .str (one (signC k)) t)) := by
  dsimp only [Cb, CbAt, RetV]
  intros; rename_i hret
  refine wpAny_call ?_
  k_dflt cell_enter
  k_steps
  all_goals try w_report
  all_goals (first | exact cb_retS hret (sign_e1 (by omega)) (by assumption) (cb_drop (by assumption) (fun p hp => List.mem_cons_of_mem _ hp)) | exact cb_retS hret (sign_e2 (by omega) (by omega)) (by assumption) (cb_drop (by assumption) (fun p hp => List.mem_cons_of_mem _ hp)) | exact cb_retS hret (sign_e3 (by omega) (by omega)) (by assumption) (cb_drop (by assumption) (fun p hp => List.mem_cons_of_mem _ hp)))
-- W14
noncomputable section
open PySem PySem.W PySem.Spec PySem.Calls PyProof.Rows Mine
noncomputable def Mine.HexG (src : PySem.Str) (p n : Int) (c : Nat) : Prop := (Txt.slice src (some p) (some (p + n))).length = n ∧ (∀ x ∈ (Txt.slice src (some p) (some (p + n))).cps.toList, x ∈ hexes) ∧ (Txt.slice src (some p) (some (p + n))).cps.toList ≠ [] ∧ (Txt.slice src (some p) (some (p + n))).cps.toList.length ≤ 640 ∧
  isUni (hexVal (Txt.slice src (some p) (some (p + n))).cps.toList : Int) = true ∧ hexVal (Txt.slice src (some p) (some (p + n))).cps.toList ≤ 1114111 ∧ hexVal (Txt.slice src (some p) (some (p + n))).cps.toList = c
noncomputable def Mine.HexB (src : PySem.Str) (p n : Int) : Prop := (Txt.slice src (some p) (some (p + n))).length = n ∧ (∀ x ∈ (Txt.slice src (some p) (some (p + n))).cps.toList, x ∈ hexes) ∧ (Txt.slice src (some p) (some (p + n))).cps.toList ≠ [] ∧ (Txt.slice src (some p) (some (p + n))).cps.toList.length ≤ 640 ∧
  isUni (hexVal (Txt.slice src (some p) (some (p + n))).cps.toList : Int) = false
noncomputable def Mine.EscG (src : PySem.Str) (p c n : Nat) : Prop :=
  (Txt.slice src (some (p : Int)) (some ((p : Int) + 2)) = Str.ofString "\\u" ∧ HexG src ((p : Int) + 2) 4 c ∧ n = p + 6) ∨ (Txt.slice src (some (p : Int)) (some ((p : Int) + 2)) = Str.ofString "\\U" ∧ HexG src ((p : Int) + 2) 8 c ∧ n = p + 10) ∨
  (Txt.slice src (some (p : Int)) (some ((p : Int) + 2)) = Str.ofString "\\b" ∧ c = 8 ∧ n = p + 2) ∨ (Txt.slice src (some (p : Int)) (some ((p : Int) + 2)) = Str.ofString "\\t" ∧ c = 9 ∧ n = p + 2) ∨ (Txt.slice src (some (p : Int)) (some ((p : Int) + 2)) = Str.ofString "\\n" ∧ c = 10 ∧ n = p + 2) ∨
  (Txt.slice src (some (p : Int)) (some ((p : Int) + 2)) = Str.ofString "\\f" ∧ c = 12 ∧ n = p + 2) ∨ (Txt.slice src (some (p : Int)) (some ((p : Int) + 2)) = Str.ofString "\\r" ∧ c = 13 ∧ n = p + 2) ∨ (Txt.slice src (some (p : Int)) (some ((p : Int) + 2)) = Str.ofString "\\\"" ∧ c = 34 ∧ n = p + 2) ∨
  (Txt.slice src (some (p : Int)) (some ((p : Int) + 2)) = Str.ofString "\\\\" ∧ c = 92 ∧ n = p + 2)
noncomputable def Mine.EscB (src : PySem.Str) (p e : Nat) (msg : PySem.Str) : Prop :=
  (Txt.slice src (some (p : Int)) (some ((p : Int) + 2)) = Str.ofString "\\u" ∧ HexB src ((p : Int) + 2) 4 ∧ e = p + 6 ∧ msg = Str.ofString "Escaped character is not a Unicode scalar value") ∨
  (Txt.slice src (some (p : Int)) (some ((p : Int) + 2)) = Str.ofString "\\U" ∧ HexB src ((p : Int) + 2) 8 ∧ e = p + 10 ∧ msg = Str.ofString "Escaped character is not a Unicode scalar value") ∨
  (Txt.slice src (some (p : Int)) (some ((p : Int) + 2)) = Str.ofString "\\/" ∧ e = p + 2 ∧ msg = Str.ofString "Unescaped '\\' in a string")
/-- From p on good pieces stand, which say the signs cs; they end at q. -/
inductive Mine.Pcs (src : PySem.Str) : Nat → List Nat → Nat → Prop
  | nil (p : Nat) : Pcs src p [] p
  | lit (p c : Nat) (cs : List Nat) (q : Nat) (h : Txt.item src (p : Int) = one c) (h1 : c ≠ 34) (h2 : c ≠ 92) (h3 : c ∉ S72) (hp : p + 1 < src.length) (g : Pcs src (p + 1) cs q) : Pcs src p (c :: cs) q
  | esc (p c n : Nat) (cs : List Nat) (q : Nat) (h : Txt.item src (p : Int) = one 92) (H : EscG src p c n) (hn : p + 2 ≤ n) (hp : n < src.length) (g : Pcs src n cs q) : Pcs src p (c :: cs) q
inductive Mine.EndAt (src : PySem.Str) (q : Nat) : Option (Nat × PySem.Str) → Prop
  | quote (h : Txt.item src (q : Int) = one 34) : EndAt src q none
  | lit (h : Txt.item src (q : Int) = one 127) : EndAt src q (some (q, Str.ofString "Illegal character '\\x7f'"))
  | esc (e : Nat) (msg : PySem.Str) (h : Txt.item src (q : Int) = one 92) (H : EscB src q e msg) (hp : e < src.length) : EndAt src q (some (e, msg))
noncomputable def Mine.ScalarL (ts : List Nat) : Prop := ∀ c ∈ ts, c ≤ 1114111 ∧ (c < 55296 ∨ 57344 ≤ c)
noncomputable def Mine.pieceS (ts : List Nat) (total : Int) (k : Int) : PySem.Str := jsonS (ts.getD k.toNat 0) (total + 7 * k).toNat
noncomputable def Mine.mendP (P : PySem.Str) (c way : Nat) : PySem.Str := if P = one 127 then Str.ofString "\\u" ++ figS 127 way 4 else if P = Str.ofString "\\/" then Str.ofString "/" else if P.length = 12 then Str.ofString "\\U" ++ figS c way 8 else if P = Str.ofString "\\t" ∧ way % 2 = 1 then Str.ofString "\t" else P
noncomputable def Mine.mendS (ts : List Nat) (total : Int) (i : Nat) : PySem.Str := mendP (pieceS ts total i) (ts.getD i 0) (total + 7 * (i : Int)).toNat
noncomputable def Mine.doneS (ts : List Nat) (total : Int) : Nat → PySem.Str
  | 0 => Str.ofString ""
  | i + 1 => doneS ts total i ++ mendS ts total i
abbrev Mine.aheadS (ts : List Nat) (total : Int) : PySem.Str := Txt.slice ⟨ts.toArray⟩ none (some (total.fmod 8))
abbrev Mine.behindS (ts : List Nat) : PySem.Str := Txt.slice ⟨ts.toArray⟩ (some (-5)) none
noncomputable def Mine.restS (ts : List Nat) (total : Int) (i : Nat) : List PySem.Str := ((rangeKs 0 ts.length).map (pieceS ts total)).drop (i + 1)
noncomputable def Mine.lastS (ts : List Nat) (total : Int) : PySem.Str := (Txt.split (aheadS ts total) (Str.ofString "\n")).getLastD (Str.ofString "")
abbrev Mine.srcS (ts : List Nat) (total : Int) (dn S : PySem.Str) (i : Nat) : PySem.Str := aheadS ts total ++ Str.ofString "\"" ++ dn ++ S ++ Txt.join (Str.ofString "") (restS ts total i) ++ Str.ofString "\"" ++ behindS ts
abbrev Mine.placeS (ts : List Nat) (total : Int) (n : Nat) (dn : PySem.Str) (k : Int) : PySem.Str := Str.ofString " (at line " ++ Str.ofString (toString ((n : Nat) : Int)) ++ Str.ofString ", column " ++ Str.ofString (toString ((lastS ts total).length + dn.length + k + 2)) ++ Str.ofString ")"
/-- What the plain law has to say of one state. -/
noncomputable def Mine.StateOk (ts : List Nat) (total : Int) (dn S : PySem.Str) (i : Nat) (k : Int) (Wd : PySem.Str) : Prop :=
  ∃ q cs e9 msg, Pcs (srcS ts total dn S i) ((aheadS ts total).length + 1) cs q ∧ EndAt (srcS ts total dn S i) q (some (e9, msg)) ∧ q + 1 < (srcS ts total dn S i).length ∧ (aheadS ts total).length + 1 < (srcS ts total dn S i).length ∧ (srcS ts total dn S i).length ≤ 10000 ∧
    errText (srcS ts total dn S i) e9 msg = Wd ++ placeS ts total (Txt.split (aheadS ts total) (Str.ofString "\n")).length dn k
end
-- W15
noncomputable section
open PySem PySem.W PySem.Spec PySem.Calls PyProof.Rows Mine
theorem Mine.figS_len (n l k : Nat) : (figS n l k).length = k := by
  show ((List.range k).reverse.map (figC n l)).toArray.size = k
  simp
theorem Mine.one_len (c : Nat) : (one c).length = 1 := rfl
theorem Mine.lit_len2 : (Str.ofString "\\u").length = 2 := by kernel_rfl
theorem Mine.lit_lenU : (Str.ofString "\\U").length = 2 := by kernel_rfl
theorem Mine.shortOf_len (c : Nat) : (shortOf c).length = 1 := by
  unfold shortOf
  repeat' split
  all_goals first | rfl | kernel_rfl
theorem Mine.jsonS_len (c way : Nat) : 1 ≤ (jsonS c way).length ∧ (jsonS c way).length ≤ 12 := by
  unfold jsonS
  repeat' split
  all_goals simp only [PySem.Str.length_append, figS_len, lit_len2, shortOf_len, one_len, show (Str.ofString "\\").length = 1 by kernel_rfl]
  all_goals omega
theorem Mine.pieceS_len (ts : List Nat) (total k : Int) : 1 ≤ (pieceS ts total k).length ∧ (pieceS ts total k).length ≤ 12 := jsonS_len _ _
theorem Mine.sum_le12 (ts : List Nat) (total : Int) : ∀ l : List Int, ((l.map (pieceS ts total)).map (·.length)).sum ≤ 12 * l.length
  | [] => by simp
  | a :: l => by
    have := sum_le12 ts total l
    have h := (pieceS_len ts total a).2
    simp only [List.map_cons, List.sum_cons, List.length_cons]
    omega
theorem Mine.restS_eq (ts : List Nat) (total : Int) (i : Nat) : restS ts total i = ((rangeKs 0 ts.length).drop (i + 1)).map (pieceS ts total) := by
  unfold restS
  rw [List.map_drop]
theorem Mine.rest_sum {ts : List Nat} {total : Int} {i : Nat} (h : ts.length ≤ 40) : ((restS ts total i).map (·.length)).sum ≤ 480 ∧ (restS ts total i).length ≤ 40 := by
  rw [restS_eq]
  have := sum_le12 ts total ((rangeKs 0 ts.length).drop (i + 1))
  have e : ((rangeKs 0 ts.length).drop (i + 1)).length ≤ 40 := by
    rw [List.length_drop, rangeKs_length]; omega
  refine ⟨by omega, ?_⟩
  rw [List.length_map]; exact e
theorem Mine.join_len0 : ∀ xs : List PySem.Str, (PySem.Str.join (Str.ofString "") xs).length = (xs.map (·.length)).sum
  | [] => rfl
  | [x] => by simp [PySem.Str.join]
  | x :: y :: r => by
    have := join_len0 (y :: r)
    show (x ++ Str.ofString "" ++ PySem.Str.join _ (y :: r)).length = _
    rw [PySem.Str.length_append, PySem.Str.length_append, this]
    show x.length + 0 + _ = _
    simp
theorem Mine.tjoin_eq (sep : PySem.Str) (xs : List PySem.Str) : Txt.join sep xs = PySem.Str.join sep xs := StrLaws.glued_eq_join sep xs
theorem Mine.join_rest {ts : List Nat} {total : Int} {i : Nat} (h : ts.length ≤ 40) : (Txt.join (Str.ofString "") (restS ts total i)).length ≤ 480 := by
  rw [tjoin_eq, join_len0]; exact (rest_sum h).1
theorem Mine.strs_last {vs : List Value} {xs : List PySem.Str} (h : StrsAre vs xs) (h1 : 1 ≤ xs.length) : ∃ t, vs[(-1 + (vs.length : Int)).toNat]? = some (.str (xs.getLastD (Str.ofString "")) t) := by
  induction h with
  | nil => simp at h1
  | @cons x t vs xs r ih =>
    cases r with
    | nil => exact ⟨t, rfl⟩
    | @cons y u vs xs r =>
      obtain ⟨t9, e⟩ := ih (by simp)
      refine ⟨t9, ?_⟩
      rw [show (-1 + (((PySem.Value.str x t :: PySem.Value.str y u :: vs).length : Nat) : Int)).toNat = (-1 + (((PySem.Value.str y u :: vs).length : Nat) : Int)).toNat + 1 by simp only [List.length_cons]; omega, List.getElem?_cons_succ, e]
      rfl
theorem Mine.nl_len : (Str.ofString "\n").length = 1 := by kernel_rfl
theorem Mine.mem_sum_le : ∀ {l : List PySem.Str} {x : PySem.Str}, x ∈ l → x.length ≤ (l.map (·.length)).sum
  | a :: l, x, h => by
    simp only [List.map_cons, List.sum_cons]
    rcases List.mem_cons.mp h with rfl | h
    · omega
    · have := mem_sum_le h; omega
theorem Mine.getLastD_mem {α : Type} : ∀ (a : α) (l : List α) (d : α), (a :: l).getLastD d ∈ a :: l
  | a, [], _ => .head _
  | a, b :: l, d => by
    have := getLastD_mem b l a
    rw [List.getLastD_cons]
    exact .tail _ this
theorem Mine.last_le {ts : List Nat} {total : Int} : (lastS ts total).length ≤ (aheadS ts total).length := by
  unfold lastS
  have w := split_weight (aheadS ts total) (Str.ofString "\n") (by rw [nl_len]; exact Nat.le_refl 1)
  have p := split_pos (aheadS ts total) (Str.ofString "\n")
  generalize Txt.split (aheadS ts total) (Str.ofString "\n") = l at w p
  cases l with
  | nil => simp at p
  | cons a l =>
    have hm : (a :: l).getLastD (Str.ofString "") ∈ a :: l := getLastD_mem a l _
    have := mem_sum_le hm
    simp only [List.length_cons] at w
    omega
/-- The last line's length is the run behind the last line break. -/
theorem Mine.tw_app {p : Nat → Bool} {a b : List Nat} (h : ∀ x ∈ a, p x = true) : (a ++ b).takeWhile p = a ++ b.takeWhile p := by
  induction a with
  | nil => rfl
  | cons c a ih =>
    rw [List.cons_append, List.takeWhile_cons, if_pos (h c (.head _)), ih fun x hx => h x (.tail _ hx)]
    rfl
theorem Mine.join_last : ∀ ss : List PySem.Str, 1 ≤ ss.length → (∀ s ∈ ss, 10 ∉ s.cps.toList) → ((PySem.Str.join ⟨#[10]⟩ ss).cps.toList.reverse.takeWhile (· != 10)).length = (ss.getLastD (Str.ofString "")).length
  | [], h, _ => by simp at h
  | [x], _, h => by
    show (x.cps.toList.reverse.takeWhile (· != 10)).length = x.length
    rw [tw_all fun a ha => by
      have := h x (.head _)
      simp only [bne_iff_ne, ne_eq]
      rintro rfl
      exact this (List.mem_reverse.mp ha)]
    rw [List.length_reverse]; exact Array.length_toList
  | x :: y :: r, _, h => by
    have ih := join_last (y :: r) (by simp) fun s hs => h s (.tail _ hs)
    rw [show ((x :: y :: r).getLastD (Str.ofString "")) = ((y :: r).getLastD (Str.ofString "")) by simp [List.getLastD_cons], ← ih]
    show ((x ++ ⟨#[10]⟩ ++ PySem.Str.join ⟨#[10]⟩ (y :: r)).cps.toList.reverse.takeWhile (· != 10)).length = _
    have e : (x ++ ⟨#[10]⟩ ++ PySem.Str.join ⟨#[10]⟩ (y :: r)).cps.toList = x.cps.toList ++ [10] ++ (PySem.Str.join ⟨#[10]⟩ (y :: r)).cps.toList := by
      show ((x.cps ++ #[10]) ++ (PySem.Str.join ⟨#[10]⟩ (y :: r)).cps).toList = _
      simp
    rw [e, List.reverse_append, List.reverse_append]
    generalize (PySem.Str.join ⟨#[10]⟩ (y :: r)).cps.toList.reverse = z
    show ((z ++ (10 :: x.cps.toList.reverse)).takeWhile (· != 10)).length = (z.takeWhile (· != 10)).length
    induction z with
    | nil => rfl
    | cons c z iz =>
      rw [List.cons_append, List.takeWhile_cons, List.takeWhile_cons]
      split
      · rw [List.length_cons, List.length_cons, iz]
      · rfl
theorem Mine.last_run (x : PySem.Str) : ((x.cps.toList.reverse).takeWhile (· != 10)).length = ((Txt.split x (Str.ofString "\n")).getLastD (Str.ofString "")).length := by
  have h := join_last (Txt.split x (Str.ofString "\n")) (split_pos _ _) (by rw [nl_eq]; intro s hs; exact StrLaws.split_free x 10 s hs)
  rw [← nl_eq, StrLaws.join_split] at h
  exact h
theorem Mine.cnt_count (c : Nat) : ∀ l : List Nat, cnt c l = (l.count c : Int)
  | [] => rfl
  | n :: r => by
    rw [cnt_cons, cnt_count c r, List.count_cons]
    by_cases h : n = c
    · rw [if_pos h, if_pos (by simp [h])]; push_cast; omega
    · rw [if_neg h, if_neg (by simp [h])]; simp
theorem Mine.lines_len (x : PySem.Str) : ((Txt.split x (Str.ofString "\n")).length : Int) = (x.cps.toList.count 10 : Int) + 1 := by
  rw [nl_eq, split_len, cnt_count]; omega
/-- Line and column of a place behind the last line break. -/
theorem Mine.err_place {src x y r : PySem.Str} {e : Nat} {msg : PySem.Str} (hs : src = x ++ y ++ r) (hy : ∀ c ∈ y.cps.toList, c ≠ 10) (he : e = x.length + y.length) :
    errText src e msg = msg ++ Str.ofString " (at line " ++ Str.ofString (toString (((Txt.split x (Str.ofString "\n")).length : Nat) : Int)) ++ Str.ofString ", column " ++ Str.ofString (toString ((((Txt.split x (Str.ofString "\n")).getLastD (Str.ofString "")).length : Int) + y.length + 1)) ++ Str.ofString ")" := by
  have hl : src.cps.toList = (x.cps.toList ++ y.cps.toList) ++ r.cps.toList := by
    subst hs
    show ((x.cps ++ y.cps) ++ r.cps).toList = _
    simp
  have ht : src.cps.toList.take e = x.cps.toList ++ y.cps.toList := by
    rw [hl, List.take_left' (by rw [List.length_append, he, Array.length_toList, Array.length_toList]; rfl)]
  have h1 : lineNo src e = (((Txt.split x (Str.ofString "\n")).length : Nat) : Int) := by
    unfold lineNo
    rw [ht, List.count_append, lines_len, List.count_eq_zero.mpr (fun q => hy 10 q rfl)]
    simp
  have h2 : colNo src e = (((Txt.split x (Str.ofString "\n")).getLastD (Str.ofString "")).length : Int) + y.length + 1 := by
    unfold colNo
    rw [ht, List.reverse_append, tw_app fun c hc => by
      have := hy c (List.mem_reverse.mp hc)
      simpa using this]
    rw [List.length_append, last_run, List.length_reverse]
    have : y.cps.toList.length = y.length := Array.length_toList
    omega
  unfold errText
  rw [h1, h2]
/-- The slices of the statement: a head, a tail. -/
theorem Mine.slice_idx {x : PySem.Str} {l u l' u' : Option Int} (h : PySem.Builtin.Str.strSliceIndices l u 1 x.length = PySem.Builtin.Str.strSliceIndices l' u' 1 x.length) : Txt.slice x l u = Txt.slice x l' u' := by
  unfold Txt.slice
  rw [h]
theorem Mine.mm9 (a b : Nat) : max (0 : Int) (min (a : Int) (b : Int)) = ((min a b : Nat) : Int) := by
  rcases Nat.le_total a b with h | h
  · rw [Nat.min_eq_left h, Int.min_eq_left (Int.ofNat_le.mpr h), Int.max_eq_right (Int.natCast_nonneg a)]
  · rw [Nat.min_eq_right h, Int.min_eq_right (Int.ofNat_le.mpr h), Int.max_eq_right (Int.natCast_nonneg b)]
theorem Mine.mb9 (a b : Nat) : max (0 : Int) (min (-(a : Int) + (b : Int)) (b : Int)) = ((b - a : Nat) : Int) := by
  have e : min (-(a : Int) + (b : Int)) (b : Int) = (b : Int) - (a : Int) := by
    rw [Int.min_eq_left (by omega)]; omega
  rw [e]
  rcases Nat.le_total a b with h | h
  · rw [← Int.ofNat_sub h, Int.max_eq_right (Int.natCast_nonneg _)]
  · rw [Nat.sub_eq_zero_of_le h, Int.max_eq_left (by omega)]; rfl
theorem Mine.nn9 (n : Nat) : ¬ ((n : Int) < 0) := by omega
theorem Mine.np9 {n : Nat} (h : 1 ≤ n) : -(n : Int) < 0 := by omega
theorem Mine.slice_upto {x : PySem.Str} {n : Nat} : Txt.slice x none (some (n : Int)) = ⟨(x.cps.toList.take n).toArray⟩ := by
  have hl : x.cps.toList.length = x.length := Array.length_toList
  rw [slice_idx (l' := some ((0 : Nat) : Int)) (u' := some ((min n x.length : Nat) : Int)) (by
    simp only [PySem.Builtin.Str.strSliceIndices, show (1 : Int) > 0 by decide, if_true, if_neg (nn9 _), mm9, Nat.zero_min, Nat.min_assoc, Nat.min_self]
    rfl), slice_list (Nat.zero_le _) (Nat.min_le_right _ _)]
  rw [List.drop_zero, Nat.sub_zero, ← hl, ← List.take_eq_take_min]
theorem Mine.slice_onto {x : PySem.Str} {n : Nat} : Txt.slice x (some (n : Int)) none = ⟨(x.cps.toList.drop n).toArray⟩ := by
  have hl : x.cps.toList.length = x.length := Array.length_toList
  rw [slice_idx (l' := some ((min n x.length : Nat) : Int)) (u' := some ((x.length : Nat) : Int)) (by
    simp only [PySem.Builtin.Str.strSliceIndices, show (1 : Int) > 0 by decide, if_true, if_neg (nn9 _), mm9, Nat.min_assoc, Nat.min_self]), slice_list (Nat.min_le_right _ _) (Nat.le_refl _)]
  congr 2
  rw [List.take_of_length_le (by rw [List.length_drop, hl]; exact Nat.le_refl _)]
  by_cases h : n ≤ x.length
  · rw [Nat.min_eq_left h]
  · rw [Nat.min_eq_right (Nat.le_of_not_le h), List.drop_of_length_le (by rw [hl]; exact Nat.le_refl _), List.drop_of_length_le (by rw [hl]; exact Nat.le_of_not_le h)]
theorem Mine.slice_back {x : PySem.Str} {n : Nat} (h : 1 ≤ n) : Txt.slice x (some (-(n : Int))) none = ⟨(x.cps.toList.drop (x.length - n)).toArray⟩ := by
  rw [slice_idx (l' := some ((x.length - n : Nat) : Int)) (u' := none) (by
    simp only [PySem.Builtin.Str.strSliceIndices, show (1 : Int) > 0 by decide, if_true, if_pos (np9 h), if_neg (nn9 _), mm9, mb9, Nat.min_eq_left (Nat.sub_le _ _)]), slice_onto]
theorem Mine.slice_take (ts : List Nat) (n : Nat) : Txt.slice ⟨ts.toArray⟩ none (some (n : Int)) = ⟨(ts.take n).toArray⟩ := slice_upto
end
-- W16
noncomputable section
open PySem PySem.W PySem.Spec PySem.Calls PyProof.Rows Mine
abbrev Mine.finS (ts : List Nat) (total : Int) : PySem.Str := aheadS ts total ++ Str.ofString "\"" ++ doneS ts total ts.length ++ Str.ofString "\"" ++ behindS ts
/-- What the plain law has to say of the last call. -/
noncomputable def Mine.FinOk (ts : List Nat) (total : Int) : Prop :=
  ∃ q, Pcs (finS ts total) ((aheadS ts total).length + 1) ts q ∧ EndAt (finS ts total) q none ∧ q + 1 < (finS ts total).length ∧ (aheadS ts total).length + 1 < (finS ts total).length ∧ (finS ts total).length ≤ 10000 ∧ (q : Int) + 1 = (aheadS ts total).length + (doneS ts total ts.length).length + 2
/-- What the plain law has to say of one turn. -/
noncomputable def Mine.KindOk (ts : List Nat) (total : Int) (i : Nat) : Prop :=
  (pieceS ts total i = one 127 → ts.getD i 0 = 127 ∧ StateOk ts total (doneS ts total i) (one 127) i 0 (Str.ofString "Illegal character '\\x7f'")) ∧
  (pieceS ts total i = Str.ofString "\\/" → ts.getD i 0 = 47 ∧ StateOk ts total (doneS ts total i) (Str.ofString "\\/") i 2 (Str.ofString "Unescaped '\\' in a string")) ∧
  ((pieceS ts total i).length = 12 →
    StateOk ts total (doneS ts total i) (pieceS ts total i) i 6 (Str.ofString "Escaped character is not a Unicode scalar value") ∧
    StateOk ts total (doneS ts total i) (Txt.slice (pieceS ts total i) none (some 6)) i 6 (Str.ofString "Escaped character is not a Unicode scalar value") ∧
    StateOk ts total (doneS ts total i) (Txt.slice (pieceS ts total i) (some 6) none) i 6 (Str.ofString "Escaped character is not a Unicode scalar value") ∧
    StateOk ts total (doneS ts total i) (Str.ofString "\\U0000" ++ Txt.slice (pieceS ts total i) (some 8) none) i 10 (Str.ofString "Escaped character is not a Unicode scalar value") ∧
    (Txt.slice (pieceS ts total i) none (some 6)).length ≤ 12 ∧ (Txt.slice (pieceS ts total i) (some 6) none).length ≤ 12 ∧ (Str.ofString "\\U0000" ++ Txt.slice (pieceS ts total i) (some 8) none).length ≤ 12)
end
-- W17
noncomputable section
open PySem PySem.W PySem.Spec PySem.Calls PyProof.Rows Mine
theorem Mine.app_list (a b : PySem.Str) : (a ++ b).cps.toList = a.cps.toList ++ b.cps.toList := by
  show (a.cps ++ b.cps).toList = _
  simp
theorem Mine.len_list (a : PySem.Str) : a.cps.toList.length = a.length := Array.length_toList
theorem Mine.str_ext {a b : PySem.Str} (h : a.cps.toList = b.cps.toList) : a = b := by
  cases a; cases b
  simp at h
  rw [h]
theorem Mine.hex_pick : ∀ d, d < 16 → ∀ b, b < 2 → hexC (d + 16 * b) ∈ hexes ∧ hv (hexC (d + 16 * b)) = d := by
  have h : (List.range 16).all (fun d => (List.range 2).all fun b => decide (hexC (d + 16 * b) ∈ hexes ∧ hv (hexC (d + 16 * b)) = d)) = true := by decide +kernel
  intro d hd b hb
  exact of_decide_eq_true (List.all_eq_true.mp (List.all_eq_true.mp h d (List.mem_range.mpr hd)) b (List.mem_range.mpr hb))
theorem Mine.figC_ok (n l k : Nat) : figC n l k ∈ hexes ∧ hv (figC n l k) = n / 16 ^ k % 16 := hex_pick _ (Nat.mod_lt _ (by decide)) _ (Nat.mod_lt _ (by decide))
theorem Mine.figS_list (n l k : Nat) : (figS n l k).cps.toList = (List.range k).reverse.map (figC n l) := by simp [figS]
theorem Mine.fig_mem (n l k : Nat) : ∀ x ∈ (figS n l k).cps.toList, x ∈ hexes := by
  rw [figS_list]
  intro x hx
  obtain ⟨j, _, rfl⟩ := List.mem_map.mp hx
  exact (figC_ok n l j).1
theorem Mine.fig_fold (n l : Nat) : ∀ k acc, ((List.range k).reverse.map (figC n l)).foldl (fun acc c => acc * 16 + hv c) acc = acc * 16 ^ k + n % 16 ^ k
  | 0, acc => by simp [Nat.mod_one]
  | k + 1, acc => by
    rw [List.range_succ, List.reverse_append, List.reverse_singleton, List.singleton_append, List.map_cons, List.foldl_cons, fig_fold n l k, (figC_ok n l k).2, Nat.mod_pow_succ, Nat.pow_succ, Nat.add_mul, Nat.mul_assoc, Nat.mul_comm 16 (16 ^ k), Nat.mul_comm (n / 16 ^ k % 16)]
    omega
theorem Mine.fig_val (n l k : Nat) : hexVal (figS n l k).cps.toList = n % 16 ^ k := by
  rw [figS_list]
  unfold hexVal
  rw [fig_fold]; omega
/-- A piece that the def takes, and the sign that it says. -/
inductive Mine.GoodP : List Nat → Nat → Prop
  | lit (c : Nat) (h1 : c ≠ 34) (h2 : c ≠ 92) (h3 : c ∉ S72) : GoodP [c] c
  | u4 (fs : List Nat) (c : Nat) (hl : fs.length = 4) (hm : ∀ x ∈ fs, x ∈ hexes) (hv : hexVal fs = c) (hu : isUni (c : Int) = true) : GoodP (92 :: 117 :: fs) c
  | u8 (fs : List Nat) (c : Nat) (hl : fs.length = 8) (hm : ∀ x ∈ fs, x ∈ hexes) (hv : hexVal fs = c) (hu : isUni (c : Int) = true) : GoodP (92 :: 85 :: fs) c
  | short (e c : Nat) (h : (e, c) ∈ [(98, 8), (116, 9), (110, 10), (102, 12), (114, 13), (34, 34), (92, 92)]) : GoodP [92, e] c
inductive Mine.GoodSeq : List Nat → List Nat → Prop
  | nil : GoodSeq [] []
  | snoc {dl cs g : List Nat} {c : Nat} (r : GoodSeq dl cs) (h : GoodP g c) : GoodSeq (dl ++ g) (cs ++ [c])
theorem Mine.hexes10 : ∀ x ∈ hexes, x ≠ 10 := by decide
theorem Mine.good_nl {g : List Nat} {c : Nat} (h : GoodP g c) : ∀ x ∈ g, x ≠ 10 := by
  cases h with
  | lit _ h1 h2 h3 =>
    intro x hx
    rw [List.mem_singleton.mp hx]
    rintro rfl
    exact h3 (by decide)
  | u4 fs _ hl hm hv hu =>
    intro x hx
    simp only [List.mem_cons] at hx
    rcases hx with rfl | rfl | hx
    · decide
    · decide
    · exact hexes10 x (hm x hx)
  | u8 fs _ hl hm hv hu =>
    intro x hx
    simp only [List.mem_cons] at hx
    rcases hx with rfl | rfl | hx
    · decide
    · decide
    · exact hexes10 x (hm x hx)
  | short e _ h =>
    intro x hx
    simp only [List.mem_cons, List.not_mem_nil, or_false, Prod.mk.injEq] at hx h
    rcases hx with rfl | rfl
    · decide
    · rcases h with h | h | h | h | h | h | h <;> (rw [h.1]; decide)
theorem Mine.good_len {g : List Nat} {c : Nat} (h : GoodP g c) : 1 ≤ g.length ∧ g.length ≤ 10 := by
  cases h <;> simp only [List.length_cons, List.length_nil] <;> omega
theorem Mine.seq_nl {dl cs : List Nat} (h : GoodSeq dl cs) : ∀ x ∈ dl, x ≠ 10 := by
  induction h with
  | nil => intro x hx; cases hx
  | snoc r g ih =>
    intro x hx
    rcases List.mem_append.mp hx with q | q
    · exact ih x q
    · exact good_nl g x q
theorem Mine.seq_len {dl cs : List Nat} (h : GoodSeq dl cs) : dl.length ≤ 10 * cs.length := by
  induction h with
  | nil => exact Nat.le_refl _
  | snoc r g ih =>
    have := (good_len g).2
    rw [List.length_append, List.length_append, List.length_singleton]; omega
theorem Mine.pcs_app {src : PySem.Str} {p q r : Nat} {a b : List Nat} (h : Pcs src p a q) (g : Pcs src q b r) : Pcs src p (a ++ b) r := by
  induction h with
  | nil p => exact g
  | lit p c cs q h h1 h2 h3 hp _ ih => exact .lit p c _ r h h1 h2 h3 hp (ih g)
  | esc p c n cs q h H hn hp _ ih => exact .esc p c n _ r h H hn hp (ih g)
theorem Mine.slice_mid {src : PySem.Str} {pre mid post : List Nat} {p n : Int} (h : src.cps.toList = pre ++ mid ++ post) (hp : p = pre.length) (hn : n = mid.length) : Txt.slice src (some p) (some (p + n)) = ⟨mid.toArray⟩ := by
  have hl := len_list src
  rw [h, List.length_append, List.length_append] at hl
  subst hp hn
  rw [show ((pre.length : Int) + (mid.length : Int)) = ((pre.length + mid.length : Nat) : Int) by omega, slice_list (by omega) (by omega), h]
  congr 2
  rw [List.append_assoc, List.drop_left, show pre.length + mid.length - pre.length = mid.length by omega, List.take_left]
theorem Mine.item_mid {src : PySem.Str} {pre post : List Nat} {c : Nat} (h : src.cps.toList = pre ++ c :: post) : Txt.item src (pre.length : Int) = one c :=
  item_list (by rw [h, List.getElem?_append_right (Nat.le_refl _), Nat.sub_self]; rfl)
theorem Mine.uni_le {c : Nat} (h : isUni (c : Int) = true) : c ≤ 1114111 := by
  unfold isUni at h
  simp only [Bool.or_eq_true, Bool.and_eq_true, decide_eq_true_eq] at h
  omega
theorem Mine.uni_of {c : Nat} (h : c ≤ 1114111 ∧ (c < 55296 ∨ 57344 ≤ c)) : isUni (c : Int) = true := by
  unfold isUni
  simp only [Bool.or_eq_true, Bool.and_eq_true, decide_eq_true_eq]
  omega
theorem Mine.uni_not {c : Nat} (h : 55296 ≤ c ∧ c < 57344) : isUni (c : Int) = false := by
  unfold isUni
  rw [Bool.eq_false_iff]
  simp only [ne_eq, Bool.or_eq_true, Bool.and_eq_true, decide_eq_true_eq]
  omega
theorem Mine.hexG_mid {src : PySem.Str} {pre fs post : List Nat} {p n : Int} {c : Nat} (h : src.cps.toList = pre ++ fs ++ post) (hp : p = pre.length) (hn : n = fs.length) (h1 : 1 ≤ fs.length) (h2 : fs.length ≤ 640) (hm : ∀ x ∈ fs, x ∈ hexes) (hv : hexVal fs = c) (hu : isUni (c : Int) = true) : HexG src p n c := by
  unfold HexG
  rw [slice_mid h hp hn]
  subst hv
  refine ⟨?_, hm, ?_, h2, hu, uni_le hu, rfl⟩
  · rw [hn]; show ((fs.toArray.size : Nat) : Int) = _; rw [List.size_toArray]
  · show fs ≠ []
    rintro rfl
    simp at h1
theorem Mine.hexB_mid {src : PySem.Str} {pre fs post : List Nat} {p n : Int} (h : src.cps.toList = pre ++ fs ++ post) (hp : p = pre.length) (hn : n = fs.length) (h1 : 1 ≤ fs.length) (h2 : fs.length ≤ 640) (hm : ∀ x ∈ fs, x ∈ hexes) (hu : isUni (hexVal fs : Int) = false) : HexB src p n := by
  unfold HexB
  rw [slice_mid h hp hn]
  refine ⟨?_, hm, ?_, h2, hu⟩
  · rw [hn]; show ((fs.toArray.size : Nat) : Int) = _; rw [List.size_toArray]
  · show fs ≠ []
    rintro rfl
    simp at h1
theorem Mine.two_mid {src : PySem.Str} {pre post : List Nat} {a b : Nat} {y : PySem.Str} (h : src.cps.toList = pre ++ a :: b :: post) (hy : y.cps.toList = [a, b]) : Txt.slice src (some (pre.length : Int)) (some ((pre.length : Int) + 2)) = y := by
  have := slice_mid (src := src) (pre := pre) (mid := [a, b]) (post := post) (p := (pre.length : Int)) (n := 2) (by rw [h]; simp) rfl rfl
  rw [this]
  exact str_ext hy.symm
theorem Mine.good_pcs1 {src : PySem.Str} {pre g post : List Nat} {c : Nat} (hg : GoodP g c) (hpost : post ≠ []) (h : src.cps.toList = pre ++ g ++ post) : Pcs src pre.length [c] (pre.length + g.length) := by
  have hpl : 1 ≤ post.length := by cases post with
    | nil => exact absurd rfl hpost
    | cons a r => simp
  have hl := len_list src
  rw [h, List.length_append, List.length_append] at hl
  cases hg with
  | lit _ h1 h2 h3 => exact .lit _ _ _ _ (item_mid (pre := pre) (post := post) (by rw [h]; simp)) h1 h2 h3 (by simp only [List.length_singleton] at hl ⊢; omega) (.nil _)
  | u4 fs _ h4 hm hv hu =>
    refine .esc _ _ (pre.length + 6) _ _ (item_mid (pre := pre) (post := 117 :: (fs ++ post)) (by rw [h]; simp)) (.inl ⟨two_mid (pre := pre) (post := fs ++ post) (a := 92) (b := 117) (by rw [h]; simp) (by kernel_rfl), hexG_mid (pre := pre ++ [92, 117]) (post := post) (by rw [h]; simp) (by simp) (by rw [h4]; rfl) (by omega) (by omega) hm hv hu, rfl⟩) (by omega) (by simp only [List.length_cons, h4] at hl; omega) ?_
    rw [List.length_cons, List.length_cons, h4]
    exact .nil _
  | u8 fs _ h4 hm hv hu =>
    refine .esc _ _ (pre.length + 10) _ _ (item_mid (pre := pre) (post := 85 :: (fs ++ post)) (by rw [h]; simp)) (.inr (.inl ⟨two_mid (pre := pre) (post := fs ++ post) (a := 92) (b := 85) (by rw [h]; simp) (by kernel_rfl), hexG_mid (pre := pre ++ [92, 85]) (post := post) (by rw [h]; simp) (by simp) (by rw [h4]; rfl) (by omega) (by omega) hm hv hu, rfl⟩)) (by omega) (by simp only [List.length_cons, h4] at hl; omega) ?_
    rw [List.length_cons, List.length_cons, h4]
    exact .nil _
  | short e _ he =>
    refine .esc _ _ (pre.length + 2) _ _ (item_mid (pre := pre) (post := e :: post) (by rw [h]; simp)) ?_ (by omega) (by simp only [List.length_cons, List.length_nil] at hl; omega) (.nil _)
    simp only [List.mem_cons, List.not_mem_nil, or_false, Prod.mk.injEq] at he
    have t2 : ∀ {y : PySem.Str}, y.cps.toList = [92, e] → Txt.slice src (some (pre.length : Int)) (some ((pre.length : Int) + 2)) = y := fun hy => two_mid (pre := pre) (post := post) (by rw [h]; simp) hy
    unfold EscG
    rcases he with ⟨rfl, rfl⟩ | ⟨rfl, rfl⟩ | ⟨rfl, rfl⟩ | ⟨rfl, rfl⟩ | ⟨rfl, rfl⟩ | ⟨rfl, rfl⟩ | ⟨rfl, rfl⟩
    · exact .inr (.inr (.inl ⟨t2 (by kernel_rfl), rfl, rfl⟩))
    · exact .inr (.inr (.inr (.inl ⟨t2 (by kernel_rfl), rfl, rfl⟩)))
    · exact .inr (.inr (.inr (.inr (.inl ⟨t2 (by kernel_rfl), rfl, rfl⟩))))
    · exact .inr (.inr (.inr (.inr (.inr (.inl ⟨t2 (by kernel_rfl), rfl, rfl⟩)))))
    · exact .inr (.inr (.inr (.inr (.inr (.inr (.inl ⟨t2 (by kernel_rfl), rfl, rfl⟩))))))
    · exact .inr (.inr (.inr (.inr (.inr (.inr (.inr (.inl ⟨t2 (by kernel_rfl), rfl, rfl⟩)))))))
    · exact .inr (.inr (.inr (.inr (.inr (.inr (.inr (.inr ⟨t2 (by kernel_rfl), rfl, rfl⟩)))))))
theorem Mine.good_pcs {src : PySem.Str} {dl cs : List Nat} (hg : GoodSeq dl cs) : ∀ {pre post : List Nat}, post ≠ [] → src.cps.toList = pre ++ dl ++ post → Pcs src pre.length cs (pre.length + dl.length) := by
  induction hg with
  | nil => intro pre post _ _; exact .nil _
  | @snoc dl cs g c r hc ih =>
    intro pre post hpost h
    have h1 := ih (pre := pre) (post := g ++ post) (by intro q; exact hpost (List.append_eq_nil_iff.mp q).2) (by rw [h]; simp)
    have h2 := good_pcs1 (pre := pre ++ dl) (post := post) hc hpost (by rw [h]; simp)
    rw [List.length_append] at h2
    rw [List.length_append, ← Nat.add_assoc]
    exact pcs_app h1 h2
end
-- W18
noncomputable section
open PySem PySem.W PySem.Spec PySem.Calls PyProof.Rows Mine
theorem Mine.one_inj {a b : Nat} (h : one a = one b) : a = b := by
  have := congrArg (fun x : PySem.Str => x.cps.toList) h
  simpa [one] using this
theorem Mine.s72_lt : ∀ c ∈ S72, c < 32 ∨ c = 127 := by decide
theorem Mine.bs_list : (Str.ofString "\\").cps.toList = [92] := by kernel_rfl
theorem Mine.bu_list : (Str.ofString "\\u").cps.toList = [92, 117] := by kernel_rfl
theorem Mine.bU_list : (Str.ofString "\\U").cps.toList = [92, 85] := by kernel_rfl
theorem Mine.sl_list : (Str.ofString "\\/").cps.toList = [92, 47] := by kernel_rfl
theorem Mine.sl_len : (Str.ofString "\\/").length = 2 := by kernel_rfl
theorem Mine.qt_list : (Str.ofString "\"").cps.toList = [34] := by kernel_rfl
theorem Mine.json_cases (c way : Nat) : (jsonS c way = one c ∧ 32 ≤ c ∧ c ≠ 34 ∧ c ≠ 92) ∨ (c ∈ [8, 9, 10, 12, 13, 34, 47, 92] ∧ jsonS c way = Str.ofString "\\" ++ shortOf c) ∨ (c < 65536 ∧ jsonS c way = Str.ofString "\\u" ++ figS c (way / 3) 4) ∨
    (65536 ≤ c ∧ jsonS c way = Str.ofString "\\u" ++ figS (55296 + (c - 65536) / 1024) (way / 3) 4 ++ Str.ofString "\\u" ++ figS (56320 + (c - 65536) % 1024) (way / 48) 4) := by
  unfold jsonS
  split
  · rename_i h; exact .inl ⟨rfl, h.2.1, h.2.2.1, h.2.2.2⟩
  · split
    · rename_i h; exact .inr (.inl ⟨h.2, rfl⟩)
    · split
      · rename_i h; exact .inr (.inr (.inl ⟨h, rfl⟩))
      · rename_i h; exact .inr (.inr (.inr ⟨Nat.le_of_not_lt h, rfl⟩))
theorem Mine.len_short (c : Nat) : (Str.ofString "\\" ++ shortOf c).length = 2 := by
  rw [PySem.Str.length_append, shortOf_len]; kernel_rfl
theorem Mine.len_u4 (n l : Nat) : (Str.ofString "\\u" ++ figS n l 4).length = 6 := by
  rw [PySem.Str.length_append, figS_len, lit_len2]
theorem Mine.len_pair (n l n' l' : Nat) : (Str.ofString "\\u" ++ figS n l 4 ++ Str.ofString "\\u" ++ figS n' l' 4).length = 12 := by
  simp only [PySem.Str.length_append, figS_len, lit_len2]
theorem Mine.piece127 {c way : Nat} (h : jsonS c way = one 127) : c = 127 := by
  rcases json_cases c way with ⟨e, _⟩ | ⟨_, e⟩ | ⟨_, e⟩ | ⟨_, e⟩
  · exact one_inj (e.symm.trans h)
  · exfalso; have := congrArg PySem.Str.length (e.symm.trans h); rw [len_short, one_len] at this; omega
  · exfalso; have := congrArg PySem.Str.length (e.symm.trans h); rw [len_u4, one_len] at this; omega
  · exfalso; have := congrArg PySem.Str.length (e.symm.trans h); rw [len_pair, one_len] at this; omega
theorem Mine.short_list {c : Nat} (h : c ∈ [8, 9, 10, 12, 13, 34, 47, 92]) : (c = 47 ∧ (Str.ofString "\\" ++ shortOf c).cps.toList = [92, 47]) ∨ ∃ e, (e, c) ∈ [(98, 8), (116, 9), (110, 10), (102, 12), (114, 13), (34, 34), (92, 92)] ∧ (Str.ofString "\\" ++ shortOf c).cps.toList = [92, e] := by
  simp only [List.mem_cons, List.not_mem_nil, or_false] at h
  rcases h with rfl | rfl | rfl | rfl | rfl | rfl | rfl | rfl
  · exact .inr ⟨98, by decide, by kernel_rfl⟩
  · exact .inr ⟨116, by decide, by kernel_rfl⟩
  · exact .inr ⟨110, by decide, by kernel_rfl⟩
  · exact .inr ⟨102, by decide, by kernel_rfl⟩
  · exact .inr ⟨114, by decide, by kernel_rfl⟩
  · exact .inr ⟨34, by decide, by kernel_rfl⟩
  · exact .inl ⟨rfl, by kernel_rfl⟩
  · exact .inr ⟨92, by decide, by kernel_rfl⟩
theorem Mine.piece47 {c way : Nat} (h : jsonS c way = Str.ofString "\\/") : c = 47 := by
  rcases json_cases c way with ⟨e, _⟩ | ⟨hc, e⟩ | ⟨_, e⟩ | ⟨_, e⟩
  · exfalso; have := congrArg PySem.Str.length (e.symm.trans h); rw [sl_len, one_len] at this; omega
  · rcases short_list hc with ⟨q, _⟩ | ⟨e2, hm, he⟩
    · exact q
    · exfalso
      have := congrArg (fun x : PySem.Str => x.cps.toList) (e.symm.trans h)
      simp only [he, sl_list, List.cons.injEq, and_true, true_and] at this
      subst this
      simp at hm
  · exfalso; have := congrArg PySem.Str.length (e.symm.trans h); rw [len_u4, sl_len] at this; omega
  · exfalso; have := congrArg PySem.Str.length (e.symm.trans h); rw [len_pair, sl_len] at this; omega
theorem Mine.piece12 {c way : Nat} (h : (jsonS c way).length = 12) : 65536 ≤ c ∧ jsonS c way = Str.ofString "\\u" ++ figS (55296 + (c - 65536) / 1024) (way / 3) 4 ++ Str.ofString "\\u" ++ figS (56320 + (c - 65536) % 1024) (way / 48) 4 := by
  rcases json_cases c way with ⟨e, _⟩ | ⟨_, e⟩ | ⟨_, e⟩ | ⟨hc, e⟩
  · rw [e, one_len] at h; omega
  · rw [e, len_short] at h; omega
  · rw [e, len_u4] at h; omega
  · exact ⟨hc, e⟩
theorem Mine.good_u4 {n l : Nat} (h : n < 65536) (hc : n < 55296 ∨ 57344 ≤ n) : GoodP (Str.ofString "\\u" ++ figS n l 4).cps.toList n := by
  rw [app_list, bu_list]
  show GoodP (92 :: 117 :: (figS n l 4).cps.toList) n
  exact .u4 _ _ ((len_list _).trans (figS_len _ _ _)) (fig_mem _ _ _) (by rw [fig_val]; exact Nat.mod_eq_of_lt (by omega)) (uni_of ⟨by omega, hc⟩)
theorem Mine.good_u8 {n l : Nat} (hc : n ≤ 1114111 ∧ (n < 55296 ∨ 57344 ≤ n)) : GoodP (Str.ofString "\\U" ++ figS n l 8).cps.toList n := by
  rw [app_list, bU_list]
  show GoodP (92 :: 85 :: (figS n l 8).cps.toList) n
  exact .u8 _ _ ((len_list _).trans (figS_len _ _ _)) (fig_mem _ _ _) (by rw [fig_val]; exact Nat.mod_eq_of_lt (by omega)) (uni_of hc)
theorem Mine.mend_good {c way : Nat} (hc : c ≤ 1114111 ∧ (c < 55296 ∨ 57344 ≤ c)) : GoodP (mendP (jsonS c way) c way).cps.toList c := by
  unfold mendP
  split
  · rename_i h
    cases piece127 h
    exact good_u4 (by decide) (by decide)
  · rename_i n127
    split
    · rename_i h
      cases piece47 h
      exact .lit 47 (by decide) (by decide) (by decide)
    · rename_i n47
      split
      · rename_i h
        exact good_u8 hc
      · rename_i n12
        split
        · rename_i h
          have h9 : c = 9 := by
            rcases json_cases c way with ⟨e, _⟩ | ⟨hm, e⟩ | ⟨_, e⟩ | ⟨_, e⟩
            · exfalso; have := congrArg PySem.Str.length (e.symm.trans h.1); rw [one_len, show (Str.ofString "\\t").length = 2 by kernel_rfl] at this; omega
            · rcases short_list hm with ⟨q, he⟩ | ⟨e2, hm2, he⟩
              · exfalso; exact n47 (e.trans (str_ext (he.trans sl_list.symm)))
              · have := congrArg (fun x : PySem.Str => x.cps.toList) (e.symm.trans h.1)
                simp only [he, show (Str.ofString "\\t").cps.toList = [92, 116] by kernel_rfl, List.cons.injEq, and_true, true_and] at this
                subst this
                simpa using hm2
            · exfalso; have := congrArg PySem.Str.length (e.symm.trans h.1); rw [len_u4] at this; rw [show (Str.ofString "\\t").length = 2 by kernel_rfl] at this; omega
            · exfalso; have := congrArg PySem.Str.length (e.symm.trans h.1); rw [len_pair] at this; rw [show (Str.ofString "\\t").length = 2 by kernel_rfl] at this; omega
          subst h9
          exact .lit 9 (by decide) (by decide) (by decide)
        · rcases json_cases c way with ⟨e, h1, h2, h3⟩ | ⟨hm, e⟩ | ⟨h1, e⟩ | ⟨_, e⟩
          · rw [e]
            refine .lit c h2 h3 fun q => ?_
            rcases s72_lt c q with z | z
            · omega
            · exact n127 (by rw [e, z])
          · rcases short_list hm with ⟨q, he⟩ | ⟨e2, hm2, he⟩
            · exact absurd (e.trans (str_ext (he.trans sl_list.symm))) n47
            · rw [e, he]; exact .short _ _ hm2
          · rw [e]; exact good_u4 h1 hc.2
          · exact absurd (by rw [e, len_pair]) n12
theorem Mine.mendS_eq (ts : List Nat) (total : Int) (i : Nat) : mendS ts total i = mendP (jsonS (ts.getD i 0) (total + 7 * (i : Int)).toNat) (ts.getD i 0) (total + 7 * (i : Int)).toNat := rfl
theorem Mine.done_good {ts : List Nat} {total : Int} (h : ScalarL ts) : ∀ i, i ≤ ts.length → GoodSeq (doneS ts total i).cps.toList (ts.take i)
  | 0, _ => .nil
  | i + 1, hi => by
    have hg : ts[i]? = some (ts.getD i 0) := by rw [List.getD_eq_getElem?_getD, List.getElem?_eq_getElem (by omega)]; rfl
    rw [show doneS ts total (i + 1) = doneS ts total i ++ mendS ts total i from rfl, app_list, List.take_add_one, hg]
    refine .snoc (done_good h i (by omega)) ?_
    rw [mendS_eq]
    exact mend_good (h _ (List.mem_of_getElem? hg))
theorem Mine.done_len {ts : List Nat} {total : Int} {i : Nat} (h : ScalarL ts) (hl : ts.length ≤ 40) (hi : i ≤ ts.length) : (doneS ts total i).length ≤ 400 := by
  have := seq_len (done_good (total := total) h i hi)
  rw [len_list, List.length_take] at this
  omega
theorem Mine.ahead_len {ts : List Nat} {total : Int} (hl : ts.length ≤ 40) : (aheadS ts total).length ≤ 40 := by
  have := Txt.slice_le ⟨ts.toArray⟩ none (some (total.fmod 8))
  have e : (⟨ts.toArray⟩ : PySem.Str).length = ts.length := List.size_toArray
  unfold aheadS; omega
theorem Mine.behind_len {ts : List Nat} (hl : ts.length ≤ 40) (h1 : 1 ≤ ts.length) : 1 ≤ (behindS ts).length ∧ (behindS ts).length ≤ 40 := by
  have e : (⟨ts.toArray⟩ : PySem.Str).length = ts.length := List.size_toArray
  have h : behindS ts = ⟨(ts.drop (ts.length - 5)).toArray⟩ := by
    have := slice_back (x := ⟨ts.toArray⟩) (n := 5) (by decide)
    rw [e] at this
    exact this
  rw [h]
  show 1 ≤ (List.toArray _).size ∧ (List.toArray _).size ≤ 40
  rw [List.size_toArray, List.length_drop]
  omega
theorem Mine.fin_ok {ts : List Nat} {total : Int} (h : ScalarL ts) (hl : ts.length ≤ 40) (h1 : 1 ≤ ts.length) : FinOk ts total := by
  have hd := done_len (total := total) h hl (Nat.le_refl ts.length)
  have ha := ahead_len (total := total) hl
  have hb := behind_len hl h1
  have hs : (finS ts total).cps.toList = ((aheadS ts total).cps.toList ++ [34]) ++ (doneS ts total ts.length).cps.toList ++ (34 :: (behindS ts).cps.toList) := by
    unfold finS
    simp only [app_list, qt_list, List.append_assoc, List.singleton_append]
  have hsl : (finS ts total).length = (aheadS ts total).length + 1 + (doneS ts total ts.length).length + 1 + (behindS ts).length := by
    rw [← len_list, hs]
    simp only [List.length_append, List.length_cons, List.length_nil, len_list]
    omega
  have hg := done_good (total := total) h ts.length (Nat.le_refl _)
  rw [List.take_length] at hg
  have hp := good_pcs hg (by simp) hs
  have hl1 : ((aheadS ts total).cps.toList ++ [34]).length = (aheadS ts total).length + 1 := by rw [List.length_append, len_list]; rfl
  rw [hl1, len_list] at hp
  refine ⟨_, hp, .quote ?_, by omega, by omega, by omega, by omega⟩
  have := item_mid (src := finS ts total) (pre := ((aheadS ts total).cps.toList ++ [34]) ++ (doneS ts total ts.length).cps.toList) (c := 34) (post := (behindS ts).cps.toList) hs
  rw [List.length_append, hl1, len_list] at this
  exact this
theorem Mine.arith_st {a d s j b : Nat} (ha : a ≤ 40) (hj : j ≤ 480) (hb : b ≤ 40) (hd : d ≤ 400) (h1 : 1 ≤ s) (h2 : s ≤ 12) : a + 1 + d + 1 < a + 1 + d + s + j + 1 + b ∧ a + 1 < a + 1 + d + s + j + 1 + b ∧ a + 1 + d + s + j + 1 + b ≤ 10000 := by omega
theorem Mine.state_mk {ts : List Nat} {total : Int} {dn S Wd : PySem.Str} {i : Nat} {k : Int} {cs s1 s2 : List Nat} (hl : ts.length ≤ 40) (hg : GoodSeq dn.cps.toList cs) (hd : dn.length ≤ 400) (hS : S.cps.toList = s1 ++ s2) (hk : k = s1.length) (h10 : ∀ x ∈ s1, x ≠ 10) (h1 : 1 ≤ S.length) (h2 : S.length ≤ 12)
    (hE : ∀ (src : PySem.Str) (pre post : List Nat), post ≠ [] → src.cps.toList = pre ++ S.cps.toList ++ post → EndAt src pre.length (some (pre.length + s1.length, Wd))) : StateOk ts total dn S i k Wd := by
  have ha := ahead_len (total := total) hl
  have hj := join_rest (total := total) (i := i) hl
  have hb : (behindS ts).length ≤ 40 := by
    have := Txt.slice_le ⟨ts.toArray⟩ (some (-5)) none
    have e : (⟨ts.toArray⟩ : PySem.Str).length = ts.length := List.size_toArray
    unfold behindS; omega
  have hs : (srcS ts total dn S i).cps.toList = ((aheadS ts total).cps.toList ++ [34]) ++ dn.cps.toList ++ (S.cps.toList ++ ((Txt.join (Str.ofString "") (restS ts total i)).cps.toList ++ 34 :: (behindS ts).cps.toList)) := by
    unfold srcS
    simp only [app_list, qt_list, List.append_assoc, List.singleton_append]
  have hsl : (srcS ts total dn S i).length = (aheadS ts total).length + 1 + dn.length + S.length + (Txt.join (Str.ofString "") (restS ts total i)).length + 1 + (behindS ts).length := by
    rw [← len_list, hs]
    simp only [List.length_append, List.length_cons, List.length_nil, len_list]
    omega
  have hne : S.cps.toList ++ ((Txt.join (Str.ofString "") (restS ts total i)).cps.toList ++ 34 :: (behindS ts).cps.toList) ≠ [] := by
    intro q
    have := congrArg List.length q
    simp at this
  have hp := good_pcs hg hne hs
  have hl1 : ((aheadS ts total).cps.toList ++ [34]).length = (aheadS ts total).length + 1 := by rw [List.length_append, len_list]; rfl
  have he := hE (srcS ts total dn S i) (((aheadS ts total).cps.toList ++ [34]) ++ dn.cps.toList) ((Txt.join (Str.ofString "") (restS ts total i)).cps.toList ++ 34 :: (behindS ts).cps.toList) (by intro q; have := congrArg List.length q; simp at this) (by rw [hs]; simp only [List.append_assoc])
  rw [List.length_append, hl1, len_list] at he
  rw [hl1, len_list] at hp
  obtain ⟨z1, z2, z3⟩ := arith_st ha hj hb hd h1 h2
  rw [← hsl] at z1 z2 z3
  refine ⟨_, _, _, _, hp, he, z1, z2, z3, ?_⟩
  have hy : (⟨(34 :: (dn.cps.toList ++ s1)).toArray⟩ : PySem.Str).cps.toList = 34 :: (dn.cps.toList ++ s1) := by simp
  have hyl : (⟨(34 :: (dn.cps.toList ++ s1)).toArray⟩ : PySem.Str).length = dn.length + s1.length + 1 := by rw [← len_list, hy, List.length_cons, List.length_append, len_list]
  have hp9 := err_place (src := srcS ts total dn S i) (x := aheadS ts total) (y := ⟨(34 :: (dn.cps.toList ++ s1)).toArray⟩) (r := ⟨(s2 ++ ((Txt.join (Str.ofString "") (restS ts total i)).cps.toList ++ 34 :: (behindS ts).cps.toList)).toArray⟩) (e := (aheadS ts total).length + 1 + dn.length + s1.length) (msg := Wd) ?_ ?_ ?_
  · rw [hp9, hyl]
    unfold placeS lastS
    rw [show ((((Txt.split (aheadS ts total) (Str.ofString "\n")).getLastD (Str.ofString "")).length : Int) + ((dn.length + s1.length + 1 : Nat) : Int) + 1) = (((Txt.split (aheadS ts total) (Str.ofString "\n")).getLastD (Str.ofString "")).length : Int) + dn.length + k + 2 by omega]
    apply str_ext
    simp only [app_list, List.append_assoc]
  · apply str_ext
    rw [hs]
    simp only [app_list, hS, List.append_assoc, List.nil_append, List.cons_append]
  · rw [hy]
    intro c hc
    simp only [List.mem_cons, List.mem_append] at hc
    rcases hc with rfl | hc | hc
    · decide
    · exact seq_nl hg c hc
    · exact h10 c hc
  · rw [hyl]; omega
end
-- W19
noncomputable section
open PySem PySem.W PySem.Spec PySem.Calls PyProof.Rows Mine
theorem Mine.end_127 (src : PySem.Str) (pre post : List Nat) (_ : post ≠ []) (h : src.cps.toList = pre ++ (one 127).cps.toList ++ post) : EndAt src pre.length (some (pre.length + ([] : List Nat).length, Str.ofString "Illegal character '\\x7f'")) :=
  .lit (item_mid (pre := pre) (post := post) (by rw [h]; simp [one]))
theorem Mine.end_47 (src : PySem.Str) (pre post : List Nat) (hp : post ≠ []) (h : src.cps.toList = pre ++ (Str.ofString "\\/").cps.toList ++ post) : EndAt src pre.length (some (pre.length + ([92, 47] : List Nat).length, Str.ofString "Unescaped '\\' in a string")) := by
  rw [sl_list] at h
  have hpl : 1 ≤ post.length := by cases post with
    | nil => exact absurd rfl hp
    | cons a r => simp
  have hl := len_list src
  rw [h, List.length_append, List.length_append] at hl
  refine .esc _ _ (item_mid (pre := pre) (post := 47 :: post) (by rw [h]; simp)) (.inr (.inr ⟨two_mid (pre := pre) (post := post) (a := 92) (b := 47) (by rw [h]; simp) sl_list, rfl, rfl⟩)) ?_
  simp only [List.length_cons, List.length_nil] at hl ⊢
  omega
theorem Mine.end_u4 {fs s2 : List Nat} {S : PySem.Str} (hS : S.cps.toList = (92 :: 117 :: fs) ++ s2) (h4 : fs.length = 4) (hm : ∀ x ∈ fs, x ∈ hexes) (hu : isUni (hexVal fs : Int) = false) (src : PySem.Str) (pre post : List Nat) (hp : post ≠ []) (h : src.cps.toList = pre ++ S.cps.toList ++ post) :
    EndAt src pre.length (some (pre.length + (92 :: 117 :: fs).length, Str.ofString "Escaped character is not a Unicode scalar value")) := by
  rw [hS] at h
  have hpl : 1 ≤ post.length := by cases post with
    | nil => exact absurd rfl hp
    | cons a r => simp
  have hl := len_list src
  rw [h] at hl
  simp only [List.length_append, List.length_cons, h4] at hl
  refine .esc _ _ (item_mid (pre := pre) (post := 117 :: (fs ++ s2 ++ post)) (by rw [h]; simp)) (.inl ⟨two_mid (pre := pre) (post := fs ++ s2 ++ post) (a := 92) (b := 117) (by rw [h]; simp) bu_list, hexB_mid (pre := pre ++ [92, 117]) (post := s2 ++ post) (by rw [h]; simp) (by simp) (by rw [h4]; rfl) (by omega) (by omega) hm hu, by simp only [List.length_cons, h4], rfl⟩) ?_
  simp only [List.length_cons, h4]
  omega
theorem Mine.end_u8 {fs : List Nat} {S : PySem.Str} (hS : S.cps.toList = (92 :: 85 :: fs)) (h4 : fs.length = 8) (hm : ∀ x ∈ fs, x ∈ hexes) (hu : isUni (hexVal fs : Int) = false) (src : PySem.Str) (pre post : List Nat) (hp : post ≠ []) (h : src.cps.toList = pre ++ S.cps.toList ++ post) :
    EndAt src pre.length (some (pre.length + (92 :: 85 :: fs).length, Str.ofString "Escaped character is not a Unicode scalar value")) := by
  rw [hS] at h
  have hpl : 1 ≤ post.length := by cases post with
    | nil => exact absurd rfl hp
    | cons a r => simp
  have hl := len_list src
  rw [h] at hl
  simp only [List.length_append, List.length_cons, h4] at hl
  refine .esc _ _ (item_mid (pre := pre) (post := 85 :: (fs ++ post)) (by rw [h]; simp)) (.inr (.inl ⟨two_mid (pre := pre) (post := fs ++ post) (a := 92) (b := 85) (by rw [h]; simp) bU_list, hexB_mid (pre := pre ++ [92, 85]) (post := post) (by rw [h]; simp) (by simp) (by rw [h4]; rfl) (by omega) (by omega) hm hu, by simp only [List.length_cons, h4], rfl⟩)) ?_
  simp only [List.length_cons, h4]
  omega
theorem Mine.nl_u {fs : List Nat} {b : Nat} (hb : b ≠ 10) (hm : ∀ x ∈ fs, x ∈ hexes) : ∀ x ∈ 92 :: b :: fs, x ≠ 10 := by
  intro x hx
  simp only [List.mem_cons] at hx
  rcases hx with rfl | rfl | hx
  · decide
  · exact hb
  · exact hexes10 x (hm x hx)
theorem Mine.div9 {c : Nat} (h : c ≤ 1114111) : (c - 65536) / 1024 < 1024 := Nat.div_lt_of_lt_mul (by omega)
theorem Mine.kind_ok {ts : List Nat} {total : Int} {i : Nat} (h : ScalarL ts) (hl : ts.length ≤ 40) (hi : i < ts.length) : KindOk ts total i := by
  have hg := done_good (total := total) h i (Nat.le_of_lt hi)
  have hd := done_len (total := total) h hl (Nat.le_of_lt hi)
  have hc := h (ts.getD i 0) (by rw [List.getD_eq_getElem?_getD, List.getElem?_eq_getElem hi]; exact List.getElem_mem hi)
  refine ⟨fun hp => ⟨piece127 hp, ?_⟩, fun hp => ⟨piece47 hp, ?_⟩, fun hp => ?_⟩
  · exact state_mk (s1 := []) (s2 := [127]) hl hg hd rfl rfl (fun x hx => nomatch hx) (Nat.le_refl 1) (by decide) end_127
  · exact state_mk (s1 := [92, 47]) (s2 := []) hl hg hd sl_list rfl (by decide) (by rw [sl_len]; decide) (by rw [sl_len]; decide) end_47
  · obtain ⟨hc2, e⟩ := piece12 hp
    change pieceS ts total i = _ at e
    generalize pieceS ts total i = P at e hp ⊢
    have v1 := fig_val (55296 + (ts.getD i 0 - 65536) / 1024) ((total + 7 * (i : Int)).toNat / 3) 4
    have v2 := fig_val (56320 + (ts.getD i 0 - 65536) % 1024) ((total + 7 * (i : Int)).toNat / 48) 4
    have m1 := fig_mem (55296 + (ts.getD i 0 - 65536) / 1024) ((total + 7 * (i : Int)).toNat / 3) 4
    have m2 := fig_mem (56320 + (ts.getD i 0 - 65536) % 1024) ((total + 7 * (i : Int)).toNat / 48) 4
    have l1 := (len_list (figS (55296 + (ts.getD i 0 - 65536) / 1024) ((total + 7 * (i : Int)).toNat / 3) 4)).trans (figS_len _ _ _)
    have l2 := (len_list (figS (56320 + (ts.getD i 0 - 65536) % 1024) ((total + 7 * (i : Int)).toNat / 48) 4)).trans (figS_len _ _ _)
    have hP : P.cps.toList = (92 :: 117 :: (figS (55296 + (ts.getD i 0 - 65536) / 1024) ((total + 7 * (i : Int)).toNat / 3) 4).cps.toList) ++ (92 :: 117 :: (figS (56320 + (ts.getD i 0 - 65536) % 1024) ((total + 7 * (i : Int)).toNat / 48) 4).cps.toList) := by
      rw [e]
      simp only [app_list, bu_list, List.cons_append, List.nil_append, List.append_assoc]
      rfl
    clear e
    generalize (figS (55296 + (ts.getD i 0 - 65536) / 1024) ((total + 7 * (i : Int)).toNat / 3) 4).cps.toList = f1 at *
    generalize (figS (56320 + (ts.getD i 0 - 65536) % 1024) ((total + 7 * (i : Int)).toNat / 48) 4).cps.toList = f2 at *
    generalize ts.getD i 0 = c at *
    have d1 : (c - 65536) / 1024 < 1024 := div9 hc.1
    have d2 : (c - 65536) % 1024 < 1024 := Nat.mod_lt _ (by decide)
    rw [Nat.mod_eq_of_lt (Nat.lt_of_lt_of_le (Nat.add_lt_add_left d1 55296) (by decide))] at v1
    rw [Nat.mod_eq_of_lt (Nat.lt_of_lt_of_le (Nat.add_lt_add_left d2 56320) (by decide))] at v2
    have u1 : isUni (hexVal f1 : Int) = false := by rw [v1]; exact uni_not ⟨Nat.le_add_right _ _, Nat.lt_of_lt_of_le (Nat.add_lt_add_left d1 55296) (by decide)⟩
    have u2 : isUni (hexVal f2 : Int) = false := by rw [v2]; exact uni_not ⟨Nat.le_trans (by decide) (Nat.le_add_right 56320 _), Nat.lt_of_lt_of_le (Nat.add_lt_add_left d2 56320) (by decide)⟩
    have s6 : (Txt.slice P none (some 6)).cps.toList = 92 :: 117 :: f1 := by
      rw [show Txt.slice P none (some 6) = ⟨(P.cps.toList.take 6).toArray⟩ from slice_upto (n := 6)]
      show P.cps.toList.take 6 = _
      rw [hP, List.take_left' (by simp only [List.length_cons, l1])]
    have s7 : (Txt.slice P (some 6) none).cps.toList = 92 :: 117 :: f2 := by
      rw [show Txt.slice P (some 6) none = ⟨(P.cps.toList.drop 6).toArray⟩ from slice_onto (n := 6)]
      show P.cps.toList.drop 6 = _
      rw [hP, List.drop_left' (by simp only [List.length_cons, l1])]
    have s8 : (Txt.slice P (some 8) none).cps.toList = f2 := by
      rw [show Txt.slice P (some 8) none = ⟨(P.cps.toList.drop 8).toArray⟩ from slice_onto (n := 8)]
      show P.cps.toList.drop 8 = _
      rw [hP, show (8 : Nat) = 6 + 2 from rfl, ← List.drop_drop, List.drop_left' (by simp only [List.length_cons, l1])]
      rfl
    have s9 : (Str.ofString "\\U0000" ++ Txt.slice P (some 8) none).cps.toList = 92 :: 85 :: (48 :: 48 :: 48 :: 48 :: f2) := by
      rw [app_list, s8, show (Str.ofString "\\U0000").cps.toList = [92, 85, 48, 48, 48, 48] by kernel_rfl]
      rfl
    have m9 : ∀ x ∈ 48 :: 48 :: 48 :: 48 :: f2, x ∈ hexes := by
      intro x hx
      simp only [List.mem_cons] at hx
      rcases hx with rfl | rfl | rfl | rfl | hx
      · decide
      · decide
      · decide
      · decide
      · exact m2 x hx
    have u9 : isUni (hexVal (48 :: 48 :: 48 :: 48 :: f2) : Int) = false := by
      rw [show hexVal (48 :: 48 :: 48 :: 48 :: f2) = hexVal f2 by
        unfold hexVal
        rw [List.foldl_cons, List.foldl_cons, List.foldl_cons, List.foldl_cons, show (((0 * 16 + hv 48) * 16 + hv 48) * 16 + hv 48) * 16 + hv 48 = 0 by decide +kernel]]
      exact u2
    have k6 : (Txt.slice P none (some 6)).length = 6 := by rw [← len_list, s6]; simp only [List.length_cons, l1]
    have k7 : (Txt.slice P (some 6) none).length = 6 := by rw [← len_list, s7]; simp only [List.length_cons, l2]
    have k9 : (Str.ofString "\\U0000" ++ Txt.slice P (some 8) none).length = 10 := by rw [← len_list, s9]; simp only [List.length_cons, l2]
    refine ⟨?_, ?_, ?_, ?_, by omega, by omega, by omega⟩
    · exact state_mk hl hg hd hP (by simp only [List.length_cons, l1]; rfl) (nl_u (by decide) m1) (by omega) (by omega) (end_u4 hP l1 m1 u1)
    · exact state_mk hl hg hd (s2 := []) (by rw [s6, List.append_nil]) (by simp only [List.length_cons, l1]; rfl) (nl_u (by decide) m1) (by omega) (by omega) (end_u4 (s2 := []) (by rw [s6, List.append_nil]) l1 m1 u1)
    · exact state_mk hl hg hd (s2 := []) (by rw [s7, List.append_nil]) (by simp only [List.length_cons, l2]; rfl) (nl_u (by decide) m2) (by omega) (by omega) (end_u4 (s2 := []) (by rw [s7, List.append_nil]) l2 m2 u2)
    · exact state_mk hl hg hd (s2 := []) (by rw [s9, List.append_nil]) (by simp only [List.length_cons, l2]; rfl) (nl_u (by decide) m9) (by omega) (by omega) (end_u8 s9 (by simp only [List.length_cons, l2]) m9 u9)
end
set_option hygiene false
local macro_rules | `(tactic| walk_at "call ref") => `(tactic| (k_here; (with_reducible show wpAny _ _ (call (Value.ref 177) _) _ _ _); k_dflt ((first | refine' cb_gq (hd := none) (fig4_I ?p1 ?p2) ?_ | refine' cb_gq (hd := none) (fig8_I ?p1 ?p2) ?_); (case p1 => ((try simp (disch := decide) only [Int.fdiv_eq_ediv_of_nonneg, Int.fmod_eq_emod_of_nonneg]); omega)); (case p2 => ((try simp (disch := decide) only [Int.fdiv_eq_ediv_of_nonneg, Int.fmod_eq_emod_of_nonneg]); omega)); dsimp only [RetV]; intro t9 h9 tk9 F9 N9; (try dsimp only))))
set_option hygiene true
-- J
theorem Mine.knownJ {g h : Heap} {L : Addr} {m : PySem.Str → Option Value} {n1 n2 n3 : PySem.Str} {v1 v2 v3 : Value} (F : Fr g L h m) (e1 : m n1 = some v1) (e2 : m n2 = some v2) (e3 : m n3 = some v3) :
    Fr g L h (fun y => if y = n1 then some v1 else if y = n2 then some v2 else if y = n3 then some v3 else m y) := by
  have : (fun y => if y = n1 then some v1 else if y = n2 then some v2 else if y = n3 then some v3 else m y) = m := by
    funext y
    repeat' (split; · rename_i q; rw [q]; symm; assumption)
    rfl
  rw [this]; exact F
abbrev Mine.JD : List (PyData × PyData) := [(.int 8, .str (Str.ofString "b")), (.int 9, .str (Str.ofString "t")), (.int 10, .str (Str.ofString "n")), (.int 12, .str (Str.ofString "f")), (.int 13, .str (Str.ofString "r")), (.int 34, .str (Str.ofString "\"")), (.int 47, .str (Str.ofString "/")), (.int 92, .str (Str.ofString "\\"))]
theorem Mine.lk_some {c : Nat} (h : c ∈ [8, 9, 10, 12, 13, 34, 47, 92]) : PySem.Spec.lookup (PyData.int (c : Int)) JD = some (.str (shortOf c)) := by
  simp only [List.mem_cons, List.not_mem_nil, or_false] at h
  rcases h with rfl | rfl | rfl | rfl | rfl | rfl | rfl | rfl <;> kernel_rfl
theorem Mine.lk_miss {c k : Nat} {K : Int} {d : PyData} {r : List (PyData × PyData)} (hK : K = (k : Int)) (h : c ≠ k) : PySem.Spec.lookup (PyData.int (c : Int)) ((.int K, d) :: r) = PySem.Spec.lookup (PyData.int (c : Int)) r := by
  subst hK
  show (if PySem.Spec.same (.int (k : Int)) (.int (c : Int)) = true then _ else _) = _
  rw [PyProof.V.same_int, if_neg]
  rw [decide_eq_true_eq]
  exact fun q => h (Int.ofNat_inj.mp q.symm)
theorem Mine.lk_none {c : Nat} (h : c ∉ [8, 9, 10, 12, 13, 34, 47, 92]) : PySem.Spec.lookup (PyData.int (c : Int)) JD = none := by
  simp only [List.mem_cons, List.not_mem_nil, or_false, not_or] at h
  obtain ⟨h1, h2, h3, h4, h5, h6, h7, h8⟩ := h
  exact (lk_miss (k := 8) rfl h1).trans ((lk_miss (k := 9) rfl h2).trans ((lk_miss (k := 10) rfl h3).trans ((lk_miss (k := 12) rfl h4).trans ((lk_miss (k := 13) rfl h5).trans ((lk_miss (k := 34) rfl h6).trans ((lk_miss (k := 47) rfl h7).trans ((lk_miss (k := 92) rfl h8).trans rfl)))))))
theorem Mine.kysD_at {K : Type} {enc : K → PyData} {k : K} {D : List (PyData × PyData)} {C : PyData → Prop} {N : Prop} {dv : PyData} (h : PySem.Spec.lookup (enc k) D = some dv) (hC : C dv) : KysD enc k D C N := by
  unfold KysD; rw [h]; exact hC
theorem Mine.kysD_no {K : Type} {enc : K → PyData} {k : K} {D : List (PyData × PyData)} {C : PyData → Prop} {N : Prop} (h : PySem.Spec.lookup (enc k) D = none) (hN : N) : KysD enc k D C N := by
  unfold KysD; rw [h]; exact hN
/-- Behind the first statement of _law_json: the dict stands. -/
def Mine.JCut (w : World) (g : Heap) (L : Addr) (news : List (Addr × Obj)) (x : PySem.Str) (way : Int) (t1 t2 : Tok) (s s' : Shared) : Prop :=
  ∃ (h' : Heap) (tk' : Nat) (m : PySem.Str → Option Value) (D : Addr) (o : Obj) (k1 k2 k3 k4 k5 k6 k7 k8 v1 v2 v3 v4 v5 v6 v7 v8 : Tok), s' = { s with heap := h', toks := tk' } ∧
    Obj.IsDictOf (intKind PySem.Challenge.pw_io0022_01 w) o (intKeyPairs [(.int 8 k1, .str (Str.ofString "b") v1), (.int 9 k2, .str (Str.ofString "t") v2), (.int 10 k3, .str (Str.ofString "n") v3), (.int 12 k4, .str (Str.ofString "f") v4), (.int 13 k5, .str (Str.ofString "r") v5), (.int 34 k6, .str (Str.ofString "\"") v6), (.int 47 k7, .str (Str.ofString "/") v7), (.int 92 k8, .str (Str.ofString "\\") v8)]) ∧
    PyProof.V.FlatPairs PyData.int (intKeyPairs [(.int 8 k1, .str (Str.ofString "b") v1), (.int 9 k2, .str (Str.ofString "t") v2), (.int 10 k3, .str (Str.ofString "n") v3), (.int 12 k4, .str (Str.ofString "f") v4), (.int 13 k5, .str (Str.ofString "r") v5), (.int 34 k6, .str (Str.ofString "\"") v6), (.int 47 k7, .str (Str.ofString "/") v7), (.int 92 k8, .str (Str.ofString "\\") v8)])
      JD ∧
    Fr g L h' m ∧ News g L h' ((D, o) :: news) ∧ (D == sysModules) = false ∧ (∀ p ∈ news, p.1 < D) ∧ (∀ p ∈ news, p.1 ≠ D) ∧ m (Str.ofString "short") = some (.ref D) ∧ m (Str.ofString "sign") = some (.str x t1) ∧ m (Str.ofString "way") = some (.int way t2)
theorem Mine.json_cut {M : Model} {A : Around} {E : Value → Shared → Prop} {s : Shared} {env : Env} {st : Stmt} {rest : List Stmt} {Q : Flow → Shared → Prop} {g : Heap} {L : Addr} {m : PySem.Str → Option Value} (w : World) (news : List (Addr × Obj)) (x : PySem.Str) (way : Int) (t1 t2 : Tok) (F : Fr g L s.heap m)
    (h : wpAny M A (exec st env) (CutP (JCut w g L news x way t1 t2 s)) E s) (k : ∀ s', JCut w g L news x way t1 t2 s s' → wpAny M A (execs rest env) Q E s') : wpAny M A (execs (st :: rest) env) Q E s := exec_cut _ h k
theorem Mine.fm_eq {way r : Nat} (h : way % 3 = r) : (way : Int).fmod 3 = (r : Int) := by
  rw [← h]; exact fmod_nat way 3
theorem Mine.fm_le {way : Nat} (h : way % 3 ≤ 1) : (way : Int).fmod 3 ≤ 1 := by
  have : (way : Int).fmod 3 = ((way % 3 : Nat) : Int) := fmod_nat way 3
  omega
theorem Mine.fm_ne {way : Nat} (h : way % 3 ≠ 0) : (way : Int).fmod 3 ≠ 0 := by
  have : (way : Int).fmod 3 = ((way % 3 : Nat) : Int) := fmod_nat way 3
  omega
theorem Mine.mod3 {n : Nat} (h1 : n % 3 ≠ 2) (h2 : n % 3 ≠ 1) : n % 3 = 0 := by omega
theorem Mine.mod3' {n : Nat} (h1 : ¬ n % 3 ≤ 1) : n % 3 = 2 := by omega
theorem Mine.shortO_len (c : Nat) : (shortOf c).length = 1 := by
  unfold shortOf
  repeat' split
  all_goals first | rfl | kernel_rfl
def Mine.JCut2 (g : Heap) (L D : Addr) (o : Obj) (news : List (Addr × Obj)) (x : PySem.Str) (way n : Int) (t1 t2 : Tok) (s s' : Shared) : Prop :=
  ∃ (h' : Heap) (tk' : Nat) (m : PySem.Str → Option Value) (tn : Tok), s' = { s with heap := h', toks := tk' } ∧ Fr g L h' m ∧ News g L h' ((D, o) :: news) ∧ m (Str.ofString "short") = some (.ref D) ∧ m (Str.ofString "sign") = some (.str x t1) ∧ m (Str.ofString "way") = some (.int way t2) ∧ m (Str.ofString "n") = some (.int n tn)
theorem Mine.json_cut2 {M : Model} {A : Around} {E : Value → Shared → Prop} {s : Shared} {env : Env} {st : Stmt} {rest : List Stmt} {Q : Flow → Shared → Prop} {g : Heap} {L : Addr} {m : PySem.Str → Option Value} (D : Addr) (o : Obj) (news : List (Addr × Obj)) (x : PySem.Str) (way n : Int) (t1 t2 : Tok) (F : Fr g L s.heap m)
    (h : wpAny M A (exec st env) (CutP (JCut2 g L D o news x way n t1 t2 s)) E s) (k : ∀ s', JCut2 g L D o news x way n t1 t2 s s' → wpAny M A (execs rest env) Q E s') : wpAny M A (execs (st :: rest) env) Q E s := exec_cut _ h k
theorem Mine.js_A {c way : Nat} (h : way % 3 = 0 ∧ 32 ≤ c ∧ c ≠ 34 ∧ c ≠ 92) : jsonS c way = one c := if_pos h
theorem Mine.js_B {c way : Nat} (hA : ¬ (way % 3 = 0 ∧ 32 ≤ c ∧ c ≠ 34 ∧ c ≠ 92)) (h : way % 3 ≤ 1 ∧ c ∈ [8, 9, 10, 12, 13, 34, 47, 92]) : jsonS c way = Str.ofString "\\" ++ shortOf c := (if_neg hA).trans (if_pos h)
theorem Mine.js_C {c way : Nat} (hA : ¬ (way % 3 = 0 ∧ 32 ≤ c ∧ c ≠ 34 ∧ c ≠ 92)) (hB : ¬ (way % 3 ≤ 1 ∧ c ∈ [8, 9, 10, 12, 13, 34, 47, 92])) (h : c < 65536) : jsonS c way = Str.ofString "\\u" ++ figS c (way / 3) 4 := (if_neg hA).trans ((if_neg hB).trans (if_pos h))
theorem Mine.js_D {c way : Nat} (hA : ¬ (way % 3 = 0 ∧ 32 ≤ c ∧ c ≠ 34 ∧ c ≠ 92)) (hB : ¬ (way % 3 ≤ 1 ∧ c ∈ [8, 9, 10, 12, 13, 34, 47, 92])) (h : ¬ c < 65536) : jsonS c way = Str.ofString "\\u" ++ figS (55296 + (c - 65536) / 1024) (way / 3) 4 ++ Str.ofString "\\u" ++ figS (56320 + (c - 65536) % 1024) (way / 48) 4 := (if_neg hA).trans ((if_neg hB).trans (if_neg h))
theorem Mine.js_nA {c way : Nat} (hA : ¬ (way % 3 = 0 ∧ 32 ≤ c ∧ c ≠ 34 ∧ c ≠ 92)) : (way : Int).fmod 3 ≠ 0 ∨ ((way : Int).fmod 3 = 0 ∧ (c < 32 ∨ c = 34 ∨ c = 92)) := by
  by_cases h0 : way % 3 = 0
  · refine .inr ⟨fm_eq h0, ?_⟩
    by_cases h1 : 32 ≤ c
    · by_cases h2 : c = 34
      · exact .inr (.inl h2)
      · exact .inr (.inr (Decidable.not_not.mp fun h3 => hA ⟨h0, h1, h2, h3⟩))
    · exact .inl (Nat.lt_of_not_le h1)
  · exact .inl (fm_ne h0)
theorem Mine.js_nB {c way : Nat} (hB : ¬ (way % 3 ≤ 1 ∧ c ∈ [8, 9, 10, 12, 13, 34, 47, 92])) : (way : Int).fmod 3 = 2 ∨ ((way : Int).fmod 3 ≤ 1 ∧ PySem.Spec.lookup (PyData.int (c : Int)) JD = none) := by
  by_cases h0 : way % 3 ≤ 1
  · exact .inr ⟨fm_le h0, lk_none fun q => hB ⟨h0, q⟩⟩
  · exact .inl (fm_eq (mod3' h0))
section
local macro_rules | `(tactic| walk_at "execs cons") => `(tactic| (k_here; (dsimp only); k_gentoks))
local macro_rules | `(tactic| walk_at "execs nil") => `(tactic| (k_here; (dsimp only); k_gentoks))
local macro_rules | `(tactic| walk_at "KysD") => `(tactic| (k_here; k_dflt (first | refine kysD_at (by assumption) ?_ | refine kysD_no (by assumption) ?_)))
set_option maxHeartbeats 8000000 in
theorem Mine.json_K {w : World} {mean : ExcName → Option Value} {mg mb : PySem.Str → Option Value} {news : List (Addr × Obj)} {c way : Nat} {t1 t2 : Tok} :
    Cb w mean mg mb 2 184 news [.str (one c) t1, .int way t2] (RetV news (fun t => .str (jsonS c way) t)) := by
  dsimp only [Cb, CbAt, RetV]
  intros; rename_i hret
  refine wpAny_call ?_
  k_dflt cell_enter
  rename Fr _ _ _ (fun y => List.lookup y _) => F1
  with_reducible refine json_cut w news (one c) way t1 t2 F1 ?cut ?go
  case cut =>
    clear hret
    k_steps
    refine' ⟨rfl, _, _, _, _, _, _, _, _, _, _, _, _, _, _, _, _, _, _, _, _, _, rfl, ?a1, ?a2, ?a3, ?a4, ?a5, ?a6, ?a7, ?a8, ?a9, ?a10⟩
    case a1 => assumption
    case a2 => assumption
    case a3 => assumption
    case a4 => assumption
    case a5 => assumption
    case a6 => assumption
    case a7 => assumption
    case a8 => rfl
    case a9 => rfl
    case a10 => rfl
  rintro s' ⟨h', tk', m', D, o, k1, k2, k3, k4, k5, k6, k7, k8, v1, v2, v3, v4, v5, v6, v7, v8, rfl, hd9, hf9, F9, N9, lo9, lt9, ap9, e1, e2, e3⟩
  have F9 := knownJ F9 e1 e2 e3
  clear e1 e2 e3
  have hsl := shortO_len c
  with_reducible refine json_cut2 D o news (one c) way c t1 t2 F9 ?cut2 ?go2
  case cut2 =>
    clear hret
    k_steps
    rename Fr _ _ _ _ => F7
    rename News _ _ _ (_ :: news) => N7
    exact ⟨rfl, _, _, _, _, rfl, F7, N7, rfl, rfl, rfl, rfl⟩
  clear F9 N9
  rintro s' ⟨h', tk', m', tn, rfl, F9, N9, e1, e2, e3, e4⟩
  have F9 := knownE F9 e1 e2 e3 e4
  clear e1 e2 e3 e4
  by_cases hA : way % 3 = 0 ∧ 32 ≤ c ∧ c ≠ 34 ∧ c ≠ 92
  · rw [js_A hA] at hret
    obtain ⟨h0, h1, h2, h3⟩ := hA
    have hw := fm_eq h0
    clear h0
    k_steps
    all_goals exact cb_retS hret rfl (by assumption) (by first | assumption | exact cb_drop (by assumption) (fun p hp => List.mem_cons_of_mem _ hp) | exact cb_drop (by assumption) (fun p hp => List.mem_cons_of_mem _ (List.mem_cons_of_mem _ hp)) | exact cb_drop (by assumption) (fun p hp => List.mem_cons_of_mem _ (List.mem_cons_of_mem _ (List.mem_cons_of_mem _ hp))))
  with_reducible refine json_cut2 D o news (one c) way c t1 t2 F9 ?cut3 ?go3
  case cut3 =>
    clear hret
    rcases js_nA hA with hw | ⟨hw, hlt | rfl | rfl⟩
    all_goals clear hA
    all_goals k_steps
    all_goals rename Fr _ _ _ _ => F7
    all_goals rename News _ _ _ (_ :: news) => N7
    all_goals exact ⟨rfl, _, _, _, _, rfl, F7, N7, rfl, rfl, rfl, rfl⟩
  clear F9 N9
  rintro s' ⟨h', tk', m', tn, rfl, F9, N9, e1, e2, e3, e4⟩
  have F9 := knownE F9 e1 e2 e3 e4
  clear e1 e2 e3 e4
  by_cases hB : way % 3 ≤ 1 ∧ c ∈ [8, 9, 10, 12, 13, 34, 47, 92]
  · rw [js_B hA hB] at hret
    clear hA
    have hl9 := lk_some hB.2
    have hw := fm_le hB.1
    clear hB
    k_steps
    all_goals exact cb_retS hret rfl (by assumption) (by first | assumption | exact cb_drop (by assumption) (fun p hp => List.mem_cons_of_mem _ hp) | exact cb_drop (by assumption) (fun p hp => List.mem_cons_of_mem _ (List.mem_cons_of_mem _ hp)) | exact cb_drop (by assumption) (fun p hp => List.mem_cons_of_mem _ (List.mem_cons_of_mem _ (List.mem_cons_of_mem _ hp))))
  with_reducible refine json_cut2 D o news (one c) way c t1 t2 F9 ?cut4 ?go4
  case cut4 =>
    clear hret hA
    rcases js_nB hB with hw | ⟨hw, hl9⟩
    all_goals clear hB
    all_goals k_steps
    all_goals rename Fr _ _ _ _ => F7
    all_goals rename News _ _ _ (_ :: news) => N7
    all_goals exact ⟨rfl, _, _, _, _, rfl, F7, N7, rfl, rfl, rfl, rfl⟩
  clear F9 N9
  rintro s' ⟨h', tk', m', tn, rfl, F9, N9, e1, e2, e3, e4⟩
  have F9 := knownE F9 e1 e2 e3 e4
  clear e1 e2 e3 e4
  by_cases hc : c < 65536
  · rw [js_C hA hB hc] at hret
    clear hA hB
    k_steps
    all_goals exact cb_retS hret (js_1 c way) (by assumption) (by first | assumption | exact cb_drop (by assumption) (fun p hp => List.mem_cons_of_mem _ hp) | exact cb_drop (by assumption) (fun p hp => List.mem_cons_of_mem _ (List.mem_cons_of_mem _ hp)) | exact cb_drop (by assumption) (fun p hp => List.mem_cons_of_mem _ (List.mem_cons_of_mem _ (List.mem_cons_of_mem _ hp))))
  · rw [js_D hA hB hc] at hret
    clear hA hB
    k_steps
    all_goals exact cb_retS hret (js_2 hc) (by assumption) (by first | assumption | exact cb_drop (by assumption) (fun p hp => List.mem_cons_of_mem _ hp) | exact cb_drop (by assumption) (fun p hp => List.mem_cons_of_mem _ (List.mem_cons_of_mem _ hp)) | exact cb_drop (by assumption) (fun p hp => List.mem_cons_of_mem _ (List.mem_cons_of_mem _ (List.mem_cons_of_mem _ hp))))
end
-- men
set_option maxHeartbeats 1000000 in
theorem Mine.men_1 {w : World} {mean : ExcName → Option Value} {mg mb : PySem.Str → Option Value} {news : List (Addr × Obj)} {way : Nat} {t1 t2 t3 : Tok} :
    Cb w mean mg mb 2 191 news [.str (one 127) t1, .str (one 127) t2, .int way t3] (RetL1 news (one 127) 0 (Str.ofString "Illegal character '\\x7f'") (Str.ofString "\\u" ++ figS 127 way 4)) := by
  dsimp only [Cb, CbAt, RetL1]
  intros; rename_i hret
  refine wpAny_call ?_
  k_dflt cell_enter
  k_steps
  all_goals (refine' hret _ _ _ _ _ _ _ _ _ ?F ?N ?a ?b ?c; (case F => assumption); (case N => assumption); (case a => exact And.left (by assumption)); (case b => exact And.left (by assumption)); (case c => assumption))
set_option maxHeartbeats 1000000 in
theorem Mine.men_2 {w : World} {mean : ExcName → Option Value} {mg mb : PySem.Str → Option Value} {news : List (Addr × Obj)} {way : Nat} {t1 t2 t3 : Tok} :
    Cb w mean mg mb 2 191 news [.str (Str.ofString "\\/") t1, .str (one 47) t2, .int way t3] (RetL1 news (Str.ofString "\\/") 2 (Str.ofString "Unescaped '\\' in a string") (Str.ofString "/")) := by
  dsimp only [Cb, CbAt, RetL1]
  intros; rename_i hret
  refine wpAny_call ?_
  k_dflt cell_enter
  k_steps
  all_goals (refine' hret _ _ _ _ _ _ _ _ _ ?F ?N ?a ?b ?c; (case F => assumption); (case N => assumption); (case a => exact And.left (by assumption)); (case b => exact And.left (by assumption)); (case c => assumption))
theorem Mine.ite_ne9 {x y : PySem.Str} {a b : Prop} (h : x ≠ y) (k : b) : ite ((x == y) = true) a b := by
  rw [if_neg (by rw [beq_iff_eq]; exact h)]; exact k
section
local macro_rules | `(tactic| walk_at "ite") => `(tactic| ((with_reducible show ite ((_ == _) = true) _ _); k_dflt (refine ite_ne9 (by assumption) ?_)))
set_option maxHeartbeats 1000000 in
theorem Mine.men_3 {w : World} {mean : ExcName → Option Value} {mg mb : PySem.Str → Option Value} {news : List (Addr × Obj)} {P : PySem.Str} {c way : Nat} {t1 t2 t3 : Tok} (h1 : P ≠ one 127) (h2 : P ≠ Str.ofString "\\/") (h3 : P.length = 12) :
    Cb w mean mg mb 2 191 news [.str P t1, .str (one c) t2, .int way t3] (RetL4 news P (Txt.slice P none (some 6)) (Txt.slice P (some 6) none) (Str.ofString "\\U0000" ++ Txt.slice P (some 8) none) (Str.ofString "Escaped character is not a Unicode scalar value") (Str.ofString "\\U" ++ figS c way 8)) := by
  dsimp only [Cb, CbAt, RetL4]
  intros; rename_i hret
  refine wpAny_call ?_
  k_dflt cell_enter
  k_steps
  all_goals (refine' hret _ _ _ _ _ _ _ _ _ _ _ _ _ _ _ _ _ _ ?F ?N ?a ?b ?c ?d ?e ?g; (case F => assumption); (case N => assumption); (case a => exact And.left (by assumption)); (case b => exact And.left (by assumption)); (case c => exact And.left (by assumption)); (case d => exact And.left (by assumption)); (case e => exact And.left (by assumption)); (case g => assumption))
set_option maxHeartbeats 1000000 in
theorem Mine.men_4a {w : World} {mean : ExcName → Option Value} {mg mb : PySem.Str → Option Value} {news : List (Addr × Obj)} {c way : Nat} {t1 t2 t3 : Tok} (hw : (way : Int).fmod 2 = 1) :
    Cb w mean mg mb 2 191 news [.str (Str.ofString "\\t") t1, .str (one c) t2, .int way t3] (RetL0 news (Str.ofString "\t")) := by
  dsimp only [Cb, CbAt, RetL0]
  intros; rename_i hret
  refine wpAny_call ?_
  k_dflt cell_enter
  k_steps
  all_goals first | (refine' hret _ _ _ _ _ _ ?F ?N ?a ?c; (case F => assumption); (case N => assumption); (case a => exact And.left (by assumption)); (case c => assumption))
set_option maxHeartbeats 1000000 in
theorem Mine.men_4c {w : World} {mean : ExcName → Option Value} {mg mb : PySem.Str → Option Value} {news : List (Addr × Obj)} {c way : Nat} {t1 t2 t3 : Tok} (hw : (way : Int).fmod 2 ≠ 1) :
    Cb w mean mg mb 2 191 news [.str (Str.ofString "\\t") t1, .str (one c) t2, .int way t3] (RetL0 news (Str.ofString "\\t")) := by
  dsimp only [Cb, CbAt, RetL0]
  intros; rename_i hret
  refine wpAny_call ?_
  k_dflt cell_enter
  k_steps
  all_goals first | (refine' hret _ _ _ _ _ _ ?F ?N ?a ?c; (case F => assumption); (case N => assumption); (case a => exact And.left (by assumption)); (case c => assumption))
set_option maxHeartbeats 1000000 in
theorem Mine.men_4b {w : World} {mean : ExcName → Option Value} {mg mb : PySem.Str → Option Value} {news : List (Addr × Obj)} {P : PySem.Str} {c way : Nat} {t1 t2 t3 : Tok} (h1 : P ≠ one 127) (h2 : P ≠ Str.ofString "\\/") (h3 : P.length ≠ 12) (h4 : P.length ≤ 1000) (h5 : P ≠ Str.ofString "\\t") :
    Cb w mean mg mb 2 191 news [.str P t1, .str (one c) t2, .int way t3] (RetL0 news P) := by
  dsimp only [Cb, CbAt, RetL0]
  intros; rename_i hret
  refine wpAny_call ?_
  k_dflt cell_enter
  k_steps
  all_goals first | exact absurd (show P = one 127 from beq_iff_eq.mp (by assumption)) h1 | exact absurd (show P = Str.ofString "\\/" from beq_iff_eq.mp (by assumption)) h2 | exact absurd (show P = Str.ofString "\\t" from beq_iff_eq.mp (by assumption)) h5 | (refine' hret _ _ _ _ _ _ ?F ?N ?a ?c; (case F => assumption); (case N => assumption); (case a => exact And.left (by assumption)); (case c => assumption))
end
theorem Mine.uni_T {w : World} {mean : ExcName → Option Value} {mg mb : PySem.Str → Option Value} {news : List (Addr × Obj)} {c : Int} {t : Tok} (h : isUni c = true) :
    Cb w mean mg mb 1 163 news [.int c t] (RetV news (fun _ => .bool true)) := by
  rw [← h]; exact uni_K
theorem Mine.uni_F {w : World} {mean : ExcName → Option Value} {mg mb : PySem.Str → Option Value} {news : List (Addr × Obj)} {c : Int} {t : Tok} (h : isUni c = false) :
    Cb w mean mg mb 1 163 news [.int c t] (RetV news (fun _ => .bool false)) := by
  rw [← h]; exact uni_K
theorem Mine.err_I {hd : Option Value} {w : World} {mean : ExcName → Option Value} {mg mb : PySem.Str → Option Value} {news nw : List (Addr × Obj)} {src msg : PySem.Str} {p : Int} {t1 t2 t3 : Tok} (h0 : 0 ≤ p) (hL : LedIn news nw) (hn : ∀ p ∈ news, p.1 ≠ 151) (hk : p < src.length) (hl : src.length ≤ 10000) (hm : msg.length ≤ 1000) :
    CbAt hd w mean mg mb 8 156 nw [.str src t3, .int p t1, .str msg t2] (RetErr news (errText src p.toNat msg)) := by
  have := err_K (hd := hd) (w := w) (mean := mean) (mg := mg) (mb := mb) (src := src) (msg := msg) (pos := p.toNat) (t1 := t1) (t2 := t2) (t3 := t3) hL hn (by omega) hl hm
  rwa [Int.toNat_of_nonneg h0] at this
set_option hygiene false
local macro_rules | `(tactic| walk_at "call type:int") => `(tactic| (k_here; (with_reducible show wpAny _ _ (call (Value.type "int") [Value.str _ _, Value.int 16 _]) _ _ _); k_dflt (refine' call_hex (by assumption) (by assumption) (by assumption) ?_); intro tI kI; (try dsimp only)))
local macro_rules | `(tactic| walk_at "call builtin:frozenset.issuperset") => `(tactic| (k_here; k_dflt (refine' issup_callT (by rfl) (by k_asm) (by assumption) (by k_asm) (by k_asm) (by assumption) ?_); intro h9 tk9 F9 N9; (try dsimp only)))
local macro_rules | `(tactic| walk_at "call ref") => `(tactic| (k_here; (with_reducible show wpAny _ _ (call (Value.ref 163) _) _ _ _); k_dflt ((first | refine' cb_gq (hd := none) (uni_T ?p1) ?_; (case p1 => assumption) | refine' cb_gq (hd := none) (uni_F ?p1) ?_; (case p1 => assumption)); dsimp only [RetV]; intro t9 h9 tk9 F9 N9; (try dsimp only))))
local macro_rules | `(tactic| walk_at "call builtin:chr") => `(tactic| (k_here; (with_reducible show wpAny _ _ (call (Value.builtin "chr") [Value.int ((hexVal _ : Nat) : Int) _]) _ _ _); refine' chr_of_range (by omega) (by omega) ?_; try dsimp only))
local macro_rules | `(tactic| walk_at "exec Raise some none") => `(tactic| (k_here; (with_reducible show wpAny _ _ (exec (Stmt.Raise (some (Expr.Call (Expr.Name _ _) _ [] _)) none _) _) _ _ _); k_dflt (refine' raise_go (by rfl) ?_)))
local macro_rules | `(tactic| walk_at "call ref") => `(tactic| (k_here; (with_reducible show wpAny _ _ (call (Value.ref 156) _) _ _ _); k_dflt (refine' cb_gq (hd := none) (err_I (by omega) (by assumption) (by assumption) (by omega) (by assumption) (by first | exact Nat.le_of_ble_eq_true rfl | omega)) ?_; dsimp only [RetErr]; intro e9 t9 tk9 h9 k9 nw9 L9 F9 N9 ne9 D9; (try dsimp only))))
local macro_rules | `(tactic| walk_at "RaiseQ") => `(tactic| (k_dflt (refine' raiseQ_mk ?F ?X ?N ?_; (case F => assumption); (case X => assumption); (case N => assumption)); k_dflt (refine' leave_err ?B ?F ?N ?ne ?D ?_; (case B => assumption); (case F => assumption); (case N => assumption); (case ne => assumption); (case D => assumption)); intro hL9 tL9 RL9 UL9; (try dsimp only)))
set_option hygiene true
-- B
abbrev Mine.RetTup (news : List (Addr × Obj)) (p : Int) (x : PySem.Str) (_base : Heap) (_out : List Env) (h₀ : Heap) (L : Addr) (m : PySem.Str → Option Value) (s : Shared) (Q _E : Value → Shared → Prop) : Prop :=
  ∀ (l : Addr) (t1 t2 : Tok) (h' : Heap) (tk' : Nat), Fr h₀ L h' m → News h₀ L h' ((l, TO [.int p t1, .str x t2]) :: news) → (∀ p ∈ news, p.1 < l) → Q (.ref l) { s with heap := h', toks := tk' }
abbrev Mine.FlyE (news : List (Addr × Obj)) (text : PySem.Str) (base : Heap) (out : List Env) (h₀ : Heap) (L : Addr) (m : PySem.Str → Option Value) (s : Shared) (_Q E : Value → Shared → Prop) : Prop := FlyT news text base out h₀ L m s E
set_option maxHeartbeats 1000000 in
theorem Mine.hex_g {w : World} {mean : ExcName → Option Value} {mg mb : PySem.Str → Option Value} {nw : List (Addr × Obj)} {src : PySem.Str} {pos n : Nat} {t1 t2 t3 : Tok}
    (hn8 : n ≤ 8) (hs : (Txt.slice src (some (pos : Int)) (some ((pos : Int) + n))).length = n) (hA : ∀ c ∈ (Txt.slice src (some (pos : Int)) (some ((pos : Int) + n))).cps.toList, c ∈ hexes) (hB : (Txt.slice src (some (pos : Int)) (some ((pos : Int) + n))).cps.toList ≠ []) (hC : (Txt.slice src (some (pos : Int)) (some ((pos : Int) + n))).cps.toList.length ≤ 640) (hu : isUni (hexVal (Txt.slice src (some (pos : Int)) (some ((pos : Int) + n))).cps.toList : Int) = true) (hv : hexVal (Txt.slice src (some (pos : Int)) (some ((pos : Int) + n))).cps.toList ≤ 1114111) (hp : pos < src.length) (hl : src.length ≤ 10000) :
    Cb w mean mg mb 10 142 nw [.str src t1, .int pos t2, .int n t3] (RetTup nw ((pos : Int) + n) (one (hexVal (Txt.slice src (some (pos : Int)) (some ((pos : Int) + n))).cps.toList))) := by
  dsimp only [Cb, CbAt, RetTup]
  intros; rename_i hret
  refine wpAny_call ?_
  k_dflt cell_enter
  k_steps
  all_goals (refine' hret _ _ _ _ _ ?F ?N ?l; (case F => assumption); (case N => assumption); (case l => assumption))
set_option maxHeartbeats 1000000 in
theorem Mine.hex_b {w : World} {mean : ExcName → Option Value} {mg mb : PySem.Str → Option Value} {news nw : List (Addr × Obj)} {src : PySem.Str} {pos n : Nat} {t1 t2 t3 : Tok}
    (hn8 : n ≤ 8) (hs : (Txt.slice src (some (pos : Int)) (some ((pos : Int) + n))).length = n) (hA : ∀ c ∈ (Txt.slice src (some (pos : Int)) (some ((pos : Int) + n))).cps.toList, c ∈ hexes) (hB : (Txt.slice src (some (pos : Int)) (some ((pos : Int) + n))).cps.toList ≠ []) (hC : (Txt.slice src (some (pos : Int)) (some ((pos : Int) + n))).cps.toList.length ≤ 640) (hu : isUni (hexVal (Txt.slice src (some (pos : Int)) (some ((pos : Int) + n))).cps.toList : Int) = false) (hL : LedIn news nw) (hn : ∀ p ∈ news, p.1 ≠ 151) (hp : pos + n < src.length) (hl : src.length ≤ 10000) :
    Cb w mean mg mb 10 142 nw [.str src t1, .int pos t2, .int n t3] (FlyE news (errText src (pos + n) (Str.ofString "Escaped character is not a Unicode scalar value"))) := by
  have hk9 : ((pos : Int) + n) = ((pos + n : Nat) : Int) := rfl
  dsimp only [Cb, CbAt, FlyE, FlyT]
  intros; rename_i hret
  refine wpAny_call ?_
  k_dflt cell_enter
  k_steps
  all_goals (refine' hret _ _ _ _ _ _ ?L ?F ?R; (case L => assumption); (case F => exact ⟨_, (by assumption), (by assumption)⟩); (case R => assumption))
theorem Mine.hex_g4 {w : World} {mean : ExcName → Option Value} {mg mb : PySem.Str → Option Value} {news nw : List (Addr × Obj)} {src : PySem.Str} {pos : Nat} {t1 t2 t3 : Tok}
    (hs : (Txt.slice src (some (pos : Int)) (some ((pos : Int) + 4))).length = 4) (hA : ∀ c ∈ (Txt.slice src (some (pos : Int)) (some ((pos : Int) + 4))).cps.toList, c ∈ hexes) (hB : (Txt.slice src (some (pos : Int)) (some ((pos : Int) + 4))).cps.toList ≠ []) (hC : (Txt.slice src (some (pos : Int)) (some ((pos : Int) + 4))).cps.toList.length ≤ 640) (hu : isUni (hexVal (Txt.slice src (some (pos : Int)) (some ((pos : Int) + 4))).cps.toList : Int) = true) (hv : hexVal (Txt.slice src (some (pos : Int)) (some ((pos : Int) + 4))).cps.toList ≤ 1114111) (hp : pos < src.length) (hl : src.length ≤ 10000) :
    Cb w mean mg mb 10 142 nw [.str src t1, .int pos t2, .int 4 t3] (RetTup nw ((pos : Int) + 4) (one (hexVal (Txt.slice src (some (pos : Int)) (some ((pos : Int) + 4))).cps.toList))) := hex_g (n := 4) (by decide) hs hA hB hC hu hv hp hl
theorem Mine.hex_b4 {w : World} {mean : ExcName → Option Value} {mg mb : PySem.Str → Option Value} {news nw : List (Addr × Obj)} {src : PySem.Str} {pos : Nat} {t1 t2 t3 : Tok}
    (hs : (Txt.slice src (some (pos : Int)) (some ((pos : Int) + 4))).length = 4) (hA : ∀ c ∈ (Txt.slice src (some (pos : Int)) (some ((pos : Int) + 4))).cps.toList, c ∈ hexes) (hB : (Txt.slice src (some (pos : Int)) (some ((pos : Int) + 4))).cps.toList ≠ []) (hC : (Txt.slice src (some (pos : Int)) (some ((pos : Int) + 4))).cps.toList.length ≤ 640) (hu : isUni (hexVal (Txt.slice src (some (pos : Int)) (some ((pos : Int) + 4))).cps.toList : Int) = false) (hL : LedIn news nw) (hn : ∀ p ∈ news, p.1 ≠ 151) (hp : pos + 4 < src.length) (hl : src.length ≤ 10000) :
    Cb w mean mg mb 10 142 nw [.str src t1, .int pos t2, .int 4 t3] (FlyE news (errText src (pos + 4) (Str.ofString "Escaped character is not a Unicode scalar value"))) := hex_b (n := 4) (by decide) hs hA hB hC hu hL hn hp hl
theorem Mine.hex_g8 {w : World} {mean : ExcName → Option Value} {mg mb : PySem.Str → Option Value} {news nw : List (Addr × Obj)} {src : PySem.Str} {pos : Nat} {t1 t2 t3 : Tok}
    (hs : (Txt.slice src (some (pos : Int)) (some ((pos : Int) + 8))).length = 8) (hA : ∀ c ∈ (Txt.slice src (some (pos : Int)) (some ((pos : Int) + 8))).cps.toList, c ∈ hexes) (hB : (Txt.slice src (some (pos : Int)) (some ((pos : Int) + 8))).cps.toList ≠ []) (hC : (Txt.slice src (some (pos : Int)) (some ((pos : Int) + 8))).cps.toList.length ≤ 640) (hu : isUni (hexVal (Txt.slice src (some (pos : Int)) (some ((pos : Int) + 8))).cps.toList : Int) = true) (hv : hexVal (Txt.slice src (some (pos : Int)) (some ((pos : Int) + 8))).cps.toList ≤ 1114111) (hp : pos < src.length) (hl : src.length ≤ 10000) :
    Cb w mean mg mb 10 142 nw [.str src t1, .int pos t2, .int 8 t3] (RetTup nw ((pos : Int) + 8) (one (hexVal (Txt.slice src (some (pos : Int)) (some ((pos : Int) + 8))).cps.toList))) := hex_g (n := 8) (by decide) hs hA hB hC hu hv hp hl
theorem Mine.hex_b8 {w : World} {mean : ExcName → Option Value} {mg mb : PySem.Str → Option Value} {news nw : List (Addr × Obj)} {src : PySem.Str} {pos : Nat} {t1 t2 t3 : Tok}
    (hs : (Txt.slice src (some (pos : Int)) (some ((pos : Int) + 8))).length = 8) (hA : ∀ c ∈ (Txt.slice src (some (pos : Int)) (some ((pos : Int) + 8))).cps.toList, c ∈ hexes) (hB : (Txt.slice src (some (pos : Int)) (some ((pos : Int) + 8))).cps.toList ≠ []) (hC : (Txt.slice src (some (pos : Int)) (some ((pos : Int) + 8))).cps.toList.length ≤ 640) (hu : isUni (hexVal (Txt.slice src (some (pos : Int)) (some ((pos : Int) + 8))).cps.toList : Int) = false) (hL : LedIn news nw) (hn : ∀ p ∈ news, p.1 ≠ 151) (hp : pos + 8 < src.length) (hl : src.length ≤ 10000) :
    Cb w mean mg mb 10 142 nw [.str src t1, .int pos t2, .int 8 t3] (FlyE news (errText src (pos + 8) (Str.ofString "Escaped character is not a Unicode scalar value"))) := hex_b (n := 8) (by decide) hs hA hB hC hu hL hn hp hl
section
variable {w : World} {mean : ExcName → Option Value} {mg mb : PySem.Str → Option Value} {nw : List (Addr × Obj)} {src : PySem.Str} {p : Int} {c : Nat} {t1 t2 t3 : Tok}
theorem Mine.hexI_g4 (h0 : 0 ≤ p) (hp : p < src.length) (hl : src.length ≤ 10000) (H : HexG src p 4 c) : Cb w mean mg mb 10 142 nw [.str src t1, .int p t2, .int 4 t3] (RetTup nw (p + 4) (one c)) := by
  obtain ⟨n, rfl⟩ := Int.eq_ofNat_of_zero_le h0
  obtain ⟨h1, h2, h3, h4, h5, h6, rfl⟩ := H
  exact hex_g4 (news := []) (by omega) h2 h3 h4 h5 h6 (by omega) hl
theorem Mine.hexI_g8 (h0 : 0 ≤ p) (hp : p < src.length) (hl : src.length ≤ 10000) (H : HexG src p 8 c) : Cb w mean mg mb 10 142 nw [.str src t1, .int p t2, .int 8 t3] (RetTup nw (p + 8) (one c)) := by
  obtain ⟨n, rfl⟩ := Int.eq_ofNat_of_zero_le h0
  obtain ⟨h1, h2, h3, h4, h5, h6, rfl⟩ := H
  exact hex_g8 (news := []) (by omega) h2 h3 h4 h5 h6 (by omega) hl
theorem Mine.hexI_b4 {news : List (Addr × Obj)} (h0 : 0 ≤ p) (hp : p + 4 < src.length) (hl : src.length ≤ 10000) (H : HexB src p 4) (hL : LedIn news nw) (hn : ∀ p ∈ news, p.1 ≠ 151) : Cb w mean mg mb 10 142 nw [.str src t1, .int p t2, .int 4 t3] (FlyE news (errText src (p.toNat + 4) (Str.ofString "Escaped character is not a Unicode scalar value"))) := by
  obtain ⟨n, rfl⟩ := Int.eq_ofNat_of_zero_le h0
  obtain ⟨h1, h2, h3, h4, h5⟩ := H
  exact hex_b4 (by omega) h2 h3 h4 h5 hL hn (by omega) hl
theorem Mine.hexI_b8 {news : List (Addr × Obj)} (h0 : 0 ≤ p) (hp : p + 8 < src.length) (hl : src.length ≤ 10000) (H : HexB src p 8) (hL : LedIn news nw) (hn : ∀ p ∈ news, p.1 ≠ 151) : Cb w mean mg mb 10 142 nw [.str src t1, .int p t2, .int 8 t3] (FlyE news (errText src (p.toNat + 8) (Str.ofString "Escaped character is not a Unicode scalar value"))) := by
  obtain ⟨n, rfl⟩ := Int.eq_ofNat_of_zero_le h0
  obtain ⟨h1, h2, h3, h4, h5⟩ := H
  exact hex_b8 (by omega) h2 h3 h4 h5 hL hn (by omega) hl
end
theorem Mine.ite_eqS {x y z : PySem.Str} {a b : Prop} (h : x = y) (k : (y == z) = true) (g : a) : ite ((x == z) = true) a b := by rw [if_pos (by rw [h]; exact k)]; exact g
theorem Mine.ite_neS {x y z : PySem.Str} {a b : Prop} (h : x = y) (k : (y == z) = false) (g : b) : ite ((x == z) = true) a b := by rw [if_neg (by rw [h, k]; exact Bool.false_ne_true)]; exact g
theorem Mine.prox_tail_hit {prog : Program} {w : World} {A : Around} {E : Value → Shared → Prop} {s : Shared} {value slice : Expr} {x y : PySem.Str} {t : Tok} {v : Value} {Q : Value → Shared → Prop} (X : (K w.params).In s.heap) (hx : x = y) (hf : findBy Value.isStrOf (es92 w.params) y = some v) (h : ∀ k, Q v { s with toks := k })
    (hs : subscripted slice false (.ref 93) (.str x t) = operate [.ref 93, .str x t] (getItem (.ref 93) (.str x t)) := by with_unfolding_all rfl) (hg : ∀ r, letTemporaryGo value (.ref 93) r = pure () := by intro _; with_unfolding_all rfl) :
    wpAny (model prog w) A (subscriptTail value slice (.ref 93) (.str x t)) Q E s :=
  tail_any (T := "mappingproxy") ⟨_, X 93 ⟨.type "mappingproxy", none, .fields #[.ref 92], #[]⟩ (by kernel_rfl), rfl⟩ slot_prox.lookup (prox_hit X hx hf h) hs
theorem Mine.prox_tail_miss {prog : Program} {w : World} {A : Around} {E : Value → Shared → Prop} {s : Shared} {value slice : Expr} {x y : PySem.Str} {t : Tok} {Q : Value → Shared → Prop} (X : (K w.params).In s.heap) (hh : A.handled = none) (hx : x = y) (hf : findBy Value.isStrOf (es92 w.params) y = none)
    (h : ∀ h' e k, Heap.NewExc s.heap h' e "KeyError" → E (.ref e) { s with heap := h', toks := k })
    (hs : subscripted slice false (.ref 93) (.str x t) = operate [.ref 93, .str x t] (getItem (.ref 93) (.str x t)) := by with_unfolding_all rfl) (hg : ∀ r, letTemporaryGo value (.ref 93) r = pure () := by intro _; with_unfolding_all rfl) :
    wpAny (model prog w) A (subscriptTail value slice (.ref 93) (.str x t)) Q E s :=
  tail_any (T := "mappingproxy") ⟨_, X 93 ⟨.type "mappingproxy", none, .fields #[.ref 92], #[]⟩ (by kernel_rfl), rfl⟩ slot_prox.lookup (prox_miss X hh hx hf h) hs
theorem Mine.f92_b {P : Params} : findBy Value.isStrOf (es92 P) (Str.ofString "\\b") = some (.str (Str.ofString "\x08") 459) := by kernel_rfl
theorem Mine.f92_t {P : Params} : findBy Value.isStrOf (es92 P) (Str.ofString "\\t") = some (.str (Str.ofString "\t") 461) := by kernel_rfl
theorem Mine.f92_n {P : Params} : findBy Value.isStrOf (es92 P) (Str.ofString "\\n") = some (.str (Str.ofString "\n") 463) := by kernel_rfl
theorem Mine.f92_f {P : Params} : findBy Value.isStrOf (es92 P) (Str.ofString "\\f") = some (.str (Str.ofString "\x0c") 465) := by kernel_rfl
theorem Mine.f92_r {P : Params} : findBy Value.isStrOf (es92 P) (Str.ofString "\\r") = some (.str (Str.ofString "\r") 467) := by kernel_rfl
theorem Mine.f92_q {P : Params} : findBy Value.isStrOf (es92 P) (Str.ofString "\\\"") = some (.str (Str.ofString "\"") 469) := by kernel_rfl
theorem Mine.f92_s {P : Params} : findBy Value.isStrOf (es92 P) (Str.ofString "\\\\") = some (.str (Str.ofString "\\") 471) := by kernel_rfl
theorem Mine.f92_k {P : Params} : findBy Value.isStrOf (es92 P) (Str.ofString "\\/") = none := by kernel_rfl
theorem Mine.err_X {hd : Option Value} {w : World} {mean : ExcName → Option Value} {mg mb : PySem.Str → Option Value} {news nw : List (Addr × Obj)} {src msg : PySem.Str} {p : Int} {k : Addr} {ok : Obj} {t1 t2 t3 : Tok} (h0 : 0 ≤ p) (hL : LedIn news nw) (hn : ∀ p ∈ news, p.1 ≠ 151) (hk : p < src.length) (hl : src.length ≤ 10000) (hm : msg.length ≤ 1000) (hne : ∀ p ∈ nw, p.1 ≠ k) :
    CbAt hd w mean mg mb 8 156 ((k, ok) :: nw) [.str src t3, .int p t1, .str msg t2] (fun _ _ h₀ L m s Q _ => ∀ e t tk h' tk' nw', LedIn news nw' → Fr h₀ L h' m → News h₀ L h' ((e, EO t) :: (t, TO [.str (errText src p.toNat msg) tk]) :: (k, ok) :: nw') → e ≠ t → (∀ p ∈ (k, ok) :: nw', p.1 ≠ e ∧ p.1 ≠ t) → Q (.ref e) { s with heap := h', toks := tk' }) := by
  obtain ⟨led, hled, rfl⟩ := hL
  have h151 : k ≠ 151 := fun q => by
    have : ∀ p ∈ led, p.1 ≠ 151 := fun p hp => q ▸ hne p (List.mem_append_left _ hp)
    rcases hled with rfl | ⟨c', oc, vs, t, rfl, _⟩ <;> exact this _ (.head _) rfl
  have C := err_I (hd := hd) (w := w) (mean := mean) (mg := mg) (mb := mb) (news := (k, ok) :: news) (nw := led ++ (k, ok) :: news) (src := src) (msg := msg) (p := p) (t1 := t1) (t2 := t2) (t3 := t3) h0 ⟨led, hled, rfl⟩ (fun p hp => by
    rcases List.mem_cons.mp hp with rfl | hp
    · exact h151
    · exact hn p hp) hk hl hm
  have sub : ∀ (l : List (Addr × Obj)), ∀ p ∈ l ++ (k, ok) :: news, p ∈ (k, ok) :: (l ++ news) := fun l p hp => by
    simp only [List.mem_append, List.mem_cons] at hp ⊢
    rcases hp with h | h | h <;> simp [h]
  have sub2 : ∀ (l : List (Addr × Obj)), ∀ p ∈ (k, ok) :: (l ++ news), p ∈ l ++ (k, ok) :: news := fun l p hp => by
    simp only [List.mem_append, List.mem_cons] at hp ⊢
    rcases hp with h | h | h <;> simp [h]
  intro dp un gd cn cs a ccd cl outer A₀ base h₀ L m s Q E k1 kz k2 k3 k4 k5 kK kd ku kR
  refine C dp un gd cn cs a ccd cl outer A₀ base h₀ L m s Q E k1 kz k2 k3 (fun p hp => k4 p (sub led p hp)) k5 kK kd ku ?_
  intro e t tk h' tk' nw' hL' F N ne D
  obtain ⟨led', hled', rfl⟩ := hL'
  refine kR e t tk h' tk' (led' ++ news) ⟨led', hled', rfl⟩ F (fun p hp => ?_) ne fun p hp => D p (sub2 led' p hp)
  rcases List.mem_cons.mp hp with rfl | hp
  · exact N _ (.head _)
  rcases List.mem_cons.mp hp with rfl | hp
  · exact N _ (.tail _ (.head _))
  · exact N _ (.tail _ (.tail _ (sub2 led' p hp)))
set_option hygiene false
local macro_rules | `(tactic| walk_at "ite") => `(tactic| ((with_reducible show ite ((_ == _) = true) _ _); (first | (refine' ite_eqS ?h ?k ?_; (case h => with_reducible assumption); (case k => decide +kernel)) | (refine' ite_neS ?h ?k ?_; (case h => with_reducible assumption); (case k => decide +kernel)))))
local macro_rules | `(tactic| walk_at "call ref") => `(tactic| (k_here; (with_reducible show wpAny _ _ (call (Value.ref 142) _) _ _ _); k_dflt ((first | refine' cb_gq (hd := none) (hexI_g4 ?p1 ?p2 ?p3 ?p4) ?_; (case p4 => with_reducible assumption) | refine' cb_gq (hd := none) (hexI_g8 ?p1 ?p2 ?p3 ?p4) ?_; (case p4 => with_reducible assumption)); (case p1 => omega); (case p2 => omega); (case p3 => assumption); dsimp only [RetTup]; intro l9 ta9 tb9 h9 k9 F9 N9 lt9; (try dsimp only))))
local macro_rules | `(tactic| walk_at "call ref") => `(tactic| (k_here; (with_reducible show wpAny _ _ (call (Value.ref 142) _) _ _ _); k_dflt ((first | refine' cb_gq (hd := none) (hexI_b4 ?p1 ?p2 ?p3 ?p4 ?p5 ?p6) ?_; (case p4 => with_reducible assumption) | refine' cb_gq (hd := none) (hexI_b8 ?p1 ?p2 ?p3 ?p4 ?p5 ?p6) ?_; (case p4 => with_reducible assumption)); (case p1 => omega); (case p2 => omega); (case p3 => assumption); (case p5 => assumption); (case p6 => assumption); dsimp only [FlyE, FlyT]; intro e9 t9 tk9 h9 k9 nw9 L9 W9 R9; obtain ⟨g9, F9, U9⟩ := W9; refine' leave_onK ?B ?F ?R ?U ?_; (case B => assumption); (case F => exact F9); (case R => exact R9); (case U => exact U9); intro hL9 RL9 UL9; (try dsimp only))))
local macro_rules | `(tactic| walk_at "subscriptTail") => `(tactic| (k_here; (with_reducible show wpAny _ _ (subscriptTail _ _ (Value.ref 93) (Value.str _ _)) _ _ _); k_dflt (refine' prox_tail_hit (by k_in) (by with_reducible assumption) (by with_reducible first | exact f92_b | exact f92_t | exact f92_n | exact f92_f | exact f92_r | exact f92_q | exact f92_s) ?_); intro k9; (try dsimp only)))
local macro_rules | `(tactic| walk_at "subscriptTail") => `(tactic| (k_here; (with_reducible show wpAny _ _ (subscriptTail _ _ (Value.ref 93) (Value.str _ _)) _ _ _); k_dflt (refine' prox_tail_miss (by k_in) (by rfl) (by with_reducible assumption) (by with_reducible exact f92_k) ?_); intro h9 e9 k9 x9; (try dsimp only)))
local macro_rules | `(tactic| walk_at "noteFrame ref") => `(tactic| (k_here; k_dflt (refine' caught_key (by assumption) (by assumption) (by assumption) (by assumption) (by assumption) ?_); intro h9 g9 ok9 kv9 me9 mg9 mb9 F9 N9 Ne9 B9 X9 T9 U9 dk9 vk9; (try dsimp only)))
local macro_rules | `(tactic| walk_at "exec Raise some some") => `(tactic| (k_here; (with_reducible show wpAny _ _ (exec (Stmt.Raise (some _) (some (Expr.Constant Const.none _ _)) _) _) _ _ _); k_dflt (refine' raise_from (by rfl) ?_)))
local macro_rules | `(tactic| walk_at "call ref") => `(tactic| (k_here; (with_reducible show wpAny _ _ (call (Value.ref 156) _) (RaiseF _ _) _ _); k_dflt (refine' cb_gq (hd := some (.ref _)) (err_X (by omega) (by assumption) (by assumption) (by omega) (by assumption) (by first | exact Nat.le_of_ble_eq_true rfl | omega) (by assumption)) ?_; intro e9 t9 tk9 h9 k9 nw9 L9 F9 N9 ne9 D9; (try dsimp only); refine' raiseF_leave (by assumption) (by exact F9) (by assumption) (by exact N9) (by exact ne9) (by exact D9) (by assumption) (by assumption) (fun _ h => h) ?_; intro hL9 RL9 UL9; (try dsimp only))))
set_option hygiene true
section
set_option hygiene false
local macro_rules | `(tactic| cell_enter) => `(tactic| ((refine' code_def (binds := [(Str.ofString "src", Value.str _ _), (Str.ofString "pos", Value.int _ _), (Str.ofString "multiline", Value.bool false)]) (by k_asm) (by k_asm) (by k_asm) (by k_asm) (by k_asm) (by exact rfl) (by exact rfl) (by assumption) (by k_is) (by k_is) (by ktr_room) (by exact kp_binds (by k_in) (fun S => rfl)) (by exact locs rfl) ?_ (by exact rfl) (by exact rfl) (by exact rfl) (by decide); k_whole; intro g' L' h' FG' F' N' B' X' T'; (try dsimp only); (try k_lift B'); (try k_fold))))
set_option hygiene true
-- C
set_option maxHeartbeats 1000000 in
theorem Mine.esc_u4 {w : World} {mean : ExcName → Option Value} {mg mb : PySem.Str → Option Value} {news nw : List (Addr × Obj)} {src : PySem.Str} {pos c : Nat} {t1 t2 : Tok}
    (hs : Txt.slice src (some (pos : Int)) (some ((pos : Int) + 2)) = Str.ofString "\\u") (H : HexG src ((pos : Int) + 2) 4 c) (hp : pos + 2 < src.length) (hl : src.length ≤ 10000) :
    Cb w mean mg mb 12 128 nw [.str src t1, .int pos t2] (RetTup nw ((pos : Int) + 2 + 4) (one c)) := by
  dsimp only [Cb, CbAt, RetTup, FlyE, FlyT]
  intros; rename_i hret
  refine wpAny_call ?_
  k_dflt ((refine' code_def (binds := [(Str.ofString "src", Value.str src t1), (Str.ofString "pos", Value.int (pos : Int) t2), (Str.ofString "multiline", Value.bool false)]) ?k1 ?k2 ?k3 ?k4 ?k5 ?kA ?kF ?kK ?k6 ?k7 ?k8 ?k9 ?kB ?_ ?c2 ?c3 ?c4 ?c5; (case kA => exact rfl); (case kF => exact rfl); (case kK => assumption); (case k1 => k_asm); (case k2 => k_asm); (case k3 => k_asm); (case k4 => k_asm); (case k5 => k_asm); (case k6 => k_is); (case k7 => k_is); (case k8 => ktr_room); (case k9 => exact kp_binds (by k_in) (fun S => by kernel_rfl)); (case c5 => decide); (case kB => exact locs rfl); (case c2 => exact rfl); (case c3 => exact rfl); (case c4 => exact rfl); k_whole; intro g' L' h' FG' F' N' B' X' T'; (try dsimp only); (try k_lift B'); (try k_fold)))
  k_steps
  all_goals (refine' hret _ _ _ _ _ ?F ?N ?l; (case F => assumption); (case N => assumption); (case l => assumption))
set_option maxHeartbeats 1000000 in
theorem Mine.esc_u8 {w : World} {mean : ExcName → Option Value} {mg mb : PySem.Str → Option Value} {news nw : List (Addr × Obj)} {src : PySem.Str} {pos c : Nat} {t1 t2 : Tok}
    (hs : Txt.slice src (some (pos : Int)) (some ((pos : Int) + 2)) = Str.ofString "\\U") (H : HexG src ((pos : Int) + 2) 8 c) (hp : pos + 2 < src.length) (hl : src.length ≤ 10000) :
    Cb w mean mg mb 12 128 nw [.str src t1, .int pos t2] (RetTup nw ((pos : Int) + 2 + 8) (one c)) := by
  dsimp only [Cb, CbAt, RetTup, FlyE, FlyT]
  intros; rename_i hret
  refine wpAny_call ?_
  k_dflt ((refine' code_def (binds := [(Str.ofString "src", Value.str src t1), (Str.ofString "pos", Value.int (pos : Int) t2), (Str.ofString "multiline", Value.bool false)]) ?k1 ?k2 ?k3 ?k4 ?k5 ?kA ?kF ?kK ?k6 ?k7 ?k8 ?k9 ?kB ?_ ?c2 ?c3 ?c4 ?c5; (case kA => exact rfl); (case kF => exact rfl); (case kK => assumption); (case k1 => k_asm); (case k2 => k_asm); (case k3 => k_asm); (case k4 => k_asm); (case k5 => k_asm); (case k6 => k_is); (case k7 => k_is); (case k8 => ktr_room); (case k9 => exact kp_binds (by k_in) (fun S => by kernel_rfl)); (case c5 => decide); (case kB => exact locs rfl); (case c2 => exact rfl); (case c3 => exact rfl); (case c4 => exact rfl); k_whole; intro g' L' h' FG' F' N' B' X' T'; (try dsimp only); (try k_lift B'); (try k_fold)))
  k_steps
  all_goals (refine' hret _ _ _ _ _ ?F ?N ?l; (case F => assumption); (case N => assumption); (case l => assumption))
set_option maxHeartbeats 1000000 in
theorem Mine.esc_b4 {w : World} {mean : ExcName → Option Value} {mg mb : PySem.Str → Option Value} {news nw : List (Addr × Obj)} {src : PySem.Str} {pos c : Nat} {t1 t2 : Tok}
    (hs : Txt.slice src (some (pos : Int)) (some ((pos : Int) + 2)) = Str.ofString "\\u") (H : HexB src ((pos : Int) + 2) 4) (hL : LedIn news nw) (hn : ∀ p ∈ news, p.1 ≠ 151) (hp : pos + 2 + 4 < src.length) (hl : src.length ≤ 10000) :
    Cb w mean mg mb 12 128 nw [.str src t1, .int pos t2] (FlyE news (errText src (pos + 2 + 4) (Str.ofString "Escaped character is not a Unicode scalar value"))) := by
  dsimp only [Cb, CbAt, RetTup, FlyE, FlyT]
  intros; rename_i hret
  refine wpAny_call ?_
  k_dflt ((refine' code_def (binds := [(Str.ofString "src", Value.str src t1), (Str.ofString "pos", Value.int (pos : Int) t2), (Str.ofString "multiline", Value.bool false)]) ?k1 ?k2 ?k3 ?k4 ?k5 ?kA ?kF ?kK ?k6 ?k7 ?k8 ?k9 ?kB ?_ ?c2 ?c3 ?c4 ?c5; (case kA => exact rfl); (case kF => exact rfl); (case kK => assumption); (case k1 => k_asm); (case k2 => k_asm); (case k3 => k_asm); (case k4 => k_asm); (case k5 => k_asm); (case k6 => k_is); (case k7 => k_is); (case k8 => ktr_room); (case k9 => exact kp_binds (by k_in) (fun S => by kernel_rfl)); (case c5 => decide); (case kB => exact locs rfl); (case c2 => exact rfl); (case c3 => exact rfl); (case c4 => exact rfl); k_whole; intro g' L' h' FG' F' N' B' X' T'; (try dsimp only); (try k_lift B'); (try k_fold)))
  k_steps
  all_goals (refine' hret _ _ _ _ _ _ ?L ?F ?R; (case L => assumption); (case F => exact ⟨_, (by assumption), (by assumption)⟩); (case R => assumption))
set_option maxHeartbeats 1000000 in
theorem Mine.esc_b8 {w : World} {mean : ExcName → Option Value} {mg mb : PySem.Str → Option Value} {news nw : List (Addr × Obj)} {src : PySem.Str} {pos c : Nat} {t1 t2 : Tok}
    (hs : Txt.slice src (some (pos : Int)) (some ((pos : Int) + 2)) = Str.ofString "\\U") (H : HexB src ((pos : Int) + 2) 8) (hL : LedIn news nw) (hn : ∀ p ∈ news, p.1 ≠ 151) (hp : pos + 2 + 8 < src.length) (hl : src.length ≤ 10000) :
    Cb w mean mg mb 12 128 nw [.str src t1, .int pos t2] (FlyE news (errText src (pos + 2 + 8) (Str.ofString "Escaped character is not a Unicode scalar value"))) := by
  dsimp only [Cb, CbAt, RetTup, FlyE, FlyT]
  intros; rename_i hret
  refine wpAny_call ?_
  k_dflt ((refine' code_def (binds := [(Str.ofString "src", Value.str src t1), (Str.ofString "pos", Value.int (pos : Int) t2), (Str.ofString "multiline", Value.bool false)]) ?k1 ?k2 ?k3 ?k4 ?k5 ?kA ?kF ?kK ?k6 ?k7 ?k8 ?k9 ?kB ?_ ?c2 ?c3 ?c4 ?c5; (case kA => exact rfl); (case kF => exact rfl); (case kK => assumption); (case k1 => k_asm); (case k2 => k_asm); (case k3 => k_asm); (case k4 => k_asm); (case k5 => k_asm); (case k6 => k_is); (case k7 => k_is); (case k8 => ktr_room); (case k9 => exact kp_binds (by k_in) (fun S => by kernel_rfl)); (case c5 => decide); (case kB => exact locs rfl); (case c2 => exact rfl); (case c3 => exact rfl); (case c4 => exact rfl); k_whole; intro g' L' h' FG' F' N' B' X' T'; (try dsimp only); (try k_lift B'); (try k_fold)))
  k_steps
  all_goals (refine' hret _ _ _ _ _ _ ?L ?F ?R; (case L => assumption); (case F => exact ⟨_, (by assumption), (by assumption)⟩); (case R => assumption))
set_option maxHeartbeats 1000000 in
theorem Mine.esc_sb {w : World} {mean : ExcName → Option Value} {mg mb : PySem.Str → Option Value} {news nw : List (Addr × Obj)} {src : PySem.Str} {pos c : Nat} {t1 t2 : Tok}
    (hs : Txt.slice src (some (pos : Int)) (some ((pos : Int) + 2)) = Str.ofString "\\b") (hp : pos + 2 < src.length) (hl : src.length ≤ 10000) :
    Cb w mean mg mb 12 128 nw [.str src t1, .int pos t2] (RetTup nw ((pos : Int) + 2) (Str.ofString "\x08")) := by
  dsimp only [Cb, CbAt, RetTup, FlyE, FlyT]
  intros; rename_i hret
  refine wpAny_call ?_
  k_dflt ((refine' code_def (binds := [(Str.ofString "src", Value.str src t1), (Str.ofString "pos", Value.int (pos : Int) t2), (Str.ofString "multiline", Value.bool false)]) ?k1 ?k2 ?k3 ?k4 ?k5 ?kA ?kF ?kK ?k6 ?k7 ?k8 ?k9 ?kB ?_ ?c2 ?c3 ?c4 ?c5; (case kA => exact rfl); (case kF => exact rfl); (case kK => assumption); (case k1 => k_asm); (case k2 => k_asm); (case k3 => k_asm); (case k4 => k_asm); (case k5 => k_asm); (case k6 => k_is); (case k7 => k_is); (case k8 => ktr_room); (case k9 => exact kp_binds (by k_in) (fun S => by kernel_rfl)); (case c5 => decide); (case kB => exact locs rfl); (case c2 => exact rfl); (case c3 => exact rfl); (case c4 => exact rfl); k_whole; intro g' L' h' FG' F' N' B' X' T'; (try dsimp only); (try k_lift B'); (try k_fold)))
  k_steps
  all_goals (refine' hret _ _ _ _ _ ?F ?N ?l; (case F => assumption); (case N => assumption); (case l => assumption))
set_option maxHeartbeats 1000000 in
theorem Mine.esc_st {w : World} {mean : ExcName → Option Value} {mg mb : PySem.Str → Option Value} {news nw : List (Addr × Obj)} {src : PySem.Str} {pos c : Nat} {t1 t2 : Tok}
    (hs : Txt.slice src (some (pos : Int)) (some ((pos : Int) + 2)) = Str.ofString "\\t") (hp : pos + 2 < src.length) (hl : src.length ≤ 10000) :
    Cb w mean mg mb 12 128 nw [.str src t1, .int pos t2] (RetTup nw ((pos : Int) + 2) (Str.ofString "\t")) := by
  dsimp only [Cb, CbAt, RetTup, FlyE, FlyT]
  intros; rename_i hret
  refine wpAny_call ?_
  k_dflt ((refine' code_def (binds := [(Str.ofString "src", Value.str src t1), (Str.ofString "pos", Value.int (pos : Int) t2), (Str.ofString "multiline", Value.bool false)]) ?k1 ?k2 ?k3 ?k4 ?k5 ?kA ?kF ?kK ?k6 ?k7 ?k8 ?k9 ?kB ?_ ?c2 ?c3 ?c4 ?c5; (case kA => exact rfl); (case kF => exact rfl); (case kK => assumption); (case k1 => k_asm); (case k2 => k_asm); (case k3 => k_asm); (case k4 => k_asm); (case k5 => k_asm); (case k6 => k_is); (case k7 => k_is); (case k8 => ktr_room); (case k9 => exact kp_binds (by k_in) (fun S => by kernel_rfl)); (case c5 => decide); (case kB => exact locs rfl); (case c2 => exact rfl); (case c3 => exact rfl); (case c4 => exact rfl); k_whole; intro g' L' h' FG' F' N' B' X' T'; (try dsimp only); (try k_lift B'); (try k_fold)))
  k_steps
  all_goals (refine' hret _ _ _ _ _ ?F ?N ?l; (case F => assumption); (case N => assumption); (case l => assumption))
set_option maxHeartbeats 1000000 in
theorem Mine.esc_sn {w : World} {mean : ExcName → Option Value} {mg mb : PySem.Str → Option Value} {news nw : List (Addr × Obj)} {src : PySem.Str} {pos c : Nat} {t1 t2 : Tok}
    (hs : Txt.slice src (some (pos : Int)) (some ((pos : Int) + 2)) = Str.ofString "\\n") (hp : pos + 2 < src.length) (hl : src.length ≤ 10000) :
    Cb w mean mg mb 12 128 nw [.str src t1, .int pos t2] (RetTup nw ((pos : Int) + 2) (Str.ofString "\n")) := by
  dsimp only [Cb, CbAt, RetTup, FlyE, FlyT]
  intros; rename_i hret
  refine wpAny_call ?_
  k_dflt ((refine' code_def (binds := [(Str.ofString "src", Value.str src t1), (Str.ofString "pos", Value.int (pos : Int) t2), (Str.ofString "multiline", Value.bool false)]) ?k1 ?k2 ?k3 ?k4 ?k5 ?kA ?kF ?kK ?k6 ?k7 ?k8 ?k9 ?kB ?_ ?c2 ?c3 ?c4 ?c5; (case kA => exact rfl); (case kF => exact rfl); (case kK => assumption); (case k1 => k_asm); (case k2 => k_asm); (case k3 => k_asm); (case k4 => k_asm); (case k5 => k_asm); (case k6 => k_is); (case k7 => k_is); (case k8 => ktr_room); (case k9 => exact kp_binds (by k_in) (fun S => by kernel_rfl)); (case c5 => decide); (case kB => exact locs rfl); (case c2 => exact rfl); (case c3 => exact rfl); (case c4 => exact rfl); k_whole; intro g' L' h' FG' F' N' B' X' T'; (try dsimp only); (try k_lift B'); (try k_fold)))
  k_steps
  all_goals (refine' hret _ _ _ _ _ ?F ?N ?l; (case F => assumption); (case N => assumption); (case l => assumption))
set_option maxHeartbeats 1000000 in
theorem Mine.esc_sf {w : World} {mean : ExcName → Option Value} {mg mb : PySem.Str → Option Value} {news nw : List (Addr × Obj)} {src : PySem.Str} {pos c : Nat} {t1 t2 : Tok}
    (hs : Txt.slice src (some (pos : Int)) (some ((pos : Int) + 2)) = Str.ofString "\\f") (hp : pos + 2 < src.length) (hl : src.length ≤ 10000) :
    Cb w mean mg mb 12 128 nw [.str src t1, .int pos t2] (RetTup nw ((pos : Int) + 2) (Str.ofString "\x0c")) := by
  dsimp only [Cb, CbAt, RetTup, FlyE, FlyT]
  intros; rename_i hret
  refine wpAny_call ?_
  k_dflt ((refine' code_def (binds := [(Str.ofString "src", Value.str src t1), (Str.ofString "pos", Value.int (pos : Int) t2), (Str.ofString "multiline", Value.bool false)]) ?k1 ?k2 ?k3 ?k4 ?k5 ?kA ?kF ?kK ?k6 ?k7 ?k8 ?k9 ?kB ?_ ?c2 ?c3 ?c4 ?c5; (case kA => exact rfl); (case kF => exact rfl); (case kK => assumption); (case k1 => k_asm); (case k2 => k_asm); (case k3 => k_asm); (case k4 => k_asm); (case k5 => k_asm); (case k6 => k_is); (case k7 => k_is); (case k8 => ktr_room); (case k9 => exact kp_binds (by k_in) (fun S => by kernel_rfl)); (case c5 => decide); (case kB => exact locs rfl); (case c2 => exact rfl); (case c3 => exact rfl); (case c4 => exact rfl); k_whole; intro g' L' h' FG' F' N' B' X' T'; (try dsimp only); (try k_lift B'); (try k_fold)))
  k_steps
  all_goals (refine' hret _ _ _ _ _ ?F ?N ?l; (case F => assumption); (case N => assumption); (case l => assumption))
set_option maxHeartbeats 1000000 in
theorem Mine.esc_sr {w : World} {mean : ExcName → Option Value} {mg mb : PySem.Str → Option Value} {news nw : List (Addr × Obj)} {src : PySem.Str} {pos c : Nat} {t1 t2 : Tok}
    (hs : Txt.slice src (some (pos : Int)) (some ((pos : Int) + 2)) = Str.ofString "\\r") (hp : pos + 2 < src.length) (hl : src.length ≤ 10000) :
    Cb w mean mg mb 12 128 nw [.str src t1, .int pos t2] (RetTup nw ((pos : Int) + 2) (Str.ofString "\r")) := by
  dsimp only [Cb, CbAt, RetTup, FlyE, FlyT]
  intros; rename_i hret
  refine wpAny_call ?_
  k_dflt ((refine' code_def (binds := [(Str.ofString "src", Value.str src t1), (Str.ofString "pos", Value.int (pos : Int) t2), (Str.ofString "multiline", Value.bool false)]) ?k1 ?k2 ?k3 ?k4 ?k5 ?kA ?kF ?kK ?k6 ?k7 ?k8 ?k9 ?kB ?_ ?c2 ?c3 ?c4 ?c5; (case kA => exact rfl); (case kF => exact rfl); (case kK => assumption); (case k1 => k_asm); (case k2 => k_asm); (case k3 => k_asm); (case k4 => k_asm); (case k5 => k_asm); (case k6 => k_is); (case k7 => k_is); (case k8 => ktr_room); (case k9 => exact kp_binds (by k_in) (fun S => by kernel_rfl)); (case c5 => decide); (case kB => exact locs rfl); (case c2 => exact rfl); (case c3 => exact rfl); (case c4 => exact rfl); k_whole; intro g' L' h' FG' F' N' B' X' T'; (try dsimp only); (try k_lift B'); (try k_fold)))
  k_steps
  all_goals (refine' hret _ _ _ _ _ ?F ?N ?l; (case F => assumption); (case N => assumption); (case l => assumption))
set_option maxHeartbeats 1000000 in
theorem Mine.esc_sq {w : World} {mean : ExcName → Option Value} {mg mb : PySem.Str → Option Value} {news nw : List (Addr × Obj)} {src : PySem.Str} {pos c : Nat} {t1 t2 : Tok}
    (hs : Txt.slice src (some (pos : Int)) (some ((pos : Int) + 2)) = Str.ofString "\\\"") (hp : pos + 2 < src.length) (hl : src.length ≤ 10000) :
    Cb w mean mg mb 12 128 nw [.str src t1, .int pos t2] (RetTup nw ((pos : Int) + 2) (Str.ofString "\"")) := by
  dsimp only [Cb, CbAt, RetTup, FlyE, FlyT]
  intros; rename_i hret
  refine wpAny_call ?_
  k_dflt ((refine' code_def (binds := [(Str.ofString "src", Value.str src t1), (Str.ofString "pos", Value.int (pos : Int) t2), (Str.ofString "multiline", Value.bool false)]) ?k1 ?k2 ?k3 ?k4 ?k5 ?kA ?kF ?kK ?k6 ?k7 ?k8 ?k9 ?kB ?_ ?c2 ?c3 ?c4 ?c5; (case kA => exact rfl); (case kF => exact rfl); (case kK => assumption); (case k1 => k_asm); (case k2 => k_asm); (case k3 => k_asm); (case k4 => k_asm); (case k5 => k_asm); (case k6 => k_is); (case k7 => k_is); (case k8 => ktr_room); (case k9 => exact kp_binds (by k_in) (fun S => by kernel_rfl)); (case c5 => decide); (case kB => exact locs rfl); (case c2 => exact rfl); (case c3 => exact rfl); (case c4 => exact rfl); k_whole; intro g' L' h' FG' F' N' B' X' T'; (try dsimp only); (try k_lift B'); (try k_fold)))
  k_steps
  all_goals (refine' hret _ _ _ _ _ ?F ?N ?l; (case F => assumption); (case N => assumption); (case l => assumption))
set_option maxHeartbeats 1000000 in
theorem Mine.esc_ss {w : World} {mean : ExcName → Option Value} {mg mb : PySem.Str → Option Value} {news nw : List (Addr × Obj)} {src : PySem.Str} {pos c : Nat} {t1 t2 : Tok}
    (hs : Txt.slice src (some (pos : Int)) (some ((pos : Int) + 2)) = Str.ofString "\\\\") (hp : pos + 2 < src.length) (hl : src.length ≤ 10000) :
    Cb w mean mg mb 12 128 nw [.str src t1, .int pos t2] (RetTup nw ((pos : Int) + 2) (Str.ofString "\\")) := by
  dsimp only [Cb, CbAt, RetTup, FlyE, FlyT]
  intros; rename_i hret
  refine wpAny_call ?_
  k_dflt ((refine' code_def (binds := [(Str.ofString "src", Value.str src t1), (Str.ofString "pos", Value.int (pos : Int) t2), (Str.ofString "multiline", Value.bool false)]) ?k1 ?k2 ?k3 ?k4 ?k5 ?kA ?kF ?kK ?k6 ?k7 ?k8 ?k9 ?kB ?_ ?c2 ?c3 ?c4 ?c5; (case kA => exact rfl); (case kF => exact rfl); (case kK => assumption); (case k1 => k_asm); (case k2 => k_asm); (case k3 => k_asm); (case k4 => k_asm); (case k5 => k_asm); (case k6 => k_is); (case k7 => k_is); (case k8 => ktr_room); (case k9 => exact kp_binds (by k_in) (fun S => by kernel_rfl)); (case c5 => decide); (case kB => exact locs rfl); (case c2 => exact rfl); (case c3 => exact rfl); (case c4 => exact rfl); k_whole; intro g' L' h' FG' F' N' B' X' T'; (try dsimp only); (try k_lift B'); (try k_fold)))
  k_steps
  all_goals (refine' hret _ _ _ _ _ ?F ?N ?l; (case F => assumption); (case N => assumption); (case l => assumption))
set_option maxHeartbeats 1000000 in
theorem Mine.esc_k {w : World} {mean : ExcName → Option Value} {mg mb : PySem.Str → Option Value} {news nw : List (Addr × Obj)} {src : PySem.Str} {pos c : Nat} {t1 t2 : Tok}
    (hs : Txt.slice src (some (pos : Int)) (some ((pos : Int) + 2)) = Str.ofString "\\/") (hL : LedIn news nw) (hn : ∀ p ∈ news, p.1 ≠ 151) (hp : pos + 2 < src.length) (hl : src.length ≤ 10000) :
    Cb w mean mg mb 12 128 nw [.str src t1, .int pos t2] (FlyE news (errText src (pos + 2) (Str.ofString "Unescaped '\\' in a string"))) := by
  dsimp only [Cb, CbAt, RetTup, FlyE, FlyT]
  intros; rename_i hret
  refine wpAny_call ?_
  k_dflt ((refine' code_def (binds := [(Str.ofString "src", Value.str src t1), (Str.ofString "pos", Value.int (pos : Int) t2), (Str.ofString "multiline", Value.bool false)]) ?k1 ?k2 ?k3 ?k4 ?k5 ?kA ?kF ?kK ?k6 ?k7 ?k8 ?k9 ?kB ?_ ?c2 ?c3 ?c4 ?c5; (case kA => exact rfl); (case kF => exact rfl); (case kK => assumption); (case k1 => k_asm); (case k2 => k_asm); (case k3 => k_asm); (case k4 => k_asm); (case k5 => k_asm); (case k6 => k_is); (case k7 => k_is); (case k8 => ktr_room); (case k9 => exact kp_binds (by k_in) (fun S => by kernel_rfl)); (case c5 => decide); (case kB => exact locs rfl); (case c2 => exact rfl); (case c3 => exact rfl); (case c4 => exact rfl); k_whole; intro g' L' h' FG' F' N' B' X' T'; (try dsimp only); (try k_lift B'); (try k_fold)))
  k_steps
  all_goals (refine' hret _ _ _ _ _ _ ?L ?F ?R; (case L => assumption); (case F => refine' ⟨_, ?a, Heap.UpToSlots.trans ?b ?c⟩; (case a => assumption); (case b => assumption); (case c => assumption)); (case R => assumption))
end
theorem Mine.esc_G {w : World} {mean : ExcName → Option Value} {mg mb : PySem.Str → Option Value} {nw : List (Addr × Obj)} {src : PySem.Str} {p c n : Nat} {t1 t2 : Tok} (H : EscG src p c n) (hp : n < src.length) (hl : src.length ≤ 10000) :
    Cb w mean mg mb 12 128 nw [.str src t1, .int p t2] (RetTup nw (n : Int) (one c)) := by
  unfold EscG at H
  rcases H with ⟨h, g, rfl⟩ | ⟨h, g, rfl⟩ | ⟨h, rfl, rfl⟩ | ⟨h, rfl, rfl⟩ | ⟨h, rfl, rfl⟩ | ⟨h, rfl, rfl⟩ | ⟨h, rfl, rfl⟩ | ⟨h, rfl, rfl⟩ | ⟨h, rfl, rfl⟩
  · have := esc_u4 (w := w) (mean := mean) (mg := mg) (mb := mb) (news := []) (nw := nw) (t1 := t1) (t2 := t2) h g (by omega) hl
    rwa [show ((p : Int) + 2 + 4) = ((p + 6 : Nat) : Int) by omega] at this
  · have := esc_u8 (w := w) (mean := mean) (mg := mg) (mb := mb) (news := []) (nw := nw) (t1 := t1) (t2 := t2) h g (by omega) hl
    rwa [show ((p : Int) + 2 + 8) = ((p + 10 : Nat) : Int) by omega] at this
  · exact esc_sb (c := 0) (news := []) h hp hl
  · exact esc_st (c := 0) (news := []) h hp hl
  · exact esc_sn (c := 0) (news := []) h hp hl
  · exact esc_sf (c := 0) (news := []) h hp hl
  · exact esc_sr (c := 0) (news := []) h hp hl
  · exact esc_sq (c := 0) (news := []) h hp hl
  · exact esc_ss (c := 0) (news := []) h hp hl
theorem Mine.esc_B {w : World} {mean : ExcName → Option Value} {mg mb : PySem.Str → Option Value} {news nw : List (Addr × Obj)} {src msg : PySem.Str} {p e : Nat} {t1 t2 : Tok} (H : EscB src p e msg) (hp : e < src.length) (hl : src.length ≤ 10000) (hL : LedIn news nw) (hn : ∀ p ∈ news, p.1 ≠ 151) :
    Cb w mean mg mb 12 128 nw [.str src t1, .int p t2] (FlyE news (errText src e msg)) := by
  unfold EscB at H
  rcases H with ⟨h, g, rfl, rfl⟩ | ⟨h, g, rfl, rfl⟩ | ⟨h, rfl, rfl⟩
  · exact esc_b4 (c := 0) h g hL hn (by omega) hl
  · exact esc_b8 (c := 0) h g hL hn (by omega) hl
  · exact esc_k (c := 0) h hL hn (by omega) hl
/-- What comes back: the text and the place behind it, or the error that tells the first fault. -/
def Mine.RetFin (news nw : List (Addr × Obj)) (src : PySem.Str) (q : Nat) (T : PySem.Str) (k : Option (Nat × PySem.Str)) (base : Heap) (out : List Env) (h₀ : Heap) (L : Addr) (m : PySem.Str → Option Value) (s : Shared) (Q E : Value → Shared → Prop) : Prop :=
  match k with
  | none => RetTup nw ((q : Int) + 1) T base out h₀ L m s Q E
  | some (e, msg) => FlyE news (errText src e msg) base out h₀ L m s Q E
/-- The loop's invariant: what is read so far, with what is still to be read, is the whole. -/
def Mine.LoopI (src : PySem.Str) (q : Nat) (T : PySem.Str) (nw : List (Addr × Obj)) (g : Heap) (L : Addr) (s0 : Shared) (n : Nat) (s : Shared) : Prop :=
  ∃ (h : Heap) (tk : Nat) (m : PySem.Str → Option Value) (p st : Nat) (R : PySem.Str) (cs : List Nat) (t1 t2 t3 t4 : Tok), s = { s0 with heap := h, toks := tk } ∧ cs.length = n ∧ Pcs src p cs q ∧ Fr g L h m ∧ News g L h nw ∧
    m (Str.ofString "src") = some (.str src t1) ∧ m (Str.ofString "pos") = some (.int p t2) ∧ m (Str.ofString "start_pos") = some (.int st t3) ∧ m (Str.ofString "result") = some (.str R t4) ∧ m (Str.ofString "error_on") = some (.ref 72) ∧
    m (Str.ofString "parse_escapes") = some (.ref 128) ∧ m (Str.ofString "multiline") = some (.bool false) ∧ st ≤ p ∧ R.length ≤ st ∧ R ++ Txt.slice src (some (st : Int)) (some (p : Int)) ++ ⟨cs.toArray⟩ = T
theorem Mine.eq_start {src R : PySem.Str} {p : Nat} {cs : List Nat} (hR : R = ⟨#[]⟩) (h : p ≤ src.length) : R ++ Txt.slice src (some (p : Int)) (some (p : Int)) ++ ⟨cs.toArray⟩ = (⟨cs.toArray⟩ : PySem.Str) := by
  subst hR
  rw [slice_self h]
  show PySem.Str.append (PySem.Str.append _ _) _ = _
  simp [PySem.Str.append]
theorem Mine.known7 {g h : Heap} {L : Addr} {m : PySem.Str → Option Value} {n1 n2 n3 n4 n5 n6 n7 : PySem.Str} {v1 v2 v3 v4 v5 v6 v7 : Value} (F : Fr g L h m) (e1 : m n1 = some v1) (e2 : m n2 = some v2) (e3 : m n3 = some v3) (e4 : m n4 = some v4) (e5 : m n5 = some v5) (e6 : m n6 = some v6) (e7 : m n7 = some v7) :
    Fr g L h (fun y => if y = n1 then some v1 else if y = n2 then some v2 else if y = n3 then some v3 else if y = n4 then some v4 else if y = n5 then some v5 else if y = n6 then some v6 else if y = n7 then some v7 else m y) := by
  have : (fun y => if y = n1 then some v1 else if y = n2 then some v2 else if y = n3 then some v3 else if y = n4 then some v4 else if y = n5 then some v5 else if y = n6 then some v6 else if y = n7 then some v7 else m y) = m := by
    funext y
    repeat' (split; · rename_i q; rw [q]; symm; assumption)
    rfl
  rw [this]; exact F
theorem Mine.eq_lit {src R T : PySem.Str} {st p c : Nat} {cs : List Nat} (h1 : st ≤ p) (h2 : p < src.length) (h : Txt.item src (p : Int) = one c) (hT : R ++ Txt.slice src (some (st : Int)) (some (p : Int)) ++ ⟨(c :: cs).toArray⟩ = T) :
    R ++ Txt.slice src (some (st : Int)) (some ((p + 1 : Nat) : Int)) ++ ⟨cs.toArray⟩ = T := by
  rw [← hT, show ((p + 1 : Nat) : Int) = (p : Int) + 1 by omega, slice_snoc h1 h2 h]
  simp only [PySem.Str.append_assoc]
  rw [one_app]
theorem Mine.eq_esc {src R T : PySem.Str} {st p n c : Nat} {cs : List Nat} (h2 : n ≤ src.length) (hT : R ++ Txt.slice src (some (st : Int)) (some (p : Int)) ++ ⟨(c :: cs).toArray⟩ = T) :
    R ++ Txt.slice src (some (st : Int)) (some (p : Int)) ++ one c ++ Txt.slice src (some (n : Int)) (some (n : Int)) ++ ⟨cs.toArray⟩ = T := by
  rw [← hT, slice_self h2]
  simp only [PySem.Str.append_assoc]
  rw [← one_app c cs]
  congr 3
  show PySem.Str.append _ _ = _
  simp [PySem.Str.append]
theorem Mine.eq_end {src R T : PySem.Str} {st p : Nat} (hT : R ++ Txt.slice src (some (st : Int)) (some (p : Int)) ++ ⟨([] : List Nat).toArray⟩ = T) : R ++ Txt.slice src (some (st : Int)) (some (p : Int)) = T := by
  rw [← hT]
  show _ = PySem.Str.append _ _
  simp [PySem.Str.append]
theorem Mine.pcs_le {src : PySem.Str} {p q : Nat} {cs : List Nat} (g : Pcs src p cs q) : p ≤ q := by
  induction g with
  | nil p => exact Nat.le_refl _
  | lit p c cs q h h1 h2 h3 hp g ih => omega
  | esc p c n cs q h H hn hp g ih => omega
theorem Mine.repr127 {prog : Program} {w : World} {A : Around} {E : Value → Shared → Prop} {s : Shared} {x : PySem.Str} {t : Tok} {Q : Value → Shared → Prop} (hx : x = one 127) (h : ∀ k t', Q (.str (Str.ofString "'\\x7f'") t') { s with toks := k }) : wpAny (model prog w) A (pyReprObj (.str x t)) Q E s := by
  subst hx
  have e : reprText (one 127) = Str.ofString "'\\x7f'" := by kernel_rfl
  refine pyReprObj_str ?_ (by rw [e]; exact Nat.le_trans (Nat.le_of_ble_eq_true (m := 10) rfl) (by rw [sizeLine_eq]; decide))
  rw [e]; exact h _ _
theorem Mine.msg127 : Str.empty ++ Str.ofString "Illegal character " ++ Str.ofString "'\\x7f'" = Str.ofString "Illegal character '\\x7f'" := by kernel_rfl
set_option hygiene false
local macro_rules | `(tactic| walk_at "exec While") => `(tactic| (k_here; k_dflt (refine restW_start ?_)))
local macro_rules | `(tactic| walk_at "PostW") => `(tactic| (dsimp only [PostW]))
local macro_rules | `(tactic| walk_at "ite") => `(tactic| ((with_reducible show ite ((_ == _) = true) _ _); (first | (refine' ite_neS (by with_reducible assumption) (by first | exact one_neQ (by assumption) | exact one_neB (by assumption)) ?_))))
local macro_rules | `(tactic| walk_at "compareOp In str ref") => `(tactic| (k_here; (with_reducible show wpAny _ _ (compareOp CmpOp.In (Value.str _ _) (Value.ref 72)) _ _ _); k_dflt (first | (refine' in72F ?B ?Z ?F ?h ?c ?_; (case h => with_reducible assumption); (case B => k_asm); (case Z => assumption); (case F => k_asm); (case c => first | assumption | decide)) | (refine' in72T ?B ?Z ?F ?h ?c ?_; (case h => with_reducible assumption); (case B => k_asm); (case Z => assumption); (case F => k_asm); (case c => first | assumption | decide))); intro k9; (try dsimp only)))
local macro_rules | `(tactic| walk_at "call ref") => `(tactic| (k_here; (with_reducible show wpAny _ _ (call (Value.ref 128) _) _ _ _); k_dflt (refine' cb_gq (hd := none) (esc_G (by with_reducible assumption) (by omega) (by assumption)) ?_; dsimp only [RetTup]; intro l9 ta9 tb9 h9 k9 F9 N9 lt9; (try dsimp only))))
local macro_rules | `(tactic| walk_at "call ref") => `(tactic| (k_here; (with_reducible show wpAny _ _ (call (Value.ref 128) _) _ _ _); k_dflt (refine' cb_gq (hd := none) (esc_B (by with_reducible assumption) (by omega) (by assumption) (by assumption) (by assumption)) ?_; dsimp only [FlyE, FlyT]; intro e9 t9 tk9 h9 k9 nw9 L9 W9 R9; obtain ⟨g9, F9, U9⟩ := W9; refine' leave_onK (by assumption) (by exact F9) (by exact R9) (by exact U9) ?_; intro hL9 RL9 UL9; (try dsimp only))))
local macro_rules | `(tactic| walk_at "pyReprObj str") => `(tactic| (k_here; k_dflt (refine' repr127 (by with_reducible assumption) ?_); intro k9 t9; (try dsimp only)))
local macro_rules | `(tactic| size_fits) => `(tactic| ((with_reducible show PySem.Str.length _ ≤ sizeLine); apply sz_top; { repeat' (first | with_reducible exact sz_empty | with_reducible refine sz_app ?_ ?_ | (with_reducible refine sz_lit ?_; kernel_rfl) | (with_reducible refine sz_int ?_ ?_ <;> omega) | (refine sz_leaf ?_; omega)) }; exact rfl))
set_option hygiene true
-- D
set_option maxHeartbeats 2000000 in
theorem Mine.line_K {w : World} {mean : ExcName → Option Value} {mg mb : PySem.Str → Option Value} {news nw : List (Addr × Obj)} {src : PySem.Str} {pos q : Nat} {cs : List Nat} {k : Option (Nat × PySem.Str)} {t1 t2 : Tok}
    (hG : Pcs src (pos + 1) cs q) (hF : EndAt src q k) (hq : q + 1 < src.length) (hp : pos + 1 < src.length) (hl : src.length ≤ 10000) (hL : LedIn news nw) (hn : ∀ p ∈ news, p.1 ≠ 151) :
    Cb w mean mg mb 20 120 nw [.str src t1, .int pos t2] (RetFin news nw src q ⟨cs.toArray⟩ k) := by
  dsimp only [Cb, CbAt]
  intros; rename_i hret
  refine wpAny_call ?_
  k_dflt cell_enter
  k_steps
  refine' loop_ind (n := cs.length) (I := LoopI src q ⟨cs.toArray⟩ nw ?g9 ?L9 ?s9) (G := fun s => RestW _ _ _ _ _ _ _ _ _ s) ?init ?step
  case init =>
    refine' ⟨_, _, _, pos + 1, pos + 1, _, cs, _, _, _, _, rfl, rfl, hG, ?Fx0, ?Nx0, ?e1x0, ?e2x0, ?e3x0, ?e4x0, ?e5x0, ?e6x0, ?e7x0, Nat.le_refl _, ?Rx0, ?Tx0⟩
    case Fx0 => assumption
    case Nx0 => assumption
    all_goals first | exact rfl | skip
    case Rx0 => exact Nat.zero_le _
    case Tx0 => exact eq_start rfl (by omega)
  case step =>
  intro n s ih hI
  obtain ⟨h, tk, m, p, st, R, cs', u1, u2, u3, u4, rfl, hcs, hP, F, N, e1, e2, e3, e4, e5, e6, e7, hst, hR, hT⟩ := hI
  have hpq := pcs_le hP
  have F := known7 F e1 e2 e3 e4 e5 e6 e7
  refine restW_turn ?hE ?_
  case hE => first | passes_own | with_unfolding_all passes_own
  cases hP with
  | lit _ c cs'' _ h1 h2 h3 h4 h5 g =>
    k_steps
    refine' ih cs''.length (by rw [← hcs]; exact Nat.lt_succ_self _) _ ?_
    unfold LoopI
    refine' ⟨_, _, _, p + 1, st, R, cs'', _, _, _, _, rfl, rfl, g, ?Fx1, ?Nx1, ?e1x1, ?e2x1, ?e3x1, ?e4x1, ?e5x1, ?e6x1, ?e7x1, ?l1x1, ?l2x1, ?Tx1⟩
    case Fx1 => assumption
    case Nx1 => assumption
    all_goals first | exact rfl | skip
    case l1x1 => omega
    case l2x1 => omega
    case Tx1 => exact eq_lit hst (by omega) h1 hT
  | esc _ c n' cs'' _ h1 h2 h3 h4 g =>
    have hone : (one c).length = 1 := rfl
    have hpn := pcs_le g
    k_steps
    refine' ih cs''.length (by rw [← hcs]; exact Nat.lt_succ_self _) _ ?_
    unfold LoopI
    refine' ⟨_, _, _, n', n', _, cs'', _, _, _, _, rfl, rfl, g, ?Fx2, ?Nx2, ?e1x2, ?e2x2, ?e3x2, ?e4x2, ?e5x2, ?e6x2, ?e7x2, Nat.le_refl _, ?l2x2, ?Tx2⟩
    case Fx2 => assumption
    case Nx2 => exact fun p hp => (by assumption : News _ _ _ (_ :: nw)) p (List.mem_cons_of_mem _ hp)
    all_goals first | exact rfl | skip
    case l2x2 =>
      rw [PySem.Str.length_append, PySem.Str.length_append, slice_list hst (by omega)]
      show R.length + (List.toArray _).size + 1 ≤ n'
      rw [List.size_toArray, List.length_take]
      omega
    case Tx2 => exact eq_esc (by omega) hT
  | nil _ =>
    have hfin := eq_end hT
    rw [← hfin] at hret
    cases hF with
    | quote hq1 =>
      simp only [RetFin, RetTup] at hret
      k_steps
      refine' hret _ _ _ _ _ ?Fx3 ?Nx3 ?lx3
      case Fx3 => assumption
      case Nx3 => assumption
      case lx3 => assumption
    | lit hq1 =>
      simp only [RetFin, FlyE, FlyT] at hret
      rw [← msg127] at hret
      k_steps
      refine' hret _ _ _ _ _ _ ?Lz ?Fz ?Rz
      case Lz => assumption
      case Fz => exact ⟨_, (by assumption), (by assumption)⟩
      case Rz => assumption
    | esc e msg hq1 HB he =>
      simp only [RetFin, FlyE, FlyT] at hret
      k_steps
      refine' hret _ _ _ _ _ _ ?Lx4 ?Fx4 ?Rx4
      case Lx4 => assumption
      case Fx4 => exact ⟨_, (by assumption), (by assumption)⟩
      case Rx4 => assumption
theorem Mine.perm3 {α : Type} {p : α} {q l f : List α} (h : p ∈ l ++ (f ++ q)) : p ∈ q ++ (l ++ f) := by
  simp only [List.mem_append] at h ⊢
  rcases h with h | h | h
  · exact .inr (.inl h)
  · exact .inr (.inr h)
  · exact .inl h
theorem Mine.perm3' {α : Type} {p : α} {q l f : List α} (h : p ∈ q ++ (l ++ f)) : p ∈ l ++ (f ++ q) := by
  simp only [List.mem_append] at h ⊢
  rcases h with h | h | h
  · exact .inr (.inr h)
  · exact .inl h
  · exact .inr (.inl h)
theorem Mine.perm2 {α : Type} {p : α} {q l : List α} (h : p ∈ l ++ q) : p ∈ q ++ l := List.mem_append.mpr (List.mem_append.mp h).symm
theorem Mine.perm4 {α : Type} {p : α} {x a l o : List α} (h : p ∈ a ++ (l ++ (x ++ o))) : p ∈ x ++ (a ++ (l ++ o)) := by
  simp only [List.mem_append] at h ⊢
  rcases h with h | h | h | h
  · exact .inr (.inl h)
  · exact .inr (.inr (.inl h))
  · exact .inl h
  · exact .inr (.inr (.inr h))
theorem Mine.perm5 {α : Type} {p : α} {a l f o : List α} (h : p ∈ (a ++ l) ++ o) : p ∈ a ++ (l ++ (f ++ o)) := by
  simp only [List.mem_append] at h ⊢
  rcases h with (h | h) | h
  · exact .inl h
  · exact .inr (.inl h)
  · exact .inr (.inr (.inr h))
def Mine.J1 (L : Nat) (i : Nat) (m : PySem.Str → Option Value) (news : List (Addr × Obj)) : Prop :=
  ∃ (o1 o2 o3 : Obj) (ts : List Nat) (total : Int) (t1 t2 : Tok), news = [(L + 1 + 1 + 1, o3), (L + 1 + 1, o2), (L + 1, o1), (151, tabObj #[])] ∧ o3.data = .cell none ∧ o2.data = .cell (some (.int total t2)) ∧ o1.data = .cell (some (.str ⟨ts.toArray⟩ t1)) ∧ ScalarL ts ∧ ts.length ≤ 40 + i ∧ 0 ≤ total ∧ total < 1024 ∧ (1 ≤ i → 1 ≤ ts.length)
theorem Mine.sign_I {w : World} {mean : ExcName → Option Value} {mg mb : PySem.Str → Option Value} {news : List (Addr × Obj)} {k : Int} {t1 : Tok} (h0 : 0 ≤ k) (hk : k < 1112090) : Cb w mean mg mb 1 170 news [.int k t1] (RetV news (fun t => .str (one (signC k.toNat)) t)) := by
  have := sign_K (w := w) (mean := mean) (mg := mg) (mb := mb) (news := news) (k := k.toNat) (t1 := t1) (by omega)
  rwa [Int.toNat_of_nonneg h0] at this
theorem Mine.news_list {h₀ h : Heap} {L l : Addr} {vs : Array Value} {c : Nat} {news : List (Addr × Obj)} (N : News h₀ L h news) (hm : (l, W.listOf vs c) ∈ news) : h.IsList l vs ∧ l ≠ L := ⟨⟨_, (N _ hm).1, rfl, c, rfl⟩, (N _ hm).2.1⟩
theorem Mine.news_sub {h₀ h : Heap} {L : Addr} {a b : List (Addr × Obj)} (N : News h₀ L h a) (hs : ∀ p ∈ b, p ∈ a) : News h₀ L h b := fun p hp => N p (hs p hp)
theorem Mine.news_tl3 {h₀ h : Heap} {L : Addr} {a b c : Addr × Obj} {r : List (Addr × Obj)} (N : News h₀ L h (a :: b :: c :: r)) : News h₀ L h r := fun p hp => N p (.tail _ (.tail _ (.tail _ hp)))
theorem Mine.ints_at {ws : List Value} {ns : List Int} {i : Nat} {v : Value} (hI : IntsAre ws ns) (hv : ws.toArray[i]? = some v) : ∃ n t, v = .int n t ∧ n ∈ ns := by
  have hl := hI.length
  have hv' : ws[i]? = some v := by simpa using hv
  have hlt : i < ns.length := by
    have := (List.getElem?_eq_some_iff.mp hv').1
    omega
  obtain ⟨t, hx⟩ := hI.get i ns[i] (by simp [hlt])
  rw [hv'] at hx
  exact ⟨ns[i], t, Option.some.inj hx, List.getElem_mem _⟩
theorem Mine.own_ne {own : List (Addr × Obj)} {I l c : Addr} (hown : ∀ p ∈ own, p.1 = I ∨ p.1 = l) (h1 : c ≠ I) (h2 : c ≠ l) : ∀ p ∈ own, p.1 ≠ c := fun p hp q => by
  rcases hown p hp with r | r
  · exact h1 (q ▸ r)
  · exact h2 (q ▸ r)
def Mine.YCut (base : Heap) (L : Addr) (news : List (Addr × Obj)) (s s' : Shared) : Prop := ∃ (h' : Heap) (tk' : Nat) (m' : PySem.Str → Option Value) (y : Int) (t : Tok), s' = { s with heap := h', toks := tk' } ∧ Fr base L h' m' ∧ News base L h' news ∧ m' (Str.ofString "y") = some (.int y t) ∧ 0 ≤ y
theorem Mine.sz_one (c : Nat) : Sz (one c) 1 := sz_leaf (by show 1 ≤ 10000; decide)
theorem Mine.sz_arr {l : List Nat} (h : l.length ≤ 10000) : Sz ⟨l.toArray⟩ 1 := sz_leaf (by show l.toArray.size ≤ 10000; rw [List.size_toArray]; exact h)
theorem Mine.turns64 {ws : List Value} {ns : List Int} {k : Int} {i : Nat} (hI : IntsAre ws (ns ++ [k])) (hn : ns.length ≤ 63) (hi : i < ws.toArray.size) : i < 64 := by
  have := hI.length
  rw [List.length_append, List.length_cons, List.length_nil] at this
  rw [List.size_toArray] at hi
  omega
theorem Mine.sz_sum {a b : PySem.Str} (h : (a ++ b).length ≤ sizeLine) : a.length + b.length ≤ sizeLine := by rwa [PySem.Str.length_append] at h
/-- The inner loop's invariant. -/
def Mine.WI (base : Heap) (L : Addr) (o2 o3 : Obj) (own : List (Addr × Obj)) (b : Nat) (s0 : Shared) (n : Nat) (s : Shared) : Prop :=
  ∃ (h : Heap) (tk : Nat) (m : PySem.Str → Option Value) (y : Int) (ts : List Nat) (o1 : Obj) (t1 t2 : Tok), s = { s0 with heap := h, toks := tk } ∧ y.toNat = n ∧ 0 ≤ y ∧ Fr base L h m ∧ News base L h ((L + 1 + 1 + 1, o3) :: (L + 1 + 1, o2) :: (L + 1, o1) :: (151, tabObj #[]) :: own) ∧
    m (Str.ofString "y") = some (.int y t1) ∧ o1.data = .cell (some (.str ⟨ts.toArray⟩ t2)) ∧ ScalarL ts ∧ ts.length ≤ b ∧ 1 ≤ ts.length
theorem Mine.arr_one (ts : List Nat) (c : Nat) : (⟨ts.toArray⟩ : PySem.Str) ++ one c = ⟨(ts ++ [c]).toArray⟩ := by
  show PySem.Str.append _ _ = _
  simp [PySem.Str.append, one]
theorem Mine.scalar_add {ts : List Nat} {k : Nat} (h : ScalarL ts) (hk : k < 1112090) : ScalarL (ts ++ [signC k]) := fun c hc => by
  rcases List.mem_append.mp hc with q | q
  · exact h c q
  · rw [List.mem_singleton.mp q]; exact signC_ok hk
theorem Mine.four_ne {a b c d : Addr × Obj} {I : Addr} (h1 : a.1 ≠ I) (h2 : b.1 ≠ I) (h3 : c.1 ≠ I) (h4 : d.1 ≠ I) : ∀ p ∈ [a, b, c, d], p.1 ≠ I := fun p hp => by
  simp only [List.mem_cons, List.not_mem_nil, or_false] at hp
  rcases hp with rfl | rfl | rfl | rfl <;> assumption
theorem Mine.mod_bd (z : Int) : 0 ≤ z.fmod 1024 ∧ z.fmod 1024 < 1024 := by
  rw [Int.fmod_eq_emod_of_nonneg _ (by decide)]; omega
theorem Mine.loadX_loc {M : Model} {A : Around} {E : Value → Shared → Prop} {s : Shared} {h₀ : Heap} {L a : Addr} {m : PySem.Str → Option Value} {cn : PySem.Str} {cs : Scope} {ccd : Value} {cl : List (PySem.Str × Addr)} {x : PySem.Str} {v : Value} {Q : Value → Shared → Prop}
    (F : Fr h₀ L s.heap m) (hv : m x = some v) (h : Q v s) (hk : cs.kind = .function := by rfl) (hx : (envX cn cs L a ccd cl).kindOf x = some .local := by rfl) : wpAny M A (loadName (envX cn cs L a ccd cl) x) Q E s := wpAny_loadName_local hk hx F.ns hv h
theorem Mine.item_any {x : PySem.Str} {i : Int} (h0 : 0 ≤ i) (h1 : i < x.length) : Txt.item x i = one (x.cps.toList.getD i.toNat 0) := by
  obtain ⟨n, rfl⟩ := Int.eq_ofNat_of_zero_le h0
  have hl : x.cps.toList.length = x.length := Array.length_toList
  have hn : n < x.cps.toList.length := by omega
  have := item_list (x := x) (a := n) (c := x.cps.toList.getD n 0) (by rw [List.getD_eq_getElem?_getD, List.getElem?_eq_getElem hn]; rfl)
  exact this
theorem Mine.json_J {w : World} {mean : ExcName → Option Value} {mg mb : PySem.Str → Option Value} {news : List (Addr × Obj)} {x : PySem.Str} {i way : Int} {t1 t2 : Tok} (h0 : 0 ≤ i) (h1 : i < x.length) (hw : 0 ≤ way) : Cb w mean mg mb 2 184 news [.str (Txt.item x i) t1, .int way t2] (RetV news (fun t => .str (jsonS (x.cps.toList.getD i.toNat 0) way.toNat) t)) := by
  have := json_K (w := w) (mean := mean) (mg := mg) (mb := mb) (news := news) (c := x.cps.toList.getD i.toNat 0) (way := way.toNat) (t1 := t1) (t2 := t2)
  rw [Int.toNat_of_nonneg hw, ← item_any h0 h1] at this
  exact this
def Mine.TCut (base : Heap) (L : Addr) (m : PySem.Str → Option Value) (p2 p3 : Obj) (s s' : Shared) : Prop := ∃ (h' : Heap) (tk' : Nat) (p1 : Obj) (ts : List Nat) (t : Tok), s' = { s with heap := h', toks := tk' } ∧ Fr base L h' m ∧ News base L h' [(L + 1 + 1 + 1, p3), (L + 1 + 1, p2), (L + 1, p1), (151, tabObj #[])] ∧ p1.data = .cell (some (.str ⟨ts.toArray⟩ t)) ∧ ScalarL ts ∧ ts.length ≤ 40 ∧ 1 ≤ ts.length
theorem Mine.take40 {ts : List Nat} (h : ts.length ≤ 200) : Txt.slice ⟨ts.toArray⟩ none (some 40) = ⟨(ts.take 40).toArray⟩ := slice_take ts 40
theorem Mine.scalar_take {ts : List Nat} (h : ScalarL ts) (n : Nat) : ScalarL (ts.take n) := fun c hc => h c (List.mem_of_mem_take hc)
theorem Mine.idx_len {k : Int} {n : Nat} (h : k < 0 + ((((n : Int) - 0).toNat : Nat) : Int)) : k < (n : Int) := by omega
def Mine.CompHint (g : Int → PySem.Str) : Prop := True
theorem Mine.kct_hint {prog : Program} {w : World} {A : Around} {h₀ : Heap} {L : Addr} {m : PySem.Str → Option Value} {env : Env} {elt : Expr} {x : PySem.Str} {scope : Scope} {cl : List (PySem.Str × Addr)} {s : Shared} {S : List (Addr × Obj) → Prop} {Fin : List Value → List (Addr × Obj) → Prop} {news : List (Addr × Obj)} {n : Nat} {a : Int} {g : Int → PySem.Str} (_ : CompHint g)
    (turn : ∀ k t I oI C oC D m₂ ys h tk (E' : Value → Shared → Prop), a ≤ k → k < a + (n : Int) → LCg.NsObj oC m₂ → m₂ x = some (.int k t) → Fr h₀ L h m → News h₀ L h ((I, oI) :: (C, oC) :: (D, LCg.lst ys) :: news) → LCg.Off3 I C D news → ((@Ne Nat I C) ∧ (@Ne Nat I D) ∧ (@Ne Nat C D)) →
      wpAny (model prog w) A (eval elt (compEnvC scope cl C env)) (LCg.CompEnd h₀ L m { s with heap := h, toks := tk } I oI C oC D (LCg.lst ys) S (fun y news' => KCtEl news (g k) y news')) E' { s with heap := h, toks := tk })
    (fin : ∀ ys, CarriedAll ys ((rangeKs a n).map fun k => PyData.str (g k)) → (rangeKs a n).length = n → Fin ys news) : LCg.CompRest prog w A h₀ L m env elt x scope cl s S (fun i v => ∃ t, v = .int (a + (i : Int)) t) Fin n 0 [] news :=
  kct_range g (fun k t I oI C oC D m₂ ys h tk E' h1 h2 h3 h4 h5 h6 h7 h8 _ => turn k t I oI C oC D m₂ ys h tk E' h1 h2 h3 h4 h5 h6 h7 h8) fin
theorem Mine.ways_at {total : Int} {n : Nat} {k : Int} (h0 : 0 ≤ k) (h1 : k < n) : (List.map (fun k' => total + 7 * k') (rangeKs 0 n)).getD k.toNat 0 = total + 7 * k := by
  have hk : k.toNat < n := by omega
  rw [List.getD_eq_getElem?_getD, List.getElem?_map]
  have : (rangeKs 0 n)[k.toNat]? = some k := by simp [rangeKs, hk]; omega
  rw [this]; rfl
theorem Mine.json_W {w : World} {mean : ExcName → Option Value} {mg mb : PySem.Str → Option Value} {news : List (Addr × Obj)} {x : PySem.Str} {i way way' : Int} {t1 t2 : Tok} (h0 : 0 ≤ i) (h1 : i < x.length) (he : way = way') (hw : 0 ≤ way') : Cb w mean mg mb 2 184 news [.str (Txt.item x i) t1, .int way t2] (RetV news (fun t => .str (jsonS (x.cps.toList.getD i.toNat 0) way'.toNat) t)) := by
  subst he; exact json_J h0 h1 hw
def Mine.WCut (base : Heap) (L : Addr) (m : PySem.Str → Option Value) (ts : List Nat) (total : Int) (c1 : Addr) (p1 : Obj) (c2 : Addr) (p2 : Obj) (s s' : Shared) : Prop := ∃ (h' : Heap) (tk' : Nat) (p3 : Obj) (D : Addr) (ys : List Value), s' = { s with heap := h', toks := tk' } ∧ Fr base L h' m ∧ News base L h' [(D, LCg.lst ys), (L + 1 + 1 + 1, p3), (c2, p2), (c1, p1), (151, tabObj #[])] ∧ p3.data = .cell (some (.ref D)) ∧
  IntsAre ys (List.map (fun k' => total + 7 * k') (rangeKs 0 ts.length)) ∧ D ≠ L + 1 + 1 + 1 ∧ D ≠ c2 ∧ D ≠ c1 ∧ D ≠ 151
theorem Mine.len_sub (ts : List Nat) : ((((⟨ts.toArray⟩ : PySem.Str).length : Nat) : Int) - 0).toNat = ts.length := by
  show (((ts.toArray.size : Nat) : Int) - 0).toNat = _
  rw [List.size_toArray]; omega
/-- The pieces are laid: a list of texts, each as JSON writes its sign. -/
def Mine.PCut (base : Heap) (L : Addr) (m : PySem.Str → Option Value) (ts : List Nat) (total : Int) (D : Addr) (ys : List Value) (p1 p2 p3 : Obj) (s s' : Shared) : Prop := ∃ (h' : Heap) (tk' : Nat) (m' : PySem.Str → Option Value) (D2 : Addr) (zs : List Value), s' = { s with heap := h', toks := tk' } ∧ Fr base L h' m' ∧ News base L h' [(D2, LCg.lst zs), (D, LCg.lst ys), (L + 1 + 1 + 1, p3), (L + 1 + 1, p2), (L + 1, p1), (151, tabObj #[])] ∧ m' (Str.ofString "pieces") = some (.ref D2) ∧
  CarriedAll zs ((rangeKs 0 ts.length).map fun k => PyData.str (pieceS ts total k)) ∧ D2 ≠ D ∧ D2 ≠ L + 1 + 1 + 1 ∧ D2 ≠ L + 1 + 1 ∧ D2 ≠ L + 1 ∧ D2 ≠ 151
def Mine.Stop9 (P : Prop) : Prop := P
theorem Mine.stop9 {P : Prop} (h : Stop9 P) : P := h
theorem Mine.way_add0 {t k : Int} : t + 7 * (0 + k) = t + 7 * k := by omega
abbrev Mine.lawEnv (L : Nat) : Env := envX (Str.ofString "law") C29 L 196 (.ref 195) [(Str.ofString "ways", L + 1 + 1 + 1), (Str.ofString "total", L + 1 + 1), (Str.ofString "text", L + 1)]
def Mine.J3 (L : Nat) (ts : List Nat) (total : Int) (D2 D Al : Addr) (zs ys : List Value) (lv : List Value) (p1 p2 p3 : Obj) (i : Nat) (m : PySem.Str → Option Value) (news : List (Addr × Obj)) : Prop :=
  ∃ (led : List (Addr × Obj)) (t1 t2 t3 : Tok), news = (Al, W.listOf lv.toArray 0) :: (D2, LCg.lst zs) :: (D, LCg.lst ys) :: (L + 1 + 1 + 1, p3) :: (L + 1 + 1, p2) :: (L + 1, p1) :: led ∧ LedOk led ∧ m (Str.ofString "pieces") = some (.ref D2) ∧ m (Str.ofString "lines") = some (.ref Al) ∧
    m (Str.ofString "ahead") = some (.str (aheadS ts total) t1) ∧ m (Str.ofString "behind") = some (.str (behindS ts) t2) ∧ m (Str.ofString "done") = some (.str (doneS ts total i) t3)
def Mine.forBody : Stmt → List Stmt
  | .For _ _ b _ _ => b
  | _ => []
theorem Mine.known5 {g h : Heap} {L : Addr} {m : PySem.Str → Option Value} {n1 n2 n3 n4 n5 : PySem.Str} {v1 v2 v3 v4 v5 : Value} (F : Fr g L h m) (e1 : m n1 = some v1) (e2 : m n2 = some v2) (e3 : m n3 = some v3) (e4 : m n4 = some v4) (e5 : m n5 = some v5) :
    Fr g L h (fun y => if y = n1 then some v1 else if y = n2 then some v2 else if y = n3 then some v3 else if y = n4 then some v4 else if y = n5 then some v5 else m y) := by
  have : (fun y => if y = n1 then some v1 else if y = n2 then some v2 else if y = n3 then some v3 else if y = n4 then some v4 else if y = n5 then some v5 else m y) = m := by
    funext y
    repeat' (split; · rename_i q; rw [q]; symm; assumption)
    rfl
  rw [this]; exact F
/-- What a turn may lean on: the frame below, the top, the lists. -/
structure Mine.Base3 (w : World) (mean : ExcName → Option Value) (mg mb : PySem.Str → Option Value) (base : Heap) (L : Nat) (ts : List Nat) (total : Int) (D2 D Al : Addr) (zs ys lv : List Value) (p1 p2 p3 : Obj) : Prop where
  B : Below callerA base [] base
  Z : FzB w base
  X : (K w.params).In base
  T : Top topProg LG mean mg mb base
  q3 : p3.data = .cell (some (.ref D))
  q1 : ∃ t, p1.data = .cell (some (.str ⟨ts.toArray⟩ t))
  hys : IntsAre ys (List.map (fun k' => total + 7 * k') (rangeKs 0 ts.length))
  hzs : CarriedAll zs ((rangeKs 0 ts.length).map fun k => PyData.str (pieceS ts total k))
  hts : ScalarL ts
  hlen : ts.length ≤ 40
  ht0 : 0 ≤ total
  ht1 : total < 1024
  C9 : CodeHd base 155 151
  hlv : StrsAre lv (Txt.split (aheadS ts total) (Str.ofString "\n"))
  hL9 : 151 < L
  hA9 : D2 ≠ 151 ∧ D ≠ 151 ∧ Al ≠ 151
theorem Mine.carried_at {g : Int → PySem.Str} : ∀ {l : List Int} {vs : List Value} {i : Nat} {k : Int}, CarriedAll vs (l.map fun k => PyData.str (g k)) → l[i]? = some k → ∃ t, vs[i]? = some (.str (g k) t)
  | a :: l, v :: vs, 0, k, .cons c r, h => by
    simp at h; subst h
    cases c
    exact ⟨_, rfl⟩
  | a :: l, v :: vs, i + 1, k, .cons c r, h => carried_at (l := l) (vs := vs) (i := i) r (by simpa using h)
theorem Mine.range_at {n i : Nat} (h : i < n) : (rangeKs 0 n)[((0 : Int) + (i : Nat)).toNat]? = some (i : Int) := by
  have : ((0 : Int) + (i : Nat)).toNat = i := by omega
  rw [this]; simp [rangeKs, h]
theorem Mine.men_d {w : World} {mean : ExcName → Option Value} {mg mb : PySem.Str → Option Value} {news : List (Addr × Obj)} {P x : PySem.Str} {c : Nat} {way : Int} {t1 t2 t3 : Tok} (hx : x = one c) (hw : 0 ≤ way) (h1 : P ≠ one 127) (h2 : P ≠ Str.ofString "\\/") (h3 : P.length ≠ 12) (h4 : P.length ≤ 1000) :
    Cb w mean mg mb 2 191 news [.str P t1, .str x t2, .int way t3] (RetL0 news (mendP P c way.toNat)) := by
  subst hx
  obtain ⟨n, rfl⟩ := Int.eq_ofNat_of_zero_le hw
  show Cb w mean mg mb 2 191 news _ (RetL0 news (mendP P c n))
  have hm : ((n : Nat) : Int).fmod 2 = ((n % 2 : Nat) : Int) := fmod_nat n 2
  unfold mendP
  rw [if_neg h1, if_neg h2, if_neg h3]
  by_cases hP : P = Str.ofString "\\t"
  · by_cases hm2 : n % 2 = 1
    · rw [if_pos ⟨hP, hm2⟩]; subst hP; exact men_4a (by rw [hm, hm2]; rfl)
    · rw [if_neg fun q => hm2 q.2]; subst hP; exact men_4c (by rw [hm]; omega)
  · rw [if_neg fun q => hP q.1]; exact men_4b h1 h2 h3 h4 hP
theorem Mine.pick_from {vs : List Value} {x : Int} (h : 0 ≤ x) : (slicePick vs.toArray (some x) none none).toList = vs.drop x.toNat := by
  obtain ⟨n, rfl⟩ := Int.eq_ofNat_of_zero_le h
  have e : sliceBounds (some (n : Int)) none none vs.toArray.size = (((min n vs.toArray.size : Nat) : Int), ((vs.toArray.size : Nat) : Int), 1) := by
    simp only [sliceBounds, Option.getD_none, show (1 : Int) > 0 by decide, if_true, if_neg (nn9 n), mm9]
  rw [kmk_pick_nat _ e]
  show ((vs.drop (min n vs.toArray.size)).take (vs.toArray.size - min n vs.toArray.size)) = vs.drop n
  rw [List.size_toArray, kmk_drop_min, List.take_of_length_le (by rw [List.length_drop]; exact Nat.sub_le_sub_left (Nat.min_le_left _ _) _)]
theorem Mine.strs_of_carried : ∀ {vs : List Value} {xs : List PySem.Str}, CarriedAll vs (xs.map PyData.str) → StrsAre vs xs
  | [], [], .nil => .nil
  | v :: vs, x :: xs, .cons c r => by cases c; exact .cons _ _ (strs_of_carried r)
theorem Mine.strs_drop : ∀ {vs : List Value} {xs : List PySem.Str} (n : Nat), StrsAre vs xs → StrsAre (vs.drop n) (xs.drop n)
  | _, _, 0, h => h
  | _, _, n + 1, .nil => .nil
  | _, _, n + 1, .cons _ _ r => strs_drop n r
local macro_rules | `(tactic| k_ne) => `(tactic| (refine neN ?_; (try dsimp only); (first | assumption | (refine Ne.symm ?_; assumption) | omega)))
local macro_rules | `(tactic| walk_at "exec For") => `(tactic| (k_here; k_dflt (refine' for_start (by k_asm) (by rfl) (by rfl) ?_)))
local macro_rules | `(tactic| walk_at "exec For Name BinOp") => `(tactic| (k_here; k_dflt (refine' for_start (by k_asm) (by rfl) (by rfl) ?_)))
local macro_rules | `(tactic| walk_at "exec For Name BinOp cons nil") => `(tactic| (k_here; k_dflt (refine' for_start (by k_asm) (by rfl) (by rfl) ?_)))
local macro_rules | `(tactic| walk_at "exec For Name Call") => `(tactic| (k_here; k_dflt (refine' for_start (by k_asm) (by rfl) (by rfl) ?_)))
local macro_rules | `(tactic| walk_at "exec For Name Call cons nil") => `(tactic| (k_here; k_dflt (refine' for_start (by k_asm) (by rfl) (by rfl) ?_)))
local macro_rules | `(tactic| walk_at "call ref") => `(tactic| (k_here; (with_reducible show wpAny _ _ (call (Value.ref 170) _) _ _ _); k_dflt (refine' cb_gq (hd := none) (sign_I (by ((try simp (disch := decide) only [Int.fdiv_eq_ediv_of_nonneg, Int.fmod_eq_emod_of_nonneg]); omega)) (by ((try simp (disch := decide) only [Int.fdiv_eq_ediv_of_nonneg, Int.fmod_eq_emod_of_nonneg]); omega))) ?_; dsimp only [RetV]; intro t9 h9 tk9 F9 N9; (try dsimp only))))
local macro_rules | `(tactic| k_all) => `(tactic| assumption)
local macro_rules | `(tactic| size_fits) => `(tactic| ((with_reducible show PySem.Str.length _ ≤ sizeLine); apply sz_top; { repeat' (first | with_reducible exact sz_empty | with_reducible exact sz_one _ | (with_reducible apply sz_arr; omega) | with_reducible apply sz_app | (with_reducible refine sz_lit ?_; kernel_rfl) | (with_reducible refine sz_int ?_ ?_ <;> omega) | (refine sz_leaf ?_; omega)) }; with_unfolding_all exact rfl))
local macro_rules | `(tactic| size_fits) => `(tactic| ((with_reducible show PySem.Str.length _ + PySem.Str.length _ ≤ sizeLine); apply sz_sum; size_fits))
local macro_rules | `(tactic| walk_at "loadName") => `(tactic| (k_here; k_dflt (refine' loadX_loc (by k_asm) (by rfl) ?_ (by rfl) (by rfl))))
local macro_rules | `(tactic| walk_at "call ref") => `(tactic| (k_here; (with_reducible show wpAny _ _ (call (Value.ref 184) _) _ _ _); k_dflt (refine' cb_gq (hd := none) (json_W (by omega) (by omega) (by exact way_add0) (by omega)) ?_; dsimp only [RetV]; intro t9 h9 tk9 F9 N9; (try dsimp only))))
local macro_rules | `(tactic| walk_at "CompSrc") => `(tactic| (k_here; (rename CompHint _ => hg9); k_dflt (refine LCg.CompSrc.range (by rfl) (by k_asm) (by k_asm) (by assumption) (by first | exact small_one (by kcf_bnd) (by kcf_bnd) (by kcf_bnd) (by kcf_bnd) | decide) (by first | exact rangeSize_nat _ _ | rfl) (by (rw [PySem.sizeLine_eq]; omega)) ?_; intro g'; (refine' kct_hint hg9 (fun k' t' I' oI' C' oC' D' m' ys' h' tk' E' hlo' hhi' hC' hx' F' N' off' ne' => ?_) ?_); (all_goals ((try (have hq' := idx_len hhi')); (try (simp only [LCg.Off3, and_true] at off')); (try (first | (obtain ⟨⟨_, _, _⟩, ⟨_, _, _⟩, ⟨_, _, _⟩, ⟨_, _, _⟩, ⟨_, _, _⟩⟩ := off') | (obtain ⟨⟨_, _, _⟩, ⟨_, _, _⟩, ⟨_, _, _⟩, ⟨_, _, _⟩⟩ := off'))))))))
local macro_rules | `(tactic| walk_at "call ref") => `(tactic| (k_here; (with_reducible show wpAny _ _ (call (Value.ref 191) _) _ _ _); k_dflt (refine' cb_gq (hd := none) (men_d (by assumption) (by omega) (by assumption) (by assumption) (by assumption) (by omega)) ?_; dsimp only [RetL0]; intro l9 la9 t9 ta9 h9 tk9 F9 N9 lt9 lu9; (try dsimp only))))
local macro_rules | `(tactic| walk_at "subscriptTail") => `(tactic| (k_here; (with_reducible show wpAny _ _ (subscriptTail _ _ (Value.ref _) (Value.int _ _)) _ _ _); k_dflt (refine' kim_list (by k_asm) (by k_mem) (by rfl) (by rfl) (by omega) (by omega) (by with_reducible assumption) ?_)))
local macro_rules | `(tactic| walk_at "exec For Tuple Name cons nil") => `(tactic| (k_here; k_dflt (refine for_startT ?_)))
local macro_rules | `(tactic| walk_at "exec For Tuple Name") => `(tactic| (k_here; k_dflt (refine for_startT ?_)))
local macro_rules | `(tactic| walk_at "subscriptTail Name Slice ref ref") => `(tactic| (k_here; (with_reducible show wpAny _ _ (subscriptTail _ (PySem.Expr.Slice _ _ none _) (Value.ref _) (Value.ref _)) _ _ _); k_dflt (refine' kmk_slice_lit (by k_asm) (by k_asm) (by kmk_list) (by kmk_part) (by kmk_part) (by with_reducible assumption) ?_ (by with_unfolding_all rfl) (by kmk_pure) (by with_reducible assumption)); intro D' h' F' N' l1; (try k_lt l1); (try k_sweep)))
local macro_rules | `(tactic| walk_at "call builtin:str.join") => `(tactic| (k_here; (with_reducible show wpAny _ _ (call (Value.builtin "str.join") [Value.str _ _, Value.ref _]) _ _ _); k_dflt (refine' join_listC (by kmk_list) (by assumption) (by exact Nat.le_of_ble_eq_true rfl) (by assumption) ?_); intro tj kj; (try dsimp only)))
local macro_rules | `(tactic| walk_at "subscriptTail") => `(tactic| (k_here; (with_reducible show wpAny _ _ (subscriptTail _ _ (Value.ref _) (Value.int (-1) _)) _ _ _); k_dflt (refine' kim_back (by k_asm) (by k_mem) (by rfl) (by rfl) (by omega) (by omega) (by omega) (by with_reducible assumption) ?_)))
local macro_rules | `(tactic| walk_at "call builtin:len") => `(tactic| (k_here; (with_reducible show wpAny _ _ (call (Value.builtin "len") [Value.ref _]) _ _ _); k_dflt (refine' call_len_list (by kmk_list) (by (rw [List.size_toArray]; omega)) ?_); (try dsimp only)))
-- T
theorem Mine.line_L {w : World} {mean : ExcName → Option Value} {mg mb : PySem.Str → Option Value} {q1 q2 q3 q4 q5 q6 q7 q8 : Addr × Obj} {led fx : List (Addr × Obj)} {src msg : PySem.Str} {pos q e9 : Nat} {cs : List Nat} {t1 t2 : Tok}
    (hG : Pcs src (pos + 1) cs q) (hF : EndAt src q (some (e9, msg))) (hq : q + 1 < src.length) (hp : pos + 1 < src.length) (hl : src.length ≤ 10000) (hled : LedOk led) (hn : ∀ p ∈ fx ++ [q1, q2, q3, q4, q5, q6, q7, q8], p.1 ≠ 151) :
    Cb w mean mg mb 20 120 (q1 :: q2 :: q3 :: q4 :: q5 :: q6 :: q7 :: q8 :: (led ++ fx)) [.str src t1, .int pos t2] (fun base out h₀ L m s _ E => ∀ e t tk h' tk' led', LedOk led' → (∃ g, Fr h₀ L g m ∧ g.UpToSlots h') → RaisedK base out e (.ref 103) t [.str (errText src e9 msg) tk] (q1 :: q2 :: q3 :: q4 :: q5 :: q6 :: q7 :: q8 :: (led' ++ fx)) h' → E (.ref e) { s with heap := h', toks := tk' }) := by
  have C := line_K (w := w) (mean := mean) (mg := mg) (mb := mb) (news := fx ++ [q1, q2, q3, q4, q5, q6, q7, q8]) (nw := led ++ (fx ++ [q1, q2, q3, q4, q5, q6, q7, q8])) (t1 := t1) (t2 := t2) hG hF hq hp hl ⟨led, hled, rfl⟩ hn
  have sub : ∀ l : List (Addr × Obj), ∀ p ∈ l ++ (fx ++ [q1, q2, q3, q4, q5, q6, q7, q8]), p ∈ q1 :: q2 :: q3 :: q4 :: q5 :: q6 :: q7 :: q8 :: (l ++ fx) := fun l p hp => perm3 (q := [q1, q2, q3, q4, q5, q6, q7, q8]) hp
  have sub2 : ∀ l : List (Addr × Obj), ∀ p ∈ q1 :: q2 :: q3 :: q4 :: q5 :: q6 :: q7 :: q8 :: (l ++ fx), p ∈ l ++ (fx ++ [q1, q2, q3, q4, q5, q6, q7, q8]) := fun l p hp => perm3' (q := [q1, q2, q3, q4, q5, q6, q7, q8]) hp
  intro dp un gd cn cs a ccd cl outer A₀ base h₀ L m s Q E k1 kz k2 k3 k4 k5 kK kd ku kR
  refine C dp un gd cn cs a ccd cl outer A₀ base h₀ L m s Q E k1 kz k2 k3 (fun p hp => k4 p (sub led p hp)) k5 kK kd ku ?_
  simp only [RetFin, FlyE, FlyT]
  intro e t tk h' tk' nw' hL' hg hR
  obtain ⟨led', hled', rfl⟩ := hL'
  refine kR e t tk h' tk' led' hled' hg ?_
  obtain ⟨⟨B, b1, b2, b3⟩, b4⟩ := hR
  exact ⟨⟨B, b1, fun p hp => b2 p (sub2 led' p hp), b3⟩, b4⟩
theorem Mine.known2 {g h : Heap} {L : Addr} {m : PySem.Str → Option Value} {n1 n2 : PySem.Str} {v1 v2 : Value} (F : Fr g L h m) (e1 : m n1 = some v1) (e2 : m n2 = some v2) : Fr g L h (fun y => if y = n1 then some v1 else if y = n2 then some v2 else m y) := by
  have : (fun y => if y = n1 then some v1 else if y = n2 then some v2 else m y) = m := by
    funext y
    repeat' (split; · rename_i q; rw [q]; symm; assumption)
    rfl
  rw [this]; exact F
local macro_rules | `(tactic| walk_at "exec Try") => `(tactic| (k_here; k_dflt (refine wpAny_Try_except ?_)))
local macro_rules | `(tactic| walk_at "call ref") => `(tactic| (k_here; (with_reducible show wpAny _ _ (call (Value.ref 120) _) _ _ _); k_dflt (refine' cb_gq (hd := none) (line_L (by with_reducible assumption) (by assumption) (by assumption) (by assumption) (by assumption) (by assumption) (by assumption)) ?_; intro e9 t9 tk9 h9 tk9' led9 ld9 fg9 R9; obtain ⟨g9, F9, up9⟩ := fg9; (try dsimp only))))
local macro_rules | `(tactic| walk_at "noteFrame ref") => `(tactic| (k_here; k_dflt (refine' caught_law (by (rename Below _ _ _ _ => b9; exact b9.stack)) (by assumption) (by assumption) (by with_reducible assumption) (by assumption) (by assumption) ?_ (by rfl) (by rfl) (by rfl)); intro h8 tk8 F8 N8 er8; (try dsimp only)))
local macro_rules | `(tactic| walk_at "call type:str") => `(tactic| (k_here; (with_reducible show wpAny _ _ (call (Value.type "str") [Value.ref _]) _ _ _); k_dflt (refine' call_str_own (by k_units) (by with_reducible assumption) ?_); (try dsimp only)))
local macro_rules | `(tactic| walk_at "bind") => `(tactic| (k_here; k_dflt (refine' name_goesX (by k_asm) (by k_asm) ?_ (by rfl) (by rfl)); intro h7 v7 F7 N7; (try dsimp only)))
theorem Mine.fr_same {g h : Heap} {L : Addr} {m m' : PySem.Str → Option Value} (F : Fr g L h m) (e : ∀ y, m y = m' y) : Fr g L h m' := by
  have : m = m' := funext e
  exact this ▸ F
def Mine.forBodyT : Stmt → List Stmt
  | .For _ _ b _ _ => b
  | _ => []
abbrev Mine.stBody : List Stmt := forBody ((forBody (B29.getD 10 default)).getD 1 default)
set_option maxHeartbeats 1000000 in
theorem Mine.try_go {w : World} {mean : ExcName → Option Value} {mg mb : PySem.Str → Option Value} {base : Heap} {L : Nat} {q1 q2 q3 q4 q5 q6 q7 q8 : Addr × Obj} {led fx : List (Addr × Obj)} {src ah msg : PySem.Str} {q e9 : Nat} {cs : List Nat} {t1 t2 : Tok} {m : PySem.Str → Option Value} {s : Shared} {Q : Flow → Shared → Prop} {Ea Eb : Value → Shared → Prop}
    (B : Below callerA base [] base) (Z : FzB w base) (X : (K w.params).In base) (T : Top topProg LG mean mg mb base) (hP : TopRead topProg LG mg mb base)
    (hG : Pcs src (ah.length + 1) cs q) (hF : EndAt src q (some (e9, msg))) (hq : q + 1 < src.length) (hp : ah.length + 1 < src.length) (hl : src.length ≤ 10000) (hled : LedOk led) (hn : ∀ p ∈ fx ++ [q1, q2, q3, q4, q5, q6, q7, q8], p.1 ≠ 151)
    (F : Fr base L s.heap m) (N : News base L s.heap (q1 :: q2 :: q3 :: q4 :: q5 :: q6 :: q7 :: q8 :: (led ++ fx))) (e1 : m (Str.ofString "src") = some (.str src t1)) (e2 : m (Str.ofString "ahead") = some (.str ah t2))
    (k : ∀ h' tk' led' v t', LedOk led' → Fr base L h' (fun y => if y = Str.ofString "error" then v else if y = Str.ofString "told" then some (.str (errText src e9 msg) t') else m y) → News base L h' (q1 :: q2 :: q3 :: q4 :: q5 :: q6 :: q7 :: q8 :: (led' ++ fx)) → Q .next { s with heap := h', toks := tk' }) :
    wpAny (model PySem.Challenge.pw_io0022_01 w) (callerA.deeper (lawEnv L)) (exec (stBody.getD 3 default) (lawEnv L)) Q (fun e s' => wpAny (model PySem.Challenge.pw_io0022_01 w) (callerA.deeper (lawEnv L)) (leaving (lawEnv L) e) (fun _ s'' => Ea e s'') Eb s') s := by
  have F := known2 F e1 e2
  dsimp only [lawEnv, stBody, B29, C29, List.getD, List.getElem?_cons_succ, List.getElem?_cons_zero, Option.getD, forBody]
  k_steps
  refine' k _ _ _ _ _ (by assumption) (fr_same (by assumption) ?e9) (by assumption)
  case e9 =>
  intro y
  by_cases q1 : y = Str.ofString "error"
  · rw [if_pos q1, if_pos q1]
  · rw [if_neg q1, if_neg q1]
    by_cases q2 : y = Str.ofString "told"
    · rw [if_pos q2, if_neg q1, if_pos q2]
    · rw [if_neg q2, if_neg q1, if_neg q2]
      by_cases q3 : y = Str.ofString "src"
      · rw [if_pos q3, q3, e1]
      · rw [if_neg q3]
        by_cases q4 : y = Str.ofString "ahead"
        · rw [if_pos q4, q4, e2]
        · rw [if_neg q4]
local macro_rules | `(tactic| walk_at "exec Try") => `(tactic| (k_here; k_dflt (refine' try_go ?B ?Z ?X ?T ?P ?G ?E ?q ?p ?l ?led ?n ?F ?N ?e1 ?e2 ?_; (case F => k_asm); (case N => k_asm); (case e1 => rfl); (case e2 => rfl); (case B => assumption); (case Z => assumption); (case X => assumption); (case T => assumption); (case P => assumption); (case G => assumption); (case E => assumption); (case q => assumption); (case p => assumption); (case l => assumption); (case led => assumption); (case n => (refine fun p9 hp9 => ?_; (rename ∀ d : Addr × Obj, _ → ∀ p9 ∈ _, _ => hn9; refine hn9 _ ?_ p9 hp9); (refine Nat.ne_of_gt ?_; dsimp only; omega)))); intro h6 tk6 led6 v6 t6 ld6 F6 N6; (try dsimp only)))
-- S
theorem Mine.state_off {base h : Heap} {L I : Addr} {led fx : List (Addr × Obj)} {q1 q2 q3 q4 q5 q6 : Addr × Obj} (N : News base L h (q1 :: q2 :: q3 :: q4 :: q5 :: q6 :: (led ++ fx))) (hled : LedOk led) (h1 : ∃ o, (I, o) ∈ fx ∧ NotCode o) (h2 : I ≠ 151) (hq : ∀ p ∈ [q1, q2, q3, q4, q5, q6], p.1 ≠ I) : ∀ p ∈ q1 :: q2 :: q3 :: q4 :: q5 :: q6 :: led, p.1 ≠ I := fun p hp => by
  have : p ∈ [q1, q2, q3, q4, q5, q6] ++ led := by simpa using hp
  rcases List.mem_append.mp this with z | z
  · exact hq p z
  · obtain ⟨o, ho, nc⟩ := h1
    have nI := N (I, o) (by simp [ho])
    have np := N p (by simp [z])
    rcases hled with rfl | ⟨c', oc, vs, t, rfl, hd, hv⟩
    · rw [List.mem_singleton.mp z]; exact Ne.symm h2
    · rcases List.mem_cons.mp z with rfl | z
      · exact Ne.symm h2
      · rw [List.mem_singleton.mp z] at np ⊢
        intro q
        have a1 : h.get? c' = some oc := np.1
        have a2 : h.get? I = some o := nI.1
        have q : c' = I := q
        rw [q, a2] at a1
        have e := Option.some.inj a1
        exact nc vs t (e ▸ hd) hv
set_option maxHeartbeats 2000000 in
theorem Mine.state_turn {w : World} {mean : ExcName → Option Value} {mg mb : PySem.Str → Option Value} {base : Heap} {L : Nat} {ts : List Nat} {total : Int} {D2 D Al : Addr} {zs ys lv : List Value} {p1 p2 p3 : Obj} {s : Shared} {Q : Flow → Shared → Prop} {Ea Eb : Value → Shared → Prop} {ps pt pp : Pos} {x9 : Nat}
    (H : Base3 w mean mg mb base L ts total D2 D Al zs ys lv p1 p2 p3) {I a : Addr} {i : Nat} {k : Int} {S Wd dn : PySem.Str} {t t1 t2 t3 t4 ta tb : Tok} {m : PySem.Str → Option Value} {led fx own : List (Addr × Obj)} {h : Heap} {tk : Nat} {Jn : (PySem.Str → Option Value) → List (Addr × Obj) → Prop} (hi : i < ts.length)
    (e1 : m (Str.ofString "pieces") = some (.ref D2)) (e2 : m (Str.ofString "lines") = some (.ref Al)) (e3 : m (Str.ofString "ahead") = some (.str (aheadS ts total) t1)) (e4 : m (Str.ofString "behind") = some (.str (behindS ts) t2)) (e5 : m (Str.ofString "done") = some (.str dn t3)) (e6 : m (Str.ofString "i") = some (.int ((0 : Int) + (i : Nat)) t)) (e7 : m (Str.ofString "words") = some (.str Wd t4))
    (hled : LedOk led) (F : Fr base L h m) (N : News base L h ((a, stL S k ta tb) :: (Al, W.listOf lv.toArray 0) :: (D2, LCg.lst zs) :: (D, LCg.lst ys) :: (L + 1 + 1 + 1, p3) :: (L + 1 + 1, p2) :: (L + 1, p1) :: (led ++ (fx ++ own))))
    (ha9 : a ≠ 151) (hf9 : ∀ p ∈ fx ++ own, p.1 ≠ 151) (hno : ∃ o, (I, o) ∈ own ∧ NotCode o) (hI9 : I ≠ 151) (hoff6 : ∀ p ∈ [(Al, W.listOf lv.toArray 0), (D2, LCg.lst zs), (D, LCg.lst ys), (L + 1 + 1 + 1, p3), (L + 1 + 1, p2), (L + 1, p1)], p.1 ≠ I) (hofx : ∀ p ∈ fx, p.1 ≠ I)
    (hJn : ∀ m' led', LedOk led' → (∀ y, y ≠ Str.ofString "error" → y ≠ Str.ofString "told" → y ≠ Str.ofString "place" → y ≠ Str.ofString "src" → y ≠ Str.ofString "step" → y ≠ Str.ofString "state" → m' y = m y) → Jn m' ((Al, W.listOf lv.toArray 0) :: (D2, LCg.lst zs) :: (D, LCg.lst ys) :: (L + 1 + 1 + 1, p3) :: (L + 1 + 1, p2) :: (L + 1, p1) :: (led' ++ fx)))
    (hok : StateOk ts total dn S i k Wd)
    (hk0 : 0 ≤ k) (hk1 : k ≤ 20) (hS : S.length ≤ 12) (hdn : dn.length ≤ 500) (hW : Wd.length ≤ 100) :
    AsgT PySem.Challenge.pw_io0022_01 w (callerA.deeper (lawEnv L)) base (lawEnv L) (Expr.Tuple [Expr.Name (Str.ofString "state") ps, Expr.Name (Str.ofString "step") pt] x9 pp) stBody I own Jn s Q (fun e s' => wpAny (model PySem.Challenge.pw_io0022_01 w) (callerA.deeper (lawEnv L)) (leaving (lawEnv L) e) (fun _ s'' => Ea e s'') Eb s') (.ref a) { s with heap := h, toks := tk } := by
  obtain ⟨B, Z, X, T, q3, ⟨u1, q1⟩, hys, hzs, hts, hlen, ht0, ht1, C9, hlv, hL9, hA9⟩ := H
  have hlen4 : (⟨ts.toArray⟩ : PySem.Str).length = ts.length := List.size_toArray
  have hah : (aheadS ts total).length ≤ 40 := Nat.le_trans (PyProof.Txt.length_slice_le _ _ _) (by omega)
  have hbe : (behindS ts).length ≤ 40 := Nat.le_trans (PyProof.Txt.length_slice_le _ _ _) (by omega)
  have hpk : (slicePick zs.toArray (some ((0 : Int) + (i : Nat) + 1)) none none).toList = zs.drop (i + 1) := by
    rw [pick_from (by omega)]
    congr 1
    omega
  have hzl : zs.toArray.size ≤ sizeLine := by
    rw [List.size_toArray, hzs.length_eq, List.length_map, rangeKs_length, sizeLine_eq]; omega
  have hjs : StrsAre (zs.drop (i + 1)) (restS ts total i) := strs_drop (i + 1) (strs_of_carried (by rw [List.map_map]; exact hzs))
  have hok9 : ((restS ts total i).map (·.length)).sum + (restS ts total i).length * 64 ≤ 16777216 := by have := rest_sum (total := total) (i := i) hlen; omega
  have hjl : (Txt.join (Str.ofString "") (restS ts total i)).length ≤ 500 := Nat.le_trans (join_rest hlen) (by decide)
  have hsp := split_pos (aheadS ts total) (Str.ofString "\n")
  have hsl := split_le (aheadS ts total) (Str.ofString "\n")
  have hlq : lv.length = (Txt.split (aheadS ts total) (Str.ofString "\n")).length := hlv.length
  obtain ⟨lastT, hlast⟩ : ∃ t, lv[(-1 + (lv.length : Int)).toNat]? = some (.str (lastS ts total) t) := strs_last hlv hsp
  have hlvp : 1 ≤ lv.length := by omega
  have hlvl : lv.length ≤ 100 := by omega
  have hlsl : (lastS ts total).length ≤ 40 := Nat.le_trans last_le hah
  have hP : TopRead topProg LG mg mb base := topRead_of T
  have hn9 : ∀ d : Addr × Obj, d.1 ≠ 151 → ∀ p ∈ (fx ++ own) ++ [d, (a, stL S k ta tb), (Al, W.listOf lv.toArray 0), (D2, LCg.lst zs), (D, LCg.lst ys), (L + 1 + 1 + 1, p3), (L + 1 + 1, p2), (L + 1, p1)], p.1 ≠ 151 := fun d hd p hp => by
    rcases List.mem_append.mp hp with z | z
    · exact hf9 p z
    · simp only [List.mem_cons, List.not_mem_nil, or_false] at z
      rcases z with rfl | rfl | rfl | rfl | rfl | rfl | rfl | rfl
      · exact hd
      · exact ha9
      · exact hA9.2.2
      · exact hA9.1
      · exact hA9.2.1
      · show L + 1 + 1 + 1 ≠ 151; omega
      · show L + 1 + 1 ≠ 151; omega
      · show L + 1 ≠ 151; omega
  obtain ⟨q, cs, e9, msg, hG, hE, hq, hp, hl, hW9⟩ := hok
  have F := known7 F e1 e2 e3 e4 e5 e6 e7
  unfold AsgT
  dsimp only [lawEnv, stBody, B29, C29, List.getD, List.getElem?_cons_succ, List.getElem?_cons_zero, Option.getD, forBody]
  k_steps
  · rename (_ != _) = true => c9
    have hW8 : errText (srcS ts total dn S i) e9 msg = Wd ++ placeS ts total lv.toArray.size dn k := by rw [hW9, List.size_toArray, hlq]
    rw [hW8] at c9
    exact absurd c9 (by rw [Bool.not_eq_true]; exact bne_self_eq_false _)
  · rename Fr base L _ _ => F9
    rename News base L _ _ => N9
    have off := state_off (q1 := (Al, W.listOf lv.toArray 0)) (q2 := (D2, LCg.lst zs)) (q3 := (D, LCg.lst ys)) (q4 := (L + 1 + 1 + 1, p3)) (q5 := (L + 1 + 1, p2)) (q6 := (L + 1, p1)) (fx := fx ++ own) (I := I) (fun p hp => N9 p (.tail _ (.tail _ hp))) (by assumption) (hno.imp fun o ho => ⟨List.mem_append_right _ ho.1, ho.2⟩) hI9 hoff6
    refine' ⟨_, _, _, _, rfl, F9, fun p hp => N9 p ?_, fun p hp => ?_, hJn _ _ (by assumption) ?_⟩
    · simp only [List.cons_append, List.append_assoc] at hp ⊢
      exact .tail _ (.tail _ hp)
    · have : p ∈ ((Al, W.listOf lv.toArray 0) :: (D2, LCg.lst zs) :: (D, LCg.lst ys) :: (L + 1 + 1 + 1, p3) :: (L + 1 + 1, p2) :: (L + 1, p1) :: _) ++ fx := hp
      rcases List.mem_append.mp this with z | z
      · exact off p z
      · exact hofx p z
    · intro y y1 y2 y3 y4 y5 y6
      rw [if_neg y1, if_neg y2, if_neg y2, if_neg y3, if_neg y4, if_neg y5, if_neg y6]
      repeat' (split; · rename_i q; rw [q]; symm; assumption)
      rfl
-- I
abbrev Mine.SixNe (y : PySem.Str) : Prop := y ≠ Str.ofString "error" ∧ y ≠ Str.ofString "told" ∧ y ≠ Str.ofString "place" ∧ y ≠ Str.ofString "src" ∧ y ≠ Str.ofString "step" ∧ y ≠ Str.ofString "state"
theorem Mine.inner_loop {w : World} {mean : ExcName → Option Value} {mg mb : PySem.Str → Option Value} {base : Heap} {L : Nat} {ts : List Nat} {total : Int} {D2 D Al : Addr} {zs ys lv : List Value} {p1 p2 p3 : Obj} {s : Shared} {Q : Flow → Shared → Prop} {Ea Eb : Value → Shared → Prop} {ps pt pp : Pos} {x9 : Nat}
    (H : Base3 w mean mg mb base L ts total D2 D Al zs ys lv p1 p2 p3) {l : Addr} {vs : List Value} {i : Nat} {Wd dn : PySem.Str} {t t1 t2 t3 t4 : Tok} {m : PySem.Str → Option Value} {led fx : List (Addr × Obj)} (hi : i < ts.length)
    (hls : s.heap.IsList l vs.toArray) (hlL : l ≠ L) (hl0 : base.get? l = none) (hl9 : l ≠ 151)
    (hst : ∀ v ∈ vs, ∃ a S k ta tb, v = .ref a ∧ (a, stL S k ta tb) ∈ fx ∧ StateOk ts total dn S i k Wd ∧ 0 ≤ k ∧ k ≤ 20 ∧ S.length ≤ 12)
    (e1 : m (Str.ofString "pieces") = some (.ref D2)) (e2 : m (Str.ofString "lines") = some (.ref Al)) (e3 : m (Str.ofString "ahead") = some (.str (aheadS ts total) t1)) (e4 : m (Str.ofString "behind") = some (.str (behindS ts) t2)) (e5 : m (Str.ofString "done") = some (.str dn t3)) (e6 : m (Str.ofString "i") = some (.int ((0 : Int) + (i : Nat)) t)) (e7 : m (Str.ofString "words") = some (.str Wd t4))
    (hled : LedOk led) (hf9 : ∀ p ∈ fx, p.1 ≠ 151) (hdn : dn.length ≤ 500) (hW : Wd.length ≤ 100)
    (F : Fr base L s.heap m) (N : News base L s.heap ((Al, W.listOf lv.toArray 0) :: (D2, LCg.lst zs) :: (D, LCg.lst ys) :: (L + 1 + 1 + 1, p3) :: (L + 1 + 1, p2) :: (L + 1, p1) :: (led ++ fx)))
    (done : ∀ h' tk m' led', LedOk led' → Fr base L h' m' → News base L h' ((Al, W.listOf lv.toArray 0) :: (D2, LCg.lst zs) :: (D, LCg.lst ys) :: (L + 1 + 1 + 1, p3) :: (L + 1 + 1, p2) :: (L + 1, p1) :: (led' ++ fx)) → (∀ y, SixNe y → m' y = m y) → Q .next { s with heap := h', toks := tk }) :
    ForGoT PySem.Challenge.pw_io0022_01 w (callerA.deeper (lawEnv L)) (lawEnv L) (Expr.Tuple [Expr.Name (Str.ofString "state") ps, Expr.Name (Str.ofString "step") pt] x9 pp) stBody Q (fun e s' => wpAny (model PySem.Challenge.pw_io0022_01 w) (callerA.deeper (lawEnv L)) (leaving (lawEnv L) e) (fun _ s'' => Ea e s'') Eb s') (.ref l) s := by
  refine forTup (h₀ := base) (by first | passes_own | with_unfolding_all passes_own) rfl hls hlL hl0 (fun i v hv => ?_) F N (fun _ m' n' => ∃ led', LedOk led' ∧ n' = (Al, W.listOf lv.toArray 0) :: (D2, LCg.lst zs) :: (D, LCg.lst ys) :: (L + 1 + 1 + 1, p3) :: (L + 1 + 1, p2) :: (L + 1, p1) :: (led' ++ fx) ∧ ∀ y, SixNe y → m' y = m y) ⟨led, hled, rfl, fun _ _ => rfl⟩ ?turn ?done
  · obtain ⟨a, S, k, ta, tb, rfl, _⟩ := hst v (by have := Array.mem_of_getElem? hv; simpa using this)
    exact ⟨a, rfl⟩
  case done =>
    rintro h' tk m' news' F' N' ⟨led', hl', rfl, hm⟩
    exact done h' tk m' led' hl' F' N' hm
  case turn =>
    rintro I j v m₁ news₁ h tk own hj hv ⟨led', hl', rfl, hm⟩ hoff hown hno hlo F₁ N₁
    obtain ⟨a, S, k, ta, tb, rfl, hmem, hok, hk0, hk1, hS⟩ := hst v (by have := Array.mem_of_getElem? hv; simpa using this)
    have ha9 := hf9 _ hmem
    have hI9 : I ≠ 151 := by
      obtain ⟨o, ho⟩ : ∃ o, ((151 : Addr), o) ∈ led' := by
        rcases hl' with rfl | ⟨c', oc, vs, t, rfl, _⟩ <;> exact ⟨_, .head _⟩
      exact fun q => hoff ((151 : Addr), o) (by simp [ho]) q.symm
    refine state_turn (fx := fx) (led := led') (ta := ta) (tb := tb) (S := S) (k := k) (Wd := Wd) H hi ((hm _ (by decide +kernel)).trans e1) ((hm _ (by decide +kernel)).trans e2) ((hm _ (by decide +kernel)).trans e3) ((hm _ (by decide +kernel)).trans e4) ((hm _ (by decide +kernel)).trans e5) ((hm _ (by decide +kernel)).trans e6) ((hm _ (by decide +kernel)).trans e7) hl' F₁ (fun p hp => N₁ p ?_) ha9 (fun p hp => ?_) hno hI9 (fun p hp => hoff p ?_) (fun p hp => hoff p (by simp [hp])) (fun m' led2 hl2 hm2 => ⟨led2, hl2, rfl, fun y hy => (hm2 y hy.1 hy.2.1 hy.2.2.1 hy.2.2.2.1 hy.2.2.2.2.1 hy.2.2.2.2.2).trans (hm y hy)⟩) hok hk0 hk1 hS hdn hW
    · rcases List.mem_cons.mp hp with rfl | hp
      · simp [hmem]
      · simpa using hp
    · rcases List.mem_append.mp hp with z | z
      · exact hf9 p z
      · rcases hown p z with r | r
        · rw [r]; exact hI9
        · rw [r]; exact hl9
    · simp only [List.mem_cons, List.not_mem_nil, or_false] at hp
      rcases hp with rfl | rfl | rfl | rfl | rfl | rfl <;> simp
-- G
theorem Mine.mendS_len (ts : List Nat) (total : Int) (i : Nat) : (mendS ts total i).length ≤ 12 := by
  have h := (pieceS_len ts total i).2
  unfold mendS mendP
  repeat' split
  all_goals (try simp only [PySem.Str.length_append, figS_len, lit_len2, lit_lenU, show (Str.ofString "/").length = 1 by kernel_rfl, show (Str.ofString "\t").length = 1 by kernel_rfl])
  all_goals omega
theorem Mine.swap2 {base h : Heap} {L : Addr} {x y a1 a2 a3 a4 a5 a6 : Addr × Obj} {led own : List (Addr × Obj)} (N : News base L h (x :: y :: a1 :: a2 :: a3 :: a4 :: a5 :: a6 :: (led ++ own))) : News base L h (a1 :: a2 :: a3 :: a4 :: a5 :: a6 :: (led ++ (x :: y :: own))) := fun p hp => N p (perm4 (x := [x, y]) (a := [a1, a2, a3, a4, a5, a6]) hp)
theorem Mine.swap3 {base h : Heap} {L : Addr} {x y z a1 a2 a3 a4 a5 a6 : Addr × Obj} {led own : List (Addr × Obj)} (N : News base L h (x :: y :: z :: a1 :: a2 :: a3 :: a4 :: a5 :: a6 :: (led ++ own))) : News base L h (a1 :: a2 :: a3 :: a4 :: a5 :: a6 :: (led ++ (x :: y :: z :: own))) := fun p hp => N p (perm4 (x := [x, y, z]) (a := [a1, a2, a3, a4, a5, a6]) hp)
theorem Mine.swap6 {base h : Heap} {L : Addr} {x y z u v w a1 a2 a3 a4 a5 a6 : Addr × Obj} {led own : List (Addr × Obj)} (N : News base L h (x :: y :: z :: u :: v :: w :: a1 :: a2 :: a3 :: a4 :: a5 :: a6 :: (led ++ own))) : News base L h (a1 :: a2 :: a3 :: a4 :: a5 :: a6 :: (led ++ (x :: y :: z :: u :: v :: w :: own))) := fun p hp => N p (perm4 (x := [x, y, z, u, v, w]) (a := [a1, a2, a3, a4, a5, a6]) hp)
theorem Mine.led151 {led : List (Addr × Obj)} (h : LedOk led) : ∃ o, ((151 : Addr), o) ∈ led := by
  rcases h with rfl | ⟨c', oc, vs, t, rfl, _⟩ <;> exact ⟨_, .head _⟩
theorem Mine.turn_fin {base h : Heap} {L I : Addr} {a1 a2 a3 a4 a5 a6 : Addr × Obj} {led fx own : List (Addr × Obj)} {m : PySem.Str → Option Value} {tk : Nat} {s : Shared} {Q : Flow → Shared → Prop} {Jn : (PySem.Str → Option Value) → List (Addr × Obj) → Prop} (F : Fr base L h m) (N : News base L h (a1 :: a2 :: a3 :: a4 :: a5 :: a6 :: (led ++ (fx ++ own)))) (hled : LedOk led) (hno : ∃ o, (I, o) ∈ own ∧ NotCode o) (hI : I ≠ 151) (hq : ∀ p ∈ [a1, a2, a3, a4, a5, a6], p.1 ≠ I) (hJ : Jn m (a1 :: a2 :: a3 :: a4 :: a5 :: a6 :: led)) :
    TEnd base L I own Jn s Q .next { s with heap := h, toks := tk } := by
  refine ⟨h, tk, m, _, rfl, F, fun p hp => N p ?_, state_off N hled (hno.imp fun o ho => ⟨List.mem_append_right _ ho.1, ho.2⟩) hI hq, hJ⟩
  exact perm5 (a := [a1, a2, a3, a4, a5, a6]) hp
theorem Mine.in6 {a1 a2 a3 a4 a5 a6 : Addr × Obj} {led : List (Addr × Obj)} : ∀ p ∈ [a1, a2, a3, a4, a5, a6], p ∈ a1 :: a2 :: a3 :: a4 :: a5 :: a6 :: led := fun p hp => List.mem_append_left led hp
theorem Mine.men_a {w : World} {mean : ExcName → Option Value} {mg mb : PySem.Str → Option Value} {news : List (Addr × Obj)} {P x : PySem.Str} {c : Nat} {way : Int} {t1 t2 t3 : Tok} (hx : x = one c) (hw : 0 ≤ way) (h1 : P = one 127) (hc : c = 127) :
    Cb w mean mg mb 2 191 news [.str P t1, .str x t2, .int way t3] (RetL1 news (one 127) 0 (Str.ofString "Illegal character '\\x7f'") (mendP P c way.toNat)) := by
  subst hx hc h1
  obtain ⟨n, rfl⟩ := Int.eq_ofNat_of_zero_le hw
  have e : mendP (one 127) 127 ((n : Nat) : Int).toNat = Str.ofString "\\u" ++ figS 127 n 4 := if_pos rfl
  rw [e]; exact men_1
theorem Mine.men_b {w : World} {mean : ExcName → Option Value} {mg mb : PySem.Str → Option Value} {news : List (Addr × Obj)} {P x : PySem.Str} {c : Nat} {way : Int} {t1 t2 t3 : Tok} (hx : x = one c) (hw : 0 ≤ way) (h1 : P = Str.ofString "\\/") (hc : c = 47) :
    Cb w mean mg mb 2 191 news [.str P t1, .str x t2, .int way t3] (RetL1 news (Str.ofString "\\/") 2 (Str.ofString "Unescaped '\\' in a string") (mendP P c way.toNat)) := by
  subst hx hc h1
  obtain ⟨n, rfl⟩ := Int.eq_ofNat_of_zero_le hw
  have e : mendP (Str.ofString "\\/") 47 ((n : Nat) : Int).toNat = Str.ofString "/" := by
    unfold mendP
    rw [if_neg (by decide +kernel), if_pos rfl]
  rw [e]; exact men_2
theorem Mine.men_c {w : World} {mean : ExcName → Option Value} {mg mb : PySem.Str → Option Value} {news : List (Addr × Obj)} {P x : PySem.Str} {c : Nat} {way : Int} {t1 t2 t3 : Tok} (hx : x = one c) (hw : 0 ≤ way) (h1 : P ≠ one 127) (h2 : P ≠ Str.ofString "\\/") (h3 : P.length = 12) :
    Cb w mean mg mb 2 191 news [.str P t1, .str x t2, .int way t3] (RetL4 news P (Txt.slice P none (some 6)) (Txt.slice P (some 6) none) (Str.ofString "\\U0000" ++ Txt.slice P (some 8) none) (Str.ofString "Escaped character is not a Unicode scalar value") (mendP P c way.toNat)) := by
  subst hx
  obtain ⟨n, rfl⟩ := Int.eq_ofNat_of_zero_le hw
  have e : mendP P c ((n : Nat) : Int).toNat = Str.ofString "\\U" ++ figS c n 8 := by
    unfold mendP
    rw [if_neg h1, if_neg h2, if_pos h3]; rfl
  rw [e]; exact men_3 h1 h2 h3
local macro_rules | `(tactic| walk_at "call ref") => `(tactic| (k_here; (with_reducible show wpAny _ _ (call (Value.ref 191) _) _ _ _); k_dflt (refine' cb_go (hd := none) (men_a ?p1 ?p2 ?p3 ?p4) ?k1 ?kz ?k2 ?k3 ?k4 ?k5 ?kK ?kd ?ku ?_; (case p1 => assumption); (case p2 => omega); (case p3 => assumption); (case p4 => assumption); (case k1 => k_asm); (case kz => assumption); (case k2 => k_asm); (case k3 => k_asm); (case k4 => k_asm); (case k5 => k_asm); (case kK => rfl); (case kd => k_room); (case ku => k_units); dsimp only [RetL1]; intro l9 la9 lb9 t8 t9 ta9 tb9 h9 tk9 F9 N9 lt9 ls9 lu9; (try dsimp only))))
local macro_rules | `(tactic| walk_at "call ref") => `(tactic| (k_here; (with_reducible show wpAny _ _ (call (Value.ref 191) _) _ _ _); k_dflt (refine' cb_go (hd := none) (men_b ?p1 ?p2 ?p3 ?p4) ?k1 ?kz ?k2 ?k3 ?k4 ?k5 ?kK ?kd ?ku ?_; (case p1 => assumption); (case p2 => omega); (case p3 => assumption); (case p4 => assumption); (case k1 => k_asm); (case kz => assumption); (case k2 => k_asm); (case k3 => k_asm); (case k4 => k_asm); (case k5 => k_asm); (case kK => rfl); (case kd => k_room); (case ku => k_units); dsimp only [RetL1]; intro l9 la9 lb9 t8 t9 ta9 tb9 h9 tk9 F9 N9 lt9 ls9 lu9; (try dsimp only))))
local macro_rules | `(tactic| walk_at "call ref") => `(tactic| (k_here; (with_reducible show wpAny _ _ (call (Value.ref 191) _) _ _ _); k_dflt (refine' cb_go (hd := none) (men_c ?p1 ?p2 ?p3 ?p4 ?p5) ?k1 ?kz ?k2 ?k3 ?k4 ?k5 ?kK ?kd ?ku ?_; (case p1 => assumption); (case p2 => omega); (case p3 => assumption); (case p4 => assumption); (case p5 => assumption); (case k1 => k_asm); (case kz => assumption); (case k2 => k_asm); (case k3 => k_asm); (case k4 => k_asm); (case k5 => k_asm); (case kK => rfl); (case kd => k_room); (case ku => k_units); dsimp only [RetL4]; intro l9 la9 a1 a2 a3 a4 t1 t2 t3 t4 u1 u2 u3 u4 v1 v2 h9 tk9 F9 N9 b1 b2 b3 b4 b5 lu9; (try dsimp only))))
set_option maxHeartbeats 2000000 in
theorem Mine.turn_a {w : World} {mean : ExcName → Option Value} {mg mb : PySem.Str → Option Value} {base : Heap} {L : Nat} {ts : List Nat} {total : Int} {D2 D Al : Addr} {zs ys lv : List Value} {p1 p2 p3 : Obj} {s : Shared} {Q : Flow → Shared → Prop} {Ea Eb : Value → Shared → Prop}
    (H : Base3 w mean mg mb base L ts total D2 D Al zs ys lv p1 p2 p3) {I : Addr} {i : Nat} {t : Tok} {m₁ : PySem.Str → Option Value} {news₁ own : List (Addr × Obj)} {h : Heap} {tk : Nat} (hi : i < ts.length) (hJ : J3 L ts total D2 D Al zs ys lv p1 p2 p3 i m₁ news₁)
    (hoff : ∀ p ∈ news₁, p.1 ≠ I) (hown : ∀ p ∈ own, p.1 = I) (hno : ∃ o, (I, o) ∈ own ∧ NotCode o) (F : Fr base L h (fun y => if y = Str.ofString "i" then some (.int ((0 : Int) + (i : Nat)) t) else m₁ y)) (N : News base L h (news₁ ++ own))
    (hdn : (doneS ts total i).length ≤ 480)
    (h1 : pieceS ts total i = one 127) (hc : ts.getD i 0 = 127) (hok : StateOk ts total (doneS ts total i) (one 127) i 0 (Str.ofString "Illegal character '\\x7f'")) :
    wpAny (model PySem.Challenge.pw_io0022_01 w) (callerA.deeper (lawEnv L)) (execs (forBody (B29.getD 10 default)) (lawEnv L)) (TEnd base L I own (J3 L ts total D2 D Al zs ys lv p1 p2 p3 (i + 1)) s Q) (fun e s' => wpAny (model PySem.Challenge.pw_io0022_01 w) (callerA.deeper (lawEnv L)) (leaving (lawEnv L) e) (fun _ s'' => Ea e s'') Eb s') { s with heap := h, toks := tk } := by
  have H' := H
  obtain ⟨B, Z, X, T, q3, ⟨u1, q1⟩, hys, hzs, hts, hlen, ht0, ht1, C9, hlv, hL9, hA9⟩ := H
  obtain ⟨led, t1, t2, t3, rfl, hled, e1, e2, e3, e4, e5⟩ := hJ
  have hlen4 : (⟨ts.toArray⟩ : PySem.Str).length = ts.length := List.size_toArray
  dsimp only [List.cons_append] at N
  obtain ⟨o151, h151⟩ := led151 hled
  have hI9 : I ≠ 151 := fun q => hoff ((151 : Addr), o151) (by simp [h151]) q.symm
  have hf0 : ∀ p ∈ own, p.1 ≠ 151 := fun p hp => by rw [hown p hp]; exact hI9
  have F := known5 F (n1 := Str.ofString "pieces") (n2 := Str.ofString "lines") (n3 := Str.ofString "ahead") (n4 := Str.ofString "behind") (n5 := Str.ofString "done") e1 e2 e3 e4 e5
  obtain ⟨tz, hz⟩ := carried_at hzs (range_at hi)
  obtain ⟨ty, hy⟩ : ∃ t, ys[((0 : Int) + (i : Nat)).toNat]? = some (.int (total + 7 * (i : Int)) t) := hys.get _ _ (by rw [List.getElem?_map, range_at hi]; rfl)
  have hx9 : Txt.item ⟨ts.toArray⟩ ((0 : Int) + (i : Nat)) = one (ts.getD i 0) := by
    have := item_any (x := ⟨ts.toArray⟩) (i := (0 : Int) + (i : Nat)) (by omega) (by omega)
    rw [show ((0 : Int) + (i : Nat)).toNat = i by omega] at this
    exact this
  have hMl := mendS_len ts total i
  have hPl : (pieceS ts total i).length ≤ 12 := (pieceS_len ts total i).2
  dsimp only [lawEnv, B29, C29, List.getD, List.getElem?_cons_succ, List.getElem?_cons_zero, Option.getD, forBody]
  let ek : Value → Shared → Prop := fun e s' => wpAny (model PySem.Challenge.pw_io0022_01 w) (callerA.deeper (lawEnv L)) (leaving (lawEnv L) e) (fun _ s'' => Ea e s'') Eb s'
  show wpAny _ _ _ _ ek _
  k_steps
  rename Fr base L _ _ => F9
  rename News base L _ _ => N9
  have hl9 := (news_list N9 (.tail _ (.head _))).1
  rename (_ : Addr) < (_ : Addr) => c0; revert c0
  rename (_ : Addr) < (_ : Addr) => c1; revert c1
  intro c1 c0
  rename ∀ p ∈ (Al, W.listOf lv.toArray 0) :: (D2, LCg.lst zs) :: (D, LCg.lst ys) :: (L + 1 + 1 + 1, p3) :: (L + 1 + 1, p2) :: (L + 1, p1) :: (led ++ own), p.1 < _ => lu9
  have l151 := lu9 ((151 : Addr), o151) (by simp [h151])
  dsimp only at l151
  have d1 := Nat.lt_trans l151 c1
  have d0 := Nat.lt_trans d1 c0
  refine' inner_loop H' (dn := doneS ts total i) (led := led) (vs := [.ref _]) hi hl9 (N9 _ (.tail _ (.head _))).2.1 (N9 _ (.tail _ (.head _))).2.2 ?ne9 ?hst9 rfl rfl rfl rfl rfl rfl rfl hled ?hf9 ?dn9 ?wl9 F9 (swap3 N9) ?done9
  case ne9 => exact Nat.ne_of_gt (by first | exact l151 | exact d0 | exact d1)
  case dn9 => omega
  case wl9 => exact Nat.le_of_ble_eq_true (by kernel_rfl)
  case hf9 =>
    intro p hp
    simp only [List.mem_cons] at hp
    rcases hp with rfl | rfl | rfl | hp
    · exact Nat.ne_of_gt (by dsimp only; first | exact l151 | exact d0 | exact d1)
    · exact Nat.ne_of_gt (by dsimp only; first | exact l151 | exact d0 | exact d1)
    · exact Nat.ne_of_gt (by dsimp only; first | exact l151 | exact d0 | exact d1)
    · exact hf0 p hp
  case hst9 =>
    intro v hv
    rw [List.mem_singleton.mp hv]
    exact ⟨_, _, _, _, _, rfl, .tail _ (.tail _ (.head _)), hok, by decide, by decide, by decide⟩
  case done9 =>
    intro h8 tk8 m8 led8 hl8 F8 N8 hm
    have e1' : m8 (Str.ofString "pieces") = some (.ref D2) := (hm (Str.ofString "pieces") (by decide +kernel)).trans (by kernel_rfl)
    have e2' : m8 (Str.ofString "lines") = some (.ref Al) := (hm (Str.ofString "lines") (by decide +kernel)).trans (by kernel_rfl)
    have e3' : m8 (Str.ofString "ahead") = some (.str (aheadS ts total) t1) := (hm (Str.ofString "ahead") (by decide +kernel)).trans (by kernel_rfl)
    have e4' : m8 (Str.ofString "behind") = some (.str (behindS ts) t2) := (hm (Str.ofString "behind") (by decide +kernel)).trans (by kernel_rfl)
    have e5' : m8 (Str.ofString "done") = some (.str (doneS ts total i) t3) := (hm (Str.ofString "done") (by decide +kernel)).trans (by kernel_rfl)
    obtain ⟨t8, e8'⟩ : ∃ t8, m8 (Str.ofString "mended") = some (.str (mendS ts total i) t8) := ⟨_, (hm (Str.ofString "mended") (by decide +kernel)).trans rfl⟩
    clear F9 N9
    have F8 := known2 F8 e5' e8'
    dsimp only
    k_steps
    rename Fr base L _ _ => F7
    rename News base L _ _ => N7
    refine' turn_fin (fx := [_, _, _]) F7 N7 hl8 hno hI9 (fun p hp => hoff p (in6 p hp)) ?J7
    exact ⟨_, _, _, _, rfl, hl8, e1', e2', e3', e4', rfl⟩
set_option maxHeartbeats 2000000 in
theorem Mine.turn_b {w : World} {mean : ExcName → Option Value} {mg mb : PySem.Str → Option Value} {base : Heap} {L : Nat} {ts : List Nat} {total : Int} {D2 D Al : Addr} {zs ys lv : List Value} {p1 p2 p3 : Obj} {s : Shared} {Q : Flow → Shared → Prop} {Ea Eb : Value → Shared → Prop}
    (H : Base3 w mean mg mb base L ts total D2 D Al zs ys lv p1 p2 p3) {I : Addr} {i : Nat} {t : Tok} {m₁ : PySem.Str → Option Value} {news₁ own : List (Addr × Obj)} {h : Heap} {tk : Nat} (hi : i < ts.length) (hJ : J3 L ts total D2 D Al zs ys lv p1 p2 p3 i m₁ news₁)
    (hoff : ∀ p ∈ news₁, p.1 ≠ I) (hown : ∀ p ∈ own, p.1 = I) (hno : ∃ o, (I, o) ∈ own ∧ NotCode o) (F : Fr base L h (fun y => if y = Str.ofString "i" then some (.int ((0 : Int) + (i : Nat)) t) else m₁ y)) (N : News base L h (news₁ ++ own))
    (hdn : (doneS ts total i).length ≤ 480)
    (h1 : pieceS ts total i = Str.ofString "\\/") (hc : ts.getD i 0 = 47) (hok : StateOk ts total (doneS ts total i) (Str.ofString "\\/") i 2 (Str.ofString "Unescaped '\\' in a string")) :
    wpAny (model PySem.Challenge.pw_io0022_01 w) (callerA.deeper (lawEnv L)) (execs (forBody (B29.getD 10 default)) (lawEnv L)) (TEnd base L I own (J3 L ts total D2 D Al zs ys lv p1 p2 p3 (i + 1)) s Q) (fun e s' => wpAny (model PySem.Challenge.pw_io0022_01 w) (callerA.deeper (lawEnv L)) (leaving (lawEnv L) e) (fun _ s'' => Ea e s'') Eb s') { s with heap := h, toks := tk } := by
  have H' := H
  obtain ⟨B, Z, X, T, q3, ⟨u1, q1⟩, hys, hzs, hts, hlen, ht0, ht1, C9, hlv, hL9, hA9⟩ := H
  obtain ⟨led, t1, t2, t3, rfl, hled, e1, e2, e3, e4, e5⟩ := hJ
  have hlen4 : (⟨ts.toArray⟩ : PySem.Str).length = ts.length := List.size_toArray
  dsimp only [List.cons_append] at N
  obtain ⟨o151, h151⟩ := led151 hled
  have hI9 : I ≠ 151 := fun q => hoff ((151 : Addr), o151) (by simp [h151]) q.symm
  have hf0 : ∀ p ∈ own, p.1 ≠ 151 := fun p hp => by rw [hown p hp]; exact hI9
  have F := known5 F (n1 := Str.ofString "pieces") (n2 := Str.ofString "lines") (n3 := Str.ofString "ahead") (n4 := Str.ofString "behind") (n5 := Str.ofString "done") e1 e2 e3 e4 e5
  obtain ⟨tz, hz⟩ := carried_at hzs (range_at hi)
  obtain ⟨ty, hy⟩ : ∃ t, ys[((0 : Int) + (i : Nat)).toNat]? = some (.int (total + 7 * (i : Int)) t) := hys.get _ _ (by rw [List.getElem?_map, range_at hi]; rfl)
  have hx9 : Txt.item ⟨ts.toArray⟩ ((0 : Int) + (i : Nat)) = one (ts.getD i 0) := by
    have := item_any (x := ⟨ts.toArray⟩) (i := (0 : Int) + (i : Nat)) (by omega) (by omega)
    rw [show ((0 : Int) + (i : Nat)).toNat = i by omega] at this
    exact this
  have hMl := mendS_len ts total i
  have hPl : (pieceS ts total i).length ≤ 12 := (pieceS_len ts total i).2
  dsimp only [lawEnv, B29, C29, List.getD, List.getElem?_cons_succ, List.getElem?_cons_zero, Option.getD, forBody]
  let ek : Value → Shared → Prop := fun e s' => wpAny (model PySem.Challenge.pw_io0022_01 w) (callerA.deeper (lawEnv L)) (leaving (lawEnv L) e) (fun _ s'' => Ea e s'') Eb s'
  show wpAny _ _ _ _ ek _
  k_steps
  rename Fr base L _ _ => F9
  rename News base L _ _ => N9
  have hl9 := (news_list N9 (.tail _ (.head _))).1
  rename (_ : Addr) < (_ : Addr) => c0; revert c0
  rename (_ : Addr) < (_ : Addr) => c1; revert c1
  intro c1 c0
  rename ∀ p ∈ (Al, W.listOf lv.toArray 0) :: (D2, LCg.lst zs) :: (D, LCg.lst ys) :: (L + 1 + 1 + 1, p3) :: (L + 1 + 1, p2) :: (L + 1, p1) :: (led ++ own), p.1 < _ => lu9
  have l151 := lu9 ((151 : Addr), o151) (by simp [h151])
  dsimp only at l151
  have d1 := Nat.lt_trans l151 c1
  have d0 := Nat.lt_trans d1 c0
  refine' inner_loop H' (dn := doneS ts total i) (led := led) (vs := [.ref _]) hi hl9 (N9 _ (.tail _ (.head _))).2.1 (N9 _ (.tail _ (.head _))).2.2 ?ne9 ?hst9 rfl rfl rfl rfl rfl rfl rfl hled ?hf9 ?dn9 ?wl9 F9 (swap3 N9) ?done9
  case ne9 => exact Nat.ne_of_gt (by first | exact l151 | exact d0 | exact d1)
  case dn9 => omega
  case wl9 => exact Nat.le_of_ble_eq_true (by kernel_rfl)
  case hf9 =>
    intro p hp
    simp only [List.mem_cons] at hp
    rcases hp with rfl | rfl | rfl | hp
    · exact Nat.ne_of_gt (by dsimp only; first | exact l151 | exact d0 | exact d1)
    · exact Nat.ne_of_gt (by dsimp only; first | exact l151 | exact d0 | exact d1)
    · exact Nat.ne_of_gt (by dsimp only; first | exact l151 | exact d0 | exact d1)
    · exact hf0 p hp
  case hst9 =>
    intro v hv
    rw [List.mem_singleton.mp hv]
    exact ⟨_, _, _, _, _, rfl, .tail _ (.tail _ (.head _)), hok, by decide, by decide, Nat.le_of_ble_eq_true (by kernel_rfl)⟩
  case done9 =>
    intro h8 tk8 m8 led8 hl8 F8 N8 hm
    have e1' : m8 (Str.ofString "pieces") = some (.ref D2) := (hm (Str.ofString "pieces") (by decide +kernel)).trans (by kernel_rfl)
    have e2' : m8 (Str.ofString "lines") = some (.ref Al) := (hm (Str.ofString "lines") (by decide +kernel)).trans (by kernel_rfl)
    have e3' : m8 (Str.ofString "ahead") = some (.str (aheadS ts total) t1) := (hm (Str.ofString "ahead") (by decide +kernel)).trans (by kernel_rfl)
    have e4' : m8 (Str.ofString "behind") = some (.str (behindS ts) t2) := (hm (Str.ofString "behind") (by decide +kernel)).trans (by kernel_rfl)
    have e5' : m8 (Str.ofString "done") = some (.str (doneS ts total i) t3) := (hm (Str.ofString "done") (by decide +kernel)).trans (by kernel_rfl)
    obtain ⟨t8, e8'⟩ : ∃ t8, m8 (Str.ofString "mended") = some (.str (mendS ts total i) t8) := ⟨_, (hm (Str.ofString "mended") (by decide +kernel)).trans rfl⟩
    clear F9 N9
    have F8 := known2 F8 e5' e8'
    dsimp only
    k_steps
    rename Fr base L _ _ => F7
    rename News base L _ _ => N7
    refine' turn_fin (fx := [_, _, _]) F7 N7 hl8 hno hI9 (fun p hp => hoff p (in6 p hp)) ?J7
    exact ⟨_, _, _, _, rfl, hl8, e1', e2', e3', e4', rfl⟩
set_option maxHeartbeats 2000000 in
theorem Mine.turn_c {w : World} {mean : ExcName → Option Value} {mg mb : PySem.Str → Option Value} {base : Heap} {L : Nat} {ts : List Nat} {total : Int} {D2 D Al : Addr} {zs ys lv : List Value} {p1 p2 p3 : Obj} {s : Shared} {Q : Flow → Shared → Prop} {Ea Eb : Value → Shared → Prop}
    (H : Base3 w mean mg mb base L ts total D2 D Al zs ys lv p1 p2 p3) {I : Addr} {i : Nat} {t : Tok} {m₁ : PySem.Str → Option Value} {news₁ own : List (Addr × Obj)} {h : Heap} {tk : Nat} (hi : i < ts.length) (hJ : J3 L ts total D2 D Al zs ys lv p1 p2 p3 i m₁ news₁)
    (hoff : ∀ p ∈ news₁, p.1 ≠ I) (hown : ∀ p ∈ own, p.1 = I) (hno : ∃ o, (I, o) ∈ own ∧ NotCode o) (F : Fr base L h (fun y => if y = Str.ofString "i" then some (.int ((0 : Int) + (i : Nat)) t) else m₁ y)) (N : News base L h (news₁ ++ own))
    (hdn : (doneS ts total i).length ≤ 480)
    (h1 : pieceS ts total i ≠ one 127) (h2 : pieceS ts total i ≠ Str.ofString "\\/") (h3 : (pieceS ts total i).length = 12)
    (ho1 : StateOk ts total (doneS ts total i) (pieceS ts total i) i 6 (Str.ofString "Escaped character is not a Unicode scalar value")) (ho2 : StateOk ts total (doneS ts total i) (Txt.slice (pieceS ts total i) none (some 6)) i 6 (Str.ofString "Escaped character is not a Unicode scalar value")) (ho3 : StateOk ts total (doneS ts total i) (Txt.slice (pieceS ts total i) (some 6) none) i 6 (Str.ofString "Escaped character is not a Unicode scalar value")) (ho4 : StateOk ts total (doneS ts total i) (Str.ofString "\\U0000" ++ Txt.slice (pieceS ts total i) (some 8) none) i 10 (Str.ofString "Escaped character is not a Unicode scalar value"))
    (hl2 : (Txt.slice (pieceS ts total i) none (some 6)).length ≤ 12) (hl3 : (Txt.slice (pieceS ts total i) (some 6) none).length ≤ 12) (hl4 : (Str.ofString "\\U0000" ++ Txt.slice (pieceS ts total i) (some 8) none).length ≤ 12) :
    wpAny (model PySem.Challenge.pw_io0022_01 w) (callerA.deeper (lawEnv L)) (execs (forBody (B29.getD 10 default)) (lawEnv L)) (TEnd base L I own (J3 L ts total D2 D Al zs ys lv p1 p2 p3 (i + 1)) s Q) (fun e s' => wpAny (model PySem.Challenge.pw_io0022_01 w) (callerA.deeper (lawEnv L)) (leaving (lawEnv L) e) (fun _ s'' => Ea e s'') Eb s') { s with heap := h, toks := tk } := by
  have H' := H
  obtain ⟨B, Z, X, T, q3, ⟨u1, q1⟩, hys, hzs, hts, hlen, ht0, ht1, C9, hlv, hL9, hA9⟩ := H
  obtain ⟨led, t1, t2, t3, rfl, hled, e1, e2, e3, e4, e5⟩ := hJ
  have hlen4 : (⟨ts.toArray⟩ : PySem.Str).length = ts.length := List.size_toArray
  dsimp only [List.cons_append] at N
  obtain ⟨o151, h151⟩ := led151 hled
  have hI9 : I ≠ 151 := fun q => hoff ((151 : Addr), o151) (by simp [h151]) q.symm
  have hf0 : ∀ p ∈ own, p.1 ≠ 151 := fun p hp => by rw [hown p hp]; exact hI9
  have F := known5 F (n1 := Str.ofString "pieces") (n2 := Str.ofString "lines") (n3 := Str.ofString "ahead") (n4 := Str.ofString "behind") (n5 := Str.ofString "done") e1 e2 e3 e4 e5
  obtain ⟨tz, hz⟩ := carried_at hzs (range_at hi)
  obtain ⟨ty, hy⟩ : ∃ t, ys[((0 : Int) + (i : Nat)).toNat]? = some (.int (total + 7 * (i : Int)) t) := hys.get _ _ (by rw [List.getElem?_map, range_at hi]; rfl)
  have hx9 : Txt.item ⟨ts.toArray⟩ ((0 : Int) + (i : Nat)) = one (ts.getD i 0) := by
    have := item_any (x := ⟨ts.toArray⟩) (i := (0 : Int) + (i : Nat)) (by omega) (by omega)
    rw [show ((0 : Int) + (i : Nat)).toNat = i by omega] at this
    exact this
  have hMl := mendS_len ts total i
  have hPl : (pieceS ts total i).length ≤ 12 := (pieceS_len ts total i).2
  dsimp only [lawEnv, B29, C29, List.getD, List.getElem?_cons_succ, List.getElem?_cons_zero, Option.getD, forBody]
  let ek : Value → Shared → Prop := fun e s' => wpAny (model PySem.Challenge.pw_io0022_01 w) (callerA.deeper (lawEnv L)) (leaving (lawEnv L) e) (fun _ s'' => Ea e s'') Eb s'
  show wpAny _ _ _ _ ek _
  k_steps
  rename Fr base L _ _ => F9
  rename News base L _ _ => N9
  have hl9 := (news_list N9 (.tail _ (.head _))).1
  rename (_ : Addr) < (_ : Addr) => c0; revert c0
  rename (_ : Addr) < (_ : Addr) => c1; revert c1
  rename (_ : Addr) < (_ : Addr) => c2; revert c2
  rename (_ : Addr) < (_ : Addr) => c3; revert c3
  rename (_ : Addr) < (_ : Addr) => c4; revert c4
  intro c4 c3 c2 c1 c0
  rename ∀ p ∈ (Al, W.listOf lv.toArray 0) :: (D2, LCg.lst zs) :: (D, LCg.lst ys) :: (L + 1 + 1 + 1, p3) :: (L + 1 + 1, p2) :: (L + 1, p1) :: (led ++ own), p.1 < _ => lu9
  have l151 := lu9 ((151 : Addr), o151) (by simp [h151])
  dsimp only at l151
  have d4 := Nat.lt_trans l151 c4
  have d3 := Nat.lt_trans d4 c3
  have d2 := Nat.lt_trans d3 c2
  have d1 := Nat.lt_trans d2 c1
  have d0 := Nat.lt_trans d1 c0
  refine' inner_loop H' (dn := doneS ts total i) (led := led) (vs := [.ref _, .ref _, .ref _, .ref _]) hi hl9 (N9 _ (.tail _ (.head _))).2.1 (N9 _ (.tail _ (.head _))).2.2 ?ne9 ?hst9 rfl rfl rfl rfl rfl rfl rfl hled ?hf9 ?dn9 ?wl9 F9 (swap6 N9) ?done9
  case ne9 => exact Nat.ne_of_gt (by first | exact l151 | exact d0 | exact d1 | exact d2 | exact d3 | exact d4)
  case dn9 => omega
  case wl9 => exact Nat.le_of_ble_eq_true (by kernel_rfl)
  case hf9 =>
    intro p hp
    simp only [List.mem_cons] at hp
    rcases hp with rfl | rfl | rfl | rfl | rfl | rfl | hp
    · exact Nat.ne_of_gt (by dsimp only; first | exact l151 | exact d0 | exact d1 | exact d2 | exact d3 | exact d4)
    · exact Nat.ne_of_gt (by dsimp only; first | exact l151 | exact d0 | exact d1 | exact d2 | exact d3 | exact d4)
    · exact Nat.ne_of_gt (by dsimp only; first | exact l151 | exact d0 | exact d1 | exact d2 | exact d3 | exact d4)
    · exact Nat.ne_of_gt (by dsimp only; first | exact l151 | exact d0 | exact d1 | exact d2 | exact d3 | exact d4)
    · exact Nat.ne_of_gt (by dsimp only; first | exact l151 | exact d0 | exact d1 | exact d2 | exact d3 | exact d4)
    · exact Nat.ne_of_gt (by dsimp only; first | exact l151 | exact d0 | exact d1 | exact d2 | exact d3 | exact d4)
    · exact hf0 p hp
  case hst9 =>
    intro v hv
    simp only [List.mem_cons, List.not_mem_nil, or_false] at hv
    rcases hv with rfl | rfl | rfl | rfl
    · exact ⟨_, _, _, _, _, rfl, .tail _ (.tail _ (.tail _ (.tail _ (.tail _ (.head _))))), ho1, by decide, by decide, hPl⟩
    · exact ⟨_, _, _, _, _, rfl, .tail _ (.tail _ (.tail _ (.tail _ (.head _)))), ho2, by decide, by decide, hl2⟩
    · exact ⟨_, _, _, _, _, rfl, .tail _ (.tail _ (.tail _ (.head _))), ho3, by decide, by decide, hl3⟩
    · exact ⟨_, _, _, _, _, rfl, .tail _ (.tail _ (.head _)), ho4, by decide, by decide, hl4⟩
  case done9 =>
    intro h8 tk8 m8 led8 hl8 F8 N8 hm
    have e1' : m8 (Str.ofString "pieces") = some (.ref D2) := (hm (Str.ofString "pieces") (by decide +kernel)).trans (by kernel_rfl)
    have e2' : m8 (Str.ofString "lines") = some (.ref Al) := (hm (Str.ofString "lines") (by decide +kernel)).trans (by kernel_rfl)
    have e3' : m8 (Str.ofString "ahead") = some (.str (aheadS ts total) t1) := (hm (Str.ofString "ahead") (by decide +kernel)).trans (by kernel_rfl)
    have e4' : m8 (Str.ofString "behind") = some (.str (behindS ts) t2) := (hm (Str.ofString "behind") (by decide +kernel)).trans (by kernel_rfl)
    have e5' : m8 (Str.ofString "done") = some (.str (doneS ts total i) t3) := (hm (Str.ofString "done") (by decide +kernel)).trans (by kernel_rfl)
    obtain ⟨t8, e8'⟩ : ∃ t8, m8 (Str.ofString "mended") = some (.str (mendS ts total i) t8) := ⟨_, (hm (Str.ofString "mended") (by decide +kernel)).trans rfl⟩
    clear F9 N9
    have F8 := known2 F8 e5' e8'
    dsimp only
    k_steps
    rename Fr base L _ _ => F7
    rename News base L _ _ => N7
    refine' turn_fin (fx := [_, _, _, _, _, _]) F7 N7 hl8 hno hI9 (fun p hp => hoff p (in6 p hp)) ?J7
    exact ⟨_, _, _, _, rfl, hl8, e1', e2', e3', e4', rfl⟩
set_option maxHeartbeats 2000000 in
theorem Mine.turn_d {w : World} {mean : ExcName → Option Value} {mg mb : PySem.Str → Option Value} {base : Heap} {L : Nat} {ts : List Nat} {total : Int} {D2 D Al : Addr} {zs ys lv : List Value} {p1 p2 p3 : Obj} {s : Shared} {Q : Flow → Shared → Prop} {Ea Eb : Value → Shared → Prop}
    (H : Base3 w mean mg mb base L ts total D2 D Al zs ys lv p1 p2 p3) {I : Addr} {i : Nat} {t : Tok} {m₁ : PySem.Str → Option Value} {news₁ own : List (Addr × Obj)} {h : Heap} {tk : Nat} (hi : i < ts.length) (hJ : J3 L ts total D2 D Al zs ys lv p1 p2 p3 i m₁ news₁)
    (hoff : ∀ p ∈ news₁, p.1 ≠ I) (hown : ∀ p ∈ own, p.1 = I) (hno : ∃ o, (I, o) ∈ own ∧ NotCode o) (F : Fr base L h (fun y => if y = Str.ofString "i" then some (.int ((0 : Int) + (i : Nat)) t) else m₁ y)) (N : News base L h (news₁ ++ own))
    (hdn : (doneS ts total i).length ≤ 480)
    (h1 : pieceS ts total i ≠ one 127) (h2 : pieceS ts total i ≠ Str.ofString "\\/") (h3 : (pieceS ts total i).length ≠ 12) :
    wpAny (model PySem.Challenge.pw_io0022_01 w) (callerA.deeper (lawEnv L)) (execs (forBody (B29.getD 10 default)) (lawEnv L)) (TEnd base L I own (J3 L ts total D2 D Al zs ys lv p1 p2 p3 (i + 1)) s Q) (fun e s' => wpAny (model PySem.Challenge.pw_io0022_01 w) (callerA.deeper (lawEnv L)) (leaving (lawEnv L) e) (fun _ s'' => Ea e s'') Eb s') { s with heap := h, toks := tk } := by
  have H' := H
  obtain ⟨B, Z, X, T, q3, ⟨u1, q1⟩, hys, hzs, hts, hlen, ht0, ht1, C9, hlv, hL9, hA9⟩ := H
  obtain ⟨led, t1, t2, t3, rfl, hled, e1, e2, e3, e4, e5⟩ := hJ
  have hlen4 : (⟨ts.toArray⟩ : PySem.Str).length = ts.length := List.size_toArray
  dsimp only [List.cons_append] at N
  obtain ⟨o151, h151⟩ := led151 hled
  have hI9 : I ≠ 151 := fun q => hoff ((151 : Addr), o151) (by simp [h151]) q.symm
  have hf0 : ∀ p ∈ own, p.1 ≠ 151 := fun p hp => by rw [hown p hp]; exact hI9
  have F := known5 F (n1 := Str.ofString "pieces") (n2 := Str.ofString "lines") (n3 := Str.ofString "ahead") (n4 := Str.ofString "behind") (n5 := Str.ofString "done") e1 e2 e3 e4 e5
  obtain ⟨tz, hz⟩ := carried_at hzs (range_at hi)
  obtain ⟨ty, hy⟩ : ∃ t, ys[((0 : Int) + (i : Nat)).toNat]? = some (.int (total + 7 * (i : Int)) t) := hys.get _ _ (by rw [List.getElem?_map, range_at hi]; rfl)
  have hx9 : Txt.item ⟨ts.toArray⟩ ((0 : Int) + (i : Nat)) = one (ts.getD i 0) := by
    have := item_any (x := ⟨ts.toArray⟩) (i := (0 : Int) + (i : Nat)) (by omega) (by omega)
    rw [show ((0 : Int) + (i : Nat)).toNat = i by omega] at this
    exact this
  have hMl := mendS_len ts total i
  have hPl : (pieceS ts total i).length ≤ 12 := (pieceS_len ts total i).2
  dsimp only [lawEnv, B29, C29, List.getD, List.getElem?_cons_succ, List.getElem?_cons_zero, Option.getD, forBody]
  let ek : Value → Shared → Prop := fun e s' => wpAny (model PySem.Challenge.pw_io0022_01 w) (callerA.deeper (lawEnv L)) (leaving (lawEnv L) e) (fun _ s'' => Ea e s'') Eb s'
  show wpAny _ _ _ _ ek _
  k_steps
  rename Fr base L _ _ => F9
  rename News base L _ _ => N9
  have hl9 := (news_list N9 (.tail _ (.head _))).1
  rename (_ : Addr) < (_ : Addr) => c0; revert c0
  intro c0
  rename ∀ p ∈ (Al, W.listOf lv.toArray 0) :: (D2, LCg.lst zs) :: (D, LCg.lst ys) :: (L + 1 + 1 + 1, p3) :: (L + 1 + 1, p2) :: (L + 1, p1) :: (led ++ own), p.1 < _ => lu9
  have l151 := lu9 ((151 : Addr), o151) (by simp [h151])
  dsimp only at l151
  have d0 := Nat.lt_trans l151 c0
  refine' inner_loop H' (dn := doneS ts total i) (led := led) (vs := []) hi hl9 (N9 _ (.tail _ (.head _))).2.1 (N9 _ (.tail _ (.head _))).2.2 ?ne9 ?hst9 rfl rfl rfl rfl rfl rfl rfl hled ?hf9 ?dn9 ?wl9 F9 (swap2 N9) ?done9
  case ne9 => exact Nat.ne_of_gt (by first | exact l151 | exact d0)
  case dn9 => omega
  case wl9 => exact Nat.zero_le _
  case hf9 =>
    intro p hp
    simp only [List.mem_cons] at hp
    rcases hp with rfl | rfl | hp
    · exact Nat.ne_of_gt (by dsimp only; first | exact l151 | exact d0)
    · exact Nat.ne_of_gt (by dsimp only; first | exact l151 | exact d0)
    · exact hf0 p hp
  case hst9 =>
    intro v hv; cases hv
  case done9 =>
    intro h8 tk8 m8 led8 hl8 F8 N8 hm
    have e1' : m8 (Str.ofString "pieces") = some (.ref D2) := (hm (Str.ofString "pieces") (by decide +kernel)).trans (by kernel_rfl)
    have e2' : m8 (Str.ofString "lines") = some (.ref Al) := (hm (Str.ofString "lines") (by decide +kernel)).trans (by kernel_rfl)
    have e3' : m8 (Str.ofString "ahead") = some (.str (aheadS ts total) t1) := (hm (Str.ofString "ahead") (by decide +kernel)).trans (by kernel_rfl)
    have e4' : m8 (Str.ofString "behind") = some (.str (behindS ts) t2) := (hm (Str.ofString "behind") (by decide +kernel)).trans (by kernel_rfl)
    have e5' : m8 (Str.ofString "done") = some (.str (doneS ts total i) t3) := (hm (Str.ofString "done") (by decide +kernel)).trans (by kernel_rfl)
    obtain ⟨t8, e8'⟩ : ∃ t8, m8 (Str.ofString "mended") = some (.str (mendS ts total i) t8) := ⟨_, (hm (Str.ofString "mended") (by decide +kernel)).trans rfl⟩
    clear F9 N9
    have F8 := known2 F8 e5' e8'
    dsimp only
    k_steps
    rename Fr base L _ _ => F7
    rename News base L _ _ => N7
    refine' turn_fin (fx := [_, _]) F7 N7 hl8 hno hI9 (fun p hp => hoff p (in6 p hp)) ?J7
    exact ⟨_, _, _, _, rfl, hl8, e1', e2', e3', e4', rfl⟩
-- Z
theorem Mine.known3 {g h : Heap} {L : Addr} {m : PySem.Str → Option Value} {n1 n2 n3 : PySem.Str} {v1 v2 v3 : Value} (F : Fr g L h m) (e1 : m n1 = some v1) (e2 : m n2 = some v2) (e3 : m n3 = some v3) :
    Fr g L h (fun y => if y = n1 then some v1 else if y = n2 then some v2 else if y = n3 then some v3 else m y) := by
  have : (fun y => if y = n1 then some v1 else if y = n2 then some v2 else if y = n3 then some v3 else m y) = m := by
    funext y
    repeat' (split; · rename_i q; rw [q]; symm; assumption)
    rfl
  rw [this]; exact F
theorem Mine.list_ne151 {h₀ h : Heap} {L D : Addr} {o : Obj} {news : List (Addr × Obj)} (N : News h₀ L h news) (hm : (D, o) ∈ news) (hc : o.cls = .type "list") (hn : ((151 : Addr), tabObj #[]) ∈ news) : D ≠ 151 := by
  rintro rfl
  have h1 := (N _ hm).1
  have h2 := (N _ hn).1
  rw [h1] at h2
  have h3 := Option.some.inj h2
  have h4 : o.cls = Value.none := congrArg Obj.cls h3
  rw [hc] at h4
  cases h4
theorem Mine.shaped2 {ts : List Nat} (h : ScalarL ts) (n : Int) : SeqAt.shaped (.tuple [.int n, .str ⟨ts.toArray⟩]) = true := by
  have : PyData.strOk ⟨ts.toArray⟩ = true := by
    unfold PyData.strOk
    simp only [List.all_toArray, List.all_eq_true, decide_eq_true_eq]
    intro c hc
    have := (h c hc).1
    omega
  simp [SeqAt.shaped, PyData.canLay0, PyData.canLayAll0, PyData.depth, PyData.depthAll, this]
theorem Mine.line_G {w : World} {mean : ExcName → Option Value} {mg mb : PySem.Str → Option Value} {q1 q2 q3 q4 q5 q6 : Addr × Obj} {led : List (Addr × Obj)} {src : PySem.Str} {pos q : Nat} {cs : List Nat} {t1 t2 : Tok}
    (hG : Pcs src (pos + 1) cs q) (hF : EndAt src q none) (hq : q + 1 < src.length) (hp : pos + 1 < src.length) (hl : src.length ≤ 10000) (hled : LedOk led) (hn : ∀ p ∈ [q1, q2, q3, q4, q5, q6], p.1 ≠ 151) :
    Cb w mean mg mb 20 120 (q1 :: q2 :: q3 :: q4 :: q5 :: q6 :: led) [.str src t1, .int pos t2] (RetTup (q1 :: q2 :: q3 :: q4 :: q5 :: q6 :: led) ((q : Int) + 1) ⟨cs.toArray⟩) := by
  have C := line_K (w := w) (mean := mean) (mg := mg) (mb := mb) (news := [q1, q2, q3, q4, q5, q6]) (nw := led ++ [q1, q2, q3, q4, q5, q6]) (t1 := t1) (t2 := t2) hG hF hq hp hl ⟨led, hled, rfl⟩ hn
  have sub : ∀ p ∈ led ++ [q1, q2, q3, q4, q5, q6], p ∈ q1 :: q2 :: q3 :: q4 :: q5 :: q6 :: led := fun p hp => perm2 (q := [q1, q2, q3, q4, q5, q6]) hp
  have sub2 : ∀ p ∈ q1 :: q2 :: q3 :: q4 :: q5 :: q6 :: led, p ∈ led ++ [q1, q2, q3, q4, q5, q6] := fun p hp => perm2 (l := [q1, q2, q3, q4, q5, q6]) hp
  intro dp un gd cn cs a ccd cl outer A₀ base h₀ L m s Q E k1 kz k2 k3 k4 k5 kK kd ku kR
  refine C dp un gd cn cs a ccd cl outer A₀ base h₀ L m s Q E k1 kz k2 k3 (fun p hp => k4 p (sub p hp)) k5 kK kd ku ?_
  simp only [RetFin, RetTup]
  intro l ta tb h' tk' F N hlt
  refine kR l ta tb h' tk' F (fun p hp => ?_) (fun p hp => hlt p (sub2 p hp))
  rcases List.mem_cons.mp hp with z | z
  · exact N p (by rw [z]; exact .head _)
  · exact N p (.tail _ (sub2 p z))
noncomputable section
local macro_rules | `(tactic| walk_at "call ref") => `(tactic| (k_here; (with_reducible show wpAny _ _ (call (Value.ref 120) _) _ _ _); k_dflt (refine' cb_gq (hd := none) (line_G (by with_reducible assumption) (by assumption) (by assumption) (by assumption) (by assumption) (by assumption) (by assumption)) ?_; dsimp only [RetTup]; intro l9 ta9 tb9 h9 k9 F9 N9 lt9; (try dsimp only))))
set_option maxHeartbeats 2000000 in
theorem Mine.law_end {w : World} {mean : ExcName → Option Value} {mg mb : PySem.Str → Option Value} {base : Heap} {L : Nat} {ts : List Nat} {total : Int} {D2 D Al : Addr} {zs ys lv : List Value} {p1 p2 p3 : Obj} {s : Shared} {Q : Flow → Shared → Prop} {Ea Eb : Value → Shared → Prop}
    (H : Base3 w mean mg mb base L ts total D2 D Al zs ys lv p1 p2 p3) {t1 t2 t3 : Tok} {m : PySem.Str → Option Value} {led : List (Addr × Obj)} {h : Heap} {tk : Nat} (hled : LedOk led) (F : Fr base L h m) (N : News base L h ((Al, W.listOf lv.toArray 0) :: (D2, LCg.lst zs) :: (D, LCg.lst ys) :: (L + 1 + 1 + 1, p3) :: (L + 1 + 1, p2) :: (L + 1, p1) :: led))
    (e3 : m (Str.ofString "ahead") = some (.str (aheadS ts total) t1)) (e4 : m (Str.ofString "behind") = some (.str (behindS ts) t2)) (e5 : m (Str.ofString "done") = some (.str (doneS ts total ts.length) t3)) (hfin : FinOk ts total)
    (hQ : ∀ h' tk' nw' m', LedIn [] nw' → Fr base L h' m' → News base L h' nw' → Q (.ret (.bool true)) { s with heap := h', toks := tk' }) :
    wpAny (model PySem.Challenge.pw_io0022_01 w) (callerA.deeper (lawEnv L)) (execs (B29.drop 11) (lawEnv L)) Q (fun e s' => wpAny (model PySem.Challenge.pw_io0022_01 w) (callerA.deeper (lawEnv L)) (leaving (lawEnv L) e) (fun _ s'' => Ea e s'') Eb s') { s with heap := h, toks := tk } := by
  obtain ⟨q, hG, hF, hq, hp, hl, hqe⟩ := hfin
  obtain ⟨B, Z, X, T, q3, ⟨u1, q1⟩, hys, hzs, hts, hlen, ht0, ht1, C9, hlv, hL9, hA9⟩ := H
  have hlen4 : (⟨ts.toArray⟩ : PySem.Str).length = ts.length := List.size_toArray
  have hsl : (finS ts total).length = (aheadS ts total).length + 1 + (doneS ts total ts.length).length + 1 + (behindS ts).length := by
    simp only [finS, PySem.Str.length_append, show (Str.ofString "\"").length = 1 by kernel_rfl]
  have ha8 : (aheadS ts total).length ≤ 40 := ahead_len hlen
  have hd8 : (doneS ts total ts.length).length ≤ 400 := done_len hts hlen (Nat.le_refl _)
  have hn9 : ∀ p ∈ [(Al, W.listOf lv.toArray 0), (D2, LCg.lst zs), (D, LCg.lst ys), (L + 1 + 1 + 1, p3), (L + 1 + 1, p2), (L + 1, p1)], p.1 ≠ 151 := by
    intro p hp
    simp only [List.mem_cons, List.not_mem_nil, or_false] at hp
    rcases hp with rfl | rfl | rfl | rfl | rfl | rfl
    · exact hA9.2.2
    · exact hA9.1
    · exact hA9.2.1
    · exact Nat.ne_of_gt (by show 151 < L + 1 + 1 + 1; omega)
    · exact Nat.ne_of_gt (by show 151 < L + 1 + 1; omega)
    · exact Nat.ne_of_gt (by show 151 < L + 1; omega)
  have F := known3 F e3 e4 e5
  dsimp only [lawEnv, B29, C29, List.drop]
  let ek : Value → Shared → Prop := fun e s' => wpAny (model PySem.Challenge.pw_io0022_01 w) (callerA.deeper (lawEnv L)) (leaving (lawEnv L) e) (fun _ s'' => Ea e s'') Eb s'
  show wpAny _ _ _ _ ek _
  k_steps
  rename Fr base L _ _ => F8
  rename News base L _ _ => N8
  refine eq_dataH (reads_tuple_at (News.get N8 (.tail _ (.head _))) rfl rfl (.cons (.int _ _) (.cons (.str _ _) .nil))) (reads_tuple_at (News.get N8 (.head _)) rfl rfl (.cons (.int _ _) (.cons (.str _ _) .nil))) ?sa ?sb ?su ?sq
  case sa => exact shaped2 hts _
  case sb => exact shaped2 hts _
  case su => ke_room
  case sq =>
  rw [show PyData.eqv (.tuple [.int ((q : Int) + 1), .str ⟨ts.toArray⟩]) (.tuple [.int (((aheadS ts total).length : Int) + ((doneS ts total ts.length).length : Int) + 2), .str ⟨ts.toArray⟩]) = true by rw [hqe]; simp [PyData.eqv, PyData.eqvAll]]
  exact hQ _ _ (led ++ []) _ ⟨led, hled, rfl⟩ F8 (fun p hp => N8 p (by simp at hp; simp [hp]))
end
theorem Mine.law_loop {w : World} {mean : ExcName → Option Value} {mg mb : PySem.Str → Option Value} {base : Heap} {L : Nat} {ts : List Nat} {total : Int} {D2 D Al : Addr} {zs ys lv : List Value} {p1 p2 p3 : Obj} {s : Shared} {Q : Flow → Shared → Prop} {Ea Eb : Value → Shared → Prop}
    (H : Base3 w mean mg mb base L ts total D2 D Al zs ys lv p1 p2 p3) {r : Addr} {t₀ u₀ v₀ t1 t2 t3 : Tok} {m : PySem.Str → Option Value} (hr : IsRange s.heap r 0 (((⟨ts.toArray⟩ : PySem.Str).length : Nat) : Int) 1 t₀ u₀ v₀) (F : Fr base L s.heap m)
    (N : News base L s.heap [(Al, W.listOf lv.toArray 0), (D2, LCg.lst zs), (D, LCg.lst ys), (L + 1 + 1 + 1, p3), (L + 1 + 1, p2), (L + 1, p1), (151, tabObj #[])])
    (e1 : m (Str.ofString "pieces") = some (.ref D2)) (e2 : m (Str.ofString "lines") = some (.ref Al)) (e3 : m (Str.ofString "ahead") = some (.str (aheadS ts total) t1)) (e4 : m (Str.ofString "behind") = some (.str (behindS ts) t2)) (e5 : m (Str.ofString "done") = some (.str (doneS ts total 0) t3))
    (done : ∀ h' tk' m' led' t1 t2 t3, LedOk led' → Fr base L h' m' → News base L h' ((Al, W.listOf lv.toArray 0) :: (D2, LCg.lst zs) :: (D, LCg.lst ys) :: (L + 1 + 1 + 1, p3) :: (L + 1 + 1, p2) :: (L + 1, p1) :: led') → m' (Str.ofString "ahead") = some (.str (aheadS ts total) t1) → m' (Str.ofString "behind") = some (.str (behindS ts) t2) → m' (Str.ofString "done") = some (.str (doneS ts total ts.length) t3) → Q .next { s with heap := h', toks := tk' }) :
    ForGo PySem.Challenge.pw_io0022_01 w (callerA.deeper (lawEnv L)) base (lawEnv L) (Str.ofString "i") (forBody (B29.getD 10 default)) Q (fun e s' => wpAny (model PySem.Challenge.pw_io0022_01 w) (callerA.deeper (lawEnv L)) (leaving (lawEnv L) e) (fun _ s'' => Ea e s'') Eb s') (.ref r) s := by
  have hlen4 : (⟨ts.toArray⟩ : PySem.Str).length = ts.length := List.size_toArray
  have hlen := H.hlen
  refine forRange (h₀ := base) (n := ts.length) rfl hr (small_one (by omega) (by omega) (by omega) (by omega)) (by rw [rangeSize_nat, hlen4]; omega) F N (J3 L ts total D2 D Al zs ys lv p1 p2 p3) ⟨[(151, tabObj #[])], _, _, _, rfl, .inl rfl, e1, e2, e3, e4, e5⟩ ?turn ?done
  case done =>
    rintro h' tk' m' news' F N ⟨led, t1, t2, t3, rfl, hled, a1, a2, a3, a4, a5⟩
    exact done _ _ _ _ _ _ _ hled F N a3 a4 a5
  case turn =>
    intro I i t m₁ news₁ h tk own hi hJ hoff hown hno F N
    have hk := kind_ok (total := total) H.hts H.hlen hi
    have hdn : (doneS ts total i).length ≤ 480 := Nat.le_trans (done_len H.hts H.hlen (Nat.le_of_lt hi)) (by decide)
    by_cases h1 : pieceS ts total i = one 127
    · obtain ⟨hc, hok⟩ := hk.1 h1
      exact turn_a H hi hJ hoff hown hno F N hdn h1 hc hok
    · by_cases h2 : pieceS ts total i = Str.ofString "\\/"
      · obtain ⟨hc, hok⟩ := hk.2.1 h2
        exact turn_b H hi hJ hoff hown hno F N hdn h2 hc hok
      · by_cases h3 : (pieceS ts total i).length = 12
        · obtain ⟨a1, a2, a3, a4, a5, a6, a7⟩ := hk.2.2 h3
          exact turn_c H hi hJ hoff hown hno F N hdn h1 h2 h3 a1 a2 a3 a4 a5 a6 a7
        · exact turn_d H hi hJ hoff hown hno F N hdn h1 h2 h3
-- F
set_option maxHeartbeats 2000000 in
theorem Mine.law_rest {w : World} {mean : ExcName → Option Value} {mg mb : PySem.Str → Option Value} {base h : Heap} {L : Nat} {m : PySem.Str → Option Value} {p1 p2 p3 : Obj} {ts0 : List Nat} {total : Int} {u1 u2 : Tok} {tk : Nat} {s : Shared} {Q : Flow → Shared → Prop} {Ea Eb : Value → Shared → Prop}
    (B : Below callerA base [] base) (Z : FzB w base) (X : (K w.params).In base) (T : Top topProg LG mean mg mb base) (F : Fr base L h m) (N : News base L h [(L + 1 + 1 + 1, p3), (L + 1 + 1, p2), (L + 1, p1), (151, tabObj #[])])
    (q3 : p3.data = .cell none) (q2 : p2.data = .cell (some (.int total u2))) (q1 : p1.data = .cell (some (.str ⟨ts0.toArray⟩ u1))) (hts : ScalarL ts0) (hlen : ts0.length ≤ 200) (hge : 1 ≤ ts0.length) (ht0 : 0 ≤ total) (ht1 : total < 1024) (hlt : 151 < L) (C9 : CodeHd base 155 151)
    (hQ : ∀ h' tk' nw' m', LedIn [] nw' → Fr base L h' m' → News base L h' nw' → Q (.ret (.bool true)) { s with heap := h', toks := tk' }) :
    wpAny (model PySem.Challenge.pw_io0022_01 w) (callerA.deeper (lawEnv L)) (execs (B29.drop 3) (lawEnv L)) Q (fun e s' => wpAny (model PySem.Challenge.pw_io0022_01 w) (callerA.deeper (lawEnv L)) (leaving (lawEnv L) e) (fun _ s'' => Ea e s'') Eb s') { s with heap := h, toks := tk } := by
  have hlen4 : (⟨ts0.toArray⟩ : PySem.Str).length = ts0.length := List.size_toArray
  dsimp only [lawEnv, B29, C29, List.drop]
  let ek : Value → Shared → Prop := fun e s' => wpAny (model PySem.Challenge.pw_io0022_01 w) (callerA.deeper (lawEnv L)) (leaving (lawEnv L) e) (fun _ s'' => Ea e s'') Eb s'
  show wpAny _ _ _ _ ek _
  refine exec_cut (TCut base L m p2 p3 s) ?cutT ?goT
  case cutT =>
    k_steps
    refine' ⟨rfl, _, _, _, ts0.take 40, _, rfl, ?Ft, ?Nt, ?dt, scalar_take hts _, ?lt, ?lu⟩
    case Ft => assumption
    case Nt => assumption
    case dt => rw [← take40 hlen]; assumption
    case lt => rw [List.length_take]; omega
    case lu => rw [List.length_take]; omega
  case goT =>
  rintro s' ⟨h2, tk2, p1, ts, u1, rfl, F, N, q1, hts, hlen, hge⟩
  have hlen4 : (⟨ts.toArray⟩ : PySem.Str).length = ts.length := List.size_toArray
  refine exec_cut (WCut base L m ts total (L + 1) p1 (L + 1 + 1) p2 s) ?cutW ?goW
  case cutW =>
    k_steps
    rename IntsAre _ _ => hIa
    rename (_ ∧ _ ∧ _ ∧ _) => o1a
    rw [len_sub] at hIa
    exact ⟨rfl, _, _, _, _, _, rfl, (by assumption), (by assumption), (by assumption), hIa, Ne.symm o1a.1, Ne.symm o1a.2.1, Ne.symm o1a.2.2.1, Ne.symm o1a.2.2.2⟩
  case goW =>
  rintro s' ⟨h3, tk3, p3, D, ys, rfl, F, N, q3, hys, n3, n2, n1, n0⟩
  have hint9 : CompHint (pieceS ts total) := True.intro
  refine exec_cut (PCut base L m ts total D ys p1 p2 p3 s) ?cutP ?goP
  case cutP =>
    k_steps
    · exact kct_el rfl rfl rfl
    · rename CarriedAll _ _ => hca
      rename (_ ∧ _ ∧ _ ∧ _ ∧ _) => o1b
      rw [len_sub] at hca
      exact ⟨rfl, _, _, _, _, _, rfl, (by assumption), (by assumption), rfl, hca, Ne.symm o1b.1, Ne.symm o1b.2.1, Ne.symm o1b.2.2.1, Ne.symm o1b.2.2.2.1, Ne.symm o1b.2.2.2.2⟩
  case goP =>
  clear hint9
  rintro s' ⟨h5, tk5, m5, D2, zs, rfl, F, N, ep, hzs, z4, z3, z2, z1, z0⟩
  have F := F.known0 ep
  k_steps
  rename List (PySem.Str × Tok) => l9
  rename List.map _ l9 = Txt.split _ _ => hsp
  rename StrsAre _ _ => hst
  rename IsRange _ _ _ _ _ _ _ _ => hr
  rename Fr base L _ _ => F9
  rename News base L _ _ => N9
  rw [hsp] at hst
  have H9 := @Base3.mk w mean mg mb base L ts total D2 D _ zs ys (strValues l9) p1 p2 p3 B Z X T q3 ⟨_, q1⟩ hys hzs hts hlen ht0 ht1 C9 hst hlt ⟨z0, n0, list_ne151 N9 (.head _) rfl (by simp)⟩
  refine' law_loop H9 hr F9 N9 rfl rfl rfl rfl rfl ?done9
  case done9 =>
    intro h' tk' m' led' t1 t2 t3 hled F N a3 a4 a5
    exact law_end H9 hled F N a3 a4 a5 (fin_ok hts hlen hge) hQ
-- E
set_option maxHeartbeats 2000000 in
theorem Mine.law_walk {w : World} {mean : ExcName → Option Value} {mg mb : PySem.Str → Option Value} {base h : Heap} {L : Nat} {m : PySem.Str → Option Value} {l : Addr} {vs : List Value} {ns : List Int} {o1 o2 o3 : Obj} {tk : Nat} {s : Shared} {Q : Flow → Shared → Prop} {Ea Eb : Value → Shared → Prop}
    (B : Below callerA base [] base) (Z : FzB w base) (X : (K w.params).In base) (T : Top topProg LG mean mg mb base) (hl : base.IsList l vs.toArray) (hI : IntsAre vs ns) (hn : ns.length ≤ 63)
    (F : Fr base L h m) (N : News base L h [(L + 1 + 1 + 1, o3), (L + 1 + 1, o2), (L + 1, o1), (151, tabObj #[])]) (d1 : o1.data = .cell none) (d2 : o2.data = .cell none) (d3 : o3.data = .cell none) (hlt : 151 < L) (C9 : CodeHd base 155 151) (e1 : m (Str.ofString "script") = some (.ref l))
    (hQ : ∀ h' tk' nw' m', LedIn [] nw' → Fr base L h' m' → News base L h' nw' → Q (.ret (.bool true)) { s with heap := h', toks := tk' }) :
    wpAny (model PySem.Challenge.pw_io0022_01 w) (callerA.deeper (lawEnv L)) (execs B29 (lawEnv L)) Q (fun e s' => wpAny (model PySem.Challenge.pw_io0022_01 w) (callerA.deeper (lawEnv L)) (leaving (lawEnv L) e) (fun _ s'' => Ea e s'') Eb s') { s with heap := h, toks := tk } := by
  have F := F.known0 e1
  dsimp only [lawEnv, B29, C29]
  let ek : Value → Shared → Prop := fun e s' => wpAny (model PySem.Challenge.pw_io0022_01 w) (callerA.deeper (lawEnv L)) (leaving (lawEnv L) e) (fun _ s'' => Ea e s'') Eb s'
  show wpAny _ _ _ _ ek _
  k_steps
  rename (News _ _ _ (_ :: _ :: _ :: _)) => N1
  obtain ⟨hls1, hlL1⟩ := news_list N1 (.head _)
  rename (_ ∧ _ ∧ _ ∧ _ ∧ _ ∧ _) => l1x
  obtain ⟨_, _, a3, a2, a1, a0⟩ := l1x
  refine' forList (h₀ := base) rfl hls1 hlL1 ?F1 (news_tl3 N1) (J1 L) ?h01 ?turn1 ?done1
  case F1 => assumption
  case h01 => exact ⟨_, _, _, [], 0, _, _, rfl, d3, (by assumption), (by assumption), (fun c hc => nomatch hc), Nat.zero_le _, Int.le_refl _, by decide, fun q => by omega⟩
  case turn1 =>
    rename (IntsAre _ (ns ++ _)) => hI1
    intro I i v m1 news1 hh tk1 own hi hv hJ hoff hown F N
    obtain ⟨x, tx, rfl, hx⟩ := ints_at hI1 hv
    obtain ⟨p1, p2, p3, ts, total, u1, u2, rfl, q3, q2, q1, hts, hlen, ht0, ht1, hge0⟩ := hJ
    dsimp only [List.cons_append, List.nil_append] at N
    have hi64 := turns64 hI1 hn hi
    have hI3 := hoff _ (.head _)
    have hI2 := hoff _ (.tail _ (.head _))
    have hI1' := hoff _ (.tail _ (.tail _ (.head _)))
    have hI0 := hoff _ (.tail _ (.tail _ (.tail _ (.head _))))
    dsimp only at hI3 hI2 hI1' hI0
    have w3 := own_ne hown hI3 (Nat.ne_of_lt a3)
    have w2 := own_ne hown hI2 (Nat.ne_of_lt a2)
    have w1 := own_ne hown hI1' (Nat.ne_of_lt a1)
    clear hoff
    refine exec_cut (YCut base L ((L + 1 + 1 + 1, p3) :: (L + 1 + 1, p2) :: (L + 1, p1) :: (151, tabObj #[]) :: own) s) ?cut1 ?go1
    case cut1 =>
      k_steps
      all_goals exact ⟨rfl, _, _, _, _, _, rfl, (by assumption), (by assumption), rfl, (by omega)⟩
    case go1 =>
    rintro s' ⟨h2, tk2, m2, y, ty, rfl, F2, N2, ey, hy⟩
    have F2 := F2.known0 ey
    clear F N
    k_steps
    have hb1 : ts.length + 1 ≤ 40 + (i + 1) := by omega
    refine' loop_ind (n := y.toNat) (I := WI base L ?po2 ?po3 own (40 + (i + 1)) ?ps) (G := fun s => RestW _ _ _ _ _ _ _ _ _ s) ?init2 ?step2
    case init2 =>
      refine' ⟨_, _, _, y, ts ++ [signC (y.fmod 1112090).toNat], _, _, _, rfl, rfl, hy, ?Fi, ?Ni, ?ei, ?di, scalar_add hts ?ki, ?li, ?lj⟩
      case Fi => assumption
      case Ni => assumption
      case ei => rfl
      case di => rw [← arr_one]; assumption
      case ki => rw [Int.fmod_eq_emod_of_nonneg _ (by decide)]; omega
      case li => rw [List.length_append]; exact hb1
      case lj => rw [List.length_append, List.length_singleton]; omega
    case step2 =>
    intro n s' ih hW
    obtain ⟨h3, tk3, m3, y3, ts3, po1, ty3, tt3, rfl, hn3, hy3, F3, N3, ey3, d13, hts3, hl3, hm3⟩ := hW
    have F3 := F3.known0 ey3
    have hlen3 : (⟨ts3.toArray⟩ : PySem.Str).length = ts3.length := List.size_toArray
    have hmb := mod_bd (5 * total + y + 1)
    refine restW_turn ?hE2 ?_
    case hE2 => first | passes_own | with_unfolding_all passes_own
    k_steps
    all_goals first | exact ⟨_, _, _, [(L + 1 + 1 + 1, p3), (L + 1 + 1, _), (L + 1, po1), (151, tabObj #[])], rfl, (by assumption), (by assumption), four_ne hI3 hI2 hI1' hI0, _, _, _, ts3, _, _, _, rfl, q3, (by assumption), d13, hts3, hl3, hmb.1, hmb.2, fun _ => hm3⟩ | skip
    refine' ih (y3.fdiv 1112090).toNat ?ltw _ ?_
    case ltw => rw [Int.fdiv_eq_ediv_of_nonneg _ (by decide)]; omega
    unfold WI
    refine' ⟨_, _, _, y3.fdiv 1112090, ts3 ++ [signC ((y3.fdiv 1112090).fmod 1112090).toNat], _, _, _, rfl, rfl, ?y0w, ?Fw, ?Nw, ?ew, ?dw, scalar_add hts3 ?kw, ?lw, ?lz⟩
    case Fw => assumption
    case Nw => assumption
    case ew => rfl
    case dw => rw [← arr_one]; assumption
    case y0w => rw [Int.fdiv_eq_ediv_of_nonneg _ (by decide)]; omega
    case kw => rw [Int.fmod_eq_emod_of_nonneg _ (by decide)]; omega
    case lw => rw [List.length_append, List.length_cons, List.length_nil]; omega
    case lz => rw [List.length_append, List.length_singleton]; omega
  case done1 =>
    intro h4 tk4 m4 news4 F N hJ
    obtain ⟨p1, p2, p3, ts0, total, u1, u2, rfl, q3, q2, q1, hts, hlen, ht0, ht1, hge0⟩ := hJ
    rename (IntsAre _ (ns ++ _)) => hI1
    have hlen' : ts0.length ≤ 200 := by
      have := hlen
      have h8 := hI1.length
      rw [List.length_append, List.length_cons, List.length_nil] at h8
      rw [List.size_toArray] at this
      omega
    have hge : 1 ≤ ts0.length := hge0 (by
      have h8 := hI1.length
      rw [List.length_append, List.length_cons, List.length_nil] at h8
      rw [List.size_toArray]
      omega)
    exact law_rest B Z X T F N q3 q2 q1 hts hlen' hge ht0 ht1 hlt C9 hQ
end
-- the head
open PySem PySem.W PySem.Spec PySem.Calls PyProof.Rows
open Mine
theorem Mine.law_code {P : Params} {h : Heap} {o : Obj} {fd : _} (X : (Mine.K P).In h) (ho : h.get? 196 = some o) (hd : o.data = Data.func fd) : fd.code = .ref 195 := by
  have ht : (match (Mine.K P).lookup 196 with
    | some ⟨_, _, .func fd, _⟩ => (match fd.code with
      | .ref c => c == 195
      | _ => false)
    | _ => false) = true := by kernel_rfl
  split at ht
  · rename_i hfo
    have e2 := X _ _ hfo
    rw [ho] at e2
    cases e2
    cases hd
    split at ht
    · rename_i c hc
      rw [hc, beq_iff_eq.mp ht]
    · cases ht
  · cases ht
theorem Mine.grown_of {base h : Heap} {L : Addr} {nw : List (Addr × Obj)} (hl : LedIn [] nw) (N : News base L h nw) : GrownAll [(155, 151)] h := by
  obtain ⟨led, hled, rfl⟩ := hl
  rcases hled with rfl | ⟨c', oc, vs, t, rfl, _, _⟩
  · exact ⟨⟨_, (N _ (.head _)).1⟩, True.intro⟩
  · exact ⟨⟨_, (N _ (.head _)).1⟩, True.intro⟩
theorem Mine.fz_ghost {w : World} {h : Heap} {tabs : List (Addr × Addr)} {a : Addr} {S : List Nat} (Z : FzAt w h a S) (ha : a ∉ tabs.map (·.2)) : FzAt w (ghostOf h tabs) a S := by
  obtain ⟨es, ep, t, z1, z2, z3⟩ := Z
  exact ⟨es, ep, t, ghost_ne z1 ha, z2, z3⟩
set_option maxHeartbeats 8000000 in
theorem PySem.Challenge.cw_io0022_01_holds : PySem.Challenge.rw_io0022_01.Holds := by
  w_on
  refine holds_law (by kernel_rfl) fun said => ?_
  refine holds_openK (q := V) (loose := looseN) (Xt := XT) (XP := XL V []) (Yf := fun s => s.heap) (Ya := finHeap) (YP := YP) (N := 40000) left yp_of yp_keeps (fun s e => xl_of s (Bool.and_eq_true_iff.mp e).1) XL.keeps (by rfl) (by rfl) (by rfl) (fun s e => recFacts_of (Bool.and_eq_true_iff.mp e).2) (by rfl) (by assumption) (by decide +kernel) ⟨rfl, rfl, rfl, rfl, rfl, by decide +kernel⟩ ?hw ?hc
  case hw => w_witness2
  case hc =>
    intro w s₀ s₁ mg mb G Y a o pm cd doc dV kV ho hd hcd hD hmg hg args vals as hpre hlay hrd hwl hlo
    obtain ⟨X, Ytab, Z72, Z87⟩ := Y
    have XV := Ground.X G
    refine Ground.open G ?_
    intro T B D TE TW
    have hT9 : TabsAt ([(155, 151)] : List (Addr × Addr)) _ := List.forall_mem_cons.mpr ⟨tab_of (x := PySem.Str.ofString "suffixed_err") (c := 155) (P := 151) T X rfl (by kernel_rfl), (fun _ h => nomatch h)⟩
    have e9 : mg (PySem.Str.ofString "law") = some (.ref 196) := mg_of X T.g (by kernel_rfl)
    have e8 : some (Value.ref a) = some (Value.ref 196) := hmg.symm.trans e9
    cases e8
    have e7 : cd = .ref 195 := law_code X ho hd
    subst e7
    clear hmg
    wrow_args hpre hlay hrd hwl hlo
    refine enterK ?_
    w_top on
    refine postK hT9 (fun _ _ => rfl) ?_
    w_call any ho hd hcd hD T F
    clear hd
    have V9 := 1
    kn_ghosts F T
    k_drop
    have Zg72 := fz_ghost (tabs := [(155, 151)]) Z72 (by decide)
    have Zg87 := fz_ghost (tabs := [(155, 151)]) Z87 (by decide)
    rename (Mine.K w.params).In (ghostOf _ _) => X9
    rename Top topProg _ _ _ _ (ghostOf _ _) => T9
    rename Below callerA _ _ _ => B9
    rename Fr (ghostOf _ _) _ _ _ => F9
    rename News (ghostOf _ _) _ _ _ => N9
    rename Heap.IsList (ghostOf _ _) _ _ => l9
    rename IntsAre _ _ => i9
    rename CodeHd (ghostOf _ _) _ _ => c9
    rename 151 < _ => lt9
    rename ¬ _ < _ => hn9
    refine' law_walk B9 ⟨Zg72, Zg87, X9, _, _, _, T9⟩ X9 T9 l9 i9 ?n9 F9 N9 ?d1 ?d2 ?d3 lt9 c9 ?e1 ?hQ
    case n9 => omega
    case d1 => refine Eq.trans (by assumption) ?_; rfl
    case d2 => refine Eq.trans (by assumption) ?_; rfl
    case d3 => refine Eq.trans (by assumption) ?_; rfl
    case e1 => rfl
    case hQ =>
      intro h' tk' nw' m' hl F N
      refine ⟨?_, grown_of hl N⟩
      refine goodW_bool F (by assumption) (raisesW_false ?_) ?_
      · wrow_none_raised
      · wrow_post
