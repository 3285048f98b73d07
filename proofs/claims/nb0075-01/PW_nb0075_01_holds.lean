import PyProof.Rows.All
import Wide.All
import OpenK.AllK
import Wide.FinOn
import PySem.Challenge.RW_nb0075_01
open PySem PySem.W PySem.Spec PySem.Calls PyProof.Rows
set_option Elab.async false
set_option maxRecDepth 100000
set_option maxHeartbeats 8000000
namespace Mine
/-! texts as lists of codes -/
def txt (l : List Nat) : Str := ⟨l.toArray⟩
theorem txt_len (l : List Nat) : (txt l).length = l.length := by simp [txt, Str.length]
theorem txt_cps (l : List Nat) : (txt l).cps.toList = l := by simp [txt]
theorem txt_app (a b : List Nat) : txt a ++ txt b = txt (a ++ b) := by
  show Str.append _ _ = _
  simp [txt, Str.append]
theorem txt_inj {a b : List Nat} (h : txt a = txt b) : a = b := by
  have := congrArg (fun s : Str => s.cps.toList) h
  simpa [txt] using this
theorem of_txt (x : Str) : x = txt x.cps.toList := by simp [txt]
theorem txt_eq {x : Str} {l : List Nat} (h : x.cps.toList = l) : x = txt l := by rw [← h]; exact of_txt x
theorem txt_to {l : List Nat} {k : Int} (h0 : 0 ≤ k) (h1 : k ≤ l.length) : Txt.slice (txt l) none (some k) = txt (l.take k.toNat) := by
  have := beq_iff_eq.mp (slice_closes_to (x := txt l) (j := k) ⟨h0, by rw [txt_cps]; exact h1⟩)
  rw [this, txt_cps]; simp [txt]
theorem txt_mid {l : List Nat} {i k : Int} (h0 : 0 ≤ i) (h2 : i ≤ k) (h1 : k ≤ l.length) : Txt.slice (txt l) (some i) (some k) = txt ((l.drop i.toNat).take (k - i).toNat) := by
  have := beq_iff_eq.mp (slice_closes (x := txt l) (i := i) (j := k) ⟨h0, h2, by rw [txt_cps]; exact h1⟩)
  rw [this, txt_cps]; simp [txt]
theorem txt_from {l : List Nat} {i : Int} (h0 : 0 ≤ i) (h1 : i ≤ l.length) : Txt.slice (txt l) (some i) none = txt (l.drop i.toNat) := by
  have := slice_from_eq (x := txt l) (i := i) (b := l.length) h0 (by rw [txt_len]; exact h1) (by rw [txt_len])
  rw [this, txt_cps]
  congr 2
  rw [List.take_of_length_le]
  rw [List.length_drop]; omega
theorem txt_from_any {l : List Nat} {i : Int} (h0 : 0 ≤ i) : Txt.slice (txt l) (some i) none = txt (l.drop i.toNat) := by
  by_cases h1 : i ≤ l.length
  · exact txt_from h0 h1
  · rw [slice_beyond (by rw [txt_len]; omega), List.drop_of_length_le (by omega)]; rfl
theorem txt_item {l : List Nat} {i : Int} (h0 : 0 ≤ i) (h1 : i.toNat < l.length) : Txt.item (txt l) i = txt [l[i.toNat]] := by
  unfold Txt.item Txt.charAt seqIndex?
  have h3 : ¬ i < 0 := by omega
  have h4 : (decide (0 ≤ i) && decide (i < ((txt l).length : Int))) = true := by rw [txt_len]; simp; omega
  simp only [h3, if_false, h4, if_true, Option.bind_some]
  simp [txt, h1]
theorem lit_quote : Str.ofString "\"" = txt [34] := by decide +kernel
theorem lit_quote2 : Str.ofString "\"\"" = txt [34, 34] := by decide +kernel
theorem lit_257 : Str.ofString "257" = txt [50, 53, 55] := by decide +kernel
theorem lit_257s : Str.ofString "257 " = txt [50, 53, 55, 32] := by decide +kernel
theorem lit_sq : Str.ofString " \"" = txt [32, 34] := by decide +kernel
theorem lit_eq : Str.ofString "=" = txt [61] := by decide +kernel
theorem lit_open : Str.ofString "(" = txt [40] := by decide +kernel
theorem lit_comma : Str.ofString "," = txt [44] := by decide +kernel
theorem lit_empty : Str.ofString "" = txt [] := by decide +kernel
/-- a sign c doubled -/
def dbl (l : List Nat) : List Nat := l.flatMap fun c => if c = 34 then [34, 34] else [c]
theorem dbl_nil : dbl [] = [] := rfl
theorem dbl_cons (c : Nat) (l : List Nat) : dbl (c :: l) = (if c = 34 then [34, 34] else [c]) ++ dbl l := rfl
theorem dbl_app (a b : List Nat) : dbl (a ++ b) = dbl a ++ dbl b := by simp [dbl]
theorem dbl_len (l : List Nat) : (dbl l).length = l.length + l.count 34 := by
  induction l with
  | nil => rfl
  | cons c l ih =>
    rw [dbl_cons, List.length_append, ih, List.count_cons]
    by_cases h : c = 34
    · simp [h]; omega
    · simp [h]; omega
theorem dbl_free {l : List Nat} (h : 34 ∉ l) : dbl l = l := by
  induction l with
  | nil => rfl
  | cons c l ih =>
    rw [dbl_cons, ih (fun q => h (.tail _ q)), if_neg (fun e : c = 34 => h (by rw [e]; exact .head _))]; rfl
def glue (sep : List Nat) : List (List Nat) → List Nat
  | [] => []
  | [x] => x
  | x :: y :: r => x ++ sep ++ glue sep (y :: r)
theorem join_glue (sep : List Nat) : ∀ ps : List Str, Str.join (txt sep) ps = txt (glue sep (ps.map fun p => p.cps.toList))
  | [] => rfl
  | [x] => of_txt x
  | x :: y :: r => by
    show x ++ txt sep ++ Str.join (txt sep) (y :: r) = _
    rw [join_glue sep (y :: r)]
    conv => lhs; rw [of_txt x]
    rw [txt_app, txt_app]
    rfl
theorem dbl_glue : ∀ ps : List (List Nat), (∀ p ∈ ps, 34 ∉ p) → dbl (glue [34] ps) = glue [34, 34] ps
  | [], _ => rfl
  | [x], h => dbl_free (h x (.head _))
  | x :: y :: r, h => by
    show dbl (x ++ [34] ++ glue [34] (y :: r)) = x ++ [34, 34] ++ glue [34, 34] (y :: r)
    rw [dbl_app, dbl_app, dbl_glue (y :: r) (fun p hp => h p (.tail _ hp)), dbl_free (h x (.head _))]
    rfl
theorem count_glue : ∀ ps : List (List Nat), (∀ p ∈ ps, 34 ∉ p) → (glue [34] ps).count 34 = ps.length - 1
  | [], _ => rfl
  | [x], h => List.count_eq_zero.mpr (h x (.head _))
  | x :: y :: r, h => by
    show (x ++ [34] ++ glue [34] (y :: r)).count 34 = _
    rw [List.count_append, List.count_append, count_glue (y :: r) (fun p hp => h p (.tail _ hp)), List.count_eq_zero.mpr (h x (.head _))]
    simp
    omega
theorem txt_replace (l : List Nat) : Txt.replace (txt l) (txt [34]) (txt [34, 34]) = txt (dbl l) := by
  have h1 := StrLaws.replace_one (txt l) (txt [34, 34]) 34
  have h2 := StrLaws.join_split (txt l) ⟨#[34]⟩
  have h3 := StrLaws.split_free (txt l) 34
  have e : (⟨#[34]⟩ : Str) = txt [34] := rfl
  rw [e] at h1 h2 h3
  rw [h1, join_glue]
  rw [join_glue] at h2
  have h4 := txt_inj h2
  generalize Txt.split (txt l) (txt [34]) = ps at h3 h4
  rw [← h4, dbl_glue]
  intro p hp
  obtain ⟨q, hq, rfl⟩ := List.mem_map.mp hp
  exact h3 q hq
theorem chain_count (l : List Nat) : ∀ (cuts : List Nat) (a f : Nat), StrLaws.ChainG (txt l) ⟨#[34]⟩ (txt l).length a cuts f → (∀ k, f ≤ k → ¬ StrLaws.At (txt l) ⟨#[34]⟩ (txt l).length k) → cuts.length = (l.drop a).count 34 := by
  have at' : ∀ k, StrLaws.At (txt l) ⟨#[34]⟩ (txt l).length k ↔ l[k]? = some 34 := fun k => by
    have := StrLaws.subAt_one (txt l) 34 k
    rw [txt_cps] at this
    exact this
  have free : ∀ (n a : Nat), (∀ k, a ≤ k → k < a + n → ¬ l[k]? = some 34) → (l.drop a).count 34 = (l.drop (a + n)).count 34 := by
    intro n
    induction n with
    | zero => intro a _; rfl
    | succ n ih =>
      intro a h
      have e1 := ih (a + 1) (fun k h1 h2 => h k (by omega) (by omega))
      rw [show a + (n + 1) = a + 1 + n from by omega, ← e1]
      by_cases ha : a < l.length
      · rw [List.drop_eq_getElem_cons ha, List.count_cons]
        have hne : l[a] ≠ 34 := fun q => h a (by omega) (by omega) (by rw [List.getElem?_eq_getElem ha, q])
        simp [hne]
      · rw [List.drop_of_length_le (by omega), List.drop_of_length_le (by omega)]
  intro cuts
  induction cuts with
  | nil =>
    intro a f h hn
    have e : f = a := h
    subst e
    have := free l.length f (fun k h1 _ => fun q => hn k h1 ((at' k).mpr q))
    rw [this, List.drop_of_length_le (by omega)]; rfl
  | cons c r ih =>
    intro a f h hn
    obtain ⟨h1, h2, h3, h4⟩ := h
    have hc := (at' c).mp h2
    have hlt : c < l.length := (List.getElem?_eq_some_iff.mp hc).1
    have e1 := free (c - a) a (fun k k1 k2 => fun q => h3 k k1 (by omega) ((at' k).mpr q))
    rw [e1, show a + (c - a) = c from by omega, List.drop_eq_getElem_cons hlt, List.count_cons]
    have e2 := ih (c + 1) f h4 hn
    have e3 : l[c] = 34 := by rw [List.getElem?_eq_getElem hlt] at hc; exact Option.some.inj hc
    rw [List.length_cons, e2, e3]
    simp
theorem txt_count (l : List Nat) : Txt.count (txt l) (txt [34]) = (l.count 34 : Nat) := by
  obtain ⟨f, h1, h2⟩ := StrLaws.occ_tight (txt l) ⟨#[34]⟩ (Nat.le_refl 1)
  have h3 := chain_count l _ 0 f h1 h2
  unfold Txt.count
  show ((Builtin.Str.occurrences (txt l) ⟨#[34]⟩ 0 (txt l).length ((txt l).length + 1)).length : Int) = _
  rw [h3, List.drop_zero]
/-- what stands between the quotes, from behind the first one on -/
def unq : List Nat → List Nat
  | [] => []
  | c :: r => if c = 34 then (match r with | [] => [] | d :: r' => if d = 34 then 34 :: unq r' else []) else c :: unq r
theorem unq_nil : unq [] = [] := by unfold unq; rfl
theorem unq_plain {c : Nat} {r : List Nat} (h : c ≠ 34) : unq (c :: r) = c :: unq r := by rw [unq.eq_def]; simp [h]
theorem unq_last : unq [34] = [] := by rw [unq.eq_def]; simp
theorem unq_two (r : List Nat) : unq (34 :: 34 :: r) = 34 :: unq r := by rw [unq.eq_def]; simp
theorem unq_stop {d : Nat} {r : List Nat} (h : d ≠ 34) : unq (34 :: d :: r) = [] := by rw [unq.eq_def]; simp [h]
theorem unq_dbl (l : List Nat) (r : List Nat) (hr : r.head? ≠ some 34) : unq (dbl l ++ 34 :: r) = l := by
  induction l with
  | nil =>
    show unq (34 :: r) = []
    cases r with
    | nil => exact unq_last
    | cons d r => exact unq_stop (fun e => hr (by rw [e]; rfl))
  | cons c l ih =>
    rw [dbl_cons]
    by_cases h : c = 34
    · subst h
      rw [if_pos rfl]
      show unq (34 :: 34 :: (dbl l ++ 34 :: r)) = _
      rw [unq_two, ih]
    · rw [if_neg h]
      show unq (c :: (dbl l ++ 34 :: r)) = _
      rw [unq_plain h, ih]
/-! the worth of digits, the lowest first -/
def val (n : Nat) : List Nat → Nat
  | [] => 0
  | d :: r => d + 2 ^ n * val n r
theorem val_app (n : Nat) (a b : List Nat) : val n (a ++ b) = val n a + 2 ^ (n * a.length) * val n b := by
  induction a with
  | nil => simp [val]
  | cons d a ih =>
    show d + 2 ^ n * val n (a ++ b) = d + 2 ^ n * val n a + 2 ^ (n * (a.length + 1)) * val n b
    rw [ih, Nat.mul_add, Nat.mul_succ, Nat.pow_add, Nat.mul_comm (2 ^ (n * a.length)) (2 ^ n), Nat.mul_assoc]
    omega
theorem val_lt (n : Nat) (l : List Nat) (h : ∀ d ∈ l, d < 2 ^ n) : val n l < 2 ^ (n * l.length) := by
  induction l with
  | nil => simp [val]
  | cons d l ih =>
    have h1 := h d (.head _)
    have h2 := ih fun e he => h e (.tail _ he)
    show d + 2 ^ n * val n l < 2 ^ (n * (l.length + 1))
    rw [Nat.mul_succ, Nat.pow_add, Nat.mul_comm (2 ^ (n * l.length)) (2 ^ n)]
    have h3 : 2 ^ n * (val n l + 1) ≤ 2 ^ n * 2 ^ (n * l.length) := Nat.mul_le_mul_left _ h2
    rw [Nat.mul_add, Nat.mul_one] at h3
    omega
theorem val_split (n : Nat) (l : List Nat) (a m b : Nat) (h1 : a ≤ m) (h2 : m ≤ b) : val n ((l.drop a).take (b - a)) = 2 ^ ((min m l.length - a) * n) * val n ((l.drop m).take (b - m)) + val n ((l.drop a).take (m - a)) := by
  have e : (l.drop a).take (b - a) = (l.drop a).take (m - a) ++ (l.drop m).take (b - m) := by
    have e1 : b - a = (m - a) + (b - m) := by omega
    rw [e1, List.take_add, List.drop_drop, show a + (m - a) = m from by omega]
  rw [e, val_app, Nat.add_comm, Nat.mul_comm n]
  have : ((l.drop a).take (m - a)).length = min m l.length - a := by
    rw [List.length_take, List.length_drop]; omega
  rw [this]
theorem bits_le {a b : Nat} (h : a < 2 ^ b) : Builtin.Int.intBits (a : Int) ≤ b := by
  unfold Builtin.Int.intBits
  split
  · exact Nat.zero_le _
  · rename_i hz
    have h0 : a ≠ 0 := fun e => hz (by rw [e]; rfl)
    show (a : Int).natAbs.log2 + 1 ≤ b
    rw [Int.natAbs_natCast]
    exact (Nat.log2_lt h0).mpr h
theorem seg_lt {n : Nat} {l : List Nat} (h : ∀ d ∈ l, d < 2 ^ n) (a k : Nat) : val n ((l.drop a).take k) < 2 ^ (n * k) := by
  have h1 := val_lt n ((l.drop a).take k) fun d hd => h d (List.mem_of_mem_drop (List.mem_of_mem_take hd))
  exact Nat.lt_of_lt_of_le h1 (Nat.pow_le_pow_right (by decide) (Nat.mul_le_mul_left _ (by rw [List.length_take]; exact Nat.min_le_left _ _)))
theorem seg_one {n : Nat} {l : List Nat} {a : Nat} (h : a < l.length) : val n ((l.drop a).take 1) = l.getD a 0 := by
  rw [List.drop_eq_getElem_cons h, List.take_succ_cons, List.take_zero]
  simp [val, List.getD_eq_getElem?_getD, h]
theorem and_high (x k : Nat) : x &&& (x / 2 ^ k * 2 ^ k) = x / 2 ^ k * 2 ^ k := by
  apply Nat.eq_of_testBit_eq
  intro i
  rw [Nat.testBit_and, Nat.testBit_mul_two_pow]
  by_cases h : k ≤ i
  · rw [Nat.testBit_div_two_pow, show i - k + k = i from by omega]; simp
  · simp [h]
theorem xor_low (x k : Nat) : Builtin.bitXor (x : Int) ((x / 2 ^ k * 2 ^ k : Nat) : Int) = ((x % 2 ^ k : Nat) : Int) := by
  rw [bitXor_and]
  have e : Builtin.bitAnd (x : Int) ((x / 2 ^ k * 2 ^ k : Nat) : Int) = ((x / 2 ^ k * 2 ^ k : Nat) : Int) := by
    unfold Builtin.bitAnd
    rw [decide_eq_true (Int.natCast_nonneg x), decide_eq_true (Int.natCast_nonneg _)]
    show ((((x : Int).toNat &&& ((x / 2 ^ k * 2 ^ k : Nat) : Int).toNat : Nat)) : Int) = _
    rw [Int.toNat_natCast, Int.toNat_natCast, and_high]
  rw [e]
  have := Nat.div_add_mod x (2 ^ k)
  rw [Nat.mul_comm] at this
  omega
theorem val_mod (n : Nat) (a b : List Nat) (h : ∀ d ∈ a, d < 2 ^ n) : val n (a ++ b) % 2 ^ (n * a.length) = val n a := by
  rw [val_app, Nat.add_mul_mod_self_left, Nat.mod_eq_of_lt (val_lt n a h)]
theorem val_div (n : Nat) (a b : List Nat) (h : ∀ d ∈ a, d < 2 ^ n) : val n (a ++ b) / 2 ^ (n * a.length) = val n b := by
  rw [val_app, Nat.add_mul_div_left _ _ (Nat.two_pow_pos _), Nat.div_eq_of_lt (val_lt n a h), Nat.zero_add]
theorem val_pos_last (n : Nat) : ∀ (l : List Nat), l ≠ [] → l.getLast? ≠ some 0 → 2 ^ (n * (l.length - 1)) ≤ val n l
  | [], h, _ => absurd rfl h
  | [d], _, h => by
    have : d ≠ 0 := fun e => h (by rw [e]; rfl)
    show 2 ^ (n * 0) ≤ d + 2 ^ n * 0
    rw [Nat.mul_zero, Nat.pow_zero, Nat.mul_zero]
    omega
  | d :: e :: r, _, h => by
    have ih := val_pos_last n (e :: r) (by simp) (by rw [List.getLast?_cons_cons] at h; exact h)
    show 2 ^ (n * (r.length + 1)) ≤ d + 2 ^ n * val n (e :: r)
    have e1 : (e :: r).length - 1 = r.length := by simp
    rw [e1] at ih
    rw [Nat.mul_succ, Nat.pow_add, Nat.mul_comm (2 ^ (n * r.length))]
    exact Nat.le_trans (Nat.mul_le_mul_left _ ih) (Nat.le_add_left _ _)
theorem bits_ge {a b : Nat} (h : 2 ^ b ≤ a) : b + 1 ≤ Builtin.Int.intBits (a : Int) := by
  have h0 : a ≠ 0 := by have := Nat.two_pow_pos b; omega
  unfold Builtin.Int.intBits
  split
  · rename_i hz
    exact absurd (by simpa using hz) h0
  · show b + 1 ≤ (a : Int).natAbs.log2 + 1
    rw [Int.natAbs_natCast]
    exact Nat.succ_le_succ ((Nat.le_log2 h0).mpr h)
theorem count_bits (n : Nat) (l : List Nat) (hn : 1 ≤ n) (hne : l ≠ []) (hl : l.getLast? ≠ some 0) (h : ∀ d ∈ l, d < 2 ^ n) : ((Builtin.Int.intBits (val n l : Nat) : Int) + n - 1).fdiv n = l.length := by
  have h1 := bits_le (val_lt n l h)
  have h2 := bits_ge (val_pos_last n l hne hl)
  generalize Builtin.Int.intBits (val n l : Nat) = B at h1 h2
  have h3 : 0 < l.length := List.length_pos_iff.mpr hne
  rw [Int.fdiv_eq_ediv_of_nonneg _ (by omega)]
  have e1 : n * l.length = n * (l.length - 1) + n := by
    rw [← Nat.mul_succ]; congr 1; omega
  have e2 : ((B : Int) + n - 1) = ((B + n - 1 : Nat) : Int) := by omega
  rw [e2, ← Int.natCast_ediv]
  congr 1
  apply Nat.div_eq_of_lt_le
  · rw [Nat.mul_comm]; omega
  · rw [Nat.succ_mul, Nat.mul_comm]; omega
theorem fold_one (x : Value) (k : Nat) : List.foldl (fun x1 x2 => x1 ++ x2) #[] (List.replicate k #[x]) = (List.replicate k x).toArray := by
  have : ∀ (k : Nat) (acc : List Value), List.foldl (fun x1 x2 => x1 ++ x2) acc.toArray (List.replicate k #[x]) = (acc ++ List.replicate k x).toArray := by
    intro k
    induction k with
    | zero => intro acc; simp
    | succ k ih =>
      intro acc
      rw [List.replicate_succ, List.foldl_cons]
      have e : acc.toArray ++ #[x] = (acc ++ [x]).toArray := by simp
      rw [e, ih, List.replicate_succ]; simp
  simpa using this k []
theorem ints_rep (x : Nat) (t : Tok) (k : Nat) : IntsAre (List.replicate k (.int x t)) ((List.replicate k x).map Int.ofNat) := by
  induction k with
  | zero => exact .nil
  | succ k ih => exact .cons _ _ ih
theorem set_seg {ds xs : List Nat} {lo hi : Int} {n V : Nat} (h0 : 0 ≤ lo) (h1 : lo + 1 = hi ∧ hi ≤ ds.length) (h2 : hi - lo = xs.length) (hV : val n xs = V) :
    (ds.map Int.ofNat).set lo.toNat V = (ds.take lo.toNat ++ xs ++ ds.drop hi.toNat).map Int.ofNat := by
  match xs, h2, hV with
  | [], h2, _ => simp at h2; omega
  | _ :: _ :: _, h2, _ => simp at h2; omega
  | [d], _, hV =>
    have e : V = d := by rw [← hV]; simp [val]
    subst e
    have e2 : hi.toNat = lo.toNat + 1 := by omega
    rw [e2, List.set_eq_take_append_cons_drop, if_pos (by rw [List.length_map]; omega)]
    simp [List.map_append, List.map_take, List.map_drop]
theorem drop_app_ge {a b : List Nat} {m h : Nat} (e : a.length = m) (hh : m ≤ h) : (a ++ b.drop m).drop h = b.drop h := by
  rw [List.drop_append, List.drop_of_length_le (by omega), List.nil_append, List.drop_drop, show m + (h - a.length) = h from by omega]
theorem seg_two {ds xs : List Nat} {lo mid hi : Nat} (h1 : lo ≤ mid) (h2 : mid ≤ hi) (h3 : hi ≤ ds.length) (h4 : xs.length = hi - lo) :
    (ds.take lo ++ xs.take (mid - lo) ++ ds.drop mid).take mid ++ xs.drop (mid - lo) ++ (ds.take lo ++ xs.take (mid - lo) ++ ds.drop mid).drop hi = ds.take lo ++ xs ++ ds.drop hi := by
  have e1 : (ds.take lo ++ xs.take (mid - lo)).length = mid := by
    rw [List.length_append, List.length_take, List.length_take]; omega
  rw [List.take_append_of_le_length (by omega), List.take_of_length_le (by omega), drop_app_ge e1 h2]
  rw [List.append_assoc (ds.take lo), List.take_append_drop]
/-! trees -/
inductive Tr where
  | leaf (n : Nat)
  | row (l : List Tr)
def digsF (b : Nat) : Nat → Nat → List Nat
  | 0, _ => []
  | k + 1, n => if n = 0 then [] else n % b :: digsF b k (n / b)
/-- the digits of n, the lowest first -/
def digs (b n : Nat) : List Nat := digsF b n n
theorem digsF_enough (b : Nat) (hb : 2 ≤ b) : ∀ (k j n : Nat), n ≤ k → n ≤ j → digsF b k n = digsF b j n
  | 0, 0, _, _, _ => rfl
  | 0, j + 1, n, h, _ => by
    have : n = 0 := by omega
    subst this; rfl
  | k + 1, 0, n, _, h => by
    have : n = 0 := by omega
    subst this; rfl
  | k + 1, j + 1, n, h1, h2 => by
    unfold digsF
    split
    · rfl
    · rename_i h0
      have : n / b < n := Nat.div_lt_self (by omega) hb
      rw [digsF_enough b hb k j (n / b) (by omega) (by omega)]
theorem digs_zero (b : Nat) : digs b 0 = [] := rfl
theorem digs_pos {b n : Nat} (hb : 2 ≤ b) (hn : 0 < n) : digs b n = n % b :: digs b (n / b) := by
  unfold digs
  cases n with
  | zero => omega
  | succ k =>
    rw [digsF, if_neg (by omega)]
    have : (k + 1) / b < k + 1 := Nat.div_lt_self (by omega) hb
    rw [digsF_enough b hb k ((k + 1) / b) _ (by omega) (Nat.le_refl _)]
theorem digs_lt {b : Nat} (hb : 2 ≤ b) : ∀ (k n : Nat), n ≤ k → ∀ d ∈ digs b n, d < b
  | 0, n, h, d, hd => by
    have : n = 0 := by omega
    subst this; rw [digs_zero] at hd; cases hd
  | k + 1, n, h, d, hd => by
    by_cases h0 : n = 0
    · subst h0; rw [digs_zero] at hd; cases hd
    · rw [digs_pos hb (by omega)] at hd
      cases List.mem_cons.mp hd with
      | inl e => rw [e]; exact Nat.mod_lt _ (by omega)
      | inr hd =>
        have : n / b < n := Nat.div_lt_self (by omega) hb
        exact digs_lt hb k _ (by omega) d hd
theorem digs_len {b : Nat} (hb : 2 ≤ b) : ∀ (k n : Nat), n < 2 ^ k → (digs b n).length ≤ k
  | 0, n, h => by
    have : n = 0 := by simpa using h
    subst this; rw [digs_zero]; exact Nat.le_refl _
  | k + 1, n, h => by
    by_cases h0 : n = 0
    · subst h0; rw [digs_zero]; exact Nat.zero_le _
    · rw [digs_pos hb (by omega), List.length_cons]
      have : n / b < 2 ^ k := by
        refine Nat.lt_of_le_of_lt (Nat.div_le_div_left hb (by decide)) ?_
        rw [Nat.div_lt_iff_lt_mul (by decide)]; rwa [← Nat.pow_succ]
      exact Nat.succ_le_succ (digs_len hb k _ this)
theorem digs_val (w : Nat) (hw : 1 ≤ w) : ∀ (k n : Nat), n ≤ k → val w (digs (2 ^ w) n) = n
  | 0, n, h => by
    have : n = 0 := by omega
    subst this; rfl
  | k + 1, n, h => by
    have hb : 2 ≤ 2 ^ w := Nat.le_trans (by decide : 2 ≤ 2 ^ 1) (Nat.pow_le_pow_right (by decide) hw)
    by_cases h0 : n = 0
    · subst h0; rfl
    · rw [digs_pos hb (by omega)]
      have : n / 2 ^ w < n := Nat.div_lt_self (by omega) hb
      show n % 2 ^ w + 2 ^ w * val w (digs (2 ^ w) (n / 2 ^ w)) = n
      rw [digs_val w hw k _ (by omega), Nat.mod_add_div]
mutual
/-- a tree as it is written -/
def wr (b : Nat) : Tr → List Nat
  | .leaf n => 61 :: digs b n
  | .row l => 40 :: glue [44] (wrs b l)
def wrs (b : Nat) : List Tr → List (List Nat)
  | [] => []
  | t :: l => (34 :: (dbl (wr b t) ++ [34])) :: wrs b l
end
theorem wrs_append (b : Nat) : ∀ (l m : List Tr), wrs b (l ++ m) = wrs b l ++ wrs b m
  | [], _ => by simp [wrs]
  | t :: l, m => by rw [List.cons_append, wrs, wrs, wrs_append b l m, List.cons_append]
theorem wrs_length (b : Nat) : ∀ (l : List Tr), (wrs b l).length = l.length
  | [] => by simp [wrs]
  | t :: l => by rw [wrs, List.length_cons, List.length_cons, wrs_length b l]
/-- how deep, how wide, how large -/
def okT : Nat → Tr → Prop
  | _, .leaf n => n < 2 ^ 36
  | 0, .row _ => False
  | d + 1, .row l => l.length ≤ 12 ∧ ∀ t ∈ l, okT d t
def lw : Nat → Nat
  | 0 => 37
  | d + 1 => 1 + 12 * (2 * lw d + 3)
theorem glue_len (sep : List Nat) (k : Nat) (hs : sep.length = 1) : ∀ ps : List (List Nat), (∀ p ∈ ps, p.length ≤ k) → (glue sep ps).length ≤ ps.length * (k + 1)
  | [], _ => Nat.zero_le _
  | [x], h => by
    show x.length ≤ 1 * (k + 1)
    have := h x (.head _)
    omega
  | x :: y :: r, h => by
    show (x ++ sep ++ glue sep (y :: r)).length ≤ _
    have h1 := h x (.head _)
    have h2 := glue_len sep k hs (y :: r) (fun p hp => h p (.tail _ hp))
    rw [List.length_append, List.length_append, hs]
    rw [List.length_cons (a := x), Nat.succ_mul]
    omega
theorem wrs_mem (b : Nat) : ∀ (l : List Tr) (p : List Nat), p ∈ wrs b l → ∃ t ∈ l, p = 34 :: (dbl (wr b t) ++ [34])
  | [], p, h => by rw [wrs] at h; cases h
  | t :: l, p, h => by
    rw [wrs] at h
    cases List.mem_cons.mp h with
    | inl e => exact ⟨t, .head _, e⟩
    | inr h =>
      obtain ⟨u, hu, e⟩ := wrs_mem b l p h
      exact ⟨u, .tail _ hu, e⟩
theorem wr_len {b : Nat} (hb : 2 ≤ b) : ∀ (d : Nat) (t : Tr), okT d t → (wr b t).length ≤ lw d := by
  have lf : ∀ (d n : Nat), n < 2 ^ 36 → (wr b (.leaf n)).length ≤ lw d := fun d n h => by
    rw [wr, List.length_cons]
    have h1 := digs_len hb 36 n h
    cases d with
    | zero => show _ ≤ 37; omega
    | succ d => show _ ≤ 1 + 12 * (2 * lw d + 3); omega
  intro d
  induction d with
  | zero =>
    intro t h
    cases t with
    | leaf n => exact lf 0 n h
    | row l => exact absurd h (by simp [okT])
  | succ d ih =>
    intro t h
    cases t with
    | leaf n => exact lf (d + 1) n h
    | row l =>
      obtain ⟨h1, h2⟩ := h
      rw [wr, List.length_cons]
      have h3 := glue_len [44] (2 * lw d + 2) rfl (wrs b l) fun p hp => by
        obtain ⟨t, ht, rfl⟩ := wrs_mem b l p hp
        have h4 := ih t (h2 t ht)
        have h5 : (wr b t).count 34 ≤ (wr b t).length := List.count_le_length
        rw [List.length_cons, List.length_append, dbl_len]
        simp only [List.length_cons, List.length_nil]
        omega
      rw [wrs_length] at h3
      have h6 : l.length * (2 * lw d + 2 + 1) ≤ 12 * (2 * lw d + 3) := Nat.mul_le_mul_right _ h1
      show _ ≤ 1 + 12 * (2 * lw d + 3)
      omega
mutual
inductive TreeIn (h : Heap) : Value → Tr → Prop
  | leaf (n : Nat) (t : Tok) : TreeIn h (.int n t) (.leaf n)
  | row {a : Addr} {vs : List Value} {ep : Nat} {l : List Tr} : h.get? a = some (listOf vs.toArray ep) → TreesIn h vs l → TreeIn h (.ref a) (.row l)
inductive TreesIn (h : Heap) : List Value → List Tr → Prop
  | nil : TreesIn h [] []
  | cons {v : Value} {vs : List Value} {t : Tr} {l : List Tr} : TreeIn h v t → TreesIn h vs l → TreesIn h (v :: vs) (t :: l)
end
mutual
theorem TreeIn.keeps {h h' : Heap} (k : ∀ b o, h.get? b = some o → h'.get? b = some o) : ∀ {v : Value} {t : Tr}, TreeIn h v t → TreeIn h' v t
  | _, _, .leaf n t => .leaf n t
  | _, _, .row e r => .row (k _ _ e) (TreesIn.keeps k r)
theorem TreesIn.keeps {h h' : Heap} (k : ∀ b o, h.get? b = some o → h'.get? b = some o) : ∀ {vs : List Value} {l : List Tr}, TreesIn h vs l → TreesIn h' vs l
  | _, _, .nil => .nil
  | _, _, .cons x r => .cons (TreeIn.keeps k x) (TreesIn.keeps k r)
end
theorem TreesIn.length {h : Heap} {vs : List Value} {l : List Tr} (x : TreesIn h vs l) : vs.length = l.length := by
  induction vs generalizing l with
  | nil => cases x; rfl
  | cons v vs ih => cases x with | cons _ r => rw [List.length_cons, List.length_cons, ih r]
theorem TreesIn.append {h : Heap} {vs us : List Value} {l m : List Tr} (x : TreesIn h vs l) (y : TreesIn h us m) : TreesIn h (vs ++ us) (l ++ m) := by
  induction vs generalizing l with
  | nil => cases x; exact y
  | cons v vs ih => cases x with | cons a r => exact .cons a (ih r)
theorem TreesIn.get {h : Heap} {vs : List Value} {l : List Tr} (x : TreesIn h vs l) : ∀ {i : Nat} {v : Value}, vs[i]? = some v → ∃ t, l[i]? = some t ∧ TreeIn h v t := by
  induction vs generalizing l with
  | nil => intro i v e; simp at e
  | cons u vs ih =>
    cases x with
    | cons a r =>
      intro i v e
      cases i with
      | zero =>
        have : u = v := by simpa using e
        subst this
        exact ⟨_, rfl, a⟩
      | succ i => exact ih r (by simpa using e)
theorem wrs_take_succ (b : Nat) {l : List Tr} {i : Nat} {t : Tr} (h : l[i]? = some t) : wrs b (l.take (i + 1)) = wrs b (l.take i) ++ [34 :: (dbl (wr b t) ++ [34])] := by
  rw [List.take_add_one, h]
  show wrs b (l.take i ++ [t]) = _
  rw [wrs_append, wrs, wrs]
theorem lw_mono {d e : Nat} (h : d ≤ e) : lw d ≤ lw e := by
  induction h with
  | refl => exact Nat.le_refl _
  | step _ ih => exact Nat.le_trans ih (by show _ ≤ 1 + 12 * (2 * lw _ + 3); omega)
theorem lw_two : lw 2 = 22237 := by decide
theorem lw_three : lw 3 = 533725 := by decide
theorem strs_snoc {x : Str} {t : Tok} : ∀ {vs : List Value} {xs : List Str}, StrsAre vs xs → StrsAre (vs ++ [.str x t]) (xs ++ [x])
  | _, _, .nil => .cons x t .nil
  | _, _, .cons z u r => .cons z u (strs_snoc r)
theorem strs_vals {ys : List Value} {xs : List Str} (h : StrsAre ys xs) : ∃ l : List (Str × Tok), ys = strValues l ∧ l.map (·.1) = xs := by
  induction h with
  | nil => exact ⟨[], rfl, rfl⟩
  | cons x t _ ih =>
    obtain ⟨l, e1, e2⟩ := ih
    refine ⟨(x, t) :: l, ?_, ?_⟩
    · rw [e1]; rfl
    · rw [List.map_cons, e2]
theorem join_ok {sep : Str} {texts : List Str} (h : (texts.map (·.length)).sum + texts.length * sep.length ≤ 16777216) : JoinOk sep texts = true := by
  unfold JoinOk
  rw [StrLaws.joinTotal]
  have : Builtin.Str.tooLong ((texts.map (·.length)).sum + texts.length * sep.length) = false := by
    unfold Builtin.Str.tooLong sizeLine
    exact decide_eq_false (by have e : (2 : Nat) ^ 24 = 16777216 := by decide
                              omega)
  rw [this]; rfl
theorem sum_le_mul {l : List Nat} {k : Nat} (h : ∀ x ∈ l, x ≤ k) : l.sum ≤ l.length * k := by
  induction l with
  | nil => simp
  | cons a l ih =>
    rw [List.sum_cons, List.length_cons, Nat.succ_mul]
    have h1 := h a (.head _)
    have h2 := ih fun x hx => h x (.tail _ hx)
    omega
theorem join_txt (sep : List Nat) (ps : List (List Nat)) : Txt.join (txt sep) (ps.map txt) = txt (glue sep ps) := by
  show Builtin.Str.glued (txt sep) (ps.map txt) = _
  rw [StrLaws.glued_eq_join, join_glue, List.map_map]
  congr 1
  congr 1
  conv => rhs; rw [← List.map_id ps]
  apply List.map_congr_left
  intro a _
  exact txt_cps a
theorem ints_snoc {n : Int} {t : Tok} : ∀ {vs : List Value} {ns : List Int}, IntsAre vs ns → IntsAre (vs ++ [.int n t]) (ns ++ [n])
  | _, _, .nil => .cons n t .nil
  | _, _, .cons z u r => .cons z u (ints_snoc r)
mutual
/-- a tree whose rows stand in a ledger -/
inductive TreeL (own : List (Addr × Obj)) : Value → Tr → Prop
  | leaf (n : Nat) (t : Tok) : TreeL own (.int n t) (.leaf n)
  | row {a : Addr} {vs : List Value} {ep : Nat} {l : List Tr} : (a, listOf vs.toArray ep) ∈ own → TreesL own vs l → TreeL own (.ref a) (.row l)
inductive TreesL (own : List (Addr × Obj)) : List Value → List Tr → Prop
  | nil : TreesL own [] []
  | cons {v : Value} {vs : List Value} {t : Tr} {l : List Tr} : TreeL own v t → TreesL own vs l → TreesL own (v :: vs) (t :: l)
end
mutual
theorem TreeL.mono {own own' : List (Addr × Obj)} (k : ∀ q ∈ own, q ∈ own') : ∀ {v : Value} {t : Tr}, TreeL own v t → TreeL own' v t
  | _, _, .leaf n t => .leaf n t
  | _, _, .row e r => .row (k _ e) (TreesL.mono k r)
theorem TreesL.mono {own own' : List (Addr × Obj)} (k : ∀ q ∈ own, q ∈ own') : ∀ {vs : List Value} {l : List Tr}, TreesL own vs l → TreesL own' vs l
  | _, _, .nil => .nil
  | _, _, .cons x r => .cons (TreeL.mono k x) (TreesL.mono k r)
end
mutual
theorem TreeL.heap {own : List (Addr × Obj)} {h : Heap} (k : ∀ q ∈ own, h.get? q.1 = some q.2) : ∀ {v : Value} {t : Tr}, TreeL own v t → TreeIn h v t
  | _, _, .leaf n t => .leaf n t
  | _, _, .row e r => .row (k _ e) (TreesL.heap k r)
theorem TreesL.heap {own : List (Addr × Obj)} {h : Heap} (k : ∀ q ∈ own, h.get? q.1 = some q.2) : ∀ {vs : List Value} {l : List Tr}, TreesL own vs l → TreesIn h vs l
  | _, _, .nil => .nil
  | _, _, .cons x r => .cons (TreeL.heap k x) (TreesL.heap k r)
end
theorem TreesL.snoc {own : List (Addr × Obj)} {v : Value} {t : Tr} (y : TreeL own v t) : ∀ {vs : List Value} {l : List Tr}, TreesL own vs l → TreesL own (vs ++ [v]) (l ++ [t])
  | _, _, .nil => .cons y .nil
  | _, _, .cons x r => .cons x (TreesL.snoc y r)
/-- what follows a written part -/
def tailOf (b : Nat) (r : List Tr) : List Nat := match r with
  | [] => []
  | t :: r => 44 :: glue [44] (wrs b (t :: r))
theorem glue_cons (b : Nat) (t : Tr) (r : List Tr) : glue [44] (wrs b (t :: r)) = 34 :: (dbl (wr b t) ++ 34 :: tailOf b r) := by
  cases r with
  | nil => rw [wrs, wrs]; show 34 :: (dbl (wr b t) ++ [34]) = _; rfl
  | cons u r =>
    rw [wrs, wrs]
    show (34 :: (dbl (wr b t) ++ [34])) ++ [44] ++ glue [44] ((34 :: (dbl (wr b u) ++ [34])) :: wrs b r) = _
    rw [tailOf, wrs]
    simp
theorem tail_head (b : Nat) (r : List Tr) : (tailOf b r).head? ≠ some 34 := by
  cases r with
  | nil => simp [tailOf]
  | cons t r => simp [tailOf]
/-- where the reading stands -/
def standsAt (b : Nat) (T : List Nat) (r : List Tr) (p : Nat) : Prop := match r with
  | [] => T.length ≤ p
  | t :: r => T.drop p = glue [44] (wrs b (t :: r)) ∧ p < T.length
theorem stands_next {b : Nat} {T : List Nat} {t : Tr} {r : List Tr} {p : Nat} (h : standsAt b T (t :: r) p) : standsAt b T r (p + (wr b t).length + (wr b t).count 34 + 3) := by
  obtain ⟨h1, h2⟩ := h
  rw [glue_cons] at h1
  have hl : T.length = p + (34 :: (dbl (wr b t) ++ 34 :: tailOf b r)).length := by
    rw [← h1, List.length_drop]; omega
  rw [List.length_cons, List.length_append, List.length_cons, dbl_len] at hl
  cases r with
  | nil =>
    rw [tailOf] at hl
    show T.length ≤ _
    simp only [List.length_nil] at hl
    omega
  | cons u r =>
    rw [tailOf, List.length_cons] at hl
    refine ⟨?_, ?_⟩
    · have e : T.drop (p + (wr b t).length + (wr b t).count 34 + 3) = (T.drop p).drop ((wr b t).length + (wr b t).count 34 + 3) := by rw [List.drop_drop]; congr 1; omega
      rw [e, h1, tailOf]
      have e2 : 34 :: (dbl (wr b t) ++ 34 :: 44 :: glue [44] (wrs b (u :: r))) = (34 :: (dbl (wr b t) ++ [34, 44])) ++ glue [44] (wrs b (u :: r)) := by simp
      rw [e2, List.drop_left']
      simp only [List.length_cons, List.length_append, List.length_nil, dbl_len]
    · have : 0 < (glue [44] (wrs b (u :: r))).length := by rw [glue_cons, List.length_cons]; omega
      omega
theorem stands_start (b : Nat) (l : List Tr) : standsAt b (wr b (.row l)) l 1 := by
  cases l with
  | nil => rw [wr, wrs]; show (40 :: glue [44] []).length ≤ 1; simp [glue]
  | cons t l =>
    refine ⟨?_, ?_⟩
    · rw [wr]; rfl
    · rw [wr, List.length_cons, glue_cons, List.length_cons]; omega
theorem TreesL.length {own : List (Addr × Obj)} {vs : List Value} {l : List Tr} (x : TreesL own vs l) : vs.length = l.length := by
  induction vs generalizing l with
  | nil => cases x; rfl
  | cons v vs ih => cases x with | cons _ r => rw [List.length_cons, List.length_cons, ih r]
/-! the rows that stand open while a tree is built -/
structure Op where
  a : Addr
  vs : List Value
  ep : Nat
  ts : List Tr
def ent (o : Op) : Addr × Obj := (o.a, listOf o.vs.toArray o.ep)
def refs (ops : List Op) : List Value := ops.map fun o => .ref o.a
def deepOk : Nat → List Op → Prop
  | _, [] => True
  | d, o :: r => (∀ t ∈ o.ts, okT d t) ∧ deepOk (d - 1) r
def total (ops : List Op) : Nat := (ops.map fun o => o.ts.length).sum
theorem deep_snoc : ∀ (lo : List Op) (d : Nat) (o : Op), deepOk d (lo ++ [o]) ↔ (deepOk d lo ∧ ∀ t ∈ o.ts, okT (d - lo.length) t)
  | [], d, o => by simp [deepOk]
  | p :: lo, d, o => by
    rw [List.cons_append, deepOk, deepOk, deep_snoc lo (d - 1) o, List.length_cons, show d - (lo.length + 1) = d - 1 - lo.length from by omega]
    exact ⟨fun ⟨a, b, c⟩ => ⟨⟨a, b⟩, c⟩, fun ⟨⟨a, b⟩, c⟩ => ⟨a, b, c⟩⟩
theorem total_snoc (lo : List Op) (o : Op) : total (lo ++ [o]) = total lo + o.ts.length := by simp [total]
theorem snoc_of {ops : List Op} (h : 1 ≤ ops.length) : ∃ lo o, ops = lo ++ [o] := by
  refine ⟨ops.dropLast, ops.getLast (by intro e; rw [e] at h; simp at h), ?_⟩
  exact (List.dropLast_concat_getLast _).symm
structure GoodT (i : Nat) (D : Addr) (ops : List Op) (own : List (Addr × Obj)) : Prop where
  ne : 1 ≤ ops.length
  le : ops.length ≤ 3
  tr : ∀ o ∈ ops, TreesL own o.vs o.ts
  dp : deepOk 2 ops
  ct : total ops + (ops.length - 1) ≤ i
  nd : (D :: ops.map (·.a)).Nodup
  ow : ∀ q ∈ own, q.1 ≠ D ∧ ∀ o ∈ ops, q.1 ≠ o.a
theorem GoodT.mono {i j : Nat} {D : Addr} {ops : List Op} {own : List (Addr × Obj)} (g : GoodT i D ops own) (h : i ≤ j) : GoodT j D ops own := ⟨g.ne, g.le, g.tr, g.dp, Nat.le_trans g.ct h, g.nd, g.ow⟩
theorem GoodT.push {i : Nat} {D b : Addr} {ops : List Op} {own : List (Addr × Obj)} (g : GoodT i D ops own) (h : ops.length < 3) (hD : b ≠ D) (ho : ∀ o ∈ ops, b ≠ o.a) (hw : ∀ q ∈ own, q.1 ≠ b) : GoodT (i + 1) D (ops ++ [⟨b, [], 0, []⟩]) own where
  ne := by rw [List.length_append]; have := g.ne; omega
  le := by rw [List.length_append]; simp only [List.length_cons, List.length_nil]; omega
  tr := fun o hm => by
    cases List.mem_append.mp hm with
    | inl h => exact g.tr o h
    | inr h => cases List.mem_singleton.mp h; exact .nil
  dp := (deep_snoc _ _ _).mpr ⟨g.dp, fun t ht => nomatch ht⟩
  ct := by
    rw [total_snoc, List.length_append]
    have := g.ct
    have := g.ne
    simp only [List.length_cons, List.length_nil]
    omega
  nd := by
    rw [List.map_append, ← List.cons_append]
    refine List.nodup_append.mpr ⟨g.nd, by simp, fun x hx y hy => ?_⟩
    have : y = b := by simpa using hy
    subst this
    cases List.mem_cons.mp hx with
    | inl e => rw [e]; exact fun q => hD q.symm
    | inr e =>
      obtain ⟨o, ho', rfl⟩ := List.mem_map.mp e
      exact fun q => ho o ho' q.symm
  ow := fun q hq => ⟨(g.ow q hq).1, fun o hm => by
    cases List.mem_append.mp hm with
    | inl h => exact (g.ow q hq).2 o h
    | inr h => cases List.mem_singleton.mp h; exact hw q hq⟩
theorem GoodT.leaf {i n : Nat} {D : Addr} {lo : List Op} {o : Op} {own : List (Addr × Obj)} {t : Tok} (g : GoodT i D (lo ++ [o]) own) (hn : n < 2 ^ 36) : GoodT (i + 1) D (lo ++ [⟨o.a, o.vs ++ [.int n t], o.ep + 1, o.ts ++ [.leaf n]⟩]) own where
  ne := by rw [List.length_append]; simp
  le := by have := g.le; rw [List.length_append] at this ⊢; simpa using this
  tr := fun p hm => by
    cases List.mem_append.mp hm with
    | inl h => exact g.tr p (List.mem_append_left _ h)
    | inr h =>
      cases List.mem_singleton.mp h
      exact (g.tr o (List.mem_append_right _ (.head _))).snoc (.leaf n t)
  dp := by
    obtain ⟨h1, h2⟩ := (deep_snoc _ _ _).mp g.dp
    refine (deep_snoc _ _ _).mpr ⟨h1, fun u hu => ?_⟩
    cases List.mem_append.mp hu with
    | inl h => exact h2 u h
    | inr h =>
      cases List.mem_singleton.mp h
      cases (2 - lo.length) <;> exact hn
  ct := by
    have := g.ct
    rw [total_snoc] at this ⊢
    rw [List.length_append] at this ⊢
    simp only [List.length_append, List.length_cons, List.length_nil] at this ⊢
    omega
  nd := by have := g.nd; rw [List.map_append] at this ⊢; exact this
  ow := fun q hq => ⟨(g.ow q hq).1, fun p hm => by
    cases List.mem_append.mp hm with
    | inl h => exact (g.ow q hq).2 p (List.mem_append_left _ h)
    | inr h => cases List.mem_singleton.mp h; exact (g.ow q hq).2 o (List.mem_append_right _ (.head _))⟩
theorem GoodT.close {i : Nat} {D : Addr} {lo : List Op} {p o : Op} {own : List (Addr × Obj)} (g : GoodT i D (lo ++ [p] ++ [o]) own) (hi : i ≤ 12) : GoodT i D (lo ++ [⟨p.a, p.vs ++ [.ref o.a], p.ep + 1, p.ts ++ [.row o.ts]⟩]) (ent o :: own) := by
  have hle := g.le
  have hct := g.ct
  rw [total_snoc, total_snoc] at hct
  simp only [List.length_append, List.length_cons, List.length_nil] at hle hct
  obtain ⟨h1, h2⟩ := (deep_snoc _ _ _).mp g.dp
  obtain ⟨h3, h4⟩ := (deep_snoc _ _ _).mp h1
  have hnd := g.nd
  have hpo : p.a ≠ o.a ∧ (∀ q ∈ lo, q.a ≠ o.a) ∧ D ≠ o.a := by
    rw [List.map_append, ← List.cons_append] at hnd
    have h5 := (List.nodup_append.mp hnd).2.2
    refine ⟨h5 p.a (by simp) o.a (by simp), fun q hq => h5 q.a ?_ o.a (by simp), h5 D (by simp) o.a (by simp)⟩
    exact List.mem_cons_of_mem _ (List.mem_map.mpr ⟨q, List.mem_append_left _ hq, rfl⟩)
  have sub : ∀ q ∈ own, q ∈ ent o :: own := fun q hq => .tail _ hq
  refine ⟨by simp, by simp only [List.length_append, List.length_cons, List.length_nil]; omega, fun q hm => ?_, ?_, ?_, ?_, fun q hq => ?_⟩
  · cases List.mem_append.mp hm with
    | inl h => exact (g.tr q (List.mem_append_left _ (List.mem_append_left _ h))).mono sub
    | inr h =>
      cases List.mem_singleton.mp h
      exact ((g.tr p (List.mem_append_left _ (List.mem_append_right _ (.head _)))).mono sub).snoc (.row (.head _) ((g.tr o (List.mem_append_right _ (.head _))).mono sub))
  · refine (deep_snoc _ _ _).mpr ⟨h3, fun u hu => ?_⟩
    cases List.mem_append.mp hu with
    | inl h => exact h4 u h
    | inr h =>
      cases List.mem_singleton.mp h
      rw [List.length_append] at h2
      simp only [List.length_cons, List.length_nil] at h2
      rw [show 2 - lo.length = (2 - (lo.length + 1)) + 1 from by omega]
      exact ⟨by omega, h2⟩
  · rw [total_snoc]
    simp only [List.length_append, List.length_cons, List.length_nil]
    omega
  · rw [List.map_append, ← List.cons_append] at hnd
    have h6 := (List.nodup_append.mp hnd).1
    rw [List.map_append] at h6 ⊢
    exact h6
  · cases List.mem_cons.mp hq with
    | inl e =>
      subst e
      refine ⟨fun e => hpo.2.2 e.symm, fun u hm => ?_⟩
      cases List.mem_append.mp hm with
      | inl h => exact fun e => hpo.2.1 u h e.symm
      | inr h => cases List.mem_singleton.mp h; exact fun e => hpo.1 e.symm
    | inr hq =>
      refine ⟨(g.ow q hq).1, fun u hm => ?_⟩
      cases List.mem_append.mp hm with
      | inl h => exact (g.ow q hq).2 u (List.mem_append_left _ (List.mem_append_left _ h))
      | inr h => cases List.mem_singleton.mp h; exact (g.ow q hq).2 p (List.mem_append_left _ (List.mem_append_right _ (.head _)))
theorem GoodT.root {i : Nat} {D : Addr} {o : Op} {own : List (Addr × Obj)} (g : GoodT i D [o] own) (hi : i ≤ 12) : okT 3 (.row o.ts) := by
  have hct := g.ct
  have h1 := g.dp.1
  refine ⟨?_, h1⟩
  simp [total] at hct
  omega
theorem GoodT.start {D a : Addr} (h : a ≠ D) : GoodT 0 D [⟨a, [], 0, []⟩] [] where
  ne := Nat.le_refl _
  le := by show 1 ≤ 3; decide
  tr := fun o hm => by cases List.mem_singleton.mp hm; exact .nil
  dp := And.intro (fun t ht => by cases ht) True.intro
  ct := by simp [total]
  nd := by simp; exact fun e => h e.symm
  ow := fun q hq => nomatch hq
theorem refs_snoc (lo : List Op) (o : Op) : refs (lo ++ [o]) = refs lo ++ [.ref o.a] := by simp [refs]
theorem refs_len (ops : List Op) : (refs ops).length = ops.length := by simp [refs]
end Mine
namespace Mine
open_top hd for PySem.Challenge.rw_nb0075_01
end Mine
namespace Mine
section
variable {prog : Program} {w : World} {A₀ A : Around} {s : Shared} {base h₀ : Heap} {outer : List Env} {L : Addr} {m : Str → Option Value} {env : Env} {K : Frag} {mg mb : Str → Option Value} {p : Program} {loose : List Str} {mean : ExcName → Option Value}
  {name qual : Str} {params : Arguments} {body : List Stmt} {scope : Scope} {cl : List (Str × Addr)} {dV kV doc pm cdv ct : Value} {an : Option Addr} {fo : Obj} {f : Addr} {vs : List Value} {binds : List (Str × Value)} {Q E : Value → Shared → Prop}
/-- entering a def that turns nothing that stood before: the base is the caller's whole heap -/
theorem enter_pure (B : Below A₀ base outer h₀) (F : Fr h₀ L s.heap m) (X : K.In h₀) (T : Top p loose mean mg mb h₀) (hA : A.frames = some (env :: outer)) (hf : env.frame = some L) (hke : env.scope.kind = .function)
    (ho : s.heap.get? f = some fo) (hd : fo.data = .func (fnX name qual params body scope cl dV kV doc pm an cdv ct)) (hcd : s.heap.CodeRec cdv qual) (hroom : A.depth < recursionLimit)
    (hbind : BindsTo s (fnX name qual params body scope cl dV kV doc pm an cdv ct) ⟨vs, []⟩ binds) (hloc : ∀ y ∈ binds, scope.names.lookup y.1 = some .local)
    (hcell : ∀ x ∈ scope.names, x.2 ≠ .cell) (hco : scope.isCoroutine = false) (hgen : scope.isGenerator = false) (hk : scope.kind = .function)
    (h : ∀ L' h₁, Fr s.heap L' h₁ (fun y => binds.reverse.lookup y) → News s.heap L' h₁ [] → Below A base (env :: outer) s.heap → K.In s.heap → Top p loose mean mg mb s.heap →
      wpAny (model prog w) (A.deeper (envX qual scope L' f cdv cl)) (execs body (envX qual scope L' f cdv cl))
        (fun fl s' => Q (match fl with | .ret v => v | _ => .none) s') (fun _ _ => False)
        { s with heap := h₁, toks := s.toks + binds.length }) :
    wpAny (model prog w) A (call (.ref f) vs) Q E s := by
  refine wpAny_call ?_
  have B₁ := pushX B F hf hke
  refine codeAny_call_def (fd := fnX name qual params body scope cl dV kV doc pm an cdv ct) (body := body) (binds := binds) hroom ho hd (T.nolimit.keeps F.keep) hcd rfl hbind hcell hloc (fun h₁ hns hk₁ => ?_) hco hgen hk
  exact wpAny_mono (h s.heap.objs.size h₁ ⟨hns, hk₁, Nat.le_refl _⟩ News.nil ⟨hA, B₁.stays, B₁.frames⟩ (X.keeps F.keep) (T.keeps F.keep)) (fun fl s' hl => hl) fun _ _ y => y.elim
/-- the same where what stands in nw may be turned -/
theorem enter_turn {nw : List (Addr × Obj)} (B : Below A₀ base outer h₀) (F : Fr h₀ L s.heap m) (N : News h₀ L s.heap nw) (X : K.In h₀) (T : Top p loose mean mg mb h₀) (hA : A.frames = some (env :: outer)) (hf : env.frame = some L) (hke : env.scope.kind = .function)
    (ho : s.heap.get? f = some fo) (hd : fo.data = .func (fnX name qual params body scope cl dV kV doc pm an cdv ct)) (hcd : s.heap.CodeRec cdv qual) (hroom : A.depth < recursionLimit)
    (hbind : BindsTo s (fnX name qual params body scope cl dV kV doc pm an cdv ct) ⟨vs, []⟩ binds) (hloc : ∀ y ∈ binds, scope.names.lookup y.1 = some .local)
    (hcell : ∀ x ∈ scope.names, x.2 ≠ .cell) (hco : scope.isCoroutine = false) (hgen : scope.isGenerator = false) (hk : scope.kind = .function)
    (h : ∀ L' h₁, Fr (hideAll s.heap (nw.map (·.1))) L' h₁ (fun y => binds.reverse.lookup y) → News (hideAll s.heap (nw.map (·.1))) L' h₁ nw → Below A base (env :: outer) (hideAll s.heap (nw.map (·.1))) → K.In (hideAll s.heap (nw.map (·.1))) → Top p loose mean mg mb (hideAll s.heap (nw.map (·.1))) → (∀ q ∈ nw, q.1 < L') →
      wpAny (model prog w) (A.deeper (envX qual scope L' f cdv cl)) (execs body (envX qual scope L' f cdv cl))
        (fun fl s' => Q (match fl with | .ret v => v | _ => .none) s') (fun _ _ => False)
        { s with heap := h₁, toks := s.toks + binds.length }) :
    wpAny (model prog w) A (call (.ref f) vs) Q E s := by
  obtain ⟨_, BG, st, _⟩ := groundX (R := fun _ _ => True) B F N hA hf hke
  refine wpAny_call (codeAny_call_def (fd := fnX name qual params body scope cl dV kV doc pm an cdv ct) (body := body) (binds := binds) hroom ho hd (T.nolimit.keeps F.keep) hcd rfl hbind hcell hloc (fun h₁ hns hk₁ => ?_) hco hgen hk)
  refine wpAny_mono (h s.heap.objs.size h₁ ⟨hns, fun b o e => hk₁ b o (of_hideAll _ e), Nat.le_of_eq (hideAll_size _ _)⟩ (fun q hq => ?_) BG (X.keeps st) (T.keeps st) (fun q hq => Heap.lt_size (N q hq).1)) (fun fl s' hl => hl) fun _ _ y => y.elim
  exact ⟨hk₁ _ _ (N q hq).1, Nat.ne_of_lt (Heap.lt_size (N q hq).1), hideAll_none _ (List.mem_map_of_mem hq)⟩
/-- the same for a def with cells; what stands in nw may be turned -/
theorem enter_cells {nw : List (Addr × Obj)} (B : Below A₀ base outer h₀) (F : Fr h₀ L s.heap m) (N : News h₀ L s.heap nw) (X : K.In h₀) (T : Top p loose mean mg mb h₀) (hA : A.frames = some (env :: outer)) (hf : env.frame = some L) (hke : env.scope.kind = .function)
    (ho : s.heap.get? f = some fo) (hd : fo.data = .func (fnX name qual params body scope [] dV kV doc pm an cdv ct)) (hcd : s.heap.CodeRec cdv qual) (hroom : A.depth < recursionLimit)
    (hbind : BindsTo s (fnX name qual params body scope [] dV kV doc pm an cdv ct) ⟨vs, []⟩ binds) (hkind : (binds.all fun y => scope.names.lookup y.1 == some .local || scope.names.lookup y.1 == some .cell) = true)
    (hnd : ((cellsFrom 0 scope.names []).map (·.1)).Nodup) (hco : scope.isCoroutine = false) (hgen : scope.isGenerator = false) (hk : scope.kind = .function)
    (h : ∀ L' h₁ tk cells, Fr (hideAll s.heap (nw.map (·.1))) L' h₁ (bindL (envOfC qual scope L' f cdv).kindOf binds fun _ => none) → News (hideAll s.heap (nw.map (·.1))) L' h₁ (cells ++ nw) →
      CellsAre (bindC (envOfC qual scope L' f cdv).kindOf binds fun _ => none) (cellsFrom (L' + 1) scope.names []) cells → Below A base (env :: outer) (hideAll s.heap (nw.map (·.1))) → K.In (hideAll s.heap (nw.map (·.1))) → Top p loose mean mg mb (hideAll s.heap (nw.map (·.1))) → (∀ q ∈ nw, q.1 < L') →
      wpAny (model prog w) (A.deeper (envOfC qual scope L' f cdv)) (execs body (envOfC qual scope L' f cdv))
        (fun fl s' => Q (match fl with | .ret v => v | _ => .none) s') (fun _ _ => False)
        { s with heap := h₁, toks := tk }) :
    wpAny (model prog w) A (call (.ref f) vs) Q E s := by
  obtain ⟨_, BG, st, _⟩ := groundX (R := fun _ _ => True) B F N hA hf hke
  refine wpAny_call (codeAny_call_function hroom ho hd hco hgen rfl hcd (hbind _ _ _ _ ?_))
  refine wpAny_newFunctionEnv_cells hk (kindsX hkind _) fun env' he s' x => ?_
  subst he
  have kp := x.toInCall.keep
  obtain ⟨h₁, tk, rfl, _⟩ := x.done
  refine ⟨(T.nolimit.keeps F.keep).keeps kp, codeAny_func ?_⟩
  have nd : ((cellsFrom (s.heap.objs.size + 1) scope.names []).map (·.1)).Nodup := cellsFrom_names scope.names 0 (s.heap.objs.size + 1) [] [] rfl ▸ hnd
  obtain ⟨cells, NC, Y⟩ := Cl.news (h₀ := s.heap) (Nat.le_refl _) fun n c hm => ⟨x.cell n c (lookup_of_mem_nodup nd hm), x.above n c hm⟩
  have both : News (hideAll s.heap (nw.map (·.1))) s.heap.objs.size h₁ (cells ++ nw) := by
    intro q hq
    cases List.mem_append.mp hq with
    | inl hc =>
      refine ⟨(NC q hc).1, (NC q hc).2.1, ?_⟩
      cases e : (hideAll s.heap (nw.map (·.1))).get? q.1 with
      | none => rfl
      | some o => exact absurd ((of_hideAll _ e).symm.trans (NC q hc).2.2) (by simp)
    | inr hn => exact ⟨kp _ _ (N q hn).1, Nat.ne_of_lt (Heap.lt_size (N q hn).1), hideAll_none _ (List.mem_map_of_mem hn)⟩
  exact wpAny_mono (h s.heap.objs.size h₁ tk cells ⟨x.toInCall.ns, fun b o e => kp b o (of_hideAll _ e), Nat.le_of_eq (hideAll_size _ _)⟩ both Y BG (X.keeps st) (T.keeps st) (fun q hq => Heap.lt_size (N q hq).1)) (fun _ _ y => y) fun _ _ y => y.elim
end
/-- the call of f at vs ends, all that stood stays, and Post holds of the value and the heap behind -/
def PureAt (w : World) (K : Frag) (p : Program) (loose : List Str) (mean : ExcName → Option Value) (mg mb : Str → Option Value) (f : Addr) (n : Nat) (vs : List Value) (h : Heap) (Post : Value → Heap → Prop) : Prop :=
  ∀ (A A₀ : Around) (base h₀ : Heap) (outer : List Env) (env : Env) (L : Addr) (m : Str → Option Value) (s : Shared) (Q E : Value → Shared → Prop),
    s.heap = h → Below A₀ base outer h₀ → Fr h₀ L s.heap m → K.In h₀ → Top p loose mean mg mb h₀ → A.frames = some (env :: outer) → env.frame = some L → env.scope.kind = .function → A.handled = none →
    A.depth + n < recursionLimit → A.units + 8 * n < cLine →
    (∀ r h' tk, h.StaysIn h' → Post r h' → Q r { s with heap := h', toks := tk }) →
    wpAny (model PySem.Challenge.rw_nb0075_01.row.prog w) A (call (.ref f) vs) Q E s
section
variable {M : Model} {A : Around} {E : Value → Shared → Prop} {s : Shared} {h₀ : Heap} {L a c P : Addr} {m mg mb : Str → Option Value} {cn : Str} {cs : Scope} {ccd : Value} {cl : List (Str × Addr)} {news : List (Addr × Obj)}
  {p : Program} {loose : List Str} {mean : ExcName → Option Value} {name qual : Str} {params : Arguments} {body : List Stmt} {scope : Scope} {ps : Array Value} {pos : Pos} {firstLine : Nat} {clos : List (Str × Addr)} {Q : Value → Shared → Prop} {c' : Addr}
/-- a def in a def whose code is made already; the table stands anywhere -/
theorem def_again (F : Fr h₀ L s.heap m) (N : News h₀ L s.heap news) (T : Top p loose mean mg mb h₀) (C : CodeHd h₀ c P) (hcd : ccd = .ref c) (hP : s.heap.get? P = some (tabObj ps)) (ht : TriplesOk ps.toList) (hf : codeAmong pos ps.toList = some (.ref c'))
    (hcl : closureFor scope (envX cn cs L a ccd cl) = pure clos)
    (h : ∀ f ctv doc h' tk, Fr h₀ L h' m → News h₀ L h' ((f, fnMade name qual params body scope clos doc ((mg "__name__").getD .none) c' ctv) :: news) → (∀ q ∈ news, q.1 < f) → (∀ b o, s.heap.get? b = some o → h'.get? b = some o) → Q (.ref f) { s with heap := h', toks := tk }) :
    wpAny M A (makeFunction name qual params (.stmts body) scope (envX cn cs L a ccd cl) [] [] [] pos firstLine) Q E s := by
  obtain ⟨bm, ob, b1, b2, b3, b4, b5, b6⟩ := T.bmain
  have n1 : bm ≠ P := by
    intro q
    have e := F.keep _ _ b3
    rw [q, hP] at e; cases e; cases b4
  have n2 : bm ≠ mainGlobals := by
    intro q
    obtain ⟨o, es, ep, e, hd, _⟩ := T.g
    rw [q, e] at b3; cases b3; rw [hd] at b6; cases b6
  refine makeFunction_hit (mg := mg) hcl rfl (T.g.keeps F.keep) hcd (C.keeps F.keep) hP ht hf ⟨bm, ob, b1, b2, n2, n1, F.keep _ _ b3, b4, b5, b6⟩ fun ctv doc h' tk hk hsz => ?_
  have top : L < h'.objs.size := Nat.lt_of_lt_of_le F.ns.lt hsz
  refine h h'.objs.size ctv doc _ tk ⟨(F.ns.keeps hk).push _, fun b o e => Heap.get?_push_of_some _ (hk b o (F.keep b o e)), F.above⟩ (fun q hq => ?_) (fun q hq => Nat.lt_of_lt_of_le (Heap.lt_size (N q hq).1) hsz) (fun b o e => Heap.get?_push_of_some _ (hk b o e))
  cases List.mem_cons.mp hq with
  | inl e => subst e; exact ⟨Heap.get?_push_size _ rfl, Nat.ne_of_gt top, Heap.get?_none_of_le (Nat.le_trans F.above (Nat.le_of_lt top))⟩
  | inr hq => exact ⟨Heap.get?_push_of_some _ (hk _ _ (N q hq).1), (N q hq).2⟩
end
/-- a list of numbers, nought or more -/
structure Nums (h : Heap) (a : Addr) (ds : List Nat) : Prop where
  at_ : ∃ items : List Value, h.IsList a items.toArray ∧ IntsAre items (ds.map Int.ofNat)
  fit : ds.length ≤ 1048576
theorem Nums.keeps {h h' : Heap} {a : Addr} {ds : List Nat} (x : Nums h a ds) (k : ∀ b o, h.get? b = some o → h'.get? b = some o) : Nums h' a ds :=
  ⟨let ⟨i, y, z⟩ := x.at_; ⟨i, let ⟨o, e, r⟩ := y; ⟨o, k _ _ e, r⟩, z⟩, x.fit⟩
section
variable {prog : Program} {w : World} {A : Around} {E : Value → Shared → Prop} {s : Shared} {h₀ : Heap} {L a : Addr} {m : Str → Option Value} {ds : List Nat}
theorem nums_truthy {Q : Bool → Shared → Prop} (F : Fr h₀ L s.heap m) (x : Nums h₀ a ds) (h : Q (decide (ds ≠ [])) { s with toks := s.toks + 1 + 1 }) : wpAny (model prog w) A (truthy (.ref a)) Q E s := by
  obtain ⟨items, hl, hi⟩ := (x.keeps F.keep).at_
  have hf := x.fit
  have hn := hi.length
  rw [List.length_map] at hn
  refine wpAny_truthy_list hl (by rw [List.size_toArray]; omega) ?_
  have e : (!items.toArray.isEmpty) = decide (ds ≠ []) := by
    cases ds with
    | nil => cases items with
      | nil => rfl
      | cons _ _ => simp at hn
    | cons _ _ => cases items with
      | nil => simp at hn
      | cons _ _ => simp
  rw [e]; exact h
theorem nums_len {Q : Value → Shared → Prop} (F : Fr h₀ L s.heap m) (x : Nums h₀ a ds) (h : Q (.int ds.length (s.toks + 1)) { s with toks := s.toks + 1 + 1 }) : wpAny (model prog w) A (call (.builtin "len") [.ref a]) Q E s := by
  obtain ⟨items, hl, hi⟩ := (x.keeps F.keep).at_
  have hf := x.fit
  have hn := hi.length
  rw [List.length_map] at hn
  refine Calls.call_len_list hl (by rw [List.size_toArray]; omega) ?_
  rw [List.size_toArray, hn]; exact h
theorem ints_item {items : List Value} {ns : List Int} (hi : IntsAre items ns) : ∀ {k : Nat} (hk : k < ns.length), ∃ t, items[k]? = some (.int (ns[k]'hk) t) := by
  induction hi with
  | nil => intro k hk; exact absurd hk (Nat.not_lt_zero _)
  | cons n t _ ih =>
    intro k hk
    cases k with
    | zero => exact ⟨t, rfl⟩
    | succ k => exact ih (Nat.lt_of_succ_lt_succ hk)
theorem nums_item {value slice : Expr} {k : Int} {u : Tok} {Q : Value → Shared → Prop} (F : Fr h₀ L s.heap m) (x : Nums h₀ a ds) (h0 : 0 ≤ k) (hk : k < ds.length) (h : ∀ t, Q (.int (ds.getD k.toNat 0 : Nat) t) s)
    (hs : subscripted slice false (.ref a) (.int k u) = operate [.ref a, .int k u] (getItem (.ref a) (.int k u)) := by with_unfolding_all rfl) (hg : ∀ r, letTemporaryGo value (.ref a) r = pure () := by intro _; with_unfolding_all rfl) :
    wpAny (model prog w) A (subscriptTail value slice (.ref a) (.int k u)) Q E s := by
  obtain ⟨items, hl, hi⟩ := (x.keeps F.keep).at_
  have hf := x.fit
  have hk' : k.toNat < (ds.map Int.ofNat).length := by rw [List.length_map]; omega
  obtain ⟨t, ht⟩ := ints_item hi hk'
  refine item_listL hl h0 (by omega) ht ?_ hs hg
  have e : (ds.map Int.ofNat)[k.toNat]'hk' = ((ds.getD k.toNat 0 : Nat) : Int) := by
    rw [List.getElem_map, List.getD_eq_getElem?_getD, List.getElem?_eq_getElem (by omega)]; rfl
  rw [e]; exact h t
end
/-- a cell and what it holds -/
structure CellHas (h : Heap) (c : Addr) (v : Value) : Prop where
  out : ∃ o, h.get? c = some o ∧ o.data = .cell (some v)
theorem CellHas.keeps {h h' : Heap} {c : Addr} {v : Value} (x : CellHas h c v) (k : ∀ b o, h.get? b = some o → h'.get? b = some o) : CellHas h' c v := ⟨let ⟨o, e, d⟩ := x.out; ⟨o, k _ _ e, d⟩⟩
theorem free_name {M : Model} {A : Around} {E : Value → Shared → Prop} {s : Shared} {h₀ : Heap} {L a : Addr} {m : Str → Option Value} {cn : Str} {cs : Scope} {ccd : Value} {cl : List (Str × Addr)} {x : Str} {pos : Pos} {v : Value} {Q : Value → Shared → Prop} {c : Addr}
    (F : Fr h₀ L s.heap m) (hc : cl.lookup x = some c) (hv : CellHas h₀ c v) (h : Q v s)
    (hk : cs.kind = .function := by rfl) (hx : (envX cn cs L a ccd cl).kindOf x = some .free := by rfl) (hb : (x == ("__debug__" : Str)) = false := by decide) (hn : (x == ("__classdict__" : Str)) = false := by decide) :
    wpAny M A (eval (.Name x pos) (envX cn cs L a ccd cl)) Q E s :=
  let ⟨o, e, d⟩ := hv.out
  wpAny_Name (wpAny_loadName_free hk hx hc ⟨o, F.keep _ _ e, d⟩ h hn) hb
theorem fn_at {h : Heap} {q : Addr} {o : Obj} {fd : FuncData} (e : h.get? q = some o) (d : o.data = .func fd) : FnAt q h := by
  obtain ⟨oc, od, dt, sl⟩ := o
  cases d
  exact ⟨oc, od, fd, sl, e⟩
theorem fnAt_keeps {h h' : Heap} {q : Addr} (x : FnAt q h) (k : ∀ b o, h.get? b = some o → h'.get? b = some o) : FnAt q h' := let ⟨a, b, c, d, e⟩ := x; ⟨a, b, c, d, k _ _ e⟩
/-- the one def made in a def's body -/
def nestIn : List Stmt → Option (Arguments × List Stmt × Scope)
  | [] => none
  | .FunctionDef _ p b _ _ _ sc _ _ _ :: _ => some (p, b, sc)
  | _ :: r => nestIn r
def nestOf (K : Frag) (f : Addr) : Arguments × List Stmt × Scope := match K.lookup f with
  | some ⟨_, _, .func fd, _⟩ => (match fd.body with | .stmts l => (nestIn l).getD default | _ => default)
  | _ => default
theorem nestOf_eq {K : Frag} {f : Addr} {oc : Value} {od : Option Addr} {osl : Array (Option Value)} {name qual : Str} {params : Arguments} {body : List Stmt} {scope : Scope} {dV kV doc pm cdv ct : Value} {an : Option Addr} {r : Arguments × List Stmt × Scope}
    (h : K.lookup f = some ⟨oc, od, .func (fnOf name qual params body scope dV kV doc pm an cdv ct), osl⟩) (e : nestIn body = some r) : nestOf K f = r := by
  unfold nestOf; rw [h]; show (nestIn body).getD default = r; rw [e]; rfl
/-- a fact laid aside, that the walk's lines are not to see -/
structure Box (P : Prop) : Prop where
  out : P
theorem fr_keeps {h₀ h h' : Heap} {L : Addr} {m : Str → Option Value} (F : Fr h₀ L h m) (k : h.StaysIn h') : Fr h₀ L h' m := ⟨F.ns.keeps k, fun b o e => k b o (F.keep b o e), F.above⟩
theorem news_keeps {h₀ h h' : Heap} {L : Addr} {news : List (Addr × Obj)} (N : News h₀ L h news) (k : h.StaysIn h') : News h₀ L h' news := fun q hq => ⟨k _ _ (N q hq).1, (N q hq).2⟩
/-- a contract used at a call -/
theorem pure_call {w : World} {K : Frag} {p : Program} {loose : List Str} {mean : ExcName → Option Value} {mg mb : Str → Option Value} {f : Addr} {n : Nat} {vs : List Value} {Post : Value → Heap → Prop}
    {A : Around} {base h₀ : Heap} {outer : List Env} {env : Env} {L : Addr} {m : Str → Option Value} {news : List (Addr × Obj)} {s : Shared} {Q E : Value → Shared → Prop}
    (B : Below A base outer h₀) (F : Fr h₀ L s.heap m) (N : News h₀ L s.heap news) (X : K.In h₀) (T : Top p loose mean mg mb h₀) (hf : env.frame = some L) (hke : env.scope.kind = .function) (hh : A.handled = none)
    (hd : A.depth + 1 + n < recursionLimit) (hu : A.units + 3 + 8 * n < cLine) (C : PureAt w K p loose mean mg mb f n vs s.heap Post)
    (ret : ∀ r h' tk, s.heap.StaysIn h' → Fr h₀ L h' m → News h₀ L h' news → Post r h' → Q r { s with heap := h', toks := tk }) :
    wpAny (model PySem.Challenge.rw_nb0075_01.row.prog w) (A.deeper env) (call (.ref f) vs) Q E s :=
  C (A.deeper env) A base h₀ outer env L m s Q E rfl B F X T (Around.frames_deeper B.stack) hf hke hh hd hu fun r h' tk k P => ret r h' tk k (fr_keeps F k) (news_keeps N k) P
/-- the same, and the count of what was made does not fall -/
theorem pure_call2 {w : World} {K : Frag} {p : Program} {loose : List Str} {mean : ExcName → Option Value} {mg mb : Str → Option Value} {f : Addr} {n : Nat} {vs : List Value} {Post : Value → Heap → Prop}
    {A : Around} {base h₀ : Heap} {outer : List Env} {env : Env} {L : Addr} {m : Str → Option Value} {news : List (Addr × Obj)} {s : Shared} {Q E : Value → Shared → Prop}
    (B : Below A base outer h₀) (F : Fr h₀ L s.heap m) (N : News h₀ L s.heap news) (X : K.In h₀) (T : Top p loose mean mg mb h₀) (hf : env.frame = some L) (hke : env.scope.kind = .function) (hh : A.handled = none)
    (hd : A.depth + 1 + n < recursionLimit) (hu : A.units + 3 + 8 * n < cLine) (C : PureAt w K p loose mean mg mb f n vs s.heap Post)
    (ret : ∀ r h' tk, s.toks ≤ tk → s.heap.StaysIn h' → Fr h₀ L h' m → News h₀ L h' news → Post r h' → Q r { s with heap := h', toks := tk }) :
    wpAny (model PySem.Challenge.rw_nb0075_01.row.prog w) (A.deeper env) (call (.ref f) vs) Q E s :=
  wpAny_with_toks (Nat.le_refl s.toks) (pure_call B F N X T hf hke hh hd hu C fun r h' tk k F' N' P hn => ret r h' tk hn k F' N' P)
/-- a place where the walk is to stand still -/
def Halt (P : Prop) : Prop := P
theorem Halt.of {P : Prop} (h : Halt P) : P := h
theorem Halt.go {P : Prop} (h : P) : Halt P := h
theorem fr_see1 {h₀ h : Heap} {L : Addr} {m : Str → Option Value} {x1 : Str} {v1 : Value} (F : Fr h₀ L h m) (e1 : m x1 = some v1) : Fr h₀ L h (fun y => if y = x1 then some v1 else m y) := by
  have : (fun y => if y = x1 then some v1 else m y) = m := by
    funext y
    by_cases h1 : y = x1
    · rw [if_pos h1, h1, e1]
    rw [if_neg h1]
  rw [this]; exact F
theorem fr_see2 {h₀ h : Heap} {L : Addr} {m : Str → Option Value} {x1 : Str} {v1 : Value} {x2 : Str} {v2 : Value} (F : Fr h₀ L h m) (e1 : m x1 = some v1) (e2 : m x2 = some v2) : Fr h₀ L h (fun y => if y = x1 then some v1 else if y = x2 then some v2 else m y) := by
  have : (fun y => if y = x1 then some v1 else if y = x2 then some v2 else m y) = m := by
    funext y
    by_cases h1 : y = x1
    · rw [if_pos h1, h1, e1]
    by_cases h2 : y = x2
    · rw [if_neg h1]; rw [if_pos h2, h2, e2]
    rw [if_neg h1]; rw [if_neg h2]
  rw [this]; exact F
theorem fr_see3 {h₀ h : Heap} {L : Addr} {m : Str → Option Value} {x1 : Str} {v1 : Value} {x2 : Str} {v2 : Value} {x3 : Str} {v3 : Value} (F : Fr h₀ L h m) (e1 : m x1 = some v1) (e2 : m x2 = some v2) (e3 : m x3 = some v3) : Fr h₀ L h (fun y => if y = x1 then some v1 else if y = x2 then some v2 else if y = x3 then some v3 else m y) := by
  have : (fun y => if y = x1 then some v1 else if y = x2 then some v2 else if y = x3 then some v3 else m y) = m := by
    funext y
    by_cases h1 : y = x1
    · rw [if_pos h1, h1, e1]
    by_cases h2 : y = x2
    · rw [if_neg h1]; rw [if_pos h2, h2, e2]
    by_cases h3 : y = x3
    · rw [if_neg h1]; rw [if_neg h2]; rw [if_pos h3, h3, e3]
    rw [if_neg h1]; rw [if_neg h2]; rw [if_neg h3]
  rw [this]; exact F
theorem fr_see4 {h₀ h : Heap} {L : Addr} {m : Str → Option Value} {x1 : Str} {v1 : Value} {x2 : Str} {v2 : Value} {x3 : Str} {v3 : Value} {x4 : Str} {v4 : Value} (F : Fr h₀ L h m) (e1 : m x1 = some v1) (e2 : m x2 = some v2) (e3 : m x3 = some v3) (e4 : m x4 = some v4) : Fr h₀ L h (fun y => if y = x1 then some v1 else if y = x2 then some v2 else if y = x3 then some v3 else if y = x4 then some v4 else m y) := by
  have : (fun y => if y = x1 then some v1 else if y = x2 then some v2 else if y = x3 then some v3 else if y = x4 then some v4 else m y) = m := by
    funext y
    by_cases h1 : y = x1
    · rw [if_pos h1, h1, e1]
    by_cases h2 : y = x2
    · rw [if_neg h1]; rw [if_pos h2, h2, e2]
    by_cases h3 : y = x3
    · rw [if_neg h1]; rw [if_neg h2]; rw [if_pos h3, h3, e3]
    by_cases h4 : y = x4
    · rw [if_neg h1]; rw [if_neg h2]; rw [if_neg h3]; rw [if_pos h4, h4, e4]
    rw [if_neg h1]; rw [if_neg h2]; rw [if_neg h3]; rw [if_neg h4]
  rw [this]; exact F
theorem fr_see5 {h₀ h : Heap} {L : Addr} {m : Str → Option Value} {x1 : Str} {v1 : Value} {x2 : Str} {v2 : Value} {x3 : Str} {v3 : Value} {x4 : Str} {v4 : Value} {x5 : Str} {v5 : Value} (F : Fr h₀ L h m) (e1 : m x1 = some v1) (e2 : m x2 = some v2) (e3 : m x3 = some v3) (e4 : m x4 = some v4) (e5 : m x5 = some v5) : Fr h₀ L h (fun y => if y = x1 then some v1 else if y = x2 then some v2 else if y = x3 then some v3 else if y = x4 then some v4 else if y = x5 then some v5 else m y) := by
  have : (fun y => if y = x1 then some v1 else if y = x2 then some v2 else if y = x3 then some v3 else if y = x4 then some v4 else if y = x5 then some v5 else m y) = m := by
    funext y
    by_cases h1 : y = x1
    · rw [if_pos h1, h1, e1]
    by_cases h2 : y = x2
    · rw [if_neg h1]; rw [if_pos h2, h2, e2]
    by_cases h3 : y = x3
    · rw [if_neg h1]; rw [if_neg h2]; rw [if_pos h3, h3, e3]
    by_cases h4 : y = x4
    · rw [if_neg h1]; rw [if_neg h2]; rw [if_neg h3]; rw [if_pos h4, h4, e4]
    by_cases h5 : y = x5
    · rw [if_neg h1]; rw [if_neg h2]; rw [if_neg h3]; rw [if_neg h4]; rw [if_pos h5, h5, e5]
    rw [if_neg h1]; rw [if_neg h2]; rw [if_neg h3]; rw [if_neg h4]; rw [if_neg h5]
  rw [this]; exact F
theorem fr_see6 {h₀ h : Heap} {L : Addr} {m : Str → Option Value} {x1 : Str} {v1 : Value} {x2 : Str} {v2 : Value} {x3 : Str} {v3 : Value} {x4 : Str} {v4 : Value} {x5 : Str} {v5 : Value} {x6 : Str} {v6 : Value} (F : Fr h₀ L h m) (e1 : m x1 = some v1) (e2 : m x2 = some v2) (e3 : m x3 = some v3) (e4 : m x4 = some v4) (e5 : m x5 = some v5) (e6 : m x6 = some v6) : Fr h₀ L h (fun y => if y = x1 then some v1 else if y = x2 then some v2 else if y = x3 then some v3 else if y = x4 then some v4 else if y = x5 then some v5 else if y = x6 then some v6 else m y) := by
  have : (fun y => if y = x1 then some v1 else if y = x2 then some v2 else if y = x3 then some v3 else if y = x4 then some v4 else if y = x5 then some v5 else if y = x6 then some v6 else m y) = m := by
    funext y
    by_cases h1 : y = x1
    · rw [if_pos h1, h1, e1]
    by_cases h2 : y = x2
    · rw [if_neg h1]; rw [if_pos h2, h2, e2]
    by_cases h3 : y = x3
    · rw [if_neg h1]; rw [if_neg h2]; rw [if_pos h3, h3, e3]
    by_cases h4 : y = x4
    · rw [if_neg h1]; rw [if_neg h2]; rw [if_neg h3]; rw [if_pos h4, h4, e4]
    by_cases h5 : y = x5
    · rw [if_neg h1]; rw [if_neg h2]; rw [if_neg h3]; rw [if_neg h4]; rw [if_pos h5, h5, e5]
    by_cases h6 : y = x6
    · rw [if_neg h1]; rw [if_neg h2]; rw [if_neg h3]; rw [if_neg h4]; rw [if_neg h5]; rw [if_pos h6, h6, e6]
    rw [if_neg h1]; rw [if_neg h2]; rw [if_neg h3]; rw [if_neg h4]; rw [if_neg h5]; rw [if_neg h6]
  rw [this]; exact F
section
variable {prog : Program} {w : World} {A : Around} {h₀ : Heap} {L : Addr} {m : Str → Option Value} {env : Env} {elt : Expr} {x : Str} {scope : Scope} {cl : List (Str × Addr)} {s : Shared} {S : List (Addr × Obj) → Prop} {P : Nat → Value → Prop} {Fin : List Value → List (Addr × Obj) → Prop} {news : List (Addr × Obj)}
/-- a comprehension whose turns leave the ledger as it is, by what holds of the items made so far -/
theorem comp_inv {n : Nat} (J : Nat → List Value → Prop) (h0 : J 0 [])
    (turn : ∀ i v I oI C oC D m₂ ys h tk (E' : Value → Shared → Prop), i < n → J i ys → P i v → LCg.NsObj oC m₂ → m₂ x = some v → Fr h₀ L h m → News h₀ L h ((I, oI) :: (C, oC) :: (D, LCg.lst ys) :: news) → LCg.Off3 I C D news → ((@Ne Nat I C) ∧ (@Ne Nat I D) ∧ (@Ne Nat C D)) →
      wpAny (model prog w) A (eval elt (compEnvC scope cl C env)) (LCg.CompEnd h₀ L m { s with heap := h, toks := tk } I oI C oC D (LCg.lst ys) S (fun y news' => news' = news ∧ J (i + 1) (ys ++ [y]))) E' { s with heap := h, toks := tk })
    (fin : ∀ ys, J n ys → Fin ys news) : LCg.CompRest prog w A h₀ L m env elt x scope cl s S P Fin n 0 [] news := by
  have key : ∀ (k i : Nat) (ys : List Value), i + k = n → J i ys → LCg.CompRest prog w A h₀ L m env elt x scope cl s S P Fin k i ys news := by
    intro k
    induction k with
    | zero =>
      intro i ys e hJ
      have : i = n := by omega
      subst this
      exact LCg.CompRest.zero (fin ys hJ)
    | succ k ih =>
      intro i ys e hJ
      refine LCg.CompRest.succ fun v I oI C oC D m₂ h tk E' hv hC hx F N off ne => ?_
      refine wpAny_mono (turn i v I oI C oC D m₂ ys h tk E' (by omega) hJ hv hC hx F N off ne) (fun y s₂ q => ?_) fun _ _ q => q
      obtain ⟨h', tk', nw, e1, F', N', off', hS, hn, hJ'⟩ := q
      subst hn
      exact ⟨h', tk', nw, e1, F', N', off', hS, ih (i + 1) _ (by omega) hJ'⟩
  exact key n 0 [] (by omega) h0
end
/-- a comprehension over a text's signs -/
def TextSrc (prog : Program) (w : World) (A : Around) (h₀ : Heap) (L : Addr) (m : Str → Option Value) (env : Env) (elt : Expr) (x : Str) (scope : Scope) (cl : List (Str × Addr)) (Q : Value → Shared → Prop) (xv : Value) (s₁ : Shared) : Prop :=
  ∃ y ty news, xv = .str y ty ∧ A.handled = none ∧ Fr h₀ L s₁.heap m ∧ News h₀ L s₁.heap news ∧ y.cps.size ≤ sizeLine ∧
    ∀ g, LCg.CompRest prog w A h₀ L m env elt x scope cl { s₁ with heap := g } (fun _ => True) (SignAt y) (LCg.FinE h₀ L m { s₁ with heap := g } Q) y.cps.size 0 [] news
theorem comp_text {prog : Program} {w : World} {A : Around} {E : Value → Shared → Prop} {h₀ : Heap} {L : Addr} {m : Str → Option Value} {env : Env} {elt iter : Expr} {x : Str} {px : Pos} {scope : Scope} {cl : List (Str × Addr)} {s : Shared} {pos : Pos} {Q : Value → Shared → Prop}
    (_ : Fr h₀ L s.heap m) (hclos : closureFor scope env = pure cl) (hcell : ∀ y ∈ scope.names, y.2 ≠ .cell) (hkind : scope.kind = .function)
    (hnames : ∀ y ∈ scope.names, y.2 = .local → scope.names.lookup y.1 = some .local) (hx : scope.names.lookup x = some .local)
    (h : wpAny (model prog w) A (eval iter env) (TextSrc prog w A h₀ L m env elt x scope cl Q) E s)
    (hs : ∀ x, foldedSetIterable iter env x = pure x := by intro _; rfl) :
    wpAny (model prog w) A (eval (.ListComp elt [⟨.Name x px, iter, [], 0⟩] scope pos) env) Q E s := by
  rw [eval_ListComp]
  refine wpAny_comprehension_free (use := none) rfl hs hclos hkind hnames (wpAny_mono h (fun xv s₁ h₁ => ?_) fun _ _ e => e)
  obtain ⟨y, ty, news, rfl, hh, F, N, hsz, R⟩ := h₁
  have step : ∀ (o : Obj) (St : Nat → Heap → Prop), Walks prog w A s₁.heap.objs.size [s₁.heap.objs.size] [s₁.heap.objs.size] y.cps.size (SignAt y) St → (∀ i h, St i h → ∃ o, h.get? s₁.heap.objs.size = some o) →
      (∀ i (h h' : Heap) o, St i h → h.get? s₁.heap.objs.size = some o → h'.get? s₁.heap.objs.size = some o → St i h') → St 0 (s₁.heap.push o) → _ := fun o St W hI hSt h0 =>
    LCg.block_U (E := E) (s₂ := { s₁ with heap := s₁.heap.push o }) (iter := iter) (px := px) (pos := pos) W hsz hI (fun i h h' o _ st e e' _ _ _ => hSt i h h' o st e e') hcell hkind hx h0
      (fun b hb => by rw [List.mem_singleton.mp hb]; show _ < (s₁.heap.push _).objs.size; rw [Heap.size_push]; exact Nat.lt_succ_self _)
      (F.keeps fun _ _ e => Heap.get?_push_of_some _ e) (N.grown fun _ _ e => Heap.get?_push_of_some _ e) (Nat.ne_of_lt F.ns.lt) (next_is_new F) (fun q hq => Nat.ne_of_lt (Heap.lt_size (N q hq).1)) trivial (R _)
      (RR := compPost (model prog w) A E none Q) (by
        intro D C h tk m' ys news' F' N' o1 hn hC₀ hD₀ hCL hDL hCD offC fin
        refine ⟨m', hn, fun h'' hs'' => fin D h'' tk (F'.change hs'' hCL hC₀) (fun q hq => ?_) o1⟩
        refine ⟨hs''.extBut _ _ ?_ (N' q hq).1, (N' q hq).2⟩
        cases List.mem_cons.mp hq with
        | inl e => subst e; exact Ne.symm hCD
        | inr hq => exact offC q hq)
  have same : ∀ (T : String) (i : Nat) (h h' : Heap) (o : Obj), h.IsStrIter s₁.heap.objs.size T y ty i → h.get? s₁.heap.objs.size = some o → h'.get? s₁.heap.objs.size = some o → h'.IsStrIter s₁.heap.objs.size T y ty i := fun T i h h' o st e e' => by
    obtain ⟨o', q, r⟩ := st
    rw [e] at q; cases q
    exact ⟨o, e', r⟩
  cases ha : y.cps.all (· < 128)
  · exact wpAny_pyIter_wide ha (step _ _ (Walks.strWide hh _ y ty) (fun i h st => let ⟨o, e, _⟩ := st; ⟨o, e⟩) (fun i h h' o st e e' => same _ i h h' o st e e') ⟨_, Heap.get?_push_size _ rfl, rfl, rfl⟩)
  · exact wpAny_pyIter_ascii ha (step _ _ (Walks.strAscii hh _ y ty) (fun i h st => let ⟨o, e, _⟩ := st; ⟨o, e⟩) (fun i h h' o st e e' => same _ i h h' o st e e') ⟨_, Heap.get?_push_size _ rfl, rfl, rfl⟩)
/-- one more item at the end of a list of the ledger -/
theorem news_push {h₀ h h' : Heap} {L D : Addr} {vs : List Value} {ep : Nat} {v : Value} {own : List (Addr × Obj)} (N : News h₀ L h ((D, listOf vs.toArray ep) :: own)) (ho : ∀ q ∈ own, q.1 ≠ D) (hs : Heap.SameBut D h h') (hD : h'.get? D = some { cls := .type "list", data := .seq (vs.toArray.push v) (ep + 1) }) :
    News h₀ L h' ((D, listOf (vs ++ [v]).toArray (ep + 1)) :: own) := by
  intro q hq
  cases List.mem_cons.mp hq with
  | inl e =>
    subst e
    refine ⟨?_, (N _ (.head _)).2⟩
    rw [hD, List.push_toArray]
  | inr hq => exact ⟨(hs.2 _ (ho q hq)).trans (N _ (.tail _ hq)).1, (N _ (.tail _ hq)).2⟩
/-- objects made by a call go onto the ledger -/
theorem news_more {h₀ hc h : Heap} {L : Addr} {m : Str → Option Value} {news own : List (Addr × Obj)} (F : Fr h₀ L hc m) (N : News h₀ L h news) (ho : ∀ q ∈ own, h.get? q.1 = some q.2 ∧ hc.get? q.1 = none) : News h₀ L h (news ++ own) := by
  intro q hq
  cases List.mem_append.mp hq with
  | inl hq => exact N q hq
  | inr hq =>
    refine ⟨(ho q hq).1, ?_, ?_⟩
    · intro e
      obtain ⟨o, _, _, e2, _⟩ := F.ns
      have := (ho q hq).2
      rw [e, e2] at this
      cases this
    · cases e : h₀.get? q.1 with
      | none => rfl
      | some o =>
        have := (ho q hq).2
        rw [F.keep _ _ e] at this
        cases this
/-- the end of a turn of a for: the ledger may have grown, the iterator's own things stand -/
def TurnEnd (h₀ : Heap) (L : Addr) (own : List (Addr × Obj)) (Jn : (Str → Option Value) → List (Addr × Obj) → Prop) (s₁ : Shared) (f : Flow) (s₂ : Shared) : Prop :=
  f = .next ∧ ∃ h' tk m₂ news₂, s₂ = { s₁ with heap := h', toks := tk } ∧ Fr h₀ L h' m₂ ∧ News h₀ L h' (news₂ ++ own) ∧ (∀ q ∈ own, ∀ r ∈ news₂, q.1 ≠ r.1) ∧ Jn m₂ news₂
theorem for_list {prog : Program} {w : World} {A : Around} {E : Value → Shared → Prop} {s : Shared} {h₀ : Heap} {env : Env} {x : Str} {body : List Stmt} {Q : Flow → Shared → Prop} {l : Addr} {its : List Value} {ns : List Int} {m₀ : Str → Option Value} {news : List (Addr × Obj)}
    (J : Nat → (Str → Option Value) → List (Addr × Obj) → Prop) (hh : A.handled = none) (hl : s.heap.IsList l its.toArray) (hl0 : h₀.get? l = none) (hlL : l ≠ env.locals) (hi : IntsAre its ns)
    (F : Fr h₀ env.locals s.heap m₀) (N : News h₀ env.locals s.heap news) (hnl : ∀ q ∈ news, q.1 ≠ l) (hj : J 0 m₀ news)
    (turn : ∀ i n t m₁ news₁ h tk own, ns[i]? = some n → J i m₁ news₁ → (∀ q ∈ own, ∀ r ∈ news₁, q.1 ≠ r.1) → Fr h₀ env.locals h (fun y => if y = x then some (.int n t) else m₁ y) → News h₀ env.locals h (news₁ ++ own) →
      wpAny (model prog w) A (execs body env) (TurnEnd h₀ env.locals own (J (i + 1)) { s with heap := h, toks := tk }) E { s with heap := h, toks := tk })
    (done : ∀ m₁ news₁ h tk, J ns.length m₁ news₁ → Fr h₀ env.locals h m₁ → News h₀ env.locals h news₁ → Q .next { s with heap := h, toks := tk }) :
    wpAny (model prog w) A (pyIter (.ref l)) (fun it s₂ => LoopAtV prog w A h₀ env x body Q E it s₂) E s := by
  have hlt : l < s.heap.objs.size := by obtain ⟨_, e, _⟩ := id hl; exact Heap.lt_size e
  refine wpAny_pyIter_list hl ?_
  have W := Walks.list (prog := prog) (w := w) hh s.heap.objs.size l (Nat.ne_of_lt hlt) its.toArray
  have hlen : its.toArray.size = ns.length := by rw [List.size_toArray, hi.length]
  rw [hlen] at W
  have up : ∀ (o : Obj) b ob, s.heap.get? b = some ob → (s.heap.push o).get? b = some ob := fun o b ob e => Heap.get?_push_of_some _ e
  refine ⟨_, _, _, ns.length, _, _, m₀, news, fun i m₁ news₁ => (∀ q ∈ news₁, q.1 ≠ l) ∧ J i m₁ news₁, rfl, W, ?_, ?_, ?_, ⟨⟨_, Heap.get?_push_size _ rfl, rfl, rfl⟩, let ⟨o, e, r⟩ := hl; ⟨o, up _ _ _ e, r⟩⟩, F.push _, fun q hq => ⟨up _ _ _ (N q hq).1, (N q hq).2⟩, ⟨hnl, hj⟩, ?_, ?_⟩
  · intro hm
    cases List.mem_cons.mp hm with
    | inl e => exact absurd F.ns.lt (e ▸ Nat.lt_irrefl _)
    | inr e => exact hlL (List.mem_singleton.mp e).symm
  · intro b hb
    rw [List.mem_singleton.mp hb]
    exact next_is_new F
  · intro q hq e
    exact absurd (Heap.lt_size (N q hq).1) ((List.mem_singleton.mp e) ▸ Nat.lt_irrefl _)
  · rintro i v m₁ news₁ s₁ own ⟨hh', tk', rfl⟩ hin hP ⟨hnl₁, hJ⟩ hoff hown hown2 hown3 hst F₁ N₁
    obtain ⟨t, ht⟩ := ints_item hi (k := i) hin
    have hv : v = .int (ns[i]'hin) t := by
      have hP' : its[i]? = some v := by simpa using hP
      rw [ht] at hP'
      exact (Option.some.inj hP').symm
    subst hv
    have sep : ∀ q ∈ own, ∀ r ∈ news₁, q.1 ≠ r.1 := fun q hq r hr e => by
      cases List.mem_cons.mp (hown q hq) with
      | inl h1 => exact hoff r hr (by rw [← e, h1]; exact List.mem_singleton.mpr rfl)
      | inr h1 => exact hnl₁ r hr (by rw [← e]; exact List.mem_singleton.mp h1)
    refine wpAny_mono (turn i _ t m₁ news₁ hh' tk' own (List.getElem?_eq_getElem hin) hJ sep F₁ (fun q hq => N₁ q ((List.mem_append.mp hq).elim (fun h => List.mem_append_right _ h) fun h => List.mem_append_left _ h))) (fun f s₂ q => ?_) fun _ _ e => e
    obtain ⟨rfl, h', tk, m₂, news₂, e, F₂, N₂, sep₂, hJ₂⟩ := q
    obtain ⟨oI, hI, _⟩ := hst.1
    obtain ⟨ol, hol, _⟩ := hst.2
    have mI := hown3 _ (.head _) (next_is_new F) oI hI
    have ml := hown3 l (.tail _ (.head _)) hl0 ol hol
    refine ⟨rfl, h', tk, m₂, news₂, e, F₂, fun q hq => N₂ q ((List.mem_append.mp hq).elim (fun h => List.mem_append_right _ h) fun h => List.mem_append_left _ h), fun q hq e => ?_, fun q hq e => ?_, hJ₂⟩
    · exact sep₂ _ mI q hq (List.mem_singleton.mp e).symm
    · exact sep₂ _ ml q hq e.symm
  · rintro h' tk m' news' F' N' _ ⟨_, hJ⟩
    exact done m' news' h' tk hJ F' N'
theorem rows_len {prog : Program} {w : World} {A : Around} {E : Value → Shared → Prop} {s : Shared} {h₀ : Heap} {L D : Addr} {its : List Value} {ep k : Nat} {rest : List (Addr × Obj)} {Q : Value → Shared → Prop} (N : News h₀ L s.heap ((D, listOf its.toArray ep) :: rest)) (hk : its.length = k) (hb : k ≤ 1000)
    (h : Q (.int k (s.toks + 1)) { s with toks := s.toks + 1 + 1 }) : wpAny (model prog w) A (call (.builtin "len") [.ref D]) Q E s := by
  refine Calls.call_len_list ⟨_, N.get (.head _), rfl, ep, rfl⟩ (by rw [List.size_toArray]; omega) ?_
  rw [List.size_toArray, hk]; exact h
theorem rows_last {prog : Program} {w : World} {A : Around} {E : Value → Shared → Prop} {s : Shared} {h₀ : Heap} {L D : Addr} {its : List Value} {x : Value} {ep : Nat} {rest : List (Addr × Obj)} {value slice : Expr} {u : Tok} {Q : Value → Shared → Prop} (N : News h₀ L s.heap ((D, listOf (its ++ [x]).toArray ep) :: rest)) (h : Q x s)
    (hs : subscripted slice false (.ref D) (.int (-1) u) = operate [.ref D, .int (-1) u] (getItem (.ref D) (.int (-1) u)) := by with_unfolding_all rfl) (hg : ∀ r, letTemporaryGo value (.ref D) r = pure () := by intro _; with_unfolding_all rfl) :
    wpAny (model prog w) A (subscriptTail value slice (.ref D) (.int (-1) u)) Q E s := by
  have hl : s.heap.IsList D (its ++ [x]).toArray := ⟨_, N.get (.head _), rfl, ep, rfl⟩
  refine subscriptTail_builtin hl.typeIs slot_list_getitem.lookup (wpAny_getItem_list_neg hl (by decide) ?_ (by decide) ?_ h) hs hg
  · rw [List.size_toArray, List.length_append, List.length_singleton]; omega
  · rw [List.size_toArray, List.length_append, List.length_singleton, show (-1 + ((its.length + 1 : Nat) : Int)).toNat = its.length from by omega]
    simp
/-- what is new to the part of a heap that stays is new to the heap -/
theorem new_of {h g : Heap} {k b : Addr} (hG : ∀ b o, b ≠ k → h.get? b = some o → g.get? b = some o) (hb : b ≠ k) (hn : g.get? b = none) : h.get? b = none := by
  cases e : h.get? b with
  | none => rfl
  | some o => exact absurd ((hG b o hb e).symm.trans hn) (by simp)
/-- what a call made goes into the ledger -/
theorem news_made {h₀ h h' : Heap} {L : Addr} {m : Str → Option Value} {own news : List (Addr × Obj)} (F : Fr h₀ L h m) (ho : ∀ q ∈ own, h'.get? q.1 = some q.2 ∧ h.get? q.1 = none) (N : News h₀ L h' news) : News h₀ L h' (news ++ own) := by
  intro q hq
  cases List.mem_append.mp hq with
  | inl hq => exact N q hq
  | inr hq =>
    refine ⟨(ho q hq).1, ?_, ?_⟩
    · intro e
      obtain ⟨o, _, _, eo, _⟩ := F.ns
      rw [← e, (ho q hq).2] at eo
      cases eo
    · cases e : h₀.get? q.1 with
      | none => rfl
      | some o => exact absurd ((F.keep _ _ e).symm.trans (ho q hq).2) (by simp)
theorem news_most {h₀ h h' : Heap} {L k : Addr} {news : List (Addr × Obj)} (N : News h₀ L h news) (hk : ∀ q ∈ news, q.1 ≠ k) (st : ∀ b o, b ≠ k → h.get? b = some o → h'.get? b = some o) : News h₀ L h' news := fun q hq => ⟨st _ _ (hk q hq) (N q hq).1, (N q hq).2⟩
end Mine
namespace Mine
def JP (x : Str) (t : Tok) (l r : List Nat) (n : Nat) (m : Str → Option Value) (news : List (Addr × Obj)) : Prop :=
  ∃ (i : Int) (D : Str) (d : List Nat) (t1 t2 t3 : Tok), m (Str.ofString "resp") = some (.str x t) ∧ m (Str.ofString "n") = some (.int x.length t3) ∧ m (Str.ofString "i") = some (.int i t1) ∧ m (Str.ofString "dirname") = some (.str D t2) ∧
    5 ≤ i ∧ i ≤ x.length ∧ Box (D = txt d ∧ n = x.length - i.toNat ∧ d ++ unq (l.drop i.toNat) = unq r ∧ news = []) ∧ D.length ≤ i.toNat
theorem jp_one {l d r : List Nat} {k : Nat} (hk : k < l.length) (h : d ++ unq (l.drop k) = unq r) (hc : l[k] ≠ 34) : (d ++ [l[k]]) ++ unq (l.drop (k + 1)) = unq r := by
  rw [← h, List.drop_eq_getElem_cons hk, unq_plain hc]; simp
theorem jp_two {l d r : List Nat} {k : Nat} (hk : k + 1 < l.length) (h : d ++ unq (l.drop k) = unq r) (hc : l[k] = 34) (hc' : l[k + 1] = 34) : (d ++ [34]) ++ unq (l.drop (k + 2)) = unq r := by
  rw [← h, List.drop_eq_getElem_cons (by omega : k < l.length), List.drop_eq_getElem_cons hk, hc, hc', unq_two]; simp
theorem jp_end {l d r : List Nat} {k : Nat} (hk : k + 1 = l.length) (h : d ++ unq (l.drop k) = unq r) (hc : l[k] = 34) : d = unq r := by
  rw [← h, List.drop_eq_getElem_cons (by omega : k < l.length), List.drop_of_length_le (by omega : l.length ≤ k + 1), hc, unq_last]; simp
theorem jp_stop {l d r : List Nat} {k : Nat} (hk : k + 1 < l.length) (h : d ++ unq (l.drop k) = unq r) (hc : l[k] = 34) (hc' : l[k + 1] ≠ 34) : d = unq r := by
  rw [← h, List.drop_eq_getElem_cons (by omega : k < l.length), List.drop_eq_getElem_cons hk, hc, unq_stop hc']; simp
theorem item_is {l : List Nat} {i : Int} (h0 : 0 ≤ i) (h1 : i.toNat < l.length) : ((Txt.item (txt l) i == Str.ofString "\"") = true) ↔ l[i.toNat] = 34 := by
  rw [txt_item h0 h1, lit_quote, beq_iff_eq]
  exact ⟨fun e => by simpa using txt_inj e, fun e => by rw [e]⟩
section
local macro_rules | `(tactic| walk_at "exec While Compare cons nil") => `(tactic| refine Halt.of ?_)
variable {w : World} {p : Program} {loose : List Str} {mean : ExcName → Option Value} {mg mb : Str → Option Value}
theorem p257 (r : List Nat) (t : Tok) (h : Heap) (hrl : r.length ≤ 1048000) : PureAt w (hd.heap_39 w.params) p loose mean mg mb 60 1 [.str (txt (50 :: 53 :: 55 :: 32 :: 34 :: r)) t] h (fun v _ => ∃ t', v = .str (txt (unq r)) t') := by
  unfold PureAt
  w_top off
  k_fill
  generalize hl : 50 :: 53 :: 55 :: 32 :: 34 :: r = l
  have hln : l.length = r.length + 5 := by rw [← hl]; rfl
  generalize hx : txt l = x
  intro A A₀ base h₀ outer env L m s Q E hs B F X T hA hf hke hh hdp hu hret
  subst hs
  k_dflt (refine' enter_pure (binds := [(Str.ofString "resp", Value.str x t)]) B F X T hA hf hke ?ko ?kd ?kc ?kr ?kb ?kl ?c5 ?c2 ?c3 ?c4 ?_; (case ko => exact (X.keeps F.keep) _ _ (by k_is)); (case kd => exact rfl); (case kc => exact codeRec_of (X.keeps F.keep) (by k_is)); (case kr => omega); (case kb => exact BindsTo.of_eq rfl); (case kl => exact locs rfl); (case c5 => decide); (case c2 => exact rfl); (case c3 => exact rfl); (case c4 => exact rfl))
  intro L' h' F' N' B' X' T'
  clear B F X T
  have hxl : x.length = l.length := by rw [← hx, txt_len]
  have e1 : (Txt.slice x none (some 3) != Str.ofString "257") = false := by
    rw [← hx, txt_to (by decide) (by omega), ← hl, lit_257]; exact bne_self_eq_false _
  have e2 : (Txt.slice x (some 3) (some 5) != Str.ofString " \"") = false := by
    rw [← hx, txt_mid (by decide) (by decide) (by omega), ← hl, lit_sq]; exact bne_self_eq_false _
  have hx9 : x.length ≤ 1048576 := by omega
  have hx5 : 5 ≤ x.length := by omega
  have hl' := Box.mk hl
  have hx' := Box.mk hx
  have hxl' := Box.mk hxl
  have hret' := Box.mk hret
  clear hl hx hxl hret hln hA hf hke
  clear hrl
  k_steps
  refine Halt.go ?_
  rename Fr _ _ _ _ => F1
  rename News _ _ _ _ => N1
  refine While_inv2 (n₀ := x.length - 5) (JP x t l r) F1 N1 ⟨5, Str.ofString "", [], _, _, _, rfl, rfl, rfl, rfl, ?_⟩ ?_
  · refine ⟨by omega, by omega, ⟨⟨lit_empty, rfl, ?_, rfl⟩⟩, by rw [lit_empty, txt_len]; exact Nat.zero_le _⟩
    rw [← hl'.out, show List.drop (5 : Int).toNat (50 :: 53 :: 55 :: 32 :: 34 :: r) = r from rfl, List.nil_append]
  · rintro n m₁ news₁ h₁ tk₁ F₁ N₁ ⟨i, D, d, t1, t2, t3, a1, a2, a3, a4, b1, b2, b3, b5⟩
    have F2 := fr_see4 F₁ a1 a2 a3 a4
    clear F₁ a1 a2 a3 a4 F1 N1
    k_steps
    · dsimp only [WhileStep2]
      k_steps
      dsimp only
      rename Fr _ _ _ _ => F9
      rename (Txt.item x i == _) = true => g1
      have hx := hx'.out
      have hxl := hxl'.out
      obtain ⟨⟨hD, hn, hj, hnw⟩⟩ := b3
      subst hx
      refine hret'.out _ _ _ F9.keep ⟨t2, ?_⟩
      rw [hD, jp_end (by omega) hj ((item_is (by omega) (by omega)).mp g1)]
    · dsimp only [WhileStep2]
      k_steps
      dsimp only
      rename Fr _ _ _ _ => F9
      rename (Txt.item x i == _) = true => g1
      rename (Txt.item x (i + 1) != _) = true => g2
      have hx := hx'.out
      have hxl := hxl'.out
      obtain ⟨⟨hD, hn, hj, hnw⟩⟩ := b3
      subst hx
      have e3 : (i + 1).toNat = i.toNat + 1 := by omega
      have g3 : ¬ l[(i + 1).toNat]'(by omega) = 34 := fun q => by
        have := (item_is (l := l) (i := i + 1) (by omega) (by omega)).mpr q
        rw [bne, this] at g2; exact absurd g2 (by decide)
      refine hret'.out _ _ _ F9.keep ⟨t2, ?_⟩
      rw [hD, jp_stop (by omega) hj ((item_is (by omega) (by omega)).mp g1) (by simpa only [e3] using g3)]
    · dsimp only [WhileStep2]
      rename Fr _ _ _ _ => F9
      rename News _ _ _ _ => N9
      rename (Txt.item x i == _) = true => g1
      rename (Txt.item x (i + 1) != _) = false => g2
      have hx := hx'.out
      have hxl := hxl'.out
      obtain ⟨⟨hD, hn, hj, hnw⟩⟩ := b3
      have e3 : (i + 1).toNat = i.toNat + 1 := by omega
      have c1 : l[i.toNat]'(by omega) = 34 := (item_is (by omega) (by omega)).mp (by rw [hx]; exact g1)
      have g3 : l[(i + 1).toNat]'(by omega) = 34 := (item_is (by omega) (by omega)).mp (by rw [hx]; rw [bne] at g2; simpa using g2)
      have e4 : Txt.item x i = txt [34] := by rw [← hx, txt_item (by omega) (by omega), c1]
      refine ⟨_, _, _, _, x.length - (i + 1 + 1).toNat, rfl, F9, N9, by omega, i + 1 + 1, D ++ Txt.item x i, d ++ [34], _, _, _, rfl, rfl, rfl, rfl, by omega, by omega, ⟨⟨?_, rfl, ?_, hnw⟩⟩, ?_⟩
      · rw [hD, e4, txt_app]
      · rw [show (i + 1 + 1).toNat = i.toNat + 2 from by omega]
        exact jp_two (by omega) hj c1 (by simpa only [e3] using g3)
      · rw [strLen_append]; omega
    · dsimp only [WhileStep2]
      rename Fr _ _ _ _ => F9
      rename News _ _ _ _ => N9
      rename (Txt.item x i == _) = false => g1
      have hx := hx'.out
      have hxl := hxl'.out
      obtain ⟨⟨hD, hn, hj, hnw⟩⟩ := b3
      have c1 : l[i.toNat]'(by omega) ≠ 34 := fun q => by
        have := (item_is (l := l) (i := i) (by omega) (by omega)).mpr q
        rw [hx] at this; rw [this] at g1; exact absurd g1 (by decide)
      have hil : i.toNat < l.length := by omega
      have e4 : Txt.item x i = txt [l[i.toNat]'hil] := (congrArg (fun y => Txt.item y i) hx.symm).trans (txt_item (by omega) hil)
      refine ⟨_, _, _, _, x.length - (i + 1).toNat, rfl, F9, N9, by omega, i + 1, D ++ Txt.item x i, d ++ [l[i.toNat]'hil], _, _, _, rfl, rfl, rfl, rfl, by omega, by omega, ⟨⟨?_, rfl, ?_, hnw⟩⟩, ?_⟩
      · rw [hD, e4, txt_app]
      · rw [show (i + 1).toNat = i.toNat + 1 from by omega]
        exact jp_one (by omega) hj c1
      · rw [strLen_append]; omega
    · dsimp only [WhileStep2]
      rename Fr _ _ _ _ => F9
      obtain ⟨⟨hD, hn, hj, hnw⟩⟩ := b3
      have hxl := hxl'.out
      rw [List.drop_of_length_le (by omega), unq_nil, List.append_nil] at hj
      refine hret'.out _ _ _ F9.keep ⟨t2, ?_⟩
      rw [hD, hj]
end
end Mine
namespace Mine
/-- the table of _digits2int's code, the inner def's code in it -/
structure Tab23 (h : Heap) (c' : Addr) : Prop where
  tab : h.get? 23 = some (tabObj #[rawInt 20, rawInt 4, .ref c'])
  code : h.CodeRec (.ref c') (Str.ofString "_digits2int.<locals>.inner")
theorem Tab23.keeps {h h' : Heap} {c' : Addr} (x : Tab23 h c') (k : h.StaysIn h') : Tab23 h' c' := ⟨k _ _ x.tab, x.code.keeps k⟩
/-- the inner def of _digits2int as it lies, its cells, its digits -/
structure InnerD (K : Frag) (h : Heap) (f cN cI cD c' a : Addr) (n : Nat) (tn : Tok) (ds : List Nat) : Prop where
  fn : ∃ doc pm ctv, h.get? f = some (fnMade (Str.ofString "inner") (Str.ofString "_digits2int.<locals>.inner") (nestOf K 28).1 (nestOf K 28).2.1 (nestOf K 28).2.2 [(Str.ofString "n", cN), (Str.ofString "inner", cI), (Str.ofString "digits", cD)] doc pm c' ctv)
  code : h.CodeRec (.ref c') (Str.ofString "_digits2int.<locals>.inner")
  cn : CellHas h cN (.int n tn)
  ci : CellHas h cI (.ref f)
  cd : CellHas h cD (.ref a)
  nums : Nums h a ds
theorem InnerD.keeps {K : Frag} {h h' : Heap} {f cN cI cD c' a : Addr} {n : Nat} {tn : Tok} {ds : List Nat} (x : InnerD K h f cN cI cD c' a n tn ds) (k : h.StaysIn h') : InnerD K h' f cN cI cD c' a n tn ds :=
  ⟨let ⟨d, p, c, e⟩ := x.fn; ⟨d, p, c, k _ _ e⟩, x.code.keeps k, x.cn.keeps k, x.ci.keeps k, x.cd.keeps k, x.nums.keeps k⟩
section
local macro_rules | `(tactic| walk_at "binaryOp LShift int int") => `(tactic| refine Halt.of ?_)
local macro_rules | `(tactic| walk_at "call ref") => `(tactic| refine Halt.of ?_)
local macro_rules | `(tactic| walk_at "eval Name") => `(tactic| (k_here; kc_free; k_dflt (refine' free_name ?F ?c ?v ?_ ?a ?b; (case a => rfl); (case b => rfl); (case F => k_asm); (case c => exact rfl); (case v => k_asm); k_whole)))
local macro_rules | `(tactic| walk_at "callWith ref") => `(tactic| (k_here; (rename FnAt _ _ => fA'); (rename Fr _ _ _ _ => kF'); k_dflt (refine' callWith_F ?k1 ?_; (case k1 => exact fnAt_keeps fA' kF'.keep); k_whole)))
local macro_rules | `(tactic| walk_at "FnAt") => `(tactic| ((rename FnAt _ _ => fA'); (rename Fr _ _ _ _ => kF'); exact fnAt_keeps fA' kF'.keep))
local macro_rules | `(tactic| walk_at "subscriptTail Name Name ref int") => `(tactic| (k_here; k_dflt (refine' nums_item ?F ?x ?h0 ?hk ?_ ?hs ?hg; (case F => k_asm); (case x => k_asm); (case h0 => omega); (case hk => omega); (case hs => with_unfolding_all rfl); (case hg => (intro _; with_unfolding_all rfl)); k_whole); intro t9))
variable {w : World} {p : Program} {loose : List Str} {mean : ExcName → Option Value} {mg mb : Str → Option Value}
theorem d2i_inner (k : Nat) : ∀ (h : Heap) (f cN cI cD c' a : Addr) (n : Nat) (tn : Tok) (ds : List Nat) (lo hi : Int) (tl th : Tok), InnerD (hd.heap_39 w.params) h f cN cI cD c' a n tn ds → (∀ d ∈ ds, d < 2 ^ n) → n ≤ 16 → 0 ≤ lo → lo < hi → hi ≤ ds.length → hi - lo ≤ 2 ^ k →
    PureAt w (hd.heap_39 w.params) p loose mean mg mb f (k + 1) [.int lo tl, .int hi th] h (fun v _ => ∃ t', v = .int (val n ((ds.drop lo.toNat).take (hi.toNat - lo.toNat)) : Nat) t') := by
  induction k with
  | zero =>
    intro h f cN cI cD c' a n tn ds lo hi tl th I hds hn h1 h2 h3 h4
    unfold PureAt
    w_top off
    k_fill
    intro A A₀ base h₀ outer env L m s Q E hs B F X T hA hf hke hh hdp hu hret
    subst hs
    obtain ⟨dc, pm, ctv, hfn⟩ := I.fn
    rw [nestOf_eq (K := hd.heap_39 w.params) (f := 28) (by k_is) rfl] at hfn
    dsimp only at hfn
    have fA := fn_at hfn rfl
    k_dflt (refine' enter_pure (binds := [(Str.ofString "L", Value.int lo tl), (Str.ofString "R", Value.int hi th)]) B F X T hA hf hke hfn ?kd I.code ?kr ?kb ?kl ?c5 ?c2 ?c3 ?c4 ?_; (case kd => exact rfl); (case kr => omega); (case kb => exact BindsTo.of_eq rfl); (case kl => exact locs rfl); (case c5 => decide); (case c2 => exact rfl); (case c3 => exact rfl); (case c4 => exact rfl))
    intro L' h' F' N' B' X' T'
    have I1 := I.cn
    have I2 := I.ci
    have I3 := I.cd
    have I4 := I.nums
    clear B F X T hA hf hke hfn
    have g0 : lo + 1 = hi := by omega
    k_steps
    · dsimp only
      refine hret _ _ _ F'.keep ⟨_, congrArg (fun z : Nat => Value.int z _) ?_⟩
      rw [show hi.toNat - lo.toNat = 1 from by omega, seg_one (by omega)]
    · rename lo + 1 ≠ hi => g1
      exact absurd g0 g1
  | succ k IH =>
  intro h f cN cI cD c' a n tn ds lo hi tl th I hds hn h1 h2 h3 h4
  unfold PureAt
  w_top off
  k_fill
  intro A A₀ base h₀ outer env L m s Q E hs B F X T hA hf hke hh hdp hu hret
  subst hs
  obtain ⟨dc, pm, ctv, hfn⟩ := I.fn
  rw [nestOf_eq (K := hd.heap_39 w.params) (f := 28) (by k_is) rfl] at hfn
  dsimp only at hfn
  have fA := fn_at hfn rfl
  k_dflt (refine' enter_pure (binds := [(Str.ofString "L", Value.int lo tl), (Str.ofString "R", Value.int hi th)]) B F X T hA hf hke hfn ?kd I.code ?kr ?kb ?kl ?c5 ?c2 ?c3 ?c4 ?_; (case kd => exact rfl); (case kr => omega); (case kb => exact BindsTo.of_eq rfl); (case kl => exact locs rfl); (case c5 => decide); (case c2 => exact rfl); (case c3 => exact rfl); (case c4 => exact rfl))
  intro L' h' F' N' B' X' T'
  have I1 := I.cn
  have I2 := I.ci
  have I3 := I.cd
  have I4 := I.nums
  clear B F X T hA hf hke hfn
  k_steps
  · dsimp only
    rename lo + 1 = hi => g1
    refine hret _ _ _ F'.keep ⟨_, congrArg (fun z : Nat => Value.int z _) ?_⟩
    rw [show hi.toNat - lo.toNat = 1 from by omega, seg_one (by omega)]
  · refine Halt.go ?_
    rename Fr _ _ _ _ => F9
    rename News _ _ _ _ => N9
    rename lo + 1 ≠ hi => g1
    have e5 : (lo + hi).fdiv (2 ^ Int.toNat 1) = (lo + hi) / 2 := by rw [Int.fdiv_eq_ediv_of_nonneg _ (by decide)]; rfl
    generalize (lo + hi).fdiv (2 ^ Int.toNat 1) = mid at *
    generalize hsh : (mid - lo) * (n : Int) = sh at *
    have hfit := I4.fit
    have m1 : lo < mid := by omega
    have m2 : mid < hi := by omega
    have q1 : (mid - lo) * (n : Int) ≤ 1048576 * 16 := Int.mul_le_mul (by omega) (by omega) (by omega) (by omega)
    have q0 : 0 ≤ (mid - lo) * (n : Int) := Int.mul_nonneg (by omega) (by omega)
    have e6 : sh.toNat = (mid.toNat - lo.toNat) * n := by
      rw [← hsh, show mid - lo = ((mid.toNat - lo.toNat : Nat) : Int) from by omega, ← Int.natCast_mul, Int.toNat_natCast]
    have e7 := val_split n ds lo.toNat mid.toNat hi.toNat (by omega) (by omega)
    rw [show min mid.toNat ds.length = mid.toNat from by omega, ← e6] at e7
    have b1 := seg_lt hds mid.toNat (hi.toNat - mid.toNat)
    have b3 : n * (hi.toNat - mid.toNat) ≤ 16 * 1048576 := Nat.mul_le_mul hn (by omega)
    have p1 : (2 : Int) ^ (k + 1) = 2 * 2 ^ k := by rw [Int.pow_succ]; omega
    refine pure_call B' F9 N9 X' T' rfl rfl hh (by omega) (by omega) (IH _ f cN cI cD c' a n tn ds _ _ _ _ (I.keeps F9.keep) hds hn (by omega) (by omega) (by omega) (by omega)) ?_
    intro r h2 tk2 st2 F2 N2 ⟨t2, hr⟩
    subst hr
    generalize val n (List.take (hi.toNat - mid.toNat) (List.drop mid.toNat ds)) = V1 at *
    clear F9 N9
    k_steps
    refine Halt.go ?_
    refine lshift_int (by omega) (Int.le_trans (Int.add_le_add (Int.ofNat_le.mpr (Nat.le_trans (bits_le b1) b3)) (by omega : sh ≤ 1048576 * 16)) (by decide)) ?_
    k_steps
    refine Halt.go ?_
    rename Fr _ _ _ _ => F9
    rename News _ _ _ _ => N9
    refine pure_call B' F9 N9 X' T' rfl rfl hh (by omega) (by omega) (IH _ f cN cI cD c' a n tn ds _ _ _ _ (I.keeps F9.keep) hds hn (by omega) (by omega) (by omega) (by omega)) ?_
    intro r h3 tk3 st3 F3 N3 ⟨t3, hr⟩
    subst hr
    clear F9 N9
    k_steps
    refine hret _ _ _ F3.keep ⟨_, congrArg (fun z : Int => Value.int z _) ?_⟩
    rw [e7, Int.natCast_add, Int.natCast_mul, Int.natCast_pow, Int.mul_comm]
    rfl
end
section
local macro_rules | `(tactic| walk_at "exec FunctionDef") => `(tactic| (k_dflt (refine' nestDef_K ?d0 ?k0 ?a0 ?_; (case d0 => exact rfl); (case k0 => exact rfl); (case a0 => exact rfl)); (rename Tab23 _ _ => tb'); (k_dflt (refine' def_again ?F ?N ?T ?C ?cd tb'.tab ?t ?n ?cl ?_; (case F => k_asm); (case N => k_asm); (case T => k_asm); (case cd => exact rfl); (case C => with_reducible assumption); (case t => exact True.intro); (case n => exact rfl); (case cl => exact rfl); k_whole); intro f' ct' dc' h' tk' F' N' l1 st'; (have tb9 := Tab23.keeps tb' st'; clear tb'); (try dsimp only at N'); (try k_lt l1))))
local macro_rules | `(tactic| walk_at "call ref") => `(tactic| refine Halt.of ?_)
local macro_rules | `(tactic| walk_at "truthy ref") => `(tactic| (k_here; k_dflt (refine' nums_truthy ?F ?x ?_; (case F => k_asm); (case x => k_asm); k_whole)))
local macro_rules | `(tactic| walk_at "call builtin:len") => `(tactic| (k_here; k_dflt (refine' nums_len ?F ?x ?_; (case F => k_asm); (case x => k_asm); k_whole)))
variable {w : World} {p : Program} {loose : List Str} {mean : ExcName → Option Value} {mg mb : Str → Option Value}
theorem d2i_hit (a : Addr) (n : Nat) (t : Tok) (c' : Addr) (h : Heap) (hps : Tab23 h c') (ds : List Nat) (hN : Nums h a ds) (hds : ∀ d ∈ ds, d < 2 ^ n) (hn : n ≤ 16) : PureAt w (hd.heap_39 w.params) p loose mean mg mb 28 22 [.ref a, .int n t] h (fun v _ => ∃ t', v = .int (val n ds) t') := by
  unfold PureAt
  w_top off
  k_fill
  intro A A₀ base h₀ outer env L m s Q E hs B F X T hA hf hke hh hdp hu hret
  subst hs
  k_dflt (refine' enter_cells (binds := [(Str.ofString "digits", Value.ref a), (Str.ofString "n", Value.int n t)]) (nw := []) B F News.nil X T hA hf hke ?ko ?kd ?kc ?kr ?kb ?kl ?c5 ?c2 ?c3 ?c4 ?_; (case ko => exact (X.keeps F.keep) _ _ (by k_is)); (case kd => exact rfl); (case kc => exact codeRec_of (X.keeps F.keep) (by k_is)); (case kr => omega); (case kb => exact BindsTo.of_eq rfl); (case kl => exact rfl); (case c5 => decide); (case c2 => exact rfl); (case c3 => exact rfl); (case c4 => exact rfl))
  intro L' h' tk cells F' N' Y' B' X' T' l'
  clear l'
  have C' : CodeHd s.heap 27 23 := by
    refine ⟨_, _, _, _, _, _, _, _, _, X' _ _ (by k_is), rfl, rfl, rfl, rfl, rfl, rfl, rfl, rfl, by decide⟩
  change Fr s.heap L' h' _ at F'
  change News s.heap L' h' _ at N'
  change Below A base (env :: outer) s.heap at B'
  change Frag.In _ s.heap at X'
  change Top _ _ _ _ _ s.heap at T'
  k_cells Y'
  simp only [List.append_nil] at N'
  have tb1 : Tab23 h' c' := hps.keeps F'.keep
  have hE := nestOf_eq (K := hd.heap_39 w.params) (f := 28) (by k_is) rfl
  clear B F X T hA hf hke
  k_steps
  · refine Halt.go ?_
    rename Fr _ _ _ _ => F9
    rename News _ _ _ _ => N9
    rename ds ≠ [] => g1
    have hfit := hN.fit
    have g2 : 0 < ds.length := List.length_pos_iff.mpr g1
    refine pure_call B' F9 N9 X' T' rfl rfl hh (by omega) (by omega) (d2i_inner 20 _ _ (L' + 1 + 1) (L' + 1 + 1 + 1) (L' + 1) c' a n t ds 0 ds.length _ _
      ⟨?_, (hps.keeps F9.keep).code, ⟨_, N9.get (.tail _ (.tail _ (.head _))), by assumption⟩, ⟨_, N9.get (.tail _ (.head _)), by assumption⟩, ⟨_, N9.get (.tail _ (.tail _ (.tail _ (.head _)))), by assumption⟩, hN.keeps F9.keep⟩ hds hn (by omega) (by omega) (by omega) ?_) ?_
    · rw [hE]; exact ⟨_, _, _, N9.get (.head _)⟩
    · show (ds.length : Int) - 0 ≤ 1048576
      omega
    · intro r h2 tk2 st2 F2 N2 ⟨t2, hr⟩
      subst hr
      refine hret _ _ _ F2.keep ⟨t2, ?_⟩
      rw [show (0 : Int).toNat = 0 from rfl, List.drop_zero, Int.toNat_natCast, Nat.sub_zero, List.take_length]
  · dsimp only
    rename Fr _ _ _ _ => F9
    rename ¬ ds ≠ [] => g1
    have g2 : ds = [] := Classical.not_not.mp g1
    subst g2
    exact hret _ _ _ F9.keep ⟨_, rfl⟩
end
end Mine
namespace Mine
section
local macro_rules | `(tactic| walk_at "call ref") => `(tactic| refine Halt.of ?_)
local macro_rules | `(tactic| walk_at "truthy ref") => `(tactic| (k_here; k_dflt (refine' nums_truthy ?F ?x ?_; (case F => k_asm); (case x => k_asm); k_whole)))
local macro_rules | `(tactic| walk_at "call builtin:len") => `(tactic| (k_here; k_dflt (refine' nums_len ?F ?x ?_; (case F => k_asm); (case x => k_asm); k_whole)))
variable {w : World} {p : Program} {loose : List Str} {mean : ExcName → Option Value} {mg mb : Str → Option Value}
/-- the first call: the inner def's code is made and noted -/
theorem d2i_miss (a : Addr) (n : Nat) (t : Tok) (ds : List Nat) (hds : ∀ d ∈ ds, d < 2 ^ n) (hn : n ≤ 16) (A A₀ : Around) (base h₀ : Heap) (outer : List Env) (env : Env) (L : Addr) (m : Str → Option Value) (s : Shared) (Q E : Value → Shared → Prop)
    (hN : Nums s.heap a ds) (N : News h₀ L s.heap [(23, tabObj #[])]) (B : Below A₀ base outer h₀) (F : Fr h₀ L s.heap m) (X : (hd.heap_39 w.params).In h₀) (T : Top p loose mean mg mb h₀) (hA : A.frames = some (env :: outer)) (hf : env.frame = some L) (hke : env.scope.kind = .function)
    (hh : A.handled = none) (hdp : A.depth + 22 < recursionLimit) (hu : A.units + 8 * 22 < cLine)
    (hret : ∀ r h' tk c' t', (∀ b o, b ≠ 23 → s.heap.get? b = some o → h'.get? b = some o) → (c' ≠ 23 ∧ s.heap.get? c' = none) → Tab23 h' c' → r = .int (val n ds) t' → Q r { s with heap := h', toks := tk }) :
    wpAny (model PySem.Challenge.rw_nb0075_01.row.prog w) A (call (.ref 28) [.ref a, .int n t]) Q E s := by
  revert X
  w_top off
  k_fill
  intro X
  k_dflt (refine' enter_cells (binds := [(Str.ofString "digits", Value.ref a), (Str.ofString "n", Value.int n t)]) (nw := [(23, tabObj #[])]) B F N X T hA hf hke ?ko ?kd ?kc ?kr ?kb ?kl ?c5 ?c2 ?c3 ?c4 ?_; (case ko => exact (X.keeps F.keep) _ _ (by k_is)); (case kd => exact rfl); (case kc => exact codeRec_of (X.keeps F.keep) (by k_is)); (case kr => omega); (case kb => exact BindsTo.of_eq rfl); (case kl => exact rfl); (case c5 => decide); (case c2 => exact rfl); (case c3 => exact rfl); (case c4 => exact rfl))
  intro L' h' tk cells F' N' Y' B' X' T' l'
  have l1 : @LT.lt Nat _ 23 L' := l' _ (.head _)
  clear l'
  have hG : ∀ b o, b ≠ 23 → s.heap.get? b = some o → (hideAll s.heap [23]).get? b = some o := fun b o hb e => hideAll_get _ e (by simpa using hb)
  have hN' : Nums (hideAll s.heap [23]) a ds := by
    refine ⟨?_, hN.fit⟩
    obtain ⟨items, ⟨o, e, r⟩, hi⟩ := hN.at_
    refine ⟨items, ⟨o, hG _ _ ?_ e, r⟩, hi⟩
    intro q
    subst q
    have := (N _ (.head _)).1
    dsimp only at this
    rw [this] at e
    cases e
    cases r.1
  change Fr (hideAll s.heap [23]) L' h' _ at F'
  change News (hideAll s.heap [23]) L' h' _ at N'
  change Below A base (env :: outer) (hideAll s.heap [23]) at B'
  change Frag.In _ (hideAll s.heap [23]) at X'
  change Top _ _ _ _ _ (hideAll s.heap [23]) at T'
  generalize hg : hideAll s.heap [23] = g at *
  have C' : CodeHd g 27 23 := by
    refine ⟨_, _, _, _, _, _, _, _, _, X' _ _ (by k_is), rfl, rfl, rfl, rfl, rfl, rfl, rfl, rfl, by decide⟩
  k_cells Y'
  simp only [List.cons_append, List.nil_append] at N'
  have hE := nestOf_eq (K := hd.heap_39 w.params) (f := 28) (by k_is) rfl
  clear B F X T hA hf hke
  have hret' := Box.mk hret
  clear hret
  k_steps
  · refine Halt.go ?_
    rename Fr _ _ _ _ => F9
    rename News _ _ _ _ => N9
    rename ds ≠ [] => g1
    have hfit := hN.fit
    have g2 : 0 < ds.length := List.length_pos_iff.mpr g1
    have hcr := codeRec_news N9 (.tail _ (.head _)) (by assumption) (by assumption)
    refine pure_call B' F9 N9 X' T' rfl rfl hh (by omega) (by omega) (d2i_inner 20 _ _ (L' + 1 + 1) (L' + 1 + 1 + 1) (L' + 1) _ a n t ds 0 ds.length _ _
      ⟨?_, hcr, ⟨_, N9.get (.tail _ (.tail _ (.tail _ (.head _)))), by assumption⟩, ⟨_, N9.get (.tail _ (.tail _ (.head _))), by assumption⟩, ⟨_, N9.get (.tail _ (.tail _ (.tail _ (.tail _ (.head _))))), by assumption⟩, hN'.keeps F9.keep⟩ hds hn (by omega) (by omega) (by omega) ?_) ?_
    · rw [hE]; exact ⟨_, _, _, N9.get (.head _)⟩
    · show (ds.length : Int) - 0 ≤ 1048576
      omega
    · intro r h2 tk2 st2 F2 N2 ⟨t2, hr⟩
      subst hr
      refine hret'.out _ _ _ _ t2 (fun b o hb e => F2.keep _ _ (hG b o hb e)) ⟨neN (by omega), new_of hG (neN (by omega)) (N9 _ (.tail _ (.head _))).2.2⟩ ⟨?_, hcr.keeps st2⟩ ?_
      · exact N2.get (.tail _ (.tail _ (.tail _ (.tail _ (.tail _ (.head _))))))
      · rw [show (0 : Int).toNat = 0 from rfl, List.drop_zero, Int.toNat_natCast, Nat.sub_zero, List.take_length]
  · dsimp only
    rename Fr _ _ _ _ => F9
    rename News _ _ _ _ => N9
    rename ¬ ds ≠ [] => g1
    have g2 : ds = [] := Classical.not_not.mp g1
    have hcr := codeRec_news N9 (.tail _ (.head _)) (by assumption) (by assumption)
    subst g2
    exact hret'.out _ _ _ _ _ (fun b o hb e => F9.keep _ _ (hG b o hb e)) ⟨neN (by omega), new_of hG (neN (by omega)) (N9 _ (.tail _ (.head _))).2.2⟩ ⟨N9.get (.tail _ (.tail _ (.tail _ (.tail _ (.tail _ (.head _)))))), hcr⟩ rfl
end
end Mine
namespace Mine
/-- the inner def of _int2digits as it lies, its cells -/
structure InnerI (K : Frag) (h : Heap) (f cN cI cA c' b : Addr) (n : Nat) (tn : Tok) : Prop where
  fn : ∃ doc pm ctv, h.get? f = some (fnMade (Str.ofString "inner") (Str.ofString "_int2digits.<locals>.inner") (nestOf K 21).1 (nestOf K 21).2.1 (nestOf K 21).2.2 [(Str.ofString "n", cN), (Str.ofString "inner", cI), (Str.ofString "a_digits", cA)] doc pm c' ctv)
  code : h.CodeRec (.ref c') (Str.ofString "_int2digits.<locals>.inner")
  cn : CellHas h cN (.int n tn)
  ci : CellHas h cI (.ref f)
  ca : CellHas h cA (.ref b)
theorem InnerI.keeps {K : Frag} {h h' : Heap} {f cN cI cA c' b : Addr} {n : Nat} {tn : Tok} (x : InnerI K h f cN cI cA c' b n tn) (k : h.StaysIn h') : InnerI K h' f cN cI cA c' b n tn :=
  ⟨let ⟨d, p, c, e⟩ := x.fn; ⟨d, p, c, k _ _ e⟩, x.code.keeps k, x.cn.keeps k, x.ci.keeps k, x.ca.keeps k⟩
theorem hide_stays {g h : Heap} {b : Addr} (k : g.StaysIn h) (hb : g.get? b = none) : g.StaysIn (hideAll h [b]) := fun c o e => hideAll_get _ (k c o e) (by
  intro q
  have : c = b := by simpa using q
  rw [this, hb] at e; cases e)
theorem fr_but {h₀ h h' : Heap} {L b : Addr} {m : Str → Option Value} (F : Fr h₀ L h m) (hb : h₀.get? b = none) (hL : b ≠ L) (k : ∀ c o, c ≠ b → h.get? c = some o → h'.get? c = some o) : Fr h₀ L h' m := by
  refine ⟨?_, fun c o e => k c o (fun q => by rw [q, hb] at e; cases e) (F.keep c o e), F.above⟩
  obtain ⟨o, es, ep, e, r⟩ := F.ns
  exact ⟨o, es, ep, k _ _ (fun q => hL q.symm) e, r⟩
theorem news_one {h₀ h : Heap} {L b : Addr} {o : Obj} {news : List (Addr × Obj)} (N : News h₀ L h news) (hm : (b, o) ∈ news) : News h₀ L h [(b, o)] := fun q hq => by
  cases List.mem_singleton.mp hq
  exact N _ hm
theorem hide_at {h : Heap} {b c : Addr} {o : Obj} (e : h.get? c = some o) (hc : c ≠ b) : (hideAll h [b]).get? c = some o := hideAll_get _ e (by simpa using hc)
theorem codeRec_at {h : Heap} {b c' : Addr} {q : Str} (x : h.CodeRec (.ref c') q) (hc : c' ≠ b) : (hideAll h [b]).CodeRec (.ref c') q := by
  obtain ⟨c, oc, vs, t, e, ho, hd, hv⟩ := x
  cases e
  exact ⟨c', oc, vs, t, rfl, hide_at ho hc, hd, hv⟩
section
local macro_rules | `(tactic| walk_at "binaryOp LShift int int") => `(tactic| refine Halt.of ?_)
local macro_rules | `(tactic| walk_at "binaryOp RShift int int") => `(tactic| ((with_reducible show wpAny _ _ (binaryOp _ (Value.int (Nat.cast _) _) _) _ _ _); refine Halt.of ?_))
local macro_rules | `(tactic| walk_at "binaryOp BitXor int int") => `(tactic| refine Halt.of ?_)
local macro_rules | `(tactic| walk_at "call ref") => `(tactic| refine Halt.of ?_)
local macro_rules | `(tactic| walk_at "eval Name") => `(tactic| (k_here; kc_free; k_dflt (refine' free_name ?F ?c ?v ?_ ?a ?b; (case a => rfl); (case b => rfl); (case F => k_asm); (case c => exact rfl); (case v => k_asm); k_whole)))
local macro_rules | `(tactic| walk_at "callWith ref") => `(tactic| (k_here; (rename FnAt _ _ => fA'); (rename Fr _ _ _ _ => kF'); k_dflt (refine' callWith_F ?k1 ?_; (case k1 => exact fnAt_keeps fA' kF'.keep); k_whole)))
local macro_rules | `(tactic| walk_at "FnAt") => `(tactic| ((rename FnAt _ _ => fA'); (rename Fr _ _ _ _ => kF'); exact fnAt_keeps fA' kF'.keep))
variable {w : World} {p : Program} {loose : List Str} {mean : ExcName → Option Value} {mg mb : Str → Option Value}
theorem i2d_inner (k : Nat) : ∀ (f cN cI cA c' b : Addr) (n : Nat) (tn : Tok) (xs : List Nat) (its : List Value) (ep : Nat) (ds : List Nat) (lo hi : Int) (tx tl th : Tok) (A A₀ : Around) (base h₀ : Heap) (outer : List Env) (env : Env) (L : Addr) (m : Str → Option Value) (s : Shared) (Q E : Value → Shared → Prop),
    InnerI (hd.heap_39 w.params) (hideAll s.heap [b]) f cN cI cA c' b n tn → News h₀ L s.heap [(b, listOf its.toArray ep)] → IntsAre its (ds.map Int.ofNat) → (∀ d ∈ xs, d < 2 ^ n) → n ≤ 16 → 0 ≤ lo → lo < hi → hi ≤ ds.length → ds.length ≤ 1048576 → hi - lo = xs.length → hi - lo ≤ 2 ^ k →
    Below A₀ base outer h₀ → Fr h₀ L s.heap m → (hd.heap_39 w.params).In h₀ → Top p loose mean mg mb h₀ → A.frames = some (env :: outer) → env.frame = some L → env.scope.kind = .function → A.handled = none → A.depth + (k + 1) < recursionLimit → A.units + 8 * (k + 1) < cLine →
    (∀ h' tk its' ep', (∀ c o, c ≠ b → s.heap.get? c = some o → h'.get? c = some o) → h'.get? b = some (listOf its'.toArray ep') → IntsAre its' ((ds.take lo.toNat ++ xs ++ ds.drop hi.toNat).map Int.ofNat) → Q .none { s with heap := h', toks := tk }) →
    wpAny (model PySem.Challenge.rw_nb0075_01.row.prog w) A (call (.ref f) [.int (val n xs : Nat) tx, .int lo tl, .int hi th]) Q E s := by
  induction k with
  | zero =>
    intro f cN cI cA c' b n tn xs its ep ds lo hi tx tl th A A₀ base h₀ outer env L m s Q E I N hi' hxs hn h1 h2 h3 h5 h6 h4 B F X T hA hf hke hh hdp hu hret
    revert X
    w_top off
    k_fill
    intro X
    have hb0 : (hideAll s.heap [b]).get? b = none := hideAll_none _ (.head _)
    have hG : ∀ c o, c ≠ b → s.heap.get? c = some o → (hideAll s.heap [b]).get? c = some o := fun c o hc e => hideAll_get _ e (by simpa using hc)
    have hst : (hideAll s.heap [b]).StaysIn s.heap := fun c o e => of_hideAll _ e
    obtain ⟨dc, pm, ctv, hfn⟩ := I.fn
    have hfn0 := hfn
    rw [nestOf_eq (K := hd.heap_39 w.params) (f := 21) (by k_is) rfl] at hfn0
    dsimp only at hfn0
    have fA := fn_at hfn0 rfl
    generalize hV : val n xs = V
    k_dflt (refine' enter_turn (binds := [(Str.ofString "x", Value.int V tx), (Str.ofString "L", Value.int lo tl), (Str.ofString "R", Value.int hi th)]) B F N X T hA hf hke (hst _ _ hfn0) ?kd (I.code.keeps hst) ?kr ?kb ?kl ?c5 ?c2 ?c3 ?c4 ?_; (case kd => exact rfl); (case kr => omega); (case kb => exact BindsTo.of_eq rfl); (case kl => exact locs rfl); (case c5 => decide); (case c2 => exact rfl); (case c3 => exact rfl); (case c4 => exact rfl))
    intro L' h' F' N' B' X' T' l'
    have l1 : @LT.lt Nat _ b L' := l' _ (.head _)
    clear l'
    change Fr (hideAll s.heap [b]) L' h' _ at F'
    change News (hideAll s.heap [b]) L' h' _ at N'
    change Below A base (env :: outer) (hideAll s.heap [b]) at B'
    change Frag.In _ (hideAll s.heap [b]) at X'
    change Top _ _ _ _ _ (hideAll s.heap [b]) at T'
    generalize hg : hideAll s.heap [b] = g at *
    have I1 := I.cn
    have I2 := I.ci
    have I3 := I.ca
    have hln := hi'.length
    rw [List.length_map] at hln
    clear B F X T hA hf hke hfn0 hfn
    have hret' := Box.mk hret
    clear hret
    k_steps
    · dsimp only
      rename Fr _ _ _ _ => F9
      rename News _ _ _ _ => N9
      rename lo + 1 = hi => g1
      rename IntsAre (List.set _ _ _) _ => i9
      refine hret'.out _ _ _ _ (fun c o hc e => F9.keep _ _ (hG c o hc e)) (N9.get (.head _)) ?_
      rw [set_seg h1 ⟨g1, h3⟩ h6 hV] at i9
      exact i9
    · rename lo + 1 ≠ hi => g1
      exact absurd (by omega : lo + 1 = hi) g1
  | succ k IH =>
  intro f cN cI cA c' b n tn xs its ep ds lo hi tx tl th A A₀ base h₀ outer env L m s Q E I N hi' hxs hn h1 h2 h3 h5 h6 h4 B F X T hA hf hke hh hdp hu hret
  revert X
  w_top off
  k_fill
  intro X
  have hb0 : (hideAll s.heap [b]).get? b = none := hideAll_none _ (.head _)
  have hG : ∀ c o, c ≠ b → s.heap.get? c = some o → (hideAll s.heap [b]).get? c = some o := fun c o hc e => hideAll_get _ e (by simpa using hc)
  have hst : (hideAll s.heap [b]).StaysIn s.heap := fun c o e => of_hideAll _ e
  obtain ⟨dc, pm, ctv, hfn⟩ := I.fn
  have hfn0 := hfn
  rw [nestOf_eq (K := hd.heap_39 w.params) (f := 21) (by k_is) rfl] at hfn0
  dsimp only at hfn0
  have fA := fn_at hfn0 rfl
  generalize hV : val n xs = V
  k_dflt (refine' enter_turn (binds := [(Str.ofString "x", Value.int V tx), (Str.ofString "L", Value.int lo tl), (Str.ofString "R", Value.int hi th)]) B F N X T hA hf hke (hst _ _ hfn0) ?kd (I.code.keeps hst) ?kr ?kb ?kl ?c5 ?c2 ?c3 ?c4 ?_; (case kd => exact rfl); (case kr => omega); (case kb => exact BindsTo.of_eq rfl); (case kl => exact locs rfl); (case c5 => decide); (case c2 => exact rfl); (case c3 => exact rfl); (case c4 => exact rfl))
  intro L' h' F' N' B' X' T' l'
  have l1 : @LT.lt Nat _ b L' := l' _ (.head _)
  clear l'
  change Fr (hideAll s.heap [b]) L' h' _ at F'
  change News (hideAll s.heap [b]) L' h' _ at N'
  change Below A base (env :: outer) (hideAll s.heap [b]) at B'
  change Frag.In _ (hideAll s.heap [b]) at X'
  change Top _ _ _ _ _ (hideAll s.heap [b]) at T'
  generalize hg : hideAll s.heap [b] = g at *
  have I1 := I.cn
  have I2 := I.ci
  have I3 := I.ca
  have hln := hi'.length
  rw [List.length_map] at hln
  clear B F X T hA hf hke hfn0 hfn
  have hret' := Box.mk hret
  clear hret
  k_steps
  · dsimp only
    rename Fr _ _ _ _ => F9
    rename News _ _ _ _ => N9
    rename lo + 1 = hi => g1
    rename IntsAre (List.set _ _ _) _ => i9
    refine hret'.out _ _ _ _ (fun c o hc e => F9.keep _ _ (hG c o hc e)) (N9.get (.head _)) ?_
    rw [set_seg h1 ⟨g1, h3⟩ h6 hV] at i9
    exact i9
  · refine Halt.go ?_
    rename Fr _ _ _ _ => F9
    rename News _ _ _ _ => N9
    rename lo + 1 ≠ hi => g1
    have e5 : (lo + hi).fdiv (2 ^ Int.toNat 1) = (lo + hi) / 2 := by rw [Int.fdiv_eq_ediv_of_nonneg _ (by decide)]; rfl
    generalize (lo + hi).fdiv (2 ^ Int.toNat 1) = mid at *
    generalize hsh : (mid - lo) * (n : Int) = sh at *
    have m1 : lo < mid := by omega
    have m2 : mid < hi := by omega
    have q1 : (mid - lo) * (n : Int) ≤ 1048576 * 16 := Int.mul_le_mul (by omega) (by omega) (by omega) (by omega)
    have q0 : 0 ≤ (mid - lo) * (n : Int) := Int.mul_nonneg (by omega) (by omega)
    have e6 : sh.toNat = n * (mid.toNat - lo.toNat) := by
      rw [← hsh, show mid - lo = ((mid.toNat - lo.toNat : Nat) : Int) from by omega, ← Int.natCast_mul, Int.toNat_natCast, Nat.mul_comm]
    have p1 : (2 : Int) ^ (k + 1) = 2 * 2 ^ k := by rw [Int.pow_succ]; omega
    have x1 : ∀ d ∈ xs.take (mid.toNat - lo.toNat), d < 2 ^ n := fun d hd => hxs d (List.mem_of_mem_take hd)
    have x2 : ∀ d ∈ xs.drop (mid.toNat - lo.toNat), d < 2 ^ n := fun d hd => hxs d (List.mem_of_mem_drop hd)
    have n1 : (xs.take (mid.toNat - lo.toNat)).length = mid.toNat - lo.toNat := by rw [List.length_take]; omega
    have n2 : (xs.drop (mid.toNat - lo.toNat)).length = hi.toNat - mid.toNat := by rw [List.length_drop]; omega
    have v1 : V % 2 ^ sh.toNat = val n (xs.take (mid.toNat - lo.toNat)) := by
      have := val_mod n (xs.take (mid.toNat - lo.toNat)) (xs.drop (mid.toNat - lo.toNat)) x1
      rw [List.take_append_drop, hV, n1, ← e6] at this
      exact this
    have v2 : V / 2 ^ sh.toNat = val n (xs.drop (mid.toNat - lo.toNat)) := by
      have := val_div n (xs.take (mid.toNat - lo.toNat)) (xs.drop (mid.toNat - lo.toNat)) x1
      rw [List.take_append_drop, hV, n1, ← e6] at this
      exact this
    have b1 := val_lt n _ x2
    have b3 : n * (xs.drop (mid.toNat - lo.toNat)).length ≤ 16 * 1048576 := Nat.mul_le_mul hn (by omega)
    have w1 : (V : Int).fdiv (2 ^ sh.toNat) = ((V / 2 ^ sh.toNat : Nat) : Int) := by
      rw [Int.fdiv_eq_ediv_of_nonneg _ (Int.pow_nonneg (by decide)), Int.natCast_ediv, Int.natCast_pow]; rfl
    have w2 : ((V / 2 ^ sh.toNat : Nat) : Int) * 2 ^ sh.toNat = ((V / 2 ^ sh.toNat * 2 ^ sh.toNat : Nat) : Int) := by rw [Int.natCast_mul, Int.natCast_pow]; rfl
    have w3 := xor_low V sh.toNat
    have w4 : Builtin.Int.intBits ((V / 2 ^ sh.toNat : Nat) : Int) ≤ 16 * 1048576 := by rw [v2]; exact Nat.le_trans (bits_le b1) b3
    refine rshift_int (by omega) ?_
    rw [w1]
    generalize hU : V / 2 ^ sh.toNat = U at *
    have hq1 := Box.mk (And.intro w2 w3)
    clear w2 w3 w1
    k_steps
    refine Halt.go ?_
    refine lshift_int (by omega) (Int.le_trans (Int.add_le_add (Int.ofNat_le.mpr w4) (by omega : sh ≤ 1048576 * 16)) (by decide)) ?_
    rw [hq1.out.1]
    k_steps
    refine Halt.go ?_
    refine xor_int ?_
    rw [hq1.out.2, v1]
    k_steps
    refine Halt.go ?_
    rename Fr _ _ _ _ => F9
    rename News _ _ _ _ => N9
    refine IH f cN cI cA c' b n tn (xs.take (mid.toNat - lo.toNat)) its ep ds lo mid _ _ _ _ A base g (env :: outer) _ L' _ _ _ _ (I.keeps (hide_stays F9.keep hb0)) N9 hi' x1 hn h1 m1 (by omega) h5 (by omega) (by omega) B' F9 X' T' (Around.frames_deeper B'.stack) rfl rfl hh (by show A.depth + 1 + (k + 1) < recursionLimit; omega) (by show A.units + 3 + 8 * (k + 1) < cLine; omega) ?_
    intro h2 tk2 its2 ep2 kb hb2 i2
    have F2 := fr_but F9 hb0 (N9 _ (.head _)).2.1 kb
    have N2 : News g L' h2 [(b, listOf its2.toArray ep2)] := fun q hq => by
      cases List.mem_singleton.mp hq
      exact ⟨hb2, (N9 _ (.head _)).2.1, hb0⟩
    have hl2 : (ds.take lo.toNat ++ xs.take (mid.toNat - lo.toNat) ++ ds.drop mid.toNat).length = ds.length := by
      simp only [List.length_append, List.length_take, List.length_drop]; omega
    have i2' := Box.mk i2
    clear F9 N9 i2
    k_steps
    refine Halt.go ?_
    rename Fr _ _ _ _ => F9
    rename News _ _ _ _ => N9
    rw [v2]
    refine IH f cN cI cA c' b n tn (xs.drop (mid.toNat - lo.toNat)) its2 ep2 _ mid hi _ _ _ _ A base g (env :: outer) _ L' _ _ _ _ (I.keeps (hide_stays F9.keep hb0)) N9 i2'.out x2 hn (by omega) m2 (by omega) (by omega) (by omega) (by omega) B' F9 X' T' (Around.frames_deeper B'.stack) rfl rfl hh (by show A.depth + 1 + (k + 1) < recursionLimit; omega) (by show A.units + 3 + 8 * (k + 1) < cLine; omega) ?_
    intro h3' tk3 its3 ep3 kb3 hb3 i3
    have F3 := fr_but F9 hb0 (N9 _ (.head _)).2.1 kb3
    have N3 : News g L' h3' [(b, listOf its3.toArray ep3)] := fun q hq => by
      cases List.mem_singleton.mp hq
      exact ⟨hb3, (N9 _ (.head _)).2.1, hb0⟩
    have i3' := Box.mk i3
    clear F9 N9 i3
    k_steps
    dsimp only
    refine hret'.out _ _ _ _ (fun c o hc e => F3.keep _ _ (hG c o hc e)) (N3.get (.head _)) ?_
    have := i3'.out
    rw [seg_two (by omega) (by omega) (by omega) (by omega)] at this
    exact this
end
end Mine
namespace Mine
section
local macro_rules | `(tactic| walk_at "call ref") => `(tactic| refine Halt.of ?_)
local macro_rules | `(tactic| walk_at "call builtin:len") => `(tactic| refine Halt.of ?_)
local macro_rules | `(tactic| walk_at "binaryOp Mult ref int") => `(tactic| refine Halt.of ?_)
variable {w : World} {p : Program} {loose : List Str} {mean : ExcName → Option Value} {mg mb : Str → Option Value}
/-- the one call of _int2digits -/
theorem i2d (n : Nat) (t ta : Tok) (ds : List Nat) (hds : ∀ d ∈ ds, d < 2 ^ n) (hn : n ≤ 16) (hn1 : 1 ≤ n) (hlast : ds.getLast? ≠ some 0) (hne : ds ≠ []) (hlen : ds.length ≤ 1048576) (A A₀ : Around) (base h₀ : Heap) (outer : List Env) (env : Env) (L : Addr) (m : Str → Option Value) (s : Shared) (Q E : Value → Shared → Prop)
    (N : News h₀ L s.heap [(16, tabObj #[])]) (B : Below A₀ base outer h₀) (F : Fr h₀ L s.heap m) (X : (hd.heap_39 w.params).In h₀) (T : Top p loose mean mg mb h₀) (hA : A.frames = some (env :: outer)) (hf : env.frame = some L) (hke : env.scope.kind = .function)
    (hh : A.handled = none) (hdp : A.depth + 22 < recursionLimit) (hu : A.units + 8 * 22 < cLine)
    (hret : ∀ b h' tk its ep, (∀ c o, c ≠ 16 → s.heap.get? c = some o → h'.get? c = some o) → (b ≠ 16 ∧ s.heap.get? b = none) → GrownAt 16 h' → h'.get? b = some (listOf its.toArray ep) → IntsAre its (ds.map Int.ofNat) → Q (.ref b) { s with heap := h', toks := tk }) :
    wpAny (model PySem.Challenge.rw_nb0075_01.row.prog w) A (call (.ref 21) [.int (val n ds) ta, .int n t]) Q E s := by
  revert X
  w_top off
  k_fill
  intro X
  generalize hv : val n ds = V
  k_dflt (refine' enter_cells (binds := [(Str.ofString "a", Value.int V ta), (Str.ofString "n", Value.int n t)]) (nw := [(16, tabObj #[])]) B F N X T hA hf hke ?ko ?kd ?kc ?kr ?kb ?kl ?c5 ?c2 ?c3 ?c4 ?_; (case ko => exact (X.keeps F.keep) _ _ (by k_is)); (case kd => exact rfl); (case kc => exact codeRec_of (X.keeps F.keep) (by k_is)); (case kr => omega); (case kb => exact BindsTo.of_eq rfl); (case kl => exact rfl); (case c5 => decide); (case c2 => exact rfl); (case c3 => exact rfl); (case c4 => exact rfl))
  intro L' h' tk0 cells F' N' Y' B' X' T' l'
  have l1 : @LT.lt Nat _ 16 L' := l' _ (.head _)
  clear l'
  have hG : ∀ b o, b ≠ 16 → s.heap.get? b = some o → (hideAll s.heap [16]).get? b = some o := fun b o hb e => hideAll_get _ e (by simpa using hb)
  change Fr (hideAll s.heap [16]) L' h' _ at F'
  change News (hideAll s.heap [16]) L' h' _ at N'
  change Below A base (env :: outer) (hideAll s.heap [16]) at B'
  change Frag.In _ (hideAll s.heap [16]) at X'
  change Top _ _ _ _ _ (hideAll s.heap [16]) at T'
  generalize hg : hideAll s.heap [16] = g at *
  have C' : CodeHd g 20 16 := by
    refine ⟨_, _, _, _, _, _, _, _, _, X' _ _ (by k_is), rfl, rfl, rfl, rfl, rfl, rfl, rfl, rfl, by decide⟩
  k_cells Y'
  simp only [List.cons_append, List.nil_append] at N'
  clear B F X T hA hf hke
  have hret' := Box.mk hret
  clear hret
  k_steps
  refine Halt.go ?_
  rename Fr _ _ _ _ => F9
  rename News _ _ _ _ => N9
  rw [show ((Builtin.Int.intBits (V : Int) : Int) + n - 1).fdiv n = ds.length from by rw [← hv]; exact count_bits n ds hn1 hne hlast hds]
  have q1 : @LT.lt Nat _ _ _ := Heap.lt_size (N9.get (.head _))
  have q2 : @LT.lt Nat _ _ _ := Heap.lt_size (N9.get (.tail _ (.head _)))
  have q3 : @LT.lt Nat _ _ _ := Heap.lt_size (N9.get (.tail _ (.tail _ (.head _))))
  have q4 : @LT.lt Nat _ _ _ := Heap.lt_size (N9.get (.tail _ (.tail _ (.tail _ (.head _)))))
  have q5 : @LT.lt Nat _ _ _ := Heap.lt_size (N9.get (.tail _ (.tail _ (.tail _ (.tail _ (.head _))))))
  refine mul_list F9 N9 (N9.get (.head _)) (by omega) (by omega) (by simp only [List.size_toArray, List.length_cons, List.length_nil, Int.toNat_natCast]; omega) ?_
  intro h2 F2 N2
  rw [show (if (#[Value.int 0 tk0] : Array Value).isEmpty = true then 0 else ((ds.length : Nat) : Int).toNat) = ds.length from by rw [Int.toNat_natCast]; rfl, fold_one] at N2
  clear F9 N9
  dsimp only at N2 q1 q2 q3 q4 q5 ⊢
  generalize Array.size (Heap.objs _) = b at *
  have hE := nestOf_eq (K := hd.heap_39 w.params) (f := 21) (by k_is) rfl
  have hV0 : V ≠ 0 := by
    have := val_pos_last n ds hne hlast
    have := Nat.two_pow_pos (n * (ds.length - 1))
    omega
  k_steps
  · refine Halt.go ?_
    rename Fr _ _ _ _ => F9
    rename News _ _ _ _ => N9
    have hb := N9.get (.tail _ (.tail _ (.head _)))
    refine call_len_list ⟨_, hb, rfl, 0, rfl⟩ (by rw [List.size_toArray, List.length_replicate]; omega) ?_
    rw [List.size_toArray, List.length_replicate]
    k_steps
    refine Halt.go ?_
    have hcr := codeRec_news N9 (.tail _ (.head _)) (by assumption) (by assumption)
    have hm := news_one N9 (.tail _ (.tail _ (.head _)))
    have hb0 := (hm _ (.head _)).2.2
    have hbL := (hm _ (.head _)).2.1
    have nc := N9.get (.tail _ (.tail _ (.tail _ (.tail _ (.tail _ (.tail _ (.head _)))))))
    have ni := N9.get (.tail _ (.tail _ (.tail _ (.tail _ (.head _)))))
    have na := N9.get (.tail _ (.tail _ (.tail _ (.tail _ (.tail _ (.head _))))))
    have nt := N9.get (.tail _ (.tail _ (.tail _ (.tail _ (.tail _ (.tail _ (.tail _ (.head _))))))))
    have Na := news_one N9 (.tail _ (.tail _ (.tail _ (.tail _ (.tail _ (.head _))))))
    rw [← hv]
    refine i2d_inner 20 _ (L' + 1) (L' + 1 + 1 + 1) (L' + 1 + 1) _ b n t ds (List.replicate ds.length (Value.int 0 tk0)) 0 (List.replicate ds.length 0) 0 ds.length _ _ _ _ A base g (env :: outer) _ L' _ _ _ _ ⟨?_, codeRec_at hcr (neN (by omega)), ⟨_, hide_at nc (neN (by omega)), by assumption⟩, ⟨_, hide_at ni (neN (by omega)), by assumption⟩, ⟨_, hide_at na (neN (by omega)), by assumption⟩⟩ hm (ints_rep 0 tk0 _) hds hn (by omega) ?_ ?_ ?_ ?_ ?_ B' F9 X' T' (Around.frames_deeper B'.stack) rfl rfl hh ?_ ?_ ?_
    · rw [hE]; exact ⟨_, _, _, hide_at (N9.get (.head _)) (neN (by omega))⟩
    · exact Int.ofNat_lt.mpr (List.length_pos_iff.mpr hne)
    · rw [List.length_replicate]; exact Int.le_refl _
    · rw [List.length_replicate]; exact hlen
    · exact Int.sub_zero _
    · show (ds.length : Int) - 0 ≤ 1048576
      omega
    · show A.depth + 1 + (20 + 1) < recursionLimit
      omega
    · show A.units + 3 + 8 * (20 + 1) < cLine
      omega
    · intro h3 tk3 its3 ep3 kb3 hb3 i3
      have F3 := fr_but F9 hb0 hbL kb3
      have N3 : News g L' h3 [(L' + 1 + 1, _)] := fun q hq => by
        cases List.mem_singleton.mp hq
        exact ⟨kb3 _ _ (neN (by omega)) na, (Na _ (.head _)).2⟩
      have i3' := Box.mk i3
      clear F9 N9 i3 hm
      k_steps
      dsimp only
      refine hret'.out _ _ _ its3 ep3 (fun c o hc e => F3.keep _ _ (hG c o hc e)) ⟨neN (by omega), new_of hG (neN (by omega)) hb0⟩ ⟨_, kb3 _ _ (neN (by omega)) nt⟩ hb3 ?_
      have := i3'.out
      rw [show (Int.toNat 0) = 0 from rfl, List.take_zero, List.nil_append, Int.toNat_natCast, List.drop_of_length_le (by rw [List.length_replicate]; exact Nat.le_refl _), List.append_nil] at this
      exact this
  · exact absurd (by assumption) (by omega : ¬ (V : Int) = 0)
end
end Mine
namespace Mine
section
local macro_rules | `(tactic| walk_at "exec While Compare cons nil") => `(tactic| refine Halt.of ?_)
local macro_rules | `(tactic| walk_at "call builtin:str.replace") => `(tactic| refine Halt.of ?_)
local macro_rules | `(tactic| walk_at "call builtin:str.join") => `(tactic| refine Halt.of ?_)
local macro_rules | `(tactic| walk_at "call builtin:chr") => `(tactic| refine Halt.of ?_)
local macro_rules | `(tactic| walk_at "CompSrc") => `(tactic| refine Halt.of ?_)
local macro_rules | `(tactic| walk_at "call ref") => `(tactic| refine Halt.of ?_)
variable {w : World} {p : Program} {loose : List Str} {mean : ExcName → Option Value} {mg mb : Str → Option Value}
/-- a row, given the contract for what stands in it -/
theorem wr_row (d : Nat) (hd2 : d ≤ 2) (b : Nat) (tb : Tok) (hb : 2 ≤ b) (hb2 : b ≤ 8192) (IH : ∀ (t : Tr) (v : Value) (h : Heap), TreeIn h v t → okT d t → PureAt w (hd.heap_39 w.params) p loose mean mg mb 72 (d + 1) [v, .int b tb] h (fun r _ => ∃ t', r = .str (txt (wr b t)) t'))
    (a : Addr) (vs : List Value) (ep : Nat) (l : List Tr) (h : Heap) (ha : h.get? a = some (listOf vs.toArray ep)) (hl : TreesIn h vs l) (hok : okT (d + 1) (.row l)) : PureAt w (hd.heap_39 w.params) p loose mean mg mb 72 (d + 1 + 1) [.ref a, .int b tb] h (fun v _ => ∃ t', v = .str (txt (wr b (.row l))) t') := by
  unfold PureAt
  w_top off
  k_fill
  intro A A₀ base h₀ outer env L m s Q E hs B F X T hA hf hke hh hdp hu hret
  subst hs
  k_dflt (refine' enter_cells (binds := [(Str.ofString "tree", Value.ref a), (Str.ofString "base", Value.int b tb)]) (nw := []) B F News.nil X T hA hf hke ?ko ?kd ?kc ?kr ?kb ?kl ?c5 ?c2 ?c3 ?c4 ?_; (case ko => exact (X.keeps F.keep) _ _ (by k_is)); (case kd => exact rfl); (case kc => exact codeRec_of (X.keeps F.keep) (by k_is)); (case kr => omega); (case kb => exact BindsTo.of_eq rfl); (case kl => exact rfl); (case c5 => decide); (case c2 => exact rfl); (case c3 => exact rfl); (case c4 => exact rfl))
  intro L' h' tk0 cells F' N' Y' B' X' T' l'
  clear l'
  change Fr s.heap L' h' _ at F'
  change News s.heap L' h' _ at N'
  change Below A base (env :: outer) s.heap at B'
  change Frag.In _ s.heap at X'
  change Top _ _ _ _ _ s.heap at T'
  k_cells Y'
  simp only [List.append_nil] at N'
  have hL : s.heap.IsList a vs.toArray := ⟨_, ha, rfl, ep, rfl⟩
  have hret' := Box.mk hret
  have hok' := Box.mk hok
  have hl' := Box.mk hl
  have IH' := Box.mk IH
  clear B F X T hA hf hke hret hok IH hl
  k_steps
  refine Halt.go ?_
  have hvl := hl'.out.length
  have hfit : vs.length ≤ 12 := by rw [hvl]; exact hok'.out.1
  have hsl : vs.toArray.size ≤ sizeLine := by rw [List.size_toArray, sizeLine_eq]; omega
  refine LCg.CompSrc.base hh F' N' hL hsl ?_
  intro g'
  refine comp_inv (fun i ys => Box (StrsAre ys ((wrs b (l.take i)).map txt))) ⟨by simp only [List.take_zero, wrs, List.map_nil]; exact .nil⟩ ?_ ?_
  · intro i v I oI C oC D m₂ ys h tk E' hi hJ hv hC hx F1 N1 off ne
    simp only [LCg.Off3, and_true] at off
    obtain ⟨t, ht, hT⟩ := hl'.out.get (i := i) (v := v) (by simpa using hv)
    have hokt := hok'.out.2 t (List.mem_of_getElem? ht)
    have hlen := wr_len hb d t hokt
    have hlen2 := Nat.le_trans hlen (lw_mono hd2)
    rw [lw_two] at hlen2
    have hT' := Box.mk hT
    have hokt' := Box.mk hokt
    clear hT hokt hlen
    k_steps
    refine Halt.go ?_
    refine pure_call2 B' F1 N1 X' T' rfl rfl hh (by omega) (by omega) (IH'.out t v _ (hT'.out.keeps F1.keep) hokt'.out) ?_
    intro r h2 tk2 htk2 st2 F2 N2 ⟨t2, hr⟩
    subst hr
    have htk3 : 0 < tk2 := Nat.lt_of_lt_of_le (Nat.succ_pos _) htk2
    have hlx : (txt (wr b t)).length = (wr b t).length := txt_len _
    generalize hx9 : txt (wr b t) = x at *
    generalize hz9 : (wr b t).length = z at *
    have hx9' := Box.mk hx9
    clear F1 N1 hx9 htk2
    k_steps
    refine Halt.go ?_
    refine SC.replaceW (Nat.ne_of_gt htk3) (Nat.succ_ne_zero _) (Nat.ne_of_lt (Nat.lt_succ_self _)) (by decide +kernel) (by omega) (by decide +kernel) ?_
    intro t3 tk3
    have hy9 : Txt.replace x (Str.ofString "\"") (Str.ofString "\"\"") = txt (dbl (wr b t)) := by rw [← hx9'.out, lit_quote, lit_quote2, txt_replace]
    have hly : (txt (dbl (wr b t))).length ≤ 2 * z := by
      rw [txt_len, dbl_len, ← hz9]
      have := List.count_le_length (a := 34) (l := wr b t)
      omega
    rw [hy9]
    generalize hyx : txt (dbl (wr b t)) = y at *
    have hyx' := Box.mk hyx
    clear hy9 hyx hz9
    k_steps
    refine ⟨?_⟩
    rw [wrs_take_succ b ht, List.map_append]
    have e : Str.ofString "\"" ++ y ++ Str.ofString "\"" = txt (34 :: (dbl (wr b t) ++ [34])) := by rw [← hyx'.out, lit_quote, txt_app, txt_app]; rfl
    rw [e]
    exact strs_snoc hJ.out
  · intro ys hJ
    k_steps
    refine Halt.go ?_
    rename Fr _ _ _ _ => F9
    rename News _ _ _ _ => N9
    obtain ⟨lv, e1, e2⟩ := strs_vals hJ.out
    rw [List.size_toArray, hvl, List.take_length] at e2
    have hJl : ((wrs b l).map txt).length ≤ 12 := by rw [List.length_map, wrs_length, ← hvl]; exact hfit
    have hsm : (((wrs b l).map txt).map (·.length)).sum ≤ 12 * 44476 := by
      refine Nat.le_trans (sum_le_mul (k := 44476) ?_) (by rw [List.length_map]; exact Nat.mul_le_mul_right _ hJl)
      intro z hz
      obtain ⟨q, hq, rfl⟩ := List.mem_map.mp hz
      obtain ⟨q, hq2, rfl⟩ := List.mem_map.mp hq
      obtain ⟨t, ht, rfl⟩ := wrs_mem b l q hq2
      have h1 := Nat.le_trans (wr_len hb d t (hok'.out.2 t ht)) (lw_mono hd2)
      rw [lw_two] at h1
      have h2 := List.count_le_length (a := 34) (l := wr b t)
      rw [txt_len, List.length_cons, List.length_append, dbl_len]
      simp only [List.length_cons, List.length_nil]
      omega
    have hD := N9.get (.head _)
    refine SC.join (l := lv) (texts := (wrs b l).map txt) ⟨_, hD, rfl, ys.length, by rw [← e1]⟩ e2 (join_ok ?_) ?_
    · have : (Str.ofString ",").length = 1 := by decide +kernel
      rw [this]; omega
    · intro t3 tk3
      rw [lit_comma, join_txt]
      have hgl : (txt (glue [44] (wrs b l))).length ≤ 533725 := by
        have := wr_len hb (d + 1) (.row l) hok'.out
        have h3 := lw_mono (show d + 1 ≤ 3 by omega)
        rw [lw_three] at h3
        rw [wr, List.length_cons] at this
        rw [txt_len]; omega
      generalize hgx : txt (glue [44] (wrs b l)) = y at *
      have hgx' := Box.mk hgx
      clear hgx hsm hJl
      k_steps
      have e : Str.ofString "(" ++ y = txt (wr b (.row l)) := by rw [← hgx'.out, lit_open, txt_app, wr]; rfl
      rw [e]
      exact hret'.out _ _ _ F9.keep ⟨_, rfl⟩
def JL (b n : Nat) (k : Nat) (m : Str → Option Value) (news : List (Addr × Obj)) (nw : List (Addr × Obj)) : Prop :=
  ∃ (D : Str) (d : List Nat) (r : Nat) (t1 t2 : Tok), m (Str.ofString "text") = some (.str D t1) ∧ m (Str.ofString "left") = some (.int r t2) ∧ k = r ∧ Box (D = txt d ∧ d ++ digs b r = 61 :: digs b n ∧ news = nw) ∧ D.length + (digs b r).length ≤ 37
theorem wr_leaf (n b : Nat) (t tb : Tok) (h : Heap) (hb : 2 ≤ b) (hb2 : b ≤ 8192) (hn : n < 2 ^ 36) (u : Nat) : PureAt w (hd.heap_39 w.params) p loose mean mg mb 72 (u + 1) [.int n t, .int b tb] h (fun v _ => ∃ t', v = .str (txt (wr b (.leaf n))) t') := by
  unfold PureAt
  w_top off
  k_fill
  intro A A₀ base h₀ outer env L m s Q E hs B F X T hA hf hke hh hdp hu hret
  subst hs
  k_dflt (refine' enter_cells (binds := [(Str.ofString "tree", Value.int n t), (Str.ofString "base", Value.int b tb)]) (nw := []) B F News.nil X T hA hf hke ?ko ?kd ?kc ?kr ?kb ?kl ?c5 ?c2 ?c3 ?c4 ?_; (case ko => exact (X.keeps F.keep) _ _ (by k_is)); (case kd => exact rfl); (case kc => exact codeRec_of (X.keeps F.keep) (by k_is)); (case kr => omega); (case kb => exact BindsTo.of_eq rfl); (case kl => exact rfl); (case c5 => decide); (case c2 => exact rfl); (case c3 => exact rfl); (case c4 => exact rfl))
  intro L' h' tk0 cells F' N' Y' B' X' T' l'
  clear l'
  change Fr s.heap L' h' _ at F'
  change News s.heap L' h' _ at N'
  change Below A base (env :: outer) s.heap at B'
  change Frag.In _ s.heap at X'
  change Top _ _ _ _ _ s.heap at T'
  k_cells Y'
  simp only [List.append_nil] at N'
  have hret' := Box.mk hret
  clear B F X T hA hf hke hret
  k_steps
  refine Halt.go ?_
  rename Fr _ _ _ _ => F1
  rename News _ _ _ _ => N1
  have hdl := digs_len hb 36 n hn
  refine While_inv2 (n₀ := n) (fun k m nw => JL b n k m nw _) F1 N1 ⟨Str.ofString "=", [61], n, _, _, rfl, rfl, rfl, ⟨lit_eq, rfl, rfl⟩, ?_⟩ ?_
  · rw [lit_eq, txt_len]; simp only [List.length_cons, List.length_nil]; omega
  · rintro k m₁ news₁ h₁ tk₁ F₁ N₁ ⟨D, d, r, t1, t2, a1, a2, rfl, a4, a5⟩
    have hnw := a4.out.2.2
    subst hnw
    have F2 := fr_see2 F₁ a1 a2
    clear F₁ a1 a2 F1 N1
    have hD5 : D.length ≤ 37 := by omega
    k_steps
    · refine Halt.go ?_
      rename 0 < (k : Int) => g1
      have e1 : (k : Int).fmod b = ((k % b : Nat) : Int) := by rw [Int.fmod_eq_emod_of_nonneg _ (by omega)]; rfl
      have e2 : (k : Int).fdiv b = ((k / b : Nat) : Int) := by rw [Int.fdiv_eq_ediv_of_nonneg _ (by omega)]; rfl
      have hmb : k % b < b := Nat.mod_lt _ (by omega)
      have hdp := digs_pos hb (show 0 < k by omega)
      have hkb : k / b < k := Nat.div_lt_self (by omega) hb
      rw [e1]
      refine chr_of_range (by omega) (by omega) ?_
      rw [Int.toNat_natCast]
      have ec : (⟨#[k % b]⟩ : Str) = txt [k % b] := rfl
      have hcl : (txt [k % b]).length = 1 := by rw [txt_len]; rfl
      rw [ec]
      have hd5 : (digs b k).length = (digs b (k / b)).length + 1 := by rw [hdp]; rfl
      have hdp' := Box.mk hdp
      clear hdp ec
      generalize hc9 : txt [k % b] = c at *
      have hc9' := Box.mk hc9
      have e2' := Box.mk e2
      clear hc9 e2
      k_steps
      dsimp only [WhileStep2]
      rename Fr _ _ _ _ => F9
      rename News _ _ _ _ => N9
      obtain ⟨⟨hD, hj, _⟩⟩ := a4
      rw [e2'.out] at F9
      refine ⟨_, _, _, _, k / b, rfl, F9, N9, hkb, D ++ c, d ++ [k % b], k / b, _, _, rfl, rfl, rfl, ⟨?_, ?_, rfl⟩, ?_⟩
      · rw [hD, ← hc9'.out, txt_app]
      · rw [← hj, hdp'.out]; simp
      · rw [strLen_append, hcl]; omega
    · dsimp only
      rename ¬ 0 < (k : Int) => g1
      have hk0 : k = 0 := by omega
      subst hk0
      obtain ⟨⟨hD, hj, _⟩⟩ := a4
      rw [digs_zero, List.append_nil] at hj
      refine hret'.out _ _ _ F2.keep ⟨t1, ?_⟩
      rw [hD, hj, wr]
/-- a tree is written as wr says -/
theorem wr_all (b : Nat) (tb : Tok) (hb : 2 ≤ b) (hb2 : b ≤ 8192) : ∀ (d : Nat), d ≤ 3 → ∀ (t : Tr) (v : Value) (h : Heap), TreeIn h v t → okT d t → PureAt w (hd.heap_39 w.params) p loose mean mg mb 72 (d + 1) [v, .int b tb] h (fun r _ => ∃ t', r = .str (txt (wr b t)) t') := by
  intro d
  induction d with
  | zero =>
    intro _ t v h hT hok
    cases hT with
    | leaf n u => exact wr_leaf n b u tb h hb hb2 hok 0
    | row _ _ => exact absurd hok (by simp [okT])
  | succ d ih =>
    intro hd3 t v h hT hok
    cases hT with
    | leaf n u => exact wr_leaf n b u tb h hb hb2 hok (d + 1)
    | row e r => exact wr_row d (by omega) b tb hb hb2 (ih (by omega)) _ _ _ _ h e r hok
end
end Mine
namespace Mine
section
local macro_rules | `(tactic| walk_at "exec While Compare cons nil") => `(tactic| refine Halt.of ?_)
local macro_rules | `(tactic| walk_at "eval ListComp") => `(tactic| refine Halt.of ?_)
local macro_rules | `(tactic| walk_at "call builtin:list.append") => `(tactic| refine Halt.of ?_)
local macro_rules | `(tactic| walk_at "TextSrc") => `(tactic| refine Halt.of ?_)
local macro_rules | `(tactic| walk_at "call builtin:ord") => `(tactic| refine Halt.of ?_)
local macro_rules | `(tactic| walk_at "call ref") => `(tactic| refine Halt.of ?_)
variable {w : World} {p : Program} {loose : List Str} {mean : ExcName → Option Value} {mg mb : Str → Option Value}
theorem rd_leaf (ds : List Nat) (wd : Nat) (t tw : Tok) (h : Heap) (c' : Addr) (hT : Tab23 h c') (hw : wd ≤ 16) (hl : ds.length ≤ 40) (hds : ∀ d ∈ ds, d < 2 ^ wd) (u : Nat) : PureAt w (hd.heap_39 w.params) p loose mean mg mb 77 (u + 24) [.str (txt (61 :: ds)) t, .int wd tw] h (fun v _ => ∃ t', v = .int (val wd ds : Nat) t') := by
  unfold PureAt
  w_top off
  k_fill
  intro A A₀ base h₀ outer env L m s Q E hs B F X T hA hf hke hh hdp hu hret
  subst hs
  generalize hx : txt (61 :: ds) = x
  have hxl : x.length = ds.length + 1 := by rw [← hx, txt_len]; rfl
  have e1 : (Txt.slice x none (some 1) == Str.ofString "=") = true := by
    rw [← hx, txt_to (by decide) (by rw [List.length_cons]; omega), lit_eq]; exact beq_self_eq_true _
  k_dflt (refine' enter_pure (binds := [(Str.ofString "text", Value.str x t), (Str.ofString "width", Value.int wd tw)]) B F X T hA hf hke ?ko ?kd ?kc ?kr ?kb ?kl ?c5 ?c2 ?c3 ?c4 ?_; (case ko => exact (X.keeps F.keep) _ _ (by k_is)); (case kd => exact rfl); (case kc => exact codeRec_of (X.keeps F.keep) (by k_is)); (case kr => omega); (case kb => exact BindsTo.of_eq rfl); (case kl => exact locs rfl); (case c5 => decide); (case c2 => exact rfl); (case c3 => exact rfl); (case c4 => exact rfl))
  intro L' h' F' N' B' X' T'
  have hx' := Box.mk hx
  clear B F X T hA hf hke hx
  k_steps
  refine Halt.go ?_
  rename Fr _ _ _ _ => F1
  rename News _ _ _ _ => N1
  refine comp_text F1 (by rfl) (by decide) (by rfl) (by decide) (by rfl) ?_
  k_steps
  refine Halt.go ?_
  try clear F1 N1
  rename Fr _ _ _ _ => F1
  rename News _ _ _ _ => N1
  have e2 : Txt.slice x (some 1) none = txt ds := by
    rw [← hx'.out, txt_from (by decide) (by rw [List.length_cons]; omega)]; rfl
  have hsz : (txt ds).cps.size ≤ sizeLine := by
    rw [sizeLine_eq]
    have : (txt ds).cps.size = ds.length := txt_len ds
    omega
  have hcs : (txt ds).cps.size = ds.length := txt_len ds
  rw [e2]
  refine ⟨txt ds, _, [], rfl, hh, F1, N1, hsz, fun g => ?_⟩
  rw [hcs]
  refine comp_inv (fun i ys => Box (IntsAre ys ((ds.take i).map Int.ofNat))) ⟨.nil⟩ ?_ ?_
  · intro i v I oI C oC D m₂ ys h tk E' hi hJ hv hC hx F2 N2 off ne
    obtain ⟨c, u, hc, rfl⟩ := hv
    have hc' : ds[i]? = some c := by
      rw [← txt_cps ds, Array.getElem?_toList]; exact hc
    k_steps
    refine Halt.go ?_
    refine P.ord_of_char ?_
    k_steps
    refine ⟨?_⟩
    rw [List.take_add_one, hc']
    show IntsAre (ys ++ [Value.int (↑c) tk]) (List.map Int.ofNat (List.take i ds ++ [c]))
    rw [List.map_append]
    exact ints_snoc hJ.out
  · intro ys hJ
    k_steps
    refine Halt.go ?_
    rename Fr _ _ _ _ => F9
    rename News _ _ _ _ => N9
    have hj := hJ.out
    rw [List.take_length] at hj
    refine pure_call B' F9 N9 X' T' rfl rfl hh (by omega) (by omega) (d2i_hit _ wd tw c' _ (hT.keeps F9.keep) ds ⟨⟨ys, ⟨_, N9.get (.head _), rfl, _, rfl⟩, hj⟩, by omega⟩ hds hw) ?_
    intro r h2 tk2 st2 F2 N2 P2
    exact hret _ _ _ F2.keep P2
def JR (b : Nat) (T : List Nat) (x : Str) (l : List Tr) (wd : Nat) (t tw : Tok) (n : Nat) (m : Str → Option Value) (news : List (Addr × Obj)) : Prop :=
  ∃ (done rest : List Tr) (pl : Nat) (D : Addr) (vs : List Value) (ep : Nat) (own : List (Addr × Obj)) (t1 : Tok),
    m (Str.ofString "text") = some (.str x t) ∧ m (Str.ofString "width") = some (.int wd tw) ∧ m (Str.ofString "told") = some (.ref D) ∧ m (Str.ofString "place") = some (.int pl t1) ∧
    news = (D, listOf vs.toArray ep) :: own ∧ Box (l = done ++ rest ∧ n = rest.length ∧ standsAt b T rest pl ∧ TreesL own vs done ∧ (∀ q ∈ own, q.1 ≠ D))
theorem rd_row (d : Nat) (hd2 : d ≤ 2) (wd : Nat) (tw : Tok) (hw : wd ≤ 16) (hw1 : 1 ≤ wd) (c' : Addr) (IH : ∀ (u : Tr) (tu : Tok) (h : Heap), okT d u → Tab23 h c' → PureAt w (hd.heap_39 w.params) p loose mean mg mb 77 (d + 24) [.str (txt (wr (2 ^ wd) u)) tu, .int wd tw] h (fun v h' => ∃ own, TreeL own v u ∧ ∀ q ∈ own, h'.get? q.1 = some q.2 ∧ h.get? q.1 = none))
    (l : List Tr) (t : Tok) (h : Heap) (hok : okT (d + 1) (.row l)) (hT : Tab23 h c') : PureAt w (hd.heap_39 w.params) p loose mean mg mb 77 (d + 1 + 24) [.str (txt (wr (2 ^ wd) (.row l))) t, .int wd tw] h (fun v h' => ∃ own, TreeL own v (.row l) ∧ ∀ q ∈ own, h'.get? q.1 = some q.2 ∧ h.get? q.1 = none) := by
  unfold PureAt
  w_top off
  k_fill
  intro A A₀ base h₀ outer env L m s Q E hs B F X T hA hf hke hh hdp hu hret
  subst hs
  have hb : 2 ≤ 2 ^ wd := Nat.le_trans (by decide : 2 ≤ 2 ^ 1) (Nat.pow_le_pow_right (by decide) hw1)
  generalize hbq : 2 ^ wd = b at *
  have hlen := wr_len hb (d + 1) (.row l) hok
  have hl3 := lw_mono (show d + 1 ≤ 3 by omega)
  rw [lw_three] at hl3
  generalize hTT : wr b (.row l) = TT at *
  have hst := stands_start b l
  rw [hTT] at hst
  generalize hx : txt TT = x
  have hxl : x.length = TT.length := by rw [← hx, txt_len]
  have e1 : (Txt.slice x none (some 1) == Str.ofString "=") = false := by
    rw [← hx, ← hTT, wr, txt_to (by decide) (by rw [List.length_cons]; omega), lit_eq]
    exact beq_eq_false_iff_ne.mpr fun e => absurd (txt_inj e) (by simp)
  k_dflt (refine' enter_pure (binds := [(Str.ofString "text", Value.str x t), (Str.ofString "width", Value.int wd tw)]) B F X T hA hf hke ?ko ?kd ?kc ?kr ?kb ?kl ?c5 ?c2 ?c3 ?c4 ?_; (case ko => exact (X.keeps F.keep) _ _ (by k_is)); (case kd => exact rfl); (case kc => exact codeRec_of (X.keeps F.keep) (by k_is)); (case kr => omega); (case kb => exact BindsTo.of_eq rfl); (case kl => exact locs rfl); (case c5 => decide); (case c2 => exact rfl); (case c3 => exact rfl); (case c4 => exact rfl))
  intro L' h' F' N' B' X' T'
  have hx9 : x.length ≤ 533725 := by omega
  have hx' := Box.mk (And.intro hx hxl)
  have hok' := Box.mk hok
  have hst' := Box.mk hst
  have hret' := Box.mk hret
  have IH' := Box.mk IH
  clear B F X T hA hf hke hx hxl hok hst hret IH hlen hl3
  k_steps
  refine Halt.go ?_
  rename Fr _ _ _ _ => F1
  rename News _ _ _ _ => N1
  refine While_inv2 (n₀ := l.length) (JR b TT x l wd t tw) F1 N1 ⟨[], l, 1, _, [], _, [], _, rfl, rfl, rfl, rfl, rfl, ⟨rfl, rfl, hst'.out, .nil, fun _ hq => nomatch hq⟩⟩ ?_
  rintro n m₁ news₁ h₁ tk₁ F₁ N₁ ⟨done, rest, pl, D, vs, ep, own, t1, a1, a2, a3, a4, rfl, a6⟩
  have F2 := fr_see4 F₁ a1 a2 a3 a4
  clear F₁ a1 a2 a3 a4 F1 N1
  k_steps
  · refine Halt.go ?_
    rename Fr _ _ _ _ => F9
    rename News _ _ _ _ => N9
    rename (pl : Int) < x.length => g1
    obtain ⟨⟨hl9, hn9, hst9, htr9, how9⟩⟩ := a6
    have hxl := hx'.out.2
    cases rest with
    | nil => exact absurd (show TT.length ≤ pl from hst9) (by omega)
    | cons u r =>
    have hoku : okT d u := hok'.out.2 u (by rw [hl9]; exact List.mem_append_right _ (.head _))
    have hlu := Nat.le_trans (wr_len hb d u hoku) (lw_mono hd2)
    rw [lw_two] at hlu
    have hcu : (wr b u).count 34 ≤ (wr b u).length := List.count_le_length
    have e2 : Str.ofString "257 " ++ Txt.slice x (some (pl : Int)) none = txt (50 :: 53 :: 55 :: 32 :: 34 :: (dbl (wr b u) ++ 34 :: tailOf b r)) := by
      rw [← hx'.out.1, txt_from_any (by omega), Int.toNat_natCast, hst9.1, glue_cons, lit_257s, txt_app]; rfl
    have hrl : (dbl (wr b u) ++ 34 :: tailOf b r).length ≤ 1048000 := by
      have h1 : (TT.drop pl).length ≤ TT.length := by rw [List.length_drop]; omega
      rw [hst9.1, glue_cons, List.length_cons] at h1
      omega
    rw [e2]
    refine pure_call2 B' F9 N9 X' T' rfl rfl hh (by omega) (by omega) (p257 _ _ _ hrl) ?_
    intro r2 h2 tk2 htk2 st2 F3 N3 ⟨t2, hr2⟩
    rw [unq_dbl _ _ (tail_head b r)] at hr2
    subst hr2
    have hlx : (txt (wr b u)).length = (wr b u).length := txt_len _
    generalize hy9 : txt (wr b u) = y at *
    generalize hz9 : (wr b u).length = z at *
    have hy9' := Box.mk hy9
    have hcz := Box.mk (And.intro hcu (And.intro hst9 htr9))
    clear hy9 F9 N9 hcu hst9 htr9 e2
    k_steps
    refine Halt.go ?_
    rename Fr _ _ _ _ => F9
    rename News _ _ _ _ => N9
    have hI := IH'.out u
    rw [hy9'.out] at hI
    refine pure_call2 B' F9 N9 X' T' rfl rfl hh (by omega) (by omega) (hI _ _ hoku (hT.keeps F9.keep)) ?_
    intro r4 h4 tk4 htk4 st4 F4 N4 ⟨own4, hT4, hq4⟩
    try clear F3 N3
    have hns : ∀ q ∈ own4, q.1 ≠ D := fun q hq e => by
      have h1 := (hq4 q hq).2
      rw [e] at h1
      exact absurd ((N9.get (.head _)).symm.trans h1) (by simp)
    have N4' := news_more F9 N4 hq4
    rw [List.cons_append] at N4'
    clear F9 N4
    k_steps
    refine Halt.go ?_
    rename Fr _ _ _ _ => F5
    rename News _ _ _ _ => N5
    have hvl := hcz.out.2.2.length
    have hdl : done.length ≤ 12 := by
      have h1 := hok'.out.1
      rw [hl9, List.length_append] at h1
      omega
    have hDD := N5 _ (.head _)
    refine append_at hDD.1 (fun h6 hs6 hD6 => ?_) (by rw [List.size_toArray, sizeLine_eq]; omega)
    have how6 : ∀ q ∈ own ++ own4, q.1 ≠ D := fun q hq => (List.mem_append.mp hq).elim (how9 q) (hns q)
    have F6 := F5.change hs6 hDD.2.1 hDD.2.2
    have N6 := news_push N5 how6 hs6 hD6
    clear F5 N5
    k_steps
    dsimp only [WhileStep2]
    rename Fr _ _ _ _ => F9
    rename News _ _ _ _ => N9
    have e5 : (pl : Int) + y.length + Txt.count y (Str.ofString "\"") + 3 = ((pl + (wr b u).length + (wr b u).count 34 + 3 : Nat) : Int) := by
      rw [hlx, ← hy9'.out, lit_quote, txt_count, hz9]; omega
    rw [e5] at F9
    refine ⟨_, _, _, _, r.length, rfl, F9, N9, by rw [hn9]; exact Nat.lt_succ_self _, done ++ [u], r, _, D, vs ++ [r4], ep + 1, own ++ own4, _, rfl, rfl, rfl, rfl, rfl, ⟨by rw [hl9]; simp, rfl, stands_next hcz.out.2.1, ?_, how6⟩⟩
    exact (hcz.out.2.2.mono fun q hq => List.mem_append_left _ hq).snoc (hT4.mono fun q hq => List.mem_append_right _ hq)
  · dsimp only
    rename ¬ (pl : Int) < x.length => g1
    obtain ⟨⟨hl9, hn9, hst9, htr9, how9⟩⟩ := a6
    have hxl := hx'.out.2
    cases rest with
    | cons u r => exact absurd hst9.2 (by omega)
    | nil =>
      rw [List.append_nil] at hl9
      subst hl9
      refine hret'.out _ _ _ F2.keep ⟨(D, listOf vs.toArray ep) :: own, .row (.head _) (htr9.mono fun q hq => .tail _ hq), fun q hq => ⟨(N₁ q hq).1, (N₁ q hq).2.2⟩⟩
/-- what is written is read back -/
theorem rd_all (wd : Nat) (tw : Tok) (hw : wd ≤ 16) (hw1 : 1 ≤ wd) (c' : Addr) : ∀ (d : Nat), d ≤ 3 → ∀ (u : Tr) (tu : Tok) (h : Heap), okT d u → Tab23 h c' → PureAt w (hd.heap_39 w.params) p loose mean mg mb 77 (d + 24) [.str (txt (wr (2 ^ wd) u)) tu, .int wd tw] h (fun v h' => ∃ own, TreeL own v u ∧ ∀ q ∈ own, h'.get? q.1 = some q.2 ∧ h.get? q.1 = none) := by
  have hb : 2 ≤ 2 ^ wd := Nat.le_trans (by decide : 2 ≤ 2 ^ 1) (Nat.pow_le_pow_right (by decide) hw1)
  have lf : ∀ (d n : Nat) (tu : Tok) (h : Heap), n < 2 ^ 36 → Tab23 h c' → PureAt w (hd.heap_39 w.params) p loose mean mg mb 77 (d + 24) [.str (txt (wr (2 ^ wd) (.leaf n))) tu, .int wd tw] h (fun v h' => ∃ own, TreeL own v (.leaf n) ∧ ∀ q ∈ own, h'.get? q.1 = some q.2 ∧ h.get? q.1 = none) := by
    intro d n tu h hn hT A A₀ base h₀ outer env L m s Q E hs B F X T hA hf hke hh hdp hu hret
    have hl := digs_len hb 36 n hn
    refine rd_leaf (digs (2 ^ wd) n) wd tu tw h c' hT hw (by omega) (digs_lt hb n n (Nat.le_refl _)) d A A₀ base h₀ outer env L m s Q E hs B F X T hA hf hke hh hdp hu fun r h' tk st ⟨t', hr⟩ => ?_
    refine hret r h' tk st ⟨[], ?_, fun q hq => nomatch hq⟩
    rw [hr, digs_val wd hw1 n n (Nat.le_refl _)]
    exact .leaf n t'
  intro d
  induction d with
  | zero =>
    intro _ u tu h hok hT
    cases u with
    | leaf n => exact lf 0 n tu h hok hT
    | row l => exact absurd hok (by simp [okT])
  | succ d ih =>
    intro hd3 u tu h hok hT
    cases u with
    | leaf n => exact lf (d + 1) n tu h hok hT
    | row l => exact rd_row d (by omega) wd tw hw hw1 c' (ih (by omega)) l tu h hok hT
end
end Mine
namespace Mine
def JT (i : Nat) (m : Str → Option Value) (news : List (Addr × Obj)) : Prop :=
  ∃ (D : Addr) (ep : Nat) (ops : List Op) (own : List (Addr × Obj)), m (Str.ofString "rows") = some (.ref D) ∧ news = (D, listOf (refs ops).toArray ep) :: (ops.map ent ++ own) ∧ Box (GoodT i D ops own)
/-- the ledger of a turn: the table of rows, the open rows, the closed ones, the iterator's -/
abbrev led (D : Addr) (ep : Nat) (ops : List Op) (own1 own : List (Addr × Obj)) : List (Addr × Obj) := ((D, listOf (refs ops).toArray ep) :: (ops.map ent ++ own1)) ++ own
theorem led_of {h₀ h : Heap} {L D : Addr} {ep : Nat} {ops : List Op} {own1 own : List (Addr × Obj)} (hD : h.get? D = some (listOf (refs ops).toArray ep) ∧ D ≠ L ∧ h₀.get? D = none) (ho : ∀ o ∈ ops, h.get? o.a = some (listOf o.vs.toArray o.ep) ∧ o.a ≠ L ∧ h₀.get? o.a = none) (hw : News h₀ L h own1) (hx : News h₀ L h own) : News h₀ L h (led D ep ops own1 own) := by
  intro q hq
  cases List.mem_append.mp hq with
  | inr hq => exact hx q hq
  | inl hq =>
    cases List.mem_cons.mp hq with
    | inl e => subst e; exact hD
    | inr hq =>
      cases List.mem_append.mp hq with
      | inr hq => exact hw q hq
      | inl hq =>
        obtain ⟨o, hm, rfl⟩ := List.mem_map.mp hq
        exact ho o hm
section
variable {h₀ h h' : Heap} {L D : Addr} {ep i tk : Nat} {lo : List Op} {o : Op} {own1 own : List (Addr × Obj)} {m : Str → Option Value} {s₁ : Shared}
theorem led_tab {ops : List Op} (N : News h₀ L h (led D ep ops own1 own)) : h.get? D = some (listOf (refs ops).toArray ep) ∧ D ≠ L ∧ h₀.get? D = none := N _ (List.mem_append_left _ (.head _))
theorem led_op {ops : List Op} (N : News h₀ L h (led D ep ops own1 own)) (u : Op) (hu : u ∈ ops) : h.get? u.a = some (listOf u.vs.toArray u.ep) ∧ u.a ≠ L ∧ h₀.get? u.a = none := N _ (List.mem_append_left _ (.tail _ (List.mem_append_left _ (List.mem_map.mpr ⟨u, hu, rfl⟩))))
theorem led_own1 {ops : List Op} (N : News h₀ L h (led D ep ops own1 own)) : News h₀ L h own1 := fun q hq => N q (List.mem_append_left _ (.tail _ (List.mem_append_right _ hq)))
theorem led_own {ops : List Op} (N : News h₀ L h (led D ep ops own1 own)) : News h₀ L h own := fun q hq => N q (List.mem_append_right _ hq)
theorem news_off {news : List (Addr × Obj)} {b : Addr} (N : News h₀ L h news) (hs : Heap.SameBut b h h') (hb : ∀ q ∈ news, q.1 ≠ b) : News h₀ L h' news := fun q hq => ⟨(hs.2 _ (hb q hq)).trans (N q hq).1, (N q hq).2⟩
theorem nodup_ne {x : Addr} {l : List Addr} (hn : (x :: l).Nodup) : ∀ y ∈ l, y ≠ x := fun y hy e => (List.nodup_cons.mp hn).1 (e ▸ hy)
theorem nodup_last {l : List Addr} {x : Addr} (hn : (l ++ [x]).Nodup) : ∀ y ∈ l, y ≠ x := fun y hy => (List.nodup_append.mp hn).2.2 y hy x (.head _)
/-- a leaf goes into the row opened last -/
theorem turn_leaf {z : Nat} {t : Tok} (F : Fr h₀ L h m) (hm : m (Str.ofString "rows") = some (.ref D)) (N : News h₀ L h (led D ep (lo ++ [o]) own1 own)) (hs : Heap.SameBut o.a h h') (hD : h'.get? o.a = some { cls := .type "list", data := .seq (o.vs.toArray.push (.int z t)) (o.ep + 1) }) (hz : z < 2 ^ 36)
    (g : GoodT i D (lo ++ [o]) own1) (sep : ∀ q ∈ own, ∀ r ∈ (D, listOf (refs (lo ++ [o])).toArray ep) :: ((lo ++ [o]).map ent ++ own1), q.1 ≠ r.1) : TurnEnd h₀ L own (JT (i + 1)) s₁ .next { s₁ with heap := h', toks := tk } := by
  have hD0 := led_tab N
  have ho := led_op N o (List.mem_append_right _ (.head _))
  have nd := g.nd
  have nD : D ≠ o.a := fun e => nodup_ne nd o.a (by simp) e.symm
  have nl : ∀ u ∈ lo, u.a ≠ o.a := fun u hu => by
    have := (List.nodup_cons.mp nd).2
    rw [List.map_append] at this
    exact nodup_last this u.a (List.mem_map.mpr ⟨u, hu, rfl⟩)
  have sepo : ∀ q ∈ own, q.1 ≠ o.a := fun q hq => sep q hq (ent o) (.tail _ (List.mem_append_left _ (List.mem_map.mpr ⟨o, List.mem_append_right _ (.head _), rfl⟩)))
  have er : refs (lo ++ [(⟨o.a, o.vs ++ [.int z t], o.ep + 1, o.ts ++ [.leaf z]⟩ : Op)]) = refs (lo ++ [o]) := by rw [refs_snoc, refs_snoc]
  refine ⟨rfl, h', tk, m, _, rfl, F.change hs ho.2.1 ho.2.2, ?_, ?_, D, ep, lo ++ [⟨o.a, o.vs ++ [.int z t], o.ep + 1, o.ts ++ [.leaf z]⟩], own1, hm, rfl, ⟨g.leaf hz⟩⟩
  · refine led_of ⟨by rw [er]; exact (hs.2 _ nD).trans hD0.1, hD0.2⟩ (fun u hu => ?_) (news_off (led_own1 N) hs fun q hq => (g.ow q hq).2 o (List.mem_append_right _ (.head _))) (news_off (led_own N) hs sepo)
    cases List.mem_append.mp hu with
    | inl hu => exact ⟨(hs.2 _ (nl u hu)).trans (led_op N u (List.mem_append_left _ hu)).1, (led_op N u (List.mem_append_left _ hu)).2⟩
    | inr hu =>
      cases List.mem_singleton.mp hu
      refine ⟨?_, ho.2⟩
      rw [hD, List.push_toArray]
  · intro q hq r hr
    have h9 : q.1 ≠ D := sep q hq _ (.head _)
    cases List.mem_cons.mp hr with
    | inl e => subst e; exact h9
    | inr hr =>
      cases List.mem_append.mp hr with
      | inr hr => exact sep q hq r (.tail _ (List.mem_append_right _ hr))
      | inl hr =>
        obtain ⟨u, hu, rfl⟩ := List.mem_map.mp hr
        cases List.mem_append.mp hu with
        | inl hu => exact sep q hq (ent u) (.tail _ (List.mem_append_left _ (List.mem_map.mpr ⟨u, List.mem_append_left _ hu, rfl⟩)))
        | inr hu => cases List.mem_singleton.mp hu; exact sepo q hq
/-- a new row is opened -/
theorem turn_push {b : Addr} {ops : List Op} (F : Fr h₀ L h m) (hm : m (Str.ofString "rows") = some (.ref D)) (N : News h₀ L h (led D ep ops own1 own)) (hb : h.get? b = some (listOf ([] : List Value).toArray 0) ∧ b ≠ L ∧ h₀.get? b = none) (hnb : ∀ q ∈ led D ep ops own1 own, q.1 ≠ b)
    (hs : Heap.SameBut D h h') (hD : h'.get? D = some { cls := .type "list", data := .seq ((refs ops).toArray.push (.ref b)) (ep + 1) }) (hl : ops.length < 3)
    (g : GoodT i D ops own1) (sep : ∀ q ∈ own, ∀ r ∈ (D, listOf (refs ops).toArray ep) :: (ops.map ent ++ own1), q.1 ≠ r.1) : TurnEnd h₀ L own (JT (i + 1)) s₁ .next { s₁ with heap := h', toks := tk } := by
  have hD0 := led_tab N
  have nd := g.nd
  have nb : b ≠ D := fun e => hnb _ (List.mem_append_left _ (.head _)) e.symm
  have nbo : ∀ u ∈ ops, b ≠ u.a := fun u hu e => hnb _ (List.mem_append_left _ (.tail _ (List.mem_append_left _ (List.mem_map.mpr ⟨u, hu, rfl⟩)))) e.symm
  have nbw : ∀ q ∈ own1, q.1 ≠ b := fun q hq => hnb _ (List.mem_append_left _ (.tail _ (List.mem_append_right _ hq)))
  have nbx : ∀ q ∈ own, q.1 ≠ b := fun q hq => hnb _ (List.mem_append_right _ hq)
  have nD : ∀ u ∈ ops, u.a ≠ D := fun u hu => nodup_ne nd u.a (List.mem_map.mpr ⟨u, hu, rfl⟩)
  refine ⟨rfl, h', tk, m, _, rfl, F.change hs hD0.2.1 hD0.2.2, ?_, ?_, D, ep + 1, ops ++ [⟨b, [], 0, []⟩], own1, hm, rfl, ⟨g.push hl nb nbo nbw⟩⟩
  · refine led_of ⟨by rw [hD, refs_snoc, List.push_toArray], hD0.2⟩ (fun u hu => ?_) (news_off (led_own1 N) hs fun q hq => (g.ow q hq).1) (news_off (led_own N) hs fun q hq => sep q hq (D, _) (.head _))
    cases List.mem_append.mp hu with
    | inl hu => exact ⟨(hs.2 _ (nD u hu)).trans (led_op N u hu).1, (led_op N u hu).2⟩
    | inr hu =>
      cases List.mem_singleton.mp hu
      exact ⟨(hs.2 _ nb).trans hb.1, hb.2⟩
  · intro q hq r hr
    have h9 : q.1 ≠ D := sep q hq _ (.head _)
    cases List.mem_cons.mp hr with
    | inl e => subst e; exact h9
    | inr hr =>
      cases List.mem_append.mp hr with
      | inr hr => exact sep q hq r (.tail _ (List.mem_append_right _ hr))
      | inl hr =>
        obtain ⟨u, hu, rfl⟩ := List.mem_map.mp hr
        cases List.mem_append.mp hu with
        | inl hu => exact sep q hq (ent u) (.tail _ (List.mem_append_left _ (List.mem_map.mpr ⟨u, hu, rfl⟩)))
        | inr hu => cases List.mem_singleton.mp hu; exact nbx q hq
/-- the row opened last is closed: the table has it no more, and now it stands in the row below -/
theorem close_state {p : Op} (N : News h₀ L h (((D, listOf (refs (lo ++ [p])).toArray (ep + 1)) :: ((lo ++ [p] ++ [o]).map ent ++ own1)) ++ own))
    (hs2 : Heap.SameBut p.a h h') (hp : h'.get? p.a = some { cls := .type "list", data := .seq (p.vs.toArray.push (.ref o.a)) (p.ep + 1) })
    (g : GoodT i D (lo ++ [p] ++ [o]) own1) (hi : i ≤ 12) (sep : ∀ q ∈ own, ∀ r ∈ (D, listOf (refs (lo ++ [p] ++ [o])).toArray ep) :: ((lo ++ [p] ++ [o]).map ent ++ own1), q.1 ≠ r.1) :
    News h₀ L h' (led D (ep + 1) (lo ++ [⟨p.a, p.vs ++ [.ref o.a], p.ep + 1, p.ts ++ [.row o.ts]⟩]) (ent o :: own1) own) ∧ GoodT i D (lo ++ [⟨p.a, p.vs ++ [.ref o.a], p.ep + 1, p.ts ++ [.row o.ts]⟩]) (ent o :: own1) ∧
      (∀ q ∈ own, ∀ r ∈ (D, listOf (refs (lo ++ [(⟨p.a, p.vs ++ [.ref o.a], p.ep + 1, p.ts ++ [.row o.ts]⟩ : Op)])).toArray (ep + 1)) :: ((lo ++ [(⟨p.a, p.vs ++ [.ref o.a], p.ep + 1, p.ts ++ [.row o.ts]⟩ : Op)]).map ent ++ ent o :: own1), q.1 ≠ r.1) := by
  have hD0 := N _ (List.mem_append_left _ (.head _))
  have hop : ∀ u ∈ lo ++ [p] ++ [o], h.get? u.a = some (listOf u.vs.toArray u.ep) ∧ u.a ≠ L ∧ h₀.get? u.a = none := fun u hu => N _ (List.mem_append_left _ (.tail _ (List.mem_append_left _ (List.mem_map.mpr ⟨u, hu, rfl⟩))))
  have how : News h₀ L h own1 := fun q hq => N q (List.mem_append_left _ (.tail _ (List.mem_append_right _ hq)))
  have hox : News h₀ L h own := fun q hq => N q (List.mem_append_right _ hq)
  have mo : o ∈ lo ++ [p] ++ [o] := List.mem_append_right _ (.head _)
  have mp : p ∈ lo ++ [p] ++ [o] := List.mem_append_left _ (List.mem_append_right _ (.head _))
  have ml : ∀ u ∈ lo, u ∈ lo ++ [p] ++ [o] := fun u hu => List.mem_append_left _ (List.mem_append_left _ hu)
  have nd := g.nd
  have nD : ∀ u ∈ lo ++ [p] ++ [o], u.a ≠ D := fun u hu => nodup_ne nd u.a (List.mem_map.mpr ⟨u, hu, rfl⟩)
  have nd2 := (List.nodup_cons.mp nd).2
  rw [List.map_append] at nd2
  have npo : ∀ u ∈ lo ++ [p], u.a ≠ o.a := fun u hu => nodup_last nd2 u.a (List.mem_map.mpr ⟨u, hu, rfl⟩)
  have nd3 := (List.nodup_append.mp nd2).1
  rw [List.map_append] at nd3
  have nlp : ∀ u ∈ lo, u.a ≠ p.a := fun u hu => nodup_last nd3 u.a (List.mem_map.mpr ⟨u, hu, rfl⟩)
  have sepu : ∀ u ∈ lo ++ [p] ++ [o], ∀ q ∈ own, q.1 ≠ u.a := fun u hu q hq => sep q hq (ent u) (.tail _ (List.mem_append_left _ (List.mem_map.mpr ⟨u, hu, rfl⟩)))
  have er : refs (lo ++ [(⟨p.a, p.vs ++ [.ref o.a], p.ep + 1, p.ts ++ [.row o.ts]⟩ : Op)]) = refs (lo ++ [p]) := by rw [refs_snoc, refs_snoc]
  refine ⟨?_, g.close hi, ?_⟩
  · refine led_of ⟨by rw [er]; exact (hs2.2 _ (fun e => nD p mp e.symm)).trans hD0.1, hD0.2⟩ (fun u hu => ?_) (fun q hq => ?_) (news_off hox hs2 (sepu p mp))
    · cases List.mem_append.mp hu with
      | inl hu => exact ⟨(hs2.2 _ (nlp u hu)).trans (hop u (ml u hu)).1, (hop u (ml u hu)).2⟩
      | inr hu =>
        cases List.mem_singleton.mp hu
        refine ⟨?_, (hop p mp).2⟩
        rw [hp, List.push_toArray]
    · cases List.mem_cons.mp hq with
      | inl e =>
        subst e
        exact ⟨(hs2.2 _ (fun e => npo p (List.mem_append_right _ (.head _)) e.symm)).trans (hop o mo).1, (hop o mo).2⟩
      | inr hq => exact ⟨(hs2.2 _ ((g.ow q hq).2 p mp)).trans (how q hq).1, (how q hq).2⟩
  · intro q hq r hr
    have h9 : q.1 ≠ D := sep q hq _ (.head _)
    cases List.mem_cons.mp hr with
    | inl e => subst e; exact h9
    | inr hr =>
      cases List.mem_append.mp hr with
      | inr hr =>
        cases List.mem_cons.mp hr with
        | inl e => subst e; exact sepu o mo q hq
        | inr hr => exact sep q hq r (.tail _ (List.mem_append_right _ hr))
      | inl hr =>
        obtain ⟨u, hu, rfl⟩ := List.mem_map.mp hr
        cases List.mem_append.mp hu with
        | inl hu => exact sepu u (ml u hu) q hq
        | inr hu => cases List.mem_singleton.mp hu; exact sepu p mp q hq
/-- the ledger with the last open row in sight -/
theorem led_show {rows : List Value} (N : News h₀ L h (((D, listOf rows.toArray ep) :: ((lo ++ [o]).map ent ++ own1)) ++ own)) : News h₀ L h ((D, listOf rows.toArray ep) :: (o.a, listOf o.vs.toArray o.ep) :: (lo.map ent ++ own1 ++ own)) := by
  intro q hq
  refine N q ?_
  simp only [List.map_append, List.map_cons, List.map_nil, List.mem_append, List.mem_cons, List.not_mem_nil, or_false, ent] at hq ⊢
  rcases hq with h | h | (h | h) | h <;> simp [h]
theorem led_hide {rows : List Value} (N : News h₀ L h ((D, listOf rows.toArray ep) :: (o.a, listOf o.vs.toArray o.ep) :: (lo.map ent ++ own1 ++ own))) : News h₀ L h (((D, listOf rows.toArray ep) :: ((lo ++ [o]).map ent ++ own1)) ++ own) := by
  intro q hq
  refine N q ?_
  simp only [List.map_append, List.map_cons, List.map_nil, List.mem_append, List.mem_cons, List.not_mem_nil, or_false, ent] at hq ⊢
  rcases hq with (h | (h | h) | h) | h <;> simp [h]
theorem allLt_mem {d : Nat} : ∀ {l : List (Addr × Obj)}, AllLt d l → ∀ q ∈ l, @LT.lt Nat _ q.1 d
  | [], _, _, h => nomatch h
  | _ :: _, x, q, h => by
    cases List.mem_cons.mp h with
    | inl e => subst e; exact x.1
    | inr h => exact allLt_mem x.2 q h
theorem led_hide' (N : News h₀ L h ((D, listOf (refs lo ++ [Value.ref o.a]).toArray ep) :: (o.a, listOf o.vs.toArray o.ep) :: (lo.map ent ++ own1 ++ own))) : News h₀ L h (led D ep (lo ++ [o]) own1 own) := by
  have h1 := led_hide N
  rw [← refs_snoc] at h1
  exact h1
theorem led_show2 {rows : List Value} {p : Op} (N : News h₀ L h ((D, listOf rows.toArray ep) :: (o.a, listOf o.vs.toArray o.ep) :: ((lo ++ [p]).map ent ++ own1 ++ own))) : News h₀ L h ((D, listOf rows.toArray ep) :: (p.a, listOf p.vs.toArray p.ep) :: (o.a, listOf o.vs.toArray o.ep) :: (lo.map ent ++ own1 ++ own)) := by
  intro q hq
  refine N q ?_
  simp only [List.map_append, List.map_cons, List.map_nil, List.mem_append, List.mem_cons, List.not_mem_nil, or_false, ent] at hq ⊢
  rcases hq with h | h | h | (h | h) | h <;> simp [h]
theorem led_hide2 {p : Op} (N : News h₀ L h ((D, listOf (refs lo ++ [Value.ref p.a]).toArray ep) :: (p.a, listOf p.vs.toArray p.ep) :: (o.a, listOf o.vs.toArray o.ep) :: (lo.map ent ++ own1 ++ own))) : News h₀ L h (((D, listOf (refs (lo ++ [p])).toArray ep) :: ((lo ++ [p] ++ [o]).map ent ++ own1)) ++ own) := by
  intro q hq
  refine N q ?_
  rw [refs_snoc] at hq
  simp only [List.map_append, List.map_cons, List.map_nil, List.mem_append, List.mem_cons, List.not_mem_nil, or_false, ent] at hq ⊢
  rcases hq with (h | ((h | h) | h) | h) | h <;> simp [h]
theorem show_ne (g : GoodT i D (lo ++ [o]) own1) (sep : ∀ q ∈ own, ∀ r ∈ (D, listOf (refs (lo ++ [o])).toArray ep) :: ((lo ++ [o]).map ent ++ own1), q.1 ≠ r.1) : ∀ q ∈ (o.a, listOf o.vs.toArray o.ep) :: (lo.map ent ++ own1 ++ own), q.1 ≠ D := by
  intro q hq
  have nD : ∀ u ∈ lo ++ [o], u.a ≠ D := fun u hu => nodup_ne g.nd u.a (List.mem_map.mpr ⟨u, hu, rfl⟩)
  cases List.mem_cons.mp hq with
  | inl e => subst e; exact nD o (List.mem_append_right _ (.head _))
  | inr hq =>
    cases List.mem_append.mp hq with
    | inr hq => exact sep q hq _ (.head _)
    | inl hq =>
      cases List.mem_append.mp hq with
      | inr hq => exact (g.ow q hq).1
      | inl hq =>
        obtain ⟨u, hu, rfl⟩ := List.mem_map.mp hq
        exact nD u (List.mem_append_left _ hu)
theorem leaf_nat (a : Int) : ∃ z : Nat, a.fmod (2 ^ Int.toNat 36) = (z : Int) ∧ z < 2 ^ 36 := by
  have h0 : (0 : Int) < 2 ^ Int.toNat 36 := by decide
  have h1 := Int.fmod_nonneg_of_pos a h0
  have h2 := Int.fmod_lt_of_pos a h0
  have h3 : (2 : Int) ^ Int.toNat 36 = 68719476736 := by decide
  rw [h3] at h1 h2 ⊢
  exact ⟨(a.fmod 68719476736).toNat, by omega, by omega⟩
/-- how the loops' states grow: no row has more entries than turns -/
theorem GoodT.vs_len {ops : List Op} (g : GoodT i D ops own1) (u : Op) (hu : u ∈ ops) : u.vs.length ≤ i := by
  have h1 := (g.tr u hu).length
  have h2 := g.ct
  have h3 : ∀ l : List Op, u ∈ l → u.ts.length ≤ total l := by
    intro l
    induction l with
    | nil => intro h; cases h
    | cons x l ih =>
      intro h
      show _ ≤ x.ts.length + total l
      cases List.mem_cons.mp h with
      | inl e => subst e; omega
      | inr h => have := ih h; omega
  have := h3 ops hu
  omega
end
end Mine
namespace Mine
section
local macro_rules | `(tactic| walk_at "exec For Name BinOp cons nil") => `(tactic| refine Halt.of ?_)
local macro_rules | `(tactic| walk_at "call builtin:len") => `(tactic| (k_here; k_dflt (refine' rows_len ?N ?k ?b ?_; (case N => k_asm); (case k => k_asm); (case b => omega); k_whole)))
local macro_rules | `(tactic| walk_at "subscriptTail Name UnaryOp ref int") => `(tactic| (k_here; k_dflt (refine' rows_last ?N ?_ ?hs ?hg; (case N => k_asm); (case hs => with_unfolding_all rfl); (case hg => (intro _; with_unfolding_all rfl)); k_whole)))
local macro_rules | `(tactic| walk_at "call builtin:list.append") => `(tactic| refine Halt.of ?_)
local macro_rules | `(tactic| walk_at "call builtin:list.pop") => `(tactic| refine Halt.of ?_)
local macro_rules | `(tactic| walk_at "exec While Compare cons nil") => `(tactic| refine Halt.of ?_)
local macro_rules | `(tactic| walk_at "pyIter ref") => `(tactic| refine Halt.of ?_)
variable {w : World} {p : Program} {loose : List Str} {mean : ExcName → Option Value} {mg mb : Str → Option Value}
def JW (k : Nat) (m : Str → Option Value) (news : List (Addr × Obj)) : Prop :=
  ∃ (D : Addr) (ep : Nat) (ops : List Op) (own : List (Addr × Obj)), m (Str.ofString "rows") = some (.ref D) ∧ news = (D, listOf (refs ops).toArray ep) :: (ops.map ent ++ own) ∧ ops.length = k ∧ Box (GoodT 12 D ops own)
theorem tr_all (a : Addr) (items : List Value) (ns : List Int) (h : Heap) (hl : h.IsList a items.toArray) (hi : IntsAre items ns) (hns : ns.length ≤ 63) : PureAt w (hd.heap_39 w.params) p loose mean mg mb 67 1 [.ref a] h (fun v h' => ∃ l own, okT 3 (.row l) ∧ TreeL own v (.row l) ∧ ∀ q ∈ own, h'.get? q.1 = some q.2 ∧ h.get? q.1 = none) := by
  unfold PureAt
  w_top off
  k_fill
  intro A A₀ base h₀ outer env L m s Q E hs B F X T hA hf hke hh hdp hu hret
  subst hs
  k_dflt (refine' enter_pure (binds := [(Str.ofString "script", Value.ref a)]) B F X T hA hf hke ?ko ?kd ?kc ?kr ?kb ?kl ?c5 ?c2 ?c3 ?c4 ?_; (case ko => exact (X.keeps F.keep) _ _ (by k_is)); (case kd => exact rfl); (case kc => exact codeRec_of (X.keeps F.keep) (by k_is)); (case kr => omega); (case kb => exact BindsTo.of_eq rfl); (case kl => exact locs rfl); (case c5 => decide); (case c2 => exact rfl); (case c3 => exact rfl); (case c4 => exact rfl))
  intro L' h' F' N' B' X' T'
  have hret' := Box.mk hret
  clear B F X T hA hf hke hret
  have hil := hi.length
  k_steps
  refine Halt.go ?_
  refine For_invV s.heap rfl rfl ?_
  k_steps
  refine Halt.go ?_
  rename Fr _ _ _ _ => F1
  rename News _ _ _ _ => N1
  rename IntsAre _ (_ ++ _) => i1
  rename _ ∧ _ ∧ _ ∧ _ => l4
  have hd1 := N1 _ (.head _)
  have N2 : News s.heap L' _ [_, _] := fun q hq => N1 q (List.mem_cons_of_mem _ (List.mem_cons_of_mem _ (List.mem_cons_of_mem _ hq)))
  refine for_list JT hh ⟨_, hd1.1, rfl, _, rfl⟩ hd1.2.2 hd1.2.1 i1 F1 N2 ?_ ?_ ?_ ?_
  · intro q hq
    simp only [List.mem_cons, List.not_mem_nil, or_false] at hq
    rcases hq with rfl | rfl
    · exact neN (by omega)
    · exact neN (by omega)
  · exact ⟨_, 0, [⟨_, [], 0, []⟩], [], rfl, rfl, ⟨GoodT.start (neN (by omega))⟩⟩
  · intro i n t m₁ news₁ h tk1 own hn ⟨D, ep, ops, own1, a1, a2, a3⟩ sep F2 N3
    subst a2
    have F3 := fr_see1 (x1 := Str.ofString "rows") F2 (by rw [if_neg (by decide +kernel)]; exact a1)
    have g := a3.out
    have gne := g.ne
    have gle := g.le
    have hi12 : i < 12 := by
      have h1 := (List.getElem?_eq_some_iff.mp hn).1
      rw [List.length_append, List.length_take] at h1
      simp only [List.length_cons, List.length_nil] at h1
      omega
    obtain ⟨lo, o, rfl⟩ := snoc_of gne
    have hk : (refs lo ++ [Value.ref o.a]).length = lo.length + 1 := by rw [List.length_append, refs_len]; rfl
    rw [refs_snoc] at N3
    have hlo : lo.length ≤ 2 := by rw [List.length_append] at gle; simpa using gle
    have g' := Box.mk g
    clear F1 N1 N2 F2 g gne gle l4 hd1
    have N4 := led_show N3
    clear N3
    k_steps
    · refine Halt.go ?_
      rename Fr _ _ _ _ => F9
      rename News _ _ _ _ => N9
      rename _ ∧ _ ∧ AllLt _ _ => al
      have hDD := N9 _ (.tail _ (.head _))
      have hbb := N9 _ (.head _)
      have hN : News _ _ _ _ := fun q hq => N9 q (.tail _ hq)
      refine append_at hDD.1 (fun h6 hs6 hD6 => ?_) (by rw [List.size_toArray, sizeLine_eq]; omega)
      k_steps
      rw [← refs_snoc] at hD6
      refine turn_push F9 rfl (led_hide' hN) hbb ?_ hs6 hD6 ?_ g'.out sep
      · intro q hq
        have hq' : q ∈ (D, listOf (refs (lo ++ [o])).toArray ep) :: (o.a, listOf o.vs.toArray o.ep) :: (lo.map ent ++ own1 ++ own) := by
          simp only [led, List.map_append, List.map_cons, List.map_nil, List.mem_append, List.mem_cons, List.not_mem_nil, or_false, ent] at hq ⊢
          rcases hq with (h | (h | h) | h) | h <;> simp [h]
        have al' : AllLt _ ((D, listOf (refs (lo ++ [o])).toArray ep) :: (o.a, listOf o.vs.toArray o.ep) :: (lo.map ent ++ own1 ++ own)) := al
        exact neN (Nat.ne_of_lt (allLt_mem al' q hq'))
      · rw [List.length_append, List.length_singleton]; omega
    · omega
    · refine Halt.go ?_
      rename Fr _ _ _ _ => F9
      rename News _ _ _ _ => N9
      have hoo := N9 _ (.tail _ (.head _))
      have hvl := g'.out.vs_len o (List.mem_append_right _ (.head _))
      obtain ⟨z, hz, hz2⟩ := leaf_nat ((if n < 0 then -n else n).fdiv 4)
      rw [hz]
      refine append_at hoo.1 (fun h6 hs6 hD6 => ?_) (by rw [List.size_toArray, sizeLine_eq]; omega)
      k_steps
      exact turn_leaf F9 rfl (led_hide' N9) hs6 hD6 hz2 g'.out sep
    · refine Halt.go ?_
      rename Fr _ _ _ _ => F9
      rename News _ _ _ _ => N9
      obtain ⟨lo2, p, rfl⟩ := snoc_of (ops := lo) (by omega)
      refine kl_pop F9 N9 (kpa_last _ _) (Upd.head (show_ne g'.out sep)) (by rw [hk, sizeLine_eq]; omega) fun h6 F6 N6 => ?_
      rw [refs_snoc] at N6
      have N7 := led_show2 N6
      clear F9 N9 N6
      k_steps
      refine Halt.go ?_
      rename Fr _ _ _ _ => F8
      rename News _ _ _ _ => N8
      have hpp := N8 _ (.tail _ (.head _))
      have hvl := g'.out.vs_len p (List.mem_append_left _ (List.mem_append_right _ (.head _)))
      refine append_at hpp.1 (fun h7 hs7 hD7 => ?_) (by rw [List.size_toArray, sizeLine_eq]; omega)
      k_steps
      obtain ⟨c1, c2, c3⟩ := close_state (led_hide2 N8) hs7 hD7 g'.out (by omega) sep
      exact ⟨rfl, h7, _, _, _, rfl, F8.change hs7 hpp.2.1 hpp.2.2, c1, c3, D, ep + 1, _, _, rfl, rfl, ⟨c2.mono (Nat.le_succ _)⟩⟩
    · refine Halt.go ?_
      rename Fr _ _ _ _ => F9
      rename News _ _ _ _ => N9
      have hoo := N9 _ (.tail _ (.head _))
      have hvl := g'.out.vs_len o (List.mem_append_right _ (.head _))
      obtain ⟨z, hz, hz2⟩ := leaf_nat ((if n < 0 then -n else n).fdiv 4)
      rw [hz]
      refine append_at hoo.1 (fun h6 hs6 hD6 => ?_) (by rw [List.size_toArray, sizeLine_eq]; omega)
      k_steps
      exact turn_leaf F9 rfl (led_hide' N9) hs6 hD6 hz2 g'.out sep
    · refine Halt.go ?_
      rename Fr _ _ _ _ => F9
      rename News _ _ _ _ => N9
      have hoo := N9 _ (.tail _ (.head _))
      have hvl := g'.out.vs_len o (List.mem_append_right _ (.head _))
      obtain ⟨z, hz, hz2⟩ := leaf_nat ((if n < 0 then -n else n).fdiv 4)
      rw [hz]
      refine append_at hoo.1 (fun h6 hs6 hD6 => ?_) (by rw [List.size_toArray, sizeLine_eq]; omega)
      k_steps
      exact turn_leaf F9 rfl (led_hide' N9) hs6 hD6 hz2 g'.out sep
  · rintro m₁ news₁ h tk1 ⟨D, ep, ops, own1, a1, rfl, a3⟩ F2 N3
    have F3 := fr_see1 (x1 := Str.ofString "rows") F2 a1
    clear F2 F1 N1 N2
    dsimp only
    have g12 : GoodT 12 D ops own1 := by
      refine a3.out.mono ?_
      rw [List.length_append, List.length_take]
      simp only [List.length_cons, List.length_nil]
      omega
    have g' := Box.mk g12
    clear g12 a3
    k_steps
    refine Halt.go ?_
    rename Fr _ _ _ _ => F4
    rename News _ _ _ _ => N4
    refine While_inv2 (n₀ := ops.length) JW F4 N4 ⟨D, ep, ops, own1, rfl, rfl, rfl, g'⟩ ?_
    clear F4 N4 g' l4 a1
    rintro n m₂ news₂ h₂ tk₂ F5 N5 ⟨D, ep, ops, own1, b1, rfl, rfl, b3⟩
    have F6 := fr_see1 (x1 := Str.ofString "rows") F5 b1
    have g := b3.out
    have gne := g.ne
    have gle := g.le
    obtain ⟨lo, o, rfl⟩ := snoc_of gne
    have hk : (refs lo ++ [Value.ref o.a]).length = lo.length + 1 := by rw [List.length_append, refs_len]; rfl
    rw [refs_snoc] at N5
    have hlo : lo.length ≤ 2 := by rw [List.length_append] at gle; simpa using gle
    clear F5 g gne gle
    have N6 := led_show (own := []) (by rw [List.append_nil]; exact N5)
    clear N5
    k_steps
    · refine Halt.go ?_
      rename Fr _ _ _ _ => F9
      rename News _ _ _ _ => N9
      obtain ⟨lo2, p, rfl⟩ := snoc_of (ops := lo) (by omega)
      refine kl_pop F9 N9 (kpa_last _ _) (Upd.head (show_ne (ep := ep) b3.out (fun q hq => nomatch hq))) (by rw [hk, sizeLine_eq]; omega) fun h6 F6 N6 => ?_
      rw [refs_snoc] at N6
      have N7 := led_show2 N6
      clear F9 N9 N6
      k_steps
      refine Halt.go ?_
      rename Fr _ _ _ _ => F8
      rename News _ _ _ _ => N8
      have hpp := N8 _ (.tail _ (.head _))
      have hvl := b3.out.vs_len p (List.mem_append_left _ (List.mem_append_right _ (.head _)))
      refine append_at hpp.1 (fun h7 hs7 hD7 => ?_) (by rw [List.size_toArray, sizeLine_eq]; omega)
      k_steps
      obtain ⟨c1, c2, c3⟩ := close_state (ep := ep) (led_hide2 N8) hs7 hD7 b3.out (Nat.le_refl _) (fun q hq => nomatch hq)
      dsimp only [WhileStep2]
      exact ⟨_, _, _, _, (lo2 ++ [p]).length, rfl, F8.change hs7 hpp.2.1 hpp.2.2, (fun q hq => c1 q (List.mem_append_left _ hq)), by rw [List.length_append (as := lo2 ++ [p])]; exact Nat.lt_succ_self _, D, ep + 1, _, _, rfl, rfl, by rw [List.length_append, List.length_append]; rfl, ⟨c2⟩⟩
    · dsimp only
      have hz : lo = [] := List.eq_nil_of_length_eq_zero (by omega)
      subst hz
      k_steps
      refine hret'.out _ _ _ F6.keep ⟨o.ts, (o.a, listOf o.vs.toArray o.ep) :: own1, b3.out.root (Nat.le_refl _), .row (.head _) ((b3.out.tr o (.head _)).mono fun q hq => .tail _ hq), fun q hq => ?_⟩
      have := N6 q (.tail _ ((List.mem_cons.mp hq).elim (fun e => e ▸ .head _) fun hq => .tail _ (List.mem_append_left _ hq)))
      exact ⟨this.1, this.2.2⟩
end
end Mine
namespace Mine
mutual
/-- a tree as data -/
def datT : Tr → PyData
  | .leaf n => .int n
  | .row l => .list (datTs l)
def datTs : List Tr → List PyData
  | [] => []
  | t :: l => datT t :: datTs l
end
mutual
theorem TreeIn.reads {h : Heap} : ∀ {v : Value} {t : Tr}, TreeIn h v t → ∃ as, Reads h v (datT t) as
  | _, _, .leaf n t => ⟨[], by rw [datT]; exact .int _ t⟩
  | _, _, .row (a := a) (vs := vs) e r => let ⟨as, x⟩ := TreesIn.reads r; ⟨a :: as, by rw [datT]; exact .list e rfl rfl x⟩
theorem TreesIn.reads {h : Heap} : ∀ {vs : List Value} {l : List Tr}, TreesIn h vs l → ∃ as, ReadsAll h vs (datTs l) as
  | _, _, .nil => ⟨[], by rw [datTs]; exact .nil⟩
  | _, _, .cons x r => let ⟨as, y⟩ := TreeIn.reads x; let ⟨bs, z⟩ := TreesIn.reads r; ⟨as ++ bs, by rw [datTs]; exact .cons y z⟩
end
mutual
theorem datT_lay : ∀ t : Tr, (datT t).canLay0 = true
  | .leaf n => by rw [datT, PyData.canLay0]
  | .row l => by rw [datT, PyData.canLay0]; exact datTs_lay l
theorem datTs_lay : ∀ l : List Tr, PyData.canLayAll0 (datTs l) = true
  | [] => by rw [datTs, PyData.canLayAll0]
  | t :: l => by rw [datTs, PyData.canLayAll0, datT_lay t, datTs_lay l]; rfl
end
theorem datTs_depth {k : Nat} : ∀ l : List Tr, (∀ t ∈ l, (datT t).depth ≤ k) → PyData.depthAll (datTs l) ≤ k
  | [], _ => by rw [datTs, PyData.depthAll]; exact Nat.zero_le _
  | t :: l, h => by
    rw [datTs, PyData.depthAll]
    exact Nat.max_le.mpr ⟨h t (.head _), datTs_depth l fun u hu => h u (.tail _ hu)⟩
theorem datT_depth : ∀ (d : Nat) (t : Tr), okT d t → (datT t).depth ≤ d := by
  intro d
  induction d with
  | zero =>
    intro t h
    cases t with
    | leaf n => rw [datT, PyData.depth]; exact Nat.le_refl _
    | row l => exact absurd h (by simp [okT])
  | succ d ih =>
    intro t h
    cases t with
    | leaf n => rw [datT, PyData.depth]; exact Nat.zero_le _
    | row l =>
      rw [datT, PyData.depth]
      exact Nat.succ_le_succ (datTs_depth l fun t ht => ih t (h.2 t ht))
theorem datT_shaped {t : Tr} (h : okT 3 t) : SeqAt.shaped (datT t) = true := by
  have h1 := datT_depth 3 t h
  unfold SeqAt.shaped
  rw [datT_lay, decide_eq_true (by omega : (datT t).depth ≤ 64)]; rfl
/-- two rows of one tree are equal -/
theorem tree_eq {prog : Program} {w : World} {A : Around} {E : Value → Shared → Prop} {s : Shared} {a b : Value} {t : Tr} {Q : Value → Shared → Prop} (x : TreeIn s.heap a t) (y : TreeIn s.heap b t) (ok : okT 3 t) (hu : A.units + 64 < cLine) (h : Q (.bool true) s) :
    wpAny (model prog w) A (compareOp .Eq a b) Q E s := by
  obtain ⟨as, ra⟩ := x.reads
  obtain ⟨bs, rb⟩ := y.reads
  refine eq_dataH ra rb (datT_shaped ok) (datT_shaped ok) hu ?_
  rw [SeqAt.eqv_refl _ (datT_lay t)]; exact h
theorem glue_mem {sep : List Nat} {c : Nat} : ∀ ps : List (List Nat), c ∈ glue sep ps → c ∈ sep ∨ ∃ p ∈ ps, c ∈ p
  | [], h => nomatch h
  | [x], h => .inr ⟨x, .head _, h⟩
  | x :: y :: r, h => by
    have h' : c ∈ x ++ sep ++ glue sep (y :: r) := h
    rcases List.mem_append.mp h' with h' | h'
    · rcases List.mem_append.mp h' with h' | h'
      · exact .inr ⟨x, .head _, h'⟩
      · exact .inl h'
    · rcases glue_mem (y :: r) h' with h' | ⟨p, hp, hc⟩
      · exact .inl h'
      · exact .inr ⟨p, .tail _ hp, hc⟩
theorem dbl_mem {c : Nat} {l : List Nat} (h : c ∈ dbl l) : c ∈ l := by
  obtain ⟨d, hd, hc⟩ := List.mem_flatMap.mp h
  by_cases e : d = 34
  · rw [if_pos e] at hc
    have : c = 34 := by simpa using hc
    rw [this, ← e]; exact hd
  · rw [if_neg e] at hc
    have : c = d := by simpa using hc
    rw [this]; exact hd
theorem wr_lt {b : Nat} (hb : 2 ≤ b) (hb2 : b ≤ 8192) : ∀ (d : Nat) (t : Tr), okT d t → ∀ c ∈ wr b t, c < 65536 := by
  have lf : ∀ n : Nat, ∀ c ∈ wr b (.leaf n), c < 65536 := fun n c hc => by
    rw [wr] at hc
    cases List.mem_cons.mp hc with
    | inl e => omega
    | inr hc => have := digs_lt hb n n (Nat.le_refl _) c hc; omega
  intro d
  induction d with
  | zero =>
    intro t h
    cases t with
    | leaf n => exact lf n
    | row l => exact absurd h (by simp [okT])
  | succ d ih =>
    intro t h
    cases t with
    | leaf n => exact lf n
    | row l =>
      intro c hc
      rw [wr] at hc
      cases List.mem_cons.mp hc with
      | inl e => omega
      | inr hc =>
        rcases glue_mem _ hc with h1 | ⟨p, hp, h1⟩
        · have : c = 44 := by simpa using h1
          omega
        · obtain ⟨t, ht, rfl⟩ := wrs_mem b l p hp
          cases List.mem_cons.mp h1 with
          | inl e => omega
          | inr h1 =>
            rcases List.mem_append.mp h1 with h1 | h1
            · exact ih t (h.2 t ht) c (dbl_mem h1)
            · have : c = 34 := by simpa using h1
              omega
theorem last_app {a b : List Nat} (h : b ≠ []) : (a ++ b).getLast? = b.getLast? := by
  rw [List.getLast?_append]
  cases e : b.getLast? with
  | none => exact absurd (List.getLast?_eq_none_iff.mp e) h
  | some x => rfl
theorem glue_last (b : Nat) : ∀ (r : List Tr) (t : Tr), (glue [44] (wrs b (t :: r))).getLast? = some 34
  | [], t => by
    rw [glue_cons, tailOf]
    show ((34 :: dbl (wr b t)) ++ [34]).getLast? = _
    rw [last_app (by simp)]; rfl
  | u :: r, t => by
    rw [glue_cons, tailOf]
    have e : 34 :: (dbl (wr b t) ++ 34 :: 44 :: glue [44] (wrs b (u :: r))) = (34 :: (dbl (wr b t) ++ [34, 44])) ++ glue [44] (wrs b (u :: r)) := by simp
    rw [e, last_app (by rw [glue_cons]; simp), glue_last b r u]
theorem wr_last (b : Nat) (l : List Tr) : (wr b (.row l)).getLast? ≠ some 0 := by
  rw [wr]
  cases l with
  | nil => rw [wrs]; decide
  | cons t l =>
    have e : 40 :: glue [44] (wrs b (t :: l)) = [40] ++ glue [44] (wrs b (t :: l)) := rfl
    rw [e, last_app (by rw [glue_cons]; simp), glue_last]; decide
theorem wr_ne (b : Nat) (t : Tr) : wr b t ≠ [] := by cases t <;> simp [wr]
theorem ints_rev : ∀ {vs : List Value} {ds : List Nat}, IntsAre vs (ds.map Int.ofNat) → IntsAre vs.reverse (ds.reverse.map Int.ofNat) := by
  intro vs
  induction vs with
  | nil =>
    intro ds h
    cases ds with
    | nil => exact .nil
    | cons d ds => cases h
  | cons v vs ih =>
    intro ds h
    cases ds with
    | nil => cases h
    | cons d ds =>
      cases h with
      | cons n t r =>
        rw [List.reverse_cons, List.reverse_cons, List.map_append]
        exact ints_snoc (ih r)
section
variable {prog : Program} {w : World} {A : Around} {E : Value → Shared → Prop} {s : Shared} {env : Env} {h₀ : Heap} {x : Str} {body : List Stmt} {Q : Flow → Shared → Prop} {I : Addr} {lp : Addr × Obj} {news : List (Addr × Obj)}
/-- the end of a turn that changes the frame alone -/
def RevTurn (h₀ : Heap) (L : Addr) (led : List (Addr × Obj)) (Jn : (Str → Option Value) → Prop) (s₁ : Shared) (f : Flow) (s₂ : Shared) : Prop :=
  f = .next ∧ ∃ h' tk m', s₂ = { s₁ with heap := h', toks := tk } ∧ Fr h₀ L h' m' ∧ News h₀ L h' led ∧ Jn m'
/-- a loop over a list of numbers from behind -/
theorem rev_inv (J : List Nat → (Str → Option Value) → Prop) (hlp : lp ∈ news) (hI : ∀ q ∈ news, q.1 ≠ I)
    (turn : ∀ d r t it h tk m, J (d :: r) m → Fr h₀ env.locals h (fun y => if y = x then some (.int (d : Nat) t) else m y) → News h₀ env.locals h ((I, it) :: news) →
      wpAny (model prog w) A (execs body env) (RevTurn h₀ env.locals ((I, it) :: news) (J r) { s with heap := h, toks := tk }) E { s with heap := h, toks := tk })
    (fin : ∀ m h tk, J [] m → Fr h₀ env.locals h m → News h₀ env.locals h news → Q .next { s with heap := h, toks := tk }) :
    ∀ (vs : List Value) (rs : List Nat) (m : Str → Option Value), IntsAre vs (rs.map Int.ofNat) → J rs m → RevRest prog w A E h₀ env x body Q s I lp vs m news := by
  intro vs
  induction vs with
  | nil =>
    intro rs m hi hJ
    cases rs with
    | nil => exact RevRest.zero fun h tk F N => fin m h tk hJ F N
    | cons d r => cases hi
  | cons v vs ih =>
    intro rs m hi hJ
    cases rs with
    | nil => cases hi
    | cons d r =>
      cases hi with
      | cons n t hr =>
        refine RevRest.succ fun it h tk _ F N => ?_
        refine wpAny_mono (turn d r t it h tk m hJ F N) (fun f s₂ q => ?_) fun _ _ e => e
        obtain ⟨rfl, h', tk', m', rfl, F', N', hJ'⟩ := q
        exact ⟨h', tk', m', news, rfl, F', N', hI, hlp, ih r m' hr hJ'⟩
end
/-- a comprehension over a text's signs, its list stored under a name -/
def TextSrcA (prog : Program) (w : World) (A : Around) (h₀ : Heap) (L : Addr) (m : Str → Option Value) (env : Env) (elt : Expr) (x z : Str) (scope : Scope) (cl : List (Str × Addr)) (Q : Flow → Shared → Prop) (xv : Value) (s₁ : Shared) : Prop :=
  ∃ y ty news, xv = .str y ty ∧ A.handled = none ∧ Fr h₀ L s₁.heap m ∧ News h₀ L s₁.heap news ∧ y.cps.size ≤ sizeLine ∧
    ∀ g, LCg.CompRest prog w A h₀ L m env elt x scope cl { s₁ with heap := g } (fun _ => True) (SignAt y) (LCg.FinA h₀ L m { s₁ with heap := g } z Q) y.cps.size 0 [] news
theorem assign_text {prog : Program} {w : World} {A : Around} {E : Value → Shared → Prop} {h₀ : Heap} {L : Addr} {m : Str → Option Value} {env : Env} {elt iter : Expr} {x z : Str} {px pz : Pos} {scope : Scope} {cl : List (Str × Addr)} {s : Shared} {pos spos : Pos} {Q : Flow → Shared → Prop}
    (_ : Fr h₀ L s.heap m) (hLe : env.locals = L) (hsw : swapsWith (.ListComp elt [⟨.Name x px, iter, [], 0⟩] scope pos) (some (.Name z pz)) spos.line env = pure true)
    (hclos : closureFor scope env = pure cl) (hcell : ∀ y ∈ scope.names, y.2 ≠ .cell) (hkind : scope.kind = .function)
    (hnames : ∀ y ∈ scope.names, y.2 = .local → scope.names.lookup y.1 = some .local) (hx : scope.names.lookup x = some .local)
    (hz : env.kindOf z = some .local) (hp : (env.scope.kind == .class || (env.scope.kind == .module && env.locals != env.globals)) = false)
    (h : wpAny (model prog w) A (eval iter env) (TextSrcA prog w A h₀ L m env elt x z scope cl Q) E s)
    (hs : ∀ x, foldedSetIterable iter env x = pure x := by intro _; rfl) :
    wpAny (model prog w) A (exec (.Assign [.Name z pz] (.ListComp elt [⟨.Name x px, iter, [], 0⟩] scope pos) spos) env) Q E s := by
  subst hLe
  rw [exec_Assign_Name_used _ _ _ _ hsw]
  refine wpAny_bind (wpAny_standAt (wpAny_bind ?_))
  show wpAny _ A (do let _ ← comprehension (.ListComp elt [⟨.Name x px, iter, [], 0⟩] scope pos) scope env _ (newList []) false (eval iter env) (some (assign (.Name z pz) env))) _ _ s
  refine wpAny_bind (wpAny_mono (wpAny_comprehension_free (use := some (assign (.Name z pz) env)) (Q := fun _ s' => Q .next s') rfl hs hclos hkind hnames
    (wpAny_mono h (fun xv s₁ h₁ => ?_) fun _ _ e => e)) (fun _ s' hq => wpAny_pure (wpAny_pure hq)) fun _ _ e => e)
  obtain ⟨y, ty, news, rfl, hh, F, N, hsz, R⟩ := h₁
  have step : ∀ (o : Obj) (St : Nat → Heap → Prop), Walks prog w A s₁.heap.objs.size [s₁.heap.objs.size] [s₁.heap.objs.size] y.cps.size (SignAt y) St → (∀ i h, St i h → ∃ o, h.get? s₁.heap.objs.size = some o) →
      (∀ i (h h' : Heap) o, St i h → h.get? s₁.heap.objs.size = some o → h'.get? s₁.heap.objs.size = some o → St i h') → St 0 (s₁.heap.push o) → _ := fun o St W hI hSt h0 =>
    LCg.block_U (E := E) (s₂ := { s₁ with heap := s₁.heap.push o }) (iter := iter) (px := px) (pos := pos) W hsz hI (fun i h h' o _ st e e' _ _ _ => hSt i h h' o st e e') hcell hkind hx h0
      (fun b hb => by rw [List.mem_singleton.mp hb]; show _ < (s₁.heap.push _).objs.size; rw [Heap.size_push]; exact Nat.lt_succ_self _)
      (F.keeps fun _ _ e => Heap.get?_push_of_some _ e) (N.grown fun _ _ e => Heap.get?_push_of_some _ e) (Nat.ne_of_lt F.ns.lt) (next_is_new F) (fun q hq => Nat.ne_of_lt (Heap.lt_size (N q hq).1)) trivial (R _)
      (RR := compPost (model prog w) A E (some (assign (.Name z pz) env)) (fun _ s' => Q .next s')) (by
        intro D C h tk m' ys news' F' N' o1 hn hC₀ hD₀ hCL hDL hCD offC fin
        show wpAny _ A (assign (.Name z pz) env (.ref D)) _ _ _
        refine wpAny_assign_Name (wpAny_storeName_local hz F'.ns (fun h₂ hn₂ hs₂ => ?_) hp)
        have hL₀ : h₀.get? env.locals = none := Heap.get?_none_of_le F'.above
        have F₂ : Fr h₀ env.locals h₂ (fun y => if y = z then some (.ref D) else m y) := ⟨hn₂, fun b o e => hs₂.extBut b o (fun q => by rw [q, hL₀] at e; cases e) (F'.keep b o e), F'.above⟩
        refine ⟨m', hn.sameBut hs₂ hCL, fun h'' hs'' => fin D h'' _ (F₂.change hs'' hCL hC₀) (fun q hq => ?_) o1⟩
        have hz' : h₂.get? q.1 = some q.2 := hs₂.extBut _ _ (N' q hq).2.1 (N' q hq).1
        refine ⟨hs''.extBut _ _ ?_ hz', (N' q hq).2⟩
        cases List.mem_cons.mp hq with
        | inl e => subst e; exact Ne.symm hCD
        | inr hq => exact offC q hq)
  have same : ∀ (T : String) (i : Nat) (h h' : Heap) (o : Obj), h.IsStrIter s₁.heap.objs.size T y ty i → h.get? s₁.heap.objs.size = some o → h'.get? s₁.heap.objs.size = some o → h'.IsStrIter s₁.heap.objs.size T y ty i := fun T i h h' o st e e' => by
    obtain ⟨o', q, r⟩ := st
    rw [e] at q; cases q
    exact ⟨o, e', r⟩
  cases ha : y.cps.all (· < 128)
  · exact wpAny_pyIter_wide ha (step _ _ (Walks.strWide hh _ y ty) (fun i h st => let ⟨o, e, _⟩ := st; ⟨o, e⟩) (fun i h h' o st e e' => same _ i h h' o st e e') ⟨_, Heap.get?_push_size _ rfl, rfl, rfl⟩)
  · exact wpAny_pyIter_ascii ha (step _ _ (Walks.strAscii hh _ y ty) (fun i h st => let ⟨o, e, _⟩ := st; ⟨o, e⟩) (fun i h h' o st e e' => same _ i h h' o st e e') ⟨_, Heap.get?_push_size _ rfl, rfl, rfl⟩)
end Mine
namespace Mine
/-- a def's body and scope -/
def bodyOf (K : Frag) (f : Addr) : List Stmt × Scope := match K.lookup f with
  | some ⟨_, _, .func fd, _⟩ => (match fd.body with | .stmts l => (l, fd.scope) | _ => default)
  | _ => default
theorem bodyOf_eq {K : Frag} {f : Addr} {oc : Value} {od : Option Addr} {osl : Array (Option Value)} {name qual : Str} {params : Arguments} {body : List Stmt} {scope : Scope} {dV kV doc pm cdv ct : Value} {an : Option Addr}
    (h : K.lookup f = some ⟨oc, od, .func (fnOf name qual params body scope dV kV doc pm an cdv ct), osl⟩) : bodyOf K f = (body, scope) := by
  unfold bodyOf; rw [h]
/-- how the law ends -/
def LawEnd (g : Heap) (L : Addr) (s : Shared) (f : Flow) (s' : Shared) : Prop :=
  f = .ret (.bool true) ∧ ∃ h' tk m', s' = { s with heap := h', toks := tk } ∧ Fr g L h' m' ∧ GrownAt 23 h' ∧ GrownAt 16 h'
/-- the sum so far: dn is what stood behind -/
def JS (cs : List Nat) (dt dc : Addr) (wd : Nat) (t : Tok) (rs : List Nat) (m : Str → Option Value) : Prop :=
  ∃ (dn : List Nat) (V : Nat) (t1 : Tok), m (Str.ofString "worth") = some (.int (V : Nat) t1) ∧ m (Str.ofString "codes") = some (.ref dc) ∧ m (Str.ofString "tree") = some (.ref dt) ∧ m (Str.ofString "width") = some (.int (wd : Nat) t) ∧ Box (V = val 16 dn ∧ cs = rs.reverse ++ dn)
/-- how the first if ends -/
def IfEnd (g : Heap) (L a : Addr) (s : Shared) (f : Flow) (s' : Shared) : Prop :=
  f = .next ∧ ∃ h' tk m' wd t, s' = { s with heap := h', toks := tk } ∧ Fr g L h' m' ∧ News g L h' [(23, tabObj #[]), (16, tabObj #[])] ∧ m' (Str.ofString "script") = some (.ref a) ∧ m' (Str.ofString "width") = some (.int (wd : Nat) t) ∧ 6 ≤ wd ∧ wd ≤ 13
theorem offI_of {I : Addr} {it : Obj} : ∀ {news : List (Addr × Obj)}, (∀ q ∈ news, q.1 ≠ I) → OffI I it news
  | [], _ => trivial
  | _ :: _, h => ⟨.inl (h _ (.head _)), offI_of fun q hq => h q (.tail _ hq)⟩
theorem off_of {I D a b : Addr} {o o2 o3 : Obj} {own : List (Addr × Obj)} (h : @LT.lt Nat _ D I ∧ @LT.lt Nat _ a I ∧ @LT.lt Nat _ b I ∧ AllLt I own) : ∀ q ∈ (D, o) :: (a, o2) :: (b, o3) :: own, q.1 ≠ I := by
  intro q hq
  refine neN (Nat.ne_of_lt ?_)
  cases hq with
  | head => exact h.1
  | tail _ hq =>
    cases hq with
    | head => exact h.2.1
    | tail _ hq =>
      cases hq with
      | head => exact h.2.2.1
      | tail _ hq => exact allLt_mem h.2.2.2 q hq
/-- the table and the code in it go into the ledger -/
theorem tab_news {g h h3 : Heap} {L c' : Addr} {m : Str → Option Value} {o23 : Obj} {rest : List (Addr × Obj)} (F : Fr g L h m) (N : News g L h [(23, o23)]) (x : Tab23 h3 c') (nn : h.get? c' = none) (R : News g L h3 rest) :
    ∃ oc vs t, News g L h3 ((c', oc) :: (23, tabObj #[rawInt 20, rawInt 4, .ref c']) :: rest) ∧ oc.data = .fields vs ∧ vs[1]? = some (.str (Str.ofString "_digits2int.<locals>.inner") t) := by
  obtain ⟨c, oc, vs, t, e, ho, hd, hv⟩ := x.code
  cases e
  refine ⟨oc, vs, t, fun q hq => ?_, hd, hv⟩
  cases List.mem_cons.mp hq with
  | inl e =>
    subst e
    refine ⟨ho, ?_, ?_⟩
    · intro e
      obtain ⟨o, _, _, e2, _⟩ := F.ns
      dsimp only at e
      rw [← e, nn] at e2
      cases e2
    · cases e : g.get? c' with
      | none => rfl
      | some o => exact absurd ((F.keep _ _ e).symm.trans nn) (by simp)
  | inr hq =>
    cases List.mem_cons.mp hq with
    | inl e => subst e; exact ⟨x.tab, (N _ (.head _)).2⟩
    | inr hq => exact R q hq
theorem tab_of {g h : Heap} {L c' : Addr} {oc : Obj} {vs : Array Value} {t : Tok} {led : List (Addr × Obj)} (N : News g L h led) (h1 : (c', oc) ∈ led) (h2 : (23, tabObj #[rawInt 20, rawInt 4, .ref c']) ∈ led) (hd : oc.data = .fields vs) (hv : vs[1]? = some (.str (Str.ofString "_digits2int.<locals>.inner") t)) : Tab23 h c' :=
  ⟨(N _ h2).1, codeRec_news N h1 hd hv⟩
theorem fresh_of {g h : Heap} {L c : Addr} {m : Str → Option Value} (F : Fr g L h m) (nn : h.get? c = none) : c ≠ L ∧ g.get? c = none := by
  refine ⟨fun e => ?_, ?_⟩
  · obtain ⟨o, _, _, e2, _⟩ := F.ns
    rw [← e, nn] at e2
    cases e2
  · cases e : g.get? c with
    | none => rfl
    | some o => exact absurd ((F.keep _ _ e).symm.trans nn) (by simp)
/-- the ledger behind _int2digits -/
theorem news_i2d {g h h4 : Heap} {L b c' D : Addr} {m : Str → Option Value} {oc o2 o3 o4 o5 ob : Obj} {own : List (Addr × Obj)} (F : Fr g L h m) (N : News g L h ((c', oc) :: (23, o2) :: (D, o3) :: (16, o4) :: own)) (kb : ∀ c o, c ≠ 16 → h.get? c = some o → h4.get? c = some o)
    (nn : h.get? b = none) (hb : h4.get? b = some ob) (hp : h4.get? 16 = some o5) (c16 : c' ≠ 16) (d16 : 16 ≠ D) (ho : ∀ q ∈ own, q.1 ≠ 16) : News g L h4 ((b, ob) :: (16, o5) :: (c', oc) :: (23, o2) :: (D, o3) :: own) := by
  intro q hq
  cases hq with
  | head => exact ⟨hb, fresh_of F nn⟩
  | tail _ hq =>
  cases hq with
  | head => exact ⟨hp, (N _ (.tail _ (.tail _ (.tail _ (.head _))))).2⟩
  | tail _ hq =>
  cases hq with
  | head => exact ⟨kb _ _ c16 (N _ (.head _)).1, (N _ (.head _)).2⟩
  | tail _ hq =>
  cases hq with
  | head => exact ⟨kb _ _ (show (23 : Nat) ≠ 16 by decide) (N _ (.tail _ (.head _))).1, (N _ (.tail _ (.head _))).2⟩
  | tail _ hq =>
  cases hq with
  | head => exact ⟨kb _ _ (fun e => d16 e.symm) (N _ (.tail _ (.tail _ (.head _)))).1, (N _ (.tail _ (.tail _ (.head _)))).2⟩
  | tail _ hq => exact ⟨kb _ _ (ho q hq) (N _ (.tail _ (.tail _ (.tail _ (.tail _ hq))))).1, (N _ (.tail _ (.tail _ (.tail _ (.tail _ hq))))).2⟩
theorem glue_signs : ∀ cs : List Nat, glue [] (cs.map fun c => [c]) = cs
  | [] => rfl
  | [c] => rfl
  | c :: d :: r => by
    show [c] ++ [] ++ glue [] ((d :: r).map fun c => [c]) = _
    rw [glue_signs (d :: r)]; rfl
theorem ints_nat {its : List Value} {ds : List Nat} {i : Nat} {v : Value} (h : IntsAre its (ds.map Int.ofNat)) (hv : its[i]? = some v) : ∃ c t, ds[i]? = some c ∧ v = .int (c : Nat) t := by
  have hl := h.length
  rw [List.length_map] at hl
  have hi : i < ds.length := by rw [← hl]; exact (List.getElem?_eq_some_iff.mp hv).1
  obtain ⟨t, ht⟩ := ints_item h (k := i) (by rw [List.length_map]; exact hi)
  refine ⟨ds[i], t, List.getElem?_eq_getElem hi, ?_⟩
  rw [ht] at hv
  have := Option.some.inj hv
  rw [← this, List.getElem_map]; rfl
theorem wd_nat (x : Int) : ∃ z : Nat, 6 + x.fmod 8 = (z : Int) ∧ 6 ≤ z ∧ z ≤ 13 := by
  have h1 := Int.fmod_nonneg_of_pos x (show (0 : Int) < 8 by decide)
  have h2 := Int.fmod_lt_of_pos x (show (0 : Int) < 8 by decide)
  exact ⟨(6 + x.fmod 8).toNat, by omega, by omega, by omega⟩
section
local macro_rules | `(tactic| walk_at "call ref") => `(tactic| refine Halt.of ?_)
local macro_rules | `(tactic| walk_at "eval ListComp") => `(tactic| refine Halt.of ?_)
local macro_rules | `(tactic| walk_at "exec Assign cons ListComp") => `(tactic| refine Halt.of ?_)
local macro_rules | `(tactic| walk_at "CompSrc") => `(tactic| refine Halt.of ?_)
local macro_rules | `(tactic| walk_at "call builtin:chr") => `(tactic| refine Halt.of ?_)
local macro_rules | `(tactic| walk_at "call builtin:str.join") => `(tactic| refine Halt.of ?_)
local macro_rules | `(tactic| walk_at "compareOp Eq ref ref") => `(tactic| refine Halt.of ?_)
local macro_rules | `(tactic| walk_at "exec For Name Call cons nil") => `(tactic| refine Halt.of ?_)
local macro_rules | `(tactic| walk_at "pyIter ref") => `(tactic| refine Halt.of ?_)
local macro_rules | `(tactic| walk_at "TextSrcA") => `(tactic| refine Halt.of ?_)
local macro_rules | `(tactic| walk_at "call builtin:ord") => `(tactic| refine Halt.of ?_)
local macro_rules | `(tactic| walk_at "exec If") => `(tactic| ((with_reducible show wpAny _ _ (exec (Stmt.If (Expr.Compare _ _ _ _) _ _ _) _) _ _ _); (fail_if_success (with_reducible show wpAny _ _ _ (IfEnd _ _ _ _) _ _)); refine Halt.of ?_))
local macro_rules | `(tactic| walk_at "compareOp NotEq ref ref") => `(tactic| refine Halt.of ?_)
variable {w : World} {p : Program} {loose : List Str} {mean : ExcName → Option Value} {mg mb : Str → Option Value}
theorem law_run (g : Heap) (L fa a : Addr) (cd : Value) (its : List Value) (ns : List Int) (s : Shared) (m₀ : Str → Option Value) (X : (hd.heap_39 w.params).In g) (T : Top p loose mean mg mb g) (B : Below callerA g [] g)
    (F00 : Fr g L s.heap m₀) (hm₀ : m₀ (Str.ofString "script") = some (.ref a)) (N : News g L s.heap [(23, tabObj #[]), (16, tabObj #[])]) (hl : g.IsList a its.toArray) (hi : IntsAre its ns) (hn : ns.length ≤ 63) :
    wpAny (model PySem.Challenge.rw_nb0075_01.row.prog w) (callerA.deeper (envOf (Str.ofString "law") (bodyOf (hd.heap_39 w.params) 82).2 L fa cd))
      (execs (bodyOf (hd.heap_39 w.params) 82).1 (envOf (Str.ofString "law") (bodyOf (hd.heap_39 w.params) 82).2 L fa cd)) (LawEnd g L s) (fun _ _ => False) s := by
  have F := fr_see1 F00 hm₀
  clear F00 hm₀
  w_top off
  k_fill
  rw [bodyOf_eq (K := hd.heap_39 w.params) (f := 82) (by k_is)]
  dsimp only
  have hil := hi.length
  k_steps
  refine Halt.go ?_
  rename Fr _ _ _ _ => F1
  rename News _ _ _ _ => N1
  refine wpAny_mono (Q := IfEnd g L a s) (E := fun _ _ => False) ?_ ?_ (fun _ _ h => h)
  · k_steps
    refine Halt.go ?_
    rename Fr _ _ _ _ => F2
    rename News _ _ _ _ => N2
    refine ke_ne_ints (ns := ns) (ms := []) (xs := its) (ys := []) (let ⟨o, e, r⟩ := hl; ⟨o, F2.keep _ _ e, r⟩) ⟨_, N2.get (.head _), rfl, _, rfl⟩ hi .nil (Nat.le_of_ble_eq_true rfl) ?_
    by_cases hns : ns = []
    · rw [decide_eq_true hns, Bool.not_true]
      k_steps
      exact ⟨rfl, _, _, _, 6, _, rfl, F2, fun q hq => N2 q (.tail _ hq), rfl, rfl, by decide, by decide⟩
    · rw [decide_eq_false hns, Bool.not_false]
      have hpos : 0 < ns.length := List.length_pos_iff.mpr hns
      k_steps
      rename Fr _ _ _ _ => F3
      rename News _ _ _ _ => N3
      dsimp only at F3
      obtain ⟨z, hz, hz1, hz2⟩ := wd_nat (if ns.getD (Int.toNat 0) 0 < 0 then -ns.getD (Int.toNat 0) 0 else ns.getD (Int.toNat 0) 0)
      rw [hz] at F3
      exact ⟨rfl, _, _, _, z, _, rfl, F3, fun q hq => N3 q (.tail _ hq), rfl, rfl, hz1, hz2⟩
  rintro f s' ⟨rfl, h', tk, m', wd, t, rfl, F2, N2, a1, a2, w1, w2⟩
  have F3 := fr_see2 F2 a1 a2
  clear F1 N1 F2 a1 a2
  dsimp only
  k_steps
  refine Halt.go ?_
  refine pure_call B F3 N2 X T rfl rfl rfl (by decide) (by decide) (tr_all a its ns _ (let ⟨o, e, r⟩ := hl; ⟨o, F3.keep _ _ e, r⟩) hi hn) ?_
  rintro r h1 tk1 st1 F4 N3 ⟨l, own, hok, hT, hq⟩
  have N4 := news_made F3 hq N3
  have o23 : ∀ q ∈ own, q.1 ≠ 23 := fun q hq' e => by
    have h1 := (hq q hq').2
    rw [e] at h1
    exact absurd ((N2 _ (.head _)).1.symm.trans h1) (by simp)
  have o16 : ∀ q ∈ own, q.1 ≠ 16 := fun q hq' e => by
    have h1 := (hq q hq').2
    rw [e] at h1
    exact absurd ((N2 _ (.tail _ (.head _))).1.symm.trans h1) (by simp)
  have o23' := Box.mk o23
  have o16' := Box.mk o16
  clear o23 o16
  clear F3 N2 N3 hq st1
  rw [List.cons_append, List.cons_append, List.nil_append] at N4
  cases hT with
  | row hd1 hd2 =>
  rename_i dt dvs dep
  have htr : TreeL own (.ref dt) (.row l) := .row hd1 hd2
  have hok' := Box.mk hok
  have htr' := Box.mk htr
  clear hd1 hd2 hok htr
  have hpw : (2 : Nat) ^ wd ≤ 8192 := Nat.le_trans (Nat.pow_le_pow_right (by decide) w2) (by decide : 2 ^ 13 ≤ 8192)
  have hpv : 2 ≤ (2 : Nat) ^ wd := Nat.le_trans (by decide : 2 ≤ 2 ^ 6) (Nat.pow_le_pow_right (by decide) w1)
  k_steps
  refine Halt.go ?_
  rename Fr _ _ _ _ => F5
  rename News _ _ _ _ => N5
  refine assign_text F5 rfl (by with_unfolding_all rfl) (by with_unfolding_all rfl) (by decide) rfl (by decide) rfl rfl rfl ?_
  k_steps
  refine Halt.go ?_
  refine pure_call B F5 N5 X T rfl rfl rfl (by decide) (by decide) (wr_all (2 ^ wd) _ hpv hpw 3 (Nat.le_refl _) (.row l) _ _ (htr'.out.heap fun q hq => (N5 q (.tail _ (.tail _ hq))).1) hok'.out) ?_
  rintro r h2 tk2 st2 F6 N6 ⟨t2, hr2⟩
  subst hr2
  have hlen := wr_len hpv 3 (.row l) hok'.out
  rw [lw_three] at hlen
  have hlt := wr_lt hpv hpw 3 (.row l) hok'.out
  have hlast := wr_last (2 ^ wd) l
  have hnil := wr_ne (2 ^ wd) (.row l)
  generalize hcs : wr (2 ^ wd) (.row l) = cs at *
  have hcs' := Box.mk hcs
  have hlt' := Box.mk (And.intro hlt (And.intro hlast hnil))
  clear hcs hlt hlast hnil st2 F5 N5
  have hsz : (txt cs).cps.size = cs.length := txt_len cs
  refine ⟨txt cs, _, _, rfl, rfl, F6, N6, by rw [hsz, sizeLine_eq]; omega, fun g2 => ?_⟩
  rw [hsz]
  clear hsz
  refine comp_inv (fun i ys => Box (IntsAre ys ((cs.take i).map Int.ofNat))) ⟨.nil⟩ ?_ ?_
  · intro i v I oI C oC D m₂ ys h tk E' hi hJ hv hC hx F2 N2 off ne
    have off0 := Box.mk off
    simp only [LCg.Off3, and_true] at off
    obtain ⟨c, u, hc, rfl⟩ := hv
    have hc' : cs[i]? = some c := by
      rw [← txt_cps cs, Array.getElem?_toList]; exact hc
    k_steps
    refine Halt.go ?_
    refine P.ord_of_char ?_
    refine ⟨h, _, _, rfl, F2, N2, off0.out, trivial, rfl, ⟨?_⟩⟩
    rw [List.take_add_one, hc']
    show IntsAre (ys ++ [Value.int (↑c) tk]) (List.map Int.ofNat (List.take i cs ++ [c]))
    rw [List.map_append]
    exact ints_snoc hJ.out
  · intro ys hJ
    k_steps
    refine Halt.go ?_
    rename Fr _ _ _ _ => F7
    rename News _ _ _ _ => N7
    have hj := hJ.out
    rw [List.take_length] at hj
    have hj' := Box.mk hj
    clear hj hJ
    refine For_invV g rfl rfl ?_
    k_steps
    refine Halt.go ?_
    rename Fr _ _ _ _ => F8
    rename News _ _ _ _ => N8
    rename _ ∧ _ ∧ _ ∧ AllLt _ _ => l8
    rename _ ∧ _ ∧ LCg.Off1 _ _ => o8
    have off8 := off_of (o := LCg.lst ys) (o2 := tabObj #[]) (o3 := tabObj #[]) l8
    refine iter_revUnr (vs := ys) rfl F8 N8 (offI_of off8) (.head _) rfl rfl ?_
    refine rev_inv (JS cs dt _ wd t) (.head _) off8 ?_ ?_ ys.reverse cs.reverse _ (ints_rev hj'.out) ⟨[], 0, _, rfl, rfl, rfl, rfl, ⟨rfl, by simp⟩⟩
    · clear F8 N8
      rintro d r t3 it h tk3 m ⟨dn, V, t1, a1, a2, a3, a4, a5⟩ F9 N9
      change Fr g L h _ at F9
      change News g L h _ at N9
      have F10 := fr_see4 F9 (x1 := Str.ofString "worth") (x2 := Str.ofString "codes") (x3 := Str.ofString "tree") (x4 := Str.ofString "width") (by rw [if_neg (by decide +kernel)]; exact a1) (by rw [if_neg (by decide +kernel)]; exact a2) (by rw [if_neg (by decide +kernel)]; exact a3) (by rw [if_neg (by decide +kernel)]; exact a4)
      clear F9 a1 a2 a3 a4
      k_steps
      rename Fr _ _ _ _ => F11
      rename News _ _ _ _ => N11
      have e11 : (V : Int) * 65536 + d = ((V * 65536 + d : Nat) : Int) := by omega
      rw [e11] at F11
      refine ⟨rfl, _, _, _, rfl, F11, N11, d :: dn, V * 65536 + d, _, rfl, rfl, rfl, rfl, ⟨?_, ?_⟩⟩
      · rw [a5.out.1]
        show _ = d + 2 ^ 16 * val 16 dn
        omega
      · rw [a5.out.2]; simp
    · clear F8 N8
      rintro m h tk3 ⟨dn, V, t1, a1, a2, a3, a4, a5⟩ F9 N9
      change Fr g L h _ at F9
      change News g L h _ at N9
      have hdn : dn = cs := by rw [a5.out.2]; rfl
      have hVV := Box.mk a5.out.1
      subst hdn
      have F10 := fr_see4 F9 a1 a2 a3 a4
      clear F9 a1 a2 a3 a4 a5
      dsimp only
      k_steps
      refine Halt.go ?_
      refine d2i_miss _ 16 _ dn hlt'.out.1 (by decide) _ callerA g g [] _ L _ _ _ _ ⟨⟨ys, ⟨_, N9.get (.head _), rfl, _, rfl⟩, hj'.out⟩, by omega⟩ (news_one N9 (.tail _ (.head _))) B F10 X T (Around.frames_deeper B.stack) rfl rfl rfl (Nat.le_of_ble_eq_true rfl) (Nat.le_of_ble_eq_true rfl) ?_
      rintro r h3 tk4 c' t4 kb ⟨nc, nn⟩ T23 rfl
      dsimp only at kb nn
      have n23 := N9 _ (.tail _ (.head _))
      have F11 := fr_but F10 n23.2.2 n23.2.1 kb
      have N10 : News g L h3 ((_, LCg.lst ys) :: (16, tabObj #[]) :: own) := news_most (fun q hq => N9 q ((List.mem_cons.mp hq).elim (fun e => e ▸ .head _) fun hq => .tail _ (.tail _ hq))) (fun q hq => by
        cases hq with
        | head => exact fun e => o8.1 e.symm
        | tail _ hq =>
          cases hq with
          | head => exact (by decide : (16 : Nat) ≠ 23)
          | tail _ hq => exact o23'.out q hq) kb
      obtain ⟨oc, cvs, ct, N11, hcd, hcv⟩ := tab_news F10 (news_one N9 (.tail _ (.head _))) T23 nn N10
      rw [← hVV.out]
      have c16 : c' ≠ 16 := fun e => by
        rw [e] at nn
        exact absurd ((N9 _ (.tail _ (.tail _ (.head _)))).1.symm.trans nn) (by simp)
      clear F10 N9 N10 T23 kb nc n23 nn l8 off8
      k_steps
      refine Halt.go ?_
      rename Fr _ _ _ _ => F12
      rename News _ _ _ _ => N12
      rw [hVV.out]
      refine i2d 16 _ _ dn hlt'.out.1 (by decide) (by decide) hlt'.out.2.1 hlt'.out.2.2 (by omega) _ callerA g g [] _ L _ _ _ _ (news_one N12 (.tail _ (.tail _ (.tail _ (.head _))))) B F12 X T (Around.frames_deeper B.stack) rfl rfl rfl (Nat.le_of_ble_eq_true rfl) (Nat.le_of_ble_eq_true rfl) ?_
      rintro b h4 tk5 its4 ep4 kb4 ⟨nb, nnb⟩ ⟨ps, hps⟩ hb4 hi4
      dsimp only at kb4 nnb
      have n16 := N12 _ (.tail _ (.tail _ (.tail _ (.head _))))
      have F13 := fr_but F12 n16.2.2 n16.2.1 kb4
      have N13 := news_i2d F12 N12 kb4 nnb hb4 hps c16 o8.2.1 o16'.out
      have hi4' := Box.mk hi4
      clear F12 N12 kb4 n16 hps hb4 hi4
      k_steps
      · rename _ ≠ _ => bad
        exact absurd rfl bad
      refine Halt.go ?_
      rename Fr _ _ _ _ => F14
      rename News _ _ _ _ => N14
      refine ke_ne_ints (xs := its4) (ys := ys) ⟨_, N14.get (.head _), rfl, _, rfl⟩ ⟨_, N14.get (.tail _ (.tail _ (.tail _ (.tail _ (.head _))))), rfl, _, rfl⟩ hi4'.out hj'.out (Nat.le_of_ble_eq_true rfl) ?_
      rw [decide_eq_true rfl, Bool.not_true]
      k_steps
      refine Halt.go ?_
      refine LCg.ListComp_U F14 (by with_unfolding_all rfl) (by decide) rfl (by decide) rfl ?_
      k_steps
      refine Halt.go ?_
      have hsz4 : its4.toArray.size = dn.length := by rw [List.size_toArray, hi4'.out.length, List.length_map]
      refine LCg.CompSrc.ledger (its := its4.toArray) (k := ep4) rfl F14 N14 (.head _) (by rw [hsz4, sizeLine_eq]; omega) ?_
      intro g3
      rw [hsz4]
      clear hsz4
      refine comp_inv (fun i zs => Box (StrsAre zs ((dn.take i).map fun c => txt [c]))) ⟨.nil⟩ ?_ ?_
      · intro i v I oI C oC D m₂ zs h tk E' hi hJ hv hC hx F2 N2 off ne
        have off0 := Box.mk off
        simp only [LCg.Off3, and_true] at off
        obtain ⟨c, t5, hc, rfl⟩ := ints_nat hi4'.out (i := i) (v := v) (by simpa using hv)
        have hc5 : c < 65536 := hlt'.out.1 c (List.mem_of_getElem? hc)
        have hc' := Box.mk hc
        clear hc hv F14 N14
        k_steps
        refine Halt.go ?_
        refine chr_of_range (by omega) (by omega) ?_
        refine ⟨h, _, _, rfl, F2, N2, off0.out, .inr ⟨_, .head _, rfl, _, rfl⟩, rfl, ⟨?_⟩⟩
        rw [Int.toNat_natCast, List.take_add_one, hc'.out]
        show StrsAre (zs ++ [Value.str (txt [c]) _]) (List.map _ (List.take i dn ++ [c]))
        rw [List.map_append]
        exact strs_snoc hJ.out
      · intro zs hJ
        clear F14 N14
        k_steps
        refine Halt.go ?_
        rename Fr _ _ _ _ => F15
        rename News _ _ _ _ => N15
        obtain ⟨lv, e1, e2⟩ := strs_vals hJ.out
        rw [List.take_length] at e2
        have e3 : lv.map (·.1) = (dn.map fun c => [c]).map txt := by rw [e2, List.map_map]; rfl
        refine SC.join (l := lv) (texts := (dn.map fun c => [c]).map txt) ⟨_, N15.get (.head _), rfl, zs.length, by rw [← e1]⟩ e3 (join_ok ?_) ?_
        · have h1 : (((dn.map fun c => [c]).map txt).map (·.length)).sum ≤ dn.length * 1 := by
            refine Nat.le_trans (sum_le_mul (k := 1) ?_) (by rw [List.length_map, List.length_map, List.length_map]; exact Nat.le_refl _)
            intro z hz
            obtain ⟨q, hq, rfl⟩ := List.mem_map.mp hz
            obtain ⟨q, hq2, rfl⟩ := List.mem_map.mp hq
            obtain ⟨c, hc, rfl⟩ := List.mem_map.mp hq2
            rw [txt_len]; exact Nat.le_refl _
          have h2 : (Str.ofString "").length = 0 := by decide +kernel
          rw [h2, Nat.mul_zero]
          omega
        · intro t6 tk6
          rw [lit_empty, join_txt, glue_signs, ← hcs'.out]
          k_steps
          refine Halt.go ?_
          refine pure_call B F15 N15 X T rfl rfl rfl (by decide) (by decide) (rd_all wd t (by omega) (by omega) c' 3 (Nat.le_refl _) (.row l) _ _ hok'.out (tab_of N15 (.tail _ (.tail _ (.tail _ (.head _)))) (.tail _ (.tail _ (.tail _ (.tail _ (.head _))))) hcd hcv)) ?_
          rintro r h5 tk7 st5 F16 N16 ⟨own5, hT5, hq5⟩
          have hT6 := Box.mk hT5
          cases hT5 with
          | row _ _ =>
          clear F15 N15 st5
          k_steps
          refine Halt.go ?_
          refine tree_eq (hT6.out.heap fun q hq => (hq5 q hq).1) (htr'.out.heap fun q hq => (N16 q (.tail _ (.tail _ (.tail _ (.tail _ (.tail _ (.tail _ hq))))))).1) hok'.out (Nat.le_of_ble_eq_true rfl) ?_
          exact ⟨rfl, _, _, _, rfl, F16, ⟨_, N16.get (.tail _ (.tail _ (.tail _ (.tail _ (.head _)))))⟩, ⟨_, N16.get (.tail _ (.tail _ (.head _)))⟩⟩
end
end Mine
namespace Mine
theorem fin : PySem.Challenge.rw_nb0075_01.Holds := hd (by
  k_go0
  rename Frag.In _ (ghostOf _ _) => X9
  rename Top topProg _ _ _ _ _ => T9
  rename Below _ _ _ _ => B9
  rename Fr _ _ _ _ => F9
  rename News _ _ _ _ => N9
  rename Heap.IsList (ghostOf _ _) _ _ => hl9
  rename IntsAre _ _ => hi9
  rename _ = #[] => hg9
  rename ¬ _ < _ => hn9
  rename World => w9
  rename Shared => s9
  rename Heap => h9
  have R := fun tk fa cd => law_run (w := w9) _ _ fa _ cd _ _ { s9 with heap := h9, toks := tk } _ X9 T9 B9 F9 rfl N9 hl9 hi9 (by omega)
  rw [bodyOf_eq (K := hd.heap_39 w9.params) (f := 82) (by k_is)] at R
  dsimp only at R
  refine wpAny_mono (R _ _ _) ?_ (fun _ _ h => h.elim)
  rintro f s' ⟨rfl, h', tk, m', rfl, F10, g1, g2⟩
  refine ⟨?_, g1, g2, trivial⟩
  refine goodW_bool F10 hg9 (raisesW_false ?_) ?_
  · wrow_none_raised
  · wrow_post)
end Mine
theorem PySem.Challenge.cw_nb0075_01_holds : PySem.Challenge.rw_nb0075_01.Holds :=
  Mine.fin
