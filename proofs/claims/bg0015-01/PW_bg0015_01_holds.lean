import PyProof.Rows.All
import Wide.All
import OpenK.AllK
import Wide.FinOn
import KE.KSortedM
import KE.KLcPair
import PyProof.Rows.GenSrcEnum
import PyProof.Rows.ZipGen
import KE.KLcTest
import Lean
import PySem.Challenge.RW_bg0015_01
set_option Elab.async false
section
namespace Mine

/-- the whole seats of a party, and what is left, over one denominator -/
def fl (k : Int) (ns : List Int) : List Int := ns.map fun v => (v * k).fdiv ns.sum
def rm (k : Int) (ns : List Int) : List Int := ns.map fun v => (v * k).fmod ns.sum

/-- one turn of the loop that hands out what is left -/
def lrTurn (cut k : Int) (ms : List Int) (st : List Int × Bool) (i : Nat) : List Int × Bool :=
  if st.1.sum = k ∧ cut ≤ ms.getD i 0 then (st.1, true)
  else if st.1.sum < k ∧ cut ≤ ms.getD i 0 then (st.1.set i (st.1.getD i 0 + 1), st.2)
  else st
def lrLoop (cut k : Int) (ms : List Int) (j : Nat) (st : List Int × Bool) : List Int × Bool :=
  (List.range j).foldl (lrTurn cut k ms) st
theorem lrLoop_succ (cut k : Int) (ms : List Int) (j : Nat) (st : List Int × Bool) : lrLoop cut k ms (j + 1) st = lrTurn cut k ms (lrLoop cut k ms j st) j := by
  unfold lrLoop
  rw [List.range_succ, List.foldl_append]
  rfl

/-- what a call gives: the seats, and whether a tie is told -/
def LrOut (ns : List Int) (k : Int) (rs : List Int) (tie : Bool) : Prop :=
  (¬ (fl k ns).sum < k ∧ rs = fl k ns ∧ tie = false) ∨
  ((fl k ns).sum < k ∧ ∃ srt : List Int, srt.Perm (rm k ns) ∧ srt.Pairwise (· ≤ ·) ∧ (rs, tie) = lrLoop (srt.getD ((fl k ns).sum - k + (srt.length : Int)).toNat 0) k (rm k ns) ns.length (fl k ns, false))

theorem fdiv_fmod (a b : Int) : a.fdiv b * b + a.fmod b = a := by
  rw [Int.fmod_def, Int.mul_comm]; omega
theorem fmod_sub (a b : Int) : a - a.fdiv b * b = a.fmod b := by
  have := fdiv_fmod a b; omega
theorem sum_fl_rm (k V : Int) : ∀ l : List Int, (l.map fun v => (v * k).fdiv V).sum * V + (l.map fun v => (v * k).fmod V).sum = l.sum * k
  | [] => by simp
  | a :: l => by
    simp only [List.map_cons, List.sum_cons, Int.add_mul]
    have ih := sum_fl_rm k V l
    have h := fdiv_fmod (a * k) V
    omega
theorem fmod_range {a b : Int} (hb : 0 < b) : 0 ≤ a.fmod b ∧ a.fmod b < b :=
  ⟨Int.fmod_nonneg_of_pos _ hb, Int.fmod_lt_of_pos _ hb⟩
theorem sum_rm_lt {k V : Int} (hV : 0 < V) : ∀ l : List Int, 0 ≤ (l.map fun v => (v * k).fmod V).sum ∧ (l.map fun v => (v * k).fmod V).sum ≤ l.length * (V - 1)
  | [] => by simp
  | a :: l => by
    have ih := sum_rm_lt (k := k) hV l
    have h := fmod_range (a := a * k) hV
    simp only [List.map_cons, List.sum_cons, List.length_cons, Int.natCast_succ, Int.add_mul, Int.one_mul]
    omega
theorem rest_lt {k : Int} {ns : List Int} (hV : 0 < ns.sum) (hn : 0 < ns.length) : (fl k ns).sum ≤ k ∧ k - (fl k ns).sum < ns.length := by
  have h1 := sum_fl_rm k ns.sum ns
  have h2 := sum_rm_lt (k := k) hV ns
  have e : (k - (fl k ns).sum) * ns.sum = (ns.map fun v => (v * k).fmod ns.sum).sum := by
    unfold fl
    rw [Int.sub_mul, Int.mul_comm k]
    omega
  constructor
  · have : 0 ≤ (k - (fl k ns).sum) * ns.sum := by rw [e]; exact h2.1
    have := Int.nonneg_of_mul_nonneg_left this hV
    omega
  · have h3 : (k - (fl k ns).sum) * ns.sum < ns.length * ns.sum := by
      rw [e]
      have : (ns.length : Int) * (ns.sum - 1) < ns.length * ns.sum := by
        rw [Int.mul_sub]; omega
      omega
    exact Int.lt_of_mul_lt_mul_right h3 (Int.le_of_lt hV)
theorem mem_le_sum : ∀ {ns : List Int}, (∀ v ∈ ns, 0 ≤ v) → ∀ v ∈ ns, v ≤ ns.sum
  | [], _, _, h => nomatch h
  | a :: l, hp, v, h => by
    have hs : 0 ≤ l.sum := by
      clear h
      have : ∀ l : List Int, (∀ v ∈ l, 0 ≤ v) → 0 ≤ l.sum := by
        intro l
        induction l with
        | nil => intro _; simp
        | cons b r ih =>
          intro h
          have h1 := h b List.mem_cons_self
          have h2 := ih fun v hv => h v (List.mem_cons_of_mem _ hv)
          simp only [List.sum_cons]; omega
      exact this l fun v hv => hp v (List.mem_cons_of_mem _ hv)
    simp only [List.sum_cons]
    rcases List.mem_cons.mp h with rfl | h
    · omega
    · have := mem_le_sum (fun v hv => hp v (List.mem_cons_of_mem _ hv)) v h
      have := hp a List.mem_cons_self
      omega
theorem fdiv_range {p V k : Int} (hp : 0 ≤ p) (hpV : p ≤ V) (hV : 0 < V) (hk : 0 ≤ k) : 0 ≤ (p * k).fdiv V ∧ (p * k).fdiv V ≤ k := by
  rw [Int.fdiv_eq_ediv_of_nonneg _ (Int.le_of_lt hV)]
  constructor
  · exact Int.ediv_nonneg (Int.mul_nonneg hp hk) (Int.le_of_lt hV)
  · have h : p * k ≤ k * V := by rw [Int.mul_comm]; exact Int.mul_le_mul_of_nonneg_left hpV hk
    have := Int.ediv_le_of_le_mul hV h
    exact this
end Mine
namespace Mine
section
variable {cut k : Int} {ms : List Int} {j : Nat} {st : List Int × Bool} {ir : List Int} {tie : Bool} {mI : Int}
theorem step_tie (h : (ir, tie) = lrLoop cut k ms j st) (hm : ms.getD j 0 = mI) (hS : ir.sum = k) (hc : cut ≤ mI) : (ir, true) = lrLoop cut k ms (j + 1) st := by
  rw [lrLoop_succ, ← h]
  unfold lrTurn
  rw [if_pos ⟨hS, by rw [hm]; exact hc⟩]
theorem step_up (h : (ir, tie) = lrLoop cut k ms j st) (hm : ms.getD j 0 = mI) (hS : ir.sum < k) (hc : cut ≤ mI) : (ir.set j (ir.getD j 0 + 1), tie) = lrLoop cut k ms (j + 1) st := by
  rw [lrLoop_succ, ← h]
  unfold lrTurn
  rw [if_neg (fun q => by have := q.1; dsimp only at this; omega), if_pos ⟨hS, by rw [hm]; exact hc⟩]
theorem step_no (h : (ir, tie) = lrLoop cut k ms j st) (hm : ms.getD j 0 = mI) (hc : ¬ cut ≤ mI) : (ir, tie) = lrLoop cut k ms (j + 1) st := by
  rw [lrLoop_succ, ← h]
  unfold lrTurn
  rw [if_neg (fun q => hc (hm ▸ q.2)), if_neg (fun q => hc (hm ▸ q.2))]
theorem step_over (h : (ir, tie) = lrLoop cut k ms j st) (hS : k < ir.sum) : (ir, tie) = lrLoop cut k ms (j + 1) st := by
  rw [lrLoop_succ, ← h]
  unfold lrTurn
  rw [if_neg (fun q => by have := q.1; dsimp only at this; omega), if_neg (fun q => by have := q.1; dsimp only at this; omega)]
end
end Mine
end
section
namespace Mine
theorem sum_set : ∀ {l : List Int} {i : Nat} {v : Int}, i < l.length → (l.set i v).sum = l.sum - l.getD i 0 + v
  | [], _, _, h => by simp at h
  | a :: l, 0, v, _ => by simp; omega
  | a :: l, i + 1, v, h => by
    have ih := sum_set (l := l) (i := i) (v := v) (by simpa using h)
    simp only [List.set_cons_succ, List.sum_cons, List.getD_cons_succ]
    omega
def chg (q p mv : Int) (xs : List Int) : List Int := xs.mapIdx fun k v => if (k : Int) = q then v - mv else if (k : Int) = p then v + mv else v
theorem chg_get {q p mv : Int} {xs : List Int} {i : Nat} : (chg q p mv xs)[i]? = xs[i]?.map fun v => if (i : Int) = q then v - mv else if (i : Int) = p then v + mv else v := by
  unfold chg
  rw [List.getElem?_mapIdx]
theorem chg_take {q p mv : Int} {xs : List Int} {i : Nat} {v : Int} (h : xs[i]? = some v) : (chg q p mv xs).take (i + 1) = (chg q p mv xs).take i ++ [if (i : Int) = q then v - mv else if (i : Int) = p then v + mv else v] := by
  rw [List.take_add_one, chg_get, h]
  rfl
theorem chg_length {q p mv : Int} {xs : List Int} : (chg q p mv xs).length = xs.length := by
  unfold chg
  rw [List.length_mapIdx]
theorem chg_set {q p : Nat} {mv : Int} {xs : List Int} (hpq : p ≠ q) : chg q p mv xs = (xs.set q (xs.getD q 0 - mv)).set p (xs.getD p 0 + mv) := by
  refine List.ext_getElem? fun i => ?_
  rw [chg_get, List.getElem?_set, List.getElem?_set]
  by_cases h : i < xs.length
  · rw [List.getElem?_eq_getElem h]
    by_cases h1 : p = i
    · subst h1
      have : ¬ (p : Int) = (q : Int) := by omega
      simp [h, this]
    · by_cases h2 : q = i
      · subst h2
        simp [h, h1]
      · have e1 : ¬ (i : Int) = (q : Int) := by omega
        have e2 : ¬ (i : Int) = (p : Int) := by omega
        simp [h1, h2, e1, e2]
  · have e : xs[i]? = none := List.getElem?_eq_none (Nat.not_lt.mp h)
    rw [e]
    by_cases h1 : p = i
    · subst h1; simp [h]
    · by_cases h2 : q = i
      · subst h2; simp [h, h1]
      · simp [h1, h2]
theorem chg_sum {q p : Int} {mv : Int} {xs : List Int} (hq : 0 ≤ q) (hql : q < xs.length) (hp : 0 ≤ p) (hpl : p < xs.length) (hpq : p ≠ q) : (chg q p mv xs).sum = xs.sum := by
  obtain ⟨q, rfl⟩ := Int.eq_ofNat_of_zero_le hq
  obtain ⟨p, rfl⟩ := Int.eq_ofNat_of_zero_le hp
  have hpq' : p ≠ q := fun e => hpq (by rw [e])
  rw [chg_set hpq', sum_set (by rw [List.length_set]; omega), sum_set (by omega)]
  have : (xs.set q (xs.getD q 0 - mv)).getD p 0 = xs.getD p 0 := by
    simp [List.getD_eq_getElem?_getD, List.getElem?_set, Ne.symm hpq']
  rw [this]
  omega
theorem getD_mem {xs : List Int} {i : Nat} (h : i < xs.length) : xs.getD i 0 ∈ xs := by
  rw [List.getD_eq_getElem?_getD, List.getElem?_eq_getElem h]
  exact List.getElem_mem h
theorem chg_nonneg {q p : Int} {mv : Int} {xs : List Int} (hx : ∀ v ∈ xs, 1 ≤ v) (h0 : 0 ≤ mv) (h1 : mv < xs.getD q.toNat 0 + 1) : ∀ v ∈ chg q p mv xs, 0 ≤ v := by
  intro v hv
  obtain ⟨i, hi, e⟩ := List.getElem_of_mem hv
  have e' : (chg q p mv xs)[i]? = some v := by rw [List.getElem?_eq_getElem hi, e]
  rw [chg_get] at e'
  rw [chg_length] at hi
  rw [List.getElem?_eq_getElem hi] at e'
  simp only [Option.map_some, Option.some.injEq] at e'
  have hm := hx _ (List.getElem_mem hi)
  subst e'
  split
  · rename_i h
    have : q.toNat = i := by omega
    rw [this, List.getD_eq_getElem?_getD, List.getElem?_eq_getElem hi, Option.getD_some] at h1
    omega
  · split <;> omega
theorem sum_pos {xs : List Int} (hx : ∀ v ∈ xs, 1 ≤ v) (hn : 0 < xs.length) : 0 < xs.sum := by
  cases xs with
  | nil => simp at hn
  | cons a l =>
    have h1 := hx a List.mem_cons_self
    have h2 := mem_le_sum (ns := a :: l) (fun v hv => by have := hx v hv; omega) a List.mem_cons_self
    omega
end Mine
end
section
namespace Mine
theorem lrTurn_len {cut k : Int} {ms : List Int} {st : List Int × Bool} {i : Nat} : (lrTurn cut k ms st i).1.length = st.1.length := by
  unfold lrTurn
  split
  · rfl
  · split
    · simp
    · rfl
theorem lrLoop_len {cut k : Int} {ms : List Int} {st : List Int × Bool} : ∀ j, (lrLoop cut k ms j st).1.length = st.1.length
  | 0 => rfl
  | j + 1 => by rw [lrLoop_succ, lrTurn_len, lrLoop_len j]
theorem fl_length {k : Int} {ns : List Int} : (fl k ns).length = ns.length := by unfold fl; rw [List.length_map]
theorem lr_len {ns rs : List Int} {k : Int} {t : Bool} (h : LrOut ns k rs t) : rs.length = ns.length := by
  rcases h with ⟨_, rfl, _⟩ | ⟨_, srt, _, _, e⟩
  · exact fl_length
  · have := congrArg (fun q => q.1.length) e
    dsimp only at this
    rw [this, lrLoop_len, fl_length]
end Mine
namespace Mine
def dif (a b : List Int) : List Int := List.zipWith (fun x y => y - x) a b
theorem dif_take {a b : List Int} {i : Nat} {x y : Int} (ha : a[i]? = some x) (hb : b[i]? = some y) : (dif a b).take (i + 1) = (dif a b).take i ++ [y - x] := by
  rw [List.take_add_one]
  unfold dif
  rw [List.getElem?_zipWith, ha, hb]
  rfl
theorem dif_length {a b : List Int} : (dif a b).length = min a.length b.length := by
  unfold dif
  rw [List.length_zipWith]
theorem dif_get {a b : List Int} {i : Nat} {x : Int} (h : (dif a b)[i]? = some x) : b.getD i 0 - a.getD i 0 = x := by
  unfold dif at h
  rw [List.getElem?_zipWith] at h
  rw [List.getD_eq_getElem?_getD, List.getD_eq_getElem?_getD]
  cases ha : a[i]? with
  | none => rw [ha] at h; simp at h
  | some u =>
    cases hb : b[i]? with
    | none => rw [ha, hb] at h; simp at h
    | some v => rw [ha, hb] at h; simpa using h
end Mine
end
section
namespace Mine
def cnt (cut : Int) (ms : List Int) (j : Nat) : Nat := (ms.take j).countP (fun m => decide (cut ≤ m))
theorem cnt_zero {cut : Int} {ms : List Int} : cnt cut ms 0 = 0 := by simp [cnt]
theorem cnt_succ {cut : Int} {ms : List Int} {j : Nat} (h : j < ms.length) : cnt cut ms (j + 1) = cnt cut ms j + if cut ≤ ms.getD j 0 then 1 else 0 := by
  unfold cnt
  rw [List.take_add_one, List.countP_append, List.getD_eq_getElem?_getD, List.getElem?_eq_getElem h]
  simp only [Option.toList_some, Option.getD_some, List.countP_cons, List.countP_nil, decide_eq_true_eq, Nat.zero_add]
theorem cnt_mono {cut : Int} {ms : List Int} {i : Nat} : ∀ {j : Nat}, i ≤ j → j ≤ ms.length → cnt cut ms i ≤ cnt cut ms j
  | 0, h, _ => by rw [Nat.le_zero.mp h]; exact Nat.le_refl _
  | j + 1, h, hl => by
    by_cases e : i = j + 1
    · subst e; exact Nat.le_refl _
    · have := cnt_mono (cut := cut) (ms := ms) (i := i) (j := j) (by omega) (by omega)
      have h2 := cnt_succ (cut := cut) (ms := ms) (j := j) (by omega)
      omega
theorem loop_inv {cut k : Int} {ms fs : List Int} {R : Nat} (hl : fs.length = ms.length) (hk : k = fs.sum + R) : ∀ j, j ≤ ms.length →
    (lrLoop cut k ms j (fs, false)).1.length = ms.length ∧ (lrLoop cut k ms j (fs, false)).1.sum = fs.sum + (min (cnt cut ms j) R : Nat) ∧ (lrLoop cut k ms j (fs, false)).2 = decide (R < cnt cut ms j) ∧
    ∀ i, i < ms.length → (lrLoop cut k ms j (fs, false)).1.getD i 0 = fs.getD i 0 + if i < j ∧ cut ≤ ms.getD i 0 ∧ cnt cut ms i < R then 1 else 0
  | 0, _ => by
    refine ⟨hl, ?_, ?_, ?_⟩
    · rw [cnt_zero]; simp [lrLoop]
    · rw [cnt_zero]; simp [lrLoop]
    · intro i _; simp [lrLoop]
  | j + 1, hj => by
    obtain ⟨a1, a2, a3, a4⟩ := loop_inv (cut := cut) hl hk j (by omega)
    have hc := cnt_succ (cut := cut) (ms := ms) (j := j) (by omega)
    rw [lrLoop_succ]
    generalize lrLoop cut k ms j (fs, false) = st at a1 a2 a3 a4
    obtain ⟨ir, tie⟩ := st
    dsimp only at a1 a2 a3 a4
    unfold lrTurn
    dsimp only
    by_cases hm : cut ≤ ms.getD j 0
    · rw [if_pos hm] at hc
      by_cases hR : cnt cut ms j < R
      · have hS : ir.sum < k := by rw [a2, hk]; omega
        rw [if_neg (by omega), if_pos ⟨hS, hm⟩]
        dsimp only
        refine ⟨by rw [List.length_set]; exact a1, ?_, ?_, ?_⟩
        · rw [sum_set (by omega), a2, hc]; omega
        · rw [a3, hc]
          by_cases h : R < cnt cut ms j <;> by_cases h' : R < cnt cut ms j + 1 <;> simp [h, h'] <;> omega
        · intro i hi
          by_cases e : j = i
          · subst e
            rw [if_pos ⟨by omega, hm, hR⟩]
            have := a4 j hi
            rw [if_neg (by omega)] at this
            rw [List.getD_eq_getElem?_getD, List.getElem?_set_self (by omega), Option.getD_some, this]
            omega
          · have := a4 i hi
            rw [List.getD_eq_getElem?_getD, List.getElem?_set_ne e, ← List.getD_eq_getElem?_getD, this]
            congr 1
            by_cases h1 : i < j
            · simp [h1, show i < j + 1 by omega]
            · simp [h1, show ¬ i < j + 1 by omega]
      · have hS : ir.sum = k := by rw [a2, hk]; omega
        rw [if_pos ⟨hS, hm⟩]
        dsimp only
        refine ⟨a1, ?_, ?_, ?_⟩
        · rw [a2, hc]; omega
        · rw [hc]; simp; omega
        · intro i hi
          rw [a4 i hi]
          congr 1
          by_cases e : i = j
          · subst e; simp [hR]
          · by_cases h1 : i < j
            · simp [h1, show i < j + 1 by omega]
            · simp [h1, show ¬ i < j + 1 by omega]
    · rw [if_neg hm] at hc
      rw [if_neg (fun q => hm q.2), if_neg (fun q => hm q.2)]
      dsimp only
      rw [hc]
      refine ⟨a1, a2, a3, ?_⟩
      intro i hi
      rw [a4 i hi]
      congr 1
      by_cases e : i = j
      · subst e; rw [if_neg (fun q => hm q.2.1), if_neg (fun q => hm q.2.1)]
      · by_cases h1 : i < j
        · simp [h1, show i < j + 1 by omega]
        · simp [h1, show ¬ i < j + 1 by omega]
/-- the last of those that are counted -/
theorem last_cnt {cut : Int} {ms : List Int} : ∀ j, j ≤ ms.length → 0 < cnt cut ms j → ∃ i, i < j ∧ cut ≤ ms.getD i 0 ∧ cnt cut ms i + 1 = cnt cut ms j
  | 0, _, h => by rw [cnt_zero] at h; omega
  | j + 1, hj, h => by
    have hc := cnt_succ (cut := cut) (ms := ms) (j := j) (by omega)
    by_cases hm : cut ≤ ms.getD j 0
    · rw [if_pos hm] at hc
      exact ⟨j, by omega, hm, hc.symm⟩
    · rw [if_neg hm] at hc
      obtain ⟨i, h1, h2, h3⟩ := last_cnt (cut := cut) (ms := ms) j (by omega) (by omega)
      exact ⟨i, by omega, h2, by omega⟩
theorem cnt_all {cut : Int} {ms : List Int} : cnt cut ms ms.length = ms.countP (fun m => decide (cut ≤ m)) := by
  unfold cnt
  rw [List.take_length]
/-- counted from the other end -/
theorem cnt_rev {cut : Int} {ms : List Int} {i : Nat} (hi : i < ms.length) (hm : cut ≤ ms.getD i 0) (h : cnt cut ms i + 1 = cnt cut ms ms.length) : cnt cut ms.reverse (ms.length - 1 - i) = 0 := by
  have hc := cnt_succ (cut := cut) hi
  rw [if_pos hm] at hc
  have e : cnt cut ms ms.length = cnt cut ms (i + 1) + (ms.drop (i + 1)).countP (fun m => decide (cut ≤ m)) := by
    rw [cnt_all]
    unfold cnt
    rw [← List.countP_append, List.take_append_drop]
  have z : (ms.drop (i + 1)).countP (fun m => decide (cut ≤ m)) = 0 := by omega
  unfold cnt
  rw [List.take_reverse, List.countP_reverse]
  have : ms.length - (ms.length - 1 - i) = i + 1 := by omega
  rw [this]
  exact z

theorem cut_cnt {ms srt : List Int} {R : Nat} (hp : srt.Perm ms) (hs : srt.Pairwise (· ≤ ·)) (h1 : 1 ≤ R) (hR : R ≤ ms.length) : R ≤ cnt (srt.getD (ms.length - R) 0) ms ms.length := by
  have hl := hp.length_eq
  rw [cnt_all, ← hp.countP_eq]
  generalize hc : srt.getD (ms.length - R) 0 = cut
  have hi : ms.length - R < srt.length := by omega
  have hd := List.drop_eq_getElem_cons hi
  have hg : srt[ms.length - R] = cut := by
    rw [← hc, List.getD_eq_getElem?_getD, List.getElem?_eq_getElem hi, Option.getD_some]
  have hpw : (srt.drop (ms.length - R)).Pairwise (· ≤ ·) := hs.sublist (List.drop_sublist _ _)
  rw [hd, hg] at hpw
  have hall : ∀ x ∈ srt.drop (ms.length - R), cut ≤ x := by
    intro x hx
    rw [hd, hg] at hx
    rcases List.mem_cons.mp hx with rfl | hx
    · exact Int.le_refl _
    · exact (List.pairwise_cons.mp hpw).1 x hx
  have e : srt.countP (fun m => decide (cut ≤ m)) = (srt.take (ms.length - R)).countP (fun m => decide (cut ≤ m)) + (srt.drop (ms.length - R)).countP (fun m => decide (cut ≤ m)) := by
    rw [← List.countP_append, List.take_append_drop]
  have e2 : (srt.drop (ms.length - R)).countP (fun m => decide (cut ≤ m)) = (srt.drop (ms.length - R)).length :=
    List.countP_eq_length.mpr fun x hx => decide_eq_true (hall x hx)
  rw [List.length_drop] at e2
  omega
theorem rm_length {k : Int} {ns : List Int} : (rm k ns).length = ns.length := by unfold rm; rw [List.length_map]
theorem fl_get {k : Int} {ns : List Int} {i : Nat} (h : i < ns.length) : (fl k ns).getD i 0 = (ns.getD i 0 * k).fdiv ns.sum := by
  unfold fl
  rw [List.getD_eq_getElem?_getD, List.getElem?_map, List.getElem?_eq_getElem h, List.getD_eq_getElem?_getD, List.getElem?_eq_getElem h]
  rfl
theorem rm_get {k : Int} {ns : List Int} {i : Nat} (h : i < ns.length) : (rm k ns).getD i 0 = (ns.getD i 0 * k).fmod ns.sum := by
  unfold rm
  rw [List.getD_eq_getElem?_getD, List.getElem?_map, List.getElem?_eq_getElem h, List.getD_eq_getElem?_getD, List.getElem?_eq_getElem h]
  rfl
theorem ext_getD {a b : List Int} (h : a.length = b.length) (h2 : ∀ i, i < a.length → a.getD i 0 = b.getD i 0) : a = b := by
  refine List.ext_getElem h fun i h1 h3 => ?_
  have := h2 i h1
  rw [List.getD_eq_getElem?_getD, List.getElem?_eq_getElem h1, List.getD_eq_getElem?_getD, List.getElem?_eq_getElem h3] at this
  exact this
theorem map_get {f : Int → Int} {ns : List Int} {i : Nat} (h : i < ns.length) : (ns.map f).getD i 0 = f (ns.getD i 0) := by
  rw [List.getD_eq_getElem?_getD, List.getElem?_map, List.getElem?_eq_getElem h, List.getD_eq_getElem?_getD, List.getElem?_eq_getElem h]
  rfl

/-- the shape of an answer where seats are left over -/
theorem lr_shape {ns rs : List Int} {k : Int} {t : Bool} (hn : 0 < ns.length) (hV : 0 < ns.sum) (h : LrOut ns k rs t) (hlt : (fl k ns).sum < k) :
    ∃ (R : Nat) (cut : Int) (srt : List Int), 1 ≤ R ∧ R < ns.length ∧ k = (fl k ns).sum + R ∧ srt.Perm (rm k ns) ∧ srt.Pairwise (· ≤ ·) ∧ cut = srt.getD (ns.length - R) 0 ∧ R ≤ cnt cut (rm k ns) ns.length ∧
      rs.sum = k ∧ t = decide (R < cnt cut (rm k ns) ns.length) ∧ ∀ i, i < ns.length → rs.getD i 0 = (fl k ns).getD i 0 + if cut ≤ (rm k ns).getD i 0 ∧ cnt cut (rm k ns) i < R then 1 else 0 := by
  rcases h with ⟨h, _⟩ | ⟨_, srt, hp, hs, he⟩
  · exact absurd hlt h
  · have h1 := rest_lt (k := k) hV hn
    obtain ⟨R, hR⟩ := Int.eq_ofNat_of_zero_le (show 0 ≤ k - (fl k ns).sum by omega)
    have hsl : srt.length = ns.length := by rw [hp.length_eq, rm_length]
    have hidx : ((fl k ns).sum - k + (srt.length : Int)).toNat = ns.length - R := by omega
    rw [hidx] at he
    have hk : k = (fl k ns).sum + R := by omega
    have hc := cut_cnt (R := R) hp hs (by omega) (by rw [rm_length]; omega)
    rw [rm_length] at hc
    obtain ⟨a1, a2, a3, a4⟩ := loop_inv (cut := srt.getD (ns.length - R) 0) (ms := rm k ns) (fs := fl k ns) (by rw [fl_length, rm_length]) hk ns.length (by rw [rm_length]; omega)
    have e1 := congrArg Prod.fst he
    have e2 := congrArg Prod.snd he
    dsimp only at e1 e2
    rw [← e1] at a1 a2 a4
    rw [← e2] at a3
    refine ⟨R, _, srt, by omega, by omega, hk, hp, hs, rfl, hc, by rw [a2, Nat.min_eq_right hc]; exact hk.symm, a3, fun i hi => ?_⟩
    rw [a4 i (by rw [rm_length]; exact hi)]
    congr 1
    simp only [hi, true_and]
theorem fdiv_up {a V c : Int} (hV : 0 < V) (h0 : 0 ≤ V - c) (h1 : V - c < V) : (a + (V - c)).fdiv V = a.fdiv V + if c ≤ a.fmod V then 1 else 0 := by
  have h2 := fdiv_fmod a V
  have h3 := fmod_range (a := a) hV
  rw [Int.fdiv_eq_ediv_of_nonneg _ (Int.le_of_lt hV)]
  split
  · rename_i h
    have e : a + (V - c) = (a.fmod V - c) + (a.fdiv V + 1) * V := by rw [Int.add_mul]; omega
    rw [e, Int.add_mul_ediv_right _ _ (by omega), Int.ediv_eq_zero_of_lt (by omega) (by omega)]
    omega
  · rename_i h
    have e : a + (V - c) = (a.fmod V + (V - c)) + (a.fdiv V) * V := by omega
    rw [e, Int.add_mul_ediv_right _ _ (by omega), Int.ediv_eq_zero_of_lt (by omega) (by omega)]
    omega
theorem no_tie {ns rs : List Int} {k : Int} (hn : 0 < ns.length) (hp : ∀ v ∈ ns, 0 ≤ v) (hV : 0 < ns.sum) (hk : 0 ≤ k) (h : LrOut ns k rs false) : rs.length = ns.length ∧ rs.sum = k ∧ (∀ v ∈ rs, 0 ≤ v) ∧ ∃ d, 0 ≤ d ∧ d < ns.sum ∧ rs = ns.map fun v => (v * k + d).fdiv ns.sum := by
  have hlen := lr_len h
  have main : rs.sum = k ∧ ∃ d, 0 ≤ d ∧ d < ns.sum ∧ rs = ns.map fun v => (v * k + d).fdiv ns.sum := by
    by_cases hlt : (fl k ns).sum < k
    · obtain ⟨R, cut, srt, hR1, hR2, hkR, hpm, hsr, hcut, hc, hsum, ht, hi⟩ := lr_shape hn hV h hlt
      have hcR : cnt cut (rm k ns) ns.length = R := by
        have : ¬ R < cnt cut (rm k ns) ns.length := fun q => by rw [decide_eq_true q] at ht; cases ht
        omega
      have hm : ∀ i, i < ns.length → 0 ≤ (rm k ns).getD i 0 ∧ (rm k ns).getD i 0 < ns.sum := fun i hi => by
        rw [rm_get hi]; exact fmod_range hV
      have hmem : ∀ x ∈ rm k ns, 0 ≤ x ∧ x < ns.sum := fun x hx => by
        obtain ⟨v, _, rfl⟩ := List.mem_map.mp hx; exact fmod_range hV
      have hsl : srt.length = ns.length := by rw [hpm.length_eq, rm_length]
      have hcm : cut ∈ rm k ns := hpm.subset (by rw [hcut]; exact getD_mem (by omega))
      have hcpos : 0 < cut := by
        by_cases hz : 0 < cut
        · exact hz
        · exfalso
          have : cnt cut (rm k ns) ns.length = ns.length := by
            have e := cnt_all (cut := cut) (ms := rm k ns)
            rw [rm_length] at e
            rw [e]
            have e2 : (rm k ns).countP (fun m => decide (cut ≤ m)) = (rm k ns).length := List.countP_eq_length.mpr fun x hx => decide_eq_true (by have := hmem x hx; omega)
            rw [e2, rm_length]
          omega
      have hcV := (hmem cut hcm).2
      refine ⟨hsum, ns.sum - cut, by omega, by omega, ?_⟩
      refine ext_getD (by rw [List.length_map]; exact hlen) fun i hil => ?_
      rw [hlen] at hil
      rw [hi i hil, map_get hil, fdiv_up hV (by omega) (by omega), fl_get hil, rm_get hil]
      congr 1
      by_cases hq : cut ≤ (ns.getD i 0 * k).fmod ns.sum
      · have hlt : cnt cut (rm k ns) i < R := by
          have h1 := cnt_succ (cut := cut) (ms := rm k ns) (j := i) (by rw [rm_length]; exact hil)
          rw [rm_get hil, if_pos hq] at h1
          have h2 := cnt_mono (cut := cut) (ms := rm k ns) (i := i + 1) (j := ns.length) (by omega) (by rw [rm_length]; omega)
          omega
        rw [if_pos ⟨hq, hlt⟩, if_pos hq]
      · rw [if_neg (fun z => hq z.1), if_neg hq]
    · rcases h with ⟨_, rfl, _⟩ | ⟨h, _⟩
      · have := rest_lt (k := k) hV hn
        refine ⟨by omega, 0, by omega, hV, ?_⟩
        unfold fl
        simp only [Int.add_zero]
      · exact absurd h hlt
  obtain ⟨hs, d, hd0, hd1, hd⟩ := main
  refine ⟨hlen, hs, ?_, d, hd0, hd1, hd⟩
  intro x hx
  rw [hd] at hx
  obtain ⟨v, hv, rfl⟩ := List.mem_map.mp hx
  rw [Int.fdiv_eq_ediv_of_nonneg _ (Int.le_of_lt hV)]
  exact Int.ediv_nonneg (by have := Int.mul_nonneg (hp v hv) hk; omega) (Int.le_of_lt hV)
theorem rm_rev {k : Int} {ns : List Int} : rm k ns.reverse = (rm k ns).reverse := by
  unfold rm
  rw [List.map_reverse, List.sum_reverse]
theorem fl_rev {k : Int} {ns : List Int} : fl k ns.reverse = (fl k ns).reverse := by
  unfold fl
  rw [List.map_reverse, List.sum_reverse]
theorem rev_get {a : List Int} {i : Nat} (h : i < a.length) : a.reverse.getD (a.length - 1 - i) 0 = a.getD i 0 := by
  rw [List.getD_eq_getElem?_getD, List.getElem?_reverse (by omega), List.getD_eq_getElem?_getD]
  congr 2
  omega
theorem tie_rev {ns rs rs1 rs2 : List Int} {k : Int} {t1 t2 : Bool} (hn : 0 < ns.length) (hV : 0 < ns.sum) (h : LrOut ns k rs true) (h1 : LrOut ns.reverse k rs1 t1) (h2 : LrOut ns k rs2 t2) : rs1.reverse ≠ rs2 := by
  intro he
  have hlt : (fl k ns).sum < k := by
    rcases h with ⟨_, _, z⟩ | ⟨h, _⟩
    · cases z
    · exact h
  obtain ⟨R, cut, srt, hR1, hR2, hkR, hpm, hsr, hcut, hc, _, ht, _⟩ := lr_shape hn hV h hlt
  obtain ⟨R2, cut2, srt2, _, _, hkR2, hpm2, hsr2, hcut2, _, _, _, hi2⟩ := lr_shape hn hV h2 hlt
  obtain ⟨R1, cut1, srt1, _, _, hkR1, hpm1, hsr1, hcut1, _, _, _, hi1⟩ := lr_shape (ns := ns.reverse) (by rw [List.length_reverse]; exact hn) (by rw [List.sum_reverse]; exact hV) h1 (by rw [fl_rev, List.sum_reverse]; exact hlt)
  rw [fl_rev, List.sum_reverse] at hkR1
  have e2 : R2 = R := by omega
  have e1 : R1 = R := by omega
  have s2 : srt2 = srt := PySem.W.ksm_same (hpm2.trans hpm.symm) hsr2 hsr
  have s1 : srt1 = srt := PySem.W.ksm_same (by rw [rm_rev] at hpm1; exact hpm1.trans ((List.reverse_perm _).trans hpm.symm)) hsr1 hsr
  have c2 : cut2 = cut := by rw [hcut2, hcut, s2, e2]
  have c1 : cut1 = cut := by rw [hcut1, hcut, s1, e1, List.length_reverse]
  rw [c2, e2] at hi2
  rw [c1, e1, rm_rev, fl_rev] at hi1
  have hlt2 : R < cnt cut (rm k ns) ns.length := by simpa using ht.symm
  obtain ⟨i, hil, him, hic⟩ := last_cnt (cut := cut) (ms := rm k ns) ns.length (by rw [rm_length]; omega) (by omega)
  have g2 := hi2 i hil
  rw [if_neg (fun z => by have := z.2; omega)] at g2
  have hz := cnt_rev (cut := cut) (ms := rm k ns) (i := i) (by rw [rm_length]; exact hil) him (by rw [rm_length]; exact hic)
  have g1 := hi1 (ns.length - 1 - i) (by rw [List.length_reverse]; omega)
  have q1 := rev_get (a := rm k ns) (i := i) (by rw [rm_length]; exact hil)
  have q2 := rev_get (a := fl k ns) (i := i) (by rw [fl_length]; exact hil)
  rw [rm_length] at q1 hz
  rw [fl_length] at q2
  rw [q1, q2, hz, if_pos ⟨him, by omega⟩] at g1
  have l1 := lr_len h1
  rw [List.length_reverse] at l1
  have q3 := rev_get (a := rs1) (i := ns.length - 1 - i) (by omega)
  have e3 : rs1.length - 1 - (ns.length - 1 - i) = i := by omega
  rw [e3, he, g1, g2] at q3
  omega
end Mine
end
section
namespace Mine
theorem fdiv_mono {a b V : Int} (hV : 0 < V) (h : a ≤ b) : a.fdiv V ≤ b.fdiv V := by
  rw [Int.fdiv_eq_ediv_of_nonneg _ (Int.le_of_lt hV), Int.fdiv_eq_ediv_of_nonneg _ (Int.le_of_lt hV)]
  exact Int.ediv_le_ediv hV h
theorem fdiv_two {a V : Int} (hV : 0 < V) : a.fdiv V * V ≤ a ∧ a < a.fdiv V * V + V := by
  have h2 := fdiv_fmod a V
  have h3 := fmod_range (a := a) hV
  omega
theorem sum_le : ∀ {a b : List Int}, a.length = b.length → (∀ i, i < a.length → a.getD i 0 ≤ b.getD i 0) → a.sum ≤ b.sum
  | [], [], _, _ => Int.le_refl _
  | [], _ :: _, h, _ => by simp at h
  | _ :: _, [], h, _ => by simp at h
  | x :: a, y :: b, h, hi => by
    have h0 := hi 0 (by simp)
    have ih := sum_le (a := a) (b := b) (by simpa using h) (fun i hl => by
      have := hi (i + 1) (by simpa using hl)
      simpa using this)
    simp only [List.getD_cons_zero] at h0
    simp only [List.sum_cons]
    omega
theorem set_getD {a : List Int} {i j : Nat} {v : Int} (hi : i < a.length) : (a.set i v).getD j 0 = if i = j then v else a.getD j 0 := by
  by_cases h : i = j
  · subst h
    rw [if_pos rfl, List.getD_eq_getElem?_getD, List.getElem?_set_self hi, Option.getD_some]
  · rw [if_neg h, List.getD_eq_getElem?_getD, List.getElem?_set_ne h, ← List.getD_eq_getElem?_getD]
theorem chg_getD {q p mv : Int} {xs : List Int} {i : Nat} (h : i < xs.length) : (chg q p mv xs).getD i 0 = if (i : Int) = q then xs.getD i 0 - mv else if (i : Int) = p then xs.getD i 0 + mv else xs.getD i 0 := by
  rw [List.getD_eq_getElem?_getD, chg_get, List.getD_eq_getElem?_getD, List.getElem?_eq_getElem h]
  rfl
theorem mul_mono {a b k : Int} (h : a ≤ b) (hk : 0 ≤ k) : a * k ≤ b * k := Int.mul_le_mul_of_nonneg_right h hk
theorem law_more {xs td mo : List Int} {k d e : Int} (hx : ∀ v ∈ xs, 1 ≤ v)
    (hd0 : 0 ≤ d) (hd1 : d < xs.sum) (htd : td = xs.map fun v => (v * k + d).fdiv xs.sum)
    (he0 : 0 ≤ e) (he1 : e < xs.sum) (hmo : mo = xs.map fun v => (v * (k + 1) + e).fdiv xs.sum) :
    ∀ i : Nat, i < xs.length → -1 ≤ mo.getD i 0 - td.getD i 0 ∧ mo.getD i 0 - td.getD i 0 ≤ 2 := by
  intro i hi
  have hV : 0 < xs.sum := by omega
  have hm := getD_mem hi
  have h1 := hx _ hm
  have h2 := mem_le_sum (ns := xs) (fun v hv => by have := hx v hv; omega) _ hm
  rw [hmo, htd, map_get hi, map_get hi]
  generalize xs.getD i 0 = v at *
  generalize xs.sum = V at *
  have ht := fdiv_two (a := v * k + d) hV
  have hm2 := fdiv_two (a := v * (k + 1) + e) hV
  rw [Int.mul_add, Int.mul_one] at hm2 ⊢
  generalize (v * k + d).fdiv V = t at *
  generalize (v * k + v + e).fdiv V = u at *
  generalize v * k = a at *
  constructor
  · by_cases h : -1 ≤ u - t
    · exact h
    · have := mul_mono (a := u) (b := t - 2) (k := V) (by omega) (by omega)
      rw [Int.sub_mul] at this
      omega
  · by_cases h : u - t ≤ 2
    · exact h
    · have := mul_mono (a := t + 3) (b := u) (k := V) (by omega) (by omega)
      rw [Int.add_mul] at this
      omega
theorem law_move {xs td af : List Int} {k q p mv d e : Int} (hk : 1 ≤ k) (hq0 : 0 ≤ q) (hq1 : q < xs.length) (hp0 : 0 ≤ p) (hp1 : p < xs.length) (hpq : p ≠ q) (hm0 : 0 ≤ mv)
    (hd0 : 0 ≤ d) (hd1 : d < xs.sum) (htd : td = xs.map fun v => (v * k + d).fdiv xs.sum) (hts : td.sum = k)
    (he0 : 0 ≤ e) (he1 : e < (chg q p mv xs).sum) (haf : af = (chg q p mv xs).map fun v => (v * k + e).fdiv (chg q p mv xs).sum) (has : af.sum = k) :
    td.getD p.toNat 0 ≤ af.getD p.toNat 0 ∧ af.getD q.toNat 0 ≤ td.getD q.toNat 0 ∧ (mv = xs.getD q.toNat 0 → af.getD q.toNat 0 = 0 ∧ td.getD q.toNat 0 + td.getD p.toNat 0 - 1 ≤ af.getD p.toNat 0) := by
  rw [chg_sum hq0 hq1 hp0 hp1 hpq] at he1 haf
  have hV : 0 < xs.sum := by omega
  have htl : td.length = xs.length := by rw [htd, List.length_map]
  have hal : af.length = xs.length := by rw [haf, List.length_map, chg_length]
  have tg : ∀ i, i < xs.length → td.getD i 0 = (xs.getD i 0 * k + d).fdiv xs.sum := fun i hi => by rw [htd, map_get hi]
  have ag : ∀ i, i < xs.length → af.getD i 0 = ((if (i : Int) = q then xs.getD i 0 - mv else if (i : Int) = p then xs.getD i 0 + mv else xs.getD i 0) * k + e).fdiv xs.sum := fun i hi => by
    rw [haf, map_get (by rw [chg_length]; exact hi), chg_getD hi]
  clear htd haf
  obtain ⟨q, rfl⟩ := Int.eq_ofNat_of_zero_le hq0
  obtain ⟨p, rfl⟩ := Int.eq_ofNat_of_zero_le hp0
  simp only [Int.toNat_natCast]
  have hql : q < xs.length := by omega
  have hpl : p < xs.length := by omega
  have hne : p ≠ q := fun z => hpq (by rw [z])
  have tq := tg q hql
  have tp := tg p hpl
  have aq := ag q hql
  have ap := ag p hpl
  rw [if_pos rfl] at aq
  rw [if_neg hpq, if_pos rfl] at ap
  have mk : 0 ≤ mv * k := Int.mul_nonneg hm0 (by omega)
  have up : (xs.getD p 0 + mv) * k = xs.getD p 0 * k + mv * k := Int.add_mul ..
  have dn : (xs.getD q 0 - mv) * k = xs.getD q 0 * k - mv * k := Int.sub_mul ..
  have others : ∀ i, i < xs.length → i ≠ p → i ≠ q → af.getD i 0 = (xs.getD i 0 * k + e).fdiv xs.sum := fun i hi h1 h2 => by
    rw [ag i hi, if_neg (by omega), if_neg (by omega)]
  have c1 : td.getD p 0 ≤ af.getD p 0 := by
    by_cases hde : d ≤ e
    · rw [tp, ap]; exact fdiv_mono hV (by omega)
    · have := sum_le (a := af.set p (td.getD p 0)) (b := td) (by rw [List.length_set, hal, htl]) (fun i hi => by
        rw [List.length_set, hal] at hi
        rw [set_getD (by omega)]
        by_cases h1 : p = i
        · subst h1; rw [if_pos rfl]; exact Int.le_refl _
        · rw [if_neg h1]
          by_cases h2 : i = q
          · subst h2
            rw [aq, tq]; exact fdiv_mono hV (by omega)
          · rw [others i hi (Ne.symm h1) h2, tg i hi]; exact fdiv_mono hV (by omega))
      rw [sum_set (by omega)] at this
      omega
  have c2 : af.getD q 0 ≤ td.getD q 0 := by
    by_cases hde : e ≤ d
    · rw [tq, aq]; exact fdiv_mono hV (by omega)
    · have := sum_le (a := td.set q (af.getD q 0)) (b := af) (by rw [List.length_set, hal, htl]) (fun i hi => by
        rw [List.length_set, htl] at hi
        rw [set_getD (by omega)]
        by_cases h1 : q = i
        · subst h1; rw [if_pos rfl]; exact Int.le_refl _
        · rw [if_neg h1]
          by_cases h2 : i = p
          · subst h2
            rw [ap, tp]; exact fdiv_mono hV (by omega)
          · rw [others i hi h2 (Ne.symm h1), tg i hi]; exact fdiv_mono hV (by omega))
      rw [sum_set (by omega)] at this
      omega
  refine ⟨c1, c2, fun hmv => ?_⟩
  have z : af.getD q 0 = 0 := by
    rw [aq, ← hmv, Int.sub_self, Int.zero_mul, Int.zero_add, Int.fdiv_eq_ediv_of_nonneg _ (Int.le_of_lt hV)]
    exact Int.ediv_eq_zero_of_lt he0 he1
  refine ⟨z, ?_⟩
  by_cases hde : e < d
  · have := sum_le (a := (af.set p (td.getD p 0)).set q (td.getD q 0)) (b := td) (by rw [List.length_set, List.length_set, hal, htl]) (fun i hi => by
      rw [List.length_set, List.length_set, hal] at hi
      rw [set_getD (by rw [List.length_set]; omega), set_getD (by omega)]
      by_cases h1 : q = i
      · subst h1; rw [if_pos rfl]; exact Int.le_refl _
      · rw [if_neg h1]
        by_cases h2 : p = i
        · subst h2; rw [if_pos rfl]; exact Int.le_refl _
        · rw [if_neg h2, others i hi (Ne.symm h2) (Ne.symm h1), tg i hi]; exact fdiv_mono hV (by omega))
    rw [sum_set (by rw [List.length_set]; omega), sum_set (by omega), set_getD (by omega), if_neg hne] at this
    omega
  · have h1 := fdiv_two (a := xs.getD q 0 * k + d) hV
    have h2 := fdiv_two (a := xs.getD p 0 * k + d) hV
    have h3 := fdiv_two (a := (xs.getD p 0 + mv) * k + e) hV
    rw [← tq] at h1
    rw [← tp] at h2
    rw [← ap] at h3
    rw [up, hmv] at h3
    generalize td.getD q 0 = t1 at *
    generalize td.getD p 0 = t2 at *
    generalize af.getD p 0 = t3 at *
    by_cases h : t1 + t2 - 1 ≤ t3
    · exact h
    · have := mul_mono (a := t3) (b := t1 + t2 - 2) (k := xs.sum) (by omega) (by omega)
      rw [Int.sub_mul, Int.add_mul] at this
      omega
end Mine
end
section
open PySem PySem.W PyProof.Rows
namespace Mine
set_option maxRecDepth 100000 in
set_option maxHeartbeats 8000000 in
open_top hd for PySem.Challenge.rw_bg0015_01
end Mine
end
section
open PySem PySem.W PyProof.Rows PySem.Calls
namespace Mine
set_option maxRecDepth 100000 in
set_option maxHeartbeats 8000000 in
theorem law_post (si : List Int) : PySem.Challenge.rw_bg0015_01.row.claim.post [ofPy (PyData.list (List.map PyData.int si))] (WData.bool true) [ofPy (PyData.list (List.map PyData.int si))] = true := by
  w_on
  w_top on
  wrow_post
set_option maxRecDepth 100000 in
theorem law_calm (si : List Int) : ∀ cls, PySem.Challenge.rw_bg0015_01.row.claim.raises [ofPy (PyData.list (List.map PyData.int si))] cls = false := raisesW_false (by wrow_none_raised)
end Mine
end
section
open PySem PySem.W PyProof.Rows PySem.Calls
namespace Mine

/-- an entry of a ledger: a tuple of two ints -/
abbrev PairAt (nw : List (Addr × Obj)) (v : Value) (q : Int × Int) : Prop :=
  ∃ a t u c, v = .ref a ∧ (a, ({ cls := .type "tuple", data := .seq #[.int q.1 t, .int q.2 u] c } : Obj)) ∈ nw

inductive PairsAre (nw : List (Addr × Obj)) : List Value → List (Int × Int) → Prop
  | nil : PairsAre nw [] []
  | cons {v q vs qs} : PairAt nw v q → PairsAre nw vs qs → PairsAre nw (v :: vs) (q :: qs)

theorem PairsAre.mono {nw nw' : List (Addr × Obj)} (h : ∀ p ∈ nw, p ∈ nw') {vs qs} (x : PairsAre nw vs qs) : PairsAre nw' vs qs := by
  induction x with
  | nil => exact .nil
  | cons hp _ ih =>
    obtain ⟨a, t, u, c, e, hm⟩ := hp
    exact .cons ⟨a, t, u, c, e, h _ hm⟩ ih
theorem PairsAre.length {nw : List (Addr × Obj)} {vs qs} (x : PairsAre nw vs qs) : vs.length = qs.length := by
  induction x with
  | nil => rfl
  | cons _ _ ih => simp [ih]
theorem PairsAre.snoc {nw : List (Addr × Obj)} {vs qs v q} (x : PairsAre nw vs qs) (h : PairAt nw v q) : PairsAre nw (vs ++ [v]) (qs ++ [q]) := by
  induction x with
  | nil => exact .cons h .nil
  | cons hp _ ih => exact .cons hp ih
theorem PairsAre.at {nw : List (Addr × Obj)} {vs qs} (x : PairsAre nw vs qs) : ∀ {i : Nat} {v : Value}, vs[i]? = some v → ∃ q, qs[i]? = some q ∧ PairAt nw v q := by
  induction x with
  | nil => intro i v h; simp at h
  | cons hp _ ih =>
    intro i v h
    cases i with
    | zero => simp at h; subst h; exact ⟨_, by simp, hp⟩
    | succ i => simp at h; obtain ⟨q, h1, h2⟩ := ih h; exact ⟨q, by simpa using h1, h2⟩
theorem PairsAre.to {nw : List (Addr × Obj)} {vs qs} (x : PairsAre nw vs qs) {i : Nat} {q : Int × Int} (h : qs[i]? = some q) : ∃ v, vs[i]? = some v ∧ PairAt nw v q := by
  have hl := x.length
  have hi : i < vs.length := by
    rw [hl]
    exact (List.getElem?_eq_some_iff.mp h).1
  obtain ⟨q', h1, h2⟩ := x.at (List.getElem?_eq_getElem hi)
  rw [h] at h1
  cases h1
  exact ⟨_, List.getElem?_eq_getElem hi, h2⟩

section
variable {prog : Program} {w : World} {A : Around} {h₀ : Heap} {L : Addr} {m : Str → Option Value} {env : Env} {elt : PySem.Expr} {x : Str} {scope : Scope} {cl : List (Str × Addr)} {s : Shared} {S : List (Addr × Obj) → Prop} {P : Nat → Value → Prop} {Fin : List Value → List (Addr × Obj) → Prop} {news : List (Addr × Obj)}

/-- a comprehension by an invariant over what it has built and the ledger -/
theorem comp_ind {n : Nat} (R : Nat → List Value → List (Addr × Obj) → Prop)
    (start : R 0 [] news)
    (turn : ∀ i v I oI C oC D m₂ ys nw h tk (E' : Value → Shared → Prop), i < n → P i v → R i ys nw → LCg.NsObj oC m₂ → m₂ x = some v → Fr h₀ L h m → News h₀ L h ((I, oI) :: (C, oC) :: (D, LCg.lst ys) :: nw) → LCg.Off3 I C D nw → ((@Ne Nat I C) ∧ (@Ne Nat I D) ∧ (@Ne Nat C D)) →
      wpAny (model prog w) A (eval elt (compEnvC scope cl C env)) (LCg.CompEnd h₀ L m { s with heap := h, toks := tk } I oI C oC D (LCg.lst ys) S (fun y nw' => R (i + 1) (ys ++ [y]) nw')) E' { s with heap := h, toks := tk })
    (fin : ∀ ys nw, R n ys nw → Fin ys nw) : LCg.CompRest prog w A h₀ L m env elt x scope cl s S P Fin n 0 [] news := by
  have key : ∀ (j i : Nat) (ys : List Value) (nw : List (Addr × Obj)), i + j = n → R i ys nw → LCg.CompRest prog w A h₀ L m env elt x scope cl s S P Fin j i ys nw := by
    intro j
    induction j with
    | zero =>
      intro i ys nw hi hR
      have e : i = n := by omega
      subst e
      exact LCg.CompRest.zero (fin ys nw hR)
    | succ j ih =>
      intro i ys nw hi hR
      refine LCg.CompRest.succ ?_
      intro v I oI C oC D m₂ h tk E' hv hC hx F N off ne
      refine wpAny_mono (turn i v I oI C oC D m₂ ys nw h tk E' (by omega) hv hR hC hx F N off ne) (fun y s₂ hq => ?_) fun _ _ e => e
      obtain ⟨h', tk', nw', e, F', N', off', hS, hR'⟩ := hq
      exact ⟨h', tk', nw', e, F', N', off', hS, ih (i + 1) _ _ (by omega) hR'⟩
  exact key n 0 [] news (by omega) start
end
end Mine
namespace Mine
theorem allLt_mem {d : Addr} : ∀ {l : List (Addr × Obj)}, AllLt d l → ∀ p ∈ l, @LT.lt Nat _ p.1 d
  | [], _, _, h => nomatch h
  | _ :: _, x, p, h => by
    rcases List.mem_cons.mp h with rfl | h
    · exact x.1
    · exact allLt_mem x.2 p h
theorem off1_mem {d : Addr} : ∀ {l : List (Addr × Obj)}, LCg.Off1 d l → ∀ p ∈ l, @Ne Nat p.1 d
  | [], _, _, h => nomatch h
  | _ :: _, x, p, h => by
    rcases List.mem_cons.mp h with rfl | h
    · exact x.1
    · exact off1_mem x.2 p h
end Mine
namespace Mine
section
variable {h₀ h' : Heap} {L : Addr} {m' m₀ : Str → Option Value} {news' own : List (Addr × Obj)} {adr : List Addr} {s₁ : Shared} {tk : Nat} {σ : Type} {Led : σ → List (Addr × Obj)} {ps : σ → List (Str × Value)} {Facts : σ → Prop} {x : Str} {stored : List Str} {P : List Int → σ → Prop} {pre : List Int} {Q : Flow → Shared → Prop}
theorem turn_end (c : σ) (F : Fr h₀ L h' m') (N : News h₀ L h' news') (hF : Facts c) (hP : P pre c) (ha : (Led c).map (·.1) = adr) (hn : ∀ p ∈ Led c, p ∈ news') (ho : ∀ p ∈ own, p ∈ news')
    (hps : ∀ p ∈ ps c, m' p.1 = some p.2) (hm : ∀ z, z ≠ x → (∀ p ∈ ps c, z ≠ p.1) → stored.contains z = false → m' z = m₀ z) :
    InvPostN h₀ L (KstS Led ps Facts x stored m₀ P pre) own adr s₁ Q .next { s₁ with heap := h', toks := tk } :=
  InvEndN.intro F N ⟨c, rfl, hF, hps, hm, hP⟩ ha hn ho
end
end Mine
end
section
open PySem PySem.W PyProof.Rows PySem.Calls
namespace Mine

section
variable {prog : Program} {w : World} {M : Model} {A : Around} {E : Value → Shared → Prop} {s s' : Shared} {base g h h₀ : Heap} {outer : List Env} {L a e C : Addr} {m mg mb : Str → Option Value} {env : Env} {news : List (Addr × Obj)} {K : Frag} {p : Program} {loose : List Str} {mean : ExcName → Option Value}
  {cn : Str} {cs : Scope} {ccd : Value} {cl : List (Str × Addr)} {x : Str} {bmB : List Value} {B newId initId : String} {np cpos pos : Pos} {arg : PySem.Expr}

/-- a class of the text's own is raised with one word, whatever the frame has captured -/
theorem raise_one {Q : Flow → Shared → Prop} (F : Fr h₀ L s.heap m) (X : K.In h₀) (T : TopRead p loose mg mb h₀) (ec : nsIn K mainGlobals x = some (some (.ref C))) (q : excIn K C bmB newId = true) (FB : ExcBaseFacts B newId initId bmB) (hh : A.handled = none)
    (h : wpAny (model prog w) A (eval arg (envX cn cs L a ccd cl)) (fun v s₂ => (∀ b o, h₀.get? b = some o → s₂.heap.get? b = some o) ∧ ∀ h' e, Heap.MadeExcOf s₂.heap h' e (.ref C) [v] → E (.ref e) { s₂ with heap := h' }) E s)
    (he : starEach [arg] (envX cn cs L a ccd cl) = [(false, eval arg (envX cn cs L a ccd cl))] := by rfl)
    (hk : cs.kind = .function := by rfl) (hx : (envX cn cs L a ccd cl).kindOf x = some .globalImplicit := by rfl) (hd : (x == ("__debug__" : Str)) = false := by decide) :
    wpAny (model prog w) A (exec (.Raise (some (.Call (.Name x np) [arg] [] cpos)) none pos) (envX cn cs L a ccd cl)) Q E s := by
  obtain ⟨tl, N, nm, qn, bs, hdct, sn, sub, ab, col, dd, k0, k1, k2, k3, k5, mN, hC, hN, hni, TL⟩ := (own_of_in X T ec q).obj
  refine wpAny_Raise_call_subT (C := C) (nm := nm) (q := qn) (N := N) (bs := bs) (bm := tl) (hdct := hdct) (sn := sn) (sub := sub) (ab := ab) (col := col) (dd := dd) (k0 := k0) (k1 := k1) (k2 := k2) (k3 := k3) (k5 := k5) FB (mN := mN) (TL.hasType FB.hasBase) hh (by rw [he]; rfl) hni (nameX_K F X T ec ⟨rfl, ?_⟩ hk hx hd)
  rw [he]
  refine Calls.evalArgs_plain (Calls.spliced_cons (wpAny_mono h (fun v s₂ h₂ => ?_) fun _ _ y => y))
  refine wpAny_pure ?_
  exact ⟨rfl, Nat.le_of_ble_eq_true rfl, h₂.1 _ _ hC, hN.keeps h₂.1, TL.keeps h₂.1, h₂.2⟩

/-- the frame is left by what was raised in it, whatever it has captured -/
theorem leave_made {Q : Unit → Shared → Prop} {cls : Value} {vs : List Value} (hf : env.frame = some L) (hke : env.scope.kind = .function) (K : Below A base outer g) (hx : Heap.MadeExcOf h s'.heap e cls vs) (F : Fr g L h m) (N : News g L h news)
    (hQ : ∀ h' t, RaisedS base g outer e cls t vs news h' → g.UpToSlots h' → Q () { s' with heap := h' }) :
    wpAny M (A.deeper env) (leaving env (.ref e)) Q E s' := by
  have K' := pushX K F hf hke
  have hfr : ∀ b, b ∈ (env :: outer).filterMap (·.frame) → b = L ∨ b ∈ outer.filterMap (·.frame) := fun b hb => by
    rw [List.filterMap_cons_some hf] at hb
    exact List.mem_cons.mp hb
  have nL : g.get? L = none := Heap.get?_none_of_le F.above
  have kept : ∀ {b o}, h.get? b = some o → b ∉ (env :: outer).filterMap (·.frame) → (hideAll h ((env :: outer).filterMap (·.frame))).get? b = some o := fun e n => hideAll_get _ e n
  have gone : ∀ b ∈ (env :: outer).filterMap (·.frame), base.get? b = none := fun b hb => (K'.frames.mem hb).1
  refine wpAny_leaves_madeW K'.stack hf (fun b o q => of_hideAll _ q) (funFrames_hide K'.frames fun en he b hb => List.mem_filterMap.mpr ⟨en, he, hb⟩) hx fun h' t flying tup fresh up => ?_
  refine hQ h' t ⟨⟨_, fun b o q => kept (K'.stays b o q) fun hb => ?_, fun b o q nb => kept (F.keep b o q) fun hb => ?_, fun q hq => ⟨kept (N q hq).1 fun hb => ?_, (N q hq).2.2, ?_⟩, flying, fresh⟩, tup⟩ ?_
  · have := gone b hb; rw [q] at this; cases this
  · rcases hfr b hb with rfl | z
    · rw [nL] at q; cases q
    · exact nb z
  · rcases hfr _ hb with z | z
    · exact (N q hq).2.1 z
    · obtain ⟨o, ho, _⟩ := (K.frames.mem z).2
      rw [(N q hq).2.2] at ho; cases ho
  · cases z : base.get? q.1 with
    | none => rfl
    | some o => have := K.stays _ _ z; rw [(N q hq).2.2] at this; cases this
  · exact ((Heap.UpToSlots.of_keeps F.keep).trans (Heap.UpToSlots.of_keeps hx.keeps)).trans up
end
end Mine
end
section
open PySem PySem.W PyProof.Rows
namespace Mine

local macro_rules | `(tactic| walk_at "my_dec") => `(tactic| ((try simp only [beq_iff_eq, bne_iff_ne, decide_eq_true_eq, ne_eq, Bool.not_eq_true, Bool.not_eq_true', decide_eq_false_iff_not, Bool.not_eq_false]); omega))
local macro_rules | `(tactic| walk_at "ite") => `(tactic| (k_here; first | (refine ite_pos (by walk_at "my_dec") ?_) | (refine ite_neg (by walk_at "my_dec") ?_)))

local macro_rules | `(tactic| k_mem) => `(tactic| kcf_m)
local macro_rules | `(tactic| walk_at "call builtin:sum") => `(tactic| (k_here; (with_unfolding_all refine' sumK ?k0 ?k1 ?k2 ?k3 ?k4 ?_; (case k0 => rfl); (case k1 => k_asm); (case k2 => k_asm); (case k3 => exact News.isList (by k_asm) (by k_mem)); (case k4 => assumption); k_whole); intro h' tk' t' F' N'; (try k_sweep)))
local macro_rules | `(tactic| k_all) => `(tactic| assumption)
local macro_rules | `(tactic| walk_at "binaryOp FloorDiv int int") => `(tactic| (k_here; (refine floordiv_int (by assumption) ?_ (Or.inr (PySem.PylongRoom.of (PySem.Heap.NoLimit.keeps (PyProof.Rows.Top.nolimit (by assumption)) (PyProof.Rows.Fr.keep (by assumption))) (by (simp only [depth_deeper] at *; dsimp only [ktrTop] at *; omega)))))))
local macro_rules | `(tactic| walk_at "call builtin:len") => `(tactic| (k_here; (with_unfolding_all refine' len_ints_fit ?k1 ?k2 ?k3 ?_; (case k1 => exact News.isList (by k_asm) (by k_mem)); (case k2 => assumption); (case k3 => omega); k_whole)))
local macro_rules | `(tactic| walk_at "subscriptTail Name Name ref int") => `(tactic| (k_here; (with_unfolding_all refine' item_list (News.isList (by k_asm) (by k_mem)) ?k0 ?k1 ?k2 ?_; (case k0 => omega); (case k1 => omega); (case k2 => assumption); k_whole)))
local macro_rules | `(tactic| walk_at "call builtin:sorted") => `(tactic| (k_here; (with_unfolding_all refine' kso_sorted ?k1 ?k2 ?k3 ?k4 ?k5 ?_; (case k1 => k_asm); (case k2 => k_asm); (case k3 => exact News.isList (by k_asm) (by k_mem)); (case k4 => assumption); (case k5 => (simp only [List.length_map]; omega)); k_whole); intro D' v' n' c' h' F' N' l1 i' e' p' o' b'; (try k_sweep)))
local macro_rules | `(tactic| walk_at "turn n") => `(tactic| (dsimp only; kcf_all))
local macro_rules | `(tactic| walk_at "turn o") => `(tactic| (intro p hp; kcf_m))
local macro_rules | `(tactic| walk_at "turn p") => `(tactic| (intro p hp; rw [List.mem_singleton.mp hp]; rfl))
local macro_rules | `(tactic| walk_at "turn m") => `(tactic| (intro z h1 h2 h3; have h2 := h2 _ List.mem_cons_self; have h4 : z ≠ Str.ofString "reps_sum" := (fun e => by rw [e] at h3; exact absurd h3 (by decide)); dsimp only at h2; simp only [kstB, h1, h2, h3, h4, if_false, Bool.false_eq_true]))
abbrev LrClaim (prog : Program) (w : World) (K : Frag) (p : Program) (loose : List Str) (mean : ExcName → Option Value) (mg mb : Str → Option Value) (f : Addr) : Prop :=
  ∀ (news : List (Addr × Obj)) (dp un : Nat) (gd : Option (List Code)) (cn : Str) (cs : Scope) (a : Addr) (ccd : Value) (cl : List (Str × Addr)) (outer : List Env) (A₀ : Around) (base h₀ : Heap) (L : Addr) (m : Str → Option Value) (s : Shared) (l : Addr) (vs : List Value) (nn : Nat) (ns : List Int) (k : Int) (t : Tok) (b : Bool) (args : List Value) (Q E : Value → Shared → Prop),
    args = [.ref l, .int k t, .bool b] ∨ (args = [.ref l, .int k t] ∧ b = true) → Below A₀ base outer h₀ → Fr h₀ L s.heap m → K.In h₀ → News h₀ L s.heap news → Top p loose mean mg mb h₀ → cs.kind = .function →
    (l, PySem.W.listOf vs.toArray nn) ∈ news → IntsAre vs ns → 2 ≤ ns.length → ns.length ≤ 5 → 1 ≤ k → k ≤ 9 → (∀ v ∈ ns, 0 ≤ v) → 0 < ns.sum →
    dp + 20 + Builtin.pylongFrames < recursionLimit → un + 8 < cLine →
    (∀ D h' tk' ys nn' rs tie, Fr h₀ L h' m → News h₀ L h' ((D, PySem.W.listOf ys.toArray nn') :: news) → (∀ p ∈ news, @Ne Nat p.1 D) → IntsAre ys rs → LrOut ns k rs tie → (b = true ∨ tie = false) → Q (.ref D) { s with heap := h', toks := tk' }) →
    (∀ G e tt tk' h' ws rs, b = false → Fr h₀ L G m → RaisedS base G (envX cn cs L a ccd cl :: outer) e (.ref 24) tt ws news h' → G.UpToSlots h' → LrOut ns k rs true → E (.ref e) { s with heap := h', toks := tk' }) →
    wpAny (model prog w) (ktrTop dp un gd cn cs L a ccd cl outer) (call (.ref f) args) Q E s

set_option rowWalk.seconds 0 in
set_option maxRecDepth 100000 in
set_option maxHeartbeats 8000000 in
theorem lr_tells (w : World) (loose : List Str) (mean : ExcName → Option Value) (mg mb : Str → Option Value) : LrClaim PySem.Challenge.rw_bg0015_01.row.prog w (hd.heap_39 w.params) hd.view_39 loose mean mg mb 33 := by
  w_on
  w_top on
  k_fill
  dsimp only [LrClaim]
  intro news dp un gd cn cs a ccd cl outer A₀ base h₀ L m s l vs nn ns k t b args Q E hargs B F X N T hk hl hi hn2 hn5 hk1 hk9 hpos hsum hd hu hret hraise
  have hd1 : dp + 1 < recursionLimit := by omega
  refine wpAny_call ?_
  w_strict (k_dflt (refine' code_defC (binds := [(Str.ofString "votes", .ref l), (Str.ofString "seats", .int k t), (Str.ofString "tiesallowed", .bool b)]) ?k1 ?k2 ?k3 ?k4 ?k5 ?kA ?kF ?kK ?k6 ?k7 ?k8 ?k9 ?kB ?kD ?_ ?c2 ?c3 ?c4; (case kA => exact rfl); (case kF => exact rfl); (case kK => assumption); (case k1 => k_asm); (case k2 => k_asm); (case k3 => k_asm); (case k4 => k_asm); (case k5 => k_asm); (case k6 => k_is); (case k7 => k_is); (case k8 => ktr_room); (case k9 => (rcases hargs with rfl | ⟨rfl, rfl⟩ <;> exact binds_K (by k_in) rfl (by k_is) rfl rfl rfl)); (case kB => exact rfl); (case kD => decide +kernel); (case c2 => exact rfl); (case c3 => exact rfl); (case c4 => exact rfl); k_whole))
  intro g L' h' tk' cells FG F' N' Y' B' X' T' l1
  obtain ⟨o4, o3, o2, o1, rfl, d4, d3, d2, d1⟩ := CellsAre.four Y'
  clear Y'
  simp only [List.cons_append, List.nil_append] at N'
  dsimp only
  replace d1 : o1.data = .cell (some (.ref l)) := d1
  replace d2 : o2.data = .cell (some (.int k t)) := d2
  replace d3 : o3.data = .cell none := d3
  replace d4 : o4.data = .cell none := d4
  replace F' : Fr g L' h' (fun y => if y = Str.ofString "tiesallowed" then some (.bool b) else none) := F'
  k_unmd
  w_strict k_fold
  w_strict (((iterate 11 (first | (k_unfold; (try dsimp only)) | (k_end; wrow_close) | walk1 | (dsimp only; walk1) | (leave1; (try dsimp only))))))
  w_strict (walk1)
  w_strict (k_dflt (refine LCg.ListComp_U (F₀ := F') (by with_unfolding_all rfl) (by decide) (by rfl) (by decide) (by rfl) ?_))
  w_strict (((iterate 1 (first | (k_unfold; (try dsimp only)) | (k_end; wrow_close) | walk1 | (dsimp only; walk1) | (leave1; (try dsimp only))))))
  have hvl : vs.length = ns.length := hi.length
  have hsz : vs.toArray.size ≤ sizeLine := by rw [List.size_toArray, sizeLine_eq]; omega
  refine LCg.CompSrc.ledger (by rfl) F' N' (List.mem_cons_of_mem _ (List.mem_cons_of_mem _ (List.mem_cons_of_mem _ (List.mem_cons_of_mem _ hl)))) hsz ?_
  intro g1
  dsimp only
  refine comp_ind (fun i ys nw => ∃ tups, nw = tups ++ ((L' + 1 + 1 + 1 + 1, o4) :: (L' + 1 + 1 + 1, o3) :: (L' + 1 + 1, o2) :: (L' + 1, o1) :: news) ∧ (∀ p ∈ tups, @LT.lt Nat _ (L' + 1 + 1 + 1 + 1) p.1) ∧ PairsAre tups ys ((ns.take i).map fun v => (v * k, ns.sum))) ?start ?turn ?fin
  case start => exact ⟨[], rfl, (by intro p hp; cases hp), .nil⟩
  case turn =>
    rintro i v I oI C oC D m₂ ys nw h1 tk1 E1 hi1 hv ⟨tups, rfl, hab, hR⟩ hC hx F1 N1 off ne
    obtain ⟨n1, t1, rfl, hn1⟩ := IntsAre.at hi i v (by simpa using hv)
    w_strict (((iterate 28 (first | (k_unfold; (try dsimp only)) | (k_end; wrow_close) | walk1 | (dsimp only; walk1) | (leave1; (try dsimp only))))))
    rename_i Dt _ _ _ lt
    refine LCg.CompEnd.intro (by assumption) (by assumption) ((Dt, _) :: (tups ++ ((L' + 1 + 1 + 1 + 1, o4) :: (L' + 1 + 1 + 1, o3) :: (L' + 1 + 1, o2) :: (L' + 1, o1) :: news))) (by kcf_all) ?_ ?_ ?_
    · exact ⟨⟨Nat.ne_of_gt lt.1, Nat.ne_of_gt lt.2.1, Nat.ne_of_gt lt.2.2.1⟩, off⟩
    · exact Or.inr ⟨_, by kcf_m, rfl, nn, rfl⟩
    · refine ⟨(Dt, _) :: tups, rfl, ?_, ?_⟩
      · refine List.forall_mem_cons.mpr ⟨allLt_mem lt.2.2.2 (L' + 1 + 1 + 1 + 1, o4) (by kcf_m), hab⟩
      · rw [List.take_add_one, hn1]
        simp only [Option.toList_some, List.map_append, List.map_cons, List.map_nil]
        exact (hR.mono fun p hp => List.mem_cons_of_mem _ hp).snoc ⟨Dt, _, _, _, rfl, List.mem_cons_self⟩
  case fin =>
    rintro ys nw ⟨tups, rfl, hab, hR⟩
    unfold LCg.FinE
    intro D h1 tk1 F1 N1 o1'
    have hD := off1_mem o1'
    clear o1'
    have hD1 : @Ne Nat D (L' + 1) := (hD (L' + 1, o1) (by kcf_m)).symm
    have hD2 : @Ne Nat D (L' + 1 + 1) := (hD (L' + 1 + 1, o2) (by kcf_m)).symm
    have hD3 : @Ne Nat D (L' + 1 + 1 + 1) := (hD (L' + 1 + 1 + 1, o3) (by kcf_m)).symm
    have hD4 : @Ne Nat D (L' + 1 + 1 + 1 + 1) := (hD (L' + 1 + 1 + 1 + 1, o4) (by kcf_m)).symm
    have hDt : ∀ p ∈ tups ++ news, @Ne Nat p.1 D := fun p hp => hD p (by rcases List.mem_append.mp hp with h | h <;> kcf_m)
    clear hD
    have hn3 : ∀ p ∈ tups ++ news, @Ne Nat p.1 (L' + 1 + 1 + 1) := fun p hp => by
      rcases List.mem_append.mp hp with h | h
      · have := hab p h; omega
      · have : @LT.lt Nat _ p.1 L' := l1 p h; omega
    have hn4 : ∀ p ∈ tups ++ news, @Ne Nat p.1 (L' + 1 + 1 + 1 + 1) := fun p hp => by
      rcases List.mem_append.mp hp with h | h
      · have := hab p h; omega
      · have : @LT.lt Nat _ p.1 L' := l1 p h; omega
    replace N1 := cb_drop (news := (D, LCg.lst ys) :: (L' + 1 + 1 + 1 + 1, o4) :: (L' + 1 + 1 + 1, o3) :: (L' + 1 + 1, o2) :: (L' + 1, o1) :: (tups ++ news)) N1 (by kcf_all)
    rw [List.size_toArray, hvl, List.take_length] at hR
    clear F' N'
    dsimp only
    w_strict (((iterate 4 (first | (k_unfold; (try dsimp only)) | (k_end; wrow_close) | walk1 | (dsimp only; walk1) | (leave1; (try dsimp only))))))
    rename_i h2 o3' F2 N2 d3'
    clear d3
    w_strict (k_dflt (refine LCg.ListComp_U (F₀ := F2) (by with_unfolding_all rfl) (by decide) (by rfl) (by decide) (by rfl) ?_))
    w_strict (((iterate 1 (first | (k_unfold; (try dsimp only)) | (k_end; wrow_close) | walk1 | (dsimp only; walk1) | (leave1; (try dsimp only))))))
    have hyl : ys.length = ns.length := by rw [hR.length, List.length_map]
    have hsz2 : ys.toArray.size ≤ sizeLine := by rw [List.size_toArray, sizeLine_eq]; omega
    refine LCg.CompSrc.ledger (by rfl) F2 N2 List.mem_cons_self hsz2 ?_
    intro g2
    dsimp only
    refine comp_ind (fun i zs nw => nw = ((D, LCg.lst ys) :: (L' + 1 + 1 + 1 + 1, o4) :: (L' + 1 + 1 + 1, o3') :: (L' + 1 + 1, o2) :: (L' + 1, o1) :: (tups ++ news)) ∧ IntsAre zs ((ns.take i).map fun v => (v * k).fdiv ns.sum)) ?start2 ?turn2 ?fin2
    case start2 => exact ⟨rfl, .nil⟩
    case turn2 =>
      rintro i v I oI C oC D2 m₂ zs nw h3 tk3 E3 hi1 hv ⟨rfl, hz⟩ hC hx F3 N3 off ne
      obtain ⟨q, hq, a1, t1, t2, c1, rfl, ha1⟩ := hR.at (i := i) (v := v) (by simpa using hv)
      simp only [List.getElem?_map, Option.map_eq_some_iff] at hq
      obtain ⟨n1, hn1, rfl⟩ := hq
      dsimp only at ha1
      have hV : ns.sum ≠ 0 := by omega
      w_strict (((iterate 10 (first | (k_unfold; (try dsimp only)) | (k_end; wrow_close) | walk1 | (dsimp only; walk1) | (leave1; (try dsimp only))))))
      refine LCg.CompEnd.intro (by assumption) (by assumption) ((D, LCg.lst ys) :: (L' + 1 + 1 + 1 + 1, o4) :: (L' + 1 + 1 + 1, o3') :: (L' + 1 + 1, o2) :: (L' + 1, o1) :: (tups ++ news)) (by kcf_all) ?_ ?_ ?_
      · exact off
      · exact Or.inr ⟨_, List.mem_cons_self, rfl, _, rfl⟩
      refine ⟨rfl, ?_⟩
      rw [List.take_add_one, hn1]
      simp only [Option.toList_some, List.map_append, List.map_cons, List.map_nil]
      exact IntsAre.append hz (.cons _ _ .nil)
    case fin2 =>
      rintro zs nw ⟨rfl, hz⟩
      unfold LCg.FinE
      intro D2 h3 tk3 F3 N3 o1'
      have hE := off1_mem o1'
      clear o1'
      have hE1 : @Ne Nat D2 (L' + 1) := (hE (L' + 1, o1) (by kcf_m)).symm
      have hE2 : @Ne Nat D2 (L' + 1 + 1) := (hE (L' + 1 + 1, o2) (by kcf_m)).symm
      have hE3 : @Ne Nat D2 (L' + 1 + 1 + 1) := (hE (L' + 1 + 1 + 1, o3') (by kcf_m)).symm
      have hE4 : @Ne Nat D2 (L' + 1 + 1 + 1 + 1) := (hE (L' + 1 + 1 + 1 + 1, o4) (by kcf_m)).symm
      have hED : @Ne Nat D2 D := (hE (D, LCg.lst ys) (by kcf_m)).symm
      have hEt : ∀ p ∈ tups ++ news, @Ne Nat p.1 D2 := fun p hp => hE p (by rcases List.mem_append.mp hp with h | h <;> kcf_m)
      clear hE F2 N2
      rw [List.size_toArray, hyl, List.take_length] at hz
      dsimp only
      w_strict (((iterate 17 (first | (k_unfold; (try dsimp only)) | (k_end; wrow_close) | walk1 | (dsimp only; walk1) | (leave1; (try dsimp only))))))
      rename_i o4' d4' _ h4 tk4 t4' F4 N4
      clear d4
      dsimp only
      by_cases hlt : (List.map (fun v => (v * k).fdiv ns.sum) ns).sum < k
      · w_strict (((iterate 4 (first | (k_unfold; (try dsimp only)) | (k_end; wrow_close) | walk1 | (dsimp only; walk1) | (leave1; (try dsimp only))))))
        w_strict (k_dflt (refine LCg.Assign_ListComp_U (F₀ := F4) (by rfl) (by with_unfolding_all rfl) (by with_unfolding_all rfl) (by decide) (by rfl) (by decide) (by rfl) (by rfl) (by rfl) ?_))
        w_strict (((iterate 13 (first | (k_unfold; (try dsimp only)) | (k_end; wrow_close) | walk1 | (dsimp only; walk1) | (leave1; (try dsimp only))))))
        rename_i h5 tk5 _ _ _ R5 F5 N5 K5
        (try clear F4); (try clear N4)
        dsimp only at R5 K5 ⊢
        have hz : IntsAre zs (List.map (fun v => (v * k).fdiv ns.sum) ns) := by assumption
        have hi : IntsAre vs ns := by assumption
        have hzl : zs.length = ns.length := by rw [hz.length, List.length_map]
        refine LCg.CompSrc.range (n := ns.length) (by rfl) F5 N5 R5 (small_one (by omega) (by omega) (by omega) (by omega)) (by rw [rangeSize_nat]; omega) (by rw [sizeLine_eq]; omega) ?_
        intro g3
        dsimp only
        refine comp_ind (fun i ws nw => nw = ((D2, LCg.lst zs) :: (D, LCg.lst ys) :: (L' + 1 + 1 + 1 + 1, o4') :: (L' + 1 + 1 + 1, o3') :: (L' + 1 + 1, o2) :: (L' + 1, o1) :: (tups ++ news)) ∧ IntsAre ws ((ns.take i).map fun v => (v * k).fmod ns.sum)) ?start3 ?turn3 ?fin3
        case start3 => exact ⟨rfl, .nil⟩
        case turn3 =>
          rintro i v I oI C oC D3 m₂ ws nw h6 tk6 E6 hi1 ⟨t6, rfl⟩ ⟨rfl, hw⟩ hC hx F6 N6 off ne
          have hn1 : ns[i]? = some ns[i] := List.getElem?_eq_getElem hi1
          obtain ⟨v1, hv1, a1, t1, t2, c1, rfl, ha1⟩ := hR.to (i := i) (q := (ns[i] * k, ns.sum)) (by simp [hn1])
          dsimp only at ha1
          obtain ⟨t7, ht7⟩ := hz.get i ((ns[i] * k).fdiv ns.sum) (by simp [hn1])
          have hj : (0 + (i : Int)).toNat = i := by omega
          have hv2 : ys.toArray[(0 + (i : Int)).toNat]? = some (.ref a1) := by rw [hj]; simpa using hv1
          have hv3 : zs.toArray[(0 + (i : Int)).toNat]? = some (.int ((ns[i] * k).fdiv ns.sum) t7) := by rw [hj]; simpa using ht7
          (try clear F5); (try clear N5)
          have hm := hpos ns[i] (List.getElem_mem hi1)
          have hm2 := fdiv_range hm (mem_le_sum hpos _ (List.getElem_mem hi1)) hsum (k := k) (by omega)
          have hmul : IntMulOk ((ns[i] * k).fdiv ns.sum) ns.sum := IntMulOk.of_left (intBits_le_iff.mpr (by omega))
          w_strict (((iterate 20 (first | (k_unfold; (try dsimp only)) | (k_end; wrow_close) | walk1 | (dsimp only; walk1) | (leave1; (try dsimp only))))))
          refine mul_int ?_ hmul
          w_strict (((iterate 1 (first | (k_unfold; (try dsimp only)) | (k_end; wrow_close) | walk1 | (dsimp only; walk1) | (leave1; (try dsimp only))))))
          refine LCg.CompEnd.intro (by assumption) (by assumption) ((D2, LCg.lst zs) :: (D, LCg.lst ys) :: (L' + 1 + 1 + 1 + 1, o4') :: (L' + 1 + 1 + 1, o3') :: (L' + 1 + 1, o2) :: (L' + 1, o1) :: (tups ++ news)) (by kcf_all) ?_ ?_ ?_
          · exact off
          · trivial
          · refine ⟨rfl, ?_⟩
            rw [List.take_add_one, hn1]
            simp only [Option.toList_some, List.map_append, List.map_cons, List.map_nil, ← fmod_sub (ns[i] * k) ns.sum]
            exact IntsAre.append hw (.cons _ _ .nil)
        case fin3 =>
          rintro ws nw ⟨rfl, hw⟩
          unfold LCg.FinA
          intro D3 h6 tk6 F6 N6 o1'
          have hG := off1_mem o1'
          clear o1'
          have hG4 : @Ne Nat D3 (L' + 1 + 1 + 1 + 1) := (hG (L' + 1 + 1 + 1 + 1, o4') (by kcf_m)).symm
          have hGD : @Ne Nat D3 D := (hG (D, LCg.lst ys) (by kcf_m)).symm
          have hGD2 : @Ne Nat D3 D2 := (hG (D2, LCg.lst zs) (by kcf_m)).symm
          have hGt : ∀ p ∈ tups ++ news, @Ne Nat p.1 D3 := fun p hp => hG p (by rcases List.mem_append.mp hp with h | h <;> kcf_m)
          clear hG F5 N5 R5 K5
          rw [List.take_length] at hw
          dsimp only
          w_strict (((iterate 9 (first | (k_unfold; (try dsimp only)) | (k_end; wrow_close) | walk1 | (dsimp only; walk1) | (leave1; (try dsimp only))))))
          w_strict (((iterate 11 (first | (k_unfold; (try dsimp only)) | (k_end; wrow_close) | walk1 | (dsimp only; walk1) | (leave1; (try dsimp only))))))
          rename_i D' v' n' c' h7a l1' i' e' p' o' b' h7 tk7 t7' F7 N7
          clear b' l1'
          have hlen : n'.length = ns.length := by rw [e', List.length_map]
          have hrest := rest_lt (k := k) hsum (by omega)
          unfold fl at hrest
          refine item_list_ints_negR (News.isList N7 List.mem_cons_self) i' (by omega) (by omega) (by omega) ?_
          intro t8
          generalize hcut : n'.getD ((List.map (fun v => (v * k).fdiv ns.sum) ns).sum - k + (n'.length : Int)).toNat 0 = cut
          dsimp only
          w_strict (((iterate 17 (first | (k_unfold; (try dsimp only)) | (k_end; wrow_close) | walk1 | (dsimp only; walk1) | (leave1; (try dsimp only))))))
          rename_i h8 tk8 _ _ _ R8 F8 N8 K8
          dsimp only at R8 K8 ⊢
          have hz : IntsAre zs (List.map (fun v => (v * k).fdiv ns.sum) ns) := by assumption
          have hw : IntsAre ws (List.map (fun v => (v * k).fmod ns.sum) ns) := by assumption
          refine kst_range (σ := List Value × List Int × Bool) (n := ns.length) (fun c => (D3, LCg.lst ws) :: (D2, ({ cls := .type "list", data := .seq c.1.toArray zs.length } : Obj)) :: (D, LCg.lst ys) :: (L' + 1 + 1 + 1 + 1, o4') :: (L' + 1 + 1 + 1, o3') :: (L' + 1 + 1, o2) :: (L' + 1, o1) :: (tups ++ news))
            (fun c => [(Str.ofString "ties", Value.bool c.2.2)]) (fun c => IntsAre c.1 c.2.1 ∧ c.1.length = ns.length) [Str.ofString "reps_sum"]
            (fun pre c => (c.2.1, c.2.2) = lrLoop cut k (rm k ns) pre.length (fl k ns, false)) (zs, fl k ns, false) (by rfl) R8 (small_one (by omega) (by omega) (by omega) (by omega)) (by rw [rangeSize_nat]; omega) F8 (cb_drop N8 (by kcf_all)) ⟨hz, hzl⟩ ?hk ?hp ?lturn ?ldone
          case hk =>
            intro p hp
            rw [List.mem_singleton.mp hp]
            rfl
          case hp => rfl
          case lturn =>
            rintro ⟨vr, ir, tie⟩ pre kk t9 u h9 tk9 own hkk hlt9 hoff ⟨hir, hvr⟩ hP F9 N9
            dsimp only at hir hvr hP hoff
            simp only [List.cons_append] at N9
            have F9 : Fr g L' h9 _ := F9
            have N9 : News g L' h9 _ := N9
            have hj : kk.toNat = pre.length := by omega
            have hn1 : ns[pre.length]? = some ns[pre.length] := List.getElem?_eq_getElem hlt9
            obtain ⟨mI, hmI⟩ : ∃ x, x = (ns[pre.length] * k).fmod ns.sum := ⟨_, rfl⟩
            obtain ⟨tm, htm⟩ := hw.get pre.length mI (by simp [hn1, hmI])
            have hv2 : ws.toArray[kk.toNat]? = some (.int mI tm) := by rw [hj]; simpa using htm
            have hil : ir.length = ns.length := by rw [← hvr, hir.length]
            obtain ⟨tr, htr⟩ := hir.get pre.length ir[pre.length] (by simp [hil, hlt9])
            have hv3 : vr.toArray[kk.toNat]? = some (.int ir[pre.length] tr) := by rw [hj]; simpa using htr
            have hall : ∀ p ∈ (tups ++ news) ++ own, @Ne Nat p.1 D2 := fun p hp => by
              rcases List.mem_append.mp hp with h | h
              · exact hEt p h
              · exact hoff p h D2 (by simp)
            have hmg : (rm k ns).getD pre.length 0 = mI := by unfold rm; simp [hn1, hmI]
            have hlen1 : (pre ++ [kk]).length = pre.length + 1 := by simp
            have hgd : ir.getD kk.toNat 0 = ir[pre.length] := by rw [hj]; simp [hil, hlt9]
            by_cases hS : ir.sum = k
            · by_cases hc : cut ≤ mI
              · cases tie
                · w_strict (((iterate 47 (first | (k_unfold; (try dsimp only)) | (k_end; wrow_close) | walk1 | (dsimp only; walk1) | (leave1; (try dsimp only))))))
                  (try dsimp only)
                  exact turn_end (vr, ir, true) (by assumption) (by assumption) ⟨hir, hvr⟩ (by dsimp only; rw [hlen1]; exact step_tie hP hmg hS hc) rfl (by walk_at "turn n") (by walk_at "turn o") (by walk_at "turn p") (by walk_at "turn m")
                · w_strict (((iterate 43 (first | (k_unfold; (try dsimp only)) | (k_end; wrow_close) | walk1 | (dsimp only; walk1) | (leave1; (try dsimp only))))))
                  (try dsimp only)
                  exact turn_end (vr, ir, true) (by assumption) (by assumption) ⟨hir, hvr⟩ (by dsimp only; rw [hlen1]; exact step_tie hP hmg hS hc) rfl (by walk_at "turn n") (by walk_at "turn o") (by walk_at "turn p") (by walk_at "turn m")
              · w_strict (((iterate 55 (first | (k_unfold; (try dsimp only)) | (k_end; wrow_close) | walk1 | (dsimp only; walk1) | (leave1; (try dsimp only))))))
                (try dsimp only)
                exact turn_end (vr, ir, tie) (by assumption) (by assumption) ⟨hir, hvr⟩ (by dsimp only; rw [hlen1]; exact step_no hP hmg hc) rfl (by walk_at "turn n") (by walk_at "turn o") (by walk_at "turn p") (by walk_at "turn m")
            · by_cases hS2 : ir.sum < k
              · by_cases hc : cut < mI
                · w_strict (((iterate 53 (first | (k_unfold; (try dsimp only)) | (k_end; wrow_close) | walk1 | (dsimp only; walk1) | (leave1; (try dsimp only))))))
                  (try dsimp only)
                  refine turn_end (vr.set kk.toNat _, ir.set kk.toNat (ir.getD kk.toNat 0 + 1), tie) (by assumption) (by assumption) ⟨(by assumption), (by dsimp only; rw [List.length_set, hvr])⟩ (by dsimp only; rw [hlen1, hj]; exact step_up hP hmg hS2 (by omega)) rfl (by walk_at "turn n") (by walk_at "turn o") (by walk_at "turn p") (by walk_at "turn m")
                · by_cases hc2 : mI = cut
                  · w_strict (((iterate 74 (first | (k_unfold; (try dsimp only)) | (k_end; wrow_close) | walk1 | (dsimp only; walk1) | (leave1; (try dsimp only))))))
                    (try dsimp only)
                    refine turn_end (vr.set kk.toNat _, ir.set kk.toNat (ir.getD kk.toNat 0 + 1), tie) (by assumption) (by assumption) ⟨(by assumption), (by dsimp only; rw [List.length_set, hvr])⟩ (by dsimp only; rw [hlen1, hj]; exact step_up hP hmg hS2 (by omega)) rfl (by walk_at "turn n") (by walk_at "turn o") (by walk_at "turn p") (by walk_at "turn m")
                  · w_strict (((iterate 65 (first | (k_unfold; (try dsimp only)) | (k_end; wrow_close) | walk1 | (dsimp only; walk1) | (leave1; (try dsimp only))))))
                    (try dsimp only)
                    exact turn_end (vr, ir, tie) (by assumption) (by assumption) ⟨hir, hvr⟩ (by dsimp only; rw [hlen1]; exact step_no hP hmg (by omega)) rfl (by walk_at "turn n") (by walk_at "turn o") (by walk_at "turn p") (by walk_at "turn m")
              · w_strict (((iterate 45 (first | (k_unfold; (try dsimp only)) | (k_end; wrow_close) | walk1 | (dsimp only; walk1) | (leave1; (try dsimp only))))))
                (try dsimp only)
                exact turn_end (vr, ir, tie) (by assumption) (by assumption) ⟨hir, hvr⟩ (by dsimp only; rw [hlen1]; exact step_over hP (by omega)) rfl (by walk_at "turn n") (by walk_at "turn o") (by walk_at "turn p") (by walk_at "turn m")
          case ldone =>
            rintro ⟨vr, ir, tie⟩ u h9 tk9 ⟨hir, hvr⟩ hP F9 N9
            dsimp only at hir hvr hP
            have F9 : Fr g L' h9 _ := F9
            have N9 : News g L' h9 _ := N9
            rw [rangeKs_length] at hP
            have hout : LrOut ns k ir tie := .inr ⟨hlt, n', p', o', by rw [← hcut] at hP; exact hP⟩
            clear hw hcut F8 N8
            dsimp only
            w_strict (((iterate 2 (first | (k_unfold; (try dsimp only)) | (k_end; wrow_close) | walk1 | (dsimp only; walk1) | (leave1; (try dsimp only))))))
            have hD2n : ∀ p ∈ news, @Ne Nat p.1 D2 := fun p hp => hEt p (List.mem_append_right _ hp)
            cases tie
            · w_strict (((iterate 11 (first | (k_unfold; (try dsimp only)) | (k_end; wrow_close) | walk1 | (dsimp only; walk1) | (leave1; (try dsimp only))))))
              (try dsimp only)
              w_strict k_unfold
              exact leaveK_ F9 (cb_drop N9 (by kcf_all)) fun F N => hret D2 _ _ vr _ ir false F N hD2n hir hout (Or.inr rfl)
            · cases b
              · w_strict (((iterate 16 (first | (k_unfold; (try dsimp only)) | (k_end; wrow_close) | walk1 | (dsimp only; walk1) | (leave1; (try dsimp only))))))
                w_strict (k_dflt (refine raise_one F9 (by k_asm) (by k_asm) (by k_is) (by k_exc) PySem.F.excBase_Exception rfl ?_))
                refine Calls.Constant_str ⟨F9.keep, fun h10 e10 hx => ?_⟩
                dsimp only at hx ⊢
                w_strict k_unfold
                refine leave_made rfl rfl B' hx F9 (cb_drop (news := news) N9 (by kcf_all)) fun h11 t11 R11 U11 => ?_
                exact hraise g e10 t11 _ h11 _ ir rfl FG R11 U11 hout
              · w_strict (((iterate 18 (first | (k_unfold; (try dsimp only)) | (k_end; wrow_close) | walk1 | (dsimp only; walk1) | (leave1; (try dsimp only))))))
                (try dsimp only)
                w_strict k_unfold
                exact leaveK_ F9 (cb_drop N9 (by kcf_all)) fun F N => hret D2 _ _ vr _ ir true F N hD2n hir hout (Or.inl rfl)
      · w_strict (((iterate 5 (first | (k_unfold; (try dsimp only)) | (k_end; wrow_close) | walk1 | (dsimp only; walk1) | (leave1; (try dsimp only))))))
        w_strict (((iterate 11 (first | (k_unfold; (try dsimp only)) | (k_end; wrow_close) | walk1 | (dsimp only; walk1) | (leave1; (try dsimp only))))))
        (try dsimp only)
        w_strict k_unfold
        have hz : IntsAre zs (List.map (fun v => (v * k).fdiv ns.sum) ns) := by assumption
        exact leaveK_ F4 (cb_drop N4 (by kcf_all)) fun F N => hret D2 _ _ zs _ _ false F N (fun p hp => hEt p (List.mem_append_right _ hp)) hz (.inl ⟨hlt, rfl, rfl⟩) (Or.inr rfl)
end Mine
end
section
open PySem PySem.W PyProof.Rows PySem.Calls
namespace Mine

section
variable {prog : Program} {w : World} {A A₀ : Around} {s : Shared} {base h₀ : Heap} {L f : Addr} {m mg mb : Str → Option Value} {env : Env} {news : List (Addr × Obj)} {K : Frag} {p : Program} {loose : List Str} {mean : ExcName → Option Value}
  {R : Result → Shared → Prop} {name qual : Str} {params : Arguments} {body : List Stmt} {scope : Scope} {dV kV doc pm cdv ct oc : Value} {an od : Option Addr} {osl : Array (Option Value)} {args : Args} {binds : List (Str × Value)}

/-- a def with a try of its own, called from the top frame, whatever that frame has captured: an exception that it catches turns the top frame's marks alone -/
theorem enter_top (B : Below A₀ base [] h₀) (F : Fr h₀ L s.heap m) (X₀ : K.In h₀) (N : News h₀ L s.heap news) (T : Top p loose mean mg mb h₀) (hA : A.frames = some [env]) (hf : env.frame = some L) (hke : env.scope.kind = .function)
    (ho : K.lookup f = some ⟨oc, od, .func (fnOf name qual params body scope dV kV doc pm an cdv ct), osl⟩) (hcd : codeIn K cdv qual = true) (hroom : A.depth < recursionLimit)
    (hbind : BindsTo s (fnOf name qual params body scope dV kV doc pm an cdv ct) args binds) (hloc : ∀ y ∈ binds, scope.names.lookup y.1 = some .local)
    (h : ∀ g L' h₁, Fr h₀ L g m → Fr g L' h₁ (fun y => binds.reverse.lookup y) → News g L' h₁ news → Below A base [env] g → K.In g → Top p loose mean mg mb g → KtsDicts ([env].filterMap (·.frame)) g →
      wpAny (model prog w) (A.deeper (envOf qual scope L' f cdv)) (execs body (envOf qual scope L' f cdv))
        (fun fl s' => LeaveS0 ([env].filterMap (·.frame)) h₀ L m g R (match fl with | .ret v => v | _ => .none) s')
        (fun e s' => wpAny (model prog w) (A.deeper (envOf qual scope L' f cdv)) (leaving (envOf qual scope L' f cdv) e) (fun _ s'' => R (.error e) s'') (fun e' s'' => R (.error e') s'') s')
        { s with heap := h₁, toks := s.toks + binds.length })
    (hco : scope.isCoroutine = false) (hgen : scope.isGenerator = false) (hk : scope.kind = .function) (hcell : ∀ x ∈ scope.names, x.2 ≠ .cell) : codeAny (model prog w) A (.call (.ref f) args) R s := by
  obtain ⟨FG, BG, st, _⟩ := groundX (R := R) B F N hA hf hke
  have X := X₀.keeps F.keep
  have only : ∀ b, b ∈ [env].filterMap (·.frame) ↔ b = L := fun b => by
    rw [List.filterMap_cons_some hf]; simp
  obtain ⟨oL, es, ep, hLg, hLd, hLk, hLf⟩ := FG.ns
  refine codeAny_call_def (fd := fnOf name qual params body scope dV kV doc pm an cdv ct) (body := body) (binds := binds) hroom (X _ _ ho) rfl (T.nolimit.keeps F.keep) (codeRec_of X hcd) rfl hbind hcell hloc (fun h₁ hns hk₁ => ?_) hco hgen hk
  have F₁ : Fr (hideAll s.heap (news.map (·.1))) s.heap.objs.size h₁ (fun y => binds.reverse.lookup y) := ⟨hns, fun b o e => hk₁ b o (of_hideAll _ e), Nat.le_of_eq (hideAll_size _ _)⟩
  have N₁ : News (hideAll s.heap (news.map (·.1))) s.heap.objs.size h₁ news := fun q hq => ⟨hk₁ _ _ (N q hq).1, Nat.ne_of_lt (Heap.lt_size (N q hq).1), hideAll_none _ (List.mem_map_of_mem hq)⟩
  refine wpAny_mono (h _ _ h₁ FG F₁ N₁ BG (X₀.keeps st) (T.keeps st) fun b hb => ?_) (fun fl s' hl => ?_) fun _ _ y => y
  · rw [(only b).mp hb]
    exact ⟨oL, es, ep, hLg, hLd⟩
  · obtain ⟨g', L', m', news', T', F', N', k⟩ := hl
    have nL : h₀.get? L = none := Heap.get?_none_of_le F.above
    obtain ⟨sl, hs⟩ := T'.up hLg
    refine k ⟨⟨_, es, ep, F'.keep _ _ hs, hLd, hLk, hLf⟩, fun b o e => F'.keep b o (T'.other b o (st b o e) fun hb => ?_), F.above⟩ fun q hq => ⟨(N' q hq).1, fun z => ?_, ?_⟩
    · rw [(only b).mp hb, nL] at e; cases e
    · have := (N' q hq).2.2; rw [z, hs] at this; cases this
    · cases z : h₀.get? q.1 with
      | none => rfl
      | some o =>
        obtain ⟨sl', hs'⟩ := T'.up (st _ _ z)
        have := (N' q hq).2.2
        rw [hs'] at this
        cases this
end
end Mine
end
section
open PySem PySem.W PyProof.Rows PySem.Calls
namespace Mine

local macro_rules | `(tactic| walk_at "my_dec") => `(tactic| ((try simp only [beq_iff_eq, bne_iff_ne, decide_eq_true_eq, ne_eq, Bool.not_eq_true, Bool.not_eq_true', decide_eq_false_iff_not, Bool.not_eq_false]); omega))
local macro_rules | `(tactic| walk_at "ite") => `(tactic| (k_here; first | (refine ite_pos (by walk_at "my_dec") ?_) | (refine ite_neg (by walk_at "my_dec") ?_)))
local macro_rules | `(tactic| k_mem) => `(tactic| kcf_m)

local macro_rules | `(tactic| walk_at "subscriptTail Name Slice ref ref") => `(tactic| (k_here; (with_reducible show wpAny _ _ (subscriptTail _ (PySem.Expr.Slice none none none _) (Value.ref _) (Value.ref _)) _ _ _); k_dflt (refine' kmk_slice_ints (lo := none) (hi := none) ?F ?N ?l ?p ?q ?i ?m ?c ?_ ?s ?t ?z; (case F => k_asm); (case N => k_asm); (case l => exact News.isList (by k_asm) (by k_mem)); (case p => kmk_part); (case q => kmk_part); (case i => assumption); (case m => exact kmk_all (by assumption)); (case c => exact rfl); (case s => with_unfolding_all rfl); (case t => kmk_pure); (case z => (rw [List.size_toArray, IntsAre.length (by assumption), PySem.sizeLine_eq]; omega))); intro D' ws' h' F' N' l1 hI' hC' hL'; (try k_sweep)))
abbrev ToldClaim (prog : Program) (w : World) (K : Frag) (p : Program) (loose : List Str) (mean : ExcName → Option Value) (mg mb : Str → Option Value) (f : Addr) : Prop :=
  ∀ (news : List (Addr × Obj)) (dp un : Nat) (gd : Option (List Code)) (cn : Str) (cs : Scope) (a : Addr) (ccd : Value) (cl : List (Str × Addr)) (A₀ : Around) (h₀ : Heap) (L : Addr) (m : Str → Option Value) (s : Shared) (l : Addr) (vs : List Value) (nn : Nat) (ns : List Int) (k : Int) (t : Tok) (Q E : Value → Shared → Prop),
    Below A₀ h₀ [] h₀ → Fr h₀ L s.heap m → K.In h₀ → News h₀ L s.heap news → Top p loose mean mg mb h₀ → cs.kind = .function →
    (l, PySem.W.listOf vs.toArray nn) ∈ news → IntsAre vs ns → 2 ≤ ns.length → ns.length ≤ 5 → 1 ≤ k → k ≤ 9 → (∀ v ∈ ns, 0 ≤ v) → 0 < ns.sum →
    dp + 30 + Builtin.pylongFrames < recursionLimit → un + 20 < cLine →
    (∀ D h' tk' ys nn' rs, Fr h₀ L h' m → News h₀ L h' ((D, PySem.W.listOf ys.toArray nn') :: news) → (∀ p ∈ news, @Ne Nat p.1 D) → IntsAre ys rs → LrOut ns k rs false → Q (.ref D) { s with heap := h', toks := tk' }) →
    (∀ h' tk' rs, Fr h₀ L h' m → News h₀ L h' news → LrOut ns k rs true → Q .none { s with heap := h', toks := tk' }) →
    wpAny (model prog w) (ktrTop dp un gd cn cs L a ccd cl []) (call (.ref f) [.ref l, .int k t]) Q E s

set_option rowWalk.seconds 0 in
set_option maxRecDepth 100000 in
set_option maxHeartbeats 8000000 in
theorem told_tells (w : World) (loose : List Str) (mean : ExcName → Option Value) (mg mb : Str → Option Value) : ToldClaim PySem.Challenge.rw_bg0015_01.row.prog w (hd.heap_39 w.params) hd.view_39 loose mean mg mb 47 := by
  w_on
  w_top on
  k_fill
  dsimp only [ToldClaim]
  intro news dp un gd cn cs a ccd cl A₀ h₀ L m s l vs nn ns k t Q E B F X N T hk hl hi hn2 hn5 hk1 hk9 hpos hsum hd hu hret hnone
  have hd1 : dp + 1 < recursionLimit := by omega
  refine wpAny_call ?_
  w_strict (k_dflt (refine' enter_top ?k1 ?k2 ?k3 ?k4 ?k5 ?kA ?kF ?kK ?k6 ?k7 ?k8 ?k9 ?kB ?_ ?c2 ?c3 ?c4 ?c5; (case kA => exact rfl); (case kF => exact rfl); (case kK => assumption); (case k1 => k_asm); (case k2 => k_asm); (case k3 => k_asm); (case k4 => k_asm); (case k5 => k_asm); (case k6 => k_is); (case k7 => k_is); (case k8 => ktr_room); (case k9 => exact BindsTo.of_eq rfl); (case kB => exact locs rfl); (case c2 => exact rfl); (case c3 => exact rfl); (case c4 => exact rfl); (case c5 => decide); k_whole))
  intro g L' h' FG F' N' B' X' T' D'
  dsimp only
  k_unmd
  w_strict k_fold
  w_strict (((iterate 22 (first | (k_unfold; (try dsimp only)) | (k_end; wrow_close) | walk1 | (dsimp only; walk1) | (leave1; (try dsimp only))))))
  rename_i D2 ws h2 F2 N2 l2 hI2 hC2 hL2
  w_strict (k_dflt (refine' lr_tells w loose mean mg mb _ _ _ _ _ _ _ _ _ _ _ _ _ _ _ _ _ ws _ _ _ _ _ _ _ _ (Or.inl rfl) ?k1 ?k2 ?k3 ?k4 ?k5 ?k6 ?k7 ?k8 hn2 hn5 hk1 hk9 hpos hsum ?k9 ?k10 ?k11 ?k12; (case k1 => k_asm); (case k2 => k_asm); (case k3 => k_asm); (case k4 => k_asm); (case k5 => k_asm); (case k6 => exact rfl); (case k7 => exact List.mem_cons_self); (case k8 => assumption)))
  · dsimp only [ktrTop]; omega
  · dsimp only [ktrTop]; omega
  · intro D h3 tk3 ys nn3 rs tie F3 N3 hn3 hir hout htie
    rcases htie with h | rfl
    · cases h
    dsimp only
    w_strict k_unfold
    exact leaveS0_ F3 (cb_drop N3 (by kcf_all)) KtsTurn.refl fun F0 N0 => hret D _ _ ys nn3 rs F0 N0 (fun p hp => hn3 p (List.mem_cons_of_mem _ hp)) hir hout
  · intro G e tt tk3 h3 ws3 rs _ FG3 RS US hout
    dsimp only
    w_strict (((iterate 5 (first | (k_unfold; (try dsimp only)) | (k_end; wrow_close) | walk1 | (dsimp only; walk1) | (leave1; (try dsimp only))))))
    rename_i T4 F4 N4a G4 N4 K4 X4 P4 D4
    dsimp only
    w_strict k_unfold
    exact leaveS0_ F4 (cb_drop N4 (by kcf_all)) T4 fun F0 N0 => hnone _ _ rs F0 N0 hout
end Mine
end
section
open PySem PySem.W PyProof.Rows PySem.Calls
namespace Mine

/-- what `_law_told` answers: nothing for a tie, or the list of the seats -/
def Ans (led : List (Addr × Obj)) (v : Value) (ns : List Int) (k : Int) : Prop :=
  (v = .none ∧ ∃ rs, LrOut ns k rs true) ∨ (∃ D ys n rs, v = .ref D ∧ (D, PySem.W.listOf (List.toArray ys) n) ∈ led ∧ IntsAre ys rs ∧ LrOut ns k rs false)
theorem Ans.mono {led led' : List (Addr × Obj)} {v : Value} {ns : List Int} {k : Int} (x : Ans led v ns k) (h : ∀ p ∈ led, p ∈ led') : Ans led' v ns k := by
  rcases x with x | ⟨D, ys, n, rs, h1, h2, h3, h4⟩
  · exact .inl x
  · exact .inr ⟨D, ys, n, rs, h1, h _ h2, h3, h4⟩

abbrev AnyClaim (prog : Program) (w : World) (K : Frag) (p : Program) (loose : List Str) (mean : ExcName → Option Value) (mg mb : Str → Option Value) (f : Addr) : Prop :=
  ∀ (news : List (Addr × Obj)) (dp un : Nat) (gd : Option (List Code)) (cn : Str) (cs : Scope) (a : Addr) (ccd : Value) (cl : List (Str × Addr)) (A₀ : Around) (h₀ : Heap) (L : Addr) (m : Str → Option Value) (s : Shared) (l : Addr) (vs : List Value) (nn : Nat) (ns : List Int) (k : Int) (t : Tok) (Q E : Value → Shared → Prop),
    Below A₀ h₀ [] h₀ → Fr h₀ L s.heap m → K.In h₀ → News h₀ L s.heap news → Top p loose mean mg mb h₀ → cs.kind = .function →
    (l, PySem.W.listOf vs.toArray nn) ∈ news → IntsAre vs ns → 2 ≤ ns.length → ns.length ≤ 5 → 1 ≤ k → k ≤ 9 → (∀ v ∈ ns, 0 ≤ v) → 0 < ns.sum →
    dp + 30 + Builtin.pylongFrames < recursionLimit → un + 20 < cLine →
    (∀ v h' tk' ext, Fr h₀ L h' m → News h₀ L h' (ext ++ news) → (∀ p ∈ news, ∀ q ∈ ext, @Ne Nat p.1 q.1) → Ans ext v ns k → Q v { s with heap := h', toks := tk' }) →
    wpAny (model prog w) (ktrTop dp un gd cn cs L a ccd cl []) (call (.ref f) [.ref l, .int k t]) Q E s

theorem any_tells (w : World) (loose : List Str) (mean : ExcName → Option Value) (mg mb : Str → Option Value) : AnyClaim PySem.Challenge.rw_bg0015_01.row.prog w (hd.heap_39 w.params) hd.view_39 loose mean mg mb 47 := by
  intro news dp un gd cn cs a ccd cl A₀ h₀ L m s l vs nn ns k t Q E B F X N T hk hl hi hn2 hn5 hk1 hk9 hpos hsum hd hu hq
  refine told_tells w loose mean mg mb news dp un gd cn cs a ccd cl A₀ h₀ L m s l vs nn ns k t Q E B F X N T hk hl hi hn2 hn5 hk1 hk9 hpos hsum hd hu ?_ ?_
  · intro D h' tk' ys n rs F' N' off hir hout
    refine hq (.ref D) h' tk' [(D, PySem.W.listOf ys.toArray n)] F' N' ?_ (.inr ⟨D, ys, n, rs, rfl, List.mem_cons_self, hir, hout⟩)
    intro p hp q hq'
    rw [List.mem_singleton.mp hq']
    exact off p hp
  · intro h' tk' rs F' N' hout
    exact hq .none h' tk' [] F' N' (by intro p _ q hq'; cases hq') (.inl ⟨rfl, rs, hout⟩)
end Mine
end
section
open PySem PySem.W PyProof.Rows PySem.Calls PySem.Spec
namespace Mine

section
variable {prog : Program} {w : World} {A : Around} {E : Value → Shared → Prop} {s : Shared} {h₀ : Heap} {L : Addr} {m : Str → Option Value} {env : Env}

/-- a list made of pairs that an iterator hands out (enumerate, zip), its element a pure one -/
theorem pair_block {elt iter : PySem.Expr} {x x₂ : Str} {px px₂ tp : Pos} {kt : Nat} {scope : Scope} {cl : List (Str × Addr)} {pos : Pos} {s₂ : Shared} {I : Addr} {fp wr : List Addr} {n : Nat} {Pt : Nat → Array Value → Prop} {St : Nat → Heap → Prop} {Mid : Nat → Addr → Heap → Prop} {news : List (Addr × Obj)}
    (R : Nat → List Value → Prop) {RR : Value → Addr → Result → Shared → Prop}
    (W : WalksU prog w A I fp wr n Pt St Mid) (hsz : n ≤ sizeLine) (hh : A.handled = none)
    (hcell : ∀ y ∈ scope.names, y.2 ≠ .cell) (hkind : scope.kind = .function) (hx : scope.names.lookup x = some .local) (hx₂ : scope.names.lookup x₂ = some .local) (hxx : x ≠ x₂)
    (hst : St 0 s₂.heap) (hfp : ∀ b ∈ fp, b < s₂.heap.objs.size) (F : Fr h₀ L s₂.heap m) (N : News h₀ L s₂.heap news)
    (hwr : ∀ b ∈ wr, b ≠ L ∧ h₀.get? b = none ∧ ∀ p ∈ news, p.1 ≠ b) (start : R 0 [])
    (turn : ∀ i a b ys C oC m₂ h tk (E' : Value → Shared → Prop), i < n → Pt i #[a, b] → R i ys → LCg.NsObj oC m₂ → m₂ x = some a → m₂ x₂ = some b → Fr h₀ L h m → News h₀ L h ((C, oC) :: news) →
      wpAny (model prog w) A (eval elt (compEnvC scope cl C env)) (fun y s' => (∃ tk', s' = { s₂ with heap := h, toks := tk' }) ∧ R (i + 1) (ys ++ [y])) E' { s₂ with heap := h, toks := tk })
    (hPt : ∀ i vals, Pt i vals → ∃ a b, vals = #[a, b])
    (hRR : ∀ D C h tk m' ys, Fr h₀ L h m → News h₀ L h ((D, LCg.lst ys) :: news) → LCg.Off1 D news → h.Ns C m' → h₀.get? C = none → h₀.get? D = none → C ≠ L → D ≠ L → C ≠ D → (∀ p ∈ news, p.1 ≠ C) → R n ys → RR (.ref D) C (.ok .next) { s₂ with heap := h, toks := tk }) :
    wpAny (model prog w) A (newList []) (fun acc s₃ => wpAny (model prog w) A (newFunctionEnv scope env.globals cl [] env.qual none .none (some env)) (fun cenv s₄ =>
      codeAny (model prog w) A (.compStart (.ListComp elt [⟨.Tuple [.Name x px, .Name x₂ px₂] kt tp, iter, [], 0⟩] scope pos) 0 (.ref I) acc { cenv with scope := relabel scope env }) (RR acc cenv.locals) s₄) E s₃) E s₂ := by
  refine wpAny_newObj_type (wpAny_newFunctionEnv hcell (by intro y hy; simp at hy) (fun h₁ hns₁ hsb₁ => ?_) hkind)
  dsimp only at hns₁ hsb₁ ⊢
  generalize hH2 : s₂.heap.push { cls := .type "list", dict := none, data := .seq ([] : List Value).toArray } = H2 at hns₁ hsb₁ ⊢
  have hC : H2.objs.size = s₂.heap.objs.size + 1 := by rw [← hH2, Heap.size_push]
  generalize hDe : s₂.heap.objs.size = D at *
  generalize hCe : H2.objs.size = C at *
  have hDC : D ≠ C := by rw [hC]; exact Nat.ne_of_lt (Nat.lt_succ_self _)
  have below : ∀ b, b < D → b ≠ C ∧ b ≠ D := fun b hb => ⟨by rw [hC]; exact Nat.ne_of_lt (Nat.lt_succ_of_lt hb), Nat.ne_of_lt hb⟩
  have lt : ∀ {b : Addr} {o : Obj}, s₂.heap.get? b = some o → b < D := fun e => hDe ▸ Heap.lt_size e
  have old : ∀ b o, s₂.heap.get? b = some o → h₁.get? b = some o := fun b o e => hsb₁.extBut b o (below b (lt e)).1 (Heap.get?_push_of_some _ (hH2 ▸ Heap.get?_push_of_some _ e))
  have hacc : h₁.get? D = some (LCg.lst []) := by
    refine hsb₁.extBut _ _ hDC (Heap.get?_push_of_some _ ?_)
    rw [← hH2, ← hDe]
    exact Heap.get?_push_size _ rfl
  have none₀ : ∀ b, D ≤ b → h₀.get? b = none := fun b hb => by
    cases z : h₀.get? b with
    | none => rfl
    | some o => exact absurd (lt (F.keep b o z)) (Nat.not_lt.mpr hb)
  have hD₀ := none₀ D (Nat.le_refl _)
  have hC₀ := none₀ C (by rw [hC]; exact Nat.le_succ _)
  have hLlt : L < D := hDe ▸ F.ns.lt
  have hDL : D ≠ L := (below L hLlt).2.symm
  have hCL : C ≠ L := (below L hLlt).1.symm
  have fpC : C ∉ fp := fun hm => (below _ (hfp _ hm)).1 rfl
  have fpD : D ∉ fp := fun hm => (below _ (hfp _ hm)).2 rfl
  have newsC : ∀ p ∈ news, p.1 ≠ C := fun p hp => (below _ (lt (N p hp).1)).1
  have newsD : ∀ p ∈ news, p.1 ≠ D := fun p hp => (below _ (lt (N p hp).1)).2
  have off1 : LCg.Off1 D news := by
    have : ∀ l : List (Addr × Obj), (∀ p ∈ l, p.1 ≠ D) → LCg.Off1 D l := by
      intro l
      induction l with
      | nil => intro _; trivial
      | cons q r ih => exact fun h => ⟨h q List.mem_cons_self, ih fun p hp => h p (List.mem_cons_of_mem _ hp)⟩
    exact this _ newsD
  have wrC : C ∉ wr := fun hm => fpC (W.sub _ hm)
  have wrD : D ∉ wr := fun hm => fpD (W.sub _ hm)
  have wrL : L ∉ wr := fun hm => (hwr _ hm).1 rfl
  have loop : codeAny (model prog w) A (.compLoop (.ListComp elt [⟨.Tuple [.Name x px, .Name x₂ px₂] kt tp, iter, [], 0⟩] scope pos) 0 (.ref I) (.ref D) (compEnvC scope cl C env))
      (RR (.ref D) C) { s₂ with heap := h₁, toks := s₂.toks + ([] : List (Str × Value)).length } := by
    refine LCp.codeAny_compLoop_pair
      (fun k s' => ∃ h' tk i ys m', s' = { s₂ with heap := h', toks := tk } ∧ i ≤ n ∧ k = n + 1 - i ∧ ys.length = i ∧ St i h' ∧ Fr h₀ L h' m ∧ h'.Ns C m' ∧ News h₀ L h' ((D, LCg.lst ys) :: news) ∧ R i ys) ?_ (n + 1)
      ⟨h₁, _, 0, [], _, rfl, Nat.zero_le _, rfl, rfl, W.frame _ _ _ hst fun b _ o e => old b o e, F.keeps old, hns₁, fun p hp => ?_, start⟩
    · rintro k s' ⟨h', tk, i, ys, m', rfl, hi, rfl, hyl, hst', F', hn', N', R'⟩
      by_cases hlt : i < n
      · refine W.item i _ _ _ hlt hst' fun T vals hA tkA hPv hT hMid hkA => ?_
        obtain ⟨va, vb, rfl⟩ := hPt i vals hPv
        refine W.go _ _ _ i T _ _ _ hMid fun hB hstB hkB => ?_
        have keepB : ∀ b o, b ∉ wr → h'.get? b = some o → hB.get? b = some o := fun b o hb e => hkB b o hb (hkA b o hb e)
        obtain ⟨oT, eT, cT, nT, dT⟩ := hT
        have hTB : IsTup hB T #[va, vb] := ⟨oT, hkB T oT (W.apart _ _ _ hMid) eT, cT, nT, dT⟩
        refine assign_Tuple_tuple hh hTB rfl rfl fun hE heE => ?_
        have keepE : ∀ b o, b ∉ wr → h'.get? b = some o → hE.get? b = some o := fun b o hb e => heE b o (Nat.ne_of_lt (Heap.lt_size (keepB b o hb e))) (keepB b o hb e)
        have hnE : hE.Ns C m' := hn'.at' fun o e => keepE C o wrC e
        refine assignInOrder_cons (wpAny_assign_Name (wpAny_storeName_local (lookup_relabel_local hx) hnE (fun hG hnG hsG => ?_) (by simp [compEnvC, relabel, hkind])))
        refine assignInOrder_cons (wpAny_assign_Name (wpAny_storeName_local (lookup_relabel_local hx₂) hnG (fun hK hnK hsK => ?_) (by simp [compEnvC, relabel, hkind])))
        refine assignInOrder_nil ?_
        have keepK : ∀ b o, b ∉ wr → b ≠ C → h'.get? b = some o → hK.get? b = some o := fun b o hb hc e => hsK.extBut b o hc (hsG.extBut b o hc (keepE b o hb e))
        have stK : St (i + 1) hK := W.frame _ _ _ hstB fun b hb o e => hsK.extBut b o (fun q => fpC (by have q' : b = C := q; rw [← q']; exact hb)) (hsG.extBut b o (fun q => fpC (by have q' : b = C := q; rw [← q']; exact hb)) (heE b o (Nat.ne_of_lt (Heap.lt_size e)) e))
        obtain ⟨oC, heC, hoC⟩ := LCg.ns_obj hnK
        have F₃ : Fr h₀ L hK m := ⟨F'.ns.at' fun o e => keepK L o wrL hCL.symm e, fun b o e => keepK b o (fun hb => by rw [(hwr b hb).2.1] at e; cases e) (fun q => by rw [q, hC₀] at e; cases e) (F'.keep b o e), F'.above⟩
        have Nk : News h₀ L hK ((D, LCg.lst ys) :: news) := fun p hp => by
          refine ⟨?_, (N' p hp).2⟩
          rcases List.mem_cons.mp hp with rfl | hq
          · exact keepK _ _ wrD hDC (N' _ hp).1
          · exact keepK _ _ (fun hb => (hwr _ hb).2.2 p hq rfl) (newsC p hq) (N' p hp).1
        have N₃ : News h₀ L hK ((C, oC) :: news) := fun p hp => by
          rcases List.mem_cons.mp hp with rfl | hq
          · exact ⟨heC, hCL, hC₀⟩
          · exact Nk p (List.mem_cons_of_mem _ hq)
        refine wpAny_mono (turn i va vb ys C oC _ hK _ _ hlt hPv R' hoC (by simp [hxx]) (by simp) F₃ N₃) (fun y s₄ hq => ?_) fun _ _ e => e
        obtain ⟨⟨tk', rfl⟩, R''⟩ := hq
        have zD := (Nk (D, LCg.lst ys) List.mem_cons_self).1
        refine append_at (hsz := by show ys.toArray.size ≤ sizeLine; rw [List.size_toArray, hyl]; exact Nat.le_trans hi hsz) zD fun hP hsP hDP => ?_
        refine ⟨n + 1 - (i + 1), by omega, hP, _, i + 1, ys ++ [y], _, rfl, hlt, rfl, by rw [List.length_append, List.length_singleton, hyl], W.frame _ _ _ stK fun b hb o e => hsP.extBut b o (fun q => fpD (q ▸ hb)) e, F₃.change hsP hDL hD₀, hnK.sameBut hsP hDC.symm, fun p hp => ?_, R''⟩
        rcases List.mem_cons.mp hp with rfl | hq
        · exact ⟨hDP.trans (congrArg some (LCg.lst_snoc ys y)), hDL, hD₀⟩
        · exact ⟨hsP.extBut _ _ (newsD p hq) (Nk p (List.mem_cons_of_mem _ hq)).1, (N' p (List.mem_cons_of_mem _ hq)).2⟩
      · obtain rfl : i = n := Nat.le_antisymm hi (Nat.not_lt.mp hlt)
        refine W.done _ _ _ hst' fun hA tkA hkA => ?_
        refine hRR D C hA tkA m' ys ⟨F'.ns.at' fun o e => hkA L o wrL e, fun b o e => hkA b o (fun hb => by rw [(hwr b hb).2.1] at e; cases e) (F'.keep b o e), F'.above⟩ (fun p hp => ⟨?_, (N' p hp).2⟩) off1 (hn'.at' fun o e => hkA C o wrC e) hC₀ hD₀ hCL hDL hDC.symm newsC R'
        rcases List.mem_cons.mp hp with rfl | hq
        · exact hkA _ _ wrD (N' _ hp).1
        · exact hkA _ _ (fun hb => (hwr _ hb).2.2 p hq rfl) (N' p hp).1
    · rcases List.mem_cons.mp hp with rfl | hp
      · exact ⟨hacc, hDL, hD₀⟩
      · exact ⟨old _ _ (N p hp).1, (N p hp).2⟩
  exact codeAny_compStart_list loop (W.self 0 _ _ _ (W.frame _ _ _ hst fun b _ o e => old b o e) loop)

/-- what a pair source tells: the iterator, what it hands out, what the element makes of it -/
structure PairSrc (prog : Program) (w : World) (A : Around) (h₀ : Heap) (L : Addr) (m : Str → Option Value) (env : Env) (elt : PySem.Expr) (x x₂ : Str) (scope : Scope) (cl : List (Str × Addr)) (y : Str) (Q : Flow → Shared → Prop) (I : Addr) (fp wr : List Addr) (n : Nat) (Pt : Nat → Array Value → Prop) (St : Nat → Heap → Prop) (Mid : Nat → Addr → Heap → Prop)
    (news : List (Addr × Obj)) (R : Nat → List Value → Prop) (s₁ : Shared) : Prop where
  W : WalksU prog w A I fp wr n Pt St Mid
  hsz : n ≤ sizeLine
  hh : A.handled = none
  hst : St 0 s₁.heap
  hfp : ∀ b ∈ fp, b < s₁.heap.objs.size
  F : Fr h₀ L s₁.heap m
  N : News h₀ L s₁.heap news
  hwr : ∀ b ∈ wr, b ≠ L ∧ h₀.get? b = none ∧ ∀ p ∈ news, p.1 ≠ b
  start : R 0 []
  turn : ∀ i a b ys C oC m₂ h tk (E' : Value → Shared → Prop), i < n → Pt i #[a, b] → R i ys → LCg.NsObj oC m₂ → m₂ x = some a → m₂ x₂ = some b → Fr h₀ L h m → News h₀ L h ((C, oC) :: news) →
      wpAny (model prog w) A (eval elt (compEnvC scope cl C env)) (fun y s' => (∃ tk', s' = { s₁ with heap := h, toks := tk' }) ∧ R (i + 1) (ys ++ [y])) E' { s₁ with heap := h, toks := tk }
  hPt : ∀ i vals, Pt i vals → ∃ a b, vals = #[a, b]
  fin : ∀ D h tk ys, R n ys → Fr h₀ L h (fun z => if z = y then some (.ref D) else m z) → News h₀ L h ((D, LCg.lst ys) :: news) → (∀ p ∈ news, @Ne Nat p.1 D) → Q .next { s₁ with heap := h, toks := tk }

theorem Assign_pairs {elt iter : PySem.Expr} {x x₂ y : Str} {px px₂ tp py : Pos} {kt : Nat} {scope : Scope} {cl : List (Str × Addr)} {pos spos : Pos} {Q : Flow → Shared → Prop} (hLe : env.locals = L)
    (hsw : swapsWith (.ListComp elt [⟨.Tuple [.Name x px, .Name x₂ px₂] kt tp, iter, [], 0⟩] scope pos) (some (.Name y py)) spos.line env = pure true)
    (hclos : closureFor scope env = pure cl) (hcell : ∀ z ∈ scope.names, z.2 ≠ .cell) (hkind : scope.kind = .function)
    (hnames : ∀ z ∈ scope.names, z.2 = .local → scope.names.lookup z.1 = some .local) (hx : scope.names.lookup x = some .local) (hx₂ : scope.names.lookup x₂ = some .local) (hxx : x ≠ x₂)
    (hy : env.kindOf y = some .local) (hp : (env.scope.kind == .class || (env.scope.kind == .module && env.locals != env.globals)) = false)
    (h : wpAny (model prog w) A (eval iter env) (fun xv s₁ => ∃ I fp wr n Pt St Mid news R, xv = .ref I ∧ PairSrc prog w A h₀ L m env elt x x₂ scope cl y Q I fp wr n Pt St Mid news R s₁) E s)
    (hs : ∀ x, foldedSetIterable iter env x = pure x := by intro _; rfl) :
    wpAny (model prog w) A (exec (.Assign [.Name y py] (.ListComp elt [⟨.Tuple [.Name x px, .Name x₂ px₂] kt tp, iter, [], 0⟩] scope pos) spos) env) Q E s := by
  subst hLe
  rw [exec_Assign_Name_used _ _ _ _ hsw]
  refine wpAny_bind (wpAny_standAt (wpAny_bind ?_))
  refine wpAny_bind (wpAny_mono (wpAny_comprehension_free (use := some (assign (.Name y py) env)) (Q := fun _ s' => Q .next s') rfl hs hclos hkind hnames
    (wpAny_mono h (fun xv s₁ h₁ => ?_) fun _ _ e => e)) (fun _ s' hq => wpAny_pure (wpAny_pure hq)) fun _ _ e => e)
  obtain ⟨I, fp, wr, n, Pt, St, Mid, news, R, rfl, P⟩ := h₁
  refine P.W.self 0 _ _ _ P.hst ?_
  refine pair_block R P.W P.hsz P.hh hcell hkind hx hx₂ hxx P.hst P.hfp P.F P.N P.hwr P.start P.turn P.hPt fun D C h' tk m' ys F' N' o1 hn hC₀ hD₀ hCL hDL hCD offC hR => ?_
  show wpAny _ A (assign (.Name y py) env (.ref D)) _ _ _
  refine wpAny_assign_Name (wpAny_storeName_local hy F'.ns (fun h₂ hn₂ hs₂ => ?_) hp)
  have hL₀ : h₀.get? env.locals = none := Heap.get?_none_of_le F'.above
  have F₂ : Fr h₀ env.locals h₂ (fun z => if z = y then some (.ref D) else m z) := ⟨hn₂, fun b o e => hs₂.extBut b o (fun q => by rw [q, hL₀] at e; cases e) (F'.keep b o e), F'.above⟩
  refine ⟨m', hn.sameBut hs₂ hCL, fun h'' hs'' => P.fin D h'' _ ys hR (F₂.change hs'' hCL hC₀) (fun p hp => ?_) (off1_mem o1)⟩
  have z : h₂.get? p.1 = some p.2 := hs₂.extBut _ _ (N' p hp).2.1 (N' p hp).1
  refine ⟨hs''.extBut _ _ ?_ z, (N' p hp).2⟩
  rcases List.mem_cons.mp hp with rfl | hp
  · exact Ne.symm hCD
  · exact offC p hp
end
end Mine
end
section
open PySem PySem.W PyProof.Rows PySem.Calls PySem.Spec
namespace Mine

section
variable {prog : Program} {w : World} {A : Around} {E : Value → Shared → Prop} {s : Shared} {h₀ : Heap} {L l l1 l2 : Addr} {m : Str → Option Value} {env : Env} {elt : PySem.Expr} {x x₂ y : Str} {scope : Scope} {cl : List (Str × Addr)} {Q : Flow → Shared → Prop} {news : List (Addr × Obj)} {its xs ys₀ : Array Value}

theorem enum_src (R : Nat → List Value → Prop) (hh : A.handled = none) (F : Fr h₀ L s.heap m) (N : News h₀ L s.heap news) (hl : s.heap.IsList l its) (hsz : its.size ≤ sizeLine) (start : R 0 [])
    (turn : ∀ i t b ys C oC m₂ h tk (E' : Value → Shared → Prop), its[i]? = some b → R i ys → LCg.NsObj oC m₂ → m₂ x = some (.int (i : Nat) t) → m₂ x₂ = some b → Fr h₀ L h m → News h₀ L h ((C, oC) :: news) →
      wpAny (model prog w) A (eval elt (compEnvC scope cl C env)) (fun y s' => (∃ tk', s' = { s with heap := h, toks := tk' }) ∧ R (i + 1) (ys ++ [y])) E' { s with heap := h, toks := tk })
    (fin : ∀ D h tk ys, R its.size ys → Fr h₀ L h (fun z => if z = y then some (.ref D) else m z) → News h₀ L h ((D, LCg.lst ys) :: news) → (∀ p ∈ news, @Ne Nat p.1 D) → Q .next { s with heap := h, toks := tk }) :
    wpAny (model prog w) A (call (.type "enumerate") [.ref l]) (fun xv s₁ => ∃ I fp wr n Pt St Mid news R, xv = .ref I ∧ PairSrc prog w A h₀ L m env elt x x₂ scope cl y Q I fp wr n Pt St Mid news R s₁) E s := by
  refine enum_rows F hl fun h' he hit hl' F' hk hei hle hli _ _ => ?_
  have up : ∀ b, s.heap.objs.size ≤ b → b ≠ L ∧ h₀.get? b = none ∧ ∀ p ∈ news, p.1 ≠ b := fun b hb => by
    refine ⟨fun e => ?_, ?_, fun p hp e => ?_⟩
    · exact absurd F.ns.lt (Nat.not_lt.mpr (e ▸ hb))
    · cases z : h₀.get? b with
      | none => rfl
      | some o => exact absurd (Heap.lt_size (F.keep b o z)) (Nat.not_lt.mpr hb)
    · exact absurd (Heap.lt_size (N p hp).1) (Nat.not_lt.mpr (e ▸ hb))
  have W := (WalksT.enumerate (prog := prog) (w := w) hh (s.heap.objs.size + 1) s.heap.objs.size l hei hle hli its).toU
  refine ⟨_, _, _, _, _, _, _, news, R, rfl, { W := W, hsz := hsz, hh := hh, hst := ⟨⟨_, he⟩, hit, hl'⟩, hfp := ?_, F := F', N := N.grown hk, hwr := ?_, start := start, turn := ?_, hPt := ?_, fin := fin }⟩
  · intro b hb
    simp only [List.mem_cons, List.not_mem_nil, or_false] at hb
    rcases hb with rfl | rfl | rfl
    · exact Heap.lt_size he
    · obtain ⟨_, e, _⟩ := hit; exact Heap.lt_size e
    · obtain ⟨_, e, _⟩ := hl'; exact Heap.lt_size e
  · intro b hb
    simp only [List.mem_cons, List.not_mem_nil, or_false] at hb
    rcases hb with rfl | rfl
    · exact up _ (Nat.le_succ _)
    · exact up _ (Nat.le_refl _)
  · rintro i a b ys C oC m₂ h tk E' _ ⟨t, v, hv, e⟩ hR hC hx hx₂ F₁ N₁
    obtain ⟨rfl, rfl⟩ : a = .int i t ∧ b = v := by simpa using congrArg Array.toList e
    exact turn i t b ys C oC m₂ h tk E' hv hR hC hx hx₂ F₁ N₁
  · rintro i vals ⟨t, v, _, rfl⟩
    exact ⟨_, _, rfl⟩

theorem zip_src (R : Nat → List Value → Prop) (hh : A.handled = none) (F : Fr h₀ L s.heap m) (N : News h₀ L s.heap news) (hl1 : s.heap.IsList l1 xs) (hl2 : s.heap.IsList l2 ys₀) (hsz : min xs.size ys₀.size ≤ sizeLine) (start : R 0 [])
    (turn : ∀ i a b ys C oC m₂ h tk (E' : Value → Shared → Prop), xs[i]? = some a → ys₀[i]? = some b → R i ys → LCg.NsObj oC m₂ → m₂ x = some a → m₂ x₂ = some b → Fr h₀ L h m → News h₀ L h ((C, oC) :: news) →
      wpAny (model prog w) A (eval elt (compEnvC scope cl C env)) (fun y s' => (∃ tk', s' = { s with heap := h, toks := tk' }) ∧ R (i + 1) (ys ++ [y])) E' { s with heap := h, toks := tk })
    (fin : ∀ D h tk ys, R (min xs.size ys₀.size) ys → Fr h₀ L h (fun z => if z = y then some (.ref D) else m z) → News h₀ L h ((D, LCg.lst ys) :: news) → (∀ p ∈ news, @Ne Nat p.1 D) → Q .next { s with heap := h, toks := tk }) :
    wpAny (model prog w) A (call (.type "zip") [.ref l1, .ref l2]) (fun xv s₁ => ∃ I fp wr n Pt St Mid news R, xv = .ref I ∧ PairSrc prog w A h₀ L m env elt x x₂ scope cl y Q I fp wr n Pt St Mid news R s₁) E s := by
  refine zip_rows F hl1 hl2 fun h' z TI TO i1 i2 D hst F' hk uz uTO u1 u2 _ => ?_
  have up : ∀ b, s.heap.objs.size ≤ b → b ≠ L ∧ h₀.get? b = none ∧ ∀ p ∈ news, p.1 ≠ b := fun b hb => by
    refine ⟨fun e => ?_, ?_, fun p hp e => ?_⟩
    · exact absurd F.ns.lt (Nat.not_lt.mpr (e ▸ hb))
    · cases z : h₀.get? b with
      | none => rfl
      | some o => exact absurd (Heap.lt_size (F.keep b o z)) (Nat.not_lt.mpr hb)
    · exact absurd (Heap.lt_size (N p hp).1) (Nat.not_lt.mpr (e ▸ hb))
  have W := (WalksT.zip2 (prog := prog) (w := w) hh z TI TO i1 i2 l1 l2 D xs ys₀).toU
  refine ⟨_, _, _, _, _, _, _, news, R, rfl, { W := W, hsz := hsz, hh := hh, hst := hst, hfp := ?_, F := F', N := N.grown hk, hwr := ?_, start := start, turn := ?_, hPt := ?_, fin := fin }⟩
  · obtain ⟨hz, hTI, ⟨_, _, hTO⟩, ⟨_, h1, _⟩, ⟨_, h2, _⟩, ⟨_, h3, _⟩, ⟨_, h4, _⟩⟩ := hst
    intro b hb
    simp only [List.mem_cons, List.not_mem_nil, or_false] at hb
    rcases hb with rfl | rfl | rfl | rfl | rfl | rfl | rfl
    · exact Heap.lt_size hz
    · exact Heap.lt_size hTI
    · exact Heap.lt_size hTO
    · exact Heap.lt_size h1
    · exact Heap.lt_size h2
    · exact Heap.lt_size h3
    · exact Heap.lt_size h4
  · intro b hb
    simp only [List.mem_cons, List.not_mem_nil, or_false] at hb
    rcases hb with rfl | rfl | rfl | rfl
    · exact up _ uz
    · exact up _ uTO
    · exact up _ u1
    · exact up _ u2
  · rintro i a b ys C oC m₂ h tk E' _ ⟨v, v', hv, hv', e⟩ hR hC hx hx₂ F₁ N₁
    obtain ⟨rfl, rfl⟩ : a = v ∧ b = v' := by simpa using congrArg Array.toList e
    exact turn i a b ys C oC m₂ h tk E' hv hv' hR hC hx hx₂ F₁ N₁
  · rintro i vals ⟨v, v', _, _, rfl⟩
    exact ⟨_, _, rfl⟩
end
end Mine
end
section
open PySem PySem.W PyProof.Rows PySem.Calls
namespace Mine
section
variable {prog : Program} {w : World} {A : Around} {E : Value → Shared → Prop} {hp h₀ : Heap} {gs : Array GenState} {dr : Drawn} {tk : Nat} {os : OsState} {L l : Addr} {m : Str → Option Value} {news : List (Addr × Obj)} {value slice : PySem.Expr} {vs : List Value} {ns ms : List Int} {vl vu vk : Value} {lo hi : Option Int} {Q : Value → Shared → Prop} {ops : List Value}

theorem slice_flat (F : Fr h₀ L hp m) (N : News h₀ L hp news) (hl : hp.IsList l vs.toArray) (pl : IsPart vl lo) (pu : IsPart vu hi) (hi' : IntsAre vs ns) (hm : IntsAre (slicePick vs.toArray lo hi none).toList ms)
    (h : ∀ D ws h', Fr h₀ L h' m → News h₀ L h' ((D, PySem.W.listOf (List.toArray ws) 0) :: news) → (∀ p ∈ news, p.1 < D) → IntsAre ws ms → Q (.ref D) ⟨h', gs, dr, tk, os⟩)
    (hs : subscripted slice false (.ref l) (.ref hp.objs.size) = operate [.ref hp.objs.size, .ref l] (getItem (.ref l) (.ref hp.objs.size))) (ht : ∀ r, letTemporaryGo value (.ref l) r = pure ()) (hz : ns.length ≤ sizeLine) :
    wpAny (model prog w) A (subscriptTail value slice (.ref l) (.ref hp.objs.size)) Q E ⟨hp.push { cls := .type "slice", data := .fields #[vl, vu, .none] }, gs, dr, tk, os⟩ :=
  kmk_slice_ints (s := ⟨hp, gs, dr, tk, os⟩) F N hl pl pu hi' hm rfl (fun D ws h' F' N' l1 i1 _ _ => h D ws h' F' N' l1 i1) hs ht (kmk_sz hi' hz)

theorem rev_flat (F : Fr h₀ L hp m) (N : News h₀ L hp news) (hl : hp.IsList l vs.toArray) (pk : IsPart vk (some (-1))) (hi : IntsAre vs ns)
    (h : ∀ D ws h', Fr h₀ L h' m → News h₀ L h' ((D, PySem.W.listOf (List.toArray ws) 0) :: news) → (∀ p ∈ news, p.1 < D) → IntsAre ws ns.reverse → Q (.ref D) ⟨h', gs, dr, tk, os⟩)
    (hs : subscripted slice false (.ref l) (.ref hp.objs.size) = operate ops (getItem (.ref l) (.ref hp.objs.size))) (ht : ∀ r, letTemporaryGo value (.ref l) r = pure ()) (hz : ns.length ≤ sizeLine) :
    wpAny (model prog w) A (subscriptTail value slice (.ref l) (.ref hp.objs.size)) Q E ⟨hp.push { cls := .type "slice", data := .fields #[.none, .none, vk] }, gs, dr, tk, os⟩ :=
  krv_ints (s := ⟨hp, gs, dr, tk, os⟩) F N hl pk hi (fun D ws h' F' N' l1 i1 _ => h D ws h' F' N' l1 i1) hs ht (kmk_sz hi hz)
end
end Mine
end
section
open PySem PySem.W PyProof.Rows PySem.Calls
namespace Mine
section
variable {prog : Program} {w : World} {A : Around} {h₀ : Heap} {L : Addr} {m : Str → Option Value} {env : Env} {ct elt : PySem.Expr} {x : Str} {scope : Scope} {cl : List (Str × Addr)} {s : Shared} {S : List (Addr × Obj) → Prop} {P : Nat → Value → Prop} {Fin : List Value → List (Addr × Obj) → Prop} {news : List (Addr × Obj)}

/-- a comprehension with a test, by an invariant -/
theorem comp_indT {n : Nat} (R : Nat → List Value → List (Addr × Obj) → Prop)
    (start : R 0 [] news)
    (turn : ∀ i v I oI C oC D m₂ ys nw h tk (E' : Value → Shared → Prop), i < n → P i v → R i ys nw → LCg.NsObj oC m₂ → m₂ x = some v → Fr h₀ L h m → News h₀ L h ((I, oI) :: (C, oC) :: (D, LCg.lst ys) :: nw) → LCg.Off3 I C D nw → ((@Ne Nat I C) ∧ (@Ne Nat I D) ∧ (@Ne Nat C D)) →
      wpAny (model prog w) A (isTrue ct (compEnvC scope cl C env) (eval ct (compEnvC scope cl C env))) (fun ok s' => if ok = true then
        wpAny (model prog w) A (eval elt (compEnvC scope cl C env)) (LCg.CompEnd h₀ L m { s with heap := h, toks := tk } I oI C oC D (LCg.lst ys) S (fun y nw' => R (i + 1) (ys ++ [y]) nw')) E' s'
        else LCg.CompEnd h₀ L m { s with heap := h, toks := tk } I oI C oC D (LCg.lst ys) S (fun _ nw' => R (i + 1) ys nw') Value.none s') E' { s with heap := h, toks := tk })
    (fin : ∀ ys nw, R n ys nw → Fin ys nw) : LCt.CompRestT prog w A h₀ L m env ct elt x scope cl s S P Fin n 0 [] news := by
  have key : ∀ (j i : Nat) (ys : List Value) (nw : List (Addr × Obj)), i + j = n → R i ys nw → LCt.CompRestT prog w A h₀ L m env ct elt x scope cl s S P Fin j i ys nw := by
    intro j
    induction j with
    | zero =>
      intro i ys nw hi hR
      have e : i = n := by omega
      subst e
      exact LCt.CompRestT.zero (fin ys nw hR)
    | succ j ih =>
      intro i ys nw hi hR
      refine LCt.CompRestT.succ ?_
      intro v I oI C oC D m₂ h tk E' hv hC hx F N off ne
      refine wpAny_mono (turn i v I oI C oC D m₂ ys nw h tk E' (by omega) hv hR hC hx F N off ne) (fun ok s₂ hq => ?_) fun _ _ e => e
      cases ok with
      | true =>
        simp only [if_true] at hq ⊢
        refine wpAny_mono hq (fun y s₃ hq => ?_) fun _ _ e => e
        obtain ⟨h', tk', nw', e, F', N', off', hS, hR'⟩ := hq
        exact ⟨h', tk', nw', e, F', N', off', hS, ih (i + 1) _ _ (by omega) hR'⟩
      | false =>
        simp only [Bool.false_eq_true, if_false] at hq ⊢
        obtain ⟨h', tk', nw', e, F', N', off', hS, hR'⟩ := hq
        exact ⟨h', tk', nw', e, F', N', off', hS, ih (i + 1) _ _ (by omega) hR'⟩
  exact key n 0 [] news (by omega) start
end
section
variable {prog : Program} {w : World} {A : Around} {E : Value → Shared → Prop} {s : Shared} {a b : Addr} {Q : Value → Shared → Prop}
theorem ne_nil (ha : s.heap.IsList a (List.toArray [])) (hb : s.heap.IsList b (List.toArray [])) (hu : A.units + 64 < cLine) (h : Q (.bool false) s) : wpAny (model prog w) A (compareOp .NotEq (.ref a) (.ref b)) Q E s :=
  ke_ne_ints (xs := []) (ys := []) (ns := []) (ms := []) ha hb .nil .nil hu (by simpa using h)
end
end Mine
end
section
open PySem PySem.W PyProof.Rows PySem.Calls
namespace Mine

theorem mod_abs {prog : Program} {w : World} {A : Around} {E : Value → Shared → Prop} {s : Shared} {Q : Value → Shared → Prop} {a b : Int} {t u : Tok} (hb : 0 < b) (h : ∀ r, 0 ≤ r → r < b → r = a.fmod b → Q (.int r s.toks) { s with toks := s.toks + 1 }) :
    wpAny (model prog w) A (binaryOp .Mod (.int a t) (.int b u)) Q E s := mod_int (by omega) (h _ (fmod_range hb).1 (fmod_range hb).2 rfl)

abbrev mNews {h₀ h : Heap} {L : Addr} {news : List (Addr × Obj)} (_ : News h₀ L h news) : List (Addr × Obj) := news
abbrev mOf {h₀ h : Heap} {L : Addr} {m : Str → Option Value} (_ : Fr h₀ L h m) : Str → Option Value := m
theorem pos_one {xs : List Int} {i : Nat} (h : ∀ v ∈ xs, 1 ≤ v) : 0 < xs.getD i 0 + 1 := by
  by_cases hi : i < xs.length
  · have := h _ (List.getElem_mem hi)
    simp only [List.getD_eq_getElem?_getD, List.getElem?_eq_getElem hi, Option.getD_some]
    omega
  · simp [List.getD_eq_getElem?_getD, List.getElem?_eq_none (Nat.not_lt.mp hi)]
theorem two_ne {a j b : Int} (ha : 0 ≤ a) (hab : a < b) (hj : 0 ≤ j) (hjb : j < b - 1) : (a + 1 + j).fmod b ≠ a := by
  rw [Int.fmod_eq_emod_of_nonneg _ (by omega)]
  by_cases h : a + 1 + j < b
  · rw [Int.emod_eq_of_lt (by omega) h]; omega
  · have : a + 1 + j = (a + 1 + j - b) + b := by omega
    rw [this, Int.add_emod_right, Int.emod_eq_of_lt (by omega) (by omega)]; omega

abbrev TurnPost (h₀ : Heap) (L : Addr) (m : Str → Option Value) (news : List (Addr × Obj)) (s : Shared) (f : Flow) (s' : Shared) : Prop :=
  f = .next ∧ ∃ h' tk', s' = { s with heap := h', toks := tk' } ∧ Fr h₀ L h' m ∧ News h₀ L h' news
theorem turn_cut {M : Model} {A : Around} {E : Value → Shared → Prop} {s : Shared} {Q : Flow → Shared → Prop} {t : Sem Flow} {h₀ : Heap} {L : Addr} {m : Str → Option Value} {news : List (Addr × Obj)} (_F : Fr h₀ L s.heap m) (_N : News h₀ L s.heap news)
    (h1 : wpAny M A t (TurnPost h₀ L m news s) E s) (h2 : ∀ h' tk', Fr h₀ L h' m → News h₀ L h' news → Q .next { s with heap := h', toks := tk' }) : wpAny M A t Q E s := by
  refine wpAny_mono h1 (fun f s' p => ?_) fun _ _ e => e
  obtain ⟨rfl, h', tk', rfl, F, N⟩ := p
  exact h2 h' tk' F N
local macro_rules | `(tactic| walk_at "my_told") => `(tactic| (k_dflt (refine' any_tells _ _ _ _ _ _ _ _ _ _ _ _ _ _ _ _ _ _ _ _ _ _ _ _ _ _ _ ?k1 ?k2 ?k3 ?k4 ?k5 ?k6 ?k7 ?k8 ?k9 ?ka ?kb ?kc ?kd ?ke ?kf ?kg ?kh); (case k1 => assumption); (case k2 => k_asm); (case k3 => assumption); (case k4 => k_asm); (case k5 => assumption); (case k6 => exact rfl); (case k7 => kcf_m); (case k8 => assumption); (case k9 => (try rw [chg_length]); omega); (case ka => (try rw [chg_length]); omega); (case kb => omega); (case kc => omega); (case kd => assumption); (case ke => assumption); (case kf => with_unfolding_all decide); (case kg => with_unfolding_all decide)))
local macro_rules | `(tactic| walk_at "my_dec") => `(tactic| ((try simp only [beq_iff_eq, bne_iff_ne, decide_eq_true_eq, ne_eq, Bool.not_eq_true, Bool.not_eq_true', decide_eq_false_iff_not, Bool.not_eq_false]); first | assumption | omega))
local macro_rules | `(tactic| walk_at "ite") => `(tactic| (k_here; first | (refine ite_pos (by walk_at "my_dec") ?_) | (refine ite_neg (by walk_at "my_dec") ?_)))
local macro_rules | `(tactic| k_mem) => `(tactic| kcf_m)
local macro_rules | `(tactic| walk_at "binaryOp Mod int int") => `(tactic| (k_here; (refine mod_abs (by first | omega | exact pos_one (by assumption)) ?_); intro r' r0' r1' re'))
local macro_rules | `(tactic| walk_at "my_sl_run") => `(tactic| ((try dsimp only); (k_dflt (refine' slice_flat ?yF ?yN ?yl ?yp ?yq ?yi ?ym ?_ ?ys ?yt ?yz)); (case yF => k_asm); (case yN => k_asm); (case yl => exact Fr.lst (by k_asm) (by assumption)); (case yp => kmk_part); (case yq => kmk_part); (case yi => assumption); (case ym => exact kmk_run (by assumption) (by decide) (by decide)); (case ys => with_unfolding_all rfl); (case yt => kmk_pure); (case yz => (rw [PySem.sizeLine_eq]; (try simp only [List.length_append, List.length_take, List.length_drop, List.length_cons, List.length_nil]); omega)); intro D' ws' h' F' N' l1 hI'; (try k_lt l1); (try k_sweep)))
local macro_rules | `(tactic| walk_at "my_sl_from") => `(tactic| ((k_dflt (refine kba_turn (value' := PySem.Expr.Name (PySem.Str.ofString "x") ⟨0, 0, 0, 0⟩) (fun _ => rfl) ?_)); (try dsimp only); (k_dflt (refine' slice_flat ?yF ?yN ?yl ?yp ?yq ?yi ?ym ?_ ?ys ?yt ?yz)); (case yF => k_asm); (case yN => k_asm); (case yl => exact News.isList (by k_asm) (by k_mem)); (case yp => kmk_part); (case yq => kmk_part); (case yi => exact .cons _ _ (.cons _ _ (.cons _ _ (.cons _ _ (.cons _ _ .nil))))); (case ym => exact kmk_from (.cons _ _ (.cons _ _ (.cons _ _ (.cons _ _ (.cons _ _ .nil))))) (by omega)); (case ys => with_unfolding_all rfl); (case yt => kmk_pure); (case yz => (rw [PySem.sizeLine_eq]; (try simp only [List.length_append, List.length_take, List.length_drop, List.length_cons, List.length_nil]); omega)); intro D' ws' h' F' N' l1 hI'; (try k_lt l1); (try k_sweep)))
local macro_rules | `(tactic| walk_at "my_sl_upto") => `(tactic| ((k_dflt (refine kba_turn (value' := PySem.Expr.Name (PySem.Str.ofString "x") ⟨0, 0, 0, 0⟩) (fun _ => rfl) ?_)); (try dsimp only); (k_dflt (refine' slice_flat ?yF ?yN ?yl ?yp ?yq ?yi ?ym ?_ ?ys ?yt ?yz)); (case yF => k_asm); (case yN => k_asm); (case yl => exact News.isList (by k_asm) (by k_mem)); (case yp => kmk_part); (case yq => kmk_part); (case yi => assumption); (case ym => exact kmk_upto (by assumption) (by omega)); (case ys => with_unfolding_all rfl); (case yt => kmk_pure); (case yz => (rw [PySem.sizeLine_eq]; (try simp only [List.length_append, List.length_take, List.length_drop, List.length_cons, List.length_nil]); omega)); intro D' ws' h' F' N' l1 hI'; (try k_lt l1); (try k_sweep)))
local macro_rules | `(tactic| walk_at "binaryOp FloorDiv int int") => `(tactic| (k_here; (refine floordiv_int (by omega) ?_ (Or.inr (PySem.PylongRoom.of (PySem.Heap.NoLimit.keeps (PyProof.Rows.Top.nolimit (by assumption)) (PyProof.Rows.Fr.keep (by assumption))) (by (with_unfolding_all decide)))))))
local macro_rules | `(tactic| walk_at "my_sl_rev") => `(tactic| ((k_dflt (refine kba_turn (value' := PySem.Expr.Name (PySem.Str.ofString "x") ⟨0, 0, 0, 0⟩) (fun _ => rfl) ?_)); (try dsimp only); (k_dflt (refine' rev_flat ?yF ?yN ?yl ?yp ?yi ?_ ?ys ?yt ?yz)); (case yF => k_asm); (case yN => k_asm); (case yl => exact News.isList (by k_asm) (by k_mem)); (case yp => exact IsPart.int _ _); (case yi => assumption); (case ys => with_unfolding_all rfl); (case yt => kmk_pure); (case yz => (rw [PySem.sizeLine_eq]; (try simp only [List.length_reverse, chg_length]); omega))))
local macro_rules | `(tactic| walk_at "my_sl_all") => `(tactic| ((try dsimp only); (k_dflt (refine' slice_flat ?yF ?yN ?yl ?yp ?yq ?yi ?ym ?_ ?ys ?yt ?yz)); (case yF => k_asm); (case yN => k_asm); (case yl => exact News.isList (by k_asm) (by k_mem)); (case yp => kmk_part); (case yq => kmk_part); (case yi => assumption); (case ym => exact kmk_all (by assumption)); (case ys => with_unfolding_all rfl); (case yt => kmk_pure); (case yz => (rw [PySem.sizeLine_eq]; (try simp only [List.length_reverse, chg_length]); omega))))
local macro_rules | `(tactic| walk_at "my_lr") => `(tactic| (k_dflt (refine' lr_tells _ _ _ _ _ _ _ _ _ _ _ _ _ _ _ _ _ _ _ _ _ _ _ _ _ _ _ _ _ _ _ (Or.inr ⟨rfl, rfl⟩) ?k1 ?k2 ?k3 ?k4 ?k5 ?k6 ?k7 ?k8 ?k9 ?ka ?kb ?kc ?kd ?ke ?kf ?kg ?kh ?ki); (case k1 => assumption); (case k2 => k_asm); (case k3 => assumption); (case k4 => k_asm); (case k5 => assumption); (case k6 => exact rfl); (case k7 => kcf_m); (case k8 => assumption); (case k9 => ((try simp only [List.length_reverse, chg_length]); omega)); (case ka => ((try simp only [List.length_reverse, chg_length]); omega)); (case kb => omega); (case kc => omega); (case kd => assumption); (case ke => assumption); (case kf => with_unfolding_all decide); (case kg => with_unfolding_all decide); (case ki => (intro _ _ _ _ _ _ _ z'; cases z'))))
local macro_rules | `(tactic| walk_at "compareOp Eq ref ref") => `(tactic| (k_here; k_dflt (refine ke_eq_ints (News.isList (by k_asm) (by k_mem)) (News.isList (by k_asm) (by k_mem)) (by assumption) (by assumption) (by ke_room) ?_)))
local macro_rules | `(tactic| walk_at "compareOp NotEq ref ref") => `(tactic| (k_here; k_dflt (refine ne_nil (News.isList (by k_asm) (by k_mem)) (News.isList (by k_asm) (by k_mem)) (by ke_room) ?_)))
local macro_rules | `(tactic| walk_at "call builtin:sum") => `(tactic| (k_here; (with_unfolding_all refine' sumK ?k0 ?k1 ?k2 ?k3 ?k4 ?_; (case k0 => rfl); (case k1 => k_asm); (case k2 => k_asm); (case k3 => exact News.isList (by k_asm) (by k_mem)); (case k4 => assumption); k_whole); intro h' tk' t' F' N'; (try k_sweep)))
local macro_rules | `(tactic| walk_at "call builtin:len") => `(tactic| (k_here; (with_unfolding_all refine' len_ints_fit ?k1 ?k2 ?k3 ?_; (case k1 => first | exact Fr.lst (by k_asm) (by assumption) | exact News.isList (by k_asm) (by k_mem)); (case k2 => assumption); (case k3 => ((try simp only [List.length_append, List.length_take, List.length_drop, List.length_cons, List.length_nil, List.length_map]); omega)); k_whole)))
local macro_rules | `(tactic| walk_at "subscriptTail List") => `(tactic| (k_here; walk_at "last subscriptTail"))
local macro_rules | `(tactic| walk_at "subscriptTail BinOp") => `(tactic| (k_here; walk_at "last subscriptTail"))

set_option rowWalk.seconds 0 in
set_option maxRecDepth 100000 in
set_option maxHeartbeats 8000000 in
theorem law_walks : PySem.Challenge.rw_bg0015_01.Holds := hd (by
  w_top off
  w_strict k_go0
  w_strict k_fold
  rename_i s₁ mg mb G Y fa fo pm doc ho hg KX X V GL T B TE TW qa qo M qb qc hcd si hs hlay0 hL0 hr0 hl2 la1 la2 sl sv la3 hL ra w1 r0 hI hr hcond hT K0 hD h₁ tk₁ F o3 o2 o1 d3 d2 d1 N0 X0
  replace F : Fr s₁.heap s₁.heap.objs.size h₁ (fun y => if y = Str.ofString "script" then some (.ref sl) else none) := F
  replace d1 : o1.data = .cell none := d1
  replace d2 : o2.data = .cell none := d2
  replace d3 : o3.data = .cell none := d3
  clear X0 r0 w1 ra hr0 hl2 hs hlay0 hL0 hT
  w_strict (((iterate 6 (first | (k_unfold; (try dsimp only)) | (k_end; wrow_close) | walk1 | (dsimp only; walk1) | (leave1; (try dsimp only)))); (focus (repeat' (first | (k_unfold; (try dsimp only)) | (k_end; wrow_close) | walk1 | (dsimp only; walk1) | (leave1; (try dsimp only))))); (iterate 11 (first | (k_unfold; (try dsimp only)) | (k_end; wrow_close) | walk1 | (dsimp only; walk1) | (leave1; (try dsimp only)))); (focus (repeat' (first | (k_unfold; (try dsimp only)) | (k_end; wrow_close) | walk1 | (dsimp only; walk1) | (leave1; (try dsimp only))))); (iterate 6 (first | (k_unfold; (try dsimp only)) | (k_end; wrow_close) | walk1 | (dsimp only; walk1) | (leave1; (try dsimp only))))))
  rename_i r r0 r1 er hh1 r' r0' r1' er' hh2 F1 N1
  w_strict (k_dflt (refine LCg.Assign_ListComp_U (F₀ := by k_asm) (by rfl) (by with_unfolding_all rfl) (by with_unfolding_all rfl) (by decide) (by rfl) (by decide) (by rfl) (by rfl) (by rfl) ?_))
  w_strict (((iterate 10 (first | (k_unfold; (try dsimp only)) | (k_end; wrow_close) | walk1 | (dsimp only; walk1) | (leave1; (try dsimp only))))))
  w_strict (walk_at "my_sl_run")
  w_strict (((iterate 28 (first | (k_unfold; (try dsimp only)) | (k_end; wrow_close) | walk1 | (dsimp only; walk1) | (leave1; (try dsimp only))))))
  w_strict (walk_at "my_sl_run")
  w_strict (((iterate 4 (first | (k_unfold; (try dsimp only)) | (k_end; wrow_close) | walk1 | (dsimp only; walk1) | (leave1; (try dsimp only))))))
  w_strict (walk_at "my_sl_from")
  w_strict (((iterate 6 (first | (k_unfold; (try dsimp only)) | (k_end; wrow_close) | walk1 | (dsimp only; walk1) | (leave1; (try dsimp only))))))
  w_strict (walk_at "my_sl_upto")
  w_strict (skip)
  rename_i D1 ws1 hh3 I1 l1 Dl hh4 l2 D2 ws2 hh5 I2 l3 D3 ws3 hh6 I3 l4 D4 ws4 hh7 I4 l5 D5 ws5 hh8 F5 N5 I5 l6
  obtain ⟨src, hsl, hsr⟩ : ∃ src : List Int, (src.length : Int) = 2 + r ∧ IntsAre ws5 src := ⟨_, by simp only [List.length_take, List.length_append, List.length_drop, List.length_cons, List.length_nil]; omega, I5⟩
  replace N5 := cb_drop (news := [(D5, PySem.W.listOf ws5.toArray 0), (s₁.heap.objs.size + 1 + 1 + 1, o3), (s₁.heap.objs.size + 1 + 1, o2), (s₁.heap.objs.size + 1, o1)]) N5 (by kcf_all)
  have hsz : ws5.toArray.size ≤ sizeLine := by rw [List.size_toArray, hsr.length, sizeLine_eq]; omega
  have hD5 : s₁.heap.objs.size + 1 + 1 + 1 < D5 ∧ s₁.heap.objs.size + 1 + 1 < D5 ∧ s₁.heap.objs.size + 1 < D5 := l6.2.2.2.2.2
  clear I1 l1 l2 I2 l3 I3 l4 I4 l5 I5 l6
  refine LCg.CompSrc.ledger (by rfl) F5 N5 (by kcf_m) hsz ?_
  intro g1
  dsimp only
  refine comp_ind (fun i ys nw => nw = [(D5, PySem.W.listOf ws5.toArray 0), (s₁.heap.objs.size + 1 + 1 + 1, o3), (s₁.heap.objs.size + 1 + 1, o2), (s₁.heap.objs.size + 1, o1)] ∧ IntsAre ys ((src.take i).map fun n => 1 + if n < 0 then -n else n)) ?start ?turn ?fin
  case start => exact ⟨rfl, .nil⟩
  case turn =>
    rintro i v I oI C oC D m₂ ys nw h1 tk1 E1 hi1 hv ⟨rfl, hz⟩ hC hx F6 N6 off ne
    obtain ⟨n1, t1, rfl, hn1⟩ := IntsAre.at hsr i v (by simpa using hv)
    w_strict (((iterate 10 (first | (k_unfold; (try dsimp only)) | (k_end; wrow_close) | walk1 | (dsimp only; walk1) | (leave1; (try dsimp only))))))
    refine LCg.CompEnd.intro (by assumption) (by assumption) [(D5, PySem.W.listOf ws5.toArray 0), (s₁.heap.objs.size + 1 + 1 + 1, o3), (s₁.heap.objs.size + 1 + 1, o2), (s₁.heap.objs.size + 1, o1)] (by kcf_all) ?_ ?_ ?_
    · exact off
    · exact Or.inr ⟨_, List.mem_cons_self, rfl, _, rfl⟩
    refine ⟨rfl, ?_⟩
    rw [List.take_add_one, hn1]
    simp only [Option.toList_some, List.map_append, List.map_cons, List.map_nil]
    exact IntsAre.append hz (.cons _ _ .nil)
  case fin =>
    rintro ys nw ⟨rfl, hz⟩
    unfold LCg.FinA
    intro DV h7 tk7 F7 N7 o1'
    have hE := off1_mem o1'
    clear o1'
    have hE1 : @Ne Nat DV (s₁.heap.objs.size + 1) := (hE (s₁.heap.objs.size + 1, o1) (by kcf_m)).symm
    have hE2 : @Ne Nat DV (s₁.heap.objs.size + 1 + 1) := (hE (s₁.heap.objs.size + 1 + 1, o2) (by kcf_m)).symm
    have hE3 : @Ne Nat DV (s₁.heap.objs.size + 1 + 1 + 1) := (hE (s₁.heap.objs.size + 1 + 1 + 1, o3) (by kcf_m)).symm
    clear hE F5 N5
    rw [List.size_toArray, hsr.length, List.take_length] at hz
    obtain ⟨xs, hxl, hx1, hxs⟩ : ∃ xs : List Int, (xs.length : Int) = 2 + r ∧ (∀ v ∈ xs, 1 ≤ v) ∧ IntsAre ys xs := ⟨_, by rw [List.length_map]; exact hsl, by intro v hv; obtain ⟨n, _, rfl⟩ := List.mem_map.mp hv; split <;> omega, hz⟩
    replace N7 := cb_drop (news := [(DV, LCg.lst ys), (s₁.heap.objs.size + 1 + 1 + 1, o3), (s₁.heap.objs.size + 1 + 1, o2), (s₁.heap.objs.size + 1, o1)]) N7 (by kcf_all)
    clear hz hsr hsl hsz hD5
    dsimp only
    w_strict (((iterate 4 (first | (k_unfold; (try dsimp only)) | (k_end; wrow_close) | walk1 | (dsimp only; walk1) | (leave1; (try dsimp only)))); (focus (repeat' (first | (k_unfold; (try dsimp only)) | (k_end; wrow_close) | walk1 | (dsimp only; walk1) | (leave1; (try dsimp only))))); (iterate 15 (first | (k_unfold; (try dsimp only)) | (k_end; wrow_close) | walk1 | (dsimp only; walk1) | (leave1; (try dsimp only)))); (focus (repeat' (first | (k_unfold; (try dsimp only)) | (k_end; wrow_close) | walk1 | (dsimp only; walk1) | (leave1; (try dsimp only))))); (iterate 16 (first | (k_unfold; (try dsimp only)) | (k_end; wrow_close) | walk1 | (dsimp only; walk1) | (leave1; (try dsimp only)))); (focus (repeat' (first | (k_unfold; (try dsimp only)) | (k_end; wrow_close) | walk1 | (dsimp only; walk1) | (leave1; (try dsimp only))))); (iterate 11 (first | (k_unfold; (try dsimp only)) | (k_end; wrow_close) | walk1 | (dsimp only; walk1) | (leave1; (try dsimp only))))))
    rename_i q q0 q1 eq1 hh9 o1' d1' _ _ _ j j0 j1 ej p p0 p1 ep hh10 o2' d2' _ mv m0 m1 em hh11 o3' F8 N8 d3'
    have hpq : p ≠ q := by rw [ep]; exact two_ne q0 q1 j0 j1
    clear ep ej j0 j1 eq1 em er er' d1 d2 d3
    dsimp only at F8 d1' d2' d3' ⊢
    (refine Assign_pairs (h₀ := s₁.heap) (L := s₁.heap.objs.size) (m := mOf F8) rfl (by with_unfolding_all rfl) (by with_unfolding_all rfl) (by decide) (by rfl) (by decide) (by rfl) (by rfl) (by decide) (by rfl) (by rfl) ?_)
    dsimp only [mOf]
    w_strict (((iterate 6 (first | (k_unfold; (try dsimp only)) | (k_end; wrow_close) | walk1 | (dsimp only; walk1) | (leave1; (try dsimp only))))))
    have hyl : ys.length = xs.length := hxs.length
    have hysz : ys.toArray.size ≤ sizeLine := by rw [List.size_toArray, hyl, sizeLine_eq]; omega
    refine enum_src (fun i zs => IntsAre zs ((chg q p mv xs).take i)) rfl F8 N8 (News.isList N8 List.mem_cons_self) hysz .nil ?turn2 ?fin2
    case turn2 =>
      rintro i t b zs C oC m₂ h9 tk9 E9 hv hz hC hx hx2 F9 N9
      obtain ⟨n1, t1, rfl, hn1⟩ := IntsAre.at hxs i b (by simpa using hv)
      by_cases hq : (i : Int) = q
      · w_strict (repeat' (first | (k_unfold; (try dsimp only)) | (k_end; wrow_close) | walk1 | (dsimp only; walk1) | (leave1; (try dsimp only))))
        rw [chg_take hn1, if_pos hq]
        exact IntsAre.append hz (.cons _ _ .nil)
      · by_cases hp : (i : Int) = p
        · w_strict (repeat' (first | (k_unfold; (try dsimp only)) | (k_end; wrow_close) | walk1 | (dsimp only; walk1) | (leave1; (try dsimp only))))
          rw [chg_take hn1, if_neg hq, if_pos hp]
          exact IntsAre.append hz (.cons _ _ .nil)
        · w_strict (repeat' (first | (k_unfold; (try dsimp only)) | (k_end; wrow_close) | walk1 | (dsimp only; walk1) | (leave1; (try dsimp only))))
          rw [chg_take hn1, if_neg hq, if_neg hp]
          exact IntsAre.append hz (.cons _ _ .nil)
    case fin2 =>
      intro DC h9 tk9 zs hz F9 N9 oDC
      rw [List.size_toArray, hyl, ← chg_length, List.take_length] at hz
      have hc1 : @Ne Nat DC (s₁.heap.objs.size + 1) := (oDC (s₁.heap.objs.size + 1, o1') (by kcf_m)).symm
      have hc2 : @Ne Nat DC (s₁.heap.objs.size + 1 + 1) := (oDC (s₁.heap.objs.size + 1 + 1, o2') (by kcf_m)).symm
      have hc3 : @Ne Nat DC (s₁.heap.objs.size + 1 + 1 + 1) := (oDC (s₁.heap.objs.size + 1 + 1 + 1, o3') (by kcf_m)).symm
      have hc4 : @Ne Nat DV DC := oDC (DV, LCg.lst ys) (by kcf_m)
      clear oDC F8 N8
      have hx0 : ∀ v ∈ xs, 0 ≤ v := fun v hv => by have := hx1 v hv; omega
      have hxV : 0 < xs.sum := sum_pos hx1 (by omega)
      have hc0 : ∀ v ∈ chg q p mv xs, 0 ≤ v := chg_nonneg hx1 m0 m1
      have hcV : 0 < (chg q p mv xs).sum := by rw [chg_sum q0 (by omega) p0 (by omega) hpq]; exact hxV
      dsimp only
      w_strict (((iterate 13 (first | (k_unfold; (try dsimp only)) | (k_end; wrow_close) | walk1 | (dsimp only; walk1) | (leave1; (try dsimp only))))))
      ((walk_at "my_told"))
      intro told h12 tk12 e1 F10 N10 oe1 A1
      clear F9 N9
      replace N10 := cb_drop (news := (DC, LCg.lst zs) :: (DV, LCg.lst ys) :: (s₁.heap.objs.size + 1 + 1 + 1, o3') :: (s₁.heap.objs.size + 1 + 1, o2') :: (s₁.heap.objs.size + 1, o1') :: e1) N10 (by kcf_all)
      clear oe1
      dsimp only
      (w_strict (((iterate 10 (first | (k_unfold; (try dsimp only)) | (k_end; wrow_close) | walk1 | (dsimp only; walk1) | (leave1; (try dsimp only)))))))
      ((walk_at "my_told"))
      intro aft h13 tk13 e2 F11 N11 oe2 A2
      replace N11 := cb_drop (news := (DC, LCg.lst zs) :: (DV, LCg.lst ys) :: (s₁.heap.objs.size + 1 + 1 + 1, o3') :: (s₁.heap.objs.size + 1 + 1, o2') :: (s₁.heap.objs.size + 1, o1') :: (e2 ++ e1)) N11 (by kcf_all)
      replace A1 : Ans (e2 ++ e1) told xs (1 + r') := A1.mono (fun p hp => List.mem_append_right _ hp)
      replace A2 : Ans (e2 ++ e1) aft (chg q p mv xs) (1 + r') := A2.mono (fun p hp => List.mem_append_left _ hp)
      generalize e2 ++ e1 = e12 at N11 A1 A2
      clear oe2 F10 N10
      dsimp only
      (w_strict (((iterate 13 (first | (k_unfold; (try dsimp only)) | (k_end; wrow_close) | walk1 | (dsimp only; walk1) | (leave1; (try dsimp only)))))))
      ((walk_at "my_told"))
      intro more h14 tk14 e3 F12 N12 oe3 A3
      replace N12 := cb_drop (news := (DC, LCg.lst zs) :: (DV, LCg.lst ys) :: (s₁.heap.objs.size + 1 + 1 + 1, o3') :: (s₁.heap.objs.size + 1 + 1, o2') :: (s₁.heap.objs.size + 1, o1') :: (e3 ++ e12)) N12 (by kcf_all)
      replace A1 : Ans (e3 ++ e12) told xs (1 + r') := A1.mono (fun p hp => List.mem_append_right _ hp)
      replace A2 : Ans (e3 ++ e12) aft (chg q p mv xs) (1 + r') := A2.mono (fun p hp => List.mem_append_right _ hp)
      replace A3 : Ans (e3 ++ e12) more xs (1 + r' + 1) := A3.mono (fun p hp => List.mem_append_left _ hp)
      generalize e3 ++ e12 = led at N12 A1 A2 A3
      clear oe3 F11 N11
      dsimp only
      (w_strict (((iterate 15 (first | (k_unfold; (try dsimp only)) | (k_end; wrow_close) | walk1 | (dsimp only; walk1) | (leave1; (try dsimp only)))))))
      rename_i DT hh15 _ _ _ _ _ F13 N13
      replace N13 := cb_drop (news := (DC, LCg.lst zs) :: (DV, LCg.lst ys) :: (s₁.heap.objs.size + 1 + 1 + 1, o3') :: (s₁.heap.objs.size + 1 + 1, o2') :: (s₁.heap.objs.size + 1, o1') :: led) N13 (by kcf_all)
      (w_strict (((iterate 37 (first | (k_unfold; (try dsimp only)) | (k_end; wrow_close) | walk1 | (dsimp only; walk1) | (leave1; (try dsimp only)))))))
      rename_i T1 hh16 _ T2 hh17 _ T3 hh18 lt3 DL hh19 F14 N14 lL
      dsimp only
      (refine iter_listTurns (lo := PySem.W.listOf #[.ref T1, .ref T2, .ref T3] 0) (vs := [.ref T1, .ref T2, .ref T3]) rfl F14 N14 List.mem_cons_self rfl rfl ?_)
      intro I lI
      (skip)
      refine ItemsRest.val (fun h20 tk20 F20 => ?_)
      refine AllObj.cons (fun oi1 hoi1 => ?_)
      refine AllObj.nil (fun N20 => ?_)
      (try dsimp only)
      simp only [List.cons_append, List.nil_append] at N20
      w_strict (((iterate 13 (first | (k_unfold; (try dsimp only)) | (k_end; wrow_close) | walk1 | (dsimp only; walk1) | (leave1; (try dsimp only))))))
      rename Fr _ _ _ _ => F21
      rename News _ _ _ _ => N21
      refine turn_cut F21 N21 ?ta1 ?tb1
      case ta1 =>
        have hxr0 : ∀ v ∈ xs.reverse, 0 ≤ v := fun v hv => hx0 v (List.mem_reverse.mp hv)
        have hxrV : 0 < xs.reverse.sum := by rw [List.sum_reverse]; exact hxV
        rcases A1 with ⟨rfl, rs, hout⟩ | ⟨D, vs, nn, rs, rfl, hm, hir, hout⟩
        · w_strict (((iterate 24 (first | (k_unfold; (try dsimp only)) | (k_end; wrow_close) | walk1 | (dsimp only; walk1) | (leave1; (try dsimp only))))))
          walk_at "my_sl_rev"
          intro E1 ws1 h31 F31 N31 l31 I31
          (try dsimp only)
          w_strict (((iterate 4 (first | (k_unfold; (try dsimp only)) | (k_end; wrow_close) | walk1 | (dsimp only; walk1) | (leave1; (try dsimp only))))))
          walk_at "my_lr"
          intro E2 h32 tk32 ws2 nn2 rs1 t1 F32 N32 n32 I32 O32 _
          (try dsimp only)
          have len1 := lr_len O32
          rw [List.length_reverse] at len1
          (try rw [chg_length] at len1)
          clear F31 N31
          w_strict (((iterate 7 (first | (k_unfold; (try dsimp only)) | (k_end; wrow_close) | walk1 | (dsimp only; walk1) | (leave1; (try dsimp only))))))
          walk_at "my_sl_rev"
          intro E3 ws3 h33 F33 N33 l33 I33
          (try dsimp only)
          clear F32 N32
          w_strict (((iterate 10 (first | (k_unfold; (try dsimp only)) | (k_end; wrow_close) | walk1 | (dsimp only; walk1) | (leave1; (try dsimp only))))))
          walk_at "my_sl_all"
          intro E4 ws4 h34 F34 N34 l34 I34
          (try dsimp only)
          clear F33 N33
          w_strict (((iterate 4 (first | (k_unfold; (try dsimp only)) | (k_end; wrow_close) | walk1 | (dsimp only; walk1) | (leave1; (try dsimp only))))))
          walk_at "my_lr"
          intro E5 h35 tk35 ws5 nn5 rs2 t2 F35 N35 n35 I35 O35 _
          (try dsimp only)
          clear F34 N34
          have hne : rs1.reverse ≠ rs2 := tie_rev (by (try rw [chg_length]); omega) hxV hout O32 O35
          w_strict (repeat' (first | (k_unfold; (try dsimp only)) | (k_end; wrow_close) | walk1 | (dsimp only; walk1) | (leave1; (try dsimp only))))
          all_goals first | exact F35 | exact cb_drop N35 (by kcf_all)
        · obtain ⟨hrl, hrs, hr0, -⟩ := no_tie (by (try rw [chg_length]); omega) hx0 hxV (by omega) hout
          (try rw [chg_length] at hrl)
          w_strict (((iterate 43 (first | (k_unfold; (try dsimp only)) | (k_end; wrow_close) | walk1 | (dsimp only; walk1) | (leave1; (try dsimp only))))))
          rename Fr _ _ _ _ => F31
          rename News _ _ _ _ => N31
          k_dflt (refine kso_min F31 N31 (News.isList N31 (by kcf_m)) hir (by omega) (by with_unfolding_all rfl) ?_)
          intro h32 M t32 tk32 F32 N32 hM _
          have hM0 := hr0 M hM
          w_strict (repeat' (first | (k_unfold; (try dsimp only)) | (k_end; wrow_close) | walk1 | (dsimp only; walk1) | (leave1; (try dsimp only))))
          all_goals first | exact F32 | exact N32
      intro h22 tk22 F22 N22
      (try dsimp only)
      w_strict (((iterate 2 (first | (k_unfold; (try dsimp only)) | (k_end; wrow_close) | walk1 | (dsimp only; walk1) | (leave1; (try dsimp only))))))
      refine ⟨_, _, _, _, rfl, F22, N22, ?_, ⟨⟨by kcf_m, trivial⟩, ?_⟩⟩
      · intro p hp q hq
        rw [List.mem_singleton.mp hq]
        exact Nat.ne_of_lt (lI p hp)
      clear F21 N21
      (try dsimp only [List.map])
      (skip)
      refine ItemsRest.val (fun h20 tk20 F20 => ?_)
      refine AllObj.cons (fun oi1 hoi1 => ?_)
      refine AllObj.nil (fun N20 => ?_)
      (try dsimp only)
      simp only [List.cons_append, List.nil_append] at N20
      w_strict (((iterate 13 (first | (k_unfold; (try dsimp only)) | (k_end; wrow_close) | walk1 | (dsimp only; walk1) | (leave1; (try dsimp only))))))
      rename Fr _ _ _ _ => F21
      rename News _ _ _ _ => N21
      refine turn_cut F21 N21 ?ta2 ?tb2
      case ta2 =>
        have hxr0 : ∀ v ∈ (chg q p mv xs).reverse, 0 ≤ v := fun v hv => hc0 v (List.mem_reverse.mp hv)
        have hxrV : 0 < (chg q p mv xs).reverse.sum := by rw [List.sum_reverse]; exact hcV
        rcases A2 with ⟨rfl, rs, hout⟩ | ⟨D, vs, nn, rs, rfl, hm, hir, hout⟩
        · w_strict (((iterate 24 (first | (k_unfold; (try dsimp only)) | (k_end; wrow_close) | walk1 | (dsimp only; walk1) | (leave1; (try dsimp only))))))
          walk_at "my_sl_rev"
          intro E1 ws1 h31 F31 N31 l31 I31
          (try dsimp only)
          w_strict (((iterate 4 (first | (k_unfold; (try dsimp only)) | (k_end; wrow_close) | walk1 | (dsimp only; walk1) | (leave1; (try dsimp only))))))
          walk_at "my_lr"
          intro E2 h32 tk32 ws2 nn2 rs1 t1 F32 N32 n32 I32 O32 _
          (try dsimp only)
          have len1 := lr_len O32
          rw [List.length_reverse] at len1
          (try rw [chg_length] at len1)
          clear F31 N31
          w_strict (((iterate 7 (first | (k_unfold; (try dsimp only)) | (k_end; wrow_close) | walk1 | (dsimp only; walk1) | (leave1; (try dsimp only))))))
          walk_at "my_sl_rev"
          intro E3 ws3 h33 F33 N33 l33 I33
          (try dsimp only)
          clear F32 N32
          w_strict (((iterate 10 (first | (k_unfold; (try dsimp only)) | (k_end; wrow_close) | walk1 | (dsimp only; walk1) | (leave1; (try dsimp only))))))
          walk_at "my_sl_all"
          intro E4 ws4 h34 F34 N34 l34 I34
          (try dsimp only)
          clear F33 N33
          w_strict (((iterate 4 (first | (k_unfold; (try dsimp only)) | (k_end; wrow_close) | walk1 | (dsimp only; walk1) | (leave1; (try dsimp only))))))
          walk_at "my_lr"
          intro E5 h35 tk35 ws5 nn5 rs2 t2 F35 N35 n35 I35 O35 _
          (try dsimp only)
          clear F34 N34
          have hne : rs1.reverse ≠ rs2 := tie_rev (by (try rw [chg_length]); omega) hcV hout O32 O35
          w_strict (repeat' (first | (k_unfold; (try dsimp only)) | (k_end; wrow_close) | walk1 | (dsimp only; walk1) | (leave1; (try dsimp only))))
          all_goals first | exact F35 | exact cb_drop N35 (by kcf_all)
        · obtain ⟨hrl, hrs, hr0, -⟩ := no_tie (by (try rw [chg_length]); omega) hc0 hcV (by omega) hout
          (try rw [chg_length] at hrl)
          w_strict (((iterate 43 (first | (k_unfold; (try dsimp only)) | (k_end; wrow_close) | walk1 | (dsimp only; walk1) | (leave1; (try dsimp only))))))
          rename Fr _ _ _ _ => F31
          rename News _ _ _ _ => N31
          k_dflt (refine kso_min F31 N31 (News.isList N31 (by kcf_m)) hir (by omega) (by with_unfolding_all rfl) ?_)
          intro h32 M t32 tk32 F32 N32 hM _
          have hM0 := hr0 M hM
          w_strict (repeat' (first | (k_unfold; (try dsimp only)) | (k_end; wrow_close) | walk1 | (dsimp only; walk1) | (leave1; (try dsimp only))))
          all_goals first | exact F32 | exact N32
      intro h22 tk22 F22 N22
      (try dsimp only)
      w_strict (((iterate 2 (first | (k_unfold; (try dsimp only)) | (k_end; wrow_close) | walk1 | (dsimp only; walk1) | (leave1; (try dsimp only))))))
      refine ⟨_, _, _, _, rfl, F22, N22, ?_, ⟨⟨by kcf_m, trivial⟩, ?_⟩⟩
      · intro p hp q hq
        rw [List.mem_singleton.mp hq]
        exact Nat.ne_of_lt (lI p hp)
      clear F21 N21
      (try dsimp only [List.map])
      refine ItemsRest.val (fun h20 tk20 F20 => ?_)
      refine AllObj.cons (fun oi1 hoi1 => ?_)
      refine AllObj.nil (fun N20 => ?_)
      (try dsimp only)
      simp only [List.cons_append, List.nil_append] at N20
      w_strict (((iterate 13 (first | (k_unfold; (try dsimp only)) | (k_end; wrow_close) | walk1 | (dsimp only; walk1) | (leave1; (try dsimp only))))))
      rename Fr _ _ _ _ => F21
      rename News _ _ _ _ => N21
      refine turn_cut F21 N21 ?ta3 ?tb3
      case ta3 =>
        have hxr0 : ∀ v ∈ xs.reverse, 0 ≤ v := fun v hv => hx0 v (List.mem_reverse.mp hv)
        have hxrV : 0 < xs.reverse.sum := by rw [List.sum_reverse]; exact hxV
        rcases A3 with ⟨rfl, rs, hout⟩ | ⟨D, vs, nn, rs, rfl, hm, hir, hout⟩
        · w_strict (((iterate 24 (first | (k_unfold; (try dsimp only)) | (k_end; wrow_close) | walk1 | (dsimp only; walk1) | (leave1; (try dsimp only))))))
          walk_at "my_sl_rev"
          intro E1 ws1 h31 F31 N31 l31 I31
          (try dsimp only)
          w_strict (((iterate 4 (first | (k_unfold; (try dsimp only)) | (k_end; wrow_close) | walk1 | (dsimp only; walk1) | (leave1; (try dsimp only))))))
          walk_at "my_lr"
          intro E2 h32 tk32 ws2 nn2 rs1 t1 F32 N32 n32 I32 O32 _
          (try dsimp only)
          have len1 := lr_len O32
          rw [List.length_reverse] at len1
          (try rw [chg_length] at len1)
          clear F31 N31
          w_strict (((iterate 7 (first | (k_unfold; (try dsimp only)) | (k_end; wrow_close) | walk1 | (dsimp only; walk1) | (leave1; (try dsimp only))))))
          walk_at "my_sl_rev"
          intro E3 ws3 h33 F33 N33 l33 I33
          (try dsimp only)
          clear F32 N32
          w_strict (((iterate 10 (first | (k_unfold; (try dsimp only)) | (k_end; wrow_close) | walk1 | (dsimp only; walk1) | (leave1; (try dsimp only))))))
          walk_at "my_sl_all"
          intro E4 ws4 h34 F34 N34 l34 I34
          (try dsimp only)
          clear F33 N33
          w_strict (((iterate 4 (first | (k_unfold; (try dsimp only)) | (k_end; wrow_close) | walk1 | (dsimp only; walk1) | (leave1; (try dsimp only))))))
          walk_at "my_lr"
          intro E5 h35 tk35 ws5 nn5 rs2 t2 F35 N35 n35 I35 O35 _
          (try dsimp only)
          clear F34 N34
          have hne : rs1.reverse ≠ rs2 := tie_rev (by (try rw [chg_length]); omega) hxV hout O32 O35
          w_strict (repeat' (first | (k_unfold; (try dsimp only)) | (k_end; wrow_close) | walk1 | (dsimp only; walk1) | (leave1; (try dsimp only))))
          all_goals first | exact F35 | exact cb_drop N35 (by kcf_all)
        · obtain ⟨hrl, hrs, hr0, -⟩ := no_tie (by (try rw [chg_length]); omega) hx0 hxV (by omega) hout
          (try rw [chg_length] at hrl)
          w_strict (((iterate 43 (first | (k_unfold; (try dsimp only)) | (k_end; wrow_close) | walk1 | (dsimp only; walk1) | (leave1; (try dsimp only))))))
          rename Fr _ _ _ _ => F31
          rename News _ _ _ _ => N31
          k_dflt (refine kso_min F31 N31 (News.isList N31 (by kcf_m)) hir (by omega) (by with_unfolding_all rfl) ?_)
          intro h32 M t32 tk32 F32 N32 hM _
          have hM0 := hr0 M hM
          w_strict (repeat' (first | (k_unfold; (try dsimp only)) | (k_end; wrow_close) | walk1 | (dsimp only; walk1) | (leave1; (try dsimp only))))
          all_goals first | exact F32 | exact N32
      intro h22 tk22 F22 N22
      (try dsimp only)
      w_strict (((iterate 2 (first | (k_unfold; (try dsimp only)) | (k_end; wrow_close) | walk1 | (dsimp only; walk1) | (leave1; (try dsimp only))))))
      refine ⟨_, _, _, _, rfl, F22, N22, ?_, ⟨⟨by kcf_m, trivial⟩, ?_⟩⟩
      · intro p hp q hq
        rw [List.mem_singleton.mp hq]
        exact Nat.ne_of_lt (lI p hp)
      clear F21 N21
      (try dsimp only [List.map])
      refine ItemsRest.zero (fun h40 tk40 F40 N40 => ?_)
      clear F22 N22
      replace N40 := cb_drop (news := (DC, LCg.lst zs) :: (DV, LCg.lst ys) :: (s₁.heap.objs.size + 1 + 1 + 1, o3') :: (s₁.heap.objs.size + 1 + 1, o2') :: (s₁.heap.objs.size + 1, o1') :: led) N40 (by kcf_all)
      (try dsimp only)
      w_strict (((iterate 1 (first | (k_unfold; (try dsimp only)) | (k_end; wrow_close) | walk1 | (dsimp only; walk1) | (leave1; (try dsimp only))))))
      refine turn_cut F40 N40 ?ta4 ?tb4
      case ta4 =>
        rcases A1 with ⟨rfl, rs, hout⟩ | ⟨D, vs, nn, rs, rfl, hm, hir, hout⟩
        · w_strict (repeat' (first | (k_unfold; (try dsimp only)) | (k_end; wrow_close) | walk1 | (dsimp only; walk1) | (leave1; (try dsimp only))))
          all_goals first | exact F40 | exact N40
        · rcases A2 with ⟨rfl, rs2, hout2⟩ | ⟨D2, vs2, nn2, rs2, rfl, hm2, hir2, hout2⟩
          · w_strict (repeat' (first | (k_unfold; (try dsimp only)) | (k_end; wrow_close) | walk1 | (dsimp only; walk1) | (leave1; (try dsimp only))))
            all_goals first | exact F40 | exact N40
          · obtain ⟨hrl, hrs, hr0, d, hd0, hd1, hde⟩ := no_tie (by (try rw [chg_length]); omega) hx0 hxV (by omega) hout
            obtain ⟨hrl2, hrs2, hr02, e, he0, he1, hee⟩ := no_tie (by (try rw [chg_length]); omega) hc0 hcV (by omega) hout2
            rw [chg_length] at hrl2
            obtain ⟨lm1, lm2, lm3⟩ := law_move (by omega) q0 (by omega) p0 (by omega) hpq m0 hd0 hd1 hde hrs he0 he1 hee hrs2
            by_cases hmv : mv = xs.getD q.toNat 0
            · obtain ⟨lm4, lm5⟩ := lm3 hmv
              w_strict (repeat' (first | (k_unfold; (try dsimp only)) | (k_end; wrow_close) | walk1 | (dsimp only; walk1) | (leave1; (try dsimp only))))
              all_goals first | exact F40 | exact N40
            · w_strict (repeat' (first | (k_unfold; (try dsimp only)) | (k_end; wrow_close) | walk1 | (dsimp only; walk1) | (leave1; (try dsimp only))))
              all_goals first | exact F40 | exact N40
      intro h42 tk42 F42 N42
      clear F40 N40
      (try dsimp only)
      w_strict (((iterate 1 (first | (k_unfold; (try dsimp only)) | (k_end; wrow_close) | walk1 | (dsimp only; walk1) | (leave1; (try dsimp only))))))
      rcases A1 with ⟨rfl, rs, hout⟩ | ⟨D, vs, nn, rs, rfl, hm, hir, hout⟩
      · w_strict (((iterate 11 (first | (k_unfold; (try dsimp only)) | (k_end; wrow_close) | walk1 | (dsimp only; walk1) | (leave1; (try dsimp only))))))
        w_strict walk1
        w_strict walk1
        w_strict (repeat' k_unfold)
        w_end
        exact goodW_bool (by assumption) (by assumption) (law_calm _) (law_post _)
      rcases A3 with ⟨rfl, rs3, hout3⟩ | ⟨D3, vs3, nn3, rs3, rfl, hm3, hir3, hout3⟩
      · w_strict (((iterate 18 (first | (k_unfold; (try dsimp only)) | (k_end; wrow_close) | walk1 | (dsimp only; walk1) | (leave1; (try dsimp only))))))
        w_strict walk1
        w_strict walk1
        w_strict (repeat' k_unfold)
        w_end
        exact goodW_bool (by assumption) (by assumption) (law_calm _) (law_post _)
      obtain ⟨hrl, hrs, hr0, d, hd0, hd1, hde⟩ := no_tie (by omega) hx0 hxV (by omega) hout
      obtain ⟨hrl3, hrs3, hr03, e, he0, he1, hee⟩ := no_tie (by omega) hx0 hxV (by omega) hout3
      have lmo := law_more hx1 hd0 hd1 hde he0 he1 hee
      w_strict (((iterate 18 (first | (k_unfold; (try dsimp only)) | (k_end; wrow_close) | walk1 | (dsimp only; walk1) | (leave1; (try dsimp only))))))
      refine Assign_pairs (h₀ := s₁.heap) (L := s₁.heap.objs.size) (m := mOf F42) rfl (by with_unfolding_all rfl) (by with_unfolding_all rfl) (by decide) (by rfl) (by decide) (by rfl) (by rfl) (by decide) (by rfl) (by rfl) ?_
      dsimp only [mOf]
      w_strict (((iterate 8 (first | (k_unfold; (try dsimp only)) | (k_end; wrow_close) | walk1 | (dsimp only; walk1) | (leave1; (try dsimp only))))))
      have hvl : vs.length = xs.length := by rw [hir.length, hrl]
      have hvl3 : vs3.length = xs.length := by rw [hir3.length, hrl3]
      refine zip_src (fun i zs => IntsAre zs ((dif rs rs3).take i)) rfl F42 N42 (News.isList N42 (by kcf_m)) (News.isList N42 (by kcf_m)) (by rw [sizeLine_eq]; simp only [List.size_toArray]; omega) .nil ?turn5 ?fin5
      case turn5 =>
        rintro i a b zs C oC m₂ h9 tk9 E9 hv hv3 hz hC hx hx2 F9 N9
        obtain ⟨n1, t1, rfl, hn1⟩ := IntsAre.at hir i a (by simpa using hv)
        obtain ⟨n2, t2, rfl, hn2⟩ := IntsAre.at hir3 i b (by simpa using hv3)
        w_strict (repeat' (first | (k_unfold; (try dsimp only)) | (k_end; wrow_close) | walk1 | (dsimp only; walk1) | (leave1; (try dsimp only))))
        rw [dif_take hn1 hn2]
        exact IntsAre.append hz (.cons _ _ .nil)
      case fin5 =>
        intro DS h9 tk9 ss hz F9 N9 oDS
        have hdl : (dif rs rs3).length = xs.length := by rw [dif_length, hrl, hrl3, Nat.min_self]
        simp only [List.size_toArray, hvl, hvl3, Nat.min_self] at hz
        rw [← hdl, List.take_length] at hz
        clear F42 N42 oDS
        (try dsimp only)
        w_strict (((iterate 3 (first | (k_unfold; (try dsimp only)) | (k_end; wrow_close) | walk1 | (dsimp only; walk1) | (leave1; (try dsimp only))))))
        rename Fr _ _ _ _ => F50
        rename News _ _ _ _ => N50
        w_strict (k_dflt (refine LCt.ListComp_T (F₀ := F50) (by with_unfolding_all rfl) (by decide) (by rfl) (by decide) (by rfl) ?_))
        w_strict (((iterate 1 (first | (k_unfold; (try dsimp only)) | (k_end; wrow_close) | walk1 | (dsimp only; walk1) | (leave1; (try dsimp only))))))
        have hsl2 : ss.length = xs.length := by rw [hz.length, hdl]
        refine LCt.CompSrcT.ledger (by rfl) F50 N50 (by kcf_m) (by rw [sizeLine_eq, List.size_toArray]; omega) ?_
        intro g6
        (try dsimp only)
        refine comp_indT (fun i ys nw => ys = [] ∧ nw = mNews N50) ?start6 ?turn6 ?fin6
        case start6 => exact ⟨rfl, rfl⟩
        case turn6 =>
          rintro i v I oI C oC D9 m₂ ys nw h1 tk1 E1 hi1 hv ⟨rfl, rfl⟩ hC hx F6 N6 off ne
          dsimp only [mNews] at N6 off ⊢
          obtain ⟨n1, t1, rfl, hn1⟩ := IntsAre.at hz i v (by simpa using hv)
          have hin : i < xs.length := by rw [← hdl]; exact (List.getElem?_eq_some_iff.mp hn1).1
          obtain ⟨lo1, lo2⟩ := lmo i hin
          rw [dif_get hn1] at lo1 lo2
          w_strict (((iterate 18 (first | (k_unfold; (try dsimp only)) | (k_end; wrow_close) | walk1 | (dsimp only; walk1) | (leave1; (try dsimp only))))))
          refine LCg.CompEnd.intro (by assumption) (by assumption) (mNews N50) (fun p hp => hp) off ?_ ⟨rfl, rfl⟩
          exact Or.inr ⟨_, List.mem_cons_self, rfl, _, rfl⟩
        case fin6 =>
          rintro ys nw ⟨rfl, rfl⟩
          dsimp only [mNews]
          unfold LCg.FinE
          intro D7 h7 tk7 F7 N7 o7
          clear F50 N50 o7
          (try dsimp only)
          w_strict (((iterate 10 (first | (k_unfold; (try dsimp only)) | (k_end; wrow_close) | walk1 | (dsimp only; walk1) | (leave1; (try dsimp only))))))
          w_strict walk1
          w_strict walk1
          w_strict (repeat' k_unfold)
          w_end
          exact goodW_bool (by assumption) (by assumption) (law_calm _) (law_post _))
end Mine
end
theorem PySem.Challenge.cw_bg0015_01_holds : PySem.Challenge.rw_bg0015_01.Holds :=
  Mine.law_walks

