import PyProof.Rows.All
import Wide.All
import OpenK.AllK
import Wide.FinOn
import Lean
import PySem.Challenge.RW_rs0068_01
set_option Elab.async false
section
namespace Mine
abbrev Ln := List Nat
def signsL : List Ln := [[40], [41], [91], [93], [58], [44], [59], [43], [45], [42], [47], [124], [38], [60], [62], [61], [46], [37], [123], [125], [61, 61], [33, 61], [60, 61], [62, 61], [126], [94], [60, 60], [62, 62], [42, 42], [43, 61], [45, 61], [42, 61], [47, 61], [37, 61], [38, 61], [124, 61], [94, 61], [60, 60, 61], [62, 62, 61], [42, 42, 61], [47, 47], [47, 47, 61], [64], [64, 61], [45, 62], [46, 46, 46], [58, 61], [33]]
def tokTab : List (Ln × Int) := [([33], 54), ([33, 61], 28), ([37], 24), ([37, 61], 40), ([38], 19), ([38, 61], 41), ([40], 7), ([41], 8), ([42], 16), ([42, 42], 35), ([42, 42, 61], 46), ([42, 61], 38), ([43], 14), ([43, 61], 36), ([44], 12), ([45], 15), ([45, 61], 37), ([45, 62], 51), ([46], 23), ([46, 46, 46], 52), ([47], 17), ([47, 47], 47), ([47, 47, 61], 48), ([47, 61], 39), ([58], 11), ([58, 61], 53), ([59], 13), ([60], 20), ([60, 60], 33), ([60, 60, 61], 44), ([60, 61], 29), ([61], 22), ([61, 61], 27), ([62], 21), ([62, 61], 30), ([62, 62], 34), ([62, 62, 61], 45), ([64], 49), ([64, 61], 50), ([91], 9), ([93], 10), ([94], 32), ([94, 61], 43), ([123], 25), ([124], 18), ([124, 61], 42), ([125], 26), ([126], 31)]
def tokOf (l : Ln) : Option Int := tokTab.lookup l
def piecesL : List Ln := signsL ++ [[9, 61]] ++ List.replicate 10 [] ++ [[13, 61]]
/-- where the first loop of the def ends, for a line that has a sign -/
def leadOf : Ln → Nat
  | [] => 0
  | [_] => 0
  | c :: d :: r => if c = 32 then leadOf (d :: r) + 1 else 0
def dedentL (ls : List Ln) : List Ln := ls.map (·.drop (leadOf (ls.headD [])))
def sizesL (l : Ln) : List Nat := [1, 2, 3].filter fun k => (tokOf (l.take k)).isSome
def numbersF : Nat → Ln → List Int
  | 0, _ => []
  | _ + 1, [] => []
  | n + 1, c :: r => match (sizesL (c :: r)).getLast? with
    | none => 64 :: numbersF n ((c :: r).drop 1)
    | some k => (tokOf ((c :: r).take k)).getD 0 :: numbersF n ((c :: r).drop k)
def numbersL (l : Ln) : List Int := numbersF l.length l
def deeperL (l : Ln) : Bool := l.take 1 == [] || l.take 1 == [32]
def closeL (rec : List Ln → List Int) (st : List Int × List Ln) : List Int × List Ln := if st.2 = [] then st else (st.1 ++ [5] ++ rec st.2 ++ [6], [])
def stepL (rec : List Ln → List Int) (st : List Int × List Ln) (l : Ln) : List Int × List Ln :=
  if deeperL l then (if st.2 = [] ∧ l.all (· == 32) = true then (st.1 ++ [63, (l.length : Int)], st.2) else (st.1, st.2 ++ [l]))
  else ((closeL rec st).1 ++ numbersL l ++ [4], (closeL rec st).2)
def partsF : Nat → List Ln → List Int
  | 0, _ => []
  | n + 1, ls => (closeL (partsF n) ((dedentL ls).foldl (stepL (partsF n)) ([], []))).1
/-- the pile: its top first -/
def signNums (r : Ln) : List Int := if r = [46, 46] then [23, 23] else if r = [9, 61] ∨ r = [13, 61] then [64, 22] else [7 + (signsL.idxOf r : Int)]
def pushed (S : List Nat) (r : Nat × Ln) : List Nat := if r.2 ≠ [] ∧ S.headD 0 < r.1 then r.1 :: S else S
def levelOf (S : List Nat) (m : Nat) : Nat := (S.filter (m ≤ ·)).foldr min 9
def restOf (S : List Nat) (r : Nat × Ln) : Ln := r.2.drop (levelOf (pushed S r) r.1 - r.1)
def poppedTo (S : List Nat) (k : Nat) : List Nat := S.dropWhile (k < ·)
def mnext (S : List Nat) (r : Nat × Ln) : List Nat := if restOf S r = [] then pushed S r else poppedTo (pushed S r) (levelOf (pushed S r) r.1)
def mout (S : List Nat) (r : Nat × Ln) : List Int :=
  (if r.2 ≠ [] ∧ S.headD 0 < r.1 then [5] else []) ++
  (if restOf S r = [] then [63, ((r.1 + r.2.length - (pushed S r).headD 0 : Nat) : Int)]
   else List.replicate ((pushed S r).length - (poppedTo (pushed S r) (levelOf (pushed S r) r.1)).length) 6 ++ signNums (restOf S r) ++ [4])
def mrun (S : List Nat) (rows : List (Nat × Ln)) : List Int × List Nat := rows.foldl (fun st r => (st.1 ++ mout st.2 r, mnext st.2 r)) ([], S)
def baseOf (r : Nat × Ln) : Nat := if r.2 = [] then r.1 - 1 else r.1
def pileL (rows : List (Nat × Ln)) : List Int := (mrun [baseOf (rows.headD (0, []))] rows).1 ++ List.replicate ((mrun [baseOf (rows.headD (0, []))] rows).2.length - 1) 6
/-- a row of the text, k signs cut off its head, the text nine blanks further in -/
def cutL (k : Nat) (r : Nat × Ln) : Ln := (List.replicate (9 + r.1) 32 ++ r.2).drop k
def GoodR (r : Nat × Ln) : Prop := r.1 < 5 ∧ r.2 ∈ piecesL
end Mine
end
section
namespace Mine
/-! ### facts of the pieces, by looking at all of them -/
theorem pieces_noblank : ∀ p ∈ piecesL, ∀ c ∈ p, c ≠ 32 := by decide +kernel
theorem pieces_len : ∀ p ∈ piecesL, p.length ≤ 3 := by decide +kernel
theorem pieces_nums0 : ∀ p ∈ piecesL, ∀ k ∈ [0, 1, 2], p.drop k ≠ [] → numbersL (p.drop k) = signNums (p.drop k) := by decide +kernel
theorem pieces_nums {p : Ln} (h : p ∈ piecesL) (k : Nat) (hk : p.drop k ≠ []) : numbersL (p.drop k) = signNums (p.drop k) := by
  have hl := pieces_len p h
  have : k < 3 := Nat.lt_of_not_le fun q => hk (List.drop_eq_nil_of_le (Nat.le_trans hl q))
  refine pieces_nums0 p h k ?_ hk
  match k, this with
  | 0, _ => simp
  | 1, _ => simp
  | 2, _ => simp
/-! ### the pile's step -/
theorem level_ge {S : List Nat} {m : Nat} (hm : m ≤ 9) : m ≤ levelOf S m := by
  unfold levelOf
  induction S with
  | nil => simpa using hm
  | cons a r ih =>
    rw [List.filter_cons]
    split
    · rename_i h; simp only [List.foldr_cons]; simp at h; omega
    · exact ih
theorem level_le9 {S : List Nat} {m : Nat} : levelOf S m ≤ 9 := by
  unfold levelOf
  induction S with
  | nil => simp
  | cons a r ih =>
    rw [List.filter_cons]
    split
    · simp only [List.foldr_cons]; omega
    · exact ih
theorem level_le {S : List Nat} {m a : Nat} (ha : a ∈ S) (hm : m ≤ a) : levelOf S m ≤ a := by
  unfold levelOf
  induction S with
  | nil => cases ha
  | cons b r ih =>
    rw [List.filter_cons]
    rcases List.mem_cons.mp ha with rfl | h
    · simp only [decide_eq_true_eq.mpr hm, if_true, List.foldr_cons]; omega
    · have := ih h
      split
      · simp only [List.foldr_cons]; omega
      · exact this
theorem level_mem {S : List Nat} {m : Nat} (h : levelOf S m < 9) : levelOf S m ∈ S := by
  unfold levelOf at *
  induction S with
  | nil => simp at h
  | cons b r ih =>
    rw [List.filter_cons] at h ⊢
    split at h
    · rename_i hb
      simp only [hb, if_true, List.foldr_cons] at h ⊢
      rcases Nat.le_total b (List.foldr min 9 (List.filter (m ≤ ·) r)) with q | q
      · rw [Nat.min_eq_left q]; exact .head _
      · rw [Nat.min_eq_right q] at h ⊢; exact .tail _ (ih h)
    · rename_i hb
      simp only [hb]
      exact .tail _ (ih h)
theorem level_snoc {S : List Nat} {m p : Nat} : levelOf (S ++ [p]) m = if m ≤ p then min (levelOf S m) (min p 9) else levelOf S m := by
  unfold levelOf
  rw [List.filter_append]
  by_cases h : m ≤ p
  · simp only [if_pos h, List.filter_cons, decide_eq_true_eq.mpr h, if_true, List.filter_nil, List.foldr_append, List.foldr_cons, List.foldr_nil]
    induction (S.filter (m ≤ ·)) with
    | nil => simp only [List.foldr_nil]; omega
    | cons a r ih => simp only [List.foldr_cons]; rw [ih]; omega
  · simp [h]
/-- not further in than q, and something is left there -/
abbrev Fits (r : Nat × Ln) (q : Nat) : Prop := r.1 ≤ q ∧ q < r.1 + r.2.length
theorem headD_snoc {S : List Nat} {p : Nat} (h : S ≠ []) : (S ++ [p]).headD 0 = S.headD 0 := by cases S with | nil => exact absurd rfl h | cons a r => rfl
theorem pushed_snoc {S : List Nat} {p : Nat} {r : Nat × Ln} (h : S ≠ []) : pushed (S ++ [p]) r = pushed S r ++ [p] := by
  unfold pushed; rw [headD_snoc h]; split <;> rfl
theorem pushed_ne {S : List Nat} {r : Nat × Ln} (h : S ≠ []) : pushed S r ≠ [] := by unfold pushed; split; exact List.cons_ne_nil _ _; exact h
theorem dropWhile_snoc {f : Nat → Bool} {p : Nat} : ∀ {S : List Nat}, (∃ a ∈ S, f a = false) → (S ++ [p]).dropWhile f = S.dropWhile f ++ [p]
  | [], ⟨_, h, _⟩ => nomatch h
  | a :: r, ⟨b, hb, hf⟩ => by
    simp only [List.cons_append, List.dropWhile_cons]
    split
    · rename_i ha
      refine dropWhile_snoc ?_
      rcases List.mem_cons.mp hb with rfl | hb
      · rw [ha] at hf; cases hf
      · exact ⟨b, hb, hf⟩
    · rfl
theorem dropWhile_ne {f : Nat → Bool} : ∀ {S : List Nat}, (∃ a ∈ S, f a = false) → S.dropWhile f ≠ []
  | [], ⟨_, h, _⟩ => nomatch h
  | a :: r, ⟨b, hb, hf⟩ => by
    simp only [List.dropWhile_cons]
    split
    · rename_i ha
      refine dropWhile_ne ?_
      rcases List.mem_cons.mp hb with rfl | hb
      · rw [ha] at hf; cases hf
      · exact ⟨b, hb, hf⟩
    · exact List.cons_ne_nil _ _
theorem dropWhile_sub {f : Nat → Bool} : ∀ {S : List Nat}, ∀ a ∈ S.dropWhile f, a ∈ S
  | [], _, h => nomatch h
  | b :: r, a, h => by
    simp only [List.dropWhile_cons] at h
    split at h
    · exact .tail _ (dropWhile_sub a h)
    · exact h
theorem dropWhile_all {f : Nat → Bool} : ∀ {S : List Nat}, (∀ a ∈ S, f a = true) → S.dropWhile f = []
  | [], _ => rfl
  | a :: r, h => by simp only [List.dropWhile_cons, h a (.head _), if_true]; exact dropWhile_all fun b hb => h b (.tail _ hb)
theorem rest_level {S : List Nat} {r : Nat × Ln} (G : GoodR r) (h : restOf S r ≠ []) : levelOf (pushed S r) r.1 ∈ pushed S r ∧ levelOf (pushed S r) r.1 < r.1 + r.2.length := by
  have hl := pieces_len _ G.2
  have h1 : levelOf (pushed S r) r.1 - r.1 < r.2.length := Nat.lt_of_not_le fun q => h (List.drop_eq_nil_of_le q)
  have h2 := G.1
  exact ⟨level_mem (by omega), by omega⟩
/-- a row that is further in than p, or has nothing left there, does not see p -/
theorem step_over {S : List Nat} {p : Nat} {r : Nat × Ln} (G : GoodR r) (hp : p < 5) (hS : S ≠ []) (ha : ∀ a ∈ S, p < a) (hf : ¬ Fits r p) :
    mout (S ++ [p]) r = mout S r ∧ mnext (S ++ [p]) r = mnext S r ++ [p] ∧ mnext S r ≠ [] ∧ ∀ a ∈ mnext S r, p < a := by
  have hP := pushed_snoc (p := p) (r := r) hS
  have hPn := pushed_ne (r := r) hS
  have hl := pieces_len _ G.2
  have hm := G.1
  have hPa : ∀ a ∈ pushed S r, p < a := by
    intro a h
    unfold pushed at h
    split at h
    · rename_i hc
      rcases List.mem_cons.mp h with rfl | h
      · cases S with
        | nil => exact absurd rfl hS
        | cons b t => have := ha b (.head _); have h3 := hc.2; simp only [List.headD_cons] at h3; omega
      · exact ha a h
    · exact ha a h
  have hge := level_ge (S := pushed S r) (m := r.1) (by omega)
  have hR : restOf (S ++ [p]) r = restOf S r := by
    unfold restOf
    rw [hP, level_snoc]
    split
    · rename_i h1
      have h2 : r.1 + r.2.length ≤ p := Nat.le_of_not_lt fun q => hf ⟨h1, q⟩
      have h3 : p ≤ levelOf (pushed S r) r.1 := by
        rcases Nat.lt_or_ge (levelOf (pushed S r) r.1) 9 with q | q
        · exact Nat.le_of_lt (hPa _ (level_mem q))
        · omega
      rw [List.drop_eq_nil_of_le (by omega), List.drop_eq_nil_of_le (by omega)]
    · rfl
  by_cases hr : restOf S r = []
  · have e1 : mnext S r = pushed S r := by unfold mnext; rw [if_pos hr]
    have e2 : mnext (S ++ [p]) r = pushed S r ++ [p] := by unfold mnext; rw [if_pos (hR.trans hr), hP]
    refine ⟨?_, by rw [e1, e2], by rw [e1]; exact hPn, by rw [e1]; exact hPa⟩
    unfold mout
    rw [headD_snoc hS, hR, hP, headD_snoc hPn, if_pos hr, if_pos hr]
  · obtain ⟨hlm, hll⟩ := rest_level G hr
    have hL : levelOf (pushed S r ++ [p]) r.1 = levelOf (pushed S r) r.1 := by
      rw [level_snoc]
      split
      · rename_i h1
        have h2 : r.1 + r.2.length ≤ p := Nat.le_of_not_lt fun q => hf ⟨h1, q⟩
        have := hPa _ hlm
        omega
      · rfl
    have hex : ∃ a ∈ pushed S r, (decide (levelOf (pushed S r) r.1 < a)) = false := ⟨_, hlm, by simp⟩
    have e1 : mnext S r = poppedTo (pushed S r) (levelOf (pushed S r) r.1) := by unfold mnext; rw [if_neg hr]
    have hpop : poppedTo (pushed S r ++ [p]) (levelOf (pushed S r) r.1) = poppedTo (pushed S r) (levelOf (pushed S r) r.1) ++ [p] := dropWhile_snoc hex
    have e2 : mnext (S ++ [p]) r = poppedTo (pushed S r) (levelOf (pushed S r) r.1) ++ [p] := by
      unfold mnext
      rw [if_neg (fun q => hr (hR.symm.trans q)), hP, hL, hpop]
    refine ⟨?_, by rw [e1, e2], by rw [e1]; exact dropWhile_ne hex, by rw [e1]; exact fun a h => hPa a (dropWhile_sub a h)⟩
    unfold mout
    rw [headD_snoc hS, hR, hP, hL, hpop, if_neg hr, if_neg hr, List.length_append, List.length_append, Nat.add_sub_add_right]
/-- a row that belongs to p takes all greater margins off -/
theorem step_fits {S : List Nat} {p : Nat} {r : Nat × Ln} (hp : p < 5) (ha : ∀ a ∈ S, p < a) (hf : Fits r p) :
    mout (S ++ [p]) r = List.replicate S.length 6 ++ signNums (r.2.drop (p - r.1)) ++ [4] ∧ mnext (S ++ [p]) r = [p] ∧ r.2.drop (p - r.1) ≠ [] := by
  obtain ⟨h1, h2⟩ := hf
  have hP : pushed (S ++ [p]) r = S ++ [p] := by
    unfold pushed
    rw [if_neg]
    rintro ⟨_, q⟩
    cases S with
    | nil => simp at q; omega
    | cons a t => have := ha a (.head _); simp at q; omega
  have hpu : ¬ (r.2 ≠ [] ∧ (S ++ [p]).headD 0 < r.1) := by
    rintro ⟨_, q⟩
    cases S with
    | nil => simp at q; omega
    | cons a t => have := ha a (.head _); simp at q; omega
  have hLe : levelOf (S ++ [p]) r.1 = p := by
    rw [level_snoc, if_pos h1]
    have : p ≤ levelOf S r.1 := by
      rcases Nat.lt_or_ge (levelOf S r.1) 9 with q | q
      · exact Nat.le_of_lt (ha _ (level_mem q))
      · omega
    omega
  have hR : restOf (S ++ [p]) r = r.2.drop (p - r.1) := by unfold restOf; rw [hP, hLe]
  have hne : r.2.drop (p - r.1) ≠ [] := fun q => by
    have := List.drop_eq_nil_iff.mp q
    omega
  have hpop : poppedTo (S ++ [p]) p = [p] := by
    unfold poppedTo
    rw [List.dropWhile_append_of_pos (by intro a h; simpa using ha a h)]
    simp
  refine ⟨?_, ?_, hne⟩
  · unfold mout
    rw [if_neg hpu, hR, if_neg hne, hP, hLe, hpop]
    simp
  · unfold mnext
    rw [hR, if_neg hne, hP, hLe, hpop]
/-- a blank row at the top -/
theorem step_blank {p : Nat} {r : Nat × Ln} (G : GoodR r) (hp : p < 5) (hf : ¬ Fits r p) (hb : r.2 = [] ∨ r.1 ≤ p) :
    mout [p] r = [63, ((r.1 + r.2.length - p : Nat) : Int)] ∧ mnext [p] r = [p] := by
  have hm := G.1
  have hl := pieces_len _ G.2
  have hpu : ¬ (r.2 ≠ [] ∧ [p].headD 0 < r.1) := by
    rintro ⟨q1, q2⟩
    rcases hb with h | h
    · exact q1 h
    · simp at q2; omega
  have hP : pushed [p] r = [p] := by unfold pushed; rw [if_neg hpu]
  have hR : restOf [p] r = [] := by
    unfold restOf
    rw [hP]
    refine List.drop_eq_nil_of_le ?_
    rcases hb with h | h
    · rw [h]; simp
    · have h2 : r.1 + r.2.length ≤ p := Nat.le_of_not_lt fun q => hf ⟨h, q⟩
      have : levelOf [p] r.1 = p := by
        have := level_snoc (S := []) (m := r.1) (p := p)
        simp only [List.nil_append] at this
        rw [this, if_pos h]
        simp [levelOf]; omega
      omega
  constructor
  · unfold mout; rw [if_neg hpu, hR, hP]; simp
  · unfold mnext; rw [hR, if_pos rfl, hP]
/-- a row further in: its margin is put on -/
theorem step_push {p : Nat} {r : Nat × Ln} (G : GoodR r) (h1 : p < r.1) (h2 : r.2 ≠ []) :
    mout [p] r = [5] ++ mout [r.1] r ∧ mnext [p] r = mnext [r.1] r ++ [p] ∧ mnext [r.1] r = [r.1] := by
  have hm := G.1
  have hlen : 0 < r.2.length := List.length_pos_iff.mpr h2
  have hP : pushed [p] r = [r.1, p] := by unfold pushed; rw [if_pos ⟨h2, by simpa using h1⟩]
  have hP' : pushed [r.1] r = [r.1] := by unfold pushed; rw [if_neg]; rintro ⟨_, q⟩; simp at q
  have hL : levelOf [r.1, p] r.1 = r.1 := by
    have h3 : ¬ r.1 ≤ p := by omega
    unfold levelOf; simp [h3]; omega
  have hL' : levelOf [r.1] r.1 = r.1 := by unfold levelOf; simp; omega
  have hR : restOf [p] r = r.2 := by unfold restOf; rw [hP, hL]; simp
  have hR' : restOf [r.1] r = r.2 := by unfold restOf; rw [hP', hL']; simp
  have hq : poppedTo [r.1, p] r.1 = [r.1, p] := by unfold poppedTo; simp
  have hq' : poppedTo [r.1] r.1 = [r.1] := by unfold poppedTo; simp
  have hn : mnext [r.1] r = [r.1] := by unfold mnext; rw [hR', if_neg h2, hP', hL', hq']
  refine ⟨?_, ?_, hn⟩
  · unfold mout
    rw [if_pos ⟨h2, by simpa using h1⟩, hR, if_neg h2, hP, hL, hq, hR', if_neg h2, hP', hL', hq', if_neg (by rintro ⟨_, q⟩; simp at q)]
    simp
  · rw [hn]; unfold mnext; rw [hR, if_neg h2, hP, hL, hq]; rfl
/-! ### lines and rows -/
theorem cutL_ge {k : Nat} {r : Nat × Ln} (h : k ≤ 9 + r.1) : cutL k r = List.replicate (9 + r.1 - k) 32 ++ r.2 := by
  unfold cutL
  rw [List.drop_append, List.drop_replicate, List.length_replicate, Nat.sub_eq_zero_of_le h]
  rfl
theorem cutL_le {k : Nat} {r : Nat × Ln} (h : 9 + r.1 ≤ k) : cutL k r = r.2.drop (k - (9 + r.1)) := by
  unfold cutL
  rw [List.drop_append, List.drop_replicate, List.length_replicate, Nat.sub_eq_zero_of_le h]
  rfl
theorem cutL_drop {k d : Nat} {r : Nat × Ln} : (cutL k r).drop d = cutL (k + d) r := by unfold cutL; rw [List.drop_drop]
theorem cutL_len {k : Nat} {r : Nat × Ln} : (cutL k r).length = 9 + r.1 + r.2.length - k := by unfold cutL; simp
theorem replicate_pos {n : Nat} (h : 0 < n) : List.replicate n 32 = 32 :: List.replicate (n - 1) 32 := by
  cases n with
  | zero => omega
  | succ n => rfl
theorem deeper_iff {p : Nat} {r : Nat × Ln} (G : GoodR r) : deeperL (cutL (9 + p) r) = !decide (Fits r p) := by
  have hnb := pieces_noblank _ G.2
  rcases Nat.lt_or_ge p r.1 with h | h
  · have hf : ¬ Fits r p := fun q => by have := q.1; omega
    rw [cutL_ge (by omega), replicate_pos (by omega), decide_eq_false hf]
    rfl
  · rw [cutL_le (by omega)]
    rcases Nat.lt_or_ge p (r.1 + r.2.length) with h2 | h2
    · rw [decide_eq_true (show Fits r p from ⟨h, h2⟩)]
      have hd : r.2.drop (9 + p - (9 + r.1)) ≠ [] := fun q => by have := List.drop_eq_nil_iff.mp q; omega
      cases e : r.2.drop (9 + p - (9 + r.1)) with
      | nil => exact absurd e hd
      | cons c t =>
        have hc : c ≠ 32 := hnb c (List.mem_of_mem_drop (i := 9 + p - (9 + r.1)) (by rw [e]; exact List.Mem.head _))
        simp [deeperL, hc]
    · rw [decide_eq_false (fun q => by have := q.2; omega), List.drop_eq_nil_of_le (by omega)]
      rfl
theorem blank_iff {p : Nat} {r : Nat × Ln} (G : GoodR r) (hf : ¬ Fits r p) : (cutL (9 + p) r).all (· == 32) = true ↔ (r.2 = [] ∨ r.1 ≤ p) := by
  have hnb := pieces_noblank _ G.2
  constructor
  · intro h
    rcases Nat.lt_or_ge p r.1 with h1 | h1
    · left
      rw [cutL_ge (by omega), List.all_append, Bool.and_eq_true] at h
      cases e : r.2 with
      | nil => rfl
      | cons c t =>
        have := hnb c (e ▸ .head _)
        rw [e] at h
        simp [this] at h
    · exact .inr h1
  · rintro (h | h)
    · rcases Nat.lt_or_ge p r.1 with h1 | h1
      · rw [cutL_ge (by omega), h]; simp
      · rw [cutL_le (by omega), h]; simp
    · rw [cutL_le (by omega), List.drop_eq_nil_of_le]
      · rfl
      · have := Nat.le_of_not_lt fun q => hf ⟨h, q⟩
        omega
theorem leadOf_blanks {c : Nat} {t : Ln} (hc : c ≠ 32) : ∀ n, leadOf (List.replicate n 32 ++ c :: t) = n
  | 0 => by cases t <;> simp [leadOf, hc]
  | n + 1 => by
    have ih := leadOf_blanks (t := t) hc n
    cases n with
    | zero => simp only [List.replicate, List.cons_append, List.nil_append] at ih ⊢; rw [leadOf]; simp [ih]
    | succ n => simp only [List.replicate, List.cons_append] at ih ⊢; rw [leadOf]; simp [ih]
theorem leadOf_allblank : ∀ n, leadOf (List.replicate n 32) = n - 1
  | 0 => rfl
  | 1 => rfl
  | n + 2 => by
    have ih := leadOf_allblank (n + 1)
    simp only [List.replicate] at ih ⊢
    rw [leadOf, if_pos rfl, ih]; omega
theorem lead_piece {k : Nat} {r : Nat × Ln} (G : GoodR r) (h : k ≤ 9 + r.1) (hn : r.2 ≠ []) : leadOf (cutL k r) = 9 + r.1 - k := by
  rw [cutL_ge h]
  cases e : r.2 with
  | nil => exact absurd e hn
  | cons c t => exact leadOf_blanks (pieces_noblank _ G.2 c (e ▸ .head _)) _
theorem lead_blank {k : Nat} {r : Nat × Ln} (h : k ≤ 9 + r.1) (hn : r.2 = []) : leadOf (cutL k r) = 9 + r.1 - k - 1 := by
  rw [cutL_ge h, hn, List.append_nil]; exact leadOf_allblank _
/-! ### the run -/
theorem mrun_acc (S : List Nat) (t : List Int) : ∀ rows, rows.foldl (fun st r => (st.1 ++ mout st.2 r, mnext st.2 r)) (t, S) = (t ++ (mrun S rows).1, (mrun S rows).2) := by
  intro rows
  unfold mrun
  suffices h : ∀ (t u : List Int) S, rows.foldl (fun st r => (st.1 ++ mout st.2 r, mnext st.2 r)) (t ++ u, S) = (t ++ (rows.foldl (fun st r => (st.1 ++ mout st.2 r, mnext st.2 r)) (u, S)).1, (rows.foldl (fun st r => (st.1 ++ mout st.2 r, mnext st.2 r)) (u, S)).2) by
    simpa using h t [] S
  induction rows with
  | nil => intro t u S; rfl
  | cons r rs ih => intro t u S; simp only [List.foldl_cons]; rw [List.append_assoc]; exact ih t _ _
theorem mrun_snoc (S : List Nat) (rows : List (Nat × Ln)) (r : Nat × Ln) : mrun S (rows ++ [r]) = ((mrun S rows).1 ++ mout (mrun S rows).2 r, mnext (mrun S rows).2 r) := by
  unfold mrun; rw [List.foldl_append]; rfl
/-- what by_parts has told and kept, beside the pile -/
def Beside (p : Nat) (pre : List (Nat × Ln)) (st : List Int × List Ln) : Prop :=
  (st.2 = [] ∧ mrun [p] pre = (st.1, [p])) ∨
  ∃ r ir S'', p < r.1 ∧ r.2 ≠ [] ∧ (∀ x ∈ r :: ir, x ∈ pre) ∧ (r :: ir).length < pre.length ∧ st.2 = (r :: ir).map (cutL (9 + p)) ∧ (mrun [r.1] (r :: ir)).2 = S'' ∧ mrun [p] pre = (st.1 ++ [5] ++ (mrun [r.1] (r :: ir)).1, S'' ++ [p]) ∧ S'' ≠ [] ∧ ∀ a ∈ S'', p < a
theorem parts_pile : ∀ (n : Nat) (rows : List (Nat × Ln)) (k p : Nat), rows.length ≤ n → rows ≠ [] → (∀ r ∈ rows, GoodR r) → p < 5 → k + leadOf (cutL k (rows.headD (0, []))) = 9 + p →
    (Fits (rows.headD (0, [])) p ∨ ((rows.headD (0, [])).2 = [] )) →
    partsF n (rows.map (cutL k)) = (mrun [p] rows).1 ++ List.replicate ((mrun [p] rows).2.length - 1) 6
  | 0, rows, _, _, h, hn, _, _, _, _ => absurd (List.length_eq_zero_iff.mp (Nat.le_zero.mp h)) hn
  | n + 1, rows, k, p, hlen, hne, G, hp, hk, hfirst => by
    have IH := parts_pile n
    have hded : dedentL (rows.map (cutL k)) = rows.map (cutL (9 + p)) := by
      unfold dedentL
      have e : (rows.map (cutL k)).headD [] = cutL k (rows.headD (0, [])) := by
        cases rows with
        | nil => exact absurd rfl hne
        | cons r t => rfl
      rw [e, List.map_map]
      refine List.map_congr_left fun r _ => ?_
      show (cutL k r).drop _ = _
      rw [cutL_drop, hk]
    -- closing an inner part
    have close : ∀ pre st, Beside p pre st → pre.length ≤ n + 1 → (∀ r ∈ pre, GoodR r) →
        (closeL (partsF n) st).2 = [] ∧ (closeL (partsF n) st).1 = (mrun [p] pre).1 ++ List.replicate ((mrun [p] pre).2.length - 1) 6 := by
      rintro pre st (⟨h1, h2⟩ | ⟨r, ir, S'', h1, h2, hin, hlt, h3, h4, h5, h6, h7⟩) hl Gp
      · unfold closeL
        rw [if_pos h1, h2]
        exact ⟨h1, by simp⟩
      · unfold closeL
        have hne2 : st.2 ≠ [] := by rw [h3]; exact List.cons_ne_nil _ _
        rw [if_neg hne2, h5]
        refine ⟨rfl, ?_⟩
        have hG := Gp r (hin r (.head _))
        have hin1 : r.1 < 5 := hG.1
        have := IH (r :: ir) (9 + p) r.1 (by omega) (List.cons_ne_nil _ _) (fun x hx => Gp x (hin x hx)) hin1
          (by rw [List.headD_cons, lead_piece hG (by omega) h2]; omega) (.inl ⟨Nat.le_refl _, by have := List.length_pos_iff.mpr h2; simpa using this⟩)
        rw [h3, this, h4]
        obtain ⟨a, t, rfl⟩ := List.exists_cons_of_ne_nil h6
        simp only [List.length_append, List.length_cons, List.length_nil, List.append_assoc, Nat.add_sub_cancel, Nat.zero_add]
        rw [← List.replicate_succ']
    -- one more line
    have step : ∀ pre st r, Beside p pre st → pre.length < n + 1 → (∀ x ∈ pre, GoodR x) → GoodR r → (pre = [] → Fits r p ∨ r.2 = []) → Beside p (pre ++ [r]) (stepL (partsF n) st (cutL (9 + p) r)) := by
      intro pre st r hB hl Gp Gr h0
      by_cases hf : Fits r p
      · -- belongs to p
        have hd : deeperL (cutL (9 + p) r) = false := by rw [deeper_iff Gr, decide_eq_true hf]; rfl
        obtain ⟨c1, c2⟩ := close pre st hB (Nat.le_of_lt hl) Gp
        unfold stepL
        rw [if_neg (by rw [hd]; exact Bool.false_ne_true)]
        refine .inl ⟨c1, ?_⟩
        have hcut : cutL (9 + p) r = r.2.drop (p - r.1) := by rw [cutL_le (by have := hf.1; omega)]; congr 1; omega
        rw [mrun_snoc, c2, hcut]
        have key : ∀ S, (∀ a ∈ S, p < a) → (mrun [p] pre).2 = S ++ [p] → ((mrun [p] pre).1 ++ mout (mrun [p] pre).2 r, mnext (mrun [p] pre).2 r) =
            ((mrun [p] pre).1 ++ List.replicate ((mrun [p] pre).2.length - 1) 6 ++ numbersL (r.2.drop (p - r.1)) ++ [4], [p]) := by
          intro S hS e
          obtain ⟨s1, s2, s3⟩ := step_fits (S := S) hp hS hf
          rw [e, s1, s2, pieces_nums Gr.2 _ s3]
          simp [List.append_assoc]
        rcases hB with ⟨_, h2⟩ | ⟨r', ir, S'', _, _, _, _, _, _, h5, _, h7⟩
        · exact key [] (fun _ h => nomatch h) (by rw [h2]; rfl)
        · exact key S'' h7 (by rw [h5])
      · have hd : deeperL (cutL (9 + p) r) = true := by rw [deeper_iff Gr, decide_eq_false hf]; rfl
        unfold stepL
        rw [if_pos hd]
        rcases hB with ⟨h1, h2⟩ | ⟨r', ir, S'', h1, h2, hin, hlt, h3, h4, h5, h6, h7⟩
        · by_cases hb : (cutL (9 + p) r).all (· == 32) = true
          · rw [if_pos ⟨h1, hb⟩]
            refine .inl ⟨h1, ?_⟩
            obtain ⟨s1, s2⟩ := step_blank Gr hp hf ((blank_iff Gr hf).mp hb)
            rw [mrun_snoc, h2, s1, s2, cutL_len]
            simp only [Prod.mk.injEq, List.append_cancel_left_eq, List.cons.injEq, and_true, true_and]
            omega
          · rw [if_neg (fun q => hb q.2)]
            have hnb : ¬ (r.2 = [] ∨ r.1 ≤ p) := fun q => hb ((blank_iff Gr hf).mpr q)
            have hm : p < r.1 := Nat.lt_of_not_le fun q => hnb (.inr q)
            have hpc : r.2 ≠ [] := fun q => hnb (.inl q)
            have hpre : pre ≠ [] := fun q => (h0 q).elim hf hpc
            obtain ⟨s1, s2, s3⟩ := step_push Gr hm hpc
            refine .inr ⟨r, [], _, hm, hpc, ?_, ?_, ?_, rfl, ?_, ?_, ?_⟩
            · intro x hx; rw [List.mem_singleton.mp hx]; simp
            · have := List.length_pos_iff.mpr hpre; simp; omega
            · rw [h1]; rfl
            · rw [mrun_snoc, h2]
              simp only [mrun, List.foldl_cons, List.foldl_nil, List.nil_append]
              rw [s1, s2, List.append_assoc]
            · simp only [mrun, List.foldl_cons, List.foldl_nil]; rw [s3]; exact List.cons_ne_nil _ _
            · simp only [mrun, List.foldl_cons, List.foldl_nil]; rw [s3]; intro a ha; rw [List.mem_singleton.mp ha]; exact hm
        · rw [if_neg (fun q => by rw [h3] at q; exact absurd q.1 (List.cons_ne_nil _ _))]
          obtain ⟨o1, o2, o3, o4⟩ := step_over Gr hp h6 h7 hf
          refine .inr ⟨r', ir ++ [r], mnext S'' r, h1, h2, ?_, ?_, ?_, ?_, ?_, o3, o4⟩
          · intro x hx
            rw [← List.cons_append] at hx
            rcases List.mem_append.mp hx with q | q
            · exact List.mem_append_left _ (hin x q)
            · exact List.mem_append_right _ q
          · simp only [List.length_cons, List.length_append, List.length_nil] at hlt ⊢; omega
          · rw [h3, ← List.cons_append, List.map_append]; rfl
          · rw [← List.cons_append, mrun_snoc, h4]
          · rw [← List.cons_append, mrun_snoc, mrun_snoc, h5]
            simp only
            rw [h4, o1, o2, List.append_assoc]
    -- all lines
    have all : ∀ (post pre : List (Nat × Ln)) st, rows = pre ++ post → Beside p pre st → Beside p rows ((post.map (cutL (9 + p))).foldl (stepL (partsF n)) st) := by
      intro post
      induction post with
      | nil => intro pre st e hB; rw [List.append_nil] at e; rw [e]; exact hB
      | cons r post ih =>
        intro pre st e hB
        simp only [List.map_cons, List.foldl_cons]
        have hl : pre.length < n + 1 := by
          have : rows.length = pre.length + (post.length + 1) := by rw [e]; simp
          omega
        refine ih (pre ++ [r]) _ (by rw [e]; simp) (step pre st r hB hl (fun x hx => G x (by rw [e]; exact List.mem_append_left _ hx)) (G r (by rw [e]; simp)) fun q => ?_)
        have : rows.headD (0, []) = r := by rw [e, q]; rfl
        rw [← this]; exact hfirst
    have fin := all rows [] ([], []) rfl (.inl ⟨rfl, rfl⟩)
    unfold partsF
    rw [hded]
    exact (close rows _ fin hlen G).2
/-- THE PLAIN LAW -/
theorem plain_law (rows : List (Nat × Ln)) (ahead : Nat) (hn : rows.length ≤ 12) (hne : rows ≠ []) (G : ∀ r ∈ rows, GoodR r) (h0 : rows.headD (0, []) ≠ (0, [])) (ha : ahead ≤ 8) :
    partsF 12 (rows.map fun r => List.replicate (ahead + r.1) 32 ++ r.2) = pileL rows := by
  have e : (rows.map fun r => List.replicate (ahead + r.1) 32 ++ r.2) = rows.map (cutL (9 - ahead)) := by
    refine List.map_congr_left fun r _ => ?_
    rw [cutL_ge (by omega)]
    congr 2; omega
  rw [e]
  obtain ⟨r, t, rfl⟩ := List.exists_cons_of_ne_nil hne
  have Gr := G r (.head _)
  have hm := Gr.1
  simp only [List.headD_cons] at h0
  unfold pileL
  refine parts_pile 12 (r :: t) (9 - ahead) (baseOf r) hn hne G ?_ ?_ ?_
  · unfold baseOf; split <;> omega
  · rw [List.headD_cons]
    unfold baseOf
    split
    · rename_i hb
      have : r.1 ≠ 0 := fun q => h0 (by cases r; simp_all)
      rw [lead_blank (by omega) hb]; omega
    · rename_i hb
      rw [lead_piece Gr (by omega) hb]; omega
  · rw [List.headD_cons]
    unfold baseOf
    split
    · rename_i hb; exact .inr hb
    · rename_i hb
      exact .inl ⟨Nat.le_refl _, by have := List.length_pos_iff.mpr hb; simpa using this⟩
end Mine
end
section
open PySem PySem.W PyProof.Rows
namespace Mine
set_option maxRecDepth 100000 in
set_option maxHeartbeats 8000000 in
open_top hd for PySem.Challenge.rw_rs0068_01
end Mine
end
section
open PySem PySem.W PyProof.Rows
set_option maxRecDepth 100000
namespace Mine
noncomputable abbrev KK (w : World) : Frag := hd.heap_39 w.params
/-- what a heap of the run holds at every place: the text's own objects and the names -/
structure Gd (w : World) (p : Program) (loose : List Str) (mg mb : Str → Option Value) (h : Heap) : Prop where
  X : (KK w).In h
  T : TopRead p loose mg mb h
theorem Gd.keeps {w : World} {p : Program} {loose : List Str} {mg mb : Str → Option Value} {h h' : Heap} (G : Gd w p loose mg mb h) (hk : ∀ b o, h.get? b = some o → h'.get? b = some o) : Gd w p loose mg mb h' :=
  ⟨G.X.keeps hk, G.T.keeps hk⟩
/-- a line as a text -/
def S (l : Ln) : Str := ⟨l.toArray⟩
def joinL (ls : List Ln) : Str := Str.join (S [10]) (ls.map S)
theorem S_inj {a b : Ln} (h : S a = S b) : a = b := by
  have := congrArg (fun x : Str => x.cps.toList) h
  simpa [S] using this
theorem S_cps (x : Str) : S x.cps.toList = x := by cases x; simp [S]
theorem S_len (l : Ln) : (S l).length = l.length := by simp [S, Str.length]
theorem S_app (a b : Ln) : S a ++ S b = S (a ++ b) := by apply Str.ext'; rw [Str.cps_append]; simp [S]
theorem S_beq (a b : Ln) : (S a == S b) = (a == b) := by
  rw [Bool.eq_iff_iff, beq_iff_eq, beq_iff_eq]
  exact ⟨S_inj, fun h => by rw [h]⟩
theorem S_bne (a b : Ln) : (S a != S b) = (a != b) := by unfold bne; rw [S_beq]
theorem joinL_cons2 (a b : Ln) (r : List Ln) : joinL (a :: b :: r) = S a ++ S [10] ++ joinL (b :: r) := rfl
theorem joinL_one (a : Ln) : joinL [a] = S a := rfl
/-- signs of a joined text -/
def flatL : List Ln → Ln
  | [] => []
  | [a] => a
  | a :: b :: r => a ++ 10 :: flatL (b :: r)
theorem joinL_flat : ∀ ls : List Ln, joinL ls = S (flatL ls)
  | [] => rfl
  | [_] => rfl
  | a :: b :: r => by rw [joinL_cons2, joinL_flat (b :: r), S_app, S_app, List.append_assoc]; rfl
theorem append_free : ∀ {a a' : Ln} {b b' : Ln}, (10 ∉ a) → (10 ∉ a') → a ++ 10 :: b = a' ++ 10 :: b' → a = a' ∧ b = b'
  | [], [], _, _, _, _, h => ⟨rfl, by simpa using h⟩
  | [], c :: r, _, _, _, h2, h => by simp at h; exact absurd h.1 (fun q => h2 (by rw [← q]; exact List.Mem.head _))
  | c :: r, [], _, _, h1, _, h => by simp at h; exact absurd h.1 (fun q => h1 (by rw [q]; exact List.Mem.head _))
  | c :: r, d :: q, b, b', h1, h2, h => by
    simp only [List.cons_append, List.cons.injEq] at h
    obtain ⟨e1, e2⟩ := append_free (fun x => h1 (.tail _ x)) (fun x => h2 (.tail _ x)) h.2
    exact ⟨by rw [h.1, e1], e2⟩
theorem flatL_inj : ∀ {ls ms : List Ln}, ls ≠ [] → ms ≠ [] → (∀ l ∈ ls, 10 ∉ l) → (∀ l ∈ ms, 10 ∉ l) → flatL ls = flatL ms → ls = ms
  | [], _, h, _, _, _, _ => absurd rfl h
  | _, [], _, h, _, _, _ => absurd rfl h
  | [a], [b], _, _, _, _, e => by rw [show a = b from e]
  | [a], b :: c :: r, _, _, h1, _, e => absurd (show 10 ∈ a by rw [show a = b ++ 10 :: flatL (c :: r) from e]; simp) (h1 a (.head _))
  | b :: c :: r, [a], _, _, _, h1, e => absurd (show 10 ∈ a by rw [show a = b ++ 10 :: flatL (c :: r) from Eq.symm e]; simp) (h1 a (.head _))
  | a :: b :: r, a' :: b' :: r', _, _, h1, h2, e => by
    obtain ⟨e1, e2⟩ := append_free (h1 a (.head _)) (h2 a' (.head _)) e
    rw [e1, flatL_inj (List.cons_ne_nil _ _) (List.cons_ne_nil _ _) (fun l hl => h1 l (.tail _ hl)) (fun l hl => h2 l (.tail _ hl)) e2]
theorem split_joinL {ls : List Ln} (hne : ls ≠ []) (hf : ∀ l ∈ ls, 10 ∉ l) : Txt.split (joinL ls) (S [10]) = ls.map S := by
  have h1 := StrLaws.join_split (joinL ls) (S [10])
  have h2 := StrLaws.split_free (joinL ls) 10
  have h2' : ∀ l ∈ (Txt.split (joinL ls) (S [10])).map (fun x : Str => x.cps.toList), 10 ∉ l := by
    intro l hl
    obtain ⟨x, hx, rfl⟩ := List.mem_map.mp hl
    exact h2 x hx
  have e : Txt.split (joinL ls) (S [10]) = ((Txt.split (joinL ls) (S [10])).map (fun x : Str => x.cps.toList)).map S := by
    rw [List.map_map]
    conv => lhs; rw [← List.map_id (Txt.split (joinL ls) (S [10]))]
    exact List.map_congr_left fun x _ => (S_cps x).symm
  generalize hM : (Txt.split (joinL ls) (S [10])).map (fun x : Str => x.cps.toList) = ms at e h2'
  rw [e] at h1
  have h3 : joinL ms = joinL ls := h1
  rw [joinL_flat, joinL_flat] at h3
  have hms : ms ≠ [] := by
    rintro rfl
    have h4 : Txt.split (joinL ls) (S [10]) = [] := e
    obtain ⟨p, r, hp⟩ : ∃ p r, Txt.split (joinL ls) (S [10]) = p :: r := by
      unfold Txt.split
      split
      · exact ⟨_, _, rfl⟩
      · split
        · exact ⟨_, _, rfl⟩
        · rw [StrLaws.partsBetween_eq]; exact StrLaws.partsFrom_ne _ _ _ _
    rw [h4] at hp; cases hp
  rw [e, flatL_inj hms hne h2' hf (S_inj h3)]
abbrev NoE : Value → Shared → Prop := fun _ _ => False
section
variable {prog : Program} {w : World} {A : Around} {E : Value → Shared → Prop} {s : Shared} {env : Env}
/-- a for, by what holds between its turns; nothing raises -/
theorem for_raw {target iter : Expr} {body : List Stmt} {pos : Pos} {Q : Flow → Shared → Prop}
    (h : wpAny (model prog w) A (eval iter env) (fun xv s₁ => wpAny (model prog w) A (pyIter xv) (fun it s₂ => ∃ (I : Nat → Shared → Prop) (n : Nat), I n s₂ ∧ ∀ n s, I n s →
      wpAny (model prog w) A (pyNext it) (fun r s₁ => match r with
        | none => Q .next s₁
        | some v => wpAny (model prog w) A (letOwnedTupleGo target it v) (fun _ s₁' => wpAny (model prog w) A (assign target env v) (fun _ s₂ => wpAny (model prog w) A (execs body env) (fun f s₃ => match f with
            | .next | .cont => ∃ m, m < n ∧ I m s₃
            | .brk => Q .next s₃
            | .ret v => Q (.ret v) s₃) NoE s₂) NoE s₁') NoE s₁) NoE s) NoE s₁) NoE s)
    (hs : ∀ x, foldedSetIterable iter env x = pure x := by intro _; rfl) :
    wpAny (model prog w) A (exec (.For target iter body [] pos) env) Q NoE s := by
  refine wpAny_For (wpAny_mono h (fun xv s₁ h₁ => wpAny_mono h₁ (fun it s₂ h₂ => ?_) fun _ _ e => e) fun _ _ e => e) hs
  obtain ⟨I, n, hI, turn⟩ := h₂
  refine codeAny_forLoop_any I (fun n s hI => ?_) n hI
  refine wpAny_mono (turn n s hI) (fun r s₁ h₁ => ?_) fun _ _ e => e.elim
  cases r with
  | none => exact wpAny_execs_nil h₁
  | some v => exact wpAny_mono h₁ (fun _ s₁' h₂ => wpAny_mono h₂ (fun _ s₂ h₃ => wpAny_mono h₃ (fun f s₃ h₄ => by cases f <;> exact h₄) fun _ _ e => e.elim) fun _ _ e => e.elim) fun _ _ e => e.elim
theorem frGrow {h₀ h h' : Heap} {L : Addr} {m : Str → Option Value} (F : Fr h₀ L h m) (hk : ∀ b o, h.get? b = some o → h'.get? b = some o) : Fr h₀ L h' m :=
  ⟨F.ns.keeps hk, fun b o e => hk b o (F.keep b o e), F.above⟩
theorem newsGrow {h₀ h h' : Heap} {L : Addr} {news : List (Addr × Obj)} (N : News h₀ L h news) (hk : ∀ b o, h.get? b = some o → h'.get? b = some o) : News h₀ L h' news :=
  fun p hp => ⟨hk _ _ (N p hp).1, (N p hp).2⟩
theorem newsSub {h₀ h : Heap} {L : Addr} {news news' : List (Addr × Obj)} (N : News h₀ L h news) (hs : ∀ p ∈ news', p ∈ news) : News h₀ L h news' := fun p hp => N p (hs p hp)
end
end Mine
end
section
open PySem PySem.W PyProof.Rows Builtin Builtin.Str StrLaws
set_option maxRecDepth 100000
namespace Mine
theorem sliceIdx_clip (a b len : Nat) : strSliceIndices (some (a : Int)) (some (b : Int)) 1 len = strSliceIndices (some ((min a len : Nat) : Int)) (some ((min b len : Nat) : Int)) 1 len := by
  have h1 : ¬ ((a : Int) < 0) := by omega
  have h2 : ¬ ((b : Int) < 0) := by omega
  have h3 : ¬ (((min a len : Nat) : Int) < 0) := by omega
  have h4 : ¬ (((min b len : Nat) : Int) < 0) := by omega
  have e1 : max (0 : Int) (min (a : Int) (len : Int)) = max (0 : Int) (min ((min a len : Nat) : Int) (len : Int)) := by omega
  have e2 : max (0 : Int) (min (b : Int) (len : Int)) = max (0 : Int) (min ((min b len : Nat) : Int) (len : Int)) := by omega
  simp only [strSliceIndices, h1, h2, h3, h4, if_false, show ((1 : Int) > 0) = True from by simp, if_true]
  rw [e1, e2]
theorem slice_ab (l : Ln) {a b : Nat} (hab : a ≤ b) : Txt.slice (S l) (some (a : Int)) (some (b : Int)) = S ((l.drop a).take (b - a)) := by
  show sliceText (S l) (some (a : Int)) (some (b : Int)) = _
  have hl : (S l).length = l.length := S_len l
  have e : (strSliceIndices (some (a : Int)) (some (b : Int)) 1 (S l).length) = strSliceIndices (some ((min a l.length : Nat) : Int)) (some ((min b l.length : Nat) : Int)) 1 (S l).length := by
    rw [sliceIdx_clip, hl]
  have e2 : (l.drop (min a l.length)).take (min b l.length - min a l.length) = (l.drop a).take (b - a) := by
    rcases Nat.le_total a l.length with h | h
    · rw [Nat.min_eq_left h]
      rcases Nat.le_total b l.length with h' | h'
      · rw [Nat.min_eq_left h']
      · rw [Nat.min_eq_right h', List.take_of_length_le (by simp), List.take_of_length_le (by simp; omega)]
    · rw [Nat.min_eq_right h, List.drop_eq_nil_of_le h, List.drop_eq_nil_of_le (Nat.le_refl _)]; simp
  unfold sliceText
  rw [e, sliced_plain (S l) (a := min a l.length) (b := min b l.length) (by omega) (by rw [hl]; omega), strSliceIndices_plain (by omega) (by rw [hl]; omega)]
  rw [show (S l).cps.toList = l by simp [S], e2]
  split
  · rename_i hc
    simp only [beq_self_eq_true, Bool.true_and, beq_iff_eq, List.length_map, List.length_range, hl] at hc
    rw [← e2]
    have h1 : min a l.length = 0 := by omega
    have h2 : min b l.length = l.length := by omega
    rw [h1, h2]; simp
  · rfl
theorem slice_from (l : Ln) (a : Nat) : Txt.slice (S l) (some (a : Int)) none = S (l.drop a) := by
  rcases Nat.le_total a l.length with h | h
  · have : Txt.slice (S l) (some (a : Int)) none = Txt.slice (S l) (some (a : Int)) (some (l.length : Int)) := by
      show sliceText _ _ _ = sliceText _ _ _
      unfold sliceText
      rw [sliceIdx_none_hi, S_len]
    rw [this, slice_ab l h, List.take_of_length_le (by simp)]
  · have : Txt.slice (S l) (some (a : Int)) none = Txt.slice (S l) (some (a : Int)) (some (a : Int)) := by
      show sliceText _ _ _ = sliceText _ _ _
      unfold sliceText
      rw [sliceIdx_none_hi, S_len]
      have e : strSliceIndices (some (a : Int)) (some (l.length : Int)) 1 l.length = strSliceIndices (some (a : Int)) (some (a : Int)) 1 l.length := by
        rw [sliceIdx_clip a l.length, sliceIdx_clip a a]
        congr 3; omega
      rw [e]
    rw [this, slice_ab l (Nat.le_refl _), List.drop_eq_nil_of_le h]; simp
theorem slice_to (l : Ln) (b : Nat) : Txt.slice (S l) none (some (b : Int)) = S (l.take b) := by
  have : Txt.slice (S l) none (some (b : Int)) = Txt.slice (S l) (some ((0 : Nat) : Int)) (some (b : Int)) := by
    show sliceText _ _ _ = sliceText _ _ _
    unfold sliceText
    rw [sliceIdx_none_lo]; rfl
  rw [this, slice_ab l (Nat.zero_le _)]; simp
abbrev Grown (h h' : Heap) : Prop := ∀ b o, h.get? b = some o → h'.get? b = some o
theorem keptGrown {h : Heap} : KeptH (fun h' => Grown h h') := fun _ ob g b o e => Heap.get?_push_of_some ob (g b o e)
section
variable {prog : Program} {w : World} {A : Around} {E : Value → Shared → Prop} {s : Shared} {env : Env}
theorem cut_from {value lo : PySem.Expr} {p pos : Pos} {Q : Value → Shared → Prop}
    (h : wpAny (model prog w) A (eval value env) (fun xv s₁ => wpAny (model prog w) A (eval lo env) (fun iv s₂ => ∃ (l : Ln) (t : Tok) (a : Nat) (u : Tok), xv = .str (S l) t ∧ iv = .int a u ∧ l.length ≤ sizeLine ∧
      (∀ r, letTemporaryGo value (.str (S l) t) r = pure ()) ∧
      ∀ h' t' k, Grown s₂.heap h' → Q (.str (S (l.drop a)) t') { s₂ with heap := h', toks := k }) E s₁) E s)
    (hs : ∀ x t a, subscripted (.Slice (some lo) none none p) false (.str x t) (.ref a) = operate [.ref a, .str x t] (getItem (.str x t) (.ref a)) := by intro _ _ _; with_unfolding_all rfl) :
    wpAny (model prog w) A (eval (.Subscript value (.Slice (some lo) none none p) pos) env) Q E s := by
  refine Subscript_ (wpAny_mono h (fun xv s₁ h₁ => ?_) fun _ _ e => e)
  refine wpAny_Slice (wpAny_mono (show wpAny _ _ (evalPart (some lo) env) _ _ _ from h₁) (fun iv s₂ h₂ => ?_) fun _ _ e => e)
  obtain ⟨l, t, a, u, rfl, rfl, hl, ht, hq⟩ := h₂
  refine wpAny_pure (wpAny_pure ?_)
  refine tail_of_ItemOn (SBH.sliceItem_sn (P := fun h' => Grown s₂.heap h') keptGrown (fun _ _ e => e) (fun h' t' k g => ?_) (by rw [S_len]; exact hl)) (hs _ _ _) ht
  rw [slice_from]; exact hq h' t' k g
theorem cut_to {value hi : PySem.Expr} {p pos : Pos} {Q : Value → Shared → Prop}
    (h : wpAny (model prog w) A (eval value env) (fun xv s₁ => wpAny (model prog w) A (eval hi env) (fun iv s₂ => ∃ (l : Ln) (t : Tok) (a : Nat) (u : Tok), xv = .str (S l) t ∧ iv = .int a u ∧ l.length ≤ sizeLine ∧
      (∀ r, letTemporaryGo value (.str (S l) t) r = pure ()) ∧
      ∀ h' t' k, Grown s₂.heap h' → Q (.str (S (l.take a)) t') { s₂ with heap := h', toks := k }) E s₁) E s)
    (hs : ∀ x t a, subscripted (.Slice none (some hi) none p) false (.str x t) (.ref a) = operate [.ref a, .str x t] (getItem (.str x t) (.ref a)) := by intro _ _ _; with_unfolding_all rfl) :
    wpAny (model prog w) A (eval (.Subscript value (.Slice none (some hi) none p) pos) env) Q E s := by
  refine Subscript_ (wpAny_mono h (fun xv s₁ h₁ => ?_) fun _ _ e => e)
  refine wpAny_Slice (wpAny_pure ?_)
  refine wpAny_mono (show wpAny _ _ (evalPart (some hi) env) _ _ _ from h₁) (fun iv s₂ h₂ => ?_) fun _ _ e => e
  obtain ⟨l, t, a, u, rfl, rfl, hl, ht, hq⟩ := h₂
  refine wpAny_pure ?_
  refine tail_of_ItemOn (SBH.sliceItem_ns (P := fun h' => Grown s₂.heap h') keptGrown (fun _ _ e => e) (fun h' t' k g => ?_) (by rw [S_len]; exact hl)) (hs _ _ _) ht
  rw [slice_to]; exact hq h' t' k g
theorem cut_both {value lo hi : PySem.Expr} {p pos : Pos} {Q : Value → Shared → Prop}
    (h : wpAny (model prog w) A (eval value env) (fun xv s₁ => wpAny (model prog w) A (eval lo env) (fun av s₂ => wpAny (model prog w) A (eval hi env) (fun bv s₃ => ∃ (l : Ln) (t : Tok) (a b : Nat) (u v : Tok), xv = .str (S l) t ∧ av = .int a u ∧ bv = .int b v ∧ a ≤ b ∧ l.length ≤ sizeLine ∧
      (∀ r, letTemporaryGo value (.str (S l) t) r = pure ()) ∧
      ∀ h' t' k, Grown s₃.heap h' → Q (.str (S ((l.drop a).take (b - a))) t') { s₃ with heap := h', toks := k }) E s₂) E s₁) E s)
    (hs : ∀ x t a, subscripted (.Slice (some lo) (some hi) none p) false (.str x t) (.ref a) = operate [.ref a, .str x t] (getItem (.str x t) (.ref a)) := by intro _ _ _; with_unfolding_all rfl) :
    wpAny (model prog w) A (eval (.Subscript value (.Slice (some lo) (some hi) none p) pos) env) Q E s := by
  refine Subscript_ (wpAny_mono h (fun xv s₁ h₁ => ?_) fun _ _ e => e)
  refine wpAny_Slice (wpAny_mono (show wpAny _ _ (evalPart (some lo) env) _ _ _ from h₁) (fun av s₂ h₂ => ?_) fun _ _ e => e)
  refine wpAny_mono (show wpAny _ _ (evalPart (some hi) env) _ _ _ from h₂) (fun bv s₃ h₃ => ?_) fun _ _ e => e
  obtain ⟨l, t, a, b, u, v, rfl, rfl, rfl, hab, hl, ht, hq⟩ := h₃
  refine wpAny_pure ?_
  refine tail_of_ItemOn (SBH.sliceItem_ss (P := fun h' => Grown s₃.heap h') keptGrown (fun _ _ e => e) (fun h' t' k g => ?_) (by rw [S_len]; exact hl)) (hs _ _ _) ht
  rw [slice_ab l hab]; exact hq h' t' k g
end
end Mine
end
section
open PySem PySem.W PyProof.Rows
set_option maxRecDepth 100000
namespace Mine
section
variable {prog : Program} {w : World} {A : Around} {E : Value → Shared → Prop} {s : Shared} {env : Env} {h₀ : Heap}
/-- two plain names take a pair's items -/
theorem assign_pair {xi xc : Str} {pk pv pt : Pos} {x1 : Nat} {T : Addr} {v0 v1 : Value} {m : Str → Option Value} {Q : Unit → Shared → Prop} (hh : A.handled = none) (ht : s.heap.IsTuple T #[v0, v1])
    (hxi : env.kindOf xi = some .local) (hxc : env.kindOf xc = some .local) (hp : (env.scope.kind == .class || (env.scope.kind == .module && env.locals != env.globals)) = false)
    (F : Fr h₀ env.locals s.heap m)
    (h : ∀ h' tk, Fr h₀ env.locals h' (fun y => if y = xc then some v1 else if y = xi then some v0 else m y) → (∀ b o, b ≠ env.locals → s.heap.get? b = some o → h'.get? b = some o) → Q () { s with heap := h', toks := tk }) :
    wpAny (model prog w) A (assign (.Tuple [.Name xi pk, .Name xc pv] x1 pt) env (.ref T)) Q E s := by
  refine wpAny_assign_Tuple hh ht rfl rfl fun h₃ hx₃ => ?_
  have up₃ : ∀ b o, s.heap.get? b = some o → h₃.get? b = some o := fun b o x => hx₃ b o (Nat.ne_of_lt (Heap.lt_size x)) x
  have F₃ := frGrow F up₃
  show wpAny _ A (do holding [v1] (assign (.Name xi pk) env v0); do holding [] (assign (.Name xc pv) env v1); pure ()) _ _ _
  refine wpAny_bind (wpAny_holding (wpAny_assign_Name (wpAny_storeName_local hxi F₃.ns (fun h₄ hn₄ hs₄ => ?_) hp)))
  have F₄ := F₃.set hn₄ hs₄
  refine wpAny_bind (wpAny_holding (wpAny_assign_Name (wpAny_storeName_local hxc F₄.ns (fun h₅ hn₅ hs₅ => wpAny_pure ?_) hp)))
  exact h h₅ _ (F₄.set hn₅ hs₅) fun b o hb e => hs₅.extBut b o hb (hs₄.extBut b o hb (up₃ b o e))
/-- an item of a list at a place that is not below nought -/
theorem item_list {value slice : PySem.Expr} {l : Addr} {vs : List Value} {k : Int} {u : Tok} {v : Value} {Q : Value → Shared → Prop}
    (hl : s.heap.IsList l vs.toArray) (h0 : 0 ≤ k) (hhi : k < 2 ^ 63) (hx : vs[k.toNat]? = some v) (h : Q v s)
    (hs : subscripted slice false (.ref l) (.int k u) = operate [.ref l, .int k u] (getItem (.ref l) (.int k u)) := by with_unfolding_all rfl) :
    wpAny (model prog w) A (subscriptTail value slice (.ref l) (.int k u)) Q E s :=
  tail_any hl.typeIs slot_list_getitem.lookup (wpAny_getItem_list hl h0 hhi (by simpa using hx) h) hs
end
theorem draws_str {prog : Program} {w : World} {A : Around} (hh : A.handled = none) (it : Addr) (x : Str) (t : Tok) :
    Draws prog w A it [it] x.cps.size (fun i v => ∃ c u, x.cps[i]? = some c ∧ v = .str ⟨#[c]⟩ u) (fun i h => h.IsStrIter it (strIterType x) x t i) := by
  cases ha : x.cps.all (· < 128)
  · have : strIterType x = "str_iterator" := by simp [strIterType, ha]
    rw [this]; exact Draws.strWide hh it x t
  · have : strIterType x = "str_ascii_iterator" := by simp [strIterType, ha]
    rw [this]; exact Draws.strAscii hh it x t
theorem str_blank : Str.ofString " " = S [32] := by decide +kernel
theorem str_nl : Str.ofString "\n" = S [10] := by decide +kernel
theorem str_empty : Str.ofString "" = S [] := by decide +kernel
theorem lead_stop : ∀ (l : Ln) (i : Nat), (∀ j, j < i → l[j]? = some 32) → (∃ c, l[i]? = some c ∧ c ≠ 32) → leadOf l = i
  | [], i, _, ⟨c, h, _⟩ => by simp at h
  | [a], i, hj, ⟨c, h, _⟩ => by
    cases i with
    | zero => rfl
    | succ i => simp at h
  | a :: b :: r, i, hj, ⟨c, h, hc⟩ => by
    cases i with
    | zero => simp at h; subst h; simp [leadOf, hc]
    | succ i =>
      have h0 : a = 32 := by simpa using hj 0 (Nat.succ_pos _)
      have ih := lead_stop (b :: r) i (fun j q => by simpa using hj (j + 1) (by omega)) ⟨c, by simpa using h, hc⟩
      rw [leadOf, if_pos h0, ih]
theorem lead_all : ∀ (l : Ln), l ≠ [] → (∀ j, j < l.length → l[j]? = some 32) → leadOf l = l.length - 1
  | [], h, _ => absurd rfl h
  | [a], _, _ => rfl
  | a :: b :: r, _, hj => by
    have h0 : a = 32 := by simpa using hj 0 (by simp)
    have ih := lead_all (b :: r) (List.cons_ne_nil _ _) (fun j q => by simpa using hj (j + 1) (by simpa using q))
    rw [leadOf, if_pos h0, ih]; simp
theorem join_ok {ls : List Ln} (h : ls.length ≤ 100) (hB : ∀ y ∈ ls, y.length ≤ 10000) : JoinOk (S [10]) (ls.map S) = true := by
  unfold JoinOk
  rw [Bool.not_eq_true']
  refine StrLaws.joinFits (B := 10000) (fun y hy => ?_) ?_
  · obtain ⟨z, hz, rfl⟩ := List.mem_map.mp hy
    rw [S_len]; exact hB z hz
  · rw [List.length_map]
    have : (S [10]).length = 1 := rfl
    rw [this]; omega
set_option maxHeartbeats 1000000
theorem dedent_call {prog : Program} {w : World} {A : Around} {E : Value → Shared → Prop} {s : Shared} {p : Program} {loose : List Str} {mg mb : Str → Option Value} {t : Tok} {Q : Value → Shared → Prop}
    (G : Gd w p loose mg mb s.heap) (hd : A.depth < recursionLimit) (hh : A.handled = none) (ls : List Ln) (hne : ls ≠ []) (hnl : ∀ l ∈ ls, 10 ∉ l) (h0 : ls.headD [] ≠ []) (hsz : (joinL ls).length + 2 ≤ 10000) (hct : ls.length ≤ 100)
    (h : ∀ h' tk t', (∀ b o, s.heap.get? b = some o → h'.get? b = some o) → Q (.str (joinL (dedentL ls)) t') { s with heap := h', toks := tk }) :
    wpAny (model prog w) A (call (.ref 21) [.str (joinL ls) t]) Q E s := by
  have hsz2 : (joinL ls).length + 2 ≤ sizeLine := Nat.le_trans hsz (by decide)
  refine wpAny_call (call_plain_ret (binds := [("text", .str (joinL ls) t)]) hd (G.X 21 _ rfl) rfl G.T.nolimit (codeRec_of G.X rfl) rfl (locs rfl) (fun h₁ F => ?_))
  refine wpAny_execs_cons (wpAny_Assign_Name (MethodCall_ (ld F rfl (GM.split (callWith_method1 (spliced_more (Calls.Constant_str (spliced_none (splitN1 F News.nil rfl ?_ hsz2)))))))))
  intro l h2 k2 hl F N
  rw [str_nl, split_joinL hne hnl] at hl
  refine stN F N ?_
  intro h3 F N
  dsimp only
  generalize hD : h₁.objs.size = D at *
  have hlen : l.length = ls.length := by simpa using congrArg List.length hl
  obtain ⟨l0, lr, rfl⟩ := List.exists_cons_of_ne_nil hne
  obtain ⟨⟨x0, t0⟩, lt, rfl⟩ := List.exists_cons_of_ne_nil (l := l) (by rintro rfl; simp at hlen)
  simp only [List.map_cons, List.cons.injEq] at hl
  obtain ⟨rfl, hl⟩ := hl
  simp only [List.headD_cons] at h0
  -- the first loop
  refine wpAny_execs_cons (wpAny_mono (Q := fun f s' => f = .next ∧ ∃ h tk m t, s' = { s with heap := h, toks := tk } ∧ Fr s.heap s.heap.objs.size h m ∧ News s.heap s.heap.objs.size h [(D, { cls := .type "list", data := .seq (strValues ((S l0, t0) :: lt)).toArray })] ∧ m "lines" = some (.ref D) ∧ m "i" = some (.int (leadOf l0 : Nat) t)) ?loop1 ?cont1 (fun _ _ e => e))
  case loop1 =>
    refine For_pair3 s.heap hh rfl rfl rfl ?_ (fun _ => rfl)
    refine Call_ (nameX_B F G.X G.T rfl boot_enumerate (by decide) (callWith_type1 (spliced_more (Subscript_ (ld F rfl (wpAny_Constant_int (item_list (N.isList (.head _)) (by decide) (by decide) rfl (spliced_none (call_enumerate_str ?_)))))))))
    intro h4 he hit hsz4 hk4
    dsimp only at he hit hsz4 hk4 ⊢
    have F4 := frGrow F hk4
    have N4 := newsGrow N hk4
    have hDlt : D < h3.objs.size := Heap.lt_size (N _ (.head _)).1
    have hLlt : s.heap.objs.size < h3.objs.size := F.ns.lt
    have W := fun (A' : Around) (hh' : A'.handled = none) => WalksT.enumerateD (draws_str (prog := prog) (w := w) (A := A'.in1) hh' h3.objs.size (S l0) t0) (h3.objs.size + 1) (Nat.succ_ne_self _) (by simp) (by simp)
    refine wpAny_pyIter_enum he ?_
    refine ⟨_, _, _, _, _, _, _, (fun i v0 v1 => ∃ t c u, l0[i]? = some c ∧ v0 = .int i t ∧ v1 = .str (S [c]) u), _, _,
      (fun i m' news' => news' = [(D, { cls := .type "list", data := .seq (strValues ((S l0, t0) :: lt)).toArray })] ∧ m' "lines" = some (.ref D) ∧ (∀ j, j < i → l0[j]? = some 32) ∧ (0 < i → ∃ t, m' "i" = some (.int ((i - 1 : Nat) : Int) t))),
      rfl, W _ hh, ?_, ?_, ?_, ?_, ⟨⟨_, he⟩, hit⟩, F4, N4, ⟨rfl, rfl, fun _ h => absurd h (Nat.not_lt_zero _), fun h => absurd h (Nat.lt_irrefl _)⟩, ?_, ?_⟩
    · rintro i vals ⟨t, x, ⟨c, u, hc, rfl⟩, rfl⟩
      exact ⟨_, _, rfl, t, c, u, by simpa [S] using hc, rfl, rfl⟩
    · show s.heap.objs.size ∉ _
      simp only [List.mem_cons, List.not_mem_nil, or_false, not_or]
      exact ⟨Nat.ne_of_lt (by omega), Nat.ne_of_lt (by omega)⟩
    · intro b hb
      refine Heap.get?_none_of_le ?_
      simp only [List.mem_cons, List.not_mem_nil, or_false] at hb
      rcases hb with rfl | rfl <;> omega
    · intro q hq
      simp only [List.mem_cons, List.not_mem_nil, or_false] at hq
      subst hq
      simp only [List.mem_cons, List.not_mem_nil, or_false, not_or]
      exact ⟨Nat.ne_of_lt (by omega), Nat.ne_of_lt (by omega)⟩
    · rintro i v0 v1 m₁ news₁ s₁ own ⟨h5, tk5, rfl⟩ hi ⟨t, c, u, hc, rfl, rfl⟩ ⟨rfl, hm, hbl, hi2⟩ _ _ F5 N5
      refine wpAny_execs_cons (wpAny_If (wpAny_isTrue_Compare1 (ld F5 rfl (Calls.Constant_str (ne_str (wpAny_truthy_bool ?_))))))
      rw [str_blank, S_bne]
      by_cases hc32 : c = 32
      · subst hc32
        simp only [bne_self_eq_false, Bool.false_eq_true, if_false]
        refine wpAny_execs_nil (wpAny_execs_nil ?_)
        refine ⟨rfl, _, _, _, _, rfl, F5, N5, rfl, rfl, hm, ?_, fun _ => ⟨t, rfl⟩⟩
        intro j hj
        rcases Nat.lt_or_ge j i with h | h
        · exact hbl j h
        · rw [show j = i by omega]; exact hc
      · have : ([c] != [32]) = true := by simp [hc32]
        rw [this]
        simp only [if_true]
        refine wpAny_execs_cons (wpAny_Break ?_)
        refine ⟨trivial, _, _, _, t, rfl, F5, N5.right, hm, ?_⟩
        show some (Value.int (i : Int) t) = _
        rw [lead_stop l0 i hbl ⟨c, hc, hc32⟩]
    · rintro h6 tk6 m' news' F6 N6 _ ⟨rfl, hm, hbl, hi2⟩
      have hl0 : 0 < l0.length := List.length_pos_iff.mpr h0
      have hsz0 : (S l0).cps.size = l0.length := by simp [S]
      rw [hsz0] at hbl hi2
      obtain ⟨t, ht⟩ := hi2 hl0
      exact ⟨rfl, _, _, _, t, rfl, F6, N6, hm, by rw [ht, lead_all l0 h0 hbl]⟩
  case cont1 =>
    rintro f s' ⟨rfl, h7, tk7, m, t7, rfl, F, N, hm, hi⟩
    dsimp only
    have hDL : D ≠ s.heap.objs.size := (N _ (.head _)).2.1
    have hD0 : s.heap.get? D = none := (N _ (.head _)).2.2
    have hLi := N.isList (.head _)
    generalize hkk : leadOf l0 = kk at *
    clear N
    -- the second loop
    refine wpAny_execs_cons (wpAny_mono (Q := fun f s' => f = .next ∧ ∃ (h : Heap) (tk : Nat) (m : Str → Option Value) (cur : List (Str × Tok)), s' = { s with heap := h, toks := tk } ∧ Fr s.heap s.heap.objs.size h m ∧ h.IsList D (strValues cur).toArray ∧ cur.map (·.1) = ((l0 :: lr).map (·.drop kk)).map S ∧ m "lines" = some (.ref D)) ?loop2 ?cont2 (fun _ _ e => e))
    case loop2 =>
      refine for_raw ?_
      refine Call_ (nameX_B F G.X G.T rfl boot_enumerate (by decide) (callWith_type1 (spliced_more (ld F hm (spliced_none (call_enumerate_list hLi ?_))))))
      intro h8 he hit hsz8 hk8
      dsimp only at he hit hsz8 hk8 ⊢
      refine wpAny_pyIter_enum he ?_
      have hDlt : D < h7.objs.size := by obtain ⟨o, ho, _⟩ := hLi; exact Heap.lt_size ho
      have hLlt : s.heap.objs.size < h7.objs.size := F.ns.lt
      refine ⟨fun k s' => ∃ (i : Nat) (h : Heap) (tk : Nat) (m : Str → Option Value) (old : Value) (cur : List (Str × Tok)) (ti : Tok), s' = { s with heap := h, toks := tk } ∧ k = lr.length + 2 - i ∧ i ≤ lr.length + 1 ∧ Fr s.heap s.heap.objs.size h m ∧ m "lines" = some (.ref D) ∧ m "i" = some (.int kk ti) ∧
          IsEnum h (h7.objs.size + 1) h7.objs.size i old ∧ h.IsListIter h7.objs.size D i ∧ h.IsList D (strValues cur).toArray ∧ cur.map (·.1) = (((l0 :: lr).take i).map (·.drop kk) ++ (l0 :: lr).drop i).map S,
        lr.length + 2, ⟨0, h8, _, m, .none, (S l0, t0) :: lt, t7, rfl, rfl, Nat.zero_le _, frGrow F hk8, hm, hi, he, hit, hLi.at fun o e => hk8 D o e, by simp [hl]⟩, ?_⟩
      rintro k s' ⟨i, h, tk, m, old, cur, ti, rfl, rfl, hile, F, hm, hi, he, hit, hLi, hcur⟩
      have hclen : cur.length = lr.length + 1 := by
        have := congrArg List.length hcur
        simp at this; omega
      rcases Nat.lt_or_ge i (lr.length + 1) with hlt | hge
      · obtain ⟨li, hli⟩ : ∃ li, (l0 :: lr)[i]? = some li := ⟨_, List.getElem?_eq_getElem (by simpa using hlt)⟩
        obtain ⟨⟨xi, ui⟩, hci⟩ : ∃ c, cur[i]? = some c := ⟨_, List.getElem?_eq_getElem (by rw [hclen]; exact hlt)⟩
        have hxi : xi = S li := by
          have h1 := congrArg (fun z : List Str => z[i]?) hcur
          simp only [List.getElem?_map, hci, Option.map_some] at h1
          rw [List.getElem?_append_right (by simp; omega)] at h1
          simp only [List.length_map, List.length_take, List.getElem?_drop] at h1
          rw [show i + (i - min i (l0 :: lr).length) = i by simp; omega, hli] at h1
          simpa using h1
        subst hxi
        have hx : (strValues cur).toArray[i]? = some (.str (S li) ui) := by simp [strValues, hci]
        have hlis : li.length ≤ sizeLine := by
          refine Nat.le_trans ?_ (Nat.le_trans hsz (by decide))
          have h1 : (S li).length ≤ (joinL (l0 :: lr)).length := join_mem_le _ _ _ (List.mem_map_of_mem (List.mem_of_getElem? hli))
          rw [S_len] at h1; omega
        refine wpAny_pyNext_enum_item he hit hLi hx (Nat.succ_ne_self _) fun h9 ho hit9 hT hsz9 hk9 => ?_
        dsimp only at ho hit9 hT hsz9 hk9 ⊢
        have hhsz : h7.objs.size + 1 < h.objs.size := Heap.lt_size he
        refine wpAny_letOwnedTupleGo_enum ho fun h10 he10 hs10 => ?_
        dsimp only at hs10 ⊢
        have up10 : ∀ b o, b ≠ h7.objs.size + 1 → b ≠ h7.objs.size → h.get? b = some o → h10.get? b = some o := fun b o h1 h2 e => hs10.extBut b o h1 (hk9 b o h1 h2 e)
        have F10 : Fr s.heap s.heap.objs.size h10 m := ⟨F.ns.at' fun o e => up10 _ o (Nat.ne_of_lt (by omega)) (Nat.ne_of_lt (by omega)) e, fun b o e => up10 b o (Nat.ne_of_lt (Nat.lt_of_lt_of_le (Heap.lt_size e) (by omega))) (Nat.ne_of_lt (Nat.lt_of_lt_of_le (Heap.lt_size e) (by omega))) (F.keep b o e), F.above⟩
        refine assign_pair (env := envOf _ _ s.heap.objs.size _ _) hh ⟨_, hs10.extBut _ _ (Nat.ne_of_gt hhsz) hT, rfl, _, rfl⟩ rfl rfl rfl F10 fun h11 tk11 F11 hk11 => ?_
        dsimp only at hk11 F11 ⊢
        refine wpAny_execs_cons (wpAny_Assign_Subscript (cut_from (ld F11 rfl (ld F11 hi ⟨li, ui, kk, ti, rfl, rfl, hlis, ?_, fun h12 t12 k12 hk12 => ?_⟩))))
        · intro r; with_unfolding_all rfl
        dsimp only at hk12 ⊢
        have F12 := frGrow F11 hk12
        have hD12 : h12.IsList D (strValues cur).toArray := hLi.at fun o e => hk12 D o (hk11 D o hDL (up10 D o (Nat.ne_of_lt (by omega)) (Nat.ne_of_lt (by omega)) e))
        refine ld F12 hm (ld F12 rfl (wpAny_setItem_list hD12 (Int.natCast_nonneg _) (by simp at hct; omega) (by simp [strValues, hclen]; omega) fun h13 hD13 hs13 => ?_))
        dsimp only at hs13 ⊢
        refine wpAny_execs_nil ?_
        have F13 : Fr s.heap s.heap.objs.size h13 _ := ⟨F12.ns.sameBut hs13 (Ne.symm hDL), fun b o e => hs13.extBut b o (fun q => by rw [q, hD0] at e; cases e) (F12.keep b o e), F12.above⟩
        have up13 : ∀ b o, b ≠ D → b ≠ s.heap.objs.size → h10.get? b = some o → h13.get? b = some o := fun b o h1 h2 e => hs13.extBut b o h1 (hk12 b o (hk11 b o h2 e))
        refine ⟨lr.length + 2 - (i + 1), by omega, i + 1, h13, _, _, li |> fun _ => .str (S li) ui, cur.set i (S (li.drop kk), t12), ti, rfl, rfl, hlt, F13, hm, hi, ?_, ?_, ?_, ?_⟩
        · exact up13 _ _ (Nat.ne_of_gt (by omega)) (Nat.ne_of_gt (by omega)) (by simpa using he10)
        · obtain ⟨oI, hoI, r⟩ := hit9
          exact ⟨oI, up13 _ _ (Nat.ne_of_gt (by omega)) (Nat.ne_of_gt (by omega)) (hs10.extBut _ _ (Nat.ne_of_lt (by omega)) hoI), r⟩
        · have : (strValues cur).toArray.setIfInBounds ((i : Int)).toNat (.str (S (li.drop kk)) t12) = (strValues (cur.set i (S (li.drop kk), t12))).toArray := by
            simp [strValues, List.map_set]
          rw [← this]; exact hD13
        · rw [List.map_set, hcur]
          have e1 : (l0 :: lr).drop i = li :: (l0 :: lr).drop (i + 1) := by
            have hi' : i < (l0 :: lr).length := by simpa using hlt
            rw [List.drop_eq_getElem_cons hi']
            congr 1
            have := List.getElem?_eq_getElem hi'
            rw [hli] at this
            exact (Option.some.inj this).symm
          have e2 : (l0 :: lr).take (i + 1) = (l0 :: lr).take i ++ [li] := by rw [List.take_add_one, hli]; rfl
          rw [e1, e2]
          simp only [List.map_append, List.map_cons, List.map_nil]
          rw [List.set_append_right _ _ (by simp; omega)]
          have e3 : i - (List.map S (List.map (fun x => List.drop kk x) (List.take i (l0 :: lr)))).length = 0 := by simp; omega
          rw [e3]
          simp
      · have hin : i = lr.length + 1 := by omega
        subst hin
        refine wpAny_pyNext_enum_end hh he hit hLi (by simp [strValues, hclen]) fun h9 hx9 => ?_
        dsimp only at hx9 ⊢
        refine ⟨rfl, h9, _, m, cur, rfl, ⟨F.ns.extBut hx9 (Nat.ne_of_lt (by omega)), fun b o e => hx9 b o (Nat.ne_of_lt (Nat.lt_of_lt_of_le (Heap.lt_size e) (by omega))) (F.keep b o e), F.above⟩, hLi.extBut hx9 (Nat.ne_of_lt (by omega)), ?_, hm⟩
        rw [hcur]
        simp
    case cont2 =>
      rintro f s' ⟨rfl, h14, tk14, m14, cur, rfl, F, hLi, hcur, hm⟩
      dsimp only
      refine wpAny_execs_cons (wpAny_Return_some (MethodCall_ (Calls.Constant_str (GM.join (callWith_method1 (spliced_more (ld F hm (spliced_none (SC.join hLi hcur ?_ fun t' k => ?_)))))))))
      · rw [str_nl]
        exact join_ok (by simpa using hct) fun y hy => by
          obtain ⟨z, hz, rfl⟩ := List.mem_map.mp hy
          have h1 : (S z).length ≤ (joinL (l0 :: lr)).length := join_mem_le _ _ _ (List.mem_map_of_mem hz)
          rw [S_len] at h1; simp; omega
      · rw [str_nl]
        have e : Txt.join (S [10]) (List.map S (List.map (fun x => List.drop kk x) (l0 :: lr))) = joinL (dedentL (l0 :: lr)) := by
          unfold dedentL
          rw [List.headD_cons, hkk]
          exact StrLaws.glued_eq_join _ _
        rw [e]
        exact h _ _ _ F.keep
end Mine
end
section
open PySem PySem.W PyProof.Rows
set_option maxRecDepth 100000
namespace Mine
def keyIs (l : Ln) : Value → Bool
  | .str x _ => x == S l
  | _ => false
def valIs (i : Int) : Value → Bool
  | .int j _ => j == i
  | _ => false
def tabOk : List DictEntry → List (Ln × Int) → Bool
  | [], [] => true
  | e :: es, (l, i) :: r => keyIs l e.key && valIs i e.val && tabOk es r
  | _, _ => false
theorem tok_obj (w : World) : ∃ es n, (KK w).lookup 22 = some ⟨.type "dict", none, .dict es n, #[]⟩ ∧ KeysLit w.params es.toList ∧ tabOk es.toList tokTab = true :=
  ⟨_, _, rfl, by k_keys, by kernel_rfl⟩
theorem find_list : ∀ (es : List DictEntry) (tab : List (Ln × Int)), tabOk es tab = true → ∀ l : Ln,
    match tab.lookup l with
    | none => (es.find? fun d => Value.isStrOf (S l) d.key).map (·.val) = none
    | some i => ∃ t, (es.find? fun d => Value.isStrOf (S l) d.key).map (·.val) = some (.int i t)
  | [], [], _, l => rfl
  | e :: es, (l', i) :: r, h, l => by
    simp only [tabOk, Bool.and_eq_true] at h
    obtain ⟨⟨h1, h2⟩, h3⟩ := h
    have ih := find_list es r h3 l
    have hk : ∃ t, e.key = .str (S l') t := by
      cases hk : e.key <;> rw [hk] at h1 <;> simp [keyIs] at h1
      rw [h1]; exact ⟨_, rfl⟩
    have hv : ∃ t, e.val = .int i t := by
      cases hv : e.val <;> rw [hv] at h2 <;> simp [valIs] at h2
      rw [h2]; exact ⟨_, rfl⟩
    obtain ⟨t, hk⟩ := hk
    obtain ⟨u, hv⟩ := hv
    by_cases hl : l = l'
    · subst hl
      have e1 : (((l, i) :: r : List (Ln × Int))).lookup l = some i := by simp
      rw [e1]
      refine ⟨u, ?_⟩
      rw [List.find?_cons_of_pos (by rw [hk]; simp [Value.isStrOf])]
      simp [hv]
    · have e1 : (((l', i) :: r : List (Ln × Int))).lookup l = r.lookup l := by
        have q : (l == l') = false := by simpa using hl
        simp only [List.lookup_cons, q]
      rw [e1]
      have e2 : (e :: es).find? (fun d => Value.isStrOf (S l) d.key) = es.find? (fun d => Value.isStrOf (S l) d.key) := by
        refine List.find?_cons_of_neg ?_
        rw [hk]
        simp only [Value.isStrOf]
        intro q
        first
          | exact hl (S_inj (by simpa using q))
          | exact hl (S_inj (by simpa using q)).symm
      rw [e2]; exact ih
theorem tok_find {es : Array DictEntry} (h : tabOk es.toList tokTab = true) (l : Ln) :
    match tokOf l with
    | none => findBy Value.isStrOf es (S l) = none
    | some i => ∃ t, findBy Value.isStrOf es (S l) = some (.int i t) := by
  have := find_list es.toList tokTab h l
  obtain ⟨es⟩ := es
  unfold findBy
  rw [List.find?_toArray]
  exact this
end Mine
end
section
open PySem PySem.W PyProof.Rows PySem.Calls
set_option maxRecDepth 100000
namespace Mine
section
variable {prog : Program} {w : World} {A : Around} {E : Value → Shared → Prop} {s : Shared} {env : Env} {h₀ : Heap} {m : Str → Option Value} {x : Str} {pos : Pos} {v : Value} {p : Program} {loose : List Str} {mg mb : Str → Option Value}
theorem ldLocal {Q : Value → Shared → Prop} (F : Fr h₀ env.locals s.heap m) (hv : m x = some v) (h : Q v s) (hk : env.scope.kind = .function := by rfl) (hl : env.kindOf x = some .local := by rfl) (hd : (x == ("__debug__" : Str)) = false := by decide) :
    wpAny (model prog w) A (eval (.Name x pos) env) Q E s := wpAny_Name (wpAny_loadName_local hk hl F.ns hv h) hd
theorem ldNs {Q : Value → Shared → Prop} (F : s.heap.Ns env.locals m) (hv : m x = some v) (h : Q v s) (hk : env.scope.kind = .function := by rfl) (hl : env.kindOf x = some .local := by rfl) (hd : (x == ("__debug__" : Str)) = false := by decide) :
    wpAny (model prog w) A (eval (.Name x pos) env) Q E s := wpAny_Name (wpAny_loadName_local hk hl F hv h) hd
theorem ldCell {Q : Value → Shared → Prop} {c : Addr} (hv : s.heap.IsCell c (some v)) (h : Q v s) (hc : env.cells.lookup x = some c := by rfl) (hk : env.scope.kind = .function := by rfl) (hl : env.kindOf x = some .cell := by rfl) (hd : (x == ("__debug__" : Str)) = false := by decide) :
    wpAny (model prog w) A (eval (.Name x pos) env) Q E s := wpAny_Name (wpAny_loadName_cell hk hl hc hv h) hd
theorem ldGlob {Q : Value → Shared → Prop} (G : Gd w p loose mg mb s.heap) (e : nsIn (KK w) mainGlobals x = some (some v)) (h : Q v s) (hg : env.globals = mainGlobals := by rfl) (hk : env.scope.kind = .function := by rfl) (hl : env.kindOf x = some .globalImplicit := by rfl) (hd : (x == ("__debug__" : Str)) = false := by decide) :
    wpAny (model prog w) A (eval (.Name x pos) env) Q E s := Name_function_global hk hl (loadGlobal_global (hg ▸ G.T.g) (mg_of G.X G.T.g e) h) hd
theorem ldBuilt {Q : Value → Shared → Prop} (G : Gd w p loose mg mb s.heap) (e : nsIn (KK w) mainGlobals x = some none) (hv : bootBuiltins x = some v) (h : Q v s) (hn : x ≠ "__name__" := by decide) (hg : env.globals = mainGlobals := by rfl) (hb : env.builtins = builtinsNs := by rfl)
    (hk : env.scope.kind = .function := by rfl) (hl : env.kindOf x = some .globalImplicit := by rfl) (hd : (x == ("__debug__" : Str)) = false := by decide) :
    wpAny (model prog w) A (eval (.Name x pos) env) Q E s := Name_function_global hk hl (loadGlobal_builtin (hg ▸ G.T.g) (mg_none_of G.X G.T.g e) (hb ▸ G.T.b) ((G.T.builtins x hn).trans hv) h) hd
theorem stL {Q : Unit → Shared → Prop} (F : Fr h₀ env.locals s.heap m) (h : ∀ h', Fr h₀ env.locals h' (fun y => if y = x then some v else m y) → Heap.SameBut env.locals s.heap h' → Q () { s with heap := h', toks := s.toks + 1 })
    (hl : env.kindOf x = some .local := by rfl) (hp : (env.scope.kind == .class || (env.scope.kind == .module && env.locals != env.globals)) = false := by rfl) :
    wpAny (model prog w) A (storeName env x v) Q E s := wpAny_storeName_local hl F.ns (fun h' hn hs => h h' (F.set hn hs) hs) hp
theorem stCell {Q : Unit → Shared → Prop} {c : Addr} {v₀ : Option Value} (hv : s.heap.IsCell c v₀) (h : ∀ h', h'.IsCell c (some v) → Heap.SameBut c s.heap h' → Q () { s with heap := h' })
    (hc : env.cells.lookup x = some c := by rfl) (hk : env.scope.kind = .function := by rfl) (hl : env.kindOf x = some .cell := by rfl) :
    wpAny (model prog w) A (storeName env x v) Q E s := wpAny_storeName_cell hk hl hc hv h
theorem newList_g {vs : List Value} {Q : Value → Shared → Prop} (h : ∀ h', Grown s.heap h' → h'.PlainList s.heap.objs.size vs.toArray → h'.objs.size = s.heap.objs.size + 1 → Q (.ref s.heap.objs.size) { s with heap := h' }) (hsz : vs.length ≤ sizeLine := by size_fits) :
    wpAny (model prog w) A (newList vs) Q E s := wpAny_newList (h _ (fun _ _ e => Heap.get?_push_of_some _ e) ⟨_, Heap.get?_push_size _ rfl⟩ (Heap.size_push ..)) hsz
theorem append_g {D : Addr} {vs : List Value} {e : PySem.Expr} {apos cpos : Pos} {name : PySem.Expr} {pl : Sem Bool} {Q : Flow → Shared → Prop}
    (h : wpAny (model prog w) A (eval name env) (fun ov s₁ => ov = .ref D ∧ s₁.heap.PlainList D vs.toArray ∧ wpAny (model prog w) A (eval e env) (fun v s₂ => s₂.heap.PlainList D vs.toArray ∧ vs.length ≤ sizeLine ∧ ∀ h', h'.PlainList D (vs ++ [v]).toArray → Heap.SameBut D s₂.heap h' → Q .next { s₂ with heap := h' }) E s₁) E s)
    (he : eval (.Call (.Attribute name "append" apos) [e] [] cpos) env = (do
      let ov ← eval name env
      standAt apos.atName
      let (f, first) ← holding [ov] (getMethod ov "append" pl)
      callWith cpos f first (backTo cpos (starEach [e] env)) []) := by rfl)
    (he2 : starEach [e] env = (false, eval e env) :: starEach [] env := by rfl)
    (hi : interactive env = false := by rfl) (hs : swapsWith (.Call (.Attribute name "append" apos) [e] [] cpos) none pos.line env = pure false := by rfl) :
    wpAny (model prog w) A (exec (.Expr (.Call (.Attribute name "append" apos) [e] [] cpos) pos) env) Q E s := by
  refine wpAny_Expr (MethodCall_ (pl := pl) (wpAny_mono h (fun ov s₁ h₁ => ?_) fun _ _ x => x) he) hi hs
  obtain ⟨rfl, ⟨n, hD⟩, h₁⟩ := h₁
  refine getMethod_builtin ⟨_, hD, rfl⟩ PySem.F.plainAttrs_list PySem.F.slot_list_append PySem.F.type_list_append (fun a e => by cases e; exact ⟨_, hD, rfl⟩) ?_
  refine callWith_method1 (spliced_more (wpAny_mono h₁ (fun v s₂ h₂ => spliced_none ?_) fun _ _ x => x) he2) he2
  obtain ⟨hD2, hsz, hq⟩ := h₂
  exact wpAny_list_append_plain hD2 (fun h' hp hs => hq h' (by simpa using hp) hs) (by simpa using hsz)
/-- a while, by what holds between its turns and a measure; nothing raises -/
theorem while_raw {test : PySem.Expr} {body : List Stmt} {Q : Flow → Shared → Prop} (I : Nat → Shared → Prop) (n : Nat) (hI : I n s)
    (turn : ∀ n s, I n s → wpAny (model prog w) A (isTrue test env (eval test env)) (fun b s₂ =>
      if b then wpAny (model prog w) A (execs body env) (fun f s₃ => match f with
          | .next | .cont => ∃ m, m < n ∧ I m s₃
          | .brk => Q .next s₃
          | .ret v => Q (.ret v) s₃) NoE s₂
      else Q .next s₂) NoE s) :
    wpAny (model prog w) A (exec (.While test body [] pos) env) Q NoE s := by
  refine wpAny_While (codeAny_whileLoop I (fun n s hI => ?_) n hI)
  refine wpAny_mono (turn n s hI) (fun b s₂ h₂ => ?_) fun _ _ e => e.elim
  cases b with
  | false => exact wpAny_execs_nil h₂
  | true => exact wpAny_mono h₂ (fun f s₃ h₃ => by cases f <;> exact h₃) fun _ _ e => e.elim
end
theorem plain_ne_cell {h : Heap} {D c : Addr} {its : Array Value} {v : Option Value} (a : h.PlainList D its) (b : h.IsCell c v) : D ≠ c := by
  rintro rfl
  obtain ⟨n, ha⟩ := a
  obtain ⟨o, ho, hd⟩ := b
  rw [ha] at ho; cases ho; cases hd
theorem plain_grow {h h' : Heap} {D : Addr} {its : Array Value} (a : h.PlainList D its) (g : Grown h h') : h'.PlainList D its := let ⟨n, ha⟩ := a; ⟨n, g _ _ ha⟩
theorem cell_grow {h h' : Heap} {c : Addr} {v : Option Value} (a : h.IsCell c v) (g : Grown h h') : h'.IsCell c v := let ⟨o, ho, r⟩ := a; ⟨o, g _ _ ho, r⟩
theorem frBut {h₀ h h' : Heap} {L D : Addr} {m : Str → Option Value} (F : Fr h₀ L h m) (sb : Heap.SameBut D h h') (hDL : D ≠ L) (hD0 : h₀.get? D = none) : Fr h₀ L h' m :=
  ⟨F.ns.sameBut sb (Ne.symm hDL), fun b o e => sb.extBut b o (fun q => by rw [q, hD0] at e; cases e) (F.keep b o e), F.above⟩
theorem cellBut {h h' : Heap} {D c : Addr} {v : Option Value} (a : h.IsCell c v) (sb : Heap.SameBut D h h') (hne : c ≠ D) : h'.IsCell c v := let ⟨o, ho, r⟩ := a; ⟨o, sb.extBut _ _ hne ho, r⟩
theorem plainBut {h h' : Heap} {D c : Addr} {its : Array Value} (a : h.PlainList c its) (sb : Heap.SameBut D h h') (hne : c ≠ D) : h'.PlainList c its := let ⟨o, ho⟩ := a; ⟨o, sb.extBut _ _ hne ho⟩
section
variable {prog : Program} {w : World} {A : Around} {E : Value → Shared → Prop} {s : Shared}
theorem item_last {value slice : PySem.Expr} {l : Addr} {vs : List Value} {u : Tok} {v : Value} {Q : Value → Shared → Prop}
    (hl : s.heap.IsList l vs.toArray) (hx : vs.getLast? = some v) (h : Q v s)
    (hs : subscripted slice false (.ref l) (.int (-1) u) = operate [.ref l, .int (-1) u] (getItem (.ref l) (.int (-1) u)) := by with_unfolding_all rfl) :
    wpAny (model prog w) A (subscriptTail value slice (.ref l) (.int (-1) u)) Q E s := by
  have hne : 0 < vs.length := by cases vs with | nil => cases hx | cons a r => simp
  refine tail_any hl.typeIs slot_list_getitem.lookup (wpAny_getItem_list_neg hl (by decide) (by simp; omega) (by decide) ?_ h) hs
  rw [show (-1 + ((vs.toArray.size : Nat) : Int)).toNat = vs.length - 1 by simp; omega]
  rw [List.getLast?_eq_getElem?] at hx
  simpa using hx
theorem dict_item {value slice : PySem.Expr} {x : Str} {t : Tok} {v : Value} {es : Array DictEntry} {n : Nat} {Q : Value → Shared → Prop} (X : (KK w).In s.heap) (hlook : (KK w).lookup 22 = some ⟨.type "dict", none, .dict es n, #[]⟩) (hkeys : KeysLit w.params es.toList)
    (hv : findBy Value.isStrOf es x = some v) (h : Q v { s with toks := s.toks + 1 })
    (hs : subscripted slice false (.ref 22) (.str x t) = operate [.ref 22, .str x t] (getItem (.ref 22) (.str x t)) := by with_unfolding_all rfl) :
    wpAny (model prog w) A (subscriptTail value slice (.ref 22) (.str x t)) Q E s :=
  have hm := mapOf_K (prog := prog) X hlook hkeys
  tail_any hm.typeIs slot_dict_getitem.lookup (wpAny_getItem_of (strKind_is prog w x t) hm hv h) hs
end
theorem ints_last {vs : List Value} {ns : List Int} {n : Int} (hi : IntsAre vs ns) (h : ns.getLast? = some n) : ∃ t, vs.getLast? = some (.int n t) := by
  rw [List.getLast?_eq_getElem?] at h ⊢
  rw [hi.length]
  exact hi.get _ _ h
theorem ints_snoc {vs : List Value} {ns : List Int} {n : Int} {t : Tok} (hi : IntsAre vs ns) : IntsAre (vs ++ [.int n t]) (ns ++ [n]) := by
  induction hi with
  | nil => exact .cons _ _ .nil
  | cons _ _ _ ih => exact .cons _ _ ih
theorem ints_app {vs us : List Value} {ns ms : List Int} (hi : IntsAre vs ns) (hj : IntsAre us ms) : IntsAre (vs ++ us) (ns ++ ms) := by
  induction hi with
  | nil => exact hj
  | cons _ _ _ ih => exact .cons _ _ ih
theorem paired_eq : ∀ {l l' : List Value}, Paired (fun v y => y = v) l l' → l' = l
  | _, _, .nil => rfl
  | _, _, .cons h r => by rw [h, paired_eq r]
end Mine
end
section
open PySem PySem.W PyProof.Rows PySem.Calls
set_option maxRecDepth 100000
namespace Mine
theorem numbersF_fuel : ∀ (n : Nat) (l : Ln), l.length ≤ n → numbersF n l = numbersF l.length l
  | 0, l, h => by rw [List.length_eq_zero_iff.mp (Nat.le_zero.mp h)]; rfl
  | n + 1, [], _ => rfl
  | n + 1, c :: r, h => by
    have ih : ∀ k, 1 ≤ k → numbersF n ((c :: r).drop k) = numbersF r.length ((c :: r).drop k) := by
      intro k hk
      have h1 : ((c :: r).drop k).length ≤ r.length := by simp; omega
      have h2 : r.length ≤ n := by simpa using h
      rw [numbersF_fuel n _ (Nat.le_trans h1 h2)]
      rcases Nat.lt_or_ge r.length (n + 1) with q | q
      · rcases Nat.lt_or_ge r.length n with q' | q'
        · exact (numbersF_fuel r.length _ h1).symm
        · have : r.length = n := by omega
          rw [this]; exact (numbersF_fuel n _ (by omega)).symm
      · omega
    show (match (sizesL (c :: r)).getLast? with | none => _ | some k => _) = (match (sizesL (c :: r)).getLast? with | none => _ | some k => _)
    cases e : (sizesL (c :: r)).getLast? with
    | none => simp only; rw [ih 1 (Nat.le_refl _)]
    | some k =>
      have hk : 1 ≤ k := by
        have := List.mem_of_getLast? e
        have h3 := (List.mem_filter.mp this).1
        simp only [List.mem_cons, List.not_mem_nil, or_false] at h3
        omega
      simp only; rw [ih k hk]
theorem numbersL_nil : numbersL [] = [] := rfl
theorem numbersL_none {l : Ln} (h : l ≠ []) (hs : sizesL l = []) : numbersL l = 64 :: numbersL (l.drop 1) := by
  cases l with
  | nil => exact absurd rfl h
  | cons c r =>
    show (match (sizesL (c :: r)).getLast? with | none => _ | some k => _) = _
    rw [hs]
    rfl
theorem numbersL_some {l : Ln} {k : Nat} (h : l ≠ []) (hs : (sizesL l).getLast? = some k) : numbersL l = (tokOf (l.take k)).getD 0 :: numbersL (l.drop k) := by
  cases l with
  | nil => exact absurd rfl h
  | cons c r =>
    show (match (sizesL (c :: r)).getLast? with | none => _ | some k => _) = _
    rw [hs]
    have hk : 1 ≤ k := by
      have h3 := (List.mem_filter.mp (List.mem_of_getLast? hs)).1
      simp only [List.mem_cons, List.not_mem_nil, or_false] at h3
      omega
    simp only
    rw [numbersF_fuel r.length _ (by simp; omega)]
    rfl
set_option maxHeartbeats 1000000
theorem numbers_call {prog : Program} {w : World} {A : Around} {E : Value → Shared → Prop} {s : Shared} {p : Program} {loose : List Str} {mg mb : Str → Option Value} {t : Tok} {Q : Value → Shared → Prop}
    (G : Gd w p loose mg mb s.heap) (hd : A.depth < recursionLimit) (hh : A.handled = none) (hu : A.units + 100 < cLine) (l : Ln) (hl : l.length ≤ 10000)
    (h : ∀ h' tk D vs, Grown s.heap h' → s.heap.get? D = none → h'.PlainList D vs.toArray → IntsAre vs (numbersL l) → Q (.ref D) { s with heap := h', toks := tk }) :
    wpAny (model prog w) A (call (.ref 29) [.str (S l) t]) Q E s := by
  refine wpAny_call (call_cells_ret (binds := [("line", .str (S l) t)]) hd (G.X 29 _ rfl) rfl G.T.nolimit (codeRec_of G.X rfl) rfl (kindsX rfl _) (fun h₁ tk₁ F X => ?_))
  have hc1 : h₁.IsCell (s.heap.objs.size + 1) (some (.str (S l) t)) := X.cell "line" _ rfl
  have hc2 : h₁.IsCell (s.heap.objs.size + 2) none := X.cell "place" _ rfl
  clear X
  refine wpAny_execs_cons (wpAny_Assign_Name (List_ (spliced_none (newList_g fun h₂ g₂ hD hsz₂ => ?_))))
  dsimp only at g₂ hD hsz₂
  have hLlt : s.heap.objs.size < h₁.objs.size := F.ns.lt
  refine stL (frGrow F g₂) fun h₃ F₃ sb₃ => ?_
  replace sb₃ : Heap.SameBut s.heap.objs.size h₂ h₃ := sb₃
  replace F₃ : Fr s.heap s.heap.objs.size h₃ _ := F₃
  dsimp only
  have up₃ : ∀ b o, b ≠ s.heap.objs.size → h₁.get? b = some o → h₃.get? b = some o := fun b o hb e => sb₃.extBut b o hb (g₂ b o e)
  have hc1₃ : h₃.IsCell (s.heap.objs.size + 1) (some (.str (S l) t)) := by obtain ⟨o, ho, r⟩ := hc1; exact ⟨o, up₃ _ o (Nat.succ_ne_self _) ho, r⟩
  have hc2₃ : h₃.IsCell (s.heap.objs.size + 2) none := by obtain ⟨o, ho, r⟩ := hc2; exact ⟨o, up₃ _ o (Nat.ne_of_gt (by omega)) ho, r⟩
  have hD₃ : h₃.PlainList h₁.objs.size ([] : List Value).toArray := by obtain ⟨n, ho⟩ := hD; exact ⟨n, sb₃.extBut _ _ (Nat.ne_of_gt hLlt) ho⟩
  have hDL : h₁.objs.size ≠ s.heap.objs.size := Nat.ne_of_gt hLlt
  have hD0 : s.heap.get? h₁.objs.size = none := Heap.get?_none_of_le (Nat.le_of_lt hLlt)
  generalize h₁.objs.size = D at *
  refine wpAny_execs_cons (wpAny_Assign_Name (wpAny_Constant_int (stCell hc2₃ fun h₄ hc2₄ sb₄ => ?_)))
  dsimp only at sb₄ ⊢
  have F₄ : Fr s.heap s.heap.objs.size h₄ _ := ⟨F₃.ns.sameBut sb₄ (Nat.ne_of_lt (by omega)), fun b o e => sb₄.extBut b o (Nat.ne_of_lt (Nat.lt_of_lt_of_le (Heap.lt_size e) (by omega))) (F₃.keep b o e), F₃.above⟩
  have hc1₄ : h₄.IsCell (s.heap.objs.size + 1) (some (.str (S l) t)) := by obtain ⟨o, ho, r⟩ := hc1₃; exact ⟨o, sb₄.extBut _ o (Nat.ne_of_lt (by omega)) ho, r⟩
  have hD₄ : h₄.PlainList D ([] : List Value).toArray := by have := plain_ne_cell hD₃ hc2₃; obtain ⟨n, ho⟩ := hD₃; exact ⟨n, sb₄.extBut _ _ this ho⟩
  refine wpAny_execs_cons (wpAny_mono (Q := fun f s' => f = .next ∧ ∃ (h : Heap) (tk : Nat) (m : Str → Option Value) (vs : List Value), s' = { s with heap := h, toks := tk } ∧ Fr s.heap s.heap.objs.size h m ∧ m "numbers" = some (.ref D) ∧ h.PlainList D vs.toArray ∧ IntsAre vs (numbersL l)) ?loop ?cont (fun _ _ e => e))
  case cont =>
    rintro f s' ⟨rfl, h₅, tk₅, m, vs, rfl, F₅, hm, hD₅, hi⟩
    exact wpAny_execs_cons (wpAny_Return_some (ldLocal F₅ hm (h _ _ _ _ F₅.keep hD0 hD₅ hi)))
  case loop =>
    refine while_raw (fun k s' => ∃ (pl : Nat) (h : Heap) (tk : Nat) (m : Str → Option Value) (vs : List Value) (ns : List Int) (tp : Tok), s' = { s with heap := h, toks := tk } ∧ k = l.length - pl ∧ Fr s.heap s.heap.objs.size h m ∧ m "numbers" = some (.ref D) ∧
        h.IsCell (s.heap.objs.size + 1) (some (.str (S l) t)) ∧ h.IsCell (s.heap.objs.size + 2) (some (.int pl tp)) ∧ h.PlainList D vs.toArray ∧ IntsAre vs ns ∧ ns ++ numbersL (l.drop pl) = numbersL l ∧ ns.length ≤ pl)
      (l.length - 0) ⟨0, h₄, _, _, [], [], _, rfl, rfl, F₄, rfl, hc1₄, hc2₄, hD₄, .nil, rfl, Nat.le_refl _⟩ ?_
    rintro k s' ⟨pl, h₅, tk₅, m, vs, ns, tp, rfl, rfl, F₅, hm, hc1₅, hc2₅, hD₅, hi, hns, hnl⟩
    refine wpAny_isTrue_Compare1 (ldCell hc2₅ (Call_ (ldBuilt (G.keeps F₅.keep) rfl boot_len (callWith_builtin1 (spliced_more (ldCell hc1₅ (spliced_none (len_str (by rw [S_len]; omega) (lt_int (wpAny_truthy_bool ?_))))))))))
    rw [S_len]
    by_cases hlt : pl < l.length
    · rw [decide_eq_true (by omega : (pl : Int) < (l.length : Int)), if_pos rfl]
      dsimp only
      have hrne : l.drop pl ≠ [] := fun q => by have := List.drop_eq_nil_iff.mp q; omega
      refine wpAny_execs_cons (wpAny_Assign_ListComp_free (fun v => match v with | .int k _ => (tokOf ((l.drop pl).take k.toNat)).isSome | _ => false) (fun v y => y = v) rfl rfl (by decide) rfl (by decide) rfl rfl rfl ?_)
      refine Tuple_ (spliced_more (wpAny_Constant_int (spliced_more (wpAny_Constant_int (spliced_more (wpAny_Constant_int (spliced_none (wpAny_newTuple (wpAny_pyIter_tuple ⟨_, Heap.get?_push_size _ rfl, rfl, _, rfl⟩ ?_)))))))))
      dsimp only
      generalize hh₆ : Heap.push h₅ _ = h₆
      have g₆ : Grown h₅ h₆ := fun b o e => hh₆ ▸ Heap.get?_push_of_some _ e
      have hsz₆ : h₆.objs.size = h₅.objs.size + 1 := by rw [← hh₆]; exact Heap.size_push ..
      obtain ⟨t1, t2, t3, hT₆⟩ : ∃ t1 t2 t3, h₆.IsTuple h₅.objs.size #[.int 1 t1, .int 2 t2, .int 3 t3] := ⟨_, _, _, _, by rw [← hh₆]; exact Heap.get?_push_size _ rfl, rfl, _, rfl⟩
      generalize hh₇ : Heap.push h₆ _ = h₇
      have g₇ : Grown h₆ h₇ := fun b o e => hh₇ ▸ Heap.get?_push_of_some _ e
      have hsz₇ : h₇.objs.size = h₆.objs.size + 1 := by rw [← hh₇]; exact Heap.size_push ..
      have hI₇ : h₇.IsTupleIter h₆.objs.size h₅.objs.size 0 := ⟨_, by rw [← hh₇]; exact Heap.get?_push_size _ rfl, rfl, rfl⟩
      clear hh₆ hh₇
      have g₅₇ : Grown h₅ h₇ := fun b o e => g₇ b o (g₆ b o e)
      have G₇ := G.keeps (frGrow F₅ g₅₇).keep
      have hc1₇ := cell_grow hc1₅ g₅₇
      have hc2₇ := cell_grow hc2₅ g₅₇
      have hc1lt : s.heap.objs.size + 1 < h₅.objs.size := by obtain ⟨o, ho, _⟩ := hc1₅; exact Heap.lt_size ho
      have hc2lt : s.heap.objs.size + 2 < h₅.objs.size := by obtain ⟨o, ho, _⟩ := hc2₅; exact Heap.lt_size ho
      have W := fun (A' : Around) (hh' : A'.handled = none) => Walks.tuple (prog := prog) (w := w) (A := A') hh' h₆.objs.size h₅.objs.size (Nat.ne_of_lt (by omega)) #[.int 1 t1, .int 2 t2, .int 3 t3]
      refine ⟨_, _, _, _, _, _, m, rfl, W _ hh, (by show 3 ≤ sizeLine; decide), ⟨hI₇, hT₆.at fun o e => g₇ _ _ e⟩, ?_, ?_, F₅.ns.keeps g₅₇, ⟨?_, ?_⟩, ?_⟩
      · intro b hb
        simp only [List.mem_cons, List.not_mem_nil, or_false] at hb
        show b < h₇.objs.size
        rcases hb with rfl | rfl <;> (refine ltN ?_; omega)
      · show s.heap.objs.size ∉ _
        simp only [List.mem_cons, List.not_mem_nil, or_false]
        exact Nat.ne_of_lt (by omega)
      · intro C i v s₃ m₃ E' hC hv hn hm₃ hk₃ htk₃
        replace hk₃ : ∀ b o, b ≠ h₆.objs.size → h₇.get? b = some o → s₃.heap.get? b = some o := fun b o hb e => hk₃ b o (by simpa using hb) e
        have hc1s : s₃.heap.IsCell (s.heap.objs.size + 1) (some (.str (S l) t)) := by obtain ⟨o, ho, r⟩ := hc1₇; exact ⟨o, hk₃ _ o (Nat.ne_of_lt (by omega)) ho, r⟩
        have hc2s : s₃.heap.IsCell (s.heap.objs.size + 2) (some (.int pl tp)) := by obtain ⟨o, ho, r⟩ := hc2₇; exact ⟨o, hk₃ _ o (Nat.ne_of_lt (by omega)) ho, r⟩
        have G₃ := G.keeps (h' := s₃.heap) fun b o e => hk₃ b o (Nat.ne_of_lt (Nat.lt_of_lt_of_le (Heap.lt_size e) (by omega))) (g₅₇ b o (F₅.keep b o e))
        obtain ⟨k, tk, rfl⟩ : ∃ (k : Nat) (tk : Tok), v = .int k tk := by
          match i, hv with
          | 0, hv => exact ⟨1, t1, (Option.some.inj hv).symm⟩
          | 1, hv => exact ⟨2, t2, (Option.some.inj hv).symm⟩
          | 2, hv => exact ⟨3, t3, (Option.some.inj hv).symm⟩
          | i + 3, hv => simp at hv
        obtain ⟨es, n, hlook, hkeys, htab⟩ := tok_obj w
        refine wpAny_tests_one (wpAny_isTrue_Compare1 (cut_both (ldCell hc1s (ldCell hc2s (wpAny_BinOp (ldCell hc2s (ldNs hn hm₃ (add_int ⟨l, t, pl, pl + k, tp, _, rfl, rfl, rfl, Nat.le_add_right _ _, Nat.le_trans hl (by decide), ?_, fun h' t' k' g => ?_⟩))))))))
        · intro r; with_unfolding_all rfl
        · refine ldGlob (G₃.keeps g) rfl (wpAny_in_of (strKind_is _ _ _ _) rfl (mapOf_K (G₃.keeps g).X hlook hkeys) (wpAny_truthy_bool ⟨?_, _, _, rfl, g⟩))
          have := tok_find htab ((l.drop pl).take (pl + k - pl))
          rw [Nat.add_sub_cancel_left] at this ⊢
          show _ = (tokOf ((l.drop pl).take ((k : Int)).toNat)).isSome
          rw [Int.toNat_natCast]
          cases htk : tokOf ((l.drop pl).take k) with
          | none => rw [htk] at this; simp only at this; rw [this]; rfl
          | some i => rw [htk] at this; obtain ⟨u, this⟩ := this; rw [this]; rfl
      · intro C i v s₃ m₃ E' hC hv hpv hn hm₃ hk₃ htk₃
        exact ldNs hn hm₃ ⟨rfl, s₃.heap, s₃.toks, rfl, fun _ _ e => e⟩
      · intro D' h₈ tk₈ ys vs' hD' hl₈ hpl₈ hlen hP hF hn₈ hk₈
        replace hk₈ : ∀ b o, b ≠ s.heap.objs.size → b ≠ h₆.objs.size → h₇.get? b = some o → h₈.get? b = some o := fun b o hb hb' e => hk₈ b o hb (by simpa using hb') e
        have hvs := list_of_places hlen hP
        obtain ⟨zs, rfl, hzs⟩ : ∃ zs : List Value, ys = zs.toArray ∧ IntsAre zs ((sizesL (l.drop pl)).map fun n : Nat => (n : Int)) := by
          refine ⟨ys.toList, by simp, ?_⟩
          rw [paired_eq hF, hvs]
          unfold sizesL
          cases b1 : (tokOf ((l.drop pl).take 1)).isSome <;> cases b2 : (tokOf ((l.drop pl).take 2)).isSome <;> cases b3 : (tokOf ((l.drop pl).take 3)).isSome <;>
            (simp [b1, b2, b3]; repeat' constructor)
        have hDD' : D ≠ D' := by
          rintro rfl
          obtain ⟨n, ho⟩ := hD₅
          have := g₅₇ _ _ ho
          rw [show h₇.get? D = none from hD'] at this; cases this
        have hDlt : D < h₅.objs.size := by obtain ⟨n, ho⟩ := hD₅; exact Heap.lt_size ho
        have up₈ : ∀ b o, b ≠ s.heap.objs.size → h₅.get? b = some o → h₈.get? b = some o := fun b o hb e => hk₈ b o hb (Nat.ne_of_lt (Nat.lt_of_lt_of_le (Heap.lt_size e) (by omega))) (g₅₇ b o e)
        have F₈ : Fr s.heap s.heap.objs.size h₈ _ := ⟨hn₈, fun b o e => up₈ b o (Nat.ne_of_lt (Heap.lt_size e)) (F₅.keep b o e), F₅.above⟩
        have hc1₈ : h₈.IsCell (s.heap.objs.size + 1) (some (.str (S l) t)) := by obtain ⟨o, ho, r⟩ := hc1₅; exact ⟨o, up₈ _ o (Nat.ne_of_gt (by omega)) ho, r⟩
        have hc2₈ : h₈.IsCell (s.heap.objs.size + 2) (some (.int pl tp)) := by obtain ⟨o, ho, r⟩ := hc2₅; exact ⟨o, up₈ _ o (Nat.ne_of_gt (by omega)) ho, r⟩
        have hD₈ : h₈.PlainList D vs.toArray := by obtain ⟨n, ho⟩ := hD₅; exact ⟨n, up₈ _ _ hDL ho⟩
        have hvlen : vs.length ≤ sizeLine := by rw [hi.length]; exact Nat.le_trans (by omega : ns.length ≤ 10000) (by decide)
        clear hk₈ up₈ hF hP hvs hlen hl₈ W
        refine wpAny_execs_cons (wpAny_If (wpAny_isTrue_Compare1 (ldLocal F₈ rfl (List_ (spliced_none (newList_g fun h₉ g₉ hE hsz₉ => ke_eq_ints (plain_grow hpl₈ g₉).isList hE.isList hzs .nil (by show A.units + 3 + 64 < cLine; omega) (wpAny_truthy_bool ?_)))))))
        dsimp only at g₉ hE hsz₉ ⊢
        have F₉ := frGrow F₈ g₉
        have G₉ := G.keeps F₉.keep
        have hc1₉ := cell_grow hc1₈ g₉
        have hc2₉ := cell_grow hc2₈ g₉
        have hD₉ := plain_grow hD₈ g₉
        have hpl₉ := plain_grow hpl₈ g₉
        cases hsz : sizesL (l.drop pl) with
        | nil =>
          rw [show decide (List.map (fun n : Nat => (n : Int)) [] = []) = true from rfl, if_pos rfl]
          refine wpAny_execs_cons (append_g (ldLocal F₉ hm ⟨rfl, hD₉, ldGlob G₉ rfl ⟨hD₉, hvlen, fun h₁₀ hD₁₀ sb₁₀ => ?_⟩⟩))
          dsimp only at sb₁₀ ⊢
          have F₁₀ := frBut F₉ sb₁₀ hDL hD0
          have hc1₁₀ := cellBut hc1₉ sb₁₀ (Ne.symm (plain_ne_cell hD₉ hc1₉))
          have hc2₁₀ := cellBut hc2₉ sb₁₀ (Ne.symm (plain_ne_cell hD₉ hc2₉))
          refine wpAny_execs_cons (wpAny_Assign_Name (wpAny_BinOp (ldCell hc2₁₀ (wpAny_Constant_int (add_int (stCell hc2₁₀ fun h₁₁ hc2₁₁ sb₁₁ => ?_))))))
          dsimp only at sb₁₁ ⊢
          refine wpAny_execs_nil ?_
          have F₁₁ := frBut F₁₀ sb₁₁ (Nat.ne_of_gt (by omega)) (Heap.get?_none_of_le (by omega))
          refine wpAny_execs_nil ⟨l.length - (pl + 1), by omega, pl + 1, h₁₁, _, _, vs ++ [.int 64 _], ns ++ [64], _, rfl, rfl, F₁₁, hm, cellBut hc1₁₀ sb₁₁ (Nat.ne_of_lt (by omega)), hc2₁₁, plainBut hD₁₀ sb₁₁ (plain_ne_cell hD₁₀ hc2₁₀), ints_snoc hi, ?_, by simp; omega⟩
          rw [← hns, numbersL_none hrne hsz, List.drop_drop]
          simp
        | cons k0 kr =>
          obtain ⟨k, hk⟩ : ∃ k, (sizesL (l.drop pl)).getLast? = some k := by rw [hsz]; exact ⟨_, List.getLast?_eq_some_getLast (List.cons_ne_nil _ _)⟩
          have hkm : k ∈ sizesL (l.drop pl) := List.mem_of_getLast? hk
          have hk1 : 1 ≤ k ∧ k ≤ 3 := by
            have h3 := (List.mem_filter.mp hkm).1
            simp only [List.mem_cons, List.not_mem_nil, or_false] at h3
            omega
          have htok := (List.mem_filter.mp hkm).2
          obtain ⟨ti, hti⟩ := Option.isSome_iff_exists.mp htok
          obtain ⟨tk, hzl⟩ := ints_last hzs (show _ = some (k : Int) by rw [List.getLast?_map, hk]; rfl)
          obtain ⟨es, n, hlook, hkeys, htab⟩ := tok_obj w
          have hfind := tok_find htab ((l.drop pl).take k)
          rw [hti] at hfind
          obtain ⟨tv, hfind⟩ := hfind
          rw [show decide (List.map (fun n : Nat => (n : Int)) (k0 :: kr) = []) = false from rfl, if_neg Bool.false_ne_true]
          refine wpAny_execs_cons (append_g (ldLocal F₉ hm ⟨rfl, hD₉, Subscript_ (ldGlob G₉ rfl (cut_both (ldCell hc1₉ (ldCell hc2₉ (wpAny_BinOp (ldCell hc2₉ (Subscript_ (ldLocal F₉ rfl (UnaryOp_ (wpAny_Constant_int (neg_int (item_last hpl₉.isList hzl (add_int ⟨l, t, pl, pl + k, tp, _, rfl, rfl, rfl, Nat.le_add_right _ _, Nat.le_trans hl (by decide), ?_, fun h' t' k' g => ?_⟩)))))))))))))⟩))
          · intro r; with_unfolding_all rfl
          rw [Nat.add_sub_cancel_left]
          dsimp only at g
          refine dict_item (G₉.keeps g).X hlook hkeys hfind ⟨plain_grow hD₉ g, hvlen, fun h₁₀ hD₁₀ sb₁₀ => ?_⟩
          dsimp only at sb₁₀ ⊢
          have hD₉' := plain_grow hD₉ g
          have F₁₀ := frBut (frGrow F₉ g) sb₁₀ hDL hD0
          have hc1₁₀ := cellBut (cell_grow hc1₉ g) sb₁₀ (Ne.symm (plain_ne_cell hD₉ hc1₉))
          have hc2₁₀ := cellBut (cell_grow hc2₉ g) sb₁₀ (Ne.symm (plain_ne_cell hD₉ hc2₉))
          have hpl₁₀ := plainBut (plain_grow hpl₉ g) sb₁₀ (Ne.symm hDD')
          refine wpAny_execs_cons (wpAny_Assign_Name (wpAny_BinOp (ldCell hc2₁₀ (Subscript_ (ldLocal F₁₀ rfl (UnaryOp_ (wpAny_Constant_int (neg_int (item_last hpl₁₀.isList hzl (add_int (stCell hc2₁₀ fun h₁₁ hc2₁₁ sb₁₁ => ?_)))))))))))
          dsimp only at sb₁₁ ⊢
          refine wpAny_execs_nil ?_
          have F₁₁ := frBut F₁₀ sb₁₁ (Nat.ne_of_gt (by omega)) (Heap.get?_none_of_le (by omega))
          refine wpAny_execs_nil ⟨l.length - (pl + k), by omega, pl + k, h₁₁, _, _, vs ++ [.int ti _], ns ++ [ti], _, rfl, rfl, F₁₁, hm, cellBut hc1₁₀ sb₁₁ (Nat.ne_of_lt (by omega)), hc2₁₁, plainBut hD₁₀ sb₁₁ (plain_ne_cell hD₁₀ hc2₁₀), ints_snoc hi, ?_, by simp; omega⟩
          rw [← hns, numbersL_some hrne hk, List.drop_drop, hti]
          simp
    · rw [decide_eq_false (by omega : ¬ (pl : Int) < (l.length : Int)), if_neg Bool.false_ne_true]
      have : l.drop pl = [] := List.drop_eq_nil_of_le (by omega)
      rw [this, numbersL_nil, List.append_nil] at hns
      exact ⟨rfl, _, _, m, vs, rfl, F₅, hm, hD₅, hns ▸ hi⟩
end Mine
end
section
namespace Mine
/-- a bound for what the parts tell -/
def wt (ls : List Ln) : Nat := (ls.map fun l => l.length + 5).sum
theorem wt_nil : wt [] = 0 := rfl
theorem wt_cons (l : Ln) (ls : List Ln) : wt (l :: ls) = l.length + 5 + wt ls := by simp [wt]
theorem wt_app (a b : List Ln) : wt (a ++ b) = wt a + wt b := by simp [wt]
theorem wt_dedent (k : Nat) : ∀ ls : List Ln, wt (ls.map (·.drop k)) ≤ wt ls
  | [] => Nat.le_refl _
  | l :: ls => by
    have := wt_dedent k ls
    simp only [List.map_cons, wt_cons, List.length_drop]; omega
theorem numbersF_len : ∀ (n : Nat) (l : Ln), (numbersF n l).length ≤ l.length
  | 0, _ => Nat.zero_le _
  | _ + 1, [] => Nat.zero_le _
  | n + 1, c :: r => by
    show (match (sizesL (c :: r)).getLast? with | none => _ | some k => _ : List Int).length ≤ _
    cases e : (sizesL (c :: r)).getLast? with
    | none =>
      have := numbersF_len n ((c :: r).drop 1)
      simp only [List.length_cons, List.length_drop] at this ⊢; omega
    | some k =>
      have hk : 1 ≤ k := by
        have h3 := (List.mem_filter.mp (List.mem_of_getLast? e)).1
        simp only [List.mem_cons, List.not_mem_nil, or_false] at h3
        omega
      have := numbersF_len n ((c :: r).drop k)
      simp only [List.length_cons, List.length_drop] at this ⊢; omega
theorem lead_lt : ∀ l : Ln, l ≠ [] → leadOf l < l.length
  | [], h => absurd rfl h
  | [_], _ => by simp [leadOf]
  | c :: d :: r, _ => by
    have := lead_lt (d :: r) (List.cons_ne_nil _ _)
    rw [leadOf]
    split
    · simp only [List.length_cons] at this ⊢; omega
    · simp
/-- a first line is never further in, unless it is blank -/
theorem first_line : ∀ l : Ln, l ≠ [] → deeperL (l.drop (leadOf l)) = true → (l.drop (leadOf l)).all (· == 32) = true
  | [], h, _ => absurd rfl h
  | [c], _, h => by
    simp only [leadOf, List.drop_zero] at h ⊢
    simp [deeperL] at h
    simp [h]
  | c :: d :: r, _, h => by
    rw [leadOf] at h ⊢
    split at h
    · rename_i hc
      rw [if_pos hc]
      exact first_line (d :: r) (List.cons_ne_nil _ _) h
    · rename_i hc
      simp [deeperL, hc] at h
/-- what holds of the fold behind i lines -/
structure FoldAt (lines : List Ln) (i : Nat) (st : List Int × List Ln) : Prop where
  mem : ∀ l ∈ st.2, l ∈ lines
  head : st.2 ≠ [] → (st.2.headD []).all (· == 32) = false
  cnt : st.2.length ≤ i - 1
  len : st.1.length + wt st.2 + (if i = 0 then 0 else 2) ≤ wt (lines.take i)
theorem head_ne {ls : List Ln} (h : (ls.headD []).all (· == 32) = false) : ls.headD [] ≠ [] := by
  intro q; rw [q] at h; cases h
theorem close_len {n : Nat} (IH : ∀ ls : List Ln, ls ≠ [] → ls.headD [] ≠ [] → (partsF n ls).length + 2 ≤ wt ls) {st : List Int × List Ln} (hh : st.2 ≠ [] → (st.2.headD []).all (· == 32) = false) :
    (closeL (partsF n) st).1.length ≤ st.1.length + wt st.2 ∧ (closeL (partsF n) st).2 = [] := by
  unfold closeL
  split
  · rename_i h; exact ⟨Nat.le_add_right _ _, h⟩
  · rename_i h
    have := IH st.2 h (head_ne (hh h))
    simp only [List.length_append, List.length_cons, List.length_nil]
    exact ⟨by omega, trivial⟩
theorem fold_step {n : Nat} (IH : ∀ ls : List Ln, ls ≠ [] → ls.headD [] ≠ [] → (partsF n ls).length + 2 ≤ wt ls) {lines : List Ln} {i : Nat} {st : List Int × List Ln} {l : Ln} (h : FoldAt lines i st) (hl : lines[i]? = some l)
    (h0 : i = 0 → l ≠ [] ∧ (deeperL l = true → l.all (· == 32) = true)) (hs : i = 0 → st.2 = []) : FoldAt lines (i + 1) (stepL (partsF n) st l) := by
  have ht : lines.take (i + 1) = lines.take i ++ [l] := by rw [List.take_add_one, hl]; rfl
  have hw : wt (lines.take (i + 1)) = wt (lines.take i) + (l.length + 5) := by rw [ht, wt_app, wt_cons, wt_nil]
  have hml : l ∈ lines := List.mem_of_getElem? hl
  have hlen := h.len
  have hpos : i = 0 → 1 ≤ l.length := fun q => List.length_pos_iff.mpr (h0 q).1
  unfold stepL
  split
  · rename_i hd
    split
    · rename_i hb
      refine ⟨h.mem, h.head, ?_, ?_⟩
      · have := h.cnt; simp only at this ⊢; omega
      · rw [hw]
        simp only [List.length_append, List.length_cons, List.length_nil, Nat.add_eq_zero_iff, Nat.one_ne_zero, and_false, if_false]
        split at hlen
        · rename_i q; have := hpos q; omega
        · omega
    · rename_i hb
      have hi0 : i ≠ 0 := fun q => hb ⟨hs q, (h0 q).2 hd⟩
      refine ⟨?_, ?_, ?_, ?_⟩
      · intro x hx
        rcases List.mem_append.mp hx with q | q
        · exact h.mem x q
        · rw [List.mem_singleton.mp q]; exact hml
      · intro _
        cases e : st.2 with
        | nil =>
          have : ¬ l.all (· == 32) = true := fun q => hb ⟨e, q⟩
          simpa using this
        | cons a r =>
          have := h.head (by rw [e]; exact List.cons_ne_nil _ _)
          rw [e] at this
          simpa using this
      · have := h.cnt; simp only [List.length_append, List.length_cons, List.length_nil]; omega
      · rw [hw]
        simp only [wt_app, wt_cons, wt_nil, Nat.add_eq_zero_iff, Nat.one_ne_zero, and_false, if_false]
        rw [if_neg hi0] at hlen
        omega
  · obtain ⟨c1, c2⟩ := close_len IH h.head
    have hn := numbersF_len l.length l
    refine ⟨?_, ?_, ?_, ?_⟩
    · rw [c2]; intro x hx; cases hx
    · rw [c2]; intro q; exact absurd rfl q
    · rw [c2]; exact Nat.zero_le _
    · rw [hw, c2, wt_nil]
      simp only [numbersL, List.length_append, List.length_cons, List.length_nil, Nat.add_eq_zero_iff, Nat.one_ne_zero, and_false, if_false]
      split at hlen <;> omega
theorem fold_all {n : Nat} (IH : ∀ ls : List Ln, ls ≠ [] → ls.headD [] ≠ [] → (partsF n ls).length + 2 ≤ wt ls) {lines : List Ln} (h0 : ∀ l, lines[0]? = some l → l ≠ [] ∧ (deeperL l = true → l.all (· == 32) = true)) :
    ∀ i, i ≤ lines.length → FoldAt lines i ((lines.take i).foldl (stepL (partsF n)) ([], []))
  | 0, _ => ⟨(fun _ h => nomatch h), fun h => absurd rfl h, Nat.le_refl _, Nat.le_refl _⟩
  | i + 1, hi => by
    obtain ⟨l, hl⟩ : ∃ l, lines[i]? = some l := ⟨_, List.getElem?_eq_getElem hi⟩
    have ih := fold_all IH h0 i (Nat.le_of_succ_le hi)
    have ht : lines.take (i + 1) = lines.take i ++ [l] := by rw [List.take_add_one, hl]; rfl
    rw [ht, List.foldl_append]
    exact fold_step IH ih hl (fun q => h0 l (by rw [← q]; exact hl)) (fun q => by subst q; rfl)
theorem dedent_first {ls : List Ln} (hne : ls ≠ []) (hh : ls.headD [] ≠ []) : ∀ l, (dedentL ls)[0]? = some l → l ≠ [] ∧ (deeperL l = true → l.all (· == 32) = true) := by
  intro l hl
  obtain ⟨a, r, rfl⟩ := List.exists_cons_of_ne_nil hne
  simp only [dedentL, List.headD_cons, List.map_cons, List.getElem?_cons_zero, Option.some.injEq] at hl hh
  subst hl
  exact ⟨fun q => by have := List.drop_eq_nil_iff.mp q; have := lead_lt a hh; omega, first_line a hh⟩
theorem parts_len : ∀ (n : Nat) (ls : List Ln), ls ≠ [] → ls.headD [] ≠ [] → (partsF n ls).length + 2 ≤ wt ls
  | 0, ls, hne, _ => by
    obtain ⟨a, r, rfl⟩ := List.exists_cons_of_ne_nil hne
    simp only [partsF, List.length_nil, wt_cons]; omega
  | n + 1, ls, hne, hh => by
    have IH := parts_len n
    have h := fold_all IH (dedent_first hne hh) (dedentL ls).length (Nat.le_refl _)
    rw [List.take_length] at h
    have hlen := h.len
    have hpos : (dedentL ls).length ≠ 0 := by simp [dedentL, hne]
    rw [if_neg hpos, List.take_length] at hlen
    have hc := (close_len IH h.head).1
    have hw : wt (dedentL ls) ≤ wt ls := wt_dedent _ _
    show ((closeL (partsF n) ((dedentL ls).foldl (stepL (partsF n)) ([], []))).1).length + 2 ≤ _
    omega
end Mine
end
section
open PySem PySem.W PyProof.Rows PySem.Calls PySem.SeqAt PySem.Spec
set_option maxRecDepth 100000
namespace Mine
section
variable {prog : Program} {w : World} {A : Around} {E : Value → Shared → Prop} {s : Shared}
theorem in_tup2 {T : Addr} {a b x : Ln} {ta tb t : Tok} {Q : Value → Shared → Prop} (hl : s.heap.IsTuple T #[.str (S a) ta, .str (S b) tb]) (h : Q (.bool (x == a || x == b)) s) :
    wpAny (model prog w) A (compareOp .In (.str (S x) t) (.ref T)) Q E s := by
  refine in_tupleAt (fun y => PyProof.Rows.isStrOf (S x) y) hl (fun y hy => ?_) ?_
  · simp only [Array.mem_def, List.mem_cons, List.not_mem_nil, or_false] at hy
    rcases hy with rfl | rfl
    · exact (eqGives_str _ _ _ _).at _ _
    · exact (eqGives_str _ _ _ _).at _ _
  · have : (#[.str (S a) ta, .str (S b) tb] : Array Value).any (fun y => PyProof.Rows.isStrOf (S x) y) = (x == a || x == b) := by
      simp only [PyProof.Rows.isStrOf, List.any_toArray, List.any_cons, List.any_nil, Bool.or_false, S_beq]
      rw [Bool.beq_comm (a := a), Bool.beq_comm (a := b)]
    rw [this]; exact h
theorem add_g {l b : Addr} {vs ws : List Value} {Q : Value → Shared → Prop} (hl : s.heap.IsList l vs.toArray) (hb : s.heap.IsList b ws.toArray)
    (h : ∀ h', Grown s.heap h' → h'.PlainList s.heap.objs.size (vs ++ ws).toArray → h'.objs.size = s.heap.objs.size + 1 → Q (.ref s.heap.objs.size) { s with heap := h' }) (hsz : vs.length + ws.length ≤ sizeLine) :
    wpAny (model prog w) A (binaryOp .Add (.ref l) (.ref b)) Q E s := by
  obtain ⟨⟨c1, d1, k1, s1⟩, g1, e1, n1, f1⟩ := hl
  obtain ⟨⟨c2, d2, k2, s2⟩, g2, e2, n2, f2⟩ := hb
  cases e1; cases f1; cases e2; cases f2
  refine concat_meets ⟨_, g1, rfl⟩ ⟨_, g2, rfl⟩ noFill_list_add seq_list_add PySem.F.slot_list_add PySem.F.entry_list_add (PySem.F.args_list_add_2 _ _) (list_addW l b vs.toArray ws.toArray n1 n2 d1 d2 s1 s2 (by simpa using hsz)) ⟨g1, g2, ?_⟩
  rw [show vs.toArray ++ ws.toArray = (vs ++ ws).toArray by simp]
  exact h _ (fun _ _ e => Heap.get?_push_of_some _ e) ⟨_, Heap.get?_push_size _ rfl⟩ (Heap.size_push ..)
theorem strOk_S {l : Ln} (h : ∀ c ∈ l, c < 128) : PyData.strOk (S l) = true := by
  unfold PyData.strOk S
  simp only [List.all_toArray, List.all_eq_true, decide_eq_true_eq]
  exact fun c hc => Nat.lt_trans (h c hc) (by decide)
theorem readsAll_strs {h : Heap} : ∀ (cur : List (Str × Tok)), ReadsAll h (strValues cur) (cur.map fun p => PyData.str p.1) []
  | [] => .nil
  | p :: r => by
    have := ReadsAll.cons (Reads.str (h := h) p.1 p.2) (readsAll_strs (h := h) r)
    simpa [strValues] using this
theorem reads_strs {h : Heap} {a : Addr} {cur : List (Str × Tok)} (hl : h.IsList a (strValues cur).toArray) : Reads h (.ref a) (.list (cur.map fun p => PyData.str p.1)) [a] := by
  obtain ⟨o, ho, hc, n, hd⟩ := hl
  exact Reads.list ho hc hd (by simpa using readsAll_strs cur)
theorem lay_strs : ∀ (cur : List (Str × Tok)), (∀ p ∈ cur, PyData.strOk p.1 = true) → PyData.canLayAll0 (cur.map fun p => PyData.str p.1) = true
  | [], _ => by simp [PyData.canLayAll0]
  | p :: r, h => by
    have h1 := h p (.head _)
    have h2 := lay_strs r fun q hq => h q (.tail _ hq)
    simp only [List.map_cons, PyData.canLayAll0, PyData.canLay0, h1, h2, Bool.and_self]
theorem depth_strs : ∀ (cur : List (Str × Tok)), PyData.depthAll (cur.map fun p => PyData.str p.1) ≤ 1
  | [] => by simp [PyData.depthAll]
  | p :: r => by
    have := depth_strs r
    simp only [List.map_cons, PyData.depthAll, PyData.depth]
    omega
theorem shaped_strs {cur : List (Str × Tok)} (h : ∀ p ∈ cur, PyData.strOk p.1 = true) : shaped (.list (cur.map fun p => PyData.str p.1)) = true := by
  have h1 := depth_strs cur
  show (PyData.canLay0 _ && decide (PyData.depth _ ≤ 64)) = true
  rw [Bool.and_eq_true]
  refine ⟨by simp only [PyData.canLay0]; exact lay_strs cur h, decide_eq_true ?_⟩
  simp only [PyData.depth]; omega
theorem strs_eq_nil {a b : Addr} {cur : List (Str × Tok)} {Q : Value → Shared → Prop} (ha : s.heap.IsList a (strValues cur).toArray) (hok : ∀ p ∈ cur, PyData.strOk p.1 = true) (hb : s.heap.IsList b ([] : List Value).toArray) (hu : A.units + 64 < cLine)
    (h : Q (.bool (decide (cur = []))) s) : wpAny (model prog w) A (compareOp .Eq (.ref a) (.ref b)) Q E s := by
  refine eq_dataH_same (reads_strs ha) (reads_strs (cur := []) hb) (shaped_strs hok) (shaped_strs fun _ h => nomatch h) hu ?_ ?_
  · cases cur <;> simp [noMix, noMixAll]
  · have : Spec.same (.list (cur.map fun p => PyData.str p.1)) (.list (([] : List (Str × Tok)).map fun p => PyData.str p.1)) = decide (cur = []) := by cases cur <;> simp [Spec.same, Spec.sameAll]
    rw [this]; exact h
theorem strs_ne_nil {a b : Addr} {cur : List (Str × Tok)} {Q : Value → Shared → Prop} (ha : s.heap.IsList a (strValues cur).toArray) (hok : ∀ p ∈ cur, PyData.strOk p.1 = true) (hb : s.heap.IsList b ([] : List Value).toArray) (hu : A.units + 64 < cLine)
    (h : Q (.bool (!decide (cur = []))) s) : wpAny (model prog w) A (compareOp .NotEq (.ref a) (.ref b)) Q E s := by
  refine ne_dataH_same (reads_strs ha) (reads_strs (cur := []) hb) (shaped_strs hok) (shaped_strs fun _ h => nomatch h) hu ?_ ?_
  · cases cur <;> simp [noMix, noMixAll]
  · have : Spec.same (.list (cur.map fun p => PyData.str p.1)) (.list (([] : List (Str × Tok)).map fun p => PyData.str p.1)) = decide (cur = []) := by cases cur <;> simp [Spec.same, Spec.sameAll]
    rw [this]; exact h
end
theorem takeWhile_all_len {f : Nat → Bool} : ∀ {l : Ln}, (l.takeWhile f).length = l.length ↔ l.all f = true
  | [] => by simp
  | c :: r => by
    have ih := takeWhile_all_len (f := f) (l := r)
    simp only [List.takeWhile_cons, List.all_cons, Bool.and_eq_true]
    split
    · rename_i h; simp only [List.length_cons, Nat.add_right_cancel_iff, ih, h, true_and]
    · rename_i h; simp [h]
theorem strip_nil (l : Ln) : (Txt.stripChars (S l) (S [32]) == S []) = l.all (· == 32) := by
  have hg : (S [32]).cps.contains = fun c : Nat => c == 32 := by
    funext c
    simp only [S, List.contains_toArray, List.contains_cons, List.contains_nil, Bool.or_false]
  unfold Txt.stripChars Txt.stripBy
  rw [hg]
  have hlo : stripLo (fun c : Nat => c == 32) true (S l) = (l.takeWhile (· == 32)).length := by simp [stripLo, S]
  have hlen : (S l).length = l.length := S_len l
  obtain ⟨f1, _, f3⟩ := lo_facts (fun c : Nat => c == 32) (S l)
  have H := hi_facts (fun c : Nat => c == 32) (S l) (stripLo (fun c : Nat => c == 32) true (S l)) f1
  obtain ⟨g1, g2, g3, g4⟩ := H
  by_cases hall : l.all (· == 32) = true
  · rw [hall]
    have e := takeWhile_all_len.mpr hall
    rw [← hlo, ← hlen] at e
    split
    · rename_i hs
      unfold stripSame at hs
      simp only [Bool.and_eq_true, beq_iff_eq] at hs
      have : l.length = 0 := by rw [← hlen]; omega
      rw [List.length_eq_zero_iff.mp this]; rfl
    · unfold PySem.stripped
      have e2 : stripHi (fun c : Nat => c == 32) true (S l) (stripLo (fun c : Nat => c == 32) true (S l)) = (S l).length := by omega
      rw [e2, e]
      rw [beq_iff_eq]
      apply Str.ext'
      apply Array.toList_inj.mp
      rw [StrLaws.strSub_toList]
      simp [S]
  · have hne : stripLo (fun c : Nat => c == 32) true (S l) < (S l).length := by
      rcases Nat.lt_or_ge (stripLo (fun c : Nat => c == 32) true (S l)) (S l).length with q | q
      · exact q
      · exfalso
        refine hall (takeWhile_all_len.mp ?_)
        rw [← hlo, ← hlen]; omega
    have hf : l.all (· == 32) = false := by simpa using hall
    rw [hf]
    have hgt : stripLo (fun c : Nat => c == 32) true (S l) < stripHi (fun c : Nat => c == 32) true (S l) (stripLo (fun c : Nat => c == 32) true (S l)) := by
      rcases Nat.lt_or_ge (stripLo (fun c : Nat => c == 32) true (S l)) (stripHi (fun c : Nat => c == 32) true (S l) (stripLo (fun c : Nat => c == 32) true (S l))) with q | q
      · exact q
      · exfalso
        have h1 := g3 (stripLo (fun c : Nat => c == 32) true (S l)) q hne
        rcases f3 with h2 | h2
        · omega
        · rw [h1] at h2; cases h2
    split
    · rw [S_beq]
      cases l with
      | nil => simp at hf
      | cons c r => rfl
    · rw [beq_eq_false_iff_ne]
      intro q
      have h1 := congrArg (fun x : Str => x.cps.toList.length) q
      unfold PySem.stripped at h1
      rw [StrLaws.strSub_toList] at h1
      simp only [List.length_take, List.length_drop] at h1
      have h3 : (S l).cps.toList.length = (S l).length := by simp [Str.length]
      rw [h3] at h1
      have h4 : (S []).cps.toList.length = 0 := rfl
      rw [h4] at h1
      omega
end Mine
end
section
open PySem PySem.W PyProof.Rows PySem.Calls
set_option maxRecDepth 100000
namespace Mine
theorem flat_wt : ∀ ls : List Ln, (flatL ls).length ≤ wt ls
  | [] => Nat.le_refl _
  | [a] => by simp only [flatL, wt_cons]; omega
  | a :: b :: r => by
    have := flat_wt (b :: r)
    simp only [flatL, List.length_append, List.length_cons, wt_cons] at this ⊢
    omega
theorem join_wt (ls : List Ln) : (joinL ls).length ≤ wt ls := by rw [joinL_flat, S_len]; exact flat_wt ls
theorem wt_cnt : ∀ ls : List Ln, 5 * ls.length ≤ wt ls
  | [] => Nat.le_refl _
  | a :: r => by have := wt_cnt r; simp only [List.length_cons, wt_cons]; omega
theorem wt_mem : ∀ {ls : List Ln} {l : Ln}, l ∈ ls → l.length + 5 ≤ wt ls
  | a :: r, l, h => by
    rw [wt_cons]
    rcases List.mem_cons.mp h with rfl | h
    · omega
    · have := wt_mem h; omega
open Builtin Builtin.Str in
theorem split_g {prog : Program} {w : World} {A : Around} {E : Value → Shared → Prop} {s : Shared} {t u : Tok} {Q : Value → Shared → Prop} {ls : List Ln} (hne : ls ≠ []) (hnl : ∀ l ∈ ls, 10 ∉ l) (hsz : (joinL ls).length + 2 ≤ 10000)
    (h : ∀ D l h' k, l.map (·.1) = ls.map S → Grown s.heap h' → h'.IsList D (strValues l).toArray → Q (.ref D) { s with heap := h', toks := k }) :
    wpAny (model prog w) A (call (.builtin "str.split") [.str (joinL ls) t, .str (Str.ofString "\n") u]) Q E s := by
  rw [str_nl]
  refine SCH.split1 (P := fun h' => Grown s.heap h') keptGrown (fun _ _ e => e) rfl (fun D l h' k hl g hL => h D l h' k (hl.trans (split_joinL hne hnl)) g hL) (Nat.le_trans (by omega : _ ≤ 10000) (by decide)) ?_
  refine Nat.le_trans ?_ (by decide : 10000 ≤ sizeLine)
  have e1 := StrLaws.occ_length_le (joinL ls) (S [10]) 0 (joinL ls).length ((joinL ls).length + 1)
  rw [length_partsBetween]; omega
theorem dedent_len (ls : List Ln) : (dedentL ls).length = ls.length := by simp [dedentL]
theorem dedent_mem {ls : List Ln} {l : Ln} (h : l ∈ dedentL ls) : ∃ l' ∈ ls, ∃ k, l = l'.drop k := by
  unfold dedentL at h
  obtain ⟨l', h', rfl⟩ := List.mem_map.mp h
  exact ⟨l', h', _, rfl⟩
/-- the state of the loop of _law_by_parts -/
def PSt (s : Shared) (It Dl : Addr) (items : List Value) (i : Nat) (st : List Int × List Ln) (h : Heap) (m : Str → Option Value) : Prop :=
  Fr s.heap s.heap.objs.size h m ∧ h.IsListIter It Dl i ∧ h.PlainList Dl items.toArray ∧ It ≠ s.heap.objs.size ∧ Dl ≠ s.heap.objs.size ∧
  ∃ (Dt Di : Addr) (vst : List Value) (cur : List (Str × Tok)), m "told" = some (.ref Dt) ∧ m "inner" = some (.ref Di) ∧ Dt ≠ s.heap.objs.size ∧ Di ≠ s.heap.objs.size ∧ Dt ≠ Di ∧ Di ≠ Dl ∧ s.heap.get? Dt = none ∧ s.heap.get? Di = none ∧
    h.PlainList Dt vst.toArray ∧ h.PlainList Di (strValues cur).toArray ∧ IntsAre vst st.1 ∧ cur.map (·.1) = st.2.map S
theorem PSt.grow {s : Shared} {It Dl : Addr} {items : List Value} {i : Nat} {st : List Int × List Ln} {h h' : Heap} {m : Str → Option Value} (x : PSt s It Dl items i st h m) (g : Grown h h') : PSt s It Dl items i st h' m := by
  obtain ⟨F, hit, hl, n1, n2, Dt, Di, vst, cur, a1, a2, a3, a4, a5, a6, a7, a8, a9, a10, a11, a12⟩ := x
  exact ⟨frGrow F g, hit.at fun o e => g _ _ e, plain_grow hl g, n1, n2, Dt, Di, vst, cur, a1, a2, a3, a4, a5, a6, a7, a8, plain_grow a9 g, plain_grow a10 g, a11, a12⟩
theorem PSt.cast {s : Shared} {It Dl : Addr} {items : List Value} {i : Nat} {st st' : List Int × List Ln} {h : Heap} {m : Str → Option Value} (x : PSt s It Dl items i st h m) (e : st = st') : PSt s It Dl items i st' h m := e ▸ x
theorem plain_ne_iter {h : Heap} {D I l : Addr} {i : Nat} {its : Array Value} (a : h.PlainList D its) (b : h.IsListIter I l i) : D ≠ I := by
  rintro rfl
  obtain ⟨n, ha⟩ := a
  obtain ⟨o, ho, hc, _⟩ := b
  rw [ha] at ho; cases ho
  exact absurd (Value.type.inj hc) (by decide)
/-- the loop takes its next item -/
theorem PSt.move {s : Shared} {It Dl : Addr} {items : List Value} {i j : Nat} {st : List Int × List Ln} {h h' : Heap} {m : Str → Option Value} (x : PSt s It Dl items i st h m) (hit' : h'.IsListIter It Dl j) (hk : ∀ b o, b ≠ It → h.get? b = some o → h'.get? b = some o) (hI0 : s.heap.get? It = none) : PSt s It Dl items j st h' m := by
  obtain ⟨F, hit, hl, n1, n2, Dt, Di, vst, cur, a1, a2, a3, a4, a5, a6, a7, a8, a9, a10, a11, a12⟩ := x
  have pl : ∀ {D : Addr} {its : Array Value}, h.PlainList D its → h'.PlainList D its := fun {D its} a => by
    have := plain_ne_iter a hit
    obtain ⟨n, ha⟩ := a
    exact ⟨n, hk _ _ this ha⟩
  exact ⟨⟨F.ns.at' fun o e => hk _ o (Ne.symm n1) e, fun b o e => hk b o (fun q => by rw [q, hI0] at e; cases e) (F.keep b o e), F.above⟩, hit', pl hl, n1, n2, Dt, Di, vst, cur, a1, a2, a3, a4, a5, a6, a7, a8, pl a9, pl a10, a11, a12⟩
/-- the list that it walked may go -/
theorem PSt.last {s : Shared} {It Dl : Addr} {items : List Value} {i : Nat} {st : List Int × List Ln} {h h' : Heap} {m : Str → Option Value} (x : PSt s It Dl items i st h m) (hk : ∀ b o, b ≠ It → h.get? b = some o → h'.get? b = some o) (hI0 : s.heap.get? It = none) :
    Fr s.heap s.heap.objs.size h' m ∧ ∃ D vs, s.heap.get? D = none ∧ m "told" = some (.ref D) ∧ h'.PlainList D vs.toArray ∧ IntsAre vs st.1 := by
  obtain ⟨F, hit, hl, n1, n2, Dt, Di, vst, cur, a1, a2, a3, a4, a5, a6, a7, a8, a9, a10, a11, a12⟩ := x
  have := plain_ne_iter a9 hit
  obtain ⟨n, ha⟩ := a9
  exact ⟨⟨F.ns.at' fun o e => hk _ o (Ne.symm n1) e, fun b o e => hk b o (fun q => by rw [q, hI0] at e; cases e) (F.keep b o e), F.above⟩, Dt, vst, a7, a1, ⟨n, hk _ _ this ha⟩, a11⟩
/-- a name that is neither of the two is stored -/
theorem PSt.set {s : Shared} {It Dl : Addr} {items : List Value} {i : Nat} {st : List Int × List Ln} {h h' : Heap} {m : Str → Option Value} {y : Str} {v : Value} (x : PSt s It Dl items i st h m) (F' : Fr s.heap s.heap.objs.size h' (fun z => if z = y then some v else m z)) (sb : Heap.SameBut s.heap.objs.size h h')
    (h1 : ("told" : Str) ≠ y) (h2 : ("inner" : Str) ≠ y) : PSt s It Dl items i st h' (fun z => if z = y then some v else m z) := by
  obtain ⟨F, hit, hl, n1, n2, Dt, Di, vst, cur, a1, a2, a3, a4, a5, a6, a7, a8, a9, a10, a11, a12⟩ := x
  refine ⟨F', hit.extBut sb.extBut n1, plainBut hl sb n2, n1, n2, Dt, Di, vst, cur, ?_, ?_, a3, a4, a5, a6, a7, a8, plainBut a9 sb a3, plainBut a10 sb a4, a11, a12⟩
  · show (if _ = y then _ else _) = _; rw [if_neg h1]; exact a1
  · show (if _ = y then _ else _) = _; rw [if_neg h2]; exact a2
/-- told is stored anew -/
theorem PSt.tell {s : Shared} {It Dl : Addr} {items : List Value} {i : Nat} {st : List Int × List Ln} {h h' : Heap} {m : Str → Option Value} {D : Addr} {vs : List Value} {told : List Int} (x : PSt s It Dl items i st h m) (F' : Fr s.heap s.heap.objs.size h' (fun z => if z = "told" then some (.ref D) else m z)) (sb : Heap.SameBut s.heap.objs.size h h')
    (hD : h.PlainList D vs.toArray) (hi : IntsAre vs told) (hDL : D ≠ s.heap.objs.size) (hD0 : s.heap.get? D = none) (hDi : ∀ Di, m "inner" = some (.ref Di) → D ≠ Di) : PSt s It Dl items i (told, st.2) h' (fun z => if z = "told" then some (.ref D) else m z) := by
  obtain ⟨F, hit, hl, n1, n2, Dt, Di, vst, cur, a1, a2, a3, a4, a5, a6, a7, a8, a9, a10, a11, a12⟩ := x
  exact ⟨F', hit.extBut sb.extBut n1, plainBut hl sb n2, n1, n2, D, Di, vs, cur, rfl, a2, hDL, a4, hDi Di a2, a6, hD0, a8, plainBut hD sb hDL, plainBut a10 sb a4, hi, a12⟩
/-- inner is stored anew, empty -/
theorem PSt.fresh {s : Shared} {It Dl : Addr} {items : List Value} {i : Nat} {st : List Int × List Ln} {h h' : Heap} {m : Str → Option Value} {D : Addr} (x : PSt s It Dl items i st h m) (F' : Fr s.heap s.heap.objs.size h' (fun z => if z = "inner" then some (.ref D) else m z)) (sb : Heap.SameBut s.heap.objs.size h h')
    (hD : h.PlainList D ([] : List Value).toArray) (hDL : D ≠ s.heap.objs.size) (hD0 : s.heap.get? D = none) (hDt : ∀ Dt, m "told" = some (.ref Dt) → Dt ≠ D) (hDl : D ≠ Dl) : PSt s It Dl items i (st.1, []) h' (fun z => if z = "inner" then some (.ref D) else m z) := by
  obtain ⟨F, hit, hl, n1, n2, Dt, Di, vst, cur, a1, a2, a3, a4, a5, a6, a7, a8, a9, a10, a11, a12⟩ := x
  exact ⟨F', hit.extBut sb.extBut n1, plainBut hl sb n2, n1, n2, Dt, D, vst, [], a1, rfl, a3, hDL, hDt Dt a1, hDl, a7, hD0, plainBut a9 sb a3, plainBut hD sb hDL, a11, rfl⟩
theorem wt_take (i : Nat) (ls : List Ln) : wt (ls.take i) ≤ wt ls := by
  conv => rhs; rw [← List.take_append_drop i ls, wt_app]
  exact Nat.le_add_right _ _
theorem size_ok {n : Nat} (h : n ≤ 20000) : n ≤ sizeLine := Nat.le_trans h (by decide)
/-- the contract of _law_by_parts -/
def PartsC (prog : Program) (w : World) (p : Program) (loose : List Str) (mg mb : Str → Option Value) (n : Nat) : Prop :=
  ∀ (A : Around) (E : Value → Shared → Prop) (s : Shared) (t : Tok) (Q : Value → Shared → Prop) (ls : List Ln), Gd w p loose mg mb s.heap → A.depth + n + 2 < recursionLimit → A.handled = none → A.units + 3 * n + 200 < cLine →
    ls ≠ [] → ls.length ≤ n → ls.length ≤ 100 → (∀ l ∈ ls, ∀ c ∈ l, c < 128 ∧ c ≠ 10) → ls.headD [] ≠ [] → wt ls ≤ 5000 →
    (∀ h' tk D vs, Grown s.heap h' → s.heap.get? D = none → h'.PlainList D vs.toArray → IntsAre vs (partsF n ls) → Q (.ref D) { s with heap := h', toks := tk }) →
    wpAny (model prog w) A (call (.ref 36) [.str (joinL ls) t]) Q E s
set_option maxHeartbeats 1000000
theorem parts_step {prog : Program} {w : World} {p : Program} {loose : List Str} {mg mb : Str → Option Value} {n : Nat} (IH : PartsC prog w p loose mg mb n) : PartsC prog w p loose mg mb (n + 1) := by
  intro A E s t Q ls G hd hh hu hne hn hct hch h0 hwt h
  have hnl : ∀ l ∈ ls, 10 ∉ l := fun l hl hc => (hch l hl 10 hc).2 rfl
  have hjl : (joinL ls).length + 2 ≤ 10000 := by have := join_wt ls; omega
  refine wpAny_call (call_plain_ret (binds := [("text", .str (joinL ls) t)]) (by omega) (G.X 36 _ rfl) rfl G.T.nolimit (codeRec_of G.X rfl) rfl (locs rfl) (fun h₁ F => ?_))
  have hLlt : s.heap.objs.size < h₁.objs.size := F.ns.lt
  refine wpAny_execs_cons (wpAny_Assign_Name (List_ (spliced_none (newList_g fun h₂ g₂ hT₂ hsz₂ => ?_))))
  dsimp only at g₂ hT₂ hsz₂
  refine stL (frGrow F g₂) fun h₃ F₃ sb₃ => ?_
  replace sb₃ : Heap.SameBut s.heap.objs.size h₂ h₃ := sb₃
  replace F₃ : Fr s.heap s.heap.objs.size h₃ _ := F₃
  have hT₃ := plainBut hT₂ sb₃ (Nat.ne_of_gt hLlt)
  refine wpAny_execs_cons (wpAny_Assign_Name (List_ (spliced_none (newList_g fun h₄ g₄ hI₄ hsz₄ => ?_))))
  dsimp only at g₄ hI₄ hsz₄
  have hsz₃ : h₃.objs.size = h₁.objs.size + 1 := sb₃.1.trans hsz₂
  refine stL (frGrow F₃ g₄) fun h₅ F₅ sb₅ => ?_
  replace sb₅ : Heap.SameBut s.heap.objs.size h₄ h₅ := sb₅
  replace F₅ : Fr s.heap s.heap.objs.size h₅ _ := F₅
  have hT₅ := plainBut (plain_grow hT₃ g₄) sb₅ (Nat.ne_of_gt hLlt)
  have hI₅ := plainBut hI₄ sb₅ (Nat.ne_of_gt (by omega))
  dsimp only
  have hDt0 : s.heap.get? h₁.objs.size = none := Heap.get?_none_of_le (Nat.le_of_lt hLlt)
  have hDi0 : s.heap.get? h₃.objs.size = none := Heap.get?_none_of_le (by omega)
  have hDtL : h₁.objs.size ≠ s.heap.objs.size := Nat.ne_of_gt hLlt
  have hDiL : h₃.objs.size ≠ s.heap.objs.size := Nat.ne_of_gt (by omega)
  have hDti : h₁.objs.size ≠ h₃.objs.size := Nat.ne_of_lt (by omega)
  generalize h₁.objs.size = Dt₀ at *
  generalize h₃.objs.size = Di₀ at *
  refine wpAny_execs_cons (wpAny_mono (Q := fun f s' => f = .next ∧ ∃ (h : Heap) (tk : Nat) (m : Str → Option Value) (D : Addr) (vs : List Value), s' = { s with heap := h, toks := tk } ∧ Fr s.heap s.heap.objs.size h m ∧ s.heap.get? D = none ∧ m "told" = some (.ref D) ∧ h.PlainList D vs.toArray ∧ IntsAre vs (partsF (n + 1) ls)) ?loop ?cont (fun _ _ e => e))
  case cont =>
    rintro f s' ⟨rfl, h₆, tk₆, m, D, vs, rfl, F₆, hD0, hm, hD₆, hi⟩
    exact wpAny_execs_cons (wpAny_Return_some (ldLocal F₆ hm (h _ _ _ _ F₆.keep hD0 hD₆ hi)))
  case loop =>
    refine for_raw ?_
    have G₅ := G.keeps F₅.keep
    refine wpAny_BinOp (MethodCall_ (Call_ (ldGlob G₅ rfl (callWith_def rfl (spliced_more (ldLocal F₅ rfl (spliced_none ⟨G₅.X 21 _ rfl, dedent_call G₅ (by show A.depth + 1 < recursionLimit; omega) (by exact hh) ls hne hnl h0 hjl hct fun h₆ tk₆ t₆ g₆ => ?_⟩)))))))
    dsimp only at g₆ ⊢
    have hwtD : wt (dedentL ls) ≤ wt ls := wt_dedent _ _
    have hchD : ∀ l ∈ dedentL ls, ∀ c ∈ l, c < 128 ∧ c ≠ 10 := fun l hl c hc => by
      obtain ⟨l', h', k, rfl⟩ := dedent_mem hl
      exact hch l' h' c (List.mem_of_mem_drop hc)
    have hnlD : ∀ l ∈ dedentL ls, 10 ∉ l := fun l hl hc => (hchD l hl 10 hc).2 rfl
    have hneD : dedentL ls ≠ [] := fun q => hne (by have := congrArg List.length q; rw [dedent_len] at this; exact List.length_eq_zero_iff.mp this)
    have hjD : (joinL (dedentL ls)).length + 2 ≤ 10000 := by have := join_wt (dedentL ls); omega
    refine GM.split (callWith_method1 (spliced_more (Calls.Constant_str (spliced_none (split_g hneD hnlD hjD fun Ds cl h₇ k₇ hcl g₇ hDs => ?_)))))
    dsimp only at g₇ ⊢
    have hcl_len : cl.length = ls.length := by have := congrArg List.length hcl; simpa [dedent_len] using this
    refine List_ (spliced_more (Constant_none (spliced_none (newList_g fun h₈ g₈ hN₈ hsz₈ => ?_))))
    dsimp only at g₈ hN₈ hsz₈ ⊢
    refine add_g (hDs.at fun o e => g₈ _ _ e) hN₈.isList (fun h₉ g₉ hL₉ hsz₉ => ?_) (by simp [strValues, hcl_len]; exact Nat.le_trans (by omega : ls.length + 1 ≤ 200) (by decide))
    dsimp only at g₉ hL₉ hsz₉ ⊢
    have g₅₉ : Grown h₅ h₉ := fun b o e => g₉ b o (g₈ b o (g₇ b o (g₆ b o e)))
    have F₉ := frGrow F₅ g₅₉
    have hT₉ := plain_grow hT₅ g₅₉
    have hI₉ := plain_grow hI₅ g₅₉
    have hL₈lt : s.heap.objs.size < h₈.objs.size := by
      have := (frGrow F₅ fun b o e => g₈ b o (g₇ b o (g₆ b o e))).ns.lt
      exact this
    refine wpAny_pyIter_list hL₉.isList ?_
    dsimp only
    generalize hh₁₀ : Heap.push h₉ _ = h₁₀
    have g₁₀ : Grown h₉ h₁₀ := fun b o e => hh₁₀ ▸ Heap.get?_push_of_some _ e
    have hsz₁₀ : h₁₀.objs.size = h₉.objs.size + 1 := by rw [← hh₁₀]; exact Heap.size_push ..
    have hIt₁₀ : h₁₀.IsListIter h₉.objs.size h₈.objs.size 0 := ⟨_, by rw [← hh₁₀]; exact Heap.get?_push_size _ rfl, rfl, rfl⟩
    clear hh₁₀
    have hDtlt : Dt₀ < h₈.objs.size := by obtain ⟨_, ho⟩ := plain_grow hT₅ (fun b o e => g₈ b o (g₇ b o (g₆ b o e))); exact Heap.lt_size ho
    have hDilt : Di₀ < h₈.objs.size := by obtain ⟨_, ho⟩ := plain_grow hI₅ (fun b o e => g₈ b o (g₇ b o (g₆ b o e))); exact Heap.lt_size ho
    generalize h₈.objs.size = Dl at *
    generalize h₉.objs.size = It at *
    have P₁₀ : PSt s It Dl (strValues cl ++ [Value.none]) 0 ([], []) h₁₀ _ := ⟨frGrow F₉ g₁₀, hIt₁₀, plain_grow hL₉ g₁₀, Nat.ne_of_gt (by omega), Nat.ne_of_gt (by omega), Dt₀, Di₀, [], [], rfl, rfl, hDtL, hDiL, hDti, Nat.ne_of_lt hDilt, hDt0, hDi0, plain_grow hT₉ g₁₀, plain_grow hI₉ g₁₀, .nil, rfl⟩
    clear hIt₁₀ hT₉ hI₉ F₉ g₁₀ hsz₁₀ hL₉ g₅₉ hDtlt hDilt hT₅ hI₅ hDtL hDiL hDti hDt0 hDi0 g₉ hN₈ g₈ hDs g₇ g₆ F₅ sb₅ hI₄ g₄ hT₃ F₃ sb₃ hT₂ g₂ F
    have FA := fold_all (parts_len n) (dedent_first hne h0)
    have hI0 : s.heap.get? It = none := Heap.get?_none_of_le (by omega)
    have hItDl : It ≠ Dl := by rw [hsz₉]; exact Nat.succ_ne_self _
    have W := fun (A' : Around) (hh' : A'.handled = none) => Walks.list (prog := prog) (w := w) (A := A') hh' It Dl (Ne.symm hItDl) (strValues cl ++ [Value.none]).toArray
    have hitems : (strValues cl ++ [Value.none]).toArray.size = ls.length + 1 := by simp [strValues, hcl_len]
    rw [hitems] at W
    refine ⟨fun k s' => ∃ (i : Nat) (h : Heap) (tk : Nat) (m : Str → Option Value), s' = { s with heap := h, toks := tk } ∧ k = ls.length + 2 - i ∧ i ≤ ls.length + 1 ∧
        PSt s It Dl (strValues cl ++ [Value.none]) i (if i ≤ ls.length then ((dedentL ls).take i).foldl (stepL (partsF n)) ([], []) else closeL (partsF n) ((dedentL ls).foldl (stepL (partsF n)) ([], []))) h m,
      ls.length + 2, ⟨0, h₁₀, _, _, rfl, rfl, Nat.zero_le _, by simpa using P₁₀⟩, ?_⟩
    rintro k s' ⟨i, hp, tk, m, rfl, rfl, hi, P⟩
    rcases Nat.lt_or_ge i (ls.length + 1) with hlt | hge
    · rw [if_pos (by omega)] at P
      have fa := FA i (by rw [dedent_len]; omega)
      generalize hst : ((dedentL ls).take i).foldl (stepL (partsF n)) ([], []) = st at P fa
      refine (W _ (by exact hh)).item i _ _ _ hlt ⟨P.2.1, P.2.2.1.isList⟩ fun v h₁₁ tk₁₁ hv₀ hst₁₁ hk₁₁ => ?_
      have hv : ((dedentL ls)[i]? = none ∧ v = .none) ∨ ∃ li ui, (dedentL ls)[i]? = some li ∧ v = .str (S li) ui := by
        rcases Nat.lt_or_ge i ls.length with q | q
        · right
          obtain ⟨li, hli⟩ : ∃ li, (dedentL ls)[i]? = some li := ⟨_, List.getElem?_eq_getElem (by rw [dedent_len]; exact q)⟩
          obtain ⟨⟨xi, ui⟩, hci⟩ : ∃ c, cl[i]? = some c := ⟨_, List.getElem?_eq_getElem (by rw [hcl_len]; exact q)⟩
          have h1 := congrArg (fun z : List Str => z[i]?) hcl
          simp only [List.getElem?_map, hci, hli, Option.map_some, Option.some.injEq] at h1
          refine ⟨li, ui, hli, ?_⟩
          have h2 : (strValues cl ++ [Value.none])[i]? = some v := by simpa using hv₀
          rw [List.getElem?_append_left (by simp [strValues, hcl_len]; exact q)] at h2
          simp only [strValues, List.getElem?_map, hci, Option.map_some, Option.some.injEq] at h2
          rw [← h2, h1]
        · left
          have e : i = ls.length := by omega
          refine ⟨List.getElem?_eq_none (by rw [dedent_len]; exact q), ?_⟩
          have h2 : (strValues cl ++ [Value.none])[i]? = some v := by simpa using hv₀
          rw [List.getElem?_append_right (by simp [strValues, hcl_len]; exact q)] at h2
          rw [show i - (strValues cl).length = 0 by simp [strValues, hcl_len]; omega] at h2
          simpa using h2.symm
      replace hk₁₁ : ∀ b o, b ≠ It → hp.get? b = some o → h₁₁.get? b = some o := fun b o hb e => hk₁₁ b o (by simpa using hb) e
      have P₁₁ := P.move hst₁₁.1 hk₁₁ hI0
      dsimp only
      refine letGo_listiter hst₁₁.1 (wpAny_assign_Name (stL P₁₁.1 fun h₁₂ F₁₂ sb₁₂ => ?_))
      replace sb₁₂ : Heap.SameBut s.heap.objs.size h₁₁ h₁₂ := sb₁₂
      replace F₁₂ : Fr s.heap s.heap.objs.size h₁₂ _ := F₁₂
      have P₁₂ := P₁₁.set F₁₂ sb₁₂ (by decide) (by decide)
      dsimp only
      clear sb₁₂ F₁₂ P₁₁ hk₁₁ hst₁₁ P hv₀
      generalize hd₁ : (match (dedentL ls)[i]? with | none => false | some li => deeperL li) = d
      -- is the line further in?
      refine wpAny_execs_cons (wpAny_mono (Q := fun f s' => f = .next ∧ ∃ (h : Heap) (tk : Nat) (m : Str → Option Value), s' = { s with heap := h, toks := tk } ∧ PSt s It Dl (strValues cl ++ [Value.none]) (i + 1) st h m ∧ m "line" = some v ∧ m "deeper" = some (.bool d)) ?s1 ?c1 (fun _ _ e => e))
      case s1 =>
        refine wpAny_Assign_Name (BoolOp_and (wpAny_Compare1 (ldLocal P₁₂.1 rfl (Constant_none (isNot_none (wpAny_truthy_bool ?_))))))
        rcases hv with ⟨hnone, rfl⟩ | ⟨li, ui, hli, rfl⟩
        · rw [hnone] at hd₁
          subst hd₁
          refine stL P₁₂.1 fun h₁₃ F₁₃ sb₁₃ => ?_
          exact ⟨rfl, h₁₃, _, _, rfl, P₁₂.set F₁₃ sb₁₃ (by decide) (by decide), rfl, rfl⟩
        · rw [hli] at hd₁
          have hml := hchD li (List.mem_of_getElem? hli)
          have hlen : li.length ≤ 5000 := by have := wt_mem (List.mem_of_getElem? hli); omega
          refine BoolOp_one (wpAny_Compare1 (cut_to (ldLocal P₁₂.1 rfl (wpAny_Constant_int ⟨li, ui, 1, _, rfl, rfl, Nat.le_trans hlen (by decide), (by intro r; with_unfolding_all rfl), fun h' t' k' g => ?_⟩))))
          dsimp only at g ⊢
          refine Tuple_ (spliced_more (Calls.Constant_str (spliced_more (Calls.Constant_str (spliced_none (wpAny_newTuple ?_))))))
          dsimp only
          rw [str_empty, str_blank]
          refine in_tup2 ⟨_, Heap.get?_push_size _ rfl, rfl, _, rfl⟩ ?_
          have P₁₃ := P₁₂.grow (h' := h') g
          generalize hh₁₄ : Heap.push h' _ = h₁₄
          have P₁₄ := P₁₃.grow (h' := h₁₄) fun b o e => hh₁₄ ▸ Heap.get?_push_of_some _ e
          refine stL P₁₄.1 fun h₁₅ F₁₅ sb₁₅ => ?_
          refine ⟨rfl, h₁₅, _, _, rfl, P₁₄.set F₁₅ sb₁₅ (by decide) (by decide), rfl, ?_⟩
          rw [← hd₁]; rfl
      case c1 =>
        rintro f s' ⟨rfl, h₁₃, tk₁₃, m₁₃, rfl, P₁₃, hml₁₃, hmd₁₃⟩
        clear P₁₂
        dsimp only
        have hwst : st.1.length + wt st.2 ≤ 5000 := by have h1 := fa.len; have h2 := wt_take i (dedentL ls); omega
        -- an inner part ends
        refine wpAny_execs_cons (wpAny_mono (Q := fun f s' => f = .next ∧ ∃ (h : Heap) (tk : Nat) (m : Str → Option Value), s' = { s with heap := h, toks := tk } ∧ PSt s It Dl (strValues cl ++ [Value.none]) (i + 1) (if d then st else closeL (partsF n) st) h m ∧ m "line" = some v ∧ m "deeper" = some (.bool d)) ?s2 ?c2 (fun _ _ e => e))
        case s2 =>
          obtain ⟨F, hit, hl, n1, n2, Dt, Di, vst, cur, a1, a2, a3, a4, a5, a6, a7, a8, a9, a10, a11, a12⟩ := id P₁₃
          have hok : ∀ p ∈ cur, PyData.strOk p.1 = true := fun p hp => by
            have h1 : p.1 ∈ st.2.map S := a12 ▸ List.mem_map_of_mem hp
            obtain ⟨l, hl, e⟩ := List.mem_map.mp h1
            rw [← e]
            exact strOk_S fun c hc => (hchD l (fa.mem l hl) c hc).1
          have hnil : decide (cur = []) = decide (st.2 = []) := by
            rw [decide_eq_decide]
            constructor
            · rintro rfl; exact List.map_eq_nil_iff.mp a12.symm
            · intro q; rw [q] at a12; exact List.map_eq_nil_iff.mp a12
          refine wpAny_If (isTrue_and (wpAny_isTrue_Compare1 (ldLocal F a2 (List_ (spliced_none (newList_g fun h₁₄ g₁₄ hE₁₄ hsz₁₄ => strs_ne_nil (plain_grow a10 g₁₄).isList hok hE₁₄.isList (by show A.units + 3 + 64 < cLine; omega) (wpAny_truthy_bool ?_)))))))
          dsimp only at g₁₄ hE₁₄ hsz₁₄ ⊢
          have P₁₄ := P₁₃.grow g₁₄
          rw [hnil]
          by_cases hin : st.2 = []
          · rw [decide_eq_true hin]
            simp only [Bool.not_true, Bool.false_eq_true, if_false]
            refine wpAny_execs_nil ⟨rfl, h₁₄, _, _, rfl, ?_, hml₁₃, hmd₁₃⟩
            have : (if d = true then st else closeL (partsF n) st) = st := by split; rfl; unfold closeL; rw [if_pos hin]
            rw [this]; exact P₁₄
          · rw [decide_eq_false hin]
            simp only [Bool.not_false, if_true]
            refine isTrue_and (isTrue_not (isTrue_plain (ldLocal P₁₄.1 hmd₁₃ (wpAny_truthy_bool ?_))))
            cases d with
            | true =>
              simp only [Bool.not_true, Bool.false_eq_true, if_false]
              exact wpAny_execs_nil ⟨rfl, h₁₄, _, _, rfl, by simpa using P₁₄, hml₁₃, hmd₁₃⟩
            | false =>
              simp only [Bool.not_false, if_true]
              refine isTrue_and_nil ?_
              simp only [if_true]
              have F₁₄ := frGrow F g₁₄
              have G₁₄ := G.keeps F₁₄.keep
              have hvl : vst.length ≤ 5000 := by rw [a11.length]; omega
              have hpl := parts_len n st.2 hin (head_ne (fa.head hin))
              refine wpAny_execs_cons (wpAny_Assign_Name (wpAny_BinOp (wpAny_BinOp (wpAny_BinOp (ldLocal F₁₄ a1 (List_ (spliced_more (ldGlob G₁₄ rfl (spliced_none (newList_g fun h₁₅ g₁₅ hN₁₅ sz₁₅ => add_g (plain_grow (plain_grow a9 g₁₄) g₁₅).isList hN₁₅.isList (fun h₁₆ g₁₆ hR₁₆ sz₁₆ => ?_) (size_ok (by simp; omega))))))))))))
              dsimp only at g₁₅ hN₁₅ sz₁₅ g₁₆ hR₁₆ sz₁₆ ⊢
              have g₁₄₆ : Grown h₁₄ h₁₆ := fun b o e => g₁₆ b o (g₁₅ b o e)
              have P₁₆ := P₁₄.grow g₁₄₆
              have G₁₆ := G.keeps P₁₆.1.keep
              have hcl16 : h₁₆.IsList Di (strValues cur).toArray := (plain_grow (plain_grow a10 g₁₄) g₁₄₆).isList
              refine Call_ (ldGlob G₁₆ rfl (callWith_def rfl (spliced_more (MethodCall_ (Calls.Constant_str (GM.join (callWith_method1 (spliced_more (ldLocal P₁₆.1 a2 (spliced_none (SC.join hcl16 a12 ?jok fun t₁₇ k₁₇ => spliced_none ⟨G₁₆.X 36 _ rfl, ?_⟩)))))))))))
              case jok =>
                rw [str_nl]
                exact join_ok (by have := fa.cnt; omega) fun y hy => by have := wt_mem hy; omega
              have ej : Txt.join (Str.ofString "\n") (st.2.map S) = joinL st.2 := by rw [str_nl]; exact StrLaws.glued_eq_join _ _
              rw [ej]
              refine IH _ _ _ _ _ st.2 (by exact G₁₆) (by show A.depth + 1 + n + 2 < recursionLimit; omega) (by exact hh) (by show A.units + 3 + 3 * n + 200 < cLine; omega) hin (by have := fa.cnt; omega) (by have := fa.cnt; omega) (fun l hl => hchD l (fa.mem l hl)) (head_ne (fa.head hin)) (by omega) fun h₁₈ k₁₈ Dr vr g₁₈ hDr0 hDr hir => ?_
              dsimp only at g₁₈ ⊢
              refine add_g (plain_grow hR₁₆ g₁₈).isList hDr.isList (fun h₁₉ g₁₉ hR₁₉ sz₁₉ => ?_) (size_ok (by rw [hir.length]; simp; omega))
              dsimp only at g₁₉ hR₁₉ sz₁₉ ⊢
              have P₁₉ := (P₁₆.grow g₁₈).grow g₁₉
              have G₁₉ := G.keeps P₁₉.1.keep
              refine List_ (spliced_more (ldGlob G₁₉ rfl (spliced_none (newList_g fun h₂₀ g₂₀ hN₂₀ sz₂₀ => add_g (plain_grow hR₁₉ g₂₀).isList hN₂₀.isList (fun h₂₁ g₂₁ hR₂₁ sz₂₁ => ?_) (size_ok (by simp [hir.length]; omega))))))
              dsimp only at g₂₀ hN₂₀ sz₂₀ g₂₁ hR₂₁ sz₂₁ ⊢
              have P₂₀ := P₁₉.grow g₂₀
              have P₂₁ := P₂₀.grow g₂₁
              have hLlt₂₀ : s.heap.objs.size < h₂₀.objs.size := P₂₀.1.ns.lt
              refine stL P₂₁.1 fun h₂₂ F₂₂ sb₂₂ => ?_
              have hdi : ∀ Di', m₁₃ "inner" = some (.ref Di') → h₂₀.objs.size ≠ Di' := fun Di' q => by
                obtain ⟨_, ho⟩ := (plain_grow (plain_grow (plain_grow (plain_grow (plain_grow a10 g₁₄) g₁₄₆) g₁₈) g₁₉) g₂₀)
                rw [a2] at q; cases q
                exact Nat.ne_of_gt (Heap.lt_size ho)
              have P₂₂ := P₂₁.tell F₂₂ sb₂₂ hR₂₁ (ints_snoc (ints_app (ints_snoc a11) hir)) (Nat.ne_of_gt hLlt₂₀) (Heap.get?_none_of_le (Nat.le_of_lt hLlt₂₀)) hdi
              dsimp only at P₂₂ ⊢
              refine wpAny_execs_cons (wpAny_Assign_Name (List_ (spliced_none (newList_g fun h₂₃ g₂₃ hN₂₃ sz₂₃ => ?_))))
              dsimp only at g₂₃ hN₂₃ sz₂₃ ⊢
              have P₂₃ := P₂₂.grow g₂₃
              have hLlt₂₂ : s.heap.objs.size < h₂₂.objs.size := P₂₂.1.ns.lt
              refine stL P₂₃.1 fun h₂₄ F₂₄ sb₂₄ => ?_
              have hdt : ∀ Dt', (if ("told" : Str) = "told" then some (Value.ref h₂₀.objs.size) else m₁₃ "told") = some (.ref Dt') → Dt' ≠ h₂₂.objs.size := fun Dt' q => by
                rw [if_pos rfl] at q
                cases q
                obtain ⟨_, ho⟩ := plainBut hR₂₁ (show Heap.SameBut s.heap.objs.size h₂₁ h₂₂ from sb₂₂) (Nat.ne_of_gt hLlt₂₀)
                exact Nat.ne_of_lt (Heap.lt_size ho)
              have hdl : h₂₂.objs.size ≠ Dl := by
                obtain ⟨_, ho⟩ := P₂₂.2.2.1
                exact Nat.ne_of_gt (Heap.lt_size ho)
              have P₂₄ := P₂₃.fresh F₂₄ sb₂₄ hN₂₃ (Nat.ne_of_gt hLlt₂₂) (Heap.get?_none_of_le (Nat.le_of_lt hLlt₂₂)) hdt hdl
              have e5 : (if false = true then st else closeL (partsF n) st) = (st.1 ++ [5] ++ partsF n st.2 ++ [6], []) := by unfold closeL; rw [if_neg hin]; rfl
              exact wpAny_execs_nil ⟨rfl, h₂₄, _, _, rfl, P₂₄.cast e5.symm, hml₁₃, hmd₁₃⟩
        case c2 =>
          rintro f s' ⟨rfl, h₃₀, tk₃₀, m₃₀, rfl, P₃₀, hml, hmd⟩
          clear P₁₃ hml₁₃ hmd₁₃
          dsimp only
          generalize hst₂ : (if d then st else closeL (partsF n) st) = st₂ at P₃₀
          have hw₂ : st₂.1.length + wt st₂.2 ≤ 5000 ∧ (∀ l ∈ st₂.2, l ∈ dedentL ls) := by
            rw [← hst₂]
            split
            · exact ⟨hwst, fa.mem⟩
            · obtain ⟨c1, c2⟩ := close_len (parts_len n) fa.head
              rw [c2, wt_nil]
              exact ⟨by omega, fun _ h => nomatch h⟩
          obtain ⟨F, hit, hl, n1, n2, Dt, Di, vst, cur, a1, a2, a3, a4, a5, a6, a7, a8, a9, a10, a11, a12⟩ := id P₃₀
          have hvl : vst.length ≤ 5000 := by rw [a11.length]; omega
          have hok : ∀ p ∈ cur, PyData.strOk p.1 = true := fun p hp => by
            have h1 : p.1 ∈ st₂.2.map S := a12 ▸ List.mem_map_of_mem hp
            obtain ⟨l, hl, e⟩ := List.mem_map.mp h1
            rw [← e]
            exact strOk_S fun c hc => (hchD l (hw₂.2 l hl) c hc).1
          have hnil : decide (cur = []) = decide (st₂.2 = []) := by
            rw [decide_eq_decide]
            constructor
            · rintro rfl; exact List.map_eq_nil_iff.mp a12.symm
            · intro q; rw [q] at a12; exact List.map_eq_nil_iff.mp a12
          -- the line itself
          refine wpAny_execs_cons (wpAny_If (wpAny_mono (Q := fun b s' => b = (d && decide (st₂.2 = []) && (match (dedentL ls)[i]? with | none => false | some li => li.all (· == 32))) ∧ ∃ (h : Heap) (tk : Nat), s' = { s with heap := h, toks := tk } ∧ Grown h₃₀ h) ?test ?rest (fun _ _ e => e)))
          case test =>
            refine isTrue_and (isTrue_plain (ldLocal F hmd (wpAny_truthy_bool ?_)))
            cases d with
            | false => exact ⟨rfl, _, _, rfl, fun _ _ e => e⟩
            | true =>
              rcases hv with ⟨hnone, rfl⟩ | ⟨li, ui, hli, rfl⟩
              · rw [hnone] at hd₁; cases hd₁
              have hlen : li.length ≤ 5000 := by have := wt_mem (List.mem_of_getElem? hli); omega
              rw [hli]
              simp only [if_true, Bool.true_and]
              refine isTrue_and (wpAny_isTrue_Compare1 (ldLocal F a2 (List_ (spliced_none (newList_g fun h₃₁ g₃₁ hE₃₁ hsz₃₁ => strs_eq_nil (plain_grow a10 g₃₁).isList hok hE₃₁.isList (by show A.units + 3 + 64 < cLine; omega) (wpAny_truthy_bool ?_))))))
              dsimp only at g₃₁ hE₃₁ hsz₃₁ ⊢
              rw [hnil]
              by_cases hin : st₂.2 = []
              · rw [decide_eq_true hin]
                simp only [if_true, Bool.true_and]
                refine isTrue_and (wpAny_isTrue_Compare1 (MethodCall_ (ldLocal (frGrow F g₃₁) hml (GM.strip (callWith_method1 (spliced_more (Calls.Constant_str (spliced_none (SC.stripChars (fun t₃₂ k₃₂ => Calls.Constant_str (eq_str (wpAny_truthy_bool ?_))) (size_ok (by rw [S_len]; omega)))))))))))
                dsimp only
                rw [str_blank, str_empty, strip_nil]
                cases hbl : li.all (· == 32) with
                | false => exact ⟨rfl, _, _, rfl, g₃₁⟩
                | true => exact isTrue_and_nil ⟨rfl, _, _, rfl, g₃₁⟩
              · rw [decide_eq_false hin]
                exact ⟨rfl, _, _, rfl, g₃₁⟩
          case rest =>
            rintro b s' ⟨rfl, h₃₃, tk₃₃, rfl, g₃₃⟩
            have P₃₃ := P₃₀.grow g₃₃
            have F₃₃ := frGrow F g₃₃
            have G₃₃ := G.keeps F₃₃.keep
            -- the state behind the turn
            have fin : ∀ (h : Heap) (tk : Nat) (m : Str → Option Value) (st₃ : List Int × List Ln), PSt s It Dl (strValues cl ++ [Value.none]) (i + 1) st₃ h m →
                (match (dedentL ls)[i]? with | none => st₃ = closeL (partsF n) st | some li => st₃ = stepL (partsF n) st li) →
                ∃ m', m' < ls.length + 2 - i ∧ ∃ (i' : Nat) (h' : Heap) (tk' : Nat) (m : Str → Option Value), ({ s with heap := h, toks := tk } : Shared) = { s with heap := h', toks := tk' } ∧ m' = ls.length + 2 - i' ∧ i' ≤ ls.length + 1 ∧
                  PSt s It Dl (strValues cl ++ [Value.none]) i' (if i' ≤ ls.length then ((dedentL ls).take i').foldl (stepL (partsF n)) ([], []) else closeL (partsF n) ((dedentL ls).foldl (stepL (partsF n)) ([], []))) h' m := by
              intro h tk m st₃ P₃ e₃
              refine ⟨ls.length + 2 - (i + 1), by omega, i + 1, h, tk, m, rfl, rfl, hlt, ?_⟩
              cases hli : (dedentL ls)[i]? with
              | none =>
                rw [hli] at e₃
                simp only at e₃
                have hge : ls.length ≤ i := by have := List.getElem?_eq_none_iff.mp hli; rwa [dedent_len] at this
                rw [if_neg (by omega), ← List.take_length (l := dedentL ls), dedent_len, show ls.length = i by omega, hst, ← e₃]
                exact P₃
              | some li =>
                rw [hli] at e₃
                simp only at e₃
                have hlt' : i < ls.length := by have := (List.getElem?_eq_some_iff.mp hli).1; rwa [dedent_len] at this
                have ht : (dedentL ls).take (i + 1) = (dedentL ls).take i ++ [li] := by rw [List.take_add_one, hli]; rfl
                rw [if_pos (by omega), ht, List.foldl_append, hst]
                show PSt _ _ _ _ _ (stepL (partsF n) st li) _ _
                rw [← e₃]
                exact P₃
            cases d with
            | true =>
              rcases hv with ⟨hnone, rfl⟩ | ⟨li, ui, hli, rfl⟩
              · rw [hnone] at hd₁; cases hd₁
              have hlen : li.length ≤ 5000 := by have := wt_mem (List.mem_of_getElem? hli); omega
              rw [hli] at hd₁ fin ⊢
              simp only at hd₁ fin
              rw [if_pos rfl] at hst₂
              subst hst₂
              simp only [Bool.true_and]
              by_cases hb : st.2 = [] ∧ li.all (· == 32) = true
              · rw [decide_eq_true hb.1, hb.2]
                simp only [Bool.and_self, if_true]
                refine wpAny_execs_cons (wpAny_Assign_Name (wpAny_BinOp (ldLocal F₃₃ a1 (List_ (spliced_more (ldGlob G₃₃ rfl (spliced_more (Call_ (ldBuilt G₃₃ rfl boot_len (callWith_builtin1 (spliced_more (ldLocal F₃₃ hml (spliced_none (len_str (by rw [S_len]; omega) (spliced_none (newList_g fun h₃₄ g₃₄ hN₃₄ sz₃₄ => add_g (plain_grow (plain_grow a9 g₃₃) g₃₄).isList hN₃₄.isList (fun h₃₅ g₃₅ hR₃₅ sz₃₅ => ?_) (size_ok (by simp; omega))))))))))))))))))
                dsimp only at g₃₄ hN₃₄ sz₃₄ g₃₅ hR₃₅ sz₃₅ ⊢
                have P₃₄ := P₃₃.grow g₃₄
                have P₃₅ := P₃₄.grow g₃₅
                have hLlt₃₄ : s.heap.objs.size < h₃₄.objs.size := P₃₄.1.ns.lt
                refine stL P₃₅.1 fun h₃₆ F₃₆ sb₃₆ => ?_
                have hdi : ∀ Di', m₃₀ "inner" = some (.ref Di') → h₃₄.objs.size ≠ Di' := fun Di' q => by
                  obtain ⟨_, ho⟩ := plain_grow (plain_grow a10 g₃₃) g₃₄
                  rw [a2] at q; cases q
                  exact Nat.ne_of_gt (Heap.lt_size ho)
                have P₃₆ := P₃₅.tell F₃₆ sb₃₆ hR₃₅ (ints_app a11 (.cons _ _ (.cons _ _ .nil))) (Nat.ne_of_gt hLlt₃₄) (Heap.get?_none_of_le (Nat.le_of_lt hLlt₃₄)) hdi
                refine wpAny_execs_nil (wpAny_execs_nil (fin _ _ _ _ P₃₆ ?_))
                unfold stepL
                rw [if_pos hd₁, if_pos hb, S_len]
              · rw [if_neg (by simpa using hb)]
                refine wpAny_execs_cons (wpAny_If (isTrue_plain (ldLocal F₃₃ hmd (wpAny_truthy_bool ?_))))
                simp only [if_true]
                have hcl : (strValues cur).length ≤ sizeLine := by
                  have h1 := congrArg List.length a12
                  have h2 := wt_cnt st.2
                  simp only [List.length_map] at h1
                  simp only [strValues, List.length_map]
                  exact size_ok (by omega)
                refine wpAny_execs_cons (append_g (ldLocal F₃₃ a2 ⟨rfl, plain_grow a10 g₃₃, ldLocal F₃₃ hml ⟨plain_grow a10 g₃₃, hcl, fun h₃₄ hD₃₄ sb₃₄ => ?_⟩⟩))
                dsimp only at sb₃₄ ⊢
                have P₃₄ : PSt s It Dl (strValues cl ++ [Value.none]) (i + 1) (st.1, st.2 ++ [li]) h₃₄ m₃₀ :=
                  ⟨frBut F₃₃ sb₃₄ a4 a8, P₃₃.2.1.extBut sb₃₄.extBut (Ne.symm (plain_ne_iter (plain_grow a10 g₃₃) P₃₃.2.1)), plainBut P₃₃.2.2.1 sb₃₄ (Ne.symm a6), n1, n2, Dt, Di, vst, cur ++ [(S li, ui)], a1, a2, a3, a4, a5, a6, a7, a8,
                    plainBut (plain_grow a9 g₃₃) sb₃₄ a5, by simpa [strValues] using hD₃₄, a11, by simp [a12]⟩
                refine wpAny_execs_nil (wpAny_execs_nil (wpAny_execs_nil (fin _ _ _ _ P₃₄ ?_)))
                unfold stepL
                rw [if_pos hd₁, if_neg hb]
            | false =>
              simp only [Bool.false_and, Bool.false_eq_true, if_false]
              refine wpAny_execs_cons (wpAny_If (isTrue_plain (ldLocal F₃₃ hmd (wpAny_truthy_bool ?_))))
              simp only [Bool.false_eq_true, if_false]
              refine wpAny_execs_cons (wpAny_If (wpAny_isTrue_Compare1 (ldLocal F₃₃ hml (Constant_none (isNot_none (wpAny_truthy_bool ?_))))))
              rw [if_neg Bool.false_ne_true] at hst₂
              rcases hv with ⟨hnone, rfl⟩ | ⟨li, ui, hli, rfl⟩
              · rw [hnone] at fin
                simp only [beq_self_eq_true, Bool.not_true, Bool.false_eq_true, if_false]
                exact wpAny_execs_nil (wpAny_execs_nil (wpAny_execs_nil (wpAny_execs_nil (fin _ _ _ _ P₃₃ hst₂.symm))))
              · rw [hli] at hd₁ fin
                simp only at hd₁ fin
                have hlen : li.length + 5 ≤ wt (dedentL ls) := wt_mem (List.mem_of_getElem? hli)
                have hnum := numbersF_len li.length li
                rw [show (!(Value.str (S li) ui == Value.none)) = true from rfl]
                simp only [if_true]
                refine wpAny_execs_cons (wpAny_Assign_Name (wpAny_BinOp (wpAny_BinOp (ldLocal F₃₃ a1 (Call_ (ldGlob G₃₃ rfl (callWith_def rfl (spliced_more (ldLocal F₃₃ hml (spliced_none ⟨G₃₃.X 29 _ rfl, numbers_call G₃₃ (by show A.depth + 1 < recursionLimit; omega) (by exact hh) (by show A.units + 3 + 100 < cLine; omega) li (by omega) fun h₃₄ tk₃₄ Dn vn g₃₄ hDn0 hDn hin => add_g (plain_grow (plain_grow a9 g₃₃) g₃₄).isList hDn.isList (fun h₃₅ g₃₅ hR₃₅ sz₃₅ => ?_) (size_ok (by rw [hin.length]; unfold numbersL; omega))⟩))))))))))
                dsimp only at g₃₄ g₃₅ hR₃₅ sz₃₅ ⊢
                have P₃₅ := (P₃₃.grow g₃₄).grow g₃₅
                have G₃₅ := G.keeps P₃₅.1.keep
                refine List_ (spliced_more (ldGlob G₃₅ rfl (spliced_none (newList_g fun h₃₆ g₃₆ hN₃₆ sz₃₆ => add_g (plain_grow hR₃₅ g₃₆).isList hN₃₆.isList (fun h₃₇ g₃₇ hR₃₇ sz₃₇ => ?_) (size_ok (by simp [hin.length]; unfold numbersL; omega))))))
                dsimp only at g₃₆ hN₃₆ sz₃₆ g₃₇ hR₃₇ sz₃₇ ⊢
                have P₃₆ := P₃₅.grow g₃₆
                have P₃₇ := P₃₆.grow g₃₇
                have hLlt₃₆ : s.heap.objs.size < h₃₆.objs.size := P₃₆.1.ns.lt
                refine stL P₃₇.1 fun h₃₈ F₃₈ sb₃₈ => ?_
                have hdi : ∀ Di', m₃₀ "inner" = some (.ref Di') → h₃₆.objs.size ≠ Di' := fun Di' q => by
                  obtain ⟨_, ho⟩ := plain_grow (plain_grow (plain_grow (plain_grow a10 g₃₃) g₃₄) g₃₅) g₃₆
                  rw [a2] at q; cases q
                  exact Nat.ne_of_gt (Heap.lt_size ho)
                have P₃₈ := P₃₇.tell F₃₈ sb₃₈ hR₃₇ (ints_snoc (ints_app a11 hin)) (Nat.ne_of_gt hLlt₃₆) (Heap.get?_none_of_le (Nat.le_of_lt hLlt₃₆)) hdi
                refine wpAny_execs_nil (wpAny_execs_nil (wpAny_execs_nil (wpAny_execs_nil (fin _ _ _ _ P₃₈ ?_))))
                unfold stepL
                rw [if_neg (by rw [hd₁]; exact Bool.false_ne_true), hst₂]
    · have hin : i = ls.length + 1 := by omega
      subst hin
      rw [if_neg (by omega)] at P
      refine (W _ (by exact hh)).done _ _ _ ⟨P.2.1, P.2.2.1.isList⟩ fun h₁₁ tk₁₁ hk₁₁ => ?_
      obtain ⟨F₁₁, D, vs, a1, a2, a3, a4⟩ := P.last (fun b o hb e => hk₁₁ b o (by simpa using hb) e) hI0
      exact ⟨rfl, _, _, _, D, vs, rfl, F₁₁, a1, a2, a3, a4⟩
theorem parts_all {prog : Program} {w : World} {p : Program} {loose : List Str} {mg mb : Str → Option Value} : ∀ n, PartsC prog w p loose mg mb n
  | 0 => fun _ _ _ _ _ ls _ _ _ _ hne hn _ _ _ _ _ => absurd (List.length_eq_zero_iff.mp (Nat.le_zero.mp hn)) hne
  | n + 1 => parts_step (parts_all n)
end Mine
end
section
open PySem PySem.W PyProof.Rows PySem.Calls
set_option maxRecDepth 100000
namespace Mine
section
variable {prog : Program} {w : World} {A : Around} {E : Value → Shared → Prop} {s : Shared} {env : Env} {h₀ : Heap} {m : Str → Option Value}
theorem min_g {l : Addr} {vs : List Value} {ns : List Int} {Q : Value → Shared → Prop} (hh : A.handled = none) (hl : s.heap.IsList l vs.toArray) (hi : IntsAre vs ns) (hne : 0 < ns.length)
    (h : ∀ h' M (t : Tok) tk, Grown s.heap h' → M ∈ ns → (∀ a, a ∈ ns → M ≤ a) → Q (.int M t) { s with heap := h', toks := tk }) :
    wpAny (model prog w) A (call (.builtin "min") [.ref l]) Q E s := by
  obtain ⟨xs, e⟩ := hi.allInts.items
  have hns : xs.toList.map (·.1) = ns := by rw [← hi.numsOf, ← nums_intItems, ← e]
  have hlen : xs.size = ns.length := by rw [← hns]; simp
  rw [e] at hl
  refine min_intList hh hl (by omega) fun v h' tk hv g => ?_
  obtain ⟨t, rfl⟩ := intItems_at hv
  obtain ⟨h1, h2⟩ := argBest_lt (numAt xs) (xs.size - 1)
  have hat : ∀ j, numAt xs j = ns.getD j 0 := fun j => by rw [numAt_eq, hns]
  refine h _ _ t tk g ?_ fun a ha => ?_
  · rw [hat]; exact getD_mem (by omega)
  · obtain ⟨j, hj, rfl⟩ := mem_getD ha
    rw [← hat]; exact h2 j (by omega)
theorem mul_g {L l : Addr} {v : Value} {x : Int} {u : Tok} {news : List (Addr × Obj)} {Q : Value → Shared → Prop} (F : Fr h₀ L s.heap m) (N : News h₀ L s.heap news) (hl : s.heap.PlainList l ([v] : List Value).toArray)
    (h0 : 0 ≤ x) (hx : x ≤ 1000) (h : ∀ h', Fr h₀ L h' m → News h₀ L h' news → h'.PlainList s.heap.objs.size (List.replicate x.toNat v).toArray → Q (.ref s.heap.objs.size) { s with heap := h' }) :
    wpAny (model prog w) A (binaryOp .Mult (.ref l) (.int x u)) Q E s := by
  obtain ⟨k, hl⟩ := hl
  refine mul_list F N hl (by omega) (by omega) (by simp; omega) fun h' F' N' => ?_
  refine h h' F' (fun p hp => N' p (.tail _ hp)) ⟨0, ?_⟩
  have := (N' _ (.head _)).1
  rw [this]
  have e : List.foldl (fun x1 x2 => x1 ++ x2) #[] (List.replicate (if ([v].toArray).isEmpty = true then 0 else x.toNat) [v].toArray) = (List.replicate x.toNat v).toArray := by
    rw [listMul_foldl]
    simp
  rw [e]
theorem pop_g {D : Addr} {vs : List Value} {y : Value} {name : PySem.Expr} {apos cpos pos : Pos} {pl : Sem Bool} {Q : Flow → Shared → Prop} (hy : ∀ a, y ≠ .ref a)
    (h : wpAny (model prog w) A (eval name env) (fun ov s₁ => ov = .ref D ∧ s₁.heap.PlainList D (vs ++ [y]).toArray ∧ vs.length + 1 ≤ sizeLine ∧ ∀ h', h'.PlainList D vs.toArray → Heap.SameBut D s₁.heap h' → Q .next { s₁ with heap := h' }) E s)
    (he : eval (.Call (.Attribute name "pop" apos) [] [] cpos) env = (do
      let ov ← eval name env
      standAt apos.atName
      let (f, first) ← holding [ov] (getMethod ov "pop" pl)
      callWith cpos f first (backTo cpos (starEach [] env)) []) := by rfl)
    (hi : interactive env = false := by rfl) (hs : swapsWith (.Call (.Attribute name "pop" apos) [] [] cpos) none pos.line env = pure false := by rfl) :
    wpAny (model prog w) A (exec (.Expr (.Call (.Attribute name "pop" apos) [] [] cpos) pos) env) Q E s := by
  refine wpAny_Expr (MethodCall_ (pl := pl) (wpAny_mono h (fun ov s₁ h₁ => ?_) fun _ _ x => x) he) hi hs
  obtain ⟨rfl, ⟨n, hD⟩, hsz, hq⟩ := h₁
  refine getMethod_builtin ⟨_, hD, rfl⟩ PySem.F.plainAttrs_list PySem.F.slot_list_pop PySem.F.type_list_pop (fun a e => by cases e; exact ⟨_, hD, rfl⟩) ?_
  refine P.pop_list (y := y) hD (by simp) ?_ (by simpa using hsz)
  have hp : (s₁.heap.update D (Obj.mapSeq fun xs => xs.eraseIdxIfInBounds ((vs ++ [y]).toArray.size - 1))).PlainList D vs.toArray := by
    have := IsL.update hD (fun xs => xs.eraseIdxIfInBounds ((vs ++ [y]).toArray.size - 1))
    have e : (vs ++ [y]).toArray.eraseIdxIfInBounds ((vs ++ [y]).toArray.size - 1) = vs.toArray := by
      simp [Array.eraseIdxIfInBounds, List.eraseIdx_append_of_length_le]
    rw [e] at this
    exact ⟨_, this⟩
  have := hq _ hp (Heap.SameBut.update ..)
  cases y <;> first | exact this | exact absurd rfl (hy _)
theorem index_g {D : Addr} {l : Ln} {sg : List (Str × Tok)} {sl : List Ln} {pos : Pos} {x : Sem Value} {Q : Value → Shared → Prop}
    (h : wpAny (model prog w) A x (fun v s₁ => ∃ t, v = .str (S l) t ∧ s₁.heap.PlainList D (strValues sg).toArray ∧ sg.map (·.1) = sl.map S ∧ l ∈ sl ∧ sl.length ≤ 1000 ∧ Q (.int (sl.idxOf l : Nat) s₁.toks) { s₁ with toks := s₁.toks + 1 }) E s) :
    wpAny (model prog w) A (callWith pos (.builtin "list.index") [.ref D] [(false, x)] []) Q E s := by
  refine P.index_list (wpAny_mono h (fun v s₁ h₁ => ?_) fun _ _ e => e)
  obtain ⟨t, rfl, ⟨n, hD⟩, hsg, hl, hlen, hq⟩ := h₁
  have hj : sl.idxOf l < sl.length := List.idxOf_lt_length_iff.mpr hl
  have hll : sg.length = sl.length := by simpa using congrArg List.length hsg
  have hat : ∀ j (hj : j < (strValues sg).toArray.size), PyProof.Rows.isStrOf (S l) (strValues sg).toArray[j] = (sl[j]? == some l) := by
    intro j hj'
    have hj2 : j < sl.length := by simpa [strValues, hll] using hj'
    have h1 := congrArg (fun z : List Str => z[j]?) hsg
    simp only [List.getElem?_map] at h1
    rw [List.getElem?_eq_getElem (by omega : j < sg.length), List.getElem?_eq_getElem hj2] at h1
    simp only [Option.map_some, Option.some.injEq] at h1
    rw [List.getElem?_eq_getElem hj2]
    simp only [strValues, List.getElem_toArray, List.getElem_map, PyProof.Rows.isStrOf]
    rw [h1, S_beq]
    rfl
  refine ⟨(strValues sg).toArray, n, fun y => PyProof.Rows.isStrOf (S l) y, sl.idxOf l, by simpa [strValues, hll] using hj, hD, fun y hy => ?_, by omega, ?_, fun j hj' hlt => ?_, hq⟩
  · simp only [strValues, Array.mem_def, List.mem_map] at hy
    obtain ⟨q, _, rfl⟩ := hy
    exact eqGives_str _ _ _ _
  · refine (hat _ _).trans ?_
    rw [List.getElem?_eq_getElem hj, List.getElem_idxOf hj]; simp
  · refine (hat _ _).trans ?_
    have hj2 : j < sl.length := by omega
    rw [List.getElem?_eq_getElem hj2]
    rw [beq_eq_false_iff_ne]
    intro q
    have hq2 : sl[j] = l := Option.some.inj q
    have : ∀ (sl : List Ln) (j : Nat) (h : j < sl.length), sl[j] = l → sl.idxOf l ≤ j := by
      intro sl
      induction sl with
      | nil => intro j h; simp at h
      | cons a r ih =>
        intro j h e
        rw [List.idxOf_cons]
        cases j with
        | zero => simp only [List.getElem_cons_zero] at e; subst e; simp
        | succ j =>
          simp only [List.getElem_cons_succ] at e
          have := ih j (by simpa using h) e
          cases hal : a == l
          · simp only [cond_false]; omega
          · simp
    have := this sl j hj2 hq2
    omega
/-- a name that a comprehension shares, and a plain one, take a pair's items -/
theorem assign_cellpair {xi xc : Str} {pk pv pt : Pos} {x1 : Nat} {T c : Addr} {v0 v1 : Value} {v₀ : Option Value} {Q : Unit → Shared → Prop} (hh : A.handled = none) (ht : s.heap.IsTuple T #[v0, v1])
    (hv : s.heap.IsCell c v₀) (hcL : c ≠ env.locals) (hc0 : h₀.get? c = none)
    (F : Fr h₀ env.locals s.heap m)
    (h : ∀ h' tk, Fr h₀ env.locals h' (fun y => if y = xc then some v1 else m y) → h'.IsCell c (some v0) → (∀ b o, b ≠ env.locals → b ≠ c → s.heap.get? b = some o → h'.get? b = some o) → Q () { s with heap := h', toks := tk })
    (hxi : env.kindOf xi = some .cell := by rfl) (hxc : env.kindOf xc = some .local := by rfl) (hp : (env.scope.kind == .class || (env.scope.kind == .module && env.locals != env.globals)) = false := by rfl)
    (hk : env.scope.kind = .function := by rfl) (hcc : env.cells.lookup xi = some c := by rfl) :
    wpAny (model prog w) A (assign (.Tuple [.Name xi pk, .Name xc pv] x1 pt) env (.ref T)) Q E s := by
  refine wpAny_assign_Tuple hh ht rfl rfl fun h₃ hx₃ => ?_
  have up₃ : Grown s.heap h₃ := fun b o x => hx₃ b o (Nat.ne_of_lt (Heap.lt_size x)) x
  have F₃ := frGrow F up₃
  show wpAny _ A (do holding [v1] (assign (.Name xi pk) env v0); do holding [] (assign (.Name xc pv) env v1); pure ()) _ _ _
  refine wpAny_bind (wpAny_holding (wpAny_assign_Name (wpAny_storeName_cell hk hxi hcc (cell_grow hv up₃) (fun h₄ hv₄ hs₄ => ?_))))
  have F₄ := frBut F₃ hs₄ hcL hc0
  refine wpAny_bind (wpAny_holding (wpAny_assign_Name (wpAny_storeName_local hxc F₄.ns (fun h₅ hn₅ hs₅ => wpAny_pure ?_) hp)))
  exact h h₅ _ (F₄.set hn₅ hs₅) (cellBut hv₄ hs₅ hcL) fun b o hb hb' e => hs₅.extBut b o hb (hs₄.extBut b o hb' (up₃ b o e))
end
section
variable {prog : Program} {w : World} {A : Around} {E : Value → Shared → Prop} {s : Shared}
theorem max0_g {b : Int} {t u : Tok} {Q : Value → Shared → Prop} (hh : A.handled = none) (h : ∀ h' tk tm, Grown s.heap h' → Q (.int (max 0 b) tm) { s with heap := h', toks := tk }) :
    wpAny (model prog w) A (call (.builtin "max") [.int 0 t, .int b u]) Q E s := by
  refine max_two_ints hh fun h' tk g => ?_
  split
  · have := h h' tk u g
    rwa [show max 0 b = b by omega] at this
  · have := h h' tk t g
    rwa [show max 0 b = 0 by omega] at this
end
theorem ints_unsnoc : ∀ {vs : List Value} {ns : List Int} {a : Int}, IntsAre vs (ns ++ [a]) → ∃ vs' t, vs = vs' ++ [.int a t] ∧ IntsAre vs' ns
  | _, [], _, h => by
    cases h with
    | cons _ t r => cases r; exact ⟨[], t, rfl, .nil⟩
  | _, n :: ns, a, h => by
    cases h with
    | cons _ t r =>
      obtain ⟨vs', u, rfl, h'⟩ := ints_unsnoc r
      exact ⟨.int n t :: vs', u, rfl, .cons _ _ h'⟩
theorem pieces_rest0 : ∀ p ∈ piecesL, ∀ k ∈ [0, 1, 2], p.drop k = [] ∨ p.drop k = [46, 46] ∨ p.drop k = [9, 61] ∨ p.drop k = [13, 61] ∨ p.drop k ∈ signsL := by decide +kernel
theorem pieces_rest {p : Ln} (h : p ∈ piecesL) (k : Nat) (hk : p.drop k ≠ []) : p.drop k = [46, 46] ∨ p.drop k = [9, 61] ∨ p.drop k = [13, 61] ∨ p.drop k ∈ signsL := by
  have hl := pieces_len p h
  have : k < 3 := Nat.lt_of_not_le fun q => hk (List.drop_eq_nil_of_le (Nat.le_trans hl q))
  refine (pieces_rest0 p h k ?_).resolve_left hk
  match k, this with
  | 0, _ => simp
  | 1, _ => simp
  | 2, _ => simp
/-! ### the pile, plainly -/
theorem pushed_len (S : List Nat) (r : Nat × Ln) : (pushed S r).length ≤ S.length + 1 := by unfold pushed; split <;> simp
theorem popped_len (S : List Nat) (k : Nat) : (poppedTo S k).length ≤ S.length := by
  unfold poppedTo
  induction S with
  | nil => simp
  | cons a r ih => simp only [List.dropWhile_cons]; split; simp only [List.length_cons]; omega; simp
theorem mnext_len (S : List Nat) (r : Nat × Ln) : (mnext S r).length ≤ S.length + 1 := by
  have h1 := pushed_len S r
  unfold mnext; split
  · exact h1
  · have := popped_len (pushed S r) (levelOf (pushed S r) r.1); omega
theorem signNums_len (r : Ln) : (signNums r).length ≤ 2 := by unfold signNums; split; simp; split <;> simp
theorem mout_len (S : List Nat) (r : Nat × Ln) : (mout S r).length ≤ S.length + 6 := by
  have h1 := pushed_len S r
  have h2 := signNums_len (restOf S r)
  unfold mout
  rw [List.length_append]
  have h3 : (if r.2 ≠ [] ∧ S.headD 0 < r.1 then [(5 : Int)] else []).length ≤ 1 := by split <;> simp
  generalize (if r.2 ≠ [] ∧ S.headD 0 < r.1 then [(5 : Int)] else []) = z at h3
  split
  · simp only [List.length_cons, List.length_nil]; omega
  · simp only [List.length_append, List.length_replicate, List.length_cons, List.length_nil]; omega
theorem mrun_len : ∀ (n : Nat) (S : List Nat) (rows : List (Nat × Ln)), rows.length = n → (mrun S rows).2.length ≤ S.length + n ∧ (mrun S rows).1.length ≤ n * (S.length + n + 6)
  | 0, S, rows, h => by rw [List.length_eq_zero_iff.mp h]; simp [mrun]
  | n + 1, S, rows, h => by
    obtain ⟨i, r, rfl⟩ : ∃ i r, rows = i ++ [r] := ⟨rows.dropLast, rows.getLast (by rintro rfl; simp at h), (List.dropLast_concat_getLast _).symm⟩
    have hl : i.length = n := by simpa using h
    obtain ⟨h1, h2⟩ := mrun_len n S i hl
    rw [mrun_snoc]
    have h3 := mnext_len (mrun S i).2 r
    have h4 := mout_len (mrun S i).2 r
    simp only [List.length_append]
    refine ⟨by omega, ?_⟩
    have h5 : n * (S.length + n + 6) ≤ n * (S.length + (n + 1) + 6) := Nat.mul_le_mul_left _ (by omega)
    rw [Nat.succ_mul]; omega
theorem mnext_ne {S : List Nat} {r : Nat × Ln} (G : GoodR r) (h : S ≠ []) : mnext S r ≠ [] := by
  unfold mnext
  split
  · exact pushed_ne h
  · rename_i hr
    exact dropWhile_ne ⟨_, (rest_level G hr).1, by simp⟩
theorem mrun_ne {S : List Nat} (h : S ≠ []) : ∀ (n : Nat) (rows : List (Nat × Ln)), rows.length = n → (∀ r ∈ rows, GoodR r) → (mrun S rows).2 ≠ []
  | 0, rows, hl, _ => by rw [List.length_eq_zero_iff.mp hl]; exact h
  | n + 1, rows, hl, G => by
    obtain ⟨i, r, rfl⟩ : ∃ i r, rows = i ++ [r] := ⟨rows.dropLast, rows.getLast (by rintro rfl; simp at hl), (List.dropLast_concat_getLast _).symm⟩
    rw [mrun_snoc]
    exact mnext_ne (G r (by simp)) (mrun_ne h n i (by simpa using hl) fun x hx => G x (List.mem_append_left _ hx))
def intTest (q : Int → Bool) : Value → Bool
  | .int b _ => q b
  | _ => false
theorem ints_filter {vs : List Value} {ns : List Int} (hi : IntsAre vs ns) (q : Int → Bool) : IntsAre (vs.filter (intTest q)) (ns.filter q) := by
  induction hi with
  | nil => exact .nil
  | cons n t _ ih =>
    cases hq : q n with
    | true => rw [List.filter_cons_of_pos (by simpa [intTest] using hq), List.filter_cons_of_pos (by simpa using hq)]; exact .cons _ _ ih
    | false => rw [List.filter_cons_of_neg (by simp [intTest, hq]), List.filter_cons_of_neg (by simp [hq])]; exact ih
theorem last_rev {S : List Nat} (h : S ≠ []) : (S.reverse.map fun n : Nat => (n : Int)).getLast? = some ((S.headD 0 : Nat) : Int) := by
  obtain ⟨a, r, rfl⟩ := List.exists_cons_of_ne_nil h
  simp
/-- the least of the margins, as min finds it -/
theorem level_is {S : List Nat} {m : Nat} {M : Int} (hm : m ≤ 9) (h1 : M ∈ (((S.reverse.map fun n : Nat => (n : Int)) ++ [9]).filter fun b => decide ((m : Int) ≤ b))) (h2 : ∀ a, a ∈ (((S.reverse.map fun n : Nat => (n : Int)) ++ [9]).filter fun b => decide ((m : Int) ≤ b)) → M ≤ a) :
    M = (levelOf S m : Nat) := by
  have hmem : ∀ b : Int, b ∈ (((S.reverse.map fun n : Nat => (n : Int)) ++ [9]).filter fun b => decide ((m : Int) ≤ b)) ↔ (∃ a ∈ S, m ≤ a ∧ b = (a : Int)) ∨ b = 9 := by
    intro b
    simp only [List.mem_filter, List.mem_append, List.mem_map, List.mem_reverse, List.mem_singleton, decide_eq_true_eq]
    constructor
    · rintro ⟨⟨a, ha, rfl⟩ | rfl, h⟩
      · exact .inl ⟨a, ha, by omega, rfl⟩
      · exact .inr rfl
    · rintro (⟨a, ha, hle, rfl⟩ | rfl)
      · exact ⟨.inl ⟨a, ha, rfl⟩, by omega⟩
      · exact ⟨.inr rfl, by omega⟩
  have hle : M ≤ (levelOf S m : Nat) := by
    rcases Nat.lt_or_ge (levelOf S m) 9 with q | q
    · exact h2 _ ((hmem _).mpr (.inl ⟨_, level_mem q, level_ge hm, rfl⟩))
    · have h9 := h2 9 ((hmem _).mpr (.inr rfl))
      omega
  have hge : ((levelOf S m : Nat) : Int) ≤ M := by
    rcases (hmem M).mp h1 with ⟨a, ha, hma, rfl⟩ | rfl
    · have := level_le ha hma; omega
    · have := level_le9 (S := S) (m := m); omega
  omega
end Mine
end
section
open PySem PySem.W PyProof.Rows PySem.Calls
set_option maxRecDepth 100000
namespace Mine
/-- the state of the loop of _law_by_pile -/
def QSt (s : Shared) (It Dr Ds Dp : Addr) (i : Nat) (told : List Int) (st : List Nat) (vc : Option Value) (h : Heap) (m : Str → Option Value) : Prop :=
  Fr s.heap s.heap.objs.size h m ∧ h.IsListIter It Dr i ∧ It ≠ s.heap.objs.size ∧ h.IsCell (s.heap.objs.size + 1) vc ∧ m "signs" = some (.ref Ds) ∧ m "pile" = some (.ref Dp) ∧ Dp ≠ s.heap.objs.size ∧ s.heap.get? Dp = none ∧
  (∃ vp, h.PlainList Dp vp.toArray ∧ IntsAre vp (st.reverse.map fun n : Nat => (n : Int))) ∧
  ∃ (Dt : Addr) (vt : List Value), m "told" = some (.ref Dt) ∧ Dt ≠ s.heap.objs.size ∧ Dt ≠ Dp ∧ s.heap.get? Dt = none ∧ h.PlainList Dt vt.toArray ∧ IntsAre vt told
section
variable {s : Shared} {It Dr Ds Dp : Addr} {i j : Nat} {told : List Int} {st : List Nat} {vc : Option Value} {h h' : Heap} {m : Str → Option Value}
theorem QSt.cast {told' : List Int} {st' : List Nat} (x : QSt s It Dr Ds Dp i told st vc h m) (e1 : told = told') (e2 : st = st') : QSt s It Dr Ds Dp i told' st' vc h m := e1 ▸ e2 ▸ x
theorem QSt.grow (x : QSt s It Dr Ds Dp i told st vc h m) (g : Grown h h') : QSt s It Dr Ds Dp i told st vc h' m := by
  obtain ⟨F, hit, n1, hc, b1, b2, b3, b4, ⟨vp, c1, c2⟩, Dt, vt, a1, a2, a3, a4, a5, a6⟩ := x
  exact ⟨frGrow F g, hit.at fun o e => g _ _ e, n1, cell_grow hc g, b1, b2, b3, b4, ⟨vp, plain_grow c1 g, c2⟩, Dt, vt, a1, a2, a3, a4, plain_grow a5 g, a6⟩
theorem QSt.set {y : Str} {v : Value} (x : QSt s It Dr Ds Dp i told st vc h m) (F' : Fr s.heap s.heap.objs.size h' (fun z => if z = y then some v else m z)) (sb : Heap.SameBut s.heap.objs.size h h')
    (h1 : ("signs" : Str) ≠ y) (h2 : ("pile" : Str) ≠ y) (h3 : ("told" : Str) ≠ y) : QSt s It Dr Ds Dp i told st vc h' (fun z => if z = y then some v else m z) := by
  obtain ⟨F, hit, n1, hc, b1, b2, b3, b4, ⟨vp, c1, c2⟩, Dt, vt, a1, a2, a3, a4, a5, a6⟩ := x
  refine ⟨F', hit.extBut sb.extBut n1, n1, cellBut hc sb (Nat.succ_ne_self _), ?_, ?_, b3, b4, ⟨vp, plainBut c1 sb b3, c2⟩, Dt, vt, ?_, a2, a3, a4, plainBut a5 sb a2, a6⟩
  · show (if _ = y then _ else _) = _; rw [if_neg h1]; exact b1
  · show (if _ = y then _ else _) = _; rw [if_neg h2]; exact b2
  · show (if _ = y then _ else _) = _; rw [if_neg h3]; exact a1
theorem QSt.tell {D : Addr} {vs : List Value} {told' : List Int} (x : QSt s It Dr Ds Dp i told st vc h m) (F' : Fr s.heap s.heap.objs.size h' (fun z => if z = "told" then some (.ref D) else m z)) (sb : Heap.SameBut s.heap.objs.size h h')
    (hD : h.PlainList D vs.toArray) (hi : IntsAre vs told') (hDL : D ≠ s.heap.objs.size) (hD0 : s.heap.get? D = none) (hDp : D ≠ Dp) : QSt s It Dr Ds Dp i told' st vc h' (fun z => if z = "told" then some (.ref D) else m z) := by
  obtain ⟨F, hit, n1, hc, b1, b2, b3, b4, ⟨vp, c1, c2⟩, Dt, vt, a1, a2, a3, a4, a5, a6⟩ := x
  exact ⟨F', hit.extBut sb.extBut n1, n1, cellBut hc sb (Nat.succ_ne_self _), b1, b2, b3, b4, ⟨vp, plainBut c1 sb b3, c2⟩, D, vs, rfl, hDL, hDp, hD0, plainBut hD sb hDL, hi⟩
/-- told is grown in its place -/
theorem QSt.said {Dt : Addr} {vt : List Value} {told' : List Int} (x : QSt s It Dr Ds Dp i told st vc h m) (a1 : m "told" = some (.ref Dt)) (sb : Heap.SameBut Dt h h') (hD : h'.PlainList Dt vt.toArray) (hi : IntsAre vt told') : QSt s It Dr Ds Dp i told' st vc h' m := by
  obtain ⟨F, hit, n1, hc, b1, b2, b3, b4, ⟨vp, c1, c2⟩, Dt', vt', a1', a2, a3, a4, a5, a6⟩ := x
  rw [a1] at a1'; cases a1'
  exact ⟨frBut F sb a2 a4, hit.extBut sb.extBut (Ne.symm (plain_ne_iter a5 hit)), n1, cellBut hc sb (Ne.symm (plain_ne_cell a5 hc)), b1, b2, b3, b4, ⟨vp, plainBut c1 sb (Ne.symm a3), c2⟩, Dt, vt, a1, a2, a3, a4, hD, hi⟩
/-- the pile is turned in its place -/
theorem QSt.piled {vp : List Value} {st' : List Nat} (x : QSt s It Dr Ds Dp i told st vc h m) (sb : Heap.SameBut Dp h h') (hD : h'.PlainList Dp vp.toArray) (hi : IntsAre vp (st'.reverse.map fun n : Nat => (n : Int))) : QSt s It Dr Ds Dp i told st' vc h' m := by
  obtain ⟨F, hit, n1, hc, b1, b2, b3, b4, ⟨vp', c1, c2⟩, Dt, vt, a1, a2, a3, a4, a5, a6⟩ := x
  exact ⟨frBut F sb b3 b4, hit.extBut sb.extBut (Ne.symm (plain_ne_iter c1 hit)), n1, cellBut hc sb (Ne.symm (plain_ne_cell c1 hc)), b1, b2, b3, b4, ⟨vp, hD, hi⟩, Dt, vt, a1, a2, a3, a4, plainBut a5 sb a3, a6⟩
theorem QSt.move (x : QSt s It Dr Ds Dp i told st vc h m) (hit' : h'.IsListIter It Dr j) (hk : ∀ b o, b ≠ It → h.get? b = some o → h'.get? b = some o) (hI0 : s.heap.get? It = none) : QSt s It Dr Ds Dp j told st vc h' m := by
  obtain ⟨F, hit, n1, hc, b1, b2, b3, b4, ⟨vp, c1, c2⟩, Dt, vt, a1, a2, a3, a4, a5, a6⟩ := x
  have pl : ∀ {D : Addr} {its : Array Value}, h.PlainList D its → h'.PlainList D its := fun {D its} a => by
    have := plain_ne_iter a hit
    obtain ⟨n, ha⟩ := a
    exact ⟨n, hk _ _ this ha⟩
  have hcI : s.heap.objs.size + 1 ≠ It := by
    rintro rfl
    obtain ⟨o, ho, hd⟩ := hc
    obtain ⟨o', ho', _, hd'⟩ := hit
    rw [ho] at ho'; cases ho'; rw [hd] at hd'; cases hd'
  refine ⟨⟨F.ns.at' fun o e => hk _ o (Ne.symm n1) e, fun b o e => hk b o (fun q => by rw [q, hI0] at e; cases e) (F.keep b o e), F.above⟩, hit', n1, ?_, b1, b2, b3, b4, ⟨vp, pl c1, c2⟩, Dt, vt, a1, a2, a3, a4, pl a5, a6⟩
  obtain ⟨o, ho, r⟩ := hc
  exact ⟨o, hk _ _ hcI ho, r⟩
/-- the list that it walked may go -/
theorem QSt.last (x : QSt s It Dr Ds Dp i told st vc h m) (hk : ∀ b o, b ≠ It → h.get? b = some o → h'.get? b = some o) (hI0 : s.heap.get? It = none) :
    Fr s.heap s.heap.objs.size h' m ∧ ∃ (Dt : Addr) (vp vt : List Value), m "pile" = some (.ref Dp) ∧ m "told" = some (.ref Dt) ∧ h'.PlainList Dp vp.toArray ∧ IntsAre vp (st.reverse.map fun n : Nat => (n : Int)) ∧ h'.PlainList Dt vt.toArray ∧ IntsAre vt told ∧ Dt ≠ s.heap.objs.size ∧ s.heap.get? Dt = none := by
  obtain ⟨F, hit, n1, hc, b1, b2, b3, b4, ⟨vp, c1, c2⟩, Dt, vt, a1, a2, a3, a4, a5, a6⟩ := x
  have pl : ∀ {D : Addr} {its : Array Value}, h.PlainList D its → h'.PlainList D its := fun {D its} a => by
    have := plain_ne_iter a hit
    obtain ⟨n, ha⟩ := a
    exact ⟨n, hk _ _ this ha⟩
  exact ⟨⟨F.ns.at' fun o e => hk _ o (Ne.symm n1) e, fun b o e => hk b o (fun q => by rw [q, hI0] at e; cases e) (F.keep b o e), F.above⟩, Dt, vp, vt, b2, a1, pl c1, c2, pl a5, a6, a2, a4⟩
/-- the loop's two names are bound -/
theorem QSt.bound {v0 v1 : Value} (x : QSt s It Dr Ds Dp i told st vc h m) (F' : Fr s.heap s.heap.objs.size h' (fun z => if z = "piece" then some v1 else m z)) (hc' : h'.IsCell (s.heap.objs.size + 1) (some v0)) (hk : ∀ b o, b ≠ s.heap.objs.size → b ≠ s.heap.objs.size + 1 → h.get? b = some o → h'.get? b = some o) :
    QSt s It Dr Ds Dp i told st (some v0) h' (fun z => if z = "piece" then some v1 else m z) := by
  obtain ⟨F, hit, n1, hc, b1, b2, b3, b4, ⟨vp, c1, c2⟩, Dt, vt, a1, a2, a3, a4, a5, a6⟩ := x
  have pl : ∀ {D : Addr} {its : Array Value}, D ≠ s.heap.objs.size → h.PlainList D its → h'.PlainList D its := fun {D its} hD a => by
    have := plain_ne_cell a hc
    obtain ⟨n, ha⟩ := a
    exact ⟨n, hk _ _ hD this ha⟩
  have hcI : It ≠ s.heap.objs.size + 1 := by
    rintro rfl
    obtain ⟨o, ho, hd⟩ := hc
    obtain ⟨o', ho', _, hd'⟩ := hit
    rw [ho] at ho'; cases ho'; rw [hd] at hd'; cases hd'
  refine ⟨F', ?_, n1, hc', b1, b2, b3, b4, ⟨vp, pl b3 c1, c2⟩, Dt, vt, a1, a2, a3, a4, pl a2 a5, a6⟩
  obtain ⟨o, ho, r⟩ := hit
  exact ⟨o, hk _ _ n1 hcI ho, r⟩
end
theorem ints_rep (n : Int) (t : Tok) : ∀ k, IntsAre (List.replicate k (.int n t)) (List.replicate k n)
  | 0 => .nil
  | k + 1 => .cons _ _ (ints_rep n t k)
set_option maxHeartbeats 1000000
theorem pile_call {prog : Program} {w : World} {A : Around} {E : Value → Shared → Prop} {s : Shared} {p : Program} {loose : List Str} {mg mb : Str → Option Value} {Q : Value → Shared → Prop} {Dr Ds : Addr}
    (G : Gd w p loose mg mb s.heap) (hd : A.depth < recursionLimit) (hh : A.handled = none) (hu : A.units + 100 < cLine) (rows : List (Nat × Ln)) (ts : List Addr) (sg : List (Str × Tok))
    (hrows : s.heap.IsList Dr (ts.map Value.ref).toArray) (hts : ts.length = rows.length) (htup : ∀ (i : Nat) (T : Addr) (r : Nat × Ln), ts[i]? = some T → rows[i]? = some r → ∃ t u, s.heap.IsTuple T #[.int r.1 t, .str (S r.2) u])
    (hsig : s.heap.PlainList Ds (strValues sg).toArray) (hsg : sg.map (·.1) = signsL.map S)
    (hne : rows ≠ []) (hlen : rows.length ≤ 12) (hG : ∀ r ∈ rows, GoodR r) (h0 : rows.headD (0, []) ≠ (0, []))
    (h : ∀ h' tk D vs, Grown s.heap h' → s.heap.get? D = none → h'.PlainList D vs.toArray → IntsAre vs (pileL rows) → Q (.ref D) { s with heap := h', toks := tk }) :
    wpAny (model prog w) A (call (.ref 41) [.ref Dr, .ref Ds]) Q E s := by
  refine wpAny_call (call_cells_ret (binds := [("rows", .ref Dr), ("signs", .ref Ds)]) hd (G.X 41 _ rfl) rfl G.T.nolimit (codeRec_of G.X rfl) rfl (kindsX rfl _) (fun h₁ tk₁ F X => ?_))
  have hc1 : h₁.IsCell (s.heap.objs.size + 1) none := X.cell "margin" _ rfl
  clear X
  obtain ⟨r0, rr, rfl⟩ := List.exists_cons_of_ne_nil hne
  obtain ⟨T0, tr, rfl⟩ := List.exists_cons_of_ne_nil (l := ts) (by rintro rfl; simp at hts)
  have hg0 := hG r0 (.head _)
  obtain ⟨t0, u0, hT0⟩ := htup 0 T0 r0 rfl rfl
  have hT₁ : h₁.IsTuple T0 #[.int r0.1 t0, .str (S r0.2) u0] := hT0.at fun o e => F.keep _ _ e
  refine wpAny_execs_cons (Assign_Tuple (Subscript_ (ldLocal F rfl (wpAny_Constant_int (item_list (vs := (T0 :: tr).map Value.ref) (hrows.at fun o e => F.keep _ _ e) (by decide) (by decide) rfl (assign_cellpair (by exact hh) hT₁ hc1 (Nat.succ_ne_self _) (Heap.get?_none_of_le (Nat.le_succ _)) F fun h₂ tk₂ F₂ hc₂ hk₂ => ?_))))))
  replace F₂ : Fr s.heap s.heap.objs.size h₂ _ := F₂
  replace hk₂ : ∀ b o, b ≠ s.heap.objs.size → b ≠ s.heap.objs.size + 1 → h₁.get? b = some o → h₂.get? b = some o := hk₂
  dsimp only
  have hm0 : r0.2 = [] → 1 ≤ r0.1 := fun q => by
    rcases Nat.eq_zero_or_pos r0.1 with z | z
    · exact absurd (by rw [List.headD_cons]; cases r0; simp_all) h0
    · exact z
  refine wpAny_execs_cons (wpAny_Assign_Name (List_ (spliced_more (wpAny_mono (Q := fun v s' => ∃ tb tk, v = .int (baseOf r0 : Nat) tb ∧ s' = { s with heap := h₂, toks := tk }) ?base ?c2 (fun _ _ e => e)))))
  case base =>
    refine IfExp_ (wpAny_isTrue_Compare1 (ldLocal F₂ rfl (Calls.Constant_str (ne_str (wpAny_truthy_bool ?_)))))
    rw [str_empty, S_bne]
    by_cases hp : r0.2 = []
    · rw [hp]
      simp only [bne_self_eq_false, Bool.false_eq_true, if_false]
      have hz : ((r0.1 : Int) - 1) = ((baseOf r0 : Nat) : Int) := by have := hm0 hp; unfold baseOf; rw [if_pos hp]; omega
      exact wpAny_BinOp (ldCell hc₂ (wpAny_Constant_int (sub_int ⟨_, _, congrArg (fun z => Value.int z _) hz, rfl⟩)))
    · have : (r0.2 != []) = true := by simpa using hp
      rw [this]
      simp only [if_true]
      have hz : (r0.1 : Int) = ((baseOf r0 : Nat) : Int) := by unfold baseOf; rw [if_neg hp]
      exact ldCell hc₂ ⟨_, _, congrArg (fun z => Value.int z _) hz, rfl⟩
  case c2 =>
    rintro v s' ⟨tb, tkb, rfl, rfl⟩
    refine spliced_none (newList_g fun h₃ g₃ hP₃ hsz₃ => ?_)
    dsimp only at g₃ hP₃ hsz₃
    have hLlt : s.heap.objs.size < h₂.objs.size := F₂.ns.lt
    refine stL (frGrow F₂ g₃) fun h₄ F₄ sb₄ => ?_
    replace sb₄ : Heap.SameBut s.heap.objs.size h₃ h₄ := sb₄
    replace F₄ : Fr s.heap s.heap.objs.size h₄ _ := F₄
    have hP₄ := plainBut hP₃ sb₄ (Nat.ne_of_gt hLlt)
    have hc₄ := cellBut (cell_grow hc₂ g₃) sb₄ (Nat.succ_ne_self _)
    have hsz₄ : h₄.objs.size = h₂.objs.size + 1 := sb₄.1.trans hsz₃
    dsimp only
    refine wpAny_execs_cons (wpAny_Assign_Name (List_ (spliced_none (newList_g fun h₅ g₅ hT₅ hsz₅ => ?_))))
    dsimp only at g₅ hT₅ hsz₅
    refine stL (frGrow F₄ g₅) fun h₆ F₆ sb₆ => ?_
    replace sb₆ : Heap.SameBut s.heap.objs.size h₅ h₆ := sb₆
    replace F₆ : Fr s.heap s.heap.objs.size h₆ _ := F₆
    have hP₆ := plainBut (plain_grow hP₄ g₅) sb₆ (Nat.ne_of_gt hLlt)
    have hT₆ := plainBut hT₅ sb₆ (Nat.ne_of_gt (by omega))
    have hc₆ := cellBut (cell_grow hc₄ g₅) sb₆ (Nat.succ_ne_self _)
    dsimp only
    have hDpL : h₂.objs.size ≠ s.heap.objs.size := Nat.ne_of_gt hLlt
    have hDtL : h₄.objs.size ≠ s.heap.objs.size := Nat.ne_of_gt (by omega)
    have hDtp : h₄.objs.size ≠ h₂.objs.size := Nat.ne_of_gt (by omega)
    have hDp0 : s.heap.get? h₂.objs.size = none := Heap.get?_none_of_le (Nat.le_of_lt hLlt)
    have hDt0 : s.heap.get? h₄.objs.size = none := Heap.get?_none_of_le (by omega)
    generalize h₂.objs.size = Dp at *
    generalize h₄.objs.size = Dt₀ at *
    refine wpAny_execs_cons (wpAny_mono (Q := fun f s' => f = .next ∧ ∃ (h : Heap) (tk : Nat) (m : Str → Option Value) (Dt : Addr) (vp vt : List Value), s' = { s with heap := h, toks := tk } ∧ Fr s.heap s.heap.objs.size h m ∧ m "pile" = some (.ref Dp) ∧ m "told" = some (.ref Dt) ∧
        h.PlainList Dp vp.toArray ∧ IntsAre vp ((mrun [baseOf r0] (r0 :: rr)).2.reverse.map fun n : Nat => (n : Int)) ∧ h.PlainList Dt vt.toArray ∧ IntsAre vt (mrun [baseOf r0] (r0 :: rr)).1 ∧ Dt ≠ s.heap.objs.size ∧ s.heap.get? Dt = none) ?loop ?cont (fun _ _ e => e))
    case cont =>
      rintro f s' ⟨rfl, h₅₀, tk₅₀, m₅₀, Dt, vp, vt, rfl, F₅₀, d1, d2, d3, d4, d5, d6, d7, d8⟩
      have hbl := mrun_len (rr.length + 1) [baseOf r0] (r0 :: rr) rfl
      have hnr := mrun_ne (S := [baseOf r0]) (List.cons_ne_nil _ _) (rr.length + 1) (r0 :: rr) rfl hG
      have hpos : 0 < (mrun [baseOf r0] (r0 :: rr)).2.length := List.length_pos_iff.mpr hnr
      have hl12 : rr.length + 1 ≤ 12 := by simpa using hlen
      have hb1 : (mrun [baseOf r0] (r0 :: rr)).2.length ≤ 13 := by have := hbl.1; simp at this; omega
      have hb2 : (mrun [baseOf r0] (r0 :: rr)).1.length ≤ 300 := by
        have h5 : (rr.length + 1) * ([baseOf r0].length + (rr.length + 1) + 6) ≤ 12 * (1 + 12 + 6) := Nat.mul_le_mul hl12 (by simp; omega)
        have := hbl.2; omega
      have hvp : vp.length = (mrun [baseOf r0] (r0 :: rr)).2.length := by rw [d4.length, List.length_map, List.length_reverse]
      have hvt : vt.length ≤ 300 := by rw [d6.length]; exact hb2
      dsimp only
      refine wpAny_execs_cons (wpAny_Return_some (wpAny_BinOp (ldLocal F₅₀ d2 (wpAny_BinOp (List_ (spliced_more (wpAny_Constant_int (spliced_none (newList_g fun h₅₁ g₅₁ hN₅₁ sz₅₁ => ?_))) rfl))))))
      dsimp only at g₅₁ hN₅₁ sz₅₁ ⊢
      have F₅₁ := frGrow F₅₀ g₅₁
      have G₅₁ := G.keeps F₅₁.keep
      refine wpAny_BinOp (Call_ (ldBuilt G₅₁ rfl boot_len (callWith_builtin1 (spliced_more (ldLocal F₅₁ d1 (spliced_none (len_list (plain_grow d3 g₅₁).isList (by simp; omega) ?_))) rfl) rfl rfl)) rfl)
      dsimp only
      refine wpAny_Constant_int (sub_int ?_)
      dsimp only
      obtain ⟨nt, hnt⟩ := plain_grow d5 g₅₁
      have N₅₁ : News s.heap s.heap.objs.size h₅₁ [(Dt, { cls := .type "list", data := .seq vt.toArray nt })] := fun p hp => by
        rw [List.mem_singleton.mp hp]; exact ⟨hnt, d7, d8⟩
      have hLlt₅₁ : s.heap.objs.size < h₅₁.objs.size := F₅₁.ns.lt
      refine mul_g F₅₁ N₅₁ hN₅₁ (by simp [hvp]; omega) (by simp [hvp]; omega) fun h₅₂ F₅₂ N₅₂ hM₅₂ => ?_
      dsimp only at hM₅₂ ⊢
      have hLlt₅₂ : s.heap.objs.size < h₅₂.objs.size := F₅₂.ns.lt
      refine add_g (N₅₂.isList (.head _)) hM₅₂.isList (fun h₅₃ g₅₃ hR₅₃ sz₅₃ => ?_) (size_ok (by simp [hvp]; omega))
      dsimp only at g₅₃ hR₅₃ sz₅₃ ⊢
      refine h h₅₃ _ h₅₂.objs.size _ (fun b o e => g₅₃ b o (F₅₂.keep b o e)) (Heap.get?_none_of_le (Nat.le_of_lt hLlt₅₂)) hR₅₃ ?_
      have hk : (((vp.toArray.size : Nat) : Int) - 1).toNat = (mrun [baseOf r0] (r0 :: rr)).2.length - 1 := by rw [List.size_toArray, hvp]; omega
      rw [hk]
      unfold pileL
      rw [List.headD_cons]
      exact ints_app d6 (ints_rep 6 _ _)
    case loop =>
      refine for_raw (ldLocal F₆ rfl ?_)
      refine wpAny_pyIter_list (hrows.at fun o e => F₆.keep _ _ e) ?_
      dsimp only
      generalize hh₇ : Heap.push h₆ _ = h₇
      have g₇ : Grown h₆ h₇ := fun b o e => hh₇ ▸ Heap.get?_push_of_some _ e
      have hIt₇ : h₇.IsListIter h₆.objs.size Dr 0 := ⟨_, by rw [← hh₇]; exact Heap.get?_push_size _ rfl, rfl, rfl⟩
      have hL₆ : s.heap.objs.size < h₆.objs.size := F₆.ns.lt
      clear hh₇
      have hDr₀ : Dr < s.heap.objs.size := by obtain ⟨o, ho, _⟩ := hrows; exact Heap.lt_size ho
      have hI0 : s.heap.get? h₆.objs.size = none := Heap.get?_none_of_le (Nat.le_of_lt hL₆)
      generalize h₆.objs.size = It at *
      have Q₇ : QSt s It Dr Ds Dp 0 [] [baseOf r0] _ h₇ _ := ⟨frGrow F₆ g₇, hIt₇, Nat.ne_of_gt hL₆, cell_grow hc₆ g₇, rfl, rfl, hDpL, hDp0, ⟨_, plain_grow hP₆ g₇, .cons _ _ .nil⟩, Dt₀, [], rfl, hDtL, hDtp, hDt0, plain_grow hT₆ g₇, .nil⟩
      clear hIt₇ g₇ hP₆ hT₆ hc₆ F₆ sb₆ hT₅ g₅ hP₄ hc₄ F₄ sb₄ hP₃ g₃ hsz₃ hsz₄ hsz₅ hk₂ hc₂ F₂ hT₁ hc1 F hDtL hDtp hDt0
      have hItDr : Dr ≠ It := Nat.ne_of_lt (Nat.lt_trans hDr₀ hL₆)
      have W := fun (A' : Around) (hh' : A'.handled = none) => Walks.list (prog := prog) (w := w) (A := A') hh' It Dr hItDr (((T0 :: tr).map Value.ref).toArray)
      have hitems : (((T0 :: tr).map Value.ref).toArray).size = rr.length + 1 := by simpa using hts
      rw [hitems] at W
      refine ⟨fun k s' => ∃ (i : Nat) (h : Heap) (tk : Nat) (m : Str → Option Value) (vc : Option Value), s' = { s with heap := h, toks := tk } ∧ k = rr.length + 2 - i ∧ i ≤ rr.length + 1 ∧
          QSt s It Dr Ds Dp i (mrun [baseOf r0] ((r0 :: rr).take i)).1 (mrun [baseOf r0] ((r0 :: rr).take i)).2 vc h m,
        rr.length + 2, ⟨0, h₇, _, _, _, rfl, rfl, Nat.zero_le _, Q₇⟩, ?_⟩
      rintro k s' ⟨i, hp, tk, m, vc, rfl, rfl, hi, Q₈⟩
      rcases Nat.lt_or_ge i (rr.length + 1) with hlt | hge
      · have hbl := mrun_len i [baseOf r0] ((r0 :: rr).take i) (by simp; omega)
        generalize hrun : mrun [baseOf r0] ((r0 :: rr).take i) = ru at Q₈ hbl
        refine (W _ (by exact hh)).item i _ _ _ hlt ⟨Q₈.2.1, (hrows.at fun o e => Q₈.1.keep _ _ e)⟩ fun v h₉ tk₉ hv hst₉ hk₉ => ?_
        have hst0 : ru.2 ≠ [] := hrun ▸ mrun_ne (List.cons_ne_nil _ _) i _ (by simp; omega) fun r hr => hG r (List.mem_of_mem_take hr)
        have hi12 : i ≤ 12 := by simp at hlen; omega
        have hbl1 : ru.2.length ≤ 13 := by have := hbl.1; simp at this; omega
        have hbl2 : ru.1.length ≤ 300 := by
          have h5 : i * ([baseOf r0].length + i + 6) ≤ 12 * (1 + 12 + 6) := Nat.mul_le_mul hi12 (by simp; omega)
          have := hbl.2; omega
        obtain ⟨r, hr⟩ : ∃ r, (r0 :: rr)[i]? = some r := ⟨_, List.getElem?_eq_getElem (by simpa using hlt)⟩
        obtain ⟨T, hT⟩ : ∃ T, (T0 :: tr)[i]? = some T := ⟨_, List.getElem?_eq_getElem (by rw [hts]; simpa using hlt)⟩
        have hvT : v = .ref T := by
          have h2 : ((T0 :: tr).map Value.ref)[i]? = some v := by simpa using hv
          rw [List.getElem?_map, hT] at h2
          exact (Option.some.inj h2).symm
        subst hvT
        obtain ⟨t, u, hTt⟩ := htup i T r hT hr
        have hgr := hG r (List.mem_of_getElem? hr)
        have hr3 := pieces_len _ hgr.2
        have hr5 := hgr.1
        have Q₉ := Q₈.move hst₉.1 (fun b o hb e => hk₉ b o (by simpa using hb) e) hI0
        dsimp only
        refine letGo_listiter hst₉.1 (assign_cellpair (by exact hh) (hTt.at fun o e => Q₉.1.keep _ _ e) Q₉.2.2.2.1 (Nat.succ_ne_self _) (Heap.get?_none_of_le (Nat.le_succ _)) Q₉.1 fun h₁₀ tk₁₀ F₁₀ hc₁₀ hk₁₀ => ?_)
        have Q₁₀ := Q₉.bound F₁₀ hc₁₀ hk₁₀
        clear Q₈ Q₉ hk₁₀ hc₁₀ F₁₀ hk₉ hst₉ hv
        dsimp only
        -- a margin is put on
        refine wpAny_execs_cons (wpAny_mono (Q := fun f s' => f = .next ∧ ∃ (h : Heap) (tk : Nat) (m : Str → Option Value), s' = { s with heap := h, toks := tk } ∧ QSt s It Dr Ds Dp (i + 1) (ru.1 ++ (if r.2 ≠ [] ∧ ru.2.headD 0 < r.1 then [5] else [])) (pushed ru.2 r) (some (.int r.1 t)) h m ∧ m "piece" = some (.str (S r.2) u)) ?sA ?cA (fun _ _ e => e))
        case sA =>
          obtain ⟨F, hit, n1, hc, b1, b2, b3, b4, ⟨vp, c1, c2⟩, Dt, vt, a1, a2, a3, a4, a5, a6⟩ := id Q₁₀
          obtain ⟨tl, hvl⟩ := ints_last c2 (last_rev hst0)
          refine wpAny_If (wpAny_mono (Q := fun b s' => b = decide (r.2 ≠ [] ∧ ru.2.headD 0 < r.1) ∧ ∃ tk, s' = { s with heap := h₁₀, toks := tk }) ?test ?rest (fun _ _ e => e))
          case test =>
            refine isTrue_and (wpAny_isTrue_Compare1 (ldLocal F rfl (Calls.Constant_str (ne_str (wpAny_truthy_bool ?_)))))
            rw [str_empty, S_bne]
            by_cases hp : r.2 = []
            · rw [hp]
              simp only [bne_self_eq_false, Bool.false_eq_true, if_false]
              exact ⟨by simp, _, rfl⟩
            · rw [show (r.2 != []) = true by simpa using hp]
              simp only [if_true]
              refine isTrue_and (wpAny_isTrue_Compare1 (ldCell hc (Subscript_ (ldLocal F b2 (UnaryOp_ (wpAny_Constant_int (neg_int (item_last c1.isList hvl (gt_int (wpAny_truthy_bool ?_))))))))))
              by_cases hgt : ru.2.headD 0 < r.1
              · rw [decide_eq_true (by omega : ((ru.2.headD 0 : Nat) : Int) < (r.1 : Int))]
                simp only [if_true]
                exact isTrue_and_nil ⟨(decide_eq_true (p := r.2 ≠ [] ∧ ru.2.headD 0 < r.1) ⟨hp, hgt⟩).symm, _, rfl⟩
              · rw [decide_eq_false (by omega : ¬ ((ru.2.headD 0 : Nat) : Int) < (r.1 : Int))]
                simp only [Bool.false_eq_true, if_false]
                exact ⟨(decide_eq_false (p := r.2 ≠ [] ∧ ru.2.headD 0 < r.1) (fun q => hgt q.2)).symm, _, rfl⟩
          case rest =>
            rintro b s' ⟨rfl, tk₁₁, rfl⟩
            by_cases hpu : r.2 ≠ [] ∧ ru.2.headD 0 < r.1
            · rw [decide_eq_true hpu, if_pos rfl]
              have hvpl : vp.length ≤ 20000 := by rw [c2.length, List.length_map, List.length_reverse]; omega
              have hvtl : vt.length ≤ 20000 := by rw [a6.length]; omega
              refine wpAny_execs_cons (append_g (ldLocal F b2 ⟨rfl, c1, ldCell hc ⟨c1, size_ok hvpl, fun h₁₂ hP₁₂ sb₁₂ => ?_⟩⟩))
              dsimp only at sb₁₂ ⊢
              have Q₁₂ : QSt s It Dr Ds Dp (i + 1) ru.1 (r.1 :: ru.2) (some (.int r.1 t)) h₁₂ _ := Q₁₀.piled sb₁₂ hP₁₂ (by rw [List.reverse_cons, List.map_append]; exact ints_snoc c2)
              have a5' := plainBut a5 sb₁₂ a3
              refine wpAny_execs_cons (append_g (ldLocal Q₁₂.1 a1 ⟨rfl, a5', wpAny_Constant_int ⟨a5', size_ok hvtl, fun h₁₃ hT₁₃ sb₁₃ => ?_⟩⟩))
              dsimp only at sb₁₃ ⊢
              have Q₁₃ := Q₁₂.said a1 sb₁₃ hT₁₃ (ints_snoc a6)
              exact wpAny_execs_nil ⟨rfl, h₁₃, _, _, rfl, Q₁₃.cast (by rw [if_pos hpu]) (by unfold pushed; rw [if_pos hpu]), rfl⟩
            · rw [decide_eq_false hpu, if_neg Bool.false_ne_true]
              exact wpAny_execs_nil ⟨rfl, h₁₀, _, _, rfl, Q₁₀.cast (by rw [if_neg hpu, List.append_nil]) (by unfold pushed; rw [if_neg hpu]), rfl⟩
        case cA =>
          rintro f s' ⟨rfl, h₁₄, tk₁₄, m₁₄, rfl, Q₁₄, hmp⟩
          clear Q₁₀
          dsimp only
          have hpl14 := pushed_len ru.2 r
          have hpn := pushed_ne (r := r) hst0
          have htl14 : (ru.1 ++ (if r.2 ≠ [] ∧ ru.2.headD 0 < r.1 then [5] else [])).length ≤ 301 := by rw [List.length_append]; split <;> simp <;> omega
          generalize htold : (ru.1 ++ (if r.2 ≠ [] ∧ ru.2.headD 0 < r.1 then [5] else [])) = told₁ at Q₁₄ htl14
          generalize hpush : pushed ru.2 r = st₁ at Q₁₄ hpl14 hpn
          -- the least margin that is not below the row's
          refine wpAny_execs_cons (wpAny_mono (Q := fun f s' => f = .next ∧ ∃ (h : Heap) (tk : Nat) (m : Str → Option Value) (tl : Tok), s' = { s with heap := h, toks := tk } ∧ QSt s It Dr Ds Dp (i + 1) told₁ st₁ (some (.int r.1 t)) h m ∧ m "piece" = some (.str (S r.2) u) ∧ m "level" = some (.int (levelOf st₁ r.1 : Nat) tl)) ?sB ?cB (fun _ _ e => e))
          case sB =>
            obtain ⟨F, hit, n1, hc, b1, b2, b3, b4, ⟨vp, c1, c2⟩, Dt, vt, a1, a2, a3, a4, a5, a6⟩ := id Q₁₄
            have G₁₄ := G.keeps F.keep
            have hvpl : vp.length ≤ 14 := by rw [c2.length, List.length_map, List.length_reverse]; omega
            refine wpAny_Assign_Name (Call_ (ldBuilt G₁₄ rfl boot_min (callWith_builtin1 (spliced_more (wpAny_ListComp_free (intTest fun b => decide ((r.1 : Int) ≤ b)) (fun v y => y = v) rfl (by decide) rfl (by decide) rfl ?_)))))
            refine wpAny_BinOp (ldLocal F b2 (List_ (spliced_more (wpAny_Constant_int (spliced_none (newList_g fun h₁₅ g₁₅ hN₁₅ sz₁₅ => add_g (plain_grow c1 g₁₅).isList hN₁₅.isList (fun h₁₆ g₁₆ hR₁₆ sz₁₆ => wpAny_pyIter_list hR₁₆.isList ?_) (size_ok (by simp; omega))))))))
            dsimp only at g₁₅ hN₁₅ sz₁₅ g₁₆ hR₁₆ sz₁₆ ⊢
            generalize hh₁₇ : Heap.push h₁₆ _ = h₁₇
            have g₁₇ : Grown h₁₆ h₁₇ := fun b o e => hh₁₇ ▸ Heap.get?_push_of_some _ e
            have hsz₁₇ : h₁₇.objs.size = h₁₆.objs.size + 1 := by rw [← hh₁₇]; exact Heap.size_push ..
            have hI₁₇ : h₁₇.IsListIter h₁₆.objs.size h₁₅.objs.size 0 := ⟨_, by rw [← hh₁₇]; exact Heap.get?_push_size _ rfl, rfl, rfl⟩
            clear hh₁₇
            have g₁₄₇ : Grown h₁₄ h₁₇ := fun b o e => g₁₇ b o (g₁₆ b o (g₁₅ b o e))
            have Q₁₇ := Q₁₄.grow g₁₄₇
            have hclt : s.heap.objs.size + 1 < h₁₄.objs.size := by obtain ⟨o, ho, _⟩ := hc; exact Heap.lt_size ho
            have W' := fun (A' : Around) (hh' : A'.handled = none) (its : Array Value) => Walks.list (prog := prog) (w := w) (A := A') hh' h₁₆.objs.size h₁₅.objs.size (Nat.ne_of_lt (by omega)) its
            refine ⟨_, _, _, _, _, _, rfl, W' _ (by exact hh) _, ?_, ⟨hI₁₇, (plain_grow hR₁₆ g₁₇).isList⟩, ?_, ⟨?_, ?_⟩, ?_⟩
            · exact size_ok (by simp; omega)
            · intro b hb
              simp only [List.mem_cons, List.not_mem_nil, or_false] at hb
              show b < h₁₇.objs.size
              rcases hb with rfl | rfl <;> (refine ltN ?_; omega)
            · intro C i' v s₃ m₃ E' hC hv hn hm₃ hk₃ htk₃
              replace hk₃ : ∀ b o, b ≠ h₁₆.objs.size → h₁₇.get? b = some o → s₃.heap.get? b = some o := fun b o hb e => hk₃ b o (by simpa using hb) e
              have hcs : s₃.heap.IsCell (s.heap.objs.size + 1) (some (.int r.1 t)) := by obtain ⟨o, ho, r⟩ := Q₁₇.2.2.2.1; exact ⟨o, hk₃ _ o (Nat.ne_of_lt (by omega)) ho, r⟩
              obtain ⟨b, tb, rfl⟩ := (ints_snoc c2).allInts v (Array.mem_of_getElem? hv)
              exact wpAny_tests_one (wpAny_isTrue_Compare1 (ldNs hn hm₃ (ldCell hcs (ge_int (wpAny_truthy_bool ⟨rfl, s₃.heap, s₃.toks, rfl, fun _ _ e => e⟩)))))
            · intro C i' v s₃ m₃ E' hC hv hpv hn hm₃ hk₃ htk₃
              exact ldNs hn hm₃ ⟨rfl, s₃.heap, s₃.toks, rfl, fun _ _ e => e⟩
            · intro D h₁₈ tk₁₈ ys vs' hD hl₁₈ hpl₁₈ hlen' hP hF hk₁₈
              replace hk₁₈ : ∀ b o, b ≠ h₁₆.objs.size → h₁₇.get? b = some o → h₁₈.get? b = some o := fun b o hb e => hk₁₈ b o (by simpa using hb) e
              have g₁₄₈ : Grown h₁₄ h₁₈ := fun b o e => hk₁₈ b o (Nat.ne_of_lt (Nat.lt_of_lt_of_le (Heap.lt_size e) (by
                have h1 : h₁₅.objs.size = h₁₄.objs.size + 1 := sz₁₅
                omega))) (g₁₄₇ b o e)
              have hvs := list_of_places hlen' hP
              have hys := paired_eq hF
              rw [hvs] at hys
              have hiys := fun t9 : Tok => ints_filter (ints_snoc (n := 9) (t := t9) c2) (fun b => decide ((r.1 : Int) ≤ b))
              have hne9 : (9 : Int) ∈ ((st₁.reverse.map fun n : Nat => (n : Int)) ++ [9]).filter (fun b => decide ((r.1 : Int) ≤ b)) := by
                refine List.mem_filter.mpr ⟨by simp, ?_⟩
                simp; omega
              have hl18 : h₁₈.IsList D ys.toList.toArray := by simpa using hl₁₈
              rw [hys] at hl18
              refine spliced_none (min_g (by exact hh) hl18 (hiys _) (List.length_pos_of_mem hne9) fun h₁₉ M tM tk₁₉ g₁₉ hM1 hM2 => ?_)
              have hMe := level_is (by omega) hM1 hM2
              subst hMe
              dsimp only at g₁₉ ⊢
              have Q₁₉ := (Q₁₄.grow g₁₄₈).grow g₁₉
              refine stL Q₁₉.1 fun h₂₀ F₂₀ sb₂₀ => ?_
              exact ⟨rfl, h₂₀, _, _, tM, rfl, Q₁₉.set F₂₀ sb₂₀ (by decide) (by decide) (by decide), hmp, rfl⟩
          case cB =>
            rintro f s' ⟨rfl, h₂₁, tk₂₁, m₂₁, tl, rfl, Q₂₁, hmp₂₁, hml⟩
            clear Q₁₄ hmp
            dsimp only
            have hlg : r.1 ≤ levelOf st₁ r.1 := level_ge (by omega)
            have hl9 := level_le9 (S := st₁) (m := r.1)
            -- what is left of the row
            have hrest : restOf ru.2 r = r.2.drop (levelOf st₁ r.1 - r.1) := by unfold restOf; rw [hpush]
            refine wpAny_execs_cons (wpAny_mono (Q := fun f s' => f = .next ∧ ∃ (h : Heap) (tk : Nat) (m : Str → Option Value) (tr : Tok), s' = { s with heap := h, toks := tk } ∧ QSt s It Dr Ds Dp (i + 1) told₁ st₁ (some (.int r.1 t)) h m ∧ m "piece" = some (.str (S r.2) u) ∧ m "level" = some (.int (levelOf st₁ r.1 : Nat) tl) ∧ m "rest" = some (.str (S (restOf ru.2 r)) tr)) ?sC ?cC (fun _ _ e => e))
            case sC =>
              have hcl := Q₂₁.2.2.2.1
              refine wpAny_Assign_Name (cut_from (ldLocal Q₂₁.1 hmp₂₁ (wpAny_BinOp (ldLocal Q₂₁.1 hml (ldCell hcl (sub_int ⟨r.2, u, levelOf st₁ r.1 - r.1, _, rfl, congrArg (fun z => Value.int z _) (by omega), size_ok (by omega), (by intro r; with_unfolding_all rfl), fun h' t' k' g => ?_⟩))))))
              dsimp only at g ⊢
              have Q₂₂ := Q₂₁.grow g
              refine stL Q₂₂.1 fun h₂₃ F₂₃ sb₂₃ => ?_
              exact ⟨rfl, h₂₃, _, _, t', rfl, Q₂₂.set F₂₃ sb₂₃ (by decide) (by decide) (by decide), hmp₂₁, hml, by rw [hrest]; rfl⟩
            case cC =>
              rintro f s' ⟨rfl, h₂₄, tk₂₄, m₂₄, tr', rfl, Q₂₄, hmp₂₄, hml₂₄, hmr⟩
              clear Q₂₁ hmp₂₁ hml
              dsimp only
              have htake : (r0 :: rr).take (i + 1) = (r0 :: rr).take i ++ [r] := by rw [List.take_add_one, hr]; rfl
              have fin : ∀ (h : Heap) (tk : Nat) (m : Str → Option Value) (vc : Option Value), QSt s It Dr Ds Dp (i + 1) (ru.1 ++ mout ru.2 r) (mnext ru.2 r) vc h m →
                  ∃ m', m' < rr.length + 2 - i ∧ ∃ (i' : Nat) (h' : Heap) (tk' : Nat) (m : Str → Option Value) (vc : Option Value), ({ s with heap := h, toks := tk } : Shared) = { s with heap := h', toks := tk' } ∧ m' = rr.length + 2 - i' ∧ i' ≤ rr.length + 1 ∧
                    QSt s It Dr Ds Dp i' (mrun [baseOf r0] ((r0 :: rr).take i')).1 (mrun [baseOf r0] ((r0 :: rr).take i')).2 vc h' m := by
                intro h tk m vc q
                refine ⟨rr.length + 2 - (i + 1), by omega, i + 1, h, tk, m, vc, rfl, rfl, hlt, ?_⟩
                rw [htake, mrun_snoc, hrun]
                exact q
              obtain ⟨F, hit, n1, hc, b1, b2, b3, b4, ⟨vp, c1, c2⟩, Dt, vt, a1, a2, a3, a4, a5, a6⟩ := id Q₂₄
              have G₂₄ := G.keeps F.keep
              obtain ⟨tv, hvl⟩ := ints_last c2 (last_rev hpn)
              have hvtl : vt.length ≤ 301 := by rw [a6.length]; exact htl14
              refine wpAny_execs_cons (wpAny_If (wpAny_isTrue_Compare1 (ldLocal F hmr (Calls.Constant_str (eq_str (wpAny_truthy_bool ?_))))))
              rw [str_empty, S_beq]
              by_cases hre : restOf ru.2 r = []
              · rw [hre]
                simp only [beq_self_eq_true, if_true]
                refine wpAny_execs_cons (wpAny_Assign_Name (wpAny_BinOp (ldLocal F a1 (List_ (spliced_more (wpAny_Constant_int ?_))))))
                dsimp only
                refine spliced_more (Call_ (ldBuilt G₂₄ rfl boot_max (callWith_builtin1 (spliced_more (wpAny_Constant_int ?_) rfl) rfl rfl)) rfl) rfl
                dsimp only
                refine spliced_more (wpAny_BinOp (wpAny_BinOp (ldCell hc ?_))) rfl
                refine Call_ (ldBuilt G₂₄ rfl boot_len (callWith_builtin1 (spliced_more (ldLocal F hmp₂₄ (spliced_none (len_str (by rw [S_len]; omega) ?_))) rfl) rfl rfl)) rfl
                dsimp only
                refine add_int ?_
                dsimp only
                refine Subscript_ (ldLocal F b2 (UnaryOp_ (wpAny_Constant_int (neg_int ?_))))
                dsimp only
                refine item_last c1.isList hvl (sub_int ?_)
                dsimp only
                refine spliced_none (max0_g (by exact hh) fun h₂₅ tk₂₅ tm g₂₅ => ?_)
                dsimp only at g₂₅ ⊢
                rw [S_len, show max 0 ((r.1 : Int) + (r.2.length : Int) - ((st₁.headD 0 : Nat) : Int)) = ((r.1 + r.2.length - st₁.headD 0 : Nat) : Int) by omega]
                have Q₂₅ := Q₂₄.grow g₂₅
                refine spliced_none (newList_g fun h₂₆ g₂₆ hN₂₆ sz₂₆ => add_g (plain_grow (plain_grow a5 g₂₅) g₂₆).isList hN₂₆.isList (fun h₂₇ g₂₇ hR₂₇ sz₂₇ => ?_) (size_ok (by simp; omega)))
                dsimp only at g₂₆ hN₂₆ sz₂₆ g₂₇ hR₂₇ sz₂₇ ⊢
                have Q₂₆ := Q₂₅.grow g₂₆
                have Q₂₇ := Q₂₆.grow g₂₇
                have hLlt₂₆ : s.heap.objs.size < h₂₆.objs.size := Q₂₆.1.ns.lt
                refine stL Q₂₇.1 fun h₂₈ F₂₈ sb₂₈ => ?_
                have hdp : h₂₆.objs.size ≠ Dp := by obtain ⟨_, ho⟩ := plain_grow (plain_grow c1 g₂₅) g₂₆; exact Nat.ne_of_gt (Heap.lt_size ho)
                have Q₂₈ := Q₂₇.tell F₂₈ sb₂₈ hR₂₇ (ints_app a6 (.cons _ _ (.cons _ _ .nil))) (Nat.ne_of_gt hLlt₂₆) (Heap.get?_none_of_le (Nat.le_of_lt hLlt₂₆)) hdp
                refine wpAny_execs_nil (wpAny_execs_nil (fin _ _ _ _ (Q₂₈.cast ?_ ?_)))
                · rw [← htold]
                  unfold mout
                  rw [if_pos hre, hpush, List.append_assoc]
                · unfold mnext
                  rw [if_pos hre, hpush]
              · rw [show (restOf ru.2 r == []) = false by simpa using hre]
                simp only [Bool.false_eq_true, if_false]
                obtain ⟨hlm, hll⟩ := rest_level hgr hre
                rw [hpush] at hlm hll
                refine wpAny_execs_cons (wpAny_mono (Q := fun f s' => f = .next ∧ ∃ (h : Heap) (tk : Nat) (m : Str → Option Value), s' = { s with heap := h, toks := tk } ∧ QSt s It Dr Ds Dp (i + 1) (told₁ ++ List.replicate (st₁.length - (poppedTo st₁ (levelOf st₁ r.1)).length) 6) (poppedTo st₁ (levelOf st₁ r.1)) (some (.int r.1 t)) h m ∧ m "rest" = some (.str (S (restOf ru.2 r)) tr')) ?sW ?cW (fun _ _ e => e))
                case sW =>
                  refine while_raw (fun k s' => ∃ (sj : List Nat) (j : Nat) (h : Heap) (tk : Nat) (m : Str → Option Value), s' = { s with heap := h, toks := tk } ∧ k = sj.length ∧ QSt s It Dr Ds Dp (i + 1) (told₁ ++ List.replicate j 6) sj (some (.int r.1 t)) h m ∧ m "level" = some (.int (levelOf st₁ r.1 : Nat) tl) ∧ m "rest" = some (.str (S (restOf ru.2 r)) tr') ∧
                      levelOf st₁ r.1 ∈ sj ∧ poppedTo sj (levelOf st₁ r.1) = poppedTo st₁ (levelOf st₁ r.1) ∧ j + sj.length = st₁.length) st₁.length
                    ⟨st₁, 0, h₂₄, _, m₂₄, rfl, rfl, Q₂₄.cast (by simp) rfl, hml₂₄, hmr, hlm, rfl, Nat.zero_add _⟩ ?_
                  rintro k s' ⟨sj, jj, h₃₀, tk₃₀, m₃₀, rfl, rfl, Q₃₀, hml₃₀, hmr₃₀, hlj, hpj, hjj⟩
                  obtain ⟨F, hit, n1, hc, b1, b2, b3, b4, ⟨vp, c1, c2⟩, Dt, vt, a1, a2, a3, a4, a5, a6⟩ := id Q₃₀
                  obtain ⟨a, sr, rfl⟩ := List.exists_cons_of_ne_nil (l := sj) (by rintro rfl; cases hlj)
                  rw [List.reverse_cons, List.map_append] at c2
                  obtain ⟨vp', ta, rfl, c3⟩ := ints_unsnoc c2
                  refine wpAny_isTrue_Compare1 (Subscript_ (ldLocal F b2 (UnaryOp_ (wpAny_Constant_int (neg_int ?_)))))
                  dsimp only
                  refine item_last (v := .int a ta) c1.isList (by simp) (ldLocal F hml₃₀ (gt_int (wpAny_truthy_bool ?_)))
                  have hvl1 : vp'.length ≤ 14 := by rw [c3.length, List.length_map, List.length_reverse]; simp only [List.length_cons] at hjj; omega
                  have hvtl1 : vt.length ≤ 400 := by
                    rw [a6.length, List.length_append, List.length_replicate]
                    simp only [List.length_cons] at hjj
                    omega
                  by_cases hgt : levelOf st₁ r.1 < a
                  · rw [decide_eq_true (by omega : ((levelOf st₁ r.1 : Nat) : Int) < (a : Int)), if_pos rfl]
                    refine wpAny_execs_cons (pop_g (by intro x q; cases q) (ldLocal F b2 ⟨rfl, c1, size_ok (by omega), fun h₃₁ hP₃₁ sb₃₁ => ?_⟩))
                    dsimp only at sb₃₁ ⊢
                    have Q₃₁ : QSt s It Dr Ds Dp (i + 1) (told₁ ++ List.replicate jj 6) sr (some (.int r.1 t)) h₃₁ _ := Q₃₀.piled sb₃₁ hP₃₁ c3
                    have a5' := plainBut a5 sb₃₁ a3
                    refine wpAny_execs_cons (append_g (ldLocal Q₃₁.1 a1 ⟨rfl, a5', wpAny_Constant_int ⟨a5', size_ok (by omega), fun h₃₂ hT₃₂ sb₃₂ => ?_⟩⟩))
                    dsimp only at sb₃₂ ⊢
                    have Q₃₂ := Q₃₁.said a1 sb₃₂ hT₃₂ (ints_snoc a6)
                    refine wpAny_execs_nil ⟨sr.length, by simp, sr, jj + 1, h₃₂, _, _, rfl, rfl, Q₃₂.cast (by rw [List.append_assoc, List.replicate_succ']) rfl, hml₃₀, hmr₃₀, ?_, ?_, ?_⟩
                    · rcases List.mem_cons.mp hlj with q | q
                      · omega
                      · exact q
                    · rw [← hpj]; unfold poppedTo; rw [List.dropWhile_cons, if_pos (by simpa using hgt)]
                    · simp only [List.length_cons] at hjj; omega
                  · rw [decide_eq_false (by omega : ¬ ((levelOf st₁ r.1 : Nat) : Int) < (a : Int)), if_neg Bool.false_ne_true]
                    have hpp : poppedTo st₁ (levelOf st₁ r.1) = a :: sr := by rw [← hpj]; unfold poppedTo; rw [List.dropWhile_cons, if_neg (by simpa using hgt)]
                    exact ⟨rfl, h₃₀, _, _, rfl, Q₃₀.cast (by rw [hpp, show st₁.length - (a :: sr).length = jj by omega]) hpp.symm, hmr₃₀⟩
                case cW =>
                  rintro f s' ⟨rfl, h₃₃, tk₃₃, m₃₃, rfl, Q₃₃, hmr₃₃⟩
                  clear Q₂₄
                  dsimp only
                  obtain ⟨F, hit, n1, hc, b1, b2, b3, b4, ⟨vp, c1, c2⟩, Dt, vt, a1, a2, a3, a4, a5, a6⟩ := id Q₃₃
                  have hvtl3 : vt.length ≤ 400 := by rw [a6.length, List.length_append, List.length_replicate]; omega
                  have ends : ∀ (h : Heap) (tk : Nat) (m : Str → Option Value), QSt s It Dr Ds Dp (i + 1) (told₁ ++ List.replicate (st₁.length - (poppedTo st₁ (levelOf st₁ r.1)).length) 6 ++ (signNums (restOf ru.2 r) ++ [4])) (poppedTo st₁ (levelOf st₁ r.1)) (some (.int r.1 t)) h m → _ := fun h tk m q => fin h tk m _ (q.cast (by
                    rw [← htold]
                    unfold mout
                    rw [if_neg hre, hpush]
                    simp only [List.append_assoc]) (by
                    unfold mnext
                    rw [if_neg hre, hpush]))
                  have hxc := pieces_rest hgr.2 (levelOf st₁ r.1 - r.1) (by rw [← hrest]; exact hre)
                  rw [← hrest] at hxc
                  refine wpAny_execs_cons (wpAny_If (wpAny_isTrue_Compare1 (ldLocal F hmr₃₃ (Calls.Constant_str (eq_str (wpAny_truthy_bool ?_))))))
                  rw [show Str.ofString ".." = S [46, 46] by decide +kernel, S_beq]
                  by_cases hx1 : restOf ru.2 r = [46, 46]
                  · rw [hx1]
                    simp only [beq_self_eq_true, if_true]
                    refine wpAny_execs_cons (wpAny_Assign_Name (wpAny_BinOp (ldLocal F a1 (List_ (spliced_more (wpAny_Constant_int (spliced_more (wpAny_Constant_int (spliced_more (wpAny_Constant_int ?_) rfl)) rfl)) rfl)))))
                    dsimp only
                    refine spliced_none (newList_g fun h₃₆ g₃₆ hN₃₆ sz₃₆ => add_g (plain_grow a5 g₃₆).isList hN₃₆.isList (fun h₃₇ g₃₇ hR₃₇ sz₃₇ => ?_) (size_ok (by simp; omega)))
                    dsimp only at g₃₆ hN₃₆ sz₃₆ g₃₇ hR₃₇ sz₃₇ ⊢
                    have Q₃₆ := Q₃₃.grow g₃₆
                    have Q₃₇ := Q₃₆.grow g₃₇
                    have hLlt₃₆ : s.heap.objs.size < h₃₆.objs.size := Q₃₆.1.ns.lt
                    refine stL Q₃₇.1 fun h₃₈ F₃₈ sb₃₈ => ?_
                    have hdp : h₃₆.objs.size ≠ Dp := by obtain ⟨_, ho⟩ := Q₃₆.2.2.2.2.2.2.2.2.1.choose_spec.1; exact Nat.ne_of_gt (Heap.lt_size ho)
                    have Q₃₈ := Q₃₇.tell F₃₈ sb₃₈ hR₃₇ (ints_app a6 (.cons _ _ (.cons _ _ (.cons _ _ .nil)))) (Nat.ne_of_gt hLlt₃₆) (Heap.get?_none_of_le (Nat.le_of_lt hLlt₃₆)) hdp
                    have hsn : signNums (restOf ru.2 r) = [23, 23] := by rw [hx1]; rfl
                    exact wpAny_execs_nil (wpAny_execs_nil (wpAny_execs_nil (ends _ _ _ (Q₃₈.cast (by rw [hsn]; simp) rfl))))
                  · rw [show (restOf ru.2 r == [46, 46]) = false by simpa using hx1]
                    simp only [Bool.false_eq_true, if_false]
                    refine wpAny_execs_cons (wpAny_If (wpAny_isTrue_Compare1 (ldLocal F hmr₃₃ (Tuple_ (spliced_more (Calls.Constant_str (spliced_more (Calls.Constant_str (spliced_none (wpAny_newTuple ?_))) rfl)) rfl)))))
                    dsimp only
                    rw [show Str.ofString "\t=" = S [9, 61] by decide +kernel, show Str.ofString "\x0d=" = S [13, 61] by decide +kernel]
                    refine in_tup2 ⟨_, Heap.get?_push_size _ rfl, rfl, _, rfl⟩ (wpAny_truthy_bool ?_)
                    generalize hh₃₄ : Heap.push h₃₃ _ = h₃₄
                    have g₃₄ : Grown h₃₃ h₃₄ := fun b o e => hh₃₄ ▸ Heap.get?_push_of_some _ e
                    have Q₃₄ := Q₃₃.grow g₃₄
                    have a5' := plain_grow a5 g₃₄
                    clear hh₃₄
                    by_cases hx2 : restOf ru.2 r = [9, 61] ∨ restOf ru.2 r = [13, 61]
                    · rw [show (restOf ru.2 r == [9, 61] || restOf ru.2 r == [13, 61]) = true by simpa using hx2]
                      simp only [if_true]
                      refine wpAny_execs_cons (wpAny_Assign_Name (wpAny_BinOp (ldLocal Q₃₄.1 a1 (List_ (spliced_more (wpAny_Constant_int (spliced_more (wpAny_Constant_int (spliced_more (wpAny_Constant_int ?_) rfl)) rfl)) rfl)))))
                      dsimp only
                      refine spliced_none (newList_g fun h₃₆ g₃₆ hN₃₆ sz₃₆ => add_g (plain_grow a5' g₃₆).isList hN₃₆.isList (fun h₃₇ g₃₇ hR₃₇ sz₃₇ => ?_) (size_ok (by simp; omega)))
                      dsimp only at g₃₆ hN₃₆ sz₃₆ g₃₇ hR₃₇ sz₃₇ ⊢
                      have Q₃₆ := Q₃₄.grow g₃₆
                      have Q₃₇ := Q₃₆.grow g₃₇
                      have hLlt₃₆ : s.heap.objs.size < h₃₆.objs.size := Q₃₆.1.ns.lt
                      refine stL Q₃₇.1 fun h₃₈ F₃₈ sb₃₈ => ?_
                      have hdp : h₃₆.objs.size ≠ Dp := by obtain ⟨_, ho⟩ := Q₃₆.2.2.2.2.2.2.2.2.1.choose_spec.1; exact Nat.ne_of_gt (Heap.lt_size ho)
                      have Q₃₈ := Q₃₇.tell F₃₈ sb₃₈ hR₃₇ (ints_app a6 (.cons _ _ (.cons _ _ (.cons _ _ .nil)))) (Nat.ne_of_gt hLlt₃₆) (Heap.get?_none_of_le (Nat.le_of_lt hLlt₃₆)) hdp
                      have hsn : signNums (restOf ru.2 r) = [64, 22] := by unfold signNums; rw [if_neg hx1, if_pos hx2]
                      exact wpAny_execs_nil (wpAny_execs_nil (wpAny_execs_nil (wpAny_execs_nil (ends _ _ _ (Q₃₈.cast (by rw [hsn]; simp) rfl)))))
                    · rw [show (restOf ru.2 r == [9, 61] || restOf ru.2 r == [13, 61]) = false by simpa using hx2]
                      simp only [Bool.false_eq_true, if_false]
                      have hxs : restOf ru.2 r ∈ signsL := by
                        rcases hxc with q | q | q | q
                        · exact absurd q hx1
                        · exact absurd (.inl q) hx2
                        · exact absurd (.inr q) hx2
                        · exact q
                      have hsig₃₄ : h₃₄.PlainList Ds (strValues sg).toArray := plain_grow hsig Q₃₄.1.keep
                      refine wpAny_execs_cons (wpAny_Assign_Name (wpAny_BinOp (ldLocal Q₃₄.1 a1 (List_ (spliced_more (wpAny_BinOp (wpAny_Constant_int (MethodCall_ (ldLocal Q₃₄.1 b1 ?_) rfl))) rfl)))))
                      obtain ⟨nsg, hnsg⟩ := id hsig₃₄
                      refine getMethod_builtin ⟨_, hnsg, rfl⟩ PySem.F.plainAttrs_list PySem.F.slot_list_index PySem.F.type_list_index (fun a e => by cases e; exact ⟨_, hnsg, rfl⟩) ?_
                      dsimp only
                      refine index_g (ldLocal Q₃₄.1 hmr₃₃ ⟨tr', rfl, hsig₃₄, hsg, hxs, by decide, ?_⟩)
                      dsimp only
                      refine add_int (spliced_more (wpAny_Constant_int ?_) rfl)
                      dsimp only
                      refine spliced_none (newList_g fun h₃₆ g₃₆ hN₃₆ sz₃₆ => add_g (plain_grow a5' g₃₆).isList hN₃₆.isList (fun h₃₇ g₃₇ hR₃₇ sz₃₇ => ?_) (size_ok (by simp; omega)))
                      dsimp only at g₃₆ hN₃₆ sz₃₆ g₃₇ hR₃₇ sz₃₇ ⊢
                      have Q₃₆ := Q₃₄.grow g₃₆
                      have Q₃₇ := Q₃₆.grow g₃₇
                      have hLlt₃₆ : s.heap.objs.size < h₃₆.objs.size := Q₃₆.1.ns.lt
                      refine stL Q₃₇.1 fun h₃₈ F₃₈ sb₃₈ => ?_
                      have hdp : h₃₆.objs.size ≠ Dp := by obtain ⟨_, ho⟩ := Q₃₆.2.2.2.2.2.2.2.2.1.choose_spec.1; exact Nat.ne_of_gt (Heap.lt_size ho)
                      have Q₃₈ := Q₃₇.tell F₃₈ sb₃₈ hR₃₇ (ints_app a6 (.cons _ _ (.cons _ _ .nil))) (Nat.ne_of_gt hLlt₃₆) (Heap.get?_none_of_le (Nat.le_of_lt hLlt₃₆)) hdp
                      have hsn : signNums (restOf ru.2 r) = [7 + (signsL.idxOf (restOf ru.2 r) : Int)] := by unfold signNums; rw [if_neg hx1, if_neg hx2]
                      exact wpAny_execs_nil (wpAny_execs_nil (wpAny_execs_nil (wpAny_execs_nil (ends _ _ _ (Q₃₈.cast (by rw [hsn]; simp) rfl)))))
      · have hin : i = rr.length + 1 := by omega
        subst hin
        refine (W _ (by exact hh)).done _ _ _ ⟨Q₈.2.1, (hrows.at fun o e => Q₈.1.keep _ _ e)⟩ fun h₉ tk₉ hk₉ => ?_
        obtain ⟨F₉, Dt, vp, vt, d1, d2, d3, d4, d5, d6, d7, d8⟩ := Q₈.last (fun b o hb e => hk₉ b o (by simpa using hb) e) hI0
        rw [List.take_of_length_le (by simp)] at d4 d6
        exact ⟨rfl, _, _, _, Dt, vp, vt, rfl, F₉, d1, d2, d3, d4, d5, d6, d7, d8⟩
end Mine
end
section
open PySem PySem.W PyProof.Rows PySem.Calls PySem.SeqAt PySem.Spec
set_option maxRecDepth 100000
namespace Mine
abbrev tupO (r : Nat × Ln) (t u : Tok) : Obj := { cls := .type "tuple", data := .seq ([.int r.1 t, .str (S r.2) u] : List Value).toArray }
theorem fmod_nat (x : Int) (k : Nat) (hk : 0 < k) : ∃ n : Nat, x.fmod (k : Int) = (n : Int) ∧ n < k := by
  have h1 := Int.fmod_nonneg_of_pos x (by omega : (0 : Int) < (k : Int))
  have h2 := Int.fmod_lt_of_pos x (by omega : (0 : Int) < (k : Int))
  exact ⟨(x.fmod (k : Int)).toNat, by omega, by omega⟩
theorem pieces_size : piecesL.length = 60 := by decide +kernel
theorem strs_get {pc : List (Str × Tok)} {pl : List Ln} (h : pc.map (·.1) = pl.map S) {n : Nat} (hn : n < pl.length) : ∃ u, (strValues pc)[n]? = some (.str (S (pl[n]'hn)) u) := by
  have hl : pc.length = pl.length := by simpa using congrArg List.length h
  have h1 := congrArg (fun z : List Str => z[n]?) h
  simp only [List.getElem?_map] at h1
  rw [List.getElem?_eq_getElem (by omega : n < pc.length), List.getElem?_eq_getElem hn] at h1
  simp only [Option.map_some, Option.some.injEq] at h1
  refine ⟨(pc[n]'(by omega)).2, ?_⟩
  simp only [strValues, List.getElem?_map]
  rw [List.getElem?_eq_getElem (by omega : n < pc.length)]
  simp [h1]
theorem at_snoc {α β : Type} {P : α → β → Prop} {ts : List α} {rs : List β} {T : α} {r : β} (hl : ts.length = rs.length) (h : ∀ (i : Nat) a b, ts[i]? = some a → rs[i]? = some b → P a b) (hp : P T r) :
    ∀ (i : Nat) a b, (ts ++ [T])[i]? = some a → (rs ++ [r])[i]? = some b → P a b := by
  intro i a b ha hb
  rcases Nat.lt_trichotomy i ts.length with q | q | q
  · rw [List.getElem?_append_left q] at ha
    rw [List.getElem?_append_left (by omega)] at hb
    exact h i a b ha hb
  · subst q
    rw [List.getElem?_append_right (Nat.le_refl _), Nat.sub_self] at ha
    rw [hl, List.getElem?_append_right (Nat.le_refl _), Nat.sub_self] at hb
    cases ha; cases hb; exact hp
  · rw [List.getElem?_eq_none (by simp; omega)] at ha; cases ha
theorem rows_turns {prog : Program} {w : World} {A : Around} {h₀ : Heap} {L c Dp : Addr} {m : Str → Option Value} {env : Env} {scope : Scope} {cl : List (Str × Addr)} {s : Shared} {its : Array Value} {ns : List Int} {pc : List (Str × Tok)} {oc : Obj} {ax : Addr}
    {Fin : List Value → List (Addr × Obj) → Prop} {elt : Expr} {p1 p2 p3 p4 p5 p6 p7 p8 p9 p10 p11 : Pos}
    (he : elt = .Tuple [.BinOp (.Name "x" p1) .Mod (.Constant (.int 5) 0 p2) p3, .Subscript (.Name "pieces" p4) (.BinOp (.BinOp (.Name "x" p5) .FloorDiv (.Constant (.int 5) 0 p6) p7) .Mod (.Constant (.int 60) 0 p8) p9) p10] 0 p11)
    (hIt : h₀.IsList ax its) (hi : IntsAre its.toList ns) (hpl : h₀.IsList Dp (strValues pc).toArray) (hpc : pc.map (·.1) = piecesL.map S) (hoc : oc.data = .cell (some (.ref Dp)))
    (hcl : cl.lookup ("pieces" : Str) = some c)
    (hk : ∀ C, (compEnvC scope cl C env).scope.kind = .function) (hx : ∀ C, (compEnvC scope cl C env).kindOf "x" = some .local) (hpf : ∀ C, (compEnvC scope cl C env).kindOf "pieces" = some .cell)
    (fin : ∀ (ts : List Addr) (rs : List (Nat × Ln)) (news : List (Addr × Obj)), (c, oc) ∈ news → ts.length = rs.length → rs.length = its.size → (∀ (i : Nat) (T : Addr) (r : Nat × Ln), ts[i]? = some T → rs[i]? = some r → ∃ t u, (T, tupO r t u) ∈ news) → (∀ r ∈ rs, GoodR r) → Fin (ts.map Value.ref) news) :
    ∀ (k i : Nat) (ts : List Addr) (rs : List (Nat × Ln)) (news : List (Addr × Obj)), k + i = its.size → i = ts.length → (c, oc) ∈ news → ts.length = rs.length → (∀ (i : Nat) (T : Addr) (r : Nat × Ln), ts[i]? = some T → rs[i]? = some r → ∃ t u, (T, tupO r t u) ∈ news) → (∀ r ∈ rs, GoodR r) →
      LCg.CompRest prog w A h₀ L m env elt "x" scope cl s (LCg.SrcAt h₀ ax its) (fun i v => its[i]? = some v) Fin k i (ts.map Value.ref) news
  | 0, i, ts, rs, news, hki, hit, hc, hl, htup, hg => LCg.CompRest.zero (fin ts rs news hc hl (by omega) htup hg)
  | k + 1, i, ts, rs, news, hki, hit, hc, hl, htup, hg => by
    refine LCg.CompRest.succ ?_
    intro v I oI C oC D m₂ h tk E' hv hoC hmx F N off ne
    have hil : i < its.toList.length := by simp; omega
    obtain ⟨t, ht⟩ := hi.get i (ns[i]'(by rw [← hi.length]; exact hil)) (List.getElem?_eq_getElem _)
    have hv' : its.toList[i]? = some v := by simpa using hv
    rw [hv'] at ht; cases ht
    generalize ns[i]'(by rw [← hi.length]; exact hil) = x at *
    obtain ⟨a, ha, ha5⟩ := fmod_nat x 5 (by decide)
    obtain ⟨b, hb, hb60⟩ := fmod_nat (x.fdiv 5) 60 (by decide)
    obtain ⟨u, hu⟩ := strs_get hpc (n := b) (by rw [pieces_size]; exact hb60)
    have hC : (C, oC) ∈ (I, oI) :: (C, oC) :: (D, LCg.lst (ts.map Value.ref)) :: news := .tail _ (.head _)
    have hcm : (c, oc) ∈ (I, oI) :: (C, oC) :: (D, LCg.lst (ts.map Value.ref)) :: news := .tail _ (.tail _ (.tail _ hc))
    rw [he]
    refine Tuple_ (spliced_more ?_ rfl)
    refine wpAny_BinOp (LCgL.ld_own N hC hoC hmx ?_ (hk C) (hx C))
    refine wpAny_Constant_int (mod_int' (by decide) (spliced_more ?_ rfl))
    refine Subscript_ (lcf_cell N hcl hcm hoc ?_ (hk C) (hpf C))
    refine wpAny_BinOp (wpAny_BinOp (LCgL.ld_own N hC hoC hmx ?_ (hk C) (hx C)))
    refine wpAny_Constant_int (floordiv_int (by decide) (wpAny_Constant_int (mod_int' (by decide) ?_)) (Or.inl (PyProof.noPylong_small (by decide))))
    dsimp only
    refine item_list (vs := strValues pc) (hpl.at fun o e => F.keep _ _ e) (by rw [show ((60 : Int)) = ((60 : Nat) : Int) from rfl, hb]; omega) (by rw [show ((60 : Int)) = ((60 : Nat) : Int) from rfl, hb]; omega) (by rw [show ((60 : Int)) = ((60 : Nat) : Int) from rfl, hb, Int.toNat_natCast]; exact hu) ?_ ?hs
    case hs => with_unfolding_all rfl
    refine spliced_none (newTuple_N F N fun h' F' N' => ?_)
    have ha' : x.fmod 5 = (a : Int) := ha
    rw [ha'] at N'
    generalize hr : (a, piecesL[b]'(by rw [pieces_size]; exact hb60)) = r' at *
    obtain ⟨t', N'⟩ : ∃ t', News h₀ L h' ((h.objs.size, tupO r' t' u) :: (I, oI) :: (C, oC) :: (D, LCg.lst (ts.map Value.ref)) :: news) := ⟨_, by rw [← hr]; exact N'⟩
    have hgr : GoodR r' := hr ▸ ⟨ha5, List.getElem_mem _⟩
    have hlt : ∀ p ∈ (I, oI) :: (C, oC) :: (D, LCg.lst (ts.map Value.ref)) :: news, p.1 ≠ h.objs.size := fun p hp => Nat.ne_of_lt (Heap.lt_size (N p hp).1)
    refine LCg.CompEnd.intro F' N' ((h.objs.size, tupO r' t' u) :: news) (fun p hp => ?_) ⟨⟨?_, ?_, ?_⟩, off⟩ (.inl hIt) ?_
    · simp only [List.mem_cons] at hp ⊢
      rcases hp with hp | hp | hp | hp | hp
      · exact .inr (.inl hp)
      · exact .inr (.inr (.inl hp))
      · exact .inr (.inr (.inr (.inl hp)))
      · exact .inl hp
      · exact .inr (.inr (.inr (.inr hp)))
    · exact Ne.symm (hlt (I, oI) (.head _))
    · exact Ne.symm (hlt (C, oC) (.tail _ (.head _)))
    · exact Ne.symm (hlt (D, LCg.lst (ts.map Value.ref)) (.tail _ (.tail _ (.head _))))
    · have ih := rows_turns (prog := prog) (w := w) (A := A) (L := L) (m := m) (s := s) he hIt hi hpl hpc hoc hcl hk hx hpf fin k (i + 1) (ts ++ [h.objs.size]) (rs ++ [r']) ((h.objs.size, tupO r' t' u) :: news) (by omega) (by simp; omega) (.tail _ hc) (by simp [hl])
        (at_snoc hl (fun i T r h1 h2 => by obtain ⟨t, u, hm⟩ := htup i T r h1 h2; exact ⟨t, u, .tail _ hm⟩) ⟨_, _, .head _⟩)
        (fun r hr => by
          rcases List.mem_append.mp hr with hr | hr
          · exact hg r hr
          · rw [List.mem_singleton.mp hr]; exact hgr)
      rw [List.map_append, he] at ih
      exact ih
theorem reads_row {h : Heap} {T : Addr} {r : Nat × Ln} {t u : Tok} (ht : h.IsTuple T #[.int r.1 t, .str (S r.2) u]) : Reads h (.ref T) (.tuple [.int r.1, .str (S r.2)]) [] := by
  obtain ⟨o, ho, hc, n, hd⟩ := ht
  exact Reads.tuple ho hc hd (.cons (.int _ _) (.cons (.str _ _) .nil))
theorem pieces_ascii : ∀ p ∈ piecesL, ∀ c ∈ p, c < 128 ∧ c ≠ 10 := by decide +kernel
theorem shaped_row {r : Nat × Ln} (h : ∀ c ∈ r.2, c < 128) : shaped (.tuple [.int r.1, .str (S r.2)]) = true := by
  show (PyData.canLay0 _ && decide (PyData.depth _ ≤ 64)) = true
  rw [Bool.and_eq_true]
  refine ⟨by simp [PyData.canLay0, PyData.canLayAll0, strOk_S h], decide_eq_true ?_⟩
  simp [PyData.depth, PyData.depthAll]
theorem same_row (r q : Nat × Ln) : Spec.same (.tuple [.int r.1, .str (S r.2)]) (.tuple [.int q.1, .str (S q.2)]) = decide (r = q) := by
  simp only [Spec.same, Spec.sameAll, S_beq, Bool.and_true]
  rw [Bool.eq_iff_iff]
  simp [Prod.ext_iff]
  intro _; omega
theorem rows_call {prog : Program} {w : World} {A : Around} {E : Value → Shared → Prop} {s : Shared} {p : Program} {loose : List Str} {mg mb : Str → Option Value} {Q : Value → Shared → Prop} {Dn Dp : Addr}
    (G : Gd w p loose mg mb s.heap) (hd : A.depth < recursionLimit) (hh : A.handled = none) (hu : A.units + 100 < cLine) (vs : List Value) (ns : List Int) (pc : List (Str × Tok))
    (hn : s.heap.IsList Dn vs.toArray) (hi : IntsAre vs ns) (hne : ns ≠ []) (hlen : ns.length ≤ 12)
    (hpl : s.heap.IsList Dp (strValues pc).toArray) (hpc : pc.map (·.1) = piecesL.map S)
    (h : ∀ h' tk D (ts : List Addr) (rows : List (Nat × Ln)), Grown s.heap h' → s.heap.get? D = none → h'.IsList D (ts.map Value.ref).toArray → ts.length = rows.length → rows.length = ns.length →
      (∀ (i : Nat) (T : Addr) (r : Nat × Ln), ts[i]? = some T → rows[i]? = some r → s.heap.get? T = none ∧ ∃ t u, h'.IsTuple T #[.int r.1 t, .str (S r.2) u]) → (∀ r ∈ rows, GoodR r) → rows.headD (0, []) ≠ (0, []) → Q (.ref D) { s with heap := h', toks := tk }) :
    wpAny (model prog w) A (call (.ref 46) [.ref Dn, .ref Dp]) Q E s := by
  refine wpAny_call (call_cells_ret (binds := [("numbers", .ref Dn), ("pieces", .ref Dp)]) hd (G.X 46 _ rfl) rfl G.T.nolimit (codeRec_of G.X rfl) rfl (kindsX rfl _) (fun h₁ tk₁ F X => ?_))
  obtain ⟨oc, hoc, hocd⟩ : h₁.IsCell (s.heap.objs.size + 1) (some (.ref Dp)) := X.cell "pieces" _ rfl
  clear X
  have N : News s.heap s.heap.objs.size h₁ [(s.heap.objs.size + 1, oc)] := fun p hp => by
    rw [List.mem_singleton.mp hp]
    exact ⟨hoc, Nat.succ_ne_self _, Heap.get?_none_of_le (Nat.le_succ _)⟩
  refine wpAny_execs_cons (LCg.Assign_ListComp_U (F₀ := F) rfl rfl rfl (by decide) rfl (by decide) rfl rfl rfl ?_)
  refine ldLocal F rfl (LCg.CompSrc.base (by exact hh) F N hn (by simp; exact Nat.le_trans (by rw [hi.length]; exact hlen) (by decide)) fun g => ?_)
  refine rows_turns rfl hn hi hpl hpc hocd rfl (fun _ => rfl) (fun _ => rfl) (fun _ => rfl) ?_ _ 0 [] [] _ rfl rfl (.head _) rfl (fun i T r h => by simp at h) (fun r h => nomatch h)
  intro ts rs news hc hl hrl htup hg D h₂ tk₂ F₂ N₂ off
  dsimp only at *
  have hD0 : s.heap.get? D = none := (N₂ _ (.head _)).2.2
  have hDL : D ≠ s.heap.objs.size := (N₂ _ (.head _)).2.1
  have hL₂ : h₂.IsList D (ts.map Value.ref).toArray := ⟨_, (N₂ _ (.head _)).1, rfl, _, rfl⟩
  have hoff : ∀ p ∈ news, p.1 ≠ D := by
    have : ∀ (l : List (Addr × Obj)), LCg.Off1 D l → ∀ p ∈ l, p.1 ≠ D := by
      intro l
      induction l with
      | nil => intro _ p hp; cases hp
      | cons a l ih =>
        intro ho p hp
        rcases List.mem_cons.mp hp with rfl | hp
        · exact ho.1
        · exact ih ho.2 p hp
    exact this _ off
  have hrl' : rs.length = ns.length := by rw [hrl, ← hi.length]; simp
  obtain ⟨r0, rr, rfl⟩ := List.exists_cons_of_ne_nil (l := rs) (by rintro rfl; exact hne (List.length_eq_zero_iff.mp (by simpa using hrl'.symm)))
  obtain ⟨T0, tr, rfl⟩ := List.exists_cons_of_ne_nil (l := ts) (by rintro rfl; simp at hl)
  have hg0 := hg r0 (.head _)
  obtain ⟨t0, u0, hm0⟩ := htup 0 T0 r0 rfl rfl
  refine wpAny_execs_cons (wpAny_If (wpAny_isTrue_Compare1 (Subscript_ (ldLocal F₂ rfl (wpAny_Constant_int (item_list (vs := (T0 :: tr).map Value.ref) hL₂ (by decide) (by decide) rfl (Tuple_ (spliced_more (wpAny_Constant_int (spliced_more (Calls.Constant_str (spliced_none (newTuple_N F₂ N₂ fun h₃ F₃ N₃ => ?_))) rfl)) rfl))))))))
  dsimp only at F₃ N₃ ⊢
  rw [str_empty] at N₃
  refine eq_dataH_same (reads_row (r := r0) ⟨_, (N₃ _ (.tail _ (.tail _ hm0))).1, rfl, _, rfl⟩) (reads_row (r := (0, [])) ⟨_, (N₃ _ (.head _)).1, rfl, _, rfl⟩) (shaped_row fun c hc => (pieces_ascii _ hg0.2 c hc).1) (shaped_row fun c hc => absurd hc List.not_mem_nil) (by show A.units + 3 + 64 < cLine; omega) ?_ (wpAny_truthy_bool ?_)
  · simp [noMix, noMixAll]
  rw [same_row]
  have N₄ : News s.heap s.heap.objs.size h₃ ((D, LCg.lst ((T0 :: tr).map Value.ref)) :: news) := fun p hp => N₃ p (.tail _ hp)
  by_cases hz : r0 = (0, [])
  · rw [decide_eq_true hz, if_pos rfl]
    refine wpAny_execs_cons (wpAny_Assign_Subscript (Tuple_ (spliced_more (wpAny_Constant_int (spliced_more (Calls.Constant_str (spliced_none (newTuple_N F₃ N₄ fun h₅ F₅ N₅ => ?_))) rfl)) rfl)) ?sw)
    case sw => with_unfolding_all rfl
    dsimp only at F₅ N₅ ⊢
    rw [str_empty] at N₅
    have hL₅ : h₅.IsList D ((T0 :: tr).map Value.ref).toArray := ⟨_, (N₅ _ (.tail _ (.head _))).1, rfl, _, rfl⟩
    have hTD : h₃.objs.size ≠ D := Ne.symm (Nat.ne_of_lt (Heap.lt_size (N₄ _ (.head _)).1))
    refine ldLocal F₅ rfl (wpAny_Constant_int (wpAny_setItem_list hL₅ (by decide) (by decide) (by simp) fun h₆ hL₆ sb₆ => ?_))
    dsimp only at sb₆ ⊢
    have F₆ := frBut F₅ sb₆ hDL hD0
    refine wpAny_execs_nil (wpAny_execs_cons (wpAny_Return_some (ldLocal F₆ rfl ?_)))
    refine h h₆ _ D (h₃.objs.size :: tr) ((1, []) :: rr) F₆.keep hD0 (by simpa using hL₆) (by simpa using hl) (by simpa using hrl') ?_ ?_ (by simp)
    · intro i T r h1 h2
      cases i with
      | zero =>
        cases h1; cases h2
        exact ⟨(N₅ _ (.head _)).2.2, _, _, _, sb₆.extBut _ _ hTD (N₅ _ (.head _)).1, rfl, _, rfl⟩
      | succ i =>
        obtain ⟨t, u, hm⟩ := htup (i + 1) T r h1 h2
        have z := N₅ _ (.tail _ (.tail _ hm))
        exact ⟨z.2.2, t, u, _, sb₆.extBut _ _ (hoff _ hm) z.1, rfl, _, rfl⟩
    · intro r hr
      rcases List.mem_cons.mp hr with rfl | hr
      · exact ⟨by decide, by decide +kernel⟩
      · exact hg r (.tail _ hr)
  · rw [decide_eq_false hz, if_neg (by decide)]
    refine wpAny_execs_nil (wpAny_execs_cons (wpAny_Return_some (ldLocal F₃ rfl ?_)))
    refine h h₃ _ D (T0 :: tr) (r0 :: rr) F₃.keep hD0 ⟨_, (N₄ _ (.head _)).1, rfl, _, rfl⟩ hl hrl' (fun i T r h1 h2 => ?_) hg (by simpa using hz)
    obtain ⟨t, u, hm⟩ := htup i T r h1 h2
    have z := N₄ _ (.tail _ hm)
    exact ⟨z.2.2, t, u, _, z.1, rfl, _, rfl⟩
end Mine
end
section
open PySem PySem.W PyProof.Rows PySem.Calls PySem.SeqAt PySem.Spec
set_option maxRecDepth 100000
namespace Mine
section
variable {prog : Program} {w : World} {A : Around} {E : Value → Shared → Prop} {s : Shared} {env : Env}
theorem take_g {value hi : PySem.Expr} {p pos : Pos} {Q : Value → Shared → Prop}
    (h : wpAny (model prog w) A (eval value env) (fun xv s₁ => wpAny (model prog w) A (eval hi env) (fun iv s₂ => ∃ (l : Addr) (vs : List Value) (a : Nat) (u : Tok), xv = .ref l ∧ iv = .int a u ∧ s₂.heap.IsList l vs.toArray ∧ vs.length ≤ sizeLine ∧
      ∀ h' D, Grown s₂.heap h' → s₂.heap.get? D = none → h'.PlainList D (vs.take a).toArray → Q (.ref D) { s₂ with heap := h' }) E s₁) E s)
    (hs : ∀ l a, subscripted (.Slice none (some hi) none p) false (.ref l) (.ref a) = operate [.ref a, .ref l] (getItem (.ref l) (.ref a)) := by intro _ _; with_unfolding_all rfl) :
    wpAny (model prog w) A (eval (.Subscript value (.Slice none (some hi) none p) pos) env) Q E s := by
  refine Subscript_ (wpAny_mono h (fun xv s₁ h₁ => ?_) fun _ _ e => e)
  refine wpAny_Slice (wpAny_pure ?_)
  refine wpAny_mono (show wpAny _ _ (evalPart (some hi) env) _ _ _ from h₁) (fun iv s₂ h₂ => ?_) fun _ _ e => e
  obtain ⟨l, vs, a, u, rfl, rfl, hl, hsz, hq⟩ := h₂
  refine wpAny_pure ?_
  refine tail_any (Heap.IsList.typeIs (s := { s₂ with heap := s₂.heap.push { cls := .type "slice", data := .fields #[.none, .int a u, .none] } }) (hl.push _)) list_getitem_lookup
    (wpAny_getItem_list_slice (hl.push _) (Heap.IsSliceOf.new ..) .none (.int _ _) .none (by simp) ?_ (by simpa using hsz)) (hs _ _)
  rw [slicePick_upto']
  refine hq _ _ (fun b o e => Heap.get?_push_of_some _ (Heap.get?_push_of_some _ e)) (Heap.get?_none_of_le (by rw [Heap.size_push]; exact Nat.le_succ _)) ⟨_, Heap.get?_push_size _ rfl⟩
theorem foldl_blank (n : Nat) (acc : Array Nat) : (List.replicate n (#[32] : Array Nat)).foldl (· ++ ·) acc = acc ++ (List.replicate n 32).toArray := by
  induction n generalizing acc with
  | zero => simp
  | succ n ih =>
    rw [List.replicate_succ, List.foldl_cons, ih, List.replicate_succ]
    apply Array.ext'
    simp only [Array.toList_append, List.append_assoc]
    rfl
theorem blanks_g {n : Nat} {t u : Tok} {Q : Value → Shared → Prop} (hn : n ≤ 1000) (h : ∀ t' tk, Q (.str (S (List.replicate n 32)) t') { s with toks := tk }) :
    wpAny (model prog w) A (binaryOp .Mult (.str (S [32]) t) (.int n u)) Q E s := by
  refine P.mul_str (by simp; omega) ?_ ?_ ?_
  · intro h1 _
    refine Int.not_lt.mpr (Int.le_ediv_of_mul_le (by omega) ?_)
    rw [S_len, List.length_singleton]; omega
  · intro _ _
    rw [S_len, List.length_singleton]
    exact decide_eq_false (Nat.not_lt.mpr (Nat.le_trans (by omega : 1 * ((n : Int)).toNat ≤ 1000) (by decide)))
  · split
    · rename_i h1
      obtain rfl : n = 0 := by omega
      exact ⟨by decide, h _ _⟩
    · split
      · rename_i h1 h2
        simp only [S_len, List.length_singleton, Bool.or_eq_true, beq_iff_eq] at h2
        obtain rfl : n = 1 := by omega
        exact h _ _
      · have e : (⟨(List.replicate ((n : Int)).toNat (S [32]).cps).foldl (· ++ ·) #[]⟩ : Str) = S (List.replicate n 32) := by
          show (⟨(List.replicate ((n : Int)).toNat (#[32] : Array Nat)).foldl (· ++ ·) #[]⟩ : Str) = S (List.replicate n 32)
          rw [Int.toNat_natCast, foldl_blank]; simp [S]
        rw [e]
        exact ⟨by rw [S_len, List.length_replicate]; exact Nat.le_trans hn (by decide), h _ _⟩
end
/-- the lines of the text, as the comprehension makes them -/
theorem text_turns {prog : Program} {w : World} {A : Around} {h₀ : Heap} {L c : Addr} {m : Str → Option Value} {env : Env} {scope : Scope} {cl : List (Str × Addr)} {s : Shared} {oc : Obj} {ax : Addr} {ts : List Addr} {rows : List (Nat × Ln)} {news : List (Addr × Obj)} {ahead : Nat} {ta : Tok}
    {Fin : List Value → List (Addr × Obj) → Prop} {elt : Expr} {p1 p2 p3 p4 p5 p6 p7 : Pos}
    (he : elt = .BinOp (.BinOp (.Constant (.str (Str.ofString " ")) 0 p1) .Mult (.BinOp (.Name "ahead" p2) .Add (.Name "margin" p3) p4) p5) .Add (.Name "piece" p6) p7)
    (hS : LCg.SrcAt h₀ ax (ts.map Value.ref).toArray news) (hl : ts.length = rows.length) (hG : ∀ r ∈ rows, GoodR r) (ha : ahead ≤ 8)
    (htup : ∀ (i : Nat) (T : Addr) (r : Nat × Ln), ts[i]? = some T → rows[i]? = some r → ∃ o t u n, (T, o) ∈ news ∧ o.cls = .type "tuple" ∧ o.data = .seq #[.int r.1 t, .str (S r.2) u] n)
    (hc : (c, oc) ∈ news) (hoc : oc.data = .cell (some (.int ahead ta))) (hcl : cl.lookup ("ahead" : Str) = some c)
    (hk : ∀ C, (compEnvC scope cl C env).scope.kind = .function) (hx : ∀ C, (compEnvC scope cl C env).kindOf "margin" = some .local) (hy : ∀ C, (compEnvC scope cl C env).kindOf "piece" = some .local) (hpf : ∀ C, (compEnvC scope cl C env).kindOf "ahead" = some .cell)
    (fin : ∀ cur : List (Str × Tok), cur.map (·.1) = (rows.map fun r => List.replicate (ahead + r.1) 32 ++ r.2).map S → Fin (strValues cur) news) :
    ∀ (k i : Nat) (cur : List (Str × Tok)), k + i = rows.length → cur.map (·.1) = ((rows.take i).map fun r => List.replicate (ahead + r.1) 32 ++ r.2).map S →
      LCp.CompRestP prog w A h₀ L m env elt "margin" "piece" scope cl s (LCg.SrcAt h₀ ax (ts.map Value.ref).toArray) (fun i v => (ts.map Value.ref).toArray[i]? = some v) Fin k i (strValues cur) news
  | 0, i, cur, hki, hcur => LCp.CompRestP.zero (fin cur (by rw [hcur, List.take_of_length_le (by omega)]))
  | k + 1, i, cur, hki, hcur => by
    refine LCp.CompRestP.succ ?_
    intro v hv
    have hir : i < rows.length := by omega
    have hit : i < ts.length := by omega
    obtain ⟨o, t, u, n, hm, hoc1, hod⟩ := htup i _ _ (List.getElem?_eq_getElem hit) (List.getElem?_eq_getElem hir)
    have hg := hG _ (List.getElem_mem hir)
    have hvv : v = .ref (ts[i]'hit) := by
      simp only [List.getElem?_toArray, List.getElem?_map, List.getElem?_eq_getElem hit, Option.map_some, Option.some.injEq] at hv
      exact hv.symm
    have hrt : rows.take (i + 1) = rows.take i ++ [rows[i]'hir] := by rw [List.take_add_one, List.getElem?_eq_getElem hir]; rfl
    generalize rows[i]'hir = r at *
    refine ⟨_, o, _, _, n, hvv, hm, hoc1, hod, ?_⟩
    intro I oI C oC D m₂ h tk E' hoC hmx hmy F N off ne
    have hC : (C, oC) ∈ (I, oI) :: (C, oC) :: (D, LCg.lst (strValues cur)) :: news := .tail _ (.head _)
    have hcm : (c, oc) ∈ (I, oI) :: (C, oC) :: (D, LCg.lst (strValues cur)) :: news := .tail _ (.tail _ (.tail _ hc))
    rw [he]
    refine wpAny_BinOp (wpAny_BinOp (Calls.Constant_str ?_))
    rw [str_blank]
    refine wpAny_BinOp (lcf_cell N hcl hcm hoc ?_ (hk C) (hpf C))
    refine LCgL.ld_own N hC hoC hmx (add_int ?_) (hk C) (hx C)
    rw [show ((ahead : Int) + (r.1 : Int)) = ((ahead + r.1 : Nat) : Int) by omega]
    refine blanks_g (by have := hg.1; omega) fun t' tk' => ?_
    refine LCgL.ld_own (by exact N) hC hoC hmy ?_ (hk C) (hy C)
    refine PyProof.Rows.add_str (fun t'' tk'' => ?_) ?hsz
    case hsz =>
      have := hg.1; have := pieces_len _ hg.2
      rw [S_len, S_len, List.length_replicate]
      exact Nat.le_trans (by omega : _ ≤ 100) (by decide)
    rw [S_app]
    refine LCg.CompEnd.intro F N news (fun p hp => hp) off hS ?_
    have ih := text_turns (prog := prog) (w := w) (A := A) (L := L) (m := m) (s := s) he hS hl hG ha htup hc hoc hcl hk hx hy hpf fin k (i + 1) (cur ++ [(S (List.replicate (ahead + r.1) 32 ++ r.2), t'')]) (by omega) (by rw [hrt]; simp [hcur])
    rw [he] at ih
    have e : strValues (cur ++ [(S (List.replicate (ahead + r.1) 32 ++ r.2), t'')]) = strValues cur ++ [.str (S (List.replicate (ahead + r.1) 32 ++ r.2)) t''] := by simp [strValues]
    rw [e] at ih
    exact ih
section
variable {prog : Program} {w : World} {A : Around} {E : Value → Shared → Prop} {s : Shared} {env : Env}
theorem mul_grow {l : Addr} {v : Value} {x : Int} {u : Tok} {Q : Value → Shared → Prop} (hl : s.heap.PlainList l ([v] : List Value).toArray)
    (h0 : 0 ≤ x) (hx : x ≤ 1000) (h : ∀ h', Grown s.heap h' → h'.PlainList s.heap.objs.size (List.replicate x.toNat v).toArray → h'.objs.size = s.heap.objs.size + 1 → Q (.ref s.heap.objs.size) { s with heap := h' }) :
    wpAny (model prog w) A (binaryOp .Mult (.ref l) (.int x u)) Q E s := by
  obtain ⟨k, hl⟩ := hl
  have hsz : ([v].toArray).size * x.toNat ≤ 2 ^ 24 := by simp; omega
  refine wpAny_binaryOp_repeat_ref (T := "list") (U := "int") (by decide) ⟨_, hl, rfl⟩ (fun s' => typeIs_int s' x u) noFill_list_mul F.fills_int_mul F.slot_int_rmul repeat_list F.slot_int_index.lookup
    (call_meets F.slot_int_rmul (typeIs_int s x u) F.entry_int_rmul (F.args_int_rmul_2 _ _) (int___rmul___int_list x u l [v].toArray k)
      ⟨hl, rfl, ⟨_, hl, rfl⟩, call_meets F.slot_list_mul ⟨_, hl, rfl⟩ F.entry_list_mul (F.args_list_mul_2 _ _)
        (AutoListH.list___mul___list_int_3 l [v].toArray k x u (by simp [Builtin.List.listFitsIndex]; omega) (by omega) (by simp [Builtin.List.listTooLong, sizeLine]; omega))
        ⟨hl, ?_⟩⟩)
  have e : List.foldl (fun x1 x2 => x1 ++ x2) #[] (List.replicate (if ([v].toArray).isEmpty = true then 0 else x.toNat) [v].toArray) = (List.replicate x.toNat v).toArray := by
    rw [listMul_foldl]; simp
  rw [e]
  exact h _ (fun _ _ e => Heap.get?_push_of_some _ e) ⟨_, Heap.get?_push_size _ rfl⟩ (Heap.size_push ..)
end
end Mine
end
section
open PySem PySem.W PyProof.Rows PySem.Calls PySem.SeqAt PySem.Spec
set_option maxRecDepth 100000
namespace Mine
theorem str_tab : Str.ofString "\t=" = S [9, 61] := by decide +kernel
theorem str_cr : Str.ofString "\r=" = S [13, 61] := by decide +kernel
abbrev lineOf (a : Nat) (r : Nat × Ln) : Ln := List.replicate (a + r.1) 32 ++ r.2
theorem line_len {a : Nat} {r : Nat × Ln} (ha : a ≤ 8) (hg : GoodR r) : (lineOf a r).length ≤ 15 := by
  have := hg.1; have := pieces_len _ hg.2
  simp only [lineOf, List.length_append, List.length_replicate]; omega
theorem wt_lines {a : Nat} (ha : a ≤ 8) : ∀ rows : List (Nat × Ln), (∀ r ∈ rows, GoodR r) → wt (rows.map (lineOf a)) ≤ 20 * rows.length
  | [], _ => by simp [wt_nil]
  | r :: rows, h => by
    have := wt_lines ha rows fun q hq => h q (.tail _ hq)
    have := line_len ha (h r (.head _))
    rw [List.map_cons, wt_cons, List.length_cons]; omega
theorem line_chars {a : Nat} {r : Nat × Ln} (hg : GoodR r) : ∀ c ∈ lineOf a r, c < 128 ∧ c ≠ 10 := by
  intro c hc
  rcases List.mem_append.mp hc with hc | hc
  · rw [(List.mem_replicate.mp hc).2]; decide
  · exact pieces_ascii _ hg.2 c hc
theorem line_head {a : Nat} {rows : List (Nat × Ln)} (hne : rows ≠ []) (h0 : rows.headD (0, []) ≠ (0, [])) : (rows.map (lineOf a)).headD [] ≠ [] := by
  obtain ⟨r, rr, rfl⟩ := List.exists_cons_of_ne_nil hne
  simp only [List.map_cons, List.headD_cons] at h0 ⊢
  intro q
  have q1 := List.append_eq_nil_iff.mp q
  have q2 : a + r.1 = 0 := by simpa using congrArg List.length q1.1
  exact h0 (Prod.ext (by show r.1 = 0; omega) q1.2)
theorem max7 (n : Nat) (t u : Tok) : ∃ v, (if (n : Int) > 7 then Value.int (n : Int) u else Value.int 7 t) = .int ((max 7 n : Nat) : Int) v := by
  split
  · exact ⟨u, by rw [show max 7 n = n by omega]⟩
  · exact ⟨t, by rw [show max 7 n = 7 by omega]; rfl⟩
set_option maxHeartbeats 8000000 in
theorem law_body {prog : Program} {w : World} {A : Around} {E : Value → Shared → Prop} {s : Shared} {p : Program} {loose : List Str} {mg mb : Str → Option Value} {Q : Flow → Shared → Prop} {h₀ h₁ : Heap} {m : Str → Option Value} {Dn fa : Addr} {vs : List Value} {ns : List Int} {cdv oc : Value} {od : Option Addr} {osl : Array (Option Value)} {f : FuncData} {b : List Stmt} {name : Str} {tk₁ : Nat}
    (hf : (KK w).lookup 51 = some ⟨oc, od, .func f, osl⟩) (hb : f.body = .stmts b) (hname : name = "law")
    (G : Gd w p loose mg mb h₀) (hd : A.depth + 50 < recursionLimit) (hh : A.handled = none) (hu : A.units + 400 < cLine)
    (F : Fr h₀ h₀.objs.size h₁ m) (hm : m "script" = some (.ref Dn)) (hn : h₀.IsList Dn vs.toArray) (hi : IntsAre vs ns) (hlen : ns.length ≤ 63)
    (hc : h₁.IsCell (h₀.objs.size + 1) none)
    (h : ∀ h' tk m', Fr h₀ h₀.objs.size h' m' → Q (.ret (.bool true)) { s with heap := h', toks := tk }) :
    wpAny (model prog w) A (execs b (envOfC name f.scope h₀.objs.size fa cdv)) Q E { s with heap := h₁, toks := tk₁ } := by
  have e : f = _ := Data.func.inj (congrArg Obj.data (Option.some.inj (hf.symm.trans rfl)))
  subst e
  have e2 : _ = b := FuncBody.stmts.inj hb
  subst e2 hname
  have hvl : vs.length = ns.length := hi.length
  have hL0 : h₀.get? h₀.objs.size = none := Heap.get?_none_of_le (Nat.le_refl _)
  clear hf hb
  obtain ⟨oc1, hoc1, hocd⟩ := hc
  have N : News h₀ h₀.objs.size h₁ [(h₀.objs.size + 1, oc1)] := fun p hp => by
    rw [List.mem_singleton.mp hp]
    exact ⟨hoc1, Nat.succ_ne_self _, Heap.get?_none_of_le (Nat.le_succ _)⟩
  -- signs
  refine wpAny_execs_cons (wpAny_Assign_Name (MethodCall_ (Calls.Constant_str (GM.split (callWith_method0 (splitN0 F N (fun sg h₂ k₂ hsg F₂ N₂ => ?_) (by decide +kernel)))))))
  replace hsg : sg.map (·.1) = signsL.map S := hsg.trans (by decide +kernel)
  refine stL F₂ fun h₃ F₃ sb₃ => ?_
  replace sb₃ : Heap.SameBut h₀.objs.size h₂ h₃ := sb₃
  replace F₃ : Fr h₀ h₀.objs.size h₃ _ := F₃
  dsimp only at N₂ ⊢
  have hDsL := (N₂ _ (.head _)).2.1
  have hDs0 := (N₂ _ (.head _)).2.2
  have hDs₃ : h₃.PlainList h₁.objs.size (strValues sg).toArray := ⟨_, sb₃.extBut _ _ hDsL (N₂ _ (.head _)).1⟩
  have hc₃ : h₃.IsCell (h₀.objs.size + 1) none := ⟨oc1, sb₃.extBut _ _ (Nat.succ_ne_self _) (N₂ _ (.tail _ (.head _))).1, hocd⟩
  dsimp only at hDsL hDs0
  clear N₂ N hoc1 hocd
  generalize h₁.objs.size = Ds at *
  -- numbers
  refine wpAny_execs_cons (wpAny_Assign_Name (wpAny_mono (Q := fun v s' => ∃ D us ms h tk, v = .ref D ∧ s' = { s with heap := h, toks := tk } ∧ Grown h₃ h ∧ h₃.get? D = none ∧ h.PlainList D us.toArray ∧ IntsAre us ms ∧ 7 ≤ ms.length ∧ ms.length ≤ 12) ?numbers ?c1 (fun _ _ e => e)))
  case numbers =>
    have hn₃ : h₃.IsList Dn vs.toArray := hn.at fun o e => F₃.keep _ _ e
    refine take_g (wpAny_BinOp (take_g (ldLocal F₃ hm (wpAny_Constant_int ⟨Dn, vs, 12, _, rfl, rfl, hn₃, size_ok (by omega), fun h₄ D₄ g₄ d₄ hp₄ => ?_⟩))))
    refine List_ (spliced_more (wpAny_Constant_int (spliced_more (wpAny_Constant_int (spliced_more (wpAny_Constant_int (spliced_more (wpAny_Constant_int (spliced_more (wpAny_Constant_int (spliced_more (wpAny_Constant_int (spliced_more (wpAny_Constant_int (spliced_none ?_)) rfl)) rfl)) rfl)) rfl)) rfl)) rfl)) rfl)
    refine newList_g fun h₅ g₅ hp₅ hsz₅ => ?_
    dsimp only at g₅ hp₅ hsz₅
    refine add_g (plain_grow hp₄ g₅).isList hp₅.isList (fun h₆ g₆ hp₆ hsz₆ => ?_) (size_ok (by simp; omega))
    dsimp only at g₆ hp₆ hsz₆
    have g₃₆ : Grown h₃ h₆ := fun b o e => g₆ b o (g₅ b o (g₄ b o e))
    have F₆ := frGrow F₃ g₃₆
    have G₆ := G.keeps F₆.keep
    have hn₆ : h₆.IsList Dn vs.toArray := hn.at fun o e => F₆.keep _ _ e
    refine Call_ (ldBuilt G₆ rfl boot_max (callWith_builtin1 (spliced_more (wpAny_Constant_int (spliced_more ?_ rfl)) rfl) rfl rfl)) rfl
    refine Call_ (ldBuilt G₆ rfl boot_len (callWith_builtin1 (spliced_more ?_ rfl) rfl rfl)) rfl
    refine take_g (ldLocal F₆ hm (wpAny_Constant_int ⟨Dn, vs, 12, _, rfl, rfl, hn₆, size_ok (by omega), fun h₇ D₇ g₇ d₇ hp₇ => ?_⟩))
    dsimp only at g₇ d₇
    refine spliced_none (len_list hp₇.isList (by simp; omega) (spliced_none (max_two_ints (by exact hh) fun h₈ tk₈ g₈ => ?_)))
    dsimp only at g₈ ⊢
    have g₆₈ : Grown h₆ h₈ := fun b o e => g₈ b o (g₇ b o e)
    refine (max7 _ _ _).elim fun v hv => ⟨h₅.objs.size, _, _, v, rfl, hv, (plain_grow hp₆ g₆₈).isList, size_ok (by simp; omega), fun h' D g' d' hp' => ?_⟩
    replace g' : Grown h₈ h' := g'
    replace d' : h₈.get? D = none := d'
    refine ⟨D, _, _, h', _, rfl, rfl, fun b o e => g' b o (g₆₈ b o (g₃₆ b o e)), ?_, hp', (ints_app (hi.take 12) (.cons 146 _ (.cons 103 _ (.cons 227 _ (.cons 249 _ (.cons 214 _ (.cons 237 _ (.cons 141 _ .nil)))))))).take _, ?_, ?_⟩
    · cases q : h₃.get? D with
      | none => rfl
      | some o => rw [g₆₈ _ _ (g₃₆ _ _ q)] at d'; cases d'
    · simp; omega
    · simp; omega
  case c1 =>
    rintro v s' ⟨Dm, us, ms, h₄, tk₄, rfl, rfl, g₄, d₄, hp₄, hi₄, hm7, hm12⟩
    have hL₃ : h₀.objs.size < h₃.objs.size := F₃.ns.lt
    have hDm : Dm ≠ h₀.objs.size := fun q => by
      obtain ⟨o, _, _, hO, _⟩ := F₃.ns
      rw [q, hO] at d₄; cases d₄
    have hDm0 : h₀.get? Dm = none := by
      cases q : h₀.get? Dm with
      | none => rfl
      | some o => rw [F₃.keep _ _ q] at d₄; cases d₄
    have hDsm : Ds ≠ Dm := fun q => by obtain ⟨n, hO⟩ := hDs₃; rw [← q, hO] at d₄; cases d₄
    refine stL (frGrow F₃ g₄) fun h₅ F₅ sb₅ => ?_
    replace sb₅ : Heap.SameBut h₀.objs.size h₄ h₅ := sb₅
    replace F₅ : Fr h₀ h₀.objs.size h₅ _ := F₅
    dsimp only
    have hDs₅ := plainBut (plain_grow hDs₃ g₄) sb₅ hDsL
    have hDm₅ := plainBut hp₄ sb₅ hDm
    have hc₅ := cellBut (cell_grow hc₃ g₄) sb₅ (Nat.succ_ne_self _)
    clear g₄ d₄ hp₄ sb₅ hDs₃ hc₃ sb₃
    have hsl : (strValues sg).length = 48 := by
      have := congrArg List.length hsg
      simp only [List.length_map] at this
      simp only [strValues, List.length_map, this]; rfl
    -- rows
    obtain ⟨o46, fd46, hl46, hd46⟩ : ∃ o fd, (KK w).lookup 46 = some o ∧ o.data = .func fd := ⟨_, _, rfl, rfl⟩
    refine wpAny_execs_cons (wpAny_Assign_Name (Call_ (ldGlob (G.keeps F₅.keep) rfl (callWith_def hd46 (spliced_more (ldLocal F₅ rfl (spliced_more (wpAny_mono (Q := fun v s' => ∃ D pc h tk, v = .ref D ∧ s' = { s with heap := h, toks := tk } ∧ Grown h₅ h ∧ h.PlainList D (strValues pc).toArray ∧ pc.map (·.1) = piecesL.map S) ?pieces ?c2 (fun _ _ e => e)) rfl)) rfl))) rfl))
    case pieces =>
      refine wpAny_BinOp (wpAny_BinOp (wpAny_BinOp (ldLocal F₅ rfl (List_ (spliced_more (Calls.Constant_str (spliced_none (newList_g fun h₆ g₆ hp₆ hz₆ => ?_))) rfl)))))
      dsimp only at g₆ hp₆ hz₆
      refine add_g (vs := strValues sg) (plain_grow hDs₅ g₆).isList hp₆.isList (fun h₇ g₇ hp₇ hz₇ => ?_) (size_ok (by rw [hsl]; simp))
      dsimp only at g₇ hp₇ hz₇
      refine wpAny_BinOp (List_ (spliced_more (Calls.Constant_str (spliced_none (newList_g fun h₈ g₈ hp₈ hz₈ => ?_))) rfl))
      dsimp only at g₈ hp₈ hz₈
      refine wpAny_Constant_int (mul_grow hp₈ (by decide) (by decide) fun h₉ g₉ hp₉ hz₉ => ?_)
      dsimp only at g₉ hz₉
      replace hp₉ : h₉.PlainList h₈.objs.size (List.replicate 10 _).toArray := hp₉
      refine add_g (plain_grow hp₇ (fun b o e => g₉ b o (g₈ b o e))).isList hp₉.isList (fun h₁₀ g₁₀ hp₁₀ hz₁₀ => ?_) (size_ok (by simp [hsl]))
      dsimp only at g₁₀ hp₁₀ hz₁₀
      refine List_ (spliced_more (Calls.Constant_str (spliced_none (newList_g fun h₁₁ g₁₁ hp₁₁ hz₁₁ => ?_))) rfl)
      dsimp only at g₁₁ hp₁₁ hz₁₁
      refine add_g (plain_grow hp₁₀ g₁₁).isList hp₁₁.isList (fun h₁₂ g₁₂ hp₁₂ hz₁₂ => ?_) (size_ok (by simp [hsl]))
      dsimp only at g₁₂ hp₁₂ hz₁₂
      have es : ∀ t1 t2 t3 : Tok, strValues (sg ++ [(Str.ofString "\t=", t1)] ++ List.replicate 10 (Str.ofString "", t2) ++ [(Str.ofString "\r=", t3)]) = strValues sg ++ [.str (Str.ofString "\t=") t1] ++ List.replicate 10 (.str (Str.ofString "") t2) ++ [.str (Str.ofString "\r=") t3] := by
        intro t1 t2 t3; simp [strValues]
      rw [← es] at hp₁₂
      refine ⟨_, _, h₁₂, _, rfl, rfl, fun b o e => g₁₂ b o (g₁₁ b o (g₁₀ b o (g₉ b o (g₈ b o (g₇ b o (g₆ b o e)))))), hp₁₂, ?_⟩
      simp only [List.map_append, hsg, List.map_cons, List.map_nil, List.map_replicate, str_tab, str_cr, str_empty, piecesL]
    case c2 =>
      rintro v s' ⟨Dp, pc, h₆, tk₆, rfl, rfl, g₆, hp₆, hpc⟩
      have F₆ := frGrow F₅ g₆
      have G₆ := G.keeps F₆.keep
      refine spliced_none ⟨G₆.X 46 _ hl46, ?_⟩
      refine rows_call (by exact G₆) (by show A.depth < _; omega) (by exact hh) (by show A.units + 100 < cLine; omega) us ms pc (plain_grow hDm₅ g₆).isList hi₄ (fun q => by rw [q] at hm7; simp at hm7) hm12 hp₆.isList hpc ?_
      intro h₇ tk₇ Dr ts rows g₇ d₇ hr₇ htl hrl htup hG h0r
      replace g₇ : Grown h₆ h₇ := g₇
      replace d₇ : h₆.get? Dr = none := d₇
      replace htup : ∀ (i : Nat) (T : Addr) (r : Nat × Ln), ts[i]? = some T → rows[i]? = some r → h₆.get? T = none ∧ ∃ t u, h₇.IsTuple T #[.int r.1 t, .str (S r.2) u] := htup
      dsimp only
      have F₇ := frGrow F₆ g₇
      have new : ∀ T : Addr, h₆.get? T = none → T ≠ h₀.objs.size ∧ h₀.get? T = none ∧ T ≠ h₀.objs.size + 1 := by
        intro T hT
        refine ⟨fun q => ?_, ?_, fun q => ?_⟩
        · obtain ⟨o, _, _, hO, _⟩ := F₆.ns
          rw [q, hO] at hT; cases hT
        · cases q : h₀.get? T with
          | none => rfl
          | some o => rw [F₆.keep _ _ q] at hT; cases hT
        · obtain ⟨o, hO, _⟩ := cell_grow hc₅ g₆
          rw [q, hO] at hT; cases hT
      refine stL F₇ fun h₈ F₈ sb₈ => ?_
      replace sb₈ : Heap.SameBut h₀.objs.size h₇ h₈ := sb₈
      replace F₈ : Fr h₀ h₀.objs.size h₈ _ := F₈
      dsimp only
      have up₈ : ∀ b o, b ≠ h₀.objs.size → h₅.get? b = some o → h₈.get? b = some o := fun b o hb e => sb₈.extBut b o hb (g₇ b o (g₆ b o e))
      have hDs₈ : h₈.PlainList Ds (strValues sg).toArray := plainBut (plain_grow (plain_grow hDs₅ g₆) g₇) sb₈ hDsL
      have hDm₈ := plainBut (plain_grow (plain_grow hDm₅ g₆) g₇) sb₈ hDm
      have hc₈ := cellBut (cell_grow (cell_grow hc₅ g₆) g₇) sb₈ (Nat.succ_ne_self _)
      have hr₈ : h₈.IsList Dr (ts.map Value.ref).toArray := hr₇.at fun o e => sb₈.extBut _ o (new _ d₇).1 e
      have htup₈ : ∀ (i : Nat) (T : Addr) (r : Nat × Ln), ts[i]? = some T → rows[i]? = some r → (T ≠ h₀.objs.size ∧ h₀.get? T = none ∧ T ≠ h₀.objs.size + 1) ∧ ∃ t u, h₈.IsTuple T #[.int r.1 t, .str (S r.2) u] := by
        intro i T r h1 h2
        obtain ⟨q, t, u, ht⟩ := htup i T r h1 h2
        exact ⟨new T q, t, u, ht.at fun o e => sb₈.extBut _ o (new T q).1 e⟩
      have hDrn := new Dr d₇
      clear htup new up₈ sb₈ hr₇ d₇ g₇ g₆ hp₆ F₇ F₆ G₆ hpc hDs₅ hDm₅ hc₅ F₅
      -- ahead
      obtain ⟨x0, xr, rfl⟩ := List.exists_cons_of_ne_nil (l := ms) (by rintro rfl; simp at hm7)
      obtain ⟨tx, hx0⟩ := hi₄.get 0 x0 rfl
      obtain ⟨a, ha, ha9⟩ := fmod_nat (x0.fdiv 300) 9 (by decide)
      replace ha : (x0.fdiv 300).fmod 9 = (a : Int) := ha
      refine wpAny_execs_cons (wpAny_Assign_Name (wpAny_BinOp (wpAny_BinOp (Subscript_ (ldLocal F₈ rfl (wpAny_Constant_int (item_list (vs := us) hDm₈.isList (by decide) (by decide) hx0 ?_)))))))
      refine wpAny_Constant_int (floordiv_int (by decide) (wpAny_Constant_int (mod_int' (by decide) ?_)) (Or.inl (PyProof.noPylong_small (by decide))))
      rw [ha]
      refine stCell hc₈ fun h₉ hc₉ sb₉ => ?_
      dsimp only at sb₉ ⊢
      have F₉ := frBut F₈ sb₉ (Nat.succ_ne_self _) (Heap.get?_none_of_le (Nat.le_succ _))
      obtain ⟨nds, hDs₉⟩ := plainBut hDs₈ sb₉ (plain_ne_cell hDs₈ hc₈)
      obtain ⟨od, hod, hodc, ndr, hodd⟩ : h₉.IsList Dr (ts.map Value.ref).toArray := hr₈.at fun o e => sb₉.extBut _ o hDrn.2.2 e
      obtain ⟨ocl, hocl, hocd⟩ := hc₉
      have htup₉ : ∀ (i : Nat) (T : Addr) (r : Nat × Ln), ts[i]? = some T → rows[i]? = some r → (T ≠ h₀.objs.size ∧ h₀.get? T = none) ∧ ∃ t u, h₉.IsTuple T #[.int r.1 t, .str (S r.2) u] := by
        intro i T r h1 h2
        obtain ⟨q, t, u, ht⟩ := htup₈ i T r h1 h2
        exact ⟨⟨q.1, q.2.1⟩, t, u, ht.at fun o e => sb₉.extBut _ o q.2.2 e⟩
      obtain ⟨news, hnews⟩ : ∃ news, news = (Dr, od) :: (h₀.objs.size + 1, ocl) :: (Ds, { cls := .type "list", data := .seq (strValues sg).toArray nds }) :: ts.map (fun T => (T, (h₉.get? T).getD od)) := ⟨_, rfl⟩
      have N₉ : News h₀ h₀.objs.size h₉ news := by
        intro p hp
        rw [hnews] at hp
        simp only [List.mem_cons, List.mem_map] at hp
        rcases hp with rfl | rfl | rfl | ⟨T, hT, rfl⟩
        · exact ⟨hod, hDrn.1, hDrn.2.1⟩
        · exact ⟨hocl, Nat.succ_ne_self _, Heap.get?_none_of_le (Nat.le_succ _)⟩
        · exact ⟨hDs₉, hDsL, hDs0⟩
        · obtain ⟨i, hi'⟩ := List.mem_iff_getElem?.mp hT
          have hil : i < ts.length := (List.getElem?_eq_some_iff.mp hi').1
          obtain ⟨q, t, u, o, ho, _⟩ := htup₉ i T _ hi' (List.getElem?_eq_getElem (by omega))
          exact ⟨by show h₉.get? T = some ((h₉.get? T).getD od); rw [ho]; rfl, q.1, q.2⟩
      have hmt : ∀ (i : Nat) (T : Addr) (r : Nat × Ln), ts[i]? = some T → rows[i]? = some r → ∃ o t u n, (T, o) ∈ news ∧ o.cls = .type "tuple" ∧ o.data = .seq #[.int r.1 t, .str (S r.2) u] n := by
        intro i T r h1 h2
        obtain ⟨q, t, u, o, ho, hoc, n, hod⟩ := htup₉ i T r h1 h2
        refine ⟨o, t, u, n, ?_, hoc, hod⟩
        rw [hnews]
        refine .tail _ (.tail _ (.tail _ (List.mem_map.mpr ⟨T, List.mem_iff_getElem?.mpr ⟨i, h1⟩, ?_⟩)))
        rw [ho]; rfl
      have hmr : (Dr, od) ∈ news := by rw [hnews]; exact .head _
      have hmc : (h₀.objs.size + 1, ocl) ∈ news := by rw [hnews]; exact .tail _ (.head _)
      have hms : (Ds, ({ cls := .type "list", data := .seq (strValues sg).toArray nds } : Obj)) ∈ news := by rw [hnews]; exact .tail _ (.tail _ (.head _))
      have hrl12 : rows.length ≤ 12 := by omega
      have hrne : rows ≠ [] := by rintro rfl; simp at hrl
      clear hnews htup₉ htup₈ hr₈ hDs₈ hDm₈ hc₈ sb₉ F₈ hod hocl hDs₉
      -- text
      refine wpAny_execs_cons (wpAny_Assign_Name (MethodCall_ (Calls.Constant_str (GM.join (callWith_method1 (spliced_more (LCp.ListComp_P (F₀ := F₉) rfl (by decide) rfl (by decide) rfl rfl (by decide) (ldLocal F₉ rfl ⟨Dr, _, news, rfl, by exact hh, F₉, N₉, .inr ⟨od, hmr, hodc, ndr, hodd⟩, size_ok (by simp; omega), fun s₂ hs₂ => ?_⟩)) rfl))))))
      obtain ⟨gg, rfl⟩ := hs₂
      refine text_turns (rows := rows) (ahead := a) rfl (.inr ⟨od, hmr, hodc, ndr, hodd⟩) htl hG (by omega) hmt hmc hocd rfl (fun _ => rfl) (fun _ => rfl) (fun _ => rfl) (fun _ => rfl) ?_ _ 0 [] (by simp; omega) rfl
      intro cur hcur Dt h₁₀ tk₁₀ F₁₀ N₁₀ _
      rw [str_nl]
      refine spliced_none (SC.join (l := cur) ⟨_, (N₁₀ _ (.head _)).1, rfl, _, rfl⟩ hcur (join_ok (by simp; omega) fun y hy => ?_) fun t' k' => ?_)
      · obtain ⟨r, hr, rfl⟩ := List.mem_map.mp hy
        exact Nat.le_trans (line_len (by omega) (hG r hr)) (by decide)
      dsimp only
      have N₁₀' : News h₀ h₀.objs.size h₁₀ news := fun p hp => N₁₀ p (.tail _ hp)
      refine stL F₁₀ fun h₁₁ F₁₁ sb₁₁ => ?_
      replace sb₁₁ : Heap.SameBut h₀.objs.size h₁₀ h₁₁ := sb₁₁
      replace F₁₁ : Fr h₀ h₀.objs.size h₁₁ _ := F₁₁
      dsimp only
      have N₁₁ : News h₀ h₀.objs.size h₁₁ news := fun p hp => ⟨sb₁₁.extBut _ _ (N₁₀' p hp).2.1 (N₁₀' p hp).1, (N₁₀' p hp).2⟩
      clear N₁₀ N₁₀' sb₁₁ F₁₀ hcur F₉ N₉
      have G₁₁ := G.keeps F₁₁.keep
      -- the two lists
      obtain ⟨o36, fd36, hl36, hd36⟩ : ∃ o fd, (KK w).lookup 36 = some o ∧ o.data = .func fd := ⟨_, _, rfl, rfl⟩
      obtain ⟨o41, fd41, hl41, hd41⟩ : ∃ o fd, (KK w).lookup 41 = some o ∧ o.data = .func fd := ⟨_, _, rfl, rfl⟩
      refine wpAny_execs_cons (wpAny_Return_some (wpAny_Compare1 (Call_ (ldGlob G₁₁ rfl (callWith_def hd36 (spliced_more (ldLocal F₁₁ rfl (spliced_none ⟨G₁₁.X 36 _ hl36, ?_⟩)) rfl))) rfl)))
      have hP := parts_all (prog := prog) (w := w) (p := p) (loose := loose) (mg := mg) (mb := mb) 12
      have ej : Txt.join (S [10]) ((rows.map fun r => List.replicate (a + r.1) 32 ++ r.2).map S) = joinL (rows.map (lineOf a)) := StrLaws.glued_eq_join _ _
      rw [ej]
      refine hP A _ _ _ _ (rows.map (lineOf a)) G₁₁ (by omega) (by exact hh) (by omega) (by simpa using hrne) (by simpa using hrl12) (by simp; omega) (fun l hl => ?_) (line_head hrne h0r) (Nat.le_trans (wt_lines (by omega) rows hG) (by omega)) ?_
      · obtain ⟨r, hr, rfl⟩ := List.mem_map.mp hl
        exact line_chars (hG r hr)
      intro h₁₂ tk₁₂ D1 vs1 g₁₂ d₁₂ hp₁₂ hi₁₂
      replace g₁₂ : Grown h₁₁ h₁₂ := g₁₂
      dsimp only
      have F₁₂ := frGrow F₁₁ g₁₂
      have N₁₂ := newsGrow N₁₁ g₁₂
      have G₁₂ := G.keeps F₁₂.keep
      refine Call_ (ldGlob G₁₂ rfl (callWith_def hd41 (spliced_more (ldLocal F₁₂ rfl (spliced_more (ldLocal F₁₂ rfl (spliced_none ⟨G₁₂.X 41 _ hl41, ?_⟩)) rfl)) rfl))) rfl
      refine pile_call (by exact G₁₂) (by show A.depth < _; omega) (by exact hh) (by show A.units + 100 < cLine; omega) rows ts sg ⟨od, (N₁₂ _ hmr).1, hodc, ndr, hodd⟩ htl (fun i T r h1 h2 => ?_) ⟨nds, (N₁₂ _ hms).1⟩ hsg hrne hrl12 hG h0r ?_
      · obtain ⟨o, t, u, n, hm', hoc', hod'⟩ := hmt i T r h1 h2
        exact ⟨t, u, o, (N₁₂ _ hm').1, hoc', n, hod'⟩
      intro h₁₃ tk₁₃ D2 vs2 g₁₃ d₁₃ hp₁₃ hi₁₃
      replace g₁₃ : Grown h₁₂ h₁₃ := g₁₃
      dsimp only
      refine ke_eq_ints (plain_grow hp₁₂ g₁₃).isList hp₁₃.isList hi₁₂ hi₁₃ (by show A.units + 64 < cLine; omega) ?_
      rw [decide_eq_true (plain_law rows a hrl12 hrne hG h0r (by omega))]
      exact h _ _ _ (frGrow F₁₂ g₁₃)
end Mine
end
open PySem PySem.W PyProof.Rows PySem.Calls PySem.SeqAt PySem.Spec
set_option maxRecDepth 100000 in
set_option maxHeartbeats 8000000 in
theorem PySem.Challenge.cw_rs0068_01_holds : PySem.Challenge.rw_rs0068_01.Holds :=
  Mine.hd (by
  w_strict (k_go0
            refine Mine.law_body (p := Mine.hd.view_39) rfl rfl rfl ⟨by assumption, topRead_of (by assumption)⟩ (of_decide_eq_true (by with_unfolding_all rfl)) rfl (of_decide_eq_true (by with_unfolding_all rfl)) (by assumption) rfl (by assumption) (by assumption) (by omega) ?cell ?fin
            case cell => exact ⟨_, (News.get (by assumption) (.head _)), by assumption⟩
            case fin =>
              intro h' tk m' F'
              wrow_close))
