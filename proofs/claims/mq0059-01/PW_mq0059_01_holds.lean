import PyProof.Rows.All
import Wide.All
import OpenK.AllK
import Wide.FinOn
import PySem.Challenge.RW_mq0059_01
set_option Elab.async false
namespace Mine
/-! part Top1 -/
section
open PySem PySem.W PyProof.Rows
set_option maxRecDepth 100000 in
set_option maxHeartbeats 8000000 in
open_top hd for PySem.Challenge.rw_mq0059_01
end
/-! part Plain -/
section
open PySem
/-! the plain functions: what each def of the text reckons -/
def num (x : Int) : Int := if x % 128 = 30 ∨ x % 128 = 33 ∨ x % 128 = 94 then x + 1 else x
def siz (x : Int) : Int := (if 31 < x % 128 ∧ x % 128 < 127 then 1 else 2) + x / 128 % 2
def bare (x : Int) : Int := if x % 128 = 127 then (if x = 127 then 63 else 159) else x % 128 + 64
/-- the sign(s) of a number without its bit 128 -/
def low (x : Int) : List Nat :=
  if x = 127 then [94, 63] else if 32 ≤ x % 128 ∧ x % 128 ≤ 126 then [(x % 128).toNat] else if x % 128 = 127 then [94, 159] else [94, (x % 128 + 64).toNat]
def unc (x : Int) : List Nat := if x / 128 % 2 = 1 then 33 :: low x else low x
def cramL (l : List Nat) (n : Int) : List Nat :=
  if n < (l.length : Int) then l.take (max 0 ((n - 3) / 2)).toNat ++ [46, 46, 46] ++ l.drop (l.length - (max 0 (n - 3 - max 0 ((n - 3) / 2))).toNat) else l
abbrev RSt := List Int × List Nat
def rcode (ah : List Nat) (c : Nat) : Int :=
  let code : Int := if ah = [94] ∨ ah = [33, 94] then (if c = 63 ∨ c = 159 then 127 else (c : Int) % 32) else c
  if ah = [33] ∨ ah = [33, 94] then Builtin.bitOr code 128 else code
def rstep (st : RSt) (c : Nat) : RSt :=
  if (st.2 = [] ∨ st.2 = [33]) ∧ c = 94 ∨ st.2 = [] ∧ c = 33 then (st.1, st.2 ++ [c]) else (st.1 ++ [rcode st.2 c], [])
def readL (l : List Nat) : RSt := l.foldl rstep ([], [])
structure TSt where
  head : List Int
  dot : Int
  tail : List Int
  place : Int
def cutF (x f : Int) : Int := if x % 256 < 128 then 14 else if f = 1 then 174 else 142
def cutR (x r : Int) : Int := if x % 256 > 127 ∧ r = 1 then x % 256 - 128 else bare x
def tstep (front rear : Int) (st : TSt) (x : Int) : TSt where
  head := if st.place + siz x ≤ front then st.head ++ [x % 256] else st.head
  dot := if ¬ st.place + siz x ≤ front ∧ st.place < front then cutF x (front - st.place) else st.dot
  tail := if st.place ≥ rear then st.tail ++ [x % 256] else if st.place + siz x > rear then st.tail ++ [cutR x (rear - st.place)] else st.tail
  place := st.place + siz x
def room (n : Int) : Int := max (n - 3) 0
def toldS (line : List Int) (total n : Int) : TSt := line.foldl (tstep (room n / 2) (total - (room n + 1) / 2)) ⟨[], 46, [], 0⟩
def toldL (line : List Int) (total n : Int) : List Int :=
  if total ≤ n then line.map (· % 256) else (toldS line total n).head ++ [(toldS line total n).dot, 46, 46] ++ (toldS line total n).tail
def textL (line : List Int) : List Nat := line.flatMap unc
def total (line : List Int) : Int := (line.map siz).sum
def Good (x : Int) : Prop := x % 128 ≠ 30 ∧ x % 128 ≠ 33 ∧ x % 128 ≠ 94

/-! the laws -/
theorem num_good (x : Int) : Good (num x) := by
  unfold Good num
  split <;> omega
theorem siz_pos (x : Int) : 1 ≤ siz x ∧ siz x ≤ 3 := by
  unfold siz
  split <;> omega
theorem low_len (x : Int) : ((low x).length : Int) = if 31 < x % 128 ∧ x % 128 < 127 then 1 else 2 := by
  unfold low
  split
  · subst x; rfl
  · split
    · rw [if_pos ⟨by omega, by omega⟩]; rfl
    · rw [show (if 31 < x % 128 ∧ x % 128 < 127 then (1 : Int) else 2) = 2 from if_neg (by omega)]; split <;> rfl
theorem unc_len (x : Int) : ((unc x).length : Int) = siz x := by
  unfold unc siz
  have h := low_len x
  split
  · rw [List.length_cons]; omega
  · omega
theorem text_len (line : List Int) : ((textL line).length : Int) = total line := by
  induction line with
  | nil => rfl
  | cons x r ih =>
    have h := unc_len x
    have e1 : textL (x :: r) = unc x ++ textL r := rfl
    have e2 : total (x :: r) = siz x + total r := by simp [total]
    rw [e1, e2, List.length_append]
    omega
theorem bor128 (c : Int) (h0 : 0 ≤ c) (h1 : c < 128) : Builtin.bitOr c 128 = c + 128 := by
  have h := PyProof.Rows.bitOr_and c 128
  have h2 := PySem.W.kbt_bit c 7
  have e : ((2 : Int) ^ 7) = 128 := by decide
  rw [e] at h2
  rw [h, h2]
  omega
/-- the code of a sign behind what is ahead -/
theorem rstep_go (cs : List Int) (ah : List Nat) (c : Nat) (h : ¬ ((ah = [] ∨ ah = [33]) ∧ c = 94 ∨ ah = [] ∧ c = 33)) : rstep (cs, ah) c = (cs ++ [rcode ah c], []) := if_neg h
theorem rstep_ahead (cs : List Int) (ah : List Nat) (c : Nat) (h : (ah = [] ∨ ah = [33]) ∧ c = 94 ∨ ah = [] ∧ c = 33) : rstep (cs, ah) c = (cs, ah ++ [c]) := if_pos h
theorem rcode_nil (c : Nat) : rcode [] c = (c : Int) := by simp [rcode]
theorem rcode_alt (c : Nat) : rcode [33] c = Builtin.bitOr (c : Int) 128 := by simp [rcode]
theorem rcode_ctrl (c : Nat) : rcode [94] c = if c = 63 ∨ c = 159 then 127 else (c : Int) % 32 := by simp [rcode]
theorem rcode_both (c : Nat) : rcode [33, 94] c = Builtin.bitOr (if c = 63 ∨ c = 159 then 127 else (c : Int) % 32) 128 := by simp [rcode]
theorem read_two (cs : List Int) (ah : List Nat) (ha : ah = [] ∨ ah = [33]) (c : Nat) (y : Int) (hy : (if c = 63 ∨ c = 159 then 127 else (c : Int) % 32) = y) (h0 : 0 ≤ y) (h1 : y < 128) :
    [94, c].foldl rstep (cs, ah) = (cs ++ [if ah = [33] then y + 128 else y], []) := by
  show rstep (rstep (cs, ah) 94) c = _
  rw [rstep_ahead _ _ _ (Or.inl ⟨ha, rfl⟩)]
  rcases ha with rfl | rfl
  · rw [rstep_go _ _ _ (by simp), List.nil_append, rcode_ctrl, hy]; simp
  · rw [rstep_go _ _ _ (by simp)]
    show (cs ++ [rcode [33, 94] c], []) = _
    rw [rcode_both, hy, bor128 _ h0 h1]; simp
theorem read_low (cs : List Int) (x : Int) (ah : List Nat) (ha : ah = [] ∨ ah = [33]) (hg : Good x) :
    (low x).foldl rstep (cs, ah) = (cs ++ [if ah = [33] then x % 128 + 128 else x % 128], []) := by
  have hb := bor128 (x % 128) (by omega) (by omega)
  unfold Good at hg
  unfold low
  split
  · subst x
    exact read_two cs ah ha 63 127 rfl (by decide) (by decide)
  · split
    · rename_i h1 h2
      show rstep (cs, ah) _ = _
      have e : (((x % 128).toNat : Nat) : Int) = x % 128 := by omega
      rw [rstep_go]
      · rcases ha with rfl | rfl
        · rw [rcode_nil, e]; simp
        · rw [rcode_alt, e, hb]; simp
      · intro h
        omega
    · split
      · rename_i h1 h2 h3
        rw [h3]
        exact read_two cs ah ha 159 127 rfl (by decide) (by decide)
      · rename_i h1 h2 h3
        refine read_two cs ah ha _ (x % 128) ?_ (by omega) (by omega)
        rw [if_neg (by omega)]
        omega
theorem read_unc (cs : List Int) (x : Int) (hg : Good x) : (unc x).foldl rstep (cs, []) = (cs ++ [x % 256], []) := by
  unfold unc
  split
  · show (low x).foldl rstep (rstep (cs, []) 33) = _
    rw [rstep_ahead _ _ _ (Or.inr ⟨rfl, rfl⟩), List.nil_append, read_low cs x [33] (Or.inr rfl) hg, if_pos rfl]
    congr 3
    omega
  · rw [read_low cs x [] (Or.inl rfl) hg, if_neg (by decide)]
    congr 3
    omega
theorem read_text (line : List Int) : ∀ (cs : List Int), (∀ x ∈ line, Good x) → (textL line).foldl rstep (cs, []) = (cs ++ line.map (· % 256), []) := by
  induction line with
  | nil => intro cs _; simp [textL]
  | cons x r ih =>
    intro cs hg
    have e1 : textL (x :: r) = unc x ++ textL r := rfl
    rw [e1, List.foldl_append, read_unc cs x (hg x (.head _)), ih _ fun y hy => hg y (.tail _ hy)]
    simp
def headOf : List Int → Int → List Int
  | [], _ => []
  | x :: r, f => (if siz x ≤ f then [x % 256] else []) ++ headOf r (f - siz x)
def dotOf : List Int → Int → Int → Int
  | [], _, d => d
  | x :: r, f, d => dotOf r (f - siz x) (if ¬ siz x ≤ f ∧ 0 < f then cutF x f else d)
def tailOf : List Int → Int → List Int
  | [], _ => []
  | x :: r, k => (if k ≤ 0 then [x % 256] else if siz x > k then [cutR x k] else []) ++ tailOf r (k - siz x)
theorem fold_told (front rear : Int) (line : List Int) : ∀ (h : List Int) (d : Int) (t : List Int) (p : Int),
    line.foldl (tstep front rear) ⟨h, d, t, p⟩ = ⟨h ++ headOf line (front - p), dotOf line (front - p) d, t ++ tailOf line (rear - p), p + total line⟩ := by
  induction line with
  | nil => intro h d t p; simp [headOf, dotOf, tailOf, total]
  | cons x r ih =>
    intro h d t p
    have e2 : total (x :: r) = siz x + total r := by simp [total]
    have ef : front - p - siz x = front - (p + siz x) := by omega
    have er : rear - p - siz x = rear - (p + siz x) := by omega
    rw [List.foldl_cons]
    show List.foldl (tstep front rear) ⟨if p + siz x ≤ front then h ++ [x % 256] else h, if ¬ p + siz x ≤ front ∧ p < front then cutF x (front - p) else d, if p ≥ rear then t ++ [x % 256] else if p + siz x > rear then t ++ [cutR x (rear - p)] else t, p + siz x⟩ r = _
    rw [ih]
    simp only [headOf, dotOf, tailOf, e2, ef, er]
    congr 1
    · by_cases c : p + siz x ≤ front
      · rw [if_pos c, if_pos (by omega)]; simp
      · rw [if_neg c, if_neg (by omega)]; simp
    · congr 1
      by_cases c : ¬ p + siz x ≤ front ∧ p < front
      · rw [if_pos c, if_pos (by omega)]
      · rw [if_neg c, if_neg (by omega)]
    · by_cases c : p ≥ rear
      · rw [if_pos c, if_pos (by omega)]; simp
      · rw [if_neg c, if_neg (by omega : ¬ rear - p ≤ 0)]
        by_cases c2 : p + siz x > rear
        · rw [if_pos c2, if_pos (by omega)]; simp
        · rw [if_neg c2, if_neg (by omega)]; simp
    · omega
theorem headOf_neg (line : List Int) : ∀ f : Int, f ≤ 0 → headOf line f = [] := by
  induction line with
  | nil => intro f _; rfl
  | cons x r ih =>
    intro f hf
    have h := siz_pos x
    rw [headOf, if_neg (by omega), ih _ (by omega)]; rfl
theorem dotOf_neg (line : List Int) : ∀ (f d : Int), f ≤ 0 → dotOf line f d = d := by
  induction line with
  | nil => intro f d _; rfl
  | cons x r ih =>
    intro f d hf
    have h := siz_pos x
    rw [dotOf, if_neg (by omega), ih _ _ (by omega)]
theorem tailOf_neg (line : List Int) : ∀ k : Int, k ≤ 0 → tailOf line k = line.map (· % 256) := by
  induction line with
  | nil => intro k _; rfl
  | cons x r ih =>
    intro k hk
    have h := siz_pos x
    rw [tailOf, if_pos hk, ih _ (by omega)]; rfl
/-- a low part of two signs -/
theorem low_two (x : Int) (hg : Good x) (h : ¬ (31 < x % 128 ∧ x % 128 < 127)) : ∃ c : Nat, low x = [94, c] ∧ (c : Int) = bare x ∧ c ≠ 94 ∧ c ≠ 33 := by
  unfold Good at hg
  unfold low bare
  by_cases h1 : x = 127
  · subst x; exact ⟨63, rfl, rfl, by decide, by decide⟩
  · rw [if_neg h1, if_neg (by omega)]
    by_cases h2 : x % 128 = 127
    · rw [if_pos h2, if_pos h2, if_neg h1]; exact ⟨159, rfl, rfl, by decide, by decide⟩
    · rw [if_neg h2, if_neg h2]; exact ⟨_, rfl, by omega, by omega, by omega⟩
theorem read_dots (cs : List Int) (d : Int) (ah : List Nat) (h : rstep (cs, ah) 46 = (cs ++ [d], [])) : [46, 46, 46].foldl rstep (cs, ah) = (cs ++ [d, 46, 46], []) := by
  show rstep (rstep (rstep (cs, ah) 46) 46) 46 = _
  rw [h, rstep_go _ [] 46 (by decide), rstep_go _ [] 46 (by decide), rcode_nil]
  simp
theorem read_cut (cs : List Int) (x f : Int) (hg : Good x) (h0 : 0 < f) (h1 : f < siz x) : ((unc x).take f.toNat ++ [46, 46, 46]).foldl rstep (cs, []) = (cs ++ [cutF x f, 46, 46], []) := by
  have hs := siz_pos x
  unfold cutF
  by_cases hb : x / 128 % 2 = 1
  · have eu : unc x = 33 :: low x := by unfold unc; rw [if_pos hb]
    rw [eu, if_neg (by omega)]
    by_cases e1 : f = 1
    · subst f
      show ([46, 46, 46]).foldl rstep (rstep (cs, []) 33) = _
      rw [rstep_ahead _ _ _ (Or.inr ⟨rfl, rfl⟩), if_pos rfl]
      refine read_dots cs 174 _ ?_
      show rstep (cs, [33]) 46 = _
      rw [rstep_go _ _ _ (by decide), rcode_alt]
      rfl
    · have e2 : f = 2 := by omega
      subst f
      have hn : ¬ (31 < x % 128 ∧ x % 128 < 127) := by
        intro h
        unfold siz at h1
        rw [if_pos h] at h1
        omega
      obtain ⟨c, el, _⟩ := low_two x hg hn
      rw [el, if_neg (by decide)]
      show ([46, 46, 46]).foldl rstep (rstep (rstep (cs, []) 33) 94) = _
      rw [rstep_ahead _ _ _ (Or.inr ⟨rfl, rfl⟩), List.nil_append, rstep_ahead _ _ _ (Or.inl ⟨Or.inr rfl, rfl⟩)]
      refine read_dots cs 142 _ ?_
      show rstep (cs, [33, 94]) 46 = _
      rw [rstep_go _ _ _ (by decide), rcode_both]
      rfl
  · have eu : unc x = low x := by unfold unc; rw [if_neg hb]
    have hn : ¬ (31 < x % 128 ∧ x % 128 < 127) := by
      intro h
      unfold siz at h1
      rw [if_pos h] at h1
      omega
    have e1 : f = 1 := by
      unfold siz at h1
      rw [if_neg hn] at h1
      omega
    subst f
    obtain ⟨c, el, _⟩ := low_two x hg hn
    rw [eu, el, if_pos (by omega)]
    show ([46, 46, 46]).foldl rstep (rstep (cs, []) 94) = _
    rw [rstep_ahead _ _ _ (Or.inl ⟨Or.inl rfl, rfl⟩)]
    refine read_dots cs 14 _ ?_
    show rstep (cs, [94]) 46 = _
    rw [rstep_go _ _ _ (by decide), rcode_ctrl]
    rfl
theorem read_head (line : List Int) : ∀ (f : Int) (cs : List Int), (∀ x ∈ line, Good x) →
    ((textL line).take f.toNat ++ [46, 46, 46]).foldl rstep (cs, []) = (cs ++ headOf line f ++ [dotOf line f 46, 46, 46], []) := by
  have hd0 : ∀ cs : List Int, [46, 46, 46].foldl rstep (cs, []) = (cs ++ [46, 46, 46], []) := fun cs => read_dots cs 46 [] (by rw [rstep_go _ _ _ (by decide), rcode_nil]; rfl)
  induction line with
  | nil => intro f cs _; simpa [textL, headOf, dotOf] using hd0 cs
  | cons x r ih =>
    intro f cs hg
    have hs := siz_pos x
    have hl := unc_len x
    have e1 : textL (x :: r) = unc x ++ textL r := rfl
    by_cases h0 : f ≤ 0
    · rw [headOf_neg _ _ h0, dotOf_neg _ _ _ h0, show f.toNat = 0 by omega, List.take_zero]
      simpa using hd0 cs
    · rw [headOf, dotOf, e1, List.take_append]
      by_cases h1 : siz x ≤ f
      · rw [if_pos h1, if_neg (by omega), List.take_of_length_le (by omega), show f.toNat - (unc x).length = (f - siz x).toNat by omega, List.append_assoc, List.foldl_append, read_unc cs x (hg x (.head _)), ih _ _ fun y hy => hg y (.tail _ hy)]
        simp
      · rw [if_neg h1, if_pos (by omega), show f.toNat - (unc x).length = 0 by omega, List.take_zero, List.append_nil, read_cut cs x f (hg x (.head _)) (by omega) (by omega), headOf_neg _ _ (by omega), dotOf_neg _ _ _ (by omega)]
        simp
theorem read_rest (cs : List Int) (x k : Int) (hg : Good x) (h0 : 0 < k) (h1 : k < siz x) : ((unc x).drop k.toNat).foldl rstep (cs, []) = (cs ++ [cutR x k], []) := by
  have hs := siz_pos x
  have one : ∀ c : Nat, c ≠ 94 → c ≠ 33 → (c : Int) = bare x → [c].foldl rstep (cs, []) = (cs ++ [bare x], []) := by
    intro c h2 h3 e
    show rstep (cs, []) c = _
    rw [rstep_go _ _ _ (by omega), rcode_nil, e]
  unfold cutR
  by_cases hb : x / 128 % 2 = 1
  · have eu : unc x = 33 :: low x := by unfold unc; rw [if_pos hb]
    rw [eu]
    by_cases e1 : k = 1
    · subst k
      rw [if_pos ⟨by omega, rfl⟩]
      show (low x).foldl rstep (cs, []) = _
      rw [read_low cs x [] (Or.inl rfl) hg, if_neg (by decide)]
      congr 3
      omega
    · have e2 : k = 2 := by omega
      subst k
      have hn : ¬ (31 < x % 128 ∧ x % 128 < 127) := by
        intro h
        unfold siz at h1
        rw [if_pos h] at h1
        omega
      obtain ⟨c, el, e, h2, h3⟩ := low_two x hg hn
      rw [el, if_neg (by omega)]
      exact one c h2 h3 e
  · have eu : unc x = low x := by unfold unc; rw [if_neg hb]
    have hn : ¬ (31 < x % 128 ∧ x % 128 < 127) := by
      intro h
      unfold siz at h1
      rw [if_pos h] at h1
      omega
    have e1 : k = 1 := by
      unfold siz at h1
      rw [if_neg hn] at h1
      omega
    subst k
    obtain ⟨c, el, e, h2, h3⟩ := low_two x hg hn
    rw [eu, el, if_neg (by omega)]
    exact one c h2 h3 e
theorem read_tail (line : List Int) : ∀ (k : Int) (cs : List Int), (∀ x ∈ line, Good x) → ((textL line).drop k.toNat).foldl rstep (cs, []) = (cs ++ tailOf line k, []) := by
  induction line with
  | nil => intro k cs _; simp [textL, tailOf]
  | cons x r ih =>
    intro k cs hg
    have hs := siz_pos x
    have hl := unc_len x
    have e1 : textL (x :: r) = unc x ++ textL r := rfl
    by_cases h0 : k ≤ 0
    · rw [tailOf_neg _ _ h0, show k.toNat = 0 by omega, List.drop_zero, read_text _ _ hg]
    · rw [tailOf, e1, List.drop_append, if_neg h0]
      by_cases h1 : siz x ≤ k
      · rw [if_neg (by omega), List.drop_eq_nil_of_le (by omega), show k.toNat - (unc x).length = (k - siz x).toNat by omega, List.nil_append, List.nil_append, ih _ _ fun y hy => hg y (.tail _ hy)]
      · rw [if_pos (by omega), show k.toNat - (unc x).length = 0 by omega, List.drop_zero, List.foldl_append, read_rest cs x k (hg x (.head _)) (by omega) (by omega), read_text _ _ fun y hy => hg y (.tail _ hy), tailOf_neg _ _ (by omega)]
        simp
/-- the plain law -/
theorem plain_law (line : List Int) (n : Int) (hg : ∀ x ∈ line, Good x) : readL (cramL (textL line) n) = (toldL line (total line) n, []) := by
  have hl := text_len line
  unfold readL cramL toldL
  by_cases h : n < total line
  · rw [if_pos (by omega), if_neg (by omega), List.foldl_append]
    have ef : max 0 ((n - 3) / 2) = room n / 2 := by unfold room; omega
    have er : (textL line).length - (max 0 (n - 3 - max 0 ((n - 3) / 2))).toNat = (total line - (room n + 1) / 2).toNat := by unfold room; omega
    rw [er, ef, read_head _ _ _ hg, read_tail _ _ _ hg]
    unfold toldS
    rw [fold_told]
    simp
  · rw [if_neg (by omega), if_pos (by omega), read_text _ _ hg]
    simp
end
/-! part Base1 -/
section
open PySem PySem.W PyProof.Rows
abbrev LPair := List (Addr × Obj)
/-- what a def of the text tells: from any frame, over any ledger -/
def Ctr (w : World) (mean : ExcName → Option Value) (mg mb : Str → Option Value) (f : Addr) (k : Nat) (pre : LPair → Prop) (vs : List Value) (Post : Value → LPair → Prop) : Prop :=
  ∀ (dp un : Nat) (gd : Option (List Code)) (cn : Str) (cs : Scope) (a : Addr) (ccd : Value) (cl : List (Str × Addr)) (outer : List Env) (A₀ : Around) (base h₀ : Heap) (L : Addr) (m : Str → Option Value) (news : LPair) (s : Shared) (Q E : Value → Shared → Prop),
    Below A₀ base outer h₀ → Fr h₀ L s.heap m → (hd.heap_39 w.params).In h₀ → News h₀ L s.heap news → Top hd.view_39 (looseW hd.view_39 []) mean mg mb h₀ → cs.kind = .function →
    pre news → dp + k < recursionLimit → un + 8 * k < cLine →
    (∀ r tl h' tk', Fr h₀ L h' m → News h₀ L h' (tl ++ news) → Post r tl → Q r { s with heap := h', toks := tk' }) →
    wpAny (model PySem.Challenge.rw_mq0059_01.row.prog w) (ktrTop dp un gd cn cs L a ccd cl outer) (call (.ref f) vs) Q E s
theorem Ctr.use {w : World} {mean : ExcName → Option Value} {mg mb : Str → Option Value} {f : Addr} {k : Nat} {pre : LPair → Prop} {vs : List Value} {Post : Value → LPair → Prop} (C : Ctr w mean mg mb f k pre vs Post)
  {dp un : Nat} {gd : Option (List Code)} {cn : Str} {cs : Scope} {a : Addr} {ccd : Value} {cl : List (Str × Addr)} {outer : List Env} {A₀ : Around} {base h₀ : Heap} {L : Addr} {m : Str → Option Value} {news : LPair} {s : Shared} {Q E : Value → Shared → Prop}
    (B : Below A₀ base outer h₀) (F : Fr h₀ L s.heap m) (X : (hd.heap_39 w.params).In h₀) (N : News h₀ L s.heap news) (T : Top hd.view_39 (looseW hd.view_39 []) mean mg mb h₀) (hk : cs.kind = .function)
    (hp : pre news) (hd : dp + k < recursionLimit) (hu : un + 8 * k < cLine)
    (ret : ∀ r tl h' tk', Fr h₀ L h' m → News h₀ L h' (tl ++ news) → Post r tl → Q r { s with heap := h', toks := tk' }) :
    wpAny (model PySem.Challenge.rw_mq0059_01.row.prog w) (ktrTop dp un gd cn cs L a ccd cl outer) (call (.ref f) vs) Q E s :=
  C _ _ _ _ _ _ _ _ _ _ _ _ _ _ _ _ _ _ B F X N T hk hp hd hu ret
end
/-! part C1 -/
section
open PySem PySem.W PyProof.Rows
/-- a text by its codes -/
abbrev S (l : List Nat) : Str := ⟨l.toArray⟩
theorem S_app (a b : List Nat) : S a ++ S b = S (a ++ b) := by
  refine PySem.Str.ext' ?_
  rw [PySem.Str.cps_append]
  simp
theorem fm (x : Int) {k : Int} (h : 0 < k) : x.fmod k = x % k := Int.fmod_eq_emod_of_nonneg _ (by omega)
theorem fd (x : Int) {k : Int} (h : 0 < k) : x.fdiv k = x / k := Int.fdiv_eq_ediv_of_nonneg _ (by omega)
theorem and127 (x : Int) : Builtin.bitAnd x 127 = x % 128 := kbt_mask x 7
theorem and31 (x : Int) : Builtin.bitAnd x 31 = x % 32 := kbt_mask x 5
theorem and128 (x : Int) : Builtin.bitAnd x 128 = (x / 128 % 2) * 128 := kbt_bit x 7
theorem and32 (x : Int) : Builtin.bitAnd x 32 = (x / 32 % 2) * 32 := kbt_bit x 5
theorem or32 (x : Int) : Builtin.bitOr (Builtin.bitAnd x 127) 32 + 32 = x % 128 + 64 - (x % 128 / 32 % 2) * 32 := by
  rw [bitOr_and, and32, and127]
  omega
theorem or32_in (x : Int) : 0 ≤ Builtin.bitOr (Builtin.bitAnd x 127) 32 + 32 ∧ Builtin.bitOr (Builtin.bitAnd x 127) 32 + 32 ≤ 200 := by
  rw [or32]
  omega
theorem unc_127 (h : (127 : Int) = 127) : unc 127 = [94, 63] := rfl
theorem sBang : (Str.ofString "!") = S [33] := by decide +kernel
theorem sHat : (Str.ofString "^") = S [94] := by decide +kernel
theorem sDel : (Str.ofString "^?") = S [94, 63] := by decide +kernel
theorem unc_print {x : Int} (h1 : x ≠ 127) (h2 : 32 ≤ Builtin.bitAnd x 127 ∧ Builtin.bitAnd x 127 ≤ 126) : low x = [(Builtin.bitAnd x 127).toNat] := by
  rw [and127] at h2 ⊢
  unfold low
  rw [if_neg h1, if_pos h2]
theorem unc_ctrl {x : Int} (h1 : x ≠ 127) (h2 : ¬ (32 ≤ Builtin.bitAnd x 127 ∧ Builtin.bitAnd x 127 ≤ 126)) : low x = [94, (Builtin.bitOr (Builtin.bitAnd x 127) 32 + 32).toNat] := by
  rw [or32]
  rw [and127] at h2
  unfold low
  rw [if_neg h1, if_neg h2]
  split
  · rename_i h; rw [h]; rfl
  · congr 3; omega
theorem unc_hi {x : Int} (h : Builtin.bitAnd x 128 ≠ 0) {l : List Nat} (e : low x = l) : S [33] ++ S l = S (unc x) := by
  rw [and128] at h
  rw [S_app]
  unfold unc
  rw [if_pos (by omega), e]
  rfl
theorem unc_lo {x : Int} (h : Builtin.bitAnd x 128 = 0) {l : List Nat} (e : low x = l) : S l = S (unc x) := by
  rw [and128] at h
  unfold unc
  rw [if_neg (by omega), e]
variable {w : World} {mean : ExcName → Option Value} {mg mb : Str → Option Value}
/-- an int comes back, no object stays -/
abbrev IsI (v : Int) (r : Value) (tl : LPair) : Prop := tl = [] ∧ ∃ t', r = .int v t'
abbrev IsB (v : Bool) (r : Value) (tl : LPair) : Prop := tl = [] ∧ r = .bool v
abbrev IsS (v : Str) (r : Value) (tl : LPair) : Prop := tl = [] ∧ ∃ t', r = .str v t'
abbrev Any (_ : LPair) : Prop := True
theorem isI {x y : Int} {t : Tok} (e : x = y) : IsI y (.int x t) [] := by subst e; exact ⟨rfl, _, rfl⟩
theorem isS {x y : Str} {t : Tok} (e : x = y) : IsS y (.str x t) [] := by subst e; exact ⟨rfl, _, rfl⟩
theorem isB {x y : Bool} (e : x = y) : IsB y (.bool x) [] := by subst e; exact ⟨rfl, rfl⟩
theorem newsDrop {h₀ h : Heap} {L : Addr} {news news' : LPair} (N : News h₀ L h news') (hs : ∀ p ∈ news, p ∈ news') : News h₀ L h news := fun p hp => N p (hs p hp)
set_option maxRecDepth 100000 in
set_option maxHeartbeats 8000000 in
theorem ctoi_c (x : Int) (t : Tok) : Ctr w mean mg mb 28 1 Any [.int x t] (IsI x) := by
  intro dp un gd cn cs a ccd cl outer A₀ base h₀ L m news s Q E B F X N T hk hp hd hu hret
  w_top off
  refine wpAny_call ?_
  k_dflt cell_enter
  k_steps
  all_goals (refine hret _ [] _ _ (by k_asm) (by k_asm) (isI rfl))
local macro_rules | `(tactic| walk_at "call ref") => `(tactic| (k_here; k_dflt (refine' (ctoi_c _ _).use ?k1 ?k2 ?k3 ?k4 ?k5 ?k6 ?k7 ?k8 ?k9 ?_; (case k1 => k_asm); (case k2 => k_asm); (case k3 => k_asm); (case k4 => k_asm); (case k5 => k_asm); (case k6 => first | exact rfl | assumption); (case k7 => first | exact trivial | assumption | omega); (case k8 => ktr_room); (case k9 => ktr_units); k_whole); (intro r' tl' h' tk' F' N' hP'; obtain ⟨e1', t', e2'⟩ := hP'; subst e1'; subst e2'; (try simp only [List.nil_append] at N'); (try dsimp only); (try k_sweep))))
set_option maxRecDepth 100000 in
set_option maxHeartbeats 8000000 in
theorem isprint_c (x : Int) (t : Tok) : Ctr w mean mg mb 35 2 Any [.int x t] (IsB (decide (32 ≤ x ∧ x ≤ 126))) := by
  intro dp un gd cn cs a ccd cl outer A₀ base h₀ L m news s Q E B F X N T hk hp hd hu hret
  w_top off
  refine wpAny_call ?_
  k_dflt cell_enter
  k_steps
  all_goals (refine hret _ [] _ _ (by k_asm) (by k_asm) (isB ?_))
  all_goals (apply decide_eq_decide.mpr; omega)
local macro_rules | `(tactic| walk_at "call ref") => `(tactic| (k_here; k_dflt (refine' (isprint_c _ _).use ?k1 ?k2 ?k3 ?k4 ?k5 ?k6 ?k7 ?k8 ?k9 ?_; (case k1 => k_asm); (case k2 => k_asm); (case k3 => k_asm); (case k4 => k_asm); (case k5 => k_asm); (case k6 => first | exact rfl | assumption); (case k7 => first | exact trivial | assumption | omega); (case k8 => ktr_room); (case k9 => ktr_units); k_whole); (intro r' tl' h' tk' F' N' hP'; obtain ⟨e1', e2'⟩ := hP'; subst e1'; subst e2'; (try simp only [List.nil_append] at N'); (try dsimp only); (try k_sweep))))
set_option maxRecDepth 100000 in
set_option maxHeartbeats 8000000 in
theorem ctrl_c (x : Int) (t : Tok) : Ctr w mean mg mb 42 2 Any [.int x t] (IsI (x % 32)) := by
  intro dp un gd cn cs a ccd cl outer A₀ base h₀ L m news s Q E B F X N T hk hp hd hu hret
  w_top off
  refine wpAny_call ?_
  k_dflt cell_enter
  k_steps
  all_goals (refine hret _ [] _ _ (by k_asm) (by k_asm) (isI (and31 x)))
set_option maxRecDepth 100000 in
set_option maxHeartbeats 8000000 in
theorem alt_c (x : Int) (t : Tok) : Ctr w mean mg mb 49 2 Any [.int x t] (IsI (Builtin.bitOr x 128)) := by
  intro dp un gd cn cs a ccd cl outer A₀ base h₀ L m news s Q E B F X N T hk hp hd hu hret
  w_top off
  refine wpAny_call ?_
  k_dflt cell_enter
  k_steps
  all_goals (refine hret _ [] _ _ (by k_asm) (by k_asm) (isI rfl))
set_option maxRecDepth 100000 in
set_option maxHeartbeats 8000000 in
theorem unctrl_c (x : Int) (t : Tok) : Ctr w mean mg mb 56 3 Any [.int x t] (IsS (S (unc x))) := by
  intro dp un gd cn cs a ccd cl outer A₀ base h₀ L m news s Q E B F X N T hk hp hd hu hret
  have hb := or32_in x
  w_top off
  refine wpAny_call ?_
  k_dflt cell_enter
  k_steps
  all_goals (refine hret _ [] _ _ (by k_asm) (by k_asm) (isS ?_))
  · rw [sBang, sDel]; exact unc_hi (by assumption) (by subst x; rfl)
  · rw [sDel]; exact unc_lo (by assumption) (by subst x; rfl)
  · rw [sBang]; exact unc_hi (by assumption) (unc_print (by assumption) (by assumption))
  · exact unc_lo (by assumption) (unc_print (by assumption) (by assumption))
  · rw [sBang, sHat, S_app [94]]; exact unc_hi (by assumption) (unc_ctrl (by assumption) (by assumption))
  · rw [sHat, S_app [94]]; exact unc_lo (by assumption) (unc_ctrl (by assumption) (by assumption))
end
/-! part C2 -/
section
open PySem PySem.W PyProof.Rows
theorem num_t {x : Int} (h : ([30, 33, 94].any fun y => y == x.fmod 128) = true) : x + 1 = num x := by
  rw [fm x (by decide)] at h
  simp at h
  unfold num
  rw [if_pos (by omega)]
theorem num_f {x : Int} (h : ([30, 33, 94].any fun y => y == x.fmod 128) = false) : x = num x := by
  rw [fm x (by decide)] at h
  simp at h
  unfold num
  rw [if_neg (by omega)]
theorem S_len (l : List Nat) : (S l).length = l.length := by simp [PySem.Str.length]
theorem slice_to (l : List Nat) (j : Int) (h0 : 0 ≤ j) (h1 : j ≤ l.length) : Txt.slice (S l) none (some j) = S (l.take j.toNat) := by
  have h := StrLaws.sliceText_to (x := S l) (j := j) ⟨h0, by simpa using h1⟩
  refine Eq.trans h ?_
  simp
theorem slice_from (l : List Nat) (i : Int) (h0 : 0 ≤ i) (h1 : i ≤ l.length) : Txt.slice (S l) (some i) none = S (l.drop i.toNat) := by
  have h := StrLaws.sliceText_from (x := S l) (i := i) ⟨h0, by simpa using h1⟩
  refine Eq.trans h ?_
  have e : (l.drop i.toNat).take ((l.length : Int) - i).toNat = l.drop i.toNat := List.take_of_length_le (by rw [List.length_drop]; omega)
  simp only [e]
theorem sDots : (Str.ofString "...") = S [46, 46, 46] := by decide +kernel
theorem cram_t {l : List Nat} {n : Int} (h : n < ((S l).length : Int)) :
    Txt.slice (S l) none (some (if (n - 3).fdiv 2 > 0 then (n - 3).fdiv 2 else 0)) ++ Str.ofString "..." ++
      Txt.slice (S l) (some (((S l).length : Int) - if (n - 3 - if (n - 3).fdiv 2 > 0 then (n - 3).fdiv 2 else 0) > 0 then n - 3 - if (n - 3).fdiv 2 > 0 then (n - 3).fdiv 2 else 0 else 0)) none = S (cramL l n) := by
  rw [S_len] at h
  rw [fd _ (by decide), S_len, sDots]
  have e1 : (if (n - 3) / 2 > 0 then (n - 3) / 2 else 0) = max 0 ((n - 3) / 2) := by
    by_cases c : (n - 3) / 2 > 0
    · rw [if_pos c]; omega
    · rw [if_neg c]; omega
  rw [e1]
  have e2 : (if n - 3 - max 0 ((n - 3) / 2) > 0 then n - 3 - max 0 ((n - 3) / 2) else 0) = max 0 (n - 3 - max 0 ((n - 3) / 2)) := by
    by_cases c : n - 3 - max 0 ((n - 3) / 2) > 0
    · rw [if_pos c]; omega
    · rw [if_neg c]; omega
  rw [e2, slice_to l _ (by omega) (by omega), slice_from l _ (by omega) (by omega), S_app, S_app]
  unfold cramL
  rw [if_pos h]
  congr 5
  omega
theorem cram_f {l : List Nat} {n : Int} (h : ¬ n < ((S l).length : Int)) : S l = S (cramL l n) := by
  rw [S_len] at h
  unfold cramL
  rw [if_neg h]
variable {w : World} {mean : ExcName → Option Value} {mg mb : Str → Option Value}
set_option maxRecDepth 100000 in
set_option maxHeartbeats 8000000 in
theorem number_c (x : Int) (t : Tok) : Ctr w mean mg mb 63 1 Any [.int x t] (IsI (num x)) := by
  intro dp un gd cn cs a ccd cl outer A₀ base h₀ L m news s Q E B F X N T hk hp hd hu hret
  w_top off
  refine wpAny_call ?_
  k_dflt cell_enter
  k_steps
  all_goals (refine hret _ [] _ _ (by k_asm) (by first | k_asm | exact newsDrop (by assumption) (fun p hp => .tail _ hp)) (isI ?_))
  · exact num_t (by assumption)
  · exact num_f (by assumption)
set_option maxRecDepth 100000 in
set_option maxHeartbeats 8000000 in
theorem size_c (x : Int) (t : Tok) : Ctr w mean mg mb 70 1 Any [.int x t] (IsI (siz x)) := by
  intro dp un gd cn cs a ccd cl outer A₀ base h₀ L m news s Q E B F X N T hk hp hd hu hret
  w_top off
  refine wpAny_call ?_
  k_dflt cell_enter
  k_steps
  all_goals (refine hret _ [] _ _ (by k_asm) (by k_asm) (isI ?_))
  all_goals (unfold siz; rw [fd x (by decide), fm _ (by decide)]; simp only [fm x (show (0 : Int) < 128 by decide)] at *)
  · rw [if_pos (by omega)]
  · rw [if_neg (by omega)]
  · rw [if_neg (by omega)]
set_option maxRecDepth 100000 in
set_option maxHeartbeats 8000000 in
theorem bare_c (x : Int) (t : Tok) : Ctr w mean mg mb 77 1 Any [.int x t] (IsI (bare x)) := by
  intro dp un gd cn cs a ccd cl outer A₀ base h₀ L m news s Q E B F X N T hk hp hd hu hret
  w_top off
  refine wpAny_call ?_
  k_dflt cell_enter
  k_steps
  all_goals (refine hret _ [] _ _ (by k_asm) (by k_asm) (isI ?_))
  all_goals (unfold bare; simp only [fm x (show (0 : Int) < 128 by decide)] at *)
  · rw [if_pos (by assumption), if_pos (by assumption)]
  · rw [if_pos (by assumption), if_neg (by assumption)]
  · rw [if_neg (by assumption)]
set_option maxRecDepth 100000 in
set_option maxHeartbeats 8000000 in
theorem cram_c (l : List Nat) (n : Int) (t t2 : Tok) (hx : (S l).length ≤ 60) : Ctr w mean mg mb 21 1 Any [.str (S l) t, .int n t2] (IsS (S (cramL l n))) := by
  intro dp un gd cn cs a ccd cl outer A₀ base h₀ L m news s Q E B F X N T hk hp hd hu hret
  w_top off
  refine wpAny_call ?_
  k_dflt cell_enter
  k_steps
  all_goals (refine hret _ [] _ _ (by k_asm) (by k_asm) (isS ?_))
  · exact cram_t (by assumption)
  · exact cram_f (by assumption)
end
/-! part C3 -/
section
open PySem PySem.W PyProof.Rows
structure RS where
  vs : List Value
  nn : Nat
  tk : Tok
  st : RSt
def RSLed (lc : Addr) (news : LPair) (c : RS) : LPair := (lc, W.listOf c.vs.toArray c.nn) :: news
def RSPs (c : RS) : List (Str × Value) := [(Str.ofString "ahead", .str (S c.st.2) c.tk)]
def RSFacts (c : RS) : Prop := IntsAre c.vs c.st.1
def RSP (pre : List Int) (c : RS) : Prop := c.st = readL (pre.map Int.toNat)
def RSStored : List Str := [Str.ofString "code"]
abbrev RSJ (lc : Addr) (news : LPair) (m₀ : Str → Option Value) (pre : List Int) : (Str → Option Value) → LPair → Prop :=
  KstS (RSLed lc news) RSPs RSFacts (Str.ofString "sign") RSStored m₀ RSP pre
abbrev RSM (u m₀ : Str → Option Value) (ah : Str) (tk : Tok) (z : Str) : Option Value := if z = Str.ofString "ahead" then some (.str ah tk) else if z = Str.ofString "code" then u z else m₀ z
theorem rs_m (u m₀ : Str → Option Value) (c : RS) : kstB (fun z => if RSStored.contains z then u z else m₀ z) (RSPs c) = RSM u m₀ (S c.st.2) c.tk := by
  funext z
  show (if z = Str.ofString "ahead" then _ else (if ([Str.ofString "code"] : List Str).contains z then u z else m₀ z)) = _
  unfold RSM
  congr 1
  by_cases h : z = Str.ofString "code"
  · subst h; simp
  · simp [h]
theorem one_hat (n : Nat) : ((⟨#[n]⟩ : Str) == Str.ofString "^") = decide (n = 94) := by
  rw [sHat, Bool.eq_iff_iff]
  simp
theorem one_bang (n : Nat) : ((⟨#[n]⟩ : Str) == Str.ofString "!") = decide (n = 33) := by
  rw [sBang, Bool.eq_iff_iff]
  simp
theorem any_t {n : Nat} (h : ([63, 159].any fun x => x == (n : Int)) = true) : n = 63 ∨ n = 159 := by
  simp at h
  omega
theorem any_f {n : Nat} (h : ([63, 159].any fun x => x == (n : Int)) = false) : ¬ (n = 63 ∨ n = 159) := by
  simp at h
  omega
theorem read_snoc (pre : List Nat) (n : Nat) : readL (pre ++ [n]) = rstep (readL pre) n := by unfold readL; rw [List.foldl_append]; rfl
theorem read_ahead (pre : List Nat) : ((readL pre).2 = [] ∨ (readL pre).2 = [33] ∨ (readL pre).2 = [94] ∨ (readL pre).2 = [33, 94]) ∧ (readL pre).1.length ≤ pre.length := by
  have key : ∀ (l : List Nat) (st : RSt) (k : Nat), (st.2 = [] ∨ st.2 = [33] ∨ st.2 = [94] ∨ st.2 = [33, 94]) → st.1.length ≤ k →
      ((l.foldl rstep st).2 = [] ∨ (l.foldl rstep st).2 = [33] ∨ (l.foldl rstep st).2 = [94] ∨ (l.foldl rstep st).2 = [33, 94]) ∧ (l.foldl rstep st).1.length ≤ k + l.length := by
    intro l
    induction l with
    | nil => intro st k h h2; exact ⟨h, h2⟩
    | cons c r ih =>
      intro st k h h2
      rw [List.foldl_cons]
      have e : k + (c :: r).length = (k + 1) + r.length := by rw [List.length_cons]; omega
      rw [e]
      refine ih _ _ ?_ ?_
      · unfold rstep
        split
        · rename_i hc
          rcases hc with ⟨h1 | h1, h2⟩ | ⟨h1, h2⟩ <;> simp [h1, h2]
        · exact Or.inl rfl
      · unfold rstep
        split
        · exact Nat.le_succ_of_le h2
        · simp; omega
  have h := key pre ([], []) 0 (Or.inl rfl) (Nat.le_refl _)
  simpa [readL] using h
section
variable {prog : Program} {w : World} {A : Around} {E : Value → Shared → Prop} {s : Shared} {env : Env} {h₀ : Heap} {body : List Stmt} {Q : Flow → Shared → Prop}
theorem loop_read {l : List Nat} {tx tk0 : Tok} {m₀ : Str → Option Value} {lc : Addr} {news : LPair}
    (hh : A.handled = none) (F : Fr h₀ env.locals s.heap m₀) (N : News h₀ env.locals s.heap ((lc, W.listOf #[] 0) :: news)) (hm : m₀ (Str.ofString "ahead") = some (.str (Str.ofString "") tk0))
    (turn : ∀ (vs : List Value) (nn : Nat) (tk1 : Tok) (cs : List Int) (ah : List Nat) (pre : List Int) (n : Nat) t (u : Str → Option Value) h tk own, readL (pre.map Int.toNat) = (cs, ah) → pre.length < (S l).length → OwnOff own (lc :: news.map (·.1)) → IntsAre vs cs → vs.length < (S l).length → (ah = [] ∨ ah = [33] ∨ ah = [94] ∨ ah = [33, 94]) →
      Fr h₀ env.locals h (fun y => if y = Str.ofString "sign" then some (.str ⟨#[n]⟩ t) else RSM u m₀ (S ah) tk1 y) → News h₀ env.locals h ((lc, W.listOf vs.toArray nn) :: (news ++ own)) →
      wpAny (model prog w) A (execs body env) (InvPostN h₀ env.locals (RSJ lc news m₀ (pre ++ [(n : Int)])) own (lc :: news.map (·.1)) { s with heap := h, toks := tk } Q) E { s with heap := h, toks := tk })
    (done : ∀ (vs : List Value) (nn : Nat) (tk1 : Tok) (u : Str → Option Value) h tk, IntsAre vs (readL l).1 →
      Fr h₀ env.locals h (fun y => if y = Str.ofString "sign" then u y else RSM u m₀ (S (readL l).2) tk1 y) → News h₀ env.locals h ((lc, W.listOf vs.toArray nn) :: news) → Q .next { s with heap := h, toks := tk }) :
    wpAny (model prog w) A (pyIter (.str (S l) tx)) (fun it s₂ => LoopAtV prog w A h₀ env (Str.ofString "sign") body Q E it s₂) E s := by
  have e0 : Str.ofString "" = S [] := by decide +kernel
  have el : (KStt.codes (S l)).map Int.toNat = l := by
    unfold KStt.codes
    rw [List.map_map]
    show l.map (Int.toNat ∘ fun (c : Nat) => (c : Int)) = l
    exact (List.map_congr_left (g := _root_.id) fun c _ => Int.toNat_natCast c).trans (List.map_id _)
  refine KStt.kst_text (RSLed lc news) RSPs RSFacts RSStored RSP ⟨[], 0, tk0, ([], [])⟩ hh F N (.nil) ?_ rfl ?_ ?_
  · intro p hp
    rw [List.mem_singleton.mp hp]
    show m₀ (Str.ofString "ahead") = _
    rw [hm, e0]
  · intro c pre post n t u h tk own e hoff hf hp F' N'
    rw [rs_m] at F'
    have hlen := congrArg List.length e
    rw [KStt.codes_length, List.length_append, List.length_cons] at hlen
    have hra := read_ahead (pre.map Int.toNat)
    unfold RSP at hp
    unfold RSFacts at hf
    rw [← hp] at hra
    have hvl := hf.length
    rw [List.length_map] at hra
    exact turn c.vs c.nn c.tk c.st.1 c.st.2 pre n t u h tk own hp.symm (by omega) hoff hf (by omega) hra.1 F' N'
  · intro c u h tk hf hp F' N'
    rw [rs_m] at F'
    unfold RSP at hp
    unfold RSFacts at hf
    rw [el] at hp
    rw [hp] at hf F'
    exact done c.vs c.nn c.tk u h tk hf F' N'
theorem read_end {m₀ m' : Str → Option Value} {lc L : Addr} {news own news' : LPair} {vs' : List Value} {nn' : Nat} {cs cs' : List Int} {ah ah' : List Nat} {tk' : Tok} {ahv : Str} {pre : List Int} {n : Nat} {h' : Heap} {s₁ : Shared} {tk : Nat} {arr : Array Value}
    (F : Fr h₀ L h' m') (N : News h₀ L h' news') (hn : (lc, W.listOf arr nn') ∈ news') (ha : arr = vs'.toArray) (h1 : ∀ p ∈ news, p ∈ news') (h2 : ∀ p ∈ own, p ∈ news') (hI : IntsAre vs' cs')
    (hm : m' (Str.ofString "ahead") = some (.str ahv tk')) (hah : ahv = S ah') (hpre : readL (pre.map Int.toNat) = (cs, ah)) (hst : rstep (cs, ah) n = (cs', ah'))
    (hr : ∀ z, z ≠ Str.ofString "sign" → z ≠ Str.ofString "ahead" → z ≠ Str.ofString "code" → m' z = m₀ z) :
    InvEndN h₀ L (RSJ lc news m₀ (pre ++ [(n : Int)])) own (lc :: news.map (·.1)) s₁ { s₁ with heap := h', toks := tk } := by
  subst ha
  subst hah
  refine kst_end (Led := RSLed lc news) (ps := RSPs) (Facts := RSFacts) (stored := RSStored) (P := RSP) (RS.mk vs' nn' tk' (cs', ah')) F N ?_ h2 rfl hI ?_ ?_ ?_
  · intro p hp
    rcases List.mem_cons.mp hp with rfl | hp
    · exact hn
    · exact h1 p hp
  · intro p hp
    rw [List.mem_singleton.mp hp]
    exact hm
  · intro z hz hz2 hz3
    refine hr z hz (hz2 _ (.head _)) ?_
    intro e
    subst e
    exact absurd hz3 (by decide +kernel)
  · unfold RSP
    rw [List.map_append, List.map_cons, List.map_nil, Int.toNat_natCast, read_snoc, hpre, hst]
/-- a turn that keeps the sign ahead -/
theorem read_end_a {m₀ m' : Str → Option Value} {lc L : Addr} {news own news' : LPair} {vs : List Value} {nn : Nat} {cs : List Int} {ah : List Nat} {tk' : Tok} {pre : List Int} {n : Nat} {h' : Heap} {s₁ : Shared} {tk : Nat}
    (F : Fr h₀ L h' m') (N : News h₀ L h' news') (hn : (lc, W.listOf vs.toArray nn) ∈ news') (h1 : ∀ p ∈ news, p ∈ news') (h2 : ∀ p ∈ own, p ∈ news') (hI : IntsAre vs cs)
    (hm : m' (Str.ofString "ahead") = some (.str (S ah ++ ⟨#[n]⟩) tk')) (hpre : readL (pre.map Int.toNat) = (cs, ah)) (hc : (ah = [] ∨ ah = [33]) ∧ n = 94 ∨ ah = [] ∧ n = 33)
    (hr : ∀ z, z ≠ Str.ofString "sign" → z ≠ Str.ofString "ahead" → z ≠ Str.ofString "code" → m' z = m₀ z) :
    InvEndN h₀ L (RSJ lc news m₀ (pre ++ [(n : Int)])) own (lc :: news.map (·.1)) s₁ { s₁ with heap := h', toks := tk } :=
  read_end F N hn rfl h1 h2 hI hm (S_app ah [n]) hpre (rstep_ahead cs ah n hc) hr
/-- a turn that tells a code -/
theorem read_end_b {m₀ m' : Str → Option Value} {lc L : Addr} {news own news' : LPair} {vs : List Value} {nn : Nat} {cs : List Int} {ah : List Nat} {tk' tv : Tok} {v : Int} {pre : List Int} {n : Nat} {h' : Heap} {s₁ : Shared} {tk : Nat}
    (F : Fr h₀ L h' m') (N : News h₀ L h' news') (hn : (lc, W.listOf (vs.toArray.push (.int v tv)) nn) ∈ news') (h1 : ∀ p ∈ news, p ∈ news') (h2 : ∀ p ∈ own, p ∈ news') (hI : IntsAre vs cs)
    (hm : m' (Str.ofString "ahead") = some (.str (Str.ofString "") tk')) (hpre : readL (pre.map Int.toNat) = (cs, ah)) (hc : ¬ ((ah = [] ∨ ah = [33]) ∧ n = 94 ∨ ah = [] ∧ n = 33)) (hv : v = rcode ah n)
    (hr : ∀ z, z ≠ Str.ofString "sign" → z ≠ Str.ofString "ahead" → z ≠ Str.ofString "code" → m' z = m₀ z) :
    InvEndN h₀ L (RSJ lc news m₀ (pre ++ [(n : Int)])) own (lc :: news.map (·.1)) s₁ { s₁ with heap := h', toks := tk } := by
  subst hv
  exact read_end (vs' := vs ++ [.int (rcode ah n) tv]) F N hn (by simp) h1 h2 (IntsAre.append hI (.cons _ _ .nil)) hm (by decide +kernel) hpre (rstep_go cs ah n hc) hr
end
/-- the walk stops here -/
def Halt (P : Prop) : Prop := P
theorem halt {P : Prop} (h : Halt P) : P := h
/-- a reading comes back: the pair of the codes and of what is ahead -/
def IsRead (l : List Nat) (r : Value) (tl : LPair) : Prop :=
  ∃ (D lc : Addr) (vs : List Value) (nn : Nat) (tk1 : Tok), r = .ref D ∧ tl = [(D, { cls := Value.type "tuple", data := Data.seq #[Value.ref lc, Value.str (S (readL l).2) tk1] }), (lc, W.listOf vs.toArray nn)] ∧ IntsAre vs (readL l).1
variable {w : World} {mean : ExcName → Option Value} {mg mb : Str → Option Value}
local macro_rules | `(tactic| walk_at "pyIter str") => `(tactic| refine halt ?_)
local macro_rules | `(tactic| walk_at "InvEndN") => `(tactic| refine halt ?_)
local macro_rules | `(tactic| walk_at "exec For Name Name cons nil") => `(tactic| (k_here; (rename Fr _ _ _ _ => lF'); (with_unfolding_all refine' For_invVF lF' ?k1 ?k2 ?_; (case k1 => exact rfl); (case k2 => exact rfl); k_whole)))
local macro_rules | `(tactic| walk_at "call ref") => `(tactic| (k_here; k_dflt (refine' (ctrl_c _ _).use ?k1 ?k2 ?k3 ?k4 ?k5 ?k6 ?k7 ?k8 ?k9 ?_; (case k1 => k_asm); (case k2 => k_asm); (case k3 => k_asm); (case k4 => k_asm); (case k5 => k_asm); (case k6 => first | exact rfl | assumption); (case k7 => first | exact trivial | assumption | omega); (case k8 => ktr_room); (case k9 => ktr_units); k_whole); (intro r' tl' h' tk' F' N' hP'; obtain ⟨e1', t', e2'⟩ := hP'; subst e1'; subst e2'; (try simp only [List.nil_append] at N'); (try dsimp only); (try k_sweep))))
local macro_rules | `(tactic| walk_at "call ref") => `(tactic| (k_here; k_dflt (refine' (alt_c _ _).use ?k1 ?k2 ?k3 ?k4 ?k5 ?k6 ?k7 ?k8 ?k9 ?_; (case k1 => k_asm); (case k2 => k_asm); (case k3 => k_asm); (case k4 => k_asm); (case k5 => k_asm); (case k6 => first | exact rfl | assumption); (case k7 => first | exact trivial | assumption | omega); (case k8 => ktr_room); (case k9 => ktr_units); k_whole); (intro r' tl' h' tk' F' N' hP'; obtain ⟨e1', t', e2'⟩ := hP'; subst e1'; subst e2'; (try simp only [List.nil_append] at N'); (try dsimp only); (try k_sweep))))
set_option maxRecDepth 100000 in
set_option maxHeartbeats 8000000 in
theorem reading_c (l : List Nat) (t : Tok) (hx : (S l).length ≤ 100) : Ctr w mean mg mb 84 3 Any [.str (S l) t] (IsRead l) := by
  intro dp un gd cn cs a ccd cl outer A₀ base h₀ L m news s Q E B F X N T hk hp hd hu hret
  w_top off
  refine wpAny_call ?_
  k_dflt cell_enter
  k_steps
  unfold Halt
  rename Fr _ _ _ _ => lF'
  rename News _ _ _ _ => lN'
  k_dflt refine loop_read rfl lF' lN' rfl ?turn ?done
  case done =>
    clear lF' lN'
    intro vs nn tk1 u h tk hI F' N'
    k_steps
    all_goals (refine hret _ [_, _] _ _ (by k_asm) (by k_asm) ⟨_, _, _, _, _, rfl, rfl, hI⟩)
  case turn =>
    clear lF' lN'
    intro vs nn tk1 cs ah pre n t u h tk own hr hpl hoff hI hvl hah F' N'
    have hMk := kstMark
    rcases hah with rfl | rfl | rfl | rfl
    k_steps
    all_goals unfold Halt
    all_goals (simp only [one_hat, one_bang, decide_eq_true_eq, decide_eq_false_iff_not] at *)
    all_goals first
      | (refine read_end_a (by k_asm) (by k_asm) (by k_mem) (by intro p hp; simp [hp]) (by intro p hp; simp [hp]) hI (by rfl) hr ?_ ?_)
      | (refine read_end_b (by k_asm) (by k_asm) (by k_mem) (by intro p hp; simp [hp]) (by intro p hp; simp [hp]) hI (by rfl) hr ?_ ?_ ?_)
    all_goals first
      | (intro z h1 h2 h3; simp only [RSM, if_neg h1, if_neg h2, if_neg h3]; done)
      | (simp; done)
      | (simp; omega)
      | exact (rcode_nil _).symm
      | exact (rcode_alt _).symm
      | (rw [rcode_ctrl, if_pos (any_t (by assumption))]; done)
      | (rw [rcode_ctrl, if_neg (any_f (by assumption))]; done)
      | (rw [rcode_both, if_pos (any_t (by assumption))]; done)
      | (rw [rcode_both, if_neg (any_f (by assumption))]; done)
end
/-! part Comp -/
section
open PySem PySem.W PySem.Calls PyProof.Rows
/-! comprehensions over a list of ints of the ledger, by a function of the element -/
section
variable {prog : Program} {w : World} {A : Around} {h₀ : Heap} {L : Addr} {m : Str → Option Value} {env : Env} {elt : PySem.Expr} {x : Str} {scope : Scope} {cl : List (Str × Addr)} {s : Shared} {news : List (Addr × Obj)}
/-- the element's end: the value, the ledger as it was -/
def EltEnd (h₀ : Heap) (L : Addr) (m : Str → Option Value) (s : Shared) (led : List (Addr × Obj)) (V : Value → Prop) (y : Value) (s₂ : Shared) : Prop :=
  ∃ h' tk', V y ∧ s₂ = { s with heap := h', toks := tk' } ∧ Fr h₀ L h' m ∧ News h₀ L h' led
theorem EltEnd.intro {V : Value → Prop} {y : Value} {h' : Heap} {tk' : Nat} {led : List (Addr × Obj)} (hv : V y) (F : Fr h₀ L h' m) (N : News h₀ L h' led) : EltEnd h₀ L m s led V y { s with heap := h', toks := tk' } := ⟨h', tk', hv, rfl, F, N⟩
abbrev IntV (r : Int) (y : Value) : Prop := ∃ t, y = .int r t
abbrev StrV (r : Str) (y : Value) : Prop := ∃ t, y = .str r t
theorem elt_int {s₁ : Shared} {I C D : Addr} {oI oC : Obj} {ys : List Value} {r : Int} {ax : Addr} {its : Array Value} {y : Value} {s₂ : Shared} (off : LCg.Off3 I C D news) (hS : LCg.SrcAt h₀ ax its news)
    (q : EltEnd h₀ L m s₁ ((I, oI) :: (C, oC) :: (D, LCg.lst ys) :: news) (IntV r) y s₂) : LCg.CompEnd h₀ L m s₁ I oI C oC D (LCg.lst ys) (LCg.SrcAt h₀ ax its) (fun y news' => KCfEl news r y news') y s₂ := by
  obtain ⟨h', tk', ⟨t, rfl⟩, rfl, F', N'⟩ := q
  exact ⟨h', tk', news, rfl, F', N', off, hS, rfl, t, rfl⟩
theorem elt_str {s₁ : Shared} {I C D : Addr} {oI oC : Obj} {ys : List Value} {r : Str} {ax : Addr} {its : Array Value} {y : Value} {s₂ : Shared} (off : LCg.Off3 I C D news) (hS : LCg.SrcAt h₀ ax its news)
    (q : EltEnd h₀ L m s₁ ((I, oI) :: (C, oC) :: (D, LCg.lst ys) :: news) (StrV r) y s₂) : LCg.CompEnd h₀ L m s₁ I oI C oC D (LCg.lst ys) (LCg.SrcAt h₀ ax its) (fun y news' => KCtEl news r y news') y s₂ := by
  obtain ⟨h', tk', ⟨t, rfl⟩, rfl, F', N'⟩ := q
  exact ⟨h', tk', news, rfl, F', N', off, hS, rfl, t, rfl⟩
theorem comp_ints {Fin : Shared → List Value → List (Addr × Obj) → Prop} {ax : Addr} {vs : List Value} {ns : List Int} {k : Nat} {s₁ : Shared} (g : Int → Int)
    (hh : A.handled = none) (F : Fr h₀ L s₁.heap m) (N : News h₀ L s₁.heap news) (hm : (ax, W.listOf vs.toArray k) ∈ news) (hI : IntsAre vs ns) (hsz : ns.length ≤ sizeLine)
    (turn : ∀ e t I oI C oC D m₂ ys h tk (E' : Value → Shared → Prop), e ∈ ns → LCg.NsObj oC m₂ → m₂ x = some (.int e t) → Fr h₀ L h m → News h₀ L h ((I, oI) :: (C, oC) :: (D, LCg.lst ys) :: news) →
      wpAny (model prog w) A (eval elt (compEnvC scope cl C env)) (EltEnd h₀ L m { s₁ with heap := h, toks := tk } ((I, oI) :: (C, oC) :: (D, LCg.lst ys) :: news) (IntV (g e))) E' { s₁ with heap := h, toks := tk })
    (fin : ∀ g' ys, IntsAre ys (ns.map g) → Fin { s₁ with heap := g' } ys news) :
    LCg.CompSrc prog w A h₀ L m env elt x scope cl Fin (.ref ax) s₁ := by
  refine LCg.CompSrc.ledger hh F N hm ?_ ?_
  · rw [List.size_toArray, hI.length]; exact hsz
  · intro g'
    refine kcf_list g hI ?_ (fun ys hy => fin g' ys hy)
    intro e t I oI C oC D m₂ ys h tk E' he hC hx F' N' off _ _
    exact wpAny_mono (turn e t I oI C oC D m₂ ys h tk E' he hC hx F' N') (fun y s₂ q => elt_int off (.inr ⟨_, hm, rfl, _, rfl⟩) q) fun _ _ e => e
theorem comp_strs {Fin : Shared → List Value → List (Addr × Obj) → Prop} {ax : Addr} {vs : List Value} {ns : List Int} {k : Nat} {s₁ : Shared} (g : Int → Str)
    (hh : A.handled = none) (F : Fr h₀ L s₁.heap m) (N : News h₀ L s₁.heap news) (hm : (ax, W.listOf vs.toArray k) ∈ news) (hI : IntsAre vs ns) (hsz : ns.length ≤ sizeLine)
    (turn : ∀ e t I oI C oC D m₂ ys h tk (E' : Value → Shared → Prop), e ∈ ns → LCg.NsObj oC m₂ → m₂ x = some (.int e t) → Fr h₀ L h m → News h₀ L h ((I, oI) :: (C, oC) :: (D, LCg.lst ys) :: news) →
      wpAny (model prog w) A (eval elt (compEnvC scope cl C env)) (EltEnd h₀ L m { s₁ with heap := h, toks := tk } ((I, oI) :: (C, oC) :: (D, LCg.lst ys) :: news) (StrV (g e))) E' { s₁ with heap := h, toks := tk })
    (fin : ∀ g' ys, CarriedAll ys (ns.map fun k => PyData.str (g k)) → Fin { s₁ with heap := g' } ys news) :
    LCg.CompSrc prog w A h₀ L m env elt x scope cl Fin (.ref ax) s₁ := by
  refine LCg.CompSrc.ledger hh F N hm ?_ ?_
  · rw [List.size_toArray, hI.length]; exact hsz
  · intro g'
    refine kct_list g hI ?_ (fun ys hy _ => fin g' ys hy)
    intro e t I oI C oC D m₂ ys h tk E' he hC hx F' N' off _ _
    exact wpAny_mono (turn e t I oI C oC D m₂ ys h tk E' he hC hx F' N') (fun y s₂ q => elt_str off (.inr ⟨_, hm, rfl, _, rfl⟩) q) fun _ _ e => e
end
end
/-! part C4 -/
section
open PySem PySem.W PyProof.Rows
structure TS where
  hv : List Value
  hn : Nat
  tv : List Value
  tn : Nat
  dt : Tok
  dn : Nat
  pt : Tok
  st : TSt
abbrev dotsOf (d : Int) (dt t2 t3 : Tok) (dn : Nat) : Obj := W.listOf #[.int d dt, .int 46 t2, .int 46 t3] dn
def TSLed (lt ld lh : Addr) (t2 t3 : Tok) (news : LPair) (c : TS) : LPair := (lt, W.listOf c.tv.toArray c.tn) :: (ld, dotsOf c.st.dot c.dt t2 t3 c.dn) :: (lh, W.listOf c.hv.toArray c.hn) :: news
def TSPs (c : TS) : List (Str × Value) := [(Str.ofString "place", .int c.st.place c.pt)]
def TSFacts (c : TS) : Prop := IntsAre c.hv c.st.head ∧ IntsAre c.tv c.st.tail
def TSP (fr re : Int) (pre : List Int) (c : TS) : Prop := c.st = pre.foldl (tstep fr re) ⟨[], 46, [], 0⟩
def TSStored : List Str := [Str.ofString "code", Str.ofString "behind"]
abbrev TSJ (lt ld lh : Addr) (t2 t3 : Tok) (news : LPair) (m₀ : Str → Option Value) (fr re : Int) (pre : List Int) : (Str → Option Value) → LPair → Prop :=
  KstS (TSLed lt ld lh t2 t3 news) TSPs TSFacts (Str.ofString "number") TSStored m₀ (TSP fr re) pre
abbrev TSM (u m₀ : Str → Option Value) (p : Int) (tk : Tok) (z : Str) : Option Value := if z = Str.ofString "place" then some (.int p tk) else if z = Str.ofString "code" then u z else if z = Str.ofString "behind" then u z else m₀ z
theorem ts_m (u m₀ : Str → Option Value) (c : TS) : kstB (fun z => if TSStored.contains z then u z else m₀ z) (TSPs c) = TSM u m₀ c.st.place c.pt := by
  funext z
  show (if z = Str.ofString "place" then _ else (if ([Str.ofString "code", Str.ofString "behind"] : List Str).contains z then u z else m₀ z)) = _
  unfold TSM
  congr 1
  by_cases h : z = Str.ofString "code"
  · subst h; simp
  · by_cases h' : z = Str.ofString "behind"
    · subst h'; simp
    · simp [h, h']
theorem told_len (fr re : Int) (l : List Int) : (l.foldl (tstep fr re) ⟨[], 46, [], 0⟩).head.length ≤ l.length ∧ (l.foldl (tstep fr re) ⟨[], 46, [], 0⟩).tail.length ≤ l.length := by
  have key : ∀ (l : List Int) (st : TSt) (k : Nat), st.head.length ≤ k → st.tail.length ≤ k → (l.foldl (tstep fr re) st).head.length ≤ k + l.length ∧ (l.foldl (tstep fr re) st).tail.length ≤ k + l.length := by
    intro l
    induction l with
    | nil => intro st k h h2; exact ⟨h, h2⟩
    | cons c r ih =>
      intro st k h h2
      rw [List.foldl_cons]
      have e : k + (c :: r).length = (k + 1) + r.length := by rw [List.length_cons]; omega
      rw [e]
      refine ih _ _ ?_ ?_
      · unfold tstep
        dsimp only
        split
        · simp; omega
        · omega
      · unfold tstep
        dsimp only
        split
        · simp; omega
        · split
          · simp; omega
          · omega
  have h := key l ⟨[], 46, [], 0⟩ 0 (Nat.le_refl _) (Nat.le_refl _)
  simpa using h
section
variable {prog : Program} {w : World} {A : Around} {E : Value → Shared → Prop} {s : Shared} {env : Env} {h₀ : Heap} {body : List Stmt} {Q : Flow → Shared → Prop}
theorem loop_told {vs : List Value} {line : List Int} {nn : Nat} {la : Addr} (fr re : Int) {t1 t2 t3 tk0 : Tok} {m₀ : Str → Option Value} {lt ld lh : Addr} {news : LPair}
    (hh : A.handled = none) (hl : (la, W.listOf vs.toArray nn) ∈ news) (hI : IntsAre vs line) (F : Fr h₀ env.locals s.heap m₀) (N : News h₀ env.locals s.heap ((lt, W.listOf #[] 0) :: (ld, dotsOf 46 t1 t2 t3 0) :: (lh, W.listOf #[] 0) :: news)) (hm : m₀ (Str.ofString "place") = some (.int 0 tk0))
    (turn : ∀ (hv : List Value) (hn : Nat) (tv : List Value) (tn : Nat) (dt : Tok) (dn : Nat) (pt : Tok) (hd tl : List Int) (d p : Int) (pre : List Int) (n : Int) t (u : Str → Option Value) h tk own, pre.foldl (tstep fr re) ⟨[], 46, [], 0⟩ = ⟨hd, d, tl, p⟩ → pre.length < line.length → OwnOff own (lt :: ld :: lh :: news.map (·.1)) → IntsAre hv hd → IntsAre tv tl → hv.length < line.length → tv.length < line.length →
      Fr h₀ env.locals h (fun y => if y = Str.ofString "number" then some (.int n t) else TSM u m₀ p pt y) → News h₀ env.locals h ((lt, W.listOf tv.toArray tn) :: (ld, dotsOf d dt t2 t3 dn) :: (lh, W.listOf hv.toArray hn) :: (news ++ own)) →
      wpAny (model prog w) A (execs body env) (InvPostN h₀ env.locals (TSJ lt ld lh t2 t3 news m₀ fr re (pre ++ [n])) own (lt :: ld :: lh :: news.map (·.1)) { s with heap := h, toks := tk } Q) E { s with heap := h, toks := tk })
    (done : ∀ (hv : List Value) (hn : Nat) (tv : List Value) (tn : Nat) (dt : Tok) (dn : Nat) (pt : Tok) (hd tl : List Int) (d p : Int) (u : Str → Option Value) h tk, line.foldl (tstep fr re) ⟨[], 46, [], 0⟩ = ⟨hd, d, tl, p⟩ → IntsAre hv hd → IntsAre tv tl → hv.length ≤ line.length → tv.length ≤ line.length →
      Fr h₀ env.locals h (fun y => if y = Str.ofString "number" then u y else TSM u m₀ p pt y) → News h₀ env.locals h ((lt, W.listOf tv.toArray tn) :: (ld, dotsOf d dt t2 t3 dn) :: (lh, W.listOf hv.toArray hn) :: news) → Q .next { s with heap := h, toks := tk }) :
    wpAny (model prog w) A (pyIter (.ref la)) (fun it s₂ => LoopAtV prog w A h₀ env (Str.ofString "number") body Q E it s₂) E s := by
  refine kst_listL (TSLed lt ld lh t2 t3 news) TSPs TSFacts TSStored (TSP fr re) ⟨[], 0, [], 0, t1, 0, tk0, ⟨[], 46, [], 0⟩⟩ hh (fun c => .tail _ (.tail _ (.tail _ hl))) hI F N ⟨.nil, .nil⟩ ?_ rfl ?_ ?_
  · intro p hp
    rw [List.mem_singleton.mp hp]
    exact hm
  · intro c pre post n t u h tk own e _ hoff hf hp F' N'
    rw [ts_m] at F'
    have hlen := congrArg List.length e
    rw [List.length_append, List.length_cons] at hlen
    have hra := told_len fr re pre
    unfold TSP at hp
    unfold TSFacts at hf
    rw [← hp] at hra
    have h1 := hf.1.length
    have h2 := hf.2.length
    exact turn c.hv c.hn c.tv c.tn c.dt c.dn c.pt c.st.head c.st.tail c.st.dot c.st.place pre n t u h tk own hp.symm (by omega) hoff hf.1 hf.2 (by omega) (by omega) F' N'
  · intro c u h tk hf hp F' N'
    rw [ts_m] at F'
    have hra := told_len fr re line
    unfold TSP at hp
    unfold TSFacts at hf
    rw [← hp] at hra
    have h1 := hf.1.length
    have h2 := hf.2.length
    exact done c.hv c.hn c.tv c.tn c.dt c.dn c.pt c.st.head c.st.tail c.st.dot c.st.place u h tk hp.symm hf.1 hf.2 (by omega) (by omega) F' N'
/-- an array of ints -/
def Grown (a : Array Value) (ns : List Int) : Prop := ∃ us : List Value, a = us.toArray ∧ IntsAre us ns
theorem grown_same {us : List Value} {ns : List Int} (h : IntsAre us ns) : Grown us.toArray ns := ⟨us, rfl, h⟩
theorem grown_push {us : List Value} {ns : List Int} {v : Int} {t : Tok} (h : IntsAre us ns) : Grown (us.toArray.push (.int v t)) (ns ++ [v]) := ⟨us ++ [.int v t], by simp, IntsAre.append h (.cons _ _ .nil)⟩
theorem told_end {m₀ m' : Str → Option Value} {lt ld lh L : Addr} {news own news' : LPair} {ta ha : Array Value} {tn' hn' dn' : Nat} {hd hd' tl tl' : List Int} {d d' p p' fr re : Int} {t2 t3 dt' pt' : Tok} {pre : List Int} {n : Int} {h' : Heap} {s₁ : Shared} {tk : Nat}
    (F : Fr h₀ L h' m') (N : News h₀ L h' ((lt, W.listOf ta tn') :: (ld, dotsOf d' dt' t2 t3 dn') :: (lh, W.listOf ha hn') :: news')) (h1 : ∀ p ∈ news, p ∈ news') (h2 : ∀ p ∈ own, p ∈ news')
    (hm : m' (Str.ofString "place") = some (.int p' pt')) (hH : Grown ha hd') (hT : Grown ta tl') (hst : pre.foldl (tstep fr re) ⟨[], 46, [], 0⟩ = ⟨hd, d, tl, p⟩)
    (e1 : (if p + siz n ≤ fr then hd ++ [n % 256] else hd) = hd') (e2 : (if ¬ p + siz n ≤ fr ∧ p < fr then cutF n (fr - p) else d) = d')
    (e3 : (if p ≥ re then tl ++ [n % 256] else if p + siz n > re then tl ++ [cutR n (re - p)] else tl) = tl') (e4 : p + siz n = p')
    (hr : ∀ z, z ≠ Str.ofString "number" → z ≠ Str.ofString "place" → z ≠ Str.ofString "code" → z ≠ Str.ofString "behind" → m' z = m₀ z) :
    InvEndN h₀ L (TSJ lt ld lh t2 t3 news m₀ fr re (pre ++ [n])) own (lt :: ld :: lh :: news.map (·.1)) s₁ { s₁ with heap := h', toks := tk } := by
  obtain ⟨hv, rfl, hH⟩ := hH
  obtain ⟨tv, rfl, hT⟩ := hT
  refine kst_end (Led := TSLed lt ld lh t2 t3 news) (ps := TSPs) (Facts := TSFacts) (stored := TSStored) (P := TSP fr re) (TS.mk hv hn' tv tn' dt' dn' pt' ⟨hd', d', tl', p'⟩) F N ?_ ?_ rfl ⟨hH, hT⟩ ?_ ?_ ?_
  · intro q hq
    rcases List.mem_cons.mp hq with rfl | hq
    · exact .head _
    · rcases List.mem_cons.mp hq with rfl | hq
      · exact .tail _ (.head _)
      · rcases List.mem_cons.mp hq with rfl | hq
        · exact .tail _ (.tail _ (.head _))
        · exact .tail _ (.tail _ (.tail _ (h1 q hq)))
  · intro q hq
    exact .tail _ (.tail _ (.tail _ (h2 q hq)))
  · intro q hq
    rw [List.mem_singleton.mp hq]
    exact hm
  · intro z hz hz2 hz3
    refine hr z hz (hz2 _ (.head _)) ?_ ?_
    · intro e
      subst e
      exact absurd hz3 (by decide +kernel)
    · intro e
      subst e
      exact absurd hz3 (by decide +kernel)
  · unfold TSP
    rw [List.foldl_append, hst]
    subst e1 e2 e3 e4
    rfl
theorem newsHead {L : Addr} {h : Heap} {p : Addr × Obj} {news rest : LPair} (N : News h₀ L h (p :: rest)) (hs : ∀ q ∈ news, q ∈ rest) : News h₀ L h ([p] ++ news) := by
  intro q hq
  rcases List.mem_cons.mp hq with rfl | hq
  · exact N _ (.head _)
  · exact N _ (.tail _ (hs q hq))
end
/-- what is told comes back: a list of ints -/
def IsTold (line : List Int) (tot wd : Int) (r : Value) (tl : LPair) : Prop :=
  ∃ (D : Addr) (us : List Value) (k : Nat), r = .ref D ∧ tl = [(D, W.listOf us.toArray k)] ∧ IntsAre us (toldL line tot wd)
theorem told_whole {line : List Int} {tot wd : Int} (h : tot ≤ wd) : line.map (fun x => x % 256) = toldL line tot wd := by unfold toldL; rw [if_pos h]
theorem told_parts {line : List Int} {tot wd : Int} (h : ¬ tot ≤ wd) {hd tl : List Int} {d p : Int}
    (hst : line.foldl (tstep ((if 0 > wd - 3 then 0 else wd - 3).fdiv 2) (tot - ((if 0 > wd - 3 then 0 else wd - 3) + 1).fdiv 2)) ⟨[], 46, [], 0⟩ = ⟨hd, d, tl, p⟩) : hd ++ [d, 46, 46] ++ tl = toldL line tot wd := by
  have er : (if 0 > wd - 3 then 0 else wd - 3) = room wd := by
    unfold room
    by_cases c : 0 > wd - 3
    · rw [if_pos c]; omega
    · rw [if_neg c]; omega
  rw [er, fd _ (by decide), fd _ (by decide)] at hst
  unfold toldL toldS
  rw [if_neg h, hst]
variable {w : World} {mean : ExcName → Option Value} {mg mb : Str → Option Value}
local macro_rules | `(tactic| walk_at "InvEndN") => `(tactic| refine halt ?_)
local macro_rules | `(tactic| walk_at "pyIter ref") => `(tactic| refine halt ?_)
local macro_rules | `(tactic| walk_at "CompSrc") => `(tactic| refine halt ?_)
local macro_rules | `(tactic| walk_at "eval ListComp") => `(tactic| (k_here; k_dflt (refine LCg.ListComp_U (F₀ := by k_asm) (by with_unfolding_all rfl) (by decide) (by rfl) (by decide) (by rfl) ?_)))
local macro_rules | `(tactic| walk_at "exec For Name Name cons nil") => `(tactic| (k_here; (rename Fr _ _ _ _ => lF'); (with_unfolding_all refine' For_invVF lF' ?k1 ?k2 ?_; (case k1 => exact rfl); (case k2 => exact rfl); k_whole)))
local macro_rules | `(tactic| walk_at "call ref") => `(tactic| (k_here; k_dflt (refine' (size_c _ _).use ?k1 ?k2 ?k3 ?k4 ?k5 ?k6 ?k7 ?k8 ?k9 ?_; (case k1 => k_asm); (case k2 => k_asm); (case k3 => k_asm); (case k4 => k_asm); (case k5 => k_asm); (case k6 => first | exact rfl | assumption); (case k7 => first | exact trivial | assumption | omega); (case k8 => ktr_room); (case k9 => ktr_units); k_whole); (intro r' tl' h' tk' F' N' hP'; obtain ⟨e1', t', e2'⟩ := hP'; subst e1'; subst e2'; (try simp only [List.nil_append] at N'); (try dsimp only); (try k_sweep))))
local macro_rules | `(tactic| walk_at "call ref") => `(tactic| (k_here; k_dflt (refine' (bare_c _ _).use ?k1 ?k2 ?k3 ?k4 ?k5 ?k6 ?k7 ?k8 ?k9 ?_; (case k1 => k_asm); (case k2 => k_asm); (case k3 => k_asm); (case k4 => k_asm); (case k5 => k_asm); (case k6 => first | exact rfl | assumption); (case k7 => first | exact trivial | assumption | omega); (case k8 => ktr_room); (case k9 => ktr_units); k_whole); (intro r' tl' h' tk' F' N' hP'; obtain ⟨e1', t', e2'⟩ := hP'; subst e1'; subst e2'; (try simp only [List.nil_append] at N'); (try dsimp only); (try k_sweep))))
set_option maxRecDepth 100000 in
set_option maxHeartbeats 8000000 in
theorem told_c (la : Addr) (vs : List Value) (nn : Nat) (line : List Int) (tot wd : Int) (t1 t2 : Tok) (hI : IntsAre vs line) (hlen : line.length ≤ 20) : Ctr w mean mg mb 89 3 (fun news => (la, W.listOf vs.toArray nn) ∈ news) [.ref la, .int tot t1, .int wd t2] (IsTold line tot wd) := by
  intro dp un gd cn cs a ccd cl outer A₀ base h₀ L m news s Q E B F X N T hk hp hd hu hret
  w_top off
  refine wpAny_call ?_
  k_dflt cell_enter
  k_steps
  all_goals unfold Halt
  · skip
    k_dflt refine comp_ints (· % 256) rfl (by k_asm) (by k_asm) hp hI (by rw [PySem.sizeLine_eq]; omega) ?_ ?_
    · intro e t I oI C oC D m₂ ys h tk E' he hC hx F' N'
      k_steps
      exact EltEnd.intro ⟨_, congrArg (fun v => Value.int v _) (fm e (by decide))⟩ (by k_asm) (by k_asm)
    · intro g' ys hy D h tk F' N' _
      k_steps
      exact hret _ [_] _ _ (by k_asm) (by k_asm) ⟨_, _, _, rfl, rfl, told_whole (line := line) (by assumption) ▸ hy⟩
  · rename Fr _ _ _ _ => lF'
    rename News _ _ _ _ => lN'
    k_dflt refine loop_told ((if 0 > wd - 3 then 0 else wd - 3).fdiv 2) (tot - ((if 0 > wd - 3 then 0 else wd - 3) + 1).fdiv 2) rfl hp hI lF' lN' rfl ?turn ?done
    case done =>
      clear lF' lN'
      intro hv hn tv tn dt dn pt hd tl d p u h tk hst hH hT hl1 hl2 F' N'
      k_steps
      refine hret _ [_] _ _ (by k_asm) (newsHead (by k_asm) (by intro p hp; simp [hp])) ⟨_, _, _, rfl, rfl, ?_⟩
      rw [← told_parts (by assumption) hst]
      exact IntsAre.append (IntsAre.append hH (.cons _ _ (.cons _ _ (.cons _ _ .nil)))) hT
    case turn =>
      clear lF' lN'
      intro hv hn tv tn dt dn pt hd tl d p pre n t u h tk own hst hpl hoff hH hT hl1 hl2 F' N'
      have hMk := kstMark
      have e256 := fm n (k := 256) (by decide)
      k_steps
      all_goals (unfold Halt; refine told_end (by k_asm) (by k_asm) (by intro p hp; simp [hp]) (by intro p hp; simp [hp]) (by rfl) (by first | exact grown_same hH | exact grown_push hH) (by first | exact grown_same hT | exact grown_push hT) hst ?_ ?_ ?_ rfl ?_)
      all_goals first
        | (intro z h1 h2 h3 h4; simp only [TSM, if_neg h1, if_neg h2, if_neg h3, if_neg h4]; done)
        | (rw [if_pos (by omega), e256]; done)
        | (rw [if_neg (by omega)]; done)
        | (rw [if_pos (by omega), cutF, if_pos (by omega)]; done)
        | (rw [if_pos (by omega), cutF, if_neg (by omega), if_pos (by omega)]; done)
        | (rw [if_pos (by omega), cutF, if_neg (by omega), if_neg (by omega)]; done)
        | (rw [if_neg (by omega), if_pos (by omega), cutR, if_pos (by omega), e256]; done)
        | (rw [if_neg (by omega), if_pos (by omega), cutR, if_neg (by omega)]; done)
        | (rw [if_neg (by omega), if_neg (by omega)]; done)
        | skip
end
/-! part L0 -/
section
open PySem PySem.W PySem.Calls PyProof.Rows
theorem join_fold (r : List Int) : ∀ acc : List Nat, (r.map fun x => S (unc x)).foldl (fun a p => a ++ (Str.ofString "").cps ++ p.cps) acc.toArray = (acc ++ textL r).toArray := by
  have e0 : (Str.ofString "").cps = #[] := by decide +kernel
  induction r with
  | nil => intro acc; simp [textL]
  | cons x r ih =>
    intro acc
    rw [List.map_cons, List.foldl_cons, e0]
    have e1 : acc.toArray ++ #[] ++ (S (unc x)).cps = (acc ++ unc x).toArray := by simp
    have e2 : textL (x :: r) = unc x ++ textL r := rfl
    rw [e1, ← e0, ih, e2, List.append_assoc]
theorem join_text (l : List Int) : Txt.join (Str.ofString "") (l.map fun x => S (unc x)) = S (textL l) := by
  cases l with
  | nil => rfl
  | cons x r =>
    show (⟨(r.map fun x => S (unc x)).foldl (fun a p => a ++ (Str.ofString "").cps ++ p.cps) (unc x).toArray⟩ : Str) = _
    rw [join_fold]
    rfl
theorem unc_le (x : Int) : (S (unc x)).length ≤ 3 := by
  have h := unc_len x
  have h2 := siz_pos x
  rw [S_len]
  omega
theorem drawn_facts {ys : List Value} {ns : List Int} (h : IntsAre ys (ns.map num)) (hl : ns.length ≤ 10) : ∃ dr : List Int, IntsAre ys dr ∧ dr.length ≤ 10 ∧ ∀ x ∈ dr, Good x := by
  refine ⟨_, h, by simpa using hl, ?_⟩
  intro x hx
  obtain ⟨y, _, rfl⟩ := List.mem_map.mp hx
  exact num_good y
theorem total_in (l : List Int) : 0 ≤ (l.map siz).sum ∧ (l.map siz).sum ≤ 3 * l.length := by
  induction l with
  | nil => simp
  | cons x r ih =>
    have h := siz_pos x
    rw [List.map_cons, List.sum_cons, List.length_cons]
    omega
/-- the loop over the widths: nothing is kept -/
def WStored : List Str := [Str.ofString "crammed"]
abbrev WJ (led : LPair) (m₀ : Str → Option Value) (pre : List Int) : (Str → Option Value) → LPair → Prop :=
  KstS (fun _ : Unit => led) (fun _ => []) (fun _ => True) (Str.ofString "wide") WStored m₀ (fun _ _ => True) pre
theorem w_m (u m₀ : Str → Option Value) : kstB (fun z => if WStored.contains z then u z else m₀ z) [] = fun z => if z = Str.ofString "crammed" then u z else m₀ z := by
  funext z
  show (if ([Str.ofString "crammed"] : List Str).contains z then u z else m₀ z) = _
  by_cases h : z = Str.ofString "crammed"
  · subst h; simp
  · simp [h]
section
variable {prog : Program} {w : World} {A : Around} {E : Value → Shared → Prop} {s : Shared} {env : Env} {h₀ : Heap} {body : List Stmt} {Q : Flow → Shared → Prop}
theorem loop_wide {vs : List Value} {ns : List Int} {nn : Nat} {la : Addr} {m₀ : Str → Option Value} (led : LPair)
    (hh : A.handled = none) (hl : (la, W.listOf vs.toArray nn) ∈ led) (hI : IntsAre vs ns) (F : Fr h₀ env.locals s.heap m₀) (N : News h₀ env.locals s.heap led)
    (turn : ∀ (pre : List Int) (n : Int) t (u : Str → Option Value) h tk own, OwnOff own (led.map (·.1)) →
      Fr h₀ env.locals h (fun y => if y = Str.ofString "wide" then some (.int n t) else if y = Str.ofString "crammed" then u y else m₀ y) → News h₀ env.locals h (led ++ own) →
      wpAny (model prog w) A (execs body env) (InvPostN h₀ env.locals (WJ led m₀ (pre ++ [n])) own (led.map (·.1)) { s with heap := h, toks := tk } Q) E { s with heap := h, toks := tk })
    (done : ∀ (u : Str → Option Value) h tk, Fr h₀ env.locals h (fun y => if y = Str.ofString "wide" then u y else if y = Str.ofString "crammed" then u y else m₀ y) → News h₀ env.locals h led → Q .next { s with heap := h, toks := tk }) :
    wpAny (model prog w) A (pyIter (.ref la)) (fun it s₂ => LoopAtV prog w A h₀ env (Str.ofString "wide") body Q E it s₂) E s := by
  refine kst_listL (fun _ : Unit => led) (fun _ => []) (fun _ => True) WStored (fun _ _ => True) () hh (fun _ => hl) hI F N trivial (fun p hp => nomatch hp) trivial ?_ ?_
  · intro c pre post n t u h tk own _ _ hoff _ _ F' N'
    rw [w_m] at F'
    exact turn pre n t u h tk own hoff F' N'
  · intro c u h tk _ _ F' N'
    rw [w_m] at F'
    exact done u h tk F' N'
theorem loop_wide2 {vs : List Value} {ns : List Int} {nn : Nat} {la D : Addr} {od : Obj} {m₀ : Str → Option Value} {rest : LPair}
    (hh : A.handled = none) (N : News h₀ env.locals s.heap ((la, W.listOf vs.toArray nn) :: rest)) (F : Fr h₀ env.locals s.heap m₀) (hI : IntsAre vs ns) (hD : (D, od) ∈ rest)
    (turn : ∀ (pre : List Int) (n : Int) t (u : Str → Option Value) h tk own, OwnOff own [la, D] →
      Fr h₀ env.locals h (fun y => if y = Str.ofString "wide" then some (.int n t) else if y = Str.ofString "crammed" then u y else m₀ y) → News h₀ env.locals h ((la, W.listOf vs.toArray nn) :: (D, od) :: own) →
      wpAny (model prog w) A (execs body env) (InvPostN h₀ env.locals (WJ [(la, W.listOf vs.toArray nn), (D, od)] m₀ (pre ++ [n])) own [la, D] { s with heap := h, toks := tk } Q) E { s with heap := h, toks := tk })
    (done : ∀ (u : Str → Option Value) h tk, Fr h₀ env.locals h (fun y => if y = Str.ofString "wide" then u y else if y = Str.ofString "crammed" then u y else m₀ y) → News h₀ env.locals h [(la, W.listOf vs.toArray nn), (D, od)] → Q .next { s with heap := h, toks := tk }) :
    wpAny (model prog w) A (pyIter (.ref la)) (fun it s₂ => LoopAtV prog w A h₀ env (Str.ofString "wide") body Q E it s₂) E s := by
  refine loop_wide [(la, W.listOf vs.toArray nn), (D, od)] hh (.head _) hI F (newsDrop N ?_) turn done
  intro p hp
  rcases List.mem_cons.mp hp with rfl | hp
  · exact .head _
  · rw [List.mem_singleton.mp hp]
    exact .tail _ hD
theorem wide_end {m₀ m' : Str → Option Value} {L : Addr} {led own news' : LPair} {pre : List Int} {h' : Heap} {s₁ : Shared} {tk : Nat}
    (F : Fr h₀ L h' m') (N : News h₀ L h' news') (h1 : ∀ p ∈ led, p ∈ news') (h2 : ∀ p ∈ own, p ∈ news') (hr : ∀ z, z ≠ Str.ofString "wide" → z ≠ Str.ofString "crammed" → m' z = m₀ z) :
    InvEndN h₀ L (WJ led m₀ pre) own (led.map (·.1)) s₁ { s₁ with heap := h', toks := tk } := by
  refine kst_end (Led := fun _ : Unit => led) (ps := fun _ => []) (Facts := fun _ => True) (stored := WStored) (P := fun _ _ => True) () F N h1 h2 rfl trivial (fun p hp => nomatch hp) ?_ trivial
  intro z hz _ hz3
  refine hr z hz ?_
  intro e
  subst e
  exact absurd hz3 (by decide +kernel)
end
section
variable {prog : Program} {w : World} {A : Around} {E : Value → Shared → Prop} {s : Shared} {h₀ : Heap} {L : Addr} {news : LPair}
abbrev pairOf (l : Addr) (t : Tok) (k : Nat) : Obj := { cls := Value.type "tuple", data := Data.seq #[Value.ref l, Value.str (Str.ofString "") t] k }
theorem pair_shaped (ns : List Int) : SeqAt.shaped (.tuple [.list (ns.map PyData.int), .str (Str.ofString "")]) = true := by
  have e : PyData.strOk (Str.ofString "") = true := by decide +kernel
  simp [SeqAt.shaped, PyData.canLay0, PyData.canLayAll0, PyData.depth, PyData.depthAll, ke_canLayAll0, ke_depthAll, e]
/-- two pairs with the same ints are not unequal -/
theorem ne_pair {a b la lb : Addr} {xs ys : List Value} {ns : List Int} {ta tb : Tok} {ka kb na nb : Nat} {Q : Value → Shared → Prop} (N : News h₀ L s.heap news)
    (ha : (a, pairOf la ta na) ∈ news) (hb : (b, pairOf lb tb nb) ∈ news) (hla : (la, W.listOf xs.toArray ka) ∈ news) (hlb : (lb, W.listOf ys.toArray kb) ∈ news)
    (hi : IntsAre xs ns) (hj : IntsAre ys ns) (hu : A.units + 64 < cLine) (h : Q (.bool false) s) : wpAny (model prog w) A (compareOp .NotEq (.ref a) (.ref b)) Q E s := by
  have ra : Reads s.heap (.ref a) (.tuple [.list (ns.map PyData.int), .str (Str.ofString "")]) _ :=
    reads_tuple_at (News.get N ha) rfl rfl (.cons (reads_newData ⟨_, News.get N hla, rfl, _, rfl⟩ (ke_carried hi)) (.cons (Reads.str _ _) .nil))
  have rb : Reads s.heap (.ref b) (.tuple [.list (ns.map PyData.int), .str (Str.ofString "")]) _ :=
    reads_tuple_at (News.get N hb) rfl rfl (.cons (reads_newData ⟨_, News.get N hlb, rfl, _, rfl⟩ (ke_carried hj)) (.cons (Reads.str _ _) .nil))
  refine ne_dataH ra rb (pair_shaped ns) (pair_shaped ns) hu ?_
  have e := ked_eqvAll ns ns
  simp only [PyData.eqv, PyData.eqvAll, e, decide_true, beq_self_eq_true, Bool.and_true, Bool.not_true]
  exact h
end
theorem text_fits {dr : List Int} (h : dr.length ≤ 10) : (S (textL dr)).length ≤ 60 := by
  have h1 := text_len dr
  have h2 := total_in dr
  unfold total at h1
  rw [S_len]
  omega
theorem cram_fits (l : List Nat) (n : Int) (h : (S l).length ≤ 60) : (S (cramL l n)).length ≤ 100 := by
  rw [S_len] at *
  unfold cramL
  split
  · simp; omega
  · omega
/-- the reading of the crammed line, by the plain law -/
def IsRead2 (dr : List Int) (n : Int) (r : Value) (tl : LPair) : Prop :=
  ∃ (D lc : Addr) (vs : List Value) (nn : Nat) (tk1 : Tok), r = .ref D ∧ tl = [(D, { cls := Value.type "tuple", data := Data.seq #[Value.ref lc, Value.str (Str.ofString "") tk1] }), (lc, W.listOf vs.toArray nn)] ∧ IntsAre vs (toldL dr (dr.map siz).sum n)
variable {w : World} {mean : ExcName → Option Value} {mg mb : Str → Option Value}
theorem reading_law (dr : List Int) (n : Int) (t : Tok) (hg : ∀ x ∈ dr, Good x) (hl : dr.length ≤ 10) : Ctr w mean mg mb 84 3 Any [.str (S (cramL (textL dr) n)) t] (IsRead2 dr n) := by
  intro dp un gd cn cs a ccd cl outer A₀ base h₀ L m news s Q E B F X N T hk hp hd hu hret
  refine reading_c _ t (cram_fits _ n (text_fits hl)) dp un gd cn cs a ccd cl outer A₀ base h₀ L m news s Q E B F X N T hk hp hd hu ?_
  intro r tl h' tk' F' N' hP
  refine hret r tl h' tk' F' N' ?_
  obtain ⟨D, lc, vs, nn, tk1, e1, e2, hI⟩ := hP
  rw [plain_law dr n hg] at e2 hI
  have e0 : S [] = Str.ofString "" := by decide +kernel
  refine ⟨D, lc, vs, nn, tk1, e1, ?_, hI⟩
  rw [e2, ← e0]
end
end Mine
/-! the law -/
open PySem PySem.W PyProof.Rows Mine
local macro_rules | `(tactic| walk_at "CompSrc") => `(tactic| refine halt ?_)
local macro_rules | `(tactic| walk_at "call builtin:str.join") => `(tactic| refine halt ?_)
local macro_rules | `(tactic| walk_at "eval ListComp") => `(tactic| (k_here; k_dflt (refine LCg.ListComp_U (F₀ := by k_asm) (by with_unfolding_all rfl) (by decide) (by rfl) (by decide) (by rfl) ?_)))
local macro_rules | `(tactic| walk_at "exec Assign cons ListComp") => `(tactic| (k_here; k_dflt (refine LCg.Assign_ListComp_U (F₀ := by k_asm) (by rfl) (by with_unfolding_all rfl) (by with_unfolding_all rfl) (by decide) (by rfl) (by decide) (by rfl) (by rfl) (by rfl) ?_)))
local macro_rules | `(tactic| walk_at "pyIter ref") => `(tactic| refine halt ?_)
local macro_rules | `(tactic| walk_at "exec For") => `(tactic| (k_here; (rename Fr _ _ _ _ => lF'); (with_unfolding_all refine' For_invVF lF' ?k1 ?k2 ?_; (case k1 => exact rfl); (case k2 => exact rfl); k_whole)))
local macro_rules | `(tactic| walk_at "exec For Name BinOp cons nil") => `(tactic| (k_here; (rename Fr _ _ _ _ => lF'); (with_unfolding_all refine' For_invVF lF' ?k1 ?k2 ?_; (case k1 => exact rfl); (case k2 => exact rfl); k_whole)))
local macro_rules | `(tactic| walk_at "compareOp NotEq ref ref") => `(tactic| refine halt ?_)
local macro_rules | `(tactic| walk_at "InvEndN") => `(tactic| refine halt ?_)
local macro_rules | `(tactic| walk_at "call ref") => `(tactic| (k_here; k_dflt (refine' (number_c _ _).use ?k1 ?k2 ?k3 ?k4 ?k5 ?k6 ?k7 ?k8 ?k9 ?_; (case k1 => k_asm); (case k2 => k_asm); (case k3 => k_asm); (case k4 => k_asm); (case k5 => k_asm); (case k6 => first | exact rfl | assumption); (case k7 => first | exact trivial | assumption | omega); (case k8 => ktr_room); (case k9 => ktr_units); k_whole); (intro r' tl' h' tk' F' N' hP'; obtain ⟨e1', t', e2'⟩ := hP'; subst e1'; subst e2'; (try simp only [List.nil_append] at N'); (try dsimp only); (try k_sweep))))
local macro_rules | `(tactic| walk_at "call ref") => `(tactic| (k_here; k_dflt (refine' (size_c _ _).use ?k1 ?k2 ?k3 ?k4 ?k5 ?k6 ?k7 ?k8 ?k9 ?_; (case k1 => k_asm); (case k2 => k_asm); (case k3 => k_asm); (case k4 => k_asm); (case k5 => k_asm); (case k6 => first | exact rfl | assumption); (case k7 => first | exact trivial | assumption | omega); (case k8 => ktr_room); (case k9 => ktr_units); k_whole); (intro r' tl' h' tk' F' N' hP'; obtain ⟨e1', t', e2'⟩ := hP'; subst e1'; subst e2'; (try simp only [List.nil_append] at N'); (try dsimp only); (try k_sweep))))
local macro_rules | `(tactic| walk_at "call ref") => `(tactic| (k_here; k_dflt (refine' (unctrl_c _ _).use ?k1 ?k2 ?k3 ?k4 ?k5 ?k6 ?k7 ?k8 ?k9 ?_; (case k1 => k_asm); (case k2 => k_asm); (case k3 => k_asm); (case k4 => k_asm); (case k5 => k_asm); (case k6 => first | exact rfl | assumption); (case k7 => first | exact trivial | assumption | omega); (case k8 => ktr_room); (case k9 => ktr_units); k_whole); (intro r' tl' h' tk' F' N' hP'; obtain ⟨e1', t', e2'⟩ := hP'; subst e1'; subst e2'; (try simp only [List.nil_append] at N'); (try dsimp only); (try k_sweep))))
local macro_rules | `(tactic| walk_at "call ref") => `(tactic| (k_here; k_dflt (refine' (cram_c _ _ _ _ ?kx).use ?k1 ?k2 ?k3 ?k4 ?k5 ?k6 ?k7 ?k8 ?k9 ?_; (case k1 => k_asm); (case k2 => k_asm); (case k3 => k_asm); (case k4 => k_asm); (case k5 => k_asm); (case k6 => first | exact rfl | assumption); (case k7 => exact trivial); (case k8 => ktr_room); (case k9 => ktr_units); (case kx => exact text_fits (by assumption)); k_whole); (intro r' tl' h' tk' F' N' hP'; obtain ⟨e1', t', e2'⟩ := hP'; subst e1'; subst e2'; (try simp only [List.nil_append, List.cons_append] at N'); (try dsimp only); (try k_sweep))))
local macro_rules | `(tactic| walk_at "call ref") => `(tactic| (k_here; k_dflt (refine' (reading_law _ _ _ ?kx ?ky).use ?k1 ?k2 ?k3 ?k4 ?k5 ?k6 ?k7 ?k8 ?k9 ?_; (case k1 => k_asm); (case k2 => k_asm); (case k3 => k_asm); (case k4 => k_asm); (case k5 => k_asm); (case k6 => first | exact rfl | assumption); (case k7 => exact trivial); (case k8 => ktr_room); (case k9 => ktr_units); (case kx => assumption); (case ky => assumption); k_whole); (intro r' tl' h' tk' F' N' hP'; unfold IsRead2 at hP'; obtain ⟨D', lc', vs', nn', tk1', e1', e2', hI'⟩ := hP'; subst e1'; subst e2'; (try simp only [List.nil_append, List.cons_append] at N'); (try dsimp only); (try k_sweep))))
local macro_rules | `(tactic| walk_at "call ref") => `(tactic| (k_here; k_dflt (refine' (told_c _ _ _ _ _ _ _ _ ?kx ?ky).use ?k1 ?k2 ?k3 ?k4 ?k5 ?k6 ?k7 ?k8 ?k9 ?_; (case k1 => k_asm); (case k2 => k_asm); (case k3 => k_asm); (case k4 => k_asm); (case k5 => k_asm); (case k6 => first | exact rfl | assumption); (case k7 => k_mem); (case k8 => ktr_room); (case k9 => ktr_units); (case kx => assumption); (case ky => omega); k_whole); (intro r' tl' h' tk' F' N' hP'; unfold IsTold at hP'; obtain ⟨D', us', kk', e1', e2', hI'⟩ := hP'; subst e1'; subst e2'; (try simp only [List.nil_append, List.cons_append] at N'); (try dsimp only); (try k_sweep))))
set_option maxRecDepth 100000 in
set_option maxHeartbeats 8000000 in
theorem PySem.Challenge.cw_mq0059_01_holds : PySem.Challenge.rw_mq0059_01.Holds :=
  Mine.hd (by
  k_go0
  all_goals try k_fold
  k_steps
  unfold Halt
  k_dflt refine comp_ints num rfl (by k_asm) (by k_asm) (by k_mem) (by assumption) (by rw [PySem.sizeLine_eq]; simp; omega) ?_ ?_
  · intro e t I oI C oC D m₂ ys h tk E' he hC hx F' N'
    k_steps
    exact EltEnd.intro ⟨_, rfl⟩ (by k_asm) (by k_asm)
  · intro g' ys hy D h tk F' N' _
    obtain ⟨dr, hy2, hdl, hdg⟩ := drawn_facts hy (by simp; omega)
    clear hy
    rename IntsAre ys dr => hy
    k_steps
    unfold Halt
    k_dflt refine comp_ints siz rfl (by k_asm) (by k_asm) (by k_mem) hy (by rw [PySem.sizeLine_eq]; omega) ?_ ?_
    · intro e t I oI C oC D m₂ ys h tk E' he hC hx F' N'
      k_steps
      exact EltEnd.intro ⟨_, rfl⟩ (by k_asm) (by k_asm)
    · intro g' ys2 hy2 D2 h tk F' N' _
      k_steps
      unfold Halt
      k_dflt refine comp_strs (fun x => S (unc x)) rfl (by k_asm) (by k_asm) (by k_mem) hy (by rw [PySem.sizeLine_eq]; omega) ?_ ?_
      · intro e t I oI C oC D m₂ ys h tk E' he hC hx F' N'
        k_steps
        exact EltEnd.intro ⟨_, rfl⟩ (by k_asm) (by k_asm)
      · intro g' ys3 hy3 D3 h tk F' N' _
        k_steps
        unfold Halt
        have htot := total_in dr
        refine KT.join_B 3 (News.isList (by k_asm) (by k_mem)) hy3 (fun a _ => unc_le a) (by omega) (by decide) ?_
        intro t' k
        rw [join_text]
        k_steps
        unfold Halt
        k_dflt refine loop_wide2 (D := D) rfl (by k_asm) (by k_asm) (by assumption) (by k_mem) ?_ ?_
        · intro pre n t u h tk own hoff F' N'
          k_steps
          unfold Halt
          k_dflt refine' ne_pair ?k1 ?k2 ?k3 ?k4 ?k5 ?k6 ?k7 ?k8 ?_
          case k1 => k_asm
          case k2 => k_mem
          case k3 => k_mem
          case k4 => k_mem
          case k5 => k_mem
          case k6 => assumption
          case k7 => assumption
          case k8 => exact Nat.le_of_ble_eq_true rfl
          k_steps
          unfold Halt
          refine wide_end (by k_asm) (by k_asm) ?_ ?_ ?_
          · intro p hp
            rcases List.mem_cons.mp hp with e | hp
            · simp [e]
            · simp [List.mem_singleton.mp hp]
          · intro p hp
            simp [hp]
          · intro z h1 h2
            simp only [if_neg h1, if_neg h2]
        · intro u h tk F' N'
          k_steps)
