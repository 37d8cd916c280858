import PyProof.Rows.All
import Wide.All
import OpenK.AllK
import Wide.FinOn
import PySem.Challenge.RW_oc0163_01

section
set_option autoImplicit false
namespace Mine
open PySem PySem.Builtin PySem.Builtin.Str
abbrev cp (x : Str) : List Nat := x.cps.toList
abbrev tx (l : List Nat) : Str := ⟨l.toArray⟩
theorem cp_tx (l : List Nat) : cp (tx l) = l := rfl
theorem tx_cp (x : Str) : tx (cp x) = x := rfl
theorem cp_inj {x y : Str} (h : cp x = cp y) : x = y := by
  rw [← tx_cp x, ← tx_cp y, h]
theorem len_cp (x : Str) : x.length = (cp x).length := by simp [Str.length, cp]
def jn (c : Nat) : List (List Nat) → List Nat
  | [] => []
  | [x] => x
  | x :: y :: r => x ++ c :: jn c (y :: r)
theorem cp_join (c : Nat) : ∀ rows : List Str, cp (Str.join (tx [c]) rows) = jn c (rows.map cp)
  | [] => rfl
  | [x] => rfl
  | x :: y :: r => by
    have ih := cp_join c (y :: r)
    show cp (x ++ tx [c] ++ Str.join (tx [c]) (y :: r)) = cp x ++ c :: jn c (cp y :: r.map cp)
    rw [show jn c (cp y :: r.map cp) = cp (Str.join (tx [c]) (y :: r)) from ih.symm]
    simp [cp, Str.cps_append]
theorem cut_eq {c : Nat} : ∀ {x y r s : List Nat}, c ∉ x → c ∉ y → x ++ c :: r = y ++ c :: s → x = y ∧ r = s
  | [], [], _, _, _, _, h => ⟨rfl, by simpa using h⟩
  | [], b :: y, _, _, _, hy, h => by
    simp only [List.nil_append, List.cons_append, List.cons.injEq] at h
    exact absurd (h.1 ▸ List.mem_cons_self) hy
  | a :: x, [], _, _, hx, _, h => by
    simp only [List.nil_append, List.cons_append, List.cons.injEq] at h
    exact absurd (h.1 ▸ List.mem_cons_self) hx
  | a :: x, b :: y, r, s, hx, hy, h => by
    simp only [List.cons_append, List.cons.injEq] at h
    obtain ⟨h1, h2⟩ := cut_eq (fun q => hx (List.mem_cons_of_mem _ q)) (fun q => hy (List.mem_cons_of_mem _ q)) h.2
    exact ⟨by rw [h.1, h1], h2⟩
theorem jn_inj {c : Nat} : ∀ {xs ys : List (List Nat)}, xs ≠ [] → ys ≠ [] → (∀ x ∈ xs, c ∉ x) → (∀ y ∈ ys, c ∉ y) → jn c xs = jn c ys → xs = ys
  | [], _, h, _, _, _, _ => absurd rfl h
  | _, [], _, h, _, _, _ => absurd rfl h
  | [x], [y], _, _, _, _, h => by rw [show x = y from h]
  | [x], y :: z :: r, _, _, hx, _, h => by
    have h' : x = y ++ c :: jn c (z :: r) := h
    exact absurd (by rw [h']; simp) (hx x (List.mem_cons_self))
  | x :: z :: r, [y], _, _, _, hy, h => by
    have h' : x ++ c :: jn c (z :: r) = y := h
    exact absurd (by rw [← h']; simp) (hy y (List.mem_cons_self))
  | x :: z :: r, y :: z' :: r', _, _, hx, hy, h => by
    have h' : x ++ c :: jn c (z :: r) = y ++ c :: jn c (z' :: r') := h
    obtain ⟨h1, h2⟩ := cut_eq (hx x List.mem_cons_self) (hy y List.mem_cons_self) h'
    have := jn_inj (xs := z :: r) (ys := z' :: r') (by simp) (by simp) (fun q hq => hx q (List.mem_cons_of_mem _ hq)) (fun q hq => hy q (List.mem_cons_of_mem _ hq)) h2
    rw [h1, this]
theorem split_ne (x y : Str) : Txt.split x y ≠ [] := by
  unfold Txt.split
  split
  · simp
  · split
    · simp
    · rw [StrLaws.partsBetween_eq]
      obtain ⟨p, r, e⟩ := StrLaws.partsFrom_ne x y.length 0 (occurrences x y 0 x.length (x.length + 1))
      rw [e]; simp
theorem split_join {c : Nat} {rows : List Str} (hne : rows ≠ []) (hf : ∀ r ∈ rows, c ∉ cp r) : Txt.split (Str.join (tx [c]) rows) (tx [c]) = rows := by
  have h1 := StrLaws.join_split (Str.join (tx [c]) rows) (tx [c])
  have h2 := StrLaws.split_free (Str.join (tx [c]) rows) c
  generalize hq : Txt.split (Str.join (tx [c]) rows) (tx [c]) = q at h1
  have hq0 : q ≠ [] := hq ▸ split_ne _ _
  have h3 : ∀ p ∈ q, c ∉ cp p := fun p hp => h2 p (by rw [show Txt.split (Str.join (tx [c]) rows) ⟨#[c]⟩ = q from hq]; exact hp)
  have h4 : jn c (q.map cp) = jn c (rows.map cp) := by rw [← cp_join, ← cp_join, h1]
  have h5 := jn_inj (by simpa using hq0) (by simpa using hne) (fun x hx => by obtain ⟨p, hp, rfl⟩ := List.mem_map.mp hx; exact h3 p hp)
    (fun x hx => by obtain ⟨p, hp, rfl⟩ := List.mem_map.mp hx; exact hf p hp) h4
  have h6 : ∀ l : List Str, (l.map cp).map tx = l := fun l => by rw [List.map_map]; exact (List.map_congr_left fun x _ => tx_cp x).trans (List.map_id _)
  rw [← h6 q, h5, h6]
open StrLaws in
theorem ls_skip (s : Str) : ∀ (m cur : Nat) (st : LsSt), (∀ i, cur ≤ i → i < cur + m → Unicode.isLineBreak (s.cps.getD i 0) = false) →
    Id.run (forIn (m := Id) (List.range' cur m) st (lsBody s)) = st
  | 0, _, _, _ => rfl
  | m + 1, cur, (lines, start), h => by
    rw [List.range'_succ, List.forIn_cons]
    have h0 := h cur (Nat.le_refl _) (by omega)
    unfold lsBody
    simp only [h0, Bool.and_false, Bool.false_eq_true, if_false]
    exact ls_skip s m (cur + 1) (lines, start) fun i h1 h2 => h i (by omega) (by omega)
def spansOf : Nat → List (List Nat) → List (Nat × Nat × Nat)
  | _, [] => []
  | cur, [x] => if x.length = 0 then [] else [(cur, cur + x.length, cur + x.length)]
  | cur, x :: y :: r => (cur, cur + x.length, cur + x.length + 1) :: spansOf (cur + x.length + 1) (y :: r)
theorem getD_drop {l : List Nat} {cur i : Nat} (h : cur ≤ i) : l.toArray.getD i 0 = (l.drop cur).getD (i - cur) 0 := by
  rw [Array.getD_eq_getD_getElem?, List.getElem?_toArray, List.getD_eq_getElem?_getD, List.getElem?_drop]
  congr 2
  omega
theorem forIn_range'_append {β : Type} (f : Nat → β → Id (ForInStep β)) (hy : ∀ i b, ∃ b', f i b = ForInStep.yield b') : ∀ (m k cur : Nat) (b : β),
    Id.run (forIn (m := Id) (List.range' cur (m + k)) b f) = Id.run (forIn (m := Id) (List.range' (cur + m) k) (Id.run (forIn (m := Id) (List.range' cur m) b f)) f)
  | 0, k, cur, b => by simp
  | m + 1, k, cur, b => by
    rw [show m + 1 + k = (m + k) + 1 by omega, List.range'_succ, List.range'_succ, List.forIn_cons, List.forIn_cons]
    obtain ⟨b', e⟩ := hy cur b
    rw [e]
    have := forIn_range'_append f hy m k (cur + 1) b'
    rw [show cur + 1 + m = cur + (m + 1) by omega] at this
    exact this
theorem lsBody_yields (s : Str) (i : Nat) (st : StrLaws.LsSt) : ∃ b, StrLaws.lsBody s i st = ForInStep.yield b := by
  unfold StrLaws.lsBody
  split
  · exact ⟨_, rfl⟩
  · exact ⟨_, rfl⟩
open StrLaws in
theorem ls_rows (s : Str) : ∀ (rows : List (List Nat)) (cur : Nat) (acc : Array (Nat × Nat × Nat)), rows ≠ [] → (cp s).drop cur = jn 10 rows → cur ≤ (cp s).length →
    (∀ r ∈ rows, ∀ c ∈ r, Unicode.isLineBreak c = false) →
    lsEnd s (Id.run (forIn (m := Id) (List.range' cur ((cp s).length - cur)) ((acc, cur) : LsSt) (lsBody s))) = acc.toList ++ spansOf cur rows
  | [], _, _, h, _, _, _ => absurd rfl h
  | [x], cur, acc, _, hd, hc, hb => by
    have hd' : (cp s).drop cur = x := hd
    have hl : (cp s).length - cur = x.length := by rw [← hd', List.length_drop]
    rw [ls_skip s]
    · unfold lsEnd
      have e : s.length = cur + x.length := by rw [len_cp]; omega
      dsimp only
      rw [e]
      unfold spansOf
      by_cases h0 : x.length = 0
      · rw [if_pos h0, if_neg (by omega)]; simp
      · rw [if_neg h0, if_pos (by omega)]; simp
    · intro i h1 h2
      have : s.cps.getD i 0 = x.getD (i - cur) 0 := by rw [← hd']; exact getD_drop (l := cp s) h1
      rw [this]
      refine hb x List.mem_cons_self _ ?_
      have hi : i - cur < x.length := by omega
      rw [List.getD_eq_getElem?_getD, List.getElem?_eq_getElem hi]
      exact List.getElem_mem hi
  | x :: y :: r, cur, acc, _, hd, hc, hb => by
    have hd' : (cp s).drop cur = x ++ 10 :: jn 10 (y :: r) := hd
    have hl : (cp s).length - cur = x.length + 1 + (jn 10 (y :: r)).length := by rw [← List.length_drop, hd']; simp; omega
    have hnext : (cp s).drop (cur + x.length + 1) = jn 10 (y :: r) := by
      rw [Nat.add_assoc, ← List.drop_drop, hd']; simp
    have hrest : (cp s).length - (cur + x.length + 1) = (jn 10 (y :: r)).length := by rw [← List.length_drop, hnext]
    rw [show (cp s).length - cur = x.length + (1 + ((cp s).length - (cur + x.length + 1))) by omega, forIn_range'_append (lsBody s) (lsBody_yields s) x.length, ls_skip s x.length]
    · rw [forIn_range'_append (lsBody s) (lsBody_yields s) 1]
      have hat : s.cps.getD (cur + x.length) 0 = 10 := by
        have : s.cps.getD (cur + x.length) 0 = ((cp s).drop cur).getD (cur + x.length - cur) 0 := getD_drop (l := cp s) (Nat.le_add_right _ _)
        rw [this, hd', Nat.add_sub_cancel_left, List.getD_eq_getElem?_getD]
        simp
      have hone : Id.run (forIn (m := Id) (List.range' (cur + x.length) 1) ((acc, cur) : LsSt) (lsBody s)) = (acc.push (cur, cur + x.length, cur + x.length + 1), cur + x.length + 1) := by
        rw [show List.range' (cur + x.length) 1 = [cur + x.length] from rfl, List.forIn_cons]
        unfold lsBody
        have hbr : Unicode.isLineBreak 10 = true := by decide +kernel
        have hn : lsNext s (cur + x.length) = cur + x.length + 1 := by
          unfold lsNext
          rw [hat]; simp
        simp only [hat, hbr, hn, Nat.le_add_right, decide_true, Bool.and_true, if_true]
        rfl
      rw [hone]
      have := ls_rows s (y :: r) (cur + x.length + 1) (acc.push (cur, cur + x.length, cur + x.length + 1)) (by simp) hnext (by omega) fun q hq => hb q (List.mem_cons_of_mem _ hq)
      rw [this]
      simp [spansOf]
    · intro i h1 h2
      have : s.cps.getD i 0 = ((cp s).drop cur).getD (i - cur) 0 := getD_drop (l := cp s) h1
      rw [this, hd']
      refine hb x List.mem_cons_self _ ?_
      have hi : i - cur < x.length := by omega
      rw [List.getD_eq_getElem?_getD, List.getElem?_append_left hi, List.getElem?_eq_getElem hi]
      exact List.getElem_mem hi
theorem strSub_cp (s : Str) (i j : Nat) : cp (strSub s i j) = ((cp s).drop i).take (j - i) := StrLaws.strSub_toList s i j
theorem spans_rows (s : Str) : ∀ (rows : List (List Nat)) (cur : Nat), rows ≠ [] → (cp s).drop cur = jn 10 rows → (∀ r ∈ rows, r ≠ []) →
    (spansOf cur rows).map (fun p => strSub s p.1 p.2.1) = rows.map tx
  | [], _, h, _, _ => absurd rfl h
  | [x], cur, _, hd, hn => by
    have hd' : (cp s).drop cur = x := hd
    have h0 : x.length ≠ 0 := fun q => hn x List.mem_cons_self (List.length_eq_zero_iff.mp q)
    unfold spansOf
    rw [if_neg h0]
    simp only [List.map_cons, List.map_nil, List.cons.injEq, and_true]
    refine cp_inj ?_
    rw [strSub_cp, hd', Nat.add_sub_cancel_left, List.take_length]
  | x :: y :: r, cur, _, hd, hn => by
    have hd' : (cp s).drop cur = x ++ 10 :: jn 10 (y :: r) := hd
    have hnext : (cp s).drop (cur + x.length + 1) = jn 10 (y :: r) := by
      rw [Nat.add_assoc, ← List.drop_drop, hd']; simp
    have ih := spans_rows s (y :: r) (cur + x.length + 1) (by simp) hnext fun q hq => hn q (List.mem_cons_of_mem _ hq)
    unfold spansOf
    rw [List.map_cons, ih]
    show _ :: List.map tx (y :: r) = tx x :: List.map tx (y :: r)
    congr 1
    refine cp_inj ?_
    rw [strSub_cp, hd', Nat.add_sub_cancel_left]
    simp
theorem jn_ne {c : Nat} : ∀ {rows : List (List Nat)}, rows ≠ [] → (∀ r ∈ rows, r ≠ []) → jn c rows ≠ []
  | [], h, _ => absurd rfl h
  | [x], _, h => h x List.mem_cons_self
  | x :: y :: r, _, _ => by simp [jn]
theorem lines_join {rows : List Str} (hne : rows ≠ []) (hr : ∀ r ∈ rows, cp r ≠ []) (hb : ∀ r ∈ rows, ∀ c ∈ cp r, Unicode.isLineBreak c = false) :
    Txt.lines (Str.join (tx [10]) rows) = rows := by
  have hj : cp (Str.join (tx [10]) rows) = jn 10 (rows.map cp) := cp_join 10 rows
  generalize Str.join (tx [10]) rows = s at hj
  have hm : rows.map cp ≠ [] := by simpa using hne
  have hmr : ∀ r ∈ rows.map cp, r ≠ [] := fun x hx => by obtain ⟨p, hp, rfl⟩ := List.mem_map.mp hx; exact hr p hp
  have h1 := ls_rows s (rows.map cp) 0 #[] hm (by simpa using hj) (Nat.zero_le _) fun x hx => by obtain ⟨p, hp, rfl⟩ := List.mem_map.mp hx; exact hb p hp
  have h2 := spans_rows s (rows.map cp) 0 hm (by simpa using hj) hmr
  have h6 : (rows.map cp).map tx = rows := by rw [List.map_map]; exact (List.map_congr_left fun x _ => tx_cp x).trans (List.map_id _)
  have hs : lineSpans s = spansOf 0 (rows.map cp) := by
    rw [StrLaws.ls_eq, len_cp]
    simpa using h1
  have hl : linesOf s = rows := by
    unfold linesOf lineCuts
    rw [hs, List.map_map]
    exact h2.trans h6
  unfold Txt.lines
  split
  · rename_i hc
    have hc' := eq_of_beq hc
    have : linesOf s = [strSub s 0 s.length] := by unfold linesOf; rw [hc']; rfl
    rw [← hl, this, StrLaws.sub_whole]
  · exact hl
end Mine
end
section
set_option autoImplicit false
namespace Mine
open PySem PySem.Builtin PySem.Builtin.Str
section
variable {α : Type} [DecidableEq α]
def uldR : List α → List α → List α → List α × List α
  | [], a, m => (m, a)
  | x :: r, a, m => if x ∈ a then uldR r (a.erase x) m else uldR r a (m ++ [x])
def leftS (old : List α) : List α → List α → List α
  | _, [] => []
  | pre, x :: r => if (pre ++ [x]).count x > old.count x then x :: leftS old (pre ++ [x]) r else leftS old (pre ++ [x]) r
def missR (new : List α) : List α → List α → List α
  | [], _ => []
  | x :: r, suf => (if (x :: suf).count x > new.count x then [x] else []) ++ missR new r (x :: suf)
theorem leftS_same (x : α) (suf : List α) : ∀ (new pre : List α), suf.count x + 1 ≤ pre.count x → leftS (x :: suf) pre new = leftS suf pre new
  | [], _, _ => rfl
  | y :: r, pre, h => by
    unfold leftS
    have ih := leftS_same x suf r (pre ++ [y]) (by rw [List.count_append]; omega)
    rw [ih]
    by_cases e : y = x
    · subst e
      have h1 : (pre ++ [y]).count y = pre.count y + 1 := by simp
      have h2 : (y :: suf).count y = suf.count y + 1 := by simp
      rw [h1, h2, if_pos (by omega), if_pos (by omega)]
    · have h2 : (x :: suf).count y = suf.count y := by rw [List.count_cons_of_ne (Ne.symm e)]
      rw [h2]
theorem leftS_mem (x : α) (suf : List α) : ∀ (new pre : List α), pre.count x ≤ suf.count x → (x ∈ leftS suf pre new ↔ pre.count x + new.count x > suf.count x)
  | [], pre, h => by simp [leftS]; exact h
  | y :: r, pre, h => by
    unfold leftS
    by_cases e : y = x
    · subst e
      have h1 : (pre ++ [y]).count y = pre.count y + 1 := by simp
      have h2 : (y :: r).count y = r.count y + 1 := by simp
      rw [h1, h2]
      by_cases hc : pre.count y + 1 > suf.count y
      · rw [if_pos hc]; simp; omega
      · rw [if_neg hc, leftS_mem y suf r (pre ++ [y]) (by omega), h1]; omega
    · have h1 : (pre ++ [y]).count x = pre.count x := by rw [List.count_append]; simp [e]
      have h2 : (y :: r).count x = r.count x := by rw [List.count_cons_of_ne e]
      have ih := leftS_mem x suf r (pre ++ [y]) (by rw [h1]; exact h)
      rw [h1] at ih
      rw [h2, ← ih]
      split
      · rw [List.mem_cons]; exact ⟨fun q => q.resolve_left (Ne.symm e), .inr⟩
      · exact Iff.rfl
theorem leftS_erase (x : α) (suf : List α) : ∀ (new pre : List α), pre.count x ≤ suf.count x → (leftS suf pre new).erase x = leftS (x :: suf) pre new
  | [], _, _ => rfl
  | y :: r, pre, h => by
    unfold leftS
    by_cases e : y = x
    · subst e
      have h1 : (pre ++ [y]).count y = pre.count y + 1 := by simp
      have h2 : (y :: suf).count y = suf.count y + 1 := by simp
      rw [h1, h2]
      by_cases hc : pre.count y + 1 > suf.count y
      · rw [if_pos hc, if_neg (by omega), List.erase_cons_head, leftS_same y suf r (pre ++ [y]) (by rw [h1]; omega)]
      · rw [if_neg hc, if_neg (by omega), leftS_erase y suf r (pre ++ [y]) (by rw [h1]; omega)]
    · have h1 : (pre ++ [y]).count x = pre.count x := by rw [List.count_append]; simp [e]
      have h2 : (x :: suf).count y = suf.count y := by rw [List.count_cons_of_ne (Ne.symm e)]
      have ih := leftS_erase x suf r (pre ++ [y]) (by rw [h1]; exact h)
      rw [h2]
      split
      · rw [List.erase_cons_tail (by simpa using e), ih]
      · exact ih
theorem uldR_eq (new : List α) : ∀ (rv suf m : List α), uldR rv (leftS suf [] new) m = (m ++ missR new rv suf, leftS (rv.reverse ++ suf) [] new)
  | [], suf, m => by simp [uldR, missR]
  | x :: r, suf, m => by
    have hm := leftS_mem x suf new [] (by simp)
    simp only [List.count_nil, Nat.zero_add] at hm
    have hc : (x :: suf).count x = suf.count x + 1 := by simp
    unfold uldR missR
    by_cases h : new.count x > suf.count x
    · rw [if_pos (hm.mpr h), leftS_erase x suf new [] (by simp), uldR_eq new r (x :: suf) m, hc, if_neg (by omega)]
      simp
    · have hx : x ∉ leftS suf [] new := fun q => h (hm.mp q)
      have hs : leftS suf [] new = leftS (x :: suf) [] new := by
        rw [← leftS_erase x suf new [] (by simp), List.erase_of_not_mem hx]
      rw [if_neg hx, hs, uldR_eq new r (x :: suf) (m ++ [x]), hc, if_pos (by omega)]
      simp
theorem leftS_nil : ∀ (new pre : List α), leftS [] pre new = new
  | [], _ => rfl
  | y :: r, pre => by
    unfold leftS
    rw [leftS_nil r, if_pos (by simp)]
theorem uld_eq (old new : List α) : uldR old.reverse new [] = (missR new old.reverse [], leftS old [] new) := by
  have := uldR_eq new old.reverse [] []
  rw [leftS_nil] at this
  simpa using this
end
def foldL (w : Nat) : Nat → List Nat → List (List Nat)
  | 0, l => [l]
  | n + 1, l => if l.length > w then (l.take (w - 1) ++ [61]) :: foldL w n (l.drop (w - 1)) else [l]
def fold (w : Nat) (l : List Nat) : List (List Nat) := foldL w l.length l
theorem foldL_fuel (w : Nat) (hw : 2 ≤ w) : ∀ (n m : Nat) (l : List Nat), l.length ≤ n → l.length ≤ m → foldL w n l = foldL w m l
  | 0, 0, _, _, _ => rfl
  | 0, m + 1, l, hn, _ => by unfold foldL; rw [if_neg (by omega)]
  | n + 1, 0, l, _, hm => by unfold foldL; rw [if_neg (by omega)]
  | n + 1, m + 1, l, hn, hm => by
    unfold foldL
    split
    · rw [foldL_fuel w hw n m (l.drop (w - 1)) (by rw [List.length_drop]; omega) (by rw [List.length_drop]; omega)]
    · rfl
theorem fold_more {w : Nat} (hw : 2 ≤ w) {l : List Nat} (h : l.length > w) : fold w l = (l.take (w - 1) ++ [61]) :: fold w (l.drop (w - 1)) := by
  unfold fold
  obtain ⟨n, hn⟩ : ∃ n, l.length = n + 1 := ⟨l.length - 1, by omega⟩
  rw [hn]
  rw [show foldL w (n + 1) l = (l.take (w - 1) ++ [61]) :: foldL w n (l.drop (w - 1)) by rw [foldL, if_pos h]]
  rw [foldL_fuel w hw n _ _ (by rw [List.length_drop]; omega) (Nat.le_refl _)]
theorem fold_last {w : Nat} {l : List Nat} (h : ¬ l.length > w) : fold w l = [l] := by
  unfold fold
  cases hl : l.length with
  | zero => rfl
  | succ n => unfold foldL; rw [if_neg h]
def Row (P : Nat → Prop) (r : List Nat) : Prop := (r ≠ [] ∧ ∀ c ∈ r, P c) ∨ ∃ q, q ≠ [] ∧ r = q ++ [61] ∧ ∀ c ∈ q, P c
theorem fold_rows {P : Nat → Prop} {w : Nat} (hw : 4 ≤ w) : ∀ (n : Nat) (l : List Nat), l.length ≤ n → l ≠ [] → (∀ c ∈ l, P c) → ∀ r ∈ fold w l, Row P r
  | 0, l, hn, h0, _ => absurd (List.length_eq_zero_iff.mp (Nat.le_zero.mp hn)) h0
  | n + 1, l, hn, h0, hP => by
    by_cases h : l.length > w
    · rw [fold_more (by omega) h]
      intro r hr
      rcases List.mem_cons.mp hr with rfl | hr
      · refine .inr ⟨l.take (w - 1), ?_, rfl, fun c hc => hP c (List.mem_of_mem_take hc)⟩
        intro q
        have := congrArg List.length q
        rw [List.length_take, List.length_nil] at this
        omega
      · refine fold_rows hw n (l.drop (w - 1)) (by rw [List.length_drop]; omega) ?_ (fun c hc => hP c (List.mem_of_mem_drop hc)) r hr
        intro q
        have := congrArg List.length q
        rw [List.length_drop, List.length_nil] at this
        omega
    · rw [fold_last h]
      intro r hr
      rw [List.mem_singleton.mp hr]
      exact .inl ⟨h0, hP⟩
theorem fold_ne {w : Nat} (l : List Nat) : fold w l ≠ [] := by
  unfold fold
  cases l.length with
  | zero => simp [foldL]
  | succ n => unfold foldL; split <;> simp
def adds (r : List Nat) : List Nat := if r.getLast? = some 61 then r.dropLast else r ++ [10]
def decT (rows : List (List Nat)) : List Nat := (rows.map adds).flatten
def cut10 (l : List Nat) : List Nat := if l.getLast? = some 10 then l.dropLast else l
def unf : List (List Nat) → List Nat
  | [] => []
  | [r] => if r.getLast? = some 61 then r.dropLast else r
  | r :: s :: t => (if r.getLast? = some 61 then r.dropLast else r ++ [10]) ++ unf (s :: t)
theorem cut10_append {a b : List Nat} (h : b ≠ []) : cut10 (a ++ b) = a ++ cut10 b := by
  have e : (a ++ b).getLast? = b.getLast? := by
    rw [List.getLast?_append]
    cases hb : b.getLast? with
    | none => exact absurd (List.getLast?_eq_none_iff.mp hb) h
    | some x => rfl
  unfold cut10
  by_cases hx : b.getLast? = some 10
  · rw [if_pos hx, if_pos (e.trans hx), List.dropLast_append_of_ne_nil h]
  · rw [if_neg hx, if_neg (fun q => hx (e.symm.trans q))]
theorem last_of {P : Nat → Prop} {r : List Nat} (h0 : r ≠ []) (h : ∀ c ∈ r, P c) : ∃ c, r.getLast? = some c ∧ P c :=
  ⟨r.getLast h0, List.getLast?_eq_some_getLast h0, h _ (List.getLast_mem h0)⟩
section
variable {P : Nat → Prop} (hP : ∀ c, P c → c ≠ 61 ∧ c ≠ 10)
include hP
theorem adds_safe {r : List Nat} (h0 : r ≠ []) (h : ∀ c ∈ r, P c) : adds r = r ++ [10] := by
  obtain ⟨c, e, hc⟩ := last_of h0 h
  unfold adds
  rw [e, if_neg (fun q => (hP c hc).1 (Option.some.inj q))]
omit hP in
theorem adds_soft (q : List Nat) : adds (q ++ [61]) = q := by
  unfold adds; simp
theorem adds_ne {r : List Nat} (h : Row P r) : adds r ≠ [] := by
  rcases h with ⟨h0, h⟩ | ⟨q, h0, rfl, _⟩
  · rw [adds_safe hP h0 h]; simp
  · rw [adds_soft]; exact h0
theorem cut_adds {r : List Nat} (h : Row P r) : cut10 (adds r) = if r.getLast? = some 61 then r.dropLast else r := by
  rcases h with ⟨h0, h⟩ | ⟨q, h0, rfl, h⟩
  · obtain ⟨c, e, hc⟩ := last_of h0 h
    rw [adds_safe hP h0 h, e, if_neg (fun q => (hP c hc).1 (Option.some.inj q))]
    unfold cut10; simp
  · obtain ⟨c, e, hc⟩ := last_of h0 h
    rw [adds_soft]
    unfold cut10
    rw [e, if_neg (fun q => (hP c hc).2 (Option.some.inj q))]; simp
theorem dec_unf : ∀ {rows : List (List Nat)}, (∀ r ∈ rows, Row P r) → cut10 (decT rows) = unf rows
  | [], _ => rfl
  | [r], h => by
    show cut10 ((List.map adds [r]).flatten) = _
    simp only [List.map_cons, List.map_nil, List.flatten_cons, List.flatten_nil, List.append_nil]
    exact cut_adds hP (h r List.mem_cons_self)
  | r :: s :: t, h => by
    have ih := dec_unf (rows := s :: t) fun q hq => h q (List.mem_cons_of_mem _ hq)
    have hne : decT (s :: t) ≠ [] := by
      intro q
      have : adds s ++ decT t = [] := q
      exact adds_ne hP (h s (by simp)) (List.append_eq_nil_iff.mp this).1
    show cut10 (adds r ++ decT (s :: t)) = adds r ++ unf (s :: t)
    rw [cut10_append hne, ih]
end
theorem missR_mem {α : Type} [DecidableEq α] (new : List α) : ∀ (rv suf : List α) (x : α), x ∈ missR new rv suf → x ∈ rv
  | [], _, _, h => nomatch h
  | y :: r, suf, x, h => by
    unfold missR at h
    rcases List.mem_append.mp h with h | h
    · split at h
      · rw [List.mem_singleton.mp h]; exact List.mem_cons_self
      · cases h
    · exact List.mem_cons_of_mem _ (missR_mem new r _ x h)
end Mine
end
section
set_option autoImplicit false
namespace Mine
open PySem PySem.Builtin PySem.Builtin.Str PySem.W PyProof.Rows
def bitN (m : Int) (k : Nat) : Int := m / 2 ^ k % 2
theorem bitN_01 (m : Int) (k : Nat) : bitN m k = 0 ∨ bitN m k = 1 := by
  unfold bitN
  have h1 := Int.emod_nonneg (m / 2 ^ k) (show (2 : Int) ≠ 0 by decide)
  have h2 := Int.emod_lt_of_pos (m / 2 ^ k) (show (0 : Int) < 2 by decide)
  omega
theorem and_bit (m : Int) (k : Nat) : bitAnd m (2 ^ k) = bitN m k * 2 ^ k := kbt_bit m k
theorem and_split {m : Int} (hm : 0 ≤ m) {a b : Nat} : bitAnd m ((a ||| b : Nat) : Int) = (((bitAnd m (a : Int)).toNat ||| (bitAnd m (b : Int)).toNat : Nat) : Int) := by
  rw [bitAnd_pp hm (by omega), bitAnd_pp hm (by omega), bitAnd_pp hm (by omega)]
  simp only [Int.toNat_natCast]
  rw [Nat.and_or_distrib_left]
theorem and_1 (m : Int) : bitAnd m 1 = bitN m 0 * 1 := and_bit m 0
theorem and_2 (m : Int) : bitAnd m 2 = bitN m 1 * 2 := and_bit m 1
theorem and_4 (m : Int) : bitAnd m 4 = bitN m 2 * 4 := and_bit m 2
theorem and_8 (m : Int) : bitAnd m 8 = bitN m 3 * 8 := and_bit m 3
theorem and_16 (m : Int) : bitAnd m 16 = bitN m 4 * 16 := and_bit m 4
theorem and_32 (m : Int) : bitAnd m 32 = bitN m 5 * 32 := and_bit m 5
theorem and_64 (m : Int) : bitAnd m 64 = bitN m 6 * 64 := and_bit m 6
theorem and_128 (m : Int) : bitAnd m 128 = bitN m 7 * 128 := and_bit m 7
theorem and_256 (m : Int) : bitAnd m 256 = bitN m 8 * 256 := and_bit m 8
theorem and_512 (m : Int) : bitAnd m 512 = bitN m 9 * 512 := and_bit m 9
theorem and_1024 (m : Int) : bitAnd m 1024 = bitN m 10 * 1024 := and_bit m 10
theorem and_2048 (m : Int) : bitAnd m 2048 = bitN m 11 * 2048 := and_bit m 11
theorem and_4096 (m : Int) : bitAnd m 4096 = bitN m 12 * 4096 := and_bit m 12
theorem and_8192 (m : Int) : bitAnd m 8192 = bitN m 13 * 8192 := and_bit m 13
theorem and_16384 (m : Int) : bitAnd m 16384 = bitN m 14 * 16384 := and_bit m 14
theorem and_32768 (m : Int) : bitAnd m 32768 = bitN m 15 * 32768 := and_bit m 15
theorem and_2112 {m : Int} (hm : 0 ≤ m) : bitAnd m 2112 = bitN m 6 * 64 + bitN m 11 * 2048 := by
  have h := and_split hm (a := 64) (b := 2048)
  rw [show ((64 ||| 2048 : Nat) : Int) = 2112 from rfl, show ((64 : Nat) : Int) = 64 from rfl, show ((2048 : Nat) : Int) = 2048 from rfl, and_64, and_2048] at h
  rw [h]
  rcases bitN_01 m 6 with e | e <;> rcases bitN_01 m 11 with f | f <;> rw [e, f] <;> rfl
theorem and_1032 {m : Int} (hm : 0 ≤ m) : bitAnd m 1032 = bitN m 3 * 8 + bitN m 10 * 1024 := by
  have h := and_split hm (a := 8) (b := 1024)
  rw [show ((8 ||| 1024 : Nat) : Int) = 1032 from rfl, show ((8 : Nat) : Int) = 8 from rfl, show ((1024 : Nat) : Int) = 1024 from rfl, and_8, and_1024] at h
  rw [h]
  rcases bitN_01 m 3 with e | e <;> rcases bitN_01 m 10 with f | f <;> rw [e, f] <;> rfl
theorem and_513 {m : Int} (hm : 0 ≤ m) : bitAnd m 513 = bitN m 0 * 1 + bitN m 9 * 512 := by
  have h := and_split hm (a := 1) (b := 512)
  rw [show ((1 ||| 512 : Nat) : Int) = 513 from rfl, show ((1 : Nat) : Int) = 1 from rfl, show ((512 : Nat) : Int) = 512 from rfl, and_1, and_512] at h
  rw [h]
  rcases bitN_01 m 0 with e | e <;> rcases bitN_01 m 9 with f | f <;> rw [e, f] <;> rfl
theorem and_12288 {m : Int} (hm : 0 ≤ m) : bitAnd m 12288 = bitN m 12 * 4096 + bitN m 13 * 8192 := by
  have h := and_split hm (a := 4096) (b := 8192)
  rw [show ((4096 ||| 8192 : Nat) : Int) = 12288 from rfl, show ((4096 : Nat) : Int) = 4096 from rfl, show ((8192 : Nat) : Int) = 8192 from rfl, and_4096, and_8192] at h
  rw [h]
  rcases bitN_01 m 12 with e | e <;> rcases bitN_01 m 13 with f | f <;> rw [e, f] <;> rfl
theorem and_49152 {m : Int} (hm : 0 ≤ m) : bitAnd m 49152 = bitN m 14 * 16384 + bitN m 15 * 32768 := by
  have h := and_split hm (a := 16384) (b := 32768)
  rw [show ((16384 ||| 32768 : Nat) : Int) = 49152 from rfl, show ((16384 : Nat) : Int) = 16384 from rfl, show ((32768 : Nat) : Int) = 32768 from rfl, and_16384, and_32768] at h
  rw [h]
  rcases bitN_01 m 14 with e | e <;> rcases bitN_01 m 15 with f | f <;> rw [e, f] <;> rfl
theorem and_61440 {m : Int} (hm : 0 ≤ m) (hl : m < 65536) : bitAnd m 61440 = m / 4096 * 4096 := by
  have h := and_split hm (a := 12288) (b := 49152)
  rw [show ((12288 ||| 49152 : Nat) : Int) = 61440 from rfl, show ((12288 : Nat) : Int) = 12288 from rfl, show ((49152 : Nat) : Int) = 49152 from rfl, and_12288 hm, and_49152 hm] at h
  have h2 : bitAnd m 61440 = bitN m 12 * 4096 + bitN m 13 * 8192 + bitN m 14 * 16384 + bitN m 15 * 32768 := by
    rw [h]
    rcases bitN_01 m 12 with e | e <;> rcases bitN_01 m 13 with f | f <;> rcases bitN_01 m 14 with g | g <;> rcases bitN_01 m 15 with i | i <;> rw [e, f, g, i] <;> rfl
  rw [h2]
  unfold bitN
  simp only [show (2 : Int) ^ 12 = 4096 from rfl, show (2 : Int) ^ 13 = 8192 from rfl, show (2 : Int) ^ 14 = 16384 from rfl, show (2 : Int) ^ 15 = 32768 from rfl]
  omega
theorem and_4095 (m : Int) : bitAnd m 4095 = m % 4096 := kbt_mask m 12
def kinds : List Nat := [63, 112, 99, 63, 100, 63, 98, 63, 45, 63, 108, 63, 115, 63, 63, 63]
def xs3 (k : Nat) : List Nat := if k = 2 then [45, 120, 84, 116] else [45, 120, 83, 115]
def triple (k : Nat) (f a : Int) : List Nat := [if f / 4 = 1 then 114 else 45, if f / 2 % 2 = 1 then 119 else 45, (xs3 k).getD (f % 2 + 2 * a).toNat 0]
def signs (m : Int) : List Nat :=
  (kinds.getD (m / 4096 % 16).toNat 0 :: triple 0 (m / 64 % 8) (m / 2048 % 2)) ++ triple 1 (m / 8 % 8) (m / 1024 % 2) ++ triple 2 (m % 8) (m / 512 % 2)
def safeL : List Nat := [45, 63, 98, 99, 100, 108, 112, 114, 115, 119, 120, 83, 84, 116]
def Safe (c : Nat) : Prop := c ∈ safeL
theorem safe_triple {k : Nat} {f a : Int} (ha : a = 0 ∨ a = 1) : ∀ c ∈ triple k f a, Safe c := by
  intro c hc
  unfold triple at hc
  simp only [List.mem_cons, List.not_mem_nil, or_false] at hc
  rcases hc with rfl | rfl | rfl
  · split <;> (unfold Safe; decide)
  · split <;> (unfold Safe; decide)
  · have h1 := Int.emod_nonneg f (show (2 : Int) ≠ 0 by decide)
    have h2 := Int.emod_lt_of_pos f (show (0 : Int) < 2 by decide)
    have hf : f % 2 = 0 ∨ f % 2 = 1 := by omega
    unfold xs3 Safe
    rcases hf with e | e <;> rcases ha with rfl | rfl <;> rw [e] <;> split <;> decide
theorem bit_01 (x : Int) : x % 2 = 0 ∨ x % 2 = 1 := by
  have h1 := Int.emod_nonneg x (show (2 : Int) ≠ 0 by decide)
  have h2 := Int.emod_lt_of_pos x (show (0 : Int) < 2 by decide)
  omega
theorem kinds_safe : ∀ k : Nat, k < 16 → kinds.getD k 0 ∈ safeL := by decide
theorem signs_safe (m : Int) : ∀ c ∈ signs m, Safe c := by
  intro c hc
  unfold signs at hc
  simp only [List.mem_append, List.mem_cons] at hc
  rcases hc with ((rfl | h) | h) | h
  · have h1 := Int.emod_nonneg (m / 4096) (show (16 : Int) ≠ 0 by decide)
    have h2 := Int.emod_lt_of_pos (m / 4096) (show (0 : Int) < 16 by decide)
    exact kinds_safe _ (by omega)
  · exact safe_triple (bit_01 _) c h
  · exact safe_triple (bit_01 _) c h
  · exact safe_triple (bit_01 _) c h
theorem signs_length (m : Int) : (signs m).length = 10 := rfl
end Mine
end
section
set_option autoImplicit false
namespace Mine
open PySem PySem.Builtin PySem.Builtin.Str PySem.W PyProof.Rows
theorem item_tx {l : List Nat} {i : Int} (h0 : 0 ≤ i) (h1 : i < (l.length : Int)) : Txt.item (tx l) i = tx [l.getD i.toNat 0] := by
  have hl : (tx l).length = l.length := by simp [Str.length]
  have hi : i.toNat < l.length := by omega
  unfold Txt.item Txt.charAt
  rw [StrLaws.seqIndex_nonneg h0 (by rw [hl]; exact h1)]
  show (⟨#[(l.toArray[i.toNat]?).getD 0]⟩ : Str) = _
  rw [List.getElem?_toArray, ← List.getD_eq_getElem?_getD]
theorem tx_append (a b : List Nat) : tx a ++ tx b = tx (a ++ b) := by
  apply cp_inj
  simp [cp, Str.cps_append]
noncomputable def sgE (m : Int) : Str :=
  Txt.item (Str.ofString "?pc?d?b?-?l?s???") ((m.fdiv 4096).fmod 16) ++
    (Txt.item (Str.ofString "-r") (((m.fdiv 64).fmod 8).fdiv 4) ++ Txt.item (Str.ofString "-w") ((((m.fdiv 64).fmod 8).fdiv 2).fmod 2)) ++ Txt.item (Str.ofString "-xSs") (((m.fdiv 64).fmod 8).fmod 2 + 2 * (m.fdiv 2048).fmod 2) ++
    (Txt.item (Str.ofString "-r") (((m.fdiv 8).fmod 8).fdiv 4) ++ Txt.item (Str.ofString "-w") ((((m.fdiv 8).fmod 8).fdiv 2).fmod 2)) ++ Txt.item (Str.ofString "-xSs") (((m.fdiv 8).fmod 8).fmod 2 + 2 * (m.fdiv 1024).fmod 2) ++
    (Txt.item (Str.ofString "-r") (((m.fdiv 1).fmod 8).fdiv 4) ++ Txt.item (Str.ofString "-w") ((((m.fdiv 1).fmod 8).fdiv 2).fmod 2)) ++ Txt.item (Str.ofString "-xTt") (((m.fdiv 1).fmod 8).fmod 2 + 2 * (m.fdiv 512).fmod 2)
theorem fdiv_e (a : Int) {b : Int} (h : 0 ≤ b) : a.fdiv b = a / b := Int.fdiv_eq_ediv_of_nonneg a h
theorem fmod_e (a : Int) {b : Int} (h : 0 ≤ b) : a.fmod b = a % b := Int.fmod_eq_emod_of_nonneg a h
theorem r_item {f : Int} (h0 : 0 ≤ f) (h1 : f < 8) : Txt.item (Str.ofString "-r") (f / 4) = tx [if f / 4 = 1 then 114 else 45] := by
  rw [show Str.ofString "-r" = tx [45, 114] from by decide +kernel, item_tx (by omega) (by simp; omega)]
  have : f / 4 = 0 ∨ f / 4 = 1 := by omega
  rcases this with e | e <;> rw [e] <;> rfl
theorem w_item {f : Int} (h0 : 0 ≤ f) (h1 : f < 8) : Txt.item (Str.ofString "-w") (f / 2 % 2) = tx [if f / 2 % 2 = 1 then 119 else 45] := by
  rw [show Str.ofString "-w" = tx [45, 119] from by decide +kernel, item_tx (by omega) (by simp; omega)]
  have : f / 2 % 2 = 0 ∨ f / 2 % 2 = 1 := by omega
  rcases this with e | e <;> rw [e] <;> rfl
theorem x_item {k : Nat} {x : Str} (hx : x = tx (xs3 k)) {f a : Int} (ha : a = 0 ∨ a = 1) : Txt.item x (f % 2 + 2 * a) = tx [(xs3 k).getD (f % 2 + 2 * a).toNat 0] := by
  have hl : (xs3 k).length = 4 := by unfold xs3; split <;> rfl
  rw [hx, item_tx (by omega) (by rw [hl]; omega)]
theorem sgE_eq (m : Int) : sgE m = tx (signs m) := by
  unfold sgE
  simp only [fdiv_e _ (show (0 : Int) ≤ 4096 by decide), fdiv_e _ (show (0 : Int) ≤ 64 by decide), fdiv_e _ (show (0 : Int) ≤ 8 by decide), fdiv_e _ (show (0 : Int) ≤ 1 by decide), fdiv_e _ (show (0 : Int) ≤ 2048 by decide), fdiv_e _ (show (0 : Int) ≤ 1024 by decide), fdiv_e _ (show (0 : Int) ≤ 512 by decide), fdiv_e _ (show (0 : Int) ≤ 4 by decide), fdiv_e _ (show (0 : Int) ≤ 2 by decide),
    fmod_e _ (show (0 : Int) ≤ 16 by decide), fmod_e _ (show (0 : Int) ≤ 8 by decide), fmod_e _ (show (0 : Int) ≤ 2 by decide), Int.ediv_one]
  have k16 : Txt.item (Str.ofString "?pc?d?b?-?l?s???") (m / 4096 % 16) = tx [kinds.getD (m / 4096 % 16).toNat 0] := by
    rw [show Str.ofString "?pc?d?b?-?l?s???" = tx kinds from by decide +kernel, item_tx (by omega) (by show _ < ((16 : Nat) : Int); omega)]
  have m8 : ∀ x : Int, 0 ≤ x % 8 ∧ x % 8 < 8 := fun x => by omega
  rw [k16, r_item (m8 _).1 (m8 _).2, r_item (m8 _).1 (m8 _).2, r_item (m8 _).1 (m8 _).2, w_item (m8 _).1 (m8 _).2, w_item (m8 _).1 (m8 _).2, w_item (m8 _).1 (m8 _).2,
    x_item (k := 0) (by decide +kernel) (bit_01 (m / 2048)), x_item (k := 1) (by decide +kernel) (bit_01 (m / 1024)), x_item (k := 2) (by decide +kernel) (bit_01 (m / 512))]
  simp only [tx_append]
  congr 1
end Mine
end
section
set_option autoImplicit false
namespace Mine
open PySem PySem.Builtin PySem.Builtin.Str PySem.W PyProof.Rows
theorem slice_to {x : Str} {j : Int} (h0 : 0 ≤ j) (h1 : j ≤ (x.length : Int)) : Txt.slice x none (some j) = tx ((cp x).take j.toNat) := by
  have h := StrLaws.sliceText_to (x := x) (j := j) ⟨h0, by rw [len_cp] at h1; exact h1⟩
  rw [show Txt.slice x none (some j) = StrLaws.sliceText x none (some j) from rfl, h, List.drop_zero, Int.sub_zero]
theorem slice_from {x : Str} {i : Int} (h0 : 0 ≤ i) (h1 : i ≤ (x.length : Int)) : Txt.slice x (some i) none = tx ((cp x).drop i.toNat) := by
  have h := StrLaws.sliceText_from (x := x) (i := i) ⟨h0, by rw [len_cp] at h1; exact h1⟩
  rw [show Txt.slice x (some i) none = StrLaws.sliceText x (some i) none from rfl, h]
  show tx _ = _
  rw [List.take_of_length_le]
  rw [List.length_drop]
  omega
theorem slice_mid {x : Str} {i j : Int} (h0 : 0 ≤ i) (h1 : i ≤ j) (h2 : j ≤ (x.length : Int)) : Txt.slice x (some i) (some j) = tx (((cp x).drop i.toNat).take (j - i).toNat) := by
  have h := StrLaws.sliceText_plain (x := x) (i := i) (j := j) ⟨h0, h1, by rw [len_cp] at h2; exact h2⟩
  rw [show Txt.slice x (some i) (some j) = StrLaws.sliceText x (some i) (some j) from rfl, h]
theorem eq_lit : Str.ofString "=" = tx [61] := by decide +kernel
theorem len_tx (l : List Nat) : (tx l).length = l.length := by simp [Str.length]
theorem len_signs (n : Int) : (tx (signs n)).length = 10 := (len_tx _).trans (signs_length n)
theorem fold_step {W : Int} (hw : 4 ≤ W) {y : Str} (h : W < (y.length : Int)) :
    (Txt.slice y none (some (W - 1)) ++ Str.ofString "=") :: (fold W.toNat (cp (Txt.slice y (some (W - 1)) none))).map tx = (fold W.toNat (cp y)).map tx := by
  rw [slice_to (by omega) (by omega), slice_from (by omega) (by omega), eq_lit, tx_append]
  have e : (W - 1).toNat = W.toNat - 1 := by omega
  rw [e, cp_tx, fold_more (w := W.toNat) (l := cp y) (by omega) (by rw [← len_cp]; omega)]
  rfl
theorem fold_end {W : Int} {y : Str} (hw : 0 ≤ W) (h : ¬ W < (y.length : Int)) : (fold W.toNat (cp y)).map tx = [y] := by
  rw [fold_last (by rw [← len_cp]; omega)]
  rfl
end Mine
end
section
set_option autoImplicit false
namespace Mine
open PySem PySem.Builtin PySem.Builtin.Str PySem.W PyProof.Rows
theorem unf_soft {r : List Nat} (rest : List (List Nat)) (h : r.getLast? = some 61) : unf (r :: rest) = r.dropLast ++ unf rest := by
  cases rest with
  | nil => simp [unf, h]
  | cons a t => simp [unf, h]
theorem unf_hard {r : List Nat} {rest : List (List Nat)} (h : ¬ r.getLast? = some 61) (hr : rest ≠ []) : unf (r :: rest) = r ++ 10 :: unf rest := by
  cases rest with
  | nil => exact absurd rfl hr
  | cons a t => simp [unf, h]
theorem unf_last {r : List Nat} (h : ¬ r.getLast? = some 61) : unf [r] = r := by simp [unf, h]
theorem item_neg {x : Str} (h : 1 ≤ x.length) : ∃ c, (cp x).getLast? = some c ∧ Txt.item x (-1) = tx [c] := by
  have hne : cp x ≠ [] := by intro e; rw [len_cp, e] at h; simp at h
  refine ⟨(cp x).getLast hne, List.getLast?_eq_some_getLast hne, ?_⟩
  unfold Txt.item Txt.charAt
  rw [StrLaws.seqIndex_neg (by decide) (by omega)]
  show tx [((x.cps)[(-1 + (x.length : Int)).toNat]?).getD 0] = _
  have e : (-1 + (x.length : Int)).toNat = (cp x).length - 1 := by rw [len_cp]; omega
  rw [e, ← Array.getElem?_toList, ← List.getLast?_eq_getElem?, List.getLast?_eq_some_getLast hne]
  rfl
theorem item_neg_eq {x : Str} (h : 1 ≤ x.length) (c : Nat) : (Txt.item x (-1) == tx [c]) = true ↔ (cp x).getLast? = some c := by
  obtain ⟨d, h1, h2⟩ := item_neg h
  rw [h1, h2, beq_iff_eq]
  constructor
  · intro e
    have := congrArg cp e
    simpa using this
  · intro e
    rw [Option.some.inj e]
theorem slice_init {x : Str} (h : 1 ≤ x.length) : Txt.slice x none (some (-1)) = tx (cp x).dropLast := by
  have e : Txt.slice x none (some (-1)) = Txt.slice x none (some ((x.length : Int) - 1)) := by
    unfold Txt.slice
    have : strSliceIndices none (some (-1)) 1 x.length = strSliceIndices none (some ((x.length : Int) - 1)) 1 x.length := by
      have a : ¬ ((x.length : Int) - 1 < 0) := by omega
      have c : min ((x.length : Int) - 1) (x.length : Int) = (x.length : Int) - 1 := by omega
      have d : max (0 : Int) (min (-1 + (x.length : Int)) (x.length : Int)) = max 0 ((x.length : Int) - 1) := by omega
      simp [strSliceIndices, a, c, d]
    rw [this]
  rw [e, slice_to (by omega) (by omega), List.dropLast_eq_take, ← len_cp]
  congr 2
  omega
end Mine
end
section
set_option autoImplicit false
namespace Mine
open PySem PySem.Builtin PySem.Builtin.Str PySem.W PyProof.Rows
theorem safe_facts : ∀ c, Safe c → c ≠ 61 ∧ c ≠ 10 ∧ Unicode.isLineBreak c = false ∧ Unicode.isSpace c = false := by
  intro c h
  unfold Safe safeL at h
  simp only [List.mem_cons, List.not_mem_nil, or_false] at h
  rcases h with h | h | h | h | h | h | h | h | h | h | h | h | h | h <;> subst h <;> decide +kernel
theorem row_ne {r : List Nat} (h : Row Safe r) : r ≠ [] := by
  rcases h with ⟨h0, _⟩ | ⟨q, _, rfl, _⟩
  · exact h0
  · simp
theorem row_se {r : List Nat} (h : Row Safe r) : ∀ c ∈ r, Safe c ∨ c = 61 := by
  intro c hc
  rcases h with ⟨_, h⟩ | ⟨q, _, rfl, h⟩
  · exact .inl (h c hc)
  · rcases List.mem_append.mp hc with hc | hc
    · exact .inl (h c hc)
    · exact .inr (List.mem_singleton.mp hc)
theorem row_all {r : List Nat} (h : Row Safe r) : ∀ c ∈ r, Unicode.isLineBreak c = false ∧ Unicode.isSpace c = false := by
  intro c hc
  rcases row_se h c hc with h | rfl
  · exact (safe_facts c h).2.2
  · decide +kernel
theorem row_lb {r : List Nat} (h : Row Safe r) : ∀ c ∈ r, Unicode.isLineBreak c = false := fun c hc => (row_all h c hc).1
theorem row_mid {r : List Nat} (h : Row Safe r) {k : Nat} (e : r[k]? = some 61) : k + 1 = r.length := by
  have hs : ¬ Safe 61 := fun q => (safe_facts 61 q).1 rfl
  rcases h with ⟨_, h⟩ | ⟨q, _, rfl, h⟩
  · exact absurd (h _ (List.mem_of_getElem? e)) hs
  · rw [List.length_append, List.length_singleton]
    have hk := (List.getElem?_eq_some_iff.mp e).1
    rw [List.length_append, List.length_singleton] at hk
    by_cases hq : k < q.length
    · rw [List.getElem?_append_left hq] at e
      exact absurd (h _ (List.mem_of_getElem? e)) hs
    · omega
theorem last_at {r : List Nat} {k : Nat} (e : k + 1 = r.length) : r.getLast? = r[k]? := by
  rw [List.getLast?_eq_getElem?]
  congr 1
  omega
theorem item_at {y : Str} {k : Int} (h0 : 0 ≤ k) (h1 : k < (y.length : Int)) : ∃ c, (cp y)[k.toNat]? = some c ∧ Txt.item y k = tx [c] := by
  have hl : k.toNat < (cp y).length := by rw [← len_cp]; omega
  refine ⟨(cp y)[k.toNat], List.getElem?_eq_getElem hl, ?_⟩
  have h := item_tx (l := cp y) h0 (by rw [← len_cp]; exact h1)
  rw [tx_cp] at h
  rw [h, List.getD_eq_getElem?_getD, List.getElem?_eq_getElem hl]
  rfl
theorem take_step {r : List Nat} {k c : Nat} (e : r[k]? = some c) : r.take (k + 1) = r.take k ++ [c] := by
  simp [List.take_add_one, e]
theorem adds_hard {r : List Nat} {k c : Nat} (h : k + 1 = r.length) (e : r[k]? = some c) (hc : c ≠ 61) : adds r = r.take k ++ [c] ++ [10] := by
  rw [← take_step e, List.take_of_length_le (by omega)]
  unfold adds
  rw [last_at h, e, if_neg (fun q => hc (Option.some.inj q))]
theorem adds_end {r : List Nat} {k : Nat} (h : k + 1 = r.length) (e : r[k]? = some 61) : adds r = r.take k := by
  unfold adds
  rw [last_at h, e, if_pos rfl, List.dropLast_eq_take]
  congr 1
  omega
theorem decT_snoc {rows : List (List Nat)} {i : Nat} {r : List Nat} (h : rows[i]? = some r) : decT (rows.take (i + 1)) = decT (rows.take i) ++ adds r := by
  rw [List.take_add_one, h]
  unfold decT
  simp
theorem ends_nl (d : Str) : Txt.endswith d (tx [10]) = true ↔ (cp d).getLast? = some 10 := by
  rcases List.eq_nil_or_concat (cp d) with h | ⟨a, c, h⟩
  · rw [h]
    have : d = tx [] := by rw [← tx_cp d, h]
    subst this
    constructor
    · intro q; exact absurd q (by decide +kernel)
    · intro q; cases q
  · rw [List.concat_eq_append] at h
    have e : d = tx a ++ tx [c] := by
      refine cp_inj ?_
      rw [h]
      simp [cp, Str.cps_append]
    rw [h, e, KAf.ends_right (a := tx a) (y := tx [c]) (d := tx [10]) (Nat.le_refl 1)]
    simp only [List.getLast?_append, List.getLast?_singleton, Option.some_or, Option.some.injEq]
    unfold Txt.endswith
    rw [StrLaws.subAt_eq]
    simp [Str.length]
theorem occ_se {c : Nat} (h : Safe c ∨ c = 61) : (Builtin.Str.occurrences (Str.ofString "\x0d\n") (tx [c]) 0 (Str.ofString "\x0d\n").length 1).isEmpty = true := by
  unfold Safe safeL at h
  simp only [List.mem_cons, List.not_mem_nil, or_false] at h
  rcases h with (h | h | h | h | h | h | h | h | h | h | h | h | h | h) | h <;> subst h <;> decide +kernel
theorem jn_last {P : Nat → Prop} {c : Nat} : ∀ {rows : List (List Nat)}, rows ≠ [] → (∀ r ∈ rows, r ≠ []) → (∀ r ∈ rows, ∀ x ∈ r, P x) → ∃ x, (jn c rows).getLast? = some x ∧ P x
  | [], h, _, _ => absurd rfl h
  | [x], _, h, hp => last_of (h x List.mem_cons_self) (hp x List.mem_cons_self)
  | x :: y :: r, _, h, hp => by
    obtain ⟨z, e, hz⟩ := jn_last (c := c) (rows := y :: r) (by simp) (fun q hq => h q (List.mem_cons_of_mem _ hq)) (fun q hq => hp q (List.mem_cons_of_mem _ hq))
    refine ⟨z, ?_, hz⟩
    show (x ++ c :: jn c (y :: r)).getLast? = some z
    rw [List.getLast?_append, List.getLast?_cons, e]
    rfl
theorem item_join {rows : List Str} (h0 : rows ≠ []) (h : ∀ r ∈ rows, Row Safe (cp r)) : ∃ c, Txt.item (Str.join (tx [10]) rows) (-1) = tx [c] ∧ (Safe c ∨ c = 61) := by
  have hn : rows.map cp ≠ [] := by simpa using h0
  have h1 : ∀ r ∈ rows.map cp, r ≠ [] := by
    intro r hr; obtain ⟨q, hq, rfl⟩ := List.mem_map.mp hr; exact row_ne (h q hq)
  have h2 : ∀ r ∈ rows.map cp, ∀ x ∈ r, (Safe x ∨ x = 61) := by
    intro r hr; obtain ⟨q, hq, rfl⟩ := List.mem_map.mp hr; exact row_se (h q hq)
  obtain ⟨c, e, hc⟩ := jn_last (c := 10) hn h1 h2
  have hx : 1 ≤ (Str.join (tx [10]) rows).length := by
    rw [len_cp, cp_join]
    exact List.length_pos_iff.mpr (jn_ne hn h1)
  obtain ⟨d, e2, e3⟩ := item_neg hx
  rw [cp_join, e] at e2
  exact ⟨d, e3, by rw [← Option.some.inj e2]; exact hc⟩
end Mine
end
section
set_option autoImplicit false
namespace Mine
open PySem PySem.Builtin PySem.Builtin.Str PySem.W PyProof.Rows
theorem look_str {prog : Program} {w : World} {A : Around} {E : Value → Shared → Prop} {s : Shared} {a : Addr} {items : Array Value} {c : Nat} {y : Str} {u : Tok} {Q : Mapped → Shared → Prop}
    (hl : s.heap.IsList a items) (hc : (c : Int) < 2 ^ 63) (hy : items[c]? = some (.str y u)) (h : ∀ tk, Q (.text y) { s with toks := tk }) :
    wpAny (model prog w) A (tableLookup (.ref a) c) Q E s := by
  unfold tableLookup
  refine wpAny_bind (wpAny_attempt (wpAny_bind (wpAny_mkInt ?_)))
  refine wpAny_getItem_list hl (Int.natCast_nonneg _) hc (by rw [Int.toNat_natCast]; exact hy) ?_
  exact wpAny_bind (wpAny_pure (wpAny_bind (wpAny_pure (wpAny_pure (h _)))))
theorem small_tl {n : Nat} (h : n ≤ 10000) : tooLong n = false := by
  unfold tooLong
  rw [sizeLine_eq]
  exact decide_eq_false (by omega)
theorem foldl_tx : ∀ (pre : List Nat) (acc : Array Nat), (pre.map (fun c => tx [c])).foldl (fun acc p => acc ++ p.cps) acc = acc ++ pre.toArray
  | [], acc => by simp
  | c :: r, acc => by
    rw [List.map_cons, List.foldl_cons, foldl_tx r]
    simp
theorem meets_translate {x : Str} {t : Tok} {a : Addr} (h0 : x.length ≠ 0) (hall : ∀ c ∈ cp x, c < 128) (hx : x.length ≤ 10000) :
    Meets («str.translate» ⟨[.str x t, .ref a], []⟩) (fun A R s => ∃ items, s.heap.IsList a items ∧ (∀ c ∈ cp x, ∃ u, items[c]? = some (.str (tx [c]) u)) ∧ ∀ t' tk, R (.ok (.ret (.str x t'))) { s with toks := tk }) := by
  refine .of_wp fun prog w A R s h => ?_
  obtain ⟨items, hl, hi, hR⟩ := h
  unfold «str.translate»
  refine wpAny_bind (wpAny_pure ?_)
  dsimp only
  rw [if_neg (by simpa using h0)]
  have hfast : (x.cps.all fun x => decide (x < 128)) = true := by
    rw [← Array.all_toList, List.all_eq_true]
    intro c hc
    exact decide_eq_true (hall c hc)
  rw [hfast]
  have hlen : (cp x).length ≤ 10000 := by rw [← len_cp]; exact hx
  refine wpAny_bind (PySem.MeetsSeq2.wpAny_forIn_array _ (fun rest b s₁ => ∃ (pre : List Nat) (tk : Nat) (known : List (Nat × Option Nat)), cp x = pre ++ rest ∧ s₁ = { s with toks := tk } ∧ b = (pre.reverse.map (fun c => tx [c]), pre.length, true, known, false) ∧ ∀ c a, known.lookup c = some a → a = some c) _ ?turn ?fin _ _ ?init)
  case init => exact ⟨[], s.toks, [], rfl, rfl, rfl, fun _ _ h => nomatch h⟩
  case turn =>
    rintro c rest _ _ ⟨pre, tk, known, he, rfl, rfl, hk⟩
    have hpl : pre.length ≤ 10000 := by rw [he, List.length_append] at hlen; omega
    have hcm : c ∈ cp x := by rw [he]; exact List.mem_append_right _ List.mem_cons_self
    have hc := hall c hcm
    obtain ⟨u, hu⟩ := hi c hcm
    have he' : cp x = (pre ++ [c]) ++ rest := by rw [he]; simp
    have hp' : (tx [c] :: pre.reverse.map (fun c => tx [c])) = (pre ++ [c]).reverse.map (fun c => tx [c]) := by simp
    have hn' : pre.length + 1 = (pre ++ [c]).length := by simp
    dsimp only
    rw [if_neg (by rw [small_tl hpl]; decide), if_pos rfl]
    cases hlk : List.lookup c known with
    | some b =>
      have hb := hk c b hlk
      subst hb
      refine wpAny_bind (wpAny_pure (wpAny_pure ?_))
      exact ⟨pre ++ [c], tk, known, he', rfl, by rw [← hp', ← hn'], hk⟩
    | none =>
      refine wpAny_bind (look_str (s := { s with toks := tk }) hl (by omega) hu (fun tk' => ?_))
      dsimp only
      have hone : ((tx [c]).length == 1 && (tx [c]).cps.all fun x => decide (x < 128)) = true := by
        simp [Str.length, hc]
      simp only [hone, if_true]
      refine wpAny_bind (wpAny_pure (wpAny_pure ?_))
      refine ⟨pre ++ [c], tk', (c, some c) :: known, he', rfl, by rw [← hp', ← hn']; rfl, ?_⟩
      intro c' b hb
      rw [List.lookup_cons] at hb
      by_cases e : (c' == c) = true
      · rw [e] at hb
        simp only [Option.some.injEq] at hb
        rw [← hb, eq_of_beq e]
      · simp only [e] at hb
        exact hk c' b hb
  case fin =>
    rintro _ _ ⟨pre, tk, known, he, rfl, rfl, hk⟩
    rw [List.append_nil] at he
    have hpl : pre.length ≤ 10000 := by rw [← he]; exact hlen
    dsimp only
    rw [if_neg (by rw [small_tl hpl]; decide)]
    have hres : (⟨((pre.reverse.map (fun c => tx [c])).reverse.foldl (fun acc p => acc ++ p.cps) #[])⟩ : Str) = x := by
      rw [← List.map_reverse, List.reverse_reverse, foldl_tx]
      simp [← he]
    rw [hres]
    refine wpAny_bind (wpAny_mkStr (wpAny_pure ⟨_, rfl, hR _ _⟩) ?_)
    rw [sizeLine_eq]; omega
theorem call_translate {prog : Program} {w : World} {A : Around} {E : Value → Shared → Prop} {s : Shared} {x : Str} {t : Tok} {a : Addr} {items : Array Value} {Q : Value → Shared → Prop} (h0 : x.length ≠ 0) (hall : ∀ c ∈ cp x, c < 128) (hx : x.length ≤ 10000)
    (hl : s.heap.IsList a items) (hi : ∀ c ∈ cp x, ∃ u, items[c]? = some (.str (tx [c]) u)) (hQ : ∀ t' tk, Q (.str x t') { s with toks := tk }) :
    wpAny (model prog w) A (call (.builtin "str.translate") [.str x t, .ref a]) Q E s :=
  call_meets F.slot_str_translate (typeIs_str _ _ _) F.entry_str_translate (F.args_str_translate_2 _ _) (meets_translate h0 hall hx) ⟨items, hl, hi, hQ⟩
end Mine
end
section
set_option autoImplicit false
set_option maxRecDepth 100000
namespace Mine
open PySem PySem.Builtin PySem.Builtin.Str PySem.W PyProof.Rows
theorem slot_mdg : Slot "method_descriptor" "__get__" "method_descriptor.__get__" :=
  .of (owner := "method_descriptor") (n := "__get__") (by rw [typeLookup_type, builtinLookup_eq_fast]; kernel_rfl) (by decide +kernel) (by decide +kernel) (by decide +kernel)
    (by first | exact .inl (by decide +kernel) | exact .inr (by decide +kernel)) (by rw [isSubtype_type]; kernel_rfl)
theorem entry_mdg : entryFor table "method_descriptor.__get__" = some Builtin.«method_descriptor.__get__» := entryFor_of_tree (by kernel_rfl)
theorem args_mdg (a b c : Value) : argsOk "method_descriptor.__get__" ⟨[a, b, c], []⟩ := by unfold argsOk; kernel_rfl
theorem lk_append : typeLookup (.type "list") "append" = pure (some (.builtin "list.append")) := by rw [typeLookup_type, builtinLookup_eq_fast]; kernel_rfl
theorem md_set : typeLookup (.type "method_descriptor") "__set__" = pure none := by rw [typeLookup_type, builtinLookup_eq_fast]; kernel_rfl
theorem md_del : typeLookup (.type "method_descriptor") "__delete__" = pure none := by rw [typeLookup_type, builtinLookup_eq_fast]; kernel_rfl
theorem told_append : Manifest.toldItsClass.contains "list.append" = false := by decide +kernel
abbrev boundAp (l : Addr) : Obj := { cls := .type "builtin_function_or_method", data := .fields #[.builtin "list.append", .ref l] }
theorem own_append : ".".intercalate ("list.append".cutAt '.').dropLast = "list" := by decide +kernel
theorem sub_append : isSubtype (.type "list") (.type (".".intercalate ("list.append".cutAt '.').dropLast)) = pure true := by
  rw [own_append, isSubtype_type]; kernel_rfl
section
variable {prog : Program} {w : World} {A : Around} {E : Value → Shared → Prop} {h : Heap} {g : Array GenState} {d : Drawn} {t : Nat} {os : OsState} {a : Addr} {o : Obj} {its : Array Value} {n : Nat}
theorem run_get {P : Fin → Shared → Prop} (hx : h.get? a = some o) (hc : o.cls = .type "list") (hq : P (.done (.ret (.ref h.objs.size))) ⟨h.push (boundAp a), g, d, t, os⟩) :
    wpAny (model prog w) A (Builtin.«method_descriptor.__get__» ⟨[.builtin "list.append", .ref a, .type "list"], []⟩) P E ⟨h, g, d, t, os⟩ := by
  have hT : (⟨h, g, d, t, os⟩ : Shared).TypeIs (.ref a) "list" := ⟨_, hx, hc⟩
  have f1 := told_append
  have f2 := sub_append
  unfold Builtin.«method_descriptor.__get__»
  refine wpAny_bind (wpAny_of_eq (a := (.builtin "list.append", some (.ref a), some (.type "list"))) (by first | rfl | kernel_rfl) ?_)
  dsimp only
  rw [if_neg (by rw [f1]; decide)]
  repeat (any_goals (first | assumption | wp_step))
theorem entry_append {tk : Tok} {Q : Fin → Shared → Prop} (hx : h.get? a = some { cls := .type "list", data := .seq its n }) (hq : Q (.done (.ret (.ref h.objs.size))) ⟨h.push (boundAp a), g, d, t, os⟩) :
    wpAny (model prog w) A (Builtin.«object.__getattribute__» ⟨[.ref a, .str "append" tk], []⟩) Q E ⟨h, g, d, t, os⟩ := by
  have hT : (⟨h, g, d, t, os⟩ : Shared).TypeIs (.ref a) "list" := ⟨_, hx, rfl⟩
  have hT5 : (⟨h, g, d, t, os⟩ : Shared).TypeIs (.builtin "list.append") "method_descriptor" := F.type_list_append
  have f4 := lk_append
  have f5 := F.type_list_append
  have f6 := slot_mdg.lookup
  have f7 := md_set
  have f8 := md_del
  unfold Builtin.«object.__getattribute__»
  repeat (any_goals (first | assumption | wp_step))
  refine codeAny_call_builtin slot_mdg.plain entry_mdg (slot_mdg.check _ _ _ _ _ _ _ _ hT5 (args_mdg _ _ _) ?_)
  refine run_get hx rfl ?_
  exact wpAny_pure hq
theorem attr_append {Q : Value → Shared → Prop} {ex : Bool} (hx : h.get? a = some { cls := .type "list", data := .seq its n }) (hq : Q (.ref h.objs.size) ⟨h.push (boundAp a), g, d, t + 1, os⟩) :
    wpAny (model prog w) A (getAttr (.ref a) (Str.ofString "append") ex) Q E ⟨h, g, d, t, os⟩ := by
  have hT : ∀ tk', (⟨h, g, d, tk', os⟩ : Shared).TypeIs (.ref a) "list" := fun _ => ⟨_, hx, rfl⟩
  have f3 := F.slot_list_getattribute.lookup
  have f4 := F.slot_list_getattribute.bind (.ref a)
  have f5 := am_list_getattr_none
  unfold getAttr getAttrBy
  repeat (any_goals (first | assumption | exact hT _ | wp_step))
  rw [show (ex && onTheHeap (Value.builtin "list.__getattribute__")) = false from by cases ex <;> rfl]
  simp only [Bool.false_eq_true, if_false]
  repeat (any_goals (first | assumption | exact hT _ | wp_step))
  refine codeAny_call_builtin F.slot_list_getattribute.plain F.entry_list_ga (F.slot_list_getattribute.check _ _ _ _ _ _ _ _ (hT _) (F.args_list_getattribute_2 _ _) (entry_append hx ?_))
  show wpAny _ _ (handedOut (.ref h.objs.size)) _ _ _
  rw [handedOut_of rfl]
  exact wpAny_pure hq
theorem sub_list_mod : isSubtype (.type "list") (.type "module") = pure false := by rw [isSubtype_type]; kernel_rfl
theorem sub_list_type : isSubtype (.type "list") (.type "type") = pure false := by rw [isSubtype_type]; kernel_rfl
theorem var_append : Manifest.varargsMethods.contains "list.append" = false := by decide +kernel
abbrev sgA (full : String) : Manifest.Signature := { machinery := .oneArg, full := full, short := "append", receiver := .self, params := [{ name := "object", kind := .posOnly, required := true }] }
theorem sig_ap : Manifest.signature? "list.append" = some (sgA "list.append") := by kernel_rfl
theorem kind_ap : builtinKind "list.append" = some .method := by kernel_rfl
theorem chk_ap (x v : Value) : Bind.checkArgs "list.append" (sgA (s!"{Bind.lastOf "list"}.{Bind.lastOf "list.append"}")) ⟨[x, v], []⟩ = pure () := by
  have e : s!"{Bind.lastOf "list"}.{Bind.lastOf "list.append"}" = "list.append" := by decide +kernel
  rw [e]
  have := F.args_list_append_2 x v
  unfold argsOk at this
  rw [sig_ap] at this
  exact this
theorem check_ap {v : Value} {Q : Unit → Shared → Prop} (hx : h.get? a = some { cls := .type "list", data := .seq its n }) (hq : Q () ⟨h, g, d, t, os⟩) : wpAny (model prog w) A (checkBoundCall "list.append" ⟨[.ref a, v], []⟩) Q E ⟨h, g, d, t, os⟩ := by
  have hT : (⟨h, g, d, t, os⟩ : Shared).TypeIs (.ref a) "list" := ⟨_, hx, rfl⟩
  unfold checkBoundCall
  rw [sig_ap, kind_ap]
  dsimp only
  refine wpAny_bind (wpAny_isInstance hT sub_list_mod ?_)
  rw [var_append]
  simp only [Bool.or_self, Bool.false_eq_true, if_false]
  refine wpAny_bind ?_
  unfold isType
  repeat (any_goals (first | assumption | exact sub_list_type | wp_step))
theorem call_bound {R : Result → Shared → Prop} {b : Addr} {v : Value} (hx : h.get? a = some { cls := .type "list", data := .seq its n }) (hb : h.get? b = some (boundAp a))
    (hq : codeAny (model prog w) A (.builtin "list.append" ⟨[.ref a, v], []⟩) R ⟨h, g, d, t, os⟩) : codeAny (model prog w) A (.call (.ref b) ⟨[v], []⟩) R ⟨h, g, d, t, os⟩ := by
  refine codeAny_of_tree ?_
  show wpAny _ A.in1 (callAny (.ref b) _) _ _ _
  unfold callAny
  refine wpAny_bind (wpAny_load hb ?_)
  refine wpAny_bind (check_ap hx ?_)
  exact wpAny_pure ⟨Code.quiet_builtin _ (by decide +kernel), hq⟩
end
section
variable {prog : Program} {w : World} {A : Around} {E : Value → Shared → Prop} {s : Shared} {h₀ : Heap} {L D b : Addr} {m : Str → Option Value} {news news' : List (Addr × Obj)} {its : Array Value} {n : Nat} {x : Value} {Q : Value → Shared → Prop}
theorem attr_append_K {ex : Bool} (F : Fr h₀ L s.heap m) (N : News h₀ L s.heap news) (hm : (D, listOf its n) ∈ news)
    (h : ∀ q h', Fr h₀ L h' m → News h₀ L h' ((q, boundAp D) :: news) → (∀ p ∈ news, p.1 < q) → Q (.ref q) { s with heap := h', toks := s.toks + 1 }) :
    wpAny (model prog w) A (getAttr (.ref D) (Str.ofString "append") ex) Q E s := by
  obtain ⟨hp, g, d, t, os⟩ := s
  exact attr_append (N _ hm).1 (h _ _ (F.push _) (News.push F N _) fun p hp => Heap.lt_size (N p hp).1)
theorem bappend_K (F : Fr h₀ L s.heap m) (N : News h₀ L s.heap news) (hb : (b, boundAp D) ∈ news) (U : Upd D (listOf its n) (listOf (its.push x) (n + 1)) news news')
    (h : ∀ h', Fr h₀ L h' m → News h₀ L h' news' → Q .none { s with heap := h' }) (hsz : its.size ≤ sizeLine := by size_fits) : wpAny (model prog w) A (call (.ref b) [x]) Q E s := by
  have hb' := (N _ hb).1
  obtain ⟨pre, post, rfl, rfl, a1, b1⟩ := U.split
  have z := N (D, listOf its n) (List.mem_append.mpr (.inr (.head _)))
  obtain ⟨hp, g, d, t, os⟩ := s
  refine wpAny_call (call_bound z.1 hb' (codeAny_builtin PySem.F.entry_list_append ?_))
  show wpAny _ _ (updateSeq D (·.push x) >>= fun _ => ret .none) _ _ _
  refine wpAny_bind ?_
  refine wpAny_updateSeq z.1 rfl (wpAny_pure ?_)
  refine h _ (F.change (Heap.SameBut.update ..) z.2.1 z.2.2) (news_set N a1 b1 (Heap.SameBut.update ..) ?_)
  rw [Heap.get?_update_self _ z.1 (by rw [mapSeq_push]; rfl), mapSeq_push]
end
end Mine
end
section
set_option autoImplicit false
namespace Mine
open PySem PySem.Builtin PySem.Builtin.Str PySem.W PyProof.Rows
theorem erase_place (k : Str) : ∀ {vs : List Value} {xs : List Str}, StrsAre vs xs → k ∈ xs →
    ∃ j, ∃ hj : j < vs.length, isStrOf k vs[j] = true ∧ (∀ m (hm : m < vs.length), m < j → isStrOf k vs[m] = false) ∧ StrsAre (vs.eraseIdx j) (xs.erase k)
  | _, _, .nil, h => nomatch h
  | _, _, .cons n t (vs := vs) (ys := xs) hr, h => by
    by_cases e : n = k
    · subst e
      refine ⟨0, Nat.succ_pos _, by simp [isStrOf], fun m _ hm => absurd hm (Nat.not_lt_zero _), ?_⟩
      rw [List.erase_cons_head]
      exact hr
    · have hk : k ∈ xs := (List.mem_cons.mp h).resolve_left (Ne.symm e)
      obtain ⟨j, hj, h1, h2, h3⟩ := erase_place k hr hk
      refine ⟨j + 1, Nat.succ_lt_succ hj, h1, ?_, ?_⟩
      · intro m hm hlt
        cases m with
        | zero => simp [isStrOf, e]
        | succ m => exact h2 m (Nat.lt_of_succ_lt_succ hm) (Nat.lt_of_succ_lt_succ hlt)
      · rw [List.erase_cons_tail (by simpa using e), List.eraseIdx_cons_succ]
        exact .cons n t h3
theorem none_place (k : Str) : ∀ {vs : List Value} {xs : List Str}, StrsAre vs xs → k ∉ xs → ∀ m (hm : m < vs.length), isStrOf k vs[m] = false
  | _, _, .nil, _, m, hm => absurd hm (Nat.not_lt_zero _)
  | _, _, .cons n t hr, h, m, hm => by
    cases m with
    | zero => 
      have : n ≠ k := fun e => h (e ▸ List.mem_cons_self)
      simp [isStrOf, this]
    | succ m => exact none_place k hr (fun q => h (List.mem_cons_of_mem _ q)) m (Nat.lt_of_succ_lt_succ hm)
section
variable {prog : Program} {w : World} {A : Around} {E : Value → Shared → Prop} {s : Shared} {h₀ : Heap} {L D : Addr} {m : Str → Option Value} {pre post : List (Addr × Obj)} {us : List Value} {xs : List Str} {n : Nat} {k : Str} {t : Tok} {Q : Value → Shared → Prop}
theorem rem_K (F : Fr h₀ L s.heap m) (N : News h₀ L s.heap (pre ++ (D, listOf us.toArray n) :: post)) (a' : ∀ p ∈ pre, p.1 ≠ D) (b' : ∀ p ∈ post, p.1 ≠ D) (hi : StrsAre us xs) (hk : k ∈ xs) (hz : us.length ≤ sizeLine)
    (h : ∀ vs' h', StrsAre vs' (xs.erase k) → Fr h₀ L h' m → News h₀ L h' (pre ++ (D, listOf vs'.toArray (n + 1)) :: post) → Q .none { s with heap := h' }) :
    wpAny (model prog w) A (call (.builtin "list.remove") [.ref D, .str k t]) Q E s := by
  have z := N (D, listOf us.toArray n) (List.mem_append.mpr (.inr (.head _)))
  obtain ⟨j, hj, h1, h2, h3⟩ := erase_place k hi hk
  refine call_meets PySem.F.slot_list_remove ⟨_, z.1, rfl⟩ PySem.F.entry_list_remove (PySem.F.args_list_remove_2 _ _)
    (MeetsSeq.list_remove D us.toArray n (.str k t) (isStrOf k) (fun y hy => eq_isStrOf k t hi y (by simpa using hy)) j (by simpa using hj) (by simpa using h1) (fun i hi' hlt => by simpa using h2 i (by simpa using hi') hlt) (by simpa using hz))
    ⟨z.1, h _ _ h3 (F.change (Heap.SameBut.update ..) z.2.1 z.2.2) (ki_turn _ N a' b' ?_ ?_)⟩
  · show us.toArray.eraseIdxIfInBounds j = _
    apply Array.toList_inj.mp
    simp [Array.toList_eraseIdxIfInBounds]
  · have hq : (us.eraseIdx j).toArray.size ≠ us.toArray.size := by
      rw [List.size_toArray, List.size_toArray, List.length_eraseIdx, if_pos hj]; omega
    rw [if_neg (by simpa using hq)]
theorem rem_none (hA : A.handled = none) (hl : s.heap.get? D = some (listOf us.toArray n)) (hi : StrsAre us xs) (hk : k ∉ xs)
    (hE : ∀ h' tk e, Heap.NewExc s.heap h' e "ValueError" → E (.ref e) { s with heap := h', toks := tk }) :
    wpAny (model prog w) A (call (.builtin "list.remove") [.ref D, .str k t]) Q E s :=
  call_meets PySem.F.slot_list_remove ⟨_, hl, rfl⟩ PySem.F.entry_list_remove (PySem.F.args_list_remove_2 _ _)
    (MeetsSeq.list_remove_none D us.toArray n (.str k t) (isStrOf k) (fun y hy => eq_isStrOf k t hi y (by simpa using hy)) (fun m hm => by simpa using none_place k hi hk m (by simpa using hm))) ⟨hl, hA, hE⟩
end
end Mine
end
section
set_option autoImplicit false
set_option maxRecDepth 100000
namespace Mine
open PySem PySem.Builtin PySem.Builtin.Str PySem.W PyProof.Rows
section
variable {prog : Program} {w : World} {A : Around} {E : Value → Shared → Prop} {s : Shared}
theorem next_tup {it t : Addr} {i : Nat} {items : Array Value} {x : Value} {Q : Value → Shared → Prop} (hit : s.heap.IsTupleIter it t i) (ht : s.heap.IsTuple t items) (hx : items[i]? = some x)
    (hQ : ∀ h', h'.IsTupleIter it t (i + 1) → Heap.SameBut it s.heap h' → Q x { s with heap := h' }) : wpAny (model prog w) A (Builtin.SmallTypes.nextOf (.ref it)) Q E s := by
  obtain ⟨o, ho, hc, hd⟩ := id hit
  obtain ⟨ol, hol, _, nl, hdl⟩ := ht
  unfold Builtin.SmallTypes.nextOf
  refine wpAny_bind (wpAny_callSpecial?_slot (name := Str.ofString "__next__") hit.typeIs F.slot_tuple_iterator_next (wpAny_call_entry F.slot_tuple_iterator_next hit.typeIs F.entry_tuple_iterator_next ?_ (F.args_tuple_iterator_next_1 _)))
  show wpAny _ _ (field (.ref it) 0 >>= _) _ _ s
  refine wpAny_bind (wpAny_field ho hd (x := .ref t) rfl ?_)
  show wpAny _ _ (if (Value.ref t == Value.none) = true then _ else _) _ _ s
  rw [if_neg (show ¬ ((Value.ref t == Value.none) = true) from Bool.false_ne_true)]
  show wpAny _ _ (field (.ref it) 1 >>= _) _ _ s
  refine wpAny_bind (wpAny_field ho hd (x := .int i 0) rfl ?_)
  show wpAny _ _ (seqItems? (.ref t) >>= _) _ _ s
  refine wpAny_bind (wpAny_seqItems hol hdl ?_)
  simp only [Int.toNat_natCast, hx]
  refine wpAny_bind (wpAny_setField ho hd (by simp) (wpAny_pure ⟨x, rfl, wpAny_pure (hQ _ ?_ (Heap.SameBut.update ..))⟩))
  exact ⟨_, Heap.get?_update_self _ ho (Obj.isFreed_of_fields (Obj.data_mapFields hd _)), (Obj.cls_mapFields ..).trans hc, by
    rw [Obj.data_mapFields hd]; simp [rawInt]⟩
theorem next_tup_end {it t : Addr} {i : Nat} {items : Array Value} {Q : Value → Shared → Prop} (hh : A.handled = none) (hit : s.heap.IsTupleIter it t i) (ht : s.heap.IsTuple t items) (hx : items[i]? = none)
    (hE : ∀ h' e, Heap.ExtBut it s.heap h' → (∃ o, h'.get? e = some o ∧ o.cls = .type "StopIteration") → E (.ref e) { s with heap := h' }) :
    wpAny (model prog w) A (Builtin.SmallTypes.nextOf (.ref it)) Q E s := by
  obtain ⟨o, ho, hc, hd⟩ := id hit
  obtain ⟨ol, hol, _, nl, hdl⟩ := ht
  unfold Builtin.SmallTypes.nextOf
  refine wpAny_bind (wpAny_callSpecial?_slot (name := Str.ofString "__next__") hit.typeIs F.slot_tuple_iterator_next (wpAny_call_entry F.slot_tuple_iterator_next hit.typeIs F.entry_tuple_iterator_next ?_ (F.args_tuple_iterator_next_1 _)))
  show wpAny _ _ (field (.ref it) 0 >>= _) _ _ s
  refine wpAny_bind (wpAny_field ho hd (x := .ref t) rfl ?_)
  show wpAny _ _ (if (Value.ref t == Value.none) = true then _ else _) _ _ s
  rw [if_neg (show ¬ ((Value.ref t == Value.none) = true) from Bool.false_ne_true)]
  show wpAny _ _ (field (.ref it) 1 >>= _) _ _ s
  refine wpAny_bind (wpAny_field ho hd (x := .int i 0) rfl ?_)
  show wpAny _ _ (seqItems? (.ref t) >>= _) _ _ s
  refine wpAny_bind (wpAny_seqItems hol hdl ?_)
  simp only [Int.toNat_natCast, hx]
  refine wpAny_bind (wpAny_rule (wpAny_bind (wpAny_setField ho hd (by simp) ?_)))
  show wpAny _ _ (newExc (.type "StopIteration") [] >>= _) _ _ _
  refine wpAny_bind ?_
  simp only [newExc, newTuple]
  refine wpAny_bind (wpAny_newObj_type ?_ (by size_fits))
  refine wpAny_bind (m := firstArgMember _ _) (wpAny_of_eq (a := Value.none) (by first | rfl | (simp only [firstArgMember]; rfl)) ?_)
  refine wpAny_newObj_type ?_ (by size_fits)
  simp only [raiseNew]
  refine wpAny_bind (wpAny_handled ?_)
  first | rw [show A.in1.handled = none from hh] | rw [hh]
  refine wpAny_bind (wpAny_pure (wpAny_throw ?_))
  exact hE _ _ (((Heap.SameBut.update ..).extBut.push _).push _) ⟨_, Heap.get?_push_size _ rfl, rfl⟩
end
theorem draws_tup {prog : Program} {w : World} {A : Around} (hh : A.handled = none) (it l : Addr) (hne : l ≠ it) (items : Array Value) :
    Draws prog w A it [it, l] items.size (fun i v => items[i]? = some v) (fun i h => h.IsTupleIter it l i ∧ h.IsTuple l items) where
  live := fun _ _ st => let ⟨o, ho, _⟩ := st.1; ⟨o, ho⟩
  frame := fun _ _ _ st hk => ⟨st.1.at fun o e => hk it (by simp) o e, st.2.at fun o e => hk l (by simp) o e⟩
  item := fun i s Q E hi st hQ => by
    refine next_tup st.1 st.2 (x := items[i]) (by simp [hi]) fun h' hit' hs' => ?_
    exact hQ _ h' s.toks (by simp [hi]) ⟨hit', st.2.extBut hs'.extBut hne⟩ hs'
  done := fun s Q E st hE => next_tup_end hh st.1 st.2 (by simp) hE
open AutoSeq1 (wpAny_loadPart')
theorem meets_enumT (l : Addr) (items : Array Value) (n : Nat) (dct : Option Addr) (sl : Array (Option Value)) :
    Meets (Builtin.«enumerate.__new__» ⟨[.type "enumerate", .ref l], []⟩) (fun _ R s => s.heap.get? l = some { cls := .type "tuple", dict := dct, data := .seq items n, slots := sl } ∧
      R (.ok (.ret (.ref (s.heap.push { cls := .type "tuple_iterator", data := .fields #[.ref l, .int 0 0] }).objs.size)))
        { s with heap := (s.heap.push { cls := .type "tuple_iterator", data := .fields #[.ref l, .int 0 0] }).push { cls := .type "enumerate", data := .fields #[.none, .bool false, .ref s.heap.objs.size, rawInt 0, .none, .none] } }) :=
  .of_wp fun prog w A R s h => by
    obtain ⟨hp, g, d, tk, os⟩ := s; obtain ⟨hl, h⟩ := h
    have hsub := sub_enumerate
    have hL : Heap.IsTuple (Shared.heap ⟨hp, g, d, tk, os⟩) l items := ⟨_, hl, rfl, n, rfl⟩
    wp_walk using wpAny_loadPart' hl
    refine wpAny_stack_any fun st => wpAny_pure ?_
    split
    · rename_i c _ _ _ _ _
      cases (c == Value.type "enumerate")
      · wp_walk using wpAny_loadPart' hl, wpAny_pyIter_tuple hL
        exact ⟨_, rfl, h⟩
      · wp_walk using wpAny_loadPart' hl, wpAny_pyIter_tuple hL
        exact ⟨_, rfl, h⟩
    · wp_walk using wpAny_loadPart' hl, wpAny_pyIter_tuple hL
      exact ⟨_, rfl, h⟩
section
variable {prog : Program} {w : World} {A : Around} {E : Value → Shared → Prop} {s : Shared}
theorem call_enumT {l : Addr} {items : Array Value} {Q : Value → Shared → Prop} (hL : s.heap.IsTuple l items)
    (h : ∀ h', IsEnum h' (s.heap.objs.size + 1) s.heap.objs.size 0 .none → h'.IsTupleIter s.heap.objs.size l 0 → h'.objs.size = s.heap.objs.size + 2 →
      (∀ b o, s.heap.get? b = some o → h'.get? b = some o) → Q (.ref (s.heap.objs.size + 1)) { s with heap := h' }) :
    wpAny (model prog w) A (call (.type "enumerate") [.ref l]) Q E s := by
  obtain ⟨⟨c, dct, dt, sl⟩, hl, hc, n, hd⟩ := hL
  replace hc : c = .type "tuple" := hc
  replace hd : dt = .seq items n := hd
  subst hc hd
  refine callType_new F.called_enumerate (by decide) (F.typeCall_enumerate_1 _) (F.newCall_enumerate_1 _) (fun obj => F.args_object_init_2 obj _) F.entry_enumerate_new
    (meets_enumT l items n dct sl) ⟨hl, ?_⟩
  have hz : (s.heap.push { cls := .type "tuple_iterator", data := .fields #[.ref l, .int 0 0] }).objs.size = s.heap.objs.size + 1 := Heap.size_push ..
  show _ ∧ _
  rw [hz]
  have he : IsEnum ((s.heap.push { cls := .type "tuple_iterator", data := .fields #[.ref l, .int 0 0] }).push
      { cls := .type "enumerate", data := .fields #[.none, .bool false, .ref s.heap.objs.size, rawInt 0, .none, .none] }) (s.heap.objs.size + 1) s.heap.objs.size 0 .none := by
    have := Heap.get?_push_size (s.heap.push { cls := .type "tuple_iterator", data := .fields #[.ref l, .int 0 0] })
      (o := { cls := .type "enumerate", data := .fields #[.none, .bool false, .ref s.heap.objs.size, rawInt 0, .none, .none] }) rfl
    rw [hz] at this; exact this
  refine ⟨⟨_, he, rfl⟩, h _ he ⟨_, Heap.get?_push_of_some _ (Heap.get?_push_size _ rfl), rfl, rfl⟩ (by rw [Heap.size_push, hz]) fun b o x => Heap.get?_push_of_some _ (Heap.get?_push_of_some _ x)⟩
end
def TabAt (h : Heap) (ax : Addr) (rows : List (Value × Value)) : Prop :=
  ∃ refs : List Addr, h.IsTuple ax (refs.map Value.ref).toArray ∧ refs.length = rows.length ∧ ∀ (j : Nat) (T : Addr) (r : Value × Value), refs[j]? = some T → rows[j]? = some r → h.IsTuple T #[r.1, r.2]
def StepE (h₀ : Heap) (L : Addr) (s : Shared) (own news : List (Addr × Obj)) (xi xc : Str) (m : Str → Option Value) (Jn : Prop) (Q : Flow → Shared → Prop) (f : Flow) (s' : Shared) : Prop :=
  match f with
  | .ret v => Q (.ret v) s'
  | .brk => Q .next s'
  | _ => ∃ h' tk' m₂, s' = { s with heap := h', toks := tk' } ∧ Fr h₀ L h' m₂ ∧ (∀ y, y ≠ xi → y ≠ xc → m₂ y = m y) ∧ News h₀ L h' (news ++ own) ∧ Jn
theorem map2 {m m₂ : Str → Option Value} {xi xc : Str} {v0 v1 : Value} (h : ∀ y, y ≠ xi → y ≠ xc → m₂ y = m y) : (fun y => if y = xc then some v1 else if y = xi then some v0 else m₂ y) = fun y => if y = xc then some v1 else if y = xi then some v0 else m y := by
  funext y
  by_cases h1 : y = xc
  · simp [h1]
  · by_cases h2 : y = xi
    · simp [h2]
    · simp [h1, h2, h y h2 h1]
section
variable {prog : Program} {w : World} {A : Around} {E : Value → Shared → Prop} {s : Shared} {env : Env} {h₀ : Heap} {m : Str → Option Value} {news : List (Addr × Obj)} {xi xc : Str} {pk pv pt : Pos} {x1 : Nat} {body orelse : List Stmt} {Q : Flow → Shared → Prop} {ax : Addr} {rows : List (Value × Value)}
theorem for_tab_else (hh : A.handled = none) (TB : TabAt h₀ ax rows) (hxi : env.kindOf xi = some .local) (hxc : env.kindOf xc = some .local)
    (hp : (env.scope.kind == .class || (env.scope.kind == .module && env.locals != env.globals)) = false)
    (F : Fr h₀ env.locals s.heap m) (N : News h₀ env.locals s.heap news) (J : Nat → Prop) (h0 : J 0)
    (step : ∀ i (r : Value × Value) h tk own, rows[i]? = some r → J i → (∀ p ∈ own, ∀ q ∈ news, p.1 ≠ q.1) → Fr h₀ env.locals h (fun y => if y = xc then some r.2 else if y = xi then some r.1 else m y) → News h₀ env.locals h (news ++ own) →
      wpAny (model prog w) A (execs body env) (StepE h₀ env.locals s own news xi xc m (J (i + 1)) Q) E { s with heap := h, toks := tk })
    (els : ∀ h tk m₁, J rows.length → (∀ y, y ≠ xi → y ≠ xc → m₁ y = m y) → Fr h₀ env.locals h m₁ → News h₀ env.locals h news → wpAny (model prog w) A (execs orelse env) Q E { s with heap := h, toks := tk })
    (hE : PassesOwn (model prog w) A env E := by passes_own) :
    wpAny (model prog w) A (pyIter (.ref ax)) (fun it s₂ => codeAny (model prog w) A (.forLoop (.Tuple [.Name xi pk, .Name xc pv] x1 pt) it body orelse env) (fun r s' => match r with | .ok f => Q f s' | .error e => cameBackBy (model prog w) A env E e s') s₂) E s := by
  obtain ⟨refs, hT, hlen, hrow⟩ := TB
  obtain ⟨ob, hob, _⟩ := id hT
  have hTs : s.heap.IsTuple ax (refs.map Value.ref).toArray := let ⟨o, a, b⟩ := hT; ⟨o, F.keep _ _ a, b⟩
  have hne : ax ≠ s.heap.objs.size := Nat.ne_of_lt (Heap.lt_size (F.keep _ _ hob))
  refine wpAny_pyIter_tuple hTs ?_
  have W := Walks.tuple (prog := prog) (w := w) hh s.heap.objs.size ax hne (refs.map Value.ref).toArray
  have hn : (refs.map Value.ref).toArray.size = rows.length := by simp [hlen]
  rw [hn] at W
  have hI0 : h₀.get? s.heap.objs.size = none := next_is_new F
  have hLI : env.locals ≠ s.heap.objs.size := Nat.ne_of_lt F.ns.lt
  refine codeAny_forLoop_any
    (fun k s' => ∃ h' tk m' i, s' = { s with heap := h', toks := tk } ∧ (h'.IsTupleIter s.heap.objs.size ax i ∧ h'.IsTuple ax (refs.map Value.ref).toArray) ∧ Fr h₀ env.locals h' m' ∧ (∀ y, y ≠ xi → y ≠ xc → m' y = m y) ∧ News h₀ env.locals h' news ∧ J i ∧ i ≤ rows.length ∧ k = rows.length + 1 - i) ?_ (rows.length + 1)
    ⟨_, s.toks, m, 0, rfl, ⟨⟨_, Heap.get?_push_size _ rfl, rfl, rfl⟩, hTs.push _⟩, F.push _, fun _ _ _ => rfl, fun p hp => ⟨Heap.get?_push_of_some _ (N p hp).1, (N p hp).2⟩, h0, Nat.zero_le _, rfl⟩
  rintro k s' ⟨H, tk, m', i, rfl, hst, F', hm', N', hJ, hi, rfl⟩
  have hnw : ∀ p ∈ news, p.1 ∉ [s.heap.objs.size] := fun p hp hm => absurd (Heap.lt_size (N p hp).1) ((List.mem_singleton.mp hm) ▸ Nat.lt_irrefl _)
  have next : ∀ h₁ : Heap, (∀ b o, b ∉ [s.heap.objs.size] → H.get? b = some o → h₁.get? b = some o) → Fr h₀ env.locals h₁ m' ∧ News h₀ env.locals h₁ news := fun h₁ hk₁ =>
    ⟨⟨F'.ns.at' fun o e => hk₁ _ o (by simpa using hLI) e, fun b o e => hk₁ b o (fun hm => by rw [List.mem_singleton.mp hm, hI0] at e; cases e) (F'.keep b o e), F'.above⟩, fun p hp => ⟨hk₁ _ _ (hnw p hp) (N' p hp).1, (N' p hp).2⟩⟩
  by_cases hlt : i < rows.length
  · refine W.item i _ _ _ hlt hst fun v h₁ tk₁ hP st₁ hk₁ => ?_
    refine letGo_tupleiter st₁.1 ?_
    obtain ⟨F₁, N₁⟩ := next h₁ hk₁
    obtain ⟨T, hTi⟩ : ∃ T, refs[i]? = some T := ⟨refs[i]'(by omega), List.getElem?_eq_getElem (by omega)⟩
    obtain ⟨r, hri⟩ : ∃ r, rows[i]? = some r := ⟨rows[i], List.getElem?_eq_getElem hlt⟩
    have hv : v = .ref T := by
      have hP' : (refs.map Value.ref).toArray[i]? = some v := hP
      rw [List.getElem?_toArray, List.getElem?_map, hTi] at hP'
      exact (Option.some.inj hP').symm
    subst hv
    have hT₁ : h₁.IsTuple T #[r.1, r.2] := let ⟨o, a, b⟩ := hrow i T r hTi hri; ⟨o, F₁.keep _ _ a, b⟩
    refine wpAny_assign_Tuple hh hT₁ rfl rfl fun h₃ hx₃ => ?_
    replace hx₃ : Heap.ExtBut h₁.objs.size h₁ h₃ := hx₃
    have up₃ : ∀ b o, h₁.get? b = some o → h₃.get? b = some o := fun b o x => hx₃ b o (Nat.ne_of_lt (Heap.lt_size x)) x
    have F₃ := F₁.keeps up₃
    have N₃ : News h₀ env.locals h₃ news := fun p hp => ⟨up₃ _ _ (N₁ p hp).1, (N₁ p hp).2⟩
    show wpAny _ A (do holding [r.2] (assign (.Name xi pk) env r.1); do holding [] (assign (.Name xc pv) env r.2); pure ()) _ _ _
    refine wpAny_bind (wpAny_holding (wpAny_assign_Name (wpAny_storeName_local hxi F₃.ns (fun h₄ hn₄ hs₄ => ?_) hp)))
    replace hs₄ : Heap.SameBut env.locals h₃ h₄ := hs₄
    have F₄ := F₃.set hn₄ hs₄
    refine wpAny_bind (wpAny_holding (wpAny_assign_Name (wpAny_storeName_local hxc F₄.ns (fun h₅ hn₅ hs₅ => wpAny_pure ?_) hp)))
    replace hs₅ : Heap.SameBut env.locals h₄ h₅ := hs₅
    have F₅ := F₄.set hn₅ hs₅
    rw [map2 hm'] at F₅
    have N₅ : News h₀ env.locals h₅ news := (N₃.set hs₄).set hs₅
    obtain ⟨oi, hoi, hoir⟩ := st₁.1
    have hoi5 : h₅.get? s.heap.objs.size = some oi := hs₅.extBut _ _ (Ne.symm hLI) (hs₄.extBut _ _ (Ne.symm hLI) (up₃ _ _ hoi))
    have NO : News h₀ env.locals h₅ (news ++ [(s.heap.objs.size, oi)]) := fun p hp => by
      rcases List.mem_append.mp hp with hp | hp
      · exact N₅ p hp
      · rw [List.mem_singleton.mp hp]; exact ⟨hoi5, Ne.symm hLI, hI0⟩
    refine wpAny_mono (wpAny_passesOwn hE (step i r h₅ _ [(s.heap.objs.size, oi)] hri hJ (fun p hp q hq e => hnw q hq (List.mem_singleton.mpr (by rw [List.mem_singleton.mp hp] at e; exact e.symm))) F₅ NO)) (fun f s₃ h₆ => ?_) fun _ _ e => e
    have cont : (∃ h' tk' m₂, s₃ = { s with heap := h', toks := tk' } ∧ Fr h₀ env.locals h' m₂ ∧ (∀ y, y ≠ xi → y ≠ xc → m₂ y = m y) ∧ News h₀ env.locals h' (news ++ [(s.heap.objs.size, oi)]) ∧ J (i + 1)) →
        ∃ mm, mm < rows.length + 1 - i ∧ ∃ h' tk m' i, s₃ = { s with heap := h', toks := tk } ∧ (h'.IsTupleIter s.heap.objs.size ax i ∧ h'.IsTuple ax (refs.map Value.ref).toArray) ∧ Fr h₀ env.locals h' m' ∧ (∀ y, y ≠ xi → y ≠ xc → m' y = m y) ∧ News h₀ env.locals h' news ∧ J i ∧ i ≤ rows.length ∧ mm = rows.length + 1 - i := by
      rintro ⟨h', tk', m₂, rfl, F₆, hm₂, N₆, hJ₆⟩
      refine ⟨rows.length + 1 - (i + 1), by omega, h', tk', m₂, i + 1, rfl, ⟨⟨oi, (N₆ _ (List.mem_append_right _ List.mem_cons_self)).1, hoir⟩, ?_⟩, F₆, hm₂, fun p hp => N₆ p (List.mem_append_left _ hp), hJ₆, hlt, rfl⟩
      exact let ⟨o, a, b⟩ := hT; ⟨o, F₆.keep _ _ a, b⟩
    cases f with
    | ret v => exact h₆
    | brk => exact h₆
    | cont => exact cont h₆
    | next => exact cont h₆
  · have hin : i = rows.length := by omega
    subst hin
    refine W.done _ _ _ hst fun h₁ tk₁ hk₁ => ?_
    obtain ⟨F₁, N₁⟩ := next h₁ hk₁
    exact wpAny_mono (wpAny_passesOwn hE (els h₁ tk₁ m' hJ hm' F₁ N₁)) (fun f s₃ h₆ => h₆) fun _ _ e => e
def StepN (h₀ : Heap) (L : Addr) (s : Shared) (own : List (Addr × Obj)) (adr : List Addr) (Jn : (Str → Option Value) → List (Addr × Obj) → Prop) (Q : Flow → Shared → Prop) (f : Flow) (s' : Shared) : Prop :=
  match f with
  | .ret v => Q (.ret v) s'
  | .brk => Q .next s'
  | _ => ∃ h' tk' m₂ news₂, s' = { s with heap := h', toks := tk' } ∧ Fr h₀ L h' m₂ ∧ News h₀ L h' (news₂ ++ own) ∧ news₂.map (·.1) = adr ∧ Jn m₂ news₂
theorem for_enum {vs : List Value} (hh : A.handled = none) (hL : h₀.IsTuple ax vs.toArray) (F : Fr h₀ env.locals s.heap m) (N : News h₀ env.locals s.heap news)
    (J : Nat → (Str → Option Value) → List (Addr × Obj) → Prop) (h0 : J 0 m news)
    (step : ∀ (i : Nat) v t m₁ news₁ h tk own, vs[i]? = some v → J i m₁ news₁ → news₁.map (·.1) = news.map (·.1) → (∀ p ∈ own, ∀ q ∈ news, p.1 ≠ q.1) →
      Fr h₀ env.locals h (fun y => if y = xc then some v else if y = xi then some (.int i t) else m₁ y) → News h₀ env.locals h (news₁ ++ own) →
      wpAny (model prog w) A (execs body env) (StepN h₀ env.locals s own (news.map (·.1)) (J (i + 1)) Q) E { s with heap := h, toks := tk })
    (done : ∀ h' tk m' news', Fr h₀ env.locals h' m' → News h₀ env.locals h' news' → J vs.length m' news' → Q .next { s with heap := h', toks := tk }) :
    wpAny (model prog w) A (call (.type "enumerate") [.ref ax]) (fun xv s₁ => wpAny (model prog w) A (pyIter xv) (fun it s₂ => PairAt3 prog w A h₀ env xi xc body Q E it s₂) E s₁) E s := by
  obtain ⟨ob, hob, hobr⟩ := id hL
  have hLs : s.heap.IsTuple ax vs.toArray := ⟨ob, F.keep _ _ hob, hobr⟩
  have hlt : ax < s.heap.objs.size := Heap.lt_size (F.keep _ _ hob)
  have hLo : env.locals < s.heap.objs.size := F.ns.lt
  have hLax : env.locals ≠ ax := fun e => absurd (Heap.lt_size hob) (by rw [← e]; exact Nat.not_lt.mpr F.above)
  refine call_enumT hLs fun h' he hit hsz hk => ?_
  have hnew : ∀ b, s.heap.objs.size ≤ b → h₀.get? b = none := fun b hb => by
    cases e : h₀.get? b with
    | none => rfl
    | some o => exact absurd (Heap.lt_size (F.keep _ _ e)) (Nat.not_lt.mpr hb)
  have hnl : ∀ q ∈ news, q.1 < s.heap.objs.size := fun q hq => Heap.lt_size (N q hq).1
  have hax : ∀ q ∈ news, ax ≠ q.1 := fun q hq e => by
    have := (N q hq).2.2
    rw [← e, hob] at this
    cases this
  refine wpAny_pyIter_enum he ?_
  have D := draws_tup (prog := prog) (w := w) (A := A.in1) hh s.heap.objs.size ax (Nat.ne_of_lt hlt) vs.toArray
  refine ⟨s.heap.objs.size + 1, (s.heap.objs.size + 1) :: [s.heap.objs.size, ax], [s.heap.objs.size + 1, s.heap.objs.size], vs.toArray.size, _, _, _, (fun i v0 v1 => ∃ t, v0 = .int i t ∧ vs.toArray[i]? = some v1), m, news, J, rfl, WalksT.enumerateD D (s.heap.objs.size + 1) (Nat.succ_ne_self _) ?_ (by simp), ?_, ?_, ?_, ?_, ⟨⟨_, by simpa using he⟩, hit, ?_⟩, F.keeps hk, N.grown hk, h0, ?_, ?_⟩
  · intro hm
    rcases List.mem_cons.mp hm with e | hm
    · exact Nat.succ_ne_self _ e
    · exact absurd (List.mem_singleton.mp hm) (Nat.ne_of_gt (Nat.lt_succ_of_lt hlt))
  · rintro i vals ⟨t, x, hPx, rfl⟩
    exact ⟨_, _, rfl, t, rfl, hPx⟩
  · intro hm
    rcases List.mem_cons.mp hm with e | hm
    · exact absurd e (Nat.ne_of_lt (Nat.lt_succ_of_lt hLo))
    rcases List.mem_cons.mp hm with e | hm
    · exact absurd e (Nat.ne_of_lt hLo)
    · exact hLax (List.mem_singleton.mp hm)
  · intro b hb
    rcases List.mem_cons.mp hb with rfl | hb
    · exact hnew _ (Nat.le_succ _)
    · rw [List.mem_singleton.mp hb]; exact hnew _ (Nat.le_refl _)
  · intro p hp hb
    have := hnl p hp
    rcases List.mem_cons.mp hb with e | hb
    · exact absurd e (Nat.ne_of_lt (Nat.lt_succ_of_lt this))
    · exact absurd (List.mem_singleton.mp hb) (Nat.ne_of_lt this)
  · exact ⟨ob, hk _ _ (F.keep _ _ hob), hobr⟩
  · rintro i v0 v1 m₁ news₁ s₁ own ⟨h₁, tk₁, rfl⟩ hin ⟨t, rfl, hv⟩ hJ ha hsub F₁ N₁
    have hoff : ∀ p ∈ own, ∀ q ∈ news, p.1 ≠ q.1 := fun p hp q hq e => by
      have hl := hnl q hq
      rcases List.mem_cons.mp (hsub p hp) with e2 | hm
      · rw [← e, e2] at hl; exact absurd hl (Nat.not_lt.mpr (Nat.le_succ _))
      rcases List.mem_cons.mp hm with e2 | hm
      · rw [← e, e2] at hl; exact absurd hl (Nat.lt_irrefl _)
      · exact hax q hq (by rw [← e]; exact (List.mem_singleton.mp hm).symm)
    have hv' : vs[i]? = some v1 := by simpa using hv
    refine wpAny_mono (step i v1 t m₁ news₁ h₁ tk₁ own hv' hJ ha hoff F₁ (fun p hp => N₁ p (by
      rcases List.mem_append.mp hp with h | h
      · exact List.mem_append_right _ h
      · exact List.mem_append_left _ h))) (fun f s₃ h₆ => ?_) fun _ _ e => e
    have cont : (∃ h' tk' m₂ news₂, s₃ = { s with heap := h', toks := tk' } ∧ Fr h₀ env.locals h' m₂ ∧ News h₀ env.locals h' (news₂ ++ own) ∧ news₂.map (·.1) = news.map (·.1) ∧ J (i + 1) m₂ news₂) →
        ∃ h'' tk m₂ news₂, s₃ = { ({ s with heap := h₁, toks := tk₁ } : Shared) with heap := h'', toks := tk } ∧ Fr h₀ env.locals h'' m₂ ∧ News h₀ env.locals h'' (own ++ news₂) ∧ news₂.map (·.1) = news₁.map (·.1) ∧ J (i + 1) m₂ news₂ := by
      rintro ⟨h', tk', m₂, news₂, rfl, F₆, N₆, ha₆, hJ₆⟩
      exact ⟨h', tk', m₂, news₂, rfl, F₆, fun p hp => N₆ p (by
        rcases List.mem_append.mp hp with h | h
        · exact List.mem_append_right _ h
        · exact List.mem_append_left _ h), ha₆.trans ha.symm, hJ₆⟩
    cases f with
    | ret v => exact h₆
    | brk => exact h₆
    | cont => exact ⟨rfl, cont h₆⟩
    | next => exact ⟨rfl, cont h₆⟩
  · intro h' tk m' news' F' N' _ hJ
    exact done h' tk m' news' F' N' (by simpa using hJ)
end
end Mine
end
section
set_option autoImplicit false
set_option maxRecDepth 100000
namespace Mine
open PySem PySem.Builtin PySem.W PyProof.Rows
abbrev Rw : Type := Int × Nat × Nat × Nat
def rowV (r : Rw) : Value × Value := (.int r.1 r.2.2.1, .str (tx [r.2.1]) r.2.2.2)
def specs : List (List Rw) := [[(40960, 108, 1826, 1854), (49152, 115, 1828, 1855), (32768, 45, 1822, 1856), (24576, 98, 1820, 1857), (16384, 100, 1816, 1858), (8192, 99, 1818, 1859), (4096, 112, 1824, 1860)],
  [(256, 114, 1836, 1861)], [(128, 119, 1838, 1862)], [(2112, 115, 1863, 1864), (2048, 83, 1830, 1865), (64, 120, 1840, 1866)],
  [(32, 114, 1842, 1867)], [(16, 119, 1844, 1868)], [(1032, 115, 1869, 1870), (1024, 83, 1832, 1871), (8, 120, 1846, 1872)],
  [(4, 114, 1848, 1873)], [(2, 119, 1850, 1874)], [(513, 116, 1875, 1876), (512, 84, 1834, 1877), (1, 120, 1852, 1878)]]
def tabAd : List Addr := [94, 96, 98, 102, 104, 106, 110, 112, 114, 118]
def okR (i : Nat) (m : Int) (r : Rw) : Bool := if i = 0 then bitAnd m 61440 == r.1 else bitAnd m r.1 == r.1
def pick (i : Nat) (m : Int) (rows : List Rw) : Nat := match rows.find? (okR i m) with
  | some r => r.2.1
  | none => if i = 0 then 63 else 45
theorem pick_hit {i j : Nat} {m : Int} {rows : List Rw} {r : Rw} (hr : rows[j]? = some r) (h : ∀ r' ∈ rows.take j, okR i m r' = false) (ok : okR i m r = true) : pick i m rows = r.2.1 := by
  unfold pick
  have hj := (List.getElem?_eq_some_iff.mp hr).1
  have e : rows = rows.take j ++ r :: rows.drop (j + 1) := by
    conv => lhs; rw [← List.take_append_drop j rows]
    rw [List.drop_eq_getElem_cons hj, (List.getElem?_eq_some_iff.mp hr).2]
  rw [e, List.find?_append, List.find?_eq_none.mpr (fun x hx => by rw [h x hx]; decide), Option.none_or, List.find?_cons_of_pos (h := ok)]
theorem pick_none {i : Nat} {m : Int} {rows : List Rw} (h : ∀ r' ∈ rows, okR i m r' = false) : pick i m rows = if i = 0 then 63 else 45 := by
  unfold pick
  rw [List.find?_eq_none.mpr (fun x hx => by rw [h x hx]; decide)]
theorem q84 (x : Int) : x % 8 / 4 = x / 4 % 2 := by omega
theorem q82 (x : Int) : x % 8 / 2 % 2 = x / 2 % 2 := by omega
theorem q81 (x : Int) : x % 8 % 2 = x % 2 := by omega
theorem pick0 {q : Int} (h0 : 0 ≤ q) (h1 : q < 16) : (match [((40960 : Int), (108 : Nat)), (49152, 115), (32768, 45), (24576, 98), (16384, 100), (8192, 99), (4096, 112)].find? (fun r => q * 4096 == r.1) with | some r => r.2 | none => 63) = kinds.getD (q % 16).toNat 0 := by
  obtain ⟨k, rfl⟩ := Int.eq_ofNat_of_zero_le h0
  have hk : k < 16 := by omega
  clear h0 h1
  revert k
  decide +kernel
theorem p_one {m : Int} {c : Nat} {k i : Nat} (hi : i ≠ 0) {bb : Int} {t1 t2 : Nat} (hb : bitAnd m bb = bitN m k * bb) (h0 : 0 < bb) : pick i m [(bb, c, t1, t2)] = if bitN m k = 1 then c else 45 := by
  rcases bitN_01 m k with e | e
  · rw [pick_none, if_neg hi, if_neg (by rw [e]; decide)]
    intro r hr
    rw [List.mem_singleton.mp hr]
    unfold okR
    rw [if_neg hi]
    show (bitAnd m bb == bb) = false
    rw [hb, e]
    simp
    omega
  · rw [pick_hit (j := 0) (r := (bb, c, t1, t2)) rfl (fun _ h => nomatch h), if_pos e]
    unfold okR
    rw [if_neg hi]
    show (bitAnd m bb == bb) = true
    rw [hb, e]
    simp
theorem p_three {m : Int} {c1 c2 c3 : Nat} {kl kh i : Nat} (hi : i ≠ 0) {bl bh bo : Int} {t1 t2 t3 t4 t5 t6 : Nat} (hbo : bo = bl + bh) (ho : bitAnd m bo = bitN m kl * bl + bitN m kh * bh) (hh : bitAnd m bh = bitN m kh * bh) (hl : bitAnd m bl = bitN m kl * bl) (l0 : 0 < bl) (h0 : 0 < bh) :
    pick i m [(bo, c1, t1, t2), (bh, c2, t3, t4), (bl, c3, t5, t6)] = if bitN m kh = 1 then (if bitN m kl = 1 then c1 else c2) else (if bitN m kl = 1 then c3 else 45) := by
  have e1 : ∀ (b : Int) (c t u : Nat), okR i m (b, c, t, u) = (bitAnd m b == b) := fun b c t u => by unfold okR; rw [if_neg hi]
  have n1 : ¬ ((0 : Int) = 1) := by decide
  unfold pick
  simp only [List.find?, e1]
  rcases bitN_01 m kl with e | e <;> rcases bitN_01 m kh with f | f <;> rw [e] at ho hl <;> rw [f] at ho hh <;> rw [ho, hl, hh, hbo, e, f]
  · rw [show ((0 : Int) * bl + 0 * bh == bl + bh) = false by simp; omega, show ((0 : Int) * bh == bh) = false by simp; omega, show ((0 : Int) * bl == bl) = false by simp; omega]
    simp only [if_neg hi, if_neg n1]
  · rw [show ((0 : Int) * bl + 1 * bh == bl + bh) = false by simp; omega, show ((1 : Int) * bh == bh) = true by simp]
    simp only [if_neg n1, if_true]
  · rw [show ((1 : Int) * bl + 0 * bh == bl + bh) = false by simp; omega, show ((0 : Int) * bh == bh) = false by simp; omega, show ((1 : Int) * bl == bl) = true by simp]
    simp only [if_neg n1, if_true]
  · rw [show ((1 : Int) * bl + 1 * bh == bl + bh) = true by simp]
    simp only [if_true]
theorem bitV (m : Int) (k : Nat) : bitN m k = m / 2 ^ k % 2 := rfl
theorem x3 (k : Nat) (f a : Int) (hf : f = 0 ∨ f = 1) (ha : a = 0 ∨ a = 1) : (xs3 k).getD (f + 2 * a).toNat 0 = if a = 1 then (if f = 1 then (if k = 2 then 116 else 115) else (if k = 2 then 84 else 83)) else (if f = 1 then 120 else 45) := by
  unfold xs3
  rcases hf with rfl | rfl <;> rcases ha with rfl | rfl <;> split <;> rfl
theorem pick_signs {m : Int} (h0 : 0 ≤ m) (h1 : m < 65536) : ∀ (i : Nat) (rows : List Rw), specs[i]? = some rows → (signs m)[i]? = some (pick i m rows) := by
  intro i rows h
  match i, h with
  | 0, h =>
    obtain rfl : _ = rows := Option.some.inj h
    show some (kinds.getD (m / 4096 % 16).toNat 0) = _
    rw [← pick0 (q := m / 4096) (by omega) (by omega), ← and_61440 h0 h1]
    congr 1
    unfold pick
    simp only [List.find?, okR, if_true]
    generalize bitAnd m 61440 = z
    generalize (z == 40960) = b1
    generalize (z == 49152) = b2
    generalize (z == 32768) = b3
    generalize (z == 24576) = b4
    generalize (z == 16384) = b5
    generalize (z == 8192) = b6
    generalize (z == 4096) = b7
    cases b1
    · cases b2
      · cases b3
        · cases b4
          · cases b5
            · cases b6
              · cases b7 <;> rfl
              · rfl
            · rfl
          · rfl
        · rfl
      · rfl
    · rfl
  | 1, h =>
    obtain rfl : _ = rows := Option.some.inj h
    rw [p_one (c := _) (k := 8) (by decide) (and_256 m) (by decide)]
    show some (if m / 64 % 8 / 4 = 1 then 114 else 45) = _
    rw [bitV, show m / 2 ^ 8 % 2 = m / 64 % 8 / 4 by rw [q84, Int.ediv_ediv_of_nonneg (by decide)]; rfl]
  | 2, h =>
    obtain rfl : _ = rows := Option.some.inj h
    rw [p_one (c := _) (k := 7) (by decide) (and_128 m) (by decide)]
    show some (if m / 64 % 8 / 2 % 2 = 1 then 119 else 45) = _
    rw [bitV, show m / 2 ^ 7 % 2 = m / 64 % 8 / 2 % 2 by rw [q82, Int.ediv_ediv_of_nonneg (by decide)]; rfl]
  | 3, h =>
    obtain rfl : _ = rows := Option.some.inj h
    rw [p_three (i := 3) (bl := 64) (bh := 2048) (bo := 2112) (kl := 6) (kh := 11) (by decide) (by decide) (and_2112 h0) (and_2048 m) (and_64 m) (by decide) (by decide)]
    show some ((xs3 0).getD (m / 64 % 8 % 2 + 2 * (m / 2048 % 2)).toNat 0) = _
    rw [x3 0 _ _ (bit_01 _) (bit_01 _), bitV, bitV, show m / 2 ^ 6 % 2 = m / 64 % 8 % 2 by rw [q81]; rfl]
    rfl
  | 4, h =>
    obtain rfl : _ = rows := Option.some.inj h
    rw [p_one (c := _) (k := 5) (by decide) (and_32 m) (by decide)]
    show some (if m / 8 % 8 / 4 = 1 then 114 else 45) = _
    rw [bitV, show m / 2 ^ 5 % 2 = m / 8 % 8 / 4 by rw [q84, Int.ediv_ediv_of_nonneg (by decide)]; rfl]
  | 5, h =>
    obtain rfl : _ = rows := Option.some.inj h
    rw [p_one (c := _) (k := 4) (by decide) (and_16 m) (by decide)]
    show some (if m / 8 % 8 / 2 % 2 = 1 then 119 else 45) = _
    rw [bitV, show m / 2 ^ 4 % 2 = m / 8 % 8 / 2 % 2 by rw [q82, Int.ediv_ediv_of_nonneg (by decide)]; rfl]
  | 6, h =>
    obtain rfl : _ = rows := Option.some.inj h
    rw [p_three (i := 6) (bl := 8) (bh := 1024) (bo := 1032) (kl := 3) (kh := 10) (by decide) (by decide) (and_1032 h0) (and_1024 m) (and_8 m) (by decide) (by decide)]
    show some ((xs3 1).getD (m / 8 % 8 % 2 + 2 * (m / 1024 % 2)).toNat 0) = _
    rw [x3 1 _ _ (bit_01 _) (bit_01 _), bitV, bitV, show m / 2 ^ 3 % 2 = m / 8 % 8 % 2 by rw [q81]; rfl]
    rfl
  | 7, h =>
    obtain rfl : _ = rows := Option.some.inj h
    rw [p_one (c := _) (k := 2) (by decide) (and_4 m) (by decide)]
    show some (if m % 8 / 4 = 1 then 114 else 45) = _
    rw [bitV, show m / 2 ^ 2 % 2 = m % 8 / 4 by rw [q84]; rfl]
  | 8, h =>
    obtain rfl : _ = rows := Option.some.inj h
    rw [p_one (c := _) (k := 1) (by decide) (and_2 m) (by decide)]
    show some (if m % 8 / 2 % 2 = 1 then 119 else 45) = _
    rw [bitV, show m / 2 ^ 1 % 2 = m % 8 / 2 % 2 by rw [q82]; rfl]
  | 9, h =>
    obtain rfl : _ = rows := Option.some.inj h
    rw [p_three (i := 9) (bl := 1) (bh := 512) (bo := 513) (kl := 0) (kh := 9) (by decide) (by decide) (and_513 h0) (and_512 m) (and_1 m) (by decide) (by decide)]
    show some ((xs3 2).getD (m % 8 % 2 + 2 * (m / 512 % 2)).toNat 0) = _
    rw [x3 2 _ _ (bit_01 _) (bit_01 _), bitV, bitV, show m / 2 ^ 0 % 2 = m % 8 % 2 by rw [q81, show (2 : Int) ^ 0 = 1 from rfl, Int.ediv_one]]
    rfl
  | i + 10, h => cases h
end Mine
end
section
set_option autoImplicit false
set_option maxRecDepth 100000
namespace Mine
open PySem PySem.Builtin PySem.Builtin.Str PySem.W PyProof.Rows
abbrev KpX (C : Addr) (h h' : Heap) : Prop := ∀ b o, b ≠ C → h.get? b = some o → h'.get? b = some o
abbrev KpA (h h' : Heap) : Prop := ∀ b o, h.get? b = some o → h'.get? b = some o
structure TurnOk (C : Addr) (s₁ : Shared) (h : Heap) (P : Prop) (s' : Shared) : Prop where
  go : ∃ h' tk' m'', s' = { s₁ with heap := h', toks := tk' } ∧ KpX C h h' ∧ h'.Ns C m'' ∧ P
section
variable {prog : Program} {w : World} {A : Around} {E : Value → Shared → Prop} {s : Shared} {env : Env}
theorem comp_loop_go {elt target iter : Expr} {ifs : List Expr} {scope : Scope} {pos : Pos} {it acc : Value} {env : Env} {R : Result → Shared → Prop} (I : Nat → Shared → Prop)
    (turn : ∀ n s, I n s → wpAny (model prog w) A (pyNext it) (fun r s₁ => match r with
      | none => R (.ok .next) s₁
      | some v => wpAny (model prog w) A (letOwnedTupleGo target it v) (fun _ s₁' => wpAny (model prog w) A (assign target env v) (fun _ s₂ =>
          wpAny (model prog w) A (forIn ifs true fun c r => if r = true then do let ok ← isTrue c env (eval c env); pure (ForInStep.yield ok) else pure (ForInStep.yield r)) (fun ok s₃ =>
            if ok = true then wpAny (model prog w) A (eval elt env) (fun x s₄ =>
              wpAny (model prog w) A (call (.builtin "list.append") [acc, x]) (fun _ s₅ => ∃ m, m < n ∧ I m s₅) (notedBy (model prog w) A env fun e s' => R (.error e) s') s₄) (notedBy (model prog w) A env fun e s' => R (.error e) s') s₃
            else ∃ m, m < n ∧ I m s₃) (notedBy (model prog w) A env fun e s' => R (.error e) s') s₂) (notedBy (model prog w) A env fun e s' => R (.error e) s') s₁') (notedBy (model prog w) A env fun e s' => R (.error e) s') s₁) (notedBy (model prog w) A env fun e s' => R (.error e) s') s)
    (n : Nat) (h : I n s) : codeAny (model prog w) A (.compLoop (.ListComp elt [⟨target, iter, ifs, 0⟩] scope pos) 0 it acc env) R s := by
  refine codeAny_loop rfl I (fun n s hI => ?_) n h
  show wpAny _ A ((compTurn (.ListComp elt [⟨target, iter, ifs, 0⟩] scope pos) 0 it acc env).onRaise (fun x => do noteFrame x env; theTreesLotGoes x)) _ _ s
  refine wpAny_noted ?_
  rw [compTurn_list]
  refine wpAny_bind (wpAny_standAt (wpAny_bind (wpAny_mono (turn n s hI) (fun r s₁ h₁ => ?_) fun _ _ h' => h')))
  cases r with
  | none => exact wpAny_pure h₁
  | some v =>
    refine wpAny_bind (wpAny_mono h₁ (fun _ s₁' h₁' => ?_) fun _ _ h' => h')
    refine wpAny_bind (wpAny_mono h₁' (fun _ s₂ h₂ => wpAny_bind (wpAny_mono h₂ (fun ok s₃ h₃ => ?_) fun _ _ h' => h')) fun _ _ h' => h')
    cases ok with
    | false => exact wpAny_pure ⟨rfl, h₃⟩
    | true => exact wpAny_bind (wpAny_bind (wpAny_mono h₃ (fun x s₄ h₄ => wpAny_bind (wpAny_mono h₄ (fun _ s₅ h₅ => wpAny_pure (wpAny_pure ⟨rfl, h₅⟩)) fun _ _ h' => h')) fun _ _ h' => h'))
theorem comp_kp {elt iter target : Expr} {ifs : List Expr} {scope : Scope} {cl : List (Str × Addr)} {pos : Pos} {ax : Addr} {vs : List Value} {Q : Value → Shared → Prop} (P : Nat → List Value → Prop)
    (hh : A.handled = none) (hl : s.heap.IsList ax vs.toArray) (hsz : vs.length ≤ sizeLine) (hcell : ∀ y ∈ scope.names, y.2 ≠ .cell) (hkind : scope.kind = .function) (h0 : P 0 [])
    (turn : ∀ i v C m' h tk ws (E' : Value → Shared → Prop), vs[i]? = some v → P i ws → KpA s.heap h → h.Ns C m' → s.heap.objs.size ≤ C →
      wpAny (model prog w) A (assign target (compEnvC scope cl C env) v) (fun _ s₂ =>
        wpAny (model prog w) A (forIn ifs true fun c r => if r = true then do let ok ← isTrue c (compEnvC scope cl C env) (eval c (compEnvC scope cl C env)); pure (ForInStep.yield ok) else pure (ForInStep.yield r)) (fun ok s₃ =>
          if ok = true then wpAny (model prog w) A (eval elt (compEnvC scope cl C env)) (fun x s₄ => TurnOk C s h (P (i + 1) (ws ++ [x])) s₄) E' s₃
          else TurnOk C s h (P (i + 1) ws) s₃) E' s₂) E' { s with heap := h, toks := tk })
    (hlen : ∀ i ws, P i ws → ws.length ≤ i)
    (fin : ∀ D ws h tk, KpA s.heap h → (∃ n, h.get? D = some (listOf ws.toArray n)) → s.heap.get? D = none → P vs.length ws → Q (.ref D) { s with heap := h, toks := tk }) :
    wpAny (model prog w) A (pyIter (.ref ax)) (fun it s₂ => wpAny (model prog w) A (newList []) (fun acc s₃ => wpAny (model prog w) A (newFunctionEnv scope env.globals cl [] env.qual none .none (some env)) (fun cenv s₄ =>
      codeAny (model prog w) A (.compStart (.ListComp elt [⟨target, iter, ifs, 0⟩] scope pos) 0 it acc { cenv with scope := relabel scope env }) (compPost (model prog w) A E none Q acc cenv.locals) s₄) E s₃) E s₂) E s := by
  obtain ⟨ol, hol, _⟩ := id hl
  have hlt : ax < s.heap.objs.size := Heap.lt_size hol
  refine wpAny_pyIter_list hl ?_
  refine wpAny_newObj_type (wpAny_newFunctionEnv hcell (by intro y hy; simp at hy) (fun h₁ hns₁ hsb₁ => ?_) hkind)
  dsimp only at hns₁ hsb₁ ⊢
  generalize hH1 : s.heap.push { cls := .type "list_iterator", data := .fields #[.ref ax, .int 0 0] } = H1 at hns₁ hsb₁ ⊢
  generalize hH2 : H1.push { cls := .type "list", dict := none, data := .seq ([] : List Value).toArray } = H2 at hns₁ hsb₁ ⊢
  have hD : H1.objs.size = s.heap.objs.size + 1 := by rw [← hH1, Heap.size_push]
  have hC : H2.objs.size = s.heap.objs.size + 1 + 1 := by rw [← hH2, Heap.size_push, hD]
  generalize hI : s.heap.objs.size = I at *
  generalize hDD : H1.objs.size = D at *
  generalize hCC : H2.objs.size = C at *
  have hID : I ≠ D := by rw [hD]; exact Nat.ne_of_lt (Nat.lt_succ_self _)
  have hIC : I ≠ C := by rw [hC]; exact Nat.ne_of_lt (Nat.lt_succ_of_lt (Nat.lt_succ_self _))
  have hDC : D ≠ C := by rw [hC, hD]; exact Nat.ne_of_lt (Nat.lt_succ_self _)
  have up1 : KpA s.heap H1 := fun b o e => hH1 ▸ Heap.get?_push_of_some _ e
  have up2 : KpA H1 H2 := fun b o e => hH2 ▸ Heap.get?_push_of_some _ e
  have lt0 : ∀ {b o}, s.heap.get? b = some o → b < I := fun e => hI ▸ Heap.lt_size e
  have ltI : ∀ {b o}, s.heap.get? b = some o → b ≠ I := fun e => Nat.ne_of_lt (lt0 e)
  have ltD : ∀ {b o}, s.heap.get? b = some o → b ≠ D := fun e => by rw [hD]; exact Nat.ne_of_lt (Nat.lt_succ_of_lt (lt0 e))
  have ltC : ∀ {b o}, s.heap.get? b = some o → b ≠ C := fun e => by rw [hC]; exact Nat.ne_of_lt (Nat.lt_succ_of_lt (Nat.lt_succ_of_lt (lt0 e)))
  have up3 : ∀ b o, b ≠ C → H2.get? b = some o → h₁.get? b = some o := fun b o hb e => hsb₁.extBut b o hb (Heap.get?_push_of_some _ e)
  have hIiter : h₁.IsListIter I ax 0 := ⟨_, up3 _ _ hIC (up2 _ _ (hH1 ▸ hI ▸ Heap.get?_push_size _ rfl)), rfl, rfl⟩
  have hDl : h₁.get? D = some (LCg.lst []) := up3 _ _ hDC (hH2 ▸ hDD ▸ Heap.get?_push_size _ rfl)
  have hD0 : s.heap.get? D = none := by
    cases e : s.heap.get? D with
    | none => rfl
    | some o => exact absurd rfl (ltD e)
  have hIs : ∀ {h' : Heap}, KpA s.heap h' → h'.IsList ax vs.toArray := fun k => hl.at fun o e => k _ _ e
  have W := Walks.list (prog := prog) (w := w) hh I ax (Nat.ne_of_lt hlt) vs.toArray
  have loop : ∀ s₃ : Shared, (∃ tk, s₃ = { s with heap := h₁, toks := tk }) → codeAny (model prog w) A (.compLoop (.ListComp elt [⟨target, iter, ifs, 0⟩] scope pos) 0 (.ref I) (.ref D) (compEnvC scope cl C env)) (compPost (model prog w) A E none Q (.ref D) C) s₃ := by
    rintro s₃ ⟨tk0, rfl⟩
    refine comp_loop_go
      (fun k s' => ∃ h' tk i ws m', s' = { s with heap := h', toks := tk } ∧ i ≤ vs.length ∧ k = vs.length + 1 - i ∧ KpA s.heap h' ∧ h'.IsListIter I ax i ∧ h'.Ns C m' ∧ (∃ n, h'.get? D = some (listOf ws.toArray n)) ∧ P i ws) ?_ (vs.length + 1)
      ⟨h₁, tk0, 0, [], _, rfl, Nat.zero_le _, rfl, fun b o e => up3 b o (ltC e) (up2 b o (up1 b o e)), hIiter, hns₁, ⟨_, hDl⟩, h0⟩
    rintro k s' ⟨h', tk, i, ws, m', rfl, hi, rfl, hk, hit, hn, ⟨n, hd⟩, hP⟩
    by_cases hlt : i < vs.length
    · refine W.item i _ _ _ (by simpa using hlt) ⟨hit, hIs hk⟩ fun v h₂ tk₂ hPv hst₂ hk₂ => ?_
      refine letGo_listiter hst₂.1 ?_
      have hv : vs[i]? = some v := by simpa using hPv
      have k2 : ∀ b o, b ≠ I → h'.get? b = some o → h₂.get? b = some o := fun b o hb e => hk₂ b o (by simpa using hb) e
      have hk2 : KpA s.heap h₂ := fun b o e => k2 b o (ltI e) (hk b o e)
      have hn2 : h₂.Ns C m' := hn.at' fun o e => k2 _ o (Ne.symm hIC) e
      have hd2 : h₂.get? D = some (listOf ws.toArray n) := k2 _ _ (Ne.symm hID) hd
      refine wpAny_mono (turn i v C m' h₂ tk₂ ws _ hv hP hk2 hn2 (by rw [hC]; exact Nat.le_succ_of_le (Nat.le_succ _))) (fun _ s₂ h₃ => wpAny_mono h₃ (fun ok s₃ h₄ => ?_) fun _ _ e => e) fun _ _ e => e
      have nxt : ∀ (h₅ : Heap) ws' tk₅ m₅ n₅, KpX C h₂ h₅ ∨ (∀ b o, b ≠ C → b ≠ D → h₂.get? b = some o → h₅.get? b = some o) → h₅.Ns C m₅ → h₅.get? D = some (listOf ws'.toArray n₅) → P (i + 1) ws' →
          ∃ m, m < vs.length + 1 - i ∧ ∃ h' tk i ws m', ({ s with heap := h₅, toks := tk₅ } : Shared) = { s with heap := h', toks := tk } ∧ i ≤ vs.length ∧ m = vs.length + 1 - i ∧ KpA s.heap h' ∧ h'.IsListIter I ax i ∧ h'.Ns C m' ∧ (∃ n, h'.get? D = some (listOf ws.toArray n)) ∧ P i ws := by
        intro h₅ ws' tk₅ m₅ n₅ k5 hn5 hd5 hP5
        have k5' : ∀ b o, b ≠ C → b ≠ D → h₂.get? b = some o → h₅.get? b = some o := fun b o b1 b2 e => k5.elim (fun k => k b o b1 e) (fun k => k b o b1 b2 e)
        refine ⟨vs.length + 1 - (i + 1), by omega, h₅, tk₅, i + 1, ws', m₅, rfl, hlt, rfl, fun b o e => k5' b o (ltC e) (ltD e) (hk2 b o e), ?_, hn5, ⟨n₅, hd5⟩, hP5⟩
        obtain ⟨oi, hoi, hoir⟩ := hst₂.1
        exact ⟨oi, k5' _ _ hIC hID hoi, hoir⟩
      cases ok with
      | false =>
        obtain ⟨h₄', tk₄, m₄, rfl, k4, hn4, hP4⟩ := (show TurnOk C s h₂ (P (i + 1) ws) s₃ from h₄).go
        exact nxt h₄' ws tk₄ m₄ n (.inl k4) hn4 (k4 _ _ hDC hd2) hP4
      | true =>
        refine wpAny_mono (show wpAny _ _ _ _ _ _ from h₄) (fun x s₄ h₅ => ?_) fun _ _ e => e
        obtain ⟨h₄', tk₄, m₄, rfl, k4, hn4, hP4⟩ := h₅.go
        refine append_at (hsz := by show ws.toArray.size ≤ sizeLine; rw [List.size_toArray]; exact Nat.le_trans (hlen i ws hP) (Nat.le_trans hi hsz)) (k4 _ _ hDC hd2) fun h₆ hs₆ hd6 => ?_
        have h6x : ∀ b o, b ≠ D → h₄'.get? b = some o → h₆.get? b = some o := fun b o hb e => hs₆.extBut b o hb e
        refine nxt h₆ (ws ++ [x]) _ m₄ (n + 1) (.inr fun b o b1 b2 e => h6x b o b2 (k4 b o b1 e)) (hn4.at' fun o e => h6x _ o (Ne.symm hDC) e) ?_ hP4
        rw [hd6, List.push_toArray]
    · have hin : i = vs.length := by omega
      subst hin
      refine W.done _ _ _ ⟨by simpa using hit, hIs hk⟩ fun h₂ tk₂ hk₂ => ?_
      have k2 : ∀ b o, b ≠ I → h'.get? b = some o → h₂.get? b = some o := fun b o hb e => hk₂ b o (by simpa using hb) e
      refine ⟨m', hn.at' fun o e => k2 _ o (Ne.symm hIC) e, fun h'' hs'' => ?_⟩
      have k3 : ∀ b o, b ≠ C → h₂.get? b = some o → h''.get? b = some o := fun b o hb e => hs''.extBut b o hb e
      exact fin D ws h'' tk₂ (fun b o e => k3 b o (ltC e) (k2 b o (ltI e) (hk b o e))) ⟨n, k3 _ _ hDC (k2 _ _ (Ne.symm hID) hd)⟩ hD0 hP
  exact codeAny_compStart_list (loop _ ⟨_, rfl⟩) (W.self 0 _ _ _ ⟨hIiter, hIs fun b o e => up3 b o (ltC e) (up2 b o (up1 b o e))⟩ (loop _ ⟨_, rfl⟩))
theorem assign1 {x : Str} {px : Pos} {scope : Scope} {cl : List (Str × Addr)} {C : Addr} {m' : Str → Option Value} {v : Value} {h : Heap} {tk : Nat} {Q : Unit → Shared → Prop} (hkind : scope.kind = .function) (hx : scope.names.lookup x = some .local) (hn : h.Ns C m')
    (hQ : ∀ h₂, h₂.Ns C (fun y => if y = x then some v else m' y) → KpX C h h₂ → Q () { s with heap := h₂, toks := tk + 1 }) : wpAny (model prog w) A (assign (.Name x px) (compEnvC scope cl C env) v) Q E { s with heap := h, toks := tk } :=
  wpAny_assign_Name (wpAny_storeName_local (lookup_relabel_local hx) hn (fun h₃ hn₃ hs₃ => hQ h₃ hn₃ fun b o hb e => hs₃.extBut b o hb e) (by simp [compEnvC, relabel, hkind]))
theorem assign2 {x y : Str} {px py pt : Pos} {x1 : Nat} {scope : Scope} {cl : List (Str × Addr)} {C T : Addr} {m' : Str → Option Value} {v0 v1 : Value} {h : Heap} {tk : Nat} {Q : Unit → Shared → Prop} (hh : A.handled = none) (hkind : scope.kind = .function) (hx : scope.names.lookup x = some .local) (hy : scope.names.lookup y = some .local) (hn : h.Ns C m') (ht : h.IsTuple T #[v0, v1])
    (hQ : ∀ h₂ tk₂, h₂.Ns C (fun z => if z = y then some v1 else if z = x then some v0 else m' z) → KpX C h h₂ → Q () { s with heap := h₂, toks := tk₂ }) : wpAny (model prog w) A (assign (.Tuple [.Name x px, .Name y py] x1 pt) (compEnvC scope cl C env) (.ref T)) Q E { s with heap := h, toks := tk } := by
  refine wpAny_assign_Tuple hh ht rfl rfl fun h₃ hx₃ => ?_
  replace hx₃ : Heap.ExtBut h.objs.size h h₃ := hx₃
  have up₃ : ∀ b o, h.get? b = some o → h₃.get? b = some o := fun b o x => hx₃ b o (Nat.ne_of_lt (Heap.lt_size x)) x
  have hn3 : h₃.Ns C m' := hn.at' fun o e => up₃ _ o e
  show wpAny _ A (do holding [v1] (assign (.Name x px) (compEnvC scope cl C env) v0); do holding [] (assign (.Name y py) (compEnvC scope cl C env) v1); pure ()) _ _ _
  refine wpAny_bind (wpAny_holding (assign1 hkind hx hn3 fun h₄ hn4 k4 => ?_))
  refine wpAny_bind (wpAny_holding (assign1 hkind hy hn4 fun h₅ hn5 k5 => wpAny_pure ?_))
  exact hQ h₅ _ hn5 fun b o hb e => k5 b o hb (k4 b o hb (up₃ b o e))
theorem listComp_kp {elt iter target : Expr} {ifs : List Expr} {scope : Scope} {cl : List (Str × Addr)} {pos : Pos} {Q : Value → Shared → Prop}
    (hclos : closureFor scope env = pure cl) (hkind : scope.kind = .function) (hnames : ∀ y ∈ scope.names, y.2 = .local → scope.names.lookup y.1 = some .local)
    (h : wpAny (model prog w) A (eval iter env) (fun xv s₁ => wpAny (model prog w) A (pyIter xv) (fun it s₂ => wpAny (model prog w) A (newList []) (fun acc s₃ => wpAny (model prog w) A (newFunctionEnv scope env.globals cl [] env.qual none .none (some env)) (fun cenv s₄ =>
      codeAny (model prog w) A (.compStart (.ListComp elt [⟨target, iter, ifs, 0⟩] scope pos) 0 it acc { cenv with scope := relabel scope env }) (compPost (model prog w) A E none Q acc cenv.locals) s₄) E s₃) E s₂) E s₁) E s)
    (hs : ∀ x, foldedSetIterable iter env x = pure x := by intro _; rfl) :
    wpAny (model prog w) A (eval (.ListComp elt [⟨target, iter, ifs, 0⟩] scope pos) env) Q E s := by
  rw [eval_ListComp]
  exact wpAny_comprehension_free (use := none) rfl hs hclos hkind hnames h
end
def StepC (h₀ : Heap) (L : Addr) (s : Shared) (own : List (Addr × Obj)) (adr : List Addr) (m : Str → Option Value) (cx : Addr) (Jn : List (Addr × Obj) → Prop) (Q : Flow → Shared → Prop) (f : Flow) (s' : Shared) : Prop :=
  match f with
  | .ret v => Q (.ret v) s'
  | .brk => Q .next s'
  | _ => ∃ h' tk' o' v' news₂, s' = { s with heap := h', toks := tk' } ∧ Fr h₀ L h' m ∧ o'.data = .cell v' ∧ News h₀ L h' ((cx, o') :: (news₂ ++ own)) ∧ news₂.map (·.1) = adr ∧ Jn news₂
section
variable {prog : Program} {w : World} {A : Around} {E : Value → Shared → Prop} {s : Shared} {env : Env} {h₀ : Heap} {m : Str → Option Value} {news : List (Addr × Obj)} {x : Str} {px pos : Pos} {body : List Stmt} {Q : Flow → Shared → Prop}
theorem for_range_cell {r cx : Addr} {o0 : Obj} {w0 : Option Value} {a b c : Int} {t u v : Tok} {n : Nat} (hh : A.handled = none) (hr : IsRange s.heap r a b c t u v) (hsm : Builtin.Range.small a b c = true) (hn : Builtin.Range.rangeSize a b c = (n : Int))
    (hk : env.scope.kind = .function) (hx : env.kindOf x = some .cell) (hc : env.cells.lookup x = some cx) (hcx : ∀ p ∈ news, p.1 ≠ cx)
    (F : Fr h₀ env.locals s.heap m) (N : News h₀ env.locals s.heap ((cx, o0) :: news)) (ho0 : o0.data = .cell w0) (J : Nat → List (Addr × Obj) → Prop) (h0 : J 0 news)
    (step : ∀ (i : Nat) t o' news₁ h tk own, i < n → J i news₁ → news₁.map (·.1) = news.map (·.1) → (∀ p ∈ own, p.1 ≠ cx ∧ ∀ q ∈ news, p.1 ≠ q.1) → o'.data = .cell (some (.int (a + i * c) t)) → Fr h₀ env.locals h m → News h₀ env.locals h ((cx, o') :: (news₁ ++ own)) →
      wpAny (model prog w) A (execs body env) (StepC h₀ env.locals s own (news.map (·.1)) m cx (J (i + 1)) Q) E { s with heap := h, toks := tk })
    (done : ∀ h tk o' v' news', Fr h₀ env.locals h m → o'.data = .cell v' → News h₀ env.locals h ((cx, o') :: news') → J n news' → Q .next { s with heap := h, toks := tk })
    (hE : PassesOwn (model prog w) A env E := by passes_own) :
    wpAny (model prog w) A (pyIter (.ref r)) (fun it s₂ => codeAny (model prog w) A (.forLoop (.Name x px) it body [] env) (fun r s' => match r with | .ok f => Q f s' | .error e => cameBackBy (model prog w) A env E e s') s₂) E s := by
  refine wpAny_pyIter_range hr hsm ?_
  have W := Walks.range (prog := prog) (w := w) hh s.heap.objs.size a c n
  have hI0 : h₀.get? s.heap.objs.size = none := next_is_new F
  have hLI : env.locals ≠ s.heap.objs.size := Nat.ne_of_lt F.ns.lt
  have hadr : ∀ news' : List (Addr × Obj), news'.map (·.1) = news.map (·.1) → ∀ p ∈ news', ∃ q ∈ news, q.1 = p.1 := fun news' ha p hp => by
    have : p.1 ∈ news.map (·.1) := ha ▸ List.mem_map.mpr ⟨p, hp, rfl⟩
    exact List.mem_map.mp this
  have hcI : cx ≠ s.heap.objs.size := Nat.ne_of_lt (Heap.lt_size (N _ List.mem_cons_self).1)
  have hnI : ∀ q ∈ news, q.1 ≠ s.heap.objs.size := fun q hq => Nat.ne_of_lt (Heap.lt_size (N q (List.mem_cons_of_mem _ hq)).1)
  refine codeAny_forLoop_any
    (fun k s' => ∃ h' tk o' v' news' i, s' = { s with heap := h', toks := tk } ∧ IsRangeIter h' s.heap.objs.size (a + (i : Nat) * c) ((n : Int) - (i : Nat)) c ∧ Fr h₀ env.locals h' m ∧ o'.data = .cell v' ∧ News h₀ env.locals h' ((cx, o') :: news') ∧ news'.map (·.1) = news.map (·.1) ∧ J i news' ∧ i ≤ n ∧ k = n + 1 - i) ?_ (n + 1)
    ⟨_, s.toks, o0, w0, news, 0, rfl, ?_, F.push _, ho0, fun p hp => ⟨Heap.get?_push_of_some _ (N p hp).1, (N p hp).2⟩, rfl, h0, Nat.zero_le _, rfl⟩
  · rintro k s' ⟨H, tk, o1, v1, news', i, rfl, hst, F', ho1, N', ha', hJ, hi, rfl⟩
    have hoffI : ∀ p ∈ (cx, o1) :: news', p.1 ≠ s.heap.objs.size := fun p hp => by
      rcases List.mem_cons.mp hp with rfl | hp
      · exact hcI
      · obtain ⟨q, hq, e⟩ := hadr news' ha' p hp
        exact e ▸ hnI q hq
    have next : ∀ h₁ : Heap, (∀ b o, b ∉ [s.heap.objs.size] → H.get? b = some o → h₁.get? b = some o) → Fr h₀ env.locals h₁ m ∧ News h₀ env.locals h₁ ((cx, o1) :: news') := fun h₁ hk₁ =>
      ⟨⟨F'.ns.at' fun o e => hk₁ _ o (by simpa using hLI) e, fun b o e => hk₁ b o (fun hm => by rw [List.mem_singleton.mp hm, hI0] at e; cases e) (F'.keep b o e), F'.above⟩, fun p hp => ⟨hk₁ _ _ (by simpa using hoffI p hp) (N' p hp).1, (N' p hp).2⟩⟩
    by_cases hlt : i < n
    · refine W.item i _ _ _ hlt hst fun vv h₁ tk₁ hP st₁ hk₁ => ?_
      obtain ⟨t1, rfl⟩ := hP
      obtain ⟨F₁, N₁⟩ := next h₁ hk₁
      refine wpAny_pure ?_
      have zc := N₁ (cx, o1) List.mem_cons_self
      refine wpAny_assign_Name (wpAny_storeName_cell hk hx hc ⟨o1, zc.1, ho1⟩ fun h₂ hv hs₂ => ?_)
      obtain ⟨o2, ho2, hd2⟩ := hv
      have F₂ : Fr h₀ env.locals h₂ m := F₁.change hs₂ zc.2.1 zc.2.2
      have st₂ : IsRangeIter h₂ s.heap.objs.size (a + ((i + 1 : Nat) : Int) * c) ((n : Int) - ((i + 1 : Nat) : Int)) c := hs₂.extBut _ _ (Ne.symm hcI) st₁
      obtain ⟨oi, hoi⟩ : ∃ oi, h₂.get? s.heap.objs.size = some oi := ⟨_, st₂⟩
      have N₂ : News h₀ env.locals h₂ ((cx, o2) :: (news' ++ [(s.heap.objs.size, oi)])) := fun p hp => by
        rcases List.mem_cons.mp hp with rfl | hp
        · exact ⟨ho2, zc.2⟩
        rcases List.mem_append.mp hp with hp | hp
        · have z := N₁ p (List.mem_cons_of_mem _ hp)
          refine ⟨hs₂.extBut _ _ ?_ z.1, z.2⟩
          obtain ⟨q, hq, e⟩ := hadr news' ha' p hp
          exact e ▸ hcx q hq
        · rw [List.mem_singleton.mp hp]; exact ⟨hoi, Ne.symm hLI, hI0⟩
      refine wpAny_mono (wpAny_passesOwn hE (step i t1 o2 news' h₂ _ [(s.heap.objs.size, oi)] hlt hJ ha' (fun p hp => by rw [List.mem_singleton.mp hp]; exact ⟨Ne.symm hcI, fun q hq => Ne.symm (hnI q hq)⟩) hd2 F₂ N₂)) (fun f s₃ h₆ => ?_) fun _ _ e => e
      have cont : (∃ h' tk' o' v' news₂, s₃ = { s with heap := h', toks := tk' } ∧ Fr h₀ env.locals h' m ∧ o'.data = .cell v' ∧ News h₀ env.locals h' ((cx, o') :: (news₂ ++ [(s.heap.objs.size, oi)])) ∧ news₂.map (·.1) = news.map (·.1) ∧ J (i + 1) news₂) →
          ∃ mm, mm < n + 1 - i ∧ ∃ h' tk o' v' news' i, s₃ = { s with heap := h', toks := tk } ∧ IsRangeIter h' s.heap.objs.size (a + (i : Nat) * c) ((n : Int) - (i : Nat)) c ∧ Fr h₀ env.locals h' m ∧ o'.data = .cell v' ∧ News h₀ env.locals h' ((cx, o') :: news') ∧ news'.map (·.1) = news.map (·.1) ∧ J i news' ∧ i ≤ n ∧ mm = n + 1 - i := by
        rintro ⟨h', tk', o', v', news₂, rfl, F₆, ho6, N₆, ha₆, hJ₆⟩
        have e := (N₆ (s.heap.objs.size, oi) (List.mem_cons_of_mem _ (List.mem_append_right _ List.mem_cons_self))).1
        have st₂' : h₂.get? s.heap.objs.size = some _ := st₂
        rw [hoi] at st₂'
        refine ⟨n + 1 - (i + 1), by omega, h', tk', o', v', news₂, i + 1, rfl, ?_, F₆, ho6, fun p hp => N₆ p ?_, ha₆, hJ₆, hlt, rfl⟩
        · show h'.get? s.heap.objs.size = some _
          rw [← st₂']; exact e
        · rcases List.mem_cons.mp hp with rfl | hp
          · exact List.mem_cons_self
          · exact List.mem_cons_of_mem _ (List.mem_append_left _ hp)
      cases f with
      | ret v => exact h₆
      | brk => exact h₆
      | cont => exact cont h₆
      | next => exact cont h₆
    · have hin : i = n := by omega
      subst hin
      refine W.done _ _ _ hst fun h₁ tk₁ hk₁ => wpAny_execs_nil ?_
      obtain ⟨F₁, N₁⟩ := next h₁ hk₁
      exact done h₁ tk₁ o1 v1 news' F₁ ho1 N₁ hJ
  · show (s.heap.push _).get? s.heap.objs.size = some _
    rw [hn]
    simpa using Heap.get?_push_size _ rfl
end
end Mine
end
section
set_option autoImplicit false
set_option maxRecDepth 100000
namespace Mine
open PySem PySem.Builtin PySem.Builtin.Str PySem.W PyProof.Rows
theorem strsAre_len : ∀ {vs : List Value} {ys : List Str}, StrsAre vs ys → vs.length = ys.length := fun h => h.length
theorem slice_from_l (us : List Value) {k : Int} (h : 0 ≤ k) : slicePick us.toArray (some k) none none = (us.drop k.toNat).toArray := by
  have e : sliceBounds (some k) none none us.toArray.size = (((min k.toNat us.toArray.size : Nat) : Int), ((us.toArray.size : Nat) : Int), 1) := by
    simp only [sliceBounds, Option.getD_none, show (1 : Int) > 0 by decide, if_true, if_neg (show ¬ (k < 0) by omega)]
    congr 1
    omega
  rw [kmk_pick_nat _ e]
  show ((us.drop (min k.toNat us.toArray.size)).take (us.toArray.size - min k.toNat us.toArray.size)).toArray = _
  rw [List.size_toArray, kmk_drop_min, List.take_of_length_le (by rw [List.length_drop]; omega)]
theorem slice_upto_l (us : List Value) {k : Int} (h : 0 ≤ k) : slicePick us.toArray none (some k) none = (us.take k.toNat).toArray := by
  have e : sliceBounds none (some k) none us.toArray.size = (((0 : Nat) : Int), ((min k.toNat us.toArray.size : Nat) : Int), 1) := by
    simp only [sliceBounds, Option.getD_none, show (1 : Int) > 0 by decide, if_true, if_neg (show ¬ (k < 0) by omega)]
    congr 1
    congr 1
    omega
  rw [kmk_pick_nat _ e]
  show ((us.drop 0).take (min k.toNat us.toArray.size - 0)).toArray = _
  rw [List.drop_zero, Nat.sub_zero, List.size_toArray, kmk_take_min]
section
variable {prog : Program} {w : World} {A : Around} {E : Value → Shared → Prop} {s : Shared} {env : Env}
theorem item_l {value slice : PySem.Expr} {l : Addr} {vs : List Value} {k : Int} {u : Tok} {v : Value} {Q : Value → Shared → Prop}
    (hl : s.heap.IsList l vs.toArray) (h0 : 0 ≤ k) (hhi : k < 2 ^ 63) (hx : vs[k.toNat]? = some v) (h : Q v s)
    (hs : subscripted slice false (.ref l) (.int k u) = operate [.ref l, .int k u] (getItem (.ref l) (.int k u))) :
    wpAny (model prog w) A (subscriptTail value slice (.ref l) (.int k u)) Q E s :=
  tail_any hl.typeIs slot_list_getitem.lookup (wpAny_getItem_list hl h0 hhi (by simpa using hx) h) hs
theorem filt_comp {ox x kn : Str} {p1 p2 p3 p4 p5 p6 p7 pos : Pos} {iter : Expr} {scope : Scope} {cl : List (Str × Addr)} {ax lo co ck : Addr} {oO oK : Obj} {vs us : List Value} {ys xs : List Str} {k : Int} {tK : Tok} {z : Str} {Q : Value → Shared → Prop}
    (hh : A.handled = none) (hl : s.heap.IsList ax vs.toArray) (hys : StrsAre vs ys) (hsz : vs.length ≤ 1000) (hcell : ∀ y ∈ scope.names, y.2 ≠ .cell) (hkind : scope.kind = .function) (hx : scope.names.lookup x = some .local)
    (hkO : ∀ C, (compEnvC scope cl C env).kindOf ox = some .cell) (hkK : ∀ C, (compEnvC scope cl C env).kindOf kn = some .cell) (hcO : cl.lookup ox = some co) (hcK : cl.lookup kn = some ck)
    (hO : s.heap.get? co = some oO) (dO : oO.data = .cell (some (.ref lo))) (hK : s.heap.get? ck = some oK) (dK : oK.data = .cell (some (.int k tK)))
    (hlo : s.heap.IsList lo us.toArray) (hus : StrsAre us xs) (hk0 : 0 ≤ k) (hz : xs[k.toNat]? = some z) (hk2 : k < 1000)
    (fin : ∀ D ws n h tk, KpA s.heap h → h.get? D = some (listOf ws.toArray n) → s.heap.get? D = none → StrsAre ws (ys.filter (· == z)) → Q (.ref D) { s with heap := h, toks := tk })
    (d1 : (x == ("__debug__" : Str)) = false := by decide) (d2 : (ox == ("__debug__" : Str)) = false := by decide) (d3 : (kn == ("__debug__" : Str)) = false := by decide) :
    wpAny (model prog w) A (pyIter (.ref ax)) (fun it s₂ => wpAny (model prog w) A (newList []) (fun acc s₃ => wpAny (model prog w) A (newFunctionEnv scope env.globals cl [] env.qual none .none (some env)) (fun cenv s₄ =>
      codeAny (model prog w) A (.compStart (.ListComp (.Name x p1) [⟨.Name x p2, iter, [.Compare (.Name x p3) [.Eq] [.Subscript (.Name ox p4) (.Name kn p5) p6] p7], 0⟩] scope pos) 0 it acc { cenv with scope := relabel scope env }) (compPost (model prog w) A E none Q acc cenv.locals) s₄) E s₃) E s₂) E s := by
  have hkf : ∀ C, (compEnvC scope cl C env).scope.kind = .function := fun C => hkind
  have hkx : ∀ C, (compEnvC scope cl C env).kindOf x = some .local := fun C => lookup_relabel_local hx
  obtain ⟨tz, htz⟩ := hus.get _ _ hz
  refine comp_kp (fun i ws => StrsAre ws ((ys.take i).filter (· == z))) hh hl (by rw [PySem.sizeLine_eq]; omega) hcell hkind .nil ?turn ?len ?fin
  case len =>
    intro i ws h
    rw [h.length]
    exact Nat.le_trans (List.length_filter_le _ _) (by rw [List.length_take]; exact Nat.min_le_left _ _)
  case fin =>
    rintro D ws h tk hk ⟨n, hd⟩ h0 hP
    refine fin D ws n h tk hk hd h0 ?_
    rw [hys.length, List.take_length] at hP
    exact hP
  case turn =>
    intro i v C m' h tk ws E' hv hP hk hn hC
    obtain ⟨y, hy⟩ : ∃ y, ys[i]? = some y := by
      have := (List.getElem?_eq_some_iff.mp hv).1
      rw [hys.length] at this
      exact ⟨ys[i], List.getElem?_eq_getElem this⟩
    obtain ⟨ty, hty⟩ := hys.get _ _ hy
    obtain rfl : v = .str y ty := Option.some.inj (hv.symm.trans hty)
    refine assign1 hkind hx hn fun h₂ hn₂ k₂ => ?_
    have kk : ∀ {b o}, s.heap.get? b = some o → h₂.get? b = some o := fun {b o} e => k₂ b o (fun q => absurd (Heap.lt_size e) (by rw [q]; exact Nat.not_lt.mpr hC)) (hk b o e)
    have hvx : (fun y_1 => if y_1 = x then some (Value.str y ty) else m' y_1) x = some (.str y ty) := by simp
    refine wpAny_tests_one (wpAny_isTrue_Compare1 (wpAny_Name (wpAny_loadName_local (hkf C) (hkx C) hn₂ hvx ?_) d1) rfl)
    refine Subscript_ (wpAny_Name (wpAny_loadName_cell (hkf C) (hkO C) hcO ⟨oO, kk hO, dO⟩ ?_) d2)
    refine wpAny_Name (wpAny_loadName_cell (hkf C) (hkK C) hcK ⟨oK, kk hK, dK⟩ ?_) d3
    refine item_l (vs := us) (hlo.at fun o e => kk e) hk0 (by omega) htz ?_ rfl
    refine eq_str ?_
    refine wpAny_truthy_bool ?_
    have hst : (ys.take (i + 1)).filter (· == z) = (ys.take i).filter (· == z) ++ (if (y == z) = true then [y] else []) := by
      rw [List.take_add_one, hy, List.filter_append]
      by_cases e : (y == z) = true
      · simp [e]
      · simp [e]
    by_cases e : (y == z) = true
    · rw [e, if_pos rfl]
      refine wpAny_Name (wpAny_loadName_local (hkf C) (hkx C) hn₂ hvx ?_) d1
      refine ⟨h₂, _, _, rfl, k₂, hn₂, ?_⟩
      rw [hst, if_pos e]
      exact hP.append' (.cons _ _ .nil)
    · rw [Bool.eq_false_iff.mpr e, if_neg (by decide)]
      refine ⟨h₂, _, _, rfl, k₂, hn₂, ?_⟩
      rw [hst, if_neg e, List.append_nil]
      exact hP
end
theorem cnt_filter (l : List Str) (z : Str) : (l.filter (· == z)).length = l.count z := by
  rw [List.count_eq_length_filter]
end Mine
end
section
set_option autoImplicit false
set_option maxRecDepth 100000
namespace Mine
open PySem PySem.Builtin PySem.Builtin.Str PySem.W PyProof.Rows
def PrsAt (h : Heap) (vs : List Value) (prs : List (Int × Int)) : Prop :=
  vs.length = prs.length ∧ ∀ (i : Nat) (v : Value) (p : Int × Int), vs[i]? = some v → prs[i]? = some p → ∃ T ta tb, v = .ref T ∧ h.IsTuple T #[.int p.1 ta, .int p.2 tb]
theorem PrsAt.keeps {h h' : Heap} {vs : List Value} {prs : List (Int × Int)} (P : PrsAt h vs prs) (k : KpA h h') : PrsAt h' vs prs :=
  ⟨P.1, fun i v p h1 h2 => let ⟨T, ta, tb, e, o, a, b⟩ := P.2 i v p h1 h2; ⟨T, ta, tb, e, o, k _ _ a, b⟩⟩
theorem ints_get : ∀ {vs : List Value} {ns : List Int}, IntsAre vs ns → ∀ (i : Nat) (a : Int), ns[i]? = some a → ∃ t, vs[i]? = some (Value.int a t)
  | _, _, .nil, i, a, h => by simp at h
  | _, _, .cons n t hr, i, a, h => by
    cases i with
    | zero => exact ⟨t, by simpa using h⟩
    | succ i => simpa using ints_get hr i a (by simpa using h)
theorem ints_app : ∀ {vs ws : List Value} {ss ts : List Int}, IntsAre vs ss → IntsAre ws ts → IntsAre (vs ++ ws) (ss ++ ts)
  | _, _, _, _, .nil, h => h
  | _, _, _, _, .cons n t hr, h => .cons n t (ints_app hr h)
section
variable {prog : Program} {w : World} {A : Around} {E : Value → Shared → Prop} {s : Shared} {env : Env}
theorem comp_map2 {β : Type} {elt iter : Expr} {x y : Str} {px py pt pos : Pos} {x1 : Nat} {scope : Scope} {cl : List (Str × Addr)} {ax : Addr} {vs : List Value} {prs : List (Int × Int)} {Q : Value → Shared → Prop}
    (Are : List Value → List β → Prop) (f : Int × Int → β) (G : β → Value → Prop) (hnil : Are [] []) (hsnoc : ∀ {ws zs v z}, Are ws zs → G z v → Are (ws ++ [v]) (zs ++ [z])) (hal : ∀ {ws zs}, Are ws zs → ws.length = zs.length)
    (hh : A.handled = none) (hl : s.heap.IsList ax vs.toArray) (hsz : vs.length ≤ 1000) (hP : PrsAt s.heap vs prs) (hcell : ∀ y ∈ scope.names, y.2 ≠ .cell) (hkind : scope.kind = .function) (hx : scope.names.lookup x = some .local) (hy : scope.names.lookup y = some .local) (hxy : x ≠ y)
    (helt : ∀ p ta tb C m₂ h tk (E' : Value → Shared → Prop), p ∈ prs → h.Ns C m₂ → m₂ x = some (.int p.1 ta) → m₂ y = some (.int p.2 tb) → KpA s.heap h → s.heap.objs.size ≤ C →
      wpAny (model prog w) A (eval elt (compEnvC scope cl C env)) (fun v s' => G (f p) v ∧ ∃ h' tk', s' = { s with heap := h', toks := tk' } ∧ KpA h h') E' { s with heap := h, toks := tk })
    (fin : ∀ D ws n h tk, KpA s.heap h → h.get? D = some (listOf ws.toArray n) → s.heap.get? D = none → Are ws (prs.map f) → Q (.ref D) { s with heap := h, toks := tk }) :
    wpAny (model prog w) A (pyIter (.ref ax)) (fun it s₂ => wpAny (model prog w) A (newList []) (fun acc s₃ => wpAny (model prog w) A (newFunctionEnv scope env.globals cl [] env.qual none .none (some env)) (fun cenv s₄ =>
      codeAny (model prog w) A (.compStart (.ListComp elt [⟨.Tuple [.Name x px, .Name y py] x1 pt, iter, [], 0⟩] scope pos) 0 it acc { cenv with scope := relabel scope env }) (compPost (model prog w) A E none Q acc cenv.locals) s₄) E s₃) E s₂) E s := by
  refine comp_kp (fun i ws => Are ws ((prs.take i).map f)) hh hl (by rw [PySem.sizeLine_eq]; omega) hcell hkind hnil ?turn ?len ?fin
  case len =>
    intro i ws h
    rw [hal h, List.length_map, List.length_take]
    exact Nat.min_le_left _ _
  case fin =>
    rintro D ws h tk hk ⟨n, hd⟩ h0 hP'
    refine fin D ws n h tk hk hd h0 ?_
    rw [hP.1, List.take_length] at hP'
    exact hP'
  case turn =>
    intro i v C m' h tk ws E' hv hPi hk hn hC
    obtain ⟨p, hp⟩ : ∃ p, prs[i]? = some p := by
      have := (List.getElem?_eq_some_iff.mp hv).1
      rw [hP.1] at this
      exact ⟨prs[i], List.getElem?_eq_getElem this⟩
    obtain ⟨T, ta, tb, rfl, o, ho, hor⟩ := hP.2 i v p hv hp
    refine assign2 hh hkind hx hy hn ⟨o, hk _ _ ho, hor⟩ fun h₂ tk₂ hn₂ k₂ => ?_
    refine wpAny_tests_nil ?_
    rw [if_pos rfl]
    have kk : KpA s.heap h₂ := fun b o e => k₂ b o (fun q => absurd (Heap.lt_size e) (by rw [q]; exact Nat.not_lt.mpr hC)) (hk b o e)
    refine wpAny_mono (helt p ta tb C _ h₂ tk₂ E' (List.mem_of_getElem? hp) hn₂ (by simp [hxy]) (by simp) kk hC) (fun v s' hq => ?_) fun _ _ e => e
    obtain ⟨hG, h', tk', rfl, k'⟩ := hq
    refine ⟨h', tk', _, rfl, fun b o hb e => k' b o (k₂ b o hb e), hn₂.at' fun o e => k' _ o e, ?_⟩
    rw [List.take_add_one, hp, List.map_append]
    exact hsnoc hPi hG
theorem comp_map1 {elt iter : Expr} {x : Str} {px pos : Pos} {scope : Scope} {cl : List (Str × Addr)} {ax : Addr} {vs : List Value} {ns : List Int} {Q : Value → Shared → Prop} (f : Int → Int)
    (hh : A.handled = none) (hl : s.heap.IsList ax vs.toArray) (hsz : vs.length ≤ 1000) (hi : IntsAre vs ns) (hcell : ∀ y ∈ scope.names, y.2 ≠ .cell) (hkind : scope.kind = .function) (hx : scope.names.lookup x = some .local)
    (helt : ∀ a ta C m₂ h tk (E' : Value → Shared → Prop), h.Ns C m₂ → m₂ x = some (.int a ta) →
      wpAny (model prog w) A (eval elt (compEnvC scope cl C env)) (fun v s' => (∃ t, v = .int (f a) t) ∧ ∃ h' tk', s' = { s with heap := h', toks := tk' } ∧ KpA h h') E' { s with heap := h, toks := tk })
    (fin : ∀ D ws n h tk, KpA s.heap h → h.get? D = some (listOf ws.toArray n) → s.heap.get? D = none → IntsAre ws (ns.map f) → Q (.ref D) { s with heap := h, toks := tk }) :
    wpAny (model prog w) A (pyIter (.ref ax)) (fun it s₂ => wpAny (model prog w) A (newList []) (fun acc s₃ => wpAny (model prog w) A (newFunctionEnv scope env.globals cl [] env.qual none .none (some env)) (fun cenv s₄ =>
      codeAny (model prog w) A (.compStart (.ListComp elt [⟨.Name x px, iter, [], 0⟩] scope pos) 0 it acc { cenv with scope := relabel scope env }) (compPost (model prog w) A E none Q acc cenv.locals) s₄) E s₃) E s₂) E s := by
  refine comp_kp (fun i ws => IntsAre ws ((ns.take i).map f)) hh hl (by rw [PySem.sizeLine_eq]; omega) hcell hkind .nil ?turn ?len ?fin
  case len =>
    intro i ws h
    rw [h.length, List.length_map, List.length_take]
    exact Nat.min_le_left _ _
  case fin =>
    rintro D ws h tk hk ⟨n, hd⟩ h0 hP'
    refine fin D ws n h tk hk hd h0 ?_
    rw [hi.length, List.take_length] at hP'
    exact hP'
  case turn =>
    intro i v C m' h tk ws E' hv hPi hk hn hC
    obtain ⟨a, ha⟩ : ∃ a, ns[i]? = some a := by
      have := (List.getElem?_eq_some_iff.mp hv).1
      rw [hi.length] at this
      exact ⟨ns[i], List.getElem?_eq_getElem this⟩
    obtain ⟨ta, hta⟩ := ints_get hi i a ha
    obtain rfl : v = .int a ta := Option.some.inj (hv.symm.trans hta)
    refine assign1 hkind hx hn fun h₂ hn₂ k₂ => ?_
    refine wpAny_tests_nil ?_
    rw [if_pos rfl]
    refine wpAny_mono (helt a ta C _ h₂ _ E' hn₂ (by simp)) (fun v s' hq => ?_) fun _ _ e => e
    obtain ⟨⟨t, rfl⟩, h', tk', rfl, k'⟩ := hq
    refine ⟨h', tk', _, rfl, fun b o hb e => k' b o (k₂ b o hb e), hn₂.at' fun o e => k' _ o e, ?_⟩
    rw [List.take_add_one, ha, List.map_append]
    exact ints_app hPi (.cons _ _ .nil)
end
end Mine
end
section
set_option autoImplicit false
set_option maxRecDepth 100000
namespace Mine
open PySem PySem.Builtin PySem.Builtin.Str PySem.W PyProof.Rows
theorem zip_no_len : typeLookup (.type "zip") "__len__" = pure none := by rw [typeLookup_type, builtinLookup_eq_fast]; kernel_rfl
theorem zip_no_hint : typeLookup (.type "zip") "__length_hint__" = pure none := by rw [typeLookup_type, builtinLookup_eq_fast]; kernel_rfl
abbrev ZObj (f0 f1 : Value) (TI TO : Addr) : Obj := { cls := .type "zip", dict := none, data := .fields #[f0, f1, .bool false, .ref TI, .ref TO], slots := #[] }
section
variable {prog : Program} {w : World} {A : Around} {E : Value → Shared → Prop} {s : Shared}
theorem loadIfAlive_ {M : Model} {a : Addr} {Q : Option Obj → Shared → Prop} (h : Q (s.heap.get? a) s) : wpAny M A (loadIfAlive a) Q E s := fun _ _ _ => h
theorem zip_isFree {z TI TO T : Addr} {oT : Obj} {bb : Bool} {Q : Bool → Shared → Prop} (hz : s.heap.get? z = some (ZObj (rawInt T) (.bool bb) TI TO)) (hT : s.heap.get? T = some oT)
    (hQ : ∀ h', h'.get? z = some (ZObj (rawInt T) (.bool true) TI TO) → Heap.SameBut z s.heap h' → Q false { s with heap := h' }) : wpAny (model prog w) A (Builtin.SmallTypes.ownedTupleIsFree (.ref z)) Q E s := by
  unfold Builtin.SmallTypes.ownedTupleIsFree
  refine wpAny_bind (wpAny_field hz rfl (x := rawInt T) rfl ?_)
  show wpAny _ _ (loadIfAlive ((T : Int)).toNat >>= _) _ _ _
  refine wpAny_bind (loadIfAlive_ ?_)
  rw [Int.toNat_natCast, hT]
  simp only [Option.isNone_some, Bool.false_eq_true, if_false]
  refine wpAny_bind (wpAny_field hz rfl (x := .bool bb) rfl ?_)
  cases bb with
  | true =>
    show wpAny _ _ (pure false) _ _ _
    exact wpAny_pure (hQ s.heap hz (Heap.SameBut.refl _ _))
  | false =>
    show wpAny _ _ (setField (.ref z) 1 (.bool true) >>= fun _ => pure false) _ _ _
    refine wpAny_bind (wpAny_setField_rec hz (by simp) fun h' hz' hs' => wpAny_pure (hQ h' hz' hs'))
theorem zip_next2 {z TI TO i1 i2 l1 l2 T : Addr} {oT : Obj} {bb : Bool} {k1 k2 : Nat} {xs ys : Array Value} {x y : Value} {Q : Value → Shared → Prop} (D : ZipApart z TI TO i1 i2 l1 l2)
    (hz : s.heap.get? z = some (ZObj (rawInt T) (.bool bb) TI TO)) (hT : s.heap.get? T = some oT) (hTI : IsPair s.heap TI (.ref i1) (.ref i2))
    (h1 : s.heap.IsListIter i1 l1 k1) (h2 : s.heap.IsListIter i2 l2 k2) (hl1 : s.heap.IsList l1 xs) (hl2 : s.heap.IsList l2 ys) (hx : xs[k1]? = some x) (hy : ys[k2]? = some y)
    (hQ : ∀ h', h'.get? z = some (ZObj (rawInt T) (.bool true) TI TO) → h'.IsListIter i1 l1 (k1 + 1) → h'.IsListIter i2 l2 (k2 + 1) → IsPair h' s.heap.objs.size x y →
      (∀ c o, c ≠ z → c ≠ i1 → c ≠ i2 → s.heap.get? c = some o → h'.get? c = some o) → Q (.ref s.heap.objs.size) { s with heap := h' }) :
    wpAny (model prog w) A (Builtin.«zip.__next__» ⟨[.ref z], []⟩) (fun fin s' => ∃ v, fin = .done (.ret v) ∧ Q v s') E s := by
  show wpAny _ _ (field (.ref z) 2 >>= _) _ _ _
  refine wpAny_bind (wpAny_field hz rfl (x := .bool false) rfl ?_)
  show wpAny _ _ (field (.ref z) 3 >>= _) _ _ _
  refine wpAny_bind (wpAny_field hz rfl (x := .ref TI) rfl ?_)
  refine wpAny_bind (wpAny_seqItems hTI rfl ?_)
  show wpAny _ _ (Builtin.SmallTypes.ownedTupleIsFree (.ref z) >>= _) _ _ _
  refine wpAny_bind (zip_isFree hz hT fun h₁ hz₁ hs₁ => ?_)
  simp only [Bool.false_eq_true, if_false]
  refine wpAny_bind ?_
  simp only [List.forIn_toArray, List.forIn_cons, List.forIn_nil]
  refine wpAny_bind (wpAny_bind (wpAny_holding ?_))
  show wpAny _ _ (Builtin.SmallTypes.nextOf (.ref i1) >>= _) _ _ _
  refine wpAny_bind (wpAny_nextOf_list_item (h1.extBut hs₁.extBut D.i1z) (hl1.extBut hs₁.extBut D.l1z) hx fun h₂ h1₂ hs₂ => wpAny_pure ?_)
  refine wpAny_pure ?_
  refine wpAny_bind (wpAny_bind (wpAny_holding ?_))
  show wpAny _ _ (Builtin.SmallTypes.nextOf (.ref i2) >>= _) _ _ _
  refine wpAny_bind (wpAny_nextOf_list_item ((h2.extBut hs₁.extBut D.i2z).extBut hs₂.extBut D.i12.symm) ((hl2.extBut hs₁.extBut D.l2z).extBut hs₂.extBut D.l2i1) hy fun h₃ h2₃ hs₃ => wpAny_pure ?_)
  refine wpAny_pure (wpAny_pure ?_)
  show wpAny _ _ (newTuple [x, y] >>= fun t => ret t) _ _ _
  refine wpAny_bind (wpAny_newTuple ?_)
  have hsz : h₃.objs.size = s.heap.objs.size := by rw [hs₃.1, hs₂.1, hs₁.1]
  have up : ∀ c o, c ≠ z → c ≠ i1 → c ≠ i2 → s.heap.get? c = some o → h₃.get? c = some o := fun c o c1 c3 c4 e => hs₃.extBut _ _ c4 (hs₂.extBut _ _ c3 (hs₁.extBut _ _ c1 e))
  have hz₃ : h₃.get? z = some (ZObj (rawInt T) (.bool true) TI TO) := hs₃.extBut _ _ D.i2z.symm (hs₂.extBut _ _ D.i1z.symm hz₁)
  refine wpAny_pure ⟨_, rfl, ?_⟩
  show Q (.ref h₃.objs.size) { s with heap := h₃.push { cls := .type "tuple", data := .seq #[x, y] } }
  rw [hsz]
  refine hQ _ (Heap.get?_push_of_some _ hz₃) ((h1₂.extBut hs₃.extBut D.i12).at fun o e => Heap.get?_push_of_some _ e) (h2₃.at fun o e => Heap.get?_push_of_some _ e) ?_ (fun c o c1 c2 c3 e => Heap.get?_push_of_some _ (up c o c1 c2 c3 e))
  rw [← hsz]
  exact Heap.get?_push_size _ rfl
theorem zip_end2 {z TI TO i1 i2 l1 l2 T : Addr} {oT : Obj} {bb : Bool} {k1 k2 : Nat} {xs ys : Array Value} {Q : Fin → Shared → Prop} (hh : A.handled = none) (D : ZipApart z TI TO i1 i2 l1 l2)
    (hz : s.heap.get? z = some (ZObj (rawInt T) (.bool bb) TI TO)) (hT : s.heap.get? T = some oT) (hTI : IsPair s.heap TI (.ref i1) (.ref i2))
    (h1 : s.heap.IsListIter i1 l1 k1) (h2 : s.heap.IsListIter i2 l2 k2) (hl1 : s.heap.IsList l1 xs) (hl2 : s.heap.IsList l2 ys) (hend : xs[k1]? = none ∨ ys[k2]? = none)
    (hE : ∀ h' e, (∀ c o, c ≠ z → c ≠ i1 → c ≠ i2 → s.heap.get? c = some o → h'.get? c = some o) → (∃ o, h'.get? e = some o ∧ o.cls = .type "StopIteration") → E (.ref e) { s with heap := h' }) :
    wpAny (model prog w) A (Builtin.«zip.__next__» ⟨[.ref z], []⟩) Q E s := by
  show wpAny _ _ (field (.ref z) 2 >>= _) _ _ _
  refine wpAny_bind (wpAny_field hz rfl (x := .bool false) rfl ?_)
  show wpAny _ _ (field (.ref z) 3 >>= _) _ _ _
  refine wpAny_bind (wpAny_field hz rfl (x := .ref TI) rfl ?_)
  refine wpAny_bind (wpAny_seqItems hTI rfl ?_)
  show wpAny _ _ (Builtin.SmallTypes.ownedTupleIsFree (.ref z) >>= _) _ _ _
  refine wpAny_bind (zip_isFree hz hT fun h₁ hz₁ hs₁ => ?_)
  simp only [Bool.false_eq_true, if_false]
  refine wpAny_bind ?_
  simp only [List.forIn_toArray, List.forIn_cons, List.forIn_nil]
  refine wpAny_bind (wpAny_bind (wpAny_holding ?_))
  show wpAny _ _ (Builtin.SmallTypes.nextOf (.ref i1) >>= _) _ _ _
  cases hx : xs[k1]? with
  | none =>
    refine wpAny_bind (wpAny_nextOf_list_end hh (h1.extBut hs₁.extBut D.i1z) (hl1.extBut hs₁.extBut D.l1z) hx fun h₂ e hs₂ he => ?_)
    exact hE h₂ e (fun c o c1 c3 _ x => hs₂ _ _ c3 (hs₁.extBut _ _ c1 x)) he
  | some x =>
    have hy : ys[k2]? = none := by rcases hend with h | h; rw [hx] at h; cases h; exact h
    refine wpAny_bind (wpAny_nextOf_list_item (h1.extBut hs₁.extBut D.i1z) (hl1.extBut hs₁.extBut D.l1z) hx fun h₂ h1₂ hs₂ => wpAny_pure ?_)
    refine wpAny_pure ?_
    refine wpAny_bind (wpAny_bind (wpAny_holding ?_))
    show wpAny _ _ (Builtin.SmallTypes.nextOf (.ref i2) >>= _) _ _ _
    refine wpAny_bind (wpAny_nextOf_list_end hh ((h2.extBut hs₁.extBut D.i2z).extBut hs₂.extBut D.i12.symm) ((hl2.extBut hs₁.extBut D.l2z).extBut hs₂.extBut D.l2i1) hy fun h₃ e hs₃ he => ?_)
    exact hE h₃ e (fun c o c1 c3 c4 x => hs₃ _ _ c4 (hs₂.extBut _ _ c3 (hs₁.extBut _ _ c1 x))) he
theorem pyNext_zip2 {z TI TO i1 i2 l1 l2 T : Addr} {oT : Obj} {bb : Bool} {k1 k2 : Nat} {xs ys : Array Value} {x y : Value} {Q : Option Value → Shared → Prop} (D : ZipApart z TI TO i1 i2 l1 l2)
    (hz : s.heap.get? z = some (ZObj (rawInt T) (.bool bb) TI TO)) (hT : s.heap.get? T = some oT) (hTI : IsPair s.heap TI (.ref i1) (.ref i2))
    (h1 : s.heap.IsListIter i1 l1 k1) (h2 : s.heap.IsListIter i2 l2 k2) (hl1 : s.heap.IsList l1 xs) (hl2 : s.heap.IsList l2 ys) (hx : xs[k1]? = some x) (hy : ys[k2]? = some y)
    (hQ : ∀ h', h'.get? z = some (ZObj (rawInt T) (.bool true) TI TO) → h'.IsListIter i1 l1 (k1 + 1) → h'.IsListIter i2 l2 (k2 + 1) → IsPair h' s.heap.objs.size x y →
      (∀ c o, c ≠ z → c ≠ i1 → c ≠ i2 → s.heap.get? c = some o → h'.get? c = some o) → Q (some (.ref s.heap.objs.size)) { s with heap := h' }) :
    wpAny (model prog w) A (pyNext (.ref z)) Q E s := by
  have hT' : s.TypeIs (.ref z) "zip" := ⟨_, hz, rfl⟩
  unfold pyNext
  exact wpAny_bind (wpAny_attempt (wpAny_callSpecial?_slot (name := Str.ofString "__next__") hT' F.slot_zip_next
    (wpAny_call_entry F.slot_zip_next hT' F.entry_zip_next (zip_next2 D hz hT hTI h1 h2 hl1 hl2 hx hy fun h' a1 a2 a3 a4 a5 => wpAny_pure (hQ h' a1 a2 a3 a4 a5)) (F.args_zip_next_1 _))))
theorem pyNext_zip_end2 {z TI TO i1 i2 l1 l2 T : Addr} {oT : Obj} {bb : Bool} {k1 k2 : Nat} {xs ys : Array Value} {Q : Option Value → Shared → Prop} (hh : A.handled = none) (D : ZipApart z TI TO i1 i2 l1 l2)
    (hz : s.heap.get? z = some (ZObj (rawInt T) (.bool bb) TI TO)) (hT : s.heap.get? T = some oT) (hTI : IsPair s.heap TI (.ref i1) (.ref i2))
    (h1 : s.heap.IsListIter i1 l1 k1) (h2 : s.heap.IsListIter i2 l2 k2) (hl1 : s.heap.IsList l1 xs) (hl2 : s.heap.IsList l2 ys) (hend : xs[k1]? = none ∨ ys[k2]? = none)
    (hQ : ∀ h', (∀ c o, c ≠ z → c ≠ i1 → c ≠ i2 → s.heap.get? c = some o → h'.get? c = some o) → Q none { s with heap := h' }) : wpAny (model prog w) A (pyNext (.ref z)) Q E s := by
  have hT' : s.TypeIs (.ref z) "zip" := ⟨_, hz, rfl⟩
  unfold pyNext
  refine wpAny_bind (wpAny_attempt (wpAny_callSpecial?_slot (name := Str.ofString "__next__") hT' F.slot_zip_next
    (wpAny_call_entry F.slot_zip_next hT' F.entry_zip_next (zip_end2 hh D hz hT hTI h1 h2 hl1 hl2 hend fun h' e hk he => ?_) (F.args_zip_next_1 _))))
  obtain ⟨o, ho, hc⟩ := he
  refine wpAny_bind (wpAny_isInstance (T := "StopIteration") (b := true) ⟨o, ho, hc⟩ isSubtype_stop ?_)
  exact wpAny_pure (hQ _ hk)
end
end Mine
end
section
set_option autoImplicit false
set_option maxRecDepth 100000
namespace Mine
open PySem PySem.Builtin PySem.Builtin.Str PySem.W PyProof.Rows
structure ZSt (S : Addr) (h : Heap) (z TI TO i1 i2 l1 l2 : Addr) (xs ys : Array Value) (i : Nat) : Prop where
  z : IsZip h z TI TO .none ∨ ∃ (T : Addr) (oT : Obj) (bb : Bool), h.get? z = some (ZObj (rawInt T) (.bool bb) TI TO) ∧ h.get? T = some oT ∧ T ≠ z ∧ T ≠ i1 ∧ T ≠ i2 ∧ T ≠ S
  ti : IsPair h TI (.ref i1) (.ref i2)
  to : ∃ a b, IsPair h TO a b
  i1 : h.IsListIter i1 l1 i
  i2 : h.IsListIter i2 l2 i
  l1 : h.IsList l1 xs
  l2 : h.IsList l2 ys
def Tups (B : Nat) (h : Heap) (off : List Addr) (xs ys : Array Value) (ts : List Addr) : Prop := ∀ (j : Nat) (T : Addr), ts[j]? = some T → (B ≤ T ∧ T ∉ off) ∧ ∃ x y, xs[j]? = some x ∧ ys[j]? = some y ∧ IsPair h T x y
section
variable {prog : Program} {w : World} {A : Around} {s : Shared} {R : Result → Shared → Prop}
theorem zip_loop {z TI TO i1 i2 l1 l2 S : Addr} {xs ys : Array Value} {n : Nat} (hh : A.handled = none) (D : ZipApart z TI TO i1 i2 l1 l2) (hn : n = min xs.size ys.size) (hnl : n ≤ 1000) (hS7 : S ≠ z ∧ S ≠ TI ∧ S ≠ TO ∧ S ≠ i1 ∧ S ≠ i2 ∧ S ≠ l1 ∧ S ≠ l2) (res : Value) (B : Nat) :
    ∀ (k i : Nat) (s : Shared) (ts : List Addr) (c : Nat), n - i = k → i ≤ n → ZSt S s.heap z TI TO i1 i2 l1 l2 xs ys i → s.heap.get? S = some (listOf (ts.map Value.ref).toArray c) → ts.length = i → B ≤ s.heap.objs.size → Tups B s.heap [z, TO, i1, i2, S] xs ys ts →
    (∀ h' ts' c', (∀ b o, b ∉ [z, TO, i1, i2, S] → s.heap.get? b = some o → h'.get? b = some o) → h'.get? S = some (listOf (ts'.map Value.ref).toArray c') → ts'.length = n → Tups B h' [z, TO, i1, i2, S] xs ys ts' → R (.ok (.ret res)) { s with heap := h' }) →
    codeAny (model prog w) A (.builtin "list.extend.loop" ⟨[.ref S, .ref z, res], []⟩) R s := by
  intro k
  induction k with
  | zero =>
    intro i s ts c hk hi hst hS hl hB hts hR
    have hin : i = n := by omega
    subst hin
    refine codeAny_builtin F.entry_extend_loop ?_
    rw [Around.under_plainId F.plain_extend_loop _]
    show wpAny _ A.in1 (pyNext (.ref z) >>= _) _ _ s
    have hend : xs[i]? = none ∨ ys[i]? = none := by
      rcases Nat.le_total xs.size ys.size with q | q
      · exact .inl (Array.getElem?_eq_none (by omega))
      · exact .inr (Array.getElem?_eq_none (by omega))
    have fin : ∀ h', (∀ c o, c ≠ z → c ≠ TO → c ≠ i1 → c ≠ i2 → s.heap.get? c = some o → h'.get? c = some o) → R (.ok (.ret res)) { s with heap := h' } := fun h' hk' => by
      refine hR h' ts c (fun b o hb e => hk' b o (fun q => hb (by simp [q])) (fun q => hb (by simp [q])) (fun q => hb (by simp [q])) (fun q => hb (by simp [q])) e) (hk' _ _ hS7.1 hS7.2.2.1 hS7.2.2.2.1 hS7.2.2.2.2.1 hS) hl ?_
      intro j T hj
      obtain ⟨⟨h0, h1⟩, x, y, h2, h3, h4⟩ := hts j T hj
      exact ⟨⟨h0, h1⟩, x, y, h2, h3, hk' _ _ (fun q => h1 (by simp [q])) (fun q => h1 (by simp [q])) (fun q => h1 (by simp [q])) (fun q => h1 (by simp [q])) h4⟩
    obtain ⟨a, b, hTO⟩ := hst.to
    rcases hst.z with hz | ⟨T, oT, bb, hz, hT, _⟩
    · exact wpAny_bind (wpAny_pyNext_zip_end hh D hz hst.ti hTO hst.i1 hst.i2 hst.l1 hst.l2 hend fun h' hk' => wpAny_pure (fin h' hk'))
    · exact wpAny_bind (pyNext_zip_end2 hh D hz hT hst.ti hst.i1 hst.i2 hst.l1 hst.l2 hend fun h' hk' => wpAny_pure (fin h' fun c o c1 _ c3 c4 e => hk' c o c1 c3 c4 e))
  | succ k ih =>
    intro i s ts c hk hi hst hS hl hB hts hR
    have hix : i < xs.size := by omega
    have hiy : i < ys.size := by omega
    refine codeAny_builtin F.entry_extend_loop ?_
    rw [Around.under_plainId F.plain_extend_loop _]
    show wpAny _ A.in1 (pyNext (.ref z) >>= _) _ _ s
    have hx := Array.getElem?_eq_getElem hix
    have hy := Array.getElem?_eq_getElem hiy
    have lt : ∀ {c o}, s.heap.get? c = some o → s.heap.objs.size ≠ c := fun e => Nat.ne_of_gt (Heap.lt_size e)
    obtain ⟨a, b, hTO⟩ := hst.to
    have li1 : s.heap.objs.size ≠ i1 := by obtain ⟨_, e, _⟩ := hst.i1; exact lt e
    have li2 : s.heap.objs.size ≠ i2 := by obtain ⟨_, e, _⟩ := hst.i2; exact lt e
    have lz : s.heap.objs.size ≠ z := by rcases hst.z with e | ⟨_, _, _, e, _⟩ <;> exact lt e
    have step : ∀ h' : Heap, (∃ (T : Addr) (oT : Obj) (bb : Bool), h'.get? z = some (ZObj (rawInt T) (.bool bb) TI TO) ∧ h'.get? T = some oT ∧ T ≠ z ∧ T ≠ i1 ∧ T ≠ i2 ∧ T ≠ S) → (∃ a b, IsPair h' TO a b) → h'.IsListIter i1 l1 (i + 1) → h'.IsListIter i2 l2 (i + 1) → IsPair h' s.heap.objs.size xs[i] ys[i] →
        (∀ c o, c ≠ z → c ≠ TO → c ≠ i1 → c ≠ i2 → s.heap.get? c = some o → h'.get? c = some o) →
        wpAny (model prog w) A.in1 (updateSeq S (·.push (.ref s.heap.objs.size)) >>= fun _ => again (.builtin "list.extend.loop" ⟨[.ref S, .ref z, res], []⟩))
          (fun fin s' => match fin with | .done f => R (.ok f) s' | .again c' => c'.quiet = true ∧ codeAny (model prog w) A c' R s') (fun e s' => R (.error e) s') { s with heap := h' } := by
      intro h' hz' hto' hi1' hi2' hp' hk'
      have hS' := hk' S _ hS7.1 hS7.2.2.1 hS7.2.2.2.1 hS7.2.2.2.2.1 hS
      refine wpAny_bind ?_
      refine wpAny_updateSeq hS' rfl (wpAny_pure ⟨plainId_quiet F.plain_extend_loop _, ih (i + 1) _ (ts ++ [s.heap.objs.size]) (c + 1) (by omega) (by omega) ?_ ?_ (by rw [List.length_append, hl]; rfl) ?_ ?_ ?_⟩)
        (by rw [List.size_toArray, List.length_map, hl, PySem.sizeLine_eq]; omega) (by rw [Array.size_push, List.size_toArray, List.length_map, hl, PySem.sizeLine_eq]; omega)
      · have oth : ∀ b o, b ≠ S → h'.get? b = some o → (h'.update S (Obj.mapSeq (·.push (Value.ref s.heap.objs.size)))).get? b = some o := fun b o hb e => (Heap.get?_update_other _ _ (Ne.symm hb)).trans e
        obtain ⟨T, oT, bb, z1, z2, z3, z4, z5, z6⟩ := hz'
        obtain ⟨ta, tb, tt⟩ := hto'
        exact ⟨.inr ⟨T, oT, bb, oth _ _ hS7.1.symm z1, oth _ _ z6 z2, z3, z4, z5, z6⟩, oth _ _ hS7.2.1.symm (hk' _ _ D.TIz D.TITO D.TIi1 D.TIi2 hst.ti), ⟨ta, tb, oth _ _ hS7.2.2.1.symm tt⟩, hi1'.at fun o e => oth _ o hS7.2.2.2.1.symm e, hi2'.at fun o e => oth _ o hS7.2.2.2.2.1.symm e,
          hst.l1.at fun o e => oth _ o hS7.2.2.2.2.2.1.symm (hk' _ o D.l1z D.l1TO D.l1i1 D.l1i2 e), hst.l2.at fun o e => oth _ o hS7.2.2.2.2.2.2.symm (hk' _ o D.l2z D.l2TO D.l2i1 D.l2i2 e)⟩
      · have e := Heap.get?_update_self (Obj.mapSeq (·.push (Value.ref s.heap.objs.size))) hS' rfl
        refine e.trans ?_
        rw [mapSeq_push]
        simp
      · have e1 : (h'.update S (Obj.mapSeq (·.push (Value.ref s.heap.objs.size)))).objs.size = h'.objs.size := (Heap.SameBut.update ..).1
        show B ≤ (h'.update S _).objs.size
        rw [e1]
        exact Nat.le_trans hB (Nat.le_of_lt (Heap.lt_size hp'))
      · intro j T hj
        have oth : ∀ b o, b ≠ S → h'.get? b = some o → (h'.update S (Obj.mapSeq (·.push (Value.ref s.heap.objs.size)))).get? b = some o := fun b o hb e => (Heap.get?_update_other _ _ (Ne.symm hb)).trans e
        by_cases hjl : j < ts.length
        · rw [List.getElem?_append_left hjl] at hj
          obtain ⟨⟨h0, h1⟩, x, y, h2, h3, h4⟩ := hts j T hj
          exact ⟨⟨h0, h1⟩, x, y, h2, h3, oth _ _ (fun q => h1 (by simp [q])) (hk' _ _ (fun q => h1 (by simp [q])) (fun q => h1 (by simp [q])) (fun q => h1 (by simp [q])) (fun q => h1 (by simp [q])) h4)⟩
        · have hj' := (List.getElem?_eq_some_iff.mp hj).1
          rw [List.length_append, List.length_singleton] at hj'
          have hje : j = ts.length := by omega
          subst hje
          rw [List.getElem?_concat_length] at hj
          obtain rfl : s.heap.objs.size = T := Option.some.inj hj
          refine ⟨⟨hB, ?_⟩, _, _, hl ▸ hx, hl ▸ hy, oth _ _ (lt hS) hp'⟩
          intro hm
          simp only [List.mem_cons, List.not_mem_nil, or_false] at hm
          rcases hm with q | q | q | q | q
          · exact lz q
          · exact lt hTO q
          · exact li1 q
          · exact li2 q
          · exact lt hS q
      · intro h'' ts' c' hk'' hS'' hl'' hts''
        refine hR h'' ts' c' (fun b o hb e => hk'' b o hb ?_) hS'' hl'' hts''
        refine (Heap.get?_update_other _ _ (fun q => hb (by simp [← q]))).trans ?_
        exact hk' b o (fun q => hb (by simp [q])) (fun q => hb (by simp [q])) (fun q => hb (by simp [q])) (fun q => hb (by simp [q])) e
    rcases hst.z with hz | ⟨T, oT, bb, hz, hT, t1, t2, t3, t4⟩
    · refine wpAny_bind (wpAny_pyNext_zip_item D hz hst.ti hTO hst.i1 hst.i2 hst.l1 hst.l2 hx hy fun h' a1 a2 a3 a4 a5 _ a7 => ?_)
      exact step h' ⟨s.heap.objs.size, _, false, a1, a5, lz, li1, li2, lt hS⟩ ⟨_, _, a2⟩ a3 a4 a5 a7
    · refine wpAny_bind (pyNext_zip2 D hz hT hst.ti hst.i1 hst.i2 hst.l1 hst.l2 hx hy fun h' a1 a2 a3 a4 a5 => ?_)
      exact step h' ⟨T, oT, true, a1, a5 _ _ t1 t2 t3 hT, t1, t2, t3, t4⟩ ⟨a, b, a5 _ _ D.TOz D.TOi1 D.TOi2 hTO⟩ a2 a3 a4 (fun c o c1 _ c3 c4 e => a5 c o c1 c3 c4 e)
theorem extend_zip {z TI TO i1 i2 l1 l2 S : Addr} {xs ys : Array Value} {n : Nat} (hh : A.handled = none) (D : ZipApart z TI TO i1 i2 l1 l2) (hn : n = min xs.size ys.size) (hnl : n ≤ 1000) (hS7 : S ≠ z ∧ S ≠ TI ∧ S ≠ TO ∧ S ≠ i1 ∧ S ≠ i2 ∧ S ≠ l1 ∧ S ≠ l2) (res : Value) (B : Nat) (c₀ : Nat)
    (hz : IsZip s.heap z TI TO .none) (hst : ZSt S s.heap z TI TO i1 i2 l1 l2 xs ys 0) (hS : s.heap.get? S = some (listOf #[] c₀)) (hB : B ≤ s.heap.objs.size)
    (hR : ∀ h' ts' c', (∀ b o, b ∉ [z, TO, i1, i2, S] → s.heap.get? b = some o → h'.get? b = some o) → h'.get? S = some (listOf (ts'.map Value.ref).toArray c') → ts'.length = n → Tups B h' [z, TO, i1, i2, S] xs ys ts' → R (.ok (.ret res)) { s with heap := h' }) :
    wpAny (model prog w) A.in1 (Builtin.List.listExtendWith (.ref S) (.ref z) res)
      (fun fin s' => match fin with | .done f => R (.ok f) s' | .again c' => c'.quiet = true ∧ codeAny (model prog w) A c' R s') (fun e s' => R (.error e) s') s := by
  have hT : s.TypeIs (.ref z) "zip" := ⟨_, hz, rfl⟩
  unfold Builtin.List.listExtendWith
  refine wpAny_bind (wpAny_typeOf (T := "zip") hT ?_)
  have h1 : Builtin.List.listSameRef (.ref S) (.ref z) = false := by simp [Builtin.List.listSameRef, hS7.1]
  have h2 : (Value.type "zip" == Value.type "list") = false := by decide
  have h3 : (Value.type "zip" == Value.type "tuple") = false := by decide
  simp only [h1, h2, h3, Bool.or_false, Bool.false_eq_true, if_false]
  refine wpAny_bind (wpAny_pyIter_zip hz ?_)
  refine wpAny_bind (wpAny_holding ?_)
  unfold Builtin.List.listLengthHint
  refine wpAny_bind (wpAny_specialOf hT zip_no_len ?_)
  show wpAny _ A.in1 (specialOf (Value.ref z) (Str.ofString "__length_hint__") >>= _) _ _ _
  refine wpAny_bind (wpAny_specialOf hT zip_no_hint ?_)
  refine wpAny_pure ?_
  show wpAny _ A.in1 (rule "list.extend.makes-room" >>= fun _ => Builtin.List.listTouch (.ref S) >>= fun _ =>
    again (.builtin "list.extend.loop" ⟨[.ref S, .ref z, res], []⟩)) _ _ _
  refine wpAny_bind (wpAny_rule ?_)
  refine wpAny_bind ?_
  show wpAny _ A.in1 (updateSeq S (·.push .none) >>= fun _ => updateSeq S (·.pop)) _ _ _
  refine wpAny_bind (wpAny_updateSeq hS rfl ?_)
  have hS₂ := Heap.get?_update_self (Obj.mapSeq (·.push Value.none)) hS rfl
  refine wpAny_updateSeq (hz := by seq_fits) hS₂ rfl ?_
  have hS₃ := Heap.get?_update_self (Obj.mapSeq (·.pop)) hS₂ rfl
  have oth : ∀ b o, b ≠ S → s.heap.get? b = some o → ((s.heap.update S (Obj.mapSeq (·.push Value.none))).update S (Obj.mapSeq (·.pop))).get? b = some o :=
    fun b o hb e => (Heap.get?_update_other _ _ (Ne.symm hb)).trans ((Heap.get?_update_other _ _ (Ne.symm hb)).trans e)
  have hsz : ((s.heap.update S (Obj.mapSeq (·.push Value.none))).update S (Obj.mapSeq (·.pop))).objs.size = s.heap.objs.size := by
    rw [(Heap.SameBut.update ..).1, (Heap.SameBut.update ..).1]
  obtain ⟨a, b, hTO⟩ := hst.to
  refine wpAny_pure ⟨plainId_quiet F.plain_extend_loop _, zip_loop hh D hn hnl hS7 res B n 0 _ [] _ rfl (Nat.zero_le _) ⟨.inl (oth _ _ hS7.1.symm hz), oth _ _ hS7.2.1.symm hst.ti, ⟨a, b, oth _ _ hS7.2.2.1.symm hTO⟩, hst.i1.at fun o e => oth _ o hS7.2.2.2.1.symm e, hst.i2.at fun o e => oth _ o hS7.2.2.2.2.1.symm e, hst.l1.at fun o e => oth _ o hS7.2.2.2.2.2.1.symm e, hst.l2.at fun o e => oth _ o hS7.2.2.2.2.2.2.symm e⟩ hS₃ rfl (by show B ≤ Array.size _; rw [hsz]; exact hB) (fun j T h => by simp at h) fun h' ts' c' hk hS' hl hts => ?_⟩
  exact hR h' ts' c' (fun b o hb e => hk b o hb (oth b o (fun q => hb (by simp [q])) e)) hS' hl hts
end
end Mine
end
section
set_option autoImplicit false
set_option maxRecDepth 100000
namespace Mine
open PySem PySem.Builtin PySem.Builtin.Str PySem.W PyProof.Rows
structure ZNew (g h : Heap) (z l1 l2 : Addr) (xs ys : Array Value) : Prop where
  go : ∃ TI TO i1 i2, ZipApart z TI TO i1 i2 l1 l2 ∧ IsZip h z TI TO .none ∧ IsPair h TI (.ref i1) (.ref i2) ∧ (∃ a b, IsPair h TO a b) ∧ h.IsListIter i1 l1 0 ∧ h.IsListIter i2 l2 0 ∧ h.IsList l1 xs ∧ h.IsList l2 ys ∧ g.get? z = none ∧ g.get? TO = none ∧ g.get? i1 = none ∧ g.get? i2 = none ∧ g.objs.size ≤ h.objs.size
section
variable {prog : Program} {w : World} {A : Around} {E : Value → Shared → Prop} {s : Shared}
theorem zip_make {l1 l2 : Addr} {xs ys : Array Value} {Q : Value → Shared → Prop} (hl1 : s.heap.IsList l1 xs) (hl2 : s.heap.IsList l2 ys)
    (hQ : ∀ z h', KpA s.heap h' → ZNew s.heap h' z l1 l2 xs ys → Q (.ref z) { s with heap := h' }) : wpAny (model prog w) A (call (.type "zip") [.ref l1, .ref l2]) Q E s := by
  have q1 : l1 < s.heap.objs.size := by obtain ⟨_, e, _⟩ := hl1; exact Heap.lt_size e
  have q2 : l2 < s.heap.objs.size := by obtain ⟨_, e, _⟩ := hl2; exact Heap.lt_size e
  refine call_zip_2 hl1 hl2 fun h' hz hTI hTO hi1 hi2 hsz hk => ?_
  have nn : ∀ k, s.heap.get? (s.heap.objs.size + k) = none := fun k => Heap.get?_none_of_le (Nat.le_add_right _ _)
  exact hQ _ h' hk ⟨_, _, _, _, ktu_apart _ _ _ q1 q2, hz, hTI, ⟨_, _, hTO⟩, hi1, hi2, hl1.at fun o e => hk _ o e, hl2.at fun o e => hk _ o e, nn 4, nn 3, nn 0, nn 1, by rw [hsz]; exact Nat.le_add_right _ _⟩
theorem list_init_zip {R : Result → Shared → Prop} {z TI TO i1 i2 l1 l2 S : Addr} {xs ys : Array Value} {n : Nat} (hh : A.handled = none) (D : ZipApart z TI TO i1 i2 l1 l2) (hn : n = min xs.size ys.size) (hnl : n ≤ 1000) (hS7 : S ≠ z ∧ S ≠ TI ∧ S ≠ TO ∧ S ≠ i1 ∧ S ≠ i2 ∧ S ≠ l1 ∧ S ≠ l2) (B : Nat)
    (hz : IsZip s.heap z TI TO .none) (hst : ZSt S s.heap z TI TO i1 i2 l1 l2 xs ys 0) (hS : s.heap.get? S = some (listOf #[] 0)) (hB : B ≤ s.heap.objs.size)
    (hR : ∀ h' ts' c', (∀ b o, b ∉ [z, TO, i1, i2, S] → s.heap.get? b = some o → h'.get? b = some o) → h'.get? S = some (listOf (ts'.map Value.ref).toArray c') → ts'.length = n → Tups B h' [z, TO, i1, i2, S] xs ys ts' → R (.ok (.ret .none)) { s with heap := h' }) :
    wpAny (model prog w) A.in1 (Builtin.«list.__init__» ⟨[.ref S, .ref z], []⟩)
      (fun fin s' => match fin with | .done f => R (.ok f) s' | .again c' => c'.quiet = true ∧ codeAny (model prog w) A c' R s') (fun e s' => R (.error e) s') s := by
  show wpAny _ _ (do let old ← Builtin.List.listItems (.ref S); Builtin.List.listUpdate (.ref S) (fun _ => #[]); letGo old.toList.reverse; Builtin.List.listExtendWith (.ref S) (.ref z) .none) _ _ s
  refine wpAny_bind ?_
  unfold Builtin.List.listItems
  refine wpAny_bind (wpAny_seqItems hS rfl (wpAny_pure ?_))
  show wpAny _ _ (updateSeq S (fun _ => #[]) >>= fun _ => letGo (#[] : Array Value).toList.reverse >>= fun _ => Builtin.List.listExtendWith (.ref S) (.ref z) .none) _ _ s
  refine wpAny_bind (wpAny_updateSeq hS rfl ?_)
  have hS₂ := Heap.get?_update_self (Obj.mapSeq (fun _ => (#[] : Array Value))) hS rfl
  have oth : ∀ b o, b ≠ S → s.heap.get? b = some o → (s.heap.update S (Obj.mapSeq (fun _ => (#[] : Array Value)))).get? b = some o :=
    fun b o hb e => (Heap.get?_update_other _ _ (Ne.symm hb)).trans e
  have hsz : (s.heap.update S (Obj.mapSeq (fun _ => (#[] : Array Value)))).objs.size = s.heap.objs.size := (Heap.SameBut.update ..).1
  refine wpAny_bind (wpAny_letGo ?_)
  obtain ⟨a, b, hTO⟩ := hst.to
  refine extend_zip (s := { s with heap := s.heap.update S (Obj.mapSeq (fun _ => (#[] : Array Value))) }) hh D hn hnl hS7 .none B _ (oth _ _ hS7.1.symm hz) ⟨.inl (oth _ _ hS7.1.symm hz), oth _ _ hS7.2.1.symm hst.ti, ⟨a, b, oth _ _ hS7.2.2.1.symm hTO⟩, hst.i1.at fun o e => oth _ o hS7.2.2.2.1.symm e, hst.i2.at fun o e => oth _ o hS7.2.2.2.2.1.symm e, hst.l1.at fun o e => oth _ o hS7.2.2.2.2.2.1.symm e, hst.l2.at fun o e => oth _ o hS7.2.2.2.2.2.2.symm e⟩ hS₂ (by show B ≤ Array.size _; rw [hsz]; exact hB) fun h' ts' c' hk hS' hl hts => ?_
  exact hR h' ts' c' (fun b o hb e => hk b o hb (oth b o (fun q => hb (by simp [q])) e)) hS' hl hts
theorem list_zip {g : Heap} {z l1 l2 : Addr} {xs ys : Array Value} {n : Nat} {Q : Value → Shared → Prop} (hh : A.handled = none) (hk0 : KpA g s.heap) (Z : ZNew g s.heap z l1 l2 xs ys) (hn : n = min xs.size ys.size) (hnl : n ≤ 1000)
    (hQ : ∀ (D : Addr) (h' : Heap) (ts : List Addr) (c : Nat), KpA g h' → h'.get? D = some (listOf (ts.map Value.ref).toArray c) → g.get? D = none → ts.length = n →
      (∀ (j : Nat) (T : Addr), ts[j]? = some T → T ≠ D ∧ g.get? T = none ∧ ∃ x y, xs[j]? = some x ∧ ys[j]? = some y ∧ IsPair h' T x y) → Q (.ref D) { s with heap := h' }) :
    wpAny (model prog w) A (call (.type "list") [.ref z]) Q E s := by
  obtain ⟨TI, TO, i1, i2, D, hz, hTI, ⟨a, b, hTO⟩, hi1, hi2, hl1, hl2, n1, n2, n3, n4, hsz⟩ := Z.go
  refine callType_codes (Q₁ := fun obj s₁ => obj = .ref s.heap.objs.size ∧ s₁ = { s with heap := s.heap.push { cls := .type "list", data := .seq #[] } }) F.called_list (F.typeCall_list_1 _) F.entry_list_init
    (code_list_new _ ⟨rfl, rfl⟩) fun obj s₁ h₁ => ?_
  obtain ⟨rfl, rfl⟩ := h₁
  have hS : (s.heap.push { cls := .type "list", data := .seq #[] }).get? s.heap.objs.size = some { cls := .type "list", data := .seq #[] } := Heap.get?_push_size _ rfl
  have lt : ∀ {c o}, s.heap.get? c = some o → s.heap.objs.size ≠ c := fun e => Nat.ne_of_gt (Heap.lt_size e)
  have up : KpA s.heap (s.heap.push { cls := .type "list", data := .seq #[] }) := fun b o e => Heap.get?_push_of_some _ e
  have li1 : s.heap.objs.size ≠ i1 := by obtain ⟨_, e, _⟩ := hi1; exact lt e
  have li2 : s.heap.objs.size ≠ i2 := by obtain ⟨_, e, _⟩ := hi2; exact lt e
  have ll1 : s.heap.objs.size ≠ l1 := by obtain ⟨_, e, _⟩ := hl1; exact lt e
  have ll2 : s.heap.objs.size ≠ l2 := by obtain ⟨_, e, _⟩ := hl2; exact lt e
  refine ⟨⟨_, hS, rfl⟩, F.args_list_init_2 _ _, list_init_zip (A := A.in1) (s := { s with heap := s.heap.push { cls := .type "list", data := .seq #[] } }) hh D hn hnl ⟨lt hz, lt hTI, lt hTO, li1, li2, ll1, ll2⟩ s.heap.objs.size (up _ _ hz)
    ⟨.inl (up _ _ hz), up _ _ hTI, ⟨a, b, up _ _ hTO⟩, hi1.at fun o e => up _ o e, hi2.at fun o e => up _ o e, hl1.at fun o e => up _ o e, hl2.at fun o e => up _ o e⟩ hS (by show _ ≤ Array.size _; rw [Heap.size_push]; exact Nat.le_succ _) fun h' ts c hk hS' hl hts => ?_⟩
  have hg : ∀ {b}, s.heap.objs.size ≤ b → g.get? b = none := fun {b} hb => by
    cases e : g.get? b with
    | none => rfl
    | some o => exact absurd (Heap.lt_size (hk0 _ _ e)) (Nat.not_lt.mpr hb)
  refine ⟨rfl, hQ s.heap.objs.size h' ts c (fun b o e => hk b o (fun hm => ?_) (up _ _ (hk0 _ _ e))) hS' (hg (Nat.le_refl _)) hl fun j T hj => ?_⟩
  · simp only [List.mem_cons, List.not_mem_nil, or_false] at hm
    rcases hm with q | q | q | q | q
    · rw [q, n1] at e; cases e
    · rw [q, n2] at e; cases e
    · rw [q, n3] at e; cases e
    · rw [q, n4] at e; cases e
    · rw [q, hg (Nat.le_refl _)] at e; cases e
  · obtain ⟨⟨h0, h1⟩, x, y, h2, h3, h4⟩ := hts j T hj
    exact ⟨fun q => h1 (by simp [q]), hg h0, x, y, h2, h3, h4⟩
end
end Mine
end
section
set_option autoImplicit false
set_option maxRecDepth 100000
namespace Mine
open PySem PySem.Builtin PySem.Builtin.Str PySem.W PyProof.Rows
def pairsOf : List Int → List (Int × Int)
  | a :: b :: r => (a, b) :: pairsOf r
  | _ => []
theorem slices2 {vs : List Value} {ds : List Int} (h : IntsAre vs ds) (h2 : 2 ≤ ds.length) (h6 : ds.length ≤ 6) :
    (pairsOf ds).length = min (slicePick vs.toArray (some 0) none (some 2)).size (slicePick vs.toArray (some 1) none (some 2)).size ∧
    ∀ (j : Nat) (p : Int × Int), (pairsOf ds)[j]? = some p → ∃ ta tb, (slicePick vs.toArray (some 0) none (some 2))[j]? = some (Value.int p.1 ta) ∧ (slicePick vs.toArray (some 1) none (some 2))[j]? = some (Value.int p.2 tb) := by
  cases h with
  | nil => simp at h2
  | cons a ta h =>
  cases h with
  | nil => simp at h2
  | cons b tb h =>
  cases h with
  | nil =>
    refine ⟨by kernel_rfl, fun j p hj => ?_⟩
    match j, hj with
    | 0, hj => obtain rfl := Option.some.inj hj; exact ⟨ta, tb, by kernel_rfl, by kernel_rfl⟩
    | j + 1, hj => cases hj
  | cons c tc h =>
  cases h with
  | nil =>
    refine ⟨by kernel_rfl, fun j p hj => ?_⟩
    match j, hj with
    | 0, hj => obtain rfl := Option.some.inj hj; exact ⟨ta, tb, by kernel_rfl, by kernel_rfl⟩
    | j + 1, hj => cases hj
  | cons d td h =>
  cases h with
  | nil =>
    refine ⟨by kernel_rfl, fun j p hj => ?_⟩
    match j, hj with
    | 0, hj => obtain rfl := Option.some.inj hj; exact ⟨ta, tb, by kernel_rfl, by kernel_rfl⟩
    | 1, hj => obtain rfl := Option.some.inj hj; exact ⟨tc, td, by kernel_rfl, by kernel_rfl⟩
    | j + 2, hj => cases hj
  | cons e te h =>
  cases h with
  | nil =>
    refine ⟨by kernel_rfl, fun j p hj => ?_⟩
    match j, hj with
    | 0, hj => obtain rfl := Option.some.inj hj; exact ⟨ta, tb, by kernel_rfl, by kernel_rfl⟩
    | 1, hj => obtain rfl := Option.some.inj hj; exact ⟨tc, td, by kernel_rfl, by kernel_rfl⟩
    | j + 2, hj => cases hj
  | cons f tf h =>
  cases h with
  | nil =>
    refine ⟨by kernel_rfl, fun j p hj => ?_⟩
    match j, hj with
    | 0, hj => obtain rfl := Option.some.inj hj; exact ⟨ta, tb, by kernel_rfl, by kernel_rfl⟩
    | 1, hj => obtain rfl := Option.some.inj hj; exact ⟨tc, td, by kernel_rfl, by kernel_rfl⟩
    | 2, hj => obtain rfl := Option.some.inj hj; exact ⟨te, tf, by kernel_rfl, by kernel_rfl⟩
    | j + 3, hj => cases hj
  | cons g tg h => simp at h6
end Mine
end
section
set_option autoImplicit false
namespace Mine
open PySem
theorem miss_step {ys xs : List Str} {i : Nat} {z : Str} (hi : i < xs.length) (hz : xs[xs.length - 1 - i]? = some z) :
    missR ys (xs.reverse.drop i) (xs.drop (xs.length - i)) = (if (xs.drop (xs.length - 1 - i)).count z > ys.count z then [z] else []) ++ missR ys (xs.reverse.drop (i + 1)) (xs.drop (xs.length - (i + 1))) := by
  have h1 : xs.reverse.drop i = z :: xs.reverse.drop (i + 1) := by
    have hl : i < xs.reverse.length := by rw [List.length_reverse]; exact hi
    rw [List.drop_eq_getElem_cons hl]
    congr 1
    rw [List.getElem_reverse]
    exact (List.getElem?_eq_some_iff.mp hz).2
  have h2 : xs.drop (xs.length - 1 - i) = z :: xs.drop (xs.length - i) := by
    have hl := (List.getElem?_eq_some_iff.mp hz).1
    rw [List.drop_eq_getElem_cons hl, (List.getElem?_eq_some_iff.mp hz).2, show xs.length - 1 - i + 1 = xs.length - i by omega]
  rw [h1, show xs.length - (i + 1) = xs.length - 1 - i by omega, h2]
  rfl
theorem miss_end (ys xs : List Str) : missR ys (xs.reverse.drop xs.length) (xs.drop (xs.length - xs.length)) = [] := by
  rw [List.drop_of_length_le (by rw [List.length_reverse]; exact Nat.le_refl _)]
  rfl
theorem left_step {old new : List Str} {i : Nat} {z : Str} (hz : new[i]? = some z) :
    leftS old (new.take i) (new.drop i) = (if (new.take (i + 1)).count z > old.count z then [z] else []) ++ leftS old (new.take (i + 1)) (new.drop (i + 1)) := by
  have hl := (List.getElem?_eq_some_iff.mp hz).1
  have h1 : new.drop i = z :: new.drop (i + 1) := by rw [List.drop_eq_getElem_cons hl, (List.getElem?_eq_some_iff.mp hz).2]
  have h2 : new.take (i + 1) = new.take i ++ [z] := by rw [List.take_add_one, hz]; rfl
  rw [h1, h2]
  conv => lhs; unfold leftS
  split <;> rfl
theorem left_end (old new : List Str) : leftS old (new.take new.length) (new.drop new.length) = [] := by
  rw [List.drop_length]
  rfl
end Mine
end
section
set_option autoImplicit false
set_option maxRecDepth 100000
namespace Mine
open PySem PySem.W PyProof.Rows
theorem foldL_lenT (w : Nat) : ∀ (n : Nat) (l : List Nat), (foldL w n l).length ≤ n + 1
  | 0, _ => Nat.le_refl _
  | n + 1, l => by
    unfold foldL
    split
    · have := foldL_lenT w n (l.drop (w - 1))
      simp only [List.length_cons]
      omega
    · simp
theorem foldL_row {w : Nat} (hw : 2 ≤ w) : ∀ (n : Nat) (l : List Nat) (r : List Nat), r ∈ foldL w n l → r.length ≤ w + l.length
  | 0, l, r, h => by
    rw [foldL, List.mem_singleton] at h
    subst h
    omega
  | n + 1, l, r, h => by
    unfold foldL at h
    split at h
    · rcases List.mem_cons.mp h with rfl | h
      · simp only [List.length_append, List.length_take, List.length_cons, List.length_nil]
        omega
      · have := foldL_row hw n _ r h
        simp only [List.length_drop] at this
        omega
    · rw [List.mem_singleton] at h
      subst h
      omega
theorem missR_len {α : Type} [DecidableEq α] (new : List α) : ∀ (rv suf : List α), (missR new rv suf).length ≤ rv.length
  | [], _ => Nat.le_refl _
  | y :: r, suf => by
    have := missR_len new r (y :: suf)
    unfold missR
    rw [List.length_append]
    split <;> simp only [List.length_cons, List.length_nil] <;> omega
theorem jn_len {c k : Nat} : ∀ {rows : List (List Nat)}, (∀ r ∈ rows, r.length ≤ k) → (jn c rows).length ≤ rows.length * (k + 1)
  | [], _ => Nat.zero_le _
  | [x], h => by
    have := h x List.mem_cons_self
    simp only [jn, List.length_cons, List.length_nil]
    omega
  | x :: y :: r, h => by
    have h1 := h x List.mem_cons_self
    have h2 := jn_len (c := c) (rows := y :: r) (fun z hz => h z (List.mem_cons_of_mem _ hz))
    simp only [jn, List.length_append, List.length_cons] at h2 ⊢
    have : (r.length + 1 + 1) * (k + 1) = (r.length + 1) * (k + 1) + (k + 1) := Nat.succ_mul _ _
    omega
theorem join_len {k : Nat} {rows : List Str} (h : ∀ r ∈ rows, r.length ≤ k) : (Str.join (tx [10]) rows).length ≤ rows.length * (k + 1) := by
  rw [len_cp, cp_join]
  have := jn_len (c := 10) (rows := rows.map cp) (k := k) (by
    intro r hr
    obtain ⟨x, hx, rfl⟩ := List.mem_map.mp hr
    rw [← len_cp]
    exact h x hx)
  rwa [List.length_map] at this
theorem join_ne {rows : List Str} (h0 : rows ≠ []) (h : ∀ r ∈ rows, r.length ≠ 0) : (Str.join (tx [10]) rows).length ≠ 0 := by
  rw [len_cp, cp_join]
  intro e
  refine jn_ne (c := 10) (rows := rows.map cp) (by simpa using h0) ?_ (List.length_eq_zero_iff.mp e)
  intro r hr
  obtain ⟨x, hx, rfl⟩ := List.mem_map.mp hr
  intro e2
  exact h x hx (by rw [len_cp, e2]; rfl)
end Mine
end
section
set_option autoImplicit false
set_option maxRecDepth 100000
namespace Mine
open PySem PySem.W PyProof.Rows PySem.Calls
theorem row_ok {x : Str} (h : Row Safe (cp x)) : PyData.strOk x = true := by
  unfold PyData.strOk
  rw [Array.all_eq_true']
  intro c hc
  rcases row_se h c (by simpa [cp] using hc) with q | rfl
  · unfold Safe safeL at q
    simp only [List.mem_cons, List.not_mem_nil, or_false] at q
    rcases q with rfl | rfl | rfl | rfl | rfl | rfl | rfl | rfl | rfl | rfl | rfl | rfl | rfl | rfl <;> decide
  · decide
theorem str_canLayAll0 : ∀ xs : List Str, (∀ x ∈ xs, Row Safe (cp x)) → PyData.canLayAll0 (xs.map PyData.str) = true
  | [], _ => rfl
  | x :: r, h => by simp [PyData.canLayAll0, PyData.canLay0, row_ok (h x List.mem_cons_self), str_canLayAll0 r fun y hy => h y (List.mem_cons_of_mem _ hy)]
theorem str_depthAll : ∀ xs : List Str, PyData.depthAll (xs.map PyData.str) = 0
  | [] => rfl
  | _ :: r => by simp [PyData.depthAll, PyData.depth, str_depthAll r]
theorem str_eqvAll : ∀ xs : List Str, PyData.eqvAll (xs.map PyData.str) (xs.map PyData.str) = true
  | [] => by simp [PyData.eqvAll]
  | x :: r => by simp [PyData.eqvAll, PyData.eqv, str_eqvAll r]
theorem str_carried : ∀ {vs : List Value} {xs : List Str}, StrsAre vs xs → CarriedAll vs (xs.map PyData.str)
  | _, _, .nil => .nil
  | _, _, .cons _ t r => .cons (.str _ t) (str_carried r)
structure TwoT (h : Heap) (D : Addr) (xs ys : List Str) : Prop where
  go : ∃ r l us vs n, h.get? D = some { cls := .type "tuple", data := .seq #[.ref r, .ref l] n } ∧ h.IsList r us ∧ h.IsList l vs ∧ StrsAre us.toList xs ∧ StrsAre vs.toList ys
section
variable {prog : Program} {w : World} {A : Around} {E : Value → Shared → Prop} {s : Shared} {a b : Addr} {xs ys : List Str} {Q : Value → Shared → Prop}
theorem TwoT.reads {h : Heap} (T : TwoT h a xs ys) : ∃ as, Reads h (.ref a) (.tuple [.list (xs.map PyData.str), .list (ys.map PyData.str)]) as := by
  obtain ⟨r, l, us, vs, n, hD, hr, hl, hx, hy⟩ := T.go
  exact ⟨_, reads_tuple_at hD rfl rfl (.cons (reads_newData (ys := us.toList) (by simpa using hr) (str_carried hx)) (.cons (reads_newData (ys := vs.toList) (by simpa using hl) (str_carried hy)) .nil))⟩
theorem two_shaped {xs ys : List Str} (hx : ∀ x ∈ xs, Row Safe (cp x)) (hy : ∀ x ∈ ys, Row Safe (cp x)) : SeqAt.shaped (.tuple [.list (xs.map PyData.str), .list (ys.map PyData.str)]) = true := by
  simp [SeqAt.shaped, PyData.canLay0, PyData.depth, PyData.canLayAll0, PyData.depthAll, str_canLayAll0 _ hx, str_canLayAll0 _ hy, str_depthAll]
theorem ne_two (Ta : TwoT s.heap a xs ys) (Tb : TwoT s.heap b xs ys) (hx : ∀ x ∈ xs, Row Safe (cp x)) (hy : ∀ x ∈ ys, Row Safe (cp x)) (hu : A.units + 64 < cLine) (h : Q (.bool false) s) :
    wpAny (model prog w) A (compareOp .NotEq (.ref a) (.ref b)) Q E s := by
  obtain ⟨as, ra⟩ := Ta.reads
  obtain ⟨bs, rb⟩ := Tb.reads
  refine ne_dataH ra rb (two_shaped hx hy) (two_shaped hx hy) hu ?_
  have e : PyData.eqv (.tuple [.list (xs.map PyData.str), .list (ys.map PyData.str)]) (.tuple [.list (xs.map PyData.str), .list (ys.map PyData.str)]) = true := by
    simp [PyData.eqv, PyData.eqvAll, str_eqvAll]
  rw [e]
  exact h
end
end Mine
end
section
set_option maxRecDepth 100000
set_option maxHeartbeats 0
set_option Elab.async false
set_option linter.unusedVariables false
namespace Mine
open PySem PySem.W
abbrev P0 : Program := PySem.Challenge.pw_oc0163_01
noncomputable def stm (i : Nat) : Stmt := (P0.main.body[i]?).getD (.Pass default)
noncomputable def env0 : Env := { scope := P0.main.scope, locals := mainNs, globals := mainNs, cells := [], code := .ref 13, frame := some 14 }
noncomputable def fnd (i : Nat) (gl bl : Addr) (dV kV doc pm : Value) (an : Option Addr) (cd ct : Value) : FuncData := match stm i with
  | .FunctionDef name params body _ _ _ scope _ _ _ => { name := name, qualname := name, params := params, body := .stmts body, scope := scope, globals := gl, closure := [], defaults := dV, kwdefaults := kV, doc := doc, pyModule := pm, annotations := an, code := cd, closureTuple := ct, builtins := bl }
  | _ => default
noncomputable def hx (k : Nat) : Nat := match Nat.blt k 10 with | true => 48 + k | false => 55 + k
noncomputable def itm (k : Nat) : Value := .str ⟨#[61, hx (k / 16), hx (k % 16)]⟩ (197 + 4 * k)
noncomputable def ch (a : Array Nat) (t : Nat) : Value := .str ⟨a⟩ t
noncomputable def ob0_e9 (P : Params) : List DictEntry := [⟨PyData.keyHash P (Str.mk #[67, 111, 110, 110, 101, 99, 116, 105, 111, 110, 82, 101, 115, 101, 116, 69, 114, 114, 111, 114]), (.str (Str.mk #[67, 111, 110, 110, 101, 99, 116, 105, 111, 110, 82, 101, 115, 101, 116, 69, 114, 114, 111, 114]) 145), (.type "ConnectionResetError")⟩, ⟨PyData.keyHash P (Str.mk #[84, 97, 98, 69, 114, 114, 111, 114]), (.str (Str.mk #[84, 97, 98, 69, 114, 114, 111, 114]) 146), (.type "TabError")⟩, ⟨PyData.keyHash P (Str.mk #[85, 110, 105, 99, 111, 100, 101, 68, 101, 99, 111, 100, 101, 69, 114, 114, 111, 114]), (.str (Str.mk #[85, 110, 105, 99, 111, 100, 101, 68, 101, 99, 111, 100, 101, 69, 114, 114, 111, 114]) 147), (.type "UnicodeDecodeError")⟩, ⟨PyData.keyHash P (Str.mk #[85, 110, 105, 99, 111, 100, 101, 69, 110, 99, 111, 100, 101, 69, 114, 114, 111, 114]), (.str (Str.mk #[85, 110, 105, 99, 111, 100, 101, 69, 110, 99, 111, 100, 101, 69, 114, 114, 111, 114]) 148), (.type "UnicodeEncodeError")⟩, ⟨PyData.keyHash P (Str.mk #[85, 110, 105, 99, 111, 100, 101, 84, 114, 97, 110, 115, 108, 97, 116, 101, 69, 114, 114, 111, 114]), (.str (Str.mk #[85, 110, 105, 99, 111, 100, 101, 84, 114, 97, 110, 115, 108, 97, 116, 101, 69, 114, 114, 111, 114]) 149), (.type "UnicodeTranslateError")⟩, ⟨PyData.keyHash P (Str.mk #[69, 120, 99, 101, 112, 116, 105, 111, 110, 71, 114, 111, 117, 112]), (.str (Str.mk #[69, 120, 99, 101, 112, 116, 105, 111, 110, 71, 114, 111, 117, 112]) 150), (.type "ExceptionGroup")⟩, ⟨PyData.keyHash P (Str.mk #[69, 110, 118, 105, 114, 111, 110, 109, 101, 110, 116, 69, 114, 114, 111, 114]), (.str (Str.mk #[69, 110, 118, 105, 114, 111, 110, 109, 101, 110, 116, 69, 114, 114, 111, 114]) 151), (.type "OSError")⟩, ⟨PyData.keyHash P (Str.mk #[73, 79, 69, 114, 114, 111, 114]), (.str (Str.mk #[73, 79, 69, 114, 114, 111, 114]) 152), (.type "OSError")⟩, ⟨PyData.keyHash P (Str.mk #[111, 112, 101, 110]), (.str (Str.mk #[111, 112, 101, 110]) 153), (.builtin "open")⟩, ⟨PyData.keyHash P (Str.mk #[113, 117, 105, 116]), (.str (Str.mk #[113, 117, 105, 116]) 154), (.builtin "builtins.quit#opaque")⟩, ⟨PyData.keyHash P (Str.mk #[101, 120, 105, 116]), (.str (Str.mk #[101, 120, 105, 116]) 155), (.builtin "builtins.exit#opaque")⟩, ⟨PyData.keyHash P (Str.mk #[99, 111, 112, 121, 114, 105, 103, 104, 116]), (.str (Str.mk #[99, 111, 112, 121, 114, 105, 103, 104, 116]) 156), (.builtin "builtins.copyright#opaque")⟩, ⟨PyData.keyHash P (Str.mk #[99, 114, 101, 100, 105, 116, 115]), (.str (Str.mk #[99, 114, 101, 100, 105, 116, 115]) 157), (.builtin "builtins.credits#opaque")⟩, ⟨PyData.keyHash P (Str.mk #[108, 105, 99, 101, 110, 115, 101]), (.str (Str.mk #[108, 105, 99, 101, 110, 115, 101]) 158), (.builtin "builtins.license#opaque")⟩, ⟨PyData.keyHash P (Str.mk #[104, 101, 108, 112]), (.str (Str.mk #[104, 101, 108, 112]) 159), (.builtin "builtins.help#opaque")⟩]
noncomputable def ob0_e8 (P : Params) : List DictEntry := ⟨PyData.keyHash P (Str.mk #[80, 101, 114, 109, 105, 115, 115, 105, 111, 110, 69, 114, 114, 111, 114]), (.str (Str.mk #[80, 101, 114, 109, 105, 115, 115, 105, 111, 110, 69, 114, 114, 111, 114]) 129), (.type "PermissionError")⟩ :: ⟨PyData.keyHash P (Str.mk #[80, 114, 111, 99, 101, 115, 115, 76, 111, 111, 107, 117, 112, 69, 114, 114, 111, 114]), (.str (Str.mk #[80, 114, 111, 99, 101, 115, 115, 76, 111, 111, 107, 117, 112, 69, 114, 114, 111, 114]) 130), (.type "ProcessLookupError")⟩ :: ⟨PyData.keyHash P (Str.mk #[84, 105, 109, 101, 111, 117, 116, 69, 114, 114, 111, 114]), (.str (Str.mk #[84, 105, 109, 101, 111, 117, 116, 69, 114, 114, 111, 114]) 131), (.type "TimeoutError")⟩ :: ⟨PyData.keyHash P (Str.mk #[73, 110, 100, 101, 110, 116, 97, 116, 105, 111, 110, 69, 114, 114, 111, 114]), (.str (Str.mk #[73, 110, 100, 101, 110, 116, 97, 116, 105, 111, 110, 69, 114, 114, 111, 114]) 132), (.type "IndentationError")⟩ :: ⟨PyData.keyHash P (Str.mk #[95, 73, 110, 99, 111, 109, 112, 108, 101, 116, 101, 73, 110, 112, 117, 116, 69, 114, 114, 111, 114]), (.str (Str.mk #[95, 73, 110, 99, 111, 109, 112, 108, 101, 116, 101, 73, 110, 112, 117, 116, 69, 114, 114, 111, 114]) 133), (.type "_IncompleteInputError")⟩ :: ⟨PyData.keyHash P (Str.mk #[73, 110, 100, 101, 120, 69, 114, 114, 111, 114]), (.str (Str.mk #[73, 110, 100, 101, 120, 69, 114, 114, 111, 114]) 134), (.type "IndexError")⟩ :: ⟨PyData.keyHash P (Str.mk #[75, 101, 121, 69, 114, 114, 111, 114]), (.str (Str.mk #[75, 101, 121, 69, 114, 114, 111, 114]) 135), (.type "KeyError")⟩ :: ⟨PyData.keyHash P (Str.mk #[77, 111, 100, 117, 108, 101, 78, 111, 116, 70, 111, 117, 110, 100, 69, 114, 114, 111, 114]), (.str (Str.mk #[77, 111, 100, 117, 108, 101, 78, 111, 116, 70, 111, 117, 110, 100, 69, 114, 114, 111, 114]) 136), (.type "ModuleNotFoundError")⟩ :: ⟨PyData.keyHash P (Str.mk #[78, 111, 116, 73, 109, 112, 108, 101, 109, 101, 110, 116, 101, 100, 69, 114, 114, 111, 114]), (.str (Str.mk #[78, 111, 116, 73, 109, 112, 108, 101, 109, 101, 110, 116, 101, 100, 69, 114, 114, 111, 114]) 137), (.type "NotImplementedError")⟩ :: ⟨PyData.keyHash P (Str.mk #[80, 121, 116, 104, 111, 110, 70, 105, 110, 97, 108, 105, 122, 97, 116, 105, 111, 110, 69, 114, 114, 111, 114]), (.str (Str.mk #[80, 121, 116, 104, 111, 110, 70, 105, 110, 97, 108, 105, 122, 97, 116, 105, 111, 110, 69, 114, 114, 111, 114]) 138), (.type "PythonFinalizationError")⟩ :: ⟨PyData.keyHash P (Str.mk #[82, 101, 99, 117, 114, 115, 105, 111, 110, 69, 114, 114, 111, 114]), (.str (Str.mk #[82, 101, 99, 117, 114, 115, 105, 111, 110, 69, 114, 114, 111, 114]) 139), (.type "RecursionError")⟩ :: ⟨PyData.keyHash P (Str.mk #[85, 110, 98, 111, 117, 110, 100, 76, 111, 99, 97, 108, 69, 114, 114, 111, 114]), (.str (Str.mk #[85, 110, 98, 111, 117, 110, 100, 76, 111, 99, 97, 108, 69, 114, 114, 111, 114]) 140), (.type "UnboundLocalError")⟩ :: ⟨PyData.keyHash P (Str.mk #[85, 110, 105, 99, 111, 100, 101, 69, 114, 114, 111, 114]), (.str (Str.mk #[85, 110, 105, 99, 111, 100, 101, 69, 114, 114, 111, 114]) 141), (.type "UnicodeError")⟩ :: ⟨PyData.keyHash P (Str.mk #[66, 114, 111, 107, 101, 110, 80, 105, 112, 101, 69, 114, 114, 111, 114]), (.str (Str.mk #[66, 114, 111, 107, 101, 110, 80, 105, 112, 101, 69, 114, 114, 111, 114]) 142), (.type "BrokenPipeError")⟩ :: ⟨PyData.keyHash P (Str.mk #[67, 111, 110, 110, 101, 99, 116, 105, 111, 110, 65, 98, 111, 114, 116, 101, 100, 69, 114, 114, 111, 114]), (.str (Str.mk #[67, 111, 110, 110, 101, 99, 116, 105, 111, 110, 65, 98, 111, 114, 116, 101, 100, 69, 114, 114, 111, 114]) 143), (.type "ConnectionAbortedError")⟩ :: ⟨PyData.keyHash P (Str.mk #[67, 111, 110, 110, 101, 99, 116, 105, 111, 110, 82, 101, 102, 117, 115, 101, 100, 69, 114, 114, 111, 114]), (.str (Str.mk #[67, 111, 110, 110, 101, 99, 116, 105, 111, 110, 82, 101, 102, 117, 115, 101, 100, 69, 114, 114, 111, 114]) 144), (.type "ConnectionRefusedError")⟩ :: ob0_e9 P
noncomputable def ob0_e7 (P : Params) : List DictEntry := ⟨PyData.keyHash P (Str.mk #[70, 117, 116, 117, 114, 101, 87, 97, 114, 110, 105, 110, 103]), (.str (Str.mk #[70, 117, 116, 117, 114, 101, 87, 97, 114, 110, 105, 110, 103]) 113), (.type "FutureWarning")⟩ :: ⟨PyData.keyHash P (Str.mk #[73, 109, 112, 111, 114, 116, 87, 97, 114, 110, 105, 110, 103]), (.str (Str.mk #[73, 109, 112, 111, 114, 116, 87, 97, 114, 110, 105, 110, 103]) 114), (.type "ImportWarning")⟩ :: ⟨PyData.keyHash P (Str.mk #[80, 101, 110, 100, 105, 110, 103, 68, 101, 112, 114, 101, 99, 97, 116, 105, 111, 110, 87, 97, 114, 110, 105, 110, 103]), (.str (Str.mk #[80, 101, 110, 100, 105, 110, 103, 68, 101, 112, 114, 101, 99, 97, 116, 105, 111, 110, 87, 97, 114, 110, 105, 110, 103]) 115), (.type "PendingDeprecationWarning")⟩ :: ⟨PyData.keyHash P (Str.mk #[82, 101, 115, 111, 117, 114, 99, 101, 87, 97, 114, 110, 105, 110, 103]), (.str (Str.mk #[82, 101, 115, 111, 117, 114, 99, 101, 87, 97, 114, 110, 105, 110, 103]) 116), (.type "ResourceWarning")⟩ :: ⟨PyData.keyHash P (Str.mk #[82, 117, 110, 116, 105, 109, 101, 87, 97, 114, 110, 105, 110, 103]), (.str (Str.mk #[82, 117, 110, 116, 105, 109, 101, 87, 97, 114, 110, 105, 110, 103]) 117), (.type "RuntimeWarning")⟩ :: ⟨PyData.keyHash P (Str.mk #[83, 121, 110, 116, 97, 120, 87, 97, 114, 110, 105, 110, 103]), (.str (Str.mk #[83, 121, 110, 116, 97, 120, 87, 97, 114, 110, 105, 110, 103]) 118), (.type "SyntaxWarning")⟩ :: ⟨PyData.keyHash P (Str.mk #[85, 110, 105, 99, 111, 100, 101, 87, 97, 114, 110, 105, 110, 103]), (.str (Str.mk #[85, 110, 105, 99, 111, 100, 101, 87, 97, 114, 110, 105, 110, 103]) 119), (.type "UnicodeWarning")⟩ :: ⟨PyData.keyHash P (Str.mk #[85, 115, 101, 114, 87, 97, 114, 110, 105, 110, 103]), (.str (Str.mk #[85, 115, 101, 114, 87, 97, 114, 110, 105, 110, 103]) 120), (.type "UserWarning")⟩ :: ⟨PyData.keyHash P (Str.mk #[66, 108, 111, 99, 107, 105, 110, 103, 73, 79, 69, 114, 114, 111, 114]), (.str (Str.mk #[66, 108, 111, 99, 107, 105, 110, 103, 73, 79, 69, 114, 114, 111, 114]) 121), (.type "BlockingIOError")⟩ :: ⟨PyData.keyHash P (Str.mk #[67, 104, 105, 108, 100, 80, 114, 111, 99, 101, 115, 115, 69, 114, 114, 111, 114]), (.str (Str.mk #[67, 104, 105, 108, 100, 80, 114, 111, 99, 101, 115, 115, 69, 114, 114, 111, 114]) 122), (.type "ChildProcessError")⟩ :: ⟨PyData.keyHash P (Str.mk #[67, 111, 110, 110, 101, 99, 116, 105, 111, 110, 69, 114, 114, 111, 114]), (.str (Str.mk #[67, 111, 110, 110, 101, 99, 116, 105, 111, 110, 69, 114, 114, 111, 114]) 123), (.type "ConnectionError")⟩ :: ⟨PyData.keyHash P (Str.mk #[70, 105, 108, 101, 69, 120, 105, 115, 116, 115, 69, 114, 114, 111, 114]), (.str (Str.mk #[70, 105, 108, 101, 69, 120, 105, 115, 116, 115, 69, 114, 114, 111, 114]) 124), (.type "FileExistsError")⟩ :: ⟨PyData.keyHash P (Str.mk #[70, 105, 108, 101, 78, 111, 116, 70, 111, 117, 110, 100, 69, 114, 114, 111, 114]), (.str (Str.mk #[70, 105, 108, 101, 78, 111, 116, 70, 111, 117, 110, 100, 69, 114, 114, 111, 114]) 125), (.type "FileNotFoundError")⟩ :: ⟨PyData.keyHash P (Str.mk #[73, 110, 116, 101, 114, 114, 117, 112, 116, 101, 100, 69, 114, 114, 111, 114]), (.str (Str.mk #[73, 110, 116, 101, 114, 114, 117, 112, 116, 101, 100, 69, 114, 114, 111, 114]) 126), (.type "InterruptedError")⟩ :: ⟨PyData.keyHash P (Str.mk #[73, 115, 65, 68, 105, 114, 101, 99, 116, 111, 114, 121, 69, 114, 114, 111, 114]), (.str (Str.mk #[73, 115, 65, 68, 105, 114, 101, 99, 116, 111, 114, 121, 69, 114, 114, 111, 114]) 127), (.type "IsADirectoryError")⟩ :: ⟨PyData.keyHash P (Str.mk #[78, 111, 116, 65, 68, 105, 114, 101, 99, 116, 111, 114, 121, 69, 114, 114, 111, 114]), (.str (Str.mk #[78, 111, 116, 65, 68, 105, 114, 101, 99, 116, 111, 114, 121, 69, 114, 114, 111, 114]) 128), (.type "NotADirectoryError")⟩ :: ob0_e8 P
noncomputable def ob0_e6 (P : Params) : List DictEntry := ⟨PyData.keyHash P (Str.mk #[79, 83, 69, 114, 114, 111, 114]), (.str (Str.mk #[79, 83, 69, 114, 114, 111, 114]) 97), (.type "OSError")⟩ :: ⟨PyData.keyHash P (Str.mk #[82, 101, 102, 101, 114, 101, 110, 99, 101, 69, 114, 114, 111, 114]), (.str (Str.mk #[82, 101, 102, 101, 114, 101, 110, 99, 101, 69, 114, 114, 111, 114]) 98), (.type "ReferenceError")⟩ :: ⟨PyData.keyHash P (Str.mk #[82, 117, 110, 116, 105, 109, 101, 69, 114, 114, 111, 114]), (.str (Str.mk #[82, 117, 110, 116, 105, 109, 101, 69, 114, 114, 111, 114]) 99), (.type "RuntimeError")⟩ :: ⟨PyData.keyHash P (Str.mk #[83, 116, 111, 112, 65, 115, 121, 110, 99, 73, 116, 101, 114, 97, 116, 105, 111, 110]), (.str (Str.mk #[83, 116, 111, 112, 65, 115, 121, 110, 99, 73, 116, 101, 114, 97, 116, 105, 111, 110]) 100), (.type "StopAsyncIteration")⟩ :: ⟨PyData.keyHash P (Str.mk #[83, 116, 111, 112, 73, 116, 101, 114, 97, 116, 105, 111, 110]), (.str (Str.mk #[83, 116, 111, 112, 73, 116, 101, 114, 97, 116, 105, 111, 110]) 101), (.type "StopIteration")⟩ :: ⟨PyData.keyHash P (Str.mk #[83, 121, 110, 116, 97, 120, 69, 114, 114, 111, 114]), (.str (Str.mk #[83, 121, 110, 116, 97, 120, 69, 114, 114, 111, 114]) 102), (.type "SyntaxError")⟩ :: ⟨PyData.keyHash P (Str.mk #[83, 121, 115, 116, 101, 109, 69, 114, 114, 111, 114]), (.str (Str.mk #[83, 121, 115, 116, 101, 109, 69, 114, 114, 111, 114]) 103), (.type "SystemError")⟩ :: ⟨PyData.keyHash P (Str.mk #[84, 121, 112, 101, 69, 114, 114, 111, 114]), (.str (Str.mk #[84, 121, 112, 101, 69, 114, 114, 111, 114]) 104), (.type "TypeError")⟩ :: ⟨PyData.keyHash P (Str.mk #[86, 97, 108, 117, 101, 69, 114, 114, 111, 114]), (.str (Str.mk #[86, 97, 108, 117, 101, 69, 114, 114, 111, 114]) 105), (.type "ValueError")⟩ :: ⟨PyData.keyHash P (Str.mk #[87, 97, 114, 110, 105, 110, 103]), (.str (Str.mk #[87, 97, 114, 110, 105, 110, 103]) 106), (.type "Warning")⟩ :: ⟨PyData.keyHash P (Str.mk #[70, 108, 111, 97, 116, 105, 110, 103, 80, 111, 105, 110, 116, 69, 114, 114, 111, 114]), (.str (Str.mk #[70, 108, 111, 97, 116, 105, 110, 103, 80, 111, 105, 110, 116, 69, 114, 114, 111, 114]) 107), (.type "FloatingPointError")⟩ :: ⟨PyData.keyHash P (Str.mk #[79, 118, 101, 114, 102, 108, 111, 119, 69, 114, 114, 111, 114]), (.str (Str.mk #[79, 118, 101, 114, 102, 108, 111, 119, 69, 114, 114, 111, 114]) 108), (.type "OverflowError")⟩ :: ⟨PyData.keyHash P (Str.mk #[90, 101, 114, 111, 68, 105, 118, 105, 115, 105, 111, 110, 69, 114, 114, 111, 114]), (.str (Str.mk #[90, 101, 114, 111, 68, 105, 118, 105, 115, 105, 111, 110, 69, 114, 114, 111, 114]) 109), (.type "ZeroDivisionError")⟩ :: ⟨PyData.keyHash P (Str.mk #[66, 121, 116, 101, 115, 87, 97, 114, 110, 105, 110, 103]), (.str (Str.mk #[66, 121, 116, 101, 115, 87, 97, 114, 110, 105, 110, 103]) 110), (.type "BytesWarning")⟩ :: ⟨PyData.keyHash P (Str.mk #[68, 101, 112, 114, 101, 99, 97, 116, 105, 111, 110, 87, 97, 114, 110, 105, 110, 103]), (.str (Str.mk #[68, 101, 112, 114, 101, 99, 97, 116, 105, 111, 110, 87, 97, 114, 110, 105, 110, 103]) 111), (.type "DeprecationWarning")⟩ :: ⟨PyData.keyHash P (Str.mk #[69, 110, 99, 111, 100, 105, 110, 103, 87, 97, 114, 110, 105, 110, 103]), (.str (Str.mk #[69, 110, 99, 111, 100, 105, 110, 103, 87, 97, 114, 110, 105, 110, 103]) 112), (.type "EncodingWarning")⟩ :: ob0_e7 P
noncomputable def ob0_e5 (P : Params) : List DictEntry := ⟨PyData.keyHash P (Str.mk #[95, 95, 100, 101, 98, 117, 103, 95, 95]), (.str (Str.mk #[95, 95, 100, 101, 98, 117, 103, 95, 95]) 81), (.bool true)⟩ :: ⟨PyData.keyHash P (Str.mk #[66, 97, 115, 101, 69, 120, 99, 101, 112, 116, 105, 111, 110]), (.str (Str.mk #[66, 97, 115, 101, 69, 120, 99, 101, 112, 116, 105, 111, 110]) 82), (.type "BaseException")⟩ :: ⟨PyData.keyHash P (Str.mk #[66, 97, 115, 101, 69, 120, 99, 101, 112, 116, 105, 111, 110, 71, 114, 111, 117, 112]), (.str (Str.mk #[66, 97, 115, 101, 69, 120, 99, 101, 112, 116, 105, 111, 110, 71, 114, 111, 117, 112]) 83), (.type "BaseExceptionGroup")⟩ :: ⟨PyData.keyHash P (Str.mk #[69, 120, 99, 101, 112, 116, 105, 111, 110]), (.str (Str.mk #[69, 120, 99, 101, 112, 116, 105, 111, 110]) 84), (.type "Exception")⟩ :: ⟨PyData.keyHash P (Str.mk #[71, 101, 110, 101, 114, 97, 116, 111, 114, 69, 120, 105, 116]), (.str (Str.mk #[71, 101, 110, 101, 114, 97, 116, 111, 114, 69, 120, 105, 116]) 85), (.type "GeneratorExit")⟩ :: ⟨PyData.keyHash P (Str.mk #[75, 101, 121, 98, 111, 97, 114, 100, 73, 110, 116, 101, 114, 114, 117, 112, 116]), (.str (Str.mk #[75, 101, 121, 98, 111, 97, 114, 100, 73, 110, 116, 101, 114, 114, 117, 112, 116]) 86), (.type "KeyboardInterrupt")⟩ :: ⟨PyData.keyHash P (Str.mk #[83, 121, 115, 116, 101, 109, 69, 120, 105, 116]), (.str (Str.mk #[83, 121, 115, 116, 101, 109, 69, 120, 105, 116]) 87), (.type "SystemExit")⟩ :: ⟨PyData.keyHash P (Str.mk #[65, 114, 105, 116, 104, 109, 101, 116, 105, 99, 69, 114, 114, 111, 114]), (.str (Str.mk #[65, 114, 105, 116, 104, 109, 101, 116, 105, 99, 69, 114, 114, 111, 114]) 88), (.type "ArithmeticError")⟩ :: ⟨PyData.keyHash P (Str.mk #[65, 115, 115, 101, 114, 116, 105, 111, 110, 69, 114, 114, 111, 114]), (.str (Str.mk #[65, 115, 115, 101, 114, 116, 105, 111, 110, 69, 114, 114, 111, 114]) 89), (.type "AssertionError")⟩ :: ⟨PyData.keyHash P (Str.mk #[65, 116, 116, 114, 105, 98, 117, 116, 101, 69, 114, 114, 111, 114]), (.str (Str.mk #[65, 116, 116, 114, 105, 98, 117, 116, 101, 69, 114, 114, 111, 114]) 90), (.type "AttributeError")⟩ :: ⟨PyData.keyHash P (Str.mk #[66, 117, 102, 102, 101, 114, 69, 114, 114, 111, 114]), (.str (Str.mk #[66, 117, 102, 102, 101, 114, 69, 114, 114, 111, 114]) 91), (.type "BufferError")⟩ :: ⟨PyData.keyHash P (Str.mk #[69, 79, 70, 69, 114, 114, 111, 114]), (.str (Str.mk #[69, 79, 70, 69, 114, 114, 111, 114]) 92), (.type "EOFError")⟩ :: ⟨PyData.keyHash P (Str.mk #[73, 109, 112, 111, 114, 116, 69, 114, 114, 111, 114]), (.str (Str.mk #[73, 109, 112, 111, 114, 116, 69, 114, 114, 111, 114]) 93), (.type "ImportError")⟩ :: ⟨PyData.keyHash P (Str.mk #[76, 111, 111, 107, 117, 112, 69, 114, 114, 111, 114]), (.str (Str.mk #[76, 111, 111, 107, 117, 112, 69, 114, 114, 111, 114]) 94), (.type "LookupError")⟩ :: ⟨PyData.keyHash P (Str.mk #[77, 101, 109, 111, 114, 121, 69, 114, 114, 111, 114]), (.str (Str.mk #[77, 101, 109, 111, 114, 121, 69, 114, 114, 111, 114]) 95), (.type "MemoryError")⟩ :: ⟨PyData.keyHash P (Str.mk #[78, 97, 109, 101, 69, 114, 114, 111, 114]), (.str (Str.mk #[78, 97, 109, 101, 69, 114, 114, 111, 114]) 96), (.type "NameError")⟩ :: ob0_e6 P
noncomputable def ob0_e4 (P : Params) : List DictEntry := ⟨PyData.keyHash P (Str.mk #[102, 114, 111, 122, 101, 110, 115, 101, 116]), (.str (Str.mk #[102, 114, 111, 122, 101, 110, 115, 101, 116]) 65), (.type "frozenset")⟩ :: ⟨PyData.keyHash P (Str.mk #[112, 114, 111, 112, 101, 114, 116, 121]), (.str (Str.mk #[112, 114, 111, 112, 101, 114, 116, 121]) 66), (.type "property")⟩ :: ⟨PyData.keyHash P (Str.mk #[105, 110, 116]), (.str (Str.mk #[105, 110, 116]) 67), (.type "int")⟩ :: ⟨PyData.keyHash P (Str.mk #[108, 105, 115, 116]), (.str (Str.mk #[108, 105, 115, 116]) 68), (.type "list")⟩ :: ⟨PyData.keyHash P (Str.mk #[109, 97, 112]), (.str (Str.mk #[109, 97, 112]) 69), (.type "map")⟩ :: ⟨PyData.keyHash P (Str.mk #[111, 98, 106, 101, 99, 116]), (.str (Str.mk #[111, 98, 106, 101, 99, 116]) 70), (.type "object")⟩ :: ⟨PyData.keyHash P (Str.mk #[114, 97, 110, 103, 101]), (.str (Str.mk #[114, 97, 110, 103, 101]) 71), (.type "range")⟩ :: ⟨PyData.keyHash P (Str.mk #[114, 101, 118, 101, 114, 115, 101, 100]), (.str (Str.mk #[114, 101, 118, 101, 114, 115, 101, 100]) 72), (.type "reversed")⟩ :: ⟨PyData.keyHash P (Str.mk #[115, 101, 116]), (.str (Str.mk #[115, 101, 116]) 73), (.type "set")⟩ :: ⟨PyData.keyHash P (Str.mk #[115, 108, 105, 99, 101]), (.str (Str.mk #[115, 108, 105, 99, 101]) 74), (.type "slice")⟩ :: ⟨PyData.keyHash P (Str.mk #[115, 116, 97, 116, 105, 99, 109, 101, 116, 104, 111, 100]), (.str (Str.mk #[115, 116, 97, 116, 105, 99, 109, 101, 116, 104, 111, 100]) 75), (.type "staticmethod")⟩ :: ⟨PyData.keyHash P (Str.mk #[115, 116, 114]), (.str (Str.mk #[115, 116, 114]) 76), (.type "str")⟩ :: ⟨PyData.keyHash P (Str.mk #[115, 117, 112, 101, 114]), (.str (Str.mk #[115, 117, 112, 101, 114]) 77), (.type "super")⟩ :: ⟨PyData.keyHash P (Str.mk #[116, 117, 112, 108, 101]), (.str (Str.mk #[116, 117, 112, 108, 101]) 78), (.type "tuple")⟩ :: ⟨PyData.keyHash P (Str.mk #[116, 121, 112, 101]), (.str (Str.mk #[116, 121, 112, 101]) 79), (.type "type")⟩ :: ⟨PyData.keyHash P (Str.mk #[122, 105, 112]), (.str (Str.mk #[122, 105, 112]) 80), (.type "zip")⟩ :: ob0_e5 P
noncomputable def ob0_e3 (P : Params) : List DictEntry := ⟨PyData.keyHash P (Str.mk #[118, 97, 114, 115]), (.str (Str.mk #[118, 97, 114, 115]) 49), (.builtin "vars")⟩ :: ⟨PyData.keyHash P (Str.mk #[78, 111, 110, 101]), (.str (Str.mk #[78, 111, 110, 101]) 50), .none⟩ :: ⟨PyData.keyHash P (Str.mk #[69, 108, 108, 105, 112, 115, 105, 115]), (.str (Str.mk #[69, 108, 108, 105, 112, 115, 105, 115]) 51), .ellipsis⟩ :: ⟨PyData.keyHash P (Str.mk #[78, 111, 116, 73, 109, 112, 108, 101, 109, 101, 110, 116, 101, 100]), (.str (Str.mk #[78, 111, 116, 73, 109, 112, 108, 101, 109, 101, 110, 116, 101, 100]) 52), .notImplemented⟩ :: ⟨PyData.keyHash P (Str.mk #[70, 97, 108, 115, 101]), (.str (Str.mk #[70, 97, 108, 115, 101]) 53), (.bool false)⟩ :: ⟨PyData.keyHash P (Str.mk #[84, 114, 117, 101]), (.str (Str.mk #[84, 114, 117, 101]) 54), (.bool true)⟩ :: ⟨PyData.keyHash P (Str.mk #[98, 111, 111, 108]), (.str (Str.mk #[98, 111, 111, 108]) 55), (.type "bool")⟩ :: ⟨PyData.keyHash P (Str.mk #[109, 101, 109, 111, 114, 121, 118, 105, 101, 119]), (.str (Str.mk #[109, 101, 109, 111, 114, 121, 118, 105, 101, 119]) 56), (.type "memoryview")⟩ :: ⟨PyData.keyHash P (Str.mk #[98, 121, 116, 101, 97, 114, 114, 97, 121]), (.str (Str.mk #[98, 121, 116, 101, 97, 114, 114, 97, 121]) 57), (.type "bytearray")⟩ :: ⟨PyData.keyHash P (Str.mk #[98, 121, 116, 101, 115]), (.str (Str.mk #[98, 121, 116, 101, 115]) 58), (.type "bytes")⟩ :: ⟨PyData.keyHash P (Str.mk #[99, 108, 97, 115, 115, 109, 101, 116, 104, 111, 100]), (.str (Str.mk #[99, 108, 97, 115, 115, 109, 101, 116, 104, 111, 100]) 59), (.type "classmethod")⟩ :: ⟨PyData.keyHash P (Str.mk #[99, 111, 109, 112, 108, 101, 120]), (.str (Str.mk #[99, 111, 109, 112, 108, 101, 120]) 60), (.type "complex")⟩ :: ⟨PyData.keyHash P (Str.mk #[100, 105, 99, 116]), (.str (Str.mk #[100, 105, 99, 116]) 61), (.type "dict")⟩ :: ⟨PyData.keyHash P (Str.mk #[101, 110, 117, 109, 101, 114, 97, 116, 101]), (.str (Str.mk #[101, 110, 117, 109, 101, 114, 97, 116, 101]) 62), (.type "enumerate")⟩ :: ⟨PyData.keyHash P (Str.mk #[102, 105, 108, 116, 101, 114]), (.str (Str.mk #[102, 105, 108, 116, 101, 114]) 63), (.type "filter")⟩ :: ⟨PyData.keyHash P (Str.mk #[102, 108, 111, 97, 116]), (.str (Str.mk #[102, 108, 111, 97, 116]) 64), (.type "float")⟩ :: ob0_e4 P
noncomputable def ob0_e2 (P : Params) : List DictEntry := ⟨PyData.keyHash P (Str.mk #[97, 105, 116, 101, 114]), (.str (Str.mk #[97, 105, 116, 101, 114]) 33), (.builtin "aiter")⟩ :: ⟨PyData.keyHash P (Str.mk #[108, 101, 110]), (.str (Str.mk #[108, 101, 110]) 34), (.builtin "len")⟩ :: ⟨PyData.keyHash P (Str.mk #[108, 111, 99, 97, 108, 115]), (.str (Str.mk #[108, 111, 99, 97, 108, 115]) 35), (.builtin "locals")⟩ :: ⟨PyData.keyHash P (Str.mk #[109, 97, 120]), (.str (Str.mk #[109, 97, 120]) 36), (.builtin "max")⟩ :: ⟨PyData.keyHash P (Str.mk #[109, 105, 110]), (.str (Str.mk #[109, 105, 110]) 37), (.builtin "min")⟩ :: ⟨PyData.keyHash P (Str.mk #[110, 101, 120, 116]), (.str (Str.mk #[110, 101, 120, 116]) 38), (.builtin "next")⟩ :: ⟨PyData.keyHash P (Str.mk #[97, 110, 101, 120, 116]), (.str (Str.mk #[97, 110, 101, 120, 116]) 39), (.builtin "anext")⟩ :: ⟨PyData.keyHash P (Str.mk #[111, 99, 116]), (.str (Str.mk #[111, 99, 116]) 40), (.builtin "oct")⟩ :: ⟨PyData.keyHash P (Str.mk #[111, 114, 100]), (.str (Str.mk #[111, 114, 100]) 41), (.builtin "ord")⟩ :: ⟨PyData.keyHash P (Str.mk #[112, 111, 119]), (.str (Str.mk #[112, 111, 119]) 42), (.builtin "pow")⟩ :: ⟨PyData.keyHash P (Str.mk #[112, 114, 105, 110, 116]), (.str (Str.mk #[112, 114, 105, 110, 116]) 43), (.builtin "print")⟩ :: ⟨PyData.keyHash P (Str.mk #[114, 101, 112, 114]), (.str (Str.mk #[114, 101, 112, 114]) 44), (.builtin "repr")⟩ :: ⟨PyData.keyHash P (Str.mk #[114, 111, 117, 110, 100]), (.str (Str.mk #[114, 111, 117, 110, 100]) 45), (.builtin "round")⟩ :: ⟨PyData.keyHash P (Str.mk #[115, 101, 116, 97, 116, 116, 114]), (.str (Str.mk #[115, 101, 116, 97, 116, 116, 114]) 46), (.builtin "setattr")⟩ :: ⟨PyData.keyHash P (Str.mk #[115, 111, 114, 116, 101, 100]), (.str (Str.mk #[115, 111, 114, 116, 101, 100]) 47), (.builtin "sorted")⟩ :: ⟨PyData.keyHash P (Str.mk #[115, 117, 109]), (.str (Str.mk #[115, 117, 109]) 48), (.builtin "sum")⟩ :: ob0_e3 P
noncomputable def ob0_e1 (P : Params) : List DictEntry := ⟨PyData.keyHash P (Str.mk #[100, 101, 108, 97, 116, 116, 114]), (.str (Str.mk #[100, 101, 108, 97, 116, 116, 114]) 17), (.builtin "delattr")⟩ :: ⟨PyData.keyHash P (Str.mk #[100, 105, 114]), (.str (Str.mk #[100, 105, 114]) 18), (.builtin "dir")⟩ :: ⟨PyData.keyHash P (Str.mk #[100, 105, 118, 109, 111, 100]), (.str (Str.mk #[100, 105, 118, 109, 111, 100]) 19), (.builtin "divmod")⟩ :: ⟨PyData.keyHash P (Str.mk #[101, 118, 97, 108]), (.str (Str.mk #[101, 118, 97, 108]) 20), (.builtin "eval")⟩ :: ⟨PyData.keyHash P (Str.mk #[101, 120, 101, 99]), (.str (Str.mk #[101, 120, 101, 99]) 21), (.builtin "exec")⟩ :: ⟨PyData.keyHash P (Str.mk #[102, 111, 114, 109, 97, 116]), (.str (Str.mk #[102, 111, 114, 109, 97, 116]) 22), (.builtin "format")⟩ :: ⟨PyData.keyHash P (Str.mk #[103, 101, 116, 97, 116, 116, 114]), (.str (Str.mk #[103, 101, 116, 97, 116, 116, 114]) 23), (.builtin "getattr")⟩ :: ⟨PyData.keyHash P (Str.mk #[103, 108, 111, 98, 97, 108, 115]), (.str (Str.mk #[103, 108, 111, 98, 97, 108, 115]) 24), (.builtin "globals")⟩ :: ⟨PyData.keyHash P (Str.mk #[104, 97, 115, 97, 116, 116, 114]), (.str (Str.mk #[104, 97, 115, 97, 116, 116, 114]) 25), (.builtin "hasattr")⟩ :: ⟨PyData.keyHash P (Str.mk #[104, 97, 115, 104]), (.str (Str.mk #[104, 97, 115, 104]) 26), (.builtin "hash")⟩ :: ⟨PyData.keyHash P (Str.mk #[104, 101, 120]), (.str (Str.mk #[104, 101, 120]) 27), (.builtin "hex")⟩ :: ⟨PyData.keyHash P (Str.mk #[105, 100]), (.str (Str.mk #[105, 100]) 28), (.builtin "id")⟩ :: ⟨PyData.keyHash P (Str.mk #[105, 110, 112, 117, 116]), (.str (Str.mk #[105, 110, 112, 117, 116]) 29), (.builtin "input")⟩ :: ⟨PyData.keyHash P (Str.mk #[105, 115, 105, 110, 115, 116, 97, 110, 99, 101]), (.str (Str.mk #[105, 115, 105, 110, 115, 116, 97, 110, 99, 101]) 30), (.builtin "isinstance")⟩ :: ⟨PyData.keyHash P (Str.mk #[105, 115, 115, 117, 98, 99, 108, 97, 115, 115]), (.str (Str.mk #[105, 115, 115, 117, 98, 99, 108, 97, 115, 115]) 31), (.builtin "issubclass")⟩ :: ⟨PyData.keyHash P (Str.mk #[105, 116, 101, 114]), (.str (Str.mk #[105, 116, 101, 114]) 32), (.builtin "iter")⟩ :: ob0_e2 P
noncomputable def ob0_e0 (P : Params) : List DictEntry := ⟨PyData.keyHash P (Str.mk #[95, 95, 110, 97, 109, 101, 95, 95]), (.str (Str.mk #[95, 95, 110, 97, 109, 101, 95, 95]) 1), (.str (Str.mk #[98, 117, 105, 108, 116, 105, 110, 115]) 160)⟩ :: ⟨PyData.keyHash P (Str.mk #[95, 95, 100, 111, 99, 95, 95]), (.str (Str.mk #[95, 95, 100, 111, 99, 95, 95]) 2), (.builtin "builtins.__doc__:str#opaque")⟩ :: ⟨PyData.keyHash P (Str.mk #[95, 95, 112, 97, 99, 107, 97, 103, 101, 95, 95]), (.str (Str.mk #[95, 95, 112, 97, 99, 107, 97, 103, 101, 95, 95]) 3), (.builtin "builtins.__package__:str#opaque")⟩ :: ⟨PyData.keyHash P (Str.mk #[95, 95, 108, 111, 97, 100, 101, 114, 95, 95]), (.str (Str.mk #[95, 95, 108, 111, 97, 100, 101, 114, 95, 95]) 4), (.builtin "builtins.__loader__:shared#opaque")⟩ :: ⟨PyData.keyHash P (Str.mk #[95, 95, 115, 112, 101, 99, 95, 95]), (.str (Str.mk #[95, 95, 115, 112, 101, 99, 95, 95]) 5), (.builtin "builtins.__spec__#opaque")⟩ :: ⟨PyData.keyHash P (Str.mk #[95, 95, 98, 117, 105, 108, 100, 95, 99, 108, 97, 115, 115, 95, 95]), (.str (Str.mk #[95, 95, 98, 117, 105, 108, 100, 95, 99, 108, 97, 115, 115, 95, 95]) 6), (.builtin "__build_class__")⟩ :: ⟨PyData.keyHash P (Str.mk #[95, 95, 105, 109, 112, 111, 114, 116, 95, 95]), (.str (Str.mk #[95, 95, 105, 109, 112, 111, 114, 116, 95, 95]) 7), (.builtin "__import__")⟩ :: ⟨PyData.keyHash P (Str.mk #[97, 98, 115]), (.str (Str.mk #[97, 98, 115]) 8), (.builtin "abs")⟩ :: ⟨PyData.keyHash P (Str.mk #[97, 108, 108]), (.str (Str.mk #[97, 108, 108]) 9), (.builtin "all")⟩ :: ⟨PyData.keyHash P (Str.mk #[97, 110, 121]), (.str (Str.mk #[97, 110, 121]) 10), (.builtin "any")⟩ :: ⟨PyData.keyHash P (Str.mk #[97, 115, 99, 105, 105]), (.str (Str.mk #[97, 115, 99, 105, 105]) 11), (.builtin "ascii")⟩ :: ⟨PyData.keyHash P (Str.mk #[98, 105, 110]), (.str (Str.mk #[98, 105, 110]) 12), (.builtin "bin")⟩ :: ⟨PyData.keyHash P (Str.mk #[98, 114, 101, 97, 107, 112, 111, 105, 110, 116]), (.str (Str.mk #[98, 114, 101, 97, 107, 112, 111, 105, 110, 116]) 13), (.builtin "breakpoint")⟩ :: ⟨PyData.keyHash P (Str.mk #[99, 97, 108, 108, 97, 98, 108, 101]), (.str (Str.mk #[99, 97, 108, 108, 97, 98, 108, 101]) 14), (.builtin "callable")⟩ :: ⟨PyData.keyHash P (Str.mk #[99, 104, 114]), (.str (Str.mk #[99, 104, 114]) 15), (.builtin "chr")⟩ :: ⟨PyData.keyHash P (Str.mk #[99, 111, 109, 112, 105, 108, 101]), (.str (Str.mk #[99, 111, 109, 112, 105, 108, 101]) 16), (.builtin "compile")⟩ :: ob0_e1 P
noncomputable def ob0 (P : Params) : Obj := ⟨(.type "dict"), none, (.dict (List.toArray (ob0_e0 P)) 159), #[]⟩
noncomputable def ob1 (P : Params) : Obj := ⟨(.type "dict"), none, (.dict #[⟨PyData.keyHash P (Str.mk #[98, 117, 105, 108, 116, 105, 110, 115]), (.str (Str.mk #[98, 117, 105, 108, 116, 105, 110, 115]) 162), (.ref 4)⟩, ⟨PyData.keyHash P (Str.mk #[95, 95, 109, 97, 105, 110, 95, 95]), (.str (Str.mk #[95, 95, 109, 97, 105, 110, 95, 95]) 163), (.ref 5)⟩] 2), #[]⟩
noncomputable def ob2 (P : Params) : Obj := ⟨.none, none, (.dict #[] 0), #[]⟩
noncomputable def ob3 (P : Params) : Obj := ⟨(.type "dict"), none, (.dict #[⟨PyData.keyHash P (Str.mk #[95, 95, 110, 97, 109, 101, 95, 95]), (.str (Str.mk #[95, 95, 110, 97, 109, 101, 95, 95]) 165), (.str (Str.mk #[95, 95, 109, 97, 105, 110, 95, 95]) 164)⟩, ⟨PyData.keyHash P (Str.mk #[95, 95, 100, 111, 99, 95, 95]), (.str (Str.mk #[95, 95, 100, 111, 99, 95, 95]) 166), .none⟩, ⟨PyData.keyHash P (Str.mk #[95, 95, 112, 97, 99, 107, 97, 103, 101, 95, 95]), (.str (Str.mk #[95, 95, 112, 97, 99, 107, 97, 103, 101, 95, 95]) 167), .none⟩, ⟨PyData.keyHash P (Str.mk #[95, 95, 108, 111, 97, 100, 101, 114, 95, 95]), (.str (Str.mk #[95, 95, 108, 111, 97, 100, 101, 114, 95, 95]) 168), (.builtin "__main__.__loader__#opaque")⟩, ⟨PyData.keyHash P (Str.mk #[95, 95, 115, 112, 101, 99, 95, 95]), (.str (Str.mk #[95, 95, 115, 112, 101, 99, 95, 95]) 169), .none⟩, ⟨PyData.keyHash P (Str.mk #[95, 95, 97, 110, 110, 111, 116, 97, 116, 105, 111, 110, 115, 95, 95]), (.str (Str.mk #[95, 95, 97, 110, 110, 111, 116, 97, 116, 105, 111, 110, 115, 95, 95]) 170), (.ref 6)⟩, ⟨PyData.keyHash P (Str.mk #[95, 95, 98, 117, 105, 108, 116, 105, 110, 115, 95, 95]), (.str (Str.mk #[95, 95, 98, 117, 105, 108, 116, 105, 110, 115, 95, 95]) 171), (.ref 4)⟩, ⟨PyData.keyHash P (Str.mk #[95, 95, 102, 105, 108, 101, 95, 95]), (.str (Str.mk #[95, 95, 102, 105, 108, 101, 95, 95]) 173), (.str (Str.mk #[47, 99, 108, 97, 105, 109, 47, 99, 117, 116, 46, 112, 121]) 172)⟩, ⟨PyData.keyHash P (Str.mk #[95, 95, 99, 97, 99, 104, 101, 100, 95, 95]), (.str (Str.mk #[95, 95, 99, 97, 99, 104, 101, 100, 95, 95]) 174), .none⟩] 9), #[]⟩
noncomputable def ob4 (P : Params) : Obj := ⟨(.type "module"), (some 0), .plain, #[]⟩
noncomputable def ob5 (P : Params) : Obj := ⟨(.type "module"), (some 3), .plain, #[]⟩
noncomputable def ob6 (P : Params) : Obj := ⟨(.type "dict"), none, (.dict #[] 0), #[]⟩
noncomputable def ob7 (P : Params) : Obj := ⟨(.type "tuple"), none, (.seq #[] 0), #[]⟩
noncomputable def ob8 (P : Params) : Obj := ⟨.none, none, (.fields #[]), #[]⟩
noncomputable def ob9 (P : Params) : Obj := ⟨(.type "code"), none, (.fields #[(.str (Str.mk #[60, 109, 111, 100, 117, 108, 101, 62]) 176), (.str (Str.mk #[60, 109, 111, 100, 117, 108, 101, 62]) 177), (.str (Str.mk #[47, 99, 108, 97, 105, 109, 47, 99, 117, 116, 46, 112, 121]) 178), (.int 1 0), (.int 0 0), (.int 0 0), (.int 0 0), (.int 0 0), (.ref 7), (.bool false), (.int 175 0), (.ref 8), .none, .none, .none, .none, (.int 179 0), (.int 1 0), (.str (Str.mk #[47, 99, 108, 97, 105, 109, 47, 99, 117, 116, 46, 112, 121]) 180)]), #[]⟩
noncomputable def ob10 (P : Params) : Obj := ⟨(.type "frame"), none, .plain, #[some (.ref 9), some (.ref 3), some (.ref 3), none, some (.str (Str.mk #[95, 95, 109, 97, 105, 110, 95, 95]) 164), none, some (.ref 0)]⟩
noncomputable def tree_XB0 (P : Params) : BT :=
  (.node (ob0 P) (.node (ob1 P) (.node (ob3 P) (.node (ob7 P) .nil .nil) .nil) (.node (ob5 P) (.node (ob9 P) .nil .nil) .nil)) (.node (ob2 P) (.node (ob4 P) (.node (ob8 P) .nil .nil) .nil) (.node (ob6 P) (.node (ob10 P) .nil .nil) .nil)))
noncomputable def XB0 (w : World) (os : OsState) : SharedT := ⟨tree_XB0 w.params, 11, {}, #[], {}, 181, os⟩
noncomputable def ob11 (P : Params) : Obj := ⟨(.type "tuple"), none, (.seq #[] 0), #[]⟩
noncomputable def ob12 (P : Params) : Obj := ⟨.none, none, (.fields #[]), #[]⟩
noncomputable def ob13 (P : Params) : Obj := ⟨(.type "code"), none, (.fields #[(.str (Str.mk #[60, 109, 111, 100, 117, 108, 101, 62]) 182), (.str (Str.mk #[60, 109, 111, 100, 117, 108, 101, 62]) 183), (.str (Str.mk #[47, 99, 108, 97, 105, 109, 47, 99, 117, 116, 46, 112, 121]) 184), (.int 1 0), (.int 0 0), (.int 0 0), (.int 0 0), (.int 0 0), (.ref 11), (.bool false), (.int 181 0), (.ref 12), .none, .none, .none, .none, (.int 185 0), (.int 1 0), (.str (Str.mk #[47, 99, 108, 97, 105, 109, 47, 99, 117, 116, 46, 112, 121]) 186)]), #[]⟩
noncomputable def ob14 (P : Params) : Obj := ⟨(.type "frame"), none, .plain, #[some (.ref 13), some (.ref 3), some (.ref 3), none, some (.str (Str.mk #[95, 95, 109, 97, 105, 110, 95, 95]) 164), none, some (.ref 0)]⟩
noncomputable def tree_XA (P : Params) : BT :=
  (.node (ob0 P) (.node (ob1 P) (.node (ob3 P) (.node (ob7 P) .nil .nil) (.node (ob11 P) .nil .nil)) (.node (ob5 P) (.node (ob9 P) .nil .nil) (.node (ob13 P) .nil .nil))) (.node (ob2 P) (.node (ob4 P) (.node (ob8 P) .nil .nil) (.node (ob12 P) .nil .nil)) (.node (ob6 P) (.node (ob10 P) .nil .nil) (.node (ob14 P) .nil .nil))))
noncomputable def XA (w : World) (os : OsState) : SharedT := ⟨tree_XA w.params, 15, {}, #[], {}, 187, os⟩
noncomputable def ob15 (P : Params) : Obj := ⟨(.type "dict"), none, (.dict #[⟨PyData.keyHash P (Str.mk #[95, 95, 110, 97, 109, 101, 95, 95]), (.str (Str.mk #[95, 95, 110, 97, 109, 101, 95, 95]) 165), (.str (Str.mk #[95, 95, 109, 97, 105, 110, 95, 95]) 164)⟩, ⟨PyData.keyHash P (Str.mk #[95, 95, 100, 111, 99, 95, 95]), (.str (Str.mk #[95, 95, 100, 111, 99, 95, 95]) 166), .none⟩, ⟨PyData.keyHash P (Str.mk #[95, 95, 112, 97, 99, 107, 97, 103, 101, 95, 95]), (.str (Str.mk #[95, 95, 112, 97, 99, 107, 97, 103, 101, 95, 95]) 167), .none⟩, ⟨PyData.keyHash P (Str.mk #[95, 95, 108, 111, 97, 100, 101, 114, 95, 95]), (.str (Str.mk #[95, 95, 108, 111, 97, 100, 101, 114, 95, 95]) 168), (.builtin "__main__.__loader__#opaque")⟩, ⟨PyData.keyHash P (Str.mk #[95, 95, 115, 112, 101, 99, 95, 95]), (.str (Str.mk #[95, 95, 115, 112, 101, 99, 95, 95]) 169), .none⟩, ⟨PyData.keyHash P (Str.mk #[95, 95, 97, 110, 110, 111, 116, 97, 116, 105, 111, 110, 115, 95, 95]), (.str (Str.mk #[95, 95, 97, 110, 110, 111, 116, 97, 116, 105, 111, 110, 115, 95, 95]) 170), (.ref 6)⟩, ⟨PyData.keyHash P (Str.mk #[95, 95, 98, 117, 105, 108, 116, 105, 110, 115, 95, 95]), (.str (Str.mk #[95, 95, 98, 117, 105, 108, 116, 105, 110, 115, 95, 95]) 171), (.ref 4)⟩, ⟨PyData.keyHash P (Str.mk #[95, 95, 102, 105, 108, 101, 95, 95]), (.str (Str.mk #[95, 95, 102, 105, 108, 101, 95, 95]) 173), (.str (Str.mk #[47, 99, 108, 97, 105, 109, 47, 99, 117, 116, 46, 112, 121]) 172)⟩, ⟨PyData.keyHash P (Str.mk #[95, 95, 99, 97, 99, 104, 101, 100, 95, 95]), (.str (Str.mk #[95, 95, 99, 97, 99, 104, 101, 100, 95, 95]) 174), .none⟩, ⟨PyData.keyHash P (Str.mk #[67, 82, 76, 70]), (.str (Str.mk #[67, 82, 76, 70]) 188), (.str (Str.mk #[13, 10]) 187)⟩, ⟨PyData.keyHash P (Str.mk #[78, 76]), (.str (Str.mk #[78, 76]) 190), (.str (Str.mk #[10]) 189)⟩] 11), #[]⟩
noncomputable def tree_X1 (P : Params) : BT :=
  (.node (ob0 P) (.node (ob1 P) (.node (ob15 P) (.node (ob7 P) .nil .nil) (.node (ob11 P) .nil .nil)) (.node (ob5 P) (.node (ob9 P) .nil .nil) (.node (ob13 P) .nil .nil))) (.node (ob2 P) (.node (ob4 P) (.node (ob8 P) .nil .nil) (.node (ob12 P) .nil .nil)) (.node (ob6 P) (.node (ob10 P) .nil .nil) (.node (ob14 P) .nil .nil))))
noncomputable def X1 (w : World) (os : OsState) : SharedT := ⟨tree_X1 w.params, 15, {}, #[], {}, 191, os⟩
noncomputable def ob16 (P : Params) : Obj := ⟨(.type "dict"), none, (.dict #[⟨PyData.keyHash P (Str.mk #[95, 95, 110, 97, 109, 101, 95, 95]), (.str (Str.mk #[95, 95, 110, 97, 109, 101, 95, 95]) 165), (.str (Str.mk #[95, 95, 109, 97, 105, 110, 95, 95]) 164)⟩, ⟨PyData.keyHash P (Str.mk #[95, 95, 100, 111, 99, 95, 95]), (.str (Str.mk #[95, 95, 100, 111, 99, 95, 95]) 166), .none⟩, ⟨PyData.keyHash P (Str.mk #[95, 95, 112, 97, 99, 107, 97, 103, 101, 95, 95]), (.str (Str.mk #[95, 95, 112, 97, 99, 107, 97, 103, 101, 95, 95]) 167), .none⟩, ⟨PyData.keyHash P (Str.mk #[95, 95, 108, 111, 97, 100, 101, 114, 95, 95]), (.str (Str.mk #[95, 95, 108, 111, 97, 100, 101, 114, 95, 95]) 168), (.builtin "__main__.__loader__#opaque")⟩, ⟨PyData.keyHash P (Str.mk #[95, 95, 115, 112, 101, 99, 95, 95]), (.str (Str.mk #[95, 95, 115, 112, 101, 99, 95, 95]) 169), .none⟩, ⟨PyData.keyHash P (Str.mk #[95, 95, 97, 110, 110, 111, 116, 97, 116, 105, 111, 110, 115, 95, 95]), (.str (Str.mk #[95, 95, 97, 110, 110, 111, 116, 97, 116, 105, 111, 110, 115, 95, 95]) 170), (.ref 6)⟩, ⟨PyData.keyHash P (Str.mk #[95, 95, 98, 117, 105, 108, 116, 105, 110, 115, 95, 95]), (.str (Str.mk #[95, 95, 98, 117, 105, 108, 116, 105, 110, 115, 95, 95]) 171), (.ref 4)⟩, ⟨PyData.keyHash P (Str.mk #[95, 95, 102, 105, 108, 101, 95, 95]), (.str (Str.mk #[95, 95, 102, 105, 108, 101, 95, 95]) 173), (.str (Str.mk #[47, 99, 108, 97, 105, 109, 47, 99, 117, 116, 46, 112, 121]) 172)⟩, ⟨PyData.keyHash P (Str.mk #[95, 95, 99, 97, 99, 104, 101, 100, 95, 95]), (.str (Str.mk #[95, 95, 99, 97, 99, 104, 101, 100, 95, 95]) 174), .none⟩, ⟨PyData.keyHash P (Str.mk #[67, 82, 76, 70]), (.str (Str.mk #[67, 82, 76, 70]) 188), (.str (Str.mk #[13, 10]) 187)⟩, ⟨PyData.keyHash P (Str.mk #[78, 76]), (.str (Str.mk #[78, 76]) 190), (.str (Str.mk #[10]) 189)⟩, ⟨PyData.keyHash P (Str.mk #[95, 81, 85, 79, 80, 82, 73, 95, 77, 65, 80]), (.str (Str.mk #[95, 81, 85, 79, 80, 82, 73, 95, 77, 65, 80]) 1218), (.ref 17)⟩] 12), #[]⟩
noncomputable def ob17 (P : Params) : Obj := ⟨(.type "range"), none, (.fields #[(.int 0 192), (.int 256 191), (.int 1 193)]), #[]⟩
noncomputable def ob18 (P : Params) : Obj := ⟨(.type "range_iterator"), none, (.fields #[(.int 256 0), (.int 0 0), (.int 1 0)]), #[]⟩
noncomputable def ob19 (P : Params) : Obj := ⟨(.type "list"), none, (.seq ⟨[itm 0, itm 1, itm 2, itm 3, itm 4, itm 5, itm 6, itm 7, itm 8, itm 9, itm 10, itm 11, itm 12, itm 13, itm 14, itm 15, itm 16, itm 17, itm 18, itm 19, itm 20, itm 21, itm 22, itm 23, itm 24, itm 25, itm 26, itm 27, itm 28, itm 29, itm 30, itm 31, itm 32, itm 33, itm 34, itm 35, itm 36, itm 37, itm 38, itm 39, itm 40, itm 41, itm 42, itm 43, itm 44, itm 45, itm 46, itm 47, itm 48, itm 49, itm 50, itm 51, itm 52, itm 53, itm 54, itm 55, itm 56, itm 57, itm 58, itm 59, itm 60, itm 61, itm 62, itm 63, itm 64, itm 65, itm 66, itm 67, itm 68, itm 69, itm 70, itm 71, itm 72, itm 73, itm 74, itm 75, itm 76, itm 77, itm 78, itm 79, itm 80, itm 81, itm 82, itm 83, itm 84, itm 85, itm 86, itm 87, itm 88, itm 89, itm 90, itm 91, itm 92, itm 93, itm 94, itm 95, itm 96, itm 97, itm 98, itm 99, itm 100, itm 101, itm 102, itm 103, itm 104, itm 105, itm 106, itm 107, itm 108, itm 109, itm 110, itm 111, itm 112, itm 113, itm 114, itm 115, itm 116, itm 117, itm 118, itm 119, itm 120, itm 121, itm 122, itm 123, itm 124, itm 125, itm 126, itm 127, itm 128, itm 129, itm 130, itm 131, itm 132, itm 133, itm 134, itm 135, itm 136, itm 137, itm 138, itm 139, itm 140, itm 141, itm 142, itm 143, itm 144, itm 145, itm 146, itm 147, itm 148, itm 149, itm 150, itm 151, itm 152, itm 153, itm 154, itm 155, itm 156, itm 157, itm 158, itm 159, itm 160, itm 161, itm 162, itm 163, itm 164, itm 165, itm 166, itm 167, itm 168, itm 169, itm 170, itm 171, itm 172, itm 173, itm 174, itm 175, itm 176, itm 177, itm 178, itm 179, itm 180, itm 181, itm 182, itm 183, itm 184, itm 185, itm 186, itm 187, itm 188, itm 189, itm 190, itm 191, itm 192, itm 193, itm 194, itm 195, itm 196, itm 197, itm 198, itm 199, itm 200, itm 201, itm 202, itm 203, itm 204, itm 205, itm 206, itm 207, itm 208, itm 209, itm 210, itm 211, itm 212, itm 213, itm 214, itm 215, itm 216, itm 217, itm 218, itm 219, itm 220, itm 221, itm 222, itm 223, itm 224, itm 225, itm 226, itm 227, itm 228, itm 229, itm 230, itm 231, itm 232, itm 233, itm 234, itm 235, itm 236, itm 237, itm 238, itm 239, itm 240, itm 241, itm 242, itm 243, itm 244, itm 245, itm 246, itm 247, itm 248, itm 249, itm 250, itm 251, itm 252, itm 253, itm 254, itm 255]⟩ 256), #[]⟩
noncomputable def ob20 (P : Params) : Obj := ⟨(.type "dict"), none, (.dict #[] 2), #[]⟩
noncomputable def ob21 (P : Params) : Obj := ⟨(.type "tuple"), none, (.seq #[] 0), #[]⟩
noncomputable def ob22 (P : Params) : Obj := ⟨(.type "StopIteration"), none, (.fields #[(.ref 19), .none, .none, .none, (.bool false), .none]), #[]⟩
noncomputable def tree_X2 (P : Params) : BT :=
  (.node (ob0 P) (.node (ob1 P) (.node (ob16 P) (.node (ob7 P) (.node (ob17 P) .nil .nil) .nil) (.node (ob11 P) (.node (ob21 P) .nil .nil) .nil)) (.node (ob5 P) (.node (ob9 P) (.node (ob19 P) .nil .nil) .nil) (.node (ob13 P) .nil .nil))) (.node (ob2 P) (.node (ob4 P) (.node (ob8 P) (.node (ob18 P) .nil .nil) .nil) (.node (ob12 P) (.node (ob22 P) .nil .nil) .nil)) (.node (ob6 P) (.node (ob10 P) (.node (ob20 P) .nil .nil) .nil) (.node (ob14 P) .nil .nil))))
noncomputable def X2 (w : World) (os : OsState) : SharedT := ⟨tree_X2 w.params, 21, {}, #[], {}, 1219, os⟩
noncomputable def ob23 (P : Params) : Obj := ⟨(.type "dict"), none, (.dict #[⟨PyData.keyHash P (Str.mk #[95, 95, 110, 97, 109, 101, 95, 95]), (.str (Str.mk #[95, 95, 110, 97, 109, 101, 95, 95]) 165), (.str (Str.mk #[99, 112, 121, 51, 49, 51, 46, 101, 109, 97, 105, 108, 46, 113, 117, 111, 112, 114, 105, 109, 105, 109, 101]) 1234)⟩, ⟨PyData.keyHash P (Str.mk #[95, 95, 100, 111, 99, 95, 95]), (.str (Str.mk #[95, 95, 100, 111, 99, 95, 95]) 166), .none⟩, ⟨PyData.keyHash P (Str.mk #[95, 95, 112, 97, 99, 107, 97, 103, 101, 95, 95]), (.str (Str.mk #[95, 95, 112, 97, 99, 107, 97, 103, 101, 95, 95]) 167), .none⟩, ⟨PyData.keyHash P (Str.mk #[95, 95, 108, 111, 97, 100, 101, 114, 95, 95]), (.str (Str.mk #[95, 95, 108, 111, 97, 100, 101, 114, 95, 95]) 168), (.builtin "__main__.__loader__#opaque")⟩, ⟨PyData.keyHash P (Str.mk #[95, 95, 115, 112, 101, 99, 95, 95]), (.str (Str.mk #[95, 95, 115, 112, 101, 99, 95, 95]) 169), .none⟩, ⟨PyData.keyHash P (Str.mk #[95, 95, 97, 110, 110, 111, 116, 97, 116, 105, 111, 110, 115, 95, 95]), (.str (Str.mk #[95, 95, 97, 110, 110, 111, 116, 97, 116, 105, 111, 110, 115, 95, 95]) 170), (.ref 6)⟩, ⟨PyData.keyHash P (Str.mk #[95, 95, 98, 117, 105, 108, 116, 105, 110, 115, 95, 95]), (.str (Str.mk #[95, 95, 98, 117, 105, 108, 116, 105, 110, 115, 95, 95]) 171), (.ref 4)⟩, ⟨PyData.keyHash P (Str.mk #[95, 95, 102, 105, 108, 101, 95, 95]), (.str (Str.mk #[95, 95, 102, 105, 108, 101, 95, 95]) 173), (.str (Str.mk #[47, 99, 108, 97, 105, 109, 47, 99, 117, 116, 46, 112, 121]) 172)⟩, ⟨PyData.keyHash P (Str.mk #[95, 95, 99, 97, 99, 104, 101, 100, 95, 95]), (.str (Str.mk #[95, 95, 99, 97, 99, 104, 101, 100, 95, 95]) 174), .none⟩, ⟨PyData.keyHash P (Str.mk #[67, 82, 76, 70]), (.str (Str.mk #[67, 82, 76, 70]) 188), (.str (Str.mk #[13, 10]) 187)⟩, ⟨PyData.keyHash P (Str.mk #[78, 76]), (.str (Str.mk #[78, 76]) 190), (.str (Str.mk #[10]) 189)⟩, ⟨PyData.keyHash P (Str.mk #[95, 81, 85, 79, 80, 82, 73, 95, 77, 65, 80]), (.str (Str.mk #[95, 81, 85, 79, 80, 82, 73, 95, 77, 65, 80]) 1218), (.ref 17)⟩, ⟨PyData.keyHash P (Str.mk #[95, 81, 85, 79, 80, 82, 73, 95, 72, 69, 65, 68, 69, 82, 95, 77, 65, 80]), (.str (Str.mk #[95, 81, 85, 79, 80, 82, 73, 95, 72, 69, 65, 68, 69, 82, 95, 77, 65, 80]) 1219), (.ref 22)⟩, ⟨PyData.keyHash P (Str.mk #[95, 81, 85, 79, 80, 82, 73, 95, 66, 79, 68, 89, 95, 77, 65, 80]), (.str (Str.mk #[95, 81, 85, 79, 80, 82, 73, 95, 66, 79, 68, 89, 95, 77, 65, 80]) 1220), (.ref 24)⟩, ⟨PyData.keyHash P (Str.mk #[97, 115, 99, 105, 105, 95, 108, 111, 119, 101, 114, 99, 97, 115, 101]), (.str (Str.mk #[97, 115, 99, 105, 105, 95, 108, 111, 119, 101, 114, 99, 97, 115, 101]) 1222), (.str (Str.mk #[97, 98, 99, 100, 101, 102, 103, 104, 105, 106, 107, 108, 109, 110, 111, 112, 113, 114, 115, 116, 117, 118, 119, 120, 121, 122]) 1221)⟩, ⟨PyData.keyHash P (Str.mk #[97, 115, 99, 105, 105, 95, 117, 112, 112, 101, 114, 99, 97, 115, 101]), (.str (Str.mk #[97, 115, 99, 105, 105, 95, 117, 112, 112, 101, 114, 99, 97, 115, 101]) 1224), (.str (Str.mk #[65, 66, 67, 68, 69, 70, 71, 72, 73, 74, 75, 76, 77, 78, 79, 80, 81, 82, 83, 84, 85, 86, 87, 88, 89, 90]) 1223)⟩, ⟨PyData.keyHash P (Str.mk #[97, 115, 99, 105, 105, 95, 108, 101, 116, 116, 101, 114, 115]), (.str (Str.mk #[97, 115, 99, 105, 105, 95, 108, 101, 116, 116, 101, 114, 115]) 1226), (.str (Str.mk #[97, 98, 99, 100, 101, 102, 103, 104, 105, 106, 107, 108, 109, 110, 111, 112, 113, 114, 115, 116, 117, 118, 119, 120, 121, 122, 65, 66, 67, 68, 69, 70, 71, 72, 73, 74, 75, 76, 77, 78, 79, 80, 81, 82, 83, 84, 85, 86, 87, 88, 89, 90]) 1225)⟩, ⟨PyData.keyHash P (Str.mk #[100, 105, 103, 105, 116, 115]), (.str (Str.mk #[100, 105, 103, 105, 116, 115]) 1228), (.str (Str.mk #[48, 49, 50, 51, 52, 53, 54, 55, 56, 57]) 1227)⟩, ⟨PyData.keyHash P (Str.mk #[104, 101, 120, 100, 105, 103, 105, 116, 115]), (.str (Str.mk #[104, 101, 120, 100, 105, 103, 105, 116, 115]) 1233), (.str (Str.mk #[48, 49, 50, 51, 52, 53, 54, 55, 56, 57, 97, 98, 99, 100, 101, 102, 65, 66, 67, 68, 69, 70]) 1232)⟩] 19), #[]⟩
noncomputable def ob24 (P : Params) : Obj := ⟨(.type "slice"), none, (.fields #[.none, .none, .none]), #[]⟩
noncomputable def ob25 (P : Params) : Obj := ⟨(.type "list"), none, (.seq ⟨[itm 0, itm 1, itm 2, itm 3, itm 4, itm 5, itm 6, itm 7, itm 8, itm 9, itm 10, itm 11, itm 12, itm 13, itm 14, itm 15, itm 16, itm 17, itm 18, itm 19, itm 20, itm 21, itm 22, itm 23, itm 24, itm 25, itm 26, itm 27, itm 28, itm 29, itm 30, itm 31, itm 32, itm 33, itm 34, itm 35, itm 36, itm 37, itm 38, itm 39, itm 40, itm 41, itm 42, itm 43, itm 44, itm 45, itm 46, itm 47, itm 48, itm 49, itm 50, itm 51, itm 52, itm 53, itm 54, itm 55, itm 56, itm 57, itm 58, itm 59, itm 60, itm 61, itm 62, itm 63, itm 64, itm 65, itm 66, itm 67, itm 68, itm 69, itm 70, itm 71, itm 72, itm 73, itm 74, itm 75, itm 76, itm 77, itm 78, itm 79, itm 80, itm 81, itm 82, itm 83, itm 84, itm 85, itm 86, itm 87, itm 88, itm 89, itm 90, itm 91, itm 92, itm 93, itm 94, itm 95, itm 96, itm 97, itm 98, itm 99, itm 100, itm 101, itm 102, itm 103, itm 104, itm 105, itm 106, itm 107, itm 108, itm 109, itm 110, itm 111, itm 112, itm 113, itm 114, itm 115, itm 116, itm 117, itm 118, itm 119, itm 120, itm 121, itm 122, itm 123, itm 124, itm 125, itm 126, itm 127, itm 128, itm 129, itm 130, itm 131, itm 132, itm 133, itm 134, itm 135, itm 136, itm 137, itm 138, itm 139, itm 140, itm 141, itm 142, itm 143, itm 144, itm 145, itm 146, itm 147, itm 148, itm 149, itm 150, itm 151, itm 152, itm 153, itm 154, itm 155, itm 156, itm 157, itm 158, itm 159, itm 160, itm 161, itm 162, itm 163, itm 164, itm 165, itm 166, itm 167, itm 168, itm 169, itm 170, itm 171, itm 172, itm 173, itm 174, itm 175, itm 176, itm 177, itm 178, itm 179, itm 180, itm 181, itm 182, itm 183, itm 184, itm 185, itm 186, itm 187, itm 188, itm 189, itm 190, itm 191, itm 192, itm 193, itm 194, itm 195, itm 196, itm 197, itm 198, itm 199, itm 200, itm 201, itm 202, itm 203, itm 204, itm 205, itm 206, itm 207, itm 208, itm 209, itm 210, itm 211, itm 212, itm 213, itm 214, itm 215, itm 216, itm 217, itm 218, itm 219, itm 220, itm 221, itm 222, itm 223, itm 224, itm 225, itm 226, itm 227, itm 228, itm 229, itm 230, itm 231, itm 232, itm 233, itm 234, itm 235, itm 236, itm 237, itm 238, itm 239, itm 240, itm 241, itm 242, itm 243, itm 244, itm 245, itm 246, itm 247, itm 248, itm 249, itm 250, itm 251, itm 252, itm 253, itm 254, itm 255]⟩ 0), #[]⟩
noncomputable def ob26 (P : Params) : Obj := ⟨(.type "slice"), none, (.fields #[.none, .none, .none]), #[]⟩
noncomputable def ob27 (P : Params) : Obj := ⟨(.type "list"), none, (.seq ⟨[itm 0, itm 1, itm 2, itm 3, itm 4, itm 5, itm 6, itm 7, itm 8, itm 9, itm 10, itm 11, itm 12, itm 13, itm 14, itm 15, itm 16, itm 17, itm 18, itm 19, itm 20, itm 21, itm 22, itm 23, itm 24, itm 25, itm 26, itm 27, itm 28, itm 29, itm 30, itm 31, itm 32, itm 33, itm 34, itm 35, itm 36, itm 37, itm 38, itm 39, itm 40, itm 41, itm 42, itm 43, itm 44, itm 45, itm 46, itm 47, itm 48, itm 49, itm 50, itm 51, itm 52, itm 53, itm 54, itm 55, itm 56, itm 57, itm 58, itm 59, itm 60, itm 61, itm 62, itm 63, itm 64, itm 65, itm 66, itm 67, itm 68, itm 69, itm 70, itm 71, itm 72, itm 73, itm 74, itm 75, itm 76, itm 77, itm 78, itm 79, itm 80, itm 81, itm 82, itm 83, itm 84, itm 85, itm 86, itm 87, itm 88, itm 89, itm 90, itm 91, itm 92, itm 93, itm 94, itm 95, itm 96, itm 97, itm 98, itm 99, itm 100, itm 101, itm 102, itm 103, itm 104, itm 105, itm 106, itm 107, itm 108, itm 109, itm 110, itm 111, itm 112, itm 113, itm 114, itm 115, itm 116, itm 117, itm 118, itm 119, itm 120, itm 121, itm 122, itm 123, itm 124, itm 125, itm 126, itm 127, itm 128, itm 129, itm 130, itm 131, itm 132, itm 133, itm 134, itm 135, itm 136, itm 137, itm 138, itm 139, itm 140, itm 141, itm 142, itm 143, itm 144, itm 145, itm 146, itm 147, itm 148, itm 149, itm 150, itm 151, itm 152, itm 153, itm 154, itm 155, itm 156, itm 157, itm 158, itm 159, itm 160, itm 161, itm 162, itm 163, itm 164, itm 165, itm 166, itm 167, itm 168, itm 169, itm 170, itm 171, itm 172, itm 173, itm 174, itm 175, itm 176, itm 177, itm 178, itm 179, itm 180, itm 181, itm 182, itm 183, itm 184, itm 185, itm 186, itm 187, itm 188, itm 189, itm 190, itm 191, itm 192, itm 193, itm 194, itm 195, itm 196, itm 197, itm 198, itm 199, itm 200, itm 201, itm 202, itm 203, itm 204, itm 205, itm 206, itm 207, itm 208, itm 209, itm 210, itm 211, itm 212, itm 213, itm 214, itm 215, itm 216, itm 217, itm 218, itm 219, itm 220, itm 221, itm 222, itm 223, itm 224, itm 225, itm 226, itm 227, itm 228, itm 229, itm 230, itm 231, itm 232, itm 233, itm 234, itm 235, itm 236, itm 237, itm 238, itm 239, itm 240, itm 241, itm 242, itm 243, itm 244, itm 245, itm 246, itm 247, itm 248, itm 249, itm 250, itm 251, itm 252, itm 253, itm 254, itm 255]⟩ 0), #[]⟩
noncomputable def tree_X10 (P : Params) : BT :=
  (.node (ob0 P) (.node (ob1 P) (.node (ob23 P) (.node (ob7 P) (.node (ob17 P) .nil .nil) (.node (ob26 P) .nil .nil)) (.node (ob11 P) (.node (ob21 P) .nil .nil) .nil)) (.node (ob5 P) (.node (ob9 P) (.node (ob19 P) .nil .nil) .nil) (.node (ob13 P) (.node (ob24 P) .nil .nil) .nil))) (.node (ob2 P) (.node (ob4 P) (.node (ob8 P) (.node (ob18 P) .nil .nil) (.node (ob27 P) .nil .nil)) (.node (ob12 P) (.node (ob22 P) .nil .nil) .nil)) (.node (ob6 P) (.node (ob10 P) (.node (ob20 P) .nil .nil) .nil) (.node (ob14 P) (.node (ob25 P) .nil .nil) .nil))))
noncomputable def X10 (w : World) (os : OsState) : SharedT := ⟨tree_X10 w.params, 25, {}, #[], {}, 1236, os⟩
noncomputable def mainC (P : Params) (v : Value) : Obj := ⟨(.type "dict"), none, (.dict #[⟨PyData.keyHash P (Str.mk #[95, 95, 110, 97, 109, 101, 95, 95]), (.str (Str.mk #[95, 95, 110, 97, 109, 101, 95, 95]) 165), (.str (Str.mk #[99, 112, 121, 51, 49, 51, 46, 101, 109, 97, 105, 108, 46, 113, 117, 111, 112, 114, 105, 109, 105, 109, 101]) 1234)⟩, ⟨PyData.keyHash P (Str.mk #[95, 95, 100, 111, 99, 95, 95]), (.str (Str.mk #[95, 95, 100, 111, 99, 95, 95]) 166), .none⟩, ⟨PyData.keyHash P (Str.mk #[95, 95, 112, 97, 99, 107, 97, 103, 101, 95, 95]), (.str (Str.mk #[95, 95, 112, 97, 99, 107, 97, 103, 101, 95, 95]) 167), .none⟩, ⟨PyData.keyHash P (Str.mk #[95, 95, 108, 111, 97, 100, 101, 114, 95, 95]), (.str (Str.mk #[95, 95, 108, 111, 97, 100, 101, 114, 95, 95]) 168), (.builtin "__main__.__loader__#opaque")⟩, ⟨PyData.keyHash P (Str.mk #[95, 95, 115, 112, 101, 99, 95, 95]), (.str (Str.mk #[95, 95, 115, 112, 101, 99, 95, 95]) 169), .none⟩, ⟨PyData.keyHash P (Str.mk #[95, 95, 97, 110, 110, 111, 116, 97, 116, 105, 111, 110, 115, 95, 95]), (.str (Str.mk #[95, 95, 97, 110, 110, 111, 116, 97, 116, 105, 111, 110, 115, 95, 95]) 170), (.ref 6)⟩, ⟨PyData.keyHash P (Str.mk #[95, 95, 98, 117, 105, 108, 116, 105, 110, 115, 95, 95]), (.str (Str.mk #[95, 95, 98, 117, 105, 108, 116, 105, 110, 115, 95, 95]) 171), (.ref 4)⟩, ⟨PyData.keyHash P (Str.mk #[95, 95, 102, 105, 108, 101, 95, 95]), (.str (Str.mk #[95, 95, 102, 105, 108, 101, 95, 95]) 173), (.str (Str.mk #[47, 99, 108, 97, 105, 109, 47, 99, 117, 116, 46, 112, 121]) 172)⟩, ⟨PyData.keyHash P (Str.mk #[95, 95, 99, 97, 99, 104, 101, 100, 95, 95]), (.str (Str.mk #[95, 95, 99, 97, 99, 104, 101, 100, 95, 95]) 174), .none⟩, ⟨PyData.keyHash P (Str.mk #[67, 82, 76, 70]), (.str (Str.mk #[67, 82, 76, 70]) 188), (.str (Str.mk #[13, 10]) 187)⟩, ⟨PyData.keyHash P (Str.mk #[78, 76]), (.str (Str.mk #[78, 76]) 190), (.str (Str.mk #[10]) 189)⟩, ⟨PyData.keyHash P (Str.mk #[95, 81, 85, 79, 80, 82, 73, 95, 77, 65, 80]), (.str (Str.mk #[95, 81, 85, 79, 80, 82, 73, 95, 77, 65, 80]) 1218), (.ref 17)⟩, ⟨PyData.keyHash P (Str.mk #[95, 81, 85, 79, 80, 82, 73, 95, 72, 69, 65, 68, 69, 82, 95, 77, 65, 80]), (.str (Str.mk #[95, 81, 85, 79, 80, 82, 73, 95, 72, 69, 65, 68, 69, 82, 95, 77, 65, 80]) 1219), (.ref 22)⟩, ⟨PyData.keyHash P (Str.mk #[95, 81, 85, 79, 80, 82, 73, 95, 66, 79, 68, 89, 95, 77, 65, 80]), (.str (Str.mk #[95, 81, 85, 79, 80, 82, 73, 95, 66, 79, 68, 89, 95, 77, 65, 80]) 1220), (.ref 24)⟩, ⟨PyData.keyHash P (Str.mk #[97, 115, 99, 105, 105, 95, 108, 111, 119, 101, 114, 99, 97, 115, 101]), (.str (Str.mk #[97, 115, 99, 105, 105, 95, 108, 111, 119, 101, 114, 99, 97, 115, 101]) 1222), (.str (Str.mk #[97, 98, 99, 100, 101, 102, 103, 104, 105, 106, 107, 108, 109, 110, 111, 112, 113, 114, 115, 116, 117, 118, 119, 120, 121, 122]) 1221)⟩, ⟨PyData.keyHash P (Str.mk #[97, 115, 99, 105, 105, 95, 117, 112, 112, 101, 114, 99, 97, 115, 101]), (.str (Str.mk #[97, 115, 99, 105, 105, 95, 117, 112, 112, 101, 114, 99, 97, 115, 101]) 1224), (.str (Str.mk #[65, 66, 67, 68, 69, 70, 71, 72, 73, 74, 75, 76, 77, 78, 79, 80, 81, 82, 83, 84, 85, 86, 87, 88, 89, 90]) 1223)⟩, ⟨PyData.keyHash P (Str.mk #[97, 115, 99, 105, 105, 95, 108, 101, 116, 116, 101, 114, 115]), (.str (Str.mk #[97, 115, 99, 105, 105, 95, 108, 101, 116, 116, 101, 114, 115]) 1226), (.str (Str.mk #[97, 98, 99, 100, 101, 102, 103, 104, 105, 106, 107, 108, 109, 110, 111, 112, 113, 114, 115, 116, 117, 118, 119, 120, 121, 122, 65, 66, 67, 68, 69, 70, 71, 72, 73, 74, 75, 76, 77, 78, 79, 80, 81, 82, 83, 84, 85, 86, 87, 88, 89, 90]) 1225)⟩, ⟨PyData.keyHash P (Str.mk #[100, 105, 103, 105, 116, 115]), (.str (Str.mk #[100, 105, 103, 105, 116, 115]) 1228), (.str (Str.mk #[48, 49, 50, 51, 52, 53, 54, 55, 56, 57]) 1227)⟩, ⟨PyData.keyHash P (Str.mk #[104, 101, 120, 100, 105, 103, 105, 116, 115]), (.str (Str.mk #[104, 101, 120, 100, 105, 103, 105, 116, 115]) 1233), (.str (Str.mk #[48, 49, 50, 51, 52, 53, 54, 55, 56, 57, 97, 98, 99, 100, 101, 102, 65, 66, 67, 68, 69, 70]) 1232)⟩, ⟨PyData.keyHash P (Str.mk #[99]), (.str (Str.mk #[99]) 1244), v⟩] 20), #[]⟩
noncomputable def ob28 (P : Params) : Obj := mainC P (.int 45 1243)
noncomputable def ob29 (P : Params) : Obj := ⟨(.type "list"), none, (.seq ⟨[itm 0, itm 1, itm 2, itm 3, itm 4, itm 5, itm 6, itm 7, itm 8, itm 9, itm 10, itm 11, itm 12, itm 13, itm 14, itm 15, itm 16, itm 17, itm 18, itm 19, itm 20, itm 21, itm 22, itm 23, itm 24, itm 25, itm 26, itm 27, itm 28, itm 29, itm 30, itm 31, itm 32, itm 33, itm 34, itm 35, itm 36, itm 37, itm 38, itm 39, itm 40, itm 41, itm 42, itm 43, itm 44, ch #[45] 1245, itm 46, itm 47, itm 48, itm 49, itm 50, itm 51, itm 52, itm 53, itm 54, itm 55, itm 56, itm 57, itm 58, itm 59, itm 60, itm 61, itm 62, itm 63, itm 64, itm 65, itm 66, itm 67, itm 68, itm 69, itm 70, itm 71, itm 72, itm 73, itm 74, itm 75, itm 76, itm 77, itm 78, itm 79, itm 80, itm 81, itm 82, itm 83, itm 84, itm 85, itm 86, itm 87, itm 88, itm 89, itm 90, itm 91, itm 92, itm 93, itm 94, itm 95, itm 96, itm 97, itm 98, itm 99, itm 100, itm 101, itm 102, itm 103, itm 104, itm 105, itm 106, itm 107, itm 108, itm 109, itm 110, itm 111, itm 112, itm 113, itm 114, itm 115, itm 116, itm 117, itm 118, itm 119, itm 120, itm 121, itm 122, itm 123, itm 124, itm 125, itm 126, itm 127, itm 128, itm 129, itm 130, itm 131, itm 132, itm 133, itm 134, itm 135, itm 136, itm 137, itm 138, itm 139, itm 140, itm 141, itm 142, itm 143, itm 144, itm 145, itm 146, itm 147, itm 148, itm 149, itm 150, itm 151, itm 152, itm 153, itm 154, itm 155, itm 156, itm 157, itm 158, itm 159, itm 160, itm 161, itm 162, itm 163, itm 164, itm 165, itm 166, itm 167, itm 168, itm 169, itm 170, itm 171, itm 172, itm 173, itm 174, itm 175, itm 176, itm 177, itm 178, itm 179, itm 180, itm 181, itm 182, itm 183, itm 184, itm 185, itm 186, itm 187, itm 188, itm 189, itm 190, itm 191, itm 192, itm 193, itm 194, itm 195, itm 196, itm 197, itm 198, itm 199, itm 200, itm 201, itm 202, itm 203, itm 204, itm 205, itm 206, itm 207, itm 208, itm 209, itm 210, itm 211, itm 212, itm 213, itm 214, itm 215, itm 216, itm 217, itm 218, itm 219, itm 220, itm 221, itm 222, itm 223, itm 224, itm 225, itm 226, itm 227, itm 228, itm 229, itm 230, itm 231, itm 232, itm 233, itm 234, itm 235, itm 236, itm 237, itm 238, itm 239, itm 240, itm 241, itm 242, itm 243, itm 244, itm 245, itm 246, itm 247, itm 248, itm 249, itm 250, itm 251, itm 252, itm 253, itm 254, itm 255]⟩ 0), #[]⟩
noncomputable def by0 : Value := (.bytes #[45, 33, 42, 43, 47, 97, 98, 99, 100, 101, 102, 103, 104, 105, 106, 107, 108, 109, 110, 111, 112, 113, 114, 115, 116, 117, 118, 119, 120, 121, 122, 65, 66, 67, 68, 69, 70, 71, 72, 73, 74, 75, 76, 77, 78, 79, 80, 81, 82, 83, 84, 85, 86, 87, 88, 89, 90, 48, 49, 50, 51, 52, 53, 54, 55, 56, 57] 1242)
noncomputable def ob30 (P : Params) : Obj := ⟨(.type "bytes_iterator"), none, (.fields #[by0, (.int 1 0)]), #[]⟩
noncomputable def tree_Y11_1 (P : Params) : BT :=
  (.node (ob0 P) (.node (ob1 P) (.node (ob28 P) (.node (ob7 P) (.node (ob17 P) .nil .nil) (.node (ob26 P) .nil .nil)) (.node (ob11 P) (.node (ob21 P) .nil .nil) .nil)) (.node (ob5 P) (.node (ob9 P) (.node (ob19 P) .nil .nil) (.node (ob30 P) .nil .nil)) (.node (ob13 P) (.node (ob24 P) .nil .nil) .nil))) (.node (ob2 P) (.node (ob4 P) (.node (ob8 P) (.node (ob18 P) .nil .nil) (.node (ob27 P) .nil .nil)) (.node (ob12 P) (.node (ob22 P) .nil .nil) .nil)) (.node (ob6 P) (.node (ob10 P) (.node (ob20 P) .nil .nil) .nil) (.node (ob14 P) (.node (ob29 P) .nil .nil) .nil))))
noncomputable def Y11_1 (w : World) (os : OsState) : SharedT := ⟨tree_Y11_1 w.params, 26, {}, #[], {}, 1246, os⟩
noncomputable def ob31 (P : Params) : Obj := mainC P (.int 103 1276)
noncomputable def ob32 (P : Params) : Obj := ⟨(.type "list"), none, (.seq ⟨[itm 0, itm 1, itm 2, itm 3, itm 4, itm 5, itm 6, itm 7, itm 8, itm 9, itm 10, itm 11, itm 12, itm 13, itm 14, itm 15, itm 16, itm 17, itm 18, itm 19, itm 20, itm 21, itm 22, itm 23, itm 24, itm 25, itm 26, itm 27, itm 28, itm 29, itm 30, itm 31, itm 32, ch #[33] 1248, itm 34, itm 35, itm 36, itm 37, itm 38, itm 39, itm 40, itm 41, ch #[42] 1251, ch #[43] 1254, itm 44, ch #[45] 1245, itm 46, ch #[47] 1257, itm 48, itm 49, itm 50, itm 51, itm 52, itm 53, itm 54, itm 55, itm 56, itm 57, itm 58, itm 59, itm 60, itm 61, itm 62, itm 63, itm 64, itm 65, itm 66, itm 67, itm 68, itm 69, itm 70, itm 71, itm 72, itm 73, itm 74, itm 75, itm 76, itm 77, itm 78, itm 79, itm 80, itm 81, itm 82, itm 83, itm 84, itm 85, itm 86, itm 87, itm 88, itm 89, itm 90, itm 91, itm 92, itm 93, itm 94, itm 95, itm 96, ch #[97] 1260, ch #[98] 1263, ch #[99] 1266, ch #[100] 1269, ch #[101] 1272, ch #[102] 1275, ch #[103] 1278, itm 104, itm 105, itm 106, itm 107, itm 108, itm 109, itm 110, itm 111, itm 112, itm 113, itm 114, itm 115, itm 116, itm 117, itm 118, itm 119, itm 120, itm 121, itm 122, itm 123, itm 124, itm 125, itm 126, itm 127, itm 128, itm 129, itm 130, itm 131, itm 132, itm 133, itm 134, itm 135, itm 136, itm 137, itm 138, itm 139, itm 140, itm 141, itm 142, itm 143, itm 144, itm 145, itm 146, itm 147, itm 148, itm 149, itm 150, itm 151, itm 152, itm 153, itm 154, itm 155, itm 156, itm 157, itm 158, itm 159, itm 160, itm 161, itm 162, itm 163, itm 164, itm 165, itm 166, itm 167, itm 168, itm 169, itm 170, itm 171, itm 172, itm 173, itm 174, itm 175, itm 176, itm 177, itm 178, itm 179, itm 180, itm 181, itm 182, itm 183, itm 184, itm 185, itm 186, itm 187, itm 188, itm 189, itm 190, itm 191, itm 192, itm 193, itm 194, itm 195, itm 196, itm 197, itm 198, itm 199, itm 200, itm 201, itm 202, itm 203, itm 204, itm 205, itm 206, itm 207, itm 208, itm 209, itm 210, itm 211, itm 212, itm 213, itm 214, itm 215, itm 216, itm 217, itm 218, itm 219, itm 220, itm 221, itm 222, itm 223, itm 224, itm 225, itm 226, itm 227, itm 228, itm 229, itm 230, itm 231, itm 232, itm 233, itm 234, itm 235, itm 236, itm 237, itm 238, itm 239, itm 240, itm 241, itm 242, itm 243, itm 244, itm 245, itm 246, itm 247, itm 248, itm 249, itm 250, itm 251, itm 252, itm 253, itm 254, itm 255]⟩ 0), #[]⟩
noncomputable def ob33 (P : Params) : Obj := ⟨(.type "bytes_iterator"), none, (.fields #[by0, (.int 12 0)]), #[]⟩
noncomputable def tree_Y11_12 (P : Params) : BT :=
  (.node (ob0 P) (.node (ob1 P) (.node (ob31 P) (.node (ob7 P) (.node (ob17 P) .nil .nil) (.node (ob26 P) .nil .nil)) (.node (ob11 P) (.node (ob21 P) .nil .nil) .nil)) (.node (ob5 P) (.node (ob9 P) (.node (ob19 P) .nil .nil) (.node (ob33 P) .nil .nil)) (.node (ob13 P) (.node (ob24 P) .nil .nil) .nil))) (.node (ob2 P) (.node (ob4 P) (.node (ob8 P) (.node (ob18 P) .nil .nil) (.node (ob27 P) .nil .nil)) (.node (ob12 P) (.node (ob22 P) .nil .nil) .nil)) (.node (ob6 P) (.node (ob10 P) (.node (ob20 P) .nil .nil) .nil) (.node (ob14 P) (.node (ob32 P) .nil .nil) .nil))))
noncomputable def Y11_12 (w : World) (os : OsState) : SharedT := ⟨tree_Y11_12 w.params, 26, {}, #[], {}, 1279, os⟩
noncomputable def ob34 (P : Params) : Obj := mainC P (.int 114 1309)
noncomputable def ob35 (P : Params) : Obj := ⟨(.type "list"), none, (.seq ⟨[itm 0, itm 1, itm 2, itm 3, itm 4, itm 5, itm 6, itm 7, itm 8, itm 9, itm 10, itm 11, itm 12, itm 13, itm 14, itm 15, itm 16, itm 17, itm 18, itm 19, itm 20, itm 21, itm 22, itm 23, itm 24, itm 25, itm 26, itm 27, itm 28, itm 29, itm 30, itm 31, itm 32, ch #[33] 1248, itm 34, itm 35, itm 36, itm 37, itm 38, itm 39, itm 40, itm 41, ch #[42] 1251, ch #[43] 1254, itm 44, ch #[45] 1245, itm 46, ch #[47] 1257, itm 48, itm 49, itm 50, itm 51, itm 52, itm 53, itm 54, itm 55, itm 56, itm 57, itm 58, itm 59, itm 60, itm 61, itm 62, itm 63, itm 64, itm 65, itm 66, itm 67, itm 68, itm 69, itm 70, itm 71, itm 72, itm 73, itm 74, itm 75, itm 76, itm 77, itm 78, itm 79, itm 80, itm 81, itm 82, itm 83, itm 84, itm 85, itm 86, itm 87, itm 88, itm 89, itm 90, itm 91, itm 92, itm 93, itm 94, itm 95, itm 96, ch #[97] 1260, ch #[98] 1263, ch #[99] 1266, ch #[100] 1269, ch #[101] 1272, ch #[102] 1275, ch #[103] 1278, ch #[104] 1281, ch #[105] 1284, ch #[106] 1287, ch #[107] 1290, ch #[108] 1293, ch #[109] 1296, ch #[110] 1299, ch #[111] 1302, ch #[112] 1305, ch #[113] 1308, ch #[114] 1311, itm 115, itm 116, itm 117, itm 118, itm 119, itm 120, itm 121, itm 122, itm 123, itm 124, itm 125, itm 126, itm 127, itm 128, itm 129, itm 130, itm 131, itm 132, itm 133, itm 134, itm 135, itm 136, itm 137, itm 138, itm 139, itm 140, itm 141, itm 142, itm 143, itm 144, itm 145, itm 146, itm 147, itm 148, itm 149, itm 150, itm 151, itm 152, itm 153, itm 154, itm 155, itm 156, itm 157, itm 158, itm 159, itm 160, itm 161, itm 162, itm 163, itm 164, itm 165, itm 166, itm 167, itm 168, itm 169, itm 170, itm 171, itm 172, itm 173, itm 174, itm 175, itm 176, itm 177, itm 178, itm 179, itm 180, itm 181, itm 182, itm 183, itm 184, itm 185, itm 186, itm 187, itm 188, itm 189, itm 190, itm 191, itm 192, itm 193, itm 194, itm 195, itm 196, itm 197, itm 198, itm 199, itm 200, itm 201, itm 202, itm 203, itm 204, itm 205, itm 206, itm 207, itm 208, itm 209, itm 210, itm 211, itm 212, itm 213, itm 214, itm 215, itm 216, itm 217, itm 218, itm 219, itm 220, itm 221, itm 222, itm 223, itm 224, itm 225, itm 226, itm 227, itm 228, itm 229, itm 230, itm 231, itm 232, itm 233, itm 234, itm 235, itm 236, itm 237, itm 238, itm 239, itm 240, itm 241, itm 242, itm 243, itm 244, itm 245, itm 246, itm 247, itm 248, itm 249, itm 250, itm 251, itm 252, itm 253, itm 254, itm 255]⟩ 0), #[]⟩
noncomputable def ob36 (P : Params) : Obj := ⟨(.type "bytes_iterator"), none, (.fields #[by0, (.int 23 0)]), #[]⟩
noncomputable def tree_Y11_23 (P : Params) : BT :=
  (.node (ob0 P) (.node (ob1 P) (.node (ob34 P) (.node (ob7 P) (.node (ob17 P) .nil .nil) (.node (ob26 P) .nil .nil)) (.node (ob11 P) (.node (ob21 P) .nil .nil) .nil)) (.node (ob5 P) (.node (ob9 P) (.node (ob19 P) .nil .nil) (.node (ob36 P) .nil .nil)) (.node (ob13 P) (.node (ob24 P) .nil .nil) .nil))) (.node (ob2 P) (.node (ob4 P) (.node (ob8 P) (.node (ob18 P) .nil .nil) (.node (ob27 P) .nil .nil)) (.node (ob12 P) (.node (ob22 P) .nil .nil) .nil)) (.node (ob6 P) (.node (ob10 P) (.node (ob20 P) .nil .nil) .nil) (.node (ob14 P) (.node (ob35 P) .nil .nil) .nil))))
noncomputable def Y11_23 (w : World) (os : OsState) : SharedT := ⟨tree_Y11_23 w.params, 26, {}, #[], {}, 1312, os⟩
noncomputable def ob37 (P : Params) : Obj := mainC P (.int 67 1342)
noncomputable def ob38 (P : Params) : Obj := ⟨(.type "list"), none, (.seq ⟨[itm 0, itm 1, itm 2, itm 3, itm 4, itm 5, itm 6, itm 7, itm 8, itm 9, itm 10, itm 11, itm 12, itm 13, itm 14, itm 15, itm 16, itm 17, itm 18, itm 19, itm 20, itm 21, itm 22, itm 23, itm 24, itm 25, itm 26, itm 27, itm 28, itm 29, itm 30, itm 31, itm 32, ch #[33] 1248, itm 34, itm 35, itm 36, itm 37, itm 38, itm 39, itm 40, itm 41, ch #[42] 1251, ch #[43] 1254, itm 44, ch #[45] 1245, itm 46, ch #[47] 1257, itm 48, itm 49, itm 50, itm 51, itm 52, itm 53, itm 54, itm 55, itm 56, itm 57, itm 58, itm 59, itm 60, itm 61, itm 62, itm 63, itm 64, ch #[65] 1338, ch #[66] 1341, ch #[67] 1344, itm 68, itm 69, itm 70, itm 71, itm 72, itm 73, itm 74, itm 75, itm 76, itm 77, itm 78, itm 79, itm 80, itm 81, itm 82, itm 83, itm 84, itm 85, itm 86, itm 87, itm 88, itm 89, itm 90, itm 91, itm 92, itm 93, itm 94, itm 95, itm 96, ch #[97] 1260, ch #[98] 1263, ch #[99] 1266, ch #[100] 1269, ch #[101] 1272, ch #[102] 1275, ch #[103] 1278, ch #[104] 1281, ch #[105] 1284, ch #[106] 1287, ch #[107] 1290, ch #[108] 1293, ch #[109] 1296, ch #[110] 1299, ch #[111] 1302, ch #[112] 1305, ch #[113] 1308, ch #[114] 1311, ch #[115] 1314, ch #[116] 1317, ch #[117] 1320, ch #[118] 1323, ch #[119] 1326, ch #[120] 1329, ch #[121] 1332, ch #[122] 1335, itm 123, itm 124, itm 125, itm 126, itm 127, itm 128, itm 129, itm 130, itm 131, itm 132, itm 133, itm 134, itm 135, itm 136, itm 137, itm 138, itm 139, itm 140, itm 141, itm 142, itm 143, itm 144, itm 145, itm 146, itm 147, itm 148, itm 149, itm 150, itm 151, itm 152, itm 153, itm 154, itm 155, itm 156, itm 157, itm 158, itm 159, itm 160, itm 161, itm 162, itm 163, itm 164, itm 165, itm 166, itm 167, itm 168, itm 169, itm 170, itm 171, itm 172, itm 173, itm 174, itm 175, itm 176, itm 177, itm 178, itm 179, itm 180, itm 181, itm 182, itm 183, itm 184, itm 185, itm 186, itm 187, itm 188, itm 189, itm 190, itm 191, itm 192, itm 193, itm 194, itm 195, itm 196, itm 197, itm 198, itm 199, itm 200, itm 201, itm 202, itm 203, itm 204, itm 205, itm 206, itm 207, itm 208, itm 209, itm 210, itm 211, itm 212, itm 213, itm 214, itm 215, itm 216, itm 217, itm 218, itm 219, itm 220, itm 221, itm 222, itm 223, itm 224, itm 225, itm 226, itm 227, itm 228, itm 229, itm 230, itm 231, itm 232, itm 233, itm 234, itm 235, itm 236, itm 237, itm 238, itm 239, itm 240, itm 241, itm 242, itm 243, itm 244, itm 245, itm 246, itm 247, itm 248, itm 249, itm 250, itm 251, itm 252, itm 253, itm 254, itm 255]⟩ 0), #[]⟩
noncomputable def ob39 (P : Params) : Obj := ⟨(.type "bytes_iterator"), none, (.fields #[by0, (.int 34 0)]), #[]⟩
noncomputable def tree_Y11_34 (P : Params) : BT :=
  (.node (ob0 P) (.node (ob1 P) (.node (ob37 P) (.node (ob7 P) (.node (ob17 P) .nil .nil) (.node (ob26 P) .nil .nil)) (.node (ob11 P) (.node (ob21 P) .nil .nil) .nil)) (.node (ob5 P) (.node (ob9 P) (.node (ob19 P) .nil .nil) (.node (ob39 P) .nil .nil)) (.node (ob13 P) (.node (ob24 P) .nil .nil) .nil))) (.node (ob2 P) (.node (ob4 P) (.node (ob8 P) (.node (ob18 P) .nil .nil) (.node (ob27 P) .nil .nil)) (.node (ob12 P) (.node (ob22 P) .nil .nil) .nil)) (.node (ob6 P) (.node (ob10 P) (.node (ob20 P) .nil .nil) .nil) (.node (ob14 P) (.node (ob38 P) .nil .nil) .nil))))
noncomputable def Y11_34 (w : World) (os : OsState) : SharedT := ⟨tree_Y11_34 w.params, 26, {}, #[], {}, 1345, os⟩
noncomputable def ob40 (P : Params) : Obj := mainC P (.int 78 1375)
noncomputable def ob41 (P : Params) : Obj := ⟨(.type "list"), none, (.seq ⟨[itm 0, itm 1, itm 2, itm 3, itm 4, itm 5, itm 6, itm 7, itm 8, itm 9, itm 10, itm 11, itm 12, itm 13, itm 14, itm 15, itm 16, itm 17, itm 18, itm 19, itm 20, itm 21, itm 22, itm 23, itm 24, itm 25, itm 26, itm 27, itm 28, itm 29, itm 30, itm 31, itm 32, ch #[33] 1248, itm 34, itm 35, itm 36, itm 37, itm 38, itm 39, itm 40, itm 41, ch #[42] 1251, ch #[43] 1254, itm 44, ch #[45] 1245, itm 46, ch #[47] 1257, itm 48, itm 49, itm 50, itm 51, itm 52, itm 53, itm 54, itm 55, itm 56, itm 57, itm 58, itm 59, itm 60, itm 61, itm 62, itm 63, itm 64, ch #[65] 1338, ch #[66] 1341, ch #[67] 1344, ch #[68] 1347, ch #[69] 1350, ch #[70] 1353, ch #[71] 1356, ch #[72] 1359, ch #[73] 1362, ch #[74] 1365, ch #[75] 1368, ch #[76] 1371, ch #[77] 1374, ch #[78] 1377, itm 79, itm 80, itm 81, itm 82, itm 83, itm 84, itm 85, itm 86, itm 87, itm 88, itm 89, itm 90, itm 91, itm 92, itm 93, itm 94, itm 95, itm 96, ch #[97] 1260, ch #[98] 1263, ch #[99] 1266, ch #[100] 1269, ch #[101] 1272, ch #[102] 1275, ch #[103] 1278, ch #[104] 1281, ch #[105] 1284, ch #[106] 1287, ch #[107] 1290, ch #[108] 1293, ch #[109] 1296, ch #[110] 1299, ch #[111] 1302, ch #[112] 1305, ch #[113] 1308, ch #[114] 1311, ch #[115] 1314, ch #[116] 1317, ch #[117] 1320, ch #[118] 1323, ch #[119] 1326, ch #[120] 1329, ch #[121] 1332, ch #[122] 1335, itm 123, itm 124, itm 125, itm 126, itm 127, itm 128, itm 129, itm 130, itm 131, itm 132, itm 133, itm 134, itm 135, itm 136, itm 137, itm 138, itm 139, itm 140, itm 141, itm 142, itm 143, itm 144, itm 145, itm 146, itm 147, itm 148, itm 149, itm 150, itm 151, itm 152, itm 153, itm 154, itm 155, itm 156, itm 157, itm 158, itm 159, itm 160, itm 161, itm 162, itm 163, itm 164, itm 165, itm 166, itm 167, itm 168, itm 169, itm 170, itm 171, itm 172, itm 173, itm 174, itm 175, itm 176, itm 177, itm 178, itm 179, itm 180, itm 181, itm 182, itm 183, itm 184, itm 185, itm 186, itm 187, itm 188, itm 189, itm 190, itm 191, itm 192, itm 193, itm 194, itm 195, itm 196, itm 197, itm 198, itm 199, itm 200, itm 201, itm 202, itm 203, itm 204, itm 205, itm 206, itm 207, itm 208, itm 209, itm 210, itm 211, itm 212, itm 213, itm 214, itm 215, itm 216, itm 217, itm 218, itm 219, itm 220, itm 221, itm 222, itm 223, itm 224, itm 225, itm 226, itm 227, itm 228, itm 229, itm 230, itm 231, itm 232, itm 233, itm 234, itm 235, itm 236, itm 237, itm 238, itm 239, itm 240, itm 241, itm 242, itm 243, itm 244, itm 245, itm 246, itm 247, itm 248, itm 249, itm 250, itm 251, itm 252, itm 253, itm 254, itm 255]⟩ 0), #[]⟩
noncomputable def ob42 (P : Params) : Obj := ⟨(.type "bytes_iterator"), none, (.fields #[by0, (.int 45 0)]), #[]⟩
noncomputable def tree_Y11_45 (P : Params) : BT :=
  (.node (ob0 P) (.node (ob1 P) (.node (ob40 P) (.node (ob7 P) (.node (ob17 P) .nil .nil) (.node (ob26 P) .nil .nil)) (.node (ob11 P) (.node (ob21 P) .nil .nil) .nil)) (.node (ob5 P) (.node (ob9 P) (.node (ob19 P) .nil .nil) (.node (ob42 P) .nil .nil)) (.node (ob13 P) (.node (ob24 P) .nil .nil) .nil))) (.node (ob2 P) (.node (ob4 P) (.node (ob8 P) (.node (ob18 P) .nil .nil) (.node (ob27 P) .nil .nil)) (.node (ob12 P) (.node (ob22 P) .nil .nil) .nil)) (.node (ob6 P) (.node (ob10 P) (.node (ob20 P) .nil .nil) .nil) (.node (ob14 P) (.node (ob41 P) .nil .nil) .nil))))
noncomputable def Y11_45 (w : World) (os : OsState) : SharedT := ⟨tree_Y11_45 w.params, 26, {}, #[], {}, 1378, os⟩
noncomputable def ob43 (P : Params) : Obj := mainC P (.int 89 1408)
noncomputable def ob44 (P : Params) : Obj := ⟨(.type "list"), none, (.seq ⟨[itm 0, itm 1, itm 2, itm 3, itm 4, itm 5, itm 6, itm 7, itm 8, itm 9, itm 10, itm 11, itm 12, itm 13, itm 14, itm 15, itm 16, itm 17, itm 18, itm 19, itm 20, itm 21, itm 22, itm 23, itm 24, itm 25, itm 26, itm 27, itm 28, itm 29, itm 30, itm 31, itm 32, ch #[33] 1248, itm 34, itm 35, itm 36, itm 37, itm 38, itm 39, itm 40, itm 41, ch #[42] 1251, ch #[43] 1254, itm 44, ch #[45] 1245, itm 46, ch #[47] 1257, itm 48, itm 49, itm 50, itm 51, itm 52, itm 53, itm 54, itm 55, itm 56, itm 57, itm 58, itm 59, itm 60, itm 61, itm 62, itm 63, itm 64, ch #[65] 1338, ch #[66] 1341, ch #[67] 1344, ch #[68] 1347, ch #[69] 1350, ch #[70] 1353, ch #[71] 1356, ch #[72] 1359, ch #[73] 1362, ch #[74] 1365, ch #[75] 1368, ch #[76] 1371, ch #[77] 1374, ch #[78] 1377, ch #[79] 1380, ch #[80] 1383, ch #[81] 1386, ch #[82] 1389, ch #[83] 1392, ch #[84] 1395, ch #[85] 1398, ch #[86] 1401, ch #[87] 1404, ch #[88] 1407, ch #[89] 1410, itm 90, itm 91, itm 92, itm 93, itm 94, itm 95, itm 96, ch #[97] 1260, ch #[98] 1263, ch #[99] 1266, ch #[100] 1269, ch #[101] 1272, ch #[102] 1275, ch #[103] 1278, ch #[104] 1281, ch #[105] 1284, ch #[106] 1287, ch #[107] 1290, ch #[108] 1293, ch #[109] 1296, ch #[110] 1299, ch #[111] 1302, ch #[112] 1305, ch #[113] 1308, ch #[114] 1311, ch #[115] 1314, ch #[116] 1317, ch #[117] 1320, ch #[118] 1323, ch #[119] 1326, ch #[120] 1329, ch #[121] 1332, ch #[122] 1335, itm 123, itm 124, itm 125, itm 126, itm 127, itm 128, itm 129, itm 130, itm 131, itm 132, itm 133, itm 134, itm 135, itm 136, itm 137, itm 138, itm 139, itm 140, itm 141, itm 142, itm 143, itm 144, itm 145, itm 146, itm 147, itm 148, itm 149, itm 150, itm 151, itm 152, itm 153, itm 154, itm 155, itm 156, itm 157, itm 158, itm 159, itm 160, itm 161, itm 162, itm 163, itm 164, itm 165, itm 166, itm 167, itm 168, itm 169, itm 170, itm 171, itm 172, itm 173, itm 174, itm 175, itm 176, itm 177, itm 178, itm 179, itm 180, itm 181, itm 182, itm 183, itm 184, itm 185, itm 186, itm 187, itm 188, itm 189, itm 190, itm 191, itm 192, itm 193, itm 194, itm 195, itm 196, itm 197, itm 198, itm 199, itm 200, itm 201, itm 202, itm 203, itm 204, itm 205, itm 206, itm 207, itm 208, itm 209, itm 210, itm 211, itm 212, itm 213, itm 214, itm 215, itm 216, itm 217, itm 218, itm 219, itm 220, itm 221, itm 222, itm 223, itm 224, itm 225, itm 226, itm 227, itm 228, itm 229, itm 230, itm 231, itm 232, itm 233, itm 234, itm 235, itm 236, itm 237, itm 238, itm 239, itm 240, itm 241, itm 242, itm 243, itm 244, itm 245, itm 246, itm 247, itm 248, itm 249, itm 250, itm 251, itm 252, itm 253, itm 254, itm 255]⟩ 0), #[]⟩
noncomputable def ob45 (P : Params) : Obj := ⟨(.type "bytes_iterator"), none, (.fields #[by0, (.int 56 0)]), #[]⟩
noncomputable def tree_Y11_56 (P : Params) : BT :=
  (.node (ob0 P) (.node (ob1 P) (.node (ob43 P) (.node (ob7 P) (.node (ob17 P) .nil .nil) (.node (ob26 P) .nil .nil)) (.node (ob11 P) (.node (ob21 P) .nil .nil) .nil)) (.node (ob5 P) (.node (ob9 P) (.node (ob19 P) .nil .nil) (.node (ob45 P) .nil .nil)) (.node (ob13 P) (.node (ob24 P) .nil .nil) .nil))) (.node (ob2 P) (.node (ob4 P) (.node (ob8 P) (.node (ob18 P) .nil .nil) (.node (ob27 P) .nil .nil)) (.node (ob12 P) (.node (ob22 P) .nil .nil) .nil)) (.node (ob6 P) (.node (ob10 P) (.node (ob20 P) .nil .nil) .nil) (.node (ob14 P) (.node (ob44 P) .nil .nil) .nil))))
noncomputable def Y11_56 (w : World) (os : OsState) : SharedT := ⟨tree_Y11_56 w.params, 26, {}, #[], {}, 1411, os⟩
noncomputable def ob46 (P : Params) : Obj := mainC P (.int 57 1441)
noncomputable def ob47 (P : Params) : Obj := ⟨(.type "list"), none, (.seq ⟨[itm 0, itm 1, itm 2, itm 3, itm 4, itm 5, itm 6, itm 7, itm 8, itm 9, itm 10, itm 11, itm 12, itm 13, itm 14, itm 15, itm 16, itm 17, itm 18, itm 19, itm 20, itm 21, itm 22, itm 23, itm 24, itm 25, itm 26, itm 27, itm 28, itm 29, itm 30, itm 31, itm 32, ch #[33] 1248, itm 34, itm 35, itm 36, itm 37, itm 38, itm 39, itm 40, itm 41, ch #[42] 1251, ch #[43] 1254, itm 44, ch #[45] 1245, itm 46, ch #[47] 1257, ch #[48] 1416, ch #[49] 1419, ch #[50] 1422, ch #[51] 1425, ch #[52] 1428, ch #[53] 1431, ch #[54] 1434, ch #[55] 1437, ch #[56] 1440, ch #[57] 1443, itm 58, itm 59, itm 60, itm 61, itm 62, itm 63, itm 64, ch #[65] 1338, ch #[66] 1341, ch #[67] 1344, ch #[68] 1347, ch #[69] 1350, ch #[70] 1353, ch #[71] 1356, ch #[72] 1359, ch #[73] 1362, ch #[74] 1365, ch #[75] 1368, ch #[76] 1371, ch #[77] 1374, ch #[78] 1377, ch #[79] 1380, ch #[80] 1383, ch #[81] 1386, ch #[82] 1389, ch #[83] 1392, ch #[84] 1395, ch #[85] 1398, ch #[86] 1401, ch #[87] 1404, ch #[88] 1407, ch #[89] 1410, ch #[90] 1413, itm 91, itm 92, itm 93, itm 94, itm 95, itm 96, ch #[97] 1260, ch #[98] 1263, ch #[99] 1266, ch #[100] 1269, ch #[101] 1272, ch #[102] 1275, ch #[103] 1278, ch #[104] 1281, ch #[105] 1284, ch #[106] 1287, ch #[107] 1290, ch #[108] 1293, ch #[109] 1296, ch #[110] 1299, ch #[111] 1302, ch #[112] 1305, ch #[113] 1308, ch #[114] 1311, ch #[115] 1314, ch #[116] 1317, ch #[117] 1320, ch #[118] 1323, ch #[119] 1326, ch #[120] 1329, ch #[121] 1332, ch #[122] 1335, itm 123, itm 124, itm 125, itm 126, itm 127, itm 128, itm 129, itm 130, itm 131, itm 132, itm 133, itm 134, itm 135, itm 136, itm 137, itm 138, itm 139, itm 140, itm 141, itm 142, itm 143, itm 144, itm 145, itm 146, itm 147, itm 148, itm 149, itm 150, itm 151, itm 152, itm 153, itm 154, itm 155, itm 156, itm 157, itm 158, itm 159, itm 160, itm 161, itm 162, itm 163, itm 164, itm 165, itm 166, itm 167, itm 168, itm 169, itm 170, itm 171, itm 172, itm 173, itm 174, itm 175, itm 176, itm 177, itm 178, itm 179, itm 180, itm 181, itm 182, itm 183, itm 184, itm 185, itm 186, itm 187, itm 188, itm 189, itm 190, itm 191, itm 192, itm 193, itm 194, itm 195, itm 196, itm 197, itm 198, itm 199, itm 200, itm 201, itm 202, itm 203, itm 204, itm 205, itm 206, itm 207, itm 208, itm 209, itm 210, itm 211, itm 212, itm 213, itm 214, itm 215, itm 216, itm 217, itm 218, itm 219, itm 220, itm 221, itm 222, itm 223, itm 224, itm 225, itm 226, itm 227, itm 228, itm 229, itm 230, itm 231, itm 232, itm 233, itm 234, itm 235, itm 236, itm 237, itm 238, itm 239, itm 240, itm 241, itm 242, itm 243, itm 244, itm 245, itm 246, itm 247, itm 248, itm 249, itm 250, itm 251, itm 252, itm 253, itm 254, itm 255]⟩ 0), #[]⟩
noncomputable def ob48 (P : Params) : Obj := ⟨(.type "bytes_iterator"), none, (.fields #[by0, (.int 67 0)]), #[]⟩
noncomputable def tree_Y11_67 (P : Params) : BT :=
  (.node (ob0 P) (.node (ob1 P) (.node (ob46 P) (.node (ob7 P) (.node (ob17 P) .nil .nil) (.node (ob26 P) .nil .nil)) (.node (ob11 P) (.node (ob21 P) .nil .nil) .nil)) (.node (ob5 P) (.node (ob9 P) (.node (ob19 P) .nil .nil) (.node (ob48 P) .nil .nil)) (.node (ob13 P) (.node (ob24 P) .nil .nil) .nil))) (.node (ob2 P) (.node (ob4 P) (.node (ob8 P) (.node (ob18 P) .nil .nil) (.node (ob27 P) .nil .nil)) (.node (ob12 P) (.node (ob22 P) .nil .nil) .nil)) (.node (ob6 P) (.node (ob10 P) (.node (ob20 P) .nil .nil) .nil) (.node (ob14 P) (.node (ob47 P) .nil .nil) .nil))))
noncomputable def Y11_67 (w : World) (os : OsState) : SharedT := ⟨tree_Y11_67 w.params, 26, {}, #[], {}, 1444, os⟩
noncomputable def ob49 (P : Params) : Obj := mainC P (.int 57 1441)
noncomputable def ob50 (P : Params) : Obj := ⟨(.type "list"), none, (.seq ⟨[itm 0, itm 1, itm 2, itm 3, itm 4, itm 5, itm 6, itm 7, itm 8, itm 9, itm 10, itm 11, itm 12, itm 13, itm 14, itm 15, itm 16, itm 17, itm 18, itm 19, itm 20, itm 21, itm 22, itm 23, itm 24, itm 25, itm 26, itm 27, itm 28, itm 29, itm 30, itm 31, itm 32, ch #[33] 1248, itm 34, itm 35, itm 36, itm 37, itm 38, itm 39, itm 40, itm 41, ch #[42] 1251, ch #[43] 1254, itm 44, ch #[45] 1245, itm 46, ch #[47] 1257, ch #[48] 1416, ch #[49] 1419, ch #[50] 1422, ch #[51] 1425, ch #[52] 1428, ch #[53] 1431, ch #[54] 1434, ch #[55] 1437, ch #[56] 1440, ch #[57] 1443, itm 58, itm 59, itm 60, itm 61, itm 62, itm 63, itm 64, ch #[65] 1338, ch #[66] 1341, ch #[67] 1344, ch #[68] 1347, ch #[69] 1350, ch #[70] 1353, ch #[71] 1356, ch #[72] 1359, ch #[73] 1362, ch #[74] 1365, ch #[75] 1368, ch #[76] 1371, ch #[77] 1374, ch #[78] 1377, ch #[79] 1380, ch #[80] 1383, ch #[81] 1386, ch #[82] 1389, ch #[83] 1392, ch #[84] 1395, ch #[85] 1398, ch #[86] 1401, ch #[87] 1404, ch #[88] 1407, ch #[89] 1410, ch #[90] 1413, itm 91, itm 92, itm 93, itm 94, itm 95, itm 96, ch #[97] 1260, ch #[98] 1263, ch #[99] 1266, ch #[100] 1269, ch #[101] 1272, ch #[102] 1275, ch #[103] 1278, ch #[104] 1281, ch #[105] 1284, ch #[106] 1287, ch #[107] 1290, ch #[108] 1293, ch #[109] 1296, ch #[110] 1299, ch #[111] 1302, ch #[112] 1305, ch #[113] 1308, ch #[114] 1311, ch #[115] 1314, ch #[116] 1317, ch #[117] 1320, ch #[118] 1323, ch #[119] 1326, ch #[120] 1329, ch #[121] 1332, ch #[122] 1335, itm 123, itm 124, itm 125, itm 126, itm 127, itm 128, itm 129, itm 130, itm 131, itm 132, itm 133, itm 134, itm 135, itm 136, itm 137, itm 138, itm 139, itm 140, itm 141, itm 142, itm 143, itm 144, itm 145, itm 146, itm 147, itm 148, itm 149, itm 150, itm 151, itm 152, itm 153, itm 154, itm 155, itm 156, itm 157, itm 158, itm 159, itm 160, itm 161, itm 162, itm 163, itm 164, itm 165, itm 166, itm 167, itm 168, itm 169, itm 170, itm 171, itm 172, itm 173, itm 174, itm 175, itm 176, itm 177, itm 178, itm 179, itm 180, itm 181, itm 182, itm 183, itm 184, itm 185, itm 186, itm 187, itm 188, itm 189, itm 190, itm 191, itm 192, itm 193, itm 194, itm 195, itm 196, itm 197, itm 198, itm 199, itm 200, itm 201, itm 202, itm 203, itm 204, itm 205, itm 206, itm 207, itm 208, itm 209, itm 210, itm 211, itm 212, itm 213, itm 214, itm 215, itm 216, itm 217, itm 218, itm 219, itm 220, itm 221, itm 222, itm 223, itm 224, itm 225, itm 226, itm 227, itm 228, itm 229, itm 230, itm 231, itm 232, itm 233, itm 234, itm 235, itm 236, itm 237, itm 238, itm 239, itm 240, itm 241, itm 242, itm 243, itm 244, itm 245, itm 246, itm 247, itm 248, itm 249, itm 250, itm 251, itm 252, itm 253, itm 254, itm 255]⟩ 0), #[]⟩
noncomputable def ob51 (P : Params) : Obj := ⟨(.type "bytes_iterator"), none, (.fields #[.none, (.int 67 0)]), #[]⟩
noncomputable def ob52 (P : Params) : Obj := ⟨(.type "tuple"), none, (.seq #[] 0), #[]⟩
noncomputable def ob53 (P : Params) : Obj := ⟨(.type "StopIteration"), none, (.fields #[(.ref 26), .none, .none, .none, (.bool false), .none]), #[]⟩
noncomputable def tree_X11 (P : Params) : BT :=
  (.node (ob0 P) (.node (ob1 P) (.node (ob49 P) (.node (ob7 P) (.node (ob17 P) .nil .nil) (.node (ob26 P) .nil .nil)) (.node (ob11 P) (.node (ob21 P) .nil .nil) (.node (ob53 P) .nil .nil))) (.node (ob5 P) (.node (ob9 P) (.node (ob19 P) .nil .nil) (.node (ob51 P) .nil .nil)) (.node (ob13 P) (.node (ob24 P) .nil .nil) .nil))) (.node (ob2 P) (.node (ob4 P) (.node (ob8 P) (.node (ob18 P) .nil .nil) (.node (ob27 P) .nil .nil)) (.node (ob12 P) (.node (ob22 P) .nil .nil) .nil)) (.node (ob6 P) (.node (ob10 P) (.node (ob20 P) .nil .nil) (.node (ob52 P) .nil .nil)) (.node (ob14 P) (.node (ob50 P) .nil .nil) .nil))))
noncomputable def X11 (w : World) (os : OsState) : SharedT := ⟨tree_X11 w.params, 28, {}, #[], {}, 1444, os⟩
noncomputable def ob54 (P : Params) : Obj := ⟨(.type "list"), none, (.seq ⟨[itm 0, itm 1, itm 2, itm 3, itm 4, itm 5, itm 6, itm 7, itm 8, itm 9, itm 10, itm 11, itm 12, itm 13, itm 14, itm 15, itm 16, itm 17, itm 18, itm 19, itm 20, itm 21, itm 22, itm 23, itm 24, itm 25, itm 26, itm 27, itm 28, itm 29, itm 30, itm 31, ch #[95] 1444, ch #[33] 1248, itm 34, itm 35, itm 36, itm 37, itm 38, itm 39, itm 40, itm 41, ch #[42] 1251, ch #[43] 1254, itm 44, ch #[45] 1245, itm 46, ch #[47] 1257, ch #[48] 1416, ch #[49] 1419, ch #[50] 1422, ch #[51] 1425, ch #[52] 1428, ch #[53] 1431, ch #[54] 1434, ch #[55] 1437, ch #[56] 1440, ch #[57] 1443, itm 58, itm 59, itm 60, itm 61, itm 62, itm 63, itm 64, ch #[65] 1338, ch #[66] 1341, ch #[67] 1344, ch #[68] 1347, ch #[69] 1350, ch #[70] 1353, ch #[71] 1356, ch #[72] 1359, ch #[73] 1362, ch #[74] 1365, ch #[75] 1368, ch #[76] 1371, ch #[77] 1374, ch #[78] 1377, ch #[79] 1380, ch #[80] 1383, ch #[81] 1386, ch #[82] 1389, ch #[83] 1392, ch #[84] 1395, ch #[85] 1398, ch #[86] 1401, ch #[87] 1404, ch #[88] 1407, ch #[89] 1410, ch #[90] 1413, itm 91, itm 92, itm 93, itm 94, itm 95, itm 96, ch #[97] 1260, ch #[98] 1263, ch #[99] 1266, ch #[100] 1269, ch #[101] 1272, ch #[102] 1275, ch #[103] 1278, ch #[104] 1281, ch #[105] 1284, ch #[106] 1287, ch #[107] 1290, ch #[108] 1293, ch #[109] 1296, ch #[110] 1299, ch #[111] 1302, ch #[112] 1305, ch #[113] 1308, ch #[114] 1311, ch #[115] 1314, ch #[116] 1317, ch #[117] 1320, ch #[118] 1323, ch #[119] 1326, ch #[120] 1329, ch #[121] 1332, ch #[122] 1335, itm 123, itm 124, itm 125, itm 126, itm 127, itm 128, itm 129, itm 130, itm 131, itm 132, itm 133, itm 134, itm 135, itm 136, itm 137, itm 138, itm 139, itm 140, itm 141, itm 142, itm 143, itm 144, itm 145, itm 146, itm 147, itm 148, itm 149, itm 150, itm 151, itm 152, itm 153, itm 154, itm 155, itm 156, itm 157, itm 158, itm 159, itm 160, itm 161, itm 162, itm 163, itm 164, itm 165, itm 166, itm 167, itm 168, itm 169, itm 170, itm 171, itm 172, itm 173, itm 174, itm 175, itm 176, itm 177, itm 178, itm 179, itm 180, itm 181, itm 182, itm 183, itm 184, itm 185, itm 186, itm 187, itm 188, itm 189, itm 190, itm 191, itm 192, itm 193, itm 194, itm 195, itm 196, itm 197, itm 198, itm 199, itm 200, itm 201, itm 202, itm 203, itm 204, itm 205, itm 206, itm 207, itm 208, itm 209, itm 210, itm 211, itm 212, itm 213, itm 214, itm 215, itm 216, itm 217, itm 218, itm 219, itm 220, itm 221, itm 222, itm 223, itm 224, itm 225, itm 226, itm 227, itm 228, itm 229, itm 230, itm 231, itm 232, itm 233, itm 234, itm 235, itm 236, itm 237, itm 238, itm 239, itm 240, itm 241, itm 242, itm 243, itm 244, itm 245, itm 246, itm 247, itm 248, itm 249, itm 250, itm 251, itm 252, itm 253, itm 254, itm 255]⟩ 0), #[]⟩
noncomputable def tree_X12 (P : Params) : BT :=
  (.node (ob0 P) (.node (ob1 P) (.node (ob49 P) (.node (ob7 P) (.node (ob17 P) .nil .nil) (.node (ob26 P) .nil .nil)) (.node (ob11 P) (.node (ob21 P) .nil .nil) (.node (ob53 P) .nil .nil))) (.node (ob5 P) (.node (ob9 P) (.node (ob19 P) .nil .nil) (.node (ob51 P) .nil .nil)) (.node (ob13 P) (.node (ob24 P) .nil .nil) .nil))) (.node (ob2 P) (.node (ob4 P) (.node (ob8 P) (.node (ob18 P) .nil .nil) (.node (ob27 P) .nil .nil)) (.node (ob12 P) (.node (ob22 P) .nil .nil) .nil)) (.node (ob6 P) (.node (ob10 P) (.node (ob20 P) .nil .nil) (.node (ob52 P) .nil .nil)) (.node (ob14 P) (.node (ob54 P) .nil .nil) .nil))))
noncomputable def X12 (w : World) (os : OsState) : SharedT := ⟨tree_X12 w.params, 28, {}, #[], {}, 1447, os⟩
noncomputable def ob55 (P : Params) : Obj := mainC P (.int 32 1448)
noncomputable def ob56 (P : Params) : Obj := ⟨(.type "list"), none, (.seq ⟨[itm 0, itm 1, itm 2, itm 3, itm 4, itm 5, itm 6, itm 7, itm 8, itm 9, itm 10, itm 11, itm 12, itm 13, itm 14, itm 15, itm 16, itm 17, itm 18, itm 19, itm 20, itm 21, itm 22, itm 23, itm 24, itm 25, itm 26, itm 27, itm 28, itm 29, itm 30, itm 31, ch #[32] 1450, itm 33, itm 34, itm 35, itm 36, itm 37, itm 38, itm 39, itm 40, itm 41, itm 42, itm 43, itm 44, itm 45, itm 46, itm 47, itm 48, itm 49, itm 50, itm 51, itm 52, itm 53, itm 54, itm 55, itm 56, itm 57, itm 58, itm 59, itm 60, itm 61, itm 62, itm 63, itm 64, itm 65, itm 66, itm 67, itm 68, itm 69, itm 70, itm 71, itm 72, itm 73, itm 74, itm 75, itm 76, itm 77, itm 78, itm 79, itm 80, itm 81, itm 82, itm 83, itm 84, itm 85, itm 86, itm 87, itm 88, itm 89, itm 90, itm 91, itm 92, itm 93, itm 94, itm 95, itm 96, itm 97, itm 98, itm 99, itm 100, itm 101, itm 102, itm 103, itm 104, itm 105, itm 106, itm 107, itm 108, itm 109, itm 110, itm 111, itm 112, itm 113, itm 114, itm 115, itm 116, itm 117, itm 118, itm 119, itm 120, itm 121, itm 122, itm 123, itm 124, itm 125, itm 126, itm 127, itm 128, itm 129, itm 130, itm 131, itm 132, itm 133, itm 134, itm 135, itm 136, itm 137, itm 138, itm 139, itm 140, itm 141, itm 142, itm 143, itm 144, itm 145, itm 146, itm 147, itm 148, itm 149, itm 150, itm 151, itm 152, itm 153, itm 154, itm 155, itm 156, itm 157, itm 158, itm 159, itm 160, itm 161, itm 162, itm 163, itm 164, itm 165, itm 166, itm 167, itm 168, itm 169, itm 170, itm 171, itm 172, itm 173, itm 174, itm 175, itm 176, itm 177, itm 178, itm 179, itm 180, itm 181, itm 182, itm 183, itm 184, itm 185, itm 186, itm 187, itm 188, itm 189, itm 190, itm 191, itm 192, itm 193, itm 194, itm 195, itm 196, itm 197, itm 198, itm 199, itm 200, itm 201, itm 202, itm 203, itm 204, itm 205, itm 206, itm 207, itm 208, itm 209, itm 210, itm 211, itm 212, itm 213, itm 214, itm 215, itm 216, itm 217, itm 218, itm 219, itm 220, itm 221, itm 222, itm 223, itm 224, itm 225, itm 226, itm 227, itm 228, itm 229, itm 230, itm 231, itm 232, itm 233, itm 234, itm 235, itm 236, itm 237, itm 238, itm 239, itm 240, itm 241, itm 242, itm 243, itm 244, itm 245, itm 246, itm 247, itm 248, itm 249, itm 250, itm 251, itm 252, itm 253, itm 254, itm 255]⟩ 0), #[]⟩
noncomputable def by1 : Value := (.bytes #[32, 33, 34, 35, 36, 37, 38, 39, 40, 41, 42, 43, 44, 45, 46, 47, 48, 49, 50, 51, 52, 53, 54, 55, 56, 57, 58, 59, 60, 62, 63, 64, 65, 66, 67, 68, 69, 70, 71, 72, 73, 74, 75, 76, 77, 78, 79, 80, 81, 82, 83, 84, 85, 86, 87, 88, 89, 90, 91, 92, 93, 94, 95, 96, 97, 98, 99, 100, 101, 102, 103, 104, 105, 106, 107, 108, 109, 110, 111, 112, 113, 114, 115, 116, 117, 118, 119, 120, 121, 122, 123, 124, 125, 126, 9] 1447)
noncomputable def ob57 (P : Params) : Obj := ⟨(.type "bytes_iterator"), none, (.fields #[by1, (.int 1 0)]), #[]⟩
noncomputable def tree_Y13_1 (P : Params) : BT :=
  (.node (ob0 P) (.node (ob1 P) (.node (ob55 P) (.node (ob7 P) (.node (ob17 P) .nil .nil) (.node (ob26 P) .nil .nil)) (.node (ob11 P) (.node (ob21 P) .nil .nil) (.node (ob53 P) .nil .nil))) (.node (ob5 P) (.node (ob9 P) (.node (ob19 P) .nil .nil) (.node (ob51 P) .nil .nil)) (.node (ob13 P) (.node (ob24 P) .nil .nil) .nil))) (.node (ob2 P) (.node (ob4 P) (.node (ob8 P) (.node (ob18 P) .nil .nil) (.node (ob56 P) .nil .nil)) (.node (ob12 P) (.node (ob22 P) .nil .nil) (.node (ob57 P) .nil .nil))) (.node (ob6 P) (.node (ob10 P) (.node (ob20 P) .nil .nil) (.node (ob52 P) .nil .nil)) (.node (ob14 P) (.node (ob54 P) .nil .nil) .nil))))
noncomputable def Y13_1 (w : World) (os : OsState) : SharedT := ⟨tree_Y13_1 w.params, 29, {}, #[], {}, 1451, os⟩
noncomputable def ob58 (P : Params) : Obj := mainC P (.int 43 1481)
noncomputable def ob59 (P : Params) : Obj := ⟨(.type "list"), none, (.seq ⟨[itm 0, itm 1, itm 2, itm 3, itm 4, itm 5, itm 6, itm 7, itm 8, itm 9, itm 10, itm 11, itm 12, itm 13, itm 14, itm 15, itm 16, itm 17, itm 18, itm 19, itm 20, itm 21, itm 22, itm 23, itm 24, itm 25, itm 26, itm 27, itm 28, itm 29, itm 30, itm 31, ch #[32] 1450, ch #[33] 1453, ch #[34] 1456, ch #[35] 1459, ch #[36] 1462, ch #[37] 1465, ch #[38] 1468, ch #[39] 1471, ch #[40] 1474, ch #[41] 1477, ch #[42] 1480, ch #[43] 1483, itm 44, itm 45, itm 46, itm 47, itm 48, itm 49, itm 50, itm 51, itm 52, itm 53, itm 54, itm 55, itm 56, itm 57, itm 58, itm 59, itm 60, itm 61, itm 62, itm 63, itm 64, itm 65, itm 66, itm 67, itm 68, itm 69, itm 70, itm 71, itm 72, itm 73, itm 74, itm 75, itm 76, itm 77, itm 78, itm 79, itm 80, itm 81, itm 82, itm 83, itm 84, itm 85, itm 86, itm 87, itm 88, itm 89, itm 90, itm 91, itm 92, itm 93, itm 94, itm 95, itm 96, itm 97, itm 98, itm 99, itm 100, itm 101, itm 102, itm 103, itm 104, itm 105, itm 106, itm 107, itm 108, itm 109, itm 110, itm 111, itm 112, itm 113, itm 114, itm 115, itm 116, itm 117, itm 118, itm 119, itm 120, itm 121, itm 122, itm 123, itm 124, itm 125, itm 126, itm 127, itm 128, itm 129, itm 130, itm 131, itm 132, itm 133, itm 134, itm 135, itm 136, itm 137, itm 138, itm 139, itm 140, itm 141, itm 142, itm 143, itm 144, itm 145, itm 146, itm 147, itm 148, itm 149, itm 150, itm 151, itm 152, itm 153, itm 154, itm 155, itm 156, itm 157, itm 158, itm 159, itm 160, itm 161, itm 162, itm 163, itm 164, itm 165, itm 166, itm 167, itm 168, itm 169, itm 170, itm 171, itm 172, itm 173, itm 174, itm 175, itm 176, itm 177, itm 178, itm 179, itm 180, itm 181, itm 182, itm 183, itm 184, itm 185, itm 186, itm 187, itm 188, itm 189, itm 190, itm 191, itm 192, itm 193, itm 194, itm 195, itm 196, itm 197, itm 198, itm 199, itm 200, itm 201, itm 202, itm 203, itm 204, itm 205, itm 206, itm 207, itm 208, itm 209, itm 210, itm 211, itm 212, itm 213, itm 214, itm 215, itm 216, itm 217, itm 218, itm 219, itm 220, itm 221, itm 222, itm 223, itm 224, itm 225, itm 226, itm 227, itm 228, itm 229, itm 230, itm 231, itm 232, itm 233, itm 234, itm 235, itm 236, itm 237, itm 238, itm 239, itm 240, itm 241, itm 242, itm 243, itm 244, itm 245, itm 246, itm 247, itm 248, itm 249, itm 250, itm 251, itm 252, itm 253, itm 254, itm 255]⟩ 0), #[]⟩
noncomputable def ob60 (P : Params) : Obj := ⟨(.type "bytes_iterator"), none, (.fields #[by1, (.int 12 0)]), #[]⟩
noncomputable def tree_Y13_12 (P : Params) : BT :=
  (.node (ob0 P) (.node (ob1 P) (.node (ob58 P) (.node (ob7 P) (.node (ob17 P) .nil .nil) (.node (ob26 P) .nil .nil)) (.node (ob11 P) (.node (ob21 P) .nil .nil) (.node (ob53 P) .nil .nil))) (.node (ob5 P) (.node (ob9 P) (.node (ob19 P) .nil .nil) (.node (ob51 P) .nil .nil)) (.node (ob13 P) (.node (ob24 P) .nil .nil) .nil))) (.node (ob2 P) (.node (ob4 P) (.node (ob8 P) (.node (ob18 P) .nil .nil) (.node (ob59 P) .nil .nil)) (.node (ob12 P) (.node (ob22 P) .nil .nil) (.node (ob60 P) .nil .nil))) (.node (ob6 P) (.node (ob10 P) (.node (ob20 P) .nil .nil) (.node (ob52 P) .nil .nil)) (.node (ob14 P) (.node (ob54 P) .nil .nil) .nil))))
noncomputable def Y13_12 (w : World) (os : OsState) : SharedT := ⟨tree_Y13_12 w.params, 29, {}, #[], {}, 1484, os⟩
noncomputable def ob61 (P : Params) : Obj := mainC P (.int 54 1514)
noncomputable def ob62 (P : Params) : Obj := ⟨(.type "list"), none, (.seq ⟨[itm 0, itm 1, itm 2, itm 3, itm 4, itm 5, itm 6, itm 7, itm 8, itm 9, itm 10, itm 11, itm 12, itm 13, itm 14, itm 15, itm 16, itm 17, itm 18, itm 19, itm 20, itm 21, itm 22, itm 23, itm 24, itm 25, itm 26, itm 27, itm 28, itm 29, itm 30, itm 31, ch #[32] 1450, ch #[33] 1453, ch #[34] 1456, ch #[35] 1459, ch #[36] 1462, ch #[37] 1465, ch #[38] 1468, ch #[39] 1471, ch #[40] 1474, ch #[41] 1477, ch #[42] 1480, ch #[43] 1483, ch #[44] 1486, ch #[45] 1489, ch #[46] 1492, ch #[47] 1495, ch #[48] 1498, ch #[49] 1501, ch #[50] 1504, ch #[51] 1507, ch #[52] 1510, ch #[53] 1513, ch #[54] 1516, itm 55, itm 56, itm 57, itm 58, itm 59, itm 60, itm 61, itm 62, itm 63, itm 64, itm 65, itm 66, itm 67, itm 68, itm 69, itm 70, itm 71, itm 72, itm 73, itm 74, itm 75, itm 76, itm 77, itm 78, itm 79, itm 80, itm 81, itm 82, itm 83, itm 84, itm 85, itm 86, itm 87, itm 88, itm 89, itm 90, itm 91, itm 92, itm 93, itm 94, itm 95, itm 96, itm 97, itm 98, itm 99, itm 100, itm 101, itm 102, itm 103, itm 104, itm 105, itm 106, itm 107, itm 108, itm 109, itm 110, itm 111, itm 112, itm 113, itm 114, itm 115, itm 116, itm 117, itm 118, itm 119, itm 120, itm 121, itm 122, itm 123, itm 124, itm 125, itm 126, itm 127, itm 128, itm 129, itm 130, itm 131, itm 132, itm 133, itm 134, itm 135, itm 136, itm 137, itm 138, itm 139, itm 140, itm 141, itm 142, itm 143, itm 144, itm 145, itm 146, itm 147, itm 148, itm 149, itm 150, itm 151, itm 152, itm 153, itm 154, itm 155, itm 156, itm 157, itm 158, itm 159, itm 160, itm 161, itm 162, itm 163, itm 164, itm 165, itm 166, itm 167, itm 168, itm 169, itm 170, itm 171, itm 172, itm 173, itm 174, itm 175, itm 176, itm 177, itm 178, itm 179, itm 180, itm 181, itm 182, itm 183, itm 184, itm 185, itm 186, itm 187, itm 188, itm 189, itm 190, itm 191, itm 192, itm 193, itm 194, itm 195, itm 196, itm 197, itm 198, itm 199, itm 200, itm 201, itm 202, itm 203, itm 204, itm 205, itm 206, itm 207, itm 208, itm 209, itm 210, itm 211, itm 212, itm 213, itm 214, itm 215, itm 216, itm 217, itm 218, itm 219, itm 220, itm 221, itm 222, itm 223, itm 224, itm 225, itm 226, itm 227, itm 228, itm 229, itm 230, itm 231, itm 232, itm 233, itm 234, itm 235, itm 236, itm 237, itm 238, itm 239, itm 240, itm 241, itm 242, itm 243, itm 244, itm 245, itm 246, itm 247, itm 248, itm 249, itm 250, itm 251, itm 252, itm 253, itm 254, itm 255]⟩ 0), #[]⟩
noncomputable def ob63 (P : Params) : Obj := ⟨(.type "bytes_iterator"), none, (.fields #[by1, (.int 23 0)]), #[]⟩
noncomputable def tree_Y13_23 (P : Params) : BT :=
  (.node (ob0 P) (.node (ob1 P) (.node (ob61 P) (.node (ob7 P) (.node (ob17 P) .nil .nil) (.node (ob26 P) .nil .nil)) (.node (ob11 P) (.node (ob21 P) .nil .nil) (.node (ob53 P) .nil .nil))) (.node (ob5 P) (.node (ob9 P) (.node (ob19 P) .nil .nil) (.node (ob51 P) .nil .nil)) (.node (ob13 P) (.node (ob24 P) .nil .nil) .nil))) (.node (ob2 P) (.node (ob4 P) (.node (ob8 P) (.node (ob18 P) .nil .nil) (.node (ob62 P) .nil .nil)) (.node (ob12 P) (.node (ob22 P) .nil .nil) (.node (ob63 P) .nil .nil))) (.node (ob6 P) (.node (ob10 P) (.node (ob20 P) .nil .nil) (.node (ob52 P) .nil .nil)) (.node (ob14 P) (.node (ob54 P) .nil .nil) .nil))))
noncomputable def Y13_23 (w : World) (os : OsState) : SharedT := ⟨tree_Y13_23 w.params, 29, {}, #[], {}, 1517, os⟩
noncomputable def ob64 (P : Params) : Obj := mainC P (.int 66 1547)
noncomputable def ob65 (P : Params) : Obj := ⟨(.type "list"), none, (.seq ⟨[itm 0, itm 1, itm 2, itm 3, itm 4, itm 5, itm 6, itm 7, itm 8, itm 9, itm 10, itm 11, itm 12, itm 13, itm 14, itm 15, itm 16, itm 17, itm 18, itm 19, itm 20, itm 21, itm 22, itm 23, itm 24, itm 25, itm 26, itm 27, itm 28, itm 29, itm 30, itm 31, ch #[32] 1450, ch #[33] 1453, ch #[34] 1456, ch #[35] 1459, ch #[36] 1462, ch #[37] 1465, ch #[38] 1468, ch #[39] 1471, ch #[40] 1474, ch #[41] 1477, ch #[42] 1480, ch #[43] 1483, ch #[44] 1486, ch #[45] 1489, ch #[46] 1492, ch #[47] 1495, ch #[48] 1498, ch #[49] 1501, ch #[50] 1504, ch #[51] 1507, ch #[52] 1510, ch #[53] 1513, ch #[54] 1516, ch #[55] 1519, ch #[56] 1522, ch #[57] 1525, ch #[58] 1528, ch #[59] 1531, ch #[60] 1534, itm 61, ch #[62] 1537, ch #[63] 1540, ch #[64] 1543, ch #[65] 1546, ch #[66] 1549, itm 67, itm 68, itm 69, itm 70, itm 71, itm 72, itm 73, itm 74, itm 75, itm 76, itm 77, itm 78, itm 79, itm 80, itm 81, itm 82, itm 83, itm 84, itm 85, itm 86, itm 87, itm 88, itm 89, itm 90, itm 91, itm 92, itm 93, itm 94, itm 95, itm 96, itm 97, itm 98, itm 99, itm 100, itm 101, itm 102, itm 103, itm 104, itm 105, itm 106, itm 107, itm 108, itm 109, itm 110, itm 111, itm 112, itm 113, itm 114, itm 115, itm 116, itm 117, itm 118, itm 119, itm 120, itm 121, itm 122, itm 123, itm 124, itm 125, itm 126, itm 127, itm 128, itm 129, itm 130, itm 131, itm 132, itm 133, itm 134, itm 135, itm 136, itm 137, itm 138, itm 139, itm 140, itm 141, itm 142, itm 143, itm 144, itm 145, itm 146, itm 147, itm 148, itm 149, itm 150, itm 151, itm 152, itm 153, itm 154, itm 155, itm 156, itm 157, itm 158, itm 159, itm 160, itm 161, itm 162, itm 163, itm 164, itm 165, itm 166, itm 167, itm 168, itm 169, itm 170, itm 171, itm 172, itm 173, itm 174, itm 175, itm 176, itm 177, itm 178, itm 179, itm 180, itm 181, itm 182, itm 183, itm 184, itm 185, itm 186, itm 187, itm 188, itm 189, itm 190, itm 191, itm 192, itm 193, itm 194, itm 195, itm 196, itm 197, itm 198, itm 199, itm 200, itm 201, itm 202, itm 203, itm 204, itm 205, itm 206, itm 207, itm 208, itm 209, itm 210, itm 211, itm 212, itm 213, itm 214, itm 215, itm 216, itm 217, itm 218, itm 219, itm 220, itm 221, itm 222, itm 223, itm 224, itm 225, itm 226, itm 227, itm 228, itm 229, itm 230, itm 231, itm 232, itm 233, itm 234, itm 235, itm 236, itm 237, itm 238, itm 239, itm 240, itm 241, itm 242, itm 243, itm 244, itm 245, itm 246, itm 247, itm 248, itm 249, itm 250, itm 251, itm 252, itm 253, itm 254, itm 255]⟩ 0), #[]⟩
noncomputable def ob66 (P : Params) : Obj := ⟨(.type "bytes_iterator"), none, (.fields #[by1, (.int 34 0)]), #[]⟩
noncomputable def tree_Y13_34 (P : Params) : BT :=
  (.node (ob0 P) (.node (ob1 P) (.node (ob64 P) (.node (ob7 P) (.node (ob17 P) .nil .nil) (.node (ob26 P) .nil .nil)) (.node (ob11 P) (.node (ob21 P) .nil .nil) (.node (ob53 P) .nil .nil))) (.node (ob5 P) (.node (ob9 P) (.node (ob19 P) .nil .nil) (.node (ob51 P) .nil .nil)) (.node (ob13 P) (.node (ob24 P) .nil .nil) .nil))) (.node (ob2 P) (.node (ob4 P) (.node (ob8 P) (.node (ob18 P) .nil .nil) (.node (ob65 P) .nil .nil)) (.node (ob12 P) (.node (ob22 P) .nil .nil) (.node (ob66 P) .nil .nil))) (.node (ob6 P) (.node (ob10 P) (.node (ob20 P) .nil .nil) (.node (ob52 P) .nil .nil)) (.node (ob14 P) (.node (ob54 P) .nil .nil) .nil))))
noncomputable def Y13_34 (w : World) (os : OsState) : SharedT := ⟨tree_Y13_34 w.params, 29, {}, #[], {}, 1550, os⟩
noncomputable def ob67 (P : Params) : Obj := mainC P (.int 77 1580)
noncomputable def ob68 (P : Params) : Obj := ⟨(.type "list"), none, (.seq ⟨[itm 0, itm 1, itm 2, itm 3, itm 4, itm 5, itm 6, itm 7, itm 8, itm 9, itm 10, itm 11, itm 12, itm 13, itm 14, itm 15, itm 16, itm 17, itm 18, itm 19, itm 20, itm 21, itm 22, itm 23, itm 24, itm 25, itm 26, itm 27, itm 28, itm 29, itm 30, itm 31, ch #[32] 1450, ch #[33] 1453, ch #[34] 1456, ch #[35] 1459, ch #[36] 1462, ch #[37] 1465, ch #[38] 1468, ch #[39] 1471, ch #[40] 1474, ch #[41] 1477, ch #[42] 1480, ch #[43] 1483, ch #[44] 1486, ch #[45] 1489, ch #[46] 1492, ch #[47] 1495, ch #[48] 1498, ch #[49] 1501, ch #[50] 1504, ch #[51] 1507, ch #[52] 1510, ch #[53] 1513, ch #[54] 1516, ch #[55] 1519, ch #[56] 1522, ch #[57] 1525, ch #[58] 1528, ch #[59] 1531, ch #[60] 1534, itm 61, ch #[62] 1537, ch #[63] 1540, ch #[64] 1543, ch #[65] 1546, ch #[66] 1549, ch #[67] 1552, ch #[68] 1555, ch #[69] 1558, ch #[70] 1561, ch #[71] 1564, ch #[72] 1567, ch #[73] 1570, ch #[74] 1573, ch #[75] 1576, ch #[76] 1579, ch #[77] 1582, itm 78, itm 79, itm 80, itm 81, itm 82, itm 83, itm 84, itm 85, itm 86, itm 87, itm 88, itm 89, itm 90, itm 91, itm 92, itm 93, itm 94, itm 95, itm 96, itm 97, itm 98, itm 99, itm 100, itm 101, itm 102, itm 103, itm 104, itm 105, itm 106, itm 107, itm 108, itm 109, itm 110, itm 111, itm 112, itm 113, itm 114, itm 115, itm 116, itm 117, itm 118, itm 119, itm 120, itm 121, itm 122, itm 123, itm 124, itm 125, itm 126, itm 127, itm 128, itm 129, itm 130, itm 131, itm 132, itm 133, itm 134, itm 135, itm 136, itm 137, itm 138, itm 139, itm 140, itm 141, itm 142, itm 143, itm 144, itm 145, itm 146, itm 147, itm 148, itm 149, itm 150, itm 151, itm 152, itm 153, itm 154, itm 155, itm 156, itm 157, itm 158, itm 159, itm 160, itm 161, itm 162, itm 163, itm 164, itm 165, itm 166, itm 167, itm 168, itm 169, itm 170, itm 171, itm 172, itm 173, itm 174, itm 175, itm 176, itm 177, itm 178, itm 179, itm 180, itm 181, itm 182, itm 183, itm 184, itm 185, itm 186, itm 187, itm 188, itm 189, itm 190, itm 191, itm 192, itm 193, itm 194, itm 195, itm 196, itm 197, itm 198, itm 199, itm 200, itm 201, itm 202, itm 203, itm 204, itm 205, itm 206, itm 207, itm 208, itm 209, itm 210, itm 211, itm 212, itm 213, itm 214, itm 215, itm 216, itm 217, itm 218, itm 219, itm 220, itm 221, itm 222, itm 223, itm 224, itm 225, itm 226, itm 227, itm 228, itm 229, itm 230, itm 231, itm 232, itm 233, itm 234, itm 235, itm 236, itm 237, itm 238, itm 239, itm 240, itm 241, itm 242, itm 243, itm 244, itm 245, itm 246, itm 247, itm 248, itm 249, itm 250, itm 251, itm 252, itm 253, itm 254, itm 255]⟩ 0), #[]⟩
noncomputable def ob69 (P : Params) : Obj := ⟨(.type "bytes_iterator"), none, (.fields #[by1, (.int 45 0)]), #[]⟩
noncomputable def tree_Y13_45 (P : Params) : BT :=
  (.node (ob0 P) (.node (ob1 P) (.node (ob67 P) (.node (ob7 P) (.node (ob17 P) .nil .nil) (.node (ob26 P) .nil .nil)) (.node (ob11 P) (.node (ob21 P) .nil .nil) (.node (ob53 P) .nil .nil))) (.node (ob5 P) (.node (ob9 P) (.node (ob19 P) .nil .nil) (.node (ob51 P) .nil .nil)) (.node (ob13 P) (.node (ob24 P) .nil .nil) .nil))) (.node (ob2 P) (.node (ob4 P) (.node (ob8 P) (.node (ob18 P) .nil .nil) (.node (ob68 P) .nil .nil)) (.node (ob12 P) (.node (ob22 P) .nil .nil) (.node (ob69 P) .nil .nil))) (.node (ob6 P) (.node (ob10 P) (.node (ob20 P) .nil .nil) (.node (ob52 P) .nil .nil)) (.node (ob14 P) (.node (ob54 P) .nil .nil) .nil))))
noncomputable def Y13_45 (w : World) (os : OsState) : SharedT := ⟨tree_Y13_45 w.params, 29, {}, #[], {}, 1583, os⟩
noncomputable def ob70 (P : Params) : Obj := mainC P (.int 88 1613)
noncomputable def ob71 (P : Params) : Obj := ⟨(.type "list"), none, (.seq ⟨[itm 0, itm 1, itm 2, itm 3, itm 4, itm 5, itm 6, itm 7, itm 8, itm 9, itm 10, itm 11, itm 12, itm 13, itm 14, itm 15, itm 16, itm 17, itm 18, itm 19, itm 20, itm 21, itm 22, itm 23, itm 24, itm 25, itm 26, itm 27, itm 28, itm 29, itm 30, itm 31, ch #[32] 1450, ch #[33] 1453, ch #[34] 1456, ch #[35] 1459, ch #[36] 1462, ch #[37] 1465, ch #[38] 1468, ch #[39] 1471, ch #[40] 1474, ch #[41] 1477, ch #[42] 1480, ch #[43] 1483, ch #[44] 1486, ch #[45] 1489, ch #[46] 1492, ch #[47] 1495, ch #[48] 1498, ch #[49] 1501, ch #[50] 1504, ch #[51] 1507, ch #[52] 1510, ch #[53] 1513, ch #[54] 1516, ch #[55] 1519, ch #[56] 1522, ch #[57] 1525, ch #[58] 1528, ch #[59] 1531, ch #[60] 1534, itm 61, ch #[62] 1537, ch #[63] 1540, ch #[64] 1543, ch #[65] 1546, ch #[66] 1549, ch #[67] 1552, ch #[68] 1555, ch #[69] 1558, ch #[70] 1561, ch #[71] 1564, ch #[72] 1567, ch #[73] 1570, ch #[74] 1573, ch #[75] 1576, ch #[76] 1579, ch #[77] 1582, ch #[78] 1585, ch #[79] 1588, ch #[80] 1591, ch #[81] 1594, ch #[82] 1597, ch #[83] 1600, ch #[84] 1603, ch #[85] 1606, ch #[86] 1609, ch #[87] 1612, ch #[88] 1615, itm 89, itm 90, itm 91, itm 92, itm 93, itm 94, itm 95, itm 96, itm 97, itm 98, itm 99, itm 100, itm 101, itm 102, itm 103, itm 104, itm 105, itm 106, itm 107, itm 108, itm 109, itm 110, itm 111, itm 112, itm 113, itm 114, itm 115, itm 116, itm 117, itm 118, itm 119, itm 120, itm 121, itm 122, itm 123, itm 124, itm 125, itm 126, itm 127, itm 128, itm 129, itm 130, itm 131, itm 132, itm 133, itm 134, itm 135, itm 136, itm 137, itm 138, itm 139, itm 140, itm 141, itm 142, itm 143, itm 144, itm 145, itm 146, itm 147, itm 148, itm 149, itm 150, itm 151, itm 152, itm 153, itm 154, itm 155, itm 156, itm 157, itm 158, itm 159, itm 160, itm 161, itm 162, itm 163, itm 164, itm 165, itm 166, itm 167, itm 168, itm 169, itm 170, itm 171, itm 172, itm 173, itm 174, itm 175, itm 176, itm 177, itm 178, itm 179, itm 180, itm 181, itm 182, itm 183, itm 184, itm 185, itm 186, itm 187, itm 188, itm 189, itm 190, itm 191, itm 192, itm 193, itm 194, itm 195, itm 196, itm 197, itm 198, itm 199, itm 200, itm 201, itm 202, itm 203, itm 204, itm 205, itm 206, itm 207, itm 208, itm 209, itm 210, itm 211, itm 212, itm 213, itm 214, itm 215, itm 216, itm 217, itm 218, itm 219, itm 220, itm 221, itm 222, itm 223, itm 224, itm 225, itm 226, itm 227, itm 228, itm 229, itm 230, itm 231, itm 232, itm 233, itm 234, itm 235, itm 236, itm 237, itm 238, itm 239, itm 240, itm 241, itm 242, itm 243, itm 244, itm 245, itm 246, itm 247, itm 248, itm 249, itm 250, itm 251, itm 252, itm 253, itm 254, itm 255]⟩ 0), #[]⟩
noncomputable def ob72 (P : Params) : Obj := ⟨(.type "bytes_iterator"), none, (.fields #[by1, (.int 56 0)]), #[]⟩
noncomputable def tree_Y13_56 (P : Params) : BT :=
  (.node (ob0 P) (.node (ob1 P) (.node (ob70 P) (.node (ob7 P) (.node (ob17 P) .nil .nil) (.node (ob26 P) .nil .nil)) (.node (ob11 P) (.node (ob21 P) .nil .nil) (.node (ob53 P) .nil .nil))) (.node (ob5 P) (.node (ob9 P) (.node (ob19 P) .nil .nil) (.node (ob51 P) .nil .nil)) (.node (ob13 P) (.node (ob24 P) .nil .nil) .nil))) (.node (ob2 P) (.node (ob4 P) (.node (ob8 P) (.node (ob18 P) .nil .nil) (.node (ob71 P) .nil .nil)) (.node (ob12 P) (.node (ob22 P) .nil .nil) (.node (ob72 P) .nil .nil))) (.node (ob6 P) (.node (ob10 P) (.node (ob20 P) .nil .nil) (.node (ob52 P) .nil .nil)) (.node (ob14 P) (.node (ob54 P) .nil .nil) .nil))))
noncomputable def Y13_56 (w : World) (os : OsState) : SharedT := ⟨tree_Y13_56 w.params, 29, {}, #[], {}, 1616, os⟩
noncomputable def ob73 (P : Params) : Obj := mainC P (.int 99 1646)
noncomputable def ob74 (P : Params) : Obj := ⟨(.type "list"), none, (.seq ⟨[itm 0, itm 1, itm 2, itm 3, itm 4, itm 5, itm 6, itm 7, itm 8, itm 9, itm 10, itm 11, itm 12, itm 13, itm 14, itm 15, itm 16, itm 17, itm 18, itm 19, itm 20, itm 21, itm 22, itm 23, itm 24, itm 25, itm 26, itm 27, itm 28, itm 29, itm 30, itm 31, ch #[32] 1450, ch #[33] 1453, ch #[34] 1456, ch #[35] 1459, ch #[36] 1462, ch #[37] 1465, ch #[38] 1468, ch #[39] 1471, ch #[40] 1474, ch #[41] 1477, ch #[42] 1480, ch #[43] 1483, ch #[44] 1486, ch #[45] 1489, ch #[46] 1492, ch #[47] 1495, ch #[48] 1498, ch #[49] 1501, ch #[50] 1504, ch #[51] 1507, ch #[52] 1510, ch #[53] 1513, ch #[54] 1516, ch #[55] 1519, ch #[56] 1522, ch #[57] 1525, ch #[58] 1528, ch #[59] 1531, ch #[60] 1534, itm 61, ch #[62] 1537, ch #[63] 1540, ch #[64] 1543, ch #[65] 1546, ch #[66] 1549, ch #[67] 1552, ch #[68] 1555, ch #[69] 1558, ch #[70] 1561, ch #[71] 1564, ch #[72] 1567, ch #[73] 1570, ch #[74] 1573, ch #[75] 1576, ch #[76] 1579, ch #[77] 1582, ch #[78] 1585, ch #[79] 1588, ch #[80] 1591, ch #[81] 1594, ch #[82] 1597, ch #[83] 1600, ch #[84] 1603, ch #[85] 1606, ch #[86] 1609, ch #[87] 1612, ch #[88] 1615, ch #[89] 1618, ch #[90] 1621, ch #[91] 1624, ch #[92] 1627, ch #[93] 1630, ch #[94] 1633, ch #[95] 1636, ch #[96] 1639, ch #[97] 1642, ch #[98] 1645, ch #[99] 1648, itm 100, itm 101, itm 102, itm 103, itm 104, itm 105, itm 106, itm 107, itm 108, itm 109, itm 110, itm 111, itm 112, itm 113, itm 114, itm 115, itm 116, itm 117, itm 118, itm 119, itm 120, itm 121, itm 122, itm 123, itm 124, itm 125, itm 126, itm 127, itm 128, itm 129, itm 130, itm 131, itm 132, itm 133, itm 134, itm 135, itm 136, itm 137, itm 138, itm 139, itm 140, itm 141, itm 142, itm 143, itm 144, itm 145, itm 146, itm 147, itm 148, itm 149, itm 150, itm 151, itm 152, itm 153, itm 154, itm 155, itm 156, itm 157, itm 158, itm 159, itm 160, itm 161, itm 162, itm 163, itm 164, itm 165, itm 166, itm 167, itm 168, itm 169, itm 170, itm 171, itm 172, itm 173, itm 174, itm 175, itm 176, itm 177, itm 178, itm 179, itm 180, itm 181, itm 182, itm 183, itm 184, itm 185, itm 186, itm 187, itm 188, itm 189, itm 190, itm 191, itm 192, itm 193, itm 194, itm 195, itm 196, itm 197, itm 198, itm 199, itm 200, itm 201, itm 202, itm 203, itm 204, itm 205, itm 206, itm 207, itm 208, itm 209, itm 210, itm 211, itm 212, itm 213, itm 214, itm 215, itm 216, itm 217, itm 218, itm 219, itm 220, itm 221, itm 222, itm 223, itm 224, itm 225, itm 226, itm 227, itm 228, itm 229, itm 230, itm 231, itm 232, itm 233, itm 234, itm 235, itm 236, itm 237, itm 238, itm 239, itm 240, itm 241, itm 242, itm 243, itm 244, itm 245, itm 246, itm 247, itm 248, itm 249, itm 250, itm 251, itm 252, itm 253, itm 254, itm 255]⟩ 0), #[]⟩
noncomputable def ob75 (P : Params) : Obj := ⟨(.type "bytes_iterator"), none, (.fields #[by1, (.int 67 0)]), #[]⟩
noncomputable def tree_Y13_67 (P : Params) : BT :=
  (.node (ob0 P) (.node (ob1 P) (.node (ob73 P) (.node (ob7 P) (.node (ob17 P) .nil .nil) (.node (ob26 P) .nil .nil)) (.node (ob11 P) (.node (ob21 P) .nil .nil) (.node (ob53 P) .nil .nil))) (.node (ob5 P) (.node (ob9 P) (.node (ob19 P) .nil .nil) (.node (ob51 P) .nil .nil)) (.node (ob13 P) (.node (ob24 P) .nil .nil) .nil))) (.node (ob2 P) (.node (ob4 P) (.node (ob8 P) (.node (ob18 P) .nil .nil) (.node (ob74 P) .nil .nil)) (.node (ob12 P) (.node (ob22 P) .nil .nil) (.node (ob75 P) .nil .nil))) (.node (ob6 P) (.node (ob10 P) (.node (ob20 P) .nil .nil) (.node (ob52 P) .nil .nil)) (.node (ob14 P) (.node (ob54 P) .nil .nil) .nil))))
noncomputable def Y13_67 (w : World) (os : OsState) : SharedT := ⟨tree_Y13_67 w.params, 29, {}, #[], {}, 1649, os⟩
noncomputable def ob76 (P : Params) : Obj := mainC P (.int 110 1679)
noncomputable def ob77 (P : Params) : Obj := ⟨(.type "list"), none, (.seq ⟨[itm 0, itm 1, itm 2, itm 3, itm 4, itm 5, itm 6, itm 7, itm 8, itm 9, itm 10, itm 11, itm 12, itm 13, itm 14, itm 15, itm 16, itm 17, itm 18, itm 19, itm 20, itm 21, itm 22, itm 23, itm 24, itm 25, itm 26, itm 27, itm 28, itm 29, itm 30, itm 31, ch #[32] 1450, ch #[33] 1453, ch #[34] 1456, ch #[35] 1459, ch #[36] 1462, ch #[37] 1465, ch #[38] 1468, ch #[39] 1471, ch #[40] 1474, ch #[41] 1477, ch #[42] 1480, ch #[43] 1483, ch #[44] 1486, ch #[45] 1489, ch #[46] 1492, ch #[47] 1495, ch #[48] 1498, ch #[49] 1501, ch #[50] 1504, ch #[51] 1507, ch #[52] 1510, ch #[53] 1513, ch #[54] 1516, ch #[55] 1519, ch #[56] 1522, ch #[57] 1525, ch #[58] 1528, ch #[59] 1531, ch #[60] 1534, itm 61, ch #[62] 1537, ch #[63] 1540, ch #[64] 1543, ch #[65] 1546, ch #[66] 1549, ch #[67] 1552, ch #[68] 1555, ch #[69] 1558, ch #[70] 1561, ch #[71] 1564, ch #[72] 1567, ch #[73] 1570, ch #[74] 1573, ch #[75] 1576, ch #[76] 1579, ch #[77] 1582, ch #[78] 1585, ch #[79] 1588, ch #[80] 1591, ch #[81] 1594, ch #[82] 1597, ch #[83] 1600, ch #[84] 1603, ch #[85] 1606, ch #[86] 1609, ch #[87] 1612, ch #[88] 1615, ch #[89] 1618, ch #[90] 1621, ch #[91] 1624, ch #[92] 1627, ch #[93] 1630, ch #[94] 1633, ch #[95] 1636, ch #[96] 1639, ch #[97] 1642, ch #[98] 1645, ch #[99] 1648, ch #[100] 1651, ch #[101] 1654, ch #[102] 1657, ch #[103] 1660, ch #[104] 1663, ch #[105] 1666, ch #[106] 1669, ch #[107] 1672, ch #[108] 1675, ch #[109] 1678, ch #[110] 1681, itm 111, itm 112, itm 113, itm 114, itm 115, itm 116, itm 117, itm 118, itm 119, itm 120, itm 121, itm 122, itm 123, itm 124, itm 125, itm 126, itm 127, itm 128, itm 129, itm 130, itm 131, itm 132, itm 133, itm 134, itm 135, itm 136, itm 137, itm 138, itm 139, itm 140, itm 141, itm 142, itm 143, itm 144, itm 145, itm 146, itm 147, itm 148, itm 149, itm 150, itm 151, itm 152, itm 153, itm 154, itm 155, itm 156, itm 157, itm 158, itm 159, itm 160, itm 161, itm 162, itm 163, itm 164, itm 165, itm 166, itm 167, itm 168, itm 169, itm 170, itm 171, itm 172, itm 173, itm 174, itm 175, itm 176, itm 177, itm 178, itm 179, itm 180, itm 181, itm 182, itm 183, itm 184, itm 185, itm 186, itm 187, itm 188, itm 189, itm 190, itm 191, itm 192, itm 193, itm 194, itm 195, itm 196, itm 197, itm 198, itm 199, itm 200, itm 201, itm 202, itm 203, itm 204, itm 205, itm 206, itm 207, itm 208, itm 209, itm 210, itm 211, itm 212, itm 213, itm 214, itm 215, itm 216, itm 217, itm 218, itm 219, itm 220, itm 221, itm 222, itm 223, itm 224, itm 225, itm 226, itm 227, itm 228, itm 229, itm 230, itm 231, itm 232, itm 233, itm 234, itm 235, itm 236, itm 237, itm 238, itm 239, itm 240, itm 241, itm 242, itm 243, itm 244, itm 245, itm 246, itm 247, itm 248, itm 249, itm 250, itm 251, itm 252, itm 253, itm 254, itm 255]⟩ 0), #[]⟩
noncomputable def ob78 (P : Params) : Obj := ⟨(.type "bytes_iterator"), none, (.fields #[by1, (.int 78 0)]), #[]⟩
noncomputable def tree_Y13_78 (P : Params) : BT :=
  (.node (ob0 P) (.node (ob1 P) (.node (ob76 P) (.node (ob7 P) (.node (ob17 P) .nil .nil) (.node (ob26 P) .nil .nil)) (.node (ob11 P) (.node (ob21 P) .nil .nil) (.node (ob53 P) .nil .nil))) (.node (ob5 P) (.node (ob9 P) (.node (ob19 P) .nil .nil) (.node (ob51 P) .nil .nil)) (.node (ob13 P) (.node (ob24 P) .nil .nil) .nil))) (.node (ob2 P) (.node (ob4 P) (.node (ob8 P) (.node (ob18 P) .nil .nil) (.node (ob77 P) .nil .nil)) (.node (ob12 P) (.node (ob22 P) .nil .nil) (.node (ob78 P) .nil .nil))) (.node (ob6 P) (.node (ob10 P) (.node (ob20 P) .nil .nil) (.node (ob52 P) .nil .nil)) (.node (ob14 P) (.node (ob54 P) .nil .nil) .nil))))
noncomputable def Y13_78 (w : World) (os : OsState) : SharedT := ⟨tree_Y13_78 w.params, 29, {}, #[], {}, 1682, os⟩
noncomputable def ob79 (P : Params) : Obj := mainC P (.int 121 1712)
noncomputable def ob80 (P : Params) : Obj := ⟨(.type "list"), none, (.seq ⟨[itm 0, itm 1, itm 2, itm 3, itm 4, itm 5, itm 6, itm 7, itm 8, itm 9, itm 10, itm 11, itm 12, itm 13, itm 14, itm 15, itm 16, itm 17, itm 18, itm 19, itm 20, itm 21, itm 22, itm 23, itm 24, itm 25, itm 26, itm 27, itm 28, itm 29, itm 30, itm 31, ch #[32] 1450, ch #[33] 1453, ch #[34] 1456, ch #[35] 1459, ch #[36] 1462, ch #[37] 1465, ch #[38] 1468, ch #[39] 1471, ch #[40] 1474, ch #[41] 1477, ch #[42] 1480, ch #[43] 1483, ch #[44] 1486, ch #[45] 1489, ch #[46] 1492, ch #[47] 1495, ch #[48] 1498, ch #[49] 1501, ch #[50] 1504, ch #[51] 1507, ch #[52] 1510, ch #[53] 1513, ch #[54] 1516, ch #[55] 1519, ch #[56] 1522, ch #[57] 1525, ch #[58] 1528, ch #[59] 1531, ch #[60] 1534, itm 61, ch #[62] 1537, ch #[63] 1540, ch #[64] 1543, ch #[65] 1546, ch #[66] 1549, ch #[67] 1552, ch #[68] 1555, ch #[69] 1558, ch #[70] 1561, ch #[71] 1564, ch #[72] 1567, ch #[73] 1570, ch #[74] 1573, ch #[75] 1576, ch #[76] 1579, ch #[77] 1582, ch #[78] 1585, ch #[79] 1588, ch #[80] 1591, ch #[81] 1594, ch #[82] 1597, ch #[83] 1600, ch #[84] 1603, ch #[85] 1606, ch #[86] 1609, ch #[87] 1612, ch #[88] 1615, ch #[89] 1618, ch #[90] 1621, ch #[91] 1624, ch #[92] 1627, ch #[93] 1630, ch #[94] 1633, ch #[95] 1636, ch #[96] 1639, ch #[97] 1642, ch #[98] 1645, ch #[99] 1648, ch #[100] 1651, ch #[101] 1654, ch #[102] 1657, ch #[103] 1660, ch #[104] 1663, ch #[105] 1666, ch #[106] 1669, ch #[107] 1672, ch #[108] 1675, ch #[109] 1678, ch #[110] 1681, ch #[111] 1684, ch #[112] 1687, ch #[113] 1690, ch #[114] 1693, ch #[115] 1696, ch #[116] 1699, ch #[117] 1702, ch #[118] 1705, ch #[119] 1708, ch #[120] 1711, ch #[121] 1714, itm 122, itm 123, itm 124, itm 125, itm 126, itm 127, itm 128, itm 129, itm 130, itm 131, itm 132, itm 133, itm 134, itm 135, itm 136, itm 137, itm 138, itm 139, itm 140, itm 141, itm 142, itm 143, itm 144, itm 145, itm 146, itm 147, itm 148, itm 149, itm 150, itm 151, itm 152, itm 153, itm 154, itm 155, itm 156, itm 157, itm 158, itm 159, itm 160, itm 161, itm 162, itm 163, itm 164, itm 165, itm 166, itm 167, itm 168, itm 169, itm 170, itm 171, itm 172, itm 173, itm 174, itm 175, itm 176, itm 177, itm 178, itm 179, itm 180, itm 181, itm 182, itm 183, itm 184, itm 185, itm 186, itm 187, itm 188, itm 189, itm 190, itm 191, itm 192, itm 193, itm 194, itm 195, itm 196, itm 197, itm 198, itm 199, itm 200, itm 201, itm 202, itm 203, itm 204, itm 205, itm 206, itm 207, itm 208, itm 209, itm 210, itm 211, itm 212, itm 213, itm 214, itm 215, itm 216, itm 217, itm 218, itm 219, itm 220, itm 221, itm 222, itm 223, itm 224, itm 225, itm 226, itm 227, itm 228, itm 229, itm 230, itm 231, itm 232, itm 233, itm 234, itm 235, itm 236, itm 237, itm 238, itm 239, itm 240, itm 241, itm 242, itm 243, itm 244, itm 245, itm 246, itm 247, itm 248, itm 249, itm 250, itm 251, itm 252, itm 253, itm 254, itm 255]⟩ 0), #[]⟩
noncomputable def ob81 (P : Params) : Obj := ⟨(.type "bytes_iterator"), none, (.fields #[by1, (.int 89 0)]), #[]⟩
noncomputable def tree_Y13_89 (P : Params) : BT :=
  (.node (ob0 P) (.node (ob1 P) (.node (ob79 P) (.node (ob7 P) (.node (ob17 P) .nil .nil) (.node (ob26 P) .nil .nil)) (.node (ob11 P) (.node (ob21 P) .nil .nil) (.node (ob53 P) .nil .nil))) (.node (ob5 P) (.node (ob9 P) (.node (ob19 P) .nil .nil) (.node (ob51 P) .nil .nil)) (.node (ob13 P) (.node (ob24 P) .nil .nil) .nil))) (.node (ob2 P) (.node (ob4 P) (.node (ob8 P) (.node (ob18 P) .nil .nil) (.node (ob80 P) .nil .nil)) (.node (ob12 P) (.node (ob22 P) .nil .nil) (.node (ob81 P) .nil .nil))) (.node (ob6 P) (.node (ob10 P) (.node (ob20 P) .nil .nil) (.node (ob52 P) .nil .nil)) (.node (ob14 P) (.node (ob54 P) .nil .nil) .nil))))
noncomputable def Y13_89 (w : World) (os : OsState) : SharedT := ⟨tree_Y13_89 w.params, 29, {}, #[], {}, 1715, os⟩
noncomputable def ob82 (P : Params) : Obj := mainC P (.int 9 1730)
noncomputable def ob83 (P : Params) : Obj := ⟨(.type "list"), none, (.seq ⟨[itm 0, itm 1, itm 2, itm 3, itm 4, itm 5, itm 6, itm 7, itm 8, ch #[9] 1732, itm 10, itm 11, itm 12, itm 13, itm 14, itm 15, itm 16, itm 17, itm 18, itm 19, itm 20, itm 21, itm 22, itm 23, itm 24, itm 25, itm 26, itm 27, itm 28, itm 29, itm 30, itm 31, ch #[32] 1450, ch #[33] 1453, ch #[34] 1456, ch #[35] 1459, ch #[36] 1462, ch #[37] 1465, ch #[38] 1468, ch #[39] 1471, ch #[40] 1474, ch #[41] 1477, ch #[42] 1480, ch #[43] 1483, ch #[44] 1486, ch #[45] 1489, ch #[46] 1492, ch #[47] 1495, ch #[48] 1498, ch #[49] 1501, ch #[50] 1504, ch #[51] 1507, ch #[52] 1510, ch #[53] 1513, ch #[54] 1516, ch #[55] 1519, ch #[56] 1522, ch #[57] 1525, ch #[58] 1528, ch #[59] 1531, ch #[60] 1534, itm 61, ch #[62] 1537, ch #[63] 1540, ch #[64] 1543, ch #[65] 1546, ch #[66] 1549, ch #[67] 1552, ch #[68] 1555, ch #[69] 1558, ch #[70] 1561, ch #[71] 1564, ch #[72] 1567, ch #[73] 1570, ch #[74] 1573, ch #[75] 1576, ch #[76] 1579, ch #[77] 1582, ch #[78] 1585, ch #[79] 1588, ch #[80] 1591, ch #[81] 1594, ch #[82] 1597, ch #[83] 1600, ch #[84] 1603, ch #[85] 1606, ch #[86] 1609, ch #[87] 1612, ch #[88] 1615, ch #[89] 1618, ch #[90] 1621, ch #[91] 1624, ch #[92] 1627, ch #[93] 1630, ch #[94] 1633, ch #[95] 1636, ch #[96] 1639, ch #[97] 1642, ch #[98] 1645, ch #[99] 1648, ch #[100] 1651, ch #[101] 1654, ch #[102] 1657, ch #[103] 1660, ch #[104] 1663, ch #[105] 1666, ch #[106] 1669, ch #[107] 1672, ch #[108] 1675, ch #[109] 1678, ch #[110] 1681, ch #[111] 1684, ch #[112] 1687, ch #[113] 1690, ch #[114] 1693, ch #[115] 1696, ch #[116] 1699, ch #[117] 1702, ch #[118] 1705, ch #[119] 1708, ch #[120] 1711, ch #[121] 1714, ch #[122] 1717, ch #[123] 1720, ch #[124] 1723, ch #[125] 1726, ch #[126] 1729, itm 127, itm 128, itm 129, itm 130, itm 131, itm 132, itm 133, itm 134, itm 135, itm 136, itm 137, itm 138, itm 139, itm 140, itm 141, itm 142, itm 143, itm 144, itm 145, itm 146, itm 147, itm 148, itm 149, itm 150, itm 151, itm 152, itm 153, itm 154, itm 155, itm 156, itm 157, itm 158, itm 159, itm 160, itm 161, itm 162, itm 163, itm 164, itm 165, itm 166, itm 167, itm 168, itm 169, itm 170, itm 171, itm 172, itm 173, itm 174, itm 175, itm 176, itm 177, itm 178, itm 179, itm 180, itm 181, itm 182, itm 183, itm 184, itm 185, itm 186, itm 187, itm 188, itm 189, itm 190, itm 191, itm 192, itm 193, itm 194, itm 195, itm 196, itm 197, itm 198, itm 199, itm 200, itm 201, itm 202, itm 203, itm 204, itm 205, itm 206, itm 207, itm 208, itm 209, itm 210, itm 211, itm 212, itm 213, itm 214, itm 215, itm 216, itm 217, itm 218, itm 219, itm 220, itm 221, itm 222, itm 223, itm 224, itm 225, itm 226, itm 227, itm 228, itm 229, itm 230, itm 231, itm 232, itm 233, itm 234, itm 235, itm 236, itm 237, itm 238, itm 239, itm 240, itm 241, itm 242, itm 243, itm 244, itm 245, itm 246, itm 247, itm 248, itm 249, itm 250, itm 251, itm 252, itm 253, itm 254, itm 255]⟩ 0), #[]⟩
noncomputable def ob84 (P : Params) : Obj := ⟨(.type "bytes_iterator"), none, (.fields #[by1, (.int 95 0)]), #[]⟩
noncomputable def tree_Y13_95 (P : Params) : BT :=
  (.node (ob0 P) (.node (ob1 P) (.node (ob82 P) (.node (ob7 P) (.node (ob17 P) .nil .nil) (.node (ob26 P) .nil .nil)) (.node (ob11 P) (.node (ob21 P) .nil .nil) (.node (ob53 P) .nil .nil))) (.node (ob5 P) (.node (ob9 P) (.node (ob19 P) .nil .nil) (.node (ob51 P) .nil .nil)) (.node (ob13 P) (.node (ob24 P) .nil .nil) .nil))) (.node (ob2 P) (.node (ob4 P) (.node (ob8 P) (.node (ob18 P) .nil .nil) (.node (ob83 P) .nil .nil)) (.node (ob12 P) (.node (ob22 P) .nil .nil) (.node (ob84 P) .nil .nil))) (.node (ob6 P) (.node (ob10 P) (.node (ob20 P) .nil .nil) (.node (ob52 P) .nil .nil)) (.node (ob14 P) (.node (ob54 P) .nil .nil) .nil))))
noncomputable def Y13_95 (w : World) (os : OsState) : SharedT := ⟨tree_Y13_95 w.params, 29, {}, #[], {}, 1733, os⟩
noncomputable def ob85 (P : Params) : Obj := mainC P (.int 9 1730)
noncomputable def ob86 (P : Params) : Obj := ⟨(.type "list"), none, (.seq ⟨[itm 0, itm 1, itm 2, itm 3, itm 4, itm 5, itm 6, itm 7, itm 8, ch #[9] 1732, itm 10, itm 11, itm 12, itm 13, itm 14, itm 15, itm 16, itm 17, itm 18, itm 19, itm 20, itm 21, itm 22, itm 23, itm 24, itm 25, itm 26, itm 27, itm 28, itm 29, itm 30, itm 31, ch #[32] 1450, ch #[33] 1453, ch #[34] 1456, ch #[35] 1459, ch #[36] 1462, ch #[37] 1465, ch #[38] 1468, ch #[39] 1471, ch #[40] 1474, ch #[41] 1477, ch #[42] 1480, ch #[43] 1483, ch #[44] 1486, ch #[45] 1489, ch #[46] 1492, ch #[47] 1495, ch #[48] 1498, ch #[49] 1501, ch #[50] 1504, ch #[51] 1507, ch #[52] 1510, ch #[53] 1513, ch #[54] 1516, ch #[55] 1519, ch #[56] 1522, ch #[57] 1525, ch #[58] 1528, ch #[59] 1531, ch #[60] 1534, itm 61, ch #[62] 1537, ch #[63] 1540, ch #[64] 1543, ch #[65] 1546, ch #[66] 1549, ch #[67] 1552, ch #[68] 1555, ch #[69] 1558, ch #[70] 1561, ch #[71] 1564, ch #[72] 1567, ch #[73] 1570, ch #[74] 1573, ch #[75] 1576, ch #[76] 1579, ch #[77] 1582, ch #[78] 1585, ch #[79] 1588, ch #[80] 1591, ch #[81] 1594, ch #[82] 1597, ch #[83] 1600, ch #[84] 1603, ch #[85] 1606, ch #[86] 1609, ch #[87] 1612, ch #[88] 1615, ch #[89] 1618, ch #[90] 1621, ch #[91] 1624, ch #[92] 1627, ch #[93] 1630, ch #[94] 1633, ch #[95] 1636, ch #[96] 1639, ch #[97] 1642, ch #[98] 1645, ch #[99] 1648, ch #[100] 1651, ch #[101] 1654, ch #[102] 1657, ch #[103] 1660, ch #[104] 1663, ch #[105] 1666, ch #[106] 1669, ch #[107] 1672, ch #[108] 1675, ch #[109] 1678, ch #[110] 1681, ch #[111] 1684, ch #[112] 1687, ch #[113] 1690, ch #[114] 1693, ch #[115] 1696, ch #[116] 1699, ch #[117] 1702, ch #[118] 1705, ch #[119] 1708, ch #[120] 1711, ch #[121] 1714, ch #[122] 1717, ch #[123] 1720, ch #[124] 1723, ch #[125] 1726, ch #[126] 1729, itm 127, itm 128, itm 129, itm 130, itm 131, itm 132, itm 133, itm 134, itm 135, itm 136, itm 137, itm 138, itm 139, itm 140, itm 141, itm 142, itm 143, itm 144, itm 145, itm 146, itm 147, itm 148, itm 149, itm 150, itm 151, itm 152, itm 153, itm 154, itm 155, itm 156, itm 157, itm 158, itm 159, itm 160, itm 161, itm 162, itm 163, itm 164, itm 165, itm 166, itm 167, itm 168, itm 169, itm 170, itm 171, itm 172, itm 173, itm 174, itm 175, itm 176, itm 177, itm 178, itm 179, itm 180, itm 181, itm 182, itm 183, itm 184, itm 185, itm 186, itm 187, itm 188, itm 189, itm 190, itm 191, itm 192, itm 193, itm 194, itm 195, itm 196, itm 197, itm 198, itm 199, itm 200, itm 201, itm 202, itm 203, itm 204, itm 205, itm 206, itm 207, itm 208, itm 209, itm 210, itm 211, itm 212, itm 213, itm 214, itm 215, itm 216, itm 217, itm 218, itm 219, itm 220, itm 221, itm 222, itm 223, itm 224, itm 225, itm 226, itm 227, itm 228, itm 229, itm 230, itm 231, itm 232, itm 233, itm 234, itm 235, itm 236, itm 237, itm 238, itm 239, itm 240, itm 241, itm 242, itm 243, itm 244, itm 245, itm 246, itm 247, itm 248, itm 249, itm 250, itm 251, itm 252, itm 253, itm 254, itm 255]⟩ 0), #[]⟩
noncomputable def ob87 (P : Params) : Obj := ⟨(.type "bytes_iterator"), none, (.fields #[.none, (.int 95 0)]), #[]⟩
noncomputable def ob88 (P : Params) : Obj := ⟨(.type "tuple"), none, (.seq #[] 0), #[]⟩
noncomputable def ob89 (P : Params) : Obj := ⟨(.type "StopIteration"), none, (.fields #[(.ref 29), .none, .none, .none, (.bool false), .none]), #[]⟩
noncomputable def tree_X13 (P : Params) : BT :=
  (.node (ob0 P) (.node (ob1 P) (.node (ob85 P) (.node (ob7 P) (.node (ob17 P) .nil .nil) (.node (ob26 P) .nil .nil)) (.node (ob11 P) (.node (ob21 P) .nil .nil) (.node (ob53 P) .nil .nil))) (.node (ob5 P) (.node (ob9 P) (.node (ob19 P) .nil .nil) (.node (ob51 P) .nil .nil)) (.node (ob13 P) (.node (ob24 P) .nil .nil) (.node (ob88 P) .nil .nil)))) (.node (ob2 P) (.node (ob4 P) (.node (ob8 P) (.node (ob18 P) .nil .nil) (.node (ob86 P) .nil .nil)) (.node (ob12 P) (.node (ob22 P) .nil .nil) (.node (ob87 P) .nil .nil))) (.node (ob6 P) (.node (ob10 P) (.node (ob20 P) .nil .nil) (.node (ob52 P) .nil .nil)) (.node (ob14 P) (.node (ob54 P) .nil .nil) (.node (ob89 P) .nil .nil)))))
noncomputable def X13 (w : World) (os : OsState) : SharedT := ⟨tree_X13 w.params, 31, {}, #[], {}, 1733, os⟩
noncomputable def ob90 (P : Params) : Obj := ⟨(.type "dict"), none, (.dict #[⟨PyData.keyHash P (Str.mk #[95, 95, 110, 97, 109, 101, 95, 95]), (.str (Str.mk #[95, 95, 110, 97, 109, 101, 95, 95]) 165), (.str (Str.mk #[108, 97, 119, 95, 111, 99, 48, 49, 54, 51, 95, 48, 49]) 1892)⟩, ⟨PyData.keyHash P (Str.mk #[95, 95, 100, 111, 99, 95, 95]), (.str (Str.mk #[95, 95, 100, 111, 99, 95, 95]) 166), .none⟩, ⟨PyData.keyHash P (Str.mk #[95, 95, 112, 97, 99, 107, 97, 103, 101, 95, 95]), (.str (Str.mk #[95, 95, 112, 97, 99, 107, 97, 103, 101, 95, 95]) 167), .none⟩, ⟨PyData.keyHash P (Str.mk #[95, 95, 108, 111, 97, 100, 101, 114, 95, 95]), (.str (Str.mk #[95, 95, 108, 111, 97, 100, 101, 114, 95, 95]) 168), (.builtin "__main__.__loader__#opaque")⟩, ⟨PyData.keyHash P (Str.mk #[95, 95, 115, 112, 101, 99, 95, 95]), (.str (Str.mk #[95, 95, 115, 112, 101, 99, 95, 95]) 169), .none⟩, ⟨PyData.keyHash P (Str.mk #[95, 95, 97, 110, 110, 111, 116, 97, 116, 105, 111, 110, 115, 95, 95]), (.str (Str.mk #[95, 95, 97, 110, 110, 111, 116, 97, 116, 105, 111, 110, 115, 95, 95]) 170), (.ref 6)⟩, ⟨PyData.keyHash P (Str.mk #[95, 95, 98, 117, 105, 108, 116, 105, 110, 115, 95, 95]), (.str (Str.mk #[95, 95, 98, 117, 105, 108, 116, 105, 110, 115, 95, 95]) 171), (.ref 4)⟩, ⟨PyData.keyHash P (Str.mk #[95, 95, 102, 105, 108, 101, 95, 95]), (.str (Str.mk #[95, 95, 102, 105, 108, 101, 95, 95]) 173), (.str (Str.mk #[47, 99, 108, 97, 105, 109, 47, 99, 117, 116, 46, 112, 121]) 172)⟩, ⟨PyData.keyHash P (Str.mk #[95, 95, 99, 97, 99, 104, 101, 100, 95, 95]), (.str (Str.mk #[95, 95, 99, 97, 99, 104, 101, 100, 95, 95]) 174), .none⟩, ⟨PyData.keyHash P (Str.mk #[67, 82, 76, 70]), (.str (Str.mk #[67, 82, 76, 70]) 188), (.str (Str.mk #[13, 10]) 187)⟩, ⟨PyData.keyHash P (Str.mk #[78, 76]), (.str (Str.mk #[78, 76]) 190), (.str (Str.mk #[10]) 189)⟩, ⟨PyData.keyHash P (Str.mk #[95, 81, 85, 79, 80, 82, 73, 95, 77, 65, 80]), (.str (Str.mk #[95, 81, 85, 79, 80, 82, 73, 95, 77, 65, 80]) 1218), (.ref 17)⟩, ⟨PyData.keyHash P (Str.mk #[95, 81, 85, 79, 80, 82, 73, 95, 72, 69, 65, 68, 69, 82, 95, 77, 65, 80]), (.str (Str.mk #[95, 81, 85, 79, 80, 82, 73, 95, 72, 69, 65, 68, 69, 82, 95, 77, 65, 80]) 1219), (.ref 22)⟩, ⟨PyData.keyHash P (Str.mk #[95, 81, 85, 79, 80, 82, 73, 95, 66, 79, 68, 89, 95, 77, 65, 80]), (.str (Str.mk #[95, 81, 85, 79, 80, 82, 73, 95, 66, 79, 68, 89, 95, 77, 65, 80]) 1220), (.ref 24)⟩, ⟨PyData.keyHash P (Str.mk #[97, 115, 99, 105, 105, 95, 108, 111, 119, 101, 114, 99, 97, 115, 101]), (.str (Str.mk #[97, 115, 99, 105, 105, 95, 108, 111, 119, 101, 114, 99, 97, 115, 101]) 1222), (.str (Str.mk #[97, 98, 99, 100, 101, 102, 103, 104, 105, 106, 107, 108, 109, 110, 111, 112, 113, 114, 115, 116, 117, 118, 119, 120, 121, 122]) 1221)⟩, ⟨PyData.keyHash P (Str.mk #[97, 115, 99, 105, 105, 95, 117, 112, 112, 101, 114, 99, 97, 115, 101]), (.str (Str.mk #[97, 115, 99, 105, 105, 95, 117, 112, 112, 101, 114, 99, 97, 115, 101]) 1224), (.str (Str.mk #[65, 66, 67, 68, 69, 70, 71, 72, 73, 74, 75, 76, 77, 78, 79, 80, 81, 82, 83, 84, 85, 86, 87, 88, 89, 90]) 1223)⟩, ⟨PyData.keyHash P (Str.mk #[97, 115, 99, 105, 105, 95, 108, 101, 116, 116, 101, 114, 115]), (.str (Str.mk #[97, 115, 99, 105, 105, 95, 108, 101, 116, 116, 101, 114, 115]) 1226), (.str (Str.mk #[97, 98, 99, 100, 101, 102, 103, 104, 105, 106, 107, 108, 109, 110, 111, 112, 113, 114, 115, 116, 117, 118, 119, 120, 121, 122, 65, 66, 67, 68, 69, 70, 71, 72, 73, 74, 75, 76, 77, 78, 79, 80, 81, 82, 83, 84, 85, 86, 87, 88, 89, 90]) 1225)⟩, ⟨PyData.keyHash P (Str.mk #[100, 105, 103, 105, 116, 115]), (.str (Str.mk #[100, 105, 103, 105, 116, 115]) 1228), (.str (Str.mk #[48, 49, 50, 51, 52, 53, 54, 55, 56, 57]) 1227)⟩, ⟨PyData.keyHash P (Str.mk #[104, 101, 120, 100, 105, 103, 105, 116, 115]), (.str (Str.mk #[104, 101, 120, 100, 105, 103, 105, 116, 115]) 1233), (.str (Str.mk #[48, 49, 50, 51, 52, 53, 54, 55, 56, 57, 97, 98, 99, 100, 101, 102, 65, 66, 67, 68, 69, 70]) 1232)⟩, ⟨PyData.keyHash P (Str.mk #[117, 110, 113, 117, 111, 116, 101]), (.str (Str.mk #[117, 110, 113, 117, 111, 116, 101]) 1739), (.ref 37)⟩, ⟨PyData.keyHash P (Str.mk #[113, 117, 111, 116, 101]), (.str (Str.mk #[113, 117, 111, 116, 101]) 1746), (.ref 44)⟩, ⟨PyData.keyHash P (Str.mk #[95, 81, 85, 79, 80, 82, 73, 95, 66, 79, 68, 89, 95, 69, 78, 67, 79, 68, 69, 95, 77, 65, 80]), (.str (Str.mk #[95, 81, 85, 79, 80, 82, 73, 95, 66, 79, 68, 89, 95, 69, 78, 67, 79, 68, 69, 95, 77, 65, 80]) 1747), (.ref 46)⟩, ⟨PyData.keyHash P (Str.mk #[98, 111, 100, 121, 95, 101, 110, 99, 111, 100, 101]), (.str (Str.mk #[98, 111, 100, 121, 95, 101, 110, 99, 111, 100, 101]) 1774), (.ref 57)⟩, ⟨PyData.keyHash P (Str.mk #[100, 101, 99, 111, 100, 101]), (.str (Str.mk #[100, 101, 99, 111, 100, 101]) 1787), (.ref 65)⟩, ⟨PyData.keyHash P (Str.mk #[117, 110, 111, 114, 100, 101, 114, 97, 98, 108, 101, 95, 108, 105, 115, 116, 95, 100, 105, 102, 102, 101, 114, 101, 110, 99, 101]), (.str (Str.mk #[117, 110, 111, 114, 100, 101, 114, 97, 98, 108, 101, 95, 108, 105, 115, 116, 95, 100, 105, 102, 102, 101, 114, 101, 110, 99, 101]) 1799), (.ref 72)⟩, ⟨PyData.keyHash P (Str.mk #[83, 95, 73, 77, 79, 68, 69]), (.str (Str.mk #[83, 95, 73, 77, 79, 68, 69]) 1808), (.ref 79)⟩, ⟨PyData.keyHash P (Str.mk #[83, 95, 73, 70, 77, 84]), (.str (Str.mk #[83, 95, 73, 70, 77, 84]) 1815), (.ref 86)⟩, ⟨PyData.keyHash P (Str.mk #[83, 95, 73, 70, 68, 73, 82]), (.str (Str.mk #[83, 95, 73, 70, 68, 73, 82]) 1817), (.int 16384 1816)⟩, ⟨PyData.keyHash P (Str.mk #[83, 95, 73, 70, 67, 72, 82]), (.str (Str.mk #[83, 95, 73, 70, 67, 72, 82]) 1819), (.int 8192 1818)⟩, ⟨PyData.keyHash P (Str.mk #[83, 95, 73, 70, 66, 76, 75]), (.str (Str.mk #[83, 95, 73, 70, 66, 76, 75]) 1821), (.int 24576 1820)⟩, ⟨PyData.keyHash P (Str.mk #[83, 95, 73, 70, 82, 69, 71]), (.str (Str.mk #[83, 95, 73, 70, 82, 69, 71]) 1823), (.int 32768 1822)⟩, ⟨PyData.keyHash P (Str.mk #[83, 95, 73, 70, 73, 70, 79]), (.str (Str.mk #[83, 95, 73, 70, 73, 70, 79]) 1825), (.int 4096 1824)⟩, ⟨PyData.keyHash P (Str.mk #[83, 95, 73, 70, 76, 78, 75]), (.str (Str.mk #[83, 95, 73, 70, 76, 78, 75]) 1827), (.int 40960 1826)⟩, ⟨PyData.keyHash P (Str.mk #[83, 95, 73, 70, 83, 79, 67, 75]), (.str (Str.mk #[83, 95, 73, 70, 83, 79, 67, 75]) 1829), (.int 49152 1828)⟩, ⟨PyData.keyHash P (Str.mk #[83, 95, 73, 83, 85, 73, 68]), (.str (Str.mk #[83, 95, 73, 83, 85, 73, 68]) 1831), (.int 2048 1830)⟩, ⟨PyData.keyHash P (Str.mk #[83, 95, 73, 83, 71, 73, 68]), (.str (Str.mk #[83, 95, 73, 83, 71, 73, 68]) 1833), (.int 1024 1832)⟩, ⟨PyData.keyHash P (Str.mk #[83, 95, 73, 83, 86, 84, 88]), (.str (Str.mk #[83, 95, 73, 83, 86, 84, 88]) 1835), (.int 512 1834)⟩, ⟨PyData.keyHash P (Str.mk #[83, 95, 73, 82, 85, 83, 82]), (.str (Str.mk #[83, 95, 73, 82, 85, 83, 82]) 1837), (.int 256 1836)⟩, ⟨PyData.keyHash P (Str.mk #[83, 95, 73, 87, 85, 83, 82]), (.str (Str.mk #[83, 95, 73, 87, 85, 83, 82]) 1839), (.int 128 1838)⟩, ⟨PyData.keyHash P (Str.mk #[83, 95, 73, 88, 85, 83, 82]), (.str (Str.mk #[83, 95, 73, 88, 85, 83, 82]) 1841), (.int 64 1840)⟩, ⟨PyData.keyHash P (Str.mk #[83, 95, 73, 82, 71, 82, 80]), (.str (Str.mk #[83, 95, 73, 82, 71, 82, 80]) 1843), (.int 32 1842)⟩, ⟨PyData.keyHash P (Str.mk #[83, 95, 73, 87, 71, 82, 80]), (.str (Str.mk #[83, 95, 73, 87, 71, 82, 80]) 1845), (.int 16 1844)⟩, ⟨PyData.keyHash P (Str.mk #[83, 95, 73, 88, 71, 82, 80]), (.str (Str.mk #[83, 95, 73, 88, 71, 82, 80]) 1847), (.int 8 1846)⟩, ⟨PyData.keyHash P (Str.mk #[83, 95, 73, 82, 79, 84, 72]), (.str (Str.mk #[83, 95, 73, 82, 79, 84, 72]) 1849), (.int 4 1848)⟩, ⟨PyData.keyHash P (Str.mk #[83, 95, 73, 87, 79, 84, 72]), (.str (Str.mk #[83, 95, 73, 87, 79, 84, 72]) 1851), (.int 2 1850)⟩, ⟨PyData.keyHash P (Str.mk #[83, 95, 73, 88, 79, 84, 72]), (.str (Str.mk #[83, 95, 73, 88, 79, 84, 72]) 1853), (.int 1 1852)⟩, ⟨PyData.keyHash P (Str.mk #[95, 102, 105, 108, 101, 109, 111, 100, 101, 95, 116, 97, 98, 108, 101]), (.str (Str.mk #[95, 102, 105, 108, 101, 109, 111, 100, 101, 95, 116, 97, 98, 108, 101]) 1879), (.ref 119)⟩, ⟨PyData.keyHash P (Str.mk #[102, 105, 108, 101, 109, 111, 100, 101]), (.str (Str.mk #[102, 105, 108, 101, 109, 111, 100, 101]) 1891), (.ref 126)⟩, ⟨PyData.keyHash P (Str.mk #[95, 108, 97, 119, 95, 115, 105, 103, 110, 115]), (.str (Str.mk #[95, 108, 97, 119, 95, 115, 105, 103, 110, 115]) 1904), (.ref 133)⟩, ⟨PyData.keyHash P (Str.mk #[95, 108, 97, 119, 95, 102, 111, 108, 100, 101, 100]), (.str (Str.mk #[95, 108, 97, 119, 95, 102, 111, 108, 100, 101, 100]) 1915), (.ref 140)⟩, ⟨PyData.keyHash P (Str.mk #[95, 108, 97, 119, 95, 109, 105, 115, 115, 105, 110, 103]), (.str (Str.mk #[95, 108, 97, 119, 95, 109, 105, 115, 115, 105, 110, 103]) 1921), (.ref 145)⟩, ⟨PyData.keyHash P (Str.mk #[95, 108, 97, 119, 95, 108, 101, 102, 116]), (.str (Str.mk #[95, 108, 97, 119, 95, 108, 101, 102, 116]) 1927), (.ref 150)⟩, ⟨PyData.keyHash P (Str.mk #[95, 108, 97, 119, 95, 117, 110, 102, 111, 108, 100, 101, 100]), (.str (Str.mk #[95, 108, 97, 119, 95, 117, 110, 102, 111, 108, 100, 101, 100]) 1936), (.ref 157)⟩, ⟨PyData.keyHash P (Str.mk #[108, 97, 119]), (.str (Str.mk #[108, 97, 119]) 1942), (.ref 162)⟩] 56), #[]⟩
noncomputable def ob91 (P : Params) : Obj := ⟨.none, none, (.fields #[(.int 17 0), (.int 0 0), (.ref 36), (.int 19 0), (.int 0 0), (.ref 43), (.int 25 0), (.int 0 0), (.ref 56), (.int 63 0), (.int 0 0), (.ref 64), (.int 94 0), (.int 0 0), (.ref 71), (.int 104 0), (.int 0 0), (.ref 78), (.int 106 0), (.int 0 0), (.ref 85), (.int 128 0), (.int 0 0), (.ref 125), (.int 146 0), (.int 0 0), (.ref 132), (.int 154 0), (.int 0 0), (.ref 139), (.int 163 0), (.int 0 0), (.ref 144), (.int 169 0), (.int 0 0), (.ref 149), (.int 175 0), (.int 0 0), (.ref 156), (.int 185 0), (.int 0 0), (.ref 161)]), #[]⟩
noncomputable def ob92 (P : Params) : Obj := ⟨(.type "tuple"), none, (.seq #[] 0), #[]⟩
noncomputable def ob93 (P : Params) : Obj := ⟨.none, none, (.fields #[]), #[]⟩
noncomputable def ob94 (P : Params) : Obj := ⟨(.type "tuple"), none, (.seq #[(.str (Str.mk #[115]) 1736)] 0), #[]⟩
noncomputable def ob95 (P : Params) : Obj := ⟨(.type "tuple"), none, (.seq #[] 0), #[]⟩
noncomputable def ob96 (P : Params) : Obj := ⟨.none, none, (.func (fnd 14 0 0 .none .none .none .none none .none .none)), #[]⟩
noncomputable def ob97 (P : Params) : Obj := ⟨(.type "code"), none, (.fields #[(.str (Str.mk #[117, 110, 113, 117, 111, 116, 101]) 1733), (.str (Str.mk #[117, 110, 113, 117, 111, 116, 101]) 1734), (.str (Str.mk #[47, 99, 108, 97, 105, 109, 47, 99, 117, 116, 46, 112, 121]) 1735), (.int 17 0), (.int 1 0), (.int 0 0), (.int 0 0), (.int 3 0), (.ref 31), (.bool true), (.int 181 0), (.ref 32), .none, (.ref 33), (.ref 34), (.ref 35), (.int 1737 0), (.int 17 0), (.str (Str.mk #[47, 99, 108, 97, 105, 109, 47, 99, 117, 116, 46, 112, 121]) 1738)]), #[]⟩
noncomputable def ob98 (P : Params) : Obj := ⟨(.type "function"), none, (.func (fnd 14 3 0 .none .none .none (.str (Str.mk #[99, 112, 121, 51, 49, 51, 46, 101, 109, 97, 105, 108, 46, 113, 117, 111, 112, 114, 105, 109, 105, 109, 101]) 1234) none (.ref 36) .none)), #[]⟩
noncomputable def ob99 (P : Params) : Obj := ⟨(.type "tuple"), none, (.seq #[] 0), #[]⟩
noncomputable def ob100 (P : Params) : Obj := ⟨.none, none, (.fields #[]), #[]⟩
noncomputable def ob101 (P : Params) : Obj := ⟨(.type "tuple"), none, (.seq #[(.str (Str.mk #[99]) 1743)] 0), #[]⟩
noncomputable def ob102 (P : Params) : Obj := ⟨(.type "tuple"), none, (.seq #[] 0), #[]⟩
noncomputable def ob103 (P : Params) : Obj := ⟨.none, none, (.func (fnd 15 0 0 .none .none .none .none none .none .none)), #[]⟩
noncomputable def ob104 (P : Params) : Obj := ⟨(.type "code"), none, (.fields #[(.str (Str.mk #[113, 117, 111, 116, 101]) 1740), (.str (Str.mk #[113, 117, 111, 116, 101]) 1741), (.str (Str.mk #[47, 99, 108, 97, 105, 109, 47, 99, 117, 116, 46, 112, 121]) 1742), (.int 19 0), (.int 1 0), (.int 0 0), (.int 0 0), (.int 3 0), (.ref 38), (.bool true), (.int 181 0), (.ref 39), .none, (.ref 40), (.ref 41), (.ref 42), (.int 1744 0), (.int 19 0), (.str (Str.mk #[47, 99, 108, 97, 105, 109, 47, 99, 117, 116, 46, 112, 121]) 1745)]), #[]⟩
noncomputable def ob105 (P : Params) : Obj := ⟨(.type "function"), none, (.func (fnd 15 3 0 .none .none .none (.str (Str.mk #[99, 112, 121, 51, 49, 51, 46, 101, 109, 97, 105, 108, 46, 113, 117, 111, 112, 114, 105, 109, 105, 109, 101]) 1234) none (.ref 43) .none)), #[]⟩
noncomputable def ob106 (P : Params) : Obj := ⟨(.type "slice"), none, (.fields #[.none, .none, .none]), #[]⟩
noncomputable def ob107 (P : Params) : Obj := ⟨(.type "list"), none, (.seq ⟨[itm 0, itm 1, itm 2, itm 3, itm 4, itm 5, itm 6, itm 7, itm 8, ch #[9] 1732, ch #[10] 1754, itm 11, itm 12, ch #[13] 1751, itm 14, itm 15, itm 16, itm 17, itm 18, itm 19, itm 20, itm 21, itm 22, itm 23, itm 24, itm 25, itm 26, itm 27, itm 28, itm 29, itm 30, itm 31, ch #[32] 1450, ch #[33] 1453, ch #[34] 1456, ch #[35] 1459, ch #[36] 1462, ch #[37] 1465, ch #[38] 1468, ch #[39] 1471, ch #[40] 1474, ch #[41] 1477, ch #[42] 1480, ch #[43] 1483, ch #[44] 1486, ch #[45] 1489, ch #[46] 1492, ch #[47] 1495, ch #[48] 1498, ch #[49] 1501, ch #[50] 1504, ch #[51] 1507, ch #[52] 1510, ch #[53] 1513, ch #[54] 1516, ch #[55] 1519, ch #[56] 1522, ch #[57] 1525, ch #[58] 1528, ch #[59] 1531, ch #[60] 1534, itm 61, ch #[62] 1537, ch #[63] 1540, ch #[64] 1543, ch #[65] 1546, ch #[66] 1549, ch #[67] 1552, ch #[68] 1555, ch #[69] 1558, ch #[70] 1561, ch #[71] 1564, ch #[72] 1567, ch #[73] 1570, ch #[74] 1573, ch #[75] 1576, ch #[76] 1579, ch #[77] 1582, ch #[78] 1585, ch #[79] 1588, ch #[80] 1591, ch #[81] 1594, ch #[82] 1597, ch #[83] 1600, ch #[84] 1603, ch #[85] 1606, ch #[86] 1609, ch #[87] 1612, ch #[88] 1615, ch #[89] 1618, ch #[90] 1621, ch #[91] 1624, ch #[92] 1627, ch #[93] 1630, ch #[94] 1633, ch #[95] 1636, ch #[96] 1639, ch #[97] 1642, ch #[98] 1645, ch #[99] 1648, ch #[100] 1651, ch #[101] 1654, ch #[102] 1657, ch #[103] 1660, ch #[104] 1663, ch #[105] 1666, ch #[106] 1669, ch #[107] 1672, ch #[108] 1675, ch #[109] 1678, ch #[110] 1681, ch #[111] 1684, ch #[112] 1687, ch #[113] 1690, ch #[114] 1693, ch #[115] 1696, ch #[116] 1699, ch #[117] 1702, ch #[118] 1705, ch #[119] 1708, ch #[120] 1711, ch #[121] 1714, ch #[122] 1717, ch #[123] 1720, ch #[124] 1723, ch #[125] 1726, ch #[126] 1729, itm 127, itm 128, itm 129, itm 130, itm 131, itm 132, itm 133, itm 134, itm 135, itm 136, itm 137, itm 138, itm 139, itm 140, itm 141, itm 142, itm 143, itm 144, itm 145, itm 146, itm 147, itm 148, itm 149, itm 150, itm 151, itm 152, itm 153, itm 154, itm 155, itm 156, itm 157, itm 158, itm 159, itm 160, itm 161, itm 162, itm 163, itm 164, itm 165, itm 166, itm 167, itm 168, itm 169, itm 170, itm 171, itm 172, itm 173, itm 174, itm 175, itm 176, itm 177, itm 178, itm 179, itm 180, itm 181, itm 182, itm 183, itm 184, itm 185, itm 186, itm 187, itm 188, itm 189, itm 190, itm 191, itm 192, itm 193, itm 194, itm 195, itm 196, itm 197, itm 198, itm 199, itm 200, itm 201, itm 202, itm 203, itm 204, itm 205, itm 206, itm 207, itm 208, itm 209, itm 210, itm 211, itm 212, itm 213, itm 214, itm 215, itm 216, itm 217, itm 218, itm 219, itm 220, itm 221, itm 222, itm 223, itm 224, itm 225, itm 226, itm 227, itm 228, itm 229, itm 230, itm 231, itm 232, itm 233, itm 234, itm 235, itm 236, itm 237, itm 238, itm 239, itm 240, itm 241, itm 242, itm 243, itm 244, itm 245, itm 246, itm 247, itm 248, itm 249, itm 250, itm 251, itm 252, itm 253, itm 254, itm 255]⟩ 0), #[]⟩
noncomputable def ob108 (P : Params) : Obj := ⟨(.type "bytes_iterator"), none, (.fields #[.none, (.int 2 0)]), #[]⟩
noncomputable def ob109 (P : Params) : Obj := ⟨(.type "tuple"), none, (.seq #[] 0), #[]⟩
noncomputable def ob110 (P : Params) : Obj := ⟨(.type "StopIteration"), none, (.fields #[(.ref 48), .none, .none, .none, (.bool false), .none]), #[]⟩
noncomputable def ob111 (P : Params) : Obj := ⟨(.type "tuple"), none, (.seq #[(.int 76 1755), (.str (Str.mk #[10]) 189)] 0), #[]⟩
noncomputable def ob112 (P : Params) : Obj := ⟨(.type "tuple"), none, (.seq #[] 0), #[]⟩
noncomputable def ob113 (P : Params) : Obj := ⟨.none, none, (.fields #[]), #[]⟩
noncomputable def ob114 (P : Params) : Obj := ⟨(.type "tuple"), none, (.seq #[(.str (Str.mk #[98, 111, 100, 121]) 1759), (.str (Str.mk #[109, 97, 120, 108, 105, 110, 101, 108, 101, 110]) 1760), (.str (Str.mk #[101, 111, 108]) 1761), (.str (Str.mk #[115, 111, 102, 116, 95, 98, 114, 101, 97, 107]) 1762), (.str (Str.mk #[109, 97, 120, 108, 105, 110, 101, 108, 101, 110, 49]) 1763), (.str (Str.mk #[101, 110, 99, 111, 100, 101, 100, 95, 98, 111, 100, 121]) 1764), (.str (Str.mk #[97, 112, 112, 101, 110, 100]) 1765), (.str (Str.mk #[108, 105, 110, 101]) 1766), (.str (Str.mk #[115, 116, 97, 114, 116]) 1767), (.str (Str.mk #[108, 97, 115, 116, 115, 116, 97, 114, 116]) 1768), (.str (Str.mk #[115, 116, 111, 112]) 1769), (.str (Str.mk #[114, 111, 111, 109]) 1770), (.str (Str.mk #[113]) 1771)] 0), #[]⟩
noncomputable def ob115 (P : Params) : Obj := ⟨(.type "tuple"), none, (.seq #[] 0), #[]⟩
noncomputable def ob116 (P : Params) : Obj := ⟨.none, none, (.func (fnd 19 0 0 .none .none .none .none none .none .none)), #[]⟩
noncomputable def ob117 (P : Params) : Obj := ⟨(.type "code"), none, (.fields #[(.str (Str.mk #[98, 111, 100, 121, 95, 101, 110, 99, 111, 100, 101]) 1756), (.str (Str.mk #[98, 111, 100, 121, 95, 101, 110, 99, 111, 100, 101]) 1757), (.str (Str.mk #[47, 99, 108, 97, 105, 109, 47, 99, 117, 116, 46, 112, 121]) 1758), (.int 25 0), (.int 3 0), (.int 0 0), (.int 0 0), (.int 3 0), (.ref 51), (.bool true), (.int 181 0), (.ref 52), .none, (.ref 53), (.ref 54), (.ref 55), (.int 1772 0), (.int 25 0), (.str (Str.mk #[47, 99, 108, 97, 105, 109, 47, 99, 117, 116, 46, 112, 121]) 1773)]), #[]⟩
noncomputable def ob118 (P : Params) : Obj := ⟨(.type "function"), none, (.func (fnd 19 3 0 (.ref 50) .none .none (.str (Str.mk #[99, 112, 121, 51, 49, 51, 46, 101, 109, 97, 105, 108, 46, 113, 117, 111, 112, 114, 105, 109, 105, 109, 101]) 1234) none (.ref 56) .none)), #[]⟩
noncomputable def ob119 (P : Params) : Obj := ⟨(.type "tuple"), none, (.seq #[(.str (Str.mk #[10]) 189)] 0), #[]⟩
noncomputable def ob120 (P : Params) : Obj := ⟨(.type "tuple"), none, (.seq #[] 0), #[]⟩
noncomputable def ob121 (P : Params) : Obj := ⟨.none, none, (.fields #[]), #[]⟩
noncomputable def ob122 (P : Params) : Obj := ⟨(.type "tuple"), none, (.seq #[(.str (Str.mk #[101, 110, 99, 111, 100, 101, 100]) 1778), (.str (Str.mk #[101, 111, 108]) 1779), (.str (Str.mk #[100, 101, 99, 111, 100, 101, 100]) 1780), (.str (Str.mk #[108, 105, 110, 101]) 1781), (.str (Str.mk #[105]) 1782), (.str (Str.mk #[110]) 1783), (.str (Str.mk #[99]) 1784)] 0), #[]⟩
noncomputable def ob123 (P : Params) : Obj := ⟨(.type "tuple"), none, (.seq #[] 0), #[]⟩
noncomputable def ob124 (P : Params) : Obj := ⟨.none, none, (.func (fnd 20 0 0 .none .none .none .none none .none .none)), #[]⟩
noncomputable def ob125 (P : Params) : Obj := ⟨(.type "code"), none, (.fields #[(.str (Str.mk #[100, 101, 99, 111, 100, 101]) 1775), (.str (Str.mk #[100, 101, 99, 111, 100, 101]) 1776), (.str (Str.mk #[47, 99, 108, 97, 105, 109, 47, 99, 117, 116, 46, 112, 121]) 1777), (.int 63 0), (.int 2 0), (.int 0 0), (.int 0 0), (.int 3 0), (.ref 59), (.bool true), (.int 181 0), (.ref 60), .none, (.ref 61), (.ref 62), (.ref 63), (.int 1785 0), (.int 63 0), (.str (Str.mk #[47, 99, 108, 97, 105, 109, 47, 99, 117, 116, 46, 112, 121]) 1786)]), #[]⟩
noncomputable def ob126 (P : Params) : Obj := ⟨(.type "function"), none, (.func (fnd 20 3 0 (.ref 58) .none .none (.str (Str.mk #[99, 112, 121, 51, 49, 51, 46, 101, 109, 97, 105, 108, 46, 113, 117, 111, 112, 114, 105, 109, 105, 109, 101]) 1234) none (.ref 64) .none)), #[]⟩
noncomputable def ob127 (P : Params) : Obj := ⟨(.type "tuple"), none, (.seq #[] 0), #[]⟩
noncomputable def ob128 (P : Params) : Obj := ⟨.none, none, (.fields #[]), #[]⟩
noncomputable def ob129 (P : Params) : Obj := ⟨(.type "tuple"), none, (.seq #[(.str (Str.mk #[101, 120, 112, 101, 99, 116, 101, 100]) 1793), (.str (Str.mk #[97, 99, 116, 117, 97, 108]) 1794), (.str (Str.mk #[109, 105, 115, 115, 105, 110, 103]) 1795), (.str (Str.mk #[105, 116, 101, 109]) 1796)] 0), #[]⟩
noncomputable def ob130 (P : Params) : Obj := ⟨(.type "tuple"), none, (.seq #[] 0), #[]⟩
noncomputable def ob131 (P : Params) : Obj := ⟨.none, none, (.func (fnd 22 0 0 .none .none .none .none none .none .none)), #[]⟩
noncomputable def ob132 (P : Params) : Obj := ⟨(.type "code"), none, (.fields #[(.str (Str.mk #[117, 110, 111, 114, 100, 101, 114, 97, 98, 108, 101, 95, 108, 105, 115, 116, 95, 100, 105, 102, 102, 101, 114, 101, 110, 99, 101]) 1790), (.str (Str.mk #[117, 110, 111, 114, 100, 101, 114, 97, 98, 108, 101, 95, 108, 105, 115, 116, 95, 100, 105, 102, 102, 101, 114, 101, 110, 99, 101]) 1791), (.str (Str.mk #[47, 99, 108, 97, 105, 109, 47, 99, 117, 116, 46, 112, 121]) 1792), (.int 94 0), (.int 2 0), (.int 0 0), (.int 0 0), (.int 3 0), (.ref 66), (.bool true), (.int 181 0), (.ref 67), .none, (.ref 68), (.ref 69), (.ref 70), (.int 1797 0), (.int 94 0), (.str (Str.mk #[47, 99, 108, 97, 105, 109, 47, 99, 117, 116, 46, 112, 121]) 1798)]), #[]⟩
noncomputable def ob133 (P : Params) : Obj := ⟨(.type "function"), none, (.func (fnd 22 3 0 .none .none .none (.str (Str.mk #[99, 112, 121, 51, 49, 51, 46, 117, 110, 105, 116, 116, 101, 115, 116, 46, 117, 116, 105, 108]) 1788) none (.ref 71) .none)), #[]⟩
noncomputable def ob134 (P : Params) : Obj := ⟨(.type "tuple"), none, (.seq #[] 0), #[]⟩
noncomputable def ob135 (P : Params) : Obj := ⟨.none, none, (.fields #[]), #[]⟩
noncomputable def ob136 (P : Params) : Obj := ⟨(.type "tuple"), none, (.seq #[(.str (Str.mk #[109, 111, 100, 101]) 1805)] 0), #[]⟩
noncomputable def ob137 (P : Params) : Obj := ⟨(.type "tuple"), none, (.seq #[] 0), #[]⟩
noncomputable def ob138 (P : Params) : Obj := ⟨.none, none, (.func (fnd 24 0 0 .none .none .none .none none .none .none)), #[]⟩
noncomputable def ob139 (P : Params) : Obj := ⟨(.type "code"), none, (.fields #[(.str (Str.mk #[83, 95, 73, 77, 79, 68, 69]) 1802), (.str (Str.mk #[83, 95, 73, 77, 79, 68, 69]) 1803), (.str (Str.mk #[47, 99, 108, 97, 105, 109, 47, 99, 117, 116, 46, 112, 121]) 1804), (.int 104 0), (.int 1 0), (.int 0 0), (.int 0 0), (.int 3 0), (.ref 73), (.bool true), (.int 181 0), (.ref 74), .none, (.ref 75), (.ref 76), (.ref 77), (.int 1806 0), (.int 104 0), (.str (Str.mk #[47, 99, 108, 97, 105, 109, 47, 99, 117, 116, 46, 112, 121]) 1807)]), #[]⟩
noncomputable def ob140 (P : Params) : Obj := ⟨(.type "function"), none, (.func (fnd 24 3 0 .none .none .none (.str (Str.mk #[99, 112, 121, 51, 49, 51, 46, 115, 116, 97, 116]) 1800) none (.ref 78) .none)), #[]⟩
noncomputable def ob141 (P : Params) : Obj := ⟨(.type "tuple"), none, (.seq #[] 0), #[]⟩
noncomputable def ob142 (P : Params) : Obj := ⟨.none, none, (.fields #[]), #[]⟩
noncomputable def ob143 (P : Params) : Obj := ⟨(.type "tuple"), none, (.seq #[(.str (Str.mk #[109, 111, 100, 101]) 1812)] 0), #[]⟩
noncomputable def ob144 (P : Params) : Obj := ⟨(.type "tuple"), none, (.seq #[] 0), #[]⟩
noncomputable def ob145 (P : Params) : Obj := ⟨.none, none, (.func (fnd 25 0 0 .none .none .none .none none .none .none)), #[]⟩
noncomputable def ob146 (P : Params) : Obj := ⟨(.type "code"), none, (.fields #[(.str (Str.mk #[83, 95, 73, 70, 77, 84]) 1809), (.str (Str.mk #[83, 95, 73, 70, 77, 84]) 1810), (.str (Str.mk #[47, 99, 108, 97, 105, 109, 47, 99, 117, 116, 46, 112, 121]) 1811), (.int 106 0), (.int 1 0), (.int 0 0), (.int 0 0), (.int 3 0), (.ref 80), (.bool true), (.int 181 0), (.ref 81), .none, (.ref 82), (.ref 83), (.ref 84), (.int 1813 0), (.int 106 0), (.str (Str.mk #[47, 99, 108, 97, 105, 109, 47, 99, 117, 116, 46, 112, 121]) 1814)]), #[]⟩
noncomputable def ob147 (P : Params) : Obj := ⟨(.type "function"), none, (.func (fnd 25 3 0 .none .none .none (.str (Str.mk #[99, 112, 121, 51, 49, 51, 46, 115, 116, 97, 116]) 1800) none (.ref 85) .none)), #[]⟩
noncomputable def ob148 (P : Params) : Obj := ⟨(.type "tuple"), none, (.seq #[(.int 40960 1826), (.str (Str.mk #[108]) 1854)] 0), #[]⟩
noncomputable def ob149 (P : Params) : Obj := ⟨(.type "tuple"), none, (.seq #[(.int 49152 1828), (.str (Str.mk #[115]) 1855)] 0), #[]⟩
noncomputable def ob150 (P : Params) : Obj := ⟨(.type "tuple"), none, (.seq #[(.int 32768 1822), (.str (Str.mk #[45]) 1856)] 0), #[]⟩
noncomputable def ob151 (P : Params) : Obj := ⟨(.type "tuple"), none, (.seq #[(.int 24576 1820), (.str (Str.mk #[98]) 1857)] 0), #[]⟩
noncomputable def ob152 (P : Params) : Obj := ⟨(.type "tuple"), none, (.seq #[(.int 16384 1816), (.str (Str.mk #[100]) 1858)] 0), #[]⟩
noncomputable def ob153 (P : Params) : Obj := ⟨(.type "tuple"), none, (.seq #[(.int 8192 1818), (.str (Str.mk #[99]) 1859)] 0), #[]⟩
noncomputable def ob154 (P : Params) : Obj := ⟨(.type "tuple"), none, (.seq #[(.int 4096 1824), (.str (Str.mk #[112]) 1860)] 0), #[]⟩
noncomputable def ob155 (P : Params) : Obj := ⟨(.type "tuple"), none, (.seq #[(.ref 87), (.ref 88), (.ref 89), (.ref 90), (.ref 91), (.ref 92), (.ref 93)] 0), #[]⟩
noncomputable def ob156 (P : Params) : Obj := ⟨(.type "tuple"), none, (.seq #[(.int 256 1836), (.str (Str.mk #[114]) 1861)] 0), #[]⟩
noncomputable def ob157 (P : Params) : Obj := ⟨(.type "tuple"), none, (.seq #[(.ref 95)] 0), #[]⟩
noncomputable def ob158 (P : Params) : Obj := ⟨(.type "tuple"), none, (.seq #[(.int 128 1838), (.str (Str.mk #[119]) 1862)] 0), #[]⟩
noncomputable def ob159 (P : Params) : Obj := ⟨(.type "tuple"), none, (.seq #[(.ref 97)] 0), #[]⟩
noncomputable def ob160 (P : Params) : Obj := ⟨(.type "tuple"), none, (.seq #[(.int 2112 1863), (.str (Str.mk #[115]) 1864)] 0), #[]⟩
noncomputable def ob161 (P : Params) : Obj := ⟨(.type "tuple"), none, (.seq #[(.int 2048 1830), (.str (Str.mk #[83]) 1865)] 0), #[]⟩
noncomputable def ob162 (P : Params) : Obj := ⟨(.type "tuple"), none, (.seq #[(.int 64 1840), (.str (Str.mk #[120]) 1866)] 0), #[]⟩
noncomputable def ob163 (P : Params) : Obj := ⟨(.type "tuple"), none, (.seq #[(.ref 99), (.ref 100), (.ref 101)] 0), #[]⟩
noncomputable def ob164 (P : Params) : Obj := ⟨(.type "tuple"), none, (.seq #[(.int 32 1842), (.str (Str.mk #[114]) 1867)] 0), #[]⟩
noncomputable def ob165 (P : Params) : Obj := ⟨(.type "tuple"), none, (.seq #[(.ref 103)] 0), #[]⟩
noncomputable def ob166 (P : Params) : Obj := ⟨(.type "tuple"), none, (.seq #[(.int 16 1844), (.str (Str.mk #[119]) 1868)] 0), #[]⟩
noncomputable def ob167 (P : Params) : Obj := ⟨(.type "tuple"), none, (.seq #[(.ref 105)] 0), #[]⟩
noncomputable def ob168 (P : Params) : Obj := ⟨(.type "tuple"), none, (.seq #[(.int 1032 1869), (.str (Str.mk #[115]) 1870)] 0), #[]⟩
noncomputable def ob169 (P : Params) : Obj := ⟨(.type "tuple"), none, (.seq #[(.int 1024 1832), (.str (Str.mk #[83]) 1871)] 0), #[]⟩
noncomputable def ob170 (P : Params) : Obj := ⟨(.type "tuple"), none, (.seq #[(.int 8 1846), (.str (Str.mk #[120]) 1872)] 0), #[]⟩
noncomputable def ob171 (P : Params) : Obj := ⟨(.type "tuple"), none, (.seq #[(.ref 107), (.ref 108), (.ref 109)] 0), #[]⟩
noncomputable def ob172 (P : Params) : Obj := ⟨(.type "tuple"), none, (.seq #[(.int 4 1848), (.str (Str.mk #[114]) 1873)] 0), #[]⟩
noncomputable def ob173 (P : Params) : Obj := ⟨(.type "tuple"), none, (.seq #[(.ref 111)] 0), #[]⟩
noncomputable def ob174 (P : Params) : Obj := ⟨(.type "tuple"), none, (.seq #[(.int 2 1850), (.str (Str.mk #[119]) 1874)] 0), #[]⟩
noncomputable def ob175 (P : Params) : Obj := ⟨(.type "tuple"), none, (.seq #[(.ref 113)] 0), #[]⟩
noncomputable def ob176 (P : Params) : Obj := ⟨(.type "tuple"), none, (.seq #[(.int 513 1875), (.str (Str.mk #[116]) 1876)] 0), #[]⟩
noncomputable def ob177 (P : Params) : Obj := ⟨(.type "tuple"), none, (.seq #[(.int 512 1834), (.str (Str.mk #[84]) 1877)] 0), #[]⟩
noncomputable def ob178 (P : Params) : Obj := ⟨(.type "tuple"), none, (.seq #[(.int 1 1852), (.str (Str.mk #[120]) 1878)] 0), #[]⟩
noncomputable def ob179 (P : Params) : Obj := ⟨(.type "tuple"), none, (.seq #[(.ref 115), (.ref 116), (.ref 117)] 0), #[]⟩
noncomputable def ob180 (P : Params) : Obj := ⟨(.type "tuple"), none, (.seq #[(.ref 94), (.ref 96), (.ref 98), (.ref 102), (.ref 104), (.ref 106), (.ref 110), (.ref 112), (.ref 114), (.ref 118)] 0), #[]⟩
noncomputable def ob181 (P : Params) : Obj := ⟨(.type "tuple"), none, (.seq #[] 0), #[]⟩
noncomputable def ob182 (P : Params) : Obj := ⟨.none, none, (.fields #[]), #[]⟩
noncomputable def ob183 (P : Params) : Obj := ⟨(.type "tuple"), none, (.seq #[(.str (Str.mk #[109, 111, 100, 101]) 1883), (.str (Str.mk #[112, 101, 114, 109]) 1884), (.str (Str.mk #[105, 110, 100, 101, 120]) 1885), (.str (Str.mk #[116, 97, 98, 108, 101]) 1886), (.str (Str.mk #[98, 105, 116]) 1887), (.str (Str.mk #[99, 104, 97, 114]) 1888)] 0), #[]⟩
noncomputable def ob184 (P : Params) : Obj := ⟨(.type "tuple"), none, (.seq #[] 0), #[]⟩
noncomputable def ob185 (P : Params) : Obj := ⟨.none, none, (.func (fnd 46 0 0 .none .none .none .none none .none .none)), #[]⟩
noncomputable def ob186 (P : Params) : Obj := ⟨(.type "code"), none, (.fields #[(.str (Str.mk #[102, 105, 108, 101, 109, 111, 100, 101]) 1880), (.str (Str.mk #[102, 105, 108, 101, 109, 111, 100, 101]) 1881), (.str (Str.mk #[47, 99, 108, 97, 105, 109, 47, 99, 117, 116, 46, 112, 121]) 1882), (.int 128 0), (.int 1 0), (.int 0 0), (.int 0 0), (.int 3 0), (.ref 120), (.bool true), (.int 181 0), (.ref 121), .none, (.ref 122), (.ref 123), (.ref 124), (.int 1889 0), (.int 128 0), (.str (Str.mk #[47, 99, 108, 97, 105, 109, 47, 99, 117, 116, 46, 112, 121]) 1890)]), #[]⟩
noncomputable def ob187 (P : Params) : Obj := ⟨(.type "function"), none, (.func (fnd 46 3 0 .none .none .none (.str (Str.mk #[99, 112, 121, 51, 49, 51, 46, 115, 116, 97, 116]) 1800) none (.ref 125) .none)), #[]⟩
noncomputable def ob188 (P : Params) : Obj := ⟨(.type "tuple"), none, (.seq #[] 0), #[]⟩
noncomputable def ob189 (P : Params) : Obj := ⟨.none, none, (.fields #[]), #[]⟩
noncomputable def ob190 (P : Params) : Obj := ⟨(.type "tuple"), none, (.seq #[(.str (Str.mk #[109]) 1897), (.str (Str.mk #[115, 105, 103, 110, 115]) 1898), (.str (Str.mk #[107]) 1899), (.str (Str.mk #[102, 105, 103, 117, 114, 101]) 1900), (.str (Str.mk #[97, 98, 111, 118, 101]) 1901)] 0), #[]⟩
noncomputable def ob191 (P : Params) : Obj := ⟨(.type "tuple"), none, (.seq #[] 0), #[]⟩
noncomputable def ob192 (P : Params) : Obj := ⟨.none, none, (.func (fnd 48 0 0 .none .none .none .none none .none .none)), #[]⟩
noncomputable def ob193 (P : Params) : Obj := ⟨(.type "code"), none, (.fields #[(.str (Str.mk #[95, 108, 97, 119, 95, 115, 105, 103, 110, 115]) 1894), (.str (Str.mk #[95, 108, 97, 119, 95, 115, 105, 103, 110, 115]) 1895), (.str (Str.mk #[47, 99, 108, 97, 105, 109, 47, 99, 117, 116, 46, 112, 121]) 1896), (.int 146 0), (.int 1 0), (.int 0 0), (.int 0 0), (.int 3 0), (.ref 127), (.bool true), (.int 181 0), (.ref 128), .none, (.ref 129), (.ref 130), (.ref 131), (.int 1902 0), (.int 146 0), (.str (Str.mk #[47, 99, 108, 97, 105, 109, 47, 99, 117, 116, 46, 112, 121]) 1903)]), #[]⟩
noncomputable def ob194 (P : Params) : Obj := ⟨(.type "function"), none, (.func (fnd 48 3 0 .none .none .none (.str (Str.mk #[108, 97, 119, 95, 111, 99, 48, 49, 54, 51, 95, 48, 49]) 1892) none (.ref 132) .none)), #[]⟩
noncomputable def ob195 (P : Params) : Obj := ⟨(.type "tuple"), none, (.seq #[] 0), #[]⟩
noncomputable def ob196 (P : Params) : Obj := ⟨.none, none, (.fields #[]), #[]⟩
noncomputable def ob197 (P : Params) : Obj := ⟨(.type "tuple"), none, (.seq #[(.str (Str.mk #[110, 117, 109, 98, 101, 114, 115]) 1908), (.str (Str.mk #[119, 105, 100, 116, 104]) 1909), (.str (Str.mk #[108, 105, 110, 101, 115]) 1910), (.str (Str.mk #[109]) 1911), (.str (Str.mk #[108, 101, 102, 116]) 1912)] 0), #[]⟩
noncomputable def ob198 (P : Params) : Obj := ⟨(.type "tuple"), none, (.seq #[] 0), #[]⟩
noncomputable def ob199 (P : Params) : Obj := ⟨.none, none, (.func (fnd 49 0 0 .none .none .none .none none .none .none)), #[]⟩
noncomputable def ob200 (P : Params) : Obj := ⟨(.type "code"), none, (.fields #[(.str (Str.mk #[95, 108, 97, 119, 95, 102, 111, 108, 100, 101, 100]) 1905), (.str (Str.mk #[95, 108, 97, 119, 95, 102, 111, 108, 100, 101, 100]) 1906), (.str (Str.mk #[47, 99, 108, 97, 105, 109, 47, 99, 117, 116, 46, 112, 121]) 1907), (.int 154 0), (.int 2 0), (.int 0 0), (.int 0 0), (.int 3 0), (.ref 134), (.bool true), (.int 181 0), (.ref 135), .none, (.ref 136), (.ref 137), (.ref 138), (.int 1913 0), (.int 154 0), (.str (Str.mk #[47, 99, 108, 97, 105, 109, 47, 99, 117, 116, 46, 112, 121]) 1914)]), #[]⟩
noncomputable def ob201 (P : Params) : Obj := ⟨(.type "function"), none, (.func (fnd 49 3 0 .none .none .none (.str (Str.mk #[108, 97, 119, 95, 111, 99, 48, 49, 54, 51, 95, 48, 49]) 1892) none (.ref 139) .none)), #[]⟩
noncomputable def ob202 (P : Params) : Obj := ⟨(.type "tuple"), none, (.seq #[] 0), #[]⟩
noncomputable def ob203 (P : Params) : Obj := ⟨.none, none, (.fields #[]), #[]⟩
noncomputable def ob204 (P : Params) : Obj := ⟨.none, none, (.func (fnd 50 0 0 .none .none .none .none none .none .none)), #[]⟩
noncomputable def ob205 (P : Params) : Obj := ⟨(.type "code"), none, (.fields #[(.str (Str.mk #[95, 108, 97, 119, 95, 109, 105, 115, 115, 105, 110, 103]) 1916), (.str (Str.mk #[95, 108, 97, 119, 95, 109, 105, 115, 115, 105, 110, 103]) 1917), (.str (Str.mk #[47, 99, 108, 97, 105, 109, 47, 99, 117, 116, 46, 112, 121]) 1918), (.int 163 0), (.int 2 0), (.int 0 0), (.int 0 0), (.int 3 0), (.ref 141), (.bool true), (.int 181 0), (.ref 142), .none, .none, .none, (.ref 143), (.int 1919 0), (.int 163 0), (.str (Str.mk #[47, 99, 108, 97, 105, 109, 47, 99, 117, 116, 46, 112, 121]) 1920)]), #[]⟩
noncomputable def ob206 (P : Params) : Obj := ⟨(.type "function"), none, (.func (fnd 50 3 0 .none .none .none (.str (Str.mk #[108, 97, 119, 95, 111, 99, 48, 49, 54, 51, 95, 48, 49]) 1892) none (.ref 144) .none)), #[]⟩
noncomputable def ob207 (P : Params) : Obj := ⟨(.type "tuple"), none, (.seq #[] 0), #[]⟩
noncomputable def ob208 (P : Params) : Obj := ⟨.none, none, (.fields #[]), #[]⟩
noncomputable def ob209 (P : Params) : Obj := ⟨.none, none, (.func (fnd 51 0 0 .none .none .none .none none .none .none)), #[]⟩
noncomputable def ob210 (P : Params) : Obj := ⟨(.type "code"), none, (.fields #[(.str (Str.mk #[95, 108, 97, 119, 95, 108, 101, 102, 116]) 1922), (.str (Str.mk #[95, 108, 97, 119, 95, 108, 101, 102, 116]) 1923), (.str (Str.mk #[47, 99, 108, 97, 105, 109, 47, 99, 117, 116, 46, 112, 121]) 1924), (.int 169 0), (.int 2 0), (.int 0 0), (.int 0 0), (.int 3 0), (.ref 146), (.bool true), (.int 181 0), (.ref 147), .none, .none, .none, (.ref 148), (.int 1925 0), (.int 169 0), (.str (Str.mk #[47, 99, 108, 97, 105, 109, 47, 99, 117, 116, 46, 112, 121]) 1926)]), #[]⟩
noncomputable def ob211 (P : Params) : Obj := ⟨(.type "function"), none, (.func (fnd 51 3 0 .none .none .none (.str (Str.mk #[108, 97, 119, 95, 111, 99, 48, 49, 54, 51, 95, 48, 49]) 1892) none (.ref 149) .none)), #[]⟩
noncomputable def ob212 (P : Params) : Obj := ⟨(.type "tuple"), none, (.seq #[] 0), #[]⟩
noncomputable def ob213 (P : Params) : Obj := ⟨.none, none, (.fields #[]), #[]⟩
noncomputable def ob214 (P : Params) : Obj := ⟨(.type "tuple"), none, (.seq #[(.str (Str.mk #[114, 111, 119, 115]) 1931), (.str (Str.mk #[116, 101, 120, 116]) 1932), (.str (Str.mk #[107]) 1933)] 0), #[]⟩
noncomputable def ob215 (P : Params) : Obj := ⟨(.type "tuple"), none, (.seq #[] 0), #[]⟩
noncomputable def ob216 (P : Params) : Obj := ⟨.none, none, (.func (fnd 52 0 0 .none .none .none .none none .none .none)), #[]⟩
noncomputable def ob217 (P : Params) : Obj := ⟨(.type "code"), none, (.fields #[(.str (Str.mk #[95, 108, 97, 119, 95, 117, 110, 102, 111, 108, 100, 101, 100]) 1928), (.str (Str.mk #[95, 108, 97, 119, 95, 117, 110, 102, 111, 108, 100, 101, 100]) 1929), (.str (Str.mk #[47, 99, 108, 97, 105, 109, 47, 99, 117, 116, 46, 112, 121]) 1930), (.int 175 0), (.int 1 0), (.int 0 0), (.int 0 0), (.int 3 0), (.ref 151), (.bool true), (.int 181 0), (.ref 152), .none, (.ref 153), (.ref 154), (.ref 155), (.int 1934 0), (.int 175 0), (.str (Str.mk #[47, 99, 108, 97, 105, 109, 47, 99, 117, 116, 46, 112, 121]) 1935)]), #[]⟩
noncomputable def ob218 (P : Params) : Obj := ⟨(.type "function"), none, (.func (fnd 52 3 0 .none .none .none (.str (Str.mk #[108, 97, 119, 95, 111, 99, 48, 49, 54, 51, 95, 48, 49]) 1892) none (.ref 156) .none)), #[]⟩
noncomputable def ob219 (P : Params) : Obj := ⟨(.type "tuple"), none, (.seq #[] 0), #[]⟩
noncomputable def ob220 (P : Params) : Obj := ⟨.none, none, (.fields #[]), #[]⟩
noncomputable def ob221 (P : Params) : Obj := ⟨.none, none, (.func (fnd 53 0 0 .none .none .none .none none .none .none)), #[]⟩
noncomputable def ob222 (P : Params) : Obj := ⟨(.type "code"), none, (.fields #[(.str (Str.mk #[108, 97, 119]) 1937), (.str (Str.mk #[108, 97, 119]) 1938), (.str (Str.mk #[47, 99, 108, 97, 105, 109, 47, 99, 117, 116, 46, 112, 121]) 1939), (.int 185 0), (.int 1 0), (.int 0 0), (.int 0 0), (.int 3 0), (.ref 158), (.bool true), (.int 181 0), (.ref 159), .none, .none, .none, (.ref 160), (.int 1940 0), (.int 185 0), (.str (Str.mk #[47, 99, 108, 97, 105, 109, 47, 99, 117, 116, 46, 112, 121]) 1941)]), #[]⟩
noncomputable def ob223 (P : Params) : Obj := ⟨(.type "function"), none, (.func (fnd 53 3 0 .none .none .none (.str (Str.mk #[108, 97, 119, 95, 111, 99, 48, 49, 54, 51, 95, 48, 49]) 1892) none (.ref 161) .none)), #[]⟩
noncomputable def tree_X53_s0 (P : Params) : BT :=
  (.node (ob7 P) (.node (ob17 P) (.node (ob92 P) (.node (ob124 P) (.node (ob188 P) .nil .nil) .nil) (.node (ob156 P) (.node (ob220 P) .nil .nil) .nil)) (.node (ob108 P) (.node (ob140 P) (.node (ob204 P) .nil .nil) .nil) (.node (ob172 P) .nil .nil))) (.node (ob26 P) (.node (ob100 P) (.node (ob132 P) (.node (ob196 P) .nil .nil) .nil) (.node (ob164 P) .nil .nil)) (.node (ob116 P) (.node (ob148 P) (.node (ob212 P) .nil .nil) .nil) (.node (ob180 P) .nil .nil))))
noncomputable def tree_X53_s1 (P : Params) : BT :=
  (.node (ob11 P) (.node (ob21 P) (.node (ob96 P) (.node (ob128 P) (.node (ob192 P) .nil .nil) .nil) (.node (ob160 P) .nil .nil)) (.node (ob112 P) (.node (ob144 P) (.node (ob208 P) .nil .nil) .nil) (.node (ob176 P) .nil .nil))) (.node (ob53 P) (.node (ob104 P) (.node (ob136 P) (.node (ob200 P) .nil .nil) .nil) (.node (ob168 P) .nil .nil)) (.node (ob120 P) (.node (ob152 P) (.node (ob216 P) .nil .nil) .nil) (.node (ob184 P) .nil .nil))))
noncomputable def tree_X53_s2 (P : Params) : BT :=
  (.node (ob9 P) (.node (ob19 P) (.node (ob94 P) (.node (ob126 P) (.node (ob190 P) .nil .nil) .nil) (.node (ob158 P) (.node (ob222 P) .nil .nil) .nil)) (.node (ob110 P) (.node (ob142 P) (.node (ob206 P) .nil .nil) .nil) (.node (ob174 P) .nil .nil))) (.node (ob51 P) (.node (ob102 P) (.node (ob134 P) (.node (ob198 P) .nil .nil) .nil) (.node (ob166 P) .nil .nil)) (.node (ob118 P) (.node (ob150 P) (.node (ob214 P) .nil .nil) .nil) (.node (ob182 P) .nil .nil))))
noncomputable def tree_X53_s3 (P : Params) : BT :=
  (.node (ob13 P) (.node (ob24 P) (.node (ob98 P) (.node (ob130 P) (.node (ob194 P) .nil .nil) .nil) (.node (ob162 P) .nil .nil)) (.node (ob114 P) (.node (ob146 P) (.node (ob210 P) .nil .nil) .nil) (.node (ob178 P) .nil .nil))) (.node (ob88 P) (.node (ob106 P) (.node (ob138 P) (.node (ob202 P) .nil .nil) .nil) (.node (ob170 P) .nil .nil)) (.node (ob122 P) (.node (ob154 P) (.node (ob218 P) .nil .nil) .nil) (.node (ob186 P) .nil .nil))))
noncomputable def tree_X53_s4 (P : Params) : BT :=
  (.node (ob8 P) (.node (ob18 P) (.node (ob93 P) (.node (ob125 P) (.node (ob189 P) .nil .nil) .nil) (.node (ob157 P) (.node (ob221 P) .nil .nil) .nil)) (.node (ob109 P) (.node (ob141 P) (.node (ob205 P) .nil .nil) .nil) (.node (ob173 P) .nil .nil))) (.node (ob86 P) (.node (ob101 P) (.node (ob133 P) (.node (ob197 P) .nil .nil) .nil) (.node (ob165 P) .nil .nil)) (.node (ob117 P) (.node (ob149 P) (.node (ob213 P) .nil .nil) .nil) (.node (ob181 P) .nil .nil))))
noncomputable def tree_X53_s5 (P : Params) : BT :=
  (.node (ob91 P) (.node (ob22 P) (.node (ob97 P) (.node (ob129 P) (.node (ob193 P) .nil .nil) .nil) (.node (ob161 P) .nil .nil)) (.node (ob113 P) (.node (ob145 P) (.node (ob209 P) .nil .nil) .nil) (.node (ob177 P) .nil .nil))) (.node (ob87 P) (.node (ob105 P) (.node (ob137 P) (.node (ob201 P) .nil .nil) .nil) (.node (ob169 P) .nil .nil)) (.node (ob121 P) (.node (ob153 P) (.node (ob217 P) .nil .nil) .nil) (.node (ob185 P) .nil .nil))))
noncomputable def tree_X53_s6 (P : Params) : BT :=
  (.node (ob10 P) (.node (ob20 P) (.node (ob95 P) (.node (ob127 P) (.node (ob191 P) .nil .nil) .nil) (.node (ob159 P) (.node (ob223 P) .nil .nil) .nil)) (.node (ob111 P) (.node (ob143 P) (.node (ob207 P) .nil .nil) .nil) (.node (ob175 P) .nil .nil))) (.node (ob52 P) (.node (ob103 P) (.node (ob135 P) (.node (ob199 P) .nil .nil) .nil) (.node (ob167 P) .nil .nil)) (.node (ob119 P) (.node (ob151 P) (.node (ob215 P) .nil .nil) .nil) (.node (ob183 P) .nil .nil))))
noncomputable def tree_X53_s7 (P : Params) : BT :=
  (.node (ob14 P) (.node (ob54 P) (.node (ob99 P) (.node (ob131 P) (.node (ob195 P) .nil .nil) .nil) (.node (ob163 P) .nil .nil)) (.node (ob115 P) (.node (ob147 P) (.node (ob211 P) .nil .nil) .nil) (.node (ob179 P) .nil .nil))) (.node (ob89 P) (.node (ob107 P) (.node (ob139 P) (.node (ob203 P) .nil .nil) .nil) (.node (ob171 P) .nil .nil)) (.node (ob123 P) (.node (ob155 P) (.node (ob219 P) .nil .nil) .nil) (.node (ob187 P) .nil .nil))))
noncomputable def tree_X53 (P : Params) : BT :=
  (.node (ob0 P) (.node (ob1 P) (.node (ob90 P) (tree_X53_s0 P) (tree_X53_s1 P)) (.node (ob5 P) (tree_X53_s2 P) (tree_X53_s3 P))) (.node (ob2 P) (.node (ob4 P) (tree_X53_s4 P) (tree_X53_s5 P)) (.node (ob6 P) (tree_X53_s6 P) (tree_X53_s7 P))))
noncomputable def X53 (w : World) (os : OsState) : SharedT := ⟨tree_X53 w.params, 163, {}, #[], {}, 1943, os⟩
noncomputable def e3 : PySem.Expr := match stm 2 with | .Assign _ v _ => v | _ => .Constant .none 0 default
noncomputable def sc3 : Scope := match e3 with | .ListComp _ _ s _ => s | _ => env0.scope
noncomputable def env3 : Env := { scope := sc3, locals := 18, globals := mainNs, cells := [], qual := Str.empty, func := none, code := .ref 13, frame := some 14, builtins := 0 }
noncomputable def c3 : Code := .compLoop e3 0 (.ref 16) (.ref 17) env3
noncomputable def arr3 : Nat → Array Value
  | 0 => #[]
  | k + 1 => (arr3 k).push (itm k)
noncomputable def oIt (k : Nat) : Obj := ⟨.type "range_iterator", none, .fields #[.int (k : Nat) 0, .int (Int.subNatNat 256 k) 0, .int 1 0], #[]⟩
noncomputable def oLst (k : Nat) : Obj := ⟨.type "list", none, .seq (arr3 k) k, #[]⟩
noncomputable def oFr (P : Params) (k : Nat) : Obj := ⟨.type "dict", none, .dict #[⟨PyData.keyHash P ⟨#[99]⟩, .str ⟨#[99]⟩ 195, .int (k : Nat) (Nat.add 190 (4 * (k + 1)))⟩] 1, #[]⟩
noncomputable def tr3 (P : Params) (k : Nat) : BT :=
  (.node (ob0 P) (.node (ob1 P) (.node (ob15 P) (.node (ob7 P) (.node (ob17 P) .nil .nil) .nil) (.node (ob11 P) .nil .nil)) (.node (ob5 P) (.node (ob9 P) (.node (oLst k) .nil .nil) .nil) (.node (ob13 P) .nil .nil))) (.node (ob2 P) (.node (ob4 P) (.node (ob8 P) (.node (oIt k) .nil .nil) .nil) (.node (ob12 P) .nil .nil)) (.node (ob6 P) (.node (ob10 P) (.node (oFr P (k - 1)) .nil .nil) .nil) (.node (ob14 P) .nil .nil))))
noncomputable def pos3 : Pos := ⟨3, 15, 3, 26⟩
noncomputable def St3 (w : World) (os : OsState) (k : Nat) : SharedT := ⟨tr3 w.params k, 19, {}, #[], {}, 194 + 4 * k, os⟩
noncomputable def ann0 : Option Value := some (.ref 6)
noncomputable def cE : Code := .body (behindTheImports P0) env0
noncomputable def B0 : List PySem.Frame := [topFrame ⟨0, 0, 0, 0⟩]
noncomputable def loopC (i : Nat) (it : Value) : Code := match stm i with | .For t _ b o _ => .forLoop t it b o env0 | _ => cE
noncomputable def it3 (k n : Nat) : Prop := ∀ (w : World) (os : OsState) (F1 F2 : PySem.Frame), segGoT treeTable P0 w 11 ann0 1 (37 * n) (St3 w os k) ⟨denote treeTable c3, c3, pos3, [F1, F2]⟩ = some (St3 w os (k + n), ⟨denote treeTable c3, c3, pos3, [F1, F2]⟩)
lay_quick Mine.it3
theorem it3_1 : it3 1 32 := by
  rw [PySem.W.Fast.te11866431809508343467]
  delta PySem.W.Fast.tw11866431809508343467
  intro w os F1 F2
  kernel_rfl
theorem it3_33 : it3 33 32 := by
  rw [PySem.W.Fast.te11866431809508343467]
  delta PySem.W.Fast.tw11866431809508343467
  intro w os F1 F2
  kernel_rfl
theorem it3_65 : it3 65 32 := by
  rw [PySem.W.Fast.te11866431809508343467]
  delta PySem.W.Fast.tw11866431809508343467
  intro w os F1 F2
  kernel_rfl
theorem it3_97 : it3 97 32 := by
  rw [PySem.W.Fast.te11866431809508343467]
  delta PySem.W.Fast.tw11866431809508343467
  intro w os F1 F2
  kernel_rfl
theorem it3_129 : it3 129 32 := by
  rw [PySem.W.Fast.te11866431809508343467]
  delta PySem.W.Fast.tw11866431809508343467
  intro w os F1 F2
  kernel_rfl
theorem it3_161 : it3 161 32 := by
  rw [PySem.W.Fast.te11866431809508343467]
  delta PySem.W.Fast.tw11866431809508343467
  intro w os F1 F2
  kernel_rfl
theorem it3_193 : it3 193 32 := by
  rw [PySem.W.Fast.te11866431809508343467]
  delta PySem.W.Fast.tw11866431809508343467
  intro w os F1 F2
  kernel_rfl
theorem it3_225 : it3 225 31 := by
  rw [PySem.W.Fast.te11866431809508343467]
  delta PySem.W.Fast.tw11866431809508343467
  intro w os F1 F2
  kernel_rfl
noncomputable def lt11_1 : Prop := ∀ (w : World) (os : OsState) (F1 F2 : PySem.Frame), segGoT treeTable P0 w 11 ann0 1 495 (Y11_1 w os) ⟨denote treeTable (loopC 11 (.ref 25)), loopC 11 (.ref 25), ⟨13, 4, 13, 25⟩, [F1, F2]⟩ = some (Y11_12 w os, ⟨denote treeTable (loopC 11 (.ref 25)), loopC 11 (.ref 25), ⟨13, 4, 13, 25⟩, [F1, F2]⟩)
lay_quick Mine.lt11_1
theorem lt11_1_ok : lt11_1 := by
  rw [PySem.W.Fast.te14611395402162558233]
  delta PySem.W.Fast.tw14611395402162558233
  intro w os F1 F2
  kernel_rfl
noncomputable def lt11_12 : Prop := ∀ (w : World) (os : OsState) (F1 F2 : PySem.Frame), segGoT treeTable P0 w 11 ann0 1 495 (Y11_12 w os) ⟨denote treeTable (loopC 11 (.ref 25)), loopC 11 (.ref 25), ⟨13, 4, 13, 25⟩, [F1, F2]⟩ = some (Y11_23 w os, ⟨denote treeTable (loopC 11 (.ref 25)), loopC 11 (.ref 25), ⟨13, 4, 13, 25⟩, [F1, F2]⟩)
lay_quick Mine.lt11_12
theorem lt11_12_ok : lt11_12 := by
  rw [PySem.W.Fast.te15159469802997367199]
  delta PySem.W.Fast.tw15159469802997367199
  intro w os F1 F2
  kernel_rfl
noncomputable def lt11_23 : Prop := ∀ (w : World) (os : OsState) (F1 F2 : PySem.Frame), segGoT treeTable P0 w 11 ann0 1 495 (Y11_23 w os) ⟨denote treeTable (loopC 11 (.ref 25)), loopC 11 (.ref 25), ⟨13, 4, 13, 25⟩, [F1, F2]⟩ = some (Y11_34 w os, ⟨denote treeTable (loopC 11 (.ref 25)), loopC 11 (.ref 25), ⟨13, 4, 13, 25⟩, [F1, F2]⟩)
lay_quick Mine.lt11_23
theorem lt11_23_ok : lt11_23 := by
  rw [PySem.W.Fast.te17509905737047898831]
  delta PySem.W.Fast.tw17509905737047898831
  intro w os F1 F2
  kernel_rfl
noncomputable def lt11_34 : Prop := ∀ (w : World) (os : OsState) (F1 F2 : PySem.Frame), segGoT treeTable P0 w 11 ann0 1 495 (Y11_34 w os) ⟨denote treeTable (loopC 11 (.ref 25)), loopC 11 (.ref 25), ⟨13, 4, 13, 25⟩, [F1, F2]⟩ = some (Y11_45 w os, ⟨denote treeTable (loopC 11 (.ref 25)), loopC 11 (.ref 25), ⟨13, 4, 13, 25⟩, [F1, F2]⟩)
lay_quick Mine.lt11_34
theorem lt11_34_ok : lt11_34 := by
  rw [PySem.W.Fast.te3454058956476487667]
  delta PySem.W.Fast.tw3454058956476487667
  intro w os F1 F2
  kernel_rfl
noncomputable def lt11_45 : Prop := ∀ (w : World) (os : OsState) (F1 F2 : PySem.Frame), segGoT treeTable P0 w 11 ann0 1 495 (Y11_45 w os) ⟨denote treeTable (loopC 11 (.ref 25)), loopC 11 (.ref 25), ⟨13, 4, 13, 25⟩, [F1, F2]⟩ = some (Y11_56 w os, ⟨denote treeTable (loopC 11 (.ref 25)), loopC 11 (.ref 25), ⟨13, 4, 13, 25⟩, [F1, F2]⟩)
lay_quick Mine.lt11_45
theorem lt11_45_ok : lt11_45 := by
  rw [PySem.W.Fast.te5938469304680505580]
  delta PySem.W.Fast.tw5938469304680505580
  intro w os F1 F2
  kernel_rfl
noncomputable def lt11_56 : Prop := ∀ (w : World) (os : OsState) (F1 F2 : PySem.Frame), segGoT treeTable P0 w 11 ann0 1 495 (Y11_56 w os) ⟨denote treeTable (loopC 11 (.ref 25)), loopC 11 (.ref 25), ⟨13, 4, 13, 25⟩, [F1, F2]⟩ = some (Y11_67 w os, ⟨denote treeTable (loopC 11 (.ref 25)), loopC 11 (.ref 25), ⟨13, 4, 13, 25⟩, [F1, F2]⟩)
lay_quick Mine.lt11_56
theorem lt11_56_ok : lt11_56 := by
  rw [PySem.W.Fast.te8437586174048763361]
  delta PySem.W.Fast.tw8437586174048763361
  intro w os F1 F2
  kernel_rfl
noncomputable def lt13_1 : Prop := ∀ (w : World) (os : OsState) (F1 F2 : PySem.Frame), segGoT treeTable P0 w 11 ann0 1 495 (Y13_1 w os) ⟨denote treeTable (loopC 13 (.ref 28)), loopC 13 (.ref 28), ⟨16, 4, 16, 23⟩, [F1, F2]⟩ = some (Y13_12 w os, ⟨denote treeTable (loopC 13 (.ref 28)), loopC 13 (.ref 28), ⟨16, 4, 16, 23⟩, [F1, F2]⟩)
lay_quick Mine.lt13_1
theorem lt13_1_ok : lt13_1 := by
  rw [PySem.W.Fast.te9577730298614049949]
  delta PySem.W.Fast.tw9577730298614049949
  intro w os F1 F2
  kernel_rfl
noncomputable def lt13_12 : Prop := ∀ (w : World) (os : OsState) (F1 F2 : PySem.Frame), segGoT treeTable P0 w 11 ann0 1 495 (Y13_12 w os) ⟨denote treeTable (loopC 13 (.ref 28)), loopC 13 (.ref 28), ⟨16, 4, 16, 23⟩, [F1, F2]⟩ = some (Y13_23 w os, ⟨denote treeTable (loopC 13 (.ref 28)), loopC 13 (.ref 28), ⟨16, 4, 16, 23⟩, [F1, F2]⟩)
lay_quick Mine.lt13_12
theorem lt13_12_ok : lt13_12 := by
  rw [PySem.W.Fast.te7285486313066365103]
  delta PySem.W.Fast.tw7285486313066365103
  intro w os F1 F2
  kernel_rfl
noncomputable def lt13_23 : Prop := ∀ (w : World) (os : OsState) (F1 F2 : PySem.Frame), segGoT treeTable P0 w 11 ann0 1 495 (Y13_23 w os) ⟨denote treeTable (loopC 13 (.ref 28)), loopC 13 (.ref 28), ⟨16, 4, 16, 23⟩, [F1, F2]⟩ = some (Y13_34 w os, ⟨denote treeTable (loopC 13 (.ref 28)), loopC 13 (.ref 28), ⟨16, 4, 16, 23⟩, [F1, F2]⟩)
lay_quick Mine.lt13_23
theorem lt13_23_ok : lt13_23 := by
  rw [PySem.W.Fast.te5134030347489170372]
  delta PySem.W.Fast.tw5134030347489170372
  intro w os F1 F2
  kernel_rfl
noncomputable def lt13_34 : Prop := ∀ (w : World) (os : OsState) (F1 F2 : PySem.Frame), segGoT treeTable P0 w 11 ann0 1 495 (Y13_34 w os) ⟨denote treeTable (loopC 13 (.ref 28)), loopC 13 (.ref 28), ⟨16, 4, 16, 23⟩, [F1, F2]⟩ = some (Y13_45 w os, ⟨denote treeTable (loopC 13 (.ref 28)), loopC 13 (.ref 28), ⟨16, 4, 16, 23⟩, [F1, F2]⟩)
lay_quick Mine.lt13_34
theorem lt13_34_ok : lt13_34 := by
  rw [PySem.W.Fast.te8616694806057527869]
  delta PySem.W.Fast.tw8616694806057527869
  intro w os F1 F2
  kernel_rfl
noncomputable def lt13_45 : Prop := ∀ (w : World) (os : OsState) (F1 F2 : PySem.Frame), segGoT treeTable P0 w 11 ann0 1 495 (Y13_45 w os) ⟨denote treeTable (loopC 13 (.ref 28)), loopC 13 (.ref 28), ⟨16, 4, 16, 23⟩, [F1, F2]⟩ = some (Y13_56 w os, ⟨denote treeTable (loopC 13 (.ref 28)), loopC 13 (.ref 28), ⟨16, 4, 16, 23⟩, [F1, F2]⟩)
lay_quick Mine.lt13_45
theorem lt13_45_ok : lt13_45 := by
  rw [PySem.W.Fast.te8940703877211504791]
  delta PySem.W.Fast.tw8940703877211504791
  intro w os F1 F2
  kernel_rfl
noncomputable def lt13_56 : Prop := ∀ (w : World) (os : OsState) (F1 F2 : PySem.Frame), segGoT treeTable P0 w 11 ann0 1 495 (Y13_56 w os) ⟨denote treeTable (loopC 13 (.ref 28)), loopC 13 (.ref 28), ⟨16, 4, 16, 23⟩, [F1, F2]⟩ = some (Y13_67 w os, ⟨denote treeTable (loopC 13 (.ref 28)), loopC 13 (.ref 28), ⟨16, 4, 16, 23⟩, [F1, F2]⟩)
lay_quick Mine.lt13_56
theorem lt13_56_ok : lt13_56 := by
  rw [PySem.W.Fast.te13673758935081797402]
  delta PySem.W.Fast.tw13673758935081797402
  intro w os F1 F2
  kernel_rfl
noncomputable def lt13_67 : Prop := ∀ (w : World) (os : OsState) (F1 F2 : PySem.Frame), segGoT treeTable P0 w 11 ann0 1 495 (Y13_67 w os) ⟨denote treeTable (loopC 13 (.ref 28)), loopC 13 (.ref 28), ⟨16, 4, 16, 23⟩, [F1, F2]⟩ = some (Y13_78 w os, ⟨denote treeTable (loopC 13 (.ref 28)), loopC 13 (.ref 28), ⟨16, 4, 16, 23⟩, [F1, F2]⟩)
lay_quick Mine.lt13_67
theorem lt13_67_ok : lt13_67 := by
  rw [PySem.W.Fast.te13824274349601657351]
  delta PySem.W.Fast.tw13824274349601657351
  intro w os F1 F2
  kernel_rfl
noncomputable def lt13_78 : Prop := ∀ (w : World) (os : OsState) (F1 F2 : PySem.Frame), segGoT treeTable P0 w 11 ann0 1 495 (Y13_78 w os) ⟨denote treeTable (loopC 13 (.ref 28)), loopC 13 (.ref 28), ⟨16, 4, 16, 23⟩, [F1, F2]⟩ = some (Y13_89 w os, ⟨denote treeTable (loopC 13 (.ref 28)), loopC 13 (.ref 28), ⟨16, 4, 16, 23⟩, [F1, F2]⟩)
lay_quick Mine.lt13_78
theorem lt13_78_ok : lt13_78 := by
  rw [PySem.W.Fast.te14730554716762077357]
  delta PySem.W.Fast.tw14730554716762077357
  intro w os F1 F2
  kernel_rfl
noncomputable def lt13_89 : Prop := ∀ (w : World) (os : OsState) (F1 F2 : PySem.Frame), segGoT treeTable P0 w 11 ann0 1 270 (Y13_89 w os) ⟨denote treeTable (loopC 13 (.ref 28)), loopC 13 (.ref 28), ⟨16, 4, 16, 23⟩, [F1, F2]⟩ = some (Y13_95 w os, ⟨denote treeTable (loopC 13 (.ref 28)), loopC 13 (.ref 28), ⟨16, 4, 16, 23⟩, [F1, F2]⟩)
lay_quick Mine.lt13_89
theorem lt13_89_ok : lt13_89 := by
  rw [PySem.W.Fast.te13807084479739710984]
  delta PySem.W.Fast.tw13807084479739710984
  intro w os F1 F2
  kernel_rfl
noncomputable def W (b1 b2 : Bool) (w : World) : World := (w.withFollow "comprehension-iter-twice" b2).withFollow "special-get-raises" b1
theorem byW {P : World → Prop} (h : ∀ (b1 b2 : Bool) (w : World), P (W b1 b2 w)) (w : World) : P w := by
  have h1 : ∀ b1 : Bool, P (w.withFollow "special-get-raises" b1) := fun b1 =>
    byRow2 "comprehension-iter-twice" (P := fun w => P (w.withFollow "special-get-raises" b1)) (fun w => h b1 false w) (fun w => h b1 true w) w
  have h2 := h1 (w.params.followText "special-get-raises")
  rwa [World.withFollow_self] at h2
noncomputable def sA : List Stmt := [stm 0, stm 1]
noncomputable def sB : List Stmt := [stm 2]
noncomputable def sC : List Stmt := [stm 3, stm 4, stm 5, stm 6, stm 7, stm 8, stm 9, stm 10]
noncomputable def sD : List Stmt := [stm 11]
noncomputable def sE : List Stmt := [stm 12]
noncomputable def sF : List Stmt := [stm 13]
noncomputable def sG : List Stmt := [stm 14, stm 15, stm 16, stm 17, stm 18, stm 19, stm 20, stm 21, stm 22, stm 23, stm 24, stm 25, stm 26, stm 27, stm 28, stm 29, stm 30, stm 31, stm 32, stm 33, stm 34, stm 35, stm 36, stm 37, stm 38, stm 39, stm 40, stm 41, stm 42, stm 43, stm 44, stm 45, stm 46, stm 47, stm 48, stm 49, stm 50, stm 51, stm 52, stm 53]
noncomputable def fhead (r : Option (SharedT × Thread)) : PySem.Frame := match r with
  | some (_, t) => (match t.stack with | f :: _ => f | [] => topFrame ⟨0, 0, 0, 0⟩)
  | none => topFrame ⟨0, 0, 0, 0⟩
noncomputable def pA (b1 b2 : Bool) : Prop := ∀ (w : World) (os : OsState), segRunT treeTable P0 (W b1 b2 w) 11 ann0 1 19 (XA (W b1 b2 w) os) (piecesOf sA env0 cE ⟨0, 0, 0, 0⟩ B0) = some (.next, X1 (W b1 b2 w) os, cE, ⟨2, 0, 2, 2⟩)
lay_quick Mine.pA
theorem pA_ff : pA false false := by
  rw [PySem.W.Fast.te16987971663351220034]
  delta PySem.W.Fast.tw16987971663351220034
  intro w os
  kernel_rfl
theorem pA_ft : pA false true := by
  rw [PySem.W.Fast.te16987971663351220034]
  delta PySem.W.Fast.tw16987971663351220034
  intro w os
  kernel_rfl
theorem pA_tf : pA true false := by
  rw [PySem.W.Fast.te16987971663351220034]
  delta PySem.W.Fast.tw16987971663351220034
  intro w os
  kernel_rfl
theorem pA_tt : pA true true := by
  rw [PySem.W.Fast.te16987971663351220034]
  delta PySem.W.Fast.tw16987971663351220034
  intro w os
  kernel_rfl
theorem pA_all : ∀ (w : World) (os : OsState), segRun treeTable P0 w 11 ann0 1 19 (XA w os).abs (piecesOf sA env0 cE ⟨0, 0, 0, 0⟩ B0) = some (.next, (X1 w os).abs, cE, ⟨2, 0, 2, 2⟩) :=
  byW (fun b1 b2 w os => segRun_of (by cases b1 <;> cases b2
                                       · exact pA_ff w os
                                       · exact pA_ft w os
                                       · exact pA_tf w os
                                       · exact pA_tt w os))
noncomputable def pC (b1 b2 : Bool) : Prop := ∀ (w : World) (os : OsState), segRunT treeTable P0 (W b1 b2 w) 11 ann0 1 133 (X2 (W b1 b2 w) os) (piecesOf sC env0 cE ⟨3, 0, 3, 11⟩ B0) = some (.next, X10 (W b1 b2 w) os, cE, ⟨11, 0, 11, 8⟩)
lay_quick Mine.pC
theorem pC_ff : pC false false := by
  rw [PySem.W.Fast.te12754623629156082910]
  delta PySem.W.Fast.tw12754623629156082910
  intro w os
  kernel_rfl
theorem pC_ft : pC false true := by
  rw [PySem.W.Fast.te12754623629156082910]
  delta PySem.W.Fast.tw12754623629156082910
  intro w os
  kernel_rfl
theorem pC_tf : pC true false := by
  rw [PySem.W.Fast.te12754623629156082910]
  delta PySem.W.Fast.tw12754623629156082910
  intro w os
  kernel_rfl
theorem pC_tt : pC true true := by
  rw [PySem.W.Fast.te12754623629156082910]
  delta PySem.W.Fast.tw12754623629156082910
  intro w os
  kernel_rfl
theorem pC_all : ∀ (w : World) (os : OsState), segRun treeTable P0 w 11 ann0 1 133 (X2 w os).abs (piecesOf sC env0 cE ⟨3, 0, 3, 11⟩ B0) = some (.next, (X10 w os).abs, cE, ⟨11, 0, 11, 8⟩) :=
  byW (fun b1 b2 w os => segRun_of (by cases b1 <;> cases b2
                                       · exact pC_ff w os
                                       · exact pC_ft w os
                                       · exact pC_tf w os
                                       · exact pC_tt w os))
noncomputable def pE (b1 b2 : Bool) : Prop := ∀ (w : World) (os : OsState), segRunT treeTable P0 (W b1 b2 w) 11 ann0 1 25 (X11 (W b1 b2 w) os) (piecesOf sE env0 cE ⟨12, 9, 12, 74⟩ B0) = some (.next, X12 (W b1 b2 w) os, cE, ⟨14, 0, 14, 28⟩)
lay_quick Mine.pE
theorem pE_ff : pE false false := by
  rw [PySem.W.Fast.te3215773005365829115]
  delta PySem.W.Fast.tw3215773005365829115
  intro w os
  kernel_rfl
theorem pE_ft : pE false true := by
  rw [PySem.W.Fast.te3215773005365829115]
  delta PySem.W.Fast.tw3215773005365829115
  intro w os
  kernel_rfl
theorem pE_tf : pE true false := by
  rw [PySem.W.Fast.te3215773005365829115]
  delta PySem.W.Fast.tw3215773005365829115
  intro w os
  kernel_rfl
theorem pE_tt : pE true true := by
  rw [PySem.W.Fast.te3215773005365829115]
  delta PySem.W.Fast.tw3215773005365829115
  intro w os
  kernel_rfl
theorem pE_all : ∀ (w : World) (os : OsState), segRun treeTable P0 w 11 ann0 1 25 (X11 w os).abs (piecesOf sE env0 cE ⟨12, 9, 12, 74⟩ B0) = some (.next, (X12 w os).abs, cE, ⟨14, 0, 14, 28⟩) :=
  byW (fun b1 b2 w os => segRun_of (by cases b1 <;> cases b2
                                       · exact pE_ff w os
                                       · exact pE_ft w os
                                       · exact pE_tf w os
                                       · exact pE_tt w os))
noncomputable def pG (b1 b2 : Bool) : Prop := ∀ (w : World) (os : OsState), segRunT treeTable P0 (W b1 b2 w) 11 ann0 1 953 (X13 (W b1 b2 w) os) (piecesOf sG env0 cE ⟨15, 9, 15, 110⟩ B0) = some (.next, X53 (W b1 b2 w) os, cE, ⟨185, 0, 196, 78⟩)
lay_quick Mine.pG
theorem pG_ff : pG false false := by
  rw [PySem.W.Fast.te13815444073486921144]
  delta PySem.W.Fast.tw13815444073486921144
  intro w os
  kernel_rfl
theorem pG_ft : pG false true := by
  rw [PySem.W.Fast.te13815444073486921144]
  delta PySem.W.Fast.tw13815444073486921144
  intro w os
  kernel_rfl
theorem pG_tf : pG true false := by
  rw [PySem.W.Fast.te13815444073486921144]
  delta PySem.W.Fast.tw13815444073486921144
  intro w os
  kernel_rfl
theorem pG_tt : pG true true := by
  rw [PySem.W.Fast.te13815444073486921144]
  delta PySem.W.Fast.tw13815444073486921144
  intro w os
  kernel_rfl
theorem pG_all : ∀ (w : World) (os : OsState), segRun treeTable P0 w 11 ann0 1 953 (X13 w os).abs (piecesOf sG env0 cE ⟨15, 9, 15, 110⟩ B0) = some (.next, (X53 w os).abs, cE, ⟨185, 0, 196, 78⟩) :=
  byW (fun b1 b2 w os => segRun_of (by cases b1 <;> cases b2
                                       · exact pG_ff w os
                                       · exact pG_ft w os
                                       · exact pG_tf w os
                                       · exact pG_tt w os))
noncomputable def pB_F (n : Nat) (w : World) (os : OsState) : PySem.Frame := fhead (segGoT treeTable P0 w 11 ann0 1 n (X1 w os) (piecesOf sB env0 cE ⟨2, 0, 2, 2⟩ B0))
noncomputable def pB_p (b1 b2 : Bool) (n : Nat) : Prop := ∀ (w : World) (os : OsState), segGoT treeTable P0 (W b1 b2 w) 11 ann0 1 n (X1 (W b1 b2 w) os) (piecesOf sB env0 cE ⟨2, 0, 2, 2⟩ B0) = some ((St3 (W b1 b2 w) os 1), ⟨denote treeTable c3, c3, pos3, pB_F n (W b1 b2 w) os :: B0⟩)
lay_quick Mine.pB_p
noncomputable def pB_s (b1 b2 : Bool) (n m : Nat) : Prop := ∀ (w : World) (os : OsState), segRunT treeTable P0 (W b1 b2 w) 11 ann0 1 m (St3 (W b1 b2 w) os 256) ⟨denote treeTable c3, c3, pos3, pB_F n (W b1 b2 w) os :: B0⟩ = some (.next, X2 (W b1 b2 w) os, cE, ⟨3, 0, 3, 11⟩)
lay_quick Mine.pB_s
theorem pB_p_ff : pB_p false false 89 := by
  rw [PySem.W.Fast.te16764584809146938303]
  delta PySem.W.Fast.tw16764584809146938303
  intro w os
  kernel_rfl
theorem pB_s_ff : pB_s false false 89 28 := by
  rw [PySem.W.Fast.te13970053349053991928]
  delta PySem.W.Fast.tw13970053349053991928
  intro w os
  kernel_rfl
theorem pB_p_ft : pB_p false true 79 := by
  rw [PySem.W.Fast.te16764584809146938303]
  delta PySem.W.Fast.tw16764584809146938303
  intro w os
  kernel_rfl
theorem pB_s_ft : pB_s false true 79 38 := by
  rw [PySem.W.Fast.te13970053349053991928]
  delta PySem.W.Fast.tw13970053349053991928
  intro w os
  kernel_rfl
theorem pB_p_tf : pB_p true false 89 := by
  rw [PySem.W.Fast.te16764584809146938303]
  delta PySem.W.Fast.tw16764584809146938303
  intro w os
  kernel_rfl
theorem pB_s_tf : pB_s true false 89 28 := by
  rw [PySem.W.Fast.te13970053349053991928]
  delta PySem.W.Fast.tw13970053349053991928
  intro w os
  kernel_rfl
theorem pB_p_tt : pB_p true true 79 := by
  rw [PySem.W.Fast.te16764584809146938303]
  delta PySem.W.Fast.tw16764584809146938303
  intro w os
  kernel_rfl
theorem pB_s_tt : pB_s true true 79 38 := by
  rw [PySem.W.Fast.te13970053349053991928]
  delta PySem.W.Fast.tw13970053349053991928
  intro w os
  kernel_rfl
theorem pB_all : ∀ (w : World) (os : OsState), segRun treeTable P0 w 11 ann0 1 9552 (X1 w os).abs (piecesOf sB env0 cE ⟨2, 0, 2, 2⟩ B0) = some (.next, (X2 w os).abs, cE, ⟨3, 0, 3, 11⟩) :=
  byW (fun b1 b2 w os => by
    cases b1 <;> cases b2
    · exact seg_go (segGo_of (pB_p_ff w os)) (seg_go (segGo_of (it3_1 _ os _ _)) (seg_go (segGo_of (it3_33 _ os _ _)) (seg_go (segGo_of (it3_65 _ os _ _)) (seg_go (segGo_of (it3_97 _ os _ _)) (seg_go (segGo_of (it3_129 _ os _ _)) (seg_go (segGo_of (it3_161 _ os _ _)) (seg_go (segGo_of (it3_193 _ os _ _)) (seg_go (segGo_of (it3_225 _ os _ _)) (segRun_of (pB_s_ff w os))))))))))
    · exact seg_go (segGo_of (pB_p_ft w os)) (seg_go (segGo_of (it3_1 _ os _ _)) (seg_go (segGo_of (it3_33 _ os _ _)) (seg_go (segGo_of (it3_65 _ os _ _)) (seg_go (segGo_of (it3_97 _ os _ _)) (seg_go (segGo_of (it3_129 _ os _ _)) (seg_go (segGo_of (it3_161 _ os _ _)) (seg_go (segGo_of (it3_193 _ os _ _)) (seg_go (segGo_of (it3_225 _ os _ _)) (segRun_of (pB_s_ft w os))))))))))
    · exact seg_go (segGo_of (pB_p_tf w os)) (seg_go (segGo_of (it3_1 _ os _ _)) (seg_go (segGo_of (it3_33 _ os _ _)) (seg_go (segGo_of (it3_65 _ os _ _)) (seg_go (segGo_of (it3_97 _ os _ _)) (seg_go (segGo_of (it3_129 _ os _ _)) (seg_go (segGo_of (it3_161 _ os _ _)) (seg_go (segGo_of (it3_193 _ os _ _)) (seg_go (segGo_of (it3_225 _ os _ _)) (segRun_of (pB_s_tf w os))))))))))
    · exact seg_go (segGo_of (pB_p_tt w os)) (seg_go (segGo_of (it3_1 _ os _ _)) (seg_go (segGo_of (it3_33 _ os _ _)) (seg_go (segGo_of (it3_65 _ os _ _)) (seg_go (segGo_of (it3_97 _ os _ _)) (seg_go (segGo_of (it3_129 _ os _ _)) (seg_go (segGo_of (it3_161 _ os _ _)) (seg_go (segGo_of (it3_193 _ os _ _)) (seg_go (segGo_of (it3_225 _ os _ _)) (segRun_of (pB_s_tt w os))))))))))
)
noncomputable def pD_F (n : Nat) (w : World) (os : OsState) : PySem.Frame := fhead (segGoT treeTable P0 w 11 ann0 1 n (X10 w os) (piecesOf sD env0 cE ⟨11, 0, 11, 8⟩ B0))
noncomputable def pD_p (b1 b2 : Bool) (n : Nat) : Prop := ∀ (w : World) (os : OsState), segGoT treeTable P0 (W b1 b2 w) 11 ann0 1 n (X10 (W b1 b2 w) os) (piecesOf sD env0 cE ⟨11, 0, 11, 8⟩ B0) = some ((Y11_1 (W b1 b2 w) os), ⟨denote treeTable (loopC 11 (.ref 25)), (loopC 11 (.ref 25)), ⟨13, 4, 13, 25⟩, pD_F n (W b1 b2 w) os :: B0⟩)
lay_quick Mine.pD_p
noncomputable def pD_s (b1 b2 : Bool) (n m : Nat) : Prop := ∀ (w : World) (os : OsState), segRunT treeTable P0 (W b1 b2 w) 11 ann0 1 m (Y11_67 (W b1 b2 w) os) ⟨denote treeTable (loopC 11 (.ref 25)), (loopC 11 (.ref 25)), ⟨13, 4, 13, 25⟩, pD_F n (W b1 b2 w) os :: B0⟩ = some (.next, X11 (W b1 b2 w) os, cE, ⟨12, 9, 12, 74⟩)
lay_quick Mine.pD_s
theorem pD_p_ff : pD_p false false 89 := by
  rw [PySem.W.Fast.te16836762544622409352]
  delta PySem.W.Fast.tw16836762544622409352
  intro w os
  kernel_rfl
theorem pD_s_ff : pD_s false false 89 18 := by
  rw [PySem.W.Fast.te361408407904807352]
  delta PySem.W.Fast.tw361408407904807352
  intro w os
  kernel_rfl
theorem pD_p_ft : pD_p false true 89 := by
  rw [PySem.W.Fast.te16836762544622409352]
  delta PySem.W.Fast.tw16836762544622409352
  intro w os
  kernel_rfl
theorem pD_s_ft : pD_s false true 89 18 := by
  rw [PySem.W.Fast.te361408407904807352]
  delta PySem.W.Fast.tw361408407904807352
  intro w os
  kernel_rfl
theorem pD_p_tf : pD_p true false 89 := by
  rw [PySem.W.Fast.te16836762544622409352]
  delta PySem.W.Fast.tw16836762544622409352
  intro w os
  kernel_rfl
theorem pD_s_tf : pD_s true false 89 18 := by
  rw [PySem.W.Fast.te361408407904807352]
  delta PySem.W.Fast.tw361408407904807352
  intro w os
  kernel_rfl
theorem pD_p_tt : pD_p true true 89 := by
  rw [PySem.W.Fast.te16836762544622409352]
  delta PySem.W.Fast.tw16836762544622409352
  intro w os
  kernel_rfl
theorem pD_s_tt : pD_s true true 89 18 := by
  rw [PySem.W.Fast.te361408407904807352]
  delta PySem.W.Fast.tw361408407904807352
  intro w os
  kernel_rfl
theorem pD_all : ∀ (w : World) (os : OsState), segRun treeTable P0 w 11 ann0 1 3077 (X10 w os).abs (piecesOf sD env0 cE ⟨11, 0, 11, 8⟩ B0) = some (.next, (X11 w os).abs, cE, ⟨12, 9, 12, 74⟩) :=
  byW (fun b1 b2 w os => by
    cases b1 <;> cases b2
    · exact seg_go (segGo_of (pD_p_ff w os)) (seg_go (segGo_of (lt11_1_ok _ os _ _)) (seg_go (segGo_of (lt11_12_ok _ os _ _)) (seg_go (segGo_of (lt11_23_ok _ os _ _)) (seg_go (segGo_of (lt11_34_ok _ os _ _)) (seg_go (segGo_of (lt11_45_ok _ os _ _)) (seg_go (segGo_of (lt11_56_ok _ os _ _)) (segRun_of (pD_s_ff w os))))))))
    · exact seg_go (segGo_of (pD_p_ft w os)) (seg_go (segGo_of (lt11_1_ok _ os _ _)) (seg_go (segGo_of (lt11_12_ok _ os _ _)) (seg_go (segGo_of (lt11_23_ok _ os _ _)) (seg_go (segGo_of (lt11_34_ok _ os _ _)) (seg_go (segGo_of (lt11_45_ok _ os _ _)) (seg_go (segGo_of (lt11_56_ok _ os _ _)) (segRun_of (pD_s_ft w os))))))))
    · exact seg_go (segGo_of (pD_p_tf w os)) (seg_go (segGo_of (lt11_1_ok _ os _ _)) (seg_go (segGo_of (lt11_12_ok _ os _ _)) (seg_go (segGo_of (lt11_23_ok _ os _ _)) (seg_go (segGo_of (lt11_34_ok _ os _ _)) (seg_go (segGo_of (lt11_45_ok _ os _ _)) (seg_go (segGo_of (lt11_56_ok _ os _ _)) (segRun_of (pD_s_tf w os))))))))
    · exact seg_go (segGo_of (pD_p_tt w os)) (seg_go (segGo_of (lt11_1_ok _ os _ _)) (seg_go (segGo_of (lt11_12_ok _ os _ _)) (seg_go (segGo_of (lt11_23_ok _ os _ _)) (seg_go (segGo_of (lt11_34_ok _ os _ _)) (seg_go (segGo_of (lt11_45_ok _ os _ _)) (seg_go (segGo_of (lt11_56_ok _ os _ _)) (segRun_of (pD_s_tt w os))))))))
)
noncomputable def pF_F (n : Nat) (w : World) (os : OsState) : PySem.Frame := fhead (segGoT treeTable P0 w 11 ann0 1 n (X12 w os) (piecesOf sF env0 cE ⟨14, 0, 14, 28⟩ B0))
noncomputable def pF_p (b1 b2 : Bool) (n : Nat) : Prop := ∀ (w : World) (os : OsState), segGoT treeTable P0 (W b1 b2 w) 11 ann0 1 n (X12 (W b1 b2 w) os) (piecesOf sF env0 cE ⟨14, 0, 14, 28⟩ B0) = some ((Y13_1 (W b1 b2 w) os), ⟨denote treeTable (loopC 13 (.ref 28)), (loopC 13 (.ref 28)), ⟨16, 4, 16, 23⟩, pF_F n (W b1 b2 w) os :: B0⟩)
lay_quick Mine.pF_p
noncomputable def pF_s (b1 b2 : Bool) (n m : Nat) : Prop := ∀ (w : World) (os : OsState), segRunT treeTable P0 (W b1 b2 w) 11 ann0 1 m (Y13_95 (W b1 b2 w) os) ⟨denote treeTable (loopC 13 (.ref 28)), (loopC 13 (.ref 28)), ⟨16, 4, 16, 23⟩, pF_F n (W b1 b2 w) os :: B0⟩ = some (.next, X13 (W b1 b2 w) os, cE, ⟨15, 9, 15, 110⟩)
lay_quick Mine.pF_s
theorem pF_p_ff : pF_p false false 55 := by
  rw [PySem.W.Fast.te2240450239143230365]
  delta PySem.W.Fast.tw2240450239143230365
  intro w os
  kernel_rfl
theorem pF_s_ff : pF_s false false 55 18 := by
  rw [PySem.W.Fast.te11533285739061733484]
  delta PySem.W.Fast.tw11533285739061733484
  intro w os
  kernel_rfl
theorem pF_p_ft : pF_p false true 55 := by
  rw [PySem.W.Fast.te2240450239143230365]
  delta PySem.W.Fast.tw2240450239143230365
  intro w os
  kernel_rfl
theorem pF_s_ft : pF_s false true 55 18 := by
  rw [PySem.W.Fast.te11533285739061733484]
  delta PySem.W.Fast.tw11533285739061733484
  intro w os
  kernel_rfl
theorem pF_p_tf : pF_p true false 55 := by
  rw [PySem.W.Fast.te2240450239143230365]
  delta PySem.W.Fast.tw2240450239143230365
  intro w os
  kernel_rfl
theorem pF_s_tf : pF_s true false 55 18 := by
  rw [PySem.W.Fast.te11533285739061733484]
  delta PySem.W.Fast.tw11533285739061733484
  intro w os
  kernel_rfl
theorem pF_p_tt : pF_p true true 55 := by
  rw [PySem.W.Fast.te2240450239143230365]
  delta PySem.W.Fast.tw2240450239143230365
  intro w os
  kernel_rfl
theorem pF_s_tt : pF_s true true 55 18 := by
  rw [PySem.W.Fast.te11533285739061733484]
  delta PySem.W.Fast.tw11533285739061733484
  intro w os
  kernel_rfl
theorem pF_all : ∀ (w : World) (os : OsState), segRun treeTable P0 w 11 ann0 1 4303 (X12 w os).abs (piecesOf sF env0 cE ⟨14, 0, 14, 28⟩ B0) = some (.next, (X13 w os).abs, cE, ⟨15, 9, 15, 110⟩) :=
  byW (fun b1 b2 w os => by
    cases b1 <;> cases b2
    · exact seg_go (segGo_of (pF_p_ff w os)) (seg_go (segGo_of (lt13_1_ok _ os _ _)) (seg_go (segGo_of (lt13_12_ok _ os _ _)) (seg_go (segGo_of (lt13_23_ok _ os _ _)) (seg_go (segGo_of (lt13_34_ok _ os _ _)) (seg_go (segGo_of (lt13_45_ok _ os _ _)) (seg_go (segGo_of (lt13_56_ok _ os _ _)) (seg_go (segGo_of (lt13_67_ok _ os _ _)) (seg_go (segGo_of (lt13_78_ok _ os _ _)) (seg_go (segGo_of (lt13_89_ok _ os _ _)) (segRun_of (pF_s_ff w os)))))))))))
    · exact seg_go (segGo_of (pF_p_ft w os)) (seg_go (segGo_of (lt13_1_ok _ os _ _)) (seg_go (segGo_of (lt13_12_ok _ os _ _)) (seg_go (segGo_of (lt13_23_ok _ os _ _)) (seg_go (segGo_of (lt13_34_ok _ os _ _)) (seg_go (segGo_of (lt13_45_ok _ os _ _)) (seg_go (segGo_of (lt13_56_ok _ os _ _)) (seg_go (segGo_of (lt13_67_ok _ os _ _)) (seg_go (segGo_of (lt13_78_ok _ os _ _)) (seg_go (segGo_of (lt13_89_ok _ os _ _)) (segRun_of (pF_s_ft w os)))))))))))
    · exact seg_go (segGo_of (pF_p_tf w os)) (seg_go (segGo_of (lt13_1_ok _ os _ _)) (seg_go (segGo_of (lt13_12_ok _ os _ _)) (seg_go (segGo_of (lt13_23_ok _ os _ _)) (seg_go (segGo_of (lt13_34_ok _ os _ _)) (seg_go (segGo_of (lt13_45_ok _ os _ _)) (seg_go (segGo_of (lt13_56_ok _ os _ _)) (seg_go (segGo_of (lt13_67_ok _ os _ _)) (seg_go (segGo_of (lt13_78_ok _ os _ _)) (seg_go (segGo_of (lt13_89_ok _ os _ _)) (segRun_of (pF_s_tf w os)))))))))))
    · exact seg_go (segGo_of (pF_p_tt w os)) (seg_go (segGo_of (lt13_1_ok _ os _ _)) (seg_go (segGo_of (lt13_12_ok _ os _ _)) (seg_go (segGo_of (lt13_23_ok _ os _ _)) (seg_go (segGo_of (lt13_34_ok _ os _ _)) (seg_go (segGo_of (lt13_45_ok _ os _ _)) (seg_go (segGo_of (lt13_56_ok _ os _ _)) (seg_go (segGo_of (lt13_67_ok _ os _ _)) (seg_go (segGo_of (lt13_78_ok _ os _ _)) (seg_go (segGo_of (lt13_89_ok _ os _ _)) (segRun_of (pF_s_tt w os)))))))))))
)
end Mine
end
section
set_option maxRecDepth 100000
set_option maxHeartbeats 0
set_option Elab.async false
set_option linter.unusedVariables false
namespace Mine
open PySem PySem.W PyProof.Rows
noncomputable def heapB (P : Params) : Heap := ⟨#[ob0 P, ob1 P, ob2 P, ob3 P, ob4 P, ob5 P, ob6 P, ob7 P, ob8 P, ob9 P, ob10 P], {}⟩
noncomputable def heapF_l10 (P : Params) : List Obj := [ob221 P, ob222 P, ob223 P]
noncomputable def heapF_l9 (P : Params) : List Obj := ob205 P :: ob206 P :: ob207 P :: ob208 P :: ob209 P :: ob210 P :: ob211 P :: ob212 P :: ob213 P :: ob214 P :: ob215 P :: ob216 P :: ob217 P :: ob218 P :: ob219 P :: ob220 P :: heapF_l10 P
noncomputable def heapF_l8 (P : Params) : List Obj := ob189 P :: ob190 P :: ob191 P :: ob192 P :: ob193 P :: ob194 P :: ob195 P :: ob196 P :: ob197 P :: ob198 P :: ob199 P :: ob200 P :: ob201 P :: ob202 P :: ob203 P :: ob204 P :: heapF_l9 P
noncomputable def heapF_l7 (P : Params) : List Obj := ob173 P :: ob174 P :: ob175 P :: ob176 P :: ob177 P :: ob178 P :: ob179 P :: ob180 P :: ob181 P :: ob182 P :: ob183 P :: ob184 P :: ob185 P :: ob186 P :: ob187 P :: ob188 P :: heapF_l8 P
noncomputable def heapF_l6 (P : Params) : List Obj := ob157 P :: ob158 P :: ob159 P :: ob160 P :: ob161 P :: ob162 P :: ob163 P :: ob164 P :: ob165 P :: ob166 P :: ob167 P :: ob168 P :: ob169 P :: ob170 P :: ob171 P :: ob172 P :: heapF_l7 P
noncomputable def heapF_l5 (P : Params) : List Obj := ob141 P :: ob142 P :: ob143 P :: ob144 P :: ob145 P :: ob146 P :: ob147 P :: ob148 P :: ob149 P :: ob150 P :: ob151 P :: ob152 P :: ob153 P :: ob154 P :: ob155 P :: ob156 P :: heapF_l6 P
noncomputable def heapF_l4 (P : Params) : List Obj := ob125 P :: ob126 P :: ob127 P :: ob128 P :: ob129 P :: ob130 P :: ob131 P :: ob132 P :: ob133 P :: ob134 P :: ob135 P :: ob136 P :: ob137 P :: ob138 P :: ob139 P :: ob140 P :: heapF_l5 P
noncomputable def heapF_l3 (P : Params) : List Obj := ob109 P :: ob110 P :: ob111 P :: ob112 P :: ob113 P :: ob114 P :: ob115 P :: ob116 P :: ob117 P :: ob118 P :: ob119 P :: ob120 P :: ob121 P :: ob122 P :: ob123 P :: ob124 P :: heapF_l4 P
noncomputable def heapF_l2 (P : Params) : List Obj := ob93 P :: ob94 P :: ob95 P :: ob96 P :: ob97 P :: ob98 P :: ob99 P :: ob100 P :: ob101 P :: ob102 P :: ob103 P :: ob104 P :: ob105 P :: ob106 P :: ob107 P :: ob108 P :: heapF_l3 P
noncomputable def heapF_l1 (P : Params) : List Obj := ob18 P :: ob19 P :: ob20 P :: ob21 P :: ob22 P :: ob24 P :: ob54 P :: ob26 P :: ob86 P :: ob51 P :: ob52 P :: ob53 P :: ob87 P :: ob88 P :: ob89 P :: ob92 P :: heapF_l2 P
noncomputable def heapF_l0 (P : Params) : List Obj := ob0 P :: ob1 P :: ob2 P :: ob90 P :: ob4 P :: ob5 P :: ob6 P :: ob7 P :: ob8 P :: ob9 P :: ob10 P :: ob11 P :: ob91 P :: ob13 P :: ob14 P :: ob17 P :: heapF_l1 P
noncomputable def heapF (P : Params) : Heap := ⟨List.toArray (heapF_l0 P), {}⟩
noncomputable def opP : Prop := ∀ (w : World), importEnds treeTable (opening P0) w 600 (start (opening P0)).1 (start (opening P0)).2 = some ⟨heapB w.params, #[], {}, 181, (start (opening P0)).1.os⟩
lay_quick Mine.opP
theorem op_ok : opP := by
  rw [PySem.W.Fast.te3127641329839114778]
  delta PySem.W.Fast.tw3127641329839114778
  intro w
  kernel_rfl
noncomputable def prP : Prop := ∀ (w : World) (os : OsState), topGo treeTable P0 w 11 ann0 12 ⟨heapB w.params, #[], {}, 181, os⟩ (topStub P0) = some ((XA w os).abs, ⟨denote treeTable cE, cE, ⟨0, 0, 0, 0⟩, B0⟩)
lay_quick Mine.prP
theorem pr_ok : prP := by
  rw [PySem.W.Fast.te14774446011144785525]
  delta PySem.W.Fast.tw14774446011144785525
  intro w os
  kernel_rfl
noncomputable def blP : Prop := ∀ (w : World) (os : OsState), segRun treeTable P0 w 11 ann0 1 1 (XA w os).abs (blockOf (behindTheImports P0) env0 cE ⟨0, 0, 0, 0⟩ B0) = some (.next, (XA w os).abs, cE, ⟨0, 0, 0, 0⟩)
lay_quick Mine.blP
theorem bl_ok : blP := by
  rw [PySem.W.Fast.te15363515000395811410]
  delta PySem.W.Fast.tw15363515000395811410
  intro w os
  kernel_rfl
noncomputable def fiP : Prop := ∀ (w : World) (os : OsState), topRun treeTable P0 w 11 ann0 2 (X53 w os).abs ⟨doneF .next, cE, ⟨185, 0, 196, 78⟩, B0⟩ = some ⟨heapF w.params, #[], {}, 1943, os⟩
lay_quick Mine.fiP
theorem fi_ok : fiP := by
  rw [PySem.W.Fast.te16519398220425402718]
  delta PySem.W.Fast.tw16519398220425402718
  intro w os
  kernel_rfl
noncomputable def szP : Prop := ∀ (w : World), ((heapB w.params).isNs mainGlobals && (#[] : Array GenState).size == 0, (heapB w.params).objs.size, (heapB w.params).nsMap mainGlobals (Str.mk #[95, 95, 97, 110, 110, 111, 116, 97, 116, 105, 111, 110, 115, 95, 95])) = (true, 11, ann0)
lay_quick Mine.szP
theorem sz_ok : szP := by
  rw [PySem.W.Fast.te1356963945994113882]
  delta PySem.W.Fast.tw1356963945994113882
  intro w
  kernel_rfl
theorem body_eq : behindTheImports P0 = sA ++ (sB ++ (sC ++ (sD ++ (sE ++ (sF ++ (sG ++ [])))))) := by kernel_rfl
theorem run_ok (w : World) (os : OsState) : topRun treeTable P0 w 11 ann0 18077 ⟨heapB w.params, #[], {}, 181, os⟩ (topStub P0) = some ⟨heapF w.params, #[], {}, 1943, os⟩ := by
  refine go_top (n := 12) (N := 18065) (pr_ok w os) ?_
  refine piece_block (n := 1) (N := 18064) (bl_ok w os) ?_
  refine Eq.trans (congrArg (fun l => topRun treeTable P0 w 11 ann0 18064 (XA w os).abs (restOf l env0 cE ⟨0, 0, 0, 0⟩ B0)) body_eq) ?_
  refine piece_app (n := 19) (N := 18045) (pA_all w os) ?_
  refine piece_app (n := 9552) (N := 8493) (pB_all w os) ?_
  refine piece_app (n := 133) (N := 8360) (pC_all w os) ?_
  refine piece_app (n := 3077) (N := 5283) (pD_all w os) ?_
  refine piece_app (n := 25) (N := 5258) (pE_all w os) ?_
  refine piece_app (n := 4303) (N := 955) (pF_all w os) ?_
  refine piece_app (n := 953) (N := 2) (pG_all w os) ?_
  exact piece_nil (fi_ok w os)
end Mine
end
section
set_option maxRecDepth 100000
set_option maxHeartbeats 0
set_option Elab.async false
set_option linter.unusedVariables false
namespace Mine
open PySem PySem.W PyProof.Rows
noncomputable def KK : Params → Frag := fun P => (nat_lit 3, ob90 P) :: (nat_lit 46, ob107 P) :: (nat_lit 50, ob111 P) :: (nat_lit 51, ob112 P) :: (nat_lit 53, ob114 P) :: (nat_lit 54, ob115 P) :: (nat_lit 56, ob117 P) :: (nat_lit 57, ob118 P) :: (nat_lit 58, ob119 P) :: (nat_lit 59, ob120 P) :: (nat_lit 61, ob122 P) :: (nat_lit 62, ob123 P) :: (nat_lit 64, ob125 P) :: (nat_lit 65, ob126 P) :: (nat_lit 66, ob127 P) :: (nat_lit 68, ob129 P) :: (nat_lit 69, ob130 P) :: (nat_lit 71, ob132 P) :: (nat_lit 72, ob133 P) :: (nat_lit 73, ob134 P) :: (nat_lit 75, ob136 P) :: (nat_lit 76, ob137 P) :: (nat_lit 78, ob139 P) :: (nat_lit 79, ob140 P) :: (nat_lit 80, ob141 P) :: (nat_lit 82, ob143 P) :: (nat_lit 83, ob144 P) :: (nat_lit 85, ob146 P) :: (nat_lit 86, ob147 P) :: (nat_lit 87, ob148 P) :: (nat_lit 88, ob149 P) :: (nat_lit 89, ob150 P) :: (nat_lit 90, ob151 P) :: (nat_lit 91, ob152 P) :: (nat_lit 92, ob153 P) :: (nat_lit 93, ob154 P) :: (nat_lit 94, ob155 P) :: (nat_lit 95, ob156 P) :: (nat_lit 96, ob157 P) :: (nat_lit 97, ob158 P) :: (nat_lit 98, ob159 P) :: (nat_lit 99, ob160 P) :: (nat_lit 100, ob161 P) :: (nat_lit 101, ob162 P) :: (nat_lit 102, ob163 P) :: (nat_lit 103, ob164 P) :: (nat_lit 104, ob165 P) :: (nat_lit 105, ob166 P) :: (nat_lit 106, ob167 P) :: (nat_lit 107, ob168 P) :: (nat_lit 108, ob169 P) :: (nat_lit 109, ob170 P) :: (nat_lit 110, ob171 P) :: (nat_lit 111, ob172 P) :: (nat_lit 112, ob173 P) :: (nat_lit 113, ob174 P) :: (nat_lit 114, ob175 P) :: (nat_lit 115, ob176 P) :: (nat_lit 116, ob177 P) :: (nat_lit 117, ob178 P) :: (nat_lit 118, ob179 P) :: (nat_lit 119, ob180 P) :: (nat_lit 120, ob181 P) :: (nat_lit 122, ob183 P) :: (nat_lit 123, ob184 P) :: (nat_lit 125, ob186 P) :: (nat_lit 126, ob187 P) :: (nat_lit 127, ob188 P) :: (nat_lit 129, ob190 P) :: (nat_lit 130, ob191 P) :: (nat_lit 132, ob193 P) :: (nat_lit 133, ob194 P) :: (nat_lit 134, ob195 P) :: (nat_lit 136, ob197 P) :: (nat_lit 137, ob198 P) :: (nat_lit 139, ob200 P) :: (nat_lit 140, ob201 P) :: (nat_lit 141, ob202 P) :: (nat_lit 144, ob205 P) :: (nat_lit 145, ob206 P) :: (nat_lit 146, ob207 P) :: (nat_lit 149, ob210 P) :: (nat_lit 150, ob211 P) :: (nat_lit 151, ob212 P) :: (nat_lit 153, ob214 P) :: (nat_lit 154, ob215 P) :: (nat_lit 156, ob217 P) :: (nat_lit 157, ob218 P) :: (nat_lit 158, ob219 P) :: (nat_lit 161, ob222 P) :: (nat_lit 162, ob223 P) :: []
noncomputable def KA : List Addr := nat_lit 3 :: nat_lit 46 :: nat_lit 50 :: nat_lit 51 :: nat_lit 53 :: nat_lit 54 :: nat_lit 56 :: nat_lit 57 :: nat_lit 58 :: nat_lit 59 :: nat_lit 61 :: nat_lit 62 :: nat_lit 64 :: nat_lit 65 :: nat_lit 66 :: nat_lit 68 :: nat_lit 69 :: nat_lit 71 :: nat_lit 72 :: nat_lit 73 :: nat_lit 75 :: nat_lit 76 :: nat_lit 78 :: nat_lit 79 :: nat_lit 80 :: nat_lit 82 :: nat_lit 83 :: nat_lit 85 :: nat_lit 86 :: nat_lit 87 :: nat_lit 88 :: nat_lit 89 :: nat_lit 90 :: nat_lit 91 :: nat_lit 92 :: nat_lit 93 :: nat_lit 94 :: nat_lit 95 :: nat_lit 96 :: nat_lit 97 :: nat_lit 98 :: nat_lit 99 :: nat_lit 100 :: nat_lit 101 :: nat_lit 102 :: nat_lit 103 :: nat_lit 104 :: nat_lit 105 :: nat_lit 106 :: nat_lit 107 :: nat_lit 108 :: nat_lit 109 :: nat_lit 110 :: nat_lit 111 :: nat_lit 112 :: nat_lit 113 :: nat_lit 114 :: nat_lit 115 :: nat_lit 116 :: nat_lit 117 :: nat_lit 118 :: nat_lit 119 :: nat_lit 120 :: nat_lit 122 :: nat_lit 123 :: nat_lit 125 :: nat_lit 126 :: nat_lit 127 :: nat_lit 129 :: nat_lit 130 :: nat_lit 132 :: nat_lit 133 :: nat_lit 134 :: nat_lit 136 :: nat_lit 137 :: nat_lit 139 :: nat_lit 140 :: nat_lit 141 :: nat_lit 144 :: nat_lit 145 :: nat_lit 146 :: nat_lit 149 :: nat_lit 150 :: nat_lit 151 :: nat_lit 153 :: nat_lit 154 :: nat_lit 156 :: nat_lit 157 :: nat_lit 158 :: nat_lit 161 :: nat_lit 162 :: []
theorem KA_eq : ∀ P, KA = (KK P).map (·.1) := fun P => by kernel_rfl
noncomputable def QV : Program := { P0 with main := { P0.main with body := [stm 53] } }
noncomputable def loose0 : List Str := [Str.ofString "CRLF", Str.ofString "NL", Str.ofString "_QUOPRI_MAP", Str.ofString "_QUOPRI_HEADER_MAP", Str.ofString "_QUOPRI_BODY_MAP", Str.ofString "ascii_lowercase", Str.ofString "ascii_uppercase", Str.ofString "ascii_letters", Str.ofString "digits", Str.ofString "hexdigits", Str.ofString "c", Str.ofString "unquote", Str.ofString "quote", Str.ofString "_QUOPRI_BODY_ENCODE_MAP", Str.ofString "body_encode", Str.ofString "decode", Str.ofString "unorderable_list_difference", Str.ofString "S_IMODE", Str.ofString "S_IFMT", Str.ofString "S_IFDIR", Str.ofString "S_IFCHR", Str.ofString "S_IFBLK", Str.ofString "S_IFREG", Str.ofString "S_IFIFO", Str.ofString "S_IFLNK", Str.ofString "S_IFSOCK", Str.ofString "S_ISUID", Str.ofString "S_ISGID", Str.ofString "S_ISVTX", Str.ofString "S_IRUSR", Str.ofString "S_IWUSR", Str.ofString "S_IXUSR", Str.ofString "S_IRGRP", Str.ofString "S_IWGRP", Str.ofString "S_IXGRP", Str.ofString "S_IROTH", Str.ofString "S_IWOTH", Str.ofString "S_IXOTH", Str.ofString "_filemode_table", Str.ofString "filemode", Str.ofString "_law_signs", Str.ofString "_law_folded", Str.ofString "_law_missing", Str.ofString "_law_left", Str.ofString "_law_unfolded"]
noncomputable def sF0 (w : World) (os : OsState) : Shared := ⟨heapF w.params, #[], {}, 1943, os⟩
noncomputable def Xt0 (s : Shared) : Bool := xlAt QV [] s && recOk [] s
noncomputable def l1P : Prop := ∀ (w : World) (os : OsState), (staticsOk (importedModules P0.main.body) (heapB w.params) (heapF w.params) && namesBound P0 (heapF w.params) && gensDone (sF0 w os) && laidKept (heapB w.params) (heapF w.params)) = true
lay_quick Mine.l1P
theorem l1_ok : l1P := by
  rw [PySem.W.Fast.te3951875506907458582]
  delta PySem.W.Fast.tw3951875506907458582
  intro w os
  kernel_rfl
noncomputable def o0P : Prop := ∀ (w : World) (os : OsState), seen ((recsOf QV).map (·.name)) (ownsOf QV) [] { sF0 w os with gens := #[] } = expectedOf QV
lay_quick Mine.o0P
theorem o0_ok : o0P := by
  rw [PySem.W.Fast.te9202683053818669106]
  delta PySem.W.Fast.tw9202683053818669106
  intro w os
  kernel_rfl
noncomputable def o1P : Prop := ∀ (w : World) (os : OsState), (sF0 w os).heap.bltView = bltViewBooted
lay_quick Mine.o1P
theorem o1_ok : o1P := by
  rw [PySem.W.Fast.te420782314438420523]
  delta PySem.W.Fast.tw420782314438420523
  intro w os
  kernel_rfl
noncomputable def o2P : Prop := ∀ (w : World) (os : OsState), ((sF0 w os).heap.keysOk (looseW QV loose0) ((recsOf QV).map (·.name)) ((litsOf QV).map (·.1)) ((clssOf QV (looseW QV loose0)).map (·.name)) && (sF0 w os).heap.accountedOkI (importedModules P0.main.body) && (sF0 w os).heap.isNs mainGlobals && (sF0 w os).heap.isNs builtinsNs && tablesOk QV (sF0 w os).heap && Xt0 (sF0 w os) && (if true = true then (sF0 w os).gens.size == 0 else !leftWithCleanup (sF0 w os).gens)) = true
lay_quick Mine.o2P
theorem o2_ok : o2P := by
  rw [PySem.W.Fast.te5189729641063390173]
  delta PySem.W.Fast.tw5189729641063390173
  intro w os
  kernel_rfl
noncomputable def o3P : Prop := ∀ (w : World) (os : OsState), tabsOk QV (sF0 w os) = true
lay_quick Mine.o3P
theorem o3_ok : o3P := by
  rw [PySem.W.Fast.te2984735845310952072]
  delta PySem.W.Fast.tw2984735845310952072
  intro w os
  kernel_rfl
noncomputable def o4P : Prop := ∀ (w : World) (os : OsState), pinSeenD QV (drecsOf QV) (sF0 w os) = pinGoodD (drecsOf QV)
lay_quick Mine.o4P
theorem o4_ok : o4P := by
  rw [PySem.W.Fast.te10757267407189422411]
  delta PySem.W.Fast.tw10757267407189422411
  intro w os
  kernel_rfl
noncomputable def o5P : Prop := ∀ (w : World) (os : OsState), plainSeenE QV (looseW QV loose0) (sF0 w os) = plainGoodE QV (looseW QV loose0)
lay_quick Mine.o5P
theorem o5_ok : o5P := by
  rw [PySem.W.Fast.te11418531042374048280]
  delta PySem.W.Fast.tw11418531042374048280
  intro w os
  kernel_rfl
noncomputable def o6P : Prop := ∀ (w : World) (os : OsState), plainSeenD QV loose0 (sF0 w os) = plainGoodD QV loose0
lay_quick Mine.o6P
theorem o6_ok : o6P := by
  rw [PySem.W.Fast.te17066533835096120059]
  delta PySem.W.Fast.tw17066533835096120059
  intro w os
  kernel_rfl
noncomputable def o7P : Prop := ∀ (w : World) (os : OsState), wideSeen QV (sF0 w os) = wideGood QV
lay_quick Mine.o7P
theorem o7_ok : o7P := by
  rw [PySem.W.Fast.te9680144832884132073]
  delta PySem.W.Fast.tw9680144832884132073
  intro w os
  kernel_rfl
noncomputable def o8P : Prop := ∀ (w : World) (os : OsState), clsSeenW QV loose0 (sF0 w os) = clsGoodW QV loose0
lay_quick Mine.o8P
theorem o8_ok : o8P := by
  rw [PySem.W.Fast.te2762198196396334715]
  delta PySem.W.Fast.tw2762198196396334715
  intro w os
  kernel_rfl
theorem k_ok : ∀ (w : World) (os : OsState), KA.map (sF0 w os).heap.get? = (KK w.params).map fun p => some p.2 := fun w os => by kernel_rfl
noncomputable def HK : Hook := kHook KK KA KA_eq
theorem left_ok : LeftO P0 QV loose0 Xt0 HK.obs HK.val 36200 := by
  refine LeftO.of_pieces (H₀ := heapB) (H₁ := heapF) (gs₀ := #[]) (gs₁ := #[]) (d₀ := {}) (d₁ := {}) (k₀ := 181) (k₁ := 1943) (m₀ := 11) (ann := ann0) (M := 18077)
    (open_cut (M := 600) op_ok (by decide) (fun w => by kernel_rfl)) (fun w => ?_) run_ok (by decide) (fun w => ?_)
  · exact sz_ok w
  · funext os
    refine looks_pair (l1_ok w os) (looks_pair ?_ (k_ok w os))
    exact looks_pair (o0_ok w os) (looks_pair (o1_ok w os) (looks_pair (o2_ok w os) (looks_pair (o3_ok w os) (looks_pair (o4_ok w os) (looks_pair (o5_ok w os) (looks_pair (o6_ok w os) (looks_pair (o7_ok w os) (o8_ok w os))))))))
end Mine
end
section
open PySem PySem.W PyProof.Rows PySem.Calls
set_option Elab.async false
set_option maxRecDepth 100000
set_option maxHeartbeats 4000000
namespace Mine
abbrev PR : Program := PySem.Challenge.rw_oc0163_01.row.prog
abbrev Kp (h h' : Heap) : Prop := ∀ b o, h.get? b = some o → h'.get? b = some o
theorem Kp.refl (h : Heap) : Kp h h := fun _ _ e => e
theorem Kp.trans {a b c : Heap} (x : Kp a b) (y : Kp b c) : Kp a c := fun b o e => y b o (x b o e)
abbrev TP (mean : ExcName → Option Value) (mg mb : Str → Option Value) (h : Heap) : Prop := Top QV (looseW QV loose0) mean mg mb h
section
variable {w : World} {A : Around} {E : Value → Shared → Prop} {s : Shared} {mean : ExcName → Option Value} {mg mb : Str → Option Value}
theorem enterW {R : Result → Shared → Prop} {name qual : Str} {params : Arguments} {body : List Stmt} {scope : Scope} {dV kV doc pm cdv ct oc : Value} {an od : Option Addr} {osl : Array (Option Value)} {f : Addr} {args : Args} {binds : List (Str × Value)}
    (X : (KK w.params).In s.heap) (T : Top QV (looseW QV loose0) mean mg mb s.heap)
    (ho : (KK w.params).lookup f = some ⟨oc, od, .func (fnOf name qual params body scope dV kV doc pm an cdv ct), osl⟩) (hcd : codeIn (KK w.params) cdv qual = true) (hroom : A.depth < recursionLimit)
    (hbind : BindsTo s (fnOf name qual params body scope dV kV doc pm an cdv ct) args binds) (hloc : ∀ y ∈ binds, scope.names.lookup y.1 = some .local)
    (h : ∀ L h₁, Fr s.heap L h₁ (fun y => binds.reverse.lookup y) → News s.heap L h₁ [] →
      wpAny (model PR w) (A.deeper (envOf qual scope L f cdv)) (execs body (envOf qual scope L f cdv))
        (fun fl s' => R (.ok (.ret (match fl with | .ret v => v | _ => .none))) s') (fun _ _ => False) { s with heap := h₁, toks := s.toks + binds.length })
    (hco : scope.isCoroutine = false) (hgen : scope.isGenerator = false) (hk : scope.kind = .function)
    (hcell : ∀ x ∈ scope.names, x.2 ≠ .cell) : codeAny (model PR w) A (.call (.ref f) args) R s :=
  codeAny_call_def (fd := fnOf name qual params body scope dV kV doc pm an cdv ct) (body := body) (binds := binds) hroom (X _ _ ho) rfl T.nolimit (codeRec_of X hcd) rfl hbind hcell hloc
    (fun h₁ hns hk₁ => wpAny_mono (h s.heap.objs.size h₁ ⟨hns, hk₁, Nat.le_refl _⟩ News.nil) (fun _ _ x => x) fun _ _ x => x.elim) hco hgen hk
end
theorem fill_me (w : World) (h : Heap) (_ : (KK w.params).In h) : PySem.Challenge.rw_oc0163_01.row.prog = PySem.Challenge.rw_oc0163_01.row.prog := by
  revert w h
  k_fill
  intros
  rfl
end Mine
end
section
open PySem PySem.W PyProof.Rows PySem.Calls
set_option Elab.async false
set_option maxRecDepth 100000
set_option maxHeartbeats 2000000
namespace Mine
theorem fill_me2 (w : World) (h : Heap) (_ : (KK w.params).In h) : PySem.Challenge.rw_oc0163_01.row.prog = PySem.Challenge.rw_oc0163_01.row.prog := by
  revert w h
  k_fill
  intros
  rfl
local macro_rules | `(tactic| walk_at "mine sides") => `(tactic| ((case k3 => k_asm); (case k5 => k_asm); (case k6 => k_dflt k_is); (case k7 => k_is); (case k8 => k_room); (case k9 => first | exact BindsTo.of_eq rfl | exact binds_K (by k_in) rfl (by k_is) rfl rfl rfl | fail "mine enter: no rule for these arguments"); (case c5 => decide); (case kB => exact locs rfl); (case c2 => exact rfl); (case c3 => exact rfl); (case c4 => exact rfl)))
theorem c_signs {w : World} {E : Value → Shared → Prop} {s : Shared} {mean : ExcName → Option Value} {mg mb : Str → Option Value} {e1 e2 : Env} {Q : Value → Shared → Prop} {m : Int} {t : Tok}
    (X : (KK w.params).In s.heap) (T : Top QV (looseW QV loose0) mean mg mb s.heap)
    (hQ : ∀ t' h' tk', Kp s.heap h' → Q (.str (tx (signs m)) t') {s with heap := h', toks := tk'}) :
    wpAny (model PR w) ((callerA.deeper e1).deeper e2) (call (.ref 133) [.int m t]) Q E s := by
  w_on
  refine wpAny_call ?_
  k_dflt (refine' enterW (binds := [(Str.ofString "m", .int m t)]) ?k3 ?k5 ?k6 ?k7 ?k8 ?k9 ?kB ?_ ?c2 ?c3 ?c4 ?c5)
  walk_at "mine sides"
  intro L' h' F' N'
  try dsimp only
  repeat' (first | (k_unfold; (try dsimp only)) | (k_end; wrow_close) | (walk1 <;> (try dsimp only)) | (leave1; (try dsimp only)))
  rename Fr _ _ _ _ => FF
  have key : ∀ (x : Str) t' h' tk', x = tx (signs m) → Kp s.heap h' → Q (.str x t') {s with heap := h', toks := tk'} := fun x t' h' tk' e k => e ▸ hQ t' h' tk' k
  have e := sgE_eq m
  unfold sgE at e
  try dsimp only
  refine key _ _ _ _ ?_ FF.keep
  rw [show (8 : Int) ^ (2 - (0 + ((0 : Nat) : Int))).toNat = 64 from rfl, show (8 : Int) ^ (2 - (0 + ((0 + 1 : Nat) : Int))).toNat = 8 from rfl, show (8 : Int) ^ (2 - (0 + ((0 + 1 + 1 : Nat) : Int))).toNat = 1 from rfl,
    show (2 : Int) ^ (11 - (0 + ((0 : Nat) : Int))).toNat = 2048 from rfl, show (2 : Int) ^ (11 - (0 + ((0 + 1 : Nat) : Int))).toNat = 1024 from rfl, show (2 : Int) ^ (11 - (0 + ((0 + 1 + 1 : Nat) : Int))).toNat = 512 from rfl]
  exact e
end Mine
end
section
open PySem PySem.W PyProof.Rows PySem.Calls
set_option Elab.async false
set_option maxRecDepth 100000
set_option maxHeartbeats 8000000
namespace Mine
theorem fill_me3 (w : World) (h : Heap) (_ : (KK w.params).In h) : PySem.Challenge.rw_oc0163_01.row.prog = PySem.Challenge.rw_oc0163_01.row.prog := by
  revert w h
  k_fill
  intros
  rfl
local macro_rules | `(tactic| walk_at "mine sides") => `(tactic| ((case k3 => k_asm); (case k5 => k_asm); (case k6 => k_dflt k_is); (case k7 => k_is); (case k8 => k_room); (case k9 => first | exact BindsTo.of_eq rfl | exact binds_K (by k_in) rfl (by k_is) rfl rfl rfl | fail "mine enter: no rule for these arguments"); (case c5 => decide); (case kB => exact locs rfl); (case c2 => exact rfl); (case c3 => exact rfl); (case c4 => exact rfl)))
local macro_rules | `(tactic| walk_at "mine go") => `(tactic| (repeat' (first | (k_unfold; (try dsimp only)) | ((fail_if_success (with_reducible show wpAny _ _ (exec (Stmt.For _ _ _ _ _) _) _ _ _)); (fail_if_success (with_reducible show wpAny _ _ (exec (Stmt.While _ _ _ _) _) _ _ _)); (fail_if_success (with_reducible show InvEndN _ _ _ _ _ _ _)); (fail_if_success (with_reducible show KswEnd _ _ _ _ _ _ _ _ _ _ _ _)); walk1) | (dsimp only; (fail_if_success (with_reducible show wpAny _ _ (exec (Stmt.For _ _ _ _ _) _) _ _ _)); (fail_if_success (with_reducible show wpAny _ _ (exec (Stmt.While _ _ _ _) _) _ _ _)); (fail_if_success (with_reducible show InvEndN _ _ _ _ _ _ _)); (fail_if_success (with_reducible show KswEnd _ _ _ _ _ _ _ _ _ _ _ _)); walk1) | fail "mine go: no step")))
theorem fr_kp3 {h₀ h h' : Heap} {L : Addr} {m : Str → Option Value} (F : Fr h₀ L h m) (k : Kp h h') : Fr h₀ L h' m := F.keeps k
theorem news_kp {h₀ h h' : Heap} {L : Addr} {news : List (Addr × Obj)} (N : News h₀ L h news) (k : Kp h h') : News h₀ L h' news := fun p hp => ⟨k _ _ (N p hp).1, (N p hp).2⟩
theorem c_signs_FN {w : World} {E : Value → Shared → Prop} {s : Shared} {mean : ExcName → Option Value} {mg mb : Str → Option Value} {e1 e2 : Env} {Q : Value → Shared → Prop} {m : Int} {t : Tok} {h₀ : Heap} {L : Addr} {mm : Str → Option Value} {news : List (Addr × Obj)}
    (X : (KK w.params).In h₀) (T : Top QV (looseW QV loose0) mean mg mb h₀) (F : Fr h₀ L s.heap mm) (N : News h₀ L s.heap news)
    (hQ : ∀ t' h' tk', Fr h₀ L h' mm → News h₀ L h' news → Q (.str (tx (signs m)) t') {s with heap := h', toks := tk'}) :
    wpAny (model PR w) ((callerA.deeper e1).deeper e2) (call (.ref 133) [.int m t]) Q E s :=
  c_signs (X.keeps F.keep) (T.keeps F.keep) (fun t' h' tk' k => hQ t' h' tk' (fr_kp3 F k) (news_kp N k))
noncomputable def foldedT (W : Int) (ns : List Int) : List Str := ns.flatMap fun n => (fold W.toNat (signs n)).map tx
local macro_rules | `(tactic| walk_at "call ref") => `(tactic| (k_here; (with_reducible show wpAny _ _ (call (Value.ref 133) [Value.int _ _]) _ _ _); k_dflt (refine' c_signs_FN ?k1 ?k2 ?k3 ?k4 ?_; (case k1 => k_asm); (case k2 => k_asm); (case k3 => k_asm); (case k4 => k_asm); k_whole); intro t' h' tk' F' N'))
local macro_rules | `(tactic| walk_at "call builtin:list.append") => `(tactic| (k_here; (show wpAny _ _ (call (Value.builtin "list.append") [Value.ref _, _]) _ _ _); k_dflt (refine' append_K ?k1 ?k2 ?k3 ?_ ?z; (case k1 => k_asm); (case k2 => k_asm); (case k3 => k_upd); (case z => size_fits); k_whole); intro h' F' N'; (try k_sweep)))
theorem c_folded {w : World} {E : Value → Shared → Prop} {s : Shared} {mean : ExcName → Option Value} {mg mb : Str → Option Value} {e1 : Env} {Q : Value → Shared → Prop} {l : Addr} {vs : List Value} {ns : List Int} {W : Int} {t : Tok}
    (X : (KK w.params).In s.heap) (T : Top QV (looseW QV loose0) mean mg mb s.heap) (hl : s.heap.IsList l vs.toArray) (hi : IntsAre vs ns) (hlen : ns.length ≤ 8) (hw : 4 ≤ W) (hw2 : W ≤ 11)
    (hQ : ∀ r vs' n' h' tk', Kp s.heap h' → h'.get? r = some (listOf vs'.toArray n') → s.heap.get? r = none → StrsAre vs' (foldedT W ns) → Q (.ref r) {s with heap := h', toks := tk'}) :
    wpAny (model PR w) (callerA.deeper e1) (call (.ref 140) [.ref l, .int W t]) Q E s := by
  w_on
  refine wpAny_call ?_
  k_dflt (refine' enterW (binds := [(Str.ofString "numbers", .ref l), (Str.ofString "width", .int W t)]) ?k3 ?k5 ?k6 ?k7 ?k8 ?k9 ?kB ?_ ?c2 ?c3 ?c4 ?c5)
  walk_at "mine sides"
  intro L' h' F' N'
  try dsimp only
  walk_at "mine go"
  rename_i r' _ _ _ FF NN
  with_unfolding_all refine' For_invVF FF ?k1 ?k2 ?_
  (case k1 => exact rfl)
  (case k2 => exact rfl)
  walk1
  have mk := kstMark
  refine kst_list (σ := List Value × List Str × Nat) (m₀ := _) (fun c => [(r', listOf c.1.toArray c.2.2)]) (fun _ => []) (fun c => StrsAre c.1 c.2.1) [Str.ofString "left"] (fun pre c => c.2.1 = foldedT W pre ∧ c.1.length ≤ 11 * pre.length) ([], [], 0) rfl hl hi FF NN .nil (fun _ h => nomatch h) ⟨rfl, Nat.zero_le _⟩ ?_ ?_
  · rintro ⟨ws, xs, k⟩ pre post n t' u h tk own he hn hoff hf ⟨hp, hp2⟩ F1 N1
    dsimp only at hf hp hp2 F1 N1 ⊢
    have hpl : pre.length ≤ 7 := by
      have := congrArg List.length he
      simp only [List.length_append, List.length_cons] at this
      omega
    clear FF NN
    walk_at "mine go"
    rename_i t0 _ _ _ _ _ FF NN
    clear F1 N1
    refine ksw_while (σ := (Str × Tok) × (List Value × List Str × Nat)) (m₀ := _) (fun c => (r', listOf c.2.1.toArray c.2.2.2) :: own) (fun c => [(Str.ofString "left", .str c.1.1 c.1.2)]) (fun c => StrsAre c.2.1 c.2.2.1) []
      (fun c => c.2.2.1 ++ (fold W.toNat (cp c.1.1)).map tx = xs ++ (fold W.toNat (signs n)).map tx ∧ c.1.1.length ≤ 10 ∧ 1 ≤ c.1.1.length ∧ c.2.1.length + c.1.1.length ≤ ws.length + 10) (fun c => c.1.1.length) ((tx (signs n), t0), (ws, xs, k)) FF NN hf (by intro p hp; rw [List.mem_singleton.mp hp]; rfl) ⟨rfl, Nat.le_of_eq (len_signs n), by have := len_signs n; dsimp only; omega, by have := len_signs n; dsimp only; omega⟩ ?_
    rintro ⟨⟨y, ty⟩, ⟨ws2, xs2, k2⟩⟩ u2 h2 tk2 hf2 ⟨hp3, hp4, hp5, hp6⟩ F1 N1
    dsimp only at hf2 hp3 hp4 hp5 hp6 F1 N1 ⊢
    clear FF NN
    walk_at "mine go"
    · rename Fr _ _ _ _ => FF
      rename News _ _ _ _ => NN
      simp only [List.push_toArray] at NN
      rename W < _ => hlt
      have hs1 := slice_to (x := y) (j := W - 1) (by omega) (by omega)
      have hs2 := slice_from (x := y) (i := W - 1) (by omega) (by omega)
      have hl2 : (Txt.slice y (some (W - 1)) none).length = y.length - (W - 1).toNat := by rw [hs2, len_tx, List.length_drop, ← len_cp]
      refine ksw_end ((Txt.slice y (some (W - 1)) none, _), (ws2 ++ [_], xs2 ++ [Txt.slice y none (some (W - 1)) ++ Str.ofString "="], k2 + 1)) FF NN (fun p hp => hp) (hf2.append' (.cons _ _ .nil)) (by intro p hp; rw [List.mem_singleton.mp hp]; rfl) (by intro z hz _; have hz' : z ≠ Str.ofString "left" := hz _ List.mem_cons_self; simp [kstB, hz']) ⟨?_, ?_, ?_, ?_⟩ ?_
      · dsimp only
        rw [← hp3, ← fold_step hw hlt]
        simp
      · dsimp only; omega
      · dsimp only; omega
      · simp only [List.length_append, List.length_cons, List.length_nil]; omega
      · dsimp only; omega
    · rename Fr _ _ _ _ => FF
      rename News _ _ _ _ => NN
      simp only [List.push_toArray] at NN
      rename ¬ W < _ => hlt
      refine kst_end (ws2 ++ [_], xs2 ++ [y], k2 + 1) FF NN (by intro p hp; rw [List.mem_singleton.mp hp]; exact List.mem_cons_self) (fun p hp => List.mem_cons_of_mem _ hp) rfl (hf2.append' (.cons _ _ .nil)) (fun _ h => nomatch h) ?_ ⟨?_, ?_⟩
      · intro z hz _ hs
        have hz' : z ≠ Str.ofString "left" := by intro e; rw [e] at hs; simp at hs
        simp [kstB, hz, hz']
      · dsimp only
        rw [fold_end (by omega) hlt] at hp3
        rw [hp3, hp]
        simp [foldedT]
      · simp only [List.length_append, List.length_cons, List.length_nil]; omega
  · rintro ⟨ws, xs, k⟩ u h tk hf ⟨hp, hp2⟩ F1 N1
    dsimp only at hf hp hp2 F1 N1 ⊢
    walk_at "mine go"
    rename Fr _ _ _ _ => FF
    rename News _ _ _ _ => NN
    dsimp only
    exact hQ r' ws k _ _ FF.keep (NN _ List.mem_cons_self).1 (NN _ List.mem_cons_self).2.2 (hp ▸ hf)
end Mine
end
section
open PySem PySem.W PyProof.Rows PySem.Calls
set_option Elab.async false
set_option maxRecDepth 100000
set_option maxHeartbeats 8000000
namespace Mine
theorem fill_me5 (w : World) (h : Heap) (_ : (KK w.params).In h) : PySem.Challenge.rw_oc0163_01.row.prog = PySem.Challenge.rw_oc0163_01.row.prog := by
  revert w h
  k_fill
  intros
  rfl
local macro_rules | `(tactic| walk_at "mine sides") => `(tactic| ((case k3 => k_asm); (case k5 => k_asm); (case k6 => k_dflt k_is); (case k7 => k_is); (case k8 => k_room); (case k9 => first | exact BindsTo.of_eq rfl | exact binds_K (by k_in) rfl (by k_is) rfl rfl rfl | fail "mine enter: no rule for these arguments"); (case c5 => decide); (case kB => exact locs rfl); (case c2 => exact rfl); (case c3 => exact rfl); (case c4 => exact rfl)))
local macro_rules | `(tactic| walk_at "mine go") => `(tactic| (repeat' (first | (k_unfold; (try dsimp only)) | ((fail_if_success (with_reducible show wpAny _ _ (exec (Stmt.For _ _ _ _ _) _) _ _ _)); (fail_if_success (with_reducible show wpAny _ _ (exec (Stmt.While _ _ _ _) _) _ _ _)); (fail_if_success (with_reducible show InvEndN _ _ _ _ _ _ _)); (fail_if_success (with_reducible show KswEnd _ _ _ _ _ _ _ _ _ _ _ _)); walk1) | (dsimp only; (fail_if_success (with_reducible show wpAny _ _ (exec (Stmt.For _ _ _ _ _) _) _ _ _)); (fail_if_success (with_reducible show wpAny _ _ (exec (Stmt.While _ _ _ _) _) _ _ _)); (fail_if_success (with_reducible show InvEndN _ _ _ _ _ _ _)); (fail_if_success (with_reducible show KswEnd _ _ _ _ _ _ _ _ _ _ _ _)); walk1) | fail "mine go: no step")))
theorem fr_kp5 {h₀ h h' : Heap} {L : Addr} {m : Str → Option Value} (F : Fr h₀ L h m) (k : Kp h h') : Fr h₀ L h' m := F.keeps k
local macro_rules | `(tactic| walk_at "mine toiter") => `(tactic| (repeat ((fail_if_success (with_reducible show wpAny _ _ (pyIter _) _ _ _)); first | walk1 | (dsimp only; walk1))))
local macro_rules | `(tactic| walk_at "subscriptTail") => `(tactic| (k_here; (with_reducible show wpAny _ _ (subscriptTail _ _ (Value.str _ _) (Value.int _ _)) _ _ _); refine item_str (fitsSsize_of (N := 9223372036854775808) (by omega) (by omega) (by decide)) (by omega) (by omega) ?_; intro _))
local macro_rules | `(tactic| size_fits) => `(tactic| (rw [PySem.sizeLine_eq]; (try simp only [Str.length_append, List.size_toArray, List.length_append, List.length_cons, List.length_nil]); omega))
theorem unf_turn {xs : List Str} {i : Nat} {x : Str} (hx : xs[i]? = some x) : (xs.map cp).drop i = cp x :: (xs.map cp).drop (i + 1) := by
  have h : i < (xs.map cp).length := by rw [List.length_map]; exact (List.getElem?_eq_some_iff.mp hx).1
  rw [List.drop_eq_getElem_cons h]
  congr 1
  rw [List.getElem_map]
  exact congrArg cp (List.getElem?_eq_some_iff.mp hx).2
theorem cp_app (a b : Str) : cp (a ++ b) = cp a ++ cp b := by simp [cp, Str.cps_append]
theorem nl_lit : Str.ofString "\n" = tx [10] := by decide +kernel
theorem c_unfolded {w : World} {E : Value → Shared → Prop} {s : Shared} {mean : ExcName → Option Value} {mg mb : Str → Option Value} {e1 : Env} {Q : Value → Shared → Prop} {l : Addr} {vs : List Value} {xs : List Str}
    (X : (KK w.params).In s.heap) (T : Top QV (looseW QV loose0) mean mg mb s.heap) (hl : s.heap.IsList l vs.toArray) (hi : StrsAre vs xs) (hlen : xs.length ≤ 64) (hx : ∀ x ∈ xs, 1 ≤ x.length ∧ x.length ≤ 64)
    (hQ : ∀ t' h' tk', Kp s.heap h' → Q (.str (tx (unf (xs.map cp))) t') {s with heap := h', toks := tk'}) :
    wpAny (model PR w) (callerA.deeper e1) (call (.ref 157) [.ref l]) Q E s := by
  w_on
  refine wpAny_call ?_
  k_dflt (refine' enterW (binds := [(Str.ofString "rows", .ref l)]) ?k3 ?k5 ?k6 ?k7 ?k8 ?k9 ?kB ?_ ?c2 ?c3 ?c4 ?c5)
  walk_at "mine sides"
  intro L' h' F' N'
  try dsimp only
  have hvl : vs.length = xs.length := hi.length
  walk_at "mine go"
  rename Fr _ _ _ _ => FF
  have mk := kstMark
  with_unfolding_all refine' For_invVF FF ?k1 ?k2 ?_
  (case k1 => exact rfl)
  (case k2 => exact rfl)
  walk_at "mine toiter"
  rename Fr _ _ _ _ => FF
  rename News _ _ _ _ => NN
  rename IsRange _ _ _ _ _ _ _ _ => RG
  rename StrsAre _ _ => HI
  with_unfolding_all refine' kst_range (σ := Str × Tok) (n := xs.length) (fun _ => []) (fun c => [(Str.ofString "text", .str c.1 c.2)]) (fun _ => True) [] (fun pre c => cp c.1 ++ unf ((xs.map cp).drop pre.length) = unf (xs.map cp) ∧ c.1.length ≤ 65 * pre.length) (Str.ofString "", _) (by rfl) RG (small_one (by omega) (by omega) (by omega) (by omega)) ?kn FF NN trivial ?kk ⟨?kp, ?kq⟩ ?turn ?done
  (case kn => rw [rangeSize_nat]; omega)
  (case kk => intro p hp; rw [List.mem_singleton.mp hp]; rfl)
  (case kp => rfl)
  (case kq => show (Str.ofString "").length ≤ 0; decide +kernel)
  case turn =>
    rintro ⟨y, ty⟩ pre k t0 u h tk own hk hlt hoff _ ⟨hp1, hp2⟩ F1 N1
    dsimp only at hp1 hp2 F1 N1 ⊢
    clear FF NN
    obtain ⟨x, hxi⟩ : ∃ x, xs[pre.length]? = some x := ⟨xs[pre.length], List.getElem?_eq_getElem hlt⟩
    obtain ⟨tx0, hvi⟩ := HI.get _ _ hxi
    have hx1 := hx x (List.mem_of_getElem? hxi)
    have hk' : k = (pre.length : Int) := by omega
    subst hk'
    have hgd : xs.getD ((pre.length : Int)).toNat Str.empty = x := by rw [Int.toNat_natCast, List.getD_eq_getElem?_getD, hxi]; rfl
    have hg1 : 1 ≤ (xs.getD ((pre.length : Int)).toNat Str.empty).length ∧ (xs.getD ((pre.length : Int)).toNat Str.empty).length ≤ 64 := by rw [hgd]; exact hx1
    have hU := unf_turn hxi
    walk_at "mine go"
    · rename Fr _ _ _ _ => FF
      rename News _ _ _ _ => NN
      rename (Txt.item _ _ == _) = true => hc
      rw [hgd, eq_lit, item_neg_eq hx1.1] at hc
      refine kst_end (_, _) FF NN (fun _ h => nomatch h) (fun p hp => hp) rfl trivial (by intro p hp; rw [List.mem_singleton.mp hp]; rfl) ?_ ⟨?_, ?_⟩
      · intro z hz hz2 _
        have hz' : z ≠ Str.ofString "text" := hz2 _ List.mem_cons_self
        simp [kstB, hz, hz']
      · dsimp only
        rw [List.length_append, List.length_singleton, hgd, cp_app, slice_init hx1.1, cp_tx, ← hp1, hU, unf_soft _ hc]
        simp
      · rw [hgd, slice_init hx1.1]
        simp only [Str.length_append, List.length_append, List.length_singleton, len_tx, List.length_dropLast, ← len_cp]
        omega
    · rename Fr _ _ _ _ => FF
      rename News _ _ _ _ => NN
      rename (Txt.item _ _ == _) = false => hc
      have hc' : ¬ (cp x).getLast? = some 61 := fun q => by
        rw [hgd, eq_lit] at hc
        rw [(item_neg_eq hx1.1 61).mpr q] at hc
        cases hc
      have hr : (xs.map cp).drop (pre.length + 1) ≠ [] := by
        intro q
        have := congrArg List.length q
        rw [List.length_drop, List.length_map, List.length_nil] at this
        omega
      refine kst_end (_, _) FF NN (fun _ h => nomatch h) (fun p hp => hp) rfl trivial (by intro p hp; rw [List.mem_singleton.mp hp]; rfl) ?_ ⟨?_, ?_⟩
      · intro z hz hz2 _
        have hz' : z ≠ Str.ofString "text" := hz2 _ List.mem_cons_self
        simp [kstB, hz, hz']
      · dsimp only
        rw [List.length_append, List.length_singleton, hgd, cp_app, cp_app, nl_lit, cp_tx, ← hp1, hU, unf_hard hc' hr]
        simp
        rfl
      · rw [hgd, nl_lit]
        simp only [Str.length_append, List.length_append, List.length_singleton, len_tx, List.length_cons, List.length_nil]
        omega
    · rename Fr _ _ _ _ => FF
      rename News _ _ _ _ => NN
      rename (Txt.item _ _ == _) = false => hc
      have hc' : ¬ (cp x).getLast? = some 61 := fun q => by
        rw [hgd, eq_lit] at hc
        rw [(item_neg_eq hx1.1 61).mpr q] at hc
        cases hc
      have hr : (xs.map cp).drop (pre.length + 1) = [] := by
        rw [List.drop_eq_nil_iff, List.length_map]
        omega
      refine kst_end (_, _) FF NN (fun _ h => nomatch h) (fun p hp => hp) rfl trivial (by intro p hp; rw [List.mem_singleton.mp hp]; rfl) ?_ ⟨?_, ?_⟩
      · intro z hz hz2 _
        have hz' : z ≠ Str.ofString "text" := hz2 _ List.mem_cons_self
        simp [kstB, hz, hz']
      · dsimp only
        rw [List.length_append, List.length_singleton, hgd, cp_app, ← hp1, hU, hr, unf_last hc']
        simp [unf]
      · rw [hgd]
        simp only [Str.length_append, List.length_append, List.length_singleton]
        omega
  case done =>
    rintro ⟨y, ty⟩ u h tk _ ⟨hp1, hp2⟩ F1 N1
    dsimp only at hp1 hp2 F1 N1 ⊢
    walk_at "mine go"
    rename Fr _ _ _ _ => FF
    dsimp only
    have ey : y = tx (unf (xs.map cp)) := by
      rw [rangeKs_length, ← List.length_map (f := cp), List.drop_length] at hp1
      rw [← hp1]
      simp [unf]
    subst ey
    exact hQ _ _ _ FF.keep
end Mine
end
section
open PySem PySem.W PyProof.Rows PySem.Calls PyProof.V PySem.Spec
set_option Elab.async false
set_option maxRecDepth 100000
namespace Mine
section
variable {prog : Program} {w : World} {A : Around} {E : Value → Shared → Prop} {s : Shared} {env : Env} {h₀ : Heap} {x : Str} {body : List Stmt} {Q : Flow → Shared → Prop}
theorem kss_list {σ : Type} {l : Addr} {vs : List Value} {ys : List Str} {m₀ : Str → Option Value} (Led : σ → List (Addr × Obj)) (ps : σ → List (Str × Value)) (Facts : σ → Prop) (stored : List Str) (P : Nat → σ → Prop) (c₀ : σ)
    (hh : A.handled = none) (hl : s.heap.IsList l vs.toArray) (hi : StrsAre vs ys) (hL : l ≠ env.locals) (hoffl : ∀ p ∈ Led c₀, p.1 ≠ l) (F : Fr h₀ env.locals s.heap m₀) (N : News h₀ env.locals s.heap (Led c₀)) (hf : Facts c₀) (hk : ∀ p ∈ ps c₀, m₀ p.1 = some p.2) (hp : P 0 c₀)
    (turn : ∀ (c : σ) (i : Nat) (y : Str) t (u : Str → Option Value) h tk own, ys[i]? = some y → OwnOff own ((Led c₀).map (·.1)) → Facts c → P i c →
      Fr h₀ env.locals h (fun y' => if y' = x then some (.str y t) else kstB (fun z => if stored.contains z then u z else m₀ z) (ps c) y') → News h₀ env.locals h (Led c ++ own) →
      wpAny (model prog w) A (execs body env) (InvPostN h₀ env.locals (KstS Led ps Facts x stored m₀ (fun pre c => P pre.length c) (List.replicate (i + 1) (0 : Int))) own ((Led c₀).map (·.1)) { s with heap := h, toks := tk } Q) E { s with heap := h, toks := tk })
    (done : ∀ (c : σ) (u : Str → Option Value) h tk, Facts c → P ys.length c → Fr h₀ env.locals h (fun y => if y = x then u y else kstB (fun z => if stored.contains z then u z else m₀ z) (ps c) y) → News h₀ env.locals h (Led c) → Q .next { s with heap := h, toks := tk }) :
    wpAny (model prog w) A (pyIter (.ref l)) (fun it s₂ => LoopAtV prog w A h₀ env x body Q E it s₂) E s := by
  obtain ⟨ol, hol, _⟩ := id hl
  have hne : l ≠ s.heap.objs.size := Nat.ne_of_lt (Heap.lt_size hol)
  refine wpAny_pyIter_list hl ?_
  have W := Walks.list (prog := prog) (w := w) hh s.heap.objs.size l hne vs.toArray
  have hlen : vs.toArray.size = ys.length := by simp [hi.length]
  rw [hlen] at W
  refine loop_invN (fun i m nx => KstS Led ps Facts x stored m₀ (fun pre c => P pre.length c) (List.replicate i (0 : Int)) m nx) W ?_ ?_ ?_ ?_ ⟨⟨_, Heap.get?_push_size _ rfl, rfl, rfl⟩, hl.at fun o e => Heap.get?_push_of_some _ e⟩ (F.push _) (fun p hp => ⟨Heap.get?_push_of_some _ (N p hp).1, (N p hp).2⟩) ⟨c₀, rfl, hf, hk, fun _ _ _ _ => rfl, by simpa using hp⟩ ?_ ?_
  · intro hm
    rcases List.mem_cons.mp hm with e | hm
    · exact absurd F.ns.lt (e ▸ Nat.lt_irrefl _)
    · exact hL (List.mem_singleton.mp hm).symm
  · intro b hb
    rw [List.mem_singleton.mp hb]
    exact next_is_new F
  · intro p hp hI
    exact absurd (Heap.lt_size (N p hp).1) ((List.mem_singleton.mp hI) ▸ Nat.lt_irrefl _)
  · intro p hp hI
    rcases List.mem_cons.mp hI with e | hm
    · exact absurd (Heap.lt_size (N p hp).1) (e ▸ Nat.lt_irrefl _)
    · exact hoffl p hp (List.mem_singleton.mp hm)
  · rintro i v m₁ nx h tk own hin hP _ hoff ⟨c, rfl, hf', h1, h2, hp'⟩ F₁ N₁
    obtain ⟨y, hy⟩ : ∃ y, ys[i]? = some y := ⟨ys[i], List.getElem?_eq_getElem hin⟩
    obtain ⟨t, hv⟩ := hi.get _ _ hy
    have hv' : v = .str y t := by
      rw [List.getElem?_toArray] at hP
      exact Option.some.inj (hP.symm.trans hv)
    subst hv'
    exact turn c i y t m₁ h tk own hy hoff hf' (by simpa using hp') (kst_fr h1 h2 F₁) N₁
  · rintro m₁ nx h tk ⟨c, rfl, hf', h1, h2, hp'⟩ F₁ N₁
    exact done c m₁ h tk hf' (by simpa using hp') (kst_frOut h1 h2 F₁) N₁
theorem kss_end {σ : Type} {Led : σ → List (Addr × Obj)} {ps : σ → List (Str × Value)} {Facts : σ → Prop} {stored : List Str} {m₀ : Str → Option Value} {P : Nat → σ → Prop} {i : Nat} (c : σ) {L : Addr} {m' : Str → Option Value} {own news' : List (Addr × Obj)} {adr : List Addr} {s₁ : Shared} {h' : Heap} {tk : Nat}
    (F : Fr h₀ L h' m') (N : News h₀ L h' news') (hn : ∀ p ∈ Led c, p ∈ news') (ho : ∀ p ∈ own, p ∈ news') (ha : (Led c).map (·.1) = adr) (hf : Facts c) (hk : ∀ p ∈ ps c, m' p.1 = some p.2) (hr : ∀ z, z ≠ x → (∀ p ∈ ps c, z ≠ p.1) → stored.contains z = false → m' z = m₀ z) (hp : P i c) :
    InvEndN h₀ L (KstS Led ps Facts x stored m₀ (fun pre c => P pre.length c) (List.replicate i (0 : Int))) own adr s₁ { s₁ with heap := h', toks := tk } :=
  InvEndN.intro F N ⟨c, rfl, hf, hk, hr, by simpa using hp⟩ ha hn ho
end
end Mine
end
section
open PySem PySem.W PyProof.Rows PySem.Calls
set_option Elab.async false
set_option maxRecDepth 100000
set_option maxHeartbeats 8000000
namespace Mine
theorem fill_me6 (w : World) (h : Heap) (_ : (KK w.params).In h) : PySem.Challenge.rw_oc0163_01.row.prog = PySem.Challenge.rw_oc0163_01.row.prog := by
  revert w h
  k_fill
  intros
  rfl
local macro_rules | `(tactic| walk_at "mine sides") => `(tactic| ((case k3 => k_asm); (case k5 => k_asm); (case k6 => k_dflt k_is); (case k7 => k_is); (case k8 => k_room); (case k9 => first | exact BindsTo.of_eq rfl | exact binds_K (by k_in) rfl (by k_is) rfl rfl rfl | fail "mine enter: no rule for these arguments"); (case c5 => decide); (case kB => exact locs rfl); (case c2 => exact rfl); (case c3 => exact rfl); (case c4 => exact rfl)))
local macro_rules | `(tactic| walk_at "mine go") => `(tactic| (repeat' (first | (k_unfold; (try dsimp only)) | ((fail_if_success (with_reducible show wpAny _ _ (exec (Stmt.For _ _ _ _ _) _) _ _ _)); (fail_if_success (with_reducible show wpAny _ _ (exec (Stmt.While _ _ _ _) _) _ _ _)); (fail_if_success (with_reducible show InvEndN _ _ _ _ _ _ _)); (fail_if_success (with_reducible show KswEnd _ _ _ _ _ _ _ _ _ _ _ _)); walk1) | (dsimp only; (fail_if_success (with_reducible show wpAny _ _ (exec (Stmt.For _ _ _ _ _) _) _ _ _)); (fail_if_success (with_reducible show wpAny _ _ (exec (Stmt.While _ _ _ _) _) _ _ _)); (fail_if_success (with_reducible show InvEndN _ _ _ _ _ _ _)); (fail_if_success (with_reducible show KswEnd _ _ _ _ _ _ _ _ _ _ _ _)); walk1) | fail "mine go: no step")))
theorem fr_kp6 {h₀ h h' : Heap} {L : Addr} {m : Str → Option Value} (F : Fr h₀ L h m) (k : Kp h h') : Fr h₀ L h' m := F.keeps k
local macro_rules | `(tactic| walk_at "mine toiter") => `(tactic| (repeat ((fail_if_success (with_reducible show wpAny _ _ (pyIter _) _ _ _)); first | walk1 | (dsimp only; walk1))))
local macro_rules | `(tactic| walk_at "subscriptTail") => `(tactic| (k_here; (with_reducible show wpAny _ _ (subscriptTail _ _ (Value.str _ _) (Value.int _ _)) _ _ _); refine item_str (fitsSsize_of (N := 9223372036854775808) (by omega) (by omega) (by decide)) (by omega) (by omega) ?_; intro _))
local macro_rules | `(tactic| size_fits) => `(tactic| (rw [PySem.sizeLine_eq]; (try simp only [Str.length_append, List.size_toArray, List.length_append, List.length_cons, List.length_nil]); omega))
theorem kk2 {m : Str → Option Value} {a b : Str × Value} (h1 : m a.1 = some a.2) (h2 : m b.1 = some b.2) : ∀ p ∈ [a, b], m p.1 = some p.2 := by
  intro p hp
  rcases List.mem_cons.mp hp with rfl | hp
  · exact h1
  · rw [List.mem_singleton.mp hp]; exact h2
structure Dead (p q : Prop) : Prop where
  go : p → q
local macro_rules | `(tactic| walk_at "exec If") => `(tactic| (exfalso; rename Dead _ _ => HD; exact absurd (HD.go (by assumption) (by omega)) (by omega)))
theorem rstrip_row {y : Str} (h : Row Safe (cp y)) : Txt.rstrip y = y := by
  have hn := row_ne h
  have hl := (row_all h _ (List.getLast_mem hn)).2
  have hy : (cp y) = y.cps.toList := rfl
  rw [Txt.rstrip, PySem.W.stripBy_eq]
  have e0 : ((y.cps.toList.drop 0).reverse.takeWhile Unicode.isSpace) = [] := by
    rw [List.drop_zero, ← hy]
    generalize cp y = l at hn hl
    rw [← List.dropLast_concat_getLast hn, List.reverse_append, List.reverse_singleton, List.singleton_append, List.takeWhile_cons, hl]
    rfl
  have e1 : (if true = true then y.length - ((y.cps.toList.drop (if false = true then (y.cps.toList.takeWhile Unicode.isSpace).length else 0)).reverse.takeWhile Unicode.isSpace).length else y.length) = y.length := by
    simp only [Bool.false_eq_true, if_false, if_true]
    rw [e0]
    rfl
  show Builtin.Str.strSub y 0 (if true = true then y.length - ((y.cps.toList.drop (if false = true then (y.cps.toList.takeWhile Unicode.isSpace).length else 0)).reverse.takeWhile Unicode.isSpace).length else y.length) = y
  rw [e1]
  refine cp_inj ?_
  rw [strSub_cp, List.drop_zero, Nat.sub_zero, len_cp, List.take_length]
theorem dead_end {y : Str} (h : Row Safe (cp y)) {k : Int} (h0 : 0 ≤ k) (h1 : k < (y.length : Int)) (q : (Txt.item y k != Str.ofString "=") = false) : k + 1 = (y.length : Int) := by
  obtain ⟨c, hc1, hc2⟩ := item_at h0 h1
  have hc3 : c = 61 := by
    rw [hc2, eq_lit] at q
    simpa using q
  have := row_mid h (hc3 ▸ hc1)
  rw [← len_cp] at this
  omega
local macro_rules | `(tactic| walk_at "call builtin:str.rstrip") => `(tactic| (k_here; (with_reducible show wpAny _ _ (call (Value.builtin "str.rstrip") [Value.str _ _]) _ _ _); (refine KXw.rstrip (by assumption) (by size_fits) ?_); intro _ _))
theorem c_decode {w : World} {E : Value → Shared → Prop} {s : Shared} {mean : ExcName → Option Value} {mg mb : Str → Option Value} {e1 : Env} {Q : Value → Shared → Prop} {rows : List Str} {x : Str} {t : Tok}
    (X : (KK w.params).In s.heap) (T : Top QV (looseW QV loose0) mean mg mb s.heap) (hx : x = Str.join (tx [10]) rows) (hlen : rows.length ≤ 64) (hxl : x.length ≤ 10000) (hr : ∀ x ∈ rows, Row Safe (cp x) ∧ x.length ≤ 64)
    (hQ : ∀ t' h' tk', Kp s.heap h' → Q (.str (tx (unf (rows.map cp))) t') {s with heap := h', toks := tk'}) :
    wpAny (model PR w) (callerA.deeper e1) (call (.ref 65) [.str x t]) Q E s := by
  w_on
  refine wpAny_call ?_
  k_dflt (refine' enterW (binds := [(Str.ofString "encoded", .str x t), (Str.ofString "eol", .str (Str.mk #[10]) 189)]) ?k3 ?k5 ?k6 ?k7 ?k8 ?k9 ?kB ?_ ?c2 ?c3 ?c4 ?c5)
  walk_at "mine sides"
  intro L' h' F' N'
  generalize hnl : Str.mk #[10] = nl at F'
  have hnl1 : nl.length = 1 := by rw [← hnl]; rfl
  try dsimp only
  walk_at "mine go"
  · rename Fr _ _ _ _ => FF
    rename News _ _ _ _ => NN
    rename (_ : Int) ≠ 0 => hx0
    have hne : rows ≠ [] := by
      intro e; subst e; subst hx; exact hx0 (by decide)
    have hlines : Txt.lines x = rows := by
      rw [hx]
      exact lines_join hne (fun r h => row_ne (hr r h).1) (fun r h => row_lb (hr r h).1)
    have mk := kstMark
    with_unfolding_all refine' For_invVF FF ?k1 ?k2 ?_
    (case k1 => exact rfl)
    (case k2 => exact rfl)
    walk_at "mine toiter"
    rename StrsAre _ _ => HI
    rename Fr _ _ _ _ => FF2
    rename News _ _ _ _ => NN2
    rename Heap.IsList _ _ _ => HL
    rename _ = Txt.lines x => HE
    rw [HE, hlines] at HI
    with_unfolding_all refine' kss_list (σ := Str × Tok) (ys := rows) (fun _ => []) (fun c => [(Str.ofString "decoded", .str c.1 c.2)]) (fun _ => True) [Str.ofString "i", Str.ofString "n", Str.ofString "c"] (fun i c => cp c.1 = decT ((rows.map cp).take i) ∧ c.1.length ≤ 65 * i) (Str.ofString "", _) (by rfl) HL HI (NN2 _ List.mem_cons_self).2.1 (fun _ h => nomatch h) FF2 (fun _ h => nomatch h) trivial ?kk ⟨?kp, ?kq⟩ ?turn ?done
    (case kk => intro p hp; rw [List.mem_singleton.mp hp]; rfl)
    (case kp => rfl)
    (case kq => show (Str.ofString "").length ≤ 0; decide +kernel)
    case turn =>
      rintro ⟨d, td⟩ i y t0 u h tk own hy hoff _ ⟨hp1, hp2⟩ F1 N1
      dsimp only at hp1 hp2 F1 N1 ⊢
      clear FF2 NN2 HL
      have hri := hr y (List.mem_of_getElem? hy)
      have hrs : Txt.rstrip y = y := rstrip_row hri.1
      have hy0 := row_ne hri.1
      have hil : i < rows.length := (List.getElem?_eq_some_iff.mp hy).1
      have hyl : y.length ≠ 0 := by rw [len_cp]; exact fun e => hy0 (List.length_eq_zero_iff.mp e)
      walk_at "mine go"
      · rename Fr _ _ _ _ => FF
        rename News _ _ _ _ => NN
        refine' ksw_while (σ := (Int × Tok) × (Str × Tok)) (m₀ := _) (fun _ => own) (fun c => [(Str.ofString "i", .int c.1.1 c.1.2), (Str.ofString "decoded", .str c.2.1 c.2.2)]) (fun _ => True) [Str.ofString "c"]
          (fun c => (0 ≤ c.1.1 ∧ c.1.1 ≤ y.length) ∧ (c.1.1 < y.length → cp c.2.1 = cp d ++ (cp y).take c.1.1.toNat) ∧ (c.1.1 = y.length → cp c.2.1 = cp d ++ adds (cp y)) ∧ c.2.1.length ≤ 65 * i + c.1.1.toNat + (if c.1.1 = y.length then 1 else 0)) (fun c => y.length - c.1.1.toNat) ((0, _), (d, td)) FF NN trivial ?kk ⟨⟨Int.le_refl 0, Int.natCast_nonneg _⟩, ?a1, ?a2, ?a3⟩ ?turn
        case kk =>
          intro p hp
          rcases List.mem_cons.mp hp with rfl | hp
          · rfl
          · rw [List.mem_singleton.mp hp]; rfl
        case a1 => intro _; simp
        case a2 => intro e; exact absurd e (by dsimp only; omega)
        case a3 => dsimp only; omega
        case turn =>
          rintro ⟨⟨k, tk'⟩, ⟨g, tg⟩⟩ u2 h2 tk2 _ ⟨⟨hk0, hk1⟩, hq1, hq2, hq3⟩ F2 N2
          dsimp only at hk0 hk1 hq1 hq2 hq3 F2 N2 ⊢
          clear FF NN
          have hgl : g.length ≤ 65 * i + y.length + 1 := by split at hq3 <;> omega
          have hdead : Dead ((Txt.item y k != Str.ofString "=") = false) (k < (y.length : Int) → k + 1 = (y.length : Int)) := ⟨fun q hk => dead_end hri.1 hk0 hk q⟩
          walk_at "mine go"
          · rename Fr _ _ _ _ => FF
            rename News _ _ _ _ => NN
            rename (_ != _) = true => hc
            have hkl : k < (y.length : Int) := by omega
            obtain ⟨c, hc1, hc2⟩ := item_at hk0 hkl
            have hc3 : c ≠ 61 := by rintro rfl; rw [hc2, eq_lit] at hc; simp at hc
            have hkn : k.toNat + 1 = (cp y).length := by rw [← len_cp]; omega
            refine ksw_end ((k + 1, _), (g ++ Txt.item y k ++ nl, _)) FF NN (fun p hp => hp) trivial (by intro p hp; rcases List.mem_cons.mp hp with rfl | hp; rfl; rw [List.mem_singleton.mp hp]; rfl) ?_ ⟨⟨?_, ?_⟩, ?_, ?_, ?_⟩ ?_
            · intro z hz hz2
              have hz1 : z ≠ Str.ofString "i" := hz _ List.mem_cons_self
              have hz3 : z ≠ Str.ofString "decoded" := hz _ (List.mem_cons_of_mem _ List.mem_cons_self)
              have hz4 : z ≠ Str.ofString "c" := by intro e; rw [e] at hz2; simp at hz2
              simp [kstB, hz1, hz3, hz4]
            · dsimp only; omega
            · dsimp only; omega
            · intro q; dsimp only at q; omega
            · intro _
              dsimp only
              rw [cp_app, cp_app, hc2, ← hnl, hq1 hkl, adds_hard hkn hc1 hc3]
              simp
              rfl
            · dsimp only
              rw [Str.length_append, Str.length_append, hc2, show (tx [c]).length = 1 from rfl, hnl1]
              rw [if_neg (by omega)] at hq3
              rw [if_pos (by omega)]
              omega
            · dsimp only; omega
          · rename Fr _ _ _ _ => FF
            rename News _ _ _ _ => NN
            rename (_ != _) = true => hc
            have hkl : k < (y.length : Int) := by omega
            obtain ⟨c, hc1, hc2⟩ := item_at hk0 hkl
            refine ksw_end ((k + 1, _), (g ++ Txt.item y k, _)) FF NN (fun p hp => hp) trivial (by intro p hp; rcases List.mem_cons.mp hp with rfl | hp; rfl; rw [List.mem_singleton.mp hp]; rfl) ?_ ⟨⟨?_, ?_⟩, ?_, ?_, ?_⟩ ?_
            · intro z hz hz2
              have hz1 : z ≠ Str.ofString "i" := hz _ List.mem_cons_self
              have hz3 : z ≠ Str.ofString "decoded" := hz _ (List.mem_cons_of_mem _ List.mem_cons_self)
              have hz4 : z ≠ Str.ofString "c" := by intro e; rw [e] at hz2; simp at hz2
              simp [kstB, hz1, hz3, hz4]
            · dsimp only; omega
            · dsimp only; omega
            · intro _
              dsimp only
              rw [cp_app, hc2, hq1 hkl, Int.toNat_add hk0 (by decide), show ((1 : Int)).toNat = 1 from rfl, take_step hc1, List.append_assoc]
            · intro q; dsimp only at q; omega
            · dsimp only
              rw [Str.length_append, hc2, show (tx [c]).length = 1 from rfl]
              rw [if_neg (by omega)] at hq3
              rw [if_neg (by omega)]
              omega
            · dsimp only; omega
          · rename Fr _ _ _ _ => FF
            rename News _ _ _ _ => NN
            rename (_ != _) = false => hc
            have hkl : k < (y.length : Int) := by omega
            obtain ⟨c, hc1, hc2⟩ := item_at hk0 hkl
            have hc3 : c = 61 := by
              rw [hc2, eq_lit] at hc
              simpa using hc
            have hkn : k.toNat + 1 = (cp y).length := by rw [← len_cp]; omega
            refine ksw_end ((k + 1, _), (g, _)) FF NN (fun p hp => hp) trivial (by intro p hp; rcases List.mem_cons.mp hp with rfl | hp; rfl; rw [List.mem_singleton.mp hp]; rfl) ?_ ⟨⟨?_, ?_⟩, ?_, ?_, ?_⟩ ?_
            · intro z hz hz2
              have hz1 : z ≠ Str.ofString "i" := hz _ List.mem_cons_self
              have hz3 : z ≠ Str.ofString "decoded" := hz _ (List.mem_cons_of_mem _ List.mem_cons_self)
              have hz4 : z ≠ Str.ofString "c" := by intro e; rw [e] at hz2; simp at hz2
              simp [kstB, hz1, hz3, hz4]
            · dsimp only; omega
            · dsimp only; omega
            · intro q; dsimp only at q; omega
            · intro _
              dsimp only
              rw [hq1 hkl, adds_end hkn (hc3 ▸ hc1)]
            · dsimp only
              rw [if_neg (by omega)] at hq3
              omega
            · dsimp only; omega
          · rename Fr _ _ _ _ => FF
            rename News _ _ _ _ => NN
            have hke : k = (y.length : Int) := by omega
            refine kss_end (P := fun i (c : Str × Tok) => cp c.1 = decT ((rows.map cp).take i) ∧ c.1.length ≤ 65 * i) (g, tg) FF NN (fun _ h => nomatch h) (fun p hp => hp) rfl trivial (by intro p hp; rw [List.mem_singleton.mp hp]; rfl) ?_ ⟨?_, ?_⟩
            · intro z hz hz2 hz3
              have hz1 : z ≠ Str.ofString "decoded" := hz2 _ List.mem_cons_self
              simp only [List.contains_cons, List.contains_nil, Bool.or_false, Bool.or_eq_false_iff, beq_eq_false_iff_ne, ne_eq] at hz3
              simp [kstB, hz, hz1, hz3.1, hz3.2.1, hz3.2.2]
            · dsimp only
              rw [hq2 hke, hp1, decT_snoc (r := cp y)]
              rw [List.getElem?_map, hy]; rfl
            · dsimp only
              omega
      · exact absurd ‹(y.length : Int) = 0› (by omega)
    case done =>
      rintro ⟨d, td⟩ u h tk _ ⟨hp1, hp2⟩ F1 N1
      dsimp only at hp1 hp2 F1 N1 ⊢
      have hdr : cp d = decT (rows.map cp) := by
        rw [hp1, ← List.length_map (f := cp), List.take_length]
      have hun : cut10 (cp d) = unf (rows.map cp) := by
        rw [hdr]
        refine dec_unf (P := Safe) (fun c hc => ⟨(safe_facts c hc).1, (safe_facts c hc).2.1⟩) ?_
        intro r hr'
        obtain ⟨q, hq, rfl⟩ := List.mem_map.mp hr'
        exact (hr q hq).1
      have hen := ends_nl d
      rw [show tx [10] = nl from hnl] at hen
      walk_at "mine go"
      · rename Fr _ _ _ _ => FF
        rename Txt.endswith d nl = true => hc
        dsimp only
        have hl := hen.mp hc
        have hd1 : 1 ≤ d.length := by
          rw [len_cp]
          refine List.length_pos_iff.mpr (fun q => ?_)
          rw [q] at hl; cases hl
        have e : Txt.slice d none (some (-(nl.length : Int))) = tx (unf (rows.map cp)) := by
          rw [hnl1]
          refine (slice_init hd1).trans ?_
          rw [← hun]
          unfold cut10
          rw [if_pos hl]
        rw [e]
        exact hQ _ _ _ FF.keep
      · rename Fr _ _ _ _ => FF
        rename Txt.endswith d nl = false => hc
        dsimp only
        have e : d = tx (unf (rows.map cp)) := by
          rw [← hun]
          unfold cut10
          rw [if_neg (fun q => by rw [hen.mpr q] at hc; cases hc)]
        rw [e]
        exact hQ _ _ _ FF.keep
      · rename List.isEmpty _ = false => hc
        obtain ⟨c, e1, e2⟩ := item_join hne (fun r h => (hr r h).1)
        rw [hx, e1, occ_se e2] at hc
        cases hc
  · rename Fr _ _ _ _ => FF
    rename (_ : Int) = 0 => hx0
    dsimp only
    have e : rows = [] := by
      refine Classical.byContradiction fun hne => ?_
      have hn : rows.map cp ≠ [] := by simpa using hne
      have h1 : ∀ r ∈ rows.map cp, r ≠ [] := by
        intro r hr'; obtain ⟨q, hq, rfl⟩ := List.mem_map.mp hr'; exact row_ne (hr q hq).1
      have := jn_ne (c := 10) hn h1
      rw [← cp_join, ← hx] at this
      have h2 : (cp x).length = 0 := by rw [← len_cp]; omega
      exact this (List.length_eq_zero_iff.mp h2)
    have ex : x = tx (unf (rows.map cp)) := by rw [hx, e]; rfl
    rw [ex]
    exact hQ _ _ _ FF.keep
end Mine
end
section
open PySem PySem.W PyProof.Rows PySem.Calls
set_option Elab.async false
set_option maxRecDepth 100000
set_option maxHeartbeats 8000000
namespace Mine
theorem fill_me7 (w : World) (h : Heap) (_ : (KK w.params).In h) : PySem.Challenge.rw_oc0163_01.row.prog = PySem.Challenge.rw_oc0163_01.row.prog := by
  revert w h
  k_fill
  intros
  rfl
local macro_rules | `(tactic| walk_at "mine sides") => `(tactic| ((case k3 => k_asm); (case k5 => k_asm); (case k6 => k_dflt k_is); (case k7 => k_is); (case k8 => k_room); (case k9 => first | exact BindsTo.of_eq rfl | exact binds_K (by k_in) rfl (by k_is) rfl rfl rfl | fail "mine enter: no rule for these arguments"); (case c5 => decide); (case kB => exact locs rfl); (case c2 => exact rfl); (case c3 => exact rfl); (case c4 => exact rfl)))
local macro_rules | `(tactic| walk_at "mine go") => `(tactic| (repeat' (first | (k_unfold; (try dsimp only)) | ((fail_if_success (with_reducible show wpAny _ _ (exec (Stmt.For _ _ _ _ _) _) _ _ _)); (fail_if_success (with_reducible show wpAny _ _ (exec (Stmt.While _ _ _ _) _) _ _ _)); (fail_if_success (with_reducible show InvEndN _ _ _ _ _ _ _)); (fail_if_success (with_reducible show KswEnd _ _ _ _ _ _ _ _ _ _ _ _)); walk1) | (dsimp only; (fail_if_success (with_reducible show wpAny _ _ (exec (Stmt.For _ _ _ _ _) _) _ _ _)); (fail_if_success (with_reducible show wpAny _ _ (exec (Stmt.While _ _ _ _) _) _ _ _)); (fail_if_success (with_reducible show InvEndN _ _ _ _ _ _ _)); (fail_if_success (with_reducible show KswEnd _ _ _ _ _ _ _ _ _ _ _ _)); walk1) | fail "mine go: no step")))
theorem fr_kp7 {h₀ h h' : Heap} {L : Addr} {m : Str → Option Value} (F : Fr h₀ L h m) (k : Kp h h') : Fr h₀ L h' m := F.keeps k
local macro_rules | `(tactic| walk_at "mine toiter") => `(tactic| (repeat ((fail_if_success (with_reducible show wpAny _ _ (pyIter _) _ _ _)); first | walk1 | (dsimp only; walk1))))
local macro_rules | `(tactic| walk_at "subscriptTail") => `(tactic| (k_here; (with_reducible show wpAny _ _ (subscriptTail _ _ (Value.str _ _) (Value.int _ _)) _ _ _); refine item_str (fitsSsize_of (N := 9223372036854775808) (by omega) (by omega) (by decide)) (by omega) (by omega) ?_; intro _))
local macro_rules | `(tactic| size_fits) => `(tactic| (rw [PySem.sizeLine_eq]; (try simp only [Str.length_append, List.size_toArray, List.length_append, List.length_cons, List.length_nil]); omega))
theorem tab46 {w : World} {h : Heap} (X : (KK w.params).In h) : ∃ items, h.IsList 46 items ∧ ∀ c, (Safe c ∨ c = 10) → ∃ u, items[c]? = some (.str (tx [c]) u) := by
  have h46 : h.get? 46 = some (ob107 w.params) := X 46 _ rfl
  refine ⟨_, ⟨_, h46, rfl, _, rfl⟩, ?_⟩
  intro c hc
  unfold Safe safeL at hc
  simp only [List.mem_cons, List.not_mem_nil, or_false] at hc
  rcases hc with (h | h | h | h | h | h | h | h | h | h | h | h | h | h) | h <;> subst h <;> exact ⟨_, rfl⟩
structure Tabx (h : Heap) (x : Str) : Prop where
  go : (∃ items, h.IsList 46 items ∧ ∀ c ∈ cp x, ∃ u, items[c]? = some (.str (tx [c]) u)) ∧ (∀ c ∈ cp x, c < 128) ∧ x.length ≠ 0 ∧ x.length ≤ 10000
theorem call_translate_F {prog : Program} {w : World} {A : Around} {E : Value → Shared → Prop} {s : Shared} {x : Str} {t : Tok} {h₀ : Heap} {L : Addr} {m : Str → Option Value} {Q : Value → Shared → Prop} (F : Fr h₀ L s.heap m) (tt : Tabx h₀ x)
    (hQ : ∀ t' tk, Q (.str x t') { s with toks := tk }) : wpAny (model prog w) A (call (.builtin "str.translate") [.str x t, .ref 46]) Q E s := by
  obtain ⟨⟨items, hl, hi⟩, ha, h0, h1⟩ := tt.go
  exact call_translate h0 ha h1 (hl.at fun o e => F.keep 46 o e) hi hQ
theorem gm_translate {M : Model} {A : Around} {E : Value → Shared → Prop} {s : Shared} {x : Str} {t : Tok} {pl : Sem Bool} {Q : Value × List Value → Shared → Prop} (h : Q (.builtin "str.translate", [.str x t]) s) : wpAny M A (getMethod (.str x t) "translate" pl) Q E s := by
  with_reducible exact GM.of (.str x t) (typeIs_str _ _ _) F.slot_str_translate F.type_str_translate GM.noRef h
local macro_rules | `(tactic| walk_at "getMethod str") => `(tactic| with_reducible refine gm_translate ?_)
local macro_rules | `(tactic| walk_at "call builtin:str.translate") => `(tactic| (k_here; (show wpAny _ _ (call (Value.builtin "str.translate") [Value.str _ _, _]) _ _ _); (with_reducible rename Fr _ _ _ _ => kF); (with_reducible rename Tabx _ _ => kT); (refine call_translate_F kF kT ?_); intro _ _))
theorem jn_mem {P : Nat → Prop} {d : Nat} (hd : P d) : ∀ {rows : List (List Nat)}, (∀ r ∈ rows, ∀ c ∈ r, P c) → ∀ c ∈ jn d rows, P c
  | [], _, _, h => nomatch h
  | [x], h, c, hc => h x List.mem_cons_self c hc
  | x :: y :: r, h, c, hc => by
    rcases List.mem_append.mp (show c ∈ x ++ d :: jn d (y :: r) from hc) with hc | hc
    · exact h x List.mem_cons_self c hc
    · rcases List.mem_cons.mp hc with rfl | hc
      · exact hd
      · exact jn_mem hd (rows := y :: r) (fun q hq => h q (List.mem_cons_of_mem _ hq)) c hc
theorem signs_ne (n : Int) : signs n ≠ [] := by
  intro e
  have := signs_length n
  rw [e] at this
  cases this
theorem tabx_of {w : World} {h : Heap} {ns : List Int} {x : Str} (X : (KK w.params).In h) (hx : x = Str.join (tx [10]) (ns.map fun n => tx (signs n))) (hne : ns ≠ []) (hl : x.length ≤ 10000) : Tabx h x := by
  have hm : ∀ c ∈ cp x, Safe c ∨ c = 10 := by
    rw [hx, cp_join]
    refine jn_mem (.inr rfl) ?_
    intro r hr c hc
    rw [List.map_map] at hr
    obtain ⟨n, _, rfl⟩ := List.mem_map.mp hr
    exact .inl (signs_safe n c hc)
  obtain ⟨items, h1, h2⟩ := tab46 X
  refine ⟨⟨items, h1, fun c hc => h2 c (hm c hc)⟩, ?_, ?_, hl⟩
  · intro c hc
    rcases hm c hc with h | rfl
    · unfold Safe safeL at h
      simp only [List.mem_cons, List.not_mem_nil, or_false] at h
      omega
    · decide
  · rw [len_cp, hx, cp_join]
    intro e
    refine jn_ne (c := 10) ?_ ?_ (List.length_eq_zero_iff.mp e)
    · simpa using hne
    · intro r hr
      rw [List.map_map] at hr
      obtain ⟨n, _, rfl⟩ := List.mem_map.mp hr
      exact signs_ne n
local macro_rules | `(tactic| walk_at "getAttr ref") => `(tactic| (k_here; (with_reducible show wpAny _ _ (getAttr (Value.ref _) (Str.ofString "append") _) _ _ _); k_dflt (refine' attr_append_K ?k1 ?k2 ?k3 ?_; (case k1 => k_asm); (case k2 => k_asm); (case k3 => first | exact List.mem_cons_self | k_asm); k_whole); intro q' h' F' N' l1; (try k_lt l1)))
local macro_rules | `(tactic| walk_at "call ref") => `(tactic| (k_here; k_dflt (refine' bappend_K (its := _) (n := _) ?k1 ?k2 ?k3 ?k4 ?_ ?z; (case k1 => k_asm); (case k2 => k_asm); (case k3 => first | exact List.mem_cons_self | exact List.mem_cons_of_mem _ List.mem_cons_self); (case k4 => k_upd); (case z => size_fits); k_whole); intro h' F' N'))
structure StandsAp (u D : Addr) (h : Heap) : Prop where
  get : h.get? u = some (boundAp D)
theorem callWith_fieldsA {M : Model} {A : Around} {E : Value → Shared → Prop} {s : Shared} {D : Addr} {pos : Pos} {u : Addr} {first : List Value} {args : List (Bool × Sem Value)} {Q : Value → Shared → Prop} (hplain : args.any (·.1) = false)
    (h : wpAny M A (evalArgs (.ref u) true args []) (fun x s₁ => StandsAp u D s₁.heap ∧ wpAny M A (call (.ref u) (first ++ x.pos) x.kw) Q E s₁) E s) : wpAny M A (callWith pos (.ref u) first args []) Q E s := by
  unfold callWith
  refine wpAny_bind (wpAny_holding (wpAny_mono h (fun x s₁ h₁ => wpAny_bind (wpAny_standAt ?_)) fun _ _ x => x))
  obtain ⟨ho, hcall⟩ := h₁
  simp only [hplain, List.any_nil, Bool.or_false]
  refine wpAny_bind (m := keeperOf (.ref u)) ?_
  unfold keeperOf
  refine wpAny_bind (wpAny_load ho.get ?_)
  simp only [boundAp, show (Value.type "builtin_function_or_method" != Value.type "method") = true by decide, show (Value.type "builtin_function_or_method" == Value.type "builtin_function_or_method" || Value.type "builtin_function_or_method" == Value.type "method-wrapper") = true by decide, if_true]
  refine wpAny_pure ?_
  exact wpAny_bind (wpAny_mono hcall (fun r s₂ hr => wpAny_bind (wpAny_holding (wpAny_point (wpAny_pure hr)))) fun _ _ x => x)
theorem callWith_ap {M : Model} {A : Around} {E : Value → Shared → Prop} {s : Shared} {h₀ : Heap} {L : Addr} {news : List (Addr × Obj)} {D : Addr} {pos : Pos} {u : Addr} {first : List Value} {env : Env} {e : Expr} {rest : List Expr} {Q : Value → Shared → Prop} (_N : News h₀ L s.heap news) (_hm : (u, boundAp D) ∈ news)
    (h : wpAny M A (spliced (backTo pos (starEach (e :: rest) env))) (fun vs s₁ => StandsAp u D s₁.heap ∧ wpAny M A (call (.ref u) (first ++ vs)) Q E s₁) E s)
    (he : starEach (e :: rest) env = (false, eval e env) :: starEach rest env := by rfl) (hplain : (backTo pos (starEach rest env)).any (·.1) = false := by rfl) :
    wpAny M A (callWith pos (.ref u) first (backTo pos (starEach (e :: rest) env)) []) Q E s := by
  rw [he] at h ⊢
  refine callWith_fieldsA (D := D) (by show (false || (backTo pos (starEach rest env)).any (·.1)) = false; rw [hplain]; rfl) ?_
  exact evalArgs_plain h
local macro_rules | `(tactic| walk_at "callWith ref") => `(tactic| (k_here; (with_reducible show wpAny _ _ (callWith _ (Value.ref _) _ (backTo _ (starEach (_ :: _) _)) []) _ _ _); k_dflt (refine' callWith_ap ?kfbN ?kfbM ?_; (case kfbN => k_asm); (case kfbM => first | exact List.mem_cons_self | k_mem); k_whole)))
local macro_rules | `(tactic| walk_at "And") => `(tactic| ((with_reducible show StandsAp _ _ _ ∧ _); k_dflt (refine ⟨⟨News.get (by k_asm) (by first | exact List.mem_cons_self | k_mem)⟩, ?_⟩); (try dsimp only [List.nil_append, List.cons_append])))
structure NoT (p : Prop) : Prop where
  go : p → False
structure NoEq (y : Str) : Prop where
  go : ∀ j : Int, 0 ≤ j → j < (y.length : Int) → (Txt.item y j == Str.ofString "=") = false
theorem noEq_signs (n : Int) : NoEq (tx (signs n)) := by
  refine ⟨fun j h0 h1 => ?_⟩
  obtain ⟨c, hc1, hc2⟩ := item_at h0 h1
  have hs := (safe_facts c (signs_safe n c (List.mem_of_getElem? hc1))).1
  rw [hc2, eq_lit]
  refine Bool.eq_false_iff.mpr fun q => hs ?_
  simpa using q
theorem occ_sp {c : Nat} (h : Safe c) : (Builtin.Str.occurrences (Str.ofString " \t") (tx [c]) 0 (Str.ofString " \t").length 1).isEmpty = true := by
  unfold Safe safeL at h
  simp only [List.mem_cons, List.not_mem_nil, or_false] at h
  rcases h with h | h | h | h | h | h | h | h | h | h | h | h | h | h <;> subst h <;> decide +kernel
theorem no_sp (n : Int) : NoT ((Builtin.Str.occurrences (Str.ofString " \t") (Txt.item (tx (signs n)) (-1)) 0 (Str.ofString " \t").length 1).isEmpty = false) := by
  obtain ⟨c, h1, h2⟩ := item_neg (x := tx (signs n)) (by rw [len_signs]; decide)
  rw [h2, occ_sp (signs_safe n c (List.mem_of_getLast? h1))]
  exact ⟨by decide⟩
theorem no_crlf {ns : List Int} {x : Str} (hx : x = Str.join (tx [10]) (ns.map fun n => tx (signs n))) (hne : ns ≠ []) : NoT ((Builtin.Str.occurrences (Str.ofString "\x0d\n") (Txt.item x (-1)) 0 (Str.ofString "\x0d\n").length 1).isEmpty = false) := by
  obtain ⟨c, h1, h2⟩ := item_join (rows := ns.map fun n => tx (signs n)) (by simpa using hne) (by
    intro r hr
    obtain ⟨n, _, rfl⟩ := List.mem_map.mp hr
    exact .inl ⟨signs_ne n, signs_safe n⟩)
  rw [hx, h1, occ_se h2]
  exact ⟨by decide⟩
local macro_rules | `(tactic| walk_at "execs cons") => `(tactic| (exfalso; with_reducible rename NoT _ => HD; exact HD.go (by assumption)))
local macro_rules | `(tactic| walk_at "execs cons") => `(tactic| (exfalso; with_reducible rename NoEq _ => HD; with_reducible rename (Txt.item _ _ == Str.ofString "=") = true => hq; exact absurd hq (by rw [HD.go _ (by omega) (by omega)]; decide)))
theorem enc_step {y : Str} {st W : Int} (h4 : 4 ≤ W) (h0 : 0 ≤ st) (h : st + W < (y.length : Int)) :
    (fold W.toNat ((cp y).drop st.toNat)).map tx = (Txt.slice y (some st) (some (st + (W - 1))) ++ Str.ofString "=") :: (fold W.toNat ((cp y).drop (st + (W - 1)).toNat)).map tx := by
  have hl := len_cp y
  rw [fold_more (by omega) (by rw [List.length_drop]; omega), List.map_cons, List.drop_drop, slice_mid h0 (by omega) (by omega), eq_lit]
  have e1 : st.toNat + (W.toNat - 1) = (st + (W - 1)).toNat := by omega
  have e2 : (st + (W - 1) - st).toNat = W.toNat - 1 := by omega
  rw [e1, e2]
  congr 1
  exact cp_inj (by rw [cp_app])
theorem enc_last {y : Str} {st W : Int} (h0 : 0 ≤ st) (h1 : st ≤ (y.length : Int)) (h : ¬ st + W < (y.length : Int)) :
    (fold W.toNat ((cp y).drop st.toNat)).map tx = [Txt.slice y (some st) none] := by
  have hl := len_cp y
  rw [fold_last (by rw [List.length_drop]; omega), slice_from h0 h1]
  rfl
theorem folded_snoc {W : Int} {ns : List Int} {i : Nat} {n : Int} (h : ns[i]? = some n) : foldedT W (ns.take (i + 1)) = foldedT W (ns.take i) ++ (fold W.toNat (signs n)).map tx := by
  rw [List.take_add_one, h]
  simp [foldedT]
theorem mem2 {α : Type} {a b : α} {r : List α} : ∀ p ∈ [a, b], p ∈ a :: b :: r := by
  intro p hp
  rcases List.mem_cons.mp hp with rfl | hp
  · exact List.mem_cons_self
  · rw [List.mem_singleton.mp hp]; exact List.mem_cons_of_mem _ List.mem_cons_self
theorem sum_le {k : Nat} : ∀ {xs : List Str}, (∀ x ∈ xs, x.length ≤ k) → (xs.map (·.length)).sum ≤ k * xs.length
  | [], _ => Nat.zero_le _
  | x :: r, h => by
    have h1 := h x List.mem_cons_self
    have h2 := sum_le (xs := r) fun y hy => h y (List.mem_cons_of_mem _ hy)
    simp only [List.map_cons, List.sum_cons, List.length_cons]
    rw [Nat.mul_succ]
    omega
theorem foldL_len {w : Nat} : ∀ (n : Nat) (l : List Nat), ∀ r ∈ foldL w n l, r.length ≤ l.length + 1
  | 0, l, r, h => by rw [List.mem_singleton.mp h]; omega
  | n + 1, l, r, h => by
    unfold foldL at h
    split at h
    · rcases List.mem_cons.mp h with rfl | h
      · simp; omega
      · have := foldL_len n _ r h
        rw [List.length_drop] at this
        omega
    · rw [List.mem_singleton.mp h]; omega
theorem folded_len {W : Int} {ns : List Int} : ∀ x ∈ foldedT W ns, x.length ≤ 11 := by
  intro x hx
  obtain ⟨n, _, hx⟩ := List.mem_flatMap.mp hx
  obtain ⟨r, hr, rfl⟩ := List.mem_map.mp hx
  have := foldL_len _ _ r hr
  rw [signs_length] at this
  rw [len_tx]
  omega
theorem nm2 {h₀ h : Heap} {L q r : Addr} {o1 o2 : Obj} (_ : News h₀ L h [(q, o1), (r, o2)]) : ∃ q' r', q' = q ∧ r' = r := ⟨q, r, rfl, rfl⟩
theorem c_encode {w : World} {E : Value → Shared → Prop} {s : Shared} {mean : ExcName → Option Value} {mg mb : Str → Option Value} {e1 : Env} {Q : Value → Shared → Prop} {ns : List Int} {x : Str} {t t2 : Tok} {W : Int}
    (X : (KK w.params).In s.heap) (T : Top QV (looseW QV loose0) mean mg mb s.heap) (hx : x = Str.join (tx [10]) (ns.map fun n => tx (signs n))) (hne : ns ≠ []) (hlen : ns.length ≤ 8) (hxl : x.length ≤ 100) (hx0 : x.length ≠ 0) (hw : 4 ≤ W) (hw2 : W ≤ 11)
    (hQ : ∀ t' h' tk', Kp s.heap h' → Q (.str (Str.join (tx [10]) (foldedT W ns)) t') {s with heap := h', toks := tk'}) :
    wpAny (model PR w) (callerA.deeper e1) (call (.ref 57) [.str x t, .int W t2]) Q E s := by
  w_on
  refine wpAny_call ?_
  k_dflt (refine' enterW (binds := [(Str.ofString "body", .str x t), (Str.ofString "maxlinelen", .int W t2), (Str.ofString "eol", .str (Str.mk #[10]) 189)]) ?k3 ?k5 ?k6 ?k7 ?k8 ?k9 ?kB ?_ ?c2 ?c3 ?c4 ?c5)
  walk_at "mine sides"
  intro L' h' F' N'
  generalize hnl : Str.mk #[10] = nl at F'
  have hnl1 : nl.length = 1 := by rw [← hnl]; rfl
  try dsimp only
  have tt : Tabx s.heap x := tabx_of X hx hne (by omega)
  walk_at "mine go"
  · rename Fr _ _ _ _ => FF
    rename News _ _ _ _ => NN
    have hlines : Txt.lines x = ns.map fun n => tx (signs n) := by
      rw [hx]
      refine lines_join (by simpa using hne) ?_ ?_
      · intro r hr
        obtain ⟨n, _, rfl⟩ := List.mem_map.mp hr
        exact signs_ne n
      · intro r hr c hc
        obtain ⟨n, _, rfl⟩ := List.mem_map.mp hr
        exact (safe_facts c (signs_safe n c hc)).2.2.1
    have mk := kstMark
    with_unfolding_all refine' For_invVF FF ?k1 ?k2 ?_
    (case k1 => exact rfl)
    (case k2 => exact rfl)
    walk_at "mine toiter"
    rename StrsAre _ _ => HI
    rename Fr _ _ _ _ => FF2
    rename News _ _ _ _ => NN2
    rename Heap.IsList _ _ _ => HL
    rename _ = Txt.lines x => HE
    rw [HE, hlines] at HI
    rename News _ _ _ [_, _] => NN0
    obtain ⟨qa, ra, rfl, rfl⟩ := nm2 NN0
    have hlt : ∀ p ∈ [(qa, boundAp ra), (ra, listOf #[] 0)], p.1 ≠ _ := fun p hp => Nat.ne_of_lt (Heap.lt_size (NN0 p hp).1)
    have NN3 : News _ _ _ [(qa, boundAp ra), (ra, listOf #[] 0)] := fun p hp => NN2 p (List.mem_cons_of_mem _ hp)
    with_unfolding_all refine' kss_list (σ := List Value × List Str × Nat) (ys := ns.map fun n => tx (signs n)) (fun c => [(qa, boundAp ra), (ra, listOf c.1.toArray c.2.2)]) (fun _ => []) (fun c => StrsAre c.1 c.2.1) [Str.ofString "start", Str.ofString "laststart", Str.ofString "stop"] (fun i c => c.2.1 = foldedT W (ns.take i) ∧ c.1.length ≤ 11 * i) ([], [], 0) (by rfl) HL HI (NN2 _ List.mem_cons_self).2.1 hlt FF2 NN3 .nil (fun _ h => nomatch h) ⟨rfl, Nat.le_refl 0⟩ ?turn ?done
    case turn =>
      rintro ⟨ws, xs, k⟩ i y t0 u h tk own hy hoff hf ⟨hp1, hp2⟩ F1 N1
      dsimp only at hf hp1 hp2 F1 N1 ⊢
      clear FF2 NN2 NN3 NN0 HL
      obtain ⟨n, hn, hyn⟩ : ∃ n, ns[i]? = some n ∧ tx (signs n) = y := by
        rw [List.getElem?_map] at hy
        cases hq : ns[i]? with
        | none => rw [hq] at hy; cases hy
        | some n => rw [hq] at hy; exact ⟨n, rfl, Option.some.inj hy⟩
      have hil : i < ns.length := (List.getElem?_eq_some_iff.mp hn).1
      have hyl : y.length = 10 := by rw [← hyn]; exact len_signs n
      have hwl : ws.length ≤ 77 := by omega
      have hEq : NoEq y := hyn ▸ noEq_signs n
      have hSp := no_sp n
      rw [hyn] at hSp
      walk_at "mine go"
      rename Fr _ _ _ _ => FF
      rename News _ _ _ _ => NN
      refine' ksw_while (σ := (Int × Tok) × (List Value × List Str × Nat)) (m₀ := _) (fun c => (qa, boundAp ra) :: (ra, listOf c.2.1.toArray c.2.2.2) :: own) (fun c => [(Str.ofString "start", .int c.1.1 c.1.2)]) (fun c => StrsAre c.2.1 c.2.2.1) [Str.ofString "stop"]
        (fun c => (0 ≤ c.1.1 ∧ c.1.1 ≤ 9) ∧ c.2.2.1 ++ (fold W.toNat ((cp y).drop c.1.1.toNat)).map tx = xs ++ (fold W.toNat (cp y)).map tx ∧ c.2.1.length ≤ ws.length + c.1.1.toNat) (fun c => 10 - c.1.1.toNat) ((0, _), (ws, xs, k)) FF NN hf ?kk ⟨⟨Int.le_refl 0, Int.le_of_lt (Int.lt_of_sub_pos (by exact (by decide : (0 : Int) < 9 - 0)))⟩, ?a1, ?a2⟩ ?turn
      case kk => intro p hp; rw [List.mem_singleton.mp hp]; rfl
      case a1 => simp
      case a2 => dsimp only; omega
      case turn =>
        rintro ⟨⟨st, ts⟩, ⟨ws2, xs2, k2⟩⟩ u2 h2 tk2 hf2 ⟨⟨hs0, hs1⟩, hq1, hq2⟩ F2 N2
        dsimp only at hs0 hs1 hq1 hq2 hf2 F2 N2 ⊢
        clear FF NN
        walk_at "mine go"
        · rename Fr _ _ _ _ => FF
          rename News _ _ _ _ => NN
          simp only [List.push_toArray] at NN
          have hst : st + W < (y.length : Int) := by omega
          refine ksw_end ((st + (W - 1), _), (ws2 ++ [_], xs2 ++ [Txt.slice y (some st) (some (st + (W - 1))) ++ Str.ofString "="], k2 + 1)) FF NN (fun p hp => hp) (hf2.append' (.cons _ _ .nil)) (by intro p hp; rw [List.mem_singleton.mp hp]; rfl) ?_ ⟨⟨?_, ?_⟩, ?_, ?_⟩ ?_
          · intro z hz hz2
            have hz1 : z ≠ Str.ofString "start" := hz _ List.mem_cons_self
            have hz4 : z ≠ Str.ofString "stop" := by intro e; rw [e] at hz2; simp at hz2
            simp [kstB, hz1, hz4]
          · dsimp only; omega
          · dsimp only; omega
          · dsimp only
            rw [← hq1, enc_step hw hs0 hst]
            simp
          · simp only [List.length_append, List.length_cons, List.length_nil]; omega
          · dsimp only; omega
        · rename Fr _ _ _ _ => FF
          rename News _ _ _ _ => NN
          simp only [List.push_toArray] at NN
          have hst : ¬ st + W < (y.length : Int) := by omega
          refine kss_end (P := fun i (c : List Value × List Str × Nat) => c.2.1 = foldedT W (ns.take i) ∧ c.1.length ≤ 11 * i) (ws2 ++ [_], xs2 ++ [Txt.slice y (some st) none], k2 + 1) FF NN mem2 (fun p hp => List.mem_cons_of_mem _ (List.mem_cons_of_mem _ hp)) rfl (hf2.append' (.cons _ _ .nil)) (fun _ h => nomatch h) ?_ ⟨?_, ?_⟩
          · intro z hz _ hz3
            simp only [List.contains_cons, List.contains_nil, Bool.or_false, Bool.or_eq_false_iff, beq_eq_false_iff_ne, ne_eq] at hz3
            simp [kstB, hz, hz3.1, hz3.2.1, hz3.2.2]
          · dsimp only
            rw [enc_last hs0 (by omega) hst] at hq1
            rw [hq1, hp1, folded_snoc hn, ← hyn]
          · simp only [List.length_append, List.length_cons, List.length_nil]; omega
        · exfalso
          rename (y.length : Int) = 0 => hz
          omega
    case done =>
      rintro ⟨ws, xs, k⟩ u h tk hf ⟨hp1, hp2⟩ F1 N1
      dsimp only at hf hp1 hp2 F1 N1 ⊢
      clear FF2 NN2 NN3 NN0 HL
      have hCr := no_crlf hx hne
      have hxs : xs = foldedT W ns := by rw [hp1, List.length_map, List.take_length]
      have hok : (xs.map (·.length)).sum + xs.length * nl.length ≤ 16777216 := by
        have h1 := sum_le (k := 11) (xs := xs) (by rw [hxs]; exact folded_len)
        have h2 := hf.length
        rw [List.length_map] at hp2
        rw [hnl1]
        omega
      walk_at "mine go"
      rename Fr _ _ _ _ => FF
      rename News _ _ _ _ => NN
      show wpAny _ _ (call (Value.builtin "str.join") [Value.str _ _, Value.ref ra]) _ _ _
      refine join_list (x := nl) (ys := xs) (News.isList NN (List.mem_cons_of_mem _ List.mem_cons_self)) hf hok ?_
      intro t' kk
      dsimp only
      have e : Txt.join nl xs = Str.join (tx [10]) (foldedT W ns) := by
        rw [hxs]
        exact eq_of_beq (join_closes hnl.symm)
      rw [e]
      exact hQ _ _ _ FF.keep
  · exact absurd ‹(x.length : Int) = 0› (by omega)
end Mine
end
section
open PySem PySem.W PyProof.Rows PySem.Calls
set_option Elab.async false
set_option maxRecDepth 100000
set_option maxHeartbeats 8000000
namespace Mine
theorem fill_me8 (w : World) (h : Heap) (_ : (KK w.params).In h) : PySem.Challenge.rw_oc0163_01.row.prog = PySem.Challenge.rw_oc0163_01.row.prog := by
  revert w h
  k_fill
  intros
  rfl
local macro_rules | `(tactic| walk_at "mine sides") => `(tactic| ((case k3 => k_asm); (case k5 => k_asm); (case k6 => k_dflt k_is); (case k7 => k_is); (case k8 => k_room); (case k9 => first | exact BindsTo.of_eq rfl | exact binds_K (by k_in) rfl (by k_is) rfl rfl rfl | fail "mine enter: no rule for these arguments"); (case c5 => decide); (case kB => exact locs rfl); (case c2 => exact rfl); (case c3 => exact rfl); (case c4 => exact rfl)))
local macro_rules | `(tactic| walk_at "mine go") => `(tactic| (repeat' (first | (k_unfold; (try dsimp only)) | ((fail_if_success (with_reducible show wpAny _ _ (exec (Stmt.For _ _ _ _ _) _) _ _ _)); (fail_if_success (with_reducible show wpAny _ _ (exec (Stmt.While _ _ _ _) _) _ _ _)); (fail_if_success (with_reducible show InvEndN _ _ _ _ _ _ _)); (fail_if_success (with_reducible show KswEnd _ _ _ _ _ _ _ _ _ _ _ _)); walk1) | (dsimp only; (fail_if_success (with_reducible show wpAny _ _ (exec (Stmt.For _ _ _ _ _) _) _ _ _)); (fail_if_success (with_reducible show wpAny _ _ (exec (Stmt.While _ _ _ _) _) _ _ _)); (fail_if_success (with_reducible show InvEndN _ _ _ _ _ _ _)); (fail_if_success (with_reducible show KswEnd _ _ _ _ _ _ _ _ _ _ _ _)); walk1) | fail "mine go: no step")))
theorem fr_kp8 {h₀ h h' : Heap} {L : Addr} {m : Str → Option Value} (F : Fr h₀ L h m) (k : Kp h h') : Fr h₀ L h' m := F.keeps k
local macro_rules | `(tactic| walk_at "mine toiter") => `(tactic| (repeat ((fail_if_success (with_reducible show wpAny _ _ (pyIter _) _ _ _)); first | walk1 | (dsimp only; walk1))))
local macro_rules | `(tactic| walk_at "subscriptTail") => `(tactic| (k_here; (with_reducible show wpAny _ _ (subscriptTail _ _ (Value.str _ _) (Value.int _ _)) _ _ _); refine item_str (fitsSsize_of (N := 9223372036854775808) (by omega) (by omega) (by decide)) (by omega) (by omega) ?_; intro _))
local macro_rules | `(tactic| size_fits) => `(tactic| (rw [PySem.sizeLine_eq]; (try simp only [Str.length_append, List.size_toArray, List.length_append, List.length_cons, List.length_nil]); omega))
theorem nil_snoc : ∀ {vs : List Value} {ys : List Str}, StrsAre vs ys → (vs = [] ∧ ys = []) ∨ ∃ vi yi y t, vs = vi ++ [.str y t] ∧ ys = yi ++ [y] ∧ StrsAre vi yi
  | _, _, .nil => .inl ⟨rfl, rfl⟩
  | _, _, .cons y t h => by
    rcases nil_snoc h with ⟨rfl, rfl⟩ | ⟨vi, yi, z, u, rfl, rfl, h2⟩
    · exact .inr ⟨[], [], y, t, rfl, rfl, .nil⟩
    · exact .inr ⟨.str y t :: vi, y :: yi, z, u, rfl, rfl, .cons y t h2⟩
theorem nm1 {h₀ h : Heap} {L q : Addr} {o1 : Obj} {r : List (Addr × Obj)} (_ : News h₀ L h ((q, o1) :: r)) : ∃ q', q' = q := ⟨q, rfl⟩
theorem kl_last_snoc (v : Value) : ∀ l : List Value, kl_last (l ++ [v]) = some (l, v)
  | [] => rfl
  | x :: r => by
    show kl_last (x :: (r ++ [v])) = _
    unfold kl_last
    rw [kl_last_snoc v r]
theorem c_diff {w : World} {E : Value → Shared → Prop} {s : Shared} {mean : ExcName → Option Value} {mg mb mm : Str → Option Value} {cn : Str} {cs : Scope} {L a : Addr} {ccd : Value} {Q : Value → Shared → Prop} {g : Heap} {news : List (Addr × Obj)} {l1 l2 : Addr} {us vs : List Value} {xs ys : List Str} {n1 n2 : Nat}
    (X : (KK w.params).In g) (T : Top QV (looseW QV loose0) mean mg mb g) (F : Fr g L s.heap mm) (N : News g L s.heap news) (hm1 : (l1, listOf us.toArray n1) ∈ news) (hm2 : (l2, listOf vs.toArray n2) ∈ news) (hne : l1 ≠ l2) (hck : cs.kind = .function)
    (hi1 : StrsAre us xs) (hi2 : StrsAre vs ys) (hl1 : us.length ≤ 100) (hl2 : vs.length ≤ 100)
    (hQ : ∀ r D us' vs' k1 k2 h' tk', Fr g L h' mm → (∀ news', (∀ p ∈ news', p ∈ news ∧ p.1 ≠ l1 ∧ p.1 ≠ l2) → News g L h' ((D, { cls := .type "tuple", data := .seq #[.ref r, .ref l2] }) :: (r, listOf us'.toArray k1) :: (l2, listOf vs'.toArray k2) :: news')) → (∀ p ∈ news, p.1 ≠ r ∧ p.1 ≠ D) → r < D →
      StrsAre us' (uldR xs.reverse ys []).1 → StrsAre vs' (uldR xs.reverse ys []).2 → Q (.ref D) {s with heap := h', toks := tk'}) :
    wpAny (model PR w) (callerA.deeper (envOf cn cs L a ccd)) (call (.ref 72) [.ref l1, .ref l2]) Q E s := by
  w_on
  have X0 : (KK w.params).In s.heap := X.keeps F.keep
  have T0 : Top QV (looseW QV loose0) mean mg mb s.heap := T.keeps F.keep
  have h1 := (N _ hm1).1
  have h2 := (N _ hm2).1
  have hL1 : l1 ≠ L := (N _ hm1).2.1
  have hL2 : l2 ≠ L := (N _ hm2).2.1
  obtain ⟨oL, es, ep, hL, hLd, hLk, hLf⟩ := F.ns
  have hgL : g.get? L = none := Heap.get?_none_of_le F.above
  have kg : Kp g (hideAll s.heap [l1, l2, L]) := fun b o e => hideAll_get _ (F.keep b o e) (by
    intro hm
    rcases List.mem_cons.mp hm with rfl | hm
    · rw [(N _ hm1).2.2] at e; cases e
    rcases List.mem_cons.mp hm with rfl | hm
    · rw [(N _ hm2).2.2] at e; cases e
    · rw [List.mem_singleton.mp hm, hgL] at e; cases e)
  refine wpAny_call ?_
  k_dflt (refine' enterW (binds := [(Str.ofString "expected", .ref l1), (Str.ofString "actual", .ref l2)]) ?k3 ?k5 ?k6 ?k7 ?k8 ?k9 ?kB ?_ ?c2 ?c3 ?c4 ?c5)
  walk_at "mine sides"
  intro L' h' F' N'
  try dsimp only
  have hsz : ∀ {p : Addr} {o : Obj}, s.heap.get? p = some o → p ≠ L' := fun e => Nat.ne_of_lt (Nat.lt_of_lt_of_le (Heap.lt_size e) F'.above)
  have F2 : Fr (hideAll s.heap [l1, l2, L]) L' h' _ := ⟨F'.ns, fun b o e => F'.keep b o (of_hideAll _ e), by rw [hideAll_size]; exact F'.above⟩
  have N2 : News (hideAll s.heap [l1, l2, L]) L' h' [(l1, listOf us.toArray n1), (l2, listOf vs.toArray n2), (L, oL)] := by
    intro p hp
    rcases List.mem_cons.mp hp with rfl | hp
    · exact ⟨F'.keep _ _ h1, hsz h1, hideAll_none _ (by simp)⟩
    rcases List.mem_cons.mp hp with rfl | hp
    · exact ⟨F'.keep _ _ h2, hsz h2, hideAll_none _ (by simp)⟩
    · rw [List.mem_singleton.mp hp]
      exact ⟨F'.keep _ _ hL, hsz hL, hideAll_none _ (by simp)⟩
  have Fs : TI.Frs [envOf cn cs L a ccd] [(L, oL)] := ⟨by show cs.kind ≠ .module; rw [hck]; decide, rfl, ⟨es, ep, hLd⟩, trivial⟩
  have X2 := X.keeps kg
  have T2 : Top QV (looseW QV loose0) mean mg mb (hideAll s.heap [l1, l2, L]) := T.keeps kg
  clear F' N' X0 T0
  have hgk : ∀ a o, s.heap.get? a = some o → a ≠ l1 → a ≠ l2 → a ≠ L → (hideAll s.heap [l1, l2, L]).get? a = some o := fun a o e n1 n2 n3 => hideAll_get _ e (by simp [n1, n2, n3])
  have hback : ∀ h' sl, Kp (hideAll s.heap [l1, l2, L]) h' → h'.get? L = some { oL with slots := sl } → Fr g L h' mm := fun h' sl k e => ⟨⟨_, es, ep, e, hLd, hLk, hLf⟩, fun b o q => k b o (kg b o q), F.above⟩
  generalize hideAll s.heap [l1, l2, L] = g2 at F2 N2 X2 T2 kg hgk hback
  clear X T
  walk_at "mine go"
  rename Fr _ L' _ _ => FF
  rename News _ _ _ _ => NN
  obtain ⟨ra, rfl⟩ := nm1 NN
  rename _ < ra ∧ _ < ra ∧ _ < ra => hra
  have mk := kstMark
  refine' ksw_while (σ := ((List Value × List Str × Nat) × Array (Option Value)) × (List Value × List Str × Nat) × (List Value × List Str × Nat)) (m₀ := _) (fun c => [(ra, listOf c.2.2.1.toArray c.2.2.2.2), (l1, listOf c.1.1.1.toArray c.1.1.2.2), (l2, listOf c.2.1.1.toArray c.2.1.2.2), (L, { oL with slots := c.1.2 })]) (fun _ => []) (fun c => StrsAre c.1.1.1 c.1.1.2.1 ∧ StrsAre c.2.1.1 c.2.1.2.1 ∧ StrsAre c.2.2.1 c.2.2.2.1) [Str.ofString "item"]
    (fun c => uldR c.1.1.2.1.reverse c.2.1.2.1 c.2.2.2.1 = uldR xs.reverse ys [] ∧ c.1.1.1.length ≤ 100 ∧ c.2.1.1.length ≤ 100 ∧ c.2.2.1.length + c.1.1.1.length ≤ 100) (fun c => c.1.1.1.length) (((us, xs, n1), oL.slots), (vs, ys, n2), ([], [], 0)) FF NN ⟨hi1, hi2, .nil⟩ (fun _ h => nomatch h) ⟨rfl, hl1, hl2, by simpa using hl1⟩ ?turn
  rintro ⟨⟨⟨us', xs', k1⟩, sl⟩, ⟨vs', ys', k2⟩, ⟨ws, zs, k3⟩⟩ u2 h2' tk2 ⟨hf1, hf2, hf3⟩ ⟨hp1, hp2, hp3, hp4⟩ F3 N3
  dsimp only at hf1 hf2 hf3 hp1 hp2 hp3 hp4 F3 N3 ⊢
  clear FF NN
  walk_at "mine go"
  refine wpAny_truthy_list (News.isList N3 (List.mem_cons_of_mem _ List.mem_cons_self)) (by rw [List.size_toArray]; omega) ?_
  rcases nil_snoc hf1 with ⟨rfl, rfl⟩ | ⟨vi, yi, y, t, rfl, rfl, hf4⟩
  · simp only [List.size_toArray, Array.isEmpty, List.length_nil, decide_true, Bool.not_true, Bool.false_eq_true, if_false]
    walk_at "mine go"
    rename Fr g2 _ _ _ => FF
    rename News g2 _ _ _ => NN
    obtain ⟨D, rfl⟩ := nm1 NN
    dsimp only
    rename _ < D ∧ _ => hlt
    have hfr : ∀ a, a ≠ l1 → a ≠ l2 → a ≠ L → g2.get? a = none → s.heap.get? a = none := by
      intro a n1 n2 n3 e
      cases q : s.heap.get? a with
      | none => rfl
      | some o => rw [hgk a o q n1 n2 n3] at e; cases e
    have hra0 : s.heap.get? ra = none := hfr _ (Nat.ne_of_gt hra.1) (Nat.ne_of_gt hra.2.1) (Nat.ne_of_gt hra.2.2) (NN _ (List.mem_cons_of_mem _ List.mem_cons_self)).2.2
    have hD0 : s.heap.get? D = none := hfr _ (Nat.ne_of_gt hlt.2.1) (Nat.ne_of_gt hlt.2.2.1) (Nat.ne_of_gt hlt.2.2.2) (NN _ List.mem_cons_self).2.2
    have hnw : ∀ p ∈ news, p.1 ≠ ra ∧ p.1 ≠ D := fun p hp => by
      have q := (N p hp).1
      refine ⟨fun e => ?_, fun e => ?_⟩
      · rw [e, hra0] at q; cases q
      · rw [e, hD0] at q; cases q
    have hg0 : ∀ {p}, s.heap.get? p = none → g.get? p = none := fun {p} e => by
      cases q : g.get? p with
      | none => rfl
      | some o => rw [F.keep _ _ q] at e; cases e
    have hLs : ∀ {p}, s.heap.get? p = none → p ≠ L := fun e q => by rw [q, hL] at e; cases e
    rw [← hp1] at hQ
    refine hQ ra D ws vs' k3 k2 _ _ (hback _ sl FF.keep (NN _ (List.mem_cons_of_mem _ (List.mem_cons_of_mem _ (List.mem_cons_of_mem _ (List.mem_cons_of_mem _ List.mem_cons_self))))).1) ?_ hnw hlt.1 hf3 hf2
    intro news' hnews p hp
    rcases List.mem_cons.mp hp with rfl | hp
    · exact ⟨(NN _ List.mem_cons_self).1, hLs hD0, hg0 hD0⟩
    rcases List.mem_cons.mp hp with rfl | hp
    · exact ⟨(NN _ (List.mem_cons_of_mem _ List.mem_cons_self)).1, hLs hra0, hg0 hra0⟩
    rcases List.mem_cons.mp hp with rfl | hp
    · exact ⟨(NN _ (List.mem_cons_of_mem _ (List.mem_cons_of_mem _ (List.mem_cons_of_mem _ List.mem_cons_self)))).1, (N _ hm2).2⟩
    · obtain ⟨q1, q2, q3⟩ := hnews p hp
      exact ⟨FF.keep _ _ (hgk _ _ (N p q1).1 q2 q3 (N p q1).2.1), (N p q1).2⟩
  · have hb : (!(vi ++ [Value.str y t]).toArray.isEmpty) = true := by simp
    have hnil : ¬ (vi ++ [Value.str y t]) = [] := by simp
    simp only [List.length_append, List.length_cons, List.length_nil] at hp2 hp4
    simp only [hb, if_true]
    walk_at "mine go"
    dsimp only
    refine kl_pop (its := (vi ++ [Value.str y t]).toArray) (n := k1) F3 N3 (kl_last_snoc (.str y t) vi) (.tail (Nat.ne_of_gt hra.1) (.head ?_)) (by rw [PySem.sizeLine_eq]; simp; omega) ?_
    · intro p hp
      rcases List.mem_cons.mp hp with rfl | hp
      · exact hne.symm
      · rw [List.mem_singleton.mp hp]; exact hL1.symm
    intro h3 F4 N4
    clear F3 N3
    walk_at "mine go"
    rename Fr g2 _ _ _ => FF
    rename News g2 _ _ _ => NN
    by_cases hmem : y ∈ ys'
    · show wpAny _ _ (call (Value.builtin "list.remove") [Value.ref l2, Value.str y t]) _ _ _
      refine rem_K (pre := [(ra, listOf ws.toArray k3), (l1, listOf vi.toArray (k1 + 1))]) (post := [(L, { oL with slots := sl })]) FF NN ?_ ?_ hf2 hmem (by rw [PySem.sizeLine_eq]; omega) ?_
      · intro p hp
        rcases List.mem_cons.mp hp with rfl | hp
        · exact Nat.ne_of_gt hra.2.1
        · rw [List.mem_singleton.mp hp]; exact hne
      · intro p hp
        rw [List.mem_singleton.mp hp]; exact hL2.symm
      intro vs2 h4 hs2 F5 N5
      simp only [List.cons_append, List.nil_append] at N5
      clear FF NN
      have hv2 : vs2.length ≤ 100 := by
        have e1 := hs2.length
        have e2 := hf2.length
        have e3 := List.length_erase_le (a := y) (l := ys')
        omega
      walk_at "mine go"
      rename Fr g2 _ _ _ => FF
      rename News g2 _ _ _ => NN
      refine ksw_end (((vi, yi, k1 + 1), sl), (vs2, ys'.erase y, k2 + 1), (ws, zs, k3)) FF NN (fun p hp => hp) ⟨hf4, hs2, hf3⟩ (fun _ h => nomatch h) ?_ ⟨?_, ?_, ?_, ?_⟩ ?_
      · intro z hz hz2
        have hz4 : z ≠ Str.ofString "item" := by intro e; rw [e] at hz2; simp at hz2
        simp [kstB, hz4]
      · rw [← hp1, List.reverse_append, List.reverse_singleton, List.singleton_append]
        simp only [uldR]
        rw [if_pos hmem]
      · dsimp only; omega
      · exact hv2
      · dsimp only; omega
      · simp
    · show wpAny _ _ (call (Value.builtin "list.remove") [Value.ref l2, Value.str y t]) _ _ _
      refine rem_none rfl (NN _ (List.mem_cons_of_mem _ (List.mem_cons_of_mem _ List.mem_cons_self))).1 hf2 hmem ?_
      intro h4 tk4 e hx
      refine TLg.noted_new1 (new := [(ra, listOf ws.toArray k3), (l1, listOf vi.toArray (k1 + 1)), (l2, listOf vs'.toArray k2)]) (L := L) (oL := { oL with slots := sl }) (env := envOf cn cs L a ccd) rfl ⟨by show cs.kind ≠ .module; rw [hck]; decide, rfl, ⟨es, ep, hLd⟩, trivial⟩ hx FF NN ⟨Nat.ne_of_gt hra.2.2, hL1, hL2, trivial⟩ ?_
      intro h5 sl2 Fs2 tiH
      simp only [List.cons_append, List.nil_append] at tiH
      have tiHH := TT.HeldNA.held tiH
      clear FF NN
      walk_at "mine go"
      rename Fr g2 _ _ _ => FF
      rename News g2 _ _ _ => NN
      show wpAny _ _ (call (Value.builtin "list.append") [Value.ref ra, Value.str y t]) _ _ _
      refine append_K FF NN (.head ?_) ?_ (by rw [PySem.sizeLine_eq, List.size_toArray]; omega)
      · intro p hp
        rcases List.mem_cons.mp hp with rfl | hp
        · exact Nat.ne_of_lt hra.1
        rcases List.mem_cons.mp hp with rfl | hp
        · exact Nat.ne_of_lt hra.2.1
        · rw [List.mem_singleton.mp hp]; exact Nat.ne_of_lt hra.2.2
      intro h6 F5 N5
      clear FF NN
      walk_at "mine go"
      rename Fr g2 _ _ _ => FF
      rename News g2 _ _ _ => NN
      simp only [List.push_toArray] at NN
      refine ksw_end (((vi, yi, k1 + 1), sl2), (vs', ys', k2), (ws ++ [_], zs ++ [y], k3 + 1)) FF NN (fun p hp => hp) ⟨hf4, hf2, hf3.append' (.cons _ _ .nil)⟩ (fun _ h => nomatch h) ?_ ⟨?_, ?_, ?_, ?_⟩ ?_
      · intro z hz hz2
        have hz4 : z ≠ Str.ofString "item" := by intro e; rw [e] at hz2; simp at hz2
        simp [kstB, hz4]
      · rw [← hp1, List.reverse_append, List.reverse_singleton, List.singleton_append]
        simp only [uldR]
        rw [if_neg hmem]
      · dsimp only; omega
      · exact hp3
      · simp only [List.length_append, List.length_cons, List.length_nil]; omega
      · simp
end Mine
end
section
open PySem PySem.W PyProof.Rows PySem.Calls
set_option Elab.async false
set_option maxRecDepth 100000
set_option maxHeartbeats 8000000
namespace Mine
theorem fill_me9 (w : World) (h : Heap) (_ : (KK w.params).In h) : PySem.Challenge.rw_oc0163_01.row.prog = PySem.Challenge.rw_oc0163_01.row.prog := by
  revert w h
  k_fill
  intros
  rfl
local macro_rules | `(tactic| walk_at "mine sides") => `(tactic| ((case k3 => k_asm); (case k5 => k_asm); (case k6 => k_dflt k_is); (case k7 => k_is); (case k8 => k_room); (case k9 => first | exact BindsTo.of_eq rfl | exact binds_K (by k_in) rfl (by k_is) rfl rfl rfl | fail "mine enter: no rule for these arguments"); (case c5 => decide); (case kB => exact locs rfl); (case c2 => exact rfl); (case c3 => exact rfl); (case c4 => exact rfl)))
local macro_rules | `(tactic| walk_at "mine go") => `(tactic| (repeat' (first | (k_unfold; (try dsimp only)) | ((fail_if_success (with_reducible show wpAny _ _ (exec (Stmt.For _ _ _ _ _) _) _ _ _)); (fail_if_success (with_reducible show wpAny _ _ (exec (Stmt.While _ _ _ _) _) _ _ _)); (fail_if_success (with_reducible show InvEndN _ _ _ _ _ _ _)); (fail_if_success (with_reducible show KswEnd _ _ _ _ _ _ _ _ _ _ _ _)); walk1) | (dsimp only; (fail_if_success (with_reducible show wpAny _ _ (exec (Stmt.For _ _ _ _ _) _) _ _ _)); (fail_if_success (with_reducible show wpAny _ _ (exec (Stmt.While _ _ _ _) _) _ _ _)); (fail_if_success (with_reducible show InvEndN _ _ _ _ _ _ _)); (fail_if_success (with_reducible show KswEnd _ _ _ _ _ _ _ _ _ _ _ _)); walk1) | fail "mine go: no step")))
theorem fr_kp9 {h₀ h h' : Heap} {L : Addr} {m : Str → Option Value} (F : Fr h₀ L h m) (k : Kp h h') : Fr h₀ L h' m := F.keeps k
local macro_rules | `(tactic| walk_at "mine toiter") => `(tactic| (repeat ((fail_if_success (with_reducible show wpAny _ _ (pyIter _) _ _ _)); first | walk1 | (dsimp only; walk1))))
local macro_rules | `(tactic| walk_at "subscriptTail") => `(tactic| (k_here; (with_reducible show wpAny _ _ (subscriptTail _ _ (Value.str _ _) (Value.int _ _)) _ _ _); refine item_str (fitsSsize_of (N := 9223372036854775808) (by omega) (by omega) (by decide)) (by omega) (by omega) ?_; intro _))
theorem c_ifmt2 {w : World} {E : Value → Shared → Prop} {s : Shared} {mean : ExcName → Option Value} {mg mb : Str → Option Value} {e1 e2 : Env} {Q : Value → Shared → Prop} {m : Int} {t : Tok}
    (X : (KK w.params).In s.heap) (T : Top QV (looseW QV loose0) mean mg mb s.heap)
    (hQ : ∀ t' h' tk', Kp s.heap h' → Q (.int (Builtin.bitAnd m 61440) t') {s with heap := h', toks := tk'}) :
    wpAny (model PR w) ((callerA.deeper e1).deeper e2) (call (.ref 86) [.int m t]) Q E s := by
  w_on
  refine wpAny_call ?_
  k_dflt (refine' enterW (binds := [(Str.ofString "mode", .int m t)]) ?k3 ?k5 ?k6 ?k7 ?k8 ?k9 ?kB ?_ ?c2 ?c3 ?c4 ?c5)
  walk_at "mine sides"
  intro L' h' F' N'
  try dsimp only
  walk_at "mine go"
  rename Fr _ _ _ _ => FF
  dsimp only
  exact hQ _ _ _ FF.keep
theorem c_ifmt1 {w : World} {E : Value → Shared → Prop} {s : Shared} {mean : ExcName → Option Value} {mg mb : Str → Option Value} {e1 : Env} {Q : Value → Shared → Prop} {m : Int} {t : Tok}
    (X : (KK w.params).In s.heap) (T : Top QV (looseW QV loose0) mean mg mb s.heap)
    (hQ : ∀ t' h' tk', Kp s.heap h' → Q (.int (Builtin.bitAnd m 61440) t') {s with heap := h', toks := tk'}) :
    wpAny (model PR w) (callerA.deeper e1) (call (.ref 86) [.int m t]) Q E s := by
  w_on
  refine wpAny_call ?_
  k_dflt (refine' enterW (binds := [(Str.ofString "mode", .int m t)]) ?k3 ?k5 ?k6 ?k7 ?k8 ?k9 ?kB ?_ ?c2 ?c3 ?c4 ?c5)
  walk_at "mine sides"
  intro L' h' F' N'
  try dsimp only
  walk_at "mine go"
  rename Fr _ _ _ _ => FF
  dsimp only
  exact hQ _ _ _ FF.keep
theorem c_imode {w : World} {E : Value → Shared → Prop} {s : Shared} {mean : ExcName → Option Value} {mg mb : Str → Option Value} {e1 : Env} {Q : Value → Shared → Prop} {m : Int} {t : Tok}
    (X : (KK w.params).In s.heap) (T : Top QV (looseW QV loose0) mean mg mb s.heap)
    (hQ : ∀ t' h' tk', Kp s.heap h' → Q (.int (Builtin.bitAnd m 4095) t') {s with heap := h', toks := tk'}) :
    wpAny (model PR w) (callerA.deeper e1) (call (.ref 79) [.int m t]) Q E s := by
  w_on
  refine wpAny_call ?_
  k_dflt (refine' enterW (binds := [(Str.ofString "mode", .int m t)]) ?k3 ?k5 ?k6 ?k7 ?k8 ?k9 ?kB ?_ ?c2 ?c3 ?c4 ?c5)
  walk_at "mine sides"
  intro L' h' F' N'
  try dsimp only
  walk_at "mine go"
  rename Fr _ _ _ _ => FF
  dsimp only
  exact hQ _ _ _ FF.keep
end Mine
end
section
open PySem PySem.W PyProof.Rows PySem.Calls
set_option Elab.async false
set_option maxRecDepth 100000
set_option maxHeartbeats 8000000
namespace Mine
theorem fill_me10 (w : World) (h : Heap) (_ : (KK w.params).In h) : PySem.Challenge.rw_oc0163_01.row.prog = PySem.Challenge.rw_oc0163_01.row.prog := by
  revert w h
  k_fill
  intros
  rfl
local macro_rules | `(tactic| walk_at "mine sides") => `(tactic| ((case k3 => k_asm); (case k5 => k_asm); (case k6 => k_dflt k_is); (case k7 => k_is); (case k8 => k_room); (case k9 => first | exact BindsTo.of_eq rfl | exact binds_K (by k_in) rfl (by k_is) rfl rfl rfl | fail "mine enter: no rule for these arguments"); (case c5 => decide); (case kB => exact locs rfl); (case c2 => exact rfl); (case c3 => exact rfl); (case c4 => exact rfl)))
local macro_rules | `(tactic| walk_at "mine go") => `(tactic| (repeat' (first | (k_unfold; (try dsimp only)) | ((fail_if_success (with_reducible show wpAny _ _ (exec (Stmt.For _ _ _ _ _) _) _ _ _)); (fail_if_success (with_reducible show wpAny _ _ (exec (Stmt.While _ _ _ _) _) _ _ _)); (fail_if_success (with_reducible show InvEndN _ _ _ _ _ _ _)); (fail_if_success (with_reducible show KswEnd _ _ _ _ _ _ _ _ _ _ _ _)); walk1) | (dsimp only; (fail_if_success (with_reducible show wpAny _ _ (exec (Stmt.For _ _ _ _ _) _) _ _ _)); (fail_if_success (with_reducible show wpAny _ _ (exec (Stmt.While _ _ _ _) _) _ _ _)); (fail_if_success (with_reducible show InvEndN _ _ _ _ _ _ _)); (fail_if_success (with_reducible show KswEnd _ _ _ _ _ _ _ _ _ _ _ _)); walk1) | fail "mine go: no step")))
theorem fr_kp10 {h₀ h h' : Heap} {L : Addr} {m : Str → Option Value} (F : Fr h₀ L h m) (k : Kp h h') : Fr h₀ L h' m := F.keeps k
local macro_rules | `(tactic| walk_at "mine toiter") => `(tactic| (repeat ((fail_if_success (with_reducible show wpAny _ _ (pyIter _) _ _ _)); first | walk1 | (dsimp only; walk1))))
local macro_rules | `(tactic| walk_at "subscriptTail") => `(tactic| (k_here; (with_reducible show wpAny _ _ (subscriptTail _ _ (Value.str _ _) (Value.int _ _)) _ _ _); refine item_str (fitsSsize_of (N := 9223372036854775808) (by omega) (by omega) (by decide)) (by omega) (by omega) ?_; intro _))
theorem tab119 {w : World} {h : Heap} (X : (KK w.params).In h) : h.IsTuple 119 (tabAd.map Value.ref).toArray := ⟨_, X 119 _ rfl, rfl, _, rfl⟩
theorem tabs_at {w : World} {h : Heap} (X : (KK w.params).In h) : ∀ (i : Nat) (ad : Addr) (rows : List Rw), tabAd[i]? = some ad → specs[i]? = some rows → TabAt h ad (rows.map rowV) := by
  intro i ad rows h1 h2
  match i, h1, h2 with
  | 0, h1, h2 =>
    obtain rfl : _ = ad := Option.some.inj h1
    obtain rfl : _ = rows := Option.some.inj h2
    refine ⟨[87, 88, 89, 90, 91, 92, 93], ⟨_, X 94 _ rfl, rfl, _, rfl⟩, rfl, ?_⟩
    intro j T r h3 h4
    match j, h3, h4 with
      | 0, h3, h4 => obtain rfl : _ = T := Option.some.inj h3; obtain rfl : _ = r := Option.some.inj h4; exact ⟨_, X 87 _ rfl, rfl, _, rfl⟩
      | 1, h3, h4 => obtain rfl : _ = T := Option.some.inj h3; obtain rfl : _ = r := Option.some.inj h4; exact ⟨_, X 88 _ rfl, rfl, _, rfl⟩
      | 2, h3, h4 => obtain rfl : _ = T := Option.some.inj h3; obtain rfl : _ = r := Option.some.inj h4; exact ⟨_, X 89 _ rfl, rfl, _, rfl⟩
      | 3, h3, h4 => obtain rfl : _ = T := Option.some.inj h3; obtain rfl : _ = r := Option.some.inj h4; exact ⟨_, X 90 _ rfl, rfl, _, rfl⟩
      | 4, h3, h4 => obtain rfl : _ = T := Option.some.inj h3; obtain rfl : _ = r := Option.some.inj h4; exact ⟨_, X 91 _ rfl, rfl, _, rfl⟩
      | 5, h3, h4 => obtain rfl : _ = T := Option.some.inj h3; obtain rfl : _ = r := Option.some.inj h4; exact ⟨_, X 92 _ rfl, rfl, _, rfl⟩
      | 6, h3, h4 => obtain rfl : _ = T := Option.some.inj h3; obtain rfl : _ = r := Option.some.inj h4; exact ⟨_, X 93 _ rfl, rfl, _, rfl⟩
      | k + 7, h3, _ => cases h3
  | 1, h1, h2 =>
    obtain rfl : _ = ad := Option.some.inj h1
    obtain rfl : _ = rows := Option.some.inj h2
    refine ⟨[95], ⟨_, X 96 _ rfl, rfl, _, rfl⟩, rfl, ?_⟩
    intro j T r h3 h4
    match j, h3, h4 with
      | 0, h3, h4 => obtain rfl : _ = T := Option.some.inj h3; obtain rfl : _ = r := Option.some.inj h4; exact ⟨_, X 95 _ rfl, rfl, _, rfl⟩
      | k + 1, h3, _ => cases h3
  | 2, h1, h2 =>
    obtain rfl : _ = ad := Option.some.inj h1
    obtain rfl : _ = rows := Option.some.inj h2
    refine ⟨[97], ⟨_, X 98 _ rfl, rfl, _, rfl⟩, rfl, ?_⟩
    intro j T r h3 h4
    match j, h3, h4 with
      | 0, h3, h4 => obtain rfl : _ = T := Option.some.inj h3; obtain rfl : _ = r := Option.some.inj h4; exact ⟨_, X 97 _ rfl, rfl, _, rfl⟩
      | k + 1, h3, _ => cases h3
  | 3, h1, h2 =>
    obtain rfl : _ = ad := Option.some.inj h1
    obtain rfl : _ = rows := Option.some.inj h2
    refine ⟨[99, 100, 101], ⟨_, X 102 _ rfl, rfl, _, rfl⟩, rfl, ?_⟩
    intro j T r h3 h4
    match j, h3, h4 with
      | 0, h3, h4 => obtain rfl : _ = T := Option.some.inj h3; obtain rfl : _ = r := Option.some.inj h4; exact ⟨_, X 99 _ rfl, rfl, _, rfl⟩
      | 1, h3, h4 => obtain rfl : _ = T := Option.some.inj h3; obtain rfl : _ = r := Option.some.inj h4; exact ⟨_, X 100 _ rfl, rfl, _, rfl⟩
      | 2, h3, h4 => obtain rfl : _ = T := Option.some.inj h3; obtain rfl : _ = r := Option.some.inj h4; exact ⟨_, X 101 _ rfl, rfl, _, rfl⟩
      | k + 3, h3, _ => cases h3
  | 4, h1, h2 =>
    obtain rfl : _ = ad := Option.some.inj h1
    obtain rfl : _ = rows := Option.some.inj h2
    refine ⟨[103], ⟨_, X 104 _ rfl, rfl, _, rfl⟩, rfl, ?_⟩
    intro j T r h3 h4
    match j, h3, h4 with
      | 0, h3, h4 => obtain rfl : _ = T := Option.some.inj h3; obtain rfl : _ = r := Option.some.inj h4; exact ⟨_, X 103 _ rfl, rfl, _, rfl⟩
      | k + 1, h3, _ => cases h3
  | 5, h1, h2 =>
    obtain rfl : _ = ad := Option.some.inj h1
    obtain rfl : _ = rows := Option.some.inj h2
    refine ⟨[105], ⟨_, X 106 _ rfl, rfl, _, rfl⟩, rfl, ?_⟩
    intro j T r h3 h4
    match j, h3, h4 with
      | 0, h3, h4 => obtain rfl : _ = T := Option.some.inj h3; obtain rfl : _ = r := Option.some.inj h4; exact ⟨_, X 105 _ rfl, rfl, _, rfl⟩
      | k + 1, h3, _ => cases h3
  | 6, h1, h2 =>
    obtain rfl : _ = ad := Option.some.inj h1
    obtain rfl : _ = rows := Option.some.inj h2
    refine ⟨[107, 108, 109], ⟨_, X 110 _ rfl, rfl, _, rfl⟩, rfl, ?_⟩
    intro j T r h3 h4
    match j, h3, h4 with
      | 0, h3, h4 => obtain rfl : _ = T := Option.some.inj h3; obtain rfl : _ = r := Option.some.inj h4; exact ⟨_, X 107 _ rfl, rfl, _, rfl⟩
      | 1, h3, h4 => obtain rfl : _ = T := Option.some.inj h3; obtain rfl : _ = r := Option.some.inj h4; exact ⟨_, X 108 _ rfl, rfl, _, rfl⟩
      | 2, h3, h4 => obtain rfl : _ = T := Option.some.inj h3; obtain rfl : _ = r := Option.some.inj h4; exact ⟨_, X 109 _ rfl, rfl, _, rfl⟩
      | k + 3, h3, _ => cases h3
  | 7, h1, h2 =>
    obtain rfl : _ = ad := Option.some.inj h1
    obtain rfl : _ = rows := Option.some.inj h2
    refine ⟨[111], ⟨_, X 112 _ rfl, rfl, _, rfl⟩, rfl, ?_⟩
    intro j T r h3 h4
    match j, h3, h4 with
      | 0, h3, h4 => obtain rfl : _ = T := Option.some.inj h3; obtain rfl : _ = r := Option.some.inj h4; exact ⟨_, X 111 _ rfl, rfl, _, rfl⟩
      | k + 1, h3, _ => cases h3
  | 8, h1, h2 =>
    obtain rfl : _ = ad := Option.some.inj h1
    obtain rfl : _ = rows := Option.some.inj h2
    refine ⟨[113], ⟨_, X 114 _ rfl, rfl, _, rfl⟩, rfl, ?_⟩
    intro j T r h3 h4
    match j, h3, h4 with
      | 0, h3, h4 => obtain rfl : _ = T := Option.some.inj h3; obtain rfl : _ = r := Option.some.inj h4; exact ⟨_, X 113 _ rfl, rfl, _, rfl⟩
      | k + 1, h3, _ => cases h3
  | 9, h1, h2 =>
    obtain rfl : _ = ad := Option.some.inj h1
    obtain rfl : _ = rows := Option.some.inj h2
    refine ⟨[115, 116, 117], ⟨_, X 118 _ rfl, rfl, _, rfl⟩, rfl, ?_⟩
    intro j T r h3 h4
    match j, h3, h4 with
      | 0, h3, h4 => obtain rfl : _ = T := Option.some.inj h3; obtain rfl : _ = r := Option.some.inj h4; exact ⟨_, X 115 _ rfl, rfl, _, rfl⟩
      | 1, h3, h4 => obtain rfl : _ = T := Option.some.inj h3; obtain rfl : _ = r := Option.some.inj h4; exact ⟨_, X 116 _ rfl, rfl, _, rfl⟩
      | 2, h3, h4 => obtain rfl : _ = T := Option.some.inj h3; obtain rfl : _ = r := Option.some.inj h4; exact ⟨_, X 117 _ rfl, rfl, _, rfl⟩
      | k + 3, h3, _ => cases h3
  | i + 10, h1, _ => cases h1
end Mine
end
section
open PySem PySem.W PyProof.Rows PySem.Calls
set_option Elab.async false
set_option maxRecDepth 100000
set_option maxHeartbeats 8000000
namespace Mine
theorem fill_me11 (w : World) (h : Heap) (_ : (KK w.params).In h) : PySem.Challenge.rw_oc0163_01.row.prog = PySem.Challenge.rw_oc0163_01.row.prog := by
  revert w h
  k_fill
  intros
  rfl
local macro_rules | `(tactic| walk_at "mine sides") => `(tactic| ((case k3 => k_asm); (case k5 => k_asm); (case k6 => k_dflt k_is); (case k7 => k_is); (case k8 => k_room); (case k9 => first | exact BindsTo.of_eq rfl | exact binds_K (by k_in) rfl (by k_is) rfl rfl rfl | fail "mine enter: no rule for these arguments"); (case c5 => decide); (case kB => exact locs rfl); (case c2 => exact rfl); (case c3 => exact rfl); (case c4 => exact rfl)))
local macro_rules | `(tactic| walk_at "mine go") => `(tactic| (repeat' (first | (k_unfold; (try dsimp only)) | ((fail_if_success (with_reducible show wpAny _ _ (exec (Stmt.For _ _ _ _ _) _) _ _ _)); (fail_if_success (with_reducible show wpAny _ _ (exec (Stmt.While _ _ _ _) _) _ _ _)); (fail_if_success (with_reducible show InvEndN _ _ _ _ _ _ _)); (fail_if_success (with_reducible show KswEnd _ _ _ _ _ _ _ _ _ _ _ _)); walk1) | (dsimp only; (fail_if_success (with_reducible show wpAny _ _ (exec (Stmt.For _ _ _ _ _) _) _ _ _)); (fail_if_success (with_reducible show wpAny _ _ (exec (Stmt.While _ _ _ _) _) _ _ _)); (fail_if_success (with_reducible show InvEndN _ _ _ _ _ _ _)); (fail_if_success (with_reducible show KswEnd _ _ _ _ _ _ _ _ _ _ _ _)); walk1) | fail "mine go: no step")))
theorem fr_kp11 {h₀ h h' : Heap} {L : Addr} {m : Str → Option Value} (F : Fr h₀ L h m) (k : Kp h h') : Fr h₀ L h' m := F.keeps k
local macro_rules | `(tactic| walk_at "mine toiter") => `(tactic| (repeat ((fail_if_success (with_reducible show wpAny _ _ (pyIter _) _ _ _)); first | walk1 | (dsimp only; walk1))))
local macro_rules | `(tactic| walk_at "subscriptTail") => `(tactic| (k_here; (with_reducible show wpAny _ _ (subscriptTail _ _ (Value.str _ _) (Value.int _ _)) _ _ _); refine item_str (fitsSsize_of (N := 9223372036854775808) (by omega) (by omega) (by decide)) (by omega) (by omega) ?_; intro _))
theorem news_kp11 {h₀ h h' : Heap} {L : Addr} {news : List (Addr × Obj)} (N : News h₀ L h news) (k : Kp h h') : News h₀ L h' news := fun p hp => ⟨k _ _ (N p hp).1, (N p hp).2⟩
theorem c_ifmt_FN {w : World} {E : Value → Shared → Prop} {s : Shared} {mean : ExcName → Option Value} {mg mb : Str → Option Value} {e1 e2 : Env} {Q : Value → Shared → Prop} {m : Int} {t : Tok} {h₀ : Heap} {L : Addr} {mm : Str → Option Value} {news : List (Addr × Obj)}
    (X : (KK w.params).In h₀) (T : Top QV (looseW QV loose0) mean mg mb h₀) (F : Fr h₀ L s.heap mm) (N : News h₀ L s.heap news)
    (hQ : ∀ t' h' tk', Fr h₀ L h' mm → News h₀ L h' news → Q (.int (Builtin.bitAnd m 61440) t') {s with heap := h', toks := tk'}) :
    wpAny (model PR w) ((callerA.deeper e1).deeper e2) (call (.ref 86) [.int m t]) Q E s :=
  c_ifmt2 (X.keeps F.keep) (T.keeps F.keep) (fun t' h' tk' k => hQ t' h' tk' (fr_kp11 F k) (news_kp11 N k))
local macro_rules | `(tactic| walk_at "call ref") => `(tactic| (k_here; (with_reducible show wpAny _ _ (call (Value.ref 86) [Value.int _ _]) _ _ _); k_dflt (refine' c_ifmt_FN ?k1 ?k2 ?k3 ?k4 ?_; (case k1 => k_asm); (case k2 => k_asm); (case k3 => k_asm); (case k4 => k_asm); k_whole); intro t' h' tk' F' N'))
structure OffR (own : List (Addr × Obj)) (r : Addr) : Prop where
  go : ∀ p ∈ own, p.1 ≠ r
local macro_rules | `(tactic| walk_at "call builtin:list.append") => `(tactic| (k_here; (show wpAny _ _ (call (Value.builtin "list.append") [Value.ref _, _]) _ _ _); (with_reducible rename OffR _ _ => kO); k_dflt (refine' append_K ?k1 ?k2 (.head (OffR.go kO)) ?_ ?z; (case k1 => k_asm); (case k2 => k_asm); (case z => (rw [PySem.sizeLine_eq, List.size_toArray]; omega)); k_whole); intro h' F' N'; (try k_sweep)))
theorem sum_one : ∀ l : List Nat, ((l.map fun c => tx [c]).map (·.length)).sum = l.length
  | [] => rfl
  | x :: r => by
    have := sum_one r
    simp only [List.map_cons, List.sum_cons, List.length_cons] at this ⊢
    rw [this, show (tx [x]).length = 1 from rfl, Nat.add_comm]
theorem cp_join0 : ∀ l : List Nat, cp (Str.join (tx []) (l.map fun c => tx [c])) = l
  | [] => rfl
  | [_] => rfl
  | x :: y :: r => by
    have ih := cp_join0 (y :: r)
    show cp (tx [x] ++ tx [] ++ Str.join (tx []) ((y :: r).map fun c => tx [c])) = x :: y :: r
    have e : ∀ a b : Str, cp (a ++ b) = cp a ++ cp b := fun a b => by simp [cp, Str.cps_append]
    rw [e, e, ih]
    rfl
structure Inn (P : Prop) : Prop where
  go : P
theorem nm11 {h₀ h : Heap} {L q : Addr} {o1 : Obj} {r : List (Addr × Obj)} (_ : News h₀ L h ((q, o1) :: r)) : ∃ q', q' = q := ⟨q, rfl⟩
theorem same_map (l : List Str) (m : Str → Option Value) : m = fun y => if l.contains y then m y else m y := by funext y; simp
theorem c_mode {w : World} {E : Value → Shared → Prop} {s : Shared} {mean : ExcName → Option Value} {mg mb : Str → Option Value} {e1 : Env} {Q : Value → Shared → Prop} {M : Int} {t : Tok}
    (X : (KK w.params).In s.heap) (T : Top QV (looseW QV loose0) mean mg mb s.heap) (hM0 : 0 ≤ M) (hM1 : M < 65536)
    (hQ : ∀ t' h' tk', Kp s.heap h' → Q (.str (tx (signs M)) t') {s with heap := h', toks := tk'}) :
    wpAny (model PR w) (callerA.deeper e1) (call (.ref 126) [.int M t]) Q E s := by
  w_on
  refine wpAny_call ?_
  k_dflt (refine' enterW (binds := [(Str.ofString "mode", .int M t)]) ?k3 ?k5 ?k6 ?k7 ?k8 ?k9 ?kB ?_ ?c2 ?c3 ?c4 ?c5)
  walk_at "mine sides"
  intro L' h' F' N'
  try dsimp only
  walk_at "mine go"
  rename Fr _ _ _ _ => FF
  rename News _ _ _ _ => NN
  refine' For_pair3 s.heap rfl rfl rfl rfl ?_ (fun _ => rfl)
  repeat ((fail_if_success (with_reducible show wpAny _ _ (call (Value.type _) _) _ _ _)); first | walk1 | (dsimp only; walk1))
  obtain ⟨ra, rfl⟩ := nm11 NN
  have mk := kstMark
  refine' for_enum (vs := tabAd.map Value.ref) rfl (tab119 X) FF NN (fun i m₁ news₁ => (∃ u : Str → Option Value, m₁ = fun y => if [Str.ofString "index", Str.ofString "table", Str.ofString "bit", Str.ofString "char"].contains y then u y else (if y = Str.ofString "perm" then some (Value.ref ra) else List.lookup y [(Str.ofString "mode", Value.int M t)].reverse)) ∧ ∃ ws n, news₁ = [(ra, listOf ws.toArray n)] ∧ StrsAre ws (((signs M).take i).map fun c => tx [c])) ⟨⟨_, same_map _ _⟩, [], 0, rfl, .nil⟩ ?step ?done
  case step =>
    rintro i v t0 m₁ news₁ h tk own hv ⟨⟨u, rfl⟩, ws, n, rfl, hs⟩ ha hoff F1 N1
    clear FF NN
    simp only [List.cons_append, List.nil_append] at N1
    have hil : i < 10 := by
      have := (List.getElem?_eq_some_iff.mp hv).1
      simpa [tabAd] using this
    obtain ⟨ad, had, rfl⟩ : ∃ ad, tabAd[i]? = some ad ∧ Value.ref ad = v := by
      rw [List.getElem?_map] at hv
      cases q : tabAd[i]? with
      | none => rw [q] at hv; cases hv
      | some ad => rw [q] at hv; exact ⟨ad, rfl, Option.some.inj hv⟩
    obtain ⟨rows, hrows⟩ : ∃ rows, specs[i]? = some rows := ⟨specs[i]'(by simpa [specs] using hil), List.getElem?_eq_getElem _⟩
    have TB := tabs_at X i ad rows had hrows
    have hpk := pick_signs hM0 hM1 i rows hrows
    have hO : OffR own ra := ⟨fun p hp => hoff p hp _ List.mem_cons_self⟩
    have hwl : ws.length ≤ 10 := by
      have := hs.length
      rw [List.length_map, List.length_take] at this
      omega
    walk_at "mine go"
    refine wpAny_mono (Q := fun f s' => Inn (f = Flow.next ∧ ∃ h' tk' m₂ ws' n', s' = { s with heap := h', toks := tk' } ∧ Fr s.heap L' h' m₂ ∧ (∀ y, y ≠ Str.ofString "bit" → y ≠ Str.ofString "char" → m₂ y = (if y = Str.ofString "table" then some (Value.ref ad) else if y = Str.ofString "index" then some (Value.int i t0) else if [Str.ofString "index", Str.ofString "table", Str.ofString "bit", Str.ofString "char"].contains y then u y else (if y = Str.ofString "perm" then some (Value.ref ra) else List.lookup y [(Str.ofString "mode", Value.int M t)].reverse))) ∧ News s.heap L' h' ((ra, listOf ws'.toArray n') :: own) ∧ StrsAre ws' ((((signs M).take i).map fun c => tx [c]) ++ [tx [pick i M rows]]))) ?inner (fun f s' hq => ?cont) (fun _ _ e => e)
    case cont =>
      obtain ⟨rfl, h2, tk2, m₂, ws2, n2, rfl, F2, hm2, N2, hs2⟩ := hq.go
      dsimp only
      clear F1 N1
      walk_at "mine go"
      refine ⟨_, _, m₂, [(ra, listOf ws2.toArray n2)], rfl, F2, N2, rfl, ⟨m₂, ?_⟩, ws2, n2, rfl, ?_⟩
      · funext y
        by_cases h1 : [Str.ofString "index", Str.ofString "table", Str.ofString "bit", Str.ofString "char"].contains y = true
        · rw [if_pos h1]
        · rw [if_neg h1]
          simp only [List.contains_cons, List.contains_nil, Bool.or_false, Bool.or_eq_true, beq_iff_eq, not_or] at h1
          rw [hm2 y h1.2.2.1 h1.2.2.2, if_neg h1.2.1, if_neg h1.1]
          simp [h1.1, h1.2.1, h1.2.2.1, h1.2.2.2]
      · rw [List.take_add_one, hpk]
        simpa using hs2
    case inner =>
      refine wpAny_For ?_
      walk_at "mine toiter"
      rename Fr _ _ _ _ => FF
      rename News _ _ _ _ => NN
      refine for_tab_else (rows := rows.map rowV) rfl TB rfl rfl rfl FF NN (fun j => ∀ r' ∈ rows.take j, okR i M r' = false) (fun _ h => nomatch h) ?step2 ?els
      case step2 =>
        intro j r h2 tk2 own2 hr hJ hoff2 F2 N2
        obtain ⟨⟨b, c, t1, t2⟩, hrr, rfl⟩ : ∃ rr, rows[j]? = some rr ∧ rowV rr = r := by
          rw [List.getElem?_map] at hr
          cases q : rows[j]? with
          | none => rw [q] at hr; cases hr
          | some rr => rw [q] at hr; exact ⟨rr, rfl, Option.some.inj hr⟩
        clear FF NN
        simp only [List.cons_append] at N2
        have hO2 : OffR (own ++ own2) ra := ⟨fun p hp => by
          rcases List.mem_append.mp hp with h | h
          · exact hO.go p h
          · exact hoff2 p h _ List.mem_cons_self⟩
        clear hO
        dsimp only [rowV] at F2
        have hnext : okR i M (b, c, t1, t2) = false → ∀ r' ∈ rows.take (j + 1), okR i M r' = false := fun e r' hr' => by
          rw [List.take_add_one, hrr] at hr'
          rcases List.mem_append.mp hr' with h | h
          · exact hJ r' h
          · rw [List.mem_singleton.mp h]; exact e
        have hhit : okR i M (b, c, t1, t2) = true → pick i M rows = c := fun e => pick_hit hrr hJ e
        have hbrk : ∀ (h' : Heap) (tk' : Nat), okR i M (b, c, t1, t2) = true → Fr s.heap L' h' (fun y => if y = Str.ofString "char" then some (Value.str (tx [c]) t2) else if y = Str.ofString "bit" then some (Value.int b t1) else if y = Str.ofString "table" then some (Value.ref ad) else if y = Str.ofString "index" then some (Value.int i t0) else if [Str.ofString "index", Str.ofString "table", Str.ofString "bit", Str.ofString "char"].contains y then u y else (if y = Str.ofString "perm" then some (Value.ref ra) else List.lookup y [(Str.ofString "mode", Value.int M t)].reverse)) →
            News s.heap L' h' ((ra, listOf (ws.toArray.push (Value.str (tx [c]) t2)) (n + 1)) :: (own ++ own2)) → Inn (Flow.next = Flow.next ∧ ∃ h'' tk'' m₂ ws' n', ({ s with heap := h', toks := tk' } : Shared) = { s with heap := h'', toks := tk'' } ∧ Fr s.heap L' h'' m₂ ∧ (∀ y, y ≠ Str.ofString "bit" → y ≠ Str.ofString "char" → m₂ y = (if y = Str.ofString "table" then some (Value.ref ad) else if y = Str.ofString "index" then some (Value.int i t0) else if [Str.ofString "index", Str.ofString "table", Str.ofString "bit", Str.ofString "char"].contains y then u y else (if y = Str.ofString "perm" then some (Value.ref ra) else List.lookup y [(Str.ofString "mode", Value.int M t)].reverse))) ∧ News s.heap L' h'' ((ra, listOf ws'.toArray n') :: own) ∧ StrsAre ws' ((((signs M).take i).map fun c => tx [c]) ++ [tx [pick i M rows]])) := by
          intro h' tk' hok FF NN
          simp only [List.push_toArray] at NN
          refine ⟨⟨rfl, h', tk', _, ws ++ [.str (tx [c]) t2], n + 1, rfl, FF, ?_, fun p hp => NN p ?_, ?_⟩⟩
          · intro y y1 y2
            simp only [if_neg y1, if_neg y2]
          · rcases List.mem_cons.mp hp with rfl | hp
            · exact List.mem_cons_self
            · exact List.mem_cons_of_mem _ (List.mem_append_left _ hp)
          · rw [hhit hok]
            exact hs.append' (.cons _ _ .nil)
        have hmp : ∀ y, y ≠ Str.ofString "bit" → y ≠ Str.ofString "char" → (fun y => if y = Str.ofString "char" then some (Value.str (tx [c]) t2) else if y = Str.ofString "bit" then some (Value.int b t1) else if y = Str.ofString "table" then some (Value.ref ad) else if y = Str.ofString "index" then some (Value.int i t0) else if [Str.ofString "index", Str.ofString "table", Str.ofString "bit", Str.ofString "char"].contains y then u y else (if y = Str.ofString "perm" then some (Value.ref ra) else List.lookup y [(Str.ofString "mode", Value.int M t)].reverse)) y = (if y = Str.ofString "table" then some (Value.ref ad) else if y = Str.ofString "index" then some (Value.int i t0) else if [Str.ofString "index", Str.ofString "table", Str.ofString "bit", Str.ofString "char"].contains y then u y else (if y = Str.ofString "perm" then some (Value.ref ra) else List.lookup y [(Str.ofString "mode", Value.int M t)].reverse)) := by
          intro y y1 y2
          simp only [if_neg y1, if_neg y2]
        by_cases hi0 : i = 0
        · subst hi0
          walk_at "mine go"
          · rename Fr _ _ _ _ => FF
            rename News _ _ _ _ => NN
            rename Builtin.bitAnd M 61440 = b => hc
            exact hbrk _ _ (by unfold okR; simp [hc]) FF NN
          · rename Fr _ _ _ _ => FF
            rename News _ _ _ _ => NN
            rename Builtin.bitAnd M 61440 ≠ b => hc
            exact ⟨_, _, _, rfl, FF, hmp, NN, hnext (by unfold okR; simp [hc])⟩
        · have hi1 : ((i : Nat) : Int) ≠ 0 := by omega
          walk_at "mine go"
          · exfalso; omega
          · rename Fr _ _ _ _ => FF
            rename News _ _ _ _ => NN
            rename Builtin.bitAnd M b = b => hc
            exact hbrk _ _ (by unfold okR; rw [if_neg hi0]; simp [hc]) FF NN
          · rename Fr _ _ _ _ => FF
            rename News _ _ _ _ => NN
            rename Builtin.bitAnd M b ≠ b => hc
            exact ⟨_, _, _, rfl, FF, hmp, NN, hnext (by unfold okR; rw [if_neg hi0]; simp [hc])⟩
      case els =>
        intro h2 tk2 m2 hJ hm2 F2 N2
        clear FF NN
        have hpn : pick i M rows = if i = 0 then 63 else 45 := pick_none (fun r' hr' => hJ r' (by rw [List.length_map, List.take_length]; exact hr'))
        obtain ⟨u2, rfl⟩ : ∃ u2 : Str → Option Value, m2 = fun y => if [Str.ofString "bit", Str.ofString "char"].contains y then u2 y else (if y = Str.ofString "table" then some (Value.ref ad) else if y = Str.ofString "index" then some (Value.int i t0) else if [Str.ofString "index", Str.ofString "table", Str.ofString "bit", Str.ofString "char"].contains y then u y else (if y = Str.ofString "perm" then some (Value.ref ra) else List.lookup y [(Str.ofString "mode", Value.int M t)].reverse)) := by
          refine ⟨m2, ?_⟩
          funext y
          by_cases h1 : [Str.ofString "bit", Str.ofString "char"].contains y = true
          · rw [if_pos h1]
          · rw [if_neg h1]
            simp only [List.contains_cons, List.contains_nil, Bool.or_false, Bool.or_eq_true, beq_iff_eq, not_or] at h1
            exact hm2 y h1.1 h1.2
        clear hm2
        have hend : ∀ (h' : Heap) (tk' tv : Nat) (c : Nat), pick i M rows = c → Fr s.heap L' h' (fun y => if [Str.ofString "bit", Str.ofString "char"].contains y then u2 y else (if y = Str.ofString "table" then some (Value.ref ad) else if y = Str.ofString "index" then some (Value.int i t0) else if [Str.ofString "index", Str.ofString "table", Str.ofString "bit", Str.ofString "char"].contains y then u y else (if y = Str.ofString "perm" then some (Value.ref ra) else List.lookup y [(Str.ofString "mode", Value.int M t)].reverse))) →
            News s.heap L' h' ((ra, listOf (ws.toArray.push (Value.str (tx [c]) tv)) (n + 1)) :: own) → Inn (Flow.next = Flow.next ∧ ∃ h'' tk'' m₂ ws' n', ({ s with heap := h', toks := tk' } : Shared) = { s with heap := h'', toks := tk'' } ∧ Fr s.heap L' h'' m₂ ∧ (∀ y, y ≠ Str.ofString "bit" → y ≠ Str.ofString "char" → m₂ y = (if y = Str.ofString "table" then some (Value.ref ad) else if y = Str.ofString "index" then some (Value.int i t0) else if [Str.ofString "index", Str.ofString "table", Str.ofString "bit", Str.ofString "char"].contains y then u y else (if y = Str.ofString "perm" then some (Value.ref ra) else List.lookup y [(Str.ofString "mode", Value.int M t)].reverse))) ∧ News s.heap L' h'' ((ra, listOf ws'.toArray n') :: own) ∧ StrsAre ws' ((((signs M).take i).map fun c => tx [c]) ++ [tx [pick i M rows]])) := by
          intro h' tk' tv c hok FF NN
          simp only [List.push_toArray] at NN
          refine ⟨⟨rfl, h', tk', _, ws ++ [.str (tx [c]) tv], n + 1, rfl, FF, ?_, NN, ?_⟩⟩
          · intro y y1 y2
            simp [y1, y2]
          · rw [hok]
            exact hs.append' (.cons _ _ .nil)
        by_cases hi0 : i = 0
        · subst hi0
          walk_at "mine go"
          rename Fr _ _ _ _ => FF
          rename News _ _ _ _ => NN
          exact hend _ _ _ 63 hpn FF NN
        · have hi1 : ((i : Nat) : Int) ≠ 0 := by omega
          rw [if_neg hi0] at hpn
          walk_at "mine go"
          · exfalso; omega
          · rename Fr _ _ _ _ => FF
            rename News _ _ _ _ => NN
            exact hend _ _ _ 45 hpn FF NN
  case done =>
    rintro h2 tk2 m' news' F2 N2 ⟨⟨u, rfl⟩, ws, n, rfl, hs⟩
    clear FF NN
    have hwl : ws.length ≤ 10 := by
      have := hs.length
      rw [List.length_map, List.length_take] at this
      simp [tabAd] at this
      omega
    walk_at "mine go"
    rename Fr _ _ _ _ => FF
    rename News _ _ _ _ => NN
    show wpAny _ _ (call (Value.builtin "str.join") [Value.str _ _, Value.ref ra]) _ _ _
    have e10 : (signs M).take (tabAd.map Value.ref).length = signs M := List.take_of_length_le (by rw [signs_length]; decide)
    rw [e10] at hs
    refine join_list (x := Str.ofString "") (ys := (signs M).map fun c => tx [c]) (News.isList NN List.mem_cons_self) hs ?_ ?_
    · have h1 := sum_one (signs M)
      rw [h1, List.length_map, signs_length]
      decide
    intro t' kk
    dsimp only
    have e : Txt.join (Str.ofString "") ((signs M).map fun c => tx [c]) = tx (signs M) := by
      refine (eq_of_beq (join_closes (sep' := tx []) rfl)).trans ?_
      refine cp_inj ?_
      rw [cp_join0]
    rw [e]
    exact hQ _ _ _ FF.keep
end Mine
end
section
open PySem PySem.W PyProof.Rows PySem.Calls
set_option Elab.async false
set_option maxRecDepth 100000
set_option maxHeartbeats 8000000
namespace Mine
theorem fill_me12 (w : World) (h : Heap) (_ : (KK w.params).In h) : PySem.Challenge.rw_oc0163_01.row.prog = PySem.Challenge.rw_oc0163_01.row.prog := by
  revert w h
  k_fill
  intros
  rfl
local macro_rules | `(tactic| walk_at "mine sides") => `(tactic| ((case k3 => k_asm); (case k5 => k_asm); (case k6 => k_dflt k_is); (case k7 => k_is); (case k8 => k_room); (case k9 => first | exact BindsTo.of_eq rfl | exact binds_K (by k_in) rfl (by k_is) rfl rfl rfl | fail "mine enter: no rule for these arguments"); (case c5 => decide); (case kB => exact locs rfl); (case c2 => exact rfl); (case c3 => exact rfl); (case c4 => exact rfl)))
local macro_rules | `(tactic| walk_at "mine go") => `(tactic| (repeat' (first | (k_unfold; (try dsimp only)) | ((fail_if_success (with_reducible show wpAny _ _ (exec (Stmt.For _ _ _ _ _) _) _ _ _)); (fail_if_success (with_reducible show wpAny _ _ (exec (Stmt.While _ _ _ _) _) _ _ _)); (fail_if_success (with_reducible show InvEndN _ _ _ _ _ _ _)); (fail_if_success (with_reducible show wpAny _ _ (eval (Expr.ListComp _ _ _ _) _) _ _ _)); (fail_if_success (with_reducible show KswEnd _ _ _ _ _ _ _ _ _ _ _ _)); walk1) | (dsimp only; (fail_if_success (with_reducible show wpAny _ _ (exec (Stmt.For _ _ _ _ _) _) _ _ _)); (fail_if_success (with_reducible show wpAny _ _ (exec (Stmt.While _ _ _ _) _) _ _ _)); (fail_if_success (with_reducible show InvEndN _ _ _ _ _ _ _)); (fail_if_success (with_reducible show wpAny _ _ (eval (Expr.ListComp _ _ _ _) _) _ _ _)); (fail_if_success (with_reducible show KswEnd _ _ _ _ _ _ _ _ _ _ _ _)); walk1) | fail "mine go: no step")))
theorem fr_kp12 {h₀ h h' : Heap} {L : Addr} {m : Str → Option Value} (F : Fr h₀ L h m) (k : Kp h h') : Fr h₀ L h' m := F.keeps k
local macro_rules | `(tactic| walk_at "mine toiter") => `(tactic| (repeat ((fail_if_success (with_reducible show wpAny _ _ (pyIter _) _ _ _)); first | walk1 | (dsimp only; walk1))))
local macro_rules | `(tactic| walk_at "subscriptTail") => `(tactic| (k_here; (with_reducible show wpAny _ _ (subscriptTail _ _ (Value.str _ _) (Value.int _ _)) _ _ _); refine item_str (fitsSsize_of (N := 9223372036854775808) (by omega) (by omega) (by decide)) (by omega) (by omega) ?_; intro _))
section
variable {w : World} {A : Around} {s : Shared} {mean : ExcName → Option Value} {mg mb : Str → Option Value}
theorem enterC {R : Result → Shared → Prop} {name qual : Str} {params : Arguments} {body : List Stmt} {scope : Scope} {dV kV doc pm cdv ct oc : Value} {an od : Option Addr} {osl : Array (Option Value)} {f : Addr} {args : Args} {binds : List (Str × Value)}
    (X : (KK w.params).In s.heap) (T : Top QV (looseW QV loose0) mean mg mb s.heap)
    (ho : (KK w.params).lookup f = some ⟨oc, od, .func (fnOf name qual params body scope dV kV doc pm an cdv ct), osl⟩) (hcd : codeIn (KK w.params) cdv qual = true) (hroom : A.depth < recursionLimit)
    (hbind : BindsTo s (fnOf name qual params body scope dV kV doc pm an cdv ct) args binds)
    (hkind : (binds.all fun y => scope.names.lookup y.1 == some .local || scope.names.lookup y.1 == some .cell) = true) (hnd : ((cellsFrom 0 scope.names []).map (·.1)).Nodup)
    (h : ∀ L h₁ tk cells, Fr s.heap L h₁ (bindL (envOfC qual scope L f cdv).kindOf binds fun _ => none) → News s.heap L h₁ cells → CellsAre (bindC (envOfC qual scope L f cdv).kindOf binds fun _ => none) (cellsFrom (L + 1) scope.names []) cells →
      wpAny (model PR w) (A.deeper (envOfC qual scope L f cdv)) (execs body (envOfC qual scope L f cdv))
        (fun fl s' => R (.ok (.ret (match fl with | .ret v => v | _ => .none))) s') (fun _ _ => False) { s with heap := h₁, toks := tk })
    (hco : scope.isCoroutine = false) (hgen : scope.isGenerator = false) (hk : scope.kind = .function) : codeAny (model PR w) A (.call (.ref f) args) R s := by
  refine codeAny_call_function hroom (X _ _ ho) rfl hco hgen rfl (codeRec_of X hcd) (hbind _ _ _ _ ?_)
  refine wpAny_newFunctionEnv_cells hk (kindsX hkind _) fun env' he s' x => ?_
  subst he
  refine ⟨T.nolimit.keeps x.toInCall.keep, codeAny_func ?_⟩
  obtain ⟨h₁, tk, rfl, _⟩ := x.done
  have hk₁ := x.toInCall.keep
  obtain ⟨cells, NC, Y⟩ := Cl.news (h₀ := s.heap) (Nat.le_refl _) fun n c hm => ⟨x.cell n c (lookup_of_mem_nodup (cellsFrom_names scope.names 0 (s.heap.objs.size + 1) [] [] rfl ▸ hnd) hm), x.above n c hm⟩
  exact wpAny_mono (h s.heap.objs.size h₁ tk cells ⟨x.toInCall.ns, hk₁, Nat.le_refl _⟩ NC Y) (fun _ _ y => y) fun _ _ y => y.elim
end
structure SA (vs : List Value) (ys : List Str) : Prop where
  go : StrsAre vs ys
theorem nm12 {h₀ h : Heap} {L q : Addr} {o1 : Obj} {r : List (Addr × Obj)} (_ : News h₀ L h ((q, o1) :: r)) : ∃ q', q' = q := ⟨q, rfl⟩
theorem fr_new12 {h₀ h : Heap} {L D : Addr} {m : Str → Option Value} (F : Fr h₀ L h m) (e : h.get? D = none) : D ≠ L ∧ h₀.get? D = none := by
  refine ⟨fun q => ?_, ?_⟩
  · obtain ⟨oL, _, _, hL, _⟩ := F.ns
    rw [q, hL] at e
    cases e
  · cases e2 : h₀.get? D with
    | none => rfl
    | some o => rw [F.keep _ _ e2] at e; cases e
theorem len_w {prog : Program} {w : World} {A : Around} {E : Value → Shared → Prop} {s : Shared} {l : Addr} {vs : List Value} {c : Nat} {Q : Value → Shared → Prop} (hl : s.heap.IsList l vs.toArray) (e : vs.length = c) (hc : c ≤ 100)
    (h : Q (.int (c : Int) (s.toks + 1)) { s with toks := s.toks + 1 + 1 }) : wpAny (model prog w) A (call (.builtin "len") [.ref l]) Q E s :=
  len_list hl (by rw [List.size_toArray]; omega) (by rw [List.size_toArray, e]; exact h)
theorem c_missing {w : World} {E : Value → Shared → Prop} {s : Shared} {mean : ExcName → Option Value} {mg mb : Str → Option Value} {e1 : Env} {Q : Value → Shared → Prop} {l1 l2 : Addr} {us vs : List Value} {xs ys : List Str}
    (X : (KK w.params).In s.heap) (T : Top QV (looseW QV loose0) mean mg mb s.heap) (hl1 : s.heap.IsList l1 us.toArray) (hl2 : s.heap.IsList l2 vs.toArray) (hi1 : StrsAre us xs) (hi2 : StrsAre vs ys) (hn1 : us.length ≤ 100) (hn2 : vs.length ≤ 100)
    (hQ : ∀ r vs' n' h' tk', Kp s.heap h' → h'.get? r = some (listOf vs'.toArray n') → s.heap.get? r = none → StrsAre vs' (missR ys xs.reverse []) → Q (.ref r) {s with heap := h', toks := tk'}) :
    wpAny (model PR w) (callerA.deeper e1) (call (.ref 145) [.ref l1, .ref l2]) Q E s := by
  w_on
  refine wpAny_call ?_
  k_dflt (refine' enterC (binds := [(Str.ofString "old", .ref l1), (Str.ofString "new", .ref l2)]) ?k3 ?k5 ?k6 ?k7 ?k8 ?k9 ?kB ?kD ?_ ?c2 ?c3 ?c4)
  (case k3 => k_asm); (case k5 => k_asm); (case k6 => k_dflt k_is); (case k7 => k_is); (case k8 => k_room); (case k9 => first | exact BindsTo.of_eq rfl | exact binds_K (by k_in) rfl (by k_is) rfl rfl rfl | fail "mine enter: no rule for these arguments"); (case kB => exact rfl); (case kD => decide +kernel); (case c2 => exact rfl); (case c3 => exact rfl); (case c4 => exact rfl)
  intro L' h' tk' cells' F' N' Y'
  obtain ⟨ok, oo, hE', dk, dold⟩ := CellsAre.two Y'
  subst hE'
  clear Y'
  replace dk : ok.data = .cell none := dk
  replace dold : oo.data = .cell (some (.ref l1)) := dold
  have hus : us.length = xs.length := hi1.length
  have hvs : vs.length = ys.length := hi2.length
  have hIa : SA us xs := ⟨hi1⟩
  have hIb : SA vs ys := ⟨hi2⟩
  (try dsimp only)
  walk_at "mine go"
  refine wpAny_For ?_
  walk_at "mine toiter"
  rename IsRange _ _ _ _ _ _ _ _ => RG
  dsimp only at RG
  rename Fr _ _ _ _ => FF
  rename News _ _ _ _ => NN
  obtain ⟨ra, rfl⟩ := nm12 NN
  have hra : L' + 1 + 1 < ra ∧ L' + 1 < ra := by assumption
  have NN2 : News s.heap L' _ ((L' + 1 + 1, ok) :: [(ra, listOf #[] 0), (L' + 1, oo)]) := fun p hp => NN p (by simp only [List.mem_cons, List.not_mem_nil, or_false] at hp ⊢; rcases hp with h | h | h <;> simp [h])
  have mk := kstMark
  refine for_range_cell (n := xs.length) (cx := L' + 1 + 1) (J := fun i news₁ => ∃ ws zs n, news₁ = [(ra, listOf ws.toArray n), (L' + 1, oo)] ∧ StrsAre ws zs ∧ zs ++ missR ys (xs.reverse.drop i) (xs.drop (xs.length - i)) = missR ys xs.reverse [] ∧ ws.length ≤ i) rfl RG (small_down (by omega) (by omega) (by omega) (by omega)) (by rw [rangeSize_downNat]; omega) rfl rfl rfl ?hcx FF NN2 dk ⟨[], [], 0, rfl, .nil, by simp, Nat.le_refl 0⟩ ?step ?done
  case hcx =>
    intro p hp
    rcases List.mem_cons.mp hp with rfl | hp
    · exact Nat.ne_of_gt hra.1
    · rw [List.mem_singleton.mp hp]; exact Nat.ne_of_lt (Nat.lt_succ_self _)
  case step =>
    rintro i t0 o2 news₁ h tk own hin ⟨ws, zs, n, rfl, hs, hz, hwl⟩ ha hoff ho2 F1 N1
    clear FF NN NN2 RG
    simp only [List.cons_append, List.nil_append] at N1
    obtain ⟨k, hk⟩ : ∃ k, (xs.length : Int) - 1 + (i : Int) * -1 = k := ⟨_, rfl⟩
    replace ho2 : o2.data = .cell (some (.int k t0)) := by rw [ho2, ← hk]
    have hk0 : 0 ≤ k := by omega
    have hk1 : k < (xs.length : Int) := by omega
    walk_at "mine go"
    obtain ⟨z, hz0⟩ : ∃ z, xs[k.toNat]? = some z := ⟨xs[k.toNat]'(by omega), List.getElem?_eq_getElem (by omega)⟩
    refine listComp_kp (by with_unfolding_all rfl) rfl (by decide) ?_
    walk_at "mine toiter"
    rename Fr _ _ _ _ => FF
    rename News _ _ _ _ => NN
    rw [slice_from_l us hk0] at NN
    clear F1 N1
    refine filt_comp (lo := l1) (us := us) (xs := xs) (k := k) (z := z) (co := L' + 1) (ck := L' + 1 + 1) (oO := oo) (oK := o2) (vs := us.drop k.toNat) (ys := xs.drop k.toNat) rfl (News.isList NN List.mem_cons_self) (hIa.go.drop' _) (by rw [List.length_drop]; omega) (by decide) rfl rfl (fun _ => rfl) (fun _ => rfl) rfl rfl (NN (L' + 1, oo) (by simp)).1 dold (NN (L' + 1 + 1, o2) (by simp)).1 ho2 (hl1.at fun o e => FF.keep _ _ e) hIa.go hk0 hz0 (by omega) ?_
    intro D1 ws1 c1 h3 tk3 k3 hD1 hD0 hs1
    dsimp only at k3 hD0
    have nD1 : ∀ p ∈ [(L' + 1 + 1, o2), (ra, listOf ws.toArray n), (L' + 1, oo)] ++ own, p.1 ≠ D1 := fun p hp e => by
      have := (NN p (List.mem_cons_of_mem _ hp)).1
      rw [e, hD0] at this
      cases this
    have N3 : News s.heap L' h3 ((D1, listOf ws1.toArray c1) :: (L' + 1 + 1, o2) :: (ra, listOf ws.toArray n) :: (L' + 1, oo) :: own) := fun p hp => by
      rcases List.mem_cons.mp hp with rfl | hp
      · exact ⟨hD1, fr_new12 FF hD0⟩
      · exact ⟨k3 _ _ (NN p (List.mem_cons_of_mem _ hp)).1, (NN p (List.mem_cons_of_mem _ hp)).2⟩
    have F3 := fr_kp12 FF k3
    have hw1 : ws1.length = (xs.drop k.toNat).count z := by rw [hs1.length, cnt_filter]
    have hc1 : (xs.drop k.toNat).count z ≤ 100 := Nat.le_trans List.count_le_length (by rw [List.length_drop]; omega)
    clear FF NN k3 hD1 hD0
    walk_at "mine go"
    refine len_w (News.isList N3 List.mem_cons_self) hw1 hc1 ?_
    walk_at "mine go"
    rename Fr _ _ _ _ => FF
    rename News _ _ _ _ => NN
    refine listComp_kp (by with_unfolding_all rfl) rfl (by decide) ?_
    walk_at "mine toiter"
    refine filt_comp (lo := l1) (us := us) (xs := xs) (k := k) (z := z) (co := L' + 1) (ck := L' + 1 + 1) (oO := oo) (oK := o2) (vs := vs) (ys := ys) rfl (hl2.at fun o e => FF.keep _ _ e) hIb.go (by omega) (by decide) rfl rfl (fun _ => rfl) (fun _ => rfl) rfl rfl (NN (L' + 1, oo) (by simp)).1 dold (NN (L' + 1 + 1, o2) (by simp)).1 ho2 (hl1.at fun o e => FF.keep _ _ e) hIa.go hk0 hz0 (by omega) ?_
    intro D2 ws2 c2 h4 tk4 k4 hD2 hD0 hs2
    dsimp only at k4 hD0
    have N4 : News s.heap L' h4 ((L' + 1 + 1, o2) :: (ra, listOf ws.toArray n) :: (L' + 1, oo) :: own) := fun p hp => ⟨k4 _ _ (NN p (List.mem_cons_of_mem _ hp)).1, (NN p (List.mem_cons_of_mem _ hp)).2⟩
    have N5 : News s.heap L' h4 ((D2, listOf ws2.toArray c2) :: (L' + 1 + 1, o2) :: (ra, listOf ws.toArray n) :: (L' + 1, oo) :: own) := fun p hp => by
      rcases List.mem_cons.mp hp with rfl | hp
      · exact ⟨hD2, fr_new12 FF hD0⟩
      · exact N4 p hp
    have F4 := fr_kp12 FF k4
    have hw2 : ws2.length = ys.count z := by rw [hs2.length, cnt_filter]
    have hc2 : ys.count z ≤ 100 := Nat.le_trans List.count_le_length (by omega)
    clear FF NN k4 hD2 hD0 N4
    walk_at "mine go"
    refine len_w (News.isList N5 List.mem_cons_self) hw2 hc2 ?_
    have hkn : k.toNat = xs.length - 1 - i := by omega
    have hz1 : xs[xs.length - 1 - i]? = some z := by rw [← hkn]; exact hz0
    have hst := miss_step (ys := ys) hin hz1
    rw [← hkn] at hst
    have hgd : xs.getD k.toNat Str.empty = z := by rw [List.getD_eq_getElem?_getD, hz0]; rfl
    walk_at "mine go"
    · rename_i tz
      rename (_ : Int) < _ => hlt
      have N6 : News s.heap L' h4 ((L' + 1 + 1, o2) :: (ra, listOf ws.toArray n) :: (L' + 1, oo) :: own) := fun p hp => N5 p (List.mem_cons_of_mem _ hp)
      rw [hgd]
      refine append_K F4 N6 (.tail (Nat.ne_of_lt hra.1) (.head ?_)) ?_ (by rw [PySem.sizeLine_eq, List.size_toArray]; omega)
      · intro p hp
        rcases List.mem_cons.mp hp with rfl | hp
        · exact Nat.ne_of_lt hra.2
        · exact (hoff p hp).2 _ List.mem_cons_self
      intro h5 F5 N7
      simp only [List.push_toArray] at N7
      have N8 : News s.heap L' h5 ((L' + 1 + 1, o2) :: ([(ra, listOf (ws ++ [Value.str z tz]).toArray (n + 1)), (L' + 1, oo)] ++ own)) := N7
      clear F4 N5 N6 N7
      walk_at "mine go"
      refine ⟨_, _, o2, _, [(ra, listOf (ws ++ [Value.str z tz]).toArray (n + 1)), (L' + 1, oo)], rfl, F5, ho2, N8, rfl, ws ++ [Value.str z tz], zs ++ [z], n + 1, rfl, hs.append' (.cons _ _ .nil), ?_, ?_⟩
      · rw [← hz, hst, if_pos (by omega)]
        simp
      · simp only [List.length_append, List.length_cons, List.length_nil]; omega
    · rename ¬ (_ : Int) < _ => hlt
      have N6 : News s.heap L' h4 ((L' + 1 + 1, o2) :: (ra, listOf ws.toArray n) :: (L' + 1, oo) :: own) := fun p hp => N5 p (List.mem_cons_of_mem _ hp)
      refine ⟨_, _, o2, _, [(ra, listOf ws.toArray n), (L' + 1, oo)], rfl, F4, ho2, N6, rfl, ws, zs, n, rfl, hs, ?_, by omega⟩
      rw [← hz, hst, if_neg (by omega), List.nil_append]
  case done =>
    rintro h2 tk2 o2 v2 news' F2 ho2 N2 ⟨ws, zs, n, rfl, hs, hz, hwl⟩
    clear FF NN NN2 RG
    rw [miss_end, List.append_nil] at hz
    subst hz
    walk_at "mine go"
    rename Fr _ _ _ _ => FF
    rename News _ _ _ _ => NN
    dsimp only
    exact hQ ra ws n _ _ FF.keep (NN (ra, listOf ws.toArray n) (by simp)).1 (NN (ra, listOf ws.toArray n) (by simp)).2.2 hs
end Mine
end
section
open PySem PySem.W PyProof.Rows PySem.Calls
set_option Elab.async false
set_option maxRecDepth 100000
set_option maxHeartbeats 8000000
namespace Mine
theorem fill_me13 (w : World) (h : Heap) (_ : (KK w.params).In h) : PySem.Challenge.rw_oc0163_01.row.prog = PySem.Challenge.rw_oc0163_01.row.prog := by
  revert w h
  k_fill
  intros
  rfl
local macro_rules | `(tactic| walk_at "mine sides") => `(tactic| ((case k3 => k_asm); (case k5 => k_asm); (case k6 => k_dflt k_is); (case k7 => k_is); (case k8 => k_room); (case k9 => first | exact BindsTo.of_eq rfl | exact binds_K (by k_in) rfl (by k_is) rfl rfl rfl | fail "mine enter: no rule for these arguments"); (case c5 => decide); (case kB => exact locs rfl); (case c2 => exact rfl); (case c3 => exact rfl); (case c4 => exact rfl)))
local macro_rules | `(tactic| walk_at "mine go") => `(tactic| (repeat' (first | (k_unfold; (try dsimp only)) | ((fail_if_success (with_reducible show wpAny _ _ (exec (Stmt.For _ _ _ _ _) _) _ _ _)); (fail_if_success (with_reducible show wpAny _ _ (exec (Stmt.While _ _ _ _) _) _ _ _)); (fail_if_success (with_reducible show InvEndN _ _ _ _ _ _ _)); (fail_if_success (with_reducible show wpAny _ _ (eval (Expr.ListComp _ _ _ _) _) _ _ _)); (fail_if_success (with_reducible show KswEnd _ _ _ _ _ _ _ _ _ _ _ _)); walk1) | (dsimp only; (fail_if_success (with_reducible show wpAny _ _ (exec (Stmt.For _ _ _ _ _) _) _ _ _)); (fail_if_success (with_reducible show wpAny _ _ (exec (Stmt.While _ _ _ _) _) _ _ _)); (fail_if_success (with_reducible show InvEndN _ _ _ _ _ _ _)); (fail_if_success (with_reducible show wpAny _ _ (eval (Expr.ListComp _ _ _ _) _) _ _ _)); (fail_if_success (with_reducible show KswEnd _ _ _ _ _ _ _ _ _ _ _ _)); walk1) | fail "mine go: no step")))
theorem fr_kp13 {h₀ h h' : Heap} {L : Addr} {m : Str → Option Value} (F : Fr h₀ L h m) (k : Kp h h') : Fr h₀ L h' m := F.keeps k
local macro_rules | `(tactic| walk_at "mine toiter") => `(tactic| (repeat ((fail_if_success (with_reducible show wpAny _ _ (pyIter _) _ _ _)); first | walk1 | (dsimp only; walk1))))
local macro_rules | `(tactic| walk_at "subscriptTail") => `(tactic| (k_here; (with_reducible show wpAny _ _ (subscriptTail _ _ (Value.str _ _) (Value.int _ _)) _ _ _); refine item_str (fitsSsize_of (N := 9223372036854775808) (by omega) (by omega) (by decide)) (by omega) (by omega) ?_; intro _))
theorem c_left {w : World} {E : Value → Shared → Prop} {s : Shared} {mean : ExcName → Option Value} {mg mb : Str → Option Value} {e1 : Env} {Q : Value → Shared → Prop} {l1 l2 : Addr} {us vs : List Value} {xs ys : List Str}
    (X : (KK w.params).In s.heap) (T : Top QV (looseW QV loose0) mean mg mb s.heap) (hl1 : s.heap.IsList l1 us.toArray) (hl2 : s.heap.IsList l2 vs.toArray) (hi1 : StrsAre us xs) (hi2 : StrsAre vs ys) (hn1 : us.length ≤ 100) (hn2 : vs.length ≤ 100)
    (hQ : ∀ r vs' n' h' tk', Kp s.heap h' → h'.get? r = some (listOf vs'.toArray n') → s.heap.get? r = none → StrsAre vs' (leftS xs [] ys) → Q (.ref r) {s with heap := h', toks := tk'}) :
    wpAny (model PR w) (callerA.deeper e1) (call (.ref 150) [.ref l1, .ref l2]) Q E s := by
  w_on
  refine wpAny_call ?_
  k_dflt (refine' enterC (binds := [(Str.ofString "old", .ref l1), (Str.ofString "new", .ref l2)]) ?k3 ?k5 ?k6 ?k7 ?k8 ?k9 ?kB ?kD ?_ ?c2 ?c3 ?c4)
  (case k3 => k_asm); (case k5 => k_asm); (case k6 => k_dflt k_is); (case k7 => k_is); (case k8 => k_room); (case k9 => first | exact BindsTo.of_eq rfl | exact binds_K (by k_in) rfl (by k_is) rfl rfl rfl | fail "mine enter: no rule for these arguments"); (case kB => exact rfl); (case kD => decide +kernel); (case c2 => exact rfl); (case c3 => exact rfl); (case c4 => exact rfl)
  intro L' h' tk' cells' F' N' Y'
  obtain ⟨ok, oo, hE', dk, dold⟩ := CellsAre.two Y'
  subst hE'
  clear Y'
  replace dk : ok.data = .cell none := dk
  replace dold : oo.data = .cell (some (.ref l2)) := dold
  have hus : us.length = xs.length := hi1.length
  have hvs : vs.length = ys.length := hi2.length
  have hIa : SA us xs := ⟨hi1⟩
  have hIb : SA vs ys := ⟨hi2⟩
  (try dsimp only)
  walk_at "mine go"
  refine wpAny_For ?_
  walk_at "mine toiter"
  rename IsRange _ _ _ _ _ _ _ _ => RG
  dsimp only at RG
  rename Fr _ _ _ _ => FF
  rename News _ _ _ _ => NN
  obtain ⟨ra, rfl⟩ := nm12 NN
  have hra : L' + 1 + 1 < ra ∧ L' + 1 < ra := by assumption
  have NN2 : News s.heap L' _ ((L' + 1 + 1, ok) :: [(ra, listOf #[] 0), (L' + 1, oo)]) := fun p hp => NN p (by simp only [List.mem_cons, List.not_mem_nil, or_false] at hp ⊢; rcases hp with h | h | h <;> simp [h])
  have mk := kstMark
  refine for_range_cell (n := ys.length) (cx := L' + 1 + 1) (J := fun i news₁ => ∃ ws zs n, news₁ = [(ra, listOf ws.toArray n), (L' + 1, oo)] ∧ StrsAre ws zs ∧ zs ++ leftS xs (ys.take i) (ys.drop i) = leftS xs [] ys ∧ ws.length ≤ i) rfl RG (small_one (by omega) (by omega) (by omega) (by omega)) (by rw [rangeSize_nat]; omega) rfl rfl rfl ?hcx FF NN2 dk ⟨[], [], 0, rfl, .nil, by simp, Nat.le_refl 0⟩ ?step ?done
  case hcx =>
    intro p hp
    rcases List.mem_cons.mp hp with rfl | hp
    · exact Nat.ne_of_gt hra.1
    · rw [List.mem_singleton.mp hp]; exact Nat.ne_of_lt (Nat.lt_succ_self _)
  case step =>
    rintro i t0 o2 news₁ h tk own hin ⟨ws, zs, n, rfl, hs, hz, hwl⟩ ha hoff ho2 F1 N1
    clear FF NN NN2 RG
    simp only [List.cons_append, List.nil_append] at N1
    obtain ⟨k, hk⟩ : ∃ k, (0 : Int) + (i : Int) * 1 = k := ⟨_, rfl⟩
    replace ho2 : o2.data = .cell (some (.int k t0)) := by rw [ho2, ← hk]
    have hk0 : 0 ≤ k := by omega
    have hk1 : k < (ys.length : Int) := by omega
    walk_at "mine go"
    obtain ⟨z, hz0⟩ : ∃ z, ys[k.toNat]? = some z := ⟨ys[k.toNat]'(by omega), List.getElem?_eq_getElem (by omega)⟩
    refine listComp_kp (by with_unfolding_all rfl) rfl (by decide) ?_
    walk_at "mine toiter"
    rename Fr _ _ _ _ => FF
    rename News _ _ _ _ => NN
    rw [slice_upto_l vs (show (0 : Int) ≤ k + 1 by omega)] at NN
    clear F1 N1
    refine filt_comp (lo := l2) (us := vs) (xs := ys) (k := k) (z := z) (co := L' + 1) (ck := L' + 1 + 1) (oO := oo) (oK := o2) (vs := vs.take (k + 1).toNat) (ys := ys.take (k + 1).toNat) rfl (News.isList NN List.mem_cons_self) (hIb.go.take' _) (by rw [List.length_take]; omega) (by decide) rfl rfl (fun _ => rfl) (fun _ => rfl) rfl rfl (NN (L' + 1, oo) (by simp)).1 dold (NN (L' + 1 + 1, o2) (by simp)).1 ho2 (hl2.at fun o e => FF.keep _ _ e) hIb.go hk0 hz0 (by omega) ?_
    intro D1 ws1 c1 h3 tk3 k3 hD1 hD0 hs1
    dsimp only at k3 hD0
    have nD1 : ∀ p ∈ [(L' + 1 + 1, o2), (ra, listOf ws.toArray n), (L' + 1, oo)] ++ own, p.1 ≠ D1 := fun p hp e => by
      have := (NN p (List.mem_cons_of_mem _ hp)).1
      rw [e, hD0] at this
      cases this
    have N3 : News s.heap L' h3 ((D1, listOf ws1.toArray c1) :: (L' + 1 + 1, o2) :: (ra, listOf ws.toArray n) :: (L' + 1, oo) :: own) := fun p hp => by
      rcases List.mem_cons.mp hp with rfl | hp
      · exact ⟨hD1, fr_new12 FF hD0⟩
      · exact ⟨k3 _ _ (NN p (List.mem_cons_of_mem _ hp)).1, (NN p (List.mem_cons_of_mem _ hp)).2⟩
    have F3 := fr_kp13 FF k3
    have hw1 : ws1.length = (ys.take (k + 1).toNat).count z := by rw [hs1.length, cnt_filter]
    have hc1 : (ys.take (k + 1).toNat).count z ≤ 100 := Nat.le_trans List.count_le_length (by rw [List.length_take]; omega)
    clear FF NN k3 hD1 hD0
    walk_at "mine go"
    refine len_w (News.isList N3 List.mem_cons_self) hw1 hc1 ?_
    walk_at "mine go"
    rename Fr _ _ _ _ => FF
    rename News _ _ _ _ => NN
    refine listComp_kp (by with_unfolding_all rfl) rfl (by decide) ?_
    walk_at "mine toiter"
    refine filt_comp (lo := l2) (us := vs) (xs := ys) (k := k) (z := z) (co := L' + 1) (ck := L' + 1 + 1) (oO := oo) (oK := o2) (vs := us) (ys := xs) rfl (hl1.at fun o e => FF.keep _ _ e) hIa.go (by omega) (by decide) rfl rfl (fun _ => rfl) (fun _ => rfl) rfl rfl (NN (L' + 1, oo) (by simp)).1 dold (NN (L' + 1 + 1, o2) (by simp)).1 ho2 (hl2.at fun o e => FF.keep _ _ e) hIb.go hk0 hz0 (by omega) ?_
    intro D2 ws2 c2 h4 tk4 k4 hD2 hD0 hs2
    dsimp only at k4 hD0
    have N4 : News s.heap L' h4 ((L' + 1 + 1, o2) :: (ra, listOf ws.toArray n) :: (L' + 1, oo) :: own) := fun p hp => ⟨k4 _ _ (NN p (List.mem_cons_of_mem _ hp)).1, (NN p (List.mem_cons_of_mem _ hp)).2⟩
    have N5 : News s.heap L' h4 ((D2, listOf ws2.toArray c2) :: (L' + 1 + 1, o2) :: (ra, listOf ws.toArray n) :: (L' + 1, oo) :: own) := fun p hp => by
      rcases List.mem_cons.mp hp with rfl | hp
      · exact ⟨hD2, fr_new12 FF hD0⟩
      · exact N4 p hp
    have F4 := fr_kp13 FF k4
    have hw2 : ws2.length = xs.count z := by rw [hs2.length, cnt_filter]
    have hc2 : xs.count z ≤ 100 := Nat.le_trans List.count_le_length (by omega)
    clear FF NN k4 hD2 hD0 N4
    walk_at "mine go"
    refine len_w (News.isList N5 List.mem_cons_self) hw2 hc2 ?_
    have hkn : k.toNat = i := by omega
    have hkn1 : (k + 1).toNat = i + 1 := by omega
    have hz1 : ys[i]? = some z := by rw [← hkn]; exact hz0
    have hst := left_step (old := xs) hz1
    have hgd : ys.getD k.toNat Str.empty = z := by rw [List.getD_eq_getElem?_getD, hz0]; rfl
    walk_at "mine go"
    · rename_i tz
      rename (_ : Int) < _ => hlt
      rw [hkn1] at hlt
      have N6 : News s.heap L' h4 ((L' + 1 + 1, o2) :: (ra, listOf ws.toArray n) :: (L' + 1, oo) :: own) := fun p hp => N5 p (List.mem_cons_of_mem _ hp)
      rw [hgd]
      refine append_K F4 N6 (.tail (Nat.ne_of_lt hra.1) (.head ?_)) ?_ (by rw [PySem.sizeLine_eq, List.size_toArray]; omega)
      · intro p hp
        rcases List.mem_cons.mp hp with rfl | hp
        · exact Nat.ne_of_lt hra.2
        · exact (hoff p hp).2 _ List.mem_cons_self
      intro h5 F5 N7
      simp only [List.push_toArray] at N7
      have N8 : News s.heap L' h5 ((L' + 1 + 1, o2) :: ([(ra, listOf (ws ++ [Value.str z tz]).toArray (n + 1)), (L' + 1, oo)] ++ own)) := N7
      clear F4 N5 N6 N7
      walk_at "mine go"
      refine ⟨_, _, o2, _, [(ra, listOf (ws ++ [Value.str z tz]).toArray (n + 1)), (L' + 1, oo)], rfl, F5, ho2, N8, rfl, ws ++ [Value.str z tz], zs ++ [z], n + 1, rfl, hs.append' (.cons _ _ .nil), ?_, ?_⟩
      · rw [← hz, hst, if_pos (by omega)]
        simp
      · simp only [List.length_append, List.length_cons, List.length_nil]; omega
    · rename ¬ (_ : Int) < _ => hlt
      rw [hkn1] at hlt
      have N6 : News s.heap L' h4 ((L' + 1 + 1, o2) :: (ra, listOf ws.toArray n) :: (L' + 1, oo) :: own) := fun p hp => N5 p (List.mem_cons_of_mem _ hp)
      refine ⟨_, _, o2, _, [(ra, listOf ws.toArray n), (L' + 1, oo)], rfl, F4, ho2, N6, rfl, ws, zs, n, rfl, hs, ?_, by omega⟩
      rw [← hz, hst, if_neg (by omega), List.nil_append]
  case done =>
    rintro h2 tk2 o2 v2 news' F2 ho2 N2 ⟨ws, zs, n, rfl, hs, hz, hwl⟩
    clear FF NN NN2 RG
    rw [left_end, List.append_nil] at hz
    subst hz
    walk_at "mine go"
    rename Fr _ _ _ _ => FF
    rename News _ _ _ _ => NN
    dsimp only
    exact hQ ra ws n _ _ FF.keep (NN (ra, listOf ws.toArray n) (by simp)).1 (NN (ra, listOf ws.toArray n) (by simp)).2.2 hs
end Mine
end
section
set_option autoImplicit false
set_option maxRecDepth 100000
namespace Mine
open PySem PySem.W PyProof.Rows
theorem folded_rowT {W : Int} {ns : List Int} (h4 : 4 ≤ W) (h11 : W ≤ 11) : ∀ x ∈ foldedT W ns, Row Safe (cp x) ∧ 1 ≤ x.length ∧ x.length ≤ 21 := by
  intro x hx
  unfold foldedT at hx
  obtain ⟨n, _, hx⟩ := List.mem_flatMap.mp hx
  obtain ⟨r, hr, rfl⟩ := List.mem_map.mp hx
  have h1 : Row Safe r := fold_rows (w := W.toNat) (by omega) _ (signs n) (Nat.le_refl _) (by intro e; have := signs_length n; rw [e] at this; simp at this) (signs_safe n) r hr
  have h2 : r.length ≤ W.toNat + 10 := foldL_row (by omega) _ _ r hr
  have h3 : r.length ≠ 0 := fun e => row_ne h1 (List.length_eq_zero_iff.mp e)
  rw [len_cp, cp_tx]
  exact ⟨h1, by omega, by omega⟩
theorem folded_lenT {W : Int} : ∀ ns : List Int, (foldedT W ns).length ≤ 11 * ns.length
  | [] => Nat.le_refl _
  | n :: r => by
    have h1 := folded_lenT (W := W) r
    have h2 : (fold W.toNat (signs n)).length ≤ 11 := foldL_lenT W.toNat _ (signs n)
    have e : foldedT W (n :: r) = (fold W.toNat (signs n)).map tx ++ foldedT W r := rfl
    rw [e, List.length_append, List.length_map, List.length_cons]
    omega
theorem folded_neT {W : Int} {ns : List Int} (h : ns ≠ []) : foldedT W ns ≠ [] := by
  cases ns with
  | nil => exact absurd rfl h
  | cons n r =>
    have e : foldedT W (n :: r) = (fold W.toNat (signs n)).map tx ++ foldedT W r := rfl
    rw [e]
    intro q
    have := List.append_eq_nil_iff.mp q
    exact fold_ne (w := W.toNat) (signs n) (List.map_eq_nil_iff.mp this.1)
theorem folded_split {W : Int} {ns : List Int} (h4 : 4 ≤ W) (h11 : W ≤ 11) (h : ns ≠ []) : Txt.split (Str.join (tx [10]) (foldedT W ns)) (tx [10]) = foldedT W ns := by
  refine split_join (folded_neT h) fun r hr hc => ?_
  rcases row_se (folded_rowT h4 h11 r hr).1 10 hc with q | q
  · exact (safe_facts 10 q).2.1 rfl
  · exact absurd q (by decide)
theorem folded_joinlen {W : Int} {ns : List Int} (h4 : 4 ≤ W) (h11 : W ≤ 11) (h : ns.length ≤ 3) : (Str.join (tx [10]) (foldedT W ns)).length ≤ 1000 := by
  have h1 := join_len (k := 21) (rows := foldedT W ns) fun r hr => (folded_rowT h4 h11 r hr).2.2
  have h2 := folded_lenT (W := W) ns
  have h3 : (foldedT W ns).length * (21 + 1) ≤ 33 * 22 := Nat.mul_le_mul (by omega) (Nat.le_refl _)
  omega
theorem miss_facts {W : Int} {as bs : List Int} (h4 : 4 ≤ W) (h11 : W ≤ 11) (h : as.length ≤ 3) :
    (missR (foldedT W bs) (foldedT W as).reverse []).length ≤ 33 ∧ (∀ x ∈ missR (foldedT W bs) (foldedT W as).reverse [], Row Safe (cp x) ∧ 1 ≤ x.length ∧ x.length ≤ 21) := by
  refine ⟨?_, fun x hx => folded_rowT h4 h11 x (List.mem_reverse.mp (missR_mem _ _ _ x hx))⟩
  have h1 := missR_len (foldedT W bs) (foldedT W as).reverse []
  have h2 := folded_lenT (W := W) as
  rw [List.length_reverse] at h1
  omega
theorem leftS_mem2 {α : Type} [DecidableEq α] (old : List α) : ∀ (new pre : List α) (x : α), x ∈ leftS old pre new → x ∈ new
  | [], _, _, h => nomatch h
  | y :: r, pre, x, h => by
    unfold leftS at h
    split at h
    · rcases List.mem_cons.mp h with rfl | h
      · exact List.mem_cons_self
      · exact List.mem_cons_of_mem _ (leftS_mem2 old r _ x h)
    · exact List.mem_cons_of_mem _ (leftS_mem2 old r _ x h)
theorem signs_joinlen {α : Type} (f : α → Int) {prs : List α} (h : prs.length ≤ 3) (h0 : prs ≠ []) : (Str.join (tx [10]) ((prs.map f).map fun n => tx (signs n))).length ≤ 100 ∧ (Str.join (tx [10]) ((prs.map f).map fun n => tx (signs n))).length ≠ 0 := by
  have hm : ∀ r ∈ (prs.map f).map fun n => tx (signs n), r.length = 10 := by
    intro r hr
    obtain ⟨n, _, rfl⟩ := List.mem_map.mp hr
    rw [len_cp, cp_tx, signs_length]
  refine ⟨?_, join_ne (by simpa using h0) fun r hr => by rw [hm r hr]; decide⟩
  have h1 := join_len (k := 10) (rows := (prs.map f).map fun n => tx (signs n)) fun r hr => Nat.le_of_eq (hm r hr)
  rw [List.length_map, List.length_map] at h1
  omega
end Mine
end
section
set_option autoImplicit false
set_option maxRecDepth 100000
namespace Mine
open PySem PySem.W PyProof.Rows PySem.Calls
theorem news_kp14 {h₀ h h' : Heap} {L : Addr} {l : List (Addr × Obj)} (N : News h₀ L h l) (k : ∀ b o, h.get? b = some o → h'.get? b = some o) : News h₀ L h' l := fun p hp => ⟨k _ _ (N p hp).1, (N p hp).2⟩
theorem split_rows {prog : Program} {w : World} {A : Around} {E : Value → Shared → Prop} {s : Shared} {h₀ : Heap} {L : Addr} {m : PySem.Str → Option Value} {news : List (Addr × Obj)} {x y : PySem.Str} {t u : Tok} {Q : Value → Shared → Prop} {W : Int} {ns : List Int}
    (hF : Fr h₀ L s.heap m) (hN : News h₀ L s.heap news) (hx : x = Str.join (tx [10]) (foldedT W ns)) (hy : y = tx [10]) (h4 : 4 ≤ W) (h11 : W ≤ 11) (hn : ns.length ≤ 3) (hn0 : ns ≠ [])
    (h : ∀ D us h' k, StrsAre us (foldedT W ns) → us.length ≤ 33 → Fr h₀ L h' m → News h₀ L h' ((D, listOf us.toArray 0) :: news) → (∀ p ∈ news, p.1 < D) → Q (.ref D) { s with heap := h', toks := k }) :
    wpAny (model prog w) A (call (.builtin "str.split") [.str x t, .str y u]) Q E s := by
  subst hx hy
  have hl := folded_joinlen h4 h11 hn
  refine KSpl.split1 hF hN rfl (fun D l h' k e hS F N hlt => ?_) (by rw [PySem.sizeLine_eq]; omega)
  rw [folded_split h4 h11 hn0] at e
  rw [e] at hS
  refine h D _ h' k hS ?_ F N hlt
  have := folded_lenT (W := W) ns
  rw [hS.length]
  omega
theorem join_rows {prog : Program} {w : World} {A : Around} {E : Value → Shared → Prop} {s : Shared} {D : Addr} {ws : List Value} {t : Tok} {Q : Value → Shared → Prop} {W : Int} {as bs : List Int} {y : Str} (h4 : 4 ≤ W) (h11 : W ≤ 11) (hn : as.length ≤ 3) (hy : y = tx [10])
    (hl : s.heap.IsList D ws.toArray) (hS : StrsAre ws (missR (foldedT W bs) (foldedT W as).reverse []))
    (hQ : ∀ t' k, Q (.str (Str.join (tx [10]) (missR (foldedT W bs) (foldedT W as).reverse [])) t') { s with toks := k }) : wpAny (model prog w) A (call (.builtin "str.join") [.str y t, .ref D]) Q E s := by
  subst hy
  obtain ⟨h1, h2⟩ := miss_facts (bs := bs) h4 h11 hn
  refine join_list (ys := missR (foldedT W bs) (foldedT W as).reverse []) hl hS ?_ fun t' k => (show Txt.join (tx [10]) _ = Str.join (tx [10]) _ from eq_of_beq (join_closes rfl)) ▸ hQ t' k
  have h3 := sum_le (k := 21) (xs := missR (foldedT W bs) (foldedT W as).reverse []) fun x hx => (h2 x hx).2.2
  have h5 : (tx [10]).length = 1 := rfl
  rw [h5]
  have h6 : (missR (foldedT W bs) (foldedT W as).reverse []).length * 21 ≤ 33 * 21 := Nat.mul_le_mul h1 (Nat.le_refl _)
  omega
theorem miss_joinlen {W : Int} {as bs : List Int} (h4 : 4 ≤ W) (h11 : W ≤ 11) (hn : as.length ≤ 3) : (Str.join (tx [10]) (missR (foldedT W bs) (foldedT W as).reverse [])).length ≤ 10000 := by
  obtain ⟨h1, h2⟩ := miss_facts (bs := bs) h4 h11 hn
  have h3 := join_len (k := 21) fun x hx => (h2 x hx).2.2
  have h6 : (missR (foldedT W bs) (foldedT W as).reverse []).length * (21 + 1) ≤ 33 * 22 := Nat.mul_le_mul h1 (Nat.le_refl _)
  omega
end Mine
end
section
open PySem PySem.W PyProof.Rows PySem.Calls
set_option Elab.async false
set_option maxRecDepth 100000
set_option maxHeartbeats 8000000
namespace Mine
theorem fill_me14 (w : World) (h : Heap) (_ : (KK w.params).In h) : PySem.Challenge.rw_oc0163_01.row.prog = PySem.Challenge.rw_oc0163_01.row.prog := by
  revert w h
  k_fill
  intros
  rfl
local macro_rules | `(tactic| walk_at "mine sides") => `(tactic| ((case k3 => k_asm); (case k5 => k_asm); (case k6 => k_dflt k_is); (case k7 => k_is); (case k8 => k_room); (case k9 => first | exact BindsTo.of_eq rfl | exact binds_K (by k_in) rfl (by k_is) rfl rfl rfl | fail "mine enter: no rule for these arguments"); (case c5 => decide); (case kB => exact locs rfl); (case c2 => exact rfl); (case c3 => exact rfl); (case c4 => exact rfl)))
local macro_rules | `(tactic| walk_at "mine go") => `(tactic| (repeat' (first | (k_unfold; (try dsimp only)) | ((fail_if_success (with_reducible show wpAny _ _ (exec (Stmt.For _ _ _ _ _) _) _ _ _)); (fail_if_success (with_reducible show wpAny _ _ (exec (Stmt.While _ _ _ _) _) _ _ _)); (fail_if_success (with_reducible show InvEndN _ _ _ _ _ _ _)); (fail_if_success (with_reducible show wpAny _ _ (eval (Expr.ListComp _ _ _ _) _) _ _ _)); (fail_if_success (with_reducible show wpAny _ _ (call (Value.ref _) _) _ _ _)); (fail_if_success (with_reducible show wpAny _ _ (call (Value.ref _) _ _) _ _ _)); (fail_if_success (with_reducible show wpAny _ _ (call (Value.builtin "str.split") _) _ _ _)); (fail_if_success (with_reducible show wpAny _ _ (compareOp CmpOp.NotEq (Value.ref _) (Value.ref _)) _ _ _)); (fail_if_success (with_reducible show KswEnd _ _ _ _ _ _ _ _ _ _ _ _)); walk1) | (dsimp only; (fail_if_success (with_reducible show wpAny _ _ (exec (Stmt.For _ _ _ _ _) _) _ _ _)); (fail_if_success (with_reducible show wpAny _ _ (exec (Stmt.While _ _ _ _) _) _ _ _)); (fail_if_success (with_reducible show InvEndN _ _ _ _ _ _ _)); (fail_if_success (with_reducible show wpAny _ _ (eval (Expr.ListComp _ _ _ _) _) _ _ _)); (fail_if_success (with_reducible show wpAny _ _ (call (Value.ref _) _) _ _ _)); (fail_if_success (with_reducible show wpAny _ _ (call (Value.ref _) _ _) _ _ _)); (fail_if_success (with_reducible show wpAny _ _ (call (Value.builtin "str.split") _) _ _ _)); (fail_if_success (with_reducible show wpAny _ _ (compareOp CmpOp.NotEq (Value.ref _) (Value.ref _)) _ _ _)); (fail_if_success (with_reducible show KswEnd _ _ _ _ _ _ _ _ _ _ _ _)); walk1) | fail "mine go: no step")))
theorem fr_kp14 {h₀ h h' : Heap} {L : Addr} {m : Str → Option Value} (F : Fr h₀ L h m) (k : Kp h h') : Fr h₀ L h' m := F.keeps k
local macro_rules | `(tactic| walk_at "mine toiter") => `(tactic| (repeat ((fail_if_success (with_reducible show wpAny _ _ (pyIter _) _ _ _)); first | walk1 | (dsimp only; walk1))))
local macro_rules | `(tactic| walk_at "subscriptTail") => `(tactic| (k_here; (with_reducible show wpAny _ _ (subscriptTail _ _ (Value.str _ _) (Value.int _ _)) _ _ _); refine item_str (fitsSsize_of (N := 9223372036854775808) (by omega) (by omega) (by decide)) (by omega) (by omega) ?_; intro _))
theorem pairsOf_len : ∀ l : List Int, (pairsOf l).length ≤ l.length
  | [] => Nat.le_refl 0
  | [_] => Nat.zero_le _
  | a :: b :: r => by
    have := pairsOf_len r
    simp only [pairsOf, List.length_cons]
    omega
theorem pairsOf_half : ∀ l : List Int, 2 * (pairsOf l).length ≤ l.length
  | [] => Nat.le_refl 0
  | [_] => Nat.zero_le _
  | a :: b :: r => by
    have := pairsOf_half r
    simp only [pairsOf, List.length_cons]
    omega
theorem pairs_bound : ∀ {l : List Int}, (∀ a ∈ l, 0 ≤ a ∧ a < 65536) → ∀ p ∈ pairsOf l, (0 ≤ p.1 ∧ p.1 < 65536) ∧ (0 ≤ p.2 ∧ p.2 < 65536)
  | [], _, _, h => nomatch h
  | [_], _, _, h => nomatch h
  | a :: b :: r, hb, p, h => by
    rcases List.mem_cons.mp h with rfl | h
    · exact ⟨hb a List.mem_cons_self, hb b (List.mem_cons_of_mem _ List.mem_cons_self)⟩
    · exact pairs_bound (fun x hx => hb x (List.mem_cons_of_mem _ (List.mem_cons_of_mem _ hx))) p h
theorem signs_ok {α : Type} (f : α → Int) {prs : List α} (h : prs.length ≤ 3) : ((prs.map fun p => tx (signs (f p))).map (·.length)).sum + (prs.map fun p => tx (signs (f p))).length * (Str.ofString "\n").length ≤ 16777216 := by
  have h1 := sum_le (k := 10) (xs := prs.map fun p => tx (signs (f p))) (by
    intro x hx
    obtain ⟨p, _, rfl⟩ := List.mem_map.mp hx
    rw [len_signs]
    exact Nat.le_refl _)
  have h2 : (Str.ofString "\n").length = 1 := by decide +kernel
  rw [List.length_map] at h1 ⊢
  rw [h2]
  omega
theorem signs_join {α : Type} (f : α → Int) (prs : List α) : Txt.join (Str.ofString "\n") (prs.map fun p => tx (signs (f p))) = Str.join (tx [10]) ((prs.map f).map fun n => tx (signs n)) := by
  rw [List.map_map]
  exact eq_of_beq (join_closes nl_lit)
theorem join_signs {prog : Program} {w : World} {A : Around} {E : Value → Shared → Prop} {s : Shared} {α : Type} (f : α → Int) {prs : List α} {D : Addr} {ws : List Value} {t : Tok} {Q : Value → Shared → Prop} (h : prs.length ≤ 3) (hl : s.heap.IsList D ws.toArray) (hS : StrsAre ws (prs.map fun p => tx (signs (f p))))
    (hQ : ∀ bx t' k, bx = Str.join (tx [10]) ((prs.map f).map fun n => tx (signs n)) → Q (.str bx t') { s with toks := k }) : wpAny (model prog w) A (call (.builtin "str.join") [.str (Str.ofString "\n") t, .ref D]) Q E s :=
  join_list (ys := prs.map fun p => tx (signs (f p))) hl hS (signs_ok f h) fun t' k => hQ _ t' k (signs_join f prs)
theorem news_nil14 {h₀ h : Heap} {L : Addr} {m : Str → Option Value} (_ : Fr h₀ L h m) : News h₀ L h [] := News.nil
theorem tups_mem {h : Heap} {ts : List Addr} {T : Addr} {o : Obj} : (T, o) ∈ ts.filterMap (fun T => (h.get? T).map fun o => (T, o)) ↔ T ∈ ts ∧ h.get? T = some o := by
  rw [List.mem_filterMap]
  constructor
  · rintro ⟨T', h1, h2⟩
    cases e : h.get? T' with
    | none => rw [e] at h2; cases h2
    | some o' => rw [e] at h2; cases h2; exact ⟨h1, e⟩
  · rintro ⟨h1, h2⟩
    exact ⟨T, h1, by rw [h2]; rfl⟩
theorem fr_new14 {h₀ h : Heap} {L D : Addr} {m : Str → Option Value} (F : Fr h₀ L h m) (e : h.get? D = none) : D ≠ L ∧ h₀.get? D = none := by
  refine ⟨fun q => ?_, ?_⟩
  · obtain ⟨oL, _, _, hL, _⟩ := F.ns
    rw [q, hL] at e
    cases e
  · cases e2 : h₀.get? D with
    | none => rfl
    | some o => rw [F.keep _ _ e2] at e; cases e
theorem news_cons14 {h₀ h : Heap} {L D : Addr} {o : Obj} {l : List (Addr × Obj)} (N : News h₀ L h l) (e : h.get? D = some o) (q : D ≠ L ∧ h₀.get? D = none) : News h₀ L h ((D, o) :: l) := fun p hp => by
  rcases List.mem_cons.mp hp with rfl | hp
  · exact ⟨e, q⟩
  · exact N p hp
theorem fd14 (a b : Int) : a.fdiv 4096 * 4096 + b.fmod 4096 = a / 4096 * 4096 + b % 4096 := by
  rw [Int.fdiv_eq_ediv_of_nonneg a (show (0 : Int) ≤ 4096 by decide), Int.fmod_eq_emod_of_nonneg b (show (0 : Int) ≤ 4096 by decide)]
theorem two_of14 {h₀ h : Heap} {L D r l : Addr} {us vs : List Value} {k1 k2 n : Nat} {xs ys : List Str} {led : List (Addr × Obj)} (N : News h₀ L h led) (i j k : Nat) (hD : led[i]? = some (D, { cls := .type "tuple", data := .seq #[.ref r, .ref l] n })) (hr : led[j]? = some (r, listOf us.toArray k1)) (hl : led[k]? = some (l, listOf vs.toArray k2))
    (hx : StrsAre us xs) (hy : StrsAre vs ys) : TwoT h D xs ys :=
  ⟨r, l, us.toArray, vs.toArray, n, (N _ (List.mem_of_getElem? hD)).1, N.isList (List.mem_of_getElem? hr), N.isList (List.mem_of_getElem? hl), by simpa using hx, by simpa using hy⟩
theorem ret14 {R : Result → Shared → Prop} {x : Str} {s' : Shared} (h : R (.ok (.ret (.bool true))) s') : R (.ok (.ret (.bool (x == x)))) s' := by
  rw [beq_self_eq_true]
  exact h
theorem fr_map14 {h₀ h : Heap} {L : Addr} {m : Str → Option Value} (_ : Fr h₀ L h m) : ∃ m', m' = m := ⟨m, rfl⟩
theorem nm14 {h₀ h : Heap} {L q : Addr} {o1 : Obj} {r : List (Addr × Obj)} (_ : News h₀ L h ((q, o1) :: r)) : ∃ q', q' = q := ⟨q, rfl⟩
theorem wpAny_Constant_int14 {M : Model} {A : Around} {E : Value → Shared → Prop} {s : Shared} {env : Env} {i : Int} {k : Nat} {pos : Pos} {Q : Value → Shared → Prop} (h : Q (.int i s.toks) { s with toks := s.toks + 1 }) : wpAny M A (eval (.Constant (.int i) k pos) env) Q E s := fun _ _ _ => h
def PrsIn (tups : List (Addr × Obj)) (vs : List Value) (prs : List (Int × Int)) : Prop :=
  vs.length = prs.length ∧ ∀ (i : Nat) (v : Value) (p : Int × Int), vs[i]? = some v → prs[i]? = some p → ∃ T ta tb n, v = .ref T ∧ (T, ({ cls := .type "tuple", data := .seq #[.int p.1 ta, .int p.2 tb] n } : Obj)) ∈ tups
def PairsPost (g : Heap) (s : Shared) (L : Addr) (m : Str → Option Value) (prs : List (Int × Int)) (f : Flow) (s' : Shared) : Prop :=
  f = .next ∧ ∃ h' tk' pa vs' n tups, s' = { s with heap := h', toks := tk' } ∧ Fr g L h' (fun y => if y = Str.ofString "pairs" then some (.ref pa) else m y) ∧ News g L h' ((pa, listOf vs'.toArray n) :: tups) ∧ PrsIn tups vs' prs ∧ ∀ p ∈ tups, p.1 ≠ pa
theorem prs_at {tups : List (Addr × Obj)} {vs : List Value} {prs : List (Int × Int)} {h : Heap} (H : PrsIn tups vs prs) (N : ∀ p ∈ tups, h.get? p.1 = some p.2) : PrsAt h vs prs :=
  ⟨H.1, fun i v p h1 h2 => let ⟨T, ta, tb, n, e, hm⟩ := H.2 i v p h1 h2; ⟨T, ta, tb, e, _, N _ hm, rfl, n, rfl⟩⟩
theorem c_law {w : World} {s : Shared} {mean : ExcName → Option Value} {mg mb : Str → Option Value} {R : Result → Shared → Prop} {l : Addr} {vs : List Value} {ns : List Int}
    (X : (KK w.params).In s.heap) (T : Top QV (looseW QV loose0) mean mg mb s.heap) (hl : s.heap.IsList l vs.toArray) (hi : IntsAre vs ns) (hlen : ns.length ≤ 63)
    (hR : ∀ h' tk', Kp s.heap h' → R (.ok (.ret (.bool true))) {s with heap := h', toks := tk'}) :
    codeAny (model PR w) callerA (.call (.ref 162) ⟨[.ref l], []⟩) R s := by
  w_on
  k_dflt (refine' enterW (binds := [(Str.ofString "script", .ref l)]) ?k3 ?k5 ?k6 ?k7 ?k8 ?k9 ?kB ?_ ?c2 ?c3 ?c4 ?c5)
  walk_at "mine sides"
  intro L' h' F' N'
  try dsimp only
  have hvl : vs.length = ns.length := hi.length
  walk_at "mine go"
  rename Fr _ _ _ _ => FF
  rename News _ _ _ _ => NN
  obtain ⟨W, hW⟩ : ∃ W, 4 + (List.take 1 ns).sum.fmod 8 = W := ⟨_, rfl⟩
  have hW4 : 4 ≤ W ∧ W ≤ 11 := by
    have h1 := Int.fmod_eq_emod_of_nonneg (List.take 1 ns).sum (show (0 : Int) ≤ 8 by decide)
    omega
  dsimp only at FF
  rw [hW] at FF
  have hns : ns.length ≤ 63 := hlen
  obtain ⟨lc, rfl⟩ := nm14 NN
  refine listComp_kp (by with_unfolding_all rfl) rfl (by decide) ?_
  walk_at "mine toiter"
  rename Fr _ _ _ _ => F2
  rename News _ _ _ _ => N2
  rename IntsAre _ (List.take (min 5 _ - 1) _) => hI2
  obtain ⟨ld, rfl⟩ := nm14 N2
  obtain ⟨es, hes⟩ : ∃ es, List.take (min 5 ns.length - 1) (List.drop 1 ns) = es := ⟨_, rfl⟩
  have hesl : es.length ≤ 4 := by rw [← hes, List.length_take]; omega
  rw [hes] at hI2
  refine comp_map1 (ns := es) (fun a => a.fmod 65536) rfl (News.isList N2 List.mem_cons_self) (by have := hI2.length; omega) hI2 (by decide) rfl rfl ?elt ?fin
  case elt =>
    intro a ta C m₂ h tk E' hn hx
    refine wpAny_BinOp (wpAny_Name (wpAny_loadName_local rfl rfl hn hx ?_))
    refine wpAny_Constant_int14 ?_
    refine mod_int (by decide) ?_
    exact ⟨⟨_, rfl⟩, h, _, rfl, fun _ _ e => e⟩
  case fin =>
    intro D ws n h3 tk3 k3 hD hD0 hI3
    dsimp only at k3 hD0
    have F3 := fr_kp14 F2 k3
    have hlc : h3.IsList lc #[Value.int 33188 _, Value.int 493 _] := (News.isList N2 (List.mem_cons_of_mem _ List.mem_cons_self)).at fun o e => k3 _ _ e
    refine add_arrays_ints (ns := [33188, 493]) (ms := es.map fun a => a.fmod 65536) F3 News.nil hlc ⟨_, hD, rfl, _, rfl⟩ (.cons _ _ (.cons _ _ .nil)) hI3 ?_ (by rw [PySem.sizeLine_eq, List.length_map]; show 2 + _ ≤ _; omega)
    intro h4 F4 N4 hI4
    clear F2 N2 F3 k3 hD hD0 hlc hI2
    repeat ((fail_if_success (with_reducible show wpAny _ _ (exec (Stmt.Assign _ _ _) _) _ _ _)); first | walk1 | (dsimp only; walk1))
    rename Fr _ _ _ _ => F5
    rename News _ _ _ _ => N5
    dsimp only at F5 N5
    obtain ⟨dr, hdr⟩ : ∃ dr, h3.objs.size = dr := ⟨_, rfl⟩
    rw [hdr] at F5 N5
    obtain ⟨m5, hm5⟩ := fr_map14 F5
    refine wpAny_mono (Q := fun f s' => Inn (PairsPost s.heap s L' m5 (pairsOf ([33188, 493] ++ es.map fun a => a.fmod 65536)) f s')) ?pairs (fun f s' (hq : Inn _) => ?cont) (fun _ _ e => e)
    case pairs =>
      have hsl := slices2 hI4 (by simp) (by simp only [List.length_append, List.length_map, List.length_cons, List.length_nil]; omega)
      have hpl : (pairsOf ([33188, 493] ++ es.map fun a => a.fmod 65536)).length ≤ 1000 := by
        refine Nat.le_trans (pairsOf_len _) ?_
        simp only [List.length_append, List.length_map, List.length_cons, List.length_nil]
        omega
      repeat ((fail_if_success (with_reducible show wpAny _ _ (call (Value.type "zip") _) _ _ _)); first | walk1 | (dsimp only; walk1))
      rename Fr _ _ _ _ => F6
      rename News _ _ _ _ => N6
      refine zip_make (News.isList N6 (List.mem_cons_of_mem _ List.mem_cons_self)) (News.isList N6 List.mem_cons_self) ?_
      intro z h6 k6 Z6
      dsimp only at k6 Z6
      repeat ((fail_if_success (with_reducible show wpAny _ _ (call (Value.type "list") _) _ _ _)); first | walk1 | (dsimp only; walk1))
      refine list_zip rfl k6 Z6 hsl.1 hpl ?_
      intro D7 h7 ts c7 k7 hD hD0 htl hts
      have F7 := fr_kp14 F6 k7
      have N7 : News s.heap L' h7 ((D7, listOf (ts.map Value.ref).toArray c7) :: ts.filterMap (fun T => (h7.get? T).map fun o => (T, o))) := fun p hp => by
        rcases List.mem_cons.mp hp with rfl | hp
        · exact ⟨hD, fr_new14 F6 hD0⟩
        · obtain ⟨T, oT⟩ := p
          obtain ⟨h1, h2⟩ := tups_mem.mp hp
          obtain ⟨j, hj⟩ := List.getElem?_of_mem h1
          exact ⟨h2, fr_new14 F6 (hts j T hj).2.1⟩
      clear F6 N6 F5 N5
      walk_at "mine go"
      rename Fr _ _ _ _ => F8
      rename News _ _ _ _ => N8
      subst hm5
      refine ⟨rfl, _, _, D7, ts.map Value.ref, c7, ts.filterMap (fun T => (h7.get? T).map fun o => (T, o)), rfl, F8, N8, ⟨by rw [List.length_map, htl], ?_⟩, ?_⟩
      · intro i v p hv hp
        rw [List.getElem?_map] at hv
        cases hT : ts[i]? with
        | none => rw [hT] at hv; cases hv
        | some T =>
          rw [hT] at hv
          obtain ⟨t1, t2, x, y, t3, t4, t5⟩ := hts i T hT
          obtain ⟨ta, tb, q1, q2⟩ := hsl.2 i p hp
          have e1 : x = .int p.1 ta := Option.some.inj (t3.symm.trans q1)
          have e2 : y = .int p.2 tb := Option.some.inj (t4.symm.trans q2)
          subst e1 e2
          exact ⟨T, ta, tb, _, (Option.some.inj hv).symm, tups_mem.mpr ⟨List.mem_of_getElem? hT, t5⟩⟩
      · intro p hp
        obtain ⟨T, oT⟩ := p
        obtain ⟨h1, h2⟩ := tups_mem.mp hp
        obtain ⟨j, hj⟩ := List.getElem?_of_mem h1
        exact (hts j T hj).1
    case cont =>
      obtain ⟨rfl, h5, tk5, pa, vs5, n5, tups, rfl, F6, N6, hprs, hpt⟩ := hq.go
      subst hm5
      dsimp only
      have hpb : ∀ p ∈ pairsOf ([33188, 493] ++ es.map fun a => a.fmod 65536), (0 ≤ p.1 ∧ p.1 < 65536) ∧ (0 ≤ p.2 ∧ p.2 < 65536) := pairs_bound (by
        intro a ha
        rcases List.mem_append.mp ha with h | h
        · simp only [List.mem_cons, List.not_mem_nil, or_false] at h
          omega
        · obtain ⟨b, _, rfl⟩ := List.mem_map.mp h
          have h1 := Int.fmod_eq_emod_of_nonneg b (show (0 : Int) ≤ 65536 by decide)
          omega)
      have hpl : (pairsOf ([33188, 493] ++ es.map fun a => a.fmod 65536)).length ≤ 3 := by
        have := pairsOf_half ([33188, 493] ++ es.map fun a => a.fmod 65536)
        simp only [List.length_append, List.length_map, List.length_cons, List.length_nil] at this
        omega
      have hp0 : pairsOf ([33188, 493] ++ es.map fun a => a.fmod 65536) ≠ [] := by simp [pairsOf]
      generalize pairsOf ([33188, 493] ++ es.map fun a => a.fmod 65536) = prs at hprs hpb hpl hp0
      clear F5 N5 hI3 hI4 hes hesl
      walk_at "mine go"
      rename Fr _ _ _ _ => F7
      rename News _ _ _ _ => N7
      refine listComp_kp (by with_unfolding_all rfl) rfl (by decide) ?_
      walk_at "mine toiter"
      refine comp_map2 (prs := prs) StrsAre (fun p => tx (signs p.1)) (fun z v => ∃ t, v = .str z t) .nil (fun h1 h2 => by obtain ⟨t, rfl⟩ := h2; exact h1.append' (.cons _ _ .nil)) (fun h => h.length) rfl (News.isList N7 List.mem_cons_self) (by have := hprs.1; omega) (prs_at hprs fun p hp => (N7 p (List.mem_cons_of_mem _ hp)).1) (by decide) rfl rfl rfl (by decide) ?elt1 ?fin1
      case elt1 =>
        intro p ta tb C m₂ h tk E' hp hn hma hmb hk hC
        dsimp only at hk hC
        have FC : Fr h5 C h m₂ := ⟨hn, hk, hC⟩
        have NC : News h5 C h [] := News.nil
        have XC : (KK w.params).In h5 := X.keeps F7.keep
        have TC : Top QV (looseW QV loose0) mean mg mb h5 := T.keeps F7.keep
        clear F7 N7 X T
        walk_at "mine go"
        refine c_mode (XC.keeps hk) (TC.keeps hk) (hpb p hp).1.1 (hpb p hp).1.2 ?_
        intro t' h' tk' k'
        exact ⟨⟨t', rfl⟩, h', tk', rfl, k'⟩
      case fin1 =>
        intro D1 ws1 c1 h7 tk7 k7 hD1 hD0 hS1
        dsimp only at k7 hD0
        have F8 := fr_kp14 F7 k7
        have N8 : News s.heap L' h7 ((pa, listOf vs5.toArray n5) :: tups) := fun p hp => ⟨k7 _ _ (N7 p hp).1, (N7 p hp).2⟩
        have hlD : h7.IsList D1 ws1.toArray := ⟨_, hD1, rfl, _, rfl⟩
        clear F7 N7 k7 hD0
        walk_at "mine go"
        show wpAny _ _ (call (Value.builtin "str.join") [Value.str _ _, Value.ref D1]) _ _ _
        refine join_signs (fun p : Int × Int => p.1) hpl hlD hS1 ?_
        intro bx t1 kk1 hbx
        dsimp only
        clear hlD hD1 hS1
        walk_at "mine go"
        rename Fr _ _ _ _ => F9
        rename News _ _ _ _ => N9
        refine listComp_kp (by with_unfolding_all rfl) rfl (by decide) ?_
        walk_at "mine toiter"
        refine comp_map2 (prs := prs) StrsAre (fun p => tx (signs (p.1 / 4096 * 4096 + p.2 % 4096))) (fun z v => ∃ t, v = .str z t) .nil (fun h1 h2 => by obtain ⟨t, rfl⟩ := h2; exact h1.append' (.cons _ _ .nil)) (fun h => h.length) rfl (News.isList N9 List.mem_cons_self) (by have := hprs.1; omega) (prs_at hprs fun p hp => (N9 p (List.mem_cons_of_mem _ hp)).1) (by decide) rfl rfl rfl (by decide) ?elt2 ?fin2
        case elt2 =>
          intro p ta tb C m₂ h tk E' hp hn hma hmb hk hC
          dsimp only at hk hC
          have FC : Fr _ C h m₂ := ⟨hn, hk, hC⟩
          have NC := news_nil14 FC
          have XC := X.keeps F9.keep
          have TC : Top QV (looseW QV loose0) mean mg mb _ := T.keeps F9.keep
          clear F9 N9 X T
          walk_at "mine go"
          refine c_ifmt1 (XC.keeps hk) (TC.keeps hk) ?_
          intro t3 h8 tk8 k8
          have FD := fr_kp14 FC k8
          have ND := news_nil14 FD
          have hn8 := FD.ns
          clear FC NC hn
          walk_at "mine go"
          have XD := XC.keeps (h' := h8) (fun b o e => k8 b o (hk b o e))
          have TD : Top QV (looseW QV loose0) mean mg mb h8 := TC.keeps (fun b o e => k8 b o (hk b o e))
          refine c_imode XD TD ?_
          intro t4 h9 tk9 k9
          have FE := fr_kp14 FD k9
          have NE := news_nil14 FE
          clear FD ND
          walk_at "mine go"
          have XE := XD.keeps (h' := h9) k9
          have TE : Top QV (looseW QV loose0) mean mg mb h9 := TD.keeps k9
          have hb := hpb p hp
          have e1 : Builtin.bitAnd p.1 61440 + Builtin.bitAnd p.2 4095 = p.1 / 4096 * 4096 + p.2 % 4096 := by rw [and_61440 hb.1.1 hb.1.2, and_4095]
          refine c_mode (M := Builtin.bitAnd p.1 61440 + Builtin.bitAnd p.2 4095) XE TE (by rw [e1]; omega) (by rw [e1]; omega) ?_
          intro t' h' tk' k'
          exact ⟨⟨t', by rw [e1]⟩, h', tk', rfl, fun b o e => k' b o (k9 b o (k8 b o e))⟩
        case fin2 =>
          intro D2 ws2 c2 h10 tk10 k10 hD2 hD20 hS2
          dsimp only at k10 hD20
          have F10 := fr_kp14 F9 k10
          have N10 : News s.heap L' h10 ((pa, listOf vs5.toArray n5) :: tups) := fun p hp => ⟨k10 _ _ (N9 p hp).1, (N9 p hp).2⟩
          have hlD2 : h10.IsList D2 ws2.toArray := ⟨_, hD2, rfl, _, rfl⟩
          clear F9 N9 k10 hD20
          walk_at "mine go"
          show wpAny _ _ (call (Value.builtin "str.join") [Value.str _ _, Value.ref D2]) _ _ _
          refine join_signs (fun p : Int × Int => p.1 / 4096 * 4096 + p.2 % 4096) hpl hlD2 hS2 ?_
          intro ay t2 kk2 hay
          dsimp only
          clear hlD2 hD2 hS2
          walk_at "mine go"
          rename Fr _ _ _ _ => F11
          rename News _ _ _ _ => N11
          have hj1 := signs_joinlen (fun p : Int × Int => p.1) hpl hp0
          have hj2 := signs_joinlen (fun p : Int × Int => p.1 / 4096 * 4096 + p.2 % 4096) hpl hp0
          refine c_encode (ns := prs.map (·.1)) (X.keeps F11.keep) (T.keeps F11.keep) hbx (by simpa using hp0) (by rw [List.length_map]; omega) (by rw [hbx]; exact hj1.1) (by rw [hbx]; exact hj1.2) hW4.1 hW4.2 ?_
          intro t12 h12 tk12 k12
          have F12 := fr_kp14 F11 k12
          have N12 := news_kp14 N11 k12
          clear F11 N11 k12
          walk_at "mine go"
          show wpAny _ _ (call (Value.builtin "str.split") [Value.str _ _, Value.str _ _]) _ _ _
          refine split_rows F12 N12 rfl nl_lit hW4.1 hW4.2 (by rw [List.length_map]; exact hpl) (by simpa using hp0) ?_
          intro l1 us h13 tk13 hS1' hl1 F13 N13 hb1
          dsimp only
          clear F12 N12
          walk_at "mine go"
          rename Fr _ _ _ _ => F14
          rename News _ _ _ _ => N14
          refine c_encode (ns := prs.map (fun p : Int × Int => p.1 / 4096 * 4096 + p.2 % 4096)) (X.keeps F14.keep) (T.keeps F14.keep) hay (by simpa using hp0) (by rw [List.length_map]; omega) (by rw [hay]; exact hj2.1) (by rw [hay]; exact hj2.2) hW4.1 hW4.2 ?_
          intro t15 h15 tk15 k15
          have F15 := fr_kp14 F14 k15
          have N15 := news_kp14 N14 k15
          clear F14 N14 k15 hj1 hj2 hbx hay
          walk_at "mine go"
          show wpAny _ _ (call (Value.builtin "str.split") [Value.str _ _, Value.str _ _]) _ _ _
          refine split_rows F15 N15 rfl nl_lit hW4.1 hW4.2 (by rw [List.length_map]; exact hpl) (by simpa using hp0) ?_
          intro l2 vs2 h16 tk16 hS2' hl2 F16 N16 hb2
          dsimp only
          clear F15 N15
          walk_at "mine go"
          refine c_diff X T F16 N16 (List.mem_cons_of_mem _ List.mem_cons_self) List.mem_cons_self (Nat.ne_of_lt (hb2 _ List.mem_cons_self)) rfl hS1' hS2' (by omega) (by omega) ?_
          intro r D3 us' vs' k1 k2 h17 tk17 F17 N17f hoff hrD hSr hSl
          have N17 := N17f ((pa, listOf vs5.toArray n5) :: tups) (fun p hp => ⟨List.mem_cons_of_mem _ (List.mem_cons_of_mem _ hp), Nat.ne_of_lt (hb1 p hp), Nat.ne_of_lt (hb2 p (List.mem_cons_of_mem _ hp))⟩)
          rw [uld_eq] at hSr hSl
          dsimp only at hSr hSl ⊢
          clear F16 N16 N17f hS1' hS2'
          walk_at "mine go"
          rename Fr _ _ _ _ => F18
          rename News _ _ _ _ => N18
          refine listComp_kp (by with_unfolding_all rfl) rfl (by decide) ?_
          walk_at "mine toiter"
          refine comp_map2 (prs := prs) IntsAre (fun p => p.1) (fun z v => ∃ t, v = .int z t) .nil (fun h1 h2 => by obtain ⟨t, rfl⟩ := h2; exact ints_app h1 (.cons _ _ .nil)) (fun h => h.length) rfl (News.isList N18 (List.mem_cons_of_mem _ (List.mem_cons_of_mem _ (List.mem_cons_of_mem _ List.mem_cons_self)))) (by have := hprs.1; omega) (prs_at hprs fun p hp => (N18 p (List.mem_cons_of_mem _ (List.mem_cons_of_mem _ (List.mem_cons_of_mem _ (List.mem_cons_of_mem _ hp))))).1) (by decide) rfl rfl rfl (by decide) ?elt3 ?fin3
          case elt3 =>
            intro p ta tb C m₂ h tk E' hp hn hma hmb hk hC
            refine wpAny_Name (wpAny_loadName_local rfl rfl hn hma ?_)
            exact ⟨⟨ta, rfl⟩, h, _, rfl, fun _ _ e => e⟩
          case fin3 =>
            intro D4 ws4 c4 h19 tk19 k19 hD4 hD40 hI4
            dsimp only at k19 hD40
            have F19 := fr_kp14 F18 k19
            have N19 := news_kp14 N18 k19
            have hlD4 : h19.IsList D4 ws4.toArray := ⟨_, hD4, rfl, _, rfl⟩
            clear F18 N18 k19 hD40 hD4
            walk_at "mine go"
            refine c_folded (X.keeps F19.keep) (T.keeps F19.keep) hlD4 hI4 (by rw [List.length_map]; omega) hW4.1 hW4.2 ?_
            intro lo vo ko h20 tk20 k20 hlo hlo0 hSo
            have F20 := fr_kp14 F19 k20
            have N20 : News s.heap L' h20 ((lo, listOf vo.toArray ko) :: _) := news_cons14 (news_kp14 N19 k20) hlo (fr_new14 F19 hlo0)
            clear F19 N19 k20 hlo hlo0 hlD4 hI4
            walk_at "mine go"
            rename Fr _ _ _ _ => F21
            rename News _ _ _ _ => N21
            refine listComp_kp (by with_unfolding_all rfl) rfl (by decide) ?_
            walk_at "mine toiter"
            refine comp_map2 (prs := prs) IntsAre (fun p => p.1 / 4096 * 4096 + p.2 % 4096) (fun z v => ∃ t, v = .int z t) .nil (fun h1 h2 => by obtain ⟨t, rfl⟩ := h2; exact ints_app h1 (.cons _ _ .nil)) (fun h => h.length) rfl (News.isList N21 (List.mem_cons_of_mem _ (List.mem_cons_of_mem _ (List.mem_cons_of_mem _ (List.mem_cons_of_mem _ List.mem_cons_self))))) (by have := hprs.1; omega) (prs_at hprs fun p hp => (N21 p (List.mem_cons_of_mem _ (List.mem_cons_of_mem _ (List.mem_cons_of_mem _ (List.mem_cons_of_mem _ (List.mem_cons_of_mem _ hp)))))).1) (by decide) rfl rfl rfl (by decide) ?elt4 ?fin4
            case elt4 =>
              intro p ta tb C m₂ h tk E' hp hn hma hmb hk hC
              dsimp only at hk hC
              have FC : Fr _ C h m₂ := ⟨hn, hk, hC⟩
              have NC := news_nil14 FC
              clear F21 N21 X T
              refine wpAny_mono (Q := fun v s' => Inn ((∃ t, v = .int (p.1 / 4096 * 4096 + p.2 % 4096) t) ∧ ∃ h' tk', s' = { s with heap := h', toks := tk' } ∧ KpA h h')) ?_ (fun _ _ hq => hq.go) (fun _ _ e => e)
              walk_at "mine go"
              exact ⟨⟨⟨_, congrArg (fun x => Value.int x _) (fd14 _ _)⟩, h, _, rfl, fun _ _ e => e⟩⟩
            case fin4 =>
              intro D5 ws5 c5 h22 tk22 k22 hD5 hD50 hI5
              dsimp only at k22 hD50
              have F22 := fr_kp14 F21 k22
              have N22 := news_kp14 N21 k22
              have hlD5 : h22.IsList D5 ws5.toArray := ⟨_, hD5, rfl, _, rfl⟩
              clear F21 N21 k22 hD50 hD5
              walk_at "mine go"
              refine c_folded (X.keeps F22.keep) (T.keeps F22.keep) hlD5 hI5 (by rw [List.length_map]; omega) hW4.1 hW4.2 ?_
              intro ln vn kn h23 tk23 k23 hln hln0 hSn
              have F23 := fr_kp14 F22 k23
              have N23 : News s.heap L' h23 ((ln, listOf vn.toArray kn) :: _) := news_cons14 (news_kp14 N22 k23) hln (fr_new14 F22 hln0)
              clear F22 N22 k23 hln hln0 hlD5 hI5
              walk_at "mine go"
              rename Fr _ _ _ _ => F24
              rename News _ _ _ _ => N24
              have hvo : vo.length ≤ 33 := by
                have h1 := folded_lenT (W := W) (prs.map fun p => p.1)
                rw [hSo.length]
                rw [List.length_map] at h1
                omega
              have hvn : vn.length ≤ 33 := by
                have h1 := folded_lenT (W := W) (prs.map fun p => p.1 / 4096 * 4096 + p.2 % 4096)
                rw [hSn.length]
                rw [List.length_map] at h1
                omega
              refine c_missing (X.keeps F24.keep) (T.keeps F24.keep) (News.isList N24 (List.mem_cons_of_mem _ List.mem_cons_self)) (News.isList N24 List.mem_cons_self) hSo hSn (by omega) (by omega) ?_
              intro rm vm km h25 tk25 k25 hrm hrm0 hSm
              have F25 := fr_kp14 F24 k25
              have N25 : News s.heap L' h25 ((rm, listOf vm.toArray km) :: _) := news_cons14 (news_kp14 N24 k25) hrm (fr_new14 F24 hrm0)
              clear F24 N24 k25 hrm hrm0
              walk_at "mine go"
              rename Fr _ _ _ _ => F26
              rename News _ _ _ _ => N26
              refine c_left (X.keeps F26.keep) (T.keeps F26.keep) (News.isList N26 (List.mem_cons_of_mem _ (List.mem_cons_of_mem _ List.mem_cons_self))) (News.isList N26 (List.mem_cons_of_mem _ List.mem_cons_self)) hSo hSn (by omega) (by omega) ?_
              intro rl vl kl h27 tk27 k27 hrl hrl0 hSf
              have F27 := fr_kp14 F26 k27
              have N27 : News s.heap L' h27 ((rl, listOf vl.toArray kl) :: _) := news_cons14 (news_kp14 N26 k27) hrl (fr_new14 F26 hrl0)
              clear F26 N26 k27 hrl hrl0
              walk_at "mine go"
              rename Fr _ _ _ _ => F28
              rename News _ _ _ _ => N28
              have rowO := fun x hx => (folded_rowT (W := W) (ns := prs.map fun p => p.1) hW4.1 hW4.2 x hx).1
              have rowN := fun x hx => (folded_rowT (W := W) (ns := prs.map fun p => p.1 / 4096 * 4096 + p.2 % 4096) hW4.1 hW4.2 x hx).1
              have hms := miss_facts (W := W) (as := prs.map fun p => p.1) (bs := prs.map fun p => p.1 / 4096 * 4096 + p.2 % 4096) hW4.1 hW4.2 (by rw [List.length_map]; exact hpl)
              refine ne_two (xs := missR _ _ []) (ys := leftS _ [] _) (two_of14 N28 5 6 7 rfl rfl rfl hSr hSl) (two_of14 N28 0 2 1 rfl rfl rfl hSm hSf) (fun x hx => (hms.2 x hx).1) (fun x hx => rowN x (leftS_mem2 _ _ _ x hx)) (by ke_room) ?_
              dsimp only
              walk_at "mine go"
              show wpAny _ _ (call (Value.builtin "str.join") [Value.str _ _, Value.ref r]) _ _ _
              refine join_rows hW4.1 hW4.2 (by rw [List.length_map]; exact hpl) nl_lit (N28.isList (List.mem_of_getElem? (i := 6) rfl)) hSr ?_
              intro t30 tk30
              dsimp only
              clear hSr hSl hSm hSf
              walk_at "mine go"
              refine c_decode (X.keeps F28.keep) (T.keeps F28.keep) rfl (by omega) (miss_joinlen hW4.1 hW4.2 (by rw [List.length_map]; exact hpl)) (fun x hx => ⟨(hms.2 x hx).1, by have := (hms.2 x hx).2.2; omega⟩) ?_
              intro t32 h32 tk32 k32
              have F32 := fr_kp14 F28 k32
              have N32 := news_kp14 N28 k32
              clear F28 N28 k32
              walk_at "mine go"
              refine c_missing (X.keeps F32.keep) (T.keeps F32.keep) (N32.isList (List.mem_of_getElem? (i := 4) rfl)) (N32.isList (List.mem_of_getElem? (i := 3) rfl)) hSo hSn (by omega) (by omega) ?_
              intro ru vu ku h33 tk33 k33 hru hru0 hSu
              have F33 := fr_kp14 F32 k33
              have N33 : News s.heap L' h33 ((ru, listOf vu.toArray ku) :: _) := news_cons14 (news_kp14 N32 k33) hru (fr_new14 F32 hru0)
              clear F32 N32 k33 hru hru0
              walk_at "mine go"
              refine c_unfolded (X.keeps F33.keep) (T.keeps F33.keep) (N33.isList List.mem_cons_self) hSu (by omega) (fun x hx => ⟨(hms.2 x hx).2.1, by have := (hms.2 x hx).2.2; omega⟩) ?_
              intro t34 h34 tk34 k34
              have F34 := fr_kp14 F33 k34
              have N34 := news_kp14 N33 k34
              clear F33 N33 k34
              walk_at "mine go"
              exact ret14 (hR h34 tk34 F34.keep)
end Mine
end
section
open PySem PySem.W PyProof.Rows PySem.Calls
set_option Elab.async false
set_option maxRecDepth 100000
set_option maxHeartbeats 8000000
namespace Mine
theorem law_holds : PySem.Challenge.rw_oc0163_01.Holds := by
  w_on
  o_law
  refine holds_open (q := QV) (loose := loose0) (Xt := Xt0) (XP := XL QV []) (Yf := Hook.obs (kHook KK KA KA_eq)) (Ya := Hook.val (kHook KK KA KA_eq)) (YP := Hook.says (kHook KK KA KA_eq)) (N := 36200) left_ok (Hook.of (kHook KK KA KA_eq)) (Hook.keeps (kHook KK KA KA_eq)) (fun s e => xl_of s (Bool.and_eq_true_iff.mp e).1) XL.keeps (by rfl) (by rfl) (by rfl) (fun s e => recFacts_of (Bool.and_eq_true_iff.mp e).2) (by rfl) (by assumption) (by decide +kernel) ⟨rfl, rfl, rfl, rfl, rfl, by decide +kernel⟩ ?hw ?hc
  case hw => w_witness2
  case hc => 
    w_strict (k_fill; intro w s₀ s₁ mg mb G Y fa o pm cd doc dV kV ho hd hcd hD hmg hg args vals as hpre hlay hrd hwl hlo; (have KX := kIn_of Y))
    refine Ground.open G ?_
    intro T B D TE TW
    (try (refine guard_noD D (by decide +kernel) ?_; clear D))
    wrow_args hpre hlay hrd hwl hlo
    refine enter_call ?_
    rename Heap.IsList _ _ _ => hl
    rename IntsAre _ _ => hi
    rename ¬ _ < _ => hlen
    have hfa : Value.ref fa = Value.ref 162 := by
      have h1 := mg_of (n := Str.ofString "law") (v := .ref 162) KX T.g (by k_dflt k_is)
      have h2 := hmg
      exact Option.some.inj (h2.symm.trans h1)
    rw [hfa]
    refine c_law KX T hl hi (by omega) ?_
    intro h' tk' hk
    refine GoodW.toG ⟨.inl ⟨.bool true, .bool true, [], rfl, fun _ => rfl, ?_, ?_, ?_⟩, hk, rfl, hg⟩
    · exact .bool true
    · first | kernel_rfl | with_unfolding_all rfl | (with_unfolding_all decide) | law_fin
    · intro _
      exact ⟨List.nodup_nil, fun _ h => nomatch h⟩
end Mine
end
set_option Elab.async false
theorem PySem.Challenge.cw_oc0163_01_holds : PySem.Challenge.rw_oc0163_01.Holds :=
  Mine.law_holds
