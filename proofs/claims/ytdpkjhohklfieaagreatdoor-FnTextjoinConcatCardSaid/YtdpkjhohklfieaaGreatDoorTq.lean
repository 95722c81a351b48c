/- TRIM plainly: the pieces between blanks, one blank between them; of ASCII texts. No program in sight. -/
import Derived.Lib.FieldsP
import Derived.Lib.Join
import Derived.Lib.Strings
import Derived.Laws.RangeString
set_option linter.unusedSimpArgs false
set_option linter.unusedVariables false
namespace Go.Proofs.YtdpkjhohklfieaaGreatDoor
open Go.Lib
set_option maxRecDepth 100000

def splitW : List UInt8 → List UInt8 → List (List UInt8)
  | cur, [] => if cur = [] then [] else [cur]
  | cur, c :: r => if c = 32 then (if cur = [] then splitW [] r else cur :: splitW [] r) else splitW (cur ++ [c]) r
def isBlank (x : Nat) : Bool := x == 32
def Word (l : List UInt8) : Prop := l ≠ [] ∧ ∀ c ∈ l, c ≠ 32
theorem splitW_words : ∀ (r cur : List UInt8), (∀ c ∈ cur, c ≠ 32) → ∀ w ∈ splitW cur r, Word w
  | [], cur, h => by
    intro w hw
    unfold splitW at hw
    split at hw
    · cases hw
    · simp at hw; subst hw; exact ⟨by assumption, h⟩
  | c :: r, cur, h => by
    intro w hw
    unfold splitW at hw
    split at hw
    · split at hw
      · exact splitW_words r [] (by simp) w hw
      · rcases List.mem_cons.1 hw with rfl | hw
        · exact ⟨by assumption, h⟩
        · exact splitW_words r [] (by simp) w hw
    · rename_i hc
      refine splitW_words r (cur ++ [c]) (fun d hd => ?_) w hw
      rcases List.mem_append.1 hd with hd | hd
      · exact h d hd
      · simp at hd; subst hd; exact hc
theorem splitW_word : ∀ (w cur r : List UInt8), (∀ c ∈ w, c ≠ 32) → splitW cur (w ++ r) = splitW (cur ++ w) r
  | [], cur, r, _ => by rw [List.append_nil, List.nil_append]
  | c :: w, cur, r, h => by
    show splitW cur (c :: (w ++ r)) = _
    rw [splitW, if_neg (h c (List.mem_cons_self ..)), splitW_word w (cur ++ [c]) r (fun d hd => h d (List.mem_cons_of_mem _ hd)), List.append_assoc]
    rfl
theorem splitW_tail : ∀ (r : List (List UInt8)) (x : List UInt8), x ≠ [] → (∀ w ∈ r, Word w) → splitW x (joinTail [32] r) = x :: r
  | [], x, hx, _ => by
    show splitW x [] = [x]
    rw [splitW, if_neg hx]
  | y :: r, x, hx, h => by
    have e : joinTail [32] (y :: r) = 32 :: (y ++ joinTail [32] r) := by unfold joinTail; rw [List.map_cons, List.flatten_cons]; rfl
    have hy := h y (List.mem_cons_self ..)
    rw [e, splitW, if_pos rfl, if_neg hx, splitW_word y [] _ hy.2, List.nil_append, splitW_tail r y hy.1 fun w hw => h w (List.mem_cons_of_mem _ hw)]
theorem splitW_join (ws : List (List UInt8)) (h : ∀ w ∈ ws, Word w) : splitW [] (join ws [32]) = ws := by
  cases ws with
  | nil => rw [join_nil, splitW, if_pos rfl]
  | cons x r =>
    have hx := h x (List.mem_cons_self ..)
    rw [join_cons, splitW_word x [] _ hx.2, List.nil_append, splitW_tail r x hx.1 fun w hw => h w (List.mem_cons_of_mem _ hw)]

def curOf (s : ByteArray) (pos : Nat) : Option Nat → List UInt8
  | none => []
  | some a => (s.extract a pos).data.toList
theorem spans_end (s : ByteArray) (pos : Nat) (st : Option Nat) (acc : List (Nat × Nat)) (hp : pos = s.size) (hst : ∀ a, st = some a → a < pos) :
    (closeSpans s (acc, st)).map (fun x => (s.extract x.1 x.2).data.toList) = acc.map (fun x => (s.extract x.1 x.2).data.toList) ++ splitW (curOf s pos st) (s.data.toList.drop pos) := by
  subst hp
  have hl : s.data.toList.length = s.size := Array.length_toList
  rw [List.drop_of_length_le (by rw [hl]; exact Nat.le_refl _)]
  cases st with
  | none =>
    show acc.map _ = _
    rw [curOf, splitW, if_pos rfl, List.append_nil]
  | some a =>
    show (acc ++ [(a, s.size)]).map _ = _
    have ha := hst a rfl
    have hne : (s.extract a s.size).data.toList ≠ [] := by
      rw [extract_data]
      intro h
      have := congrArg List.length h
      rw [List.length_take, List.length_drop, hl, List.length_nil] at this
      omega
    rw [curOf, splitW, if_neg hne, List.map_append]
    rfl
theorem spans_ascii (s : ByteArray) (h : ∀ c ∈ s.data.toList, c.toNat < 128) : ∀ (f pos : Nat) (st : Option Nat) (acc : List (Nat × Nat)), s.size ≤ pos + f → pos ≤ s.size → (∀ a, st = some a → a < pos) →
    (closeSpans s (spansFromP isBlank s f pos st acc)).map (fun x => (s.extract x.1 x.2).data.toList) = acc.map (fun x => (s.extract x.1 x.2).data.toList) ++ splitW (curOf s pos st) (s.data.toList.drop pos)
  | 0, pos, st, acc, h1, h2, h3 => spans_end s pos st acc (by omega) h3
  | f + 1, pos, st, acc, h1, h2, h3 => by
    have hl : s.data.toList.length = s.size := Array.length_toList
    by_cases hp : pos < s.size
    · have hpl : pos < s.data.toList.length := by rw [hl]; exact hp
      obtain ⟨c, hc⟩ : ∃ c, c = s[pos]'hp := ⟨_, rfl⟩
      have hcl : s.data.toList[pos]'hpl = c := by rw [hc]; rfl
      have hca : c.toNat < 128 := h c (by rw [← hcl]; exact List.getElem_mem hpl)
      have hd : Utf8.decode s pos = (c.toNat, 1) := by rw [decode_ascii s pos hp (by rw [← hc]; exact hca), hc]
      have hdr : s.data.toList.drop pos = c :: s.data.toList.drop (pos + 1) := by rw [List.drop_eq_getElem_cons hpl, hcl]
      unfold spansFromP
      rw [if_pos hp, hd]
      have hext : ∀ a, a ≤ pos → (s.extract a (pos + 1)).data.toList = (s.extract a pos).data.toList ++ [c] := by
        intro a ha
        rw [extract_data, extract_data, show pos + 1 - a = (pos - a) + 1 by omega, List.take_add_one, List.getElem?_drop, show a + (pos - a) = pos by omega, List.getElem?_eq_getElem hpl, hcl]
        rfl
      by_cases hb : c = 32
      · have hbl : isBlank c.toNat = true := by rw [hb]; rfl
        rw [hdr]
        simp only [hbl, if_true]
        cases st with
        | none =>
          show (closeSpans s (spansFromP isBlank s f (pos + 1) none acc)).map _ = _
          rw [spans_ascii s h f (pos + 1) none acc (by omega) (by omega) (fun a ha => by cases ha)]
          show _ = _ ++ splitW [] (c :: _)
          rw [splitW, if_pos hb, if_pos rfl]
          rfl
        | some a =>
          show (closeSpans s (spansFromP isBlank s f (pos + 1) none (acc ++ [(a, pos)]))).map _ = _
          have ha := h3 a rfl
          have hne : (s.extract a pos).data.toList ≠ [] := by
            rw [extract_data]
            intro h
            have := congrArg List.length h
            rw [List.length_take, List.length_drop, hl, List.length_nil] at this
            omega
          rw [spans_ascii s h f (pos + 1) none _ (by omega) (by omega) (fun a ha => by cases ha)]
          show _ = _ ++ splitW (s.extract a pos).data.toList (c :: _)
          rw [splitW, if_pos hb, if_neg hne, List.map_append, List.append_assoc]
          rfl
      · have hbl : isBlank c.toNat = false := by
          unfold isBlank
          rw [beq_eq_false_iff_ne]
          intro h
          exact hb (UInt8.toNat_inj.1 (by rw [h]; rfl))
        rw [hdr]
        simp only [hbl]
        cases st with
        | none =>
          show (closeSpans s (spansFromP isBlank s f (pos + 1) (some pos) acc)).map _ = _
          rw [spans_ascii s h f (pos + 1) (some pos) acc (by omega) (by omega) (fun a ha => by injection ha; omega)]
          show _ ++ splitW (s.extract pos (pos + 1)).data.toList _ = _ ++ splitW [] (c :: _)
          rw [splitW, if_neg hb, hext pos (Nat.le_refl _), extract_data, Nat.sub_self, List.take_zero]
        | some a =>
          show (closeSpans s (spansFromP isBlank s f (pos + 1) (some a) acc)).map _ = _
          have ha := h3 a rfl
          rw [spans_ascii s h f (pos + 1) (some a) acc (by omega) (by omega) (fun a' ha' => by injection ha'; omega)]
          show _ ++ splitW (s.extract a (pos + 1)).data.toList _ = _ ++ splitW (s.extract a pos).data.toList (c :: _)
          rw [splitW, if_neg hb, hext a (by omega)]
    · rw [spansFromP_end _ _ _ _ _ _ hp]
      exact spans_end s pos st acc (by omega) h3
theorem fields_ascii (s : ByteArray) (h : ∀ c ∈ s.data.toList, c.toNat < 128) : (goFieldsP isBlank s).map (·.data.toList) = splitW [] s.data.toList := by
  have := spans_ascii s h s.size 0 none [] (by omega) (Nat.zero_le _) (fun a ha => by cases ha)
  rw [List.drop_zero] at this
  unfold goFieldsP spansOfP
  rw [List.map_map]
  exact this

/-- What TRIM makes of a text. -/
def trimB (s : ByteArray) : ByteArray := ⟨(join ((goFieldsP isBlank s).map (·.data.toList)) [32]).toArray⟩
theorem splitW_len : ∀ (r cur : List UInt8), lens (splitW cur r) ≤ cur.length + r.length ∧ (splitW cur r).length ≤ cur.length + r.length
  | [], cur => by
    unfold splitW
    split
    · simp [lens]
    · rename_i h
      have : cur.length ≠ 0 := fun h2 => h (List.length_eq_zero_iff.1 h2)
      simp [lens]; omega
  | c :: r, cur => by
    unfold splitW
    split
    · split
      · have := splitW_len r []
        simp only [List.length_nil, List.length_cons] at this ⊢; omega
      · rename_i h
        have h0 : cur.length ≠ 0 := fun h2 => h (List.length_eq_zero_iff.1 h2)
        have := splitW_len r []
        simp only [lens, List.map_cons, List.sum_cons, List.length_nil, List.length_cons] at this ⊢; omega
    · have := splitW_len r (cur ++ [c])
      simp only [List.length_append, List.length_cons, List.length_nil] at this ⊢; omega
theorem splitW_mem : ∀ (r cur : List UInt8), ∀ w ∈ splitW cur r, ∀ c ∈ w, c ∈ cur ∨ c ∈ r
  | [], cur => by
    intro w hw c hc
    unfold splitW at hw
    split at hw
    · cases hw
    · simp at hw; subst hw; exact .inl hc
  | d :: r, cur => by
    intro w hw c hc
    unfold splitW at hw
    split at hw
    · split at hw
      · rcases splitW_mem r [] w hw c hc with h | h
        · cases h
        · exact .inr (List.mem_cons_of_mem _ h)
      · rcases List.mem_cons.1 hw with rfl | hw
        · exact .inl hc
        · rcases splitW_mem r [] w hw c hc with h | h
          · cases h
          · exact .inr (List.mem_cons_of_mem _ h)
    · rcases splitW_mem r (cur ++ [d]) w hw c hc with h | h
      · rcases List.mem_append.1 h with h | h
        · exact .inl h
        · simp at h; subst h; exact .inr (List.mem_cons_self ..)
      · exact .inr (List.mem_cons_of_mem _ h)
theorem joinTail_mem {ws : List (List UInt8)} {c : UInt8} (h : c ∈ joinTail [32] ws) : c = 32 ∨ ∃ w ∈ ws, c ∈ w := by
  unfold joinTail at h
  obtain ⟨l, hl, hc⟩ := List.mem_flatten.1 h
  obtain ⟨w, hw, rfl⟩ := List.mem_map.1 hl
  rcases List.mem_append.1 hc with hc | hc
  · simp at hc; exact .inl hc
  · exact .inr ⟨w, hw, hc⟩
theorem join_mem {ws : List (List UInt8)} {c : UInt8} (h : c ∈ join ws [32]) : c = 32 ∨ ∃ w ∈ ws, c ∈ w := by
  cases ws with
  | nil => cases h
  | cons x r =>
    rw [join_cons] at h
    rcases List.mem_append.1 h with h | h
    · exact .inr ⟨x, List.mem_cons_self .., h⟩
    · rcases joinTail_mem h with h | ⟨w, hw, hc⟩
      · exact .inl h
      · exact .inr ⟨w, List.mem_cons_of_mem _ hw, hc⟩
theorem trimB_ascii (s : ByteArray) (h : ∀ c ∈ s.data.toList, c.toNat < 128) : ∀ c ∈ (trimB s).data.toList, c.toNat < 128 := by
  intro c hc
  unfold trimB at hc
  rw [fields_ascii s h] at hc
  rcases join_mem (c := c) (by simpa using hc) with rfl | ⟨w, hw, hcw⟩
  · decide
  · rcases splitW_mem _ _ w hw c hcw with h2 | h2
    · cases h2
    · exact h c h2
theorem join_le (ws : List (List UInt8)) : (join ws [32]).length ≤ ws.length + lens ws := by
  cases ws with
  | nil => simp [join_nil]
  | cons x r => rw [join_length]; simp
theorem trim_len (s : ByteArray) (h : ∀ c ∈ s.data.toList, c.toNat < 128) : (join ((goFieldsP isBlank s).map (·.data.toList)) [32]).length ≤ 2 * s.size := by
  rw [fields_ascii s h]
  have h1 := join_le (splitW [] s.data.toList)
  have h2 := splitW_len s.data.toList []
  have hl : s.data.toList.length = s.size := Array.length_toList
  rw [List.length_nil] at h2
  omega
theorem trim_count (s : ByteArray) (h : ∀ c ∈ s.data.toList, c.toNat < 128) : (goFieldsP isBlank s).length ≤ s.size := by
  have h0 := congrArg List.length (fields_ascii s h)
  rw [List.length_map] at h0
  have h2 := splitW_len s.data.toList []
  have hl : s.data.toList.length = s.size := Array.length_toList
  rw [List.length_nil] at h2
  omega
theorem trimB_size (s : ByteArray) (h : ∀ c ∈ s.data.toList, c.toNat < 128) : (trimB s).size ≤ 2 * s.size := by
  have := trim_len s h
  have e : (trimB s).size = (join ((goFieldsP isBlank s).map (·.data.toList)) [32]).length := by unfold trimB; exact List.size_toArray ..
  omega
/-- TRIM of TRIM is TRIM. -/
theorem trimB_twice (s : ByteArray) (h : ∀ c ∈ s.data.toList, c.toNat < 128) : trimB (trimB s) = trimB s := by
  have h2 := fields_ascii (trimB s) (trimB_ascii s h)
  have e : (trimB s).data.toList = join (splitW [] s.data.toList) [32] := by unfold trimB; rw [fields_ascii s h]
  rw [e, splitW_join _ (splitW_words s.data.toList [] (by simp))] at h2
  show (⟨(join ((goFieldsP isBlank (trimB s)).map (·.data.toList)) [32]).toArray⟩ : ByteArray) = trimB s
  rw [h2, ← fields_ascii s h]
  rfl

end Go.Proofs.YtdpkjhohklfieaaGreatDoor
