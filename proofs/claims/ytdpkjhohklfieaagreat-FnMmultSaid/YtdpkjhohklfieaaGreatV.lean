/- Functions of the reference over texts and numbers: letters, digits, fractions. What is said of their answers is as loose as the statements allow. -/
import Derived.Test.YtdpkjhohklfieaaGreatA
import Derived.Lib.Hide
import Derived.Lib.ConvBytes
import Derived.Laws.BytesArg
set_option linter.unusedSimpArgs false
set_option linter.unusedVariables false
namespace Go.Proofs.YtdpkjhohklfieaaGreat
open Go.RowKit
set_option maxRecDepth 100000

/-- Some truth; nothing that was there has changed. -/
def SomeBool (w : World) (e : Ending) (w' : World) : Prop := ∃ b : Bool, e = .returned (.bool b) ∧ Below w.heap.size w w'
/-- Some text. -/
def SomeText (w : World) (e : Ending) (w' : World) : Prop := ∃ t : ByteArray, e = .returned (.string t) ∧ t.size ≤ 1000000 ∧ Below w.heap.size w w'

def lowr (c : Int) : Int := if 65 ≤ c ∧ c ≤ 90 then c + 32 else c

theorem Lower_any (c : Int) (w : World) (h0 : 0 ≤ c) (h1 : c ≤ 255) :
    Calls Tryz.prog 196 #[.int .u8 c] w fun e w' => e = .returned (.int .u8 (lowr c)) ∧ w = w' := by
  unfold lowr
  by_cases ha : 65 ≤ c
  · by_cases hb : c ≤ 90
    · rw [if_pos ⟨ha, hb⟩]
      go_enter Tryz.func196, Tryz.ntmps196
      go_wp2
      go_ret
      exact ⟨rfl, rfl⟩
    · rw [if_neg (by omega)]
      go_enter Tryz.func196, Tryz.ntmps196
      go_wp2
      go_ret
      exact ⟨rfl, rfl⟩
  · rw [if_neg (by omega)]
    go_enter Tryz.func196, Tryz.ntmps196
    go_wp2
    go_ret
    exact ⟨rfl, rfl⟩

theorem lowr_range (c : Int) (h0 : 0 ≤ c) (h1 : c ≤ 255) : 0 ≤ lowr c ∧ lowr c ≤ 255 := by unfold lowr; split <;> omega

theorem bytesWorld_below (w : World) (e : TypeId) (s : ByteArray) : Below w.heap.size w (Lib.bytesWorld w e s) :=
  ⟨rfl, rfl, rfl, by rw [Lib.bytesWorld_size]; omega, fun k hk => Lib.bytesWorld_at_old w e s k hk⟩

/-- The bytes that a block of the call's own holds. -/
def Bytes (w : World) (g n : Nat) (ys : List Int) : Prop :=
  ys.length = n ∧ ∀ j, j < n → w.cell? ⟨g, j, none⟩ = some (.int .u8 (ys.getD j 0)) ∧ w.frozen? ⟨g, j, none⟩ = false ∧ 0 ≤ ys.getD j 0 ∧ ys.getD j 0 ≤ 255

theorem Bytes.made (w : World) (e : TypeId) (s : ByteArray) : Bytes (Lib.bytesWorld w e s) w.heap.size s.size (s.data.toList.map fun b => (b.toNat : Int)) := by
  refine ⟨by simp, fun j hj => ⟨?_, ?_, ?_⟩⟩
  · rw [Lib.bytesWorld_cell w e s j hj]
    have : j < s.data.toList.length := by simpa using hj
    simp [List.getD, List.getElem?_eq_getElem this]
  · have hsz : s.size ≤ (Lib.bytesCells w e s).size := by simp [Lib.bytesCells]
    simp only [World.frozen?, Lib.bytesWorld_at_new]
    simp
    omega
  · have : j < s.data.toList.length := by simpa using hj
    simp only [List.getD, List.getElem?_map, List.getElem?_eq_getElem this, Option.map_some, Option.getD_some]
    have := (s.data.toList[j]).toNat_lt
    omega

theorem Bytes.put {w : World} {g n : Nat} {ys : List Int} (h : Bytes w g n ys) (k : Nat) (hk : k < n) (c : Int) (h0 : 0 ≤ c) (h1 : c ≤ 255) :
    Bytes (w.setCell ⟨g, k, none⟩ (.int .u8 c)) g n (ys.set k c) := by
  refine ⟨by simpa using h.1, fun j hj => ?_⟩
  have hl := h.1
  obtain ⟨a1, a2, a3⟩ := h.2 j hj
  by_cases e : j = k
  · subst e
    refine ⟨?_, by simpa [go_sem] using a2, ?_⟩
    · rw [World.cell?_setCell_same _ _ _ a1]
      simp [List.getD, hl, hj]
    · simp [List.getD, hl, hj]; exact ⟨h0, h1⟩
  · refine ⟨?_, by simpa [go_sem] using a2, ?_⟩
    · rw [World.cell?_setCell_other _ _ _ _ (by intro he; injection he with _ ho; exact e ho.symm)]
      rw [a1]
      simp [List.getD, List.getElem?_set, Ne.symm e]
    · simp only [List.getD, List.getElem?_set, if_neg (Ne.symm e)]
      exact a3

/-- A text's bytes as numbers; a text in small letters. -/
def nums (s : ByteArray) : List Int := s.data.toList.map fun b => (b.toNat : Int)
def lowB (s : ByteArray) : ByteArray := strOfNums ((nums s).map lowr)

theorem nums_len (s : ByteArray) : (nums s).length = s.size := by simp [nums]
theorem lowB_size (s : ByteArray) : (lowB s).size = s.size := by unfold lowB; rw [strOfNums_size, List.length_map, nums_len]

theorem set_mid (L : List Int) (f : Int → Int) (k : Nat) (hk : k < L.length) :
    (((L.take k).map f ++ L.drop k).set k (f (L.getD k 0))) = (L.take (k + 1)).map f ++ L.drop (k + 1) := by
  have h1 : (L.take (k + 1)).map f = (L.take k).map f ++ [f L[k]] := by
    rw [List.take_add_one, List.getElem?_eq_getElem hk, List.map_append]; rfl
  have h2 : L.getD k 0 = L[k] := by rw [List.getD_eq_getElem?_getD, List.getElem?_eq_getElem hk]; rfl
  rw [h1, h2, List.set_append, if_neg (by simp; omega), List.length_map, List.length_take, Nat.min_eq_left (Nat.le_of_lt hk), Nat.sub_self, List.drop_eq_getElem_cons hk, List.set_cons_zero, List.append_assoc]
  rfl

theorem getD_mid (L : List Int) (f : Int → Int) (k : Nat) (hk : k < L.length) : ((L.take k).map f ++ L.drop k).getD k 0 = L.getD k 0 := by
  rw [List.getD_eq_getElem?_getD, List.getElem?_append_right (by simp; omega)]
  simp [List.getD_eq_getElem?_getD, Nat.min_eq_left (Nat.le_of_lt hk)]

set_option maxHeartbeats 1000000 in
theorem lower_any (s : ByteArray) (w : World) (hs : s.size ≤ 2147483647) :
    Calls Tryz.prog 173 #[.string s] w fun e w' => e = .returned (.string (lowB s)) ∧ Below w.heap.size w w' := by
  have hcv := fun wx => Lib.run_convert_string_bytes (P := Tryz.prog) wx 9 160 5 s Tryz.underlying9 Tryz.underlying160 Tryz.underlying5
  have hin := Bytes.made w 5 s
  have hbw := bytesWorld_below w 5 s
  go_enter Tryz.func173, Tryz.ntmps173
  go_wp2
  go_loopw [4] (fun i wr => ∃ k : Nat, k ≤ s.size ∧ i = .int .i64 k ∧ Below w.heap.size w wr ∧ Bytes wr w.heap.size s.size (((nums s).take k).map lowr ++ (nums s).drop k)) (fun i _ => s.size - (intOf i).toNat)
  case atStart => exact ⟨0, Nat.zero_le _, rfl, hbw, hin⟩
  case round =>
    obtain ⟨k, hk, rfl, hbe, hys⟩ := hrel
    clear hcv hin hbw
    by_cases hlt : k < s.size
    · have hkl : k < (nums s).length := by rw [nums_len]; exact hlt
      obtain ⟨a1, a2, a3, a4⟩ := hys.2 k hlt
      have hp := hys.put k hlt (lowr ((nums s).getD k 0))
      rw [set_mid _ _ _ hkl] at hp
      rw [getD_mid _ _ _ hkl] at a1 a3 a4
      obtain ⟨c, hc⟩ : ∃ c, c = (nums s).getD k 0 := ⟨_, rfl⟩
      rw [← hc] at a1 a3 a4 hp
      clear hc
      obtain ⟨l0, l1⟩ := lowr_range c a3 a4
      have hp' := hp l0 l1
      have hb2 : Below w.heap.size w (wr.setCell ⟨w.heap.size, k, none⟩ (.int .u8 (lowr c))) := hbe.setCell (p := ⟨w.heap.size, k, none⟩) (Nat.le_refl _) _
      clear hbe hys hp
      go_wp2_with (go_at_call 196; refine (Lower_any _ _ a3 a4).mono ?_; rintro e w1 ⟨rfl, rfl⟩)
      go_roundw
      case rel => exact ⟨k + 1, by omega, by go_num, hb2, hp'⟩
      case measure => simp [intOf]; omega
    · have hke : k = s.size := by omega
      subst hke
      have hys' := hys
      rw [List.take_of_length_le (by rw [nums_len]; exact Nat.le_refl _), List.drop_eq_nil_of_le (by rw [nums_len]; exact Nat.le_refl _), List.append_nil] at hys'
      have hcv2 := fun dst hd => run_convert_bytes_arg (P := Tryz.prog) wr 160 5 Tryz.underlying160 Tryz.underlying5 w.heap.size 0 s.size (grownCap w s.size 0 5) ((nums s).map lowr) hys'.1 (fun i hi => by rw [Nat.zero_add]; exact (hys'.2 i hi).1) dst hd
      have hcv3 := hcv2 9 Tryz.underlying9
      clear hcv2 hys hys'
      go_wp2
      go_ret
      exact ⟨rfl, hbe⟩

def months : List (List UInt8) := [[106, 97, 110], [102, 101, 98], [109, 97, 114], [97, 112, 114], [109, 97, 121], [106, 117, 110], [106, 117, 108], [97, 117, 103], [115, 101, 112], [111, 99, 116], [110, 111, 118], [100, 101, 99], [109, 111, 110], [116, 117, 101], [119, 101, 100], [116, 104, 117], [102, 114, 105], [115, 97, 116], [115, 117, 110]]
/-- Whether a text begins like the name of a month, or of a day. -/
def monthB (s : ByteArray) : Bool := decide (3 ≤ s.size) && months.contains (s.extract 0 3).toList

set_option maxHeartbeats 4000000 in
theorem month_any (s : ByteArray) (w : World) (hs : s.size ≤ 2147483647) :
    Calls Tryz.prog 220 #[.string s] w fun e w' => e = .returned (.bool (monthB s)) ∧ Below w.heap.size w w' := by
  by_cases h3 : s.size < 3
  · have hm : monthB s = false := by unfold monthB; rw [decide_eq_false (by omega)]; rfl
    rw [hm]
    clear hm
    go_enter Tryz.func220, Tryz.ntmps220
    go_wp2
    go_ret
    exact ⟨rfl, Below.refl _ _⟩
  · by_cases hm : (s.extract 0 3).toList ∈ months
    · have hb : monthB s = true := by unfold monthB; rw [decide_eq_true (by omega)]; simpa using hm
      rw [hb]
      clear hb
      simp only [months, List.mem_cons, List.not_mem_nil, or_false] at hm
      rcases hm with hm | hm | hm | hm | hm | hm | hm | hm | hm | hm | hm | hm | hm | hm | hm | hm | hm | hm | hm
      all_goals
        go_enter Tryz.func220, Tryz.ntmps220
        go_wp2_with fail
        go_ret
        exact ⟨rfl, Below.refl _ _⟩
    · have hb : monthB s = false := by unfold monthB; rw [Bool.and_eq_false_iff]; right; simpa using hm
      rw [hb]
      clear hb
      have f0 : ((s.extract 0 3).toList == [106, 97, 110]) = false := by rw [beq_eq_false_iff_ne]; exact fun h => hm (h ▸ by decide)
      have f1 : ((s.extract 0 3).toList == [102, 101, 98]) = false := by rw [beq_eq_false_iff_ne]; exact fun h => hm (h ▸ by decide)
      have f2 : ((s.extract 0 3).toList == [109, 97, 114]) = false := by rw [beq_eq_false_iff_ne]; exact fun h => hm (h ▸ by decide)
      have f3 : ((s.extract 0 3).toList == [97, 112, 114]) = false := by rw [beq_eq_false_iff_ne]; exact fun h => hm (h ▸ by decide)
      have f4 : ((s.extract 0 3).toList == [109, 97, 121]) = false := by rw [beq_eq_false_iff_ne]; exact fun h => hm (h ▸ by decide)
      have f5 : ((s.extract 0 3).toList == [106, 117, 110]) = false := by rw [beq_eq_false_iff_ne]; exact fun h => hm (h ▸ by decide)
      have f6 : ((s.extract 0 3).toList == [106, 117, 108]) = false := by rw [beq_eq_false_iff_ne]; exact fun h => hm (h ▸ by decide)
      have f7 : ((s.extract 0 3).toList == [97, 117, 103]) = false := by rw [beq_eq_false_iff_ne]; exact fun h => hm (h ▸ by decide)
      have f8 : ((s.extract 0 3).toList == [115, 101, 112]) = false := by rw [beq_eq_false_iff_ne]; exact fun h => hm (h ▸ by decide)
      have f9 : ((s.extract 0 3).toList == [111, 99, 116]) = false := by rw [beq_eq_false_iff_ne]; exact fun h => hm (h ▸ by decide)
      have f10 : ((s.extract 0 3).toList == [110, 111, 118]) = false := by rw [beq_eq_false_iff_ne]; exact fun h => hm (h ▸ by decide)
      have f11 : ((s.extract 0 3).toList == [100, 101, 99]) = false := by rw [beq_eq_false_iff_ne]; exact fun h => hm (h ▸ by decide)
      have f12 : ((s.extract 0 3).toList == [109, 111, 110]) = false := by rw [beq_eq_false_iff_ne]; exact fun h => hm (h ▸ by decide)
      have f13 : ((s.extract 0 3).toList == [116, 117, 101]) = false := by rw [beq_eq_false_iff_ne]; exact fun h => hm (h ▸ by decide)
      have f14 : ((s.extract 0 3).toList == [119, 101, 100]) = false := by rw [beq_eq_false_iff_ne]; exact fun h => hm (h ▸ by decide)
      have f15 : ((s.extract 0 3).toList == [116, 104, 117]) = false := by rw [beq_eq_false_iff_ne]; exact fun h => hm (h ▸ by decide)
      have f16 : ((s.extract 0 3).toList == [102, 114, 105]) = false := by rw [beq_eq_false_iff_ne]; exact fun h => hm (h ▸ by decide)
      have f17 : ((s.extract 0 3).toList == [115, 97, 116]) = false := by rw [beq_eq_false_iff_ne]; exact fun h => hm (h ▸ by decide)
      have f18 : ((s.extract 0 3).toList == [115, 117, 110]) = false := by rw [beq_eq_false_iff_ne]; exact fun h => hm (h ▸ by decide)
      clear hm
      go_enter Tryz.func220, Tryz.ntmps220
      go_wp2_with fail
      go_ret
      exact ⟨rfl, Below.refl _ _⟩

/-- The words of which nothing is said. -/
def otherWords : List (List UInt8) := [[], [101], [110, 97, 110], [105, 110, 102], [105, 110, 102, 105, 110, 105, 116, 121], [116, 114, 117, 101], [102, 97, 108, 115, 101], [97, 109], [112, 109], [97], [112]]

/-- Whether a text is surely no number: two letters or more that spell nothing like one. -/
def wordB (s : ByteArray) : Bool := decide (∀ c ∈ nums s, 97 ≤ lowr c ∧ lowr c ≤ 122) && !(otherWords.contains (lowB s).toList) && decide (2 ≤ s.size) && !monthB (lowB s)

theorem wordB_letter {s : ByteArray} {k : Nat} {c : Int} (hk : (nums s)[k]? = some c) (h : lowr c < 97 ∨ 122 < lowr c) : wordB s = false := by
  unfold wordB
  rw [decide_eq_false (by intro hall; have := hall c (List.mem_of_getElem? hk); omega)]
  rfl

theorem wordB_word {s : ByteArray} (h : (lowB s).toList ∈ otherWords) : wordB s = false := by
  unfold wordB
  rw [show otherWords.contains (lowB s).toList = true by simpa using h]
  simp

theorem wordB_short {s : ByteArray} (h : s.size < 2) : wordB s = false := by
  unfold wordB
  rw [decide_eq_false (show ¬ 2 ≤ s.size by omega)]
  simp

theorem wordB_month {s : ByteArray} (h : monthB (lowB s) = true) : wordB s = false := by
  unfold wordB
  rw [h]
  simp

theorem wordB_true {s : ByteArray} (h1 : ∀ c ∈ nums s, 97 ≤ lowr c ∧ lowr c ≤ 122) (h2 : ¬ (lowB s).toList ∈ otherWords) (h3 : 2 ≤ s.size) (h4 : monthB (lowB s) = false) : wordB s = true := by
  unfold wordB
  rw [decide_eq_true h1, decide_eq_true h3, h4, show otherWords.contains (lowB s).toList = false by simpa using h2]
  rfl

/-- What a text is that is no plain number: none at all, or nothing is said. -/
def OtherPost (s : ByteArray) (w : World) (e : Ending) (w' : World) : Prop := (if wordB s then e = .returned (.agg #[.int .i64 4, .int .i64 0, .int .i64 0, .string (⟨#[35, 86, 65, 76, 85, 69, 33]⟩ : ByteArray), .slice none 0 0]) else e = .returned (.agg #[.int .i64 6, .int .i64 0, .int .i64 0, .string ⟨#[]⟩, .slice none 0 0])) ∧ Below w.heap.size w w'

set_option maxHeartbeats 4000000 in
theorem other_any (s : ByteArray) (w : World) (hs : s.size ≤ 2147483647) :
    Calls Tryz.prog 213 #[.string s] w (OtherPost s w) := by
  have hs' : s.size ≤ 9223372036854775807 := by omega
  go_enter Tryz.func213, Tryz.ntmps213
  go_wp2
  go_loop [3] (fun i => ∃ k : Nat, k ≤ s.size ∧ i = .int .i64 k ∧ ∀ c ∈ (nums s).take k, 97 ≤ lowr c ∧ lowr c ≤ 122) (fun i => s.size - (intOf i).toNat)
  case atStart => exact ⟨0, Nat.zero_le _, rfl, by simp⟩
  case round =>
    obtain ⟨k, hk, rfl, hall⟩ := hrel
    have HA := Lib.hid hall
    clear hall
    by_cases hlt : k < s.size
    · have hc0 : (0 : Int) ≤ ((s[k]).toNat : Int) := Int.natCast_nonneg _
      have hc1 : ((s[k]).toNat : Int) ≤ 255 := by have := (s[k]).toNat_lt; omega
      have hkn : (nums s)[k]? = some ((s[k]).toNat : Int) := by
        have : k < s.data.toList.length := by simpa using hlt
        simp only [nums, List.getElem?_map, List.getElem?_eq_getElem this, Option.map_some]
        rfl
      have HK := Lib.hid hkn
      clear hkn
      by_cases hq1 : lowr ((s[k]).toNat : Int) < 97
      · have hfin := wordB_letter HK.out (.inl hq1)
        have HF := Lib.hid hfin
        clear hfin
        go_wp2_with (first | (go_at_call 196; refine (Lower_any _ _ hc0 hc1).mono ?_; rintro e w1 ⟨rfl, rfl⟩) | (go_at_call 38; refine (doubt_any _).mono ?_; rintro e w9 ⟨rfl, hb9⟩; obtain ⟨hc9, hf9, hz9⟩ := bcell hb9; try simp only [World.size_alloc, size_setCell] at hz9))
        refine bodyPost_ret (v := (.agg #[.int .i64 6, .int .i64 0, .int .i64 0, .string ⟨#[]⟩, .slice none 0 0])) (by simp [results, Tryz.results213, go_sem, hc9]) rfl ⟨by rw [HF.out]; rfl, (by (repeat' (first | with_reducible exact Below.refl _ _ | with_reducible refine Below.setCell ?_ ?_ _ | with_reducible refine Below.alloc ?_ ?_ _ | with_reducible refine Below.drew ?_ | with_reducible refine Below.trans ?_ (Below.mono (by assumption) ?_))); all_goals (first | omega | (simp [World.setCell]; done) | (simp [World.setCell]; omega)))⟩
      · by_cases hq2 : 122 < lowr ((s[k]).toNat : Int)
        · have hfin := wordB_letter HK.out (.inr hq2)
          have HF := Lib.hid hfin
          clear hfin
          go_wp2_with (first | (go_at_call 196; refine (Lower_any _ _ hc0 hc1).mono ?_; rintro e w1 ⟨rfl, rfl⟩) | (go_at_call 38; refine (doubt_any _).mono ?_; rintro e w9 ⟨rfl, hb9⟩; obtain ⟨hc9, hf9, hz9⟩ := bcell hb9; try simp only [World.size_alloc, size_setCell] at hz9))
          refine bodyPost_ret (v := (.agg #[.int .i64 6, .int .i64 0, .int .i64 0, .string ⟨#[]⟩, .slice none 0 0])) (by simp [results, Tryz.results213, go_sem, hc9]) rfl ⟨by rw [HF.out]; rfl, (by (repeat' (first | with_reducible exact Below.refl _ _ | with_reducible refine Below.setCell ?_ ?_ _ | with_reducible refine Below.alloc ?_ ?_ _ | with_reducible refine Below.drew ?_ | with_reducible refine Below.trans ?_ (Below.mono (by assumption) ?_))); all_goals (first | omega | (simp [World.setCell]; done) | (simp [World.setCell]; omega)))⟩
        · have hnext : ∀ c ∈ (nums s).take (k + 1), 97 ≤ lowr c ∧ lowr c ≤ 122 := by
            intro c hc
            rw [List.take_add_one, HK.out] at hc
            rcases List.mem_append.1 hc with h | h
            · exact HA.out c h
            · simp at h; subst h; omega
          have HX := Lib.hid hnext
          clear hnext
          go_wp2_with (first | (go_at_call 196; refine (Lower_any _ _ hc0 hc1).mono ?_; rintro e w1 ⟨rfl, rfl⟩) | (go_at_call 38; refine (doubt_any _).mono ?_; rintro e w9 ⟨rfl, hb9⟩; obtain ⟨hc9, hf9, hz9⟩ := bcell hb9; try simp only [World.size_alloc, size_setCell] at hz9))
          go_round
          case rel => exact ⟨k + 1, by omega, by go_num, HX.out⟩
          case measure => simp [intOf]; omega
    · have hke : k = s.size := by omega
      subst hke
      go_wp2_with fail
      refine (lower_any s _ hs).mono ?_
      rintro e w1 ⟨rfl, hb1⟩
      obtain ⟨hc1, hf1, hz1⟩ := bcell hb1
      simp only [World.size_alloc] at hz1
      have hwlt1 : w.heap.size < w1.heap.size := by omega
      by_cases hm : (lowB s).toList ∈ otherWords
      · have hfin := wordB_word hm
        have HF := Lib.hid hfin
        clear hfin
        simp only [otherWords, List.mem_cons, List.not_mem_nil, or_false] at hm
        clear hs'
        rcases hm with hm | hm | hm | hm | hm | hm | hm | hm | hm | hm | hm
        all_goals
          go_wp2_with (go_at_call 38; refine (doubt_any _).mono ?_; rintro e w9 ⟨rfl, hb9⟩; obtain ⟨hc9, hf9, hz9⟩ := bcell hb9; try simp only [World.size_alloc, size_setCell] at hz9)
          refine bodyPost_ret (v := (.agg #[.int .i64 6, .int .i64 0, .int .i64 0, .string ⟨#[]⟩, .slice none 0 0])) (by simp [results, Tryz.results213, go_sem, hc9, hc1, hwlt1]) rfl ⟨by rw [HF.out]; rfl, (by (repeat' (first | with_reducible exact Below.refl _ _ | with_reducible refine Below.setCell ?_ ?_ _ | with_reducible refine Below.alloc ?_ ?_ _ | with_reducible refine Below.drew ?_ | with_reducible refine Below.trans ?_ (Below.mono (by assumption) ?_))); all_goals (first | omega | (simp [World.setCell]; done) | (simp [World.setCell]; omega)))⟩
      · have hE : (lowB s).toList.isEmpty = false := by
          cases hl : (lowB s).toList with
          | nil => exact absurd (by rw [hl]; decide) hm
          | cons a r => rfl
        have f0 : ((lowB s).toList == [101]) = false := by rw [beq_eq_false_iff_ne]; exact fun h => hm (h ▸ by decide)
        have f1 : ((lowB s).toList == [110, 97, 110]) = false := by rw [beq_eq_false_iff_ne]; exact fun h => hm (h ▸ by decide)
        have f2 : ((lowB s).toList == [105, 110, 102]) = false := by rw [beq_eq_false_iff_ne]; exact fun h => hm (h ▸ by decide)
        have f3 : ((lowB s).toList == [105, 110, 102, 105, 110, 105, 116, 121]) = false := by rw [beq_eq_false_iff_ne]; exact fun h => hm (h ▸ by decide)
        have f4 : ((lowB s).toList == [116, 114, 117, 101]) = false := by rw [beq_eq_false_iff_ne]; exact fun h => hm (h ▸ by decide)
        have f5 : ((lowB s).toList == [102, 97, 108, 115, 101]) = false := by rw [beq_eq_false_iff_ne]; exact fun h => hm (h ▸ by decide)
        have f6 : ((lowB s).toList == [97, 109]) = false := by rw [beq_eq_false_iff_ne]; exact fun h => hm (h ▸ by decide)
        have f7 : ((lowB s).toList == [112, 109]) = false := by rw [beq_eq_false_iff_ne]; exact fun h => hm (h ▸ by decide)
        have f8 : ((lowB s).toList == [97]) = false := by rw [beq_eq_false_iff_ne]; exact fun h => hm (h ▸ by decide)
        have f9 : ((lowB s).toList == [112]) = false := by rw [beq_eq_false_iff_ne]; exact fun h => hm (h ▸ by decide)
        have HM := Lib.hid hm
        clear hm
        by_cases h2 : s.size < 2
        · have hfin := wordB_short h2
          have HF := Lib.hid hfin
          clear hfin
          go_wp2_with (go_at_call 38; refine (doubt_any _).mono ?_; rintro e w9 ⟨rfl, hb9⟩; obtain ⟨hc9, hf9, hz9⟩ := bcell hb9; try simp only [World.size_alloc, size_setCell] at hz9)
          refine bodyPost_ret (v := (.agg #[.int .i64 6, .int .i64 0, .int .i64 0, .string ⟨#[]⟩, .slice none 0 0])) (by simp [results, Tryz.results213, go_sem, hc9, hc1, hwlt1]) rfl ⟨by rw [HF.out]; rfl, (by (repeat' (first | with_reducible exact Below.refl _ _ | with_reducible refine Below.setCell ?_ ?_ _ | with_reducible refine Below.alloc ?_ ?_ _ | with_reducible refine Below.drew ?_ | with_reducible refine Below.trans ?_ (Below.mono (by assumption) ?_))); all_goals (first | omega | (simp [World.setCell]; done) | (simp [World.setCell]; omega)))⟩
        · go_wp2_with fail
          refine (lower_any s _ hs).mono ?_
          rintro e w2 ⟨rfl, hb2⟩
          obtain ⟨hc2, hf2, hz2⟩ := bcell hb2
          go_wp2_with fail
          refine (month_any (lowB s) _ (by rw [lowB_size]; exact hs)).mono ?_
          rintro e w3 ⟨rfl, hb3⟩
          obtain ⟨hc3, hf3, hz3⟩ := bcell hb3
          have hwlt2 : w.heap.size < w2.heap.size := by omega
          have hwlt3 : w.heap.size < w3.heap.size := by omega
          cases hmb : monthB (lowB s)
          · have hfin := wordB_true (by have := HA.out; rw [List.take_of_length_le (by rw [nums_len]; exact Nat.le_refl _)] at this; exact this) HM.out (by omega) hmb
            have HF := Lib.hid hfin
            clear hfin hmb
            go_wp2_with (go_at_call 35; refine (err_any _ _).mono ?_; rintro e w9 ⟨rfl, hb9⟩; obtain ⟨hc9, hf9, hz9⟩ := bcell hb9; try simp only [World.size_alloc, size_setCell] at hz9)
            refine bodyPost_ret (v := (.agg #[.int .i64 4, .int .i64 0, .int .i64 0, .string (⟨#[35, 86, 65, 76, 85, 69, 33]⟩ : ByteArray), .slice none 0 0])) (by simp [results, Tryz.results213, go_sem, hc9, hc1, hc2, hc3, hwlt1, hwlt2, hwlt3]) rfl ⟨by rw [HF.out]; rfl, (by (repeat' (first | with_reducible exact Below.refl _ _ | with_reducible refine Below.setCell ?_ ?_ _ | with_reducible refine Below.alloc ?_ ?_ _ | with_reducible refine Below.drew ?_ | with_reducible refine Below.trans ?_ (Below.mono (by assumption) ?_))); all_goals (first | omega | (simp [World.setCell]; done) | (simp [World.setCell]; omega)))⟩
          · have hfin := wordB_month hmb
            have HF := Lib.hid hfin
            clear hfin hmb
            go_wp2_with (go_at_call 38; refine (doubt_any _).mono ?_; rintro e w9 ⟨rfl, hb9⟩; obtain ⟨hc9, hf9, hz9⟩ := bcell hb9; try simp only [World.size_alloc, size_setCell] at hz9)
            refine bodyPost_ret (v := (.agg #[.int .i64 6, .int .i64 0, .int .i64 0, .string ⟨#[]⟩, .slice none 0 0])) (by simp [results, Tryz.results213, go_sem, hc9, hc1, hc2, hc3, hwlt1, hwlt2, hwlt3]) rfl ⟨by rw [HF.out]; rfl, (by (repeat' (first | with_reducible exact Below.refl _ _ | with_reducible refine Below.setCell ?_ ?_ _ | with_reducible refine Below.alloc ?_ ?_ _ | with_reducible refine Below.drew ?_ | with_reducible refine Below.trans ?_ (Below.mono (by assumption) ?_))); all_goals (first | omega | (simp [World.setCell]; done) | (simp [World.setCell]; omega)))⟩

end Go.Proofs.YtdpkjhohklfieaaGreat
