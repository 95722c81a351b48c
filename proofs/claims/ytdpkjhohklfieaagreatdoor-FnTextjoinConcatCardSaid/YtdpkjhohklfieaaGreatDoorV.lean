/- Functions of the reference over texts and numbers: letters, digits, fractions. What is said of their answers is as loose as the statements allow. -/
import Derived.Test.YtdpkjhohklfieaaGreatDoorA
import Derived.Lib.Hide
import Derived.Lib.ConvBytes
import Derived.Laws.BytesArg
set_option linter.unusedSimpArgs false
set_option linter.unusedVariables false
namespace Go.Proofs.YtdpkjhohklfieaaGreatDoor
open Go.RowKit
set_option maxRecDepth 100000

/-- Some truth; nothing that was there has changed. -/
def SomeBool (w : World) (e : Ending) (w' : World) : Prop := ∃ b : Bool, e = .returned (.bool b) ∧ Below w.heap.size w w'
/-- Some text. -/
def SomeText (w : World) (e : Ending) (w' : World) : Prop := ∃ t : ByteArray, e = .returned (.string t) ∧ t.size ≤ 1000000 ∧ Below w.heap.size w w'

def lowr (c : Int) : Int := if 65 ≤ c ∧ c ≤ 90 then c + 32 else c

theorem lowr_range (c : Int) (h0 : 0 ≤ c) (h1 : c ≤ 255) : 0 ≤ lowr c ∧ lowr c ≤ 255 := by unfold lowr; split <;> omega

theorem bytesWorld_below (w : World) (e : TypeId) (s : ByteArray) : Below w.heap.size w (Lib.bytesWorld w e s) :=
  ⟨rfl, rfl, rfl, by rw [Lib.bytesWorld_size]; omega, fun k hk => Lib.bytesWorld_at_old w e s k hk⟩

/-- The bytes that a block of the call's own holds. -/
def Bytes (w : World) (g n : Nat) (ys : List Int) : Prop :=
  ys.length = n ∧ ∀ j, j < n → w.cell? ⟨g, j, none⟩ = some (.int .u8 (ys.getD j 0)) ∧ w.frozen? ⟨g, j, none⟩ = false ∧ 0 ≤ ys.getD j 0 ∧ ys.getD j 0 ≤ 255

theorem Bytes.made (w : World) (e : TypeId) (s : ByteArray) : Bytes (Lib.bytesWorld w e s) w.heap.size s.size (s.data.toList.map fun b => (b.toNat : Int)) := by
  refine ⟨by simp, fun j hj => ⟨?_, ?_, ?_⟩⟩
  · rw [Lib.bytesWorld_cell w e s j hj]
    have : j < s.data.toList.length := by simpa using hj
    simp [List.getD, List.getElem?_eq_getElem this]
  · have hsz : s.size ≤ (Lib.bytesCells w e s).size := by simp [Lib.bytesCells]
    simp only [World.frozen?, Lib.bytesWorld_at_new]
    simp
    omega
  · have : j < s.data.toList.length := by simpa using hj
    simp only [List.getD, List.getElem?_map, List.getElem?_eq_getElem this, Option.map_some, Option.getD_some]
    have := (s.data.toList[j]).toNat_lt
    omega

theorem Bytes.put {w : World} {g n : Nat} {ys : List Int} (h : Bytes w g n ys) (k : Nat) (hk : k < n) (c : Int) (h0 : 0 ≤ c) (h1 : c ≤ 255) :
    Bytes (w.setCell ⟨g, k, none⟩ (.int .u8 c)) g n (ys.set k c) := by
  refine ⟨by simpa using h.1, fun j hj => ?_⟩
  have hl := h.1
  obtain ⟨a1, a2, a3⟩ := h.2 j hj
  by_cases e : j = k
  · subst e
    refine ⟨?_, by simpa [go_sem] using a2, ?_⟩
    · rw [World.cell?_setCell_same _ _ _ a1]
      simp [List.getD, hl, hj]
    · simp [List.getD, hl, hj]; exact ⟨h0, h1⟩
  · refine ⟨?_, by simpa [go_sem] using a2, ?_⟩
    · rw [World.cell?_setCell_other _ _ _ _ (by intro he; injection he with _ ho; exact e ho.symm)]
      rw [a1]
      simp [List.getD, List.getElem?_set, Ne.symm e]
    · simp only [List.getD, List.getElem?_set, if_neg (Ne.symm e)]
      exact a3

/-- A text's bytes as numbers; a text in small letters. -/
def nums (s : ByteArray) : List Int := s.data.toList.map fun b => (b.toNat : Int)
def lowB (s : ByteArray) : ByteArray := strOfNums ((nums s).map lowr)

theorem nums_len (s : ByteArray) : (nums s).length = s.size := by simp [nums]
theorem lowB_size (s : ByteArray) : (lowB s).size = s.size := by unfold lowB; rw [strOfNums_size, List.length_map, nums_len]

theorem set_mid (L : List Int) (f : Int → Int) (k : Nat) (hk : k < L.length) :
    (((L.take k).map f ++ L.drop k).set k (f (L.getD k 0))) = (L.take (k + 1)).map f ++ L.drop (k + 1) := by
  have h1 : (L.take (k + 1)).map f = (L.take k).map f ++ [f L[k]] := by
    rw [List.take_add_one, List.getElem?_eq_getElem hk, List.map_append]; rfl
  have h2 : L.getD k 0 = L[k] := by rw [List.getD_eq_getElem?_getD, List.getElem?_eq_getElem hk]; rfl
  rw [h1, h2, List.set_append, if_neg (by simp; omega), List.length_map, List.length_take, Nat.min_eq_left (Nat.le_of_lt hk), Nat.sub_self, List.drop_eq_getElem_cons hk, List.set_cons_zero, List.append_assoc]
  rfl

theorem getD_mid (L : List Int) (f : Int → Int) (k : Nat) (hk : k < L.length) : ((L.take k).map f ++ L.drop k).getD k 0 = L.getD k 0 := by
  rw [List.getD_eq_getElem?_getD, List.getElem?_append_right (by simp; omega)]
  simp [List.getD_eq_getElem?_getD, Nat.min_eq_left (Nat.le_of_lt hk)]

def months : List (List UInt8) := [[106, 97, 110], [102, 101, 98], [109, 97, 114], [97, 112, 114], [109, 97, 121], [106, 117, 110], [106, 117, 108], [97, 117, 103], [115, 101, 112], [111, 99, 116], [110, 111, 118], [100, 101, 99], [109, 111, 110], [116, 117, 101], [119, 101, 100], [116, 104, 117], [102, 114, 105], [115, 97, 116], [115, 117, 110]]
/-- Whether a text begins like the name of a month, or of a day. -/
def monthB (s : ByteArray) : Bool := decide (3 ≤ s.size) && months.contains (s.extract 0 3).toList

/-- The words of which nothing is said. -/
def otherWords : List (List UInt8) := [[], [101], [110, 97, 110], [105, 110, 102], [105, 110, 102, 105, 110, 105, 116, 121], [116, 114, 117, 101], [102, 97, 108, 115, 101], [97, 109], [112, 109], [97], [112]]

/-- Whether a text is surely no number: two letters or more that spell nothing like one. -/
def wordB (s : ByteArray) : Bool := decide (∀ c ∈ nums s, 97 ≤ lowr c ∧ lowr c ≤ 122) && !(otherWords.contains (lowB s).toList) && decide (2 ≤ s.size) && !monthB (lowB s)

theorem wordB_letter {s : ByteArray} {k : Nat} {c : Int} (hk : (nums s)[k]? = some c) (h : lowr c < 97 ∨ 122 < lowr c) : wordB s = false := by
  unfold wordB
  rw [decide_eq_false (by intro hall; have := hall c (List.mem_of_getElem? hk); omega)]
  rfl

theorem wordB_word {s : ByteArray} (h : (lowB s).toList ∈ otherWords) : wordB s = false := by
  unfold wordB
  rw [show otherWords.contains (lowB s).toList = true by simpa using h]
  simp

theorem wordB_short {s : ByteArray} (h : s.size < 2) : wordB s = false := by
  unfold wordB
  rw [decide_eq_false (show ¬ 2 ≤ s.size by omega)]
  simp

theorem wordB_month {s : ByteArray} (h : monthB (lowB s) = true) : wordB s = false := by
  unfold wordB
  rw [h]
  simp

theorem wordB_true {s : ByteArray} (h1 : ∀ c ∈ nums s, 97 ≤ lowr c ∧ lowr c ≤ 122) (h2 : ¬ (lowB s).toList ∈ otherWords) (h3 : 2 ≤ s.size) (h4 : monthB (lowB s) = false) : wordB s = true := by
  unfold wordB
  rw [decide_eq_true h1, decide_eq_true h3, h4, show otherWords.contains (lowB s).toList = false by simpa using h2]
  rfl

/-- What a text is that is no plain number: none at all, or nothing is said. -/
def OtherPost (s : ByteArray) (w : World) (e : Ending) (w' : World) : Prop := (if wordB s then e = .returned (.agg #[.int .i64 4, .int .i64 0, .int .i64 0, .string (⟨#[35, 86, 65, 76, 85, 69, 33]⟩ : ByteArray), .slice none 0 0]) else e = .returned (.agg #[.int .i64 6, .int .i64 0, .int .i64 0, .string ⟨#[]⟩, .slice none 0 0])) ∧ Below w.heap.size w w'

end Go.Proofs.YtdpkjhohklfieaaGreatDoor
