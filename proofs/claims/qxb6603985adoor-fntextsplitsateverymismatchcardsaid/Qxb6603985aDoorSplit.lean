import Derived.Test.Qxb6603985aDoorText
namespace Go.Proofs.Qxb6603985aDoor
open Go.RowKit
set_option linter.unusedVariables false

theorem data_inj {a b : ByteArray} (h : a.data.toList = b.data.toList) : a = b := by
  cases a with | mk x => cases b with | mk y => cases x; cases y; simp at h; subst h; rfl
theorem textS_data (f t : ByteArray) (ms : List M) : (textS f t ms).data.toList = (headS f t).data.toList ++ bodyN ms ms.length := by rw [textS]
theorem textS_size (f t : ByteArray) (ms : List M) : (textS f t ms).size = (headS f t).size + (bodyN ms ms.length).length := by
  rw [← dlen, textS_data, List.length_append, dlen]
theorem textS_nil (f t : ByteArray) : textS f t [] = headS f t := data_inj (by rw [textS_data]; simp [bodyN])
theorem extract_list (s : ByteArray) (i j : Nat) : (s.extract i j).data.toList = (s.data.toList.take j).drop i := by
  rw [ByteArray.data_extract]
  rw [Array.toList_extract, List.extract_eq_take_drop, List.drop_take]

theorem text_head (f t : ByteArray) (ms : List M) : (textS f t ms).extract 0 (textS f t []).size = textS f t [] := by
  apply data_inj
  rw [extract_list, textS_nil, textS_data, List.drop_zero, ← dlen]
  exact List.take_left
theorem text_split (f t : ByteArray) (a b : List M) (ha : a ≠ []) (hb : b ≠ []) :
    textS f t (a ++ b) = textS f t a ++ ⟨#[59, 32]⟩ ++ (textS f t b).extract (textS f t []).size (textS f t b).size := by
  apply data_inj
  have hbl : 0 < b.length := List.length_pos_iff.2 hb
  have e := bodyN_right a b ha b.length hbl (Nat.le_refl _)
  rw [ByteArray.data_append, ByteArray.data_append, Array.toList_append, Array.toList_append, extract_list, textS_nil, textS_data, textS_data, List.length_append, e, ← dlen (textS f t b), List.take_length, textS_data, ← dlen (headS f t), List.drop_left]
  simp [List.append_assoc]

end Go.Proofs.Qxb6603985aDoor
