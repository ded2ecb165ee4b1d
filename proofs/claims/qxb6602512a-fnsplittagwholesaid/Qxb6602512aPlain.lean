/-
  THE PLAIN LAWS over bytes: a head, what is behind it, what is laid ahead.
-/
import Derived.Test.Qxb6602512aWalksA
namespace Go.Proofs.Qxb6602512a

theorem ext {a b : ByteArray} (h : a.data.toList = b.data.toList) : a = b := by
  cases a with
  | mk x => cases b with
    | mk y => exact congrArg ByteArray.mk (Array.toList_inj.1 h)
theorem app_data (a b : ByteArray) : (a ++ b).data.toList = a.data.toList ++ b.data.toList := by
  rw [ByteArray.data_append, Array.toList_append]
theorem app_size (a b : ByteArray) : (a ++ b).size = a.size + b.size := by
  rw [Lib.size_eq, Lib.size_eq, Lib.size_eq, app_data, List.length_append]

/-- What is laid ahead is a head, and behind it stands the rest. -/
theorem hp_app (p x : ByteArray) : hpB (p ++ x) p = true := by
  unfold hpB Lib.hasPrefix
  rw [app_data, List.isPrefixOf_iff_prefix]
  exact List.prefix_append _ _
theorem cut_app (p x : ByteArray) : (p ++ x).extract p.size (p ++ x).size = x := by
  apply ext
  rw [Lib.extract_data, app_size, app_data, Lib.size_eq p, List.drop_left]
  apply List.take_of_length_le
  rw [Lib.size_eq x]; omega
/-- A head laid ahead of what is behind it gives the whole again. -/
theorem app_cut {s p : ByteArray} (h : hpB s p = true) : p ++ s.extract p.size s.size = s := by
  unfold hpB Lib.hasPrefix at h
  rw [List.isPrefixOf_iff_prefix] at h
  obtain ⟨r, hr⟩ := h
  apply ext
  rw [app_data, Lib.extract_data, ← hr, Lib.size_eq p, List.drop_left]
  congr 1
  apply List.take_of_length_le
  rw [Lib.size_eq s, ← hr, List.length_append]; omega

theorem core_bb (x : ByteArray) : hpB (core ++ x) bb = false := by
  unfold hpB Lib.hasPrefix
  rw [app_data]; rfl
theorem core_b1 (x : ByteArray) : hpB (core ++ x) b1 = false := by
  unfold hpB Lib.hasPrefix
  rw [app_data]; rfl
theorem core_full (x : ByteArray) : (core ++ x).toList.isEmpty = false := by
  rw [Lib.toList_data, app_data]; rfl
theorem nil_of {t : ByteArray} (h : t.toList.isEmpty = true) : t = ⟨#[]⟩ := by
  apply ext
  rw [Lib.toList_data] at h
  simpa using h
theorem full_of {t p : ByteArray} (h : hpB t p = true) (hp : 0 < p.size) : t.toList.isEmpty = false := by
  have := hpB_le h
  rw [Lib.size_eq t] at this
  rw [Lib.toList_data]
  cases hl : t.data.toList with
  | nil => rw [hl, List.length_nil] at this; omega
  | cons a l => rfl

end Go.Proofs.Qxb6602512a
