/-
  THE PLAIN SIDE: the twenty-three names of the node kinds, as bytes; that no two of them are one; that each opens with the bytes 65, 83, 84 and is longer than that. No Go in sight.
-/
namespace Go.Proofs.YouarwFmt.Plain

/-- The names in the order of their numbers. -/
def nameList : List (List UInt8) :=
  [[65, 83, 84, 69, 109, 112, 116, 121],
   [65, 83, 84, 67, 111, 109, 112, 97, 114, 97, 116, 111, 114],
   [65, 83, 84, 67, 117, 114, 114, 101, 110, 116, 78, 111, 100, 101],
   [65, 83, 84, 69, 120, 112, 82, 101, 102],
   [65, 83, 84, 70, 117, 110, 99, 116, 105, 111, 110, 69, 120, 112, 114, 101, 115, 115, 105, 111, 110],
   [65, 83, 84, 70, 105, 101, 108, 100],
   [65, 83, 84, 70, 105, 108, 116, 101, 114, 80, 114, 111, 106, 101, 99, 116, 105, 111, 110],
   [65, 83, 84, 70, 108, 97, 116, 116, 101, 110],
   [65, 83, 84, 73, 100, 101, 110, 116, 105, 116, 121],
   [65, 83, 84, 73, 110, 100, 101, 120],
   [65, 83, 84, 73, 110, 100, 101, 120, 69, 120, 112, 114, 101, 115, 115, 105, 111, 110],
   [65, 83, 84, 75, 101, 121, 86, 97, 108, 80, 97, 105, 114],
   [65, 83, 84, 76, 105, 116, 101, 114, 97, 108],
   [65, 83, 84, 77, 117, 108, 116, 105, 83, 101, 108, 101, 99, 116, 72, 97, 115, 104],
   [65, 83, 84, 77, 117, 108, 116, 105, 83, 101, 108, 101, 99, 116, 76, 105, 115, 116],
   [65, 83, 84, 79, 114, 69, 120, 112, 114, 101, 115, 115, 105, 111, 110],
   [65, 83, 84, 65, 110, 100, 69, 120, 112, 114, 101, 115, 115, 105, 111, 110],
   [65, 83, 84, 78, 111, 116, 69, 120, 112, 114, 101, 115, 115, 105, 111, 110],
   [65, 83, 84, 80, 105, 112, 101],
   [65, 83, 84, 80, 114, 111, 106, 101, 99, 116, 105, 111, 110],
   [65, 83, 84, 83, 117, 98, 101, 120, 112, 114, 101, 115, 115, 105, 111, 110],
   [65, 83, 84, 83, 108, 105, 99, 101],
   [65, 83, 84, 86, 97, 108, 117, 101, 80, 114, 111, 106, 101, 99, 116, 105, 111, 110]]

/-- The name of number k; beyond the list, nothing. -/
def nm (k : Nat) : ByteArray := ⟨(nameList.getD k []).toArray⟩

/-- The table of the offsets, as the program lays it. -/
def idx : List Int := [0, 8, 21, 35, 44, 65, 73, 92, 102, 113, 121, 139, 152, 162, 180, 198, 213, 229, 245, 252, 265, 281, 289, 307]

theorem list_inj : ∀ k l : Fin 23, nameList.getD k.val [] = nameList.getD l.val [] → k = l := by decide
theorem list_head : ∀ k : Fin 23, 3 < (nameList.getD k.val []).length ∧ (nameList.getD k.val []).take 3 = [65, 83, 84] := by decide

theorem nm_inj {k l : Nat} (hk : k ≤ 22) (hl : l ≤ 22) (h : nm k = nm l) : k = l := by
  have h' : nameList.getD k [] = nameList.getD l [] := by
    have := congrArg (fun b : ByteArray => b.data.toList) h
    simpa [nm] using this
  have := list_inj ⟨k, by omega⟩ ⟨l, by omega⟩ h'
  simpa using this

end Go.Proofs.YouarwFmt.Plain
