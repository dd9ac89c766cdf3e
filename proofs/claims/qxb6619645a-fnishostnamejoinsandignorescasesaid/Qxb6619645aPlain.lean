/-
  THE PLAIN MATHEMATICS OF 'asciiLower' AND 'isHostName': no Go in sight. A byte is a UInt8, seen as a number by 'toNat'.
-/
namespace Go.Proofs.Qxb6619645a

/-- A byte's number, lower-cased. -/
def lowI (x : Int) : Int := if 65 ≤ x ∧ x ≤ 90 then x + 32 else x
/-- A byte, lower-cased. -/
def low (c : UInt8) : UInt8 := UInt8.ofNat (lowI (c.toNat : Int)).toNat
/-- A string, lower-cased. -/
def lowB (s : ByteArray) : ByteArray := ⟨(s.data.toList.map low).toArray⟩

theorem byte_lt (c : UInt8) : (0 : Int) ≤ (c.toNat : Int) ∧ (c.toNat : Int) ≤ 255 := by
  have := c.toNat_lt
  omega

theorem lowI_range {x : Int} (h0 : 0 ≤ x) (h1 : x ≤ 255) : 0 ≤ lowI x ∧ lowI x ≤ 255 := by
  unfold lowI; split <;> omega

theorem low_toNat (c : UInt8) : ((low c).toNat : Int) = lowI (c.toNat : Int) := by
  have hb := byte_lt c
  have hr := lowI_range hb.1 hb.2
  unfold low
  rw [UInt8.toNat_ofNat']
  rw [Nat.mod_eq_of_lt (by omega)]
  omega

theorem toNat_ext {a b : UInt8} (h : (a.toNat : Int) = (b.toNat : Int)) : a = b := UInt8.toNat_inj.1 (by omega)

theorem lowI_idem {x : Int} : lowI (lowI x) = lowI x := by
  by_cases h : 65 ≤ x ∧ x ≤ 90
  · have e : lowI x = x + 32 := if_pos h
    rw [e]; exact if_neg (by omega)
  · have e : lowI x = x := if_neg h
    rw [e]; exact e

theorem low_idem (c : UInt8) : low (low c) = low c := toNat_ext (by rw [low_toNat, low_toNat, lowI_idem])

theorem size_lowB (s : ByteArray) : (lowB s).size = s.size := by
  show ((s.data.toList.map low).toArray).size = s.data.size
  simp

theorem list_lowB (s : ByteArray) : (lowB s).data.toList = s.data.toList.map low := by simp [lowB]

theorem bytes_ext {a b : ByteArray} (h : a.data.toList = b.data.toList) : a = b := ByteArray.ext (Array.toList_inj.1 h)

theorem lowB_idem (s : ByteArray) : lowB (lowB s) = lowB s := bytes_ext (by rw [list_lowB, list_lowB, List.map_map]; exact List.map_congr_left fun c _ => low_idem c)

theorem append_list (a b : ByteArray) : (a ++ b).data.toList = a.data.toList ++ b.data.toList := by simp [ByteArray.data_append]

theorem lowB_append (a b : ByteArray) : lowB a ++ lowB b = lowB (a ++ b) := bytes_ext (by rw [append_list, list_lowB, list_lowB, list_lowB, append_list, List.map_append])

theorem extract_append (s : ByteArray) (k : Nat) : s.extract 0 k ++ s.extract k s.size = s := by
  rw [ByteArray.extract_append_extract]
  simp

theorem getElem_lowB (s : ByteArray) (k : Nat) (h : k < s.size) (h' : k < (lowB s).size) : ((lowB s)[k].toNat : Int) = lowI (s[k].toNat : Int) := by
  rw [← low_toNat]
  congr 1
  have e : (lowB s)[k] = low s[k] := by
    rw [ByteArray.getElem_eq_getElem_data, ByteArray.getElem_eq_getElem_data]
    simp [lowB]
  rw [e]

/-! ### host names -/
/-- May the byte stand in a host name? -/
def hostI (x : Int) : Bool := decide (97 ≤ x ∧ x ≤ 122) || decide (65 ≤ x ∧ x ≤ 90) || decide (48 ≤ x ∧ x ≤ 57) || decide (x = 45) || decide (x = 46) || decide (x = 95)

theorem hostI_low (x : Int) : hostI (lowI x) = hostI x := by
  unfold hostI lowI
  split
  · rw [Bool.eq_iff_iff]; simp; omega
  · rfl

/-- Are all bytes of the list so? -/
def hostL (l : List UInt8) : Bool := l.all fun c => hostI (c.toNat : Int)
/-- Is the string a host name? -/
def hostS (s : ByteArray) : Bool := hostL s.data.toList && !s.data.toList.isEmpty

theorem hostL_low (l : List UInt8) : hostL (l.map low) = hostL l := by
  induction l with
  | nil => rfl
  | cons c l ih =>
    unfold hostL at ih ⊢
    rw [List.map_cons, List.all_cons, List.all_cons, ih, low_toNat, hostI_low]

theorem hostS_low (s : ByteArray) : hostS (lowB s) = hostS s := by
  unfold hostS
  rw [list_lowB, hostL_low]
  cases s.data.toList <;> rfl

theorem hostL_append (l m : List UInt8) : hostL (l ++ m) = (hostL l && hostL m) := List.all_append

theorem hostS_append (a b : ByteArray) : hostS (a ++ b) = ((a.data.toList.isEmpty || hostS a) && (b.data.toList.isEmpty || hostS b) && !(a ++ b).data.toList.isEmpty) := by
  unfold hostS
  rw [append_list, hostL_append]
  cases a.data.toList <;> cases b.data.toList <;> simp [hostL]

end Go.Proofs.Qxb6619645a
