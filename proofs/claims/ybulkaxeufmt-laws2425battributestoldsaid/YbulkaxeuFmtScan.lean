/-
  WHAT A LIST OF WORDS COMES TO: the plain function that both the project's 'attributes' and the law's own model compute. No Go in sight.
-/
import Derived.Test.YbulkaxeuFmtPlain
namespace Go.Proofs.YbulkaxeuFmt
namespace Att

/-! ### What a list of words comes to -/
def gsmL : List UInt8 := [103, 115, 109, 45, 115, 117, 98]
def mapL : List UInt8 := [109, 97, 112, 45, 116, 111]
def e9L : List UInt8 := [101, 57, 49, 49]
def smsL : List UInt8 := [115, 109, 115]
/-- The flags as a number. -/
def fl (a b : Bool) : Int := (if a then 1 else 0) + (if b then 2 else 0)
/-- The target that a word after 'map-to' names. -/
def tgt (block d : ByteArray) : Option ByteArray :=
  let o := digs d.data.toList
  if dok o = true then
    if (dstr o).size = 10 then some (dstr o)
    else if (dstr o).size = 4 ∧ ¬ block.toList = [] then some (block ++ dstr o)
    else none
  else none
/-- Kind, flags, target, and whether all words were well formed. -/
def scan (block : ByteArray) : List ByteArray → Int → Bool → Bool → ByteArray → Int × Int × ByteArray × Bool
  | [], k, a, b, t => (k, fl a b, t, true)
  | w :: r, k, a, b, t =>
    if w.toList = gsmL then
      if k = 0 then scan block r 1 a b t else (k, fl a b, t, false)
    else if w.toList = mapL then
      if k = 0 then
        match r with
        | [] => (k, fl a b, t, false)
        | d :: r' =>
          match tgt block d with
          | some t' => scan block r' 2 a b t'
          | none => (k, fl a b, t, false)
      else (k, fl a b, t, false)
    else if w.toList = e9L then
      if a = true then (k, fl a b, t, false) else scan block r k true b t
    else if w.toList = smsL then
      if b = true then (k, fl a b, t, false) else scan block r k a true t
    else (k, fl a b, t, false)

section
variable {block w d t t' : ByteArray} {r : List ByteArray} {k : Int} {a b : Bool}
theorem gsm_ne_map : gsmL ≠ mapL := by decide
theorem gsm_ne_e9 : gsmL ≠ e9L := by decide
theorem gsm_ne_sms : gsmL ≠ smsL := by decide
theorem map_ne_gsm : mapL ≠ gsmL := by decide
theorem e9_ne_gsm : e9L ≠ gsmL := by decide
theorem e9_ne_map : e9L ≠ mapL := by decide
theorem sms_ne_gsm : smsL ≠ gsmL := by decide
theorem sms_ne_map : smsL ≠ mapL := by decide
theorem sms_ne_e9 : smsL ≠ e9L := by decide
theorem scan_cons : scan block (w :: r) k a b t =
    if w.toList = gsmL then
      if k = 0 then scan block r 1 a b t else (k, fl a b, t, false)
    else if w.toList = mapL then
      if k = 0 then
        match r with
        | [] => (k, fl a b, t, false)
        | d :: r' =>
          match tgt block d with
          | some t' => scan block r' 2 a b t'
          | none => (k, fl a b, t, false)
      else (k, fl a b, t, false)
    else if w.toList = e9L then
      if a = true then (k, fl a b, t, false) else scan block r k true b t
    else if w.toList = smsL then
      if b = true then (k, fl a b, t, false) else scan block r k a true t
    else (k, fl a b, t, false) := by cases r <;> rfl
theorem scan_end : scan block [] k a b t = (k, fl a b, t, true) := rfl
theorem scan_gsm (h : w.toList = gsmL) : scan block (w :: r) 0 a b t = scan block r 1 a b t := by rw [scan_cons]; simp [h]
theorem scan_gsm_no (h : w.toList = gsmL) (hk : ¬ k = 0) : scan block (w :: r) k a b t = (k, fl a b, t, false) := by rw [scan_cons]; simp [h, hk]
theorem scan_map_end (h : w.toList = mapL) : scan block [w] k a b t = (k, fl a b, t, false) := by rw [scan_cons]; simp [h, map_ne_gsm]
theorem scan_map_yes (h : w.toList = mapL) (ht : tgt block d = some t') : scan block (w :: d :: r) 0 a b t = scan block r 2 a b t' := by rw [scan_cons]; simp [h, map_ne_gsm, ht]
theorem scan_map_none (h : w.toList = mapL) (ht : tgt block d = none) : scan block (w :: d :: r) k a b t = (k, fl a b, t, false) := by rw [scan_cons]; simp [h, map_ne_gsm, ht]
theorem scan_map_no (h : w.toList = mapL) (hk : ¬ k = 0) : scan block (w :: r) k a b t = (k, fl a b, t, false) := by rw [scan_cons]; simp [h, map_ne_gsm, hk]
theorem scan_e9 (h : w.toList = e9L) : scan block (w :: r) k false b t = scan block r k true b t := by rw [scan_cons]; simp [h, e9_ne_gsm, e9_ne_map]
theorem scan_e9_no (h : w.toList = e9L) : scan block (w :: r) k true b t = (k, fl true b, t, false) := by rw [scan_cons]; simp [h, e9_ne_gsm, e9_ne_map]
theorem scan_sms (h : w.toList = smsL) : scan block (w :: r) k a false t = scan block r k a true t := by rw [scan_cons]; simp [h, sms_ne_gsm, sms_ne_map, sms_ne_e9]
theorem scan_sms_no (h : w.toList = smsL) : scan block (w :: r) k a true t = (k, fl a true, t, false) := by rw [scan_cons]; simp [h, sms_ne_gsm, sms_ne_map, sms_ne_e9]
theorem scan_other (h1 : ¬ w.toList = gsmL) (h2 : ¬ w.toList = mapL) (h3 : ¬ w.toList = e9L) (h4 : ¬ w.toList = smsL) : scan block (w :: r) k a b t = (k, fl a b, t, false) := by rw [scan_cons]; simp [h1, h2, h3, h4]

theorem tgt_bad (h : dok (digs d.data.toList) = false) : tgt block d = none := by simp [tgt, h]
theorem tgt_ten (h : dok (digs d.data.toList) = true) (h10 : (dstr (digs d.data.toList)).size = 10) : tgt block d = some (dstr (digs d.data.toList)) := by simp [tgt, h, h10]
theorem tgt_four (h : dok (digs d.data.toList) = true) (h4 : (dstr (digs d.data.toList)).size = 4) (hb : ¬ block.toList = []) : tgt block d = some (block ++ dstr (digs d.data.toList)) := by simp [tgt, h, h4, hb]
theorem tgt_nofour (h : dok (digs d.data.toList) = true) (h10 : ¬ (dstr (digs d.data.toList)).size = 10) (h4 : ¬ ((dstr (digs d.data.toList)).size = 4 ∧ ¬ block.toList = [])) : tgt block d = none := by simp only [tgt, h, h10, h4, if_true, if_false]
end

theorem drop_cons {as : List ByteArray} {i : Nat} (h : i < as.length) : as.drop i = as[i] :: as.drop (i + 1) := List.drop_eq_getElem_cons h

end Att
end Go.Proofs.YbulkaxeuFmt
