/- What fmt.Sprintf's told text is at the two formats of a map's String. Conditions: strings shorter than 2^63 bytes altogether. -/
import Derived.Test.YtdmmiiniikdapaaFmtProg
import Derived.Stop.Told
import Derived.Stop.Texts
import Derived.Stop.FmtTextKit
import Derived.Stop.FmtTextVerbs
import Derived.Stop.CallBack
namespace Go.Proofs.YtdmmiiniikdapaaFmt
open Go.Extern.Stop Go.Stop Go.Extern

def shape9 : List UInt8 := [12, 6, 0, 0, 0, 0, 0, 0, 0, 115, 116, 114, 105, 110, 103]
-- the format of an entry
def entryReading (k s : List UInt8) : List (List UInt8) := [[37, 115, 58, 32, 37, 115], shape9, FmtStop.pack k, shape9, FmtStop.pack s]
-- the format of the whole
def wholeReading (x : List UInt8) : List (List UInt8) := [[123, 37, 115, 125], shape9, FmtStop.pack x]
theorem entry_parse : (FmtText.parse [37, 115, 58, 32, 37, 115]).map FmtText.glue = some [.verb {} 115, .lit [58, 32], .verb {} 115] := by rfl
theorem whole_parse : (FmtText.parse [123, 37, 115, 125]).map FmtText.glue = some [.lit [123], .verb {} 115, .lit [125]] := by rfl
theorem entry_text (k s : List UInt8) (hk : k.length < 2 ^ 64) (hs : s.length < 2 ^ 64) : FmtText.text "fmt.Sprintf" (entryReading k s) = some (k ++ [58, 32] ++ s) := by
  have h1 := FmtText.operand_str_at (sh := shape9) rfl rfl k hk
  have h2 := FmtText.operand_str_at (sh := shape9) rfl rfl s hs
  rw [entryReading, FmtText.text_sprintf_glued entry_parse (FmtText.operands_cons h1 (FmtText.operands_cons h2 FmtText.operands_nil))]
  simp [FmtText.render, FmtText.printArg_s_str]
theorem whole_text (x : List UInt8) (hx : x.length < 2 ^ 64) : FmtText.text "fmt.Sprintf" (wholeReading x) = some ([123] ++ x ++ [125]) := by
  have h1 := FmtText.operand_str_at (sh := shape9) rfl rfl x hx
  rw [wholeReading, FmtText.text_sprintf_glued whole_parse (FmtText.operands_cons h1 FmtText.operands_nil)]
  simp [FmtText.render, FmtText.printArg_s_str]
/-- The told answers, as strings. -/
theorem entry_told (F : Interp) (k s : List UInt8) (h : k.length + s.length < 2 ^ 62) : F.told.string "fmt.Sprintf" (entryReading k s) 0 = k ++ [58, 32] ++ s :=
  told_string F (entry_text k s (by omega) (by omega)) (by simp; omega)
theorem whole_told (F : Interp) (x : List UInt8) (h : x.length < 2 ^ 62) : F.told.string "fmt.Sprintf" (wholeReading x) 0 = [123] ++ x ++ [125] :=
  told_string F (whole_text x (by omega)) (by simp; omega)
end Go.Proofs.YtdmmiiniikdapaaFmt
