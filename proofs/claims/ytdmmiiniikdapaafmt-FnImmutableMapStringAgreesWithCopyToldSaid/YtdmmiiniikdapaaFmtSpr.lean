/- fmt.Sprintf at the two formats of a map's String: the closed facts for the walk, and the told texts as strings of bytes. Conditions: short strings. -/
import Derived.Test.YtdmmiiniikdapaaFmtTxt
import Derived.Test.YtdmmiiniikdapaaFmtTab
import Derived.Test.YtdmmiiniikdapaaFmtCopy
import Derived.Test.YtdmmiiniikdapaaFmtShelfJ
import Derived.Stop.CallBack
import Derived.Stop.IfaceNil
import Derived.Stop.Texts
import GoSem.ClaimData
namespace Go.Proofs.YtdmmiiniikdapaaFmt
open Go.RowKit Go.Extern.Stop Go.Stop Go.Extern

theorem call18 (args : Array Value) (w : World) : (callFunc 18 args).run Tryf.prog w = ((FmtStop.sprintf #[9, 108] #[9] args).run Tryf.prog w).andThen fun v w' => .ok (.value v) w' :=
  run_callFunc_extern Tryf.func18 (by kernel_rfl) (by kernel_rfl) (by kernel_rfl) (by kernel_rfl) args w
theorem guardF (name : String) (w : World) : (FmtStop.guard name).run Tryf.prog w = .ok () w := by kernel_rfl
theorem fmtE : FmtStop.printed? ⟨#[37, 115, 58, 32, 37, 115]⟩ 2 = some [(0, 115, false), (1, 115, false)] := by kernel_rfl
theorem fmtEr (w : World) : (FmtDoors.printed ⟨#[37, 115, 58, 32, 37, 115]⟩ 2).run Tryf.prog w = .ok [(0, 115, false), (1, 115, false)] w := by kernel_rfl
theorem fmtW : FmtStop.printed? ⟨#[123, 37, 115, 125]⟩ 1 = some [(0, 115, false)] := by kernel_rfl
theorem fmtWr (w : World) : (FmtDoors.printed ⟨#[123, 37, 115, 125]⟩ 1).run Tryf.prog w = .ok [(0, 115, false)] w := by kernel_rfl
theorem op9_115 (name : String) (x : ByteArray) (w : World) : (FmtStop.operand name false 115 false (.iface 9 (.string x))).run Tryf.prog w = .ok (shape9, FmtStop.pack x.data.toList) w := by kernel_rfl
theorem strict9 (name : String) (x : ByteArray) (w : World) : (FmtStop.strict name (.iface 9 (.string x))).run Tryf.prog w = .ok (shape9, FmtStop.pack x.data.toList) w := by kernel_rfl

theorem bytes_of_list {b : ByteArray} {l : List UInt8} (h : b.data.toList = l) : b = ⟨l.toArray⟩ := by
  obtain ⟨a⟩ := b
  simp at h
  subst h
  simp
/-- The entry's text. -/
theorem entry_b (F : Interp) (k s : List UInt8) (h : k.length + s.length < 2 ^ 62) :
    FmtStop.textOf (F.told "fmt.Sprintf" [[37, 115, 58, 32, 37, 115], shape9, FmtStop.pack k, shape9, FmtStop.pack s] 0) = ⟨(k ++ [58, 32] ++ s).toArray⟩ :=
  bytes_of_list ((Go.Kit.textOf_list F.told "fmt.Sprintf" _).trans (entry_told F k s h))
/-- The whole text. -/
theorem whole_b (F : Interp) (x : List UInt8) (h : x.length < 2 ^ 62) :
    FmtStop.textOf (F.told "fmt.Sprintf" [[123, 37, 115, 125], shape9, FmtStop.pack x] 0) = ⟨([123] ++ x ++ [125]).toArray⟩ :=
  bytes_of_list ((Go.Kit.textOf_list F.told "fmt.Sprintf" _).trans (whole_told F x h))

/-- An entry's text, and the text of the whole. -/
def entT (T : Nat → Int) (V : Vals) (l : List UInt8) : List UInt8 := l ++ [58, 32] ++ fmtT T ((V l).getD 0)
def bs (l : List UInt8) : ByteArray := ⟨l.toArray⟩
def strT (T : Nat → Int) (V : Vals) (ps : List (List UInt8)) : List UInt8 := [123] ++ Lib.join (ps.map (entT T V)) [44, 32] ++ [125]
theorem Fits.rng {V : Vals} (hF : Fits V) (l : List UInt8) (x : Int) (h : V l = some x) : -9223372036854775808 ≤ x ∧ x ≤ 9223372036854775807 := by
  have hw := hF.num l x h
  simp [Lit.wf, IntKind.min, IntKind.max, IntKind.bits, IntKind.signed] at hw
  omega
theorem entT_length {T : Nat → Int} {V : Vals} {l : List UInt8} {x : Int} (hF : Fits V) (h : V l = some x) : (entT T V l).length ≤ 1048700 := by
  have h1 := hF.key l x h
  have h2 : (fmtT T x).length ≤ 100 := by
    have hw := hF.num l x h
    simp [Lit.wf, IntKind.min, IntKind.max, IntKind.bits, IntKind.signed] at hw
    exact fmtT_length T x (by omega) (by omega)
  unfold entT
  rw [h]
  simp
  omega
theorem join_length_le {M : Nat} {sep : List UInt8} : ∀ {L : List (List UInt8)}, (∀ l ∈ L, l.length ≤ M) → (Lib.join L sep).length ≤ L.length * (M + sep.length)
  | [], _ => by simp [Lib.join]
  | [a], h => by
    have := h a (by simp)
    simp [Lib.join]
    omega
  | a :: b :: r, h => by
    have h1 := h a (by simp)
    have h2 := join_length_le (M := M) (sep := sep) (L := b :: r) (fun l hl => h l (by simp [hl]))
    simp [Lib.join] at h2 ⊢
    rw [Nat.add_mul]
    omega
end Go.Proofs.YtdmmiiniikdapaaFmt
