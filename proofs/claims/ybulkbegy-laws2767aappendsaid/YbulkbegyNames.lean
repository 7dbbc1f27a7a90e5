/-
  The leaves of 'LawS2767AAppend': zzs2767aname (7), zzs2767atext (8), isPrefix (18), IsObject (17), BareName (14).
-/
import Derived.Test.YbulkbegyProg
import Derived.WalkKit
import Derived.WalkLawsBesides
import Derived.Outline
namespace Go.Proofs.Ybulkbegy
open Go.RowKit

/-- The seven names, with their prefix. -/
def nameOf : Nat → ByteArray
  | 0 => ⟨#[43, 65]⟩ | 1 => ⟨#[36, 66]⟩ | 2 => ⟨#[67]⟩ | 3 => ⟨#[65, 108, 105, 97, 115]⟩ | 4 => ⟨#[43, 65, 108, 105, 97, 115]⟩ | 5 => ⟨#[36, 65, 108, 105, 97, 115]⟩ | _ => ⟨#[84, 121, 112, 101]⟩
/-- .. without it. -/
def bareOf : Nat → ByteArray
  | 0 => ⟨#[65]⟩ | 1 => ⟨#[66]⟩ | 2 => ⟨#[67]⟩ | 3 => ⟨#[65, 108, 105, 97, 115]⟩ | 4 => ⟨#[65, 108, 105, 97, 115]⟩ | 5 => ⟨#[65, 108, 105, 97, 115]⟩ | _ => ⟨#[84, 121, 112, 101]⟩
/-- The three texts. -/
def textOf : Nat → ByteArray
  | 0 => ⟨#[120]⟩ | 1 => ⟨#[83, 105, 103]⟩ | _ => ⟨#[]⟩
/-- Is the bare name "Alias"? -/
def isAlias (k : Nat) : Bool := k == 3 || k == 4 || k == 5

set_option maxHeartbeats 1000000 in
theorem name_any (i : Int) (w : World) (h0 : 0 ≤ i) (h1 : i ≤ 255) :
    Calls Yba.prog 7 #[.int .u8 i] w fun e w' => e = .returned (.tuple #[.string (nameOf (i % 7).toNat), .string (bareOf (i % 7).toNat)]) ∧ w' = w := by
  have hc : i % 7 = 0 ∨ i % 7 = 1 ∨ i % 7 = 2 ∨ i % 7 = 3 ∨ i % 7 = 4 ∨ i % 7 = 5 ∨ i % 7 = 6 := by omega
  rcases hc with h | h | h | h | h | h | h
  all_goals
    go_enter Yba.func7, Yba.ntmps7
    go_wp2
    go_ret2
    exact ⟨by rw [h]; rfl, rfl⟩

set_option maxHeartbeats 1000000 in
theorem text_any (i : Int) (w : World) (h0 : 0 ≤ i) (h1 : i ≤ 255) :
    Calls Yba.prog 8 #[.int .u8 i] w fun e w' => e = .returned (.string (textOf (i % 3).toNat)) ∧ w' = w := by
  have hc : i % 3 = 0 ∨ i % 3 = 1 ∨ i % 3 = 2 := by omega
  rcases hc with h | h | h
  all_goals
    go_enter Yba.func8, Yba.ntmps8
    go_wp2
    go_ret
    exact ⟨by rw [h]; rfl, rfl⟩

set_option maxHeartbeats 1000000 in
theorem bare_plus (s : ByteArray) (b : Nat) (w : World) (hs : 0 < s.size) (h : (s[0].toNat : Int) = 43) (hc : w.cell? ⟨b, 0, none⟩ = some (.string s)) :
    Calls Yba.prog 14 #[.pointer (some ⟨b, 0, none⟩)] w fun e w' => e = .returned (.string (s.extract 1 s.size)) ∧ w' = w := by
  have h' : ((s[0].toNat : Int) == 43) = true := by rw [h]; rfl
  clear h
  go_enter Yba.func14, Yba.ntmps14
  go_wp2
  go_ret
  exact ⟨rfl, rfl⟩

set_option maxHeartbeats 1000000 in
theorem bare_dollar (s : ByteArray) (b : Nat) (w : World) (hs : 0 < s.size) (h : (s[0].toNat : Int) = 36) (hc : w.cell? ⟨b, 0, none⟩ = some (.string s)) :
    Calls Yba.prog 14 #[.pointer (some ⟨b, 0, none⟩)] w fun e w' => e = .returned (.string (s.extract 1 s.size)) ∧ w' = w := by
  have h' : ((s[0].toNat : Int) == 43) = false := by rw [h]; rfl
  have h2 : ((s[0].toNat : Int) == 36) = true := by rw [h]; rfl
  clear h
  go_enter Yba.func14, Yba.ntmps14
  go_wp2
  go_ret
  exact ⟨rfl, rfl⟩

set_option maxHeartbeats 1000000 in
theorem bare_not (s : ByteArray) (b : Nat) (w : World) (hs : 0 < s.size) (h1 : ((s[0].toNat : Int) == 43) = false) (h2 : ((s[0].toNat : Int) == 36) = false) (hc : w.cell? ⟨b, 0, none⟩ = some (.string s)) :
    Calls Yba.prog 14 #[.pointer (some ⟨b, 0, none⟩)] w fun e w' => e = .returned (.string s) ∧ w' = w := by
  go_enter Yba.func14, Yba.ntmps14
  go_wp2
  go_ret
  exact ⟨rfl, rfl⟩

theorem bare_any (k b : Nat) (w : World) (hk : k < 7) (hc : w.cell? ⟨b, 0, none⟩ = some (.string (nameOf k))) :
    Calls Yba.prog 14 #[.pointer (some ⟨b, 0, none⟩)] w fun e w' => e = .returned (.string (bareOf k)) ∧ w' = w := by
  rcases (show k = 0 ∨ k = 1 ∨ k = 2 ∨ k = 3 ∨ k = 4 ∨ k = 5 ∨ k = 6 by omega) with rfl | rfl | rfl | rfl | rfl | rfl | rfl
  · exact bare_plus _ b w (by decide) (by decide) hc
  · exact bare_dollar _ b w (by decide) (by decide) hc
  · exact bare_not _ b w (by decide) (by decide) (by decide) hc
  · exact bare_not _ b w (by decide) (by decide) (by decide) hc
  · exact bare_plus _ b w (by decide) (by decide) hc
  · exact bare_dollar _ b w (by decide) (by decide) hc
  · exact bare_not _ b w (by decide) (by decide) (by decide) hc
end Go.Proofs.Ybulkbegy
