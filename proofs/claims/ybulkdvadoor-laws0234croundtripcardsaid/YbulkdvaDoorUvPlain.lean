/-
  THE PLAIN LAW OF THE VARINTS: 'uvF f x': the bytes of x, seven bits each from the lowest on, f of them at the most; 'uv x': enough for 64 bits.
-/
import Derived.Laws.BitsLemmas
import Derived.Laws.BitsAllLaws
namespace Go.Proofs.YbulkdvaDoor

def uvF : Nat → Nat → List Int
  | 0, _ => []
  | f + 1, x => if 128 ≤ x then ((x % 128 + 128 : Nat) : Int) :: uvF f (x / 128) else [(x : Int)]
def uv (x : Nat) : List Int := uvF 10 x

theorem uvF_len (f x : Nat) : (uvF f x).length ≤ f := by
  induction f generalizing x with
  | zero => simp [uvF]
  | succ f ih =>
    unfold uvF
    split
    · have := ih (x / 128); simp; omega
    · simp

theorem uv_len (x : Nat) : (uv x).length ≤ 10 := uvF_len 10 x

theorem uvF_bytes (f x : Nat) : ∀ b ∈ uvF f x, 0 ≤ b ∧ b < 256 := by
  induction f generalizing x with
  | zero => simp [uvF]
  | succ f ih =>
    unfold uvF
    split
    · intro b hb
      rcases List.mem_cons.1 hb with rfl | h
      · omega
      · exact ih _ _ h
    · intro b hb
      simp at hb
      omega

theorem or128 (y : Nat) : bits .or .u8 (IntKind.u8.wrap (y : Int)) 128 = ((y % 128 + 128 : Nat) : Int) := by
  have h : ∀ a : Fin 256, a.val ||| 128 = a.val % 128 + 128 := by decide +kernel
  have hw : IntKind.u8.wrap (y : Int) = ((y % 256 : Nat) : Int) := by rw [IntKind.wrap_u8]; omega
  rw [hw, show (128 : Int) = ((128 : Nat) : Int) from rfl, (bits_nat .u8 8 (by decide) wraps_u8 (y % 256) 128 (by omega) (by decide)).2, h ⟨y % 256, by omega⟩]
  have : y % 256 % 128 = y % 128 := by omega
  simp [this]

theorem low7 (y : Nat) (h : ¬ 128 ≤ y) : IntKind.u8.wrap (y : Int) = (y : Int) := by rw [IntKind.wrap_u8]; omega

end Go.Proofs.YbulkdvaDoor
