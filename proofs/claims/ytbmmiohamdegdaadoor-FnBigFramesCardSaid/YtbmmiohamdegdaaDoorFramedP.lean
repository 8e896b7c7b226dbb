/- Frames written: plain mathematics. No condition. -/
import Derived.Test.YtbmmiohamdegdaaDoorFramesP
set_option maxRecDepth 100000
set_option maxHeartbeats 1000000
namespace Go.HE

/-- The lowest k bytes of a number, the highest first. -/
def enc : Nat → Nat → List UInt8
  | 0, _ => []
  | k + 1, n => UInt8.ofNat (n / 256 ^ k % 256) :: enc k n
theorem enc_len : ∀ k n, (enc k n).length = k
  | 0, _ => rfl
  | k + 1, n => by simp [enc, enc_len k n]
theorem val_fold : ∀ (d : List UInt8) (z : Nat), d.foldl (fun n b => n * 256 + b.toNat) z = z * 256 ^ d.length + val d
  | [], z => by simp [val]
  | b :: d, z => by
    have h1 := val_fold d (z * 256 + b.toNat)
    have h2 := val_fold d b.toNat
    have h3 : (z * 256 + b.toNat) * 256 ^ d.length = z * (256 ^ d.length * 256) + b.toNat * 256 ^ d.length := by rw [Nat.add_mul, Nat.mul_assoc, Nat.mul_comm 256 (256 ^ d.length)]
    have h4 : val (b :: d) = b.toNat * 256 ^ d.length + val d := by
      unfold val at h2 ⊢
      simp only [List.foldl_cons, Nat.zero_mul, Nat.zero_add]
      exact h2
    rw [List.foldl_cons, h1, h3, h4, List.length_cons, Nat.pow_succ]
    omega
theorem val_cons (b : UInt8) (d : List UInt8) : val (b :: d) = b.toNat * 256 ^ d.length + val d := by
  have := val_fold d (0 * 256 + b.toNat)
  unfold val at this ⊢
  simp only [List.foldl_cons]
  rw [this]; simp
theorem byte_toNat (n : Nat) : (UInt8.ofNat (n % 256)).toNat = n % 256 := by
  simp [UInt8.toNat_ofNat']
theorem val_enc : ∀ k n, val (enc k n) = n % 256 ^ k
  | 0, n => by simp [enc, val, Nat.mod_one]
  | k + 1, n => by
    rw [enc, val_cons, enc_len, val_enc k n, byte_toNat, Nat.pow_succ, Nat.mod_mul]
    rw [Nat.mul_comm (n / 256 ^ k % 256)]
    omega

def framedL (w : Nat) (ts : List (List UInt8)) : List UInt8 := (ts.map fun t => enc w t.length ++ t).flatten
theorem framedL_snoc (w : Nat) (ts : List (List UInt8)) (t : List UInt8) : framedL w (ts ++ [t]) = framedL w ts ++ (enc w t.length ++ t) := by simp [framedL]
theorem framedL_take (w : Nat) (ts : List (List UInt8)) (i : Nat) : (framedL w (ts.take i)).length ≤ (framedL w ts).length := by
  have e : framedL w ts = framedL w (ts.take i) ++ framedL w (ts.drop i) := by
    unfold framedL
    rw [← List.flatten_append, ← List.map_append, List.take_append_drop]
  rw [e, List.length_append]; omega
theorem framedL_len (w : Nat) : ∀ ts : List (List UInt8), (framedL w ts).length = w * ts.length + ts.flatten.length
  | [] => by simp [framedL]
  | t :: ts => by
    have ih := framedL_len w ts
    unfold framedL at ih ⊢
    simp only [List.map_cons, List.flatten_cons, List.length_append, List.length_cons, enc_len, ih, Nat.mul_add]
    omega
theorem framed_of {w : Nat} : ∀ {ts : List (List UInt8)}, (∀ t ∈ ts, t.length < 256 ^ w) → ∃ m, FramesOf w (framedL w ts) ts none m ∧ ∀ L, 0 < L → (∀ t ∈ ts, w + t.length < L) → m < L
  | [], _ => ⟨0, .nil, fun L h _ => h⟩
  | t :: ts, h => by
    obtain ⟨m, h1, h2⟩ := framed_of (fun x hx => h x (List.mem_cons_of_mem _ hx))
    have ht := h t List.mem_cons_self
    refine ⟨max (w + t.length) m, ?_, fun L hL hall => ?_⟩
    · have : framedL w (t :: ts) = enc w t.length ++ t ++ framedL w ts := by simp [framedL]
      rw [this]
      exact .cons (enc_len _ _) (by rw [val_enc, Nat.mod_eq_of_lt ht]) h1
    · have := h2 L hL fun x hx => hall x (List.mem_cons_of_mem _ hx)
      have := hall t List.mem_cons_self
      omega

theorem val_zero : ∀ k, val (List.replicate k 0) = 0
  | 0 => rfl
  | k + 1 => by rw [List.replicate_succ, val_cons, val_zero k]; simp
/-- Frames of nothing. -/
theorem zeros_of (w : Nat) : ∀ n, ∃ m, m ≤ w ∧ FramesOf w (List.replicate (n * w) 0) (List.replicate n []) none m
  | 0 => ⟨0, Nat.zero_le _, by rw [Nat.zero_mul]; exact .nil⟩
  | n + 1 => by
    obtain ⟨m, h1, h2⟩ := zeros_of w n
    refine ⟨max (w + 0) m, by omega, ?_⟩
    have := FramesOf.cons (h := List.replicate w 0) (t := []) (by simp) (by rw [val_zero]; rfl) h2
    rw [List.append_nil, List.replicate_append_replicate] at this
    rw [Nat.succ_mul, Nat.add_comm (n * w) w]
    exact this

theorem FramesOf.snoc {w : Nat} {text : List UInt8} {ts : List (List UInt8)} {e : Option Nat} {m : Nat} (h : FramesOf w text ts e m) (he : e = none) {hd t : List UInt8} (h1 : hd.length = w) (h2 : t.length = val hd) : ∃ m, FramesOf w (text ++ (hd ++ t)) (ts ++ [t]) none m := by
  induction h with
  | nil =>
    have := FramesOf.cons h1 h2 (FramesOf.nil (w := w))
    exact ⟨_, by simpa using this⟩
  | bad => cases he
  | cons a1 a2 _ ih =>
    obtain ⟨m, h⟩ := ih he
    exact ⟨_, by rw [List.append_assoc]; exact .cons a1 a2 h⟩
end Go.HE
