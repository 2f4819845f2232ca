import Derived.Test.Qxb6604140aLawB
namespace Go.Proofs.Qxb6604140a.Cs
open Go.RowKit

theorem cast_tuple {a a' : Nat} {ao : Option Addr} {c c' : Nat} {i i' : Int} {br : Bool} (h1 : a = a') (h2 : c = c') (h3 : i = i') :
    Ending.returned (.tuple #[.slice ao a c, .int .i64 i, .bool br, .bool true]) = .returned (.tuple #[.slice ao a' c', .int .i64 i', .bool br, .bool true]) := by rw [h1, h2, h3]

theorem law_lf (x : Addr) (n p c f : Nat) (en : Bool) (xs : List Int) (w : World) (hx : xs.length = n) (hn : n ≤ 1048576) (hb : Byt xs) (hp : p < n) (hf : Fst xs p 10 f) (hfn : f < n) (hbB : x.block < w.heap.size) (hc : ∀ i, i < n → w.cell? (x.add i) = some (.int .u8 (xs.getD i 0))) :
    Calls Try.prog 5 #[.slice (some x) n c, .int .i64 p, .bool en] w fun e w' => e = .returned (.bool true) ∧ Below w.heap.size w w' := by
  have hlo := hf.lo
  have hhit := hf.hit (by omega)
  have hmiss := hf.miss
  by_cases hcr : p < f ∧ xs.getD (f - 1) 0 = 13
  · have hz := fun (w1 : World) hc1 => zz_pass _ _ _ _ _ _ _ w1 (csv_lf w.heap.size n p f (f - 1) en xs w1 hx hn hb hp hf hfn hc1 (.inl ⟨hcr.1, hcr.2, rfl⟩))
    by_cases hm : f = p + 1
    · subst hm
      obtain ⟨r, rfl⟩ : ∃ r, n = p + 2 + r := ⟨n - p - 2, by omega⟩
      refine law_z3 x p r c en xs w hx hn hbB hc hcr.2 hhit fun w1 h => (hz w1 h).mono ?_
      rintro e w' ⟨rfl, rfl⟩
      exact ⟨cast_tuple (by omega) (by omega) (by omega), rfl⟩
    · obtain ⟨k, rfl⟩ : ∃ k, f = p + (k + 1) + 1 := ⟨f - p - 2, by omega⟩
      obtain ⟨r, rfl⟩ : ∃ r, n = p + (k + 1) + 2 + r := ⟨n - p - k - 3, by omega⟩
      refine law_s3 x p k r c en xs w hx hn hbB hc hcr.2 hhit (fun i hi => hmiss _ (by omega) (by omega)) fun w1 h => (hz w1 h).mono ?_
      rintro e w' ⟨rfl, rfl⟩
      exact ⟨cast_tuple (by omega) (by omega) (by omega), rfl⟩
  · have hz := fun (w1 : World) hc1 => zz_pass _ _ _ _ _ _ _ w1 (csv_lf w.heap.size n p f f en xs w1 hx hn hb hp hf hfn hc1 (.inr ⟨hcr, rfl⟩))
    by_cases hm : p = f
    · subst hm
      obtain ⟨r, rfl⟩ : ∃ r, n = p + 1 + r := ⟨n - p - 1, by omega⟩
      refine law_z2 x p r c en xs w hx hn hbB hc hhit fun w1 h => (hz w1 h).mono ?_
      rintro e w' ⟨rfl, rfl⟩
      exact ⟨cast_tuple (by omega) (by omega) (by omega), rfl⟩
    · obtain ⟨k, rfl⟩ : ∃ k, f = p + (k + 1) := ⟨f - p - 1, by omega⟩
      obtain ⟨r, rfl⟩ : ∃ r, n = p + (k + 1) + 1 + r := ⟨n - p - k - 2, by omega⟩
      refine law_s2 x p k r c en xs w hx hn hbB hc hhit (fun i hi => hmiss _ (by omega) (by omega)) (fun h => hcr ⟨by omega, h⟩) fun w1 h => (hz w1 h).mono ?_
      rintro e w' ⟨rfl, rfl⟩
      exact ⟨cast_tuple (by omega) (by omega) (by omega), rfl⟩

theorem law_end (x : Addr) (n p c : Nat) (xs : List Int) (w : World) (hx : xs.length = n) (hn : n ≤ 1048576) (hb : Byt xs) (hp : p < n) (hf : Fst xs p 10 n) (hbB : x.block < w.heap.size) (hc : ∀ i, i < n → w.cell? (x.add i) = some (.int .u8 (xs.getD i 0))) :
    Calls Try.prog 5 #[.slice (some x) n c, .int .i64 p, .bool true] w fun e w' => e = .returned (.bool true) ∧ Below w.heap.size w w' := by
  have hmiss := hf.miss
  by_cases hcr : p < n ∧ xs.getD (n - 1) 0 = 13
  · have hz := fun (w1 : World) hc1 => zz_pass _ _ _ _ _ _ _ w1 (csv_end w.heap.size n p (n - 1) xs w1 hx hn hb hp hf hc1 (.inl ⟨hcr.1, hcr.2, rfl⟩))
    by_cases hm : n = 1 + p
    · subst hm
      refine law_z1 x p c xs w hx hn hbB hc (by rw [← hcr.2]; congr 1; omega) fun w1 h => (hz w1 h).mono ?_
      rintro e w' ⟨rfl, rfl⟩
      exact ⟨cast_tuple (by omega) (by omega) (by omega), rfl⟩
    · obtain ⟨k, rfl⟩ : ∃ k, n = k + 1 + 1 + p := ⟨n - p - 2, by omega⟩
      refine law_s1 x p k c xs w hx hn hbB hc (by rw [← hcr.2]; congr 1; omega) (fun i hi => hmiss _ (by omega) (by omega)) fun w1 h => (hz w1 h).mono ?_
      rintro e w' ⟨rfl, rfl⟩
      exact ⟨cast_tuple (by omega) (by omega) (by omega), rfl⟩
  · have hz := fun (w1 : World) hc1 => zz_pass _ _ _ _ _ _ _ w1 (csv_end w.heap.size n p n xs w1 hx hn hb hp hf hc1 (.inr ⟨hcr, rfl⟩))
    obtain ⟨k, rfl⟩ : ∃ k, n = k + 1 + p := ⟨n - p - 1, by omega⟩
    refine law_s0 x p k c xs w hx hn hbB hc (fun i hi => hmiss _ (by omega) (by omega)) (fun h => hcr ⟨by omega, by rw [← h]; congr 1; omega⟩) fun w1 h => (hz w1 h).mono ?_
    rintro e w' ⟨rfl, rfl⟩
    exact ⟨cast_tuple (by omega) (by omega) (by omega), rfl⟩
end Go.Proofs.Qxb6604140a.Cs
