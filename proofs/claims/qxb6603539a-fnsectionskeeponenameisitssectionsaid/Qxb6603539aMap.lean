/-
  A MAP THAT THE CALL HAS MADE, its elements ints: the list of what it holds.
-/
import Derived.Maps.Keyed
import Derived.DeepKeys4
import Derived.Test.Qxb6603539aProg
import Derived.Test.Qxb6603539aRep
namespace Go.Proofs.Qxb6603539a.Ds
open Go.RowKit Go.Maps Go.ChangeMaps

def MapAt (k : TypeId) (W : World) (b : Nat) (L : List (Value × Int)) : Prop :=
  ∃ es clock, W.heap[b]? = some (.map es clock) ∧ es.toList.map (fun e => (e.key, e.val)) = L.map (fun p => (p.1, Value.int .i64 p.2)) ∧ ∀ e ∈ es.toList, ∃ l, keyOf Try.prog k e.key = some l

theorem MapAt.blk {k : TypeId} {W W' : World} {b : Nat} {L : List (Value × Int)} (h : MapAt k W b L) (hk : W'.heap[b]? = W.heap[b]?) : MapAt k W' b L := by
  obtain ⟨es, c, h1, h2, h3⟩ := h
  exact ⟨es, c, hk.trans h1, h2, h3⟩
theorem MapAt.lt {k : TypeId} {W : World} {b : Nat} {L : List (Value × Int)} (h : MapAt k W b L) : b < W.heap.size := by
  obtain ⟨es, c, h1, _⟩ := h
  exact some_lt h1
theorem MapAt.obj {k : TypeId} {W : World} {b : Nat} {L : List (Value × Int)} (h : MapAt k W b L) : ∃ es c, W.heap[b]? = some (.map es c) := by
  obtain ⟨es, c, h1, _⟩ := h
  exact ⟨es, c, h1⟩

theorem MapAt.look {k t : TypeId} {W : World} {b : Nat} {L : List (Value × Int)} (h : MapAt k W b L) (K : Keyed Try.prog k) (ht : Try.prog.underlying t = some (.map k 3)) {key : Value} {kl : Lit} (hkey : keyOf Try.prog k key = some kl) :
    (∃ i, (key, i) ∈ L ∧ (Instr.lookup t (.map (some b)) key true).run Try.prog W = .ok (.tuple #[.int .i64 i, .bool true]) W) ∨
    ((∀ i, (key, i) ∉ L) ∧ (Instr.lookup t (.map (some b)) key true).run Try.prog W = .ok (.tuple #[.int .i64 0, .bool false]) W) := by
  obtain ⟨es, clock, hb, hL, hks⟩ := h
  rcases K.find W hkey es.toList hks with ⟨h1, h2⟩ | ⟨j, e, h1, h2, h3⟩
  · refine .inr ⟨fun i hi => ?_, by simp [Instr.lookup, run_underlying ht, MapKept.run_getObj_map hb, K.check W _ hkey, h1, Try.zeroValue3, Result.andThen]⟩
    have : (key, Value.int .i64 i) ∈ es.toList.map (fun e => (e.key, e.val)) := by rw [hL]; exact List.mem_map.2 ⟨_, hi, rfl⟩
    obtain ⟨e, he, hee⟩ := List.mem_map.1 this
    exact h2 e he (congrArg Prod.fst hee)
  · have he : e ∈ es.toList := List.mem_of_getElem? h2
    have : (e.key, e.val) ∈ L.map (fun p => (p.1, Value.int .i64 p.2)) := by rw [← hL]; exact List.mem_map.2 ⟨_, he, rfl⟩
    obtain ⟨⟨p1, p2⟩, hp, hpe⟩ := List.mem_map.1 this
    obtain ⟨rfl, hv⟩ := Prod.mk.inj hpe
    refine .inl ⟨p2, by rw [← h3]; exact hp, ?_⟩
    simp [Instr.lookup, run_underlying ht, MapKept.run_getObj_map hb, K.check W _ hkey, h1, Result.andThen, ← hv]

theorem MapAt.put {k t : TypeId} {W : World} {b : Nat} {L : List (Value × Int)} (h : MapAt k W b L) (K : Keyed Try.prog k) (ht : Try.prog.underlying t = some (.map k 3)) {key : Value} {kl : Lit} (hkey : keyOf Try.prog k key = some kl) (hno : ∀ i, (key, i) ∉ L) (i : Int) :
    ∃ W', (Instr.mapUpdate t (.map (some b)) key (.int .i64 i)).run Try.prog W = .ok () W' ∧ MapAt k W' b (L ++ [(key, i)]) ∧ W.grownBy W' (some b) ∧ W'.heap.size = W.heap.size := by
  obtain ⟨es, clock, hb, hL, hks⟩ := h
  rcases K.find W hkey es.toList hks with ⟨h1, h2⟩ | ⟨j, e, h1, h2, h3⟩
  · refine ⟨setBlock W b (.map (es.push ⟨key, .int .i64 i, clock⟩) (clock + 1)), ?_, ⟨_, _, heap_setBlock_same hb _, ?_, ?_⟩, ⟨rfl, rfl, rfl, by simp [setBlock], fun i _ hi => heap_setBlock_other hb _ (fun e => hi (by rw [e]))⟩, by simp [setBlock]⟩
    · simp [Instr.mapUpdate, run_underlying ht, MapKept.run_getObj_map hb, K.check W false hkey, h1, MapKept.run_setObj_map _ hb, Result.andThen, setBlock]
    · rw [Array.toList_push, List.map_append, hL, List.map_append]; rfl
    · intro e he
      rw [Array.toList_push, List.mem_append] at he
      rcases he with he | he
      · exact hks e he
      · simp at he; subst he; exact ⟨_, hkey⟩
  · exfalso
    have he : e ∈ es.toList := List.mem_of_getElem? h2
    have : (e.key, e.val) ∈ L.map (fun p => (p.1, Value.int .i64 p.2)) := by rw [← hL]; exact List.mem_map.2 ⟨_, he, rfl⟩
    obtain ⟨⟨p1, p2⟩, hp, hpe⟩ := List.mem_map.1 this
    obtain ⟨rfl, hv⟩ := Prod.mk.inj hpe
    exact hno p2 (by rw [← h3]; exact hp)

theorem keyed9 : Keyed Try.prog 9 := string_keyed Try.underlying9
theorem laidOut : laidOutB Try.prog = true := by kernel_rfl
theorem keyed99 : Keyed Try.prog 99 := Keyed.of_law (deep_law_laid laidOut (m := 4) (by omega) (of_decide_eq_true (by kernel_rfl)) (by kernel_rfl) (by kernel_rfl))
theorem key9 {s : ByteArray} (h : s.size ≤ maxLen) : ∃ l, keyOf Try.prog 9 (.string s) = some l := by
  refine ⟨.string s.data.toList, ?_⟩
  simp [keyOf, Try.underlying9, mapKey, h]
theorem key99 {s t : ByteArray} (h : s.size ≤ maxLen) (h' : t.size ≤ maxLen) : ∃ l, keyOf Try.prog 99 (.agg #[.string s, .string t]) = some l := by
  have hk : Try.prog.keyType 99 = true := by kernel_rfl
  have hc : Try.prog.cellsOf 99 = 2 := by kernel_rfl
  have hc9 : Try.prog.cellsOf 9 = 1 := by kernel_rfl
  have hstr : ∀ (u : ByteArray), u.size ≤ maxLen → Try.prog.keyLits 160 9 [Value.string u] = some [.string u.data.toList] := fun u hu => by
    simp [Program.keyLits, Try.underlying9, hu]
  simp [keyOf, Try.underlying99, hk]
  refine ⟨by simp [Value.formed, Try.underlying99, hc], _, [Lit.string s.data.toList, Lit.string t.data.toList], ?_, rfl⟩
  have e : (Value.agg #[Value.string s, Value.string t]).cells.toList = [Value.string s, Value.string t] := rfl
  rw [e]
  unfold Program.keyLits
  simp only [Try.underlying99, hc, hc9]
  simp [List.range_succ, hstr s h, hstr t h']
end Go.Proofs.Qxb6603539a.Ds
