/-
  The memory of fixedDivModel: a made row that bytes are appended to, within its capacity; a second row that they are copied into, back to front.
-/
import Derived.Test.Qxb6605193aDoorRows
import Derived.Test.Qxb6605193aDoorModelPlain
import Derived.WalkKit
import Derived.WalkSpells
import Derived.Deep.OwnRows
namespace Go.Proofs.Qxb6605193aDoor
open Go.RowKit
theorem Tryd.info5 : (Tryd.prog.info? 5).map (fun i => (i.zero, i.size, i.bytes)) = some (some (.int .u8 0), 1, 1) := by kernel_rfl
def by8 (c : UInt8) : Value := .int .u8 (c.toNat : Int)
/-- the call's first row, of N cells, holds xs at its head -/
def Buf (w : World) (N : Nat) (xs : List UInt8) (wr : World) : Prop :=
  Below w.heap.size w wr ∧ w.heap.size < wr.heap.size ∧ (∀ j, j < N → ∃ v, wr.cell? ⟨w.heap.size, j, none⟩ = some v) ∧ (∀ j, wr.frozen? ⟨w.heap.size, j, none⟩ = false) ∧
    ∀ j c, xs[j]? = some c → wr.cell? ⟨w.heap.size, j, none⟩ = some (by8 c)
theorem frozen_new (w : World) (cs : Array Value) (t : TypeId) (j : Nat) : (w.alloc (.cells cs t)).frozen? ⟨w.heap.size, j, none⟩ = false := by
  have e : (w.alloc (.cells cs t)).heap[w.heap.size]? = some (.cells cs t) := (MapKept.heap_alloc w _).1
  unfold World.frozen?
  rw [e]
  simp
theorem Buf.start (w : World) (N : Nat) : Buf w N [] (w.alloc (.cells (madeCells #[.int .u8 0] N) 5)) := by
  refine ⟨(Below.refl _ _).alloc (Nat.le_refl _) _, by simp, fun j hj => ⟨.int .u8 0, ?_⟩, fun j => frozen_new _ _ _ _, fun j c hj => by simp at hj⟩
  rw [World.cell?_alloc_new]; simp [madeCells, hj, Nat.mod_one]
theorem frozen_later {w : World} (o : Obj) {a : Addr} (h : a.block < w.heap.size) : (w.alloc o).frozen? a = w.frozen? a := World.frozen?_alloc_old _ _ _ (by omega)
/-- one byte appended: the byte is laid in a block of its own first -/
theorem Buf.snoc {w wr : World} {N : Nat} {xs : List UInt8} (h : Buf w N xs wr) (hl : xs.length < N) (c : UInt8) (o : Obj) : Buf w N (xs ++ [c]) ((wr.setCell ⟨w.heap.size, xs.length, none⟩ (by8 c)).alloc o) := by
  obtain ⟨hB, hs, hv, hf, hx⟩ := h
  have hs' : w.heap.size < (wr.setCell ⟨w.heap.size, xs.length, none⟩ (by8 c)).heap.size := by simpa using hs
  refine ⟨(hB.setCell (Nat.le_refl _) _).alloc (by omega) _, by simp; omega, fun j hj => ?_, fun j => ?_, fun j d hj => ?_⟩
  · obtain ⟨v, e⟩ := hv j hj
    obtain ⟨v', e'⟩ := cell?_setCell_some (p := ⟨w.heap.size, xs.length, none⟩) (x := by8 c) e
    exact ⟨v', by rw [World.cell?_alloc_lt _ _ _ hs']; exact e'⟩
  · rw [frozen_later _ hs', World.frozen?_setCell]; exact hf j
  · rw [World.cell?_alloc_lt _ _ _ hs']
    by_cases e : j = xs.length
    · subst e
      rw [List.getElem?_append_right (Nat.le_refl _)] at hj
      simp at hj
      subst hj
      obtain ⟨v, ev⟩ := hv _ hl
      exact World.cell?_setCell_same _ _ _ ev
    · have hj' : xs[j]? = some d := by
        rw [List.getElem?_append] at hj
        by_cases hlt : j < xs.length
        · rwa [if_pos hlt] at hj
        · rw [if_neg hlt] at hj
          rw [List.getElem?_eq_none (by simp; omega)] at hj
          cases hj
      rw [World.cell?_setCell_other _ _ _ _ (fun h => e (congrArg Addr.off h).symm)]
      exact hx j d hj'
/-- the second row, at g, holds the first k bytes of xs back to front -/
def Rev (w : World) (xs : List UInt8) (g k : Nat) (wr : World) : Prop :=
  Below w.heap.size w wr ∧ w.heap.size < g ∧ g < wr.heap.size ∧ (∀ j, j < xs.length → ∃ v, wr.cell? ⟨g, j, none⟩ = some v) ∧ (∀ j, wr.frozen? ⟨g, j, none⟩ = false) ∧
    (∀ j c, xs[j]? = some c → wr.cell? ⟨w.heap.size, j, none⟩ = some (by8 c)) ∧ ∀ j c, j < k → xs.reverse[j]? = some c → wr.cell? ⟨g, j, none⟩ = some (by8 c)
theorem Rev.start {w wr : World} {N : Nat} {xs : List UInt8} (h : Buf w N xs wr) : Rev w xs wr.heap.size 0 (wr.alloc (.cells (madeCells #[.int .u8 0] xs.length) 5)) := by
  obtain ⟨hB, hs, _, _, hx⟩ := h
  refine ⟨hB.alloc (by omega) _, hs, by simp, fun j hj => ⟨.int .u8 0, ?_⟩, fun j => frozen_new _ _ _ _, fun j c hj => ?_, fun j c hj => by omega⟩
  · rw [World.cell?_alloc_new]; simp [madeCells, hj, Nat.mod_one]
  · rw [World.cell?_alloc_lt _ _ _ hs]; exact hx j c hj
theorem Rev.step {w wr : World} {xs : List UInt8} {g k : Nat} (h : Rev w xs g k wr) (hk : k < xs.length) (c : UInt8) (hc : xs.reverse[k]? = some c) : Rev w xs g (k + 1) (wr.setCell ⟨g, k, none⟩ (by8 c)) := by
  obtain ⟨hB, hg, hs, hv, hf, hx, hr⟩ := h
  refine ⟨hB.setCell (Nat.le_of_lt hg) _, hg, by simpa using hs, fun j hj => ?_, fun j => by rw [World.frozen?_setCell]; exact hf j, fun j d hj => ?_, fun j d hj hd => ?_⟩
  · obtain ⟨v, e⟩ := hv j hj
    exact cell?_setCell_some e
  · rw [World.cell?_setCell_other _ _ _ _ (fun h => by have := congrArg Addr.block h; simp at this; omega)]
    exact hx j d hj
  · by_cases e : j = k
    · subst e
      rw [hc] at hd
      cases hd
      obtain ⟨v, ev⟩ := hv _ hk
      exact World.cell?_setCell_same _ _ _ ev
    · rw [World.cell?_setCell_other _ _ _ _ (fun h => e (congrArg Addr.off h).symm)]
      exact hr j d (by omega) hd
theorem fold_bytes : ∀ (l : List UInt8) (s : ByteArray), ((l.map fun c => ((c.toNat : Nat) : Int)).foldl (fun r n => r.push (UInt8.ofNat n.toNat)) s).data.toList = s.data.toList ++ l
  | [], s => by simp
  | c :: l, s => by
    rw [List.map_cons, List.foldl_cons, fold_bytes l]
    simp
/-- string(out) -/
theorem Rev.text {w wr : World} {xs : List UInt8} {g : Nat} (h : Rev w xs g xs.length wr) (cap : Nat) :
    (convert 25 9 (.slice (some ⟨g, 0, none⟩) xs.length cap)).run Tryd.prog wr = .ok (.string ⟨xs.reverse.toArray⟩) wr := by
  obtain ⟨_, _, _, _, _, _, hr⟩ := h
  rw [run_convert_bytes_string wr 25 9 5 _ _ _ Tryd.underlying25 Tryd.underlying5 Tryd.underlying9]
  have hl : (loadCells (⟨g, 0, none⟩ : Addr) xs.length).run Tryd.prog wr = .ok ((xs.reverse.map fun c => ((c.toNat : Nat) : Int)).map (Value.int .u8)).toArray wr := by
    have hcs := run_loadCells_list (P := Tryd.prog) wr (⟨g, 0, none⟩ : Addr) ((xs.reverse.map fun c => ((c.toNat : Nat) : Int)).map (Value.int .u8)) (fun j v hv => by
      simp only [List.getElem?_map, Option.map_eq_some_iff] at hv
      obtain ⟨z, ⟨c, hc, rfl⟩, rfl⟩ := hv
      have hlt : j < xs.length := by have := (List.getElem?_eq_some_iff.1 hc).1; simpa using this
      have e := hr j c hlt hc
      rw [Go.WideShapes.add_plain, Nat.zero_add]
      exact e)
    simpa using hcs
  rw [run_bytesToString wr _ _ _ _ hl]
  congr 2
  have e := fold_bytes xs.reverse ByteArray.empty
  generalize List.foldl _ _ _ = R at *
  cases R
  simp at e
  rw [← e]
end Go.Proofs.Qxb6605193aDoor
