/-
  (*memberNames).add (26) as a table from names to the last value: the whole contract.
-/
import Derived.Test.Qxb6605406aFull
namespace Go.Proofs.Qxb6605406a
open Go.RowKit Go.Maps
/-! the plain law of the short list -/
def lookL (al : List (ByteArray × Int)) (t : ByteArray) : Option Int := (al.find? (key t)).map (·.2)
def upd (g : ByteArray → Option Int) (s : ByteArray) (v : Int) (t : ByteArray) : Option Int := if key t (s, 0) then some v else g t
theorem key_iff (t : ByteArray) (p : ByteArray × Int) : key t p = true ↔ p.1 = t := by
  unfold key
  rw [beq_iff_eq, ByteArray.toList_eq, ByteArray.toList_eq]
  constructor
  · intro h
    obtain ⟨⟨⟨l⟩⟩, v⟩ := p
    obtain ⟨⟨m⟩⟩ := t
    simp at h
    subst h; rfl
  · intro h; rw [h]
theorem first_match (s : ByteArray) : ∀ al : List (ByteArray × Int), (∀ (j : Nat) q, al[j]? = some q → key s q = false) ∨ ∃ (r : Nat) (p : ByteArray × Int), al[r]? = some p ∧ key s p = true ∧ ∀ (j : Nat) q, j < r → al[j]? = some q → key s q = false
  | [] => .inl (fun j q h => by simp at h)
  | a :: al => by
    cases ha : key s a with
    | true => exact .inr ⟨0, a, rfl, ha, fun j q h => by omega⟩
    | false =>
      rcases first_match s al with h | ⟨r, p, h1, h2, h3⟩
      · left
        intro j q hq
        cases j with
        | zero => simp at hq; subst hq; exact ha
        | succ j => exact h j q (by simpa using hq)
      · refine .inr ⟨r + 1, p, by simpa using h1, h2, fun j q hj hq => ?_⟩
        cases j with
        | zero => simp at hq; subst hq; exact ha
        | succ j => exact h3 j q (by omega) (by simpa using hq)
theorem lookL_cons (a : ByteArray × Int) (al : List (ByteArray × Int)) (t : ByteArray) : lookL (a :: al) t = if key t a then some a.2 else lookL al t := by
  unfold lookL
  cases h : key t a <;> simp [h]
theorem lookL_none {al : List (ByteArray × Int)} {s : ByteArray} (h : ∀ (j : Nat) q, al[j]? = some q → key s q = false) : lookL al s = none := by
  unfold lookL
  rw [List.find?_eq_none.2]
  · rfl
  · intro p hp
    obtain ⟨j, hj⟩ := List.getElem?_of_mem hp
    simp [h j p hj]
theorem lookL_hit {s : ByteArray} : ∀ {al : List (ByteArray × Int)} {r : Nat} {p : ByteArray × Int}, al[r]? = some p → key s p = true → (∀ (j : Nat) q, j < r → al[j]? = some q → key s q = false) → lookL al s = some p.2
  | [], r, p, h, _, _ => by simp at h
  | a :: al, 0, p, h, hp, _ => by
    simp at h; subst h
    rw [lookL_cons, if_pos hp]
  | a :: al, r + 1, p, h, hp, hno => by
    rw [lookL_cons, if_neg (by rw [hno 0 a (by omega) rfl]; simp)]
    exact lookL_hit (r := r) (by simpa using h) hp (fun j q hj hq => hno (j + 1) q (by omega) (by simpa using hq))
theorem key_trans {s t : ByteArray} {p : ByteArray × Int} (h : key s p = true) : key t p = key t (s, 0) := by
  rw [key_iff] at h
  unfold key
  rw [h]
theorem lookL_set {s t : ByteArray} {va : Int} : ∀ {al : List (ByteArray × Int)} {r : Nat} {p : ByteArray × Int}, al[r]? = some p → key s p = true → (∀ (j : Nat) q, j < r → al[j]? = some q → key s q = false) → lookL (al.set r (p.1, va)) t = upd (lookL al) s va t
  | [], r, p, h, _, _ => by simp at h
  | a :: al, 0, p, h, hp, _ => by
    simp at h; subst h
    rw [List.set_cons_zero, lookL_cons]
    unfold upd
    have e : key t (a.1, va) = key t (s, 0) := key_trans (p := (a.1, va)) (by rw [key_iff] at hp ⊢; exact hp)
    rw [e, lookL_cons]
    by_cases hk : key t (s, 0) = true
    · rw [if_pos hk, if_pos hk]
    · rw [if_neg hk, if_neg hk, if_neg (by rw [key_trans hp]; exact hk)]
  | a :: al, r + 1, p, h, hp, hno => by
    rw [List.set_cons_succ, lookL_cons]
    have ih := lookL_set (s := s) (t := t) (va := va) (al := al) (r := r) (p := p) (by simpa using h) hp (fun j q hj hq => hno (j + 1) q (by omega) (by simpa using hq))
    rw [ih]
    unfold upd
    rw [lookL_cons]
    by_cases hk : key t (s, 0) = true
    · have ha := hno 0 a (by omega) rfl
      have e : s = t := (key_iff t (s, 0)).1 hk
      subst e
      rw [if_pos hk, if_pos hk, ha]; simp
    · rw [if_neg hk, if_neg hk]
theorem lookL_snoc {s t : ByteArray} {va : Int} : ∀ {al : List (ByteArray × Int)}, (∀ (j : Nat) q, al[j]? = some q → key s q = false) → lookL (al ++ [(s, va)]) t = upd (lookL al) s va t
  | [], _ => by
    unfold upd
    rw [List.nil_append, lookL_cons]
    rfl
  | a :: al, hno => by
    rw [List.cons_append, lookL_cons, lookL_snoc (al := al) (fun j q hq => hno (j + 1) q (by simpa using hq))]
    unfold upd
    rw [lookL_cons]
    by_cases hk : key t (s, 0) = true
    · have ha := hno 0 a rfl
      have e : s = t := (key_iff t (s, 0)).1 hk
      subst e
      rw [if_pos hk, if_pos hk, ha]; simp
    · rw [if_neg hk, if_neg hk]
/-! the plain law of the map -/
theorem lk_inj {s t : ByteArray} (h : lk s = lk t) : s = t := by
  unfold lk at h
  obtain ⟨⟨l⟩⟩ := s
  obtain ⟨⟨m⟩⟩ := t
  simp at h
  subst h; rfl
/-- a map says of each name what g says -/
def Says (D : DataW Unit) (g : ByteArray → Option Int) : Prop := IsMap D ∧ ∀ t, Maps.has D (lk t) = (g t).isSome ∧ ((g t).isSome = true → D.atKey (lk t) (.lit (.int .i64 0)) = .lit (.int .i64 ((g t).getD 0)))
theorem isKey (t : ByteArray) : WideAt.IsKeyLit (lk t) := by unfold lk; simp [WideAt.IsKeyLit]
theorem Says.put {D : DataW Unit} {g : ByteArray → Option Int} (h : Says D g) (s : ByteArray) (v : Int) : Says (D.put (lk s) (.lit (.int .i64 v))) (upd g s v) := by
  refine ⟨h.1.put _ _, fun t => ?_⟩
  unfold upd
  by_cases hk : key t (s, 0) = true
  · have e : s = t := (key_iff t (s, 0)).1 hk
    subst e
    rw [if_pos hk, has_put_same h.1 (isKey _), atKey_put_same h.1 (isKey _)]
    simp
  · have hne : lk t ≠ lk s := fun e => hk ((key_iff t (s, 0)).2 (lk_inj e).symm)
    rw [if_neg hk, has_put_other hne, atKey_put_other hne]
    exact h.2 t
theorem Says.fold : ∀ (al : List (ByteArray × Int)) (D : DataW Unit) (g : ByteArray → Option Int), Says D g → Says (al.foldl (fun D p => D.put (lk p.1) (.lit (.int .i64 p.2))) D) (al.foldl (fun g p => upd g p.1 p.2) g)
  | [], _, _, h => h
  | p :: al, _, _, h => Says.fold al _ _ (h.put p.1 p.2)
theorem fold_look : ∀ (al : List (ByteArray × Int)) (g : ByteArray → Option Int) (t : ByteArray), al.Pairwise (fun p q => p.1 ≠ q.1) → (al.foldl (fun g p => upd g p.1 p.2) g) t = (match lookL al t with | some v => some v | none => g t)
  | [], _, _, _ => rfl
  | p :: al, g, t, h => by
    rw [List.pairwise_cons] at h
    rw [List.foldl_cons, fold_look al _ t h.2, lookL_cons]
    by_cases hk : key t p = true
    · have e : p.1 = t := (key_iff t p).1 hk
      have hn : lookL al t = none := lookL_none (fun j q hq => by
        cases hx : key t q with
        | false => rfl
        | true => exact absurd (e.trans ((key_iff t q).1 hx).symm) (h.1 q (List.mem_of_getElem? hq)))
      rw [if_pos hk, hn]
      have hk2 : key t (p.1, 0) = true := (key_iff t (p.1, 0)).2 e
      simp [upd, hk2]
    · rw [if_neg hk]
      have hk2 : ¬ key t (p.1, 0) = true := fun hx => hk ((key_iff t p).2 ((key_iff t (p.1, 0)).1 hx))
      cases lookL al t with
      | some v => rfl
      | none => simp [upd, hk2]
theorem says_foldD (al : List (ByteArray × Int)) (h : al.Pairwise (fun p q => p.1 ≠ q.1)) : Says (foldD al) (lookL al) := by
  have h0 : Says (.map []) (fun _ => none) := ⟨isMap_empty, fun t => ⟨rfl, fun h => by simp at h⟩⟩
  have h1 := Says.fold al _ _ h0
  have e : (al.foldl (fun g p => upd g p.1 p.2) (fun _ => none)) = lookL al := by
    funext t
    rw [fold_look al _ t h]
    cases lookL al t <;> rfl
  rw [e] at h1
  exact h1
/-! the struct as a table -/
def Rep (w : World) (N c : Nat) (g : ByteArray → Option Int) : Prop :=
  (∃ al, Few w N al ∧ al.Pairwise (fun p q => p.1 ≠ q.1) ∧ (∀ p ∈ al, p.1.size ≤ maxLen ∧ (Lit.int .i64 p.2).wf = true) ∧ lookL al = g) ∨
  ∃ G k D, N < w.heap.size ∧ w.cell? ⟨N, 17, none⟩ = some (.map (some G)) ∧ N < G ∧ Owns w G k D ∧ k ≤ 9 + c ∧ Says D g
theorem few_box {w : World} {N : Nat} {al : List (ByteArray × Int)} (h : Few w N al) (o : Obj) (n : Nat) : Few ((w.alloc o).drewN n) N al := by
  have hc : ∀ i, ((w.alloc o).drewN n).cell? ⟨N, i, none⟩ = w.cell? ⟨N, i, none⟩ := fun i => World.cell?_alloc_lt _ _ _ h.lt
  refine ⟨by simp; have := h.lt; omega, h.len, (hc _).trans h.many, (hc _).trans h.used, fun i p hp => (hc _).trans (h.name i p hp), fun i p hp => (hc _).trans (h.val i p hp), fun i hi => ?_, fun i => ?_⟩
  · obtain ⟨v, e⟩ := h.cells i hi
    exact ⟨v, (hc _).trans e⟩
  · exact (World.frozen?_alloc_old w _ _ (by show N ≠ w.heap.size; have := h.lt; omega)).trans (h.frozen i)
theorem cells_set {w : World} {N : Nat} (h : ∀ i, i < 18 → ∃ v, w.cell? ⟨N, i, none⟩ = some v) (o : Nat) (u : Value) : ∀ i, i < 18 → ∃ v, (w.setCell ⟨N, o, none⟩ u).cell? ⟨N, i, none⟩ = some v := fun i hi => by
  obtain ⟨v, e⟩ := h i hi
  exact cell?_setCell_some e
theorem off_ne {N i j : Nat} (h : i ≠ j) : (⟨N, i, none⟩ : Addr) ≠ ⟨N, j, none⟩ := fun e => h (congrArg Addr.off e)
theorem few_set {w : World} {N : Nat} {al : List (ByteArray × Int)} (h : Few w N al) {r : Nat} {p : ByteArray × Int} (hr : al[r]? = some p) (va : Int) : Few (w.setCell ⟨N, r * 2 + 1, none⟩ (.int .i64 va)) N (al.set r (p.1, va)) := by
  have hrl : r < al.length := (List.getElem?_eq_some_iff.1 hr).1
  have h8 := h.len
  have hget : ∀ i q, (al.set r (p.1, va))[i]? = some q → (i = r ∧ q = (p.1, va)) ∨ (i ≠ r ∧ al[i]? = some q) := fun i q hq => by
    rw [List.getElem?_set] at hq
    by_cases e : r = i
    · rw [if_pos e] at hq
      subst e
      rw [if_pos hrl] at hq
      simp at hq
      exact .inl ⟨rfl, hq.symm⟩
    · rw [if_neg e] at hq
      exact .inr ⟨fun x => e x.symm, hq⟩
  refine ⟨by simpa using h.lt, by simpa using h.len, ?_, ?_, fun i q hq => ?_, fun i q hq => ?_, cells_set h.cells _ _, fun i => by rw [World.frozen?_setCell]; exact h.frozen i⟩
  · rw [World.cell?_setCell_other _ _ _ _ (off_ne (by omega))]; exact h.many
  · rw [World.cell?_setCell_other _ _ _ _ (off_ne (by omega)), List.length_set]; exact h.used
  · rw [World.cell?_setCell_other _ _ _ _ (off_ne (by omega))]
    rcases hget i q hq with ⟨rfl, rfl⟩ | ⟨_, hq'⟩
    · exact h.name i p hr
    · exact h.name i q hq'
  · rcases hget i q hq with ⟨rfl, rfl⟩ | ⟨hne, hq'⟩
    · exact World.cell?_setCell_same _ _ _ (h.val i p hr)
    · rw [World.cell?_setCell_other _ _ _ _ (off_ne (by omega))]; exact h.val i q hq'
theorem few_snoc {w : World} {N : Nat} {al : List (ByteArray × Int)} (h : Few w N al) (hroom : al.length < 8) (s : ByteArray) (va : Int) :
    Few (((w.setCell ⟨N, al.length * 2, none⟩ (.string s)).setCell ⟨N, al.length * 2 + 1, none⟩ (.int .i64 va)).setCell ⟨N, 16, none⟩ (.int .i64 ((al.length : Int) + 1))) N (al ++ [(s, va)]) := by
  have hget : ∀ i q, (al ++ [(s, va)])[i]? = some q → (i = al.length ∧ q = (s, va)) ∨ (i < al.length ∧ al[i]? = some q) := fun i q hq => by
    rw [List.getElem?_append] at hq
    by_cases e : i < al.length
    · rw [if_pos e] at hq; exact .inr ⟨e, hq⟩
    · rw [if_neg e] at hq
      by_cases e2 : i = al.length
      · subst e2; simp at hq; exact .inl ⟨rfl, hq.symm⟩
      · rw [List.getElem?_eq_none (by simp; omega)] at hq; cases hq
  obtain ⟨v1, g1⟩ := h.cells (al.length * 2) (by omega)
  obtain ⟨v2, g2⟩ := h.cells (al.length * 2 + 1) (by omega)
  refine ⟨by simpa using h.lt, by simp; omega, ?_, ?_, fun i q hq => ?_, fun i q hq => ?_, cells_set (cells_set (cells_set h.cells _ _) _ _) _ _, fun i => by rw [World.frozen?_setCell, World.frozen?_setCell, World.frozen?_setCell]; exact h.frozen i⟩
  · rw [World.cell?_setCell_other _ _ _ _ (off_ne (by omega)), World.cell?_setCell_other _ _ _ _ (off_ne (by omega)), World.cell?_setCell_other _ _ _ _ (off_ne (by omega))]; exact h.many
  · rw [World.cell?_setCell_same _ _ _ (u := .int .i64 (al.length : Int)) (by
      rw [World.cell?_setCell_other _ _ _ _ (off_ne (by omega)), World.cell?_setCell_other _ _ _ _ (off_ne (by omega))]; exact h.used)]
    simp
  · rcases hget i q hq with ⟨rfl, rfl⟩ | ⟨hlt, hq'⟩
    · rw [World.cell?_setCell_other _ _ _ _ (off_ne (by omega)), World.cell?_setCell_other _ _ _ _ (off_ne (by omega))]
      exact World.cell?_setCell_same _ _ _ g1
    · rw [World.cell?_setCell_other _ _ _ _ (off_ne (by omega)), World.cell?_setCell_other _ _ _ _ (off_ne (by omega)), World.cell?_setCell_other _ _ _ _ (off_ne (by omega))]
      exact h.name i q hq'
  · rcases hget i q hq with ⟨rfl, rfl⟩ | ⟨hlt, hq'⟩
    · rw [World.cell?_setCell_other _ _ _ _ (off_ne (by omega))]
      exact World.cell?_setCell_same _ _ _ (u := v2) (by rw [World.cell?_setCell_other _ _ _ _ (off_ne (by omega))]; exact g2)
    · rw [World.cell?_setCell_other _ _ _ _ (off_ne (by omega)), World.cell?_setCell_other _ _ _ _ (off_ne (by omega)), World.cell?_setCell_other _ _ _ _ (off_ne (by omega))]
      exact h.val i q hq'
theorem below_box {w : World} {N : Nat} (h : N < w.heap.size) (o : Obj) (n : Nat) : Below N w ((w.alloc o).drewN n) := below_draws ((Below.refl _ _).alloc (by omega) _) _
theorem pair_set {al : List (ByteArray × Int)} {r : Nat} {p : ByteArray × Int} (hr : al[r]? = some p) (va : Int) (h : al.Pairwise (fun p q => p.1 ≠ q.1)) : (al.set r (p.1, va)).Pairwise (fun p q => p.1 ≠ q.1) := by
  have e : (al.set r (p.1, va)).map (·.1) = al.map (·.1) := by
    apply List.ext_getElem?
    intro i
    rw [List.getElem?_map, List.getElem?_map, List.getElem?_set]
    by_cases e : r = i
    · subst e
      have hrl : r < al.length := (List.getElem?_eq_some_iff.1 hr).1
      rw [if_pos rfl, if_pos hrl, hr]; rfl
    · rw [if_neg e]
  have h1 : (al.map (·.1)).Pairwise (fun a b => a ≠ b) := List.pairwise_map.2 h
  rw [← e] at h1
  exact List.pairwise_map.1 h1
theorem add_any (N c : Nat) (g : ByteArray → Option Int) (s : ByteArray) (na va : Int) (vv : Option Addr) (vl vc : Nat) (w : World) (h : Rep w N c g) (hc : c ≤ 100000) (hs : s.size ≤ maxLen) (hwf : (Lit.int .i64 va).wf = true) :
    Calls Try.prog 26 #[.pointer (some ⟨N, 0, none⟩), .agg #[.string s, .int .i64 na, .int .i64 va, .slice vv vl vc]] w fun e w' => e = .returned (.tuple #[.int .i64 ((g s).getD 0), .bool (g s).isSome]) ∧ Rep w' N (c + 1) (upd g s va) ∧ Below N w w' := by
  rcases h with ⟨al, hF, hpw, hsz, rfl⟩ | ⟨G, k, D, hN, h17, hNG, hO, hk, hD⟩
  · rcases first_match s al with hno | ⟨r, p, hr, hp, hno⟩
    · have hg := lookL_none hno
      rw [hg]
      by_cases hroom : al.length < 8
      · refine (add_new N al s na va vv vl vc w hF hno hroom).mono fun e w' ⟨he, n, hw⟩ => ?_
        subst hw
        refine ⟨he, .inl ⟨al ++ [(s, va)], few_snoc (few_box hF _ n) hroom s va, ?_, ?_, funext fun t => lookL_snoc hno⟩, ?_⟩
        · rw [List.pairwise_append]
          refine ⟨hpw, List.pairwise_singleton _ _, fun a ha b hb => ?_⟩
          simp at hb
          subst hb
          intro e
          obtain ⟨j, hj⟩ := List.getElem?_of_mem ha
          have := hno j a hj
          rw [(key_iff s a).2 e] at this
          cases this
        · intro q hq
          rcases List.mem_append.1 hq with hq | hq
          · exact hsz q hq
          · simp at hq; subst hq; exact ⟨hs, hwf⟩
        · exact (((below_box hF.lt _ n).setCell (p := ⟨N, _, none⟩) (Nat.le_refl _) _).setCell (p := ⟨N, _, none⟩) (Nat.le_refl _) _).setCell (p := ⟨N, _, none⟩) (Nat.le_refl _) _
      · have h8 : al.length = 8 := by have := hF.len; omega
        match al, h8, hF, hpw, hsz, hno, hg with
        | [(a0, b0), (a1, b1), (a2, b2), (a3, b3), (a4, b4), (a5, b5), (a6, b6), (a7, b7)], _, hF, hpw, hsz, hno, hg =>
          have hS := says_foldD _ hpw
          refine (add_full N _ s na va vv vl vc w hF hno a0 b0 a1 b1 a2 b2 a3 b3 a4 b4 a5 b5 a6 b6 a7 b7 hs hwf hsz rfl).mono fun e w' ⟨cc, hat, he, n, hB, hO⟩ => ?_
          have hh := (hS.2 s).1
          rw [hg] at hh
          have hh' : Maps.has (foldD [(a0, b0), (a1, b1), (a2, b2), (a3, b3), (a4, b4), (a5, b5), (a6, b6), (a7, b7)]) (lk s) = false := hh
          rw [atKey_of_not_has hh'] at hat
          have hcc : cc = 0 := by simpa using hat.symm
          subst hcc
          rw [hh'] at he
          have hlt := hF.lt
          have e17 : w'.cell? ⟨N, 17, none⟩ = some (.map (some (w.heap.size + 1))) := by
            rw [hB.cell (by show N < w.heap.size + 1; omega), World.cell?_alloc_lt _ _ _ (by simp; omega)]
            exact World.cell?_setCell_same _ _ _ (u := .map none) (by
              show (w.alloc _).cell? _ = _
              rw [World.cell?_alloc_lt _ _ _ hlt]; exact hF.many)
          have hsz' : w.heap.size + 1 < w'.heap.size := World.ownsMap.lt hO
          refine ⟨he, .inr ⟨w.heap.size + 1, 9, _, by omega, e17, by omega, hO, by omega, hS.put s va⟩, ?_⟩
          exact (((below_box hlt _ n).setCell (p := ⟨N, 17, none⟩) (Nat.le_refl _) _).alloc (by simp; omega) _).trans (hB.mono (by omega))
    · have hg := lookL_hit hr hp hno
      rw [hg]
      refine (add_hit N al s na va vv vl vc w hF r p hr hp hno).mono fun e w' ⟨he, n, hw⟩ => ?_
      subst hw
      refine ⟨he, .inl ⟨al.set r (p.1, va), few_set (few_box hF _ n) hr va, pair_set hr va hpw, ?_, funext fun t => lookL_set hr hp hno⟩, ?_⟩
      · intro q hq
        rcases List.mem_or_eq_of_mem_set hq with hq | rfl
        · exact hsz q hq
        · exact ⟨(hsz p (List.mem_of_getElem? hr)).1, hwf⟩
      · exact (below_box hF.lt _ n).setCell (p := ⟨N, _, none⟩) (Nat.le_refl _) _
  · refine (add_many N s na va vv vl vc w G k D hN h17 hO hs (by unfold maxLen; omega) hwf).mono fun e w' ⟨cc, hat, he, w0, hB, hO', hg⟩ => ?_
    have hG : G < w.heap.size := World.ownsMap.lt hO
    have hs0 := hB.size
    have hs1 := hg.size
    have hh := hD.2 s
    have hval : (.int .i64 cc : Value) = .int .i64 ((g s).getD 0) ∧ Maps.has D (lk s) = (g s).isSome := by
      refine ⟨?_, hh.1⟩
      cases hgs : (g s).isSome with
      | true =>
        have e := hh.2 hgs
        rw [hat] at e
        simpa using e
      | false =>
        have e := hh.1
        rw [hgs] at e
        rw [atKey_of_not_has e] at hat
        have hc0 : cc = 0 := by simpa using hat.symm
        have hn : g s = none := by simpa using hgs
        rw [hc0, hn]; rfl
    rw [hval.1, hval.2] at he
    have e17 : w'.cell? ⟨N, 17, none⟩ = some (.map (some G)) := by
      have hb : w'.heap[N]? = w.heap[N]? := by
        rw [hg.block N (by omega) (by simp; omega), hB.block N hN]
      rw [World.cell?_of_block (w := w) hb]; exact h17
    refine ⟨he, .inr ⟨G, k + 1, _, by omega, e17, hNG, hO', by omega, hD.put s va⟩, ?_⟩
    exact (hB.mono (by omega)).grown hg (by omega) (fun j hj => by cases hj; omega)
end Go.Proofs.Qxb6605406a
