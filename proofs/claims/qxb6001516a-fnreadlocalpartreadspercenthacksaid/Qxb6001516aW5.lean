/-
  LAWS of seat b6001516a: append onto a row that the call itself made, with one word more than the kit's law: the row stays where it is, or is the newest block. So two such rows stay apart.
-/
import Derived.Test.Qxb6001516aW4
import Derived.Lib.AppendStr
namespace Go.Proofs.Qxb6001516a
open Go.RowKit
set_option linter.unusedVariables false

section
variable {P : Program} (w : World)

theorem run_append_own2 (base : Nat) (t ty e : TypeId) (i : TypeInfo) (z : Value) (size bytes : Nat) (ht : P.underlying t = some (.slice e)) (hi : P.info? e = some i) (hz : i.zero = some z)
    (hsize : i.size = size) (hby : i.bytes = bytes) (hzs : z.cells.size = size) (hsz : 0 < size)
    (v : Value) (n : Nat) (xs : List Value) (hown : w.ownsRow base e size v n xs)
    (a : Addr) (m c : Nat) (news : List Value) (hl : news.length = m * size) (hnews : ∀ j u, news[j]? = some u → w.cell? (a.add j) = some u) (h1 : ∀ u ∈ news, u.oneCell' = true)
    (h63 : n + m ≤ maxLen) (hbytes : (n + m) * bytes ≤ 140737488355328) (hbase : base ≤ w.heap.size) :
    ∃ v' w', (Builtin.append_ #[t, t] ty #[v, .slice (some a) m c]).run P w = .ok v' w' ∧ w'.ownsRow base e size v' (n + m) (xs ++ news) ∧ w.grownBy w' v.ownBlock ∧
      (v'.ownBlock = v.ownBlock ∨ v'.ownBlock = some w.heap.size) := by
  obtain ⟨v', w', hr, h2, h3, h4⟩ := run_append_own (P := P) w base t ty e i z size bytes ht hi hz hsize hby hzs hsz v n xs hown a m c news hl hnews h1 h63 hbytes hbase
  refine ⟨v', w', hr, h2, h3, ?_⟩
  subst hsize
  subst hby
  have hsmall : n + m ≤ 9223372036854775807 := by simp only [maxLen] at h63; omega
  rcases hown.2 with ⟨rfl, rfl⟩ | ⟨g, cap, cur, rfl, hbg, hg, hnc, hcm, hcs, htake⟩
  · by_cases hm : m = 0
    · rw [h4.2 ⟨rfl, hm⟩]; exact .inl rfl
    · have hr' := run_append_nil (P := P) w t ty e i z ht hi hz a m c news hl hnews (by omega) (by omega) (by have hb := hbytes; simp only [Nat.zero_add] at hb; omega)
      rw [hr'] at hr
      injection hr with e1 e2
      subst e1
      exact .inr rfl
  · by_cases hroom : n + m ≤ cap
    · have hfit : n * i.size + news.length ≤ cur.size := by rw [hl, hcs, ← Nat.add_mul]; exact Nat.mul_le_mul_right _ hroom
      have hr' := run_append_room (P := P) w t ty e i ht hi g n cap cur hg a m c news hl hnews h1 hroom hfit
      rw [hr'] at hr
      injection hr with e1 e2
      subst e1
      exact .inl rfl
    · have holds : ∀ j u, xs[j]? = some u → w.cell? ((⟨g, 0, none⟩ : Addr).add j) = some u := hown.cells (g := g) rfl
      have hr' := run_append_grow (P := P) w t ty e i z ht hi hz ⟨g, 0, none⟩ n cap xs hown.1 holds a m c news hl hnews (by omega) (by omega) (growslice_fits (by omega) hbytes)
      rw [hr'] at hr
      injection hr with e1 e2
      subst e1
      exact .inr rfl

theorem run_append_str2 (base : Nat) (t u ty e : TypeId) (i : TypeInfo) (ht : P.underlying t = some (.slice e)) (hu : P.underlying u = some .string) (hi : P.info? e = some i) (hz : i.zero = some (.int .u8 0))
    (hsize : i.size = 1) (hby : i.bytes = 1)
    (v : Value) (n : Nat) (xs : List Value) (hown : w.ownsRow base e 1 v n xs) (s : ByteArray)
    (h63 : n + s.size ≤ maxLen) (hbytes : n + s.size ≤ 140737488355328) (hbase : base ≤ w.heap.size) :
    ∃ v' w', (Builtin.append_ #[t, u] ty #[v, .string s]).run P w = .ok v' w' ∧ w'.ownsRow base e 1 v' (n + s.size) (xs ++ Lib.strCells s) ∧ w.grownBy w' v.ownBlock ∧
      (v'.ownBlock = v.ownBlock ∨ v'.ownBlock = some w.heap.size) := by
  obtain ⟨v', w', hr, h2, h3, h4⟩ := Lib.run_append_own_string (P := P) w base t u ty e i ht hu hi hz hsize hby v n xs hown s h63 hbytes hbase
  refine ⟨v', w', hr, h2, h3, ?_⟩
  have hsmall : n + s.size ≤ 9223372036854775807 := by simp only [maxLen] at h63; omega
  have hxl : xs.length = n := by simpa using hown.1
  rcases hown.2 with ⟨rfl, rfl⟩ | ⟨g, cap, cur, rfl, hbg, hg, hnc, hcm, hcs, htake⟩
  · by_cases hm : s.size = 0
    · rw [h4.2 ⟨rfl, hm⟩]; exact .inl rfl
    · have hr' := run_append_nil_string (P := P) w t u ty e i (.int .u8 0) ht hu hi hz s (by omega) (by omega) (by rw [hby]; omega)
      rw [hr'] at hr
      injection hr with e1 e2
      subst e1
      exact .inr rfl
  · by_cases hroom : n + s.size ≤ cap
    · have hcs' : cur.size = cap := by simpa using hcs
      have hr' := Lib.run_append_room_string (P := P) w t u ty e i ht hu hi hsize g n cap cur hg s hroom (by omega)
      rw [hr'] at hr
      injection hr with e1 e2
      subst e1
      exact .inl rfl
    · have holds : ∀ j u, xs[j]? = some u → w.cell? ((⟨g, 0, none⟩ : Addr).add j) = some u := hown.cells (g := g) rfl
      have hr' := Lib.run_append_grow_string (P := P) w t u ty e i (.int .u8 0) ht hu hi hz ⟨g, 0, none⟩ n cap xs (by rw [hsize]; simpa using hxl) holds s (by omega) (by omega) (by rw [hby]; exact growslice_fits (by omega) (by omega))
      rw [hr'] at hr
      injection hr with e1 e2
      subst e1
      exact .inr rfl

theorem wpList_append_own2 {ops : Array Oper} {rest : List Oper} {o : Oper} {a : Act} {Q : Exit → Act → World → Prop} (hgd : o.guard = none) (s x : Operand) (t : TypeId)
    (ho : o.op = .call { callee := .builtin .append, args := #[s, x], argTypes := #[t, t] })
    (base : Nat) (e : TypeId) (i : TypeInfo) (z : Value) (size bytes : Nat) (ht : P.underlying t = some (.slice e)) (hi : P.info? e = some i) (hz : i.zero = some z)
    (hsize : i.size = size) (hby : i.bytes = bytes) (hzs : z.cells.size = size) (hsz : 0 < size)
    (v : Value) (n : Nat) (xs : List Value) (hs : a.eval s = v) (hown : w.ownsRow base e size v n xs)
    (ad : Addr) (m c : Nat) (news : List Value) (hx : a.eval x = .slice (some ad) m c) (hl : news.length = m * size) (hnews : ∀ j u, news[j]? = some u → w.cell? (ad.add j) = some u) (h1 : ∀ u ∈ news, u.oneCell' = true)
    (h63 : n + m ≤ maxLen) (hbytes : (n + m) * bytes ≤ 140737488355328) (hbase : base ≤ w.heap.size)
    (h : ∀ v' w', w'.ownsRow base e size v' (n + m) (xs ++ news) → w.grownBy w' v.ownBlock → (v'.ownBlock = v.ownBlock ∨ v'.ownBlock = some w.heap.size) → wpList P ops Q rest (a.put o.dst v') w') : wpList P ops Q (o :: rest) a w := by
  refine wpList_plain hgd fun K hK => ?_
  obtain ⟨v', w', hr, h2, h3, h4⟩ := run_append_own2 (P := P) w base t o.type e i z size bytes ht hi hz hsize hby hzs hsz v n xs hown ad m c news hl hnews h1 h63 hbytes hbase
  unfold Oper.wp execOp
  simp only [ho, resolve, invoke, builtin, Sem.run_bind, Sem.run_pure, Result.andThen_ok, List.map_toArray, List.map_cons, List.map_nil, hs, hx, hr]
  exact hK _ _ (h v' w' h2 h3 h4)

theorem wpList_append_str2 {ops : Array Oper} {rest : List Oper} {o : Oper} {a : Act} {Q : Exit → Act → World → Prop} (hgd : o.guard = none) (sl x : Operand) (t u : TypeId)
    (ho : o.op = .call { callee := .builtin .append, args := #[sl, x], argTypes := #[t, u] })
    (base : Nat) (e : TypeId) (i : TypeInfo) (ht : P.underlying t = some (.slice e)) (hu : P.underlying u = some .string) (hi : P.info? e = some i) (hz : i.zero = some (.int .u8 0))
    (hsize : i.size = 1) (hby : i.bytes = 1)
    (v : Value) (n : Nat) (xs : List Value) (hs : a.eval sl = v) (hown : w.ownsRow base e 1 v n xs) (s : ByteArray) (hx : a.eval x = .string s)
    (h63 : n + s.size ≤ maxLen) (hbytes : n + s.size ≤ 140737488355328) (hbase : base ≤ w.heap.size)
    (h : ∀ v' w', w'.ownsRow base e 1 v' (n + s.size) (xs ++ Lib.strCells s) → w.grownBy w' v.ownBlock → (v'.ownBlock = v.ownBlock ∨ v'.ownBlock = some w.heap.size) → wpList P ops Q rest (a.put o.dst v') w') : wpList P ops Q (o :: rest) a w := by
  refine wpList_plain hgd fun K hK => ?_
  obtain ⟨v', w', hr, h2, h3, h4⟩ := run_append_str2 (P := P) w base t u o.type e i ht hu hi hz hsize hby v n xs hown s h63 hbytes hbase
  unfold Oper.wp execOp
  simp only [ho, resolve, invoke, builtin, Sem.run_bind, Sem.run_pure, Result.andThen_ok, List.map_toArray, List.map_cons, List.map_nil, hs, hx, hr]
  exact hK _ _ (h v' w' h2 h3 h4)
end

/-- two slices over different rows (or without one). -/
def Apart (u v : Value) : Prop := ∀ k, u.ownBlock = some k → v.ownBlock ≠ some k

theorem Apart.symm {u v : Value} (h : Apart u v) : Apart v u := fun k hk e => h k e hk
theorem apart_nil (v : Value) : Apart (.slice none 0 0) v := fun k hk => by simp [Value.ownBlock] at hk

theorem Own.lt {B : Nat} {w : World} {v : Value} {l : List UInt8} (h : Own B w v l) : ∀ k, v.ownBlock = some k → k < w.heap.size := by
  intro k hk
  rcases h.2 with ⟨rfl, _⟩ | ⟨g, cap, cur, rfl, h2, h3, _⟩
  · simp [Value.ownBlock] at hk
  · simp [Value.ownBlock] at hk
    subst hk
    by_cases hh : g < w.heap.size
    · exact hh
    · rw [Array.getElem?_eq_none (by omega)] at h3; simp at h3

/-- the other row behind an append. -/
theorem Own.other {B : Nat} {w w' : World} {u v v' : Value} {l : List UInt8} (h : Own B w u l) (ha : Apart u v) (hg : w.grownBy w' v.ownBlock) (hv : v'.ownBlock = v.ownBlock ∨ v'.ownBlock = some w.heap.size) : Own B w' u l ∧ Apart u v' := by
  have hlt := h.lt
  refine ⟨?_, ?_⟩
  · obtain ⟨hl, h⟩ := h
    refine ⟨hl, ?_⟩
    rcases h with h | ⟨g, cap, cur, h1, h2, h3, h4⟩
    · exact .inl h
    · refine .inr ⟨g, cap, cur, h1, h2, ?_, h4⟩
      have e : u.ownBlock = some g := by rw [h1]; rfl
      rw [hg.block g (hlt g e) (fun e' => ha g e e'.symm), h3]
  · intro k hk e
    rcases hv with hv | hv
    · rw [hv] at e; exact ha k hk e
    · rw [hv] at e
      have := hlt k hk
      simp at e
      omega

theorem Own.alloc {B : Nat} {w : World} {v : Value} {l : List UInt8} (h : Own B w v l) (o : Obj) : Own B (w.alloc o) v l := World.ownsRow.alloc h o

theorem Own.of_str {B : Nat} {w1 : World} {v' : Value} {l : List UInt8} {s : ByteArray} (h : w1.ownsRow B 5 1 v' (l.length + s.size) (Lib.byteCells l ++ Lib.strCells s)) : Own B w1 v' (l ++ s.data.toList) := by
  have e : (Lib.byteCells l ++ Lib.strCells s) = Lib.byteCells (l ++ s.data.toList) := by simp [Lib.byteCells, Lib.strCells]
  unfold Own
  rw [List.length_append, ← Lib.size_eq, ← e]
  exact h

end Go.Proofs.Qxb6001516a
