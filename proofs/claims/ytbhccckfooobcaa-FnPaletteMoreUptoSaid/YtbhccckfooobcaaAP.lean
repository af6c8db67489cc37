/-
  append of a slice that may be nil, to a row of one's own. No condition.
-/
import Derived.Test.YtbhccckfooobcaaBase
import Derived.Maps.AppendAt
namespace Go.Proofs.Ytbhccckfooobcaa
open Go.ChangeShapes Go.WideShapes Go.ChangeAt Go.RowKit
set_option linter.unusedVariables false
set_option linter.unusedSimpArgs false

section
variable {P : Program} {w : World}
/-- The source of an append: nil, or its cells lie somewhere. -/
def SrcC (w : World) (A : Option Addr) (m : Nat) (news : List Value) : Prop := (A = none ∧ m = 0) ∨ ∃ ad, A = some ad ∧ ∀ j u, news[j]? = some u → w.cell? (ad.add j) = some u
theorem grown_refl (w : World) (row : Option Nat) : w.grownBy w row := ⟨rfl, rfl, rfl, Nat.le_refl _, fun _ _ _ => rfl⟩
theorem run_app (w : World) (base : Nat) (t ty e : TypeId) (i : TypeInfo) (z : Value) (size bytes : Nat) (ht : P.underlying t = some (.slice e)) (hi : P.info? e = some i) (hz : i.zero = some z) (hsize : i.size = size) (hby : i.bytes = bytes) (hzs : z.cells.size = size) (hsz : 0 < size)
    (v : Value) (n : Nat) (xs : List Value) (hown : w.ownsRow base e size v n xs) (A : Option Addr) (m c : Nat) (news : List Value) (hl : news.length = m * size) (hsrc : SrcC w A m news) (h1 : ∀ u ∈ news, u.oneCell' = true)
    (h63 : n + m ≤ maxLen) (hbytes : (n + m) * bytes ≤ 140737488355328) (hbase : base ≤ w.heap.size) :
    ∃ v' w', (Builtin.append_ #[t, t] ty #[v, .slice A m c]).run P w = .ok v' w' ∧ w'.ownsRow base e size v' (n + m) (xs ++ news) ∧ w.grownBy w' v.ownBlock ∧ (v'.ownBlock = v.ownBlock ∨ v'.ownBlock = some w.heap.size) := by
  rcases hsrc with ⟨rfl, rfl⟩ | ⟨ad, rfl, hc⟩
  · obtain rfl : news = [] := List.eq_nil_of_length_eq_zero (by simpa using hl)
    refine ⟨v, w, ?_, by simpa using hown, grown_refl _ _, .inl rfl⟩
    rcases hown.2 with ⟨rfl, rfl⟩ | ⟨g, cap, cur, rfl, _, _, hcap, _⟩
    · simp [Builtin.append_, run_underlying ht, sizeOf, typeInfo, hi, Builtin.lenOf, Builtin.firstCells]
    · simp [Builtin.append_, run_underlying ht, sizeOf, typeInfo, hi, Builtin.lenOf, Builtin.firstCells, hcap, storeCells]
  · obtain ⟨v', w', hr, h2, h3, _, h5⟩ := run_append_own_at (P := P) w base t ty e i z size bytes ht hi hz hsize hby hzs hsz v n xs hown ad m c news hl hc h1 h63 hbytes hbase
    exact ⟨v', w', hr, h2, h3, h5⟩
theorem wpList_app {ops : Array Oper} {rest : List Oper} {o : Oper} {a : Act} {Q : Exit → Act → World → Prop} (hgd : o.guard = none) (s x : Operand) (t : TypeId)
    (ho : o.op = .call { callee := .builtin .append, args := #[s, x], argTypes := #[t, t] })
    (base : Nat) (e : TypeId) (i : TypeInfo) (z : Value) (size bytes : Nat) (ht : P.underlying t = some (.slice e)) (hi : P.info? e = some i) (hz : i.zero = some z)
    (hsize : i.size = size) (hby : i.bytes = bytes) (hzs : z.cells.size = size) (hsz : 0 < size)
    (v : Value) (n : Nat) (xs : List Value) (hs : a.eval s = v) (hown : w.ownsRow base e size v n xs)
    (A : Option Addr) (m c : Nat) (news : List Value) (hx : a.eval x = .slice A m c) (hl : news.length = m * size) (hsrc : SrcC w A m news) (h1 : ∀ u ∈ news, u.oneCell' = true)
    (h63 : n + m ≤ maxLen) (hbytes : (n + m) * bytes ≤ 140737488355328) (hbase : base ≤ w.heap.size)
    (h : ∀ v' w', w'.ownsRow base e size v' (n + m) (xs ++ news) → w.grownBy w' v.ownBlock → (v'.ownBlock = v.ownBlock ∨ v'.ownBlock = some w.heap.size) → wpList P ops Q rest (a.put o.dst v') w') :
    wpList P ops Q (o :: rest) a w := by
  refine wpList_plain hgd fun K hK => ?_
  obtain ⟨v', w', hr, h2, h3, h5⟩ := run_app (P := P) w base t o.type e i z size bytes ht hi hz hsize hby hzs hsz v n xs hown A m c news hl hsrc h1 h63 hbytes hbase
  unfold Oper.wp execOp
  simp only [ho, resolve, invoke, builtin, Sem.run_bind, Sem.run_pure, Result.andThen_ok, List.map_toArray, List.map_cons, List.map_nil, hs, hx, hr]
  exact hK _ _ (h v' w' h2 h3 h5)
theorem wpList_appg {ops : Array Oper} {rest : List Oper} {o : Oper} {a : Act} {Q : Exit → Act → World → Prop} (hw : Region.wanted o (yielded ops a.tmps) = true) (s x : Operand) (t : TypeId)
    (ho : o.op = .call { callee := .builtin .append, args := #[s, x], argTypes := #[t, t] })
    (base : Nat) (e : TypeId) (i : TypeInfo) (z : Value) (size bytes : Nat) (ht : P.underlying t = some (.slice e)) (hi : P.info? e = some i) (hz : i.zero = some z)
    (hsize : i.size = size) (hby : i.bytes = bytes) (hzs : z.cells.size = size) (hsz : 0 < size)
    (v : Value) (n : Nat) (xs : List Value) (hs : a.eval s = v) (hown : w.ownsRow base e size v n xs)
    (A : Option Addr) (m c : Nat) (news : List Value) (hx : a.eval x = .slice A m c) (hl : news.length = m * size) (hsrc : SrcC w A m news) (h1 : ∀ u ∈ news, u.oneCell' = true)
    (h63 : n + m ≤ maxLen) (hbytes : (n + m) * bytes ≤ 140737488355328) (hbase : base ≤ w.heap.size)
    (h : ∀ v' w', w'.ownsRow base e size v' (n + m) (xs ++ news) → w.grownBy w' v.ownBlock → (v'.ownBlock = v.ownBlock ∨ v'.ownBlock = some w.heap.size) → wpList P ops Q rest (a.put o.dst v') w') :
    wpList P ops Q (o :: rest) a w := by
  refine wpList_step fun K hK => ?_
  simp only [hw, if_true]
  obtain ⟨v', w', hr, h2, h3, h5⟩ := run_app (P := P) w base t o.type e i z size bytes ht hi hz hsize hby hzs hsz v n xs hown A m c news hl hsrc h1 h63 hbytes hbase
  unfold Oper.wp execOp
  simp only [ho, resolve, invoke, builtin, Sem.run_bind, Sem.run_pure, Result.andThen_ok, List.map_toArray, List.map_cons, List.map_nil, hs, hx, hr]
  exact hK _ _ (h v' w' h2 h3 h5)
theorem step_app {ops : Array Oper} {o : Oper} {a : Act} {K : Act → World → Prop} {Q : Exit → Act → World → Prop} {E : Prop} (hgd : o.guard = none) (s x : Operand) (t : TypeId)
    (ho : o.op = .call { callee := .builtin .append, args := #[s, x], argTypes := #[t, t] })
    (base : Nat) (e : TypeId) (i : TypeInfo) (z : Value) (size bytes : Nat) (ht : P.underlying t = some (.slice e)) (hi : P.info? e = some i) (hz : i.zero = some z)
    (hsize : i.size = size) (hby : i.bytes = bytes) (hzs : z.cells.size = size) (hsz : 0 < size)
    (v : Value) (n : Nat) (xs : List Value) (hs : a.eval s = v) (hown : w.ownsRow base e size v n xs)
    (A : Option Addr) (m c : Nat) (news : List Value) (hx : a.eval x = .slice A m c) (hl : news.length = m * size) (hsrc : SrcC w A m news) (h1 : ∀ u ∈ news, u.oneCell' = true)
    (h63 : n + m ≤ maxLen) (hbytes : (n + m) * bytes ≤ 140737488355328) (hbase : base ≤ w.heap.size)
    (h : ∀ v' w', w'.ownsRow base e size v' (n + m) (xs ++ news) → w.grownBy w' v.ownBlock → (v'.ownBlock = v.ownBlock ∨ v'.ownBlock = some w.heap.size) → K (a.put o.dst v') w') :
    if Region.wanted o (yielded ops a.tmps) = true then Oper.wp P o a w K Q else E := by
  have hw : Region.wanted o (yielded ops a.tmps) = true := by simp [Region.wanted, hgd]
  rw [if_pos hw]
  obtain ⟨v', w', hr, h2, h3, h5⟩ := run_app (P := P) w base t o.type e i z size bytes ht hi hz hsize hby hzs hsz v n xs hown A m c news hl hsrc h1 h63 hbytes hbase
  unfold Oper.wp execOp
  simp only [ho, resolve, invoke, builtin, Sem.run_bind, Sem.run_pure, Result.andThen_ok, List.map_toArray, List.map_cons, List.map_nil, hs, hx, hr]
  exact h v' w' h2 h3 h5
end
theorem Rd.src {w : World} {B n : Nat} {A : Option Addr} {zs : List Int} (h : Rd w B A n zs) (hA : n = 0 → A = none) : SrcC w A n (zs.map (Value.int .i64)) := by
  rcases Nat.eq_zero_or_pos n with hn | hn
  · exact .inl ⟨hA hn, hn⟩
  · obtain ⟨b, off, rfl, _, hc⟩ := h.2.2.2 hn
    refine .inr ⟨_, rfl, fun j u hj => ?_⟩
    have hjn : j < n := by have := (List.getElem?_eq_some_iff.1 hj).1; rw [List.length_map, h.1] at this; exact this
    rw [Addr.add_lit, hc j hjn, ← hj]
    simp [List.getD, show j < zs.length by rw [h.1]; exact hjn]
/-- A slice with no element whatever its address. -/
theorem SrcC.zero {w : World} {A : Option Addr} : SrcC w A 0 [] := by
  cases A with
  | none => exact .inl ⟨rfl, rfl⟩
  | some ad => exact .inr ⟨ad, rfl, fun j u hj => by cases hj⟩
theorem Rd.src' {w : World} {B n : Nat} {A : Option Addr} {zs : List Int} (h : Rd w B A n zs) : SrcC w A n (zs.map (Value.int .i64)) := by
  rcases Nat.eq_zero_or_pos n with rfl | hn
  · obtain rfl : zs = [] := List.eq_nil_of_length_eq_zero h.1
    exact SrcC.zero
  · exact h.src (fun e => by omega)
theorem RdQuads.src' {w : World} {B n : Nat} {A : Option Addr} {zs : List Q4} (h : RdQuads w B A n zs) : SrcC w A n (zs.flatMap fun q => [.int .i64 q.a, .int .i64 q.b, .int .i64 q.c, .int .i64 q.d]) := by
  rcases Nat.eq_zero_or_pos n with rfl | hn
  · obtain rfl : zs = [] := List.eq_nil_of_length_eq_zero h.1
    exact SrcC.zero
  · obtain ⟨b, off, rfl, _, hc⟩ := h.2.2.2 hn
    refine .inr ⟨_, rfl, fun j u hj => ?_⟩
    have key : ∀ (l : List Q4) (j : Nat) (u : Value), (l.flatMap fun q => [Value.int .i64 q.a, .int .i64 q.b, .int .i64 q.c, .int .i64 q.d])[j]? = some u → j / 4 < l.length ∧ ((j % 4 = 0 ∧ u = .int .i64 (l.getD (j / 4) default).a) ∨ (j % 4 = 1 ∧ u = .int .i64 (l.getD (j / 4) default).b) ∨ (j % 4 = 2 ∧ u = .int .i64 (l.getD (j / 4) default).c) ∨ (j % 4 = 3 ∧ u = .int .i64 (l.getD (j / 4) default).d)) := by
      intro l
      induction l with
      | nil => intro j u h; simp at h
      | cons q l ih =>
        intro j u h
        match j, h with
        | 0, h => simp at h; subst h; simp
        | 1, h => simp at h; subst h; simp
        | 2, h => simp at h; subst h; simp
        | 3, h => simp at h; subst h; simp
        | j + 4, h =>
          simp only [List.flatMap_cons, List.cons_append, List.nil_append, List.getElem?_cons_succ] at h
          obtain ⟨h1, h2⟩ := ih j u h
          rw [show (j + 4) / 4 = j / 4 + 1 by omega, show (j + 4) % 4 = j % 4 by omega]
          simp only [List.length_cons, List.getD_cons_succ]
          exact ⟨by omega, h2⟩
    obtain ⟨h1, h2⟩ := key zs j u hj
    rw [h.1] at h1
    obtain ⟨c0, c1, c2, c3⟩ := hc (j / 4) h1
    rw [Addr.add_lit]
    rcases h2 with ⟨e, rfl⟩ | ⟨e, rfl⟩ | ⟨e, rfl⟩ | ⟨e, rfl⟩
    · rw [show off + j = off + j / 4 * 4 by omega]; exact c0
    · rw [show off + j = off + j / 4 * 4 + 1 by omega]; exact c1
    · rw [show off + j = off + j / 4 * 4 + 2 by omega]; exact c2
    · rw [show off + j = off + j / 4 * 4 + 3 by omega]; exact c3

end Go.Proofs.Ytbhccckfooobcaa
