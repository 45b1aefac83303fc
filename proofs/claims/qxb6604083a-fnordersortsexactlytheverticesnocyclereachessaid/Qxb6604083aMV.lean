import Derived.Test.Qxb6604083aBase
import Derived.Maps.RangeWalk
import Derived.Maps.OwnSet
import Derived.Deep.RegionHeld3
/-! MAPS KEYED BY int, SEEN AS A LIST OF KEYS AND A FUNCTION -/
set_option linter.unusedVariables false
namespace Go.Proofs.Qxb6604083a.Base
open Go.ChangeShapes Go.WideShapes Go.ChangeAt Go.RowKit
open Go.Maps (Keyed)

theorem law : Keyed Try.prog 3 := Maps.int_keyed Try.underlying3
def W64 (x : Int) : Prop := (Lit.int .i64 x).wf = true
theorem keyAt {x : Int} (h : W64 x) : keyOf Try.prog 3 (.int .i64 x) = some (.int .i64 x) := Maps.keyOf_int_mk Try.underlying3 h
/-- How an element reads: as itself. -/
def tok (v : Value) : Option (DataW Value × List MemPlace) := some (.held v, [])

/-- D is the map with the keys ks and the values F. -/
structure Is (D : DataW Value) (ks : List Int) (F : Int → Value) : Prop where
  size : Maps.size D = ks.length
  nd : ks.Nodup
  wf : ∀ x ∈ ks, W64 x
  has : ∀ x, Maps.has D (.int .i64 x) = decide (x ∈ ks)
  at' : ∀ x ∈ ks, ∀ z, D.atKey (.int .i64 x) z = .held (F x)
  isMap : Maps.IsMap D
  tidy : Maps.Tidy D

def MV (w : World) (b : Nat) (ks : List Int) (F : Int → Value) : Prop := ∃ D, w.ownsMap Try.prog 3 tok b ks.length D ∧ Is D ks F

/-- What a look-up gives. -/
def lookV (ks : List Int) (F : Int → Value) (z : Value) (x : Int) : Value := if x ∈ ks then F x else z
def addK (ks : List Int) (x : Int) : List Int := if x ∈ ks then ks else ks ++ [x]
def upd (F : Int → Value) (x : Int) (v : Value) : Int → Value := fun y => if y = x then v else F y

theorem mem_addK {ks : List Int} {x y : Int} : y ∈ addK ks x ↔ y ∈ ks ∨ y = x := by
  unfold addK
  split
  · constructor
    · exact .inl
    · rintro (h | rfl)
      · exact h
      · assumption
  · simp
theorem Is.empty (F : Int → Value) : Is (.map []) [] F :=
  ⟨rfl, List.nodup_nil, fun x h => by simp at h, fun x => rfl, fun x h => by simp at h, Maps.isMap_empty, Maps.tidy_empty⟩
theorem lit_ne {x y : Int} (h : y ≠ x) : (Lit.int .i64 y) ≠ .int .i64 x := fun e => h (by injection e)
theorem Is.put {D : DataW Value} {ks : List Int} {F : Int → Value} (h : Is D ks F) {x : Int} (hx : W64 x) (v : Value) : Is (D.put (.int .i64 x) (.held v)) (addK ks x) (upd F x v) := by
  have hk : WideAt.IsKeyLit (.int .i64 x) := trivial
  refine ⟨?_, ?_, fun y hy => ?_, fun y => ?_, fun y hy z => ?_, h.isMap.put _ _, h.tidy.put hk _⟩
  · rw [Maps.size_put h.tidy, h.has x, h.size]
    unfold addK
    by_cases hm : x ∈ ks <;> simp [hm]
  · unfold addK
    split
    · exact h.nd
    · rename_i hm
      rw [List.nodup_append]
      exact ⟨h.nd, by simp, fun a ha b hb => by simp at hb; subst hb; intro e; subst e; exact hm ha⟩
  · rcases mem_addK.1 hy with a | rfl
    · exact h.wf y a
    · exact hx
  · by_cases e : y = x
    · subst e
      rw [Maps.has_put_same h.isMap hk, eq_comm, decide_eq_true_iff]
      exact mem_addK.2 (.inr rfl)
    · rw [Maps.has_put_other (lit_ne e), h.has y]
      congr 1
      rw [mem_addK]
      simp [e]
  · unfold upd
    by_cases e : y = x
    · subst e
      rw [Maps.atKey_put_same h.isMap hk, if_pos rfl]
    · rw [Maps.atKey_put_other (lit_ne e), if_neg e]
      rcases mem_addK.1 hy with a | a
      · exact h.at' y a z
      · exact absurd a e

theorem MV.exact {w : World} {b n : Nat} {D : DataW Value} {R : Value → Option (DataW Value × List MemPlace)} (h : w.ownsMap Try.prog 3 R b n D) : w.ownsMap Try.prog 3 R b (Maps.size D) D := by
  obtain ⟨es, clock, hb, F, hs, rfl⟩ := h
  exact ⟨es, clock, hb, F, by simp [Maps.size, length_sorted], rfl⟩
theorem MV.made (w : World) (F : Int → Value) : MV (w.alloc (.map #[] 0)) w.heap.size [] F := ⟨_, World.ownsMap_made w _ _ _, Is.empty F⟩
theorem MV.lt {w : World} {b : Nat} {ks : List Int} {F : Int → Value} (h : MV w b ks F) : b < w.heap.size := let ⟨_, h, _⟩ := h; h.lt
theorem MV.kept {w w' : World} {b : Nat} {ks : List Int} {F : Int → Value} {row : Option Nat} (h : MV w b ks F) (hg : w.grownBy w' row) (hne : some b ≠ row) : MV w' b ks F := let ⟨D, h, i⟩ := h; ⟨D, h.kept hg hne, i⟩
theorem MV.below {w w' : World} {b B : Nat} {ks : List Int} {F : Int → Value} (h : MV w b ks F) (hb : Below B w w') (hB : b < B) : MV w' b ks F := by
  obtain ⟨D, ⟨es, clock, he, r⟩, i⟩ := h
  exact ⟨D, ⟨es, clock, by rw [hb.block b hB]; exact he, r⟩, i⟩
theorem MV.drewN {w : World} {b : Nat} {ks : List Int} {F : Int → Value} (h : MV w b ks F) (n : Nat) : MV (w.drewN n) b ks F := h
theorem MV.congr {w : World} {b : Nat} {ks : List Int} {F G : Int → Value} (h : MV w b ks F) (e : ∀ x ∈ ks, F x = G x) : MV w b ks G :=
  let ⟨D, h, i⟩ := h; ⟨D, h, i.size, i.nd, i.wf, i.has, fun x hx z => by rw [← e x hx]; exact i.at' x hx z, i.isMap, i.tidy⟩
theorem MV.nd {w : World} {b : Nat} {ks : List Int} {F : Int → Value} (h : MV w b ks F) : ks.Nodup := let ⟨_, _, i⟩ := h; i.nd
theorem MV.wf {w : World} {b : Nat} {ks : List Int} {F : Int → Value} (h : MV w b ks F) : ∀ x ∈ ks, W64 x := let ⟨_, _, i⟩ := h; i.wf

section
variable (w : World) {ops : Array Oper} {rest : List Oper} {o : Oper} {a : Act} {Q : Exit → Act → World → Prop}

/-- 'm[k]'. v: what the prover says it is. -/
theorem wp_look (hg : o.guard = none) (m x : Operand) (t : TypeId) (hop : o.op = Op.lookup t m x false) (e : TypeId) (ht : Try.prog.underlying t = some (.map 3 e)) (z : Value) (hz : (zeroValue e).run Try.prog w = .ok z w)
    {b : Nat} {ks : List Int} {F : Int → Value} (hm : a.eval m = .map (some b)) (h : MV w b ks F) (k : Int) (hx : a.eval x = .int .i64 k) (hk : W64 k) (v : Value) (hv : lookV ks F z k = v)
    (hK : wpList Try.prog ops Q rest (a.put o.dst v) w) : wpList Try.prog ops Q (o :: rest) a w := by
  obtain ⟨D, h, i⟩ := h
  refine wpList_plain hg fun K' hK' => ?_
  obtain ⟨v', ps, hrun, hv'⟩ := h.lookup law ht hz (show tok z = some (.held z, []) from rfl) (keyAt hk)
  have e1 : v' = v := by
    simp only [tok, Option.some.injEq, Prod.mk.injEq] at hv'
    rw [← hv]
    unfold lookV
    split
    · rename_i hm'
      rw [i.at' k hm'] at hv'
      exact DataW.held.inj hv'.1
    · rename_i hm'
      rw [Maps.atKey_of_not_has (by rw [i.has k]; simpa using hm')] at hv'
      exact DataW.held.inj hv'.1
  subst e1
  unfold Oper.wp
  simp [execOp, hop, hm, hx, hrun, Result.andThen]
  exact hK' _ _ hK

/-- 'v, ok := m[k]'. -/
theorem wp_look_ok (hg : o.guard = none) (m x : Operand) (t : TypeId) (hop : o.op = Op.lookup t m x true) (e : TypeId) (ht : Try.prog.underlying t = some (.map 3 e)) (z : Value) (hz : (zeroValue e).run Try.prog w = .ok z w)
    {b : Nat} {ks : List Int} {F : Int → Value} (hm : a.eval m = .map (some b)) (h : MV w b ks F) (k : Int) (hx : a.eval x = .int .i64 k) (hk : W64 k) (v : Value) (hv : lookV ks F z k = v) (bb : Bool) (hbb : decide (k ∈ ks) = bb)
    (hK : wpList Try.prog ops Q rest (a.put o.dst (.tuple #[v, .bool bb])) w) : wpList Try.prog ops Q (o :: rest) a w := by
  obtain ⟨D, h, i⟩ := h
  refine wpList_plain hg fun K' hK' => ?_
  obtain ⟨v', ps, hrun, hv'⟩ := h.look_ok law ht hz (show tok z = some (.held z, []) from rfl) (keyAt hk)
  rw [i.has k, hbb] at hrun
  have e1 : v' = v := by
    simp only [tok, Option.some.injEq, Prod.mk.injEq] at hv'
    rw [← hv]
    unfold lookV
    split
    · rename_i hm'
      rw [i.at' k hm'] at hv'
      exact DataW.held.inj hv'.1
    · rename_i hm'
      rw [Maps.atKey_of_not_has (by rw [i.has k]; simpa using hm')] at hv'
      exact DataW.held.inj hv'.1
  subst e1
  unfold Oper.wp
  simp [execOp, hop, hm, hx, hrun, Result.andThen]
  exact hK' _ _ hK

/-- 'm[k] = v'. -/
theorem wp_store (hg : o.guard = none) (m x v : Operand) (t : TypeId) (hop : o.op = Op.mapUpdate t m x v) (e : TypeId) (ht : Try.prog.underlying t = some (.map 3 e))
    {b : Nat} {ks : List Int} {F : Int → Value} (hm : a.eval m = .map (some b)) (h : MV w b ks F) (hn : ks.length < maxLen) (k : Int) (hx : a.eval x = .int .i64 k) (hk : W64 k) (val : Value) (hv : a.eval v = val)
    (hK : ∀ w', MV w' b (addK ks k) (upd F k val) → w.grownBy w' (some b) → wpList Try.prog ops Q rest (a.put o.dst undef) w') : wpList Try.prog ops Q (o :: rest) a w := by
  obtain ⟨D, h, i⟩ := h
  refine wpList_mapUpdate_in w hg m x v t hop 3 e law ht tok b _ D hm h hn _ _ _ hx hv (keyAt hk) (.held val) [] rfl fun w' h' ht' => hK w' ?_ ht'.grown
  have i' := i.put hk val
  refine ⟨_, ?_, i'⟩
  have := MV.exact h'
  rwa [i'.size] at this

/-- 'len(m)'. -/
theorem wp_len (hg : o.guard = none) (m : Operand) (t : TypeId) (hop : o.op = Op.call { callee := Callee.builtin Builtin.len, args := #[m], argTypes := #[t] }) (e : TypeId) (ht : Try.prog.underlying t = some (.map 3 e))
    {b : Nat} {ks : List Int} {F : Int → Value} (hm : a.eval m = .map (some b)) (h : MV w b ks F) (hK : wpList Try.prog ops Q rest (a.put o.dst (.int .i64 ks.length)) w) : wpList Try.prog ops Q (o :: rest) a w := by
  obtain ⟨D, h, i⟩ := h
  refine wpList_len_own w hg m t hop 3 e ht tok b _ D hm h ?_
  rw [i.size]
  exact hK
end

/-- 'make(map[..].., n)'. -/
theorem run_makeMap_hint (t e : TypeId) (ht : Try.prog.underlying t = some (.map 3 e)) (n : Int) (w : World) : (Instr.makeMap t (some (.int .i64 n))).run Try.prog w = .ok (.map (some w.heap.size)) (w.alloc (.map #[] 0)) := by
  simp [Instr.makeMap, run_underlying ht, asInt, asIntOf, newObj]
  rfl

/-! ### ranging -/
/-- Block r is an iterator over the map in block b; the keys of 'todo' are still to come. -/
def RG (w : World) (b r : Nat) (ks : List Int) (F : Int → Value) (todo : List Int) : Prop :=
  ∃ D left cnt, w.ranges Try.prog 3 tok b r ks.length D left cnt ∧ Is D ks F ∧ todo.Nodup ∧ (∀ x ∈ todo, x ∈ ks) ∧ ∀ x, left (.int .i64 x) = decide (x ∈ todo)
theorem RG.mv {w : World} {b r : Nat} {ks todo : List Int} {F : Int → Value} (h : RG w b r ks F todo) : MV w b ks F := let ⟨D, _, _, h, i, _⟩ := h; ⟨D, h.owns, i⟩
theorem RG.ne {w : World} {b r : Nat} {ks todo : List Int} {F : Int → Value} (h : RG w b r ks F todo) : r ≠ b := let ⟨_, _, _, h, _⟩ := h; h.ne
theorem RG.lt {w : World} {b r : Nat} {ks todo : List Int} {F : Int → Value} (h : RG w b r ks F todo) : r < w.heap.size := let ⟨_, _, _, h, _⟩ := h; h.lt
theorem RG.nd {w : World} {b r : Nat} {ks todo : List Int} {F : Int → Value} (h : RG w b r ks F todo) : todo.Nodup := let ⟨_, _, _, _, _, n, _⟩ := h; n
theorem RG.sub {w : World} {b r : Nat} {ks todo : List Int} {F : Int → Value} (h : RG w b r ks F todo) : ∀ x ∈ todo, x ∈ ks := let ⟨_, _, _, _, _, _, n, _⟩ := h; n
theorem RG.kept {w w' : World} {b r : Nat} {ks todo : List Int} {F : Int → Value} {row : Option Nat} (h : RG w b r ks F todo) (hg : w.grownBy w' row) (h1 : some b ≠ row) (h2 : some r ≠ row) : RG w' b r ks F todo :=
  let ⟨D, left, cnt, h, i⟩ := h; ⟨D, left, cnt, h.kept hg h1 h2, i⟩
theorem RG.same {w w' : World} {b r : Nat} {ks todo : List Int} {F : Int → Value} {row : Option Nat} (h : RG w b r ks F todo) (hg : w.grownBy w' row) (h1 : some b ≠ row) (h2 : some r ≠ row) : w'.rangeLeft b r = w.rangeLeft b r :=
  let ⟨D, left, cnt, h, i⟩ := h; by rw [h.left_eq, (h.kept hg h1 h2).left_eq]

section
variable (w : World) {ops : Array Oper} {rest : List Oper} {o : Oper} {a : Act} {Q : Exit → Act → World → Prop}

theorem wp_range (hg : o.guard = none) (m : Operand) (t : TypeId) (hop : o.op = Op.range t m) (e : TypeId) (ht : Try.prog.underlying t = some (.map 3 e)) {b : Nat} {ks : List Int} {F : Int → Value} (hm : a.eval m = .map (some b)) (h : MV w b ks F)
    (hK : ∀ w', RG w' b w.heap.size ks F ks → w.grownBy w' none → w'.heap.size = w.heap.size + 1 → wpList Try.prog ops Q rest (a.put o.dst (.pointer (some ⟨w.heap.size, 0, none⟩))) w') : wpList Try.prog ops Q (o :: rest) a w := by
  obtain ⟨D, h, i⟩ := h
  exact wpList_range_own w hg m t hop 3 e law ht tok b _ D hm h fun w' h1 h2 h3 => hK w' ⟨D, _, _, h1, i, i.nd, fun x hx => hx, i.has⟩ h2 h3

theorem wp_next (hg : o.guard = none) (it : Operand) (hop : o.op = Op.next it false) {b r : Nat} {ks todo : List Int} {F : Int → Value} (hit : a.eval it = .pointer (some ⟨r, 0, none⟩)) (h : RG w b r ks F todo)
    (hDone : todo = [] → wpList Try.prog ops Q rest (a.put o.dst (.tuple #[.bool false])) w)
    (hMore : ∀ (x : Int) (w' : World), x ∈ todo → W64 x → RG w' b r ks F (todo.filter (fun y => decide (y ≠ x))) → w'.rangeLeft b r < w.rangeLeft b r → w.grownBy w' (some r) → w'.heap.size = w.heap.size →
      ∀ v, F x = v → (Instr.entry (.pointer (some ⟨r, 0, none⟩))).run Try.prog w' = .ok (.tuple #[.int .i64 x, v]) w' → wpList Try.prog ops Q rest (a.put o.dst (.tuple #[.bool true, .int .i64 x, v])) w') :
    wpList Try.prog ops Q (o :: rest) a w := by
  obtain ⟨D, left, cnt, h, i, nd, sub, hl⟩ := h
  refine wpList_next_ranges w hg it hop 3 law tok (Value.int .i64) id (fun key kl hkey => ?_) (fun v y _ => ⟨v, rfl⟩) b r _ D left cnt hit h (fun _ h0 => hDone ?_) ?_
  · obtain ⟨x, rfl, _⟩ := Maps.keyOf_int_inv Try.underlying3 hkey
    exact ⟨x, rfl⟩
  · apply List.eq_nil_iff_forall_not_mem.2
    intro x hx
    have := hl x
    rw [h0] at this
    simp [hx] at this
  · intro x c kl y w' cnt' hkey hlk hR hat hrg hlt hgr hsz hen
    obtain ⟨x', ex, rfl, hwx⟩ := Maps.keyOf_int_inv Try.underlying3 hkey
    cases ex
    have hx : x ∈ todo := by have := hl x; rw [hlk] at this; simpa using this.symm
    have hc : F x = c := by
      have h1 := hat (.held c)
      rw [i.at' x (sub x hx)] at h1
      simp only [tok, id, Option.some.injEq] at hR
      rw [← hR] at h1
      exact DataW.held.inj h1
    refine hMore x w' hx hwx ⟨D, _, cnt', hrg, i, nd.filter _, fun y hy => sub y (List.mem_filter.1 hy).1, fun y => ?_⟩ ?_ hgr hsz c hc hen
    · rw [hl y]
      by_cases e : y = x
      · subst e; simp [Lit.sameKey]
      · simp [Lit.sameKey, e]
    · rw [hrg.left_eq, h.left_eq]; exact hlt
end
end Go.Proofs.Qxb6604083a.Base
