import Derived.WalkKit
import Derived.Maps.OwnSet
import Derived.Deep.Draws
namespace Go.Proofs.YbulkcamsDoor.MapFn
open Go.ChangeMaps (setBlock)
open Go.MapKept (Stamped stamped_push stamped_modify stamped_erase stamped_empty)
open Go.Maps (Keyed)
set_option linter.unusedSectionVars false
set_option linter.unusedVariables false
set_option linter.unusedSimpArgs false

section
variable {α : Type} [DecidableEq α]

def upd (f : α → Option Value) (a : α) (v : Option Value) : α → Option Value := fun x => if x = a then v else f x

theorem upd_same (f : α → Option Value) (a : α) (v : Option Value) : upd f a v a = v := by simp [upd]
theorem upd_other (f : α → Option Value) {a x : α} (v : Option Value) (h : x ≠ a) : upd f a v x = f x := by simp [upd, h]

/-- How keys of type α stand as values of the key type k: 'ok' says which can. -/
structure KeyEnc (P : Program) (k : TypeId) (enc : α → Value) (ok : α → Prop) : Prop where
  law : Keyed P k
  inj : ∀ {a b : α}, enc a = enc b → a = b
  key : ∀ {a : α}, ok a → ∃ l, keyOf P k (enc a) = some l

/-- Block b is a map of n entries that gives f. -/
def MapIs (enc : α → Value) (ok : α → Prop) (w : World) (b : Nat) (f : α → Option Value) (n : Nat) : Prop :=
  ∃ es clock, w.heap[b]? = some (.map es clock) ∧ es.size = n ∧ Stamped es clock ∧ (∀ e ∈ es.toList, ∃ a, ok a ∧ e.key = enc a ∧ f a = some e.val) ∧
    ∀ a v, f a = some v → ∃ e ∈ es.toList, e.key = enc a ∧ e.val = v

variable {P : Program} {k : TypeId} {enc : α → Value} {ok : α → Prop} {w : World} {b : Nat} {f : α → Option Value} {n : Nat}

theorem MapIs.lt (h : MapIs enc ok w b f n) : b < w.heap.size := by
  obtain ⟨es, clock, hb, _⟩ := h
  exact (Array.getElem?_eq_some_iff.1 hb).1

theorem MapIs.kept {w' : World} (h : MapIs enc ok w b f n) (hb : w'.heap[b]? = w.heap[b]?) : MapIs enc ok w' b f n := by
  obtain ⟨es, clock, h0, r⟩ := h
  exact ⟨es, clock, hb.trans h0, r⟩

theorem MapIs.congr {f' : α → Option Value} (h : MapIs enc ok w b f n) (he : ∀ a, f' a = f a) : MapIs enc ok w b f' n := by
  have : f' = f := funext he
  rw [this]; exact h

theorem MapIs.made (enc : α → Value) (ok : α → Prop) (w : World) : MapIs enc ok (w.alloc (.map #[] 0)) w.heap.size (fun _ => none) 0 :=
  ⟨#[], 0, heap_alloc_new w _, rfl, stamped_empty 0, by simp, by simp⟩

/-- What findKey finds. -/
theorem find_spec (K : KeyEnc P k enc ok) {es : Array MapEntry} {clock : Nat} (hs : Stamped es clock) (h1 : ∀ e ∈ es.toList, ∃ a, ok a ∧ e.key = enc a ∧ f a = some e.val)
    (h2 : ∀ a v, f a = some v → ∃ e ∈ es.toList, e.key = enc a ∧ e.val = v) (w : World) {a : α} (ha : ok a) :
    (f a = none ∧ (Instr.findKey k (enc a) es.toList).run P w = .ok none w ∧ ∀ e ∈ es.toList, e.key ≠ enc a) ∨
    ∃ j e, f a = some e.val ∧ (Instr.findKey k (enc a) es.toList).run P w = .ok (some (j, e.val)) w ∧ es.toList[j]? = some e ∧ e.key = enc a := by
  obtain ⟨l, hl⟩ := K.key ha
  rcases K.law.find w hl es.toList (fun e he => by obtain ⟨a', ha', hk, _⟩ := h1 e he; rw [hk]; exact K.key ha') with ⟨g1, g2⟩ | ⟨j, e, g1, g2, g3⟩
  · refine .inl ⟨?_, g1, g2⟩
    cases hf : f a with
    | none => rfl
    | some v =>
      obtain ⟨e, he, hk, _⟩ := h2 a v hf
      exact absurd hk (g2 e he)
  · refine .inr ⟨j, e, ?_, g1, g2, g3⟩
    obtain ⟨a', _, hk, hv⟩ := h1 e (List.mem_of_getElem? g2)
    have : a' = a := K.inj (hk.symm.trans g3)
    rw [← this]; exact hv

theorem run_look (K : KeyEnc P k enc ok) (h : MapIs enc ok w b f n) {t e : TypeId} (ht : P.underlying t = some (.map k e)) {z : Value} (hz : (zeroValue e).run P w = .ok z w) {a : α} (ha : ok a) (c : Bool) :
    (Instr.lookup t (.map (some b)) (enc a) c).run P w = .ok (if c then .tuple #[(f a).getD z, .bool (f a).isSome] else (f a).getD z) w := by
  obtain ⟨es, clock, hb, _, hs, h1, h2⟩ := h
  obtain ⟨l, hl⟩ := K.key ha
  rcases find_spec K hs h1 h2 w ha with ⟨g1, g2, _⟩ | ⟨j, e0, g1, g2, _, _⟩
  · simp [Instr.lookup, run_underlying ht, MapKept.run_getObj_map hb, K.law.check w _ hl, g2, hz, g1, Result.andThen]
  · simp [Instr.lookup, run_underlying ht, MapKept.run_getObj_map hb, K.law.check w _ hl, g2, g1, Result.andThen]

theorem run_look_nil (K : KeyEnc P k enc ok) (w : World) {t e : TypeId} (ht : P.underlying t = some (.map k e)) {z : Value} (hz : (zeroValue e).run P w = .ok z w) {a : α} (ha : ok a) (c : Bool) :
    (Instr.lookup t (.map none) (enc a) c).run P w = .ok (if c then .tuple #[z, .bool false] else z) w := by
  obtain ⟨l, hl⟩ := K.key ha
  rcases find_spec (f := fun _ => none) K (stamped_empty 0) (by simp) (by simp) w ha with ⟨g1, g2, _⟩ | ⟨j, e0, g1, _⟩
  · have g2' : (Instr.findKey k (enc a) []).run P w = .ok none w := g2
    simp [Instr.lookup, run_underlying ht, K.law.check w _ hl, g2', hz, Result.andThen]
  · cases g1

/-- The entries stay, with one struck or turned. -/
theorem mem_other {es : Array MapEntry} {clock : Nat} (hs : Stamped es clock) {j : Nat} {e0 x : MapEntry} (h : es.toList[j]? = some e0) {i : Nat} (hi : es.toList[i]? = some x) (hne : i ≠ j) : x.key ≠ e0.key := by
  have hp := ((MapKept.stamped_iff es clock).1 hs).2.2
  rw [List.pairwise_iff_getElem] at hp
  obtain ⟨l1, r1⟩ := List.getElem?_eq_some_iff.1 h
  obtain ⟨l2, r2⟩ := List.getElem?_eq_some_iff.1 hi
  rcases Nat.lt_or_ge i j with g | g
  · have := hp i j l2 l1 g
    rw [r1, r2] at this; exact this
  · have := hp j i l1 l2 (by omega)
    rw [r1, r2] at this; exact this.symm

theorem run_put (K : KeyEnc P k enc ok) (h : MapIs enc ok w b f n) {t e : TypeId} (ht : P.underlying t = some (.map k e)) {a : α} (ha : ok a) (v : Value) :
    ∃ o, (∀ q, (Instr.mapUpdate t (.map (some b)) (enc a) v).run P (w.drewN q) = .ok () ((setBlock w b o).drewN q)) ∧
      MapIs enc ok (setBlock w b o) b (upd f a (some v)) (if (f a).isSome then n else n + 1) := by
  obtain ⟨es, clock, hb, hn, hs, h1, h2⟩ := h
  obtain ⟨l, hl⟩ := K.key ha
  have hlt := (Array.getElem?_eq_some_iff.1 hb).1
  have hbq : ∀ q, (w.drewN q).heap[b]? = some (.map es clock) := fun q => hb
  rcases find_spec K hs h1 h2 w ha with ⟨g1, g2, g3⟩ | ⟨j, e0, g1, g2, g3, g4⟩
  · refine ⟨.map (es.push ⟨enc a, v, clock⟩) (clock + 1), fun q => ?_, es.push ⟨enc a, v, clock⟩, clock + 1, by simp [setBlock, hlt], by simp [g1, hn], stamped_push hs g3, ?_, ?_⟩
    · rcases find_spec K hs h1 h2 (w.drewN q) ha with ⟨_, g2', _⟩ | ⟨_, _, g1', _⟩
      · simp [Instr.mapUpdate, run_underlying ht, MapKept.run_getObj_map (hbq q), K.law.check (w.drewN q) false hl, g2', MapKept.run_setObj_map _ (hbq q), Result.andThen, setBlock]
        rfl
      · rw [g1] at g1'; cases g1'
    · intro x hx
      simp only [Array.toList_push, List.mem_append, List.mem_singleton] at hx
      rcases hx with hx | rfl
      · obtain ⟨a', ha', hk, hv⟩ := h1 x hx
        refine ⟨a', ha', hk, ?_⟩
        rw [upd_other _ _ (fun e1 => g3 x hx (by rw [hk, e1]))]; exact hv
      · exact ⟨a, ha, rfl, upd_same _ _ _⟩
    · intro a' v' hv'
      by_cases e1 : a' = a
      · subst e1
        rw [upd_same] at hv'; cases hv'
        exact ⟨⟨enc a', v, clock⟩, by simp, rfl, rfl⟩
      · rw [upd_other _ _ e1] at hv'
        obtain ⟨x, hx, r⟩ := h2 a' v' hv'
        exact ⟨x, by simp [hx], r⟩
  · have hj : es[j]? = some e0 := by simpa using g3
    have hkf : ∀ e' ∈ es.toList, es[j]? = some e' → ({ e' with key := enc a, val := v } : MapEntry).key = e'.key := fun e' _ he' => by rw [hj] at he'; cases he'; exact g4.symm
    have hlist : (es.modify j (fun e' => { e' with key := enc a, val := v })).toList = es.toList.set j { e0 with key := enc a, val := v } := by
      rw [Array.toList_modify, ChangeMaps.modify_eq_set _ _ _ _ g3]
    have hjl := (List.getElem?_eq_some_iff.1 g3).1
    refine ⟨.map (es.modify j (fun e' => { e' with key := enc a, val := v })) clock, fun q => ?_, es.modify j (fun e' => { e' with key := enc a, val := v }), clock, by simp [setBlock, hlt], by simp [g1, hn], stamped_modify hs j (fun e' => { e' with key := enc a, val := v }) (fun _ _ => rfl) hkf, ?_, ?_⟩
    · rcases find_spec K hs h1 h2 (w.drewN q) ha with ⟨g1', _⟩ | ⟨j', e', g1', g2', g3', g4'⟩
      · rw [g1] at g1'; cases g1'
      · have : j' = j := by
          rcases Nat.decEq j' j with e1 | e1
          · exact absurd (g4'.trans g4.symm) (mem_other hs g3 g3' e1)
          · exact e1
        subst this
        rw [g3] at g3'; cases g3'
        simp [Instr.mapUpdate, run_underlying ht, MapKept.run_getObj_map (hbq q), K.law.check (w.drewN q) false hl, g2', hj, g4, K.law.stays (w.drewN q) hl, MapKept.run_setObj_map _ (hbq q), Result.andThen, setBlock]
        rfl
    · intro x hx
      rw [hlist] at hx
      obtain ⟨i, hi, ex⟩ := List.getElem_of_mem hx
      rw [List.getElem_set] at ex
      split at ex
      · subst ex
        exact ⟨a, ha, rfl, upd_same _ _ _⟩
      · rename_i hne
        have hi' : i < es.toList.length := by simpa using hi
        have hxi : es.toList[i]? = some x := by rw [List.getElem?_eq_getElem hi', ex]
        obtain ⟨a', ha', hk, hv⟩ := h1 x (List.mem_of_getElem? hxi)
        refine ⟨a', ha', hk, ?_⟩
        rw [upd_other _ _ (fun e1 => mem_other hs g3 hxi (fun e2 => hne e2.symm) (by rw [hk, e1, g4]))]; exact hv
    · intro a' v' hv'
      by_cases e1 : a' = a
      · subst e1
        rw [upd_same] at hv'; cases hv'
        refine ⟨{ e0 with key := enc a', val := v }, ?_, rfl, rfl⟩
        rw [hlist]
        exact List.mem_iff_getElem.2 ⟨j, by simpa using hjl, by simp⟩
      · rw [upd_other _ _ e1] at hv'
        obtain ⟨x, hx, hk, hv⟩ := h2 a' v' hv'
        obtain ⟨i, hi, ex⟩ := List.getElem_of_mem hx
        have hne : i ≠ j := fun e2 => by
          subst e2
          rw [List.getElem?_eq_getElem hi, ex] at g3
          cases g3
          exact e1 (K.inj (hk.symm.trans g4))
        refine ⟨x, ?_, hk, hv⟩
        rw [hlist]
        exact List.mem_iff_getElem.2 ⟨i, by simpa using hi, by rw [List.getElem_set_ne (fun e2 => hne e2.symm)]; exact ex⟩

theorem run_del (K : KeyEnc P k enc ok) (h : MapIs enc ok w b f n) {t e ty : TypeId} (ht : P.underlying t = some (.map k e)) {a : α} (ha : ok a) :
    ∃ o, (∀ q, (Builtin.delete_ #[t, k] ty #[.map (some b), enc a]).run P (w.drewN q) = .ok (.tuple #[]) ((setBlock w b o).drewN q)) ∧
      MapIs enc ok (setBlock w b o) b (upd f a none) (if (f a).isSome then n - 1 else n) := by
  obtain ⟨es, clock, hb, hn, hs, h1, h2⟩ := h
  obtain ⟨l, hl⟩ := K.key ha
  have hlt := (Array.getElem?_eq_some_iff.1 hb).1
  have hbq : ∀ q, (w.drewN q).heap[b]? = some (.map es clock) := fun q => hb
  rcases find_spec K hs h1 h2 w ha with ⟨g1, g2, g3⟩ | ⟨j, e0, g1, g2, g3, g4⟩
  · refine ⟨.map es clock, fun q => ?_, es, clock, by simp [setBlock, hlt], by simp [g1, hn], hs, ?_, ?_⟩
    · rcases find_spec K hs h1 h2 (w.drewN q) ha with ⟨_, g2', _⟩ | ⟨_, _, g1', _⟩
      · simp [Builtin.delete_, run_underlying ht, MapKept.run_getObj_map (hbq q), K.law.check (w.drewN q) _ hl, g2', MapKept.run_setObj_map _ (hbq q), Result.andThen, setBlock]
        rfl
      · rw [g1] at g1'; cases g1'
    · intro x hx
      obtain ⟨a', ha', hk, hv⟩ := h1 x hx
      refine ⟨a', ha', hk, ?_⟩
      rw [upd_other _ _ (fun e1 => g3 x hx (by rw [hk, e1]))]; exact hv
    · intro a' v' hv'
      by_cases e1 : a' = a
      · subst e1
        rw [upd_same] at hv'; cases hv'
      · rw [upd_other _ _ e1] at hv'
        exact h2 a' v' hv'
  · have hjl : j < es.toList.length := (List.getElem?_eq_some_iff.1 g3).1
    have hjs : j < es.size := by simpa using hjl
    have hsub : (es.eraseIdxIfInBounds j).toList = es.toList.eraseIdx j := by
      unfold Array.eraseIdxIfInBounds
      rw [dif_pos hjs]
      simp
    refine ⟨.map (es.eraseIdxIfInBounds j) clock, fun q => ?_, es.eraseIdxIfInBounds j, clock, by simp [setBlock, hlt], ?_, stamped_erase hs j, ?_, ?_⟩
    · rcases find_spec K hs h1 h2 (w.drewN q) ha with ⟨g1', _⟩ | ⟨j', e', g1', g2', g3', g4'⟩
      · rw [g1] at g1'; cases g1'
      · have : j' = j := by
          rcases Nat.decEq j' j with e1 | e1
          · exact absurd (g4'.trans g4.symm) (mem_other hs g3 g3' e1)
          · exact e1
        subst this
        simp [Builtin.delete_, run_underlying ht, MapKept.run_getObj_map (hbq q), K.law.check (w.drewN q) _ hl, g2', MapKept.run_setObj_map _ (hbq q), Result.andThen, setBlock]
        rfl
    · have hsz : (es.eraseIdxIfInBounds j).toList.length = es.toList.length - 1 := by rw [hsub, List.length_eraseIdx_of_lt hjl]
      rw [g1, ← Array.length_toList, hsz, Array.length_toList, hn]
      rfl
    · intro x hx
      rw [hsub] at hx
      obtain ⟨i, hne, hi⟩ := List.mem_eraseIdx_iff_getElem?.1 hx
      obtain ⟨a', ha', hk, hv⟩ := h1 x (List.mem_of_getElem? hi)
      refine ⟨a', ha', hk, ?_⟩
      rw [upd_other _ _ (fun e1 => mem_other hs g3 hi hne (by rw [hk, e1, g4]))]; exact hv
    · intro a' v' hv'
      by_cases e1 : a' = a
      · subst e1
        rw [upd_same] at hv'; cases hv'
      · rw [upd_other _ _ e1] at hv'
        obtain ⟨x, hx, hk, hv⟩ := h2 a' v' hv'
        obtain ⟨i, hi, ex⟩ := List.getElem_of_mem hx
        have hne : i ≠ j := fun e2 => by
          subst e2
          rw [List.getElem?_eq_getElem hi, ex] at g3
          cases g3
          exact e1 (K.inj (hk.symm.trans g4))
        refine ⟨x, ?_, hk, hv⟩
        rw [hsub]
        exact List.mem_eraseIdx_iff_getElem?.2 ⟨i, hne, by rw [List.getElem?_eq_getElem hi, ex]⟩

theorem run_del_nil (K : KeyEnc P k enc ok) (w : World) {t e ty : TypeId} (ht : P.underlying t = some (.map k e)) {a : α} (ha : ok a) :
    (Builtin.delete_ #[t, k] ty #[.map none, enc a]).run P w = .ok (.tuple #[]) w := by
  obtain ⟨l, hl⟩ := K.key ha
  simp [Builtin.delete_, run_underlying ht, K.law.check w _ hl, Result.andThen]

theorem run_len (h : MapIs enc ok w b f n) {t e ty : TypeId} (ht : P.underlying t = some (.map k e)) :
    (Builtin.len_ #[t] ty #[.map (some b)]).run P w = .ok (.int .i64 n) w := by
  obtain ⟨es, clock, hb, hn, _⟩ := h
  simp [Builtin.len_, run_underlying ht, MapKept.run_getObj_map hb, hn, Result.andThen, goInt]

theorem setBlock_other (w : World) (b : Nat) (o : Obj) {c : Nat} (h : c ≠ b) : (setBlock w b o).heap[c]? = w.heap[c]? := by
  simp only [setBlock]
  rw [Array.getElem?_setIfInBounds, if_neg (fun e => h e.symm)]

theorem setBlock_size (w : World) (b : Nat) (o : Obj) : (setBlock w b o).heap.size = w.heap.size := by simp [setBlock]

theorem setBlock_below {B : Nat} {x w : World} (h : RowKit.Below B x w) {b : Nat} (hb : B ≤ b) (o : Obj) : RowKit.Below B x (setBlock w b o) :=
  h.trans ⟨rfl, rfl, rfl, by rw [setBlock_size]; exact Nat.le_refl _, fun c hc => setBlock_other _ _ _ (by omega)⟩

end

/-- 'delete(m, k)' at the operation, out of its run's equation. -/
theorem wpList_del_fn {P : Program} (w : World) {ops : Array Oper} {rest : List Oper} {o : Oper} {a : Act} {Q : Exit → Act → World → Prop} (hg : o.guard = none) (m x : Operand) (t k : TypeId)
    (hop : o.op = Op.call { callee := Callee.builtin Builtin.delete, args := #[m, x], argTypes := #[t, k] }) (mv xv : Value) (hm : a.eval m = mv) (hx : a.eval x = xv) (w1 : World)
    (hrun : ∀ ty, (Builtin.delete_ #[t, k] ty #[mv, xv]).run P w = .ok (.tuple #[]) w1) (hd : o.dst = none) (hK : wpList P ops Q rest a w1) : wpList P ops Q (o :: rest) a w := by
  refine wpList_plain hg fun K' hK' => ?_
  unfold Oper.wp
  simp [execOp, hop, resolve, invoke, builtin, hm, hx, hrun, Result.andThen]
  refine hK' _ _ ?_
  rw [hd]
  exact hK

/-- 'len(m)' at the operation. -/
theorem wpList_len_fn {P : Program} (w : World) {ops : Array Oper} {rest : List Oper} {o : Oper} {a : Act} {Q : Exit → Act → World → Prop} (hg : o.guard = none) (m : Operand) (t : TypeId)
    (hop : o.op = Op.call { callee := Callee.builtin Builtin.len, args := #[m], argTypes := #[t] }) (mv v : Value) (hm : a.eval m = mv)
    (hrun : ∀ ty, (Builtin.len_ #[t] ty #[mv]).run P w = .ok v w) (hK : wpList P ops Q rest (a.put o.dst v) w) : wpList P ops Q (o :: rest) a w := by
  refine wpList_plain hg fun K' hK' => ?_
  unfold Oper.wp
  simp [execOp, hop, resolve, invoke, builtin, hm, hrun, Result.andThen]
  exact hK' _ _ hK

theorem string_enc {P : Program} {k : TypeId} (hk : P.underlying k = some .string) : KeyEnc P k Value.string (fun s : ByteArray => s.size ≤ maxLen) where
  law := Maps.string_keyed hk
  inj := fun h => by cases h; rfl
  key := fun h => ⟨_, WideMaps.keyOf_string_mk hk h⟩

theorem int_enc {P : Program} {k : TypeId} {q : IntKind} (hk : P.underlying k = some (.int q)) : KeyEnc P k (Value.int q) (fun z : Int => (Lit.int q z).wf = true) where
  law := Maps.int_keyed hk
  inj := fun h => by cases h; rfl
  key := fun h => ⟨_, Maps.keyOf_int_mk hk h⟩
end Go.Proofs.YbulkcamsDoor.MapFn
