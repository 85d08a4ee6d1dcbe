import Derived.Test.YbulkcakaDoorCFPlain
namespace Go.Proofs.YbulkcakaDoor.CF
open Go.RowKit Ext
open MapFn (MapIs upd upd_same upd_other)
set_option maxRecDepth 10000
set_option linter.unusedSimpArgs false
set_option linter.unusedVariables false

def Nodes (w : World) (b off n : Nat) (nm : Nat → ByteArray) (rqv fuv shv : Nat → Int) (cv : Nat → Bool) : Prop :=
  ∀ j, j < n → w.cell? ⟨b, off + j * 5, none⟩ = some (.string (nm j)) ∧ w.cell? ⟨b, off + j * 5 + 1, none⟩ = some (.int .u16 (rqv j)) ∧ w.cell? ⟨b, off + j * 5 + 2, none⟩ = some (.int .i16 (fuv j)) ∧
    w.cell? ⟨b, off + j * 5 + 3, none⟩ = some (.int .u16 (shv j)) ∧ w.cell? ⟨b, off + j * 5 + 4, none⟩ = some (.bool (cv j))

def Rng (n : Nat) (nm : Nat → ByteArray) (rqv fuv shv : Nat → Int) : Prop :=
  ∀ j, j < n → okS (nm j) ∧ (0 ≤ rqv j ∧ rqv j ≤ 65535) ∧ (-32768 ≤ fuv j ∧ fuv j ≤ 32767) ∧ (0 ≤ shv j ∧ shv j ≤ 65535)

theorem keepCell {W w1 : World} {B : Nat} (hb : Below B W w1) {p : Addr} {v : Value} (h : W.cell? p = some v) (hp : p.block < B) : w1.cell? p = some v := (hb.cell hp).trans h

/-- The five cells of a node's copy. -/
def Copy (w : World) (g : Nat) (s : ByteArray) (r f h : Int) (c : Bool) : Prop :=
  w.cell? ⟨g, 0, none⟩ = some (.string s) ∧ w.cell? ⟨g, 1, none⟩ = some (.int .u16 r) ∧ w.cell? ⟨g, 2, none⟩ = some (.int .i16 f) ∧ w.cell? ⟨g, 3, none⟩ = some (.int .u16 h) ∧ w.cell? ⟨g, 4, none⟩ = some (.bool c)

theorem Copy.new (w : World) (s : ByteArray) (r f h : Int) (c : Bool) : Copy (w.alloc (.cells #[.string s, .int .u16 r, .int .i16 f, .int .u16 h, .bool c] 54)) w.heap.size s r f h c :=
  ⟨World.cell?_alloc_new _ _ _ 0, World.cell?_alloc_new _ _ _ 1, World.cell?_alloc_new _ _ _ 2, World.cell?_alloc_new _ _ _ 3, World.cell?_alloc_new _ _ _ 4⟩
theorem Copy.frame {w w' : World} {B g : Nat} {s : ByteArray} {r f h : Int} {c : Bool} (H : Copy w g s r f h c) (hf : Frame B w w') (hg : B + 8 ≤ g) : Copy w' g s r f h c :=
  ⟨hf.cell H.1 (.inr hg), hf.cell H.2.1 (.inr hg), hf.cell H.2.2.1 (.inr hg), hf.cell H.2.2.2.1 (.inr hg), hf.cell H.2.2.2.2 (.inr hg)⟩

/-- A claim laid. -/
theorem put_claim {w : World} {B : Nat} {p : Pl} {s : ByteArray} (hs : okS s) (h : Book w B p) {g : Nat} (hg : B + 8 ≤ g) (hgb : w.heap[g]? = some (.cells #[.int .u64 0, .int .u64 0, .pointer none] 66 (0, 0))) :
    ∃ w1, (∀ q, (Instr.mapUpdate 74 (.map (some (B + 4))) (.string s) (.slice (some ⟨g, 0, none⟩) 1 1)).run Ybad.prog (w.drewN q) = .ok () (w1.drewN q)) ∧ Book w1 B (claimP p s) ∧ Frame B w w1 := by
  have hl := h.lt
  obtain ⟨k1, k2, ⟨du, k3⟩, ⟨cl, k4, k5⟩, k6, k7⟩ := h
  obtain ⟨w1, r1, m1, t1⟩ := put_w k4 Ybad.underlying74 hs (.slice (some ⟨g, 0, none⟩) 1 1)
  have f1 := t1.frame (B := B) (by omega) (by omega)
  refine ⟨w1, r1, ⟨by rw [t1.block _ (by omega)]; exact k1, k2.kept (t1.block _ (by omega)), ⟨_, k3.kept (t1.block _ (by omega))⟩, ⟨upd cl s (some (.slice (some ⟨g, 0, none⟩) 1 1)), ?_, fun x => ?_⟩, k6.kept (t1.block _ (by omega)), k7.kept (t1.block _ (by omega))⟩, f1⟩
  · have e : (cl s).isSome = p.cl s := by
      cases hc : p.cl s
      · rw [(k5 s).1 hc]; rfl
      · obtain ⟨v, hv, _⟩ := (k5 s).2 hc; rw [hv]; rfl
    rw [e] at m1
    exact m1
  · show (updI p.cl s true x = false → _) ∧ (updI p.cl s true x = true → _)
    by_cases hx : x = s
    · subst hx
      refine ⟨fun h => by simp [updI] at h, fun _ => ⟨_, by rw [upd_same], g, rfl, hg, (f1.block g (block_lt hgb) (.inr hg)).trans hgb⟩⟩
    · unfold updI
      rw [upd_other _ _ hx]
      simp only [hx, if_false]
      exact claims_kept k5 f1 x

theorem zero3 (w : World) : (zeroValue 3).run Ybad.prog w = .ok (.int .i64 0) w := by kernel_rfl

theorem look_ints {w : World} {b n : Nat} {f : ByteArray → Option Int} (h : MapIs Value.string okS w b (ints f) n) {s : ByteArray} (hs : okS s) :
    (Instr.lookup 70 (.map (some b)) (.string s) true).run Ybad.prog w = .ok (.tuple #[.int .i64 ((f s).getD 0), .bool (f s).isSome]) w := by
  rw [MapFn.run_look enc9 h Ybad.underlying70 (zero3 w) hs true]
  unfold ints
  cases f s <;> rfl

theorem look_claim {w : World} {B : Nat} {p : Pl} (h : Book w B p) {s : ByteArray} (hs : okS s) :
    ∃ v, ∀ w', w'.heap[B + 4]? = w.heap[B + 4]? → (Instr.lookup 74 (.map (some (B + 4))) (.string s) true).run Ybad.prog w' = .ok (.tuple #[v, .bool (p.cl s)]) w' := by
  obtain ⟨k1, k2, ⟨du, k3⟩, ⟨cl, k4, k5⟩, k6, k7⟩ := h
  refine ⟨(cl s).getD (.slice none 0 0), fun w' hw' => ?_⟩
  rw [MapFn.run_look enc9 (k4.kept hw') Ybad.underlying74 (zero67 w') hs true]
  cases hc : p.cl s
  · rw [(k5 s).1 hc]; rfl
  · obtain ⟨v, hv, _⟩ := (k5 s).2 hc; rw [hv]; rfl

/-- A region that draws its order, in the class of the later worlds. -/
theorem wp_region_in {P : Program} {B : Nat} {w : World} (y : Later B w) {id : Nat} {Q : Exit → Act → World → Prop} {a : Act} {l : List Oper} (hm : P.follows .mixedOrders = true) (hB : Region.lexB .any l.toArray = true)
    (h : wpQuiet P l.toArray (fun w' => ∃ x : Later B w, w' = x.1) (fun a' => ∀ w', (∃ x : Later B w, w' = x.1) → Q .normal a' w') l a) : (Code.region id l.toArray true).wp P Q a y.1 :=
  wp_region_quiet (C := fun w' => ∃ x : Later B w, w' = x.1) hm hB ⟨⟨y.1.drew, y.2.drew⟩, rfl⟩ (by simpa using h)

/-- What the counters of the second loop have still to count. -/
structure Acc (nm : Nat → ByteArray) (n : Nat) (p : Pl) (i : Nat) (x0 x1 x2 x3 x4 : Int) : Prop where
  a0 : x0 + sl (fun s => ind (p.rq s).isSome) ((nms nm n).drop i) = p.nr ∧ 0 ≤ x0
  a1 : x1 + sl (fun s => ind (p.fu s).isSome) ((nms nm n).drop i) = p.nf ∧ 0 ≤ x1
  a2 : x2 + sl (fun s => ind (p.cl s)) ((nms nm n).drop i) = p.nc ∧ 0 ≤ x2
  a3 : x3 + sl (fun s => ind (decide (0 < p.sh s))) ((nms nm n).drop i) = p.ns ∧ 0 ≤ x3
  a4 : x4 + sl p.sh ((nms nm n).drop i) = p.tot ∧ 0 ≤ x4

theorem Acc.start {nm : Nat → ByteArray} {n : Nat} {p : Pl} (h : Cnt (nms nm n) p) : Acc nm n p 0 0 0 0 0 0 := by
  refine ⟨?_, ?_, ?_, ?_, ?_⟩ <;> rw [List.drop_zero]
  · rw [← h.nr]; omega
  · rw [← h.nf]; omega
  · rw [← h.nc]; omega
  · rw [← h.ns]; omega
  · rw [← h.tot]; omega

theorem Acc.bound {nm : Nat → ByteArray} {n : Nat} {p : Pl} (h : Cnt (nms nm n) p) (hn : n ≤ 512) {i : Nat} {x0 x1 x2 x3 x4 : Int} (k : Acc nm n p i x0 x1 x2 x3 x4) :
    (0 ≤ x0 ∧ x0 ≤ 512) ∧ (0 ≤ x1 ∧ x1 ≤ 512) ∧ (0 ≤ x2 ∧ x2 ≤ 512) ∧ (0 ≤ x3 ∧ x3 ≤ 512) ∧ (0 ≤ x4 ∧ x4 ≤ 33553920) := by
  have bd : ∀ (V : ByteArray → Bool) l, 0 ≤ sl (fun s => ind (V s)) l ∧ sl (fun s => ind (V s)) l ≤ 1 * l.length := fun V l => sl_bound (c := 1) (by decide) (fun x => ind_bound _) l
  have b4 := fun l => sl_bound (V := p.sh) (c := 65535) (by decide) h.sh l
  have e := nms_len nm n
  have t0 := bd (fun s => (p.rq s).isSome) (nms nm n)
  have t1 := bd (fun s => (p.fu s).isSome) (nms nm n)
  have t2 := bd (fun s => p.cl s) (nms nm n)
  have t3 := bd (fun s => decide (0 < p.sh s)) (nms nm n)
  have t4 := b4 (nms nm n)
  have s0 := (bd (fun s => (p.rq s).isSome) ((nms nm n).drop i)).1
  have s1 := (bd (fun s => (p.fu s).isSome) ((nms nm n).drop i)).1
  have s2 := (bd (fun s => p.cl s) ((nms nm n).drop i)).1
  have s3 := (bd (fun s => decide (0 < p.sh s)) ((nms nm n).drop i)).1
  have s4 := (b4 ((nms nm n).drop i)).1
  rw [e] at t0 t1 t2 t3 t4
  rw [← h.nr] at t0
  rw [← h.nf] at t1
  rw [← h.nc] at t2
  rw [← h.ns] at t3
  rw [← h.tot] at t4
  obtain ⟨⟨u0, v0⟩, ⟨u1, v1⟩, ⟨u2, v2⟩, ⟨u3, v3⟩, u4, v4⟩ := k
  omega

theorem Acc.skip {nm : Nat → ByteArray} {n : Nat} {p : Pl} {i : Nat} {x0 x1 x2 x3 x4 : Int} (k : Acc nm n p i x0 x1 x2 x3 x4) (hi : i < n) (hl : lastB nm i n = false) : Acc nm n p (i + 1) x0 x1 x2 x3 x4 := by
  obtain ⟨u0, u1, u2, u3, u4⟩ := k
  rw [sl_drop hi, hl] at u0 u1 u2 u3 u4
  simp only [Bool.false_eq_true, if_false, Int.zero_add] at u0 u1 u2 u3 u4
  exact ⟨u0, u1, u2, u3, u4⟩

theorem Acc.none {nm : Nat → ByteArray} {n : Nat} {p : Pl} {i : Nat} {x0 x1 x2 x3 x4 : Int} (k : Acc nm n p i x0 x1 x2 x3 x4) (hi : i < n) (h : p.rq (nm i) = none ∧ p.fu (nm i) = none ∧ p.sh (nm i) = 0 ∧ p.cl (nm i) = false) : Acc nm n p (i + 1) x0 x1 x2 x3 x4 := by
  obtain ⟨u0, u1, u2, u3, u4⟩ := k
  rw [sl_drop hi] at u0 u1 u2 u3 u4
  obtain ⟨h0, h1, h2, h3⟩ := h
  have d : decide ((0:Int) < 0) = false := by decide
  simp only [h0, h1, h2, h3, Option.isSome_none, ind_f, d, ite_self, Int.zero_add] at u0 u1 u2 u3 u4
  exact ⟨u0, u1, u2, u3, u4⟩

theorem Acc.last {nm : Nat → ByteArray} {n : Nat} {p : Pl} {i : Nat} {x0 x1 x2 x3 x4 : Int} (k : Acc nm n p i x0 x1 x2 x3 x4) (hi : i < n) (hl : lastB nm i n = true) {r f h : Int} {c : Bool} (h0 : p.rq (nm i) = some r) (h1 : p.fu (nm i) = if f < 0 then Option.none else some f) (h2 : p.sh (nm i) = h) (h3 : p.cl (nm i) = c) (hh : 0 ≤ h) :
    Acc nm n p (i + 1) (x0 + 1) (if f < 0 then x1 else x1 + 1) (if c then x2 + 1 else x2) (if 0 < h then x3 + 1 else x3) (if 0 < h then x4 + h else x4) := by
  obtain ⟨u0, u1, u2, u3, u4⟩ := k
  rw [sl_drop hi, hl] at u0 u1 u2 u3 u4
  simp only [h0, h1, h2, h3, if_true, Option.isSome_some, ind_t] at u0 u1 u2 u3 u4
  refine ⟨⟨?_, ?_⟩, ⟨?_, ?_⟩, ⟨?_, ?_⟩, ⟨?_, ?_⟩, ?_, ?_⟩
  · omega
  · omega
  · by_cases hf : f < 0 <;> simp [hf, ind_t, ind_f] at u1 ⊢ <;> omega
  · by_cases hf : f < 0 <;> simp [hf] <;> omega
  · cases c <;> simp [ind_t, ind_f] at u2 ⊢ <;> omega
  · cases c <;> simp <;> omega
  · by_cases hf : 0 < h <;> simp [hf, ind_t, ind_f] at u3 ⊢ <;> omega
  · by_cases hf : 0 < h <;> simp [hf] <;> omega
  · by_cases hf : 0 < h <;> simp [hf] <;> omega
  · by_cases hf : 0 < h <;> simp [hf] <;> omega

theorem Acc.done {nm : Nat → ByteArray} {n : Nat} {p : Pl} {x0 x1 x2 x3 x4 : Int} (k : Acc nm n p n x0 x1 x2 x3 x4) : x0 = p.nr ∧ x1 = p.nf ∧ x2 = p.nc ∧ x3 = p.ns ∧ x4 = p.tot := by
  obtain ⟨⟨u0, _⟩, ⟨u1, _⟩, ⟨u2, _⟩, ⟨u3, _⟩, u4, _⟩ := k
  rw [sl_drop_end] at u0 u1 u2 u3 u4
  omega

theorem drop_t (p : Pl) (t : ByteArray) : (dropAll p t).rq t = none ∧ (dropAll p t).fu t = none ∧ (dropAll p t).sh t = 0 ∧ (dropAll p t).cl t = false :=
  ⟨by show updI p.rq t none t = none; simp [updI], by show updI p.fu t none t = none; simp [updI], by show updI p.sh t 0 t = 0; simp [updI], by show updI p.cl t false t = false; simp [updI]⟩
theorem drop_o (p : Pl) {t s : ByteArray} (h : s ≠ t) : (dropAll p t).rq s = p.rq s ∧ (dropAll p t).fu s = p.fu s ∧ (dropAll p t).sh s = p.sh s ∧ (dropAll p t).cl s = p.cl s :=
  ⟨by show updI p.rq t none s = _; simp [updI, h], by show updI p.fu t none s = _; simp [updI, h], by show updI p.sh t 0 s = _; simp [updI, h], by show updI p.cl t false s = _; simp [updI, h]⟩

end Go.Proofs.YbulkcakaDoor.CF
