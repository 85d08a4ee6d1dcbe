import Derived.Test.YbulkcakaDoorCFDrop
namespace Go.Proofs.YbulkcakaDoor.CF
open Go.RowKit Ext
set_option maxRecDepth 10000
set_option linter.unusedSimpArgs false
set_option linter.unusedVariables false

def ind (b : Bool) : Int := if b then 1 else 0
theorem ind_bound (b : Bool) : 0 ≤ ind b ∧ ind b ≤ 1 := by cases b <;> decide

theorem ind_t : ind true = 1 := rfl
theorem ind_f : ind false = 0 := rfl

open Classical in
/-- The sum of V over the names of a list, each once. -/
noncomputable def sl (V : ByteArray → Int) : List ByteArray → Int
  | [] => 0
  | x :: xs => (if x ∈ xs then 0 else V x) + sl V xs

theorem sl_congr {V V' : ByteArray → Int} : ∀ {l : List ByteArray}, (∀ x, x ∈ l → V x = V' x) → sl V l = sl V' l
  | [], _ => rfl
  | y :: ys, h => by
    unfold sl
    rw [sl_congr (l := ys) (fun x hx => h x (List.mem_cons_of_mem _ hx)), h y (List.mem_cons_self ..)]

theorem sl_turn {V V' : ByteArray → Int} {x : ByteArray} (h : ∀ y, y ≠ x → V' y = V y) : ∀ {l : List ByteArray}, x ∈ l → sl V' l = sl V l - V x + V' x
  | [], hx => by cases hx
  | y :: ys, hx => by
    unfold sl
    by_cases hm : x ∈ ys
    · rw [sl_turn h hm]
      by_cases hy : y ∈ ys
      · simp [hy]
      · have : y ≠ x := fun e => hy (e ▸ hm)
        simp only [hy, if_false, h y this]; omega
    · have hxy : x = y := by simpa [hm] using hx
      subst hxy
      rw [sl_congr (V := V') (V' := V) (l := ys) (fun z hz => h z (fun e => hm (e ▸ hz)))]
      simp only [hm, if_false]; omega

theorem sl_bound {V : ByteArray → Int} {c : Int} (hc : 0 ≤ c) (h : ∀ x, 0 ≤ V x ∧ V x ≤ c) : ∀ l : List ByteArray, 0 ≤ sl V l ∧ sl V l ≤ c * l.length
  | [] => by simp [sl]
  | y :: ys => by
    have ih := sl_bound hc h ys
    have hy := h y
    unfold sl
    have e : c * ((y :: ys).length : Int) = c * ys.length + c := by simp [Int.mul_add]
    rw [e]
    split <;> omega

/-- One name's value turned: at a name of the list, or at a name that counts nothing before and behind. -/
theorem sl_upd {α : Type} (f : ByteArray → α) (g : α → Int) (s : ByteArray) (a : α) (l : List ByteArray) (h : s ∈ l ∨ (g (f s) = 0 ∧ g a = 0)) :
    sl (fun x => g (updI f s a x)) l = sl (fun x => g (f x)) l - g (f s) + g a := by
  rcases h with h | ⟨h0, h1⟩
  · rw [sl_turn (V := fun x => g (f x)) (x := s) (fun y hy => by simp [updI, hy]) h]
    simp [updI]
  · rw [h0, h1]
    have : ∀ x, g (updI f s a x) = g (f x) := fun x => by
      unfold updI
      split
      · rename_i e; rw [e, h0, h1]
      · rfl
    rw [sl_congr (fun x _ => this x)]; omega

structure Cnt (l : List ByteArray) (p : Pl) : Prop where
  nr : (p.nr : Int) = sl (fun s => ind (p.rq s).isSome) l
  nf : (p.nf : Int) = sl (fun s => ind (p.fu s).isSome) l
  nc : (p.nc : Int) = sl (fun s => ind (p.cl s)) l
  ns : (p.ns : Int) = sl (fun s => ind (decide (0 < p.sh s))) l
  tot : p.tot = sl p.sh l
  sh : ∀ s, 0 ≤ p.sh s ∧ p.sh s ≤ 65535
  out : ∀ s, s ∉ l → p.rq s = none ∧ p.fu s = none ∧ p.sh s = 0 ∧ p.cl s = false

theorem Cnt.setReq {l : List ByteArray} {p : Pl} (h : Cnt l p) {s : ByteArray} (hs : s ∈ l) (r : Int) (nd : Nat) : Cnt l (setReq p s r nd) := by
  refine ⟨?_, h.nf, h.nc, h.ns, h.tot, h.sh, fun x hx => ⟨?_, (h.out x hx).2⟩⟩
  · have e := sl_upd p.rq (fun o => ind o.isSome) s (some r) l (.inl hs)
    show ((if (p.rq s).isSome then p.nr else p.nr + 1 : Nat) : Int) = sl (fun x => ind (updI p.rq s (some r) x).isSome) l
    rw [e, ← h.nr]
    cases (p.rq s).isSome <;> simp [ind_t, ind_f] <;> omega
  · show updI p.rq s (some r) x = none
    have : x ≠ s := fun e => hx (e ▸ hs)
    simp only [updI, this, if_false]
    exact (h.out x hx).1

theorem setFull_fu (p : Pl) (s : ByteArray) (r : Int) : (setFull p s r).fu = updI p.fu s (if r < 0 then none else some r) := by unfold setFull; split <;> rfl
theorem setFull_rest (p : Pl) (s : ByteArray) (r : Int) : (setFull p s r).rq = p.rq ∧ (setFull p s r).sh = p.sh ∧ (setFull p s r).cl = p.cl ∧ (setFull p s r).nr = p.nr ∧ (setFull p s r).nc = p.nc ∧ (setFull p s r).ns = p.ns ∧ (setFull p s r).tot = p.tot := by
  unfold setFull; split <;> exact ⟨rfl, rfl, rfl, rfl, rfl, rfl, rfl⟩
theorem setFull_nf (p : Pl) (s : ByteArray) (r : Int) : (setFull p s r).nf = if r < 0 then (if (p.fu s).isSome then p.nf - 1 else p.nf) else (if (p.fu s).isSome then p.nf else p.nf + 1) := by
  unfold setFull; split <;> rfl

theorem Cnt.setFull {l : List ByteArray} {p : Pl} (h : Cnt l p) {s : ByteArray} (hs : s ∈ l) (r : Int) : Cnt l (setFull p s r) := by
  obtain ⟨e1, e2, e3, e4, e5, e6, e7⟩ := setFull_rest p s r
  refine ⟨by rw [e4, e1]; exact h.nr, ?_, by rw [e5, e3]; exact h.nc, by rw [e6, e2]; exact h.ns, by rw [e7, e2]; exact h.tot, by rw [e2]; exact h.sh, fun x hx => ?_⟩
  · have e := sl_upd p.fu (fun o => ind o.isSome) s (if r < 0 then none else some r) l (.inl hs)
    have b := (sl_bound (V := fun x => ind (updI p.fu s (if r < 0 then none else some r) x).isSome) (c := 1) (by decide) (fun x => ind_bound _) l).1
    rw [setFull_fu, setFull_nf, e]
    rw [e] at b
    have h2 := h.nf
    by_cases hr : r < 0 <;> cases hi : (p.fu s).isSome <;> simp [hr, hi, ind_t, ind_f] at b ⊢ <;> omega
  · have : x ≠ s := fun e => hx (e ▸ hs)
    rw [setFull_fu, e1, e2, e3]
    simp only [updI, this, if_false]
    exact h.out x hx

theorem Cnt.setSh {l : List ByteArray} {p : Pl} (h : Cnt l p) {s : ByteArray} {a : Int} (h0 : 0 ≤ a) (h1 : a ≤ 65535) (hs : s ∈ l ∨ a = 0) : Cnt l (setSh p s a) := by
  have hb : s ∈ l ∨ (p.sh s = 0 ∧ a = 0) := by
    by_cases hm : s ∈ l
    · exact .inl hm
    · exact .inr ⟨(h.out s hm).2.2.1, hs.resolve_left hm⟩
  refine ⟨h.nr, h.nf, h.nc, ?_, ?_, fun x => ?_, fun x hx => ?_⟩
  · have e := sl_upd p.sh (fun o => ind (decide (0 < o))) s a l (hb.imp id (fun ⟨u, v⟩ => by rw [u, v]; decide))
    have b := (sl_bound (V := fun x => ind (decide (0 < updI p.sh s a x))) (c := 1) (by decide) (fun x => ind_bound _) l).1
    show ((if 0 < a then (if 0 < p.sh s then p.ns else p.ns + 1) else (if 0 < p.sh s then p.ns - 1 else p.ns) : Nat) : Int) = sl (fun x => ind (decide (0 < updI p.sh s a x))) l
    rw [e]
    rw [e] at b
    have h2 := h.ns
    by_cases ha : 0 < a <;> by_cases hp : 0 < p.sh s <;> simp [ha, hp, ind_t, ind_f] at b ⊢ <;> omega
  · show p.tot + (a - p.sh s) = sl (updI p.sh s a) l
    have e := sl_upd p.sh id s a l (hb.imp id (fun ⟨u, v⟩ => ⟨u, v⟩))
    have e' : sl (updI p.sh s a) l = sl p.sh l - p.sh s + a := e
    rw [e', ← h.tot]; omega
  · show 0 ≤ updI p.sh s a x ∧ updI p.sh s a x ≤ 65535
    unfold updI
    split
    · omega
    · exact h.sh x
  · refine ⟨(h.out x hx).1, (h.out x hx).2.1, ?_, (h.out x hx).2.2.2⟩
    show updI p.sh s a x = 0
    unfold updI
    split
    · rename_i e; subst e; rcases hb with hb | hb
      · exact absurd hb hx
      · exact hb.2
    · exact (h.out x hx).2.2.1

def claimP (p : Pl) (s : ByteArray) : Pl := { p with cl := updI p.cl s true, nc := if p.cl s then p.nc else p.nc + 1 }

theorem Cnt.claim {l : List ByteArray} {p : Pl} (h : Cnt l p) {s : ByteArray} (hs : s ∈ l) : Cnt l (claimP p s) := by
  refine ⟨h.nr, h.nf, ?_, h.ns, h.tot, h.sh, fun x hx => ⟨(h.out x hx).1, (h.out x hx).2.1, (h.out x hx).2.2.1, ?_⟩⟩
  · have e := sl_upd p.cl ind s true l (.inl hs)
    show ((if p.cl s then p.nc else p.nc + 1 : Nat) : Int) = sl (fun x => ind (updI p.cl s true x)) l
    rw [e, ← h.nc]
    cases p.cl s <;> simp [ind_t, ind_f] <;> omega
  · show updI p.cl s true x = false
    have : x ≠ s := fun e => hx (e ▸ hs)
    simp only [updI, this, if_false]
    exact (h.out x hx).2.2.2

theorem Cnt.dropRq {l : List ByteArray} {p : Pl} (h : Cnt l p) (s : ByteArray) : Cnt l (dropRq p s) := by
  refine ⟨?_, h.nf, h.nc, h.ns, h.tot, h.sh, fun x hx => ⟨?_, (h.out x hx).2⟩⟩
  · have hb : s ∈ l ∨ (ind (p.rq s).isSome = 0 ∧ ind (none : Option Int).isSome = 0) := by
      by_cases hm : s ∈ l
      · exact .inl hm
      · exact .inr ⟨by rw [(h.out s hm).1]; rfl, rfl⟩
    have e := sl_upd p.rq (fun o => ind o.isSome) s none l hb
    have b := (sl_bound (V := fun x => ind (updI p.rq s none x).isSome) (c := 1) (by decide) (fun x => ind_bound _) l).1
    show ((if (p.rq s).isSome then p.nr - 1 else p.nr : Nat) : Int) = sl (fun x => ind (updI p.rq s none x).isSome) l
    rw [e]
    rw [e] at b
    have h2 := h.nr
    cases hi : (p.rq s).isSome <;> simp [hi, ind_t, ind_f] at b ⊢ <;> omega
  · show updI p.rq s none x = none
    unfold updI
    split
    · rfl
    · exact (h.out x hx).1

theorem Cnt.dropFu {l : List ByteArray} {p : Pl} (h : Cnt l p) (s : ByteArray) : Cnt l (dropFu p s) := by
  refine ⟨h.nr, ?_, h.nc, h.ns, h.tot, h.sh, fun x hx => ⟨(h.out x hx).1, ?_, (h.out x hx).2.2⟩⟩
  · have hb : s ∈ l ∨ (ind (p.fu s).isSome = 0 ∧ ind (none : Option Int).isSome = 0) := by
      by_cases hm : s ∈ l
      · exact .inl hm
      · exact .inr ⟨by rw [(h.out s hm).2.1]; rfl, rfl⟩
    have e := sl_upd p.fu (fun o => ind o.isSome) s none l hb
    have b := (sl_bound (V := fun x => ind (updI p.fu s none x).isSome) (c := 1) (by decide) (fun x => ind_bound _) l).1
    show ((if (p.fu s).isSome then p.nf - 1 else p.nf : Nat) : Int) = sl (fun x => ind (updI p.fu s none x).isSome) l
    rw [e]
    rw [e] at b
    have h2 := h.nf
    cases hi : (p.fu s).isSome <;> simp [hi, ind_t, ind_f] at b ⊢ <;> omega
  · show updI p.fu s none x = none
    unfold updI
    split
    · rfl
    · exact (h.out x hx).2.1

theorem Cnt.dropCl {l : List ByteArray} {p : Pl} (h : Cnt l p) (s : ByteArray) : Cnt l (dropCl p s) := by
  refine ⟨h.nr, h.nf, ?_, h.ns, h.tot, h.sh, fun x hx => ⟨(h.out x hx).1, (h.out x hx).2.1, (h.out x hx).2.2.1, ?_⟩⟩
  · have hb : s ∈ l ∨ (ind (p.cl s) = 0 ∧ ind false = 0) := by
      by_cases hm : s ∈ l
      · exact .inl hm
      · exact .inr ⟨by rw [(h.out s hm).2.2.2]; rfl, rfl⟩
    have e := sl_upd p.cl ind s false l hb
    have b := (sl_bound (V := fun x => ind (updI p.cl s false x)) (c := 1) (by decide) (fun x => ind_bound _) l).1
    show ((if p.cl s then p.nc - 1 else p.nc : Nat) : Int) = sl (fun x => ind (updI p.cl s false x)) l
    rw [e]
    rw [e] at b
    have h2 := h.nc
    cases hi : p.cl s <;> simp [hi, ind_t, ind_f] at b ⊢ <;> omega
  · show updI p.cl s false x = false
    unfold updI
    split
    · rfl
    · exact (h.out x hx).2.2.2

theorem Cnt.drop {l : List ByteArray} {p : Pl} (h : Cnt l p) (s : ByteArray) : Cnt l (dropAll p s) :=
  (((h.dropRq s).dropFu s).dropCl s).setSh (by decide) (by decide) (.inr rfl)

theorem Cnt.zero (l : List ByteArray) : Cnt l pl0 := by
  have z : ∀ l, sl (fun _ => 0) l = 0 := fun l => by
    induction l with
    | nil => rfl
    | cons y ys ih => unfold sl; rw [ih]; simp
  refine ⟨?_, ?_, ?_, ?_, ?_, fun s => by show (0:Int) ≤ 0 ∧ (0:Int) ≤ 65535; decide, fun s _ => ⟨rfl, rfl, rfl, rfl⟩⟩ <;> exact (z l).symm

theorem Cnt.tot_bound {l : List ByteArray} {p : Pl} (h : Cnt l p) (hl : l.length ≤ 512) : -1000000000000 ≤ p.tot ∧ p.tot ≤ 1000000000000 := by
  have := sl_bound (V := p.sh) (c := 65535) (by decide) h.sh l
  rw [← h.tot] at this
  omega

/-- Does a node of the first k of that name carry a claim? -/
def anyB (nm : Nat → ByteArray) (cv : Nat → Bool) (s : ByteArray) : Nat → Bool
  | 0 => false
  | k + 1 => (decide (nm k = s) && cv k) || anyB nm cv s k

/-- Is none of the first k, behind i, of i's name? -/
def lastB (nm : Nat → ByteArray) (i : Nat) : Nat → Bool
  | 0 => true
  | k + 1 => !(decide (nm k = nm i) && decide (i < k)) && lastB nm i k

theorem lastB_true {nm : Nat → ByteArray} {i : Nat} : ∀ {k : Nat}, lastB nm i k = true ↔ ∀ j, i < j → j < k → nm j ≠ nm i
  | 0 => by simp [lastB]
  | k + 1 => by
    have ih := lastB_true (nm := nm) (i := i) (k := k)
    constructor
    · intro h j h1 h2
      simp only [lastB, Bool.and_eq_true, Bool.not_eq_true', Bool.and_eq_false_iff, decide_eq_false_iff_not] at h
      by_cases hj : j = k
      · subst hj; rcases h.1 with h | h
        · exact h
        · exact absurd h1 h
      · exact ih.1 h.2 j h1 (by omega)
    · intro h
      simp only [lastB, Bool.and_eq_true, Bool.not_eq_true', Bool.and_eq_false_iff, decide_eq_false_iff_not]
      refine ⟨?_, ih.2 (fun j h1 h2 => h j h1 (by omega))⟩
      by_cases hi : i < k
      · exact .inl (h k hi (by omega))
      · exact .inr hi

structure Val (nm : Nat → ByteArray) (rqv fuv shv : Nat → Int) (cv : Nat → Bool) (k : Nat) (p : Pl) : Prop where
  at_ : ∀ i, i < k → lastB nm i k = true → p.rq (nm i) = some (rqv i) ∧ p.fu (nm i) = (if fuv i < 0 then none else some (fuv i)) ∧ p.sh (nm i) = shv i
  cl : ∀ s, p.cl s = anyB nm cv s k

theorem Val.zero (nm : Nat → ByteArray) (rqv fuv shv : Nat → Int) (cv : Nat → Bool) : Val nm rqv fuv shv cv 0 pl0 := ⟨fun i hi => absurd hi (by omega), fun _ => rfl⟩

def stepP (nm : Nat → ByteArray) (rqv fuv shv : Nat → Int) (cv : Nat → Bool) (k nd : Nat) (p : Pl) : Pl :=
  let p3 := setSh (setFull (setReq p (nm k) (rqv k) nd) (nm k) (fuv k)) (nm k) (shv k)
  if cv k then claimP p3 (nm k) else p3

theorem stepP_parts (nm : Nat → ByteArray) (rqv fuv shv : Nat → Int) (cv : Nat → Bool) (k nd : Nat) (p : Pl) :
    (stepP nm rqv fuv shv cv k nd p).rq = updI p.rq (nm k) (some (rqv k)) ∧ (stepP nm rqv fuv shv cv k nd p).fu = updI p.fu (nm k) (if fuv k < 0 then none else some (fuv k)) ∧ (stepP nm rqv fuv shv cv k nd p).sh = updI p.sh (nm k) (shv k) ∧
    (stepP nm rqv fuv shv cv k nd p).cl = if cv k then updI p.cl (nm k) true else p.cl := by
  obtain ⟨e1, e2, e3, _⟩ := setFull_rest (setReq p (nm k) (rqv k) nd) (nm k) (fuv k)
  have e4 := setFull_fu (setReq p (nm k) (rqv k) nd) (nm k) (fuv k)
  unfold stepP
  cases cv k
  · exact ⟨e1, e4, by show updI _ _ _ = _; rw [e2]; rfl, e3⟩
  · exact ⟨e1, e4, by show updI _ _ _ = _; rw [e2]; rfl, by show updI (setFull _ _ _).cl _ _ = _; rw [e3]; rfl⟩

theorem Val.step {nm : Nat → ByteArray} {rqv fuv shv : Nat → Int} {cv : Nat → Bool} {k : Nat} {p : Pl} (h : Val nm rqv fuv shv cv k p) (nd : Nat) : Val nm rqv fuv shv cv (k + 1) (stepP nm rqv fuv shv cv k nd p) := by
  obtain ⟨e1, e2, e3, e4⟩ := stepP_parts nm rqv fuv shv cv k nd p
  constructor
  · intro i hi hl
    rw [e1, e2, e3]
    have hl' := lastB_true.1 hl
    by_cases hk : i = k
    · subst hk; simp [updI]
    · have hne : nm i ≠ nm k := fun e => hl' k (by omega) (by omega) e.symm
      simp only [updI, hne, if_false]
      exact h.at_ i (by omega) (lastB_true.2 fun j h1 h2 => hl' j h1 (by omega))
  · intro s
    rw [e4]
    unfold anyB
    rw [← h.cl s]
    cases hc : cv k
    · simp
    · simp only [if_true, updI]
      by_cases hs : s = nm k
      · simp [hs]
      · have hs' : ¬ nm k = s := fun e => hs e.symm
        simp [hs, hs']

theorem Cnt.step {l : List ByteArray} {nm : Nat → ByteArray} {rqv fuv shv : Nat → Int} {cv : Nat → Bool} {k : Nat} {p : Pl} (h : Cnt l p) (nd : Nat) (hm : nm k ∈ l) (h0 : 0 ≤ shv k) (h1 : shv k ≤ 65535) : Cnt l (stepP nm rqv fuv shv cv k nd p) := by
  have := ((h.setReq hm (rqv k) nd).setFull hm (fuv k)).setSh h0 h1 (.inl hm)
  unfold stepP
  cases cv k
  · exact this
  · exact this.claim hm

/-- The names of the first n nodes. -/
def nms (nm : Nat → ByteArray) (n : Nat) : List ByteArray := (List.range n).map nm
theorem nms_mem {nm : Nat → ByteArray} {n : Nat} {s : ByteArray} : s ∈ nms nm n ↔ ∃ i, i < n ∧ nm i = s := by simp [nms]
theorem nms_len (nm : Nat → ByteArray) (n : Nat) : (nms nm n).length = n := by simp [nms]

open Classical in
theorem sl_drop {V : ByteArray → Int} {nm : Nat → ByteArray} {n i : Nat} (hi : i < n) :
    sl V ((nms nm n).drop i) = (if lastB nm i n then V (nm i) else 0) + sl V ((nms nm n).drop (i + 1)) := by
  have hlen : i < (nms nm n).length := by rw [nms_len]; exact hi
  rw [List.drop_eq_getElem_cons hlen]
  have e : (nms nm n)[i] = nm i := by simp [nms]
  rw [e]
  rw [show ∀ (x : ByteArray) xs, sl V (x :: xs) = (if x ∈ xs then 0 else V x) + sl V xs from fun _ _ => rfl]
  have : (nm i ∈ (nms nm n).drop (i + 1)) ↔ ¬ lastB nm i n = true := by
    rw [lastB_true]
    constructor
    · intro h h'
      obtain ⟨j, hj, ej⟩ := List.mem_iff_getElem.1 h
      rw [List.getElem_drop] at ej
      rw [List.length_drop, nms_len] at hj
      refine h' (i + 1 + j) (by omega) (by omega) ?_
      rw [← ej]; simp [nms]
    · intro h
      simp only [Classical.not_forall] at h
      obtain ⟨j, h1, h2, h3⟩ := h
      refine List.mem_iff_getElem.2 ⟨j - (i + 1), by rw [List.length_drop, nms_len]; omega, ?_⟩
      rw [List.getElem_drop]
      simp only [nms, List.getElem_map, List.getElem_range]
      rw [show i + 1 + (j - (i + 1)) = j from by omega]
      exact Classical.byContradiction h3
  by_cases hl : lastB nm i n = true
  · simp [hl, mt this.1 (fun h => h hl)]
  · simp [hl, this.2 hl]

theorem sl_drop_end (V : ByteArray → Int) (nm : Nat → ByteArray) (n : Nat) : sl V ((nms nm n).drop n) = 0 := by
  rw [List.drop_eq_nil_of_le (by rw [nms_len]; exact Nat.le_refl _)]; rfl
end Go.Proofs.YbulkcakaDoor.CF
