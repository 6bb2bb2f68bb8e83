import Derived.Test.Qxb6601455aMem
import Derived.Maps.OwnSet
import Derived.Maps.AppendAt
import Derived.OwnWalk
namespace Go.Proofs.Qxb6601455a
open Go.ChangeShapes Go.WideShapes Go.ChangeAt Go.RowKit Go.Maps
open Go.Sort (swp ltInt PermIn SortedIn swo_ltInt)
set_option linter.unusedVariables false

/-- The locks: a row of pairs. -/
def Row2 (w : World) (g : Nat) (n : Nat) (P K : Array Int) : Prop :=
  ∃ cur : Array Value, w.heap[g]? = some (.cells cur 35 (0, 0)) ∧ ∀ t, t < n → cur[t * 2]? = some (.int .i32 P[t]!) ∧ cur[t * 2 + 1]? = some (.int .i32 K[t]!)
theorem Row2.cells {w : World} {g n : Nat} {P K : Array Int} (h : Row2 w g n P K) (t : Nat) (ht : t < n) : w.cell? ⟨g, t * 2, none⟩ = some (.int .i32 P[t]!) ∧ w.cell? ⟨g, t * 2 + 1, none⟩ = some (.int .i32 K[t]!) := by
  obtain ⟨cur, h1, h2⟩ := h
  rw [cell_of_row w g _ cur 35 (0, 0) h1, cell_of_row w g _ cur 35 (0, 0) h1]
  exact h2 t ht
theorem Row2.lt {w : World} {g n : Nat} {P K : Array Int} (h : Row2 w g n P K) : g < w.heap.size := by
  obtain ⟨cur, h1, h2⟩ := h
  exact (Array.getElem?_eq_some_iff.1 h1).1
theorem Row2.below {w w' : World} {B g n : Nat} {P K : Array Int} (h : Row2 w g n P K) (hb : Below B w w') (hg : g < B) : Row2 w' g n P K := by
  obtain ⟨cur, h1, h2⟩ := h
  exact ⟨cur, (hb.block g hg).trans h1, h2⟩

theorem law3 : Keyed Try.prog 3 := int_keyed Try.underlying3
theorem zero21 (w : World) : (zeroValue 21).run Try.prog w = .ok (.int .i32 0) w := by kernel_rfl

/-- The map of holders, by what it answers at the groups. -/
def HoldMap (w : World) (b n : Nat) (f : Int → Option Int) : Prop :=
  ∃ D : DataW Unit, w.ownsMap Try.prog 3 (plainElem Try.prog 21) b n D ∧ IsMap D ∧
    ∀ g : Int, g ≠ -1 → Maps.has D (.int .i64 g) = (f g).isSome ∧ ∀ c, f g = some c → D.atKey (.int .i64 g) (.lit (.int .i32 0)) = .lit (.int .i32 c)
theorem HoldMap.of_block {w w' : World} {b n : Nat} {f : Int → Option Int} (h : HoldMap w b n f) (e : w'.heap[b]? = w.heap[b]?) : HoldMap w' b n f := by
  obtain ⟨D, ⟨es, clock, h1, h2⟩, h3⟩ := h
  exact ⟨D, ⟨es, clock, e.trans h1, h2⟩, h3⟩

/-- The members among the first k locks. -/
def memb (P K : Array Int) (pid : Int) : Nat → List Int
  | 0 => [pid]
  | k + 1 => memb P K pid k ++ (if K[k]! = -1 ∧ P[k]! ≠ pid then [P[k]!] else [])
theorem memb_len (P K : Array Int) (pid : Int) (k : Nat) : 1 ≤ (memb P K pid k).length ∧ (memb P K pid k).length ≤ k + 1 := by
  induction k with
  | zero => simp [memb]
  | succ k ih => simp only [memb, List.length_append]; split <;> simp <;> omega

theorem HoldMap.start (w : World) (P K : Array Int) : HoldMap (w.alloc (.map #[] 0)) w.heap.size 0 (fun g => lastH P K g 0) :=
  ⟨.map [], World.ownsMap_made _ _ _ _, isMap_empty, fun g _ => ⟨rfl, fun c hc => by cases hc⟩⟩

theorem HoldMap.put {w' : World} {b n : Nat} {f : Int → Option Int} {D : DataW Unit} {z y : Int} (hm : IsMap D)
    (hv : ∀ g : Int, g ≠ -1 → Maps.has D (.int .i64 g) = (f g).isSome ∧ ∀ c, f g = some c → D.atKey (.int .i64 g) (.lit (.int .i32 0)) = .lit (.int .i32 c))
    (h : w'.ownsMap Try.prog 3 (plainElem Try.prog 21) b n (D.put (.int .i64 z) (.lit (.int .i32 y)))) : HoldMap w' b n (fun g => if z = g then some y else f g) := by
  refine ⟨_, h, hm.put _ _, fun g hg => ?_⟩
  by_cases e : z = g
  · subst e
    simp only [if_pos]
    refine ⟨has_put_same hm (by trivial) _, fun c hc => ?_⟩
    rw [atKey_put_same hm (by trivial)]
    cases hc; rfl
  · have hne : (Lit.int .i64 g) ≠ (Lit.int .i64 z) := fun h => e (by injection h with _ h; exact h.symm)
    simp only [if_neg e]
    rw [has_put_other hne, atKey_put_other hne]
    exact hv g hg
theorem HoldMap.congr {w : World} {b n n' : Nat} {f f' : Int → Option Int} (h : HoldMap w b n f) (hn : n ≤ n') (he : ∀ g, g ≠ -1 → f g = f' g) : HoldMap w b n' f' := by
  obtain ⟨D, h1, h2, h3⟩ := h
  exact ⟨D, h1.mono hn, h2, fun g hg => by rw [← he g hg]; exact h3 g hg⟩

/-- The five cells of a sharePlan. -/
def spCells (m s : Int) (h r t : Value) : Array Value := #[.int .i64 m, .int .i64 s, h, r, t]

/-- What stands ahead of a round over the locks. -/
structure St1 (w : World) (P K : Array Int) (pid : Int) (k : Nat) (v5 : Value) (wr : World) : Prop where
  own : wr.ownsRow (w.heap.size + 1) 21 1 v5 (memb P K pid k).length ((memb P K pid k).map (Value.int .i32))
  ne : v5.ownBlock ≠ some (w.heap.size + 2)
  hold : HoldMap wr (w.heap.size + 2) k (fun g => lastH P K g k)
  res : wr.heap[w.heap.size]? = some (.cells (spCells 0 0 (.slice none 0 0) (.slice none 0 0) (.slice none 0 0)) 37 (0, 0))
  bel : Below w.heap.size w wr
  sz : w.heap.size + 3 ≤ wr.heap.size

theorem St1.start (w : World) (P K : Array Int) (pid : Int) : St1 w P K pid 0 (.slice (some ⟨w.heap.size + 1, 0, none⟩) 1 1)
    (((w.alloc (Obj.cells #[.int .i64 0, .int .i64 0, .slice none 0 0, .slice none 0 0, .slice none 0 0] 37)).alloc (Obj.cells #[.int .i32 pid] 21)).alloc (Obj.map #[] 0)) := by
  refine ⟨?_, by simp [Value.ownBlock], ?_, ?_, ?_, by simp⟩
  · refine ⟨rfl, .inr ⟨w.heap.size + 1, 1, #[.int .i32 pid], rfl, Nat.le_refl _, ?_, Nat.le_refl _, by decide, rfl, rfl⟩⟩
    rw [Below.heap_alloc _ _ _ (by simp)]
    have := heap_alloc_new (w.alloc (Obj.cells #[.int .i64 0, .int .i64 0, .slice none 0 0, .slice none 0 0, .slice none 0 0] 37)) (Obj.cells #[.int .i32 pid] 21)
    simpa using this
  · have := HoldMap.start ((w.alloc (Obj.cells #[.int .i64 0, .int .i64 0, .slice none 0 0, .slice none 0 0, .slice none 0 0] 37)).alloc (Obj.cells #[.int .i32 pid] 21)) P K
    simpa using this
  · rw [Below.heap_alloc _ _ _ (by simp; omega), Below.heap_alloc _ _ _ (by simp), heap_alloc_new]; rfl
  · exact (((Below.refl _ _).alloc (Nat.le_refl _) _).alloc (by simp) _).alloc (by simp; omega) _

theorem owns_alloc {w : World} {base : Nat} {e : TypeId} {size : Nat} {v : Value} {n : Nat} {xs : List Value} (h : w.ownsRow base e size v n xs) (o : Obj) : (w.alloc o).ownsRow base e size v n xs := h.alloc _
theorem St1.alloc {w : World} {P K : Array Int} {pid : Int} {k : Nat} {v5 : Value} {wr : World} (h : St1 w P K pid k v5 wr) (o : Obj) : St1 w P K pid k v5 (wr.alloc o) :=
  ⟨h.own.alloc _, h.ne, h.hold.of_block (Below.heap_alloc _ _ _ (by have := h.sz; omega)), (Below.heap_alloc _ _ _ (by have := h.sz; omega)).trans h.res, h.bel.alloc h.bel.size _, by simp; have := h.sz; omega⟩

theorem owns_keep {w w' : World} {base : Nat} {e : TypeId} {size : Nat} {v : Value} {n : Nat} {xs : List Value} {r : Option Nat} (h : w.ownsRow base e size v n xs) (hg : w.grownBy w' r) (hne : v.ownBlock ≠ r ∨ v.ownBlock = none) : w'.ownsRow base e size v n xs := by
  refine ⟨h.1, ?_⟩
  rcases h.2 with h2 | ⟨g, cap, cur, h1, h2, h3, h4⟩
  · exact .inl h2
  · refine .inr ⟨g, cap, cur, h1, h2, ?_, h4⟩
    rw [hg.block g (Array.getElem?_eq_some_iff.1 h3).1 (fun e => ?_)]
    · exact h3
    · subst h1
      rcases hne with hne | hne
      · exact hne (by simp [Value.ownBlock]; exact e)
      · simp [Value.ownBlock] at hne
theorem owns_base {w : World} {base : Nat} {e : TypeId} {size : Nat} {v : Value} {n : Nat} {xs : List Value} (h : w.ownsRow base e size v n xs) (g : Nat) (hv : v.ownBlock = some g) : base ≤ g ∧ g < w.heap.size := by
  rcases h.2 with ⟨h2, _⟩ | ⟨g', cap, cur, h1, h2, h3, h4⟩
  · subst h2; simp [Value.ownBlock] at hv
  · subst h1
    simp [Value.ownBlock] at hv
    subst hv
    exact ⟨h2, (Array.getElem?_eq_some_iff.1 h3).1⟩

theorem St1.map {w : World} {P K : Array Int} {pid : Int} {k : Nat} {v5 : Value} {wa w1 : World} {y z : Int} {D : DataW Unit} (h : St1 w P K pid k v5 wa) (hz : z ≠ -1)
    (hm : memb P K pid (k + 1) = memb P K pid k ++ (if z = -1 ∧ y ≠ pid then [y] else [])) (hl : ∀ g, lastH P K g (k + 1) = if z = g then some y else lastH P K g k)
    (hism : IsMap D) (hv : ∀ g : Int, g ≠ -1 → Maps.has D (.int .i64 g) = (lastH P K g k).isSome ∧ ∀ c, lastH P K g k = some c → D.atKey (.int .i64 g) (.lit (.int .i32 0)) = .lit (.int .i32 c))
    (ho : w1.ownsMap Try.prog 3 (plainElem Try.prog 21) (w.heap.size + 2) (k + 1) (D.put (.int .i64 z) (.lit (.int .i32 y)))) (hg : wa.grownBy w1 (some (w.heap.size + 2))) : St1 w P K pid (k + 1) v5 w1 := by
  have e : memb P K pid (k + 1) = memb P K pid k := by rw [hm, if_neg (fun e => hz e.1)]; simp
  have hsz := h.sz
  refine ⟨?_, h.ne, (HoldMap.put hism hv ho).congr (Nat.le_refl _) (fun g _ => (hl g).symm), ?_, ?_, ?_⟩
  · rw [e]; exact owns_keep h.own hg (.inl h.ne)
  · rw [hg.block _ (by omega) (by simp)]; exact h.res
  · exact h.bel.grown hg h.bel.size (fun k hk => by cases hk; omega)
  · have := hg.size; omega

theorem St1.skip {w : World} {P K : Array Int} {pid : Int} {k : Nat} {v5 : Value} {wa : World} {y z : Int} (h : St1 w P K pid k v5 wa) (hz : z = -1) (hy : y = pid)
    (hm : memb P K pid (k + 1) = memb P K pid k ++ (if z = -1 ∧ y ≠ pid then [y] else [])) (hl : ∀ g, lastH P K g (k + 1) = if z = g then some y else lastH P K g k) : St1 w P K pid (k + 1) v5 wa := by
  have e : memb P K pid (k + 1) = memb P K pid k := by rw [hm, if_neg (fun e => e.2 hy)]; simp
  refine ⟨by rw [e]; exact h.own, h.ne, h.hold.congr (Nat.le_succ _) (fun g hg => ?_), h.res, h.bel, h.sz⟩
  show lastH P K g k = lastH P K g (k + 1)
  rw [hl, if_neg (fun e => hg (by omega))]

theorem St1.app {w : World} {P K : Array Int} {pid : Int} {k : Nat} {v5 v6 : Value} {wa w1 : World} {y z : Int} (h : St1 w P K pid k v5 wa) (hz : z = -1) (hy : y ≠ pid)
    (hm : memb P K pid (k + 1) = memb P K pid k ++ (if z = -1 ∧ y ≠ pid then [y] else [])) (hl : ∀ g, lastH P K g (k + 1) = if z = g then some y else lastH P K g k)
    (ho : w1.ownsRow (w.heap.size + 1) 21 1 v6 ((memb P K pid k).length + 1) ((memb P K pid k).map (Value.int .i32) ++ [.int .i32 y])) (hg : wa.grownBy w1 v5.ownBlock)
    (hat : v6.ownBlock = v5.ownBlock ∨ v6.ownBlock = some wa.heap.size) : St1 w P K pid (k + 1) v6 w1 := by
  have e : memb P K pid (k + 1) = memb P K pid k ++ [y] := by rw [hm, if_pos ⟨hz, hy⟩]
  have hsz := h.sz
  refine ⟨?_, ?_, (h.hold.of_block (hg.block _ (by omega) (fun e => h.ne e.symm))).congr (Nat.le_succ _) (fun g hg => ?_), ?_, ?_, ?_⟩
  · rw [e]; simpa using ho
  · rcases hat with h1 | h1
    · rw [h1]; exact h.ne
    · rw [h1]; simp; omega
  · show lastH P K g k = lastH P K g (k + 1)
    rw [hl, if_neg (fun e => hg (by omega))]
  · rw [hg.block _ (by omega) (fun e => ?_)]
    · exact h.res
    · have := (owns_base h.own _ e.symm).1; omega
  · exact h.bel.grown hg h.bel.size (fun k hk => by have := (owns_base h.own _ hk).1; omega)
  · have := hg.size; omega

/-- The groups that nobody holds, and those that pid holds, among the first g. -/
def freeL (P K : Array Int) (n : Nat) : Nat → List Int
  | 0 => []
  | g + 1 => freeL P K n g ++ (if lastH P K g n = none then [(g : Int)] else [])
def heldL (P K : Array Int) (n : Nat) (pid : Int) : Nat → List Int
  | 0 => []
  | g + 1 => heldL P K n pid g ++ (if lastH P K g n = some pid then [(g : Int)] else [])
def rankOf (l : List Int) (pid : Int) : Nat := (l.filter (fun x => decide (x < pid))).length
def shareOf (l : List Int) (pid : Int) : Int := 64 / (l.length : Int) + if (rankOf l pid : Int) < 64 % (l.length : Int) then 1 else 0

theorem sorted_prefix (x : Int) : ∀ l : List Int, l.Pairwise (· ≤ ·) → ∀ t, t < l.length → ((l.getD t 0 < x) ↔ t < rankOf l x)
  | [], _, t, ht => by simp at ht
  | a :: l, hp, t, ht => by
    rw [List.pairwise_cons] at hp
    by_cases hax : a < x
    · have e : rankOf (a :: l) x = rankOf l x + 1 := by simp [rankOf, hax]
      rw [e]
      cases t with
      | zero => simp [hax]
      | succ t =>
        have := sorted_prefix x l hp.2 t (by simpa using ht)
        simpa using this
    · have e : rankOf (a :: l) x = 0 := by
        simp [rankOf, hax]
        intro b hb; have := hp.1 b hb; omega
      rw [e]
      cases t with
      | zero => simpa using hax
      | succ t =>
        have ht' : t < l.length := by simpa using ht
        have hm : l.getD t 0 ∈ l := by rw [List.getD_eq_getElem?_getD, List.getElem?_eq_getElem ht']; simp
        have := hp.1 _ hm
        simp only [List.getD_cons_succ]
        constructor
        · intro h; omega
        · intro h; omega

theorem rank_found (l : List Int) (d : Array Int) (x : Int) (hx : x ∈ l) (hp : PermIn 0 l.length l.toArray d) (hs : SortedIn ltInt 0 l.length d) :
    rankOf l x < l.length ∧ d[rankOf l x]! = x ∧ ∀ t, t < rankOf l x → d[t]! ≠ x := by
  have hsz : d.size = l.length := by have := hp.1; simpa using this
  have hperm : d.toList.Perm l := by
    have := hp.2.2
    rw [show d.extract 0 l.length = d from by rw [← hsz]; simp, show l.toArray.extract 0 l.length = l.toArray from by simp] at this
    simpa using this
  have hlen : d.toList.length = l.length := by simp [hsz]
  have hr : rankOf d.toList x = rankOf l x := by
    unfold rankOf; exact (hperm.filter _).length_eq
  have hget : ∀ t, t < l.length → d.toList.getD t 0 = d[t]! := by
    intro t ht
    rw [getElem!_pos d t (by omega), List.getD_eq_getElem?_getD, List.getElem?_eq_getElem (by omega)]; simp
  have hpair : d.toList.Pairwise (· ≤ ·) := by
    rw [List.pairwise_iff_getElem]
    intro i j hi hj hij
    have := hs i j (Nat.zero_le _) hij (by omega)
    rw [getElem!_pos d j (by simpa using hj), getElem!_pos d i (by simpa using hi)] at this
    simp only [Array.getElem_toList]
    simp [ltInt] at this
    exact this
  have hpre := sorted_prefix x d.toList hpair
  rw [hr] at hpre
  obtain ⟨j, hj, hjx⟩ := List.getElem_of_mem (hperm.mem_iff.2 hx)
  have hjl : j < l.length := by omega
  have hdj : d.toList.getD j 0 = x := by rw [List.getD_eq_getElem?_getD, List.getElem?_eq_getElem hj]; simpa using hjx
  have hj2 : rankOf l x ≤ j := by
    rcases Nat.lt_or_ge j (rankOf l x) with h | h
    · have := (hpre j (by omega)).2 h; omega
    · exact h
  refine ⟨by omega, ?_, fun t ht => ?_⟩
  · have h1 : ¬ d.toList.getD (rankOf l x) 0 < x := fun h => by have := (hpre _ (by omega)).1 h; omega
    rw [hget _ (by omega)] at h1
    rcases Nat.lt_or_ge (rankOf l x) j with h | h
    · have h2 := hs (rankOf l x) j (Nat.zero_le _) h (by omega)
      rw [hget j hjl] at hdj
      simp [ltInt] at h2
      omega
    · rw [show rankOf l x = j by omega, ← hget j hjl]; exact hdj
  · rw [← hget t (by omega)]
    have := (hpre t (by omega)).2 ht
    omega

theorem memb_pid (P K : Array Int) (pid : Int) (k : Nat) : pid ∈ memb P K pid k := by
  induction k with
  | zero => simp [memb]
  | succ k ih => simp only [memb, List.mem_append]; exact .inl ih
theorem St1.row {w : World} {P K : Array Int} {pid : Int} {k : Nat} {v5 : Value} {wr : World} (h : St1 w P K pid k v5 wr) :
    ∃ g cap, v5 = .slice (some ⟨g, 0, none⟩) (memb P K pid k).length cap ∧ RowA wr g (memb P K pid k).toArray ∧ w.heap.size + 1 ≤ g ∧ g ≠ w.heap.size + 2 := by
  have hl := (memb_len P K pid k).1
  have hne := h.ne
  rcases h.own.2 with ⟨_, h2⟩ | ⟨g, cap, cur, h1, h2, h3, h4, h5, h6, h7⟩
  · omega
  · refine ⟨g, cap, h1, ⟨cur, h3, fun t ht => ?_⟩, h2, ?_⟩
    · have ht' : t < (memb P K pid k).length := by simpa using ht
      have e1 : cur[t]? = (cur.toList.take ((memb P K pid k).length * 1))[t]? := by rw [List.getElem?_take, if_pos (by omega)]; simp
      rw [e1, h7, List.getElem?_map, List.getElem?_eq_getElem ht']
      simp [ht']
    · subst h1; simpa [Value.ownBlock] using hne

/-- What stands ahead of a round over the groups. -/
structure St2 (w : World) (P K : Array Int) (pid : Int) (n Bp : Nat) (m share : Int) (g : Nat) (vF vH : Value) (wr : World) : Prop where
  ownF : wr.ownsRow (Bp + 1) 3 1 vF (freeL P K n g).length ((freeL P K n g).map (Value.int .i64))
  ownH : wr.ownsRow (Bp + 1) 3 1 vH (heldL P K n pid g).length ((heldL P K n pid g).map (Value.int .i64))
  ne : vF.ownBlock = none ∨ vH.ownBlock = none ∨ vF.ownBlock ≠ vH.ownBlock
  hold : HoldMap wr (w.heap.size + 2) n (fun g => lastH P K g n)
  res : wr.heap[w.heap.size]? = some (.cells (spCells 0 0 (.slice none 0 0) (.slice none 0 0) (.slice none 0 0)) 37 (0, 0))
  p : wr.heap[Bp]? = some (.cells (spCells m share vH (.slice none 0 0) (.slice none 0 0)) 37 (0, 0))
  bel : Below w.heap.size w wr
  sz : w.heap.size + 3 ≤ Bp ∧ Bp < wr.heap.size

theorem St2.start {w : World} {P K : Array Int} {pid : Int} {n : Nat} {v5 : Value} {wr w2 : World} {g5 : Nat} (h : St1 w P K pid n v5 wr) (hg5 : w.heap.size + 1 ≤ g5) (hg : g5 ≠ w.heap.size + 2) (hk : wr.grownBy w2 (some g5)) (m s : Int) :
    St2 w P K pid n w2.heap.size m s 0 (.slice none 0 0) (.slice none 0 0) (w2.alloc (.cells #[.int .i64 m, .int .i64 s, .slice none 0 0, .slice none 0 0, .slice none 0 0] 37)) := by
  have hsz := h.sz
  have hsz2 := hk.size
  refine ⟨⟨rfl, .inl ⟨rfl, rfl⟩⟩, ⟨rfl, .inl ⟨rfl, rfl⟩⟩, .inl rfl, h.hold.of_block ?_, ?_, heap_alloc_new _ _, ?_, by simp; omega⟩
  · rw [Below.heap_alloc _ _ _ (by omega), hk.block _ (by omega) (by simpa using fun e => hg e.symm)]
  · rw [Below.heap_alloc _ _ _ (by omega), hk.block _ (by omega) (by simp; omega)]; exact h.res
  · exact (h.bel.grown hk h.bel.size (fun k hk => by cases hk; omega)).alloc (by omega) _
theorem St2.drewN {w : World} {P K : Array Int} {pid : Int} {n Bp : Nat} {m share : Int} {g : Nat} {vF vH : Value} {wr : World} (h : St2 w P K pid n Bp m share g vF vH wr) (q : Nat) : St2 w P K pid n Bp m share g vF vH (wr.drewN q) :=
  ⟨h.ownF, h.ownH, h.ne, h.hold, h.res, h.p, below_drewN h.bel q, h.sz⟩

theorem keep_one {wr : World} {b : Nat} (o : Nat) (v : Value) : wr.grownBy (wr.setCell ⟨b, o, none⟩ v) (some b) := keep_set (keep_refl _ _) _ _
theorem St2.sep {w : World} {P K : Array Int} {pid : Int} {n Bp : Nat} {m share : Int} {g : Nat} {vF vH : Value} {wr : World} (h : St2 w P K pid n Bp m share g vF vH wr) : vF.ownBlock ≠ some Bp ∧ vH.ownBlock ≠ some Bp :=
  ⟨fun e => by have := (owns_base h.ownF _ e).1; omega, fun e => by have := (owns_base h.ownH _ e).1; omega⟩
theorem St2.cells {w : World} {P K : Array Int} {pid : Int} {n Bp : Nat} {m share : Int} {g : Nat} {vF vH : Value} {wr : World} (h : St2 w P K pid n Bp m share g vF vH wr) :
    wr.cell? ⟨Bp, 0, none⟩ = some (.int .i64 m) ∧ wr.cell? ⟨Bp, 1, none⟩ = some (.int .i64 share) ∧ wr.cell? ⟨Bp, 2, none⟩ = some vH ∧ wr.cell? ⟨Bp, 3, none⟩ = some (.slice none 0 0) ∧ wr.cell? ⟨Bp, 4, none⟩ = some (.slice none 0 0) ∧ ∀ t, wr.frozen? ⟨Bp, t, none⟩ = false := by
  refine ⟨?_, ?_, ?_, ?_, ?_, fun t => frozen_of_row wr Bp t _ 37 h.p⟩ <;> rw [cell_of_row wr Bp _ _ 37 (0, 0) h.p] <;> rfl
theorem St2.share {w : World} {P K : Array Int} {pid : Int} {n Bp : Nat} {m share : Int} {g : Nat} {vF vH : Value} {wr : World} (h : St2 w P K pid n Bp m share g vF vH wr) (s' : Int) :
    St2 w P K pid n Bp m s' g vF vH (wr.setCell ⟨Bp, 1, none⟩ (.int .i64 s')) := by
  have hk : wr.grownBy (wr.setCell ⟨Bp, 1, none⟩ (.int .i64 s')) (some Bp) := keep_one _ _
  have hsz := h.sz
  refine ⟨owns_keep h.ownF hk (.inl h.sep.1), owns_keep h.ownH hk (.inl h.sep.2), h.ne, h.hold.of_block (hk.block _ (by omega) (by simp; omega)), ?_, ?_, ?_, ⟨hsz.1, by have := hk.size; omega⟩⟩
  · rw [hk.block _ (by omega) (by simp; omega)]; exact h.res
  · exact heap_setCell_same wr Bp 1 _ 37 _ h.p
  · exact h.bel.setCell (by show w.heap.size ≤ Bp; omega) _
/-- An append to the free groups. -/
theorem St2.free {w : World} {P K : Array Int} {pid : Int} {n Bp : Nat} {m share : Int} {g : Nat} {vF vH v1 : Value} {wr w1 : World} (h : St2 w P K pid n Bp m share g vF vH wr) (hn : lastH P K g n = none)
    (ho : w1.ownsRow (Bp + 1) 3 1 v1 ((freeL P K n g).length + 1) ((freeL P K n g).map (Value.int .i64) ++ [.int .i64 g])) (hk : wr.grownBy w1 vF.ownBlock) (hat : v1.ownBlock = vF.ownBlock ∨ v1.ownBlock = some wr.heap.size) :
    St2 w P K pid n Bp m share (g + 1) v1 vH w1 := by
  have e1 : freeL P K n (g + 1) = freeL P K n g ++ [(g : Int)] := by simp [freeL, hn]
  have e2 : heldL P K n pid (g + 1) = heldL P K n pid g := by simp [heldL, hn]
  have hsz := h.sz
  have hb := fun x hx => (owns_base h.ownF x hx).1
  refine ⟨by rw [e1]; simpa using ho, ?_, ?_, h.hold.of_block (hk.block _ (by omega) (fun e => by have := hb _ e.symm; omega)), ?_, ?_, ?_, ⟨hsz.1, by have := hk.size; omega⟩⟩
  · rw [e2]
    refine owns_keep h.ownH hk ?_
    rcases h.ne with h1 | h1 | h1
    · rw [h1]; cases hh : vH.ownBlock
      · exact .inr rfl
      · exact .inl (by simp)
    · exact .inr h1
    · exact .inl (fun e => h1 e.symm)
  · rcases hat with h1 | h1
    · rw [h1]; exact h.ne
    · refine .inr (.inr ?_)
      rw [h1]; intro e
      have := (owns_base h.ownH _ e.symm).2; omega
  · rw [hk.block _ (by omega) (fun e => by have := hb _ e.symm; omega)]; exact h.res
  · rw [hk.block _ (by omega) (fun e => by have := hb _ e.symm; omega)]; exact h.p
  · exact h.bel.grown hk h.bel.size (fun k hk => by have := hb _ hk; omega)
theorem St2.alloc {w : World} {P K : Array Int} {pid : Int} {n Bp : Nat} {m share : Int} {g : Nat} {vF vH : Value} {wr : World} (h : St2 w P K pid n Bp m share g vF vH wr) (o : Obj) : St2 w P K pid n Bp m share g vF vH (wr.alloc o) := by
  have hsz := h.sz
  exact ⟨h.ownF.alloc _, h.ownH.alloc _, h.ne, h.hold.of_block (Below.heap_alloc _ _ _ (by omega)), (Below.heap_alloc _ _ _ (by omega)).trans h.res, (Below.heap_alloc _ _ _ (by omega)).trans h.p, h.bel.alloc h.bel.size _, by simp; omega⟩
/-- An append to the groups that pid holds, laid back in the plan. -/
theorem St2.held {w : World} {P K : Array Int} {pid : Int} {n Bp : Nat} {m share : Int} {g : Nat} {vF vH v1 : Value} {wr w1 : World} (h : St2 w P K pid n Bp m share g vF vH wr) (hn : lastH P K g n = some pid)
    (ho : w1.ownsRow (Bp + 1) 3 1 v1 ((heldL P K n pid g).length + 1) ((heldL P K n pid g).map (Value.int .i64) ++ [.int .i64 g])) (hk : wr.grownBy w1 vH.ownBlock) (hat : v1.ownBlock = vH.ownBlock ∨ v1.ownBlock = some wr.heap.size) :
    St2 w P K pid n Bp m share (g + 1) vF v1 (w1.setCell ⟨Bp, 2, none⟩ v1) := by
  have e1 : freeL P K n (g + 1) = freeL P K n g := by simp [freeL, hn]
  have e2 : heldL P K n pid (g + 1) = heldL P K n pid g ++ [(g : Int)] := by simp [heldL, hn]
  have hsz := h.sz
  have hb := fun x hx => (owns_base h.ownH x hx).1
  have hk2 : w1.grownBy (w1.setCell ⟨Bp, 2, none⟩ v1) (some Bp) := keep_one _ _
  have hs1 := hk.size
  have hp1 : w1.heap[Bp]? = some (.cells (spCells m share vH (.slice none 0 0) (.slice none 0 0)) 37 (0, 0)) := by
    rw [hk.block _ (by omega) (fun e => by have := hb _ e.symm; omega)]; exact h.p
  have hbv : v1.ownBlock ≠ some Bp := fun e => by have := (owns_base ho _ e).1; omega
  refine ⟨?_, ?_, ?_, h.hold.of_block ?_, ?_, heap_setCell_same w1 Bp 2 _ 37 _ hp1, ?_, ⟨hsz.1, by have := hk2.size; omega⟩⟩
  · rw [e1]
    refine owns_keep (owns_keep h.ownF hk ?_) hk2 (.inl h.sep.1)
    rcases h.ne with h1 | h1 | h1
    · exact .inr h1
    · rw [h1]; cases hh : vF.ownBlock
      · exact .inr rfl
      · exact .inl (by simp)
    · exact .inl h1
  · rw [e2]
    refine owns_keep ?_ hk2 (.inl hbv)
    simpa using ho
  · rcases hat with h1 | h1
    · rw [h1]; exact h.ne
    · refine .inr (.inr ?_)
      rw [h1]; intro e
      have := (owns_base h.ownF _ e).2; omega
  · rw [hk2.block _ (by omega) (by simp; omega), hk.block _ (by omega) (fun e => by have := hb _ e.symm; omega)]
  · rw [hk2.block _ (by omega) (by simp; omega), hk.block _ (by omega) (fun e => by have := hb _ e.symm; omega)]; exact h.res
  · exact (h.bel.grown hk h.bel.size (fun k hk => by have := hb _ hk; omega)).setCell (by show w.heap.size ≤ Bp; omega) _
theorem St2.skip {w : World} {P K : Array Int} {pid : Int} {n Bp : Nat} {m share : Int} {g : Nat} {vF vH : Value} {wr : World} (h : St2 w P K pid n Bp m share g vF vH wr) (h1 : lastH P K g n ≠ none) (h2 : lastH P K g n ≠ some pid) : St2 w P K pid n Bp m share (g + 1) vF vH wr := by
  have e1 : freeL P K n (g + 1) = freeL P K n g := by simp [freeL, h1]
  have e2 : heldL P K n pid (g + 1) = heldL P K n pid g := by simp [heldL, h2]
  exact ⟨by rw [e1]; exact h.ownF, by rw [e2]; exact h.ownH, h.ne, h.hold, h.res, h.p, h.bel, h.sz⟩
theorem freeL_len (P K : Array Int) (n g : Nat) : (freeL P K n g).length ≤ g := by
  induction g with
  | zero => simp [freeL]
  | succ g ih => simp only [freeL, List.length_append]; split <;> simp <;> omega
theorem heldL_len (P K : Array Int) (n : Nat) (pid : Int) (g : Nat) : (heldL P K n pid g).length ≤ g := by
  induction g with
  | zero => simp [heldL]
  | succ g ih => simp only [heldL, List.length_append]; split <;> simp <;> omega
end Go.Proofs.Qxb6601455a
