/- THE SCRIPT LAWS: checkMissing: what it computes; its memory. -/
import Derived.Test.Qxb6601949aScAcc
import Derived.Test.Qxb6601949aScDelC
namespace Go.Proofs.Qxb6601949a.Sc
open Go.RowKit Go.Maps
set_option linter.unusedVariables false
set_option linter.unusedSimpArgs false

def kMiss : ByteArray := ⟨#[109, 105, 115, 115, 105, 110, 103]⟩
def aliveAt (desc : List Lp) (cr : List ByteArray) (k : Nat) : Bool := !memB (repOf desc k) cr
def inRow (desc : List Lp) (cr : List ByteArray) (x : ByteArray) (k : Nat) : Bool := decide (grpOf desc k = x) && aliveAt desc cr k
def rowOf (desc : List Lp) (cr : List ByteArray) (n : Nat) (x : ByteArray) : List Nat := (List.range n).filter (inRow desc cr x)
theorem rowOf_succ (desc : List Lp) (cr : List ByteArray) (n : Nat) (x : ByteArray) : rowOf desc cr (n + 1) x = rowOf desc cr n x ++ if inRow desc cr x n then [n] else [] := by
  unfold rowOf
  rw [List.range_succ, List.filter_append]
  congr 1
  cases h : inRow desc cr x n <;> simp [h]
theorem rowOf_len (desc : List Lp) (cr : List ByteArray) (n : Nat) (x : ByteArray) : (rowOf desc cr n x).length ≤ n := by
  have h := List.length_filter_le (inRow desc cr x) (List.range n)
  rwa [List.length_range] at h
theorem rowOf_lt {desc : List Lp} {cr : List ByteArray} {n : Nat} {x : ByteArray} {k : Nat} (h : k ∈ rowOf desc cr n x) : k < n := List.mem_range.1 (List.mem_filter.1 h).1

def miss1 (desc : List Lp) (pl : Nat → List Nat) (id : ByteArray) (m k : Nat) : List Vp := if (plc (pl k) m).isSome then [] else [⟨kMiss, [id], [repOf desc k]⟩]
def missK (desc : List Lp) (pl : Nat → List Nat) (id : ByteArray) (m : Nat) (ks : List Nat) : List Vp := ks.flatMap (miss1 desc pl id m)
def missG (desc : List Lp) (cr : List ByteArray) (pl : Nat → List Nat) (id : ByteArray) (m : Nat) (gs : List ByteArray) : List Vp := gs.flatMap fun x => missK desc pl id m (rowOf desc cr desc.length x)
def missM (desc : List Lp) (cr : List ByteArray) (pl : Nat → List Nat) (msgs : List Mp) (m : Nat) : List Vp := match msgs[m]? with
  | some x => missG desc cr pl x.id m x.to
  | none => []
def missUp (desc : List Lp) (cr : List ByteArray) (pl : Nat → List Nat) (msgs : List Mp) : Nat → List Vp
  | 0 => []
  | m + 1 => missUp desc cr pl msgs m ++ missM desc cr pl msgs m
theorem flat_le {α β : Type} (f : α → List β) (c : Nat) (l : List α) (h : ∀ x, x ∈ l → (f x).length ≤ c) : (l.flatMap f).length ≤ l.length * c := by
  induction l with
  | nil => simp
  | cons x r ih =>
    have h1 := h x (List.mem_cons_self ..)
    have h2 := ih (fun y hy => h y (List.mem_cons_of_mem _ hy))
    rw [List.flatMap_cons, List.length_append, List.length_cons, Nat.succ_mul]
    omega
theorem missK_len (desc : List Lp) (pl : Nat → List Nat) (id : ByteArray) (m : Nat) (ks : List Nat) : (missK desc pl id m ks).length ≤ ks.length := by
  have h := flat_le (miss1 desc pl id m) 1 ks (fun k _ => by unfold miss1; split <;> simp)
  simpa [missK] using h
theorem missG_len (desc : List Lp) (cr : List ByteArray) (pl : Nat → List Nat) (id : ByteArray) (m : Nat) (gs : List ByteArray) : (missG desc cr pl id m gs).length ≤ gs.length * desc.length :=
  flat_le _ _ gs (fun x _ => Nat.le_trans (missK_len ..) (rowOf_len ..))
theorem missUp_len (desc : List Lp) (cr : List ByteArray) (pl : Nat → List Nat) (msgs : List Mp) (h : ∀ x, x ∈ msgs → x.to.length ≤ 1048576) (hd : desc.length ≤ 256) : ∀ m, (missUp desc cr pl msgs m).length ≤ m * 268435456
  | 0 => Nat.le_refl _
  | m + 1 => by
    have h1 := missUp_len desc cr pl msgs h hd m
    have h2 : (missM desc cr pl msgs m).length ≤ 268435456 := by
      unfold missM
      split
      · rename_i x hx
        have h3 := missG_len desc cr pl x.id m x.to
        have h4 := h x (List.mem_of_getElem? hx)
        exact Nat.le_trans h3 (Nat.mul_le_mul h4 hd)
      · simp
    rw [missUp, List.length_append]
    omega

def ptrRow (L : Nat → Nat) (ks : List Nat) : List Value := ks.map fun k => .pointer (some ⟨L k, 0, none⟩)
theorem ptrRow_len (L : Nat → Nat) (ks : List Nat) : (ptrRow L ks).length = ks.length := by simp [ptrRow]

/-! ### The map of the groups while it is made -/
structure BGo (w wr : World) (L : Nat → Nat) (rows : ByteArray → List Nat) (c n : Nat) (f : ByteArray → Option Value) : Prop where
  below : Below w.heap.size w wr
  le : n ≤ c
  map : MapAt wr w.heap.size n f
  no : ∀ x, f x = none → rows x = []
  own : ∀ x v, f x = some v → wr.ownsRow (w.heap.size + 1) 69 1 v (rows x).length (ptrRow L (rows x))
  ne : ∀ x y v u b, f x = some v → f y = some u → v.ownBlock = some b → u.ownBlock = some b → x = y
theorem BGo.start (w : World) (L : Nat → Nat) : BGo w (w.alloc (.map #[] 0)) L (fun _ => []) 0 0 (fun _ => none) :=
  ⟨(Below.refl _ w).alloc (Nat.le_refl _) _, Nat.le_refl _, MapAt.made w, fun _ _ => rfl, (fun x v h => by cases h), (fun x y v u b h => by cases h)⟩
theorem BGo.heap {w wr wx : World} {L : Nat → Nat} {rows : ByteArray → List Nat} {c n : Nat} {f : ByteArray → Option Value} (h : BGo w wr L rows c n f) (hb : Below wr.heap.size wr wx) : BGo w wx L rows c n f :=
  ⟨below_next h.below hb, h.le, h.map.of_block (hb.block _ h.map.lt), h.no, fun x v hv => ownsRow_blocks (h.own x v hv) fun b hb' => hb.block b ((h.own x v hv).lt b hb').2, h.ne⟩
theorem BGo.value {w wr : World} {L : Nat → Nat} {rows : ByteArray → List Nat} {c n : Nat} {f : ByteArray → Option Value} (h : BGo w wr L rows c n f) (x : ByteArray) : wr.ownsRow (w.heap.size + 1) 69 1 ((f x).getD (.slice none 0 0)) (rows x).length (ptrRow L (rows x)) := by
  cases hf : f x with
  | none => rw [h.no x hf]; exact World.ownsRow_nil _ _ _ _
  | some v => exact h.own x v hf
theorem BGo.mono {w wr : World} {L : Nat → Nat} {rows rows' : ByteArray → List Nat} {c c' n : Nat} {f : ByteArray → Option Value} (h : BGo w wr L rows c n f) (e : rows = rows') (hc : c ≤ c') : BGo w wr L rows' c' n f := by
  subst e
  exact ⟨h.below, Nat.le_trans h.le hc, h.map, h.no, h.own, h.ne⟩
theorem BGo.step {w wr w1 w2 : World} {L : Nat → Nat} {rows : ByteArray → List Nat} {c n : Nat} {f : ByteArray → Option Value} (h : BGo w wr L rows c n f) (x : ByteArray) (k : Nat) {wy : World} (hy : Below wr.heap.size wr wy) (hys : wy.heap.size = wr.heap.size + 1) {gg cap : Nat}
    (hown : w1.ownsRow (w.heap.size + 1) 69 1 (.slice (some ⟨gg, 0, none⟩) ((rows x).length + 1) cap) ((rows x).length + 1) (ptrRow L (rows x) ++ [.pointer (some ⟨L k, 0, none⟩)])) (hg : wy.grownBy w1 ((f x).getD (.slice none 0 0)).ownBlock) (hat : ((f x).getD (.slice none 0 0)).ownBlock = some gg ∨ gg = wr.heap.size + 1)
    (hm : MapAt w2 w.heap.size (n + 1) (fun y => if y = x then some (.slice (some ⟨gg, 0, none⟩) ((rows x).length + 1) cap) else f y)) (hg2 : w1.grownBy w2 (some w.heap.size)) :
    BGo w w2 L (fun y => if y = x then rows x ++ [k] else rows y) (c + 1) (n + 1) (fun y => if y = x then some (.slice (some ⟨gg, 0, none⟩) ((rows x).length + 1) cap) else f y) := by
  have hv := h.value x
  have hsz := h.map.lt
  have hB1 : Below w.heap.size w w1 := (below_next h.below hy).grown hg (below_next h.below hy).size (fun j hj => by have := (hv.lt j hj).1; omega)
  have hB2 : Below w.heap.size w w2 := hB1.grown hg2 hB1.size (fun j hj => by cases hj; exact Nat.le_refl _)
  have hvx : ∀ b, ((f x).getD (.slice none 0 0)).ownBlock = some b → ∃ v, f x = some v ∧ v.ownBlock = some b := fun b hb => by
    cases hf : f x with
    | none => rw [hf] at hb; simp [Value.ownBlock] at hb
    | some v => rw [hf] at hb; exact ⟨v, rfl, hb⟩
  refine ⟨hB2, by have := h.le; omega, hm, fun y hy' => ?_, fun y v hv' => ?_, fun y z v u b h1 h2 h3 h4 => ?_⟩
  · by_cases e : y = x
    · simp [e] at hy'
    · simp only [e, if_false] at hy' ⊢; exact h.no y hy'
  · by_cases e : y = x
    · subst e
      simp only [if_true] at hv' ⊢
      cases hv'
      have h5 : w1.ownsRow (w.heap.size + 1) 69 1 (.slice (some ⟨gg, 0, none⟩) (rows y ++ [k]).length cap) (rows y ++ [k]).length (ptrRow L (rows y ++ [k])) := by simpa [ptrRow] using hown
      have h6 : (rows y ++ [k]).length = (rows y).length + 1 := by simp
      rw [← h6]
      exact ownsRow_blocks h5 fun b hb => hg2.block b (h5.lt b hb).2 (fun e => by have := (h5.lt b hb).1; cases e; omega)
    · simp only [e, if_false] at hv' ⊢
      have h5 := h.own y v hv'
      refine ownsRow_blocks h5 fun b hb => ?_
      have hbl := h5.lt b hb
      have h6 : w1.heap[b]? = wr.heap[b]? := (hg.block b (by omega) (fun e2 => by
        obtain ⟨v2, a1, a2⟩ := hvx b e2.symm
        exact e (h.ne y x v v2 b hv' a1 hb a2))).trans (hy.block b hbl.2)
      exact (hg2.block b (by have := hg.size; omega) (fun e2 => by cases e2; omega)).trans h6
  · have key : ∀ (y : ByteArray) (u : Value) (b : Nat), y ≠ x → f y = some u → u.ownBlock = some b → b ≠ gg := fun y u b hyx hf hb e => by
      subst e
      rcases hat with ha | ha
      · obtain ⟨v2, a1, a2⟩ := hvx b ha
        exact hyx (h.ne y x u v2 b hf a1 hb a2)
      · have := ((h.own y u hf).lt b hb).2; omega
    by_cases e1 : y = x
    · by_cases e2 : z = x
      · rw [e1, e2]
      · simp only [e1, if_true] at h1
        simp only [e2, if_false] at h2
        cases h1
        have : b = gg := by simpa [Value.ownBlock] using h3.symm
        exact absurd this (key z u b e2 h2 h4)
    · by_cases e2 : z = x
      · simp only [e1, if_false] at h1
        simp only [e2, if_true] at h2
        cases h2
        have : b = gg := by simpa [Value.ownBlock] using h4.symm
        exact absurd this (key y v b e1 h1 h3)
      · simp only [e1, if_false] at h1
        simp only [e2, if_false] at h2
        exact h.ne y z v u b h1 h2 h3 h4

/-! ### The map of the groups, made -/
structure BG (w : World) (T : Nat → Nat) (M0 : Nat) (L : Nat → Nat) (rows : ByteArray → List Nat) (n : Nat) (f : ByteArray → Option Value) : Prop where
  map : MapAt w M0 n f
  tag : T M0 = 0
  row : ∀ x, ∃ s : Sl, (f x).getD (.slice none 0 0) = .slice s.a s.n s.cap ∧ s.n = (rows x).length ∧ Imm w T s 1 (ptrRow L (rows x))
theorem BG.keep0 {w w' : World} {T T' : Nat → Nat} {M0 : Nat} {L : Nat → Nat} {rows : ByteArray → List Nat} {n : Nat} {f : ByteArray → Option Value} (h : BG w T M0 L rows n f) (k : Keep0 T T' w w') : BG w' T' M0 L rows n f :=
  ⟨h.map.of_block (k.block _ h.map.lt h.tag), (k.tag _ h.map.lt).trans h.tag, fun x => by
    obtain ⟨s, h1, h2, h3⟩ := h.row x
    exact ⟨s, h1, h2, h3.keep0 (by omega) k⟩⟩
theorem BGo.made {w wr : World} {T T1 : Nat → Nat} {L : Nat → Nat} {rows : ByteArray → List Nat} {c n : Nat} {f : ByteArray → Option Value} (h : BGo w wr L rows c n f) (hT : ∀ b, T1 b = if b < w.heap.size then T b else 0) : BG wr T1 w.heap.size L rows n f := by
  refine ⟨h.map, by rw [hT, if_neg (by omega)], fun x => ?_⟩
  have hv := h.value x
  obtain ⟨s, h1, h2, h3, h4⟩ := Own.cells (T := fun _ => 0) (t := 0) (w := wr) (v := (f x).getD (.slice none 0 0)) (n := (rows x).length) (xs := ptrRow L (rows x)) (e := 69) (size := 1) ⟨⟨hv.1, hv.2.imp (fun x => x) (fun ⟨g, cap, cur, a1, _, a3⟩ => ⟨g, cap, cur, a1, Nat.zero_le _, a3⟩)⟩, fun _ _ => rfl⟩
  refine ⟨s, h1, h2, h3, fun hs => ?_⟩
  have := (hv.lt s.b (h4 (by omega)).2).1
  rw [hT, if_neg (by omega)]

/-! ### The report -/
theorem report_miss (wc : World) (T : Nat → Nat) (B : Nat) (g : G) (a : List Vio) (v : Value) (S : St wc T B { g with vios := a, vioV := v }) (hn : a.length ≤ 1099511704064) (wx : World) (hb : Below wc.heap.size wc wx) (R : Nat) (hR : g.R = R) (b1 b2 : Nat) (id rep : ByteArray)
    (h1 : Blk wx b1 9 (strsC [id]).toArray) (l1 : wc.heap.size ≤ b1) (h2 : Blk wx b2 9 (strsC [rep]).toArray) (l2 : wc.heap.size ≤ b2) :
    Calls Try.prog 57 #[.pointer (some ⟨R, 0, none⟩), .string kMiss, .slice (some ⟨b1, 0, none⟩) 1 1, .slice (some ⟨b2, 0, none⟩) 1 1] wx
      fun e w' => e = .returned (.tuple #[]) ∧ ∃ T' a' v', Keep0 T T' wc w' ∧ St w' T' B { g with vios := a', vioV := v' } ∧ a'.map absV = a.map absV ++ [⟨kMiss, [id], [rep]⟩] := by
  subst hR
  obtain ⟨T2, k2, hT2, S2⟩ := S.below hb
  have k02 : Keep0 T T2 wc wx := ⟨k2.os, k2.tape, k2.output, k2.size, k2.tag, fun b hbb _ => hb.block b hbb⟩
  have i1 : Imm wx T2 ⟨some ⟨b1, 0, none⟩, b1, 0, 1, 1⟩ 1 (strsC [id]) := imm_new [id] h1 (by rw [hT2]; exact if_neg (by omega))
  have i2 : Imm wx T2 ⟨some ⟨b2, 0, none⟩, b2, 0, 1, 1⟩ 1 (strsC [rep]) := imm_new [rep] h2 (by rw [hT2]; exact if_neg (by omega))
  refine (report_any wx T2 B _ S2 kMiss _ _ [id] [rep] i1 i2 (by show a.length + 1 ≤ _; omega)).mono ?_
  rintro e w' ⟨he, T', v', k3, S3⟩
  exact ⟨he, T', _, v', k02.trans k3, S3, by simp [absV]⟩

end Go.Proofs.Qxb6601949a.Sc
