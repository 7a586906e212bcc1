/- THE SCRIPT LAWS: the run's memory as one predicate; what each write does to it. -/
import Derived.Test.Qxb6601949aScHeap
namespace Go.Proofs.Qxb6601949a.Sc
open Go.RowKit Go.Maps
set_option linter.unusedVariables false
set_option linter.unusedSimpArgs false

def sv (s : Sl) : Value := .slice s.a s.n s.cap
structure Msg where
  id : ByteArray
  ts : Int
  tos : Sl
  to : List ByteArray
  kes : Sl
  keys : List (ByteArray × Bool)
  frm : Nat
def msgCells (L : Nat → Nat) (m : Msg) : List Value := [.string m.id, .int .u64 m.ts, .slice m.tos.a m.tos.n m.tos.cap, .slice m.kes.a m.kes.n m.kes.cap, .pointer (some ⟨L m.frm, 0, none⟩)]
structure Vio where
  kind : ByteArray
  is : Sl
  ids : List ByteArray
  rs : Sl
  reps : List ByteArray
def vioCells (v : Vio) : List Value := [.string v.kind, .slice v.is.a v.is.n v.is.cap, .slice v.rs.a v.rs.n v.rs.cap]
def intsC (l : List Nat) : List Value := l.map fun m : Nat => Value.int .i64 (m : Int)
def ptrsC (L : Nat → Nat) (n : Nat) : List Value := (List.range n).map fun k => .pointer (some ⟨L k, 0, none⟩)

/-- What the run's memory holds. -/
structure G where
  cmp : Bool
  crs : Sl
  cr : List ByteArray
  lss : Sl
  R : Nat
  M : Nat
  M2 : Nat
  dels : Nat
  idn : Nat
  idf : ByteArray → Option Value
  msgs : List Msg
  msgV : Value
  vios : List Vio
  vioV : Value
  L : Nat → Nat
  desc : List Lp
  ord : Nat → List Nat
  ordV : Nat → Value
  pl : Nat → List Nat
  plV : Nat → Value

def upd {α : Type} (f : Nat → α) (k : Nat) (v : α) : Nat → α := fun j => if j = k then v else f j
theorem upd_same {α : Type} (f : Nat → α) (k : Nat) (v : α) : upd f k v k = v := if_pos rfl
theorem upd_other {α : Type} (f : Nat → α) {k j : Nat} (v : α) (h : j ≠ k) : upd f k v j = f j := if_neg h

def runCells (g : G) : Array Value := #[.bool g.cmp, .slice g.crs.a g.crs.n g.crs.cap, .slice g.lss.a g.lss.n g.lss.cap, g.msgV, .map (some g.M), .map (some g.M2), .int .i64 0, .int .i64 (g.dels : Int), .slice none 0 0, g.vioV]
def logCells (d : Lp) (o p : Value) : Array Value := #[.string d.path, .string d.rep, .string d.grp, o, p]

structure St (w : World) (T : Nat → Nat) (B : Nat) (g : G) : Prop where
  base : ∀ b, b < B → T b = 0
  hB : B ≤ w.heap.size
  run : Blk w g.R 85 (runCells g)
  tR : T g.R = 1
  crashed : Imm w T g.crs 1 (strsC g.cr)
  logs : Imm w T g.lss 1 (ptrsC g.L g.desc.length)
  ids : MapAt w g.M g.idn g.idf
  tM : T g.M = 2
  msgs : Own w T 3 88 5 g.msgV g.msgs.length (g.msgs.flatMap (msgCells g.L))
  msgI : ∀ m, m ∈ g.msgs → Imm w T m.tos 1 (strsC m.to) ∧ Imm w T m.kes 2 (keysC m.keys)
  vios : Own w T 4 91 3 g.vioV g.vios.length (g.vios.flatMap vioCells)
  vioI : ∀ v, v ∈ g.vios → Imm w T v.is 1 (strsC v.ids) ∧ Imm w T v.rs 1 (strsC v.reps)
  lblk : ∀ k d, g.desc[k]? = some d → Blk w (g.L k) 106 (logCells d (g.ordV k) (g.plV k))
  tL : ∀ k, k < g.desc.length → T (g.L k) = 5 + 3 * k
  ord : ∀ k, k < g.desc.length → Own w T (6 + 3 * k) 3 1 (g.ordV k) (g.ord k).length (intsC (g.ord k))
  pl : ∀ k, k < g.desc.length → Own w T (7 + 3 * k) 3 1 (g.plV k) (g.pl k).length (intsC (g.pl k))

theorem get_lt {α : Type} {l : List α} {k : Nat} {d : α} (h : l[k]? = some d) : k < l.length := (List.getElem?_eq_some_iff.1 h).1

theorem St.lT {w : World} {T : Nat → Nat} {B : Nat} {g : G} (h : St w T B g) {k : Nat} {d : Lp} (hd : g.desc[k]? = some d) : T (g.L k) = 5 + 3 * k := h.tL k (get_lt hd)

/-- Nothing that the run holds has been written. -/
theorem St.below {w w' : World} {T : Nat → Nat} {B : Nat} {g : G} (h : St w T B g) (hb : Below w.heap.size w w') :
    ∃ T', Keep T T' 0 w w' ∧ (∀ b, T' b = if b < w.heap.size then T b else 0) ∧ St w' T' B g := by
  have k : Keep T (fun b => if b < w.heap.size then T b else 0) 100 w w' := Keep.ofBelow hb 100
  have k0 := k.zero (by omega)
  have kk : ∀ t, Keep T (fun b => if b < w.heap.size then T b else 0) t w w' := fun t => Keep.ofBelow hb t
  refine ⟨_, kk 0, fun b => rfl, ⟨fun b hbB => ?_, Nat.le_trans h.hB hb.size, h.run.of_below hb, ?_, h.crashed.keep0 (by omega) k0, h.logs.keep0 (by omega) k0, h.ids.of_block (hb.block _ h.ids.lt), ?_, h.msgs.keep (kk 0) (by omega),
    fun m hm => ⟨(h.msgI m hm).1.keep0 (by omega) k0, (h.msgI m hm).2.keep0 (by omega) k0⟩, h.vios.keep (kk 0) (by omega), fun m hm => ⟨(h.vioI m hm).1.keep0 (by omega) k0, (h.vioI m hm).2.keep0 (by omega) k0⟩,
    fun j d hd => (h.lblk j d hd).of_below hb, fun j hj => ?_, fun j hj => (h.ord j hj).keep (kk 0) (by omega), fun j hj => (h.pl j hj).keep (kk 0) (by omega)⟩⟩
  · exact (k.tag b (by have := h.hB; omega)).trans (h.base b hbB)
  · exact (k.tag _ h.run.lt).trans h.tR
  · exact (k.tag _ h.ids.lt).trans h.tM
  · obtain ⟨d, hd⟩ : ∃ d, g.desc[j]? = some d := ⟨_, List.getElem?_eq_getElem hj⟩
    exact (k.tag _ (h.lblk j d hd).lt).trans (h.tL j hj)

/-- The run's own struct is written. -/
theorem St.put_run {w w' : World} {T : Nat → Nat} {B : Nat} {g g' : G} (h : St w T B g) (k : Keep T T 1 w w') (hr : Blk w' g.R 85 (runCells g'))
    (e : g' = { g with dels := g'.dels }) : St w' T B g' := by
  rw [e] at hr ⊢
  have k0 := k.zero (by omega)
  exact ⟨h.base, Nat.le_trans h.hB k.size, hr, h.tR, h.crashed.keep0 (by omega) k0, h.logs.keep0 (by omega) k0, h.ids.keep k (by rw [h.tM]; omega), h.tM, h.msgs.keep k (by omega),
    fun m hm => ⟨(h.msgI m hm).1.keep0 (by omega) k0, (h.msgI m hm).2.keep0 (by omega) k0⟩, h.vios.keep k (by omega), fun m hm => ⟨(h.vioI m hm).1.keep0 (by omega) k0, (h.vioI m hm).2.keep0 (by omega) k0⟩,
    fun j d hd => (h.lblk j d hd).keep k (by rw [h.lT hd]; omega), h.tL, fun j hj => (h.ord j hj).keep k (by omega), fun j hj => (h.pl j hj).keep k (by omega)⟩

/-- The map of ids is written. -/
theorem St.put_ids {w w' : World} {T : Nat → Nat} {B : Nat} {g : G} (h : St w T B g) (n : Nat) (f : ByteArray → Option Value) (hg : w.grownBy w' (some g.M)) (hm : MapAt w' g.M n f) : ∃ T', Keep T T' 2 w w' ∧ St w' T' B { g with idn := n, idf := f } := by
  have k : Keep T (fun b => if b < w.heap.size then T b else 0) 2 w w' :=
    ⟨hg.os, hg.tape, hg.output, hg.size, fun b hb => if_pos hb, fun b hb hne => hg.block b hb (fun e => hne (by cases e; exact h.tM))⟩
  have k0 := k.zero (by omega)
  refine ⟨_, k, ⟨fun b hb => ?_, Nat.le_trans h.hB k.size, h.run.keep k (by rw [h.tR]; omega), ?_, h.crashed.keep0 (by omega) k0, h.logs.keep0 (by omega) k0, hm, ?_, h.msgs.keep k (by omega),
    fun m hm => ⟨(h.msgI m hm).1.keep0 (by omega) k0, (h.msgI m hm).2.keep0 (by omega) k0⟩, h.vios.keep k (by omega), fun m hm => ⟨(h.vioI m hm).1.keep0 (by omega) k0, (h.vioI m hm).2.keep0 (by omega) k0⟩,
    fun j d hd => (h.lblk j d hd).keep k (by rw [h.lT hd]; omega), fun j hj => ?_, fun j hj => (h.ord j hj).keep k (by omega), fun j hj => (h.pl j hj).keep k (by omega)⟩⟩
  · exact (k.tag b (by have := h.hB; omega)).trans (h.base b hb)
  · exact (k.tag _ h.run.lt).trans h.tR
  · exact (k.tag _ h.ids.lt).trans h.tM
  · obtain ⟨d, hd⟩ : ∃ d, g.desc[j]? = some d := ⟨_, List.getElem?_eq_getElem hj⟩
    exact (k.tag _ (h.lblk j d hd).lt).trans (h.tL j hj)

/-- What stands but for the rows that bear the tag t. -/
theorem St.tags {w w' : World} {T T' : Nat → Nat} {B t : Nat} {g : G} (h : St w T B g) (k : Keep T T' t w w') : (∀ b, b < B → T' b = 0) ∧ B ≤ w'.heap.size ∧ T' g.R = 1 ∧ T' g.M = 2 ∧ ∀ j, j < g.desc.length → T' (g.L j) = 5 + 3 * j := by
  refine ⟨fun b hb => (k.tag b (by have := h.hB; omega)).trans (h.base b hb), Nat.le_trans h.hB k.size, (k.tag _ h.run.lt).trans h.tR, (k.tag _ h.ids.lt).trans h.tM, fun j hj => ?_⟩
  obtain ⟨d, hd⟩ : ∃ d, g.desc[j]? = some d := ⟨_, List.getElem?_eq_getElem hj⟩
  exact (k.tag _ (h.lblk j d hd).lt).trans (h.tL j hj)

/-- A message is appended, the run's field is set. -/
theorem St.put_msgs {w w1 : World} {T T' : Nat → Nat} {B : Nat} {g : G} (h : St w T B g) (k : Keep T T' 3 w w1) (m : Msg) (v : Value)
    (ho : Own w1 T' 3 88 5 v (g.msgs.length + 1) (g.msgs.flatMap (msgCells g.L) ++ msgCells g.L m)) (hI : Imm w T m.tos 1 (strsC m.to)) (hJ : Imm w T m.kes 2 (keysC m.keys)) :
    Keep0 T T' w (w1.setCell ⟨g.R, 3, none⟩ v) ∧ St (w1.setCell ⟨g.R, 3, none⟩ v) T' B { g with msgs := g.msgs ++ [m], msgV := v } := by
  obtain ⟨t1, t2, t3, t4, t5⟩ := h.tags k
  have k2 : Keep T' T' 1 w1 (w1.setCell ⟨g.R, 3, none⟩ v) := by have := Keep.set T' w1 g.R 3 v; rwa [t3] at this
  have k0 := (k.zero (by omega)).trans (k2.zero (by omega))
  refine ⟨k0, ⟨t1, Nat.le_trans t2 k2.size, ?_, t3, h.crashed.keep0 (by omega) k0, h.logs.keep0 (by omega) k0, (h.ids.keep k (by rw [h.tM]; omega)).keep k2 (by rw [t4]; omega), t4, ?_, fun m' hm => ?_, (h.vios.keep k (by omega)).keep k2 (by omega),
    fun m hm => ⟨(h.vioI m hm).1.keep0 (by omega) k0, (h.vioI m hm).2.keep0 (by omega) k0⟩,
    fun j d hd => ((h.lblk j d hd).keep k (by rw [h.lT hd]; omega)).keep k2 (by rw [t5 j (get_lt hd)]; omega), t5, fun j hj => ((h.ord j hj).keep k (by omega)).keep k2 (by omega), fun j hj => ((h.pl j hj).keep k (by omega)).keep k2 (by omega)⟩⟩
  · exact (h.run.keep k (by rw [h.tR]; omega)).set 3 v
  · have := ho.keep k2 (by omega)
    simpa [List.flatMap_append] using this
  · rcases List.mem_append.1 hm with hm | hm
    · exact ⟨(h.msgI m' hm).1.keep0 (by omega) k0, (h.msgI m' hm).2.keep0 (by omega) k0⟩
    · rw [List.mem_singleton] at hm
      subst hm
      exact ⟨hI.keep0 (by omega) k0, hJ.keep0 (by omega) k0⟩

/-- A violation is appended, the run's field is set. -/
theorem St.put_vios {w w1 : World} {T T' : Nat → Nat} {B : Nat} {g : G} (h : St w T B g) (k : Keep T T' 4 w w1) (m : Vio) (v : Value)
    (ho : Own w1 T' 4 91 3 v (g.vios.length + 1) (g.vios.flatMap vioCells ++ vioCells m)) (hI : Imm w T m.is 1 (strsC m.ids)) (hJ : Imm w T m.rs 1 (strsC m.reps)) :
    Keep0 T T' w (w1.setCell ⟨g.R, 9, none⟩ v) ∧ St (w1.setCell ⟨g.R, 9, none⟩ v) T' B { g with vios := g.vios ++ [m], vioV := v } := by
  obtain ⟨t1, t2, t3, t4, t5⟩ := h.tags k
  have k2 : Keep T' T' 1 w1 (w1.setCell ⟨g.R, 9, none⟩ v) := by have := Keep.set T' w1 g.R 9 v; rwa [t3] at this
  have k0 := (k.zero (by omega)).trans (k2.zero (by omega))
  refine ⟨k0, ⟨t1, Nat.le_trans t2 k2.size, ?_, t3, h.crashed.keep0 (by omega) k0, h.logs.keep0 (by omega) k0, (h.ids.keep k (by rw [h.tM]; omega)).keep k2 (by rw [t4]; omega), t4, (h.msgs.keep k (by omega)).keep k2 (by omega),
    fun m hm => ⟨(h.msgI m hm).1.keep0 (by omega) k0, (h.msgI m hm).2.keep0 (by omega) k0⟩, ?_, fun m' hm => ?_,
    fun j d hd => ((h.lblk j d hd).keep k (by rw [h.lT hd]; omega)).keep k2 (by rw [t5 j (get_lt hd)]; omega), t5, fun j hj => ((h.ord j hj).keep k (by omega)).keep k2 (by omega), fun j hj => ((h.pl j hj).keep k (by omega)).keep k2 (by omega)⟩⟩
  · exact (h.run.keep k (by rw [h.tR]; omega)).set 9 v
  · have := ho.keep k2 (by omega)
    simpa [List.flatMap_append] using this
  · rcases List.mem_append.1 hm with hm | hm
    · exact ⟨(h.vioI m' hm).1.keep0 (by omega) k0, (h.vioI m' hm).2.keep0 (by omega) k0⟩
    · rw [List.mem_singleton] at hm
      subst hm
      exact ⟨hI.keep0 (by omega) k0, hJ.keep0 (by omega) k0⟩

theorem upd_self {α : Type} (f : Nat → α) (k : Nat) : upd f k (f k) = f := funext fun j => by unfold upd; split <;> simp_all

/-- A log's order is appended to, its field is set. -/
theorem St.put_ord {w w1 : World} {T T' : Nat → Nat} {B : Nat} {g : G} (h : St w T B g) (q : Nat) (d : Lp) (hq : g.desc[q]? = some d) (k : Keep T T' (6 + 3 * q) w w1) (l : List Nat) (v : Value)
    (ho : Own w1 T' (6 + 3 * q) 3 1 v l.length (intsC l)) :
    Keep0 T T' w (w1.setCell ⟨g.L q, 3, none⟩ v) ∧ St (w1.setCell ⟨g.L q, 3, none⟩ v) T' B { g with ord := upd g.ord q l, ordV := upd g.ordV q v } := by
  obtain ⟨t1, t2, t3, t4, t5⟩ := h.tags k
  have hql := get_lt hq
  have k2 : Keep T' T' (5 + 3 * q) w1 (w1.setCell ⟨g.L q, 3, none⟩ v) := by have := Keep.set T' w1 (g.L q) 3 v; rwa [t5 q hql] at this
  have k0 := (k.zero (by omega)).trans (k2.zero (by omega))
  refine ⟨k0, ⟨t1, Nat.le_trans t2 k2.size, (h.run.keep k (by rw [h.tR]; omega)).keep k2 (by rw [t3]; omega), t3, h.crashed.keep0 (by omega) k0, h.logs.keep0 (by omega) k0, (h.ids.keep k (by rw [h.tM]; omega)).keep k2 (by rw [t4]; omega), t4, (h.msgs.keep k (by omega)).keep k2 (by omega),
    fun m hm => ⟨(h.msgI m hm).1.keep0 (by omega) k0, (h.msgI m hm).2.keep0 (by omega) k0⟩, (h.vios.keep k (by omega)).keep k2 (by omega), fun m hm => ⟨(h.vioI m hm).1.keep0 (by omega) k0, (h.vioI m hm).2.keep0 (by omega) k0⟩,
    fun j d' hd => ?_, t5, fun j hj => ?_, fun j hj => ((h.pl j hj).keep k (by omega)).keep k2 (by omega)⟩⟩
  · by_cases e : j = q
    · subst e
      have hd2 : g.desc[j]? = some d' := hd
      rw [hq] at hd2
      cases hd2
      show Blk _ (g.L j) 106 (logCells d (upd g.ordV j v j) (g.plV j))
      rw [upd_same]
      exact ((h.lblk j d hq).keep k (by rw [h.tL j hql]; omega)).set 3 v
    · show Blk _ (g.L j) 106 (logCells d' (upd g.ordV q v j) (g.plV j))
      rw [upd_other _ _ e]
      exact ((h.lblk j d' hd).keep k (by rw [h.lT hd]; omega)).keep k2 (by rw [t5 j (get_lt hd)]; omega)
  · by_cases e : j = q
    · subst e
      show Own _ T' _ 3 1 (upd g.ordV j v j) (upd g.ord j l j).length (intsC (upd g.ord j l j))
      rw [upd_same, upd_same]
      exact ho.keep k2 (by omega)
    · show Own _ T' _ 3 1 (upd g.ordV q v j) (upd g.ord q l j).length (intsC (upd g.ord q l j))
      rw [upd_other _ _ e, upd_other _ _ e]
      exact ((h.ord j hj).keep k (by omega)).keep k2 (by omega)

/-- A log's places are made longer, its field is set. -/
theorem St.put_pl {w w1 : World} {T T' : Nat → Nat} {B : Nat} {g : G} (h : St w T B g) (q : Nat) (d : Lp) (hq : g.desc[q]? = some d) (k : Keep T T' (7 + 3 * q) w w1) (l : List Nat) (v : Value)
    (ho : Own w1 T' (7 + 3 * q) 3 1 v l.length (intsC l)) :
    Keep0 T T' w (w1.setCell ⟨g.L q, 4, none⟩ v) ∧ St (w1.setCell ⟨g.L q, 4, none⟩ v) T' B { g with pl := upd g.pl q l, plV := upd g.plV q v } := by
  obtain ⟨t1, t2, t3, t4, t5⟩ := h.tags k
  have hql := get_lt hq
  have k2 : Keep T' T' (5 + 3 * q) w1 (w1.setCell ⟨g.L q, 4, none⟩ v) := by have := Keep.set T' w1 (g.L q) 4 v; rwa [t5 q hql] at this
  have k0 := (k.zero (by omega)).trans (k2.zero (by omega))
  refine ⟨k0, ⟨t1, Nat.le_trans t2 k2.size, (h.run.keep k (by rw [h.tR]; omega)).keep k2 (by rw [t3]; omega), t3, h.crashed.keep0 (by omega) k0, h.logs.keep0 (by omega) k0, (h.ids.keep k (by rw [h.tM]; omega)).keep k2 (by rw [t4]; omega), t4, (h.msgs.keep k (by omega)).keep k2 (by omega),
    fun m hm => ⟨(h.msgI m hm).1.keep0 (by omega) k0, (h.msgI m hm).2.keep0 (by omega) k0⟩, (h.vios.keep k (by omega)).keep k2 (by omega), fun m hm => ⟨(h.vioI m hm).1.keep0 (by omega) k0, (h.vioI m hm).2.keep0 (by omega) k0⟩,
    fun j d' hd => ?_, t5, fun j hj => ((h.ord j hj).keep k (by omega)).keep k2 (by omega), fun j hj => ?_⟩⟩
  · by_cases e : j = q
    · subst e
      have hd2 : g.desc[j]? = some d' := hd
      rw [hq] at hd2
      cases hd2
      show Blk _ (g.L j) 106 (logCells d (g.ordV j) (upd g.plV j v j))
      rw [upd_same]
      exact ((h.lblk j d hq).keep k (by rw [h.tL j hql]; omega)).set 4 v
    · show Blk _ (g.L j) 106 (logCells d' (g.ordV j) (upd g.plV q v j))
      rw [upd_other _ _ e]
      exact ((h.lblk j d' hd).keep k (by rw [h.lT hd]; omega)).keep k2 (by rw [t5 j (get_lt hd)]; omega)
  · by_cases e : j = q
    · subst e
      show Own _ T' _ 3 1 (upd g.plV j v j) (upd g.pl j l j).length (intsC (upd g.pl j l j))
      rw [upd_same, upd_same]
      exact ho.keep k2 (by omega)
    · show Own _ T' _ 3 1 (upd g.plV q v j) (upd g.pl q l j).length (intsC (upd g.pl q l j))
      rw [upd_other _ _ e, upd_other _ _ e]
      exact ((h.pl j hj).keep k (by omega)).keep k2 (by omega)

/-- A place is stored. -/
theorem St.set_pl {w : World} {T : Nat → Nat} {B : Nat} {g : G} (h : St w T B g) (q : Nat) (hq : q < g.desc.length) (b cap m p : Nat) (hv : g.plV q = .slice (some ⟨b, 0, none⟩) (g.pl q).length cap) :
    Keep0 T T w (w.setCell ⟨b, m, none⟩ (.int .i64 (p : Int))) ∧ St (w.setCell ⟨b, m, none⟩ (.int .i64 (p : Int))) T B { g with pl := upd g.pl q ((g.pl q).set m p) } := by
  have hp := h.pl q hq
  have hb : T b = 7 + 3 * q := hp.tag b (by rw [hv]; rfl)
  have k : Keep T T (7 + 3 * q) w (w.setCell ⟨b, m, none⟩ (.int .i64 (p : Int))) := by have := Keep.set T w b m (.int .i64 (p : Int)); rwa [hb] at this
  have k0 := k.zero (by omega)
  obtain ⟨t1, t2, t3, t4, t5⟩ := h.tags k
  refine ⟨k0, ⟨t1, t2, h.run.keep k (by rw [h.tR]; omega), t3, h.crashed.keep0 (by omega) k0, h.logs.keep0 (by omega) k0, h.ids.keep k (by rw [h.tM]; omega), t4, h.msgs.keep k (by omega),
    fun m hm => ⟨(h.msgI m hm).1.keep0 (by omega) k0, (h.msgI m hm).2.keep0 (by omega) k0⟩, h.vios.keep k (by omega), fun m hm => ⟨(h.vioI m hm).1.keep0 (by omega) k0, (h.vioI m hm).2.keep0 (by omega) k0⟩,
    fun j d hd => (h.lblk j d hd).keep k (by rw [h.lT hd]; omega), t5, fun j hj => (h.ord j hj).keep k (by omega), fun j hj => ?_⟩⟩
  by_cases e : j = q
  · subst e
    show Own _ T _ 3 1 (g.plV j) (upd g.pl j ((g.pl j).set m p) j).length (intsC (upd g.pl j ((g.pl j).set m p) j))
    rw [upd_same, List.length_set]
    refine ⟨?_, hp.tag⟩
    have h1 := hp.row
    rw [hv] at h1 ⊢
    have h2 := (h1.stored m (.int .i64 (p : Int))).1
    rwa [show intsC ((g.pl j).set m p) = (intsC (g.pl j)).set m (.int .i64 (p : Int)) by simp [intsC, List.map_set]]
  · show Own _ T _ 3 1 (g.plV j) (upd g.pl q ((g.pl q).set m p) j).length (intsC (upd g.pl q ((g.pl q).set m p) j))
    rw [upd_other _ _ e]
    exact (h.pl j hj).keep k (by omega)

end Go.Proofs.Qxb6601949a.Sc
