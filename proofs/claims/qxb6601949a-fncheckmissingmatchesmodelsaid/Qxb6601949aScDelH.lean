/- THE SCRIPT LAWS: deliver: helpers. -/
import Derived.Test.Qxb6601949aScPure
import Derived.Deep.Cut
import Derived.Deep.RegionLaw
namespace Go.Proofs.Qxb6601949a.Sc
open Go.RowKit Go.Maps
set_option linter.unusedVariables false
set_option linter.unusedSimpArgs false

/-- The boxed entry and what hangs on it. -/
structure Ent (w : World) (T : Nat → Nat) (E : Nat) (id : ByteArray) (ts : Int) (tos : Sl) (to : List ByteArray) (kes : Sl) (keys : List (ByteArray × Bool)) : Prop where
  blk : Blk w E 75 #[.string id, .int .u64 ts, .slice tos.a tos.n tos.cap, .slice kes.a kes.n kes.cap]
  tag : T E = 0
  I : Imm w T tos 1 (strsC to)
  J : Imm w T kes 2 (keysC keys)
theorem Ent.keep0 {w w' : World} {T T' : Nat → Nat} {E : Nat} {id : ByteArray} {ts : Int} {tos : Sl} {to : List ByteArray} {kes : Sl} {keys : List (ByteArray × Bool)} (h : Ent w T E id ts tos to kes keys) (k : Keep0 T T' w w') : Ent w' T' E id ts tos to kes keys :=
  ⟨(k.block E h.blk.lt h.tag).trans h.blk, (k.tag E h.blk.lt).trans h.tag, h.I.keep0 (by omega) k, h.J.keep0 (by omega) k⟩

/-- What never turns. -/
structure Same (g g' : G) : Prop where
  cmp : g'.cmp = g.cmp
  crs : g'.crs = g.crs
  cr : g'.cr = g.cr
  lss : g'.lss = g.lss
  R : g'.R = g.R
  L : g'.L = g.L
  desc : g'.desc = g.desc
theorem Same.refl (g : G) : Same g g := ⟨rfl, rfl, rfl, rfl, rfl, rfl, rfl⟩
theorem Same.trans {a b c : G} (h : Same a b) (k : Same b c) : Same a c := ⟨k.cmp.trans h.cmp, k.crs.trans h.crs, k.cr.trans h.cr, k.lss.trans h.lss, k.R.trans h.R, k.L.trans h.L, k.desc.trans h.desc⟩
/-- The map of ids says where each message stands. -/
structure Good (g : G) : Prop where
  idf : ∀ x, g.idf x = (idx (ps g).msgs x).map fun i : Nat => Value.int .i64 (i : Int)
  idn : g.idn ≤ g.msgs.length
  frm : ∀ m, m ∈ g.msgs → m.frm < g.desc.length

theorem zero3 (w : World) : (zeroValue 3).run Try.prog w = .ok (.int .i64 0) w := by kernel_rfl

/-- WHAT deliver LEAVES. -/
def DelPost (w : World) (T : Nat → Nat) (B : Nat) (g : G) (s : Ps) (e : Ending) (w' : World) : Prop :=
  e = .returned (.tuple #[]) ∧ ∃ T' g', Keep0 T T' w w' ∧ St w' T' B g' ∧ Same g g' ∧ Good g' ∧ ps g' = s

/-- Where the walk stands: the run's state, the entry, what is known. -/
def Here (w : World) (T : Nat → Nat) (B : Nat) (g : G) (E : Nat) (id : ByteArray) (ts : Int) (tos : Sl) (to : List ByteArray) (kes : Sl) (keys : List (ByteArray × Bool)) (P : G → Prop) (wx : World) : Prop :=
  ∃ T1 g1, Keep0 T T1 w wx ∧ St wx T1 B g1 ∧ Ent wx T1 E id ts tos to kes keys ∧ Same g g1 ∧ P g1
theorem Here.below {w w1 wx : World} {T T1 : Nat → Nat} {B : Nat} {g g1 : G} {E : Nat} {id : ByteArray} {ts : Int} {tos : Sl} {to : List ByteArray} {kes : Sl} {keys : List (ByteArray × Bool)} {P : G → Prop}
    (K1 : Keep0 T T1 w w1) (S1 : St w1 T1 B g1) (E1 : Ent w1 T1 E id ts tos to kes keys) (M1 : Same g g1) (P1 : P g1) (hb : Below w1.heap.size w1 wx) : Here w T B g E id ts tos to kes keys P wx := by
  obtain ⟨T2, k2, _, S2⟩ := S1.below hb
  have k02 : Keep0 T1 T2 w1 wx := ⟨k2.os, k2.tape, k2.output, k2.size, k2.tag, fun b hbb _ => hb.block b hbb⟩
  exact ⟨T2, g1, K1.trans k02, S2, E1.keep0 k02, M1, P1⟩

theorem step_mapUpdate_at (w : World) {ops : Array Oper} {o : Oper} {a : Act} {K : Act → World → Prop} {Q : Exit → Act → World → Prop} {E : Prop} (hgd : o.guard = none) (m x v : Operand) (t e : TypeId) (ht : Try.prog.underlying t = some (.map 9 e))
    (ho : o.op = Op.mapUpdate t m x v) (b n : Nat) (f : ByteArray → Option Value) (hm : a.eval m = .map (some b)) (h : MapAt w b n f) (hn : n < maxLen) (s : ByteArray) (hs : s.size ≤ maxLen) (hx : a.eval x = .string s) (u : Value) (hv : a.eval v = u)
    (hK : ∀ w', MapAt w' b (n + 1) (fun y => if y = s then some u else f y) → w.grownBy w' (some b) → K (a.put o.dst undef) w') :
    if Region.wanted o (yielded ops a.tmps) = true then Oper.wp Try.prog o a w K Q else E := by
  have hw : Region.wanted o (yielded ops a.tmps) = true := by simp [Region.wanted, hgd]
  rw [if_pos hw]
  obtain ⟨w', hr, h2, h3⟩ := h.update ht hn s hs u
  unfold Oper.wp
  simp [execOp, ho, hm, hx, hv, hr, Result.andThen]
  exact hK w' h2 h3

theorem idx_snoc (l : List Mp) (d : Mp) (x : ByteArray) : idx (l ++ [d]) x = (idx l x).or (if d.id = x then some l.length else none) := by
  unfold idx
  rw [List.findIdx?_append]
  congr 1
  by_cases e : d.id = x <;> simp [e, List.findIdx?_cons]
theorem new_msg {g g2 g3 : G} (m : Msg) (v : Value) (hP : ps g2 = { ps g with dels := (ps g).dels + 1 }) (G2 : Good g2) (hix : idx (ps g).msgs m.id = none) (hmsg : g3.msgs = g2.msgs) (hps : ps g3 = ps g2)
    (hidf : ∀ y, g3.idf y = if y = m.id then some (.int .i64 (g2.msgs.length : Int)) else g2.idf y) (hidn : g3.idn = g2.idn + 1) (hds : g3.desc = g2.desc) (hfr : m.frm < g3.desc.length) :
    Good { g3 with msgs := g3.msgs ++ [m], msgV := v } ∧ ps { g3 with msgs := g3.msgs ++ [m], msgV := v } = st1 (absM m) (ps g) := by
  have h1 : (ps { g3 with msgs := g3.msgs ++ [m], msgV := v }).msgs = (ps g).msgs ++ [absM m] := by
    show (g3.msgs ++ [m]).map absM = _
    rw [List.map_append, show g3.msgs.map absM = (ps g3).msgs from rfl, hps, hP]; rfl
  have h2 : g2.msgs.length = (ps g).msgs.length := by
    have := congrArg (fun s : Ps => s.msgs.length) hP
    simpa [ps] using this
  refine ⟨⟨fun x => ?_, ?_, fun m' hm' => ?_⟩, ?_⟩
  · show g3.idf x = _
    rw [hidf, h1, idx_snoc]
    by_cases e : x = m.id
    · subst e
      rw [hix, if_pos rfl, h2]
      simp [absM]
    · rw [if_neg e, G2.idf x, show (ps g2).msgs = (ps g).msgs by rw [hP]]
      rw [if_neg (show ¬ (absM m).id = x from fun h => e h.symm)]
      cases idx (ps g).msgs x <;> rfl
  · show g3.idn ≤ (g3.msgs ++ [m]).length
    rw [hidn, hmsg]
    have := G2.idn
    simp; omega
  · show m'.frm < g3.desc.length
    rcases List.mem_append.1 hm' with h4 | h4
    · rw [hds]; rw [hmsg] at h4; exact G2.frm m' h4
    · rw [List.mem_singleton.1 h4]; exact hfr
  · have h3 : ps { g3 with msgs := g3.msgs ++ [m], msgV := v } = { ps g3 with msgs := (ps g).msgs ++ [absM m] } := by rw [← h1]; rfl
    rw [h3, hps, hP]
    unfold st1
    rw [show (absM m).id = m.id from rfl, hix]
    rfl

theorem St.put_msgs' {w w1 : World} {T T' : Nat → Nat} {B : Nat} {g : G} (h : St w T B g) {R : Nat} (hR : g.R = R) (k : Keep T T' 3 w w1) (m : Msg) (v : Value)
    (ho : Own w1 T' 3 88 5 v (g.msgs.length + 1) (g.msgs.flatMap (msgCells g.L) ++ msgCells g.L m)) (hI : Imm w T m.tos 1 (strsC m.to)) (hJ : Imm w T m.kes 2 (keysC m.keys)) :
    Keep0 T T' w (w1.setCell ⟨R, 3, none⟩ v) ∧ St (w1.setCell ⟨R, 3, none⟩ v) T' B { g with msgs := g.msgs ++ [m], msgV := v } := by
  subst hR; exact h.put_msgs k m v ho hI hJ
theorem St.put_ord' {w w1 : World} {T T' : Nat → Nat} {B : Nat} {g : G} (h : St w T B g) (q : Nat) (d : Lp) (hq : g.desc[q]? = some d) {lb : Nat} (hl : g.L q = lb) (k : Keep T T' (6 + 3 * q) w w1) (l : List Nat) (v : Value)
    (ho : Own w1 T' (6 + 3 * q) 3 1 v l.length (intsC l)) :
    Keep0 T T' w (w1.setCell ⟨lb, 3, none⟩ v) ∧ St (w1.setCell ⟨lb, 3, none⟩ v) T' B { g with ord := upd g.ord q l, ordV := upd g.ordV q v } := by
  subst hl; exact h.put_ord q d hq k l v ho
theorem St.put_pl' {w w1 : World} {T T' : Nat → Nat} {B : Nat} {g : G} (h : St w T B g) (q : Nat) (d : Lp) (hq : g.desc[q]? = some d) {lb : Nat} (hl : g.L q = lb) (k : Keep T T' (7 + 3 * q) w w1) (l : List Nat) (v : Value)
    (ho : Own w1 T' (7 + 3 * q) 3 1 v l.length (intsC l)) :
    Keep0 T T' w (w1.setCell ⟨lb, 4, none⟩ v) ∧ St (w1.setCell ⟨lb, 4, none⟩ v) T' B { g with pl := upd g.pl q l, plV := upd g.plV q v } := by
  subst hl; exact h.put_pl q d hq k l v ho

theorem imm_new {w : World} {T : Nat → Nat} {b : Nat} (ss : List ByteArray) (h : Blk w b 9 (strsC ss).toArray) (ht : T b = 0) : Imm w T ⟨some ⟨b, 0, none⟩, b, 0, ss.length, ss.length⟩ 1 (strsC ss) :=
  ⟨⟨by simp [strsC], fun _ => rfl, (fun hh => by cases hh), fun j v hj => by
      show w.cell? ⟨b, 0 + j, none⟩ = some v
      rw [Nat.zero_add, h.cell j]; simpa using hj⟩, fun _ => ht⟩
theorem report_two (wc : World) (T : Nat → Nat) (B : Nat) (g : G) (S : St wc T B g) (hn : g.vios.length ≤ 1099511627776) (wx : World) (hb : Below wc.heap.size wc wx) (R : Nat) (hR : g.R = R) (kind : ByteArray) (b1 b2 : Nat) (ids reps : List ByteArray)
    (h1 : Blk wx b1 9 (strsC ids).toArray) (l1 : wc.heap.size ≤ b1) (h2 : Blk wx b2 9 (strsC reps).toArray) (l2 : wc.heap.size ≤ b2) :
    Calls Try.prog 57 #[.pointer (some ⟨R, 0, none⟩), .string kind, .slice (some ⟨b1, 0, none⟩) ids.length ids.length, .slice (some ⟨b2, 0, none⟩) reps.length reps.length] wx
      fun e w' => e = .returned (.tuple #[]) ∧ ∃ T' g', Keep0 T T' wc w' ∧ St w' T' B g' ∧ Same g g' ∧ (Good g → Good g') ∧ ps g' = { ps g with vios := (ps g).vios ++ [⟨kind, ids, reps⟩] } := by
  subst hR
  obtain ⟨T2, k2, hT2, S2⟩ := S.below hb
  have k02 : Keep0 T T2 wc wx := ⟨k2.os, k2.tape, k2.output, k2.size, k2.tag, fun b hbb _ => hb.block b hbb⟩
  have i1 : Imm wx T2 ⟨some ⟨b1, 0, none⟩, b1, 0, ids.length, ids.length⟩ 1 (strsC ids) := imm_new ids h1 (by rw [hT2]; exact if_neg (by omega))
  have i2 : Imm wx T2 ⟨some ⟨b2, 0, none⟩, b2, 0, reps.length, reps.length⟩ 1 (strsC reps) := imm_new reps h2 (by rw [hT2]; exact if_neg (by omega))
  refine (report_any wx T2 B g S2 kind _ _ ids reps i1 i2 (by omega)).mono ?_
  rintro e w' ⟨he, T', v, k3, S3⟩
  refine ⟨he, T', _, k02.trans k3, S3, ⟨rfl, rfl, rfl, rfl, rfl, rfl, rfl⟩, fun hG => ⟨hG.idf, hG.idn, hG.frm⟩, ?_⟩
  simp [ps, absV]
theorem blk_two1 (w : World) (c : Array Value) (o : Obj) : Blk ((w.alloc (.cells c 9)).alloc o).drew w.heap.size 9 c := by
  show ((w.alloc (.cells c 9)).alloc o).heap[w.heap.size]? = _
  rw [heap_alloc_old _ _ (by simp)]
  exact heap_alloc_new w _
theorem blk_two2 (w : World) (c : Array Value) (o : Obj) : Blk ((w.alloc o).alloc (.cells c 9)).drew (w.heap.size + 1) 9 c := by
  have := heap_alloc_new (w.alloc o) (.cells c 9)
  rwa [show (w.alloc o).heap.size = w.heap.size + 1 by simp] at this
theorem grow_ints (l : List Nat) (m : Nat) : intsC (grow l m) = intsC l ++ zs (m + 1 - l.length) := by simp [intsC, grow, zs]
theorem grow_len (l : List Nat) (m : Nat) : (grow l m).length = l.length + (m + 1 - l.length) := by simp [grow]
theorem grow_id {l : List Nat} {m : Nat} (h : m < l.length) : grow l m = l := by
  unfold grow; rw [show m + 1 - l.length = 0 by omega]; simp
theorem flat_get {α : Type} (f : α → List Value) (sz : Nat) (hf : ∀ x, (f x).length = sz) : ∀ (l : List α) (i : Nat) (x : α), l[i]? = some x → ∀ j, j < sz → (l.flatMap f)[i * sz + j]? = (f x)[j]?
  | [], i, x, h, _, _ => by simp at h
  | y :: r, 0, x, h, j, hj => by
    simp at h; subst h
    rw [List.flatMap_cons, Nat.zero_mul, Nat.zero_add, List.getElem?_append_left (by rw [hf]; exact hj)]
  | y :: r, i + 1, x, h, j, hj => by
    rw [List.flatMap_cons, List.getElem?_append_right (by rw [hf]; exact Nat.le_trans (Nat.le_mul_of_pos_left _ (Nat.succ_pos i)) (Nat.le_add_right _ _)), hf,
      show (i + 1) * sz + j - sz = i * sz + j by rw [Nat.add_mul]; omega]
    exact flat_get f sz hf r i x (by simpa using h) j hj
theorem wrap_diff (m l : Nat) (h : l ≤ m) (hm : m ≤ 4096) : IntKind.i64.wrap (IntKind.i64.wrap ((m : Int) + 1) - (l : Int)) = ((m + 1 - l : Nat) : Int) := by
  have h1 : IntKind.i64.wrap ((m : Int) + 1) = (m : Int) + 1 := by rw [IntKind.wrap_i64]; omega
  rw [h1]
  have h2 : IntKind.i64.wrap ((m : Int) + 1 - (l : Int)) = (m : Int) + 1 - (l : Int) := by rw [IntKind.wrap_i64]; omega
  rw [h2]; omega


/-! ### The tails of deliver's body -/
def firstR : Code → Option Nat
  | .region i _ _ => some i
  | .seq a _ => firstR a
  | .scope c => firstR c
  | .block _ c => firstR c
  | _ => none
def tailR (n : Nat) : Code → Option Code
  | .seq a b => if firstR a == some n then some (.seq a b) else match tailR n b with
    | some c => some c
    | none => tailR n a
  | .scope c => tailR n c
  | .block _ c => tailR n c
  | c => if firstR c == some n then some c else none
noncomputable def tail54 (n : Nat) : Code := (Try.f54.body.bind (tailR n)).getD .skip

end Go.Proofs.Qxb6601949a.Sc
