/- THE SCRIPT LAWS: dupFlags. -/
import Derived.Test.Qxb6601949aScNum
namespace Go.Proofs.Qxb6601949a.Sc
open Go.RowKit Go.Maps
set_option linter.unusedVariables false
set_option linter.unusedSimpArgs false

/-- The log and the id of line j. -/
def dk (ds : List Dp) (j : Nat) : Option (Int × ByteArray) := (ds[j]?).map fun d => (d.log, d.id)
def dupAt (ds : List Dp) (i : Nat) : Bool := (List.range i).any fun j => decide (dk ds j = dk ds i)
theorem dk_of {ds : List Dp} {j : Nat} {d : Dp} (h : ds[j]? = some d) : dk ds j = some (d.log, d.id) := by simp [dk, h]
theorem dupAt_yes {ds : List Dp} {i j : Nat} (hj : j < i) (h : dk ds j = dk ds i) : dupAt ds i = true := by
  unfold dupAt
  exact List.any_eq_true.2 ⟨j, List.mem_range.2 hj, decide_eq_true h⟩
theorem dupAt_no {ds : List Dp} {i : Nat} (h : ∀ j, j < i → ¬ dk ds j = dk ds i) : dupAt ds i = false := by
  unfold dupAt
  rw [List.any_eq_false]
  intro j hj
  simpa using h j (List.mem_range.1 hj)
def dupRow (ds : List Dp) (k : Nat) : Nat → Value := fun j => .bool (decide (j < k) && dupAt ds j)
def boolsC (l : List Bool) : List Value := l.map fun b => .bool b
def dupL (ds : List Dp) : List Bool := (List.range ds.length).map (dupAt ds)

theorem info4 : (Try.prog.info? 4).map (fun i => (i.zero, i.size, i.bytes)) = some (some (.bool false), 1, 1) := by kernel_rfl

theorem dupRow_yes {ds : List Dp} {k : Nat} (h : dupAt ds k = true) (j : Nat) : (if j = k then Value.bool true else dupRow ds k j) = dupRow ds (k + 1) j := by
  unfold dupRow
  by_cases e : j = k
  · subst e; simp [h]
  · rw [if_neg e]
    congr 2
    exact decide_eq_decide.2 (by omega)
theorem dupRow_no {ds : List Dp} {k : Nat} (h : dupAt ds k = false) (j : Nat) : dupRow ds k j = dupRow ds (k + 1) j := by
  unfold dupRow
  by_cases e : j = k
  · subst e; simp [h]
  · congr 2
    exact decide_eq_decide.2 (by omega)

def DupPost (w : World) (ds : List Dp) (e : Ending) (w' : World) : Prop :=
  ∃ sD : Sl, e = .returned (.slice sD.a sD.n sD.cap) ∧ sD.n = ds.length ∧ CellsAt w' sD 1 (boolsC (dupL ds)) ∧ Below w.heap.size w w'

set_option maxRecDepth 100000 in
set_option maxHeartbeats 2000000 in
theorem dupFlags_any (w : World) (s : Sl) (ds : List Dp) (hn : s.n ≤ 4096) (h : DsAt w s ds) :
    Calls Try.prog 25 #[.slice s.a s.n s.cap] w fun e w' => DupPost w ds e w' := by
  have hlen := h.len
  have hmk := run_make_row' (P := Try.prog) 47 4 (.bool false) 1 Try.underlying47 info4 rfl .i64 .i64 s.n (by omega) (by omega)
  have H0 := World.rowIs_made w (.bool false) s.n 4
  have B0 : Below w.heap.size w (w.alloc (.cells (madeCells #[.bool false] s.n) 4)) := (Below.refl _ w).alloc (Nat.le_refl _) _
  go_enter Try.func25, Try.ntmps25
  go_wp2
  clear hmk
  go_loopw [4] (fun i wr => ∃ k : Nat, k ≤ s.n ∧ i = .int .i64 k ∧ wr.rowIs w.heap.size 4 s.n (dupRow ds k) ∧ Below w.heap.size w wr) (fun i _ => s.n - (intOf i).toNat)
  case atStart => exact ⟨0, Nat.zero_le _, rfl, H0.congr (fun i _ => by simp [dupRow]), B0⟩
  case round =>
    obtain ⟨k, hk, rfl, hN, hB⟩ := hrel
    clear H0 B0
    by_cases hlt : k < s.n
    · obtain ⟨wo, rfl⟩ : ∃ wo : World, wo = wr := ⟨_, rfl⟩
      have hD := h.of_below (w' := wo) hB
      have ha := h.at' (by omega)
      obtain ⟨d, t0, k0, hd, hE⟩ := hD.get hlt
      have a0 := hE.c0
      have a1 := hE.c1
      have hdk := dk_of hd
      have c1 := hN.cell hlt
      have f1 := hN.frozen k
      have hkI : (k : Int) < (s.n : Int) := by omega
      have hlt' : Hid (k < s.n) := hlt
      clear hE
      go_wp2
      go_loopw [5] (fun jj wr => ∃ (j m : Nat), j ≤ k ∧ jj = .int .i64 j ∧ wr = wo.drewN m ∧ Hid (∀ q, q < j → ¬ dk ds q = dk ds k)) (fun jj _ => k - (intOf jj).toNat)
      case atStart => exact ⟨0, 0, Nat.zero_le _, rfl, rfl, fun q hq => by omega⟩
      case round =>
        obtain ⟨j, m, hj, rfl, rfl, hno⟩ := hrel
        by_cases hjk : j < k
        · obtain ⟨d', t', k', hd', hE'⟩ := hD.get (i := j) (by omega)
          have b0 := hE'.c0
          have b1 := hE'.c1
          have hdk' := dk_of hd'
          have hjI : (j : Int) < (s.n : Int) := by omega
          have hjk' : Hid (j < k) := hjk
          clear hE' hD
          by_cases e1 : d'.log = d.log
          · have q1 : (d'.log == d.log) = true := beq_iff_eq.2 e1
            by_cases e2 : d'.id = d.id
            · have q2 := beqL_true e2
              have hdup : Hid (dupAt ds k = true) := dupAt_yes hjk (by rw [hdk, hdk', e1, e2])
              clear hdk hdk' hd hd'
              go_wp2
              go_quiet (fail)
              go_wp2
              go_roundw
              case rel => exact ⟨k + 1, hlt'.out, by go_num, (hN.set k (.bool true)).congr (fun q _ => dupRow_yes hdup.out q), (below_drewN hB _).setCell (Nat.le_refl _) _⟩
              case measure => have := hlt'.out; simp [intOf]; omega
            · have q2 := beqL_false e2
              have hno' : Hid (∀ q, q < j + 1 → ¬ dk ds q = dk ds k) := fun q hq => by
                by_cases e3 : q = j
                · subst e3; rw [hdk, hdk']; intro hh; exact e2 (congrArg Prod.snd (Option.some.inj hh))
                · exact hno.out q (by omega)
              clear hdk hdk' hd hd'
              go_wp2
              go_quiet (fail)
              go_wp2
              go_roundw
              case rel => exact ⟨j + 1, m + nq, by omega, by go_num, by simp, hno'⟩
              case measure => have := hjk'.out; simp [intOf]; omega
          · have q1 : (d'.log == d.log) = false := beq_eq_false_iff_ne.2 e1
            have hno' : Hid (∀ q, q < j + 1 → ¬ dk ds q = dk ds k) := fun q hq => by
              by_cases e3 : q = j
              · subst e3; rw [hdk, hdk']; intro hh; exact e1 (congrArg Prod.fst (Option.some.inj hh))
              · exact hno.out q (by omega)
            clear hdk hdk' hd hd'
            go_wp2
            go_quiet (fail)
            go_wp2
            go_roundw
            case rel => exact ⟨j + 1, m + nq, by omega, by go_num, by simp, hno'⟩
            case measure => have := hjk'.out; simp [intOf]; omega
        · obtain rfl : j = k := by omega
          have hdup : Hid (dupAt ds j = false) := dupAt_no hno.out
          clear hD hdk hd
          go_wp2
          go_roundw
          case rel => exact ⟨j + 1, hlt'.out, by go_num, World.rowIs.congr hN (fun q _ => dupRow_no hdup.out q), below_drewN hB _⟩
          case measure => have := hlt'.out; simp [intOf]; omega
    · obtain rfl : k = s.n := by omega
      have hfin : DupPost w ds (.returned (.slice (some ⟨w.heap.size, 0, none⟩) s.n s.n)) wr := by
        refine ⟨⟨some ⟨w.heap.size, 0, none⟩, w.heap.size, 0, s.n, s.n⟩, rfl, hlen.symm, ⟨by simp [boolsC, dupL, hlen], fun _ => rfl, (fun hh => by cases hh), fun j v hj => ?_⟩, hB⟩
        have hjl : j < s.n := by have := get_lt hj; simp [boolsC, dupL, hlen] at this; exact this
        show wr.cell? ⟨w.heap.size, 0 + j, none⟩ = some v
        rw [Nat.zero_add, hN.cell hjl, ← hj]
        simp [dupRow, boolsC, dupL, hjl, hlen]
      clear h hN
      go_wp2
      go_ret
      exact hfin

end Go.Proofs.Qxb6601949a.Sc
