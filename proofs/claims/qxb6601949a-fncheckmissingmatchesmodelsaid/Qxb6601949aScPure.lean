/- THE SCRIPT LAWS: what deliver does, without memory. -/
import Derived.Test.Qxb6601949aScZeros
namespace Go.Proofs.Qxb6601949a.Sc
open Go.RowKit Go.Maps
set_option linter.unusedVariables false
set_option linter.unusedSimpArgs false

structure Mp where
  id : ByteArray
  ts : Int
  to : List ByteArray
  keys : List (ByteArray × Bool)
  frm : Nat
structure Vp where
  kind : ByteArray
  ids : List ByteArray
  reps : List ByteArray
structure Ps where
  dels : Nat
  msgs : List Mp
  vios : List Vp
  ord : Nat → List Nat
  pl : Nat → List Nat
def idx (ms : List Mp) (x : ByteArray) : Option Nat := ms.findIdx? (fun m => decide (m.id = x))
def kDup : ByteArray := ⟨#[100, 117, 112, 108, 105, 99, 97, 116, 101]⟩
def kWrong : ByteArray := ⟨#[119, 114, 111, 110, 103, 45, 100, 101, 115, 116, 105, 110, 97, 116, 105, 111, 110]⟩
def kTs : ByteArray := ⟨#[116, 105, 109, 101, 115, 116, 97, 109, 112]⟩
def absM (m : Msg) : Mp := ⟨m.id, m.ts, m.to, m.keys, m.frm⟩
def absV (v : Vio) : Vp := ⟨v.kind, v.ids, v.reps⟩
def ps (g : G) : Ps := ⟨g.dels, g.msgs.map absM, g.vios.map absV, g.ord, g.pl⟩
def grow (l : List Nat) (m : Nat) : List Nat := l ++ List.replicate (m + 1 - l.length) 0
def repOf (desc : List Lp) (q : Nat) : ByteArray := ((desc[q]?).map (·.rep)).getD ⟨#[]⟩
def grpOf (desc : List Lp) (q : Nat) : ByteArray := ((desc[q]?).map (·.grp)).getD ⟨#[]⟩
def mOf (s : Ps) (x : ByteArray) : Nat := (idx s.msgs x).getD s.msgs.length
def st1 (d : Mp) (s : Ps) : Ps := { s with dels := s.dels + 1, msgs := if (idx s.msgs d.id).isSome then s.msgs else s.msgs ++ [d] }
def st2 (q m : Nat) (s : Ps) : Ps := { s with ord := upd s.ord q (s.ord q ++ [m]), pl := upd s.pl q ((grow (s.pl q) m).set m ((s.ord q).length + 1)) }
def vio1 (desc : List Lp) (q : Nat) (d : Mp) : List Vp := if memB (grpOf desc q) d.to then [] else [⟨kWrong, [d.id], [repOf desc q]⟩]
def vio2 (desc : List Lp) (q : Nat) (d f : Mp) : List Vp := if f.ts = d.ts ∧ f.to = d.to ∧ f.keys = d.keys then [] else [⟨kTs, [d.id], [repOf desc f.frm, repOf desc q]⟩]
def stepP (desc : List Lp) (q : Nat) (d : Mp) (s : Ps) : Ps :=
  if (plc (s.pl q) (mOf s d.id)).isSome then { st1 d s with vios := s.vios ++ [⟨kDup, [d.id], [repOf desc q]⟩] }
  else { st2 q (mOf s d.id) (st1 d s) with vios := s.vios ++ vio1 desc q d ++ vio2 desc q d ((st1 d s).msgs.getD (mOf s d.id) d) }

/-- What holds of the run after i lines. -/
structure Bnd (i : Nat) (s : Ps) : Prop where
  dels : s.dels = i
  msgs : s.msgs.length ≤ i
  vios : s.vios.length ≤ 2 * i
  ord : ∀ k, (s.ord k).length ≤ i
  pl : ∀ k, (s.pl k).length ≤ i
  plx : ∀ k x, x ∈ s.pl k → x ≤ i

theorem idx_lt {ms : List Mp} {x : ByteArray} {i : Nat} (h : idx ms x = some i) : i < ms.length := by
  unfold idx at h
  rw [List.findIdx?_eq_some_iff_getElem] at h
  exact h.1
theorem mOf_le (s : Ps) (x : ByteArray) : mOf s x ≤ s.msgs.length := by
  unfold mOf
  cases h : idx s.msgs x with
  | none => exact Nat.le_refl _
  | some i => exact Nat.le_of_lt (idx_lt h)
theorem grow_length (l : List Nat) (m : Nat) : (grow l m).length = max l.length (m + 1) := by simp [grow]; omega
theorem mOf_lt (d : Mp) (s : Ps) : mOf s d.id < (st1 d s).msgs.length := by
  unfold mOf st1
  cases h : idx s.msgs d.id with
  | none => simp
  | some i => simpa using idx_lt h

theorem Bnd.step {i : Nat} {s : Ps} (h : Bnd i s) (desc : List Lp) (q : Nat) (d : Mp) : Bnd (i + 1) (stepP desc q d s) := by
  have h1 : (st1 d s).msgs.length ≤ i + 1 := by
    unfold st1
    have := h.msgs
    split <;> simp <;> omega
  have hm : mOf s d.id + 1 ≤ i + 1 := by have := mOf_le s d.id; have := h.msgs; omega
  unfold stepP
  split
  · refine ⟨?_, h1, ?_, fun k => ?_, fun k => ?_, fun k x hx => ?_⟩
    · show s.dels + 1 = i + 1; rw [h.dels]
    · have := h.vios; simp; omega
    · exact Nat.le_succ_of_le (h.ord k)
    · exact Nat.le_succ_of_le (h.pl k)
    · exact Nat.le_succ_of_le (h.plx k x hx)
  · refine ⟨?_, h1, ?_, fun k => ?_, fun k => ?_, fun k x hx => ?_⟩
    · show s.dels + 1 = i + 1; rw [h.dels]
    · have h2 : (vio1 desc q d).length ≤ 1 := by unfold vio1; split <;> simp
      have h3 : ∀ f, (vio2 desc q d f).length ≤ 1 := fun f => by unfold vio2; split <;> simp
      have h4 := h3 ((st1 d s).msgs.getD (mOf s d.id) d)
      have := h.vios
      simp only [List.length_append]
      omega
    · show (upd s.ord q (s.ord q ++ [mOf s d.id]) k).length ≤ i + 1
      unfold upd
      split
      · have := h.ord q; simp; omega
      · exact Nat.le_succ_of_le (h.ord k)
    · show (upd s.pl q ((grow (s.pl q) (mOf s d.id)).set (mOf s d.id) ((s.ord q).length + 1)) k).length ≤ i + 1
      unfold upd
      split
      · have := h.pl q; rw [List.length_set, grow_length]; omega
      · exact Nat.le_succ_of_le (h.pl k)
    · have hx' : x ∈ upd s.pl q ((grow (s.pl q) (mOf s d.id)).set (mOf s d.id) ((s.ord q).length + 1)) k := hx
      unfold upd at hx'
      split at hx'
      · rcases List.mem_or_eq_of_mem_set hx' with h5 | h5
        · rcases List.mem_append.1 h5 with h6 | h6
          · exact Nat.le_succ_of_le (h.plx q x h6)
          · rw [List.eq_of_mem_replicate h6]; omega
        · have := h.ord q; omega
      · exact Nat.le_succ_of_le (h.plx k x hx')

end Go.Proofs.Qxb6601949a.Sc
