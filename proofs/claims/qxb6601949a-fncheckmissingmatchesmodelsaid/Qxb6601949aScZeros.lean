/- THE SCRIPT LAWS: 'append(x, make([]int, n)...)'. -/
import Derived.Test.Qxb6601949aScOps
namespace Go.Proofs.Qxb6601949a.Sc
open Go.RowKit Go.Maps
set_option linter.unusedVariables false
set_option linter.unusedSimpArgs false

def zs (m : Nat) : List Value := List.replicate m (.int .i64 0)
theorem zeroCells_one (m : Nat) : Builtin.zeroCells (Value.cells (.int .i64 0)) m = (zs m).toArray := by
  apply Array.ext
  · simp [Builtin.zeroCells, zs, Value.cells]
  · intro i h1 h2
    simp [Builtin.zeroCells, zs, Value.cells, Nat.mod_one]

theorem run_append_zeros (ty : TypeId) (w : World) (v : Value) (n : Nat) (xs : List Value) (hown : w.ownsRow 0 3 1 v n xs) (m : Nat) (hm : 0 < m) (hb : n + m ≤ 1048576) :
    ∃ g cap w', (Builtin.append_ #[25, 3] ty #[v, .int .i64 (m : Int)]).run Try.prog w = .ok (.slice (some ⟨g, 0, none⟩) (n + m) cap) w' ∧
      w'.ownsRow 0 3 1 (.slice (some ⟨g, 0, none⟩) (n + m) cap) (n + m) (xs ++ zs m) ∧ w.grownBy w' v.ownBlock ∧ (v.ownBlock = some g ∨ g = w.heap.size) ∧ g < w'.heap.size := by
  obtain ⟨i, hi, hz, hsize, hby⟩ := info_parts info3
  have hlen : (xs ++ zs m).length = (n + m) * 1 := by rw [List.length_append, hown.1]; simp [zs]
  have hw : IntKind.i64.wrap (m : Int) = (m : Int) := by
    rw [IntKind.wrap_i64]; omega
  have hai : ∀ w : World, (asInt (.int .i64 (m : Int))).run Try.prog w = .ok (m : Int) w := fun w => by simp [asInt, asIntOf]
  have h0 : ¬ ((m : Int) < 0) := by omega
  have hbig : ¬ ((281474976710656 : Int) < (m : Int) * 8) := by omega
  have hmz : ¬ m = 0 := by omega
  have grown : ∀ (old : Nat), old < n + m → ∀ (row : Option Nat),
      (w.drew.alloc (.cells (xs.toArray ++ (zs m).toArray ++ Builtin.zeroCells (Value.cells (.int .i64 0)) (grownCap w (n + m) old 3 - (n + m))) 3)).ownsRow 0 3 1
        (.slice (some ⟨w.heap.size, 0, none⟩) (n + m) (grownCap w (n + m) old 3)) (n + m) (xs ++ zs m) ∧
      w.grownBy (w.drew.alloc (.cells (xs.toArray ++ (zs m).toArray ++ Builtin.zeroCells (Value.cells (.int .i64 0)) (grownCap w (n + m) old 3 - (n + m))) 3)) row := by
    intro old ho row
    have hge := grownCap_ge w (n + m) old 3
    have hcm : grownCap w (n + m) old 3 ≤ maxLen := grownCap_le_maxLen w (n + m) old 3 (by unfold maxLen; omega)
    refine ⟨⟨hlen, .inr ⟨w.heap.size, _, _, rfl, Nat.zero_le _, heap_alloc_new w.drew _, hge, hcm, ?_, ?_⟩⟩, ⟨rfl, rfl, rfl, by simp, fun k hk _ => heap_alloc_old w.drew _ hk⟩⟩
    · rw [zeroCells_one]
      simp only [Array.size_append, List.size_toArray, hown.1, zs, List.length_replicate]
      omega
    · simp only [Array.toList_append, List.append_assoc]
      rw [← List.append_assoc, ← hlen]
      exact List.take_left
  rcases hown.2 with ⟨rfl, rfl⟩ | ⟨g, cap, cur, rfl, hbg, hg, hnc, hcm, hcs, htake⟩
  · have hx : xs = [] := List.eq_nil_of_length_eq_zero (by simpa using hown.1)
    subst hx
    have hgr := grown 0 (by omega) (Value.ownBlock (.slice none 0 0))
    simp only [Nat.zero_add, List.nil_append, Array.empty_append] at hgr ⊢
    refine ⟨_, _, _, ?_, hgr.1, hgr.2, .inr rfl, by simp⟩
    have h63' : ¬ (9223372036854775807 < (m : Int)) := by omega
    have h48' : ¬ (281474976710656 < Builtin.nextslicecap m 0 * 8) := by rw [nextslicecap_zero hm]; omega
    simp [Builtin.append_, run_underlying Try.underlying25, run_underlying Try.underlying3, sizeOf, typeInfo, zeroValue, hi, hz, hsize, hby, hai, hw, h0, hbig, hmz, h63', h48', Question.forced, run_firstCells_none, newRow, grownCap, zeroCells_one]
  · by_cases hroom : n + m ≤ cap
    · have hzl : (zs m).length = m := by simp [zs]
      have hst := run_storeCells_at Try.prog g n 3 (zs m) 0 cur w hg (by rw [hzl, hcs]; omega) (by intro u hu; rw [List.eq_of_mem_replicate hu]; rfl)
      simp only [Nat.add_zero] at hst
      refine ⟨g, cap, w.setRow g (cur.toList.take n ++ zs m ++ cur.toList.drop (n + (zs m).length)).toArray, ?_, ⟨hlen, .inr ⟨g, cap, _, rfl, hbg, setRow_heap w g cur _ 3 _ hg, hroom, hcm, ?_, ?_⟩⟩, ⟨rfl, rfl, rfl, by simp, fun k _ hk => setRow_other w g k _ (fun e => hk (by simp [Value.ownBlock, e]))⟩, .inl rfl, ?_⟩
      · simp [Builtin.append_, run_underlying Try.underlying25, run_underlying Try.underlying3, sizeOf, typeInfo, zeroValue, hi, hz, hsize, hby, hai, hw, h0, hbig, hmz, hroom, Addr.add_lit, zeroCells_one, hst]
      · simp only [List.size_toArray, List.length_append, List.length_take, List.length_drop, Array.length_toList, hzl]
        omega
      · have : cur.toList.take n = xs := by simpa using htake
        rw [this, ← hlen]
        exact List.take_left
      · simp [(Array.getElem?_eq_some_iff.1 hg).1]
    · have holds : ∀ j u, xs[j]? = some u → w.cell? ((⟨g, 0, none⟩ : Addr).add j) = some u := hown.cells (g := g) rfl
      have hfo := run_firstCells_some (P := Try.prog) w.drew 1 n ⟨g, 0, none⟩ n cap xs hown.1 (by simpa using holds)
      have hgr := grown cap (by omega) (Value.ownBlock (.slice (some ⟨g, 0, none⟩) n cap))
      refine ⟨_, _, _, ?_, hgr.1, hgr.2, .inr rfl, by simp⟩
      have hfit : Builtin.nextslicecap (n + m) cap * 8 ≤ 281474976710656 := growslice_fits (by omega) (by omega)
      have h63' : ¬ (9223372036854775807 < ((n : Int) + (m : Int))) := by omega
      have h48' : ¬ (281474976710656 < Builtin.nextslicecap (n + m) cap * 8) := by omega
      simp [Builtin.append_, run_underlying Try.underlying25, run_underlying Try.underlying3, sizeOf, typeInfo, zeroValue, hi, hz, hsize, hby, hai, hw, h0, hbig, hmz, hroom, h63', h48', Question.forced, hfo, newRow, grownCap, zeroCells_one]

/-- AT A STEP OF A REGION THAT DRAWS ITS ORDER. -/
theorem step_append_zeros (w : World) {ops : Array Oper} {o : Oper} {a : Act} {K : Act → World → Prop} {Q : Exit → Act → World → Prop} {E : Prop} (hgd : o.guard = none) (s x : Operand)
    (ho : o.op = .call { callee := .builtin .append, args := #[s, x], argTypes := #[25, 3] })
    (v : Value) (n : Nat) (xs : List Value) (hs : a.eval s = v) (hown : w.ownsRow 0 3 1 v n xs) (m : Nat) (hx : a.eval x = .int .i64 (m : Int)) (hm : 0 < m) (hb : n + m ≤ 1048576)
    (h : ∀ g cap w', w'.ownsRow 0 3 1 (.slice (some ⟨g, 0, none⟩) (n + m) cap) (n + m) (xs ++ zs m) → w.grownBy w' v.ownBlock → (v.ownBlock = some g ∨ g = w.heap.size) → g < w'.heap.size → K (a.put o.dst (.slice (some ⟨g, 0, none⟩) (n + m) cap)) w') :
    if Region.wanted o (yielded ops a.tmps) = true then Oper.wp Try.prog o a w K Q else E := by
  have hw : Region.wanted o (yielded ops a.tmps) = true := by simp [Region.wanted, hgd]
  rw [if_pos hw]
  obtain ⟨g, cap, w', hr, h2, h3, h4, h5⟩ := run_append_zeros o.type w v n xs hown m hm hb
  unfold Oper.wp execOp
  simp only [ho, resolve, invoke, builtin, Sem.run_bind, Sem.run_pure, Result.andThen_ok, List.map_toArray, List.map_cons, List.map_nil, hs, hx, hr]
  exact h g cap w' h2 h3 h4 h5

end Go.Proofs.Qxb6601949a.Sc
