/-
  THE WALK of zzCode: a fresh Code out of the table, the degrees and the rows.
-/
import Derived.Test.Qxb6603342aClones
namespace Go.Proofs.Qxb6603342a
open Go.RowKit

theorem hide {p : Prop} (h : p) : Hid p := h

/-! ### What 'build' lays, the first field being a whole table -/
theorem fold_set (v : List Value) : ∀ (off : Nat) (k : Nat) (cs : Array Value),
    ((v.zipIdx k).foldl (fun (cs : Array Value) (x : Value × Nat) => cs.setIfInBounds (off + x.2) x.1) cs).size = cs.size ∧
    ∀ i, ((v.zipIdx k).foldl (fun (cs : Array Value) (x : Value × Nat) => cs.setIfInBounds (off + x.2) x.1) cs)[i]? = if off + k ≤ i ∧ i < off + k + v.length ∧ i < cs.size then v[i - (off + k)]? else cs[i]? := by
  induction v with
  | nil => intro off k cs; exact ⟨rfl, fun i => by simp; intro h1 h2; omega⟩
  | cons a v ih =>
    intro off k cs
    have := ih off (k + 1) (cs.setIfInBounds (off + k) a)
    rw [List.zipIdx_cons, List.foldl_cons]
    refine ⟨by rw [this.1]; simp, fun i => ?_⟩
    rw [this.2 i]
    simp only [Array.size_setIfInBounds, Array.getElem?_setIfInBounds, List.length_cons]
    by_cases h : off + k = i
    · subst h
      rw [if_neg (by omega), if_pos rfl]
      by_cases hs : off + k < cs.size
      · rw [if_pos hs, if_pos (by omega)]; simp
      · rw [if_neg hs, if_neg (by omega)]; simp; omega
    · rw [if_neg h]
      by_cases h2 : off + (k + 1) ≤ i ∧ i < off + (k + 1) + v.length ∧ i < cs.size
      · rw [if_pos h2, if_pos (by omega)]
        rw [show i - (off + k) = (i - (off + (k + 1))) + 1 from by omega, List.getElem?_cons_succ]
      · rw [if_neg h2, if_neg (by omega)]

/-- The cells of a Code. -/
def codeF (V : Array Value) (d s : Value) (i : Nat) : Value := if i < 1024 then V.getD i undef else if i = 1024 then d else s

theorem zero46 : (Try.prog.info? 46).map (fun i => i.zero.map (fun z => z.cells.size)) = some (some 1026) := by kernel_rfl
theorem fields46 : (match Try.prog.underlying 46 with | some (.struct fields) => fields.toList.mapM (fun f => (Try.prog.info? f.type).map fun i => (f.offset, i.size)) | _ => none) = some [(0, 1024), (1024, 1), (1025, 1)] := by kernel_rfl

theorem build46 (V : Array Value) (hV : V.size = 1024) (d s : Value) (hd : d.cells = #[d]) (hs : s.cells = #[s]) :
    ∃ C : Array Value, C.size = 1026 ∧ (∀ i, i < 1026 → C[i]? = some (codeF V d s i)) ∧ ∀ w, (Instr.build 46 #[(0, .agg V), (1, d), (2, s)]).run Try.prog w = .ok (.agg C) w := by
  obtain ⟨it, hit, hz⟩ := Option.map_eq_some_iff.1 zero46
  obtain ⟨z, hz0, hz1⟩ := Option.map_eq_some_iff.1 hz
  have hf := fields46
  cases hu : Try.prog.underlying 46 with
  | none => rw [hu] at hf; cases hf
  | some dsc =>
    rw [hu] at hf
    cases dsc with
    | struct fields =>
      simp only at hf
      have hb : ∃ C, Try.prog.built 46 [(0, .agg V), (1, d), (2, s)] = some C ∧ C.size = 1026 ∧ ∀ i, i < 1026 → C[i]? = some (codeF V d s i) := by
        have f0 := fold_set V.toList 0 0 z.cells
        generalize hA : (V.toList.zipIdx 0).foldl (fun (cs : Array Value) (x : Value × Nat) => cs.setIfInBounds (0 + x.2) x.1) z.cells = A at f0
        refine ⟨(A.setIfInBounds 1024 d).setIfInBounds 1025 s, ?_, by simp [f0.1, hz1], fun i hi => ?_⟩
        · simp only [Program.built, hit, hu, hz0, hf]
          have hA' : V.zipIdx.foldl (fun cs (x : Value × Nat) => cs.setIfInBounds (0 + x.2) x.1) z.cells = A := by
            rw [← hA, ← Array.foldl_toList]; simp
          have hVc : (Value.agg V).cells = V := rfl
          have hAs : A.size = 1026 := by rw [f0.1, hz1]
          have hA2 : Array.foldl (fun (cs : Array Value) (x : Value × Nat) => cs.setIfInBounds x.snd x.fst) z.cells V.zipIdx 0 1024 = A := by simpa [hV] using hA'
          simp [Instr.fill, hVc, hd, hs, hV, hz1, hAs, hA2]
        · rw [Array.getElem?_setIfInBounds, Array.getElem?_setIfInBounds]
          unfold codeF
          have h0 := f0.2 i
          have hsz := f0.1
          by_cases a : i < 1024
          · rw [if_neg (by omega), if_neg (by omega), if_pos a, h0, if_pos (by simp [hV, hz1]; omega)]
            simp [Array.getD, a, hV]
          · by_cases b : i = 1024
            · subst b; simp [hsz, hz1]
            · obtain rfl : i = 1025 := by omega
              simp [hsz, hz1]
      obtain ⟨C, hb, h1, h2⟩ := hb
      exact ⟨C, h1, h2, fun w => run_build w 46 _ C hb⟩
    | _ => simp at hf

theorem info44 : (Try.prog.info? 44).map (fun i => (i.zero, i.size, i.bytes)) = some (some (.agg #[.int .i64 0, .int .i64 0, .int .i64 0, .int .i64 0, .int .i64 0]), 5, 40) := by kernel_rfl
theorem size26 (V : Array Value) (hV : V.size = 1024) : (Try.prog.info? 26).map (·.size) = some V.size := by rw [hV]; kernel_rfl

theorem row_last (w : World) {n : Nat} (hn : w.heap.size = n) {C : Array Value} {t m : Nat} {f : Nat → Value} (h1 : C.size = m) (h2 : ∀ i, i < m → C[i]? = some (f i)) : (w.alloc (.cells C t)).rowIs n t m f := by
  subst hn; exact ⟨C, heap_alloc_new _ _, h1, h2⟩

theorem wpList_built {P : Program} {ops : Array Oper} {rest : List Oper} {o : Oper} {a : Act} {w : World} {Q : Exit → Act → World → Prop} (hgd : o.guard = none) (t : TypeId) (parts : Array (Nat × Operand)) (ho : o.op = .build t parts)
    (ps : Array (Nat × Value)) (hps : (parts.map fun (i, x) => (i, a.eval x)) = ps) (C : Array Value) (hC : ∀ w, (Instr.build t ps).run P w = .ok (.agg C) w)
    (h : wpList P ops Q rest (a.put o.dst (.agg C)) w) : wpList P ops Q (o :: rest) a w := by
  refine wpList_plain hgd fun K hK => ?_
  unfold Oper.wp execOp
  simp only [ho, Sem.run_bind, hps, hC, Result.andThen_ok]
  exact hK _ _ h

set_option maxHeartbeats 400000 in
theorem code_nil (V : Array Value) (hV : V.size = 1024) (a1 : Option Addr) (l1 c1 : Nat) (w : World) :
    Calls Try.prog 13 #[.agg V, .slice a1 l1 c1, .slice none 0 0] w fun e w' => ∃ g, e = .returned (.pointer (some ⟨g, 0, none⟩)) ∧ w.heap.size ≤ g ∧ w'.rowIs g 46 1026 (codeF V (.slice a1 l1 c1) (.slice none 0 0)) ∧ Below w.heap.size w w' := by
  have q : ∀ (w : World) (a : Option Addr) (n c n' c' : Nat), (binOp .neq 28 (.slice a n c) (.slice none n' c')).run Try.prog w = .ok (.bool (!a.isNone)) w := fun w a n c n' c' => run_neq_slice_nil_any w _ _ a n c n' c' Try.underlying28
  obtain ⟨C, hC1, hC2, hC3⟩ := build46 V hV (.slice a1 l1 c1) (.slice none 0 0) rfl rfl
  have HC := hide hC3
  clear hC3
  go_enter Try.func13, Try.ntmps13
  go_wp2
  refine wp_loop_rounds 1 ?_
  rw [rounds_succ]
  have hg := heap_alloc_new w (.cells V 26)
  have hsz := size26 V hV
  set_option maxRecDepth 100000 in
  go_wp2_with (first | refine wpList_load_row rfl 26 _ rfl w.heap.size rfl 26 V (0, 0) _ hg Try.underlying26 rfl hsz ?_ | refine wpList_built rfl 46 _ rfl #[(0, .agg V), (1, .slice a1 l1 c1), (2, .slice none 0 0)] (by simp [Act.eval]) C HC.out ?_)
  go_ret
  exact ⟨w.heap.size + 1, rfl, by omega, row_last _ (by simp) hC1 hC2, ((Below.refl _ _).alloc (Nat.le_refl _) _).alloc (by simp) _⟩

section
variable {R : Nat → Int} {w wr : World} {b n t : Nat}
/-- What a round of zzCode's loop leaves. -/
theorem round5 {k B g s : Nat} {o : Obj} (hrow : wr.rowIs b t n (fun j => if j < k * 5 then .int .i64 (R j) else .int .i64 0)) (hb : Below B w wr) (h : B ≤ b) (hg : wr.heap[g]? = some o) (hgb : g ≠ b) (hs : wr.heap.size = s) :
    (((((wr.setCell ⟨b, k * 5, none⟩ (.int .i64 (R (k * 5)))).setCell ⟨b, k * 5 + 1, none⟩ (.int .i64 (R (k * 5 + 1)))).setCell ⟨b, k * 5 + 2, none⟩ (.int .i64 (R (k * 5 + 2)))).setCell ⟨b, k * 5 + 3, none⟩ (.int .i64 (R (k * 5 + 3)))).setCell ⟨b, k * 5 + 4, none⟩ (.int .i64 (R (k * 5 + 4)))).drew.rowIs b t n (fun j => if j < (k + 1) * 5 then .int .i64 (R j) else .int .i64 0) ∧
    (((((wr.setCell ⟨b, k * 5, none⟩ (.int .i64 (R (k * 5)))).setCell ⟨b, k * 5 + 1, none⟩ (.int .i64 (R (k * 5 + 1)))).setCell ⟨b, k * 5 + 2, none⟩ (.int .i64 (R (k * 5 + 2)))).setCell ⟨b, k * 5 + 3, none⟩ (.int .i64 (R (k * 5 + 3)))).setCell ⟨b, k * 5 + 4, none⟩ (.int .i64 (R (k * 5 + 4)))).drew.heap[g]? = some o ∧
    (((((wr.setCell ⟨b, k * 5, none⟩ (.int .i64 (R (k * 5)))).setCell ⟨b, k * 5 + 1, none⟩ (.int .i64 (R (k * 5 + 1)))).setCell ⟨b, k * 5 + 2, none⟩ (.int .i64 (R (k * 5 + 2)))).setCell ⟨b, k * 5 + 3, none⟩ (.int .i64 (R (k * 5 + 3)))).setCell ⟨b, k * 5 + 4, none⟩ (.int .i64 (R (k * 5 + 4)))).drew.heap.size = s ∧
    Below B w (((((wr.setCell ⟨b, k * 5, none⟩ (.int .i64 (R (k * 5)))).setCell ⟨b, k * 5 + 1, none⟩ (.int .i64 (R (k * 5 + 1)))).setCell ⟨b, k * 5 + 2, none⟩ (.int .i64 (R (k * 5 + 2)))).setCell ⟨b, k * 5 + 3, none⟩ (.int .i64 (R (k * 5 + 3)))).setCell ⟨b, k * 5 + 4, none⟩ (.int .i64 (R (k * 5 + 4)))).drew := by
  refine ⟨World.rowIs.drew ((((((hrow.set _ _).set _ _).set _ _).set _ _).set _ _).congr fun j _ => row5_step R k j), ?_, ?_, Below.drew (((((hb.setCell h _).setCell h _).setCell h _).setCell h _).setCell h _)⟩
  · rw [heap_drew, heap_setCell_other _ _ _ _ hgb, heap_setCell_other _ _ _ _ hgb, heap_setCell_other _ _ _ _ hgb, heap_setCell_other _ _ _ _ hgb, heap_setCell_other _ _ _ _ hgb, hg]
  · rw [heap_drew, ← hs]; simp [World.setCell]
end

set_option maxHeartbeats 1000000 in
theorem code_rows (V : Array Value) (hV : V.size = 1024) (a1 : Option Addr) (l1 c1 : Nat) (b len : Nat) (R : Nat → Int) (w : World) (hl : len ≤ 1048576) (hR : w.rowIs b 31 (len * 5) (fun i => .int .i64 (R i))) :
    Calls Try.prog 13 #[.agg V, .slice a1 l1 c1, .slice (some ⟨b, 0, none⟩) len len] w fun e w' => ∃ g g2, e = .returned (.pointer (some ⟨g, 0, none⟩)) ∧ w.heap.size ≤ g ∧ w.heap.size ≤ g2 ∧
      w'.rowIs g 46 1026 (codeF V (.slice a1 l1 c1) (.slice (some ⟨g2, 0, none⟩) len len)) ∧ w'.rowIs g2 44 (len * 5) (fun i => .int .i64 (R i)) ∧ Below w.heap.size w w' := by
  have q : ∀ (w : World) (a : Option Addr) (n c n' c' : Nat), (binOp .neq 28 (.slice a n c) (.slice none n' c')).run Try.prog w = .ok (.bool (!a.isNone)) w := fun w a n c n' c' => run_neq_slice_nil_any w _ _ a n c n' c' Try.underlying28
  obtain ⟨C, hC1, hC2, hC3⟩ := build46 V hV (.slice a1 l1 c1) (.slice (some ⟨w.heap.size + 1, 0, none⟩) len len) rfl rfl
  have HC := hide hC3
  clear hC3
  have hmk := make5 43 44 Try.underlying43 info44 len hl
  go_enter Try.func13, Try.ntmps13
  go_wp2
  clear hmk q
  go_loopw [8] (fun i wr => ∃ k : Nat, k ≤ len ∧ i = .int .i64 k ∧ wr.rowIs (w.heap.size + 1) 44 (len * 5) (fun j => if j < k * 5 then .int .i64 (R j) else .int .i64 0) ∧ wr.heap[w.heap.size]? = some (.cells V 26 (0, 0)) ∧ wr.heap.size = w.heap.size + 2 ∧ Below w.heap.size w wr) (fun i _ => len - (intOf i).toNat)
  case atStart =>
    refine ⟨0, Nat.zero_le _, rfl, ?_, ?_, by simp, ((Below.refl _ _).alloc (Nat.le_refl _) _).alloc (by simp) _⟩
    · have := (rowIs_made5 (w.alloc (.cells V 26)) (len * 5) 44).congr (g := fun j => if j < 0 * 5 then .int .i64 (R j) else .int .i64 0) (fun i _ => by simp)
      simpa using this
    · exact heap_alloc2_old _ _ _
  case round =>
    obtain ⟨k, hk, rfl, hrow, hV0, hsz2, hb⟩ := hrel
    by_cases hlt : k < len
    · have hbs := hR.lt
      have hc0 : wr.cell? ⟨b, k * 5, none⟩ = some (.int .i64 (R (k * 5))) := (hb.cell hbs).trans (hR.cell (by omega))
      have hc1 : wr.cell? ⟨b, k * 5 + 1, none⟩ = some (.int .i64 (R (k * 5 + 1))) := (hb.cell hbs).trans (hR.cell (by omega))
      have hc2 : wr.cell? ⟨b, k * 5 + 2, none⟩ = some (.int .i64 (R (k * 5 + 2))) := (hb.cell hbs).trans (hR.cell (by omega))
      have hc3 : wr.cell? ⟨b, k * 5 + 3, none⟩ = some (.int .i64 (R (k * 5 + 3))) := (hb.cell hbs).trans (hR.cell (by omega))
      have hc4 : wr.cell? ⟨b, k * 5 + 4, none⟩ = some (.int .i64 (R (k * 5 + 4))) := (hb.cell hbs).trans (hR.cell (by omega))
      have hr0 : wr.cell? ⟨w.heap.size + 1, k * 5, none⟩ = some (.int .i64 0) := by rw [hrow.cell (by omega), if_neg (by omega)]
      have hf0 := hrow.frozen (k * 5)
      have hr1 : wr.cell? ⟨w.heap.size + 1, k * 5 + 1, none⟩ = some (.int .i64 0) := by rw [hrow.cell (by omega), if_neg (by omega)]
      have hf1 := hrow.frozen (k * 5 + 1)
      have hr2 : wr.cell? ⟨w.heap.size + 1, k * 5 + 2, none⟩ = some (.int .i64 0) := by rw [hrow.cell (by omega), if_neg (by omega)]
      have hf2 := hrow.frozen (k * 5 + 2)
      have hr3 : wr.cell? ⟨w.heap.size + 1, k * 5 + 3, none⟩ = some (.int .i64 0) := by rw [hrow.cell (by omega), if_neg (by omega)]
      have hf3 := hrow.frozen (k * 5 + 3)
      have hr4 : wr.cell? ⟨w.heap.size + 1, k * 5 + 4, none⟩ = some (.int .i64 0) := by rw [hrow.cell (by omega), if_neg (by omega)]
      have hf4 := hrow.frozen (k * 5 + 4)
      have hlt' : (k : Int) < (len : Int) := by omega
      have HR := hide (round5 hrow hb (show w.heap.size ≤ w.heap.size + 1 by omega) hV0 (show w.heap.size ≠ w.heap.size + 1 by omega) hsz2)
      have HC2 := hide hC2
      clear hC2 hrow hb hR hV0 hsz2
      go_wp2
      go_region
      go_wp2
      go_roundw
      case rel =>
        have hh := HR.out
        clear HR
        exact ⟨k + 1, by omega, by go_num, hh⟩
      case measure => simp [intOf]; omega
    · obtain rfl : k = len := by omega
      have hsz := size26 V hV
      have hrow' := hrow.congr (g := fun i => .int .i64 (R i)) (fun i hi => by simp [hi])
      clear hrow
      set_option maxRecDepth 100000 in
      go_wp2_with (first | refine wpList_load_row rfl 26 _ rfl w.heap.size rfl 26 V (0, 0) _ hV0 Try.underlying26 rfl hsz ?_ | refine wpList_built rfl 46 _ rfl #[(0, .agg V), (1, .slice a1 l1 c1), (2, .slice (some ⟨w.heap.size + 1, 0, none⟩) k k)] (by simp [Act.eval]) C HC.out ?_)
      go_ret
      exact ⟨w.heap.size + 2, w.heap.size + 1, rfl, by omega, by omega, row_last _ hsz2 hC1 hC2, hrow'.alloc _, hb.alloc (by omega) _⟩

end Go.Proofs.Qxb6603342a
