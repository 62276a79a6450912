import Derived.Test.Qxb6609285aDoorFiltB
import Derived.Deep.DeepCutAuto
import Derived.Test.Qxb6609285aDoorTakes
namespace Go.Proofs.Qxb6609285aDoor
open Go.RowKit Go.Proofs
set_option linter.unusedVariables false
set_option linter.unusedSimpArgs false

theorem three0 (w : World) (A B C : Obj) : (((w.alloc A).alloc B).alloc C).drew.heap[w.heap.size]? = some A := by
  show (((w.heap.push A).push B).push C)[w.heap.size]? = some A
  rw [Array.getElem?_push, if_neg (by simp; omega), Array.getElem?_push, if_neg (by simp), Array.getElem?_push, if_pos rfl]
theorem three1 (w : World) (A B C : Obj) : (((w.alloc A).alloc B).alloc C).drew.heap[w.heap.size + 1]? = some B := by
  show (((w.heap.push A).push B).push C)[w.heap.size + 1]? = some B
  rw [Array.getElem?_push, if_neg (by simp), Array.getElem?_push, if_pos (by simp)]
theorem three2 (w : World) (A B C : Obj) : (((w.alloc A).alloc B).alloc C).drew.heap[w.heap.size + 1 + 1]? = some C := by
  show (((w.heap.push A).push B).push C)[w.heap.size + 1 + 1]? = some C
  rw [Array.getElem?_push, if_pos (by simp)]
theorem cells_of_heap {w : World} {b : Nat} {cs : Array Value} {t : TypeId} {fr : Nat × Nat} (h : w.heap[b]? = some (.cells cs t fr)) : CellsAt w b 0 cs.toList := by
  intro i v hv
  rw [Nat.zero_add, cell_of_row w b i cs t fr h]
  simpa using hv

theorem there_of_heap {w : World} {b : Nat} {cs : Array Value} {t : TypeId} {n : Nat} (h : w.heap[b]? = some (.cells cs t (0, 0))) (hn : cs.size = n) : w.there b 0 n := by
  intro i hi
  rw [Nat.zero_add]
  refine ⟨?_, ?_⟩
  · rw [cell_of_row w b i cs t (0, 0) h, Array.getElem?_eq_getElem (by omega)]; rfl
  · simp [World.frozen?, h]
theorem heap_setCells {w : World} {b k : Nat} (hk : k ≠ b) : ∀ (vs : List Value) (o : Nat), (w.setCells b o vs).heap[k]? = w.heap[k]? := by
  intro vs
  induction vs generalizing w with
  | nil => intro o; rfl
  | cons v r ih => intro o; rw [World.setCells, ih (o + 1)]; exact Below.heap_setCell _ _ _ _ hk
theorem ext_setCells {a w : World} (h : Ext a w) {b : Nat} (hb : a.heap.size ≤ b) : ∀ (vs : List Value) (o : Nat), Ext a (w.setCells b o vs) := by
  intro vs
  induction vs generalizing w with
  | nil => intro o; exact h
  | cons v r ih => intro o; rw [World.setCells]; exact ih (h.setCell hb _) (o + 1)
theorem cells_setCells {w : World} {b : Nat} {cs : Array Value} {t : TypeId} {vs : List Value} (h : w.heap[b]? = some (.cells cs t (0, 0))) (hn : cs.size = vs.length) : CellsAt (w.setCells b 0 vs) b 0 vs := by
  intro i v hv
  have hi : i < vs.length := (List.getElem?_eq_some_iff.1 hv).1
  rw [World.cell?_setCells_in b vs 0 w (fun j hj => (there_of_heap h hn j hj).1) i hi]
  rw [List.getElem?_eq_getElem hi] at hv
  exact hv

theorem info63n : (Tryd.prog.info? 63).map (·.size) = some 18 := by kernel_rfl

set_option maxRecDepth 100000 in
set_option maxHeartbeats 2000000 in
theorem build_gen (rd n l1 l2 l3 l4 l5 l6 k1 k2 k3 k4 k5 k6 : Nat) (a1 a2 a3 a4 a5 a6 : Option Addr) (b1 b2 b3 b4 b5 b6 o1 o2 o3 o4 o5 o6 : Nat) (M V : Nat → Int) (O : Nat → Nat) (fw G mr : Nat → Bool) (w : World) (R : Nat → World → Prop)
    (hnm : n ≤ 1048576)
    (s1 : Slc w a1 b1 o1 l1 (fun i => .int .u16 (O i))) (s2 : Slc w a2 b2 o2 l2 (fun i => .int .u8 (M i))) (s3 : Slc w a3 b3 o3 l3 (fun i => .int .u8 (V i)))
    (s4 : Slc w a4 b4 o4 l4 (fun i => .bool (fw i))) (s5 : Slc w a5 b5 o5 l5 (fun i => .bool (G i))) (s6 : Slc w a6 b6 o6 l6 (fun i => .bool (mr i)))
    (h1 : n ≤ l1) (h2 : n ≤ l2) (h3 : n ≤ l3) (h4 : n ≤ l4) (h5 : n ≤ l5) (h6 : n ≤ l6)
    (R0 : R 0 (w.alloc (.cells #[.slice none 0 0, .slice none 0 0] 53))) (RX : ∀ k w', R k w' → Ext w w')
    (hadd : Hid (∀ (k : Nat) (wr wc : World) (mbk vbk : Nat), k < n → R k wr → Ext wr wc → wc.heap[mbk]? = some (.cells #[.int .u8 (M k)] 5 (0, 0)) → wc.heap[vbk]? = some (.cells #[.int .u8 (V k)] 5 (0, 0)) →
      Calls Tryd.prog 16 #[.pointer (some ⟨w.heap.size, 0, none⟩), .agg (ruleG rd (fw k) (O k) mbk vbk (G k) (mr k)).toArray] wc fun e w' => ((rd < 2 ∧ k < 12 ∧ e = .returned .nilIface) ∨ (¬ (rd < 2 ∧ k < 12) ∧ ∃ p, e = .returned (.iface 93 (.pointer (some p))))) ∧ R (k + 1) w')) :
    Calls Tryd.prog 8 #[.int .u8 rd, .slice a1 l1 k1, .slice a2 l2 k2, .slice a3 l3 k3, .slice a4 l4 k4, .slice a5 l5 k5, .slice a6 l6 k6, .int .i64 n] w fun e w' =>
      e = .returned (.tuple #[.pointer (some ⟨w.heap.size, 0, none⟩), .bool true]) ∧ R n w' := by
  have S1 := hide s1
  have S2 := hide s2
  have S3 := hide s3
  have S4 := hide s4
  have S5 := hide s5
  have S6 := hide s6
  have HRX := hide RX
  have HR0 := hide R0
  clear s1 s2 s3 s4 s5 s6 RX R0
  go_enter Tryd.func8, Tryd.ntmps8
  go_wp2
  go_loopw [19, 20] (fun rt i wr => rt = .bool true ∧ ∃ k : Nat, k ≤ n ∧ i = .int .i64 k ∧ Hid (R k wr)) (fun _ i _ => n - (intOf i).toNat)
  case atStart => exact ⟨rfl, 0, by omega, rfl, HR0.out⟩
  case round =>
    clear HR0
    obtain ⟨rfl, k, hk, rfl, HF⟩ := hrel
    by_cases hlt : k < n
    · obtain rfl := S1.out.ad (by omega)
      obtain rfl := S2.out.ad (by omega)
      obtain rfl := S3.out.ad (by omega)
      obtain rfl := S4.out.ad (by omega)
      obtain rfl := S5.out.ad (by omega)
      obtain rfl := S6.out.ad (by omega)
      have hxw := HRX.out k wr HF.out
      have c1 := hxw.cell (S1.out.cell k (by omega))
      have c2 := hxw.cell (S2.out.cell k (by omega))
      have c3 := hxw.cell (S3.out.cell k (by omega))
      have c4 := hxw.cell (S4.out.cell k (by omega))
      have c5 := hxw.cell (S5.out.cell k (by omega))
      have c6 := hxw.cell (S6.out.cell k (by omega))
      clear hxw
      have i1 : (k : Int) < l1 := by omega
      have i2 : (k : Int) < l2 := by omega
      have i3 : (k : Int) < l3 := by omega
      have i4 : (k : Int) < l4 := by omega
      have i5 : (k : Int) < l5 := by omega
      have i6 : (k : Int) < l6 := by omega
      have SK : Hid (∀ w' : World, Ext wr w' → (w'.cell? ⟨b1, o1 + k, none⟩ = some (.int .u16 (O k : Nat)) ∧ w'.cell? ⟨b2, o2 + k, none⟩ = some (.int .u8 (M k)) ∧ w'.cell? ⟨b3, o3 + k, none⟩ = some (.int .u8 (V k)) ∧ w'.cell? ⟨b4, o4 + k, none⟩ = some (.bool (fw k)) ∧ w'.cell? ⟨b5, o5 + k, none⟩ = some (.bool (G k)) ∧ w'.cell? ⟨b6, o6 + k, none⟩ = some (.bool (mr k)))) := fun w' hx => ⟨hx.cell c1, hx.cell c2, hx.cell c3, hx.cell c4, hx.cell c5, hx.cell c6⟩
      go_upto_region 6 with fail
      go_cut [21] (fun p wc => ∃ rb mbk vbk : Nat, p = .pointer (some ⟨rb, 0, none⟩) ∧ Hid (Ext wr wc ∧ CellsAt wc rb 0 (ruleG rd (fw k) (O k) mbk vbk (G k) (mr k)) ∧ wc.heap[mbk]? = some (.cells #[.int .u8 (M k)] 5 (0, 0)) ∧ wc.heap[vbk]? = some (.cells #[.int .u8 (V k)] 5 (0, 0))))
      case first =>
        refine wp_region_held_drew (S := fun w' : World => w'.cell? ⟨b1, o1 + k, none⟩ = some (.int .u16 (O k : Nat)) ∧ w'.cell? ⟨b2, o2 + k, none⟩ = some (.int .u8 (M k)) ∧ w'.cell? ⟨b3, o3 + k, none⟩ = some (.int .u8 (V k)) ∧ w'.cell? ⟨b4, o4 + k, none⟩ = some (.bool (fw k)) ∧ w'.cell? ⟨b5, o5 + k, none⟩ = some (.bool (G k)) ∧ w'.cell? ⟨b6, o6 + k, none⟩ = some (.bool (mr k))) (by as_aux_lemma => kernel_rfl) (SK.out _ (Ext.refl _).drew) (fun hHeld => ?_)
        refine wpAnyH_takes (fuel := 5) (by as_aux_lemma => kernel_rfl) (fun _ _ _ _ _ h => h) hHeld [0, 1, 2, 3, 4, 5, 6, 7, 8, 9, 10, 11, 12, 14, 15, 16, 17, 19, 20, 21, 22, 23, 24, 25, 26] _ _ (by as_aux_lemma => kernel_rfl) ?_
        simp only [opsAt, List.getElem?_toArray, List.getElem?_cons_succ, List.getElem?_cons_zero, List.cons_append, List.nil_append]
        repeat (go_big_quiet_step (fail))
        refine wpQuiet_val (.pointer (some ⟨b4, o4 + k, none⟩)) rfl (by intro w hSw; go_simp) ?_
        simp only [Act.put, List.setIfInBounds_toArray, List.set_cons_zero, List.set_cons_succ]
        refine wpQuiet_val (.bool (fw k)) rfl (by intro w hSw; go_simp) ?_
        simp only [Act.put, List.setIfInBounds_toArray, List.set_cons_zero, List.set_cons_succ]
        repeat (go_big_quiet_step (fail))
        refine wpQuiet_val (.pointer (some ⟨b1, o1 + k, none⟩)) rfl (by intro w hSw; go_simp) ?_
        simp only [Act.put, List.setIfInBounds_toArray, List.set_cons_zero, List.set_cons_succ]
        refine wpQuiet_val (.int .u16 (O k : Nat)) rfl (by intro w hSw; go_simp) ?_
        simp only [Act.put, List.setIfInBounds_toArray, List.set_cons_zero, List.set_cons_succ]
        repeat (go_big_quiet_step (fail))
        refine wpQuiet_val (.pointer (some ⟨b2, o2 + k, none⟩)) rfl (by intro w hSw; go_simp) ?_
        simp only [Act.put, List.setIfInBounds_toArray, List.set_cons_zero, List.set_cons_succ]
        refine wpQuiet_val (.int .u8 (M k)) rfl (by intro w hSw; go_simp) ?_
        simp only [Act.put, List.setIfInBounds_toArray, List.set_cons_zero, List.set_cons_succ]
        repeat (go_big_quiet_step (fail))
        refine wpQuiet_val (.pointer (some ⟨b3, o3 + k, none⟩)) rfl (by intro w hSw; go_simp) ?_
        simp only [Act.put, List.setIfInBounds_toArray, List.set_cons_zero, List.set_cons_succ]
        refine wpQuiet_val (.int .u8 (V k)) rfl (by intro w hSw; go_simp) ?_
        simp only [Act.put, List.setIfInBounds_toArray, List.set_cons_zero, List.set_cons_succ]
        repeat (go_big_quiet_step (fail))
        refine wpQuiet_val (.pointer (some ⟨b5, o5 + k, none⟩)) rfl (by intro w hSw; go_simp) ?_
        simp only [Act.put, List.setIfInBounds_toArray, List.set_cons_zero, List.set_cons_succ]
        refine wpQuiet_val (.bool (G k)) rfl (by intro w hSw; go_simp) ?_
        simp only [Act.put, List.setIfInBounds_toArray, List.set_cons_zero, List.set_cons_succ]
        repeat (go_big_quiet_step (fail))
        refine wpQuiet_val (.pointer (some ⟨b6, o6 + k, none⟩)) rfl (by intro w hSw; go_simp) ?_
        simp only [Act.put, List.setIfInBounds_toArray, List.set_cons_zero, List.set_cons_succ]
        refine wpQuiet_val (.bool (mr k)) rfl (by intro w hSw; go_simp) ?_
        simp only [Act.put, List.setIfInBounds_toArray, List.set_cons_zero, List.set_cons_succ]
        refine wpQuiet_nil ?_
        refine wpAnyH_each [13, 18, 28] (by as_aux_lemma => kernel_rfl) (by simp) ?_
        intro i hi
        simp only [List.mem_cons, List.not_mem_nil, or_false] at hi
        rcases hi with rfl | rfl | rfl
        · intro o ho
          simp only [List.getElem?_toArray, List.getElem?_cons_succ, List.getElem?_cons_zero, Option.some.injEq] at ho
          subst ho
          intro K hK
          go_simp
          refine hK _ _ ⟨SK.out _ (by repeat (first | exact Ext.refl _ | refine Ext.drew ?_ | refine Ext.alloc ?_ _)), ?_⟩
          clear hK K
          refine wpAnyH_each [18, 28] (by as_aux_lemma => kernel_rfl) (by simp) ?_
          intro i hi
          simp only [List.mem_cons, List.not_mem_nil, or_false] at hi
          rcases hi with rfl | rfl
          · intro o ho
            simp only [List.getElem?_toArray, List.getElem?_cons_succ, List.getElem?_cons_zero, Option.some.injEq] at ho
            subst ho
            intro K hK
            go_simp
            refine hK _ _ ⟨SK.out _ (by repeat (first | exact Ext.refl _ | refine Ext.drew ?_ | refine Ext.alloc ?_ _)), ?_⟩
            clear hK K
            refine wpAnyH_takes (fuel := 2) (by as_aux_lemma => kernel_rfl) (fun _ _ _ _ _ h => h) (SK.out _ (by repeat (first | exact Ext.refl _ | refine Ext.drew ?_ | refine Ext.alloc ?_ _))) [27] _ _ (by as_aux_lemma => kernel_rfl) ?_
            simp only [opsAt, List.getElem?_toArray, List.getElem?_cons_succ, List.getElem?_cons_zero, List.cons_append, List.nil_append]
            refine wpQuiet_val (.agg #[.int .u8 (rd : Nat), .bool (fw k), .bool true, .int .u32 0, .int .u8 0, .int .u32 0, .int .u8 0, .int .u8 0, .int .u8 0, .int .u16 0, .int .u8 0, .int .u16 0, .bool false, .int .u16 (O k : Nat), .slice (some ⟨wr.heap.size, 0, none⟩) 1 1, .slice (some ⟨wr.heap.size + 1, 0, none⟩) 1 1, .bool (G k), .bool (mr k)]) rfl (by intro w hSw; go_simp) ?_
            simp only [Act.put, List.setIfInBounds_toArray, List.set_cons_zero, List.set_cons_succ]
            refine wpQuiet_nil ?_
            refine wpAnyH_each [28] (by as_aux_lemma => kernel_rfl) (by simp) ?_
            intro i hi
            simp only [List.mem_cons, List.not_mem_nil, or_false] at hi
            subst hi
            intro o ho
            simp only [List.getElem?_toArray, List.getElem?_cons_succ, List.getElem?_cons_zero, Option.some.injEq] at ho
            subst ho
            intro K hK
            go_simp
            refine hK _ _ ⟨SK.out _ (by repeat (first | exact Ext.refl _ | refine Ext.drew ?_ | refine Ext.alloc ?_ _)), ?_⟩
            clear hK K
            refine wpAnyH_each [29] (by as_aux_lemma => kernel_rfl) (by simp) ?_
            intro i hi
            simp only [List.mem_cons, List.not_mem_nil, or_false] at hi
            subst hi
            intro o ho
            simp only [List.getElem?_toArray, List.getElem?_cons_succ, List.getElem?_cons_zero, Option.some.injEq] at ho
            subst ho
            intro K hK
            rw [if_pos (by rfl)]
            refine wp_store_mid 63 _ _ rfl (wr.heap.size + 1 + 1) 0 (#[.int .u8 (rd : Nat), .bool (fw k), .bool true, .int .u32 0, .int .u8 0, .int .u32 0, .int .u8 0, .int .u8 0, .int .u8 0, .int .u16 0, .int .u8 0, .int .u16 0, .bool false, .int .u16 (O k : Nat), .slice (some ⟨wr.heap.size, 0, none⟩) 1 1, .slice (some ⟨wr.heap.size + 1, 0, none⟩) 1 1, .bool (G k), .bool (mr k)]) rfl rfl (there_of_heap (three2 _ _ _ _) rfl) (by as_aux_lemma => kernel_rfl) (by simp [Value.oneCell']) ?_
            refine hK _ _ ⟨SK.out _ (ext_setCells (by repeat (first | exact Ext.refl _ | refine Ext.drew ?_ | refine Ext.alloc ?_ _)) (by omega) _ _), ?_⟩
            clear hK K
            refine wpAnyH_done (by as_aux_lemma => kernel_rfl) ?_ _
            go_wp2_with fail
            go_meet
            case rel => exact ⟨wr.heap.size + 1 + 1, wr.heap.size, wr.heap.size + 1, rfl, ext_setCells (by repeat (first | exact Ext.refl _ | refine Ext.drew ?_ | refine Ext.alloc ?_ _)) (by omega) _ _, cells_setCells (three2 _ _ _ _) rfl, (heap_setCells (by omega) _ _).trans (three0 _ _ _ _), (heap_setCells (by omega) _ _).trans (three1 _ _ _ _)⟩
          · intro o ho
            simp only [List.getElem?_toArray, List.getElem?_cons_succ, List.getElem?_cons_zero, Option.some.injEq] at ho
            subst ho
            intro K hK
            go_simp
            refine hK _ _ ⟨SK.out _ (by repeat (first | exact Ext.refl _ | refine Ext.drew ?_ | refine Ext.alloc ?_ _)), ?_⟩
            clear hK K
            refine wpAnyH_each [18] (by as_aux_lemma => kernel_rfl) (by simp) ?_
            intro i hi
            simp only [List.mem_cons, List.not_mem_nil, or_false] at hi
            subst hi
            intro o ho
            simp only [List.getElem?_toArray, List.getElem?_cons_succ, List.getElem?_cons_zero, Option.some.injEq] at ho
            subst ho
            intro K hK
            go_simp
            refine hK _ _ ⟨SK.out _ (by repeat (first | exact Ext.refl _ | refine Ext.drew ?_ | refine Ext.alloc ?_ _)), ?_⟩
            clear hK K
            refine wpAnyH_takes (fuel := 1) (by as_aux_lemma => kernel_rfl) (fun _ _ _ _ _ h => h) (SK.out _ (by repeat (first | exact Ext.refl _ | refine Ext.drew ?_ | refine Ext.alloc ?_ _))) [27] _ _ (by as_aux_lemma => kernel_rfl) ?_
            simp only [opsAt, List.getElem?_toArray, List.getElem?_cons_succ, List.getElem?_cons_zero, List.cons_append, List.nil_append]
            refine wpQuiet_val (.agg #[.int .u8 (rd : Nat), .bool (fw k), .bool true, .int .u32 0, .int .u8 0, .int .u32 0, .int .u8 0, .int .u8 0, .int .u8 0, .int .u16 0, .int .u8 0, .int .u16 0, .bool false, .int .u16 (O k : Nat), .slice (some ⟨wr.heap.size, 0, none⟩) 1 1, .slice (some ⟨wr.heap.size + 1 + 1, 0, none⟩) 1 1, .bool (G k), .bool (mr k)]) rfl (by intro w hSw; go_simp) ?_
            simp only [Act.put, List.setIfInBounds_toArray, List.set_cons_zero, List.set_cons_succ]
            refine wpQuiet_nil ?_
            refine wpAnyH_each [29] (by as_aux_lemma => kernel_rfl) (by simp) ?_
            intro i hi
            simp only [List.mem_cons, List.not_mem_nil, or_false] at hi
            subst hi
            intro o ho
            simp only [List.getElem?_toArray, List.getElem?_cons_succ, List.getElem?_cons_zero, Option.some.injEq] at ho
            subst ho
            intro K hK
            rw [if_pos (by rfl)]
            refine wp_store_mid 63 _ _ rfl (wr.heap.size + 1) 0 (#[.int .u8 (rd : Nat), .bool (fw k), .bool true, .int .u32 0, .int .u8 0, .int .u32 0, .int .u8 0, .int .u8 0, .int .u8 0, .int .u16 0, .int .u8 0, .int .u16 0, .bool false, .int .u16 (O k : Nat), .slice (some ⟨wr.heap.size, 0, none⟩) 1 1, .slice (some ⟨wr.heap.size + 1 + 1, 0, none⟩) 1 1, .bool (G k), .bool (mr k)]) rfl rfl (there_of_heap (three1 _ _ _ _) rfl) (by as_aux_lemma => kernel_rfl) (by simp [Value.oneCell']) ?_
            refine hK _ _ ⟨SK.out _ (ext_setCells (by repeat (first | exact Ext.refl _ | refine Ext.drew ?_ | refine Ext.alloc ?_ _)) (by omega) _ _), ?_⟩
            clear hK K
            refine wpAnyH_done (by as_aux_lemma => kernel_rfl) ?_ _
            go_wp2_with fail
            go_meet
            case rel => exact ⟨wr.heap.size + 1, wr.heap.size, wr.heap.size + 1 + 1, rfl, ext_setCells (by repeat (first | exact Ext.refl _ | refine Ext.drew ?_ | refine Ext.alloc ?_ _)) (by omega) _ _, cells_setCells (three1 _ _ _ _) rfl, (heap_setCells (by omega) _ _).trans (three0 _ _ _ _), (heap_setCells (by omega) _ _).trans (three2 _ _ _ _)⟩
        · intro o ho
          simp only [List.getElem?_toArray, List.getElem?_cons_succ, List.getElem?_cons_zero, Option.some.injEq] at ho
          subst ho
          intro K hK
          go_simp
          refine hK _ _ ⟨SK.out _ (by repeat (first | exact Ext.refl _ | refine Ext.drew ?_ | refine Ext.alloc ?_ _)), ?_⟩
          clear hK K
          refine wpAnyH_each [13, 28] (by as_aux_lemma => kernel_rfl) (by simp) ?_
          intro i hi
          simp only [List.mem_cons, List.not_mem_nil, or_false] at hi
          rcases hi with rfl | rfl
          · intro o ho
            simp only [List.getElem?_toArray, List.getElem?_cons_succ, List.getElem?_cons_zero, Option.some.injEq] at ho
            subst ho
            intro K hK
            go_simp
            refine hK _ _ ⟨SK.out _ (by repeat (first | exact Ext.refl _ | refine Ext.drew ?_ | refine Ext.alloc ?_ _)), ?_⟩
            clear hK K
            refine wpAnyH_takes (fuel := 2) (by as_aux_lemma => kernel_rfl) (fun _ _ _ _ _ h => h) (SK.out _ (by repeat (first | exact Ext.refl _ | refine Ext.drew ?_ | refine Ext.alloc ?_ _))) [27] _ _ (by as_aux_lemma => kernel_rfl) ?_
            simp only [opsAt, List.getElem?_toArray, List.getElem?_cons_succ, List.getElem?_cons_zero, List.cons_append, List.nil_append]
            refine wpQuiet_val (.agg #[.int .u8 (rd : Nat), .bool (fw k), .bool true, .int .u32 0, .int .u8 0, .int .u32 0, .int .u8 0, .int .u8 0, .int .u8 0, .int .u16 0, .int .u8 0, .int .u16 0, .bool false, .int .u16 (O k : Nat), .slice (some ⟨wr.heap.size + 1, 0, none⟩) 1 1, .slice (some ⟨wr.heap.size, 0, none⟩) 1 1, .bool (G k), .bool (mr k)]) rfl (by intro w hSw; go_simp) ?_
            simp only [Act.put, List.setIfInBounds_toArray, List.set_cons_zero, List.set_cons_succ]
            refine wpQuiet_nil ?_
            refine wpAnyH_each [28] (by as_aux_lemma => kernel_rfl) (by simp) ?_
            intro i hi
            simp only [List.mem_cons, List.not_mem_nil, or_false] at hi
            subst hi
            intro o ho
            simp only [List.getElem?_toArray, List.getElem?_cons_succ, List.getElem?_cons_zero, Option.some.injEq] at ho
            subst ho
            intro K hK
            go_simp
            refine hK _ _ ⟨SK.out _ (by repeat (first | exact Ext.refl _ | refine Ext.drew ?_ | refine Ext.alloc ?_ _)), ?_⟩
            clear hK K
            refine wpAnyH_each [29] (by as_aux_lemma => kernel_rfl) (by simp) ?_
            intro i hi
            simp only [List.mem_cons, List.not_mem_nil, or_false] at hi
            subst hi
            intro o ho
            simp only [List.getElem?_toArray, List.getElem?_cons_succ, List.getElem?_cons_zero, Option.some.injEq] at ho
            subst ho
            intro K hK
            rw [if_pos (by rfl)]
            refine wp_store_mid 63 _ _ rfl (wr.heap.size + 1 + 1) 0 (#[.int .u8 (rd : Nat), .bool (fw k), .bool true, .int .u32 0, .int .u8 0, .int .u32 0, .int .u8 0, .int .u8 0, .int .u8 0, .int .u16 0, .int .u8 0, .int .u16 0, .bool false, .int .u16 (O k : Nat), .slice (some ⟨wr.heap.size + 1, 0, none⟩) 1 1, .slice (some ⟨wr.heap.size, 0, none⟩) 1 1, .bool (G k), .bool (mr k)]) rfl rfl (there_of_heap (three2 _ _ _ _) rfl) (by as_aux_lemma => kernel_rfl) (by simp [Value.oneCell']) ?_
            refine hK _ _ ⟨SK.out _ (ext_setCells (by repeat (first | exact Ext.refl _ | refine Ext.drew ?_ | refine Ext.alloc ?_ _)) (by omega) _ _), ?_⟩
            clear hK K
            refine wpAnyH_done (by as_aux_lemma => kernel_rfl) ?_ _
            go_wp2_with fail
            go_meet
            case rel => exact ⟨wr.heap.size + 1 + 1, wr.heap.size + 1, wr.heap.size, rfl, ext_setCells (by repeat (first | exact Ext.refl _ | refine Ext.drew ?_ | refine Ext.alloc ?_ _)) (by omega) _ _, cells_setCells (three2 _ _ _ _) rfl, (heap_setCells (by omega) _ _).trans (three1 _ _ _ _), (heap_setCells (by omega) _ _).trans (three0 _ _ _ _)⟩
          · intro o ho
            simp only [List.getElem?_toArray, List.getElem?_cons_succ, List.getElem?_cons_zero, Option.some.injEq] at ho
            subst ho
            intro K hK
            go_simp
            refine hK _ _ ⟨SK.out _ (by repeat (first | exact Ext.refl _ | refine Ext.drew ?_ | refine Ext.alloc ?_ _)), ?_⟩
            clear hK K
            refine wpAnyH_each [13] (by as_aux_lemma => kernel_rfl) (by simp) ?_
            intro i hi
            simp only [List.mem_cons, List.not_mem_nil, or_false] at hi
            subst hi
            intro o ho
            simp only [List.getElem?_toArray, List.getElem?_cons_succ, List.getElem?_cons_zero, Option.some.injEq] at ho
            subst ho
            intro K hK
            go_simp
            refine hK _ _ ⟨SK.out _ (by repeat (first | exact Ext.refl _ | refine Ext.drew ?_ | refine Ext.alloc ?_ _)), ?_⟩
            clear hK K
            refine wpAnyH_takes (fuel := 1) (by as_aux_lemma => kernel_rfl) (fun _ _ _ _ _ h => h) (SK.out _ (by repeat (first | exact Ext.refl _ | refine Ext.drew ?_ | refine Ext.alloc ?_ _))) [27] _ _ (by as_aux_lemma => kernel_rfl) ?_
            simp only [opsAt, List.getElem?_toArray, List.getElem?_cons_succ, List.getElem?_cons_zero, List.cons_append, List.nil_append]
            refine wpQuiet_val (.agg #[.int .u8 (rd : Nat), .bool (fw k), .bool true, .int .u32 0, .int .u8 0, .int .u32 0, .int .u8 0, .int .u8 0, .int .u8 0, .int .u16 0, .int .u8 0, .int .u16 0, .bool false, .int .u16 (O k : Nat), .slice (some ⟨wr.heap.size + 1 + 1, 0, none⟩) 1 1, .slice (some ⟨wr.heap.size, 0, none⟩) 1 1, .bool (G k), .bool (mr k)]) rfl (by intro w hSw; go_simp) ?_
            simp only [Act.put, List.setIfInBounds_toArray, List.set_cons_zero, List.set_cons_succ]
            refine wpQuiet_nil ?_
            refine wpAnyH_each [29] (by as_aux_lemma => kernel_rfl) (by simp) ?_
            intro i hi
            simp only [List.mem_cons, List.not_mem_nil, or_false] at hi
            subst hi
            intro o ho
            simp only [List.getElem?_toArray, List.getElem?_cons_succ, List.getElem?_cons_zero, Option.some.injEq] at ho
            subst ho
            intro K hK
            rw [if_pos (by rfl)]
            refine wp_store_mid 63 _ _ rfl (wr.heap.size + 1) 0 (#[.int .u8 (rd : Nat), .bool (fw k), .bool true, .int .u32 0, .int .u8 0, .int .u32 0, .int .u8 0, .int .u8 0, .int .u8 0, .int .u16 0, .int .u8 0, .int .u16 0, .bool false, .int .u16 (O k : Nat), .slice (some ⟨wr.heap.size + 1 + 1, 0, none⟩) 1 1, .slice (some ⟨wr.heap.size, 0, none⟩) 1 1, .bool (G k), .bool (mr k)]) rfl rfl (there_of_heap (three1 _ _ _ _) rfl) (by as_aux_lemma => kernel_rfl) (by simp [Value.oneCell']) ?_
            refine hK _ _ ⟨SK.out _ (ext_setCells (by repeat (first | exact Ext.refl _ | refine Ext.drew ?_ | refine Ext.alloc ?_ _)) (by omega) _ _), ?_⟩
            clear hK K
            refine wpAnyH_done (by as_aux_lemma => kernel_rfl) ?_ _
            go_wp2_with fail
            go_meet
            case rel => exact ⟨wr.heap.size + 1, wr.heap.size + 1 + 1, wr.heap.size, rfl, ext_setCells (by repeat (first | exact Ext.refl _ | refine Ext.drew ?_ | refine Ext.alloc ?_ _)) (by omega) _ _, cells_setCells (three1 _ _ _ _) rfl, (heap_setCells (by omega) _ _).trans (three2 _ _ _ _), (heap_setCells (by omega) _ _).trans (three0 _ _ _ _)⟩
        · intro o ho
          simp only [List.getElem?_toArray, List.getElem?_cons_succ, List.getElem?_cons_zero, Option.some.injEq] at ho
          subst ho
          intro K hK
          go_simp
          refine hK _ _ ⟨SK.out _ (by repeat (first | exact Ext.refl _ | refine Ext.drew ?_ | refine Ext.alloc ?_ _)), ?_⟩
          clear hK K
          refine wpAnyH_each [13, 18] (by as_aux_lemma => kernel_rfl) (by simp) ?_
          intro i hi
          simp only [List.mem_cons, List.not_mem_nil, or_false] at hi
          rcases hi with rfl | rfl
          · intro o ho
            simp only [List.getElem?_toArray, List.getElem?_cons_succ, List.getElem?_cons_zero, Option.some.injEq] at ho
            subst ho
            intro K hK
            go_simp
            refine hK _ _ ⟨SK.out _ (by repeat (first | exact Ext.refl _ | refine Ext.drew ?_ | refine Ext.alloc ?_ _)), ?_⟩
            clear hK K
            refine wpAnyH_each [18] (by as_aux_lemma => kernel_rfl) (by simp) ?_
            intro i hi
            simp only [List.mem_cons, List.not_mem_nil, or_false] at hi
            subst hi
            intro o ho
            simp only [List.getElem?_toArray, List.getElem?_cons_succ, List.getElem?_cons_zero, Option.some.injEq] at ho
            subst ho
            intro K hK
            go_simp
            refine hK _ _ ⟨SK.out _ (by repeat (first | exact Ext.refl _ | refine Ext.drew ?_ | refine Ext.alloc ?_ _)), ?_⟩
            clear hK K
            refine wpAnyH_takes (fuel := 1) (by as_aux_lemma => kernel_rfl) (fun _ _ _ _ _ h => h) (SK.out _ (by repeat (first | exact Ext.refl _ | refine Ext.drew ?_ | refine Ext.alloc ?_ _))) [27] _ _ (by as_aux_lemma => kernel_rfl) ?_
            simp only [opsAt, List.getElem?_toArray, List.getElem?_cons_succ, List.getElem?_cons_zero, List.cons_append, List.nil_append]
            refine wpQuiet_val (.agg #[.int .u8 (rd : Nat), .bool (fw k), .bool true, .int .u32 0, .int .u8 0, .int .u32 0, .int .u8 0, .int .u8 0, .int .u8 0, .int .u16 0, .int .u8 0, .int .u16 0, .bool false, .int .u16 (O k : Nat), .slice (some ⟨wr.heap.size + 1, 0, none⟩) 1 1, .slice (some ⟨wr.heap.size + 1 + 1, 0, none⟩) 1 1, .bool (G k), .bool (mr k)]) rfl (by intro w hSw; go_simp) ?_
            simp only [Act.put, List.setIfInBounds_toArray, List.set_cons_zero, List.set_cons_succ]
            refine wpQuiet_nil ?_
            refine wpAnyH_each [29] (by as_aux_lemma => kernel_rfl) (by simp) ?_
            intro i hi
            simp only [List.mem_cons, List.not_mem_nil, or_false] at hi
            subst hi
            intro o ho
            simp only [List.getElem?_toArray, List.getElem?_cons_succ, List.getElem?_cons_zero, Option.some.injEq] at ho
            subst ho
            intro K hK
            rw [if_pos (by rfl)]
            refine wp_store_mid 63 _ _ rfl (wr.heap.size) 0 (#[.int .u8 (rd : Nat), .bool (fw k), .bool true, .int .u32 0, .int .u8 0, .int .u32 0, .int .u8 0, .int .u8 0, .int .u8 0, .int .u16 0, .int .u8 0, .int .u16 0, .bool false, .int .u16 (O k : Nat), .slice (some ⟨wr.heap.size + 1, 0, none⟩) 1 1, .slice (some ⟨wr.heap.size + 1 + 1, 0, none⟩) 1 1, .bool (G k), .bool (mr k)]) rfl rfl (there_of_heap (three0 _ _ _ _) rfl) (by as_aux_lemma => kernel_rfl) (by simp [Value.oneCell']) ?_
            refine hK _ _ ⟨SK.out _ (ext_setCells (by repeat (first | exact Ext.refl _ | refine Ext.drew ?_ | refine Ext.alloc ?_ _)) (by omega) _ _), ?_⟩
            clear hK K
            refine wpAnyH_done (by as_aux_lemma => kernel_rfl) ?_ _
            go_wp2_with fail
            go_meet
            case rel => exact ⟨wr.heap.size, wr.heap.size + 1, wr.heap.size + 1 + 1, rfl, ext_setCells (by repeat (first | exact Ext.refl _ | refine Ext.drew ?_ | refine Ext.alloc ?_ _)) (by omega) _ _, cells_setCells (three0 _ _ _ _) rfl, (heap_setCells (by omega) _ _).trans (three1 _ _ _ _), (heap_setCells (by omega) _ _).trans (three2 _ _ _ _)⟩
          · intro o ho
            simp only [List.getElem?_toArray, List.getElem?_cons_succ, List.getElem?_cons_zero, Option.some.injEq] at ho
            subst ho
            intro K hK
            go_simp
            refine hK _ _ ⟨SK.out _ (by repeat (first | exact Ext.refl _ | refine Ext.drew ?_ | refine Ext.alloc ?_ _)), ?_⟩
            clear hK K
            refine wpAnyH_each [13] (by as_aux_lemma => kernel_rfl) (by simp) ?_
            intro i hi
            simp only [List.mem_cons, List.not_mem_nil, or_false] at hi
            subst hi
            intro o ho
            simp only [List.getElem?_toArray, List.getElem?_cons_succ, List.getElem?_cons_zero, Option.some.injEq] at ho
            subst ho
            intro K hK
            go_simp
            refine hK _ _ ⟨SK.out _ (by repeat (first | exact Ext.refl _ | refine Ext.drew ?_ | refine Ext.alloc ?_ _)), ?_⟩
            clear hK K
            refine wpAnyH_takes (fuel := 1) (by as_aux_lemma => kernel_rfl) (fun _ _ _ _ _ h => h) (SK.out _ (by repeat (first | exact Ext.refl _ | refine Ext.drew ?_ | refine Ext.alloc ?_ _))) [27] _ _ (by as_aux_lemma => kernel_rfl) ?_
            simp only [opsAt, List.getElem?_toArray, List.getElem?_cons_succ, List.getElem?_cons_zero, List.cons_append, List.nil_append]
            refine wpQuiet_val (.agg #[.int .u8 (rd : Nat), .bool (fw k), .bool true, .int .u32 0, .int .u8 0, .int .u32 0, .int .u8 0, .int .u8 0, .int .u8 0, .int .u16 0, .int .u8 0, .int .u16 0, .bool false, .int .u16 (O k : Nat), .slice (some ⟨wr.heap.size + 1 + 1, 0, none⟩) 1 1, .slice (some ⟨wr.heap.size + 1, 0, none⟩) 1 1, .bool (G k), .bool (mr k)]) rfl (by intro w hSw; go_simp) ?_
            simp only [Act.put, List.setIfInBounds_toArray, List.set_cons_zero, List.set_cons_succ]
            refine wpQuiet_nil ?_
            refine wpAnyH_each [29] (by as_aux_lemma => kernel_rfl) (by simp) ?_
            intro i hi
            simp only [List.mem_cons, List.not_mem_nil, or_false] at hi
            subst hi
            intro o ho
            simp only [List.getElem?_toArray, List.getElem?_cons_succ, List.getElem?_cons_zero, Option.some.injEq] at ho
            subst ho
            intro K hK
            rw [if_pos (by rfl)]
            refine wp_store_mid 63 _ _ rfl (wr.heap.size) 0 (#[.int .u8 (rd : Nat), .bool (fw k), .bool true, .int .u32 0, .int .u8 0, .int .u32 0, .int .u8 0, .int .u8 0, .int .u8 0, .int .u16 0, .int .u8 0, .int .u16 0, .bool false, .int .u16 (O k : Nat), .slice (some ⟨wr.heap.size + 1 + 1, 0, none⟩) 1 1, .slice (some ⟨wr.heap.size + 1, 0, none⟩) 1 1, .bool (G k), .bool (mr k)]) rfl rfl (there_of_heap (three0 _ _ _ _) rfl) (by as_aux_lemma => kernel_rfl) (by simp [Value.oneCell']) ?_
            refine hK _ _ ⟨SK.out _ (ext_setCells (by repeat (first | exact Ext.refl _ | refine Ext.drew ?_ | refine Ext.alloc ?_ _)) (by omega) _ _), ?_⟩
            clear hK K
            refine wpAnyH_done (by as_aux_lemma => kernel_rfl) ?_ _
            go_wp2_with fail
            go_meet
            case rel => exact ⟨wr.heap.size, wr.heap.size + 1 + 1, wr.heap.size + 1, rfl, ext_setCells (by repeat (first | exact Ext.refl _ | refine Ext.drew ?_ | refine Ext.alloc ?_ _)) (by omega) _ _, cells_setCells (three0 _ _ _ _) rfl, (heap_setCells (by omega) _ _).trans (three2 _ _ _ _), (heap_setCells (by omega) _ _).trans (three1 _ _ _ _)⟩
      case rest =>
        obtain ⟨rb, mbk, vbk, rfl, HC⟩ := hcut
        have HA := hide (hadd.out k wr wc mbk vbk hlt HF.out HC.out.1 HC.out.2.2.1 HC.out.2.2.2)
        have HCS := hide HC.out.2.1
        clear HC SK c1 c2 c3 c4 c5 c6 HF
        by_cases hacc : rd < 2 ∧ k < 12
        · have hki : (k : Int) < 12 := by omega
          have hri : (rd : Int) ≤ 1 := by omega
          have Hacc := hide hacc
          clear hacc
          go_wp2_with (first | (refine wpList_load_mid rfl 63 (.tmp 21) rfl rb 0 rfl (ruleG rd (fw k) (O k) mbk vbk (G k) (mr k)) _ HCS.out Tryd.underlying63 rfl info63n ?_) | (go_at_call 16; refine HA.out.mono ?_; rintro e w' ⟨hor, hR⟩; obtain rfl : e = .returned .nilIface := hor.elim (fun h => h.2.2) (fun h => absurd Hacc.out h.1); have HR1 := hide hR; clear hor hR))
          go_roundw
          case rel => exact ⟨rfl, k + 1, by omega, by go_num, HR1.out⟩
          case measure => (simp [intOf] <;> omega)
        · have Hacc := hide hacc
          by_cases hr2 : rd < 2
          · have hki : ¬ (k : Int) < 12 := by omega
            have hri : (rd : Int) ≤ 1 := by omega
            clear hacc
            go_wp2_with (first | (refine wpList_load_mid rfl 63 (.tmp 21) rfl rb 0 rfl (ruleG rd (fw k) (O k) mbk vbk (G k) (mr k)) _ HCS.out Tryd.underlying63 rfl info63n ?_) | (go_at_call 16; refine HA.out.mono ?_; rintro e w' ⟨hor, hR⟩; obtain ⟨pe, rfl⟩ : ∃ p, e = .returned (.iface 93 (.pointer (some p))) := hor.elim (fun h => absurd ⟨h.1, h.2.1⟩ Hacc.out) (fun h => h.2); have HR1 := hide hR; clear hor hR))
            go_roundw
            case rel => exact ⟨rfl, k + 1, by omega, by go_num, HR1.out⟩
            case measure => (simp [intOf] <;> omega)
          · have hri : ¬ (rd : Int) ≤ 1 := by omega
            clear hacc
            go_wp2_with (first | (refine wpList_load_mid rfl 63 (.tmp 21) rfl rb 0 rfl (ruleG rd (fw k) (O k) mbk vbk (G k) (mr k)) _ HCS.out Tryd.underlying63 rfl info63n ?_) | (go_at_call 16; refine HA.out.mono ?_; rintro e w' ⟨hor, hR⟩; obtain ⟨pe, rfl⟩ : ∃ p, e = .returned (.iface 93 (.pointer (some p))) := hor.elim (fun h => absurd ⟨h.1, h.2.1⟩ Hacc.out) (fun h => h.2); have HR1 := hide hR; clear hor hR))
            go_roundw
            case rel => exact ⟨rfl, k + 1, by omega, by go_num, HR1.out⟩
            case measure => (simp [intOf] <;> omega)
    · go_wp2
      go_ret2
      obtain rfl : k = n := by omega
      exact ⟨rfl, HF.out⟩
end Go.Proofs.Qxb6609285aDoor
