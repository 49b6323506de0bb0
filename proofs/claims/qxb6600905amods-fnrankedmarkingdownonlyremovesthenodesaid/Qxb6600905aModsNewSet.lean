/-
  ZZNewSet: the set as it is made out of parallel slices.
-/
import Derived.Test.Qxb6600905aModsRowsOf
import Derived.StillTailTactics
namespace Go.Proofs.Qxb6600905aMods
open Go.RowKit
attribute [local go_sem] run_store_float

def tierG (f : Nat → Int) (vb sz : Nat → Nat) (i j : Nat) : Value := tierC (f i) (.slice (some ⟨vb i, 0, none⟩) (sz i) (sz i)) (.slice none 0 0) j
def tierZ (j : Nat) : Value := tierC 0 (.slice none 0 0) (.slice none 0 0) j

/-- What ZZNewSet is handed. -/
structure Given (w : World) (n up T bi bn bw bs bd b1 b2 bf bv : Nat) (M : Mems) (nid : Nat → ByteArray) (nnm : Nat → Int) (f : Nat → Int) (vb sz : Nat → Nat) : Prop where
  ids : w.rowIs bi 9 n (fun i => .string (M.id i))
  nms : w.rowIs bn 22 n (fun i => .int .u64 (M.nm i))
  wts : w.rowIs bw 45 n (fun i => .float .f64 (M.wt i))
  sls : w.rowIs bs 3 n (fun i => .int .i64 (M.slot i))
  dns : w.rowIs bd 4 n (fun i => .bool (M.down i))
  nids : w.rowIs b1 9 up (fun i => .string (nid i))
  nnms : w.rowIs b2 22 up (fun i => .int .u64 (nnm i))
  fans : w.rowIs bf 3 T (fun i => .int .i64 (f i))
  vms : w.rowIs bv 23 T (fun t => .slice (some ⟨vb t, 0, none⟩) (sz t) (sz t))

set_option maxRecDepth 100000 in
set_option maxHeartbeats 4000000 in
theorem newset_calls (n up T bi bn bw bs bd b1 b2 bf bv : Nat) (wa : Option Addr) (wl wc : Nat) (M : Mems) (nid : Nat → ByteArray) (nnm : Nat → Int) (f : Nat → Int) (vb sz : Nat → Nat) (w : World)
    (hn : n ≤ 4096) (hup : up ≤ 4096) (hT : T ≤ 12) (hG : Given w n up T bi bn bw bs bd b1 b2 bf bv M nid nnm f vb sz) :
    Calls Trym.prog 39 #[.slice (some ⟨bi, 0, none⟩) n n, .slice (some ⟨bn, 0, none⟩) n n, .slice (some ⟨bw, 0, none⟩) n n, .slice (some ⟨bs, 0, none⟩) n n, .slice (some ⟨bd, 0, none⟩) n n,
      .slice (some ⟨b1, 0, none⟩) up up, .slice (some ⟨b2, 0, none⟩) up up, .slice wa wl wc, .slice (some ⟨bf, 0, none⟩) T T, .slice (some ⟨bv, 0, none⟩) T T] w fun e w' =>
      ∃ nb tb, e = .returned (.pointer (some ⟨w.heap.size, 0, none⟩)) ∧ w.heap.size + 1 < tb ∧
        NS w w' n M (.slice (some ⟨nb, 0, none⟩) up up) (.slice wa wl wc) true (.slice (some ⟨tb, 0, none⟩) T T) ∧ w'.rowIs tb 79 (T * 3) (strF 3 (tierG f vb sz) tierZ T) := by
  obtain ⟨Z64, hZ64⟩ := made64
  obtain ⟨Z65, hZ65⟩ := made65
  obtain ⟨Z66, hZ66⟩ := made66
  have hm64 := fun (W : World) => hZ64.run n W (by omega)
  have hm65 := fun (W : World) => hZ65.run up W (by omega)
  have hm66 := fun (W : World) => hZ66.run T W (by omega)
  go_enter Trym.func39, Trym.ntmps39
  go_wp2
  go_loopw [35] (fun i wr => ∃ k : Nat, k ≤ n ∧ i = .int .i64 k ∧ wr.rowIs w.heap.size 68 7 (setC (.slice (some ⟨w.heap.size + 1, 0, none⟩) n n) (.slice none 0 0) (.slice none 0 0) false (.slice none 0 0) (.slice none 0 0)) ∧
      wr.rowIs (w.heap.size + 1) 77 (n * 5) (strF 5 (memG M) memZ k) ∧ Below w.heap.size w wr) (fun i _ => n - (intOf i).toNat)
  case atStart =>
    refine ⟨0, Nat.zero_le _, rfl, ?_, ?_, ?_⟩
    · refine World.rowIs.alloc ?_ _
      refine World.rowIs_alloc w _ 68 _ (fun i hi => ?_)
      have : i = 0 ∨ i = 1 ∨ i = 2 ∨ i = 3 ∨ i = 4 ∨ i = 5 ∨ i = 6 := by simp at hi; omega
      rcases this with h | h | h | h | h | h | h <;> subst h <;> rfl
    · have := hZ64.row (w.alloc (.cells #[Value.slice (some ⟨w.heap.size + 1, 0, none⟩) n n, Value.slice none 0 0, Value.slice none 0 0, Value.int IntKind.u64 0, Value.bool false, Value.slice none 0 0, Value.slice none 0 0] 68)) n
      simp only [World.size_alloc] at this
      exact this.congr (fun c _ => by rw [strF_zero]; rfl)
    · exact ((Below.refl _ _).alloc (Nat.le_refl _) _).alloc (by simp) _
  case round =>
    obtain ⟨k, hk, rfl, hset, hmem, hb⟩ := hrel
    by_cases hlt : k < n
    · have c1 := (kept_row hG.ids hb).cell hlt
      have c2 := (kept_row hG.nms hb).cell hlt
      have c3 := (kept_row hG.wts hb).cell hlt
      have c4 := (kept_row hG.sls hb).cell hlt
      have c5 := (kept_row hG.dns hb).cell hlt
      have s0 : wr.cell? ⟨w.heap.size, 0, none⟩ = some (.slice (some ⟨w.heap.size + 1, 0, none⟩) n n) := hset.cell (i := 0) (by omega)
      have d0 := hmem.cell (i := k * 5) (by omega)
      have d1 := hmem.cell (i := k * 5 + 1) (by omega)
      have d2 := hmem.cell (i := k * 5 + 2) (by omega)
      have d3 := hmem.cell (i := k * 5 + 3) (by omega)
      have d4 := hmem.cell (i := k * 5 + 4) (by omega)
      have f0 := hmem.frozen (k * 5)
      have f1 := hmem.frozen (k * 5 + 1)
      have f2 := hmem.frozen (k * 5 + 2)
      have f3 := hmem.frozen (k * 5 + 3)
      have f4 := hmem.frozen (k * 5 + 4)
      have HM := hid_mk (row_set5 hmem)
      have HS := hid_mk hset
      generalize strF 5 (memG M) memZ k (k * 5) = v0 at d0
      generalize strF 5 (memG M) memZ k (k * 5 + 1) = v1 at d1
      generalize strF 5 (memG M) memZ k (k * 5 + 2) = v2 at d2
      generalize strF 5 (memG M) memZ k (k * 5 + 3) = v3 at d3
      generalize strF 5 (memG M) memZ k (k * 5 + 4) = v4 at d4
      clear hmem hset hm64 hZ64 hm65 hZ65 hm66 hZ66 hG
      go_wp2
      go_still_tail 28, follows
      change wpList _ _ _ _ _ wr.drew
      go_wp2
      go_roundw
      case rel =>
        refine ⟨k + 1, by omega, by go_num, ?_, HM.out.drew, ?_⟩
        · exact (((((HS.out.setOther (by show _ ≠ w.heap.size + 1; omega) _).setOther (by show _ ≠ w.heap.size + 1; omega) _).setOther (by show _ ≠ w.heap.size + 1; omega) _).setOther (by show _ ≠ w.heap.size + 1; omega) _).setOther (by show _ ≠ w.heap.size + 1; omega) _).drew
        · exact (((((hb.setCell (by show _ ≤ w.heap.size + 1; omega) _).setCell (by show _ ≤ w.heap.size + 1; omega) _).setCell (by show _ ≤ w.heap.size + 1; omega) _).setCell (by show _ ≤ w.heap.size + 1; omega) _).setCell (by show _ ≤ w.heap.size + 1; omega) _).drew
      case measure => simp [intOf]; omega
    · obtain rfl : n = k := by omega
      have hNS : NS w wr n M (.slice none 0 0) (.slice none 0 0) false (.slice none 0 0) := ⟨hset, hmem, hb⟩
      have g1 : ∀ o, (wr.alloc o).cell? ⟨w.heap.size, 1, none⟩ = some (.slice none 0 0) := fun o => (hset.alloc o).cell (i := 1) (by omega)
      have f1 : ∀ o, (wr.alloc o).frozen? ⟨w.heap.size, 1, none⟩ = false := fun o => (hset.alloc o).frozen 1
      have hwl := hmem.lt
      clear hset hmem hb hlt hk hm64 hZ64
      obtain ⟨w1, rfl⟩ : ∃ w1 : World, w1 = wr := ⟨_, rfl⟩
      go_wp2
      go_loopw [75] (fun i wr => ∃ (k : Nat) (g : Nat → Value), k ≤ up ∧ i = .int .i64 k ∧ NS w wr n M (.slice (some ⟨w1.heap.size, 0, none⟩) up up) (.slice none 0 0) false (.slice none 0 0) ∧ wr.rowIs w1.heap.size 70 (up * 2) g) (fun i _ => up - (intOf i).toNat)
      case atStart =>
        exact ⟨0, _, Nat.zero_le _, rfl, (hNS.alloc _).field 1 _ set_field1, (hZ65.row w1 up).setOther (by show w1.heap.size ≠ w.heap.size; omega) _⟩
      case round =>
        obtain ⟨k, g, hk, rfl, hN2, hnod⟩ := hrel
        by_cases hlt : k < up
        · have c1 := (kept_row hG.nids hN2.b).cell hlt
          have c2 := (kept_row hG.nnms hN2.b).cell hlt
          have s1 : wr.cell? ⟨w.heap.size, 1, none⟩ = some (.slice (some ⟨w1.heap.size, 0, none⟩) up up) := hN2.set.cell (i := 1) (by omega)
          have d0 := hnod.cell (i := k * 2) (by omega)
          have d1 := hnod.cell (i := k * 2 + 1) (by omega)
          have e0 := hnod.frozen (k * 2)
          have e1 := hnod.frozen (k * 2 + 1)
          have HN' := hid_mk ((hnod.set (k * 2) (.string (nid k))).set (k * 2 + 1) (.int .u64 (nnm k)))
          have HN3 := hid_mk (((hN2.other (a := ⟨w1.heap.size, k * 2, none⟩) hwl (.string (nid k))).other (a := ⟨w1.heap.size, k * 2 + 1, none⟩) hwl (.int .u64 (nnm k))).drew)
          clear hnod hN2 hNS g1 f1 hm65 hZ65 hm66 hZ66 hG
          go_wp2
          go_still_tail 15, follows
          change wpList _ _ _ _ _ wr.drew
          go_wp2
          go_roundw
          case rel => exact ⟨k + 1, _, by omega, by go_num, HN3.out, HN'.out.drew⟩
          case measure => simp [intOf]; omega
        · obtain rfl : up = k := by omega
          have hN3 := (hN2.field 2 (.slice wa wl wc) set_field2)
          have s2 : wr.cell? ⟨w.heap.size, 2, none⟩ = some (.slice none 0 0) := hN2.set.cell (i := 2) (by omega)
          have s5 : ∀ v o, ((wr.setCell ⟨w.heap.size, 2, none⟩ v).alloc o).cell? ⟨w.heap.size, 5, none⟩ = some (.slice none 0 0) := fun v o => ((hN2.field 2 v set_field2).alloc o).set.cell (i := 5) (by omega)
          have e2 := hN2.set.frozen 2
          have e5 : ∀ v o, ((wr.setCell ⟨w.heap.size, 2, none⟩ v).alloc o).frozen? ⟨w.heap.size, 5, none⟩ = false := fun v o => ((hN2.field 2 v set_field2).alloc o).set.frozen 5
          have hwl2 := hnod.lt
          clear hN2 hnod hlt hk hm65 hZ65 g1 f1 hNS
          obtain ⟨w2, rfl⟩ : ∃ w2 : World, w2 = wr := ⟨_, rfl⟩
          go_wp2
          go_loopw [106] (fun i wr => ∃ (k : Nat), k ≤ T ∧ i = .int .i64 k ∧ NS w wr n M (.slice (some ⟨w1.heap.size, 0, none⟩) up up) (.slice wa wl wc) false (.slice (some ⟨w2.heap.size, 0, none⟩) T T) ∧
            wr.rowIs w2.heap.size 79 (T * 3) (strF 3 (tierG f vb sz) tierZ k)) (fun i _ => T - (intOf i).toNat)
          case atStart =>
            refine ⟨0, Nat.zero_le _, rfl, (hN3.alloc _).field 5 _ set_field5, ?_⟩
            have hr := hZ66.row (w2.setCell ⟨w.heap.size, 2, none⟩ (.slice wa wl wc)) T
            have hsz : (w2.setCell ⟨w.heap.size, 2, none⟩ (.slice wa wl wc)).heap.size = w2.heap.size := by simp [World.setCell]
            rw [hsz] at hr
            exact (hr.congr (fun c _ => by rw [strF_zero]; rfl)).setOther (by show w2.heap.size ≠ w.heap.size; omega) _
          case round =>
            obtain ⟨k, hk, rfl, hN4, htie⟩ := hrel
            clear hN3 hm66 hZ66 s2 s5 e2 e5
            by_cases hlt : k < T
            · have c1 := (kept_row hG.fans hN4.b).cell hlt
              have c2 := (kept_row hG.vms hN4.b).cell hlt
              have s1 : wr.cell? ⟨w.heap.size, 5, none⟩ = some (.slice (some ⟨w2.heap.size, 0, none⟩) T T) := hN4.set.cell (i := 5) (by omega)
              have d0 := htie.cell (i := k * 3) (by omega)
              have d1 := htie.cell (i := k * 3 + 1) (by omega)
              have d2 := htie.cell (i := k * 3 + 2) (by omega)
              have e0 := htie.frozen (k * 3)
              have e1 := htie.frozen (k * 3 + 1)
              have e2 := htie.frozen (k * 3 + 2)
              have HT' := hid_mk (row_set3 htie)
              have HN3 := hid_mk ((((hN4.other (a := ⟨w2.heap.size, k * 3, none⟩) (by show _ < w2.heap.size; omega) (tierG f vb sz k 0)).other (a := ⟨w2.heap.size, k * 3 + 1, none⟩) (by show _ < w2.heap.size; omega) (tierG f vb sz k 1)).other (a := ⟨w2.heap.size, k * 3 + 2, none⟩) (by show _ < w2.heap.size; omega) (tierG f vb sz k 2)).drew)
              generalize strF 3 (tierG f vb sz) tierZ k (k * 3) = x0 at d0
              generalize strF 3 (tierG f vb sz) tierZ k (k * 3 + 1) = x1 at d1
              generalize strF 3 (tierG f vb sz) tierZ k (k * 3 + 2) = x2 at d2
              clear htie hN4 hG
              go_wp2
              go_still_tail 15, follows
              change wpList _ _ _ _ _ wr.drew
              go_wp2
              go_roundw
              case rel => exact ⟨k + 1, by omega, by go_num, HN3.out, HT'.out.drew⟩
              case measure => simp [intOf]; omega
            · obtain rfl : T = k := by omega
              have s4 : wr.cell? ⟨w.heap.size, 4, none⟩ = some (.bool false) := hN4.set.cell (i := 4) (by omega)
              have e4 := hN4.set.frozen 4
              have hN5 := hN4.field 4 (.bool true) set_field4
              have htie' := htie.setOther (a := ⟨w.heap.size, 4, none⟩) (by show w2.heap.size ≠ w.heap.size; omega) (.bool true)
              clear hN4 htie hG
              go_wp2
              go_ret
              exact ⟨_, _, rfl, by omega, hN5, htie'⟩
end Go.Proofs.Qxb6600905aMods
