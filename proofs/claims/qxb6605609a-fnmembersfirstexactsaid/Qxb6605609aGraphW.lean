/-
  THE WALK OF zzGraph.
-/
import Derived.Test.Qxb6605609aGraph
namespace Go.Proofs.Qxb6605609a
open Go.RowKit

theorem makeMap53 (v : Int) (w : World) : (Instr.makeMap 53 (some (.int .i64 v))).run Try.prog w = .ok (.map (some w.heap.size)) (w.alloc (.map #[] 0)) := by kernel_rfl
theorem zero3 (w : World) : (zeroValue 3).run Try.prog w = .ok (.int .i64 0) w := Try.zeroValue3 w

theorem grid_small {l : Nat} (h : l ≤ 600000000) : l + 1 ≤ maxLen ∧ (l + 1) * 8 ≤ 140737488355328 := by
  unfold maxLen
  omega

theorem heap_alloc_set (w : World) (p : Addr) (v : Value) (o : Obj) : ((w.setCell p v).alloc o).heap[w.heap.size]? = some o := by
  have h := heap_alloc_new (w.setCell p v) o
  have e : (w.setCell p v).heap.size = w.heap.size := by simp
  rwa [e] at h

/-- What zzGraph hands back. -/
def GraphRes (w' : World) (n : Nat) (ss : Nat → ByteArray) (ln : Nat → Nat) (ms : Nat → Nat → ByteArray) (e : Ending) : Prop :=
  ∃ a1 a2 va1 vc1 va2 vc2 R, e = .returned (.tuple #[.slice a1 n n, .slice a2 n n]) ∧
    IRows w' a1 n va1 vc1 (adjL ss n ln ms) ∧ IRows w' a2 n va2 vc2 R ∧ (∀ j q, q ∈ R j ↔ q < n ∧ j ∈ adjL ss n ln ms q)

theorem map_step {w w1 : World} {k n : Nat} {ss : Nat → ByteArray} (hk : k < n) (hinj : ∀ i j, i < n → j < n → ss i = ss j → i = j)
    (h : SMap w1 w.heap.size (if ((fun s => (idxOf ss k s).map fun i : Nat => Value.int .i64 (i : Int)) (ss k)).isSome then k else k + 1) (updS (fun s => (idxOf ss k s).map fun i : Nat => Value.int .i64 (i : Int)) (ss k) (.int .i64 (k : Int)))) :
    SMap w1 w.heap.size (k + 1) (fun s => (idxOf ss (k + 1) s).map fun i : Nat => Value.int .i64 (i : Int)) := by
  have hnew : ∀ i, i < k → ss i ≠ ss k := fun i hi e => by have := hinj i k (by omega) hk e; omega
  have hnone : idxOf ss k (ss k) = none := by
    cases e : idxOf ss k (ss k) with
    | none => rfl
    | some i =>
      obtain ⟨h1, h2⟩ := idxOf_some e
      exact absurd h2 (hnew i h1)
  have hsome : ((fun s => (idxOf ss k s).map fun i : Nat => Value.int .i64 (i : Int)) (ss k)).isSome = false := by simp [hnone]
  rw [hsome] at h
  refine SMap.congr h fun s _ => ?_
  unfold updS
  rw [idxOf_succ ss k s hnew]
  by_cases e : s = ss k
  · simp [e]
  · simp [e]

theorem GSt.start {w wr : World} {mb n : Nat} {ss : Nat → ByteArray} {ln : Nat → Nat} {ms : Nat → Nat → ByteArray} (hm : SMap wr mb n (fun s => (idxOf ss n s).map fun i : Nat => Value.int .i64 (i : Int))) (hb : Below w.heap.size w wr) :
    GSt w ((wr.alloc (.cells (madeRows n) 43)).alloc (.cells (madeRows n) 43)) mb wr.heap.size (wr.heap.size + 1) n ss ln ms 0 0 (fun _ => .slice none 0 0) (fun _ => .slice none 0 0) (fun _ => []) := by
  have hlt := hm.lt
  have e1 : (wr.alloc (.cells (madeRows n) 43)).heap.size = wr.heap.size + 1 := by simp
  have k1 : KB (fun _ => False) wr (wr.alloc (.cells (madeRows n) 43)) := (KB.refl _ _).alloc _
  have k2 : KB (fun _ => False) (wr.alloc (.cells (madeRows n) 43)) ((wr.alloc (.cells (madeRows n) 43)).alloc (.cells (madeRows n) 43)) := (KB.refl _ _).alloc _
  have hin : ∀ ob k, GridIn ob n (fun _ => Value.slice none 0 0) k → k = ob := fun ob k hk => by
    rcases hk with h | ⟨i, _, e⟩
    · exact h
    · simp [Value.ownBlock] at e
  refine ⟨(hm.keep k1 id).keep k2 id, ?_, ?_, fun k h1 h2 => ?_, fun h => ?_, fun h => ?_, fun j q => by simp [adjPre], fun j _ => by simp, (hb.alloc hb.size _).alloc (by have := hb.size; simp; omega) _⟩
  · have g := (Grid.made wr n w.heap.size).keep k2 (fun k _ h => h)
    have e : rowsTo ss n ln ms 0 0 = fun _ => [] := by
      funext j
      simp [rowsTo, adjPre]
    rw [e]
    exact g
  · have := Grid.made (wr.alloc (.cells (madeRows n) 43)) n w.heap.size
    rw [e1] at this
    exact this
  · have := hin _ k h1
    have := hin _ k h2
    omega
  · have := hin _ _ h
    omega
  · have := hin _ _ h
    omega

set_option maxRecDepth 100000 in
set_option maxHeartbeats 2000000 in
theorem graph20 (a a1 : Option Addr) (n c c1 : Nat) (ss : Nat → ByteArray) (la : Nat → Option Addr) (ln lc : Nat → Nat) (ms : Nat → Nat → ByteArray) (w : World) (hn : n ≤ 4096) (hs : SlAt w a n fun j => .string (ss j)) (hL : Lists w a1 n la ln lc ms)
    (hsb : ∀ j, (ss j).size ≤ maxLen) (hmb : ∀ k j, (ms k j).size ≤ maxLen) (hl : ∀ k, k < n → ln k ≤ 131072) (hinj : ∀ i j, i < n → j < n → ss i = ss j → i = j) :
    Calls Try.prog 20 #[.slice a n c, .slice a1 n c1] w fun e w' => GraphRes w' n ss ln ms e ∧ Below w.heap.size w w' := by
  have hmk := makeMap53
  have hmr := makeRows n (by omega)
  obtain ⟨i0, hi0, hz0, hz1, hz2⟩ := info_parts info3
  go_enter Try.func20, Try.ntmps20
  go_wp2_with fail
  clear hmk
  go_loopw [8] (fun v wr => ∃ k : Nat, k ≤ n ∧ v = .int .i64 k ∧ Hid (SMap wr w.heap.size k (fun s => (idxOf ss k s).map fun i : Nat => Value.int .i64 (i : Int))) ∧ Below w.heap.size w wr) (fun v _ => n - (intOf v).toNat)
  case atStart => exact ⟨0, Nat.zero_le _, rfl, SMap.made w, (Below.refl _ _).alloc (Nat.le_refl _) _⟩
  case round =>
    obtain ⟨k, hk, rfl, Hm, hbl⟩ := hrel
    by_cases hlt : k < n
    · obtain ⟨b1, o1, hb1, hix1, hc1'⟩ := hs.elem22 hlt c
      have hc1 : wr.cell? ⟨b1, o1, none⟩ = some (.string (ss k)) := (hbl.cell (p := ⟨b1, o1, none⟩) hb1).trans hc1'
      obtain ⟨w1, hrun, hm1, hg1⟩ := Hm.out.update Try.underlying53 (hsb k) (by unfold maxLen; omega) (.int .i64 (k : Int))
      have Hm1 := show Hid (SMap _ _ _ _) from map_step hlt hinj hm1
      have hbl1 : Below w.heap.size w w1 := hbl.grown hg1 hbl.size (fun i hi => by cases hi; exact Nat.le_refl _)
      clear hm1 hg1
      go_wp2_with fail
      go_roundw
      case rel => exact ⟨k + 1, by omega, by go_num, Hm1, hbl1⟩
      case measure => simp [intOf]; omega
    · obtain rfl : k = n := by omega
      have HS := show Hid (GSt _ _ _ _ _ _ _ _ _ _ _ _ _ _) from GSt.start (ln := ln) (ms := ms) Hm.out hbl
      clear Hm
      go_wp2_with fail
      clear hmr
      obtain ⟨ob, hob⟩ : ∃ ob, ob = wr.heap.size := ⟨_, rfl⟩
      rw [← hob] at HS ⊢
      have hlow : w.heap.size ≤ ob := by rw [hob]; exact hbl.size
      clear hob hbl
      go_loopw [11, 12, 13, 14, 15] (fun v _ _ _ _ wx => ∃ (i : Nat) (val1 val2 : Nat → Value) (L2 : Nat → List Nat), i ≤ k ∧ v = .int .i64 i ∧ Hid (GSt w wx w.heap.size ob (ob + 1) k ss ln ms i 0 val1 val2 L2)) (fun v _ _ _ _ _ => k - (intOf v).toNat)
      case atStart => exact ⟨0, _, _, _, Nat.zero_le _, rfl, HS⟩
      case round =>
        obtain ⟨i, val1, val2, L2, hi, rfl, HG⟩ := hrel
        by_cases hlt2 : i < k
        · obtain ⟨b1, o1, hb1, hix1, hc1'⟩ := hL.outer.elem23 hlt2 c1
          have hc1 : wr.cell? ⟨b1, o1, none⟩ = some (.slice (la i) (ln i) (lc i)) := (HG.out.bel.cell (p := ⟨b1, o1, none⟩) hb1).trans hc1'
          have hid : decide ((i : Int) < (k : Int)) = true := by simp; omega
          have hin := hL.inner i hlt2
          have hin0 := hin.small
          go_wp2_with fail
          go_loopw [13, 14, 15] (fun v _ _ wx => ∃ (t : Nat) (val1 val2 : Nat → Value) (L2 : Nat → List Nat), t ≤ ln i ∧ v = .int .i64 t ∧ Hid (GSt w wx w.heap.size ob (ob + 1) k ss ln ms i t val1 val2 L2)) (fun v _ _ _ => ln i - (intOf v).toNat)
          case atStart => exact ⟨0, val1, val2, L2, Nat.zero_le _, rfl, HG⟩
          case round =>
            obtain ⟨t, va1, va2, R, ht, rfl, HG⟩ := hrel
            by_cases hlt3 : t < ln i
            · obtain ⟨b2, o2, hb2, hix2, hc2'⟩ := hin.elem22 hlt3 (lc i)
              have hc2 : wr.cell? ⟨b2, o2, none⟩ = some (.string (ms i t)) := (HG.out.bel.cell (p := ⟨b2, o2, none⟩) hb2).trans hc2'
              have hlook := HG.out.map.lookOk Try.underlying53 (zero3 wr) (hmb i t)
              cases hx : idxOf ss k (ms i t) with
              | none =>
                rw [hx] at hlook
                simp only [Option.map_none, Option.getD_none, Option.isSome_none] at hlook
                have HG2 := show Hid (GSt _ _ _ _ _ _ _ _ _ _ _ _ _ _) from HG.out.stay hx
                clear HG
                go_wp2_with fail
                go_roundw
                case rel => exact ⟨t + 1, va1, va2, R, by omega, by go_num, HG2⟩
                case measure => simp [intOf]; omega
              | some j =>
                rw [hx] at hlook
                simp only [Option.map_some, Option.getD_some, Option.isSome_some] at hlook
                obtain ⟨hjn, _⟩ := idxOf_some hx
                have G1 := show Hid (Grid _ _ _ _ _ _) from HG.out.g1
                have G2 := show Hid (Grid _ _ _ _ _ _) from HG.out.g2
                have hcell1 := G1.out.row.cell hlt2
                have hl1 : Hid ((rowsTo ss k ln ms i t i).length ≤ 131072) := by
                  have h1 := adjPre_length ss k ms i t
                  have h2 := hl i hlt2
                  show (rowsTo ss k ln ms i t i).length ≤ 131072
                  simp [rowsTo]
                  omega
                have hl2 : Hid ((R j).length ≤ 600000000) := by
                  have h1 := HG.out.len j hjn
                  have h2 := hl i hlt2
                  show (R j).length ≤ 600000000
                  have h3 : i < 4096 := by omega
                  have h4 : t < 131072 := by omega
                  clear hl hlook
                  omega
                have hsz := HG.out.bel.size
                obtain ⟨L1, eL1⟩ : ∃ L1, L1 = rowsTo ss k ln ms i t := ⟨_, rfl⟩
                have G1' : Hid (Grid wr ob k w.heap.size va1 L1) := by rw [eL1]; exact G1
                have hl1' : Hid ((L1 i).length ≤ 600000000) := by
                  have := hl1.out
                  show (L1 i).length ≤ 600000000
                  rw [eL1]
                  omega
                have EL1 : Hid (L1 = rowsTo ss k ln ms i t) := eL1
                clear eL1 G1 hl1
                go_wp2_with (first
                  | (at_builtin; refine wpList_append_lies _ (by rfl) _ _ _ (by rfl) w.heap.size 3 i0 _ 1 8 Try.underlying43 hi0 hz0 hz1 hz2 rfl (by omega) (va1 i) (L1 i).length (ints (L1 i)) (by rfl) ((G1'.out.own i hlt2).alloc _) ⟨wr.heap.size, 0, none⟩ 1 1 [.int .i64 (j : Int)] (by rfl) (by rfl) (World.news_of_block (cs := #[.int .i64 (j : Int)]) (t := 3) (fr := (0, 0)) (heap_alloc_new wr _)) (by simp [Value.oneCell']) (by omega) (grid_small hl1'.out).1 (grid_small hl1'.out).2 (by simp; omega) (wr.heap.size + 1) (by simp) ?_; intro g1 cap1 x1 hown1 hgrow1 hat1 hltg1; obtain ⟨q1, q2, q3, q4, q5⟩ := G1'.out.push hlt2 hown1 hgrow1 hat1 rfl; have Q3 := show Hid (Grid _ _ _ _ _ _) from q3; have Q5 := show Hid (∀ kk, GridIn _ _ _ kk → _) from q5; have G2' := show Hid (Grid _ _ _ _ _ _) from G2.out.keep q4 (fun kk hk hm => HG.out.ap kk hm hk); have hcell2 := G2'.out.row.cell hjn; have hsz1 := Nat.le_trans hsz q4.size; clear q3 q5 hown1 hgrow1 hat1)
                  | (at_builtin; refine wpList_append_lies _ (by rfl) _ _ _ (by rfl) w.heap.size 3 i0 _ 1 8 Try.underlying43 hi0 hz0 hz1 hz2 rfl (by omega) (va2 j) (R j).length (ints (R j)) (by rfl) ((G2'.out.own j hjn).alloc _) ⟨x1.heap.size, 0, none⟩ 1 1 [.int .i64 (i : Int)] (by rfl) (by rfl) (World.news_of_block (cs := #[.int .i64 (i : Int)]) (t := 3) (fr := (0, 0)) (heap_alloc_set _ _ _ _)) (by simp [Value.oneCell']) (by omega) (grid_small hl2.out).1 (grid_small hl2.out).2 (by simp at hsz1 ⊢; omega) (x1.heap.size + 1) (by simp) ?_; intro g2 cap2 x2 hown2 hgrow2 hat2 hltg2; obtain ⟨r1, r2, r3, r4, r5⟩ := G2'.out.push hjn hown2 hgrow2 hat2 (by simp); have R3 := show Hid (Grid _ _ _ _ _ _) from r3; have R5 := show Hid (∀ kk, GridIn _ _ _ kk → _) from r5; clear r3 r5 hown2 hgrow2 hat2))
                go_roundw
                case rel =>
                  refine ⟨t + 1, _, _, _, by omega, by go_num, HG.out.both hx (v1 := .slice (some ⟨g1, 0, none⟩) ((L1 i).length + 1) cap1) ?_ q4 Q5.out R3.out r4 R5.out (fun kk hk => HG.out.g1.low hlow hk) (fun kk hk => HG.out.g2.low (by omega) hk)⟩
                  rw [← EL1.out]
                  exact Q3.out
                case measure => simp [intOf]; omega
            · obtain rfl : t = ln i := by omega
              have HG2 := show Hid (GSt _ _ _ _ _ _ _ _ _ _ _ _ _ _) from HG.out.next hlt2 (hl i hlt2)
              clear HG
              go_wp2_with fail
              go_roundw
              case rel => exact ⟨i + 1, va1, va2, R, by omega, by go_num, HG2⟩
              case measure => simp [intOf]; omega
        · obtain rfl : i = k := by omega
          have hrev : ∀ j q, q ∈ L2 j ↔ q < i ∧ j ∈ adjL ss i ln ms q := fun j q => by
            rw [HG.out.rev j q]
            simp [adjPre]
          have hrow : rowsTo ss i ln ms i 0 = adjL ss i ln ms := by
            funext j
            unfold rowsTo
            by_cases e : j < i
            · rw [if_pos e]
            · rw [if_neg e]
              simp [adjPre, adjL, e]
          have g1 := HG.out.g1
          rw [hrow] at g1
          obtain ⟨va1, vc1, R1⟩ := g1.rows (by omega) (fun j hj => by
            have h1 := adjPre_length ss i ms j (ln j)
            have h2 := hl j hj
            simp only [adjL, hj, if_true]
            omega)
          obtain ⟨va2, vc2, R2⟩ := HG.out.g2.rows (by omega) (fun j hj => by
            have h1 := HG.out.len j hj
            clear hl
            omega)
          have hbf := HG.out.bel
          have Hres : Hid (IRows wr (some ⟨ob, 0, none⟩) i va1 vc1 (adjL ss i ln ms) ∧ IRows wr (some ⟨ob + 1, 0, none⟩) i va2 vc2 L2 ∧ ∀ j q, q ∈ L2 j ↔ q < i ∧ j ∈ adjL ss i ln ms q) := ⟨R1, R2, hrev⟩
          clear R1 R2 hrev hrow g1 HG
          go_wp2_with fail
          go_ret2
          exact ⟨⟨_, _, va1, vc1, va2, vc2, L2, rfl, Hres.out.1, Hres.out.2.1, Hres.out.2.2⟩, hbf⟩

end Go.Proofs.Qxb6605609a
