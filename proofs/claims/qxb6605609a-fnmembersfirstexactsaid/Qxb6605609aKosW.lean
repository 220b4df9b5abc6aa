/-
  THE WALK OF zzComponents.
-/
import Derived.Test.Qxb6605609aKosP
import Derived.Deep.LoopGhost
namespace Go.Proofs.Qxb6605609a
open Go.RowKit

/-- What zzComponents hands back: each place's component by its least place. -/
def CompRes (w' : World) (n : Nat) (adj : Nat → List Nat) (e : Ending) : Prop :=
  ∃ (a : Option Addr) (c : Nat) (comp : Nat → Nat), e = .returned (.slice a n c) ∧ SlAt w' a n (fun i => .int .i64 (comp i : Int)) ∧ ∀ x, x < n → LeastOf adj n x (comp x)

theorem elem55 (b : Nat) {n k : Nat} (hk : k < n) : ∀ w : World, (Instr.indexAt 55 (.slice (some ⟨b, 0, none⟩) n n) (.int .i64 k)).run Try.prog w = .ok (.pointer (some ⟨b, k, none⟩)) w := fun w => by
  have h1 : (k : Int) < (n : Int) := by omega
  have h2 : (0 : Int) ≤ (k : Int) := by omega
  go_simp

theorem elem43' (b : Nat) {n k : Nat} (hk : k < n) (c : Nat) : ∀ w : World, (Instr.indexAt 43 (.slice (some ⟨b, 0, none⟩) n c) (.int .i64 k)).run Try.prog w = .ok (.pointer (some ⟨b, k, none⟩)) w := fun w => by
  have h1 : (k : Int) < (n : Int) := by omega
  have h2 : (0 : Int) ≤ (k : Int) := by omega
  go_simp

theorem heap_alloc_set2 (w : World) (p q : Addr) (u v : Value) (o : Obj) : (((w.setCell p u).setCell q v).alloc o).heap[w.heap.size]? = some o := by
  have h := heap_alloc_new ((w.setCell p u).setCell q v) o
  have e : ((w.setCell p u).setCell q v).heap.size = w.heap.size := by simp
  rwa [e] at h

theorem len_ge : ∀ (n : Nat) (l : List Nat), (∀ x, x < n → x ∈ l) → n ≤ l.length
  | 0, _, _ => Nat.zero_le _
  | n + 1, l, h => by
    have hm := h n (by omega)
    have h1 := len_ge n (l.erase n) (fun x hx => (List.mem_erase_of_ne (by omega)).2 (h x (by omega)))
    rw [List.length_erase_of_mem hm] at h1
    have := List.length_pos_of_mem hm
    omega

/-- The top of a stack of integers. -/
theorem IL.top {w : World} {lo : Nat} {v : Value} {l : List Nat} {x k : Nat} (h : w.ownsRow lo 3 1 v (l ++ [x]).length (ints (l ++ [x]))) (hk : l.length = k) : ∃ g cap, v = .slice (some ⟨g, 0, none⟩) (k + 1) cap ∧ k + 1 ≤ cap ∧ lo ≤ g ∧ g < w.heap.size ∧ w.cell? ⟨g, k, none⟩ = some (.int .i64 (x : Int)) ∧ w.frozen? ⟨g, k, none⟩ = false := by
  have hl : (l ++ [x]).length = k + 1 := by simp [hk]
  obtain ⟨g, cap, e, h1, h2, hc, h3⟩ := IL.form (l := l ++ [x]) h (by omega)
  rw [hl] at e hc
  obtain ⟨h4, h5⟩ := h3 k (by omega)
  refine ⟨g, cap, e, hc, h1, h2, ?_, h5⟩
  rw [h4]
  congr 2
  simp [← hk]

set_option maxRecDepth 100000 in
set_option maxHeartbeats 4000000 in
theorem comps22 (a1 a2 : Option Addr) (n c1 c2 : Nat) (va1 va2 : Nat → Option Addr) (vc1 vc2 : Nat → Nat) (adj R : Nat → List Nat) (w : World) (hn : n ≤ 4096) (h1 : IRows w a1 n va1 vc1 adj) (h2 : IRows w a2 n va2 vc2 R)
    (hadj : ∀ a, a < n → ∀ b ∈ adj a, b < n) (hrad : ∀ j q, q ∈ R j ↔ q < n ∧ j ∈ adj q) :
    Calls Try.prog 22 #[.slice a1 n c1, .slice a2 n c2] w fun e w' => CompRes w' n adj e ∧ Below w.heap.size w w' := by
  have hmb := makeBools n (by omega)
  have hmo := makeOrder n hn
  have hmi := makeInts n (by omega)
  obtain ⟨i0, hi0, hz0, hz1, hz2⟩ := info_parts info3
  have HK0 := show Hid (KM _ _ _ _ _ _ _ _ _ _ _) from KM.start w n hn
  have Hadj : Hid (∀ a, a < n → ∀ b ∈ adj a, b < n) := hadj
  have Hrad : Hid (∀ j q, q ∈ R j ↔ q < n ∧ j ∈ adj q) := hrad
  clear hadj hrad
  go_enter Try.func22, Try.ntmps22
  go_wp2_with fail
  clear hmb hmo
  go_loopw [7, 8, 9, 10, 11, 12, 13, 14] (fun v7 v8 v9 v10 _ _ _ _ wr => ∃ (s : Nat) (order : List Nat), s ≤ n ∧ v10 = .int .i64 s ∧ Hid (KM w wr w.heap.size n order v7 v8 v9 order [] []) ∧ Hid (Dfs adj n order []) ∧ Hid (∀ x, x < s → x ∈ order)) (fun _ _ _ v10 _ _ _ _ _ => n - (intOf v10).toNat)
  case atStart => exact ⟨0, [], Nat.zero_le _, rfl, HK0, Dfs.start adj n, fun x hx => by omega⟩
  case round =>
    obtain ⟨s, order, hs, rfl, HK, HD, HX⟩ := hrel
    clear HK0
    by_cases hlt : s < n
    · have hix := elem55 w.heap.size hlt
      have hcell := HK.out.row.cell hlt
      have hfroz := HK.out.row.frozen s
      by_cases hso : s ∈ order
      · have hd : decide (s ∈ order) = true := by simp [hso]
        rw [hd] at hcell
        go_wp2_with fail
        go_roundw
        case rel => exact ⟨s + 1, order, by omega, by go_num, HK, HD, fun x hx => by
          by_cases e : x = s
          · rw [e]; exact hso
          · exact HX.out x (by omega)⟩
        case measure => simp [intOf]; omega
      · have hd : decide (s ∈ order) = false := by simp [hso]
        rw [hd] at hcell
        have HK1 := show Hid (KM _ _ _ _ _ _ _ _ _ _ _) from HK.out.visit s
        have hsz1 := HK.out.bel.size
        go_wp2_with (first
          | (at_builtin; refine wpList_append_lies _ (by rfl) _ _ _ (by rfl) w.heap.size 3 i0 _ 1 8 Try.underlying43 hi0 hz0 hz1 hz2 rfl (by omega) u8 ([] : List Nat).length (ints ([] : List Nat)) (by rfl) (HK1.out.ownN.alloc _) ⟨wr.heap.size, 0, none⟩ 1 1 [.int .i64 (s : Int)] (by rfl) (by rfl) (World.news_of_block (cs := #[.int .i64 (s : Int)]) (t := 3) (fr := (0, 0)) (heap_alloc_set _ _ _ _)) (by simp [Value.oneCell']) (by omega) (by first | (unfold maxLen; omega) | simp [maxLen]) (by first | omega | simp) (by simp; omega) (wr.heap.size + 1) (by simp) ?_; intro g1 cap1 x1 hown1 hgrow1 hat1 hltg1; have HK2 := show Hid (KM _ _ _ _ _ _ _ _ _ _ _) from HK1.out.pushN (nn := []) hown1 hgrow1 hat1 (by simp); have hsz2 := HK2.out.bel.size; clear hown1 hgrow1 hat1)
          | (at_builtin; refine wpList_append_lies _ (by rfl) _ _ _ (by rfl) w.heap.size 3 i0 _ 1 8 Try.underlying43 hi0 hz0 hz1 hz2 rfl (by omega) u9 ([] : List Nat).length (ints ([] : List Nat)) (by rfl) (HK2.out.ownE.alloc _) ⟨x1.heap.size, 0, none⟩ 1 1 [.int .i64 0] (by rfl) (by rfl) (World.news_of_block (cs := #[.int .i64 0]) (t := 3) (fr := (0, 0)) (heap_alloc_new _ _)) (by simp [Value.oneCell']) (by omega) (by first | (unfold maxLen; omega) | simp [maxLen]) (by first | omega | simp) (by simp; omega) (x1.heap.size + 1) (by simp) ?_; intro g2 cap2 x2 hown2 hgrow2 hat2 hltg2; have HK3 := show Hid (KM _ _ _ _ _ _ _ _ _ _ _) from HK2.out.pushE (ee := []) (x := 0) hown2 hgrow2 hat2 (by simp); clear hown2 hgrow2 hat2))
        have HD1 := show Hid (Dfs _ _ _ _) from HD.out.root hlt hso
        go_loopg [7, 8, 9, 11, 12, 13, 14] (mu adj n order [(s, 0)]) (fun gk v7 v8 v9 _ _ _ _ wx => ∃ (ord : List Nat) (st : List (Nat × Nat)), Hid (gk = mu adj n ord st) ∧ Hid (KM w wx w.heap.size n (ord ++ st.map (·.1)) v7 v8 v9 ord (st.map (·.1)).reverse (st.map (·.2)).reverse) ∧ Hid (Dfs adj n ord st) ∧ Hid (∀ x, x < s → x ∈ ord) ∧ Hid (s ∈ ord ++ st.map (·.1)))
        case atStart => exact ⟨order, [(s, 0)], rfl, HK3.out.vis_congr (fun x => by simp [or_comm]), HD1, HX, by show s ∈ _; simp⟩
        case round =>
          obtain ⟨ord, st, Hg, HKi, HDi, HXi, HSi⟩ := hrel
          clear HK3 HK2 HK1 HK
          cases st with
          | nil =>
            have hN := HKi.out.ownN
            obtain ⟨q8, qc8, rfl, _⟩ := ints_slAt (L := []) (by simp) hN
            clear hN
            have HK4 : Hid (KM w wr w.heap.size n ord u7 (.slice q8 0 qc8) u9 ord [] []) := by
              have := HKi.out
              simp only [List.map_nil, List.append_nil, List.reverse_nil] at this
              exact this
            have HX4 : Hid (∀ x, x < s + 1 → x ∈ ord) := fun x hx => by
              by_cases e : x = s
              · have := HSi.out
                simp only [List.map_nil, List.append_nil] at this
                rw [e]; exact this
              · exact HXi.out x (by omega)
            have hq8 : (.slice q8 ([] : List Nat).length qc8 : Value) = .slice q8 0 qc8 := rfl
            clear HKi HXi HSi Hg
            go_wp2_with fail
            go_roundw
            case rel => exact ⟨s + 1, ord, by omega, by go_num, HK4, HDi, HX4⟩
            case measure => simp [intOf]; omega
          | cons p st =>
            obtain ⟨v, e⟩ := p
            obtain ⟨nn, hnn⟩ : ∃ nn, nn = (st.map (·.1)).reverse := ⟨_, rfl⟩
            obtain ⟨ee, hee⟩ : ∃ ee, ee = (st.map (·.2)).reverse := ⟨_, rfl⟩
            obtain ⟨k, hkk⟩ : ∃ k, k = st.length := ⟨_, rfl⟩
            have hl1 : nn.length = k := by rw [hnn, hkk]; simp
            have hl2 : ee.length = k := by rw [hee, hkk]; simp
            have HK5 : Hid (KM w wr w.heap.size n (ord ++ v :: st.map (·.1)) u7 u8 u9 ord (nn ++ [v]) (ee ++ [e])) := by
              have := HKi.out
              simp only [List.map_cons, List.reverse_cons] at this
              rw [hnn, hee]
              exact this
            have Hnn : Hid (nn = (st.map (·.1)).reverse ∧ ee = (st.map (·.2)).reverse ∧ k = st.length) := ⟨hnn, hee, hkk⟩
            clear hnn hee hkk HKi
            obtain ⟨g8, cap8, rfl, hcap8, hg8, hg8', hc8, hf8⟩ := IL.top HK5.out.ownN hl1
            obtain ⟨g9, cap9, rfl, hcap9, hg9, hg9', hc9, hf9⟩ := IL.top HK5.out.ownE hl2
            have hx8 := elem43' g8 (n := k + 1) (k := k) (by omega) cap8
            have hx9 := elem43' g9 (n := k + 1) (k := k) (by omega) cap9
            have hvn : v < n := HDi.out.lt v (by simp)
            have hlen : k + 1 ≤ 4096 := by
              have h3 := nodup_len n _ HDi.out.nd HDi.out.lt
              have h4 := Hnn.out.2.2
              simp at h3
              omega
            have hlo : ord.length ≤ 4096 := by
              have h3 := nodup_len n _ HDi.out.nd HDi.out.lt
              simp at h3
              omega
            obtain ⟨b1, o1, hb1, hix1, hc1'⟩ := h1.outer.elem40 hvn c1
            have hbl := HK5.out.bel
            have hszw := hbl.size
            have hc1 : wr.cell? ⟨b1, o1, none⟩ = some (.slice (va1 v) (adj v).length (vc1 v)) := (hbl.cell (p := ⟨b1, o1, none⟩) hb1).trans hc1'
            have hdeg := (h1.inner v hvn).small
            have hed := (HDi.out.edges v e (List.mem_cons_self ..)).1
            by_cases hlt2 : e < (adj v).length
            · obtain ⟨z, hz⟩ : ∃ z, z = (adj v).getD e 0 := ⟨_, rfl⟩
              have hze : (adj v)[e]? = some z := by rw [hz, List.getD_eq_getElem?_getD, List.getElem?_eq_getElem hlt2]; rfl
              have hzn : z < n := Hadj.out v hvn z (List.mem_of_getElem? hze)
              have HK6 := show Hid (KM _ _ _ _ _ _ _ _ _ _ _) from HK5.out.topE hl2 (e + 1)
              have hcast : ((e + 1 : Nat) : Int) = (e : Int) + 1 := by omega
              rw [hcast] at HK6
              obtain ⟨b2, o2, hb2, hix2, hc2'⟩ := (h1.inner v hvn).elem43 hlt2 (vc1 v)
              rw [← hz] at hc2'
              have hbl6 := HK6.out.bel
              have hcA := (hbl6.cell (p := ⟨b1, o1, none⟩) hb1).trans hc1'
              have hcB := (hbl6.cell (p := ⟨b2, o2, none⟩) hb2).trans hc2'
              have hixz := elem55 w.heap.size hzn
              have hcz := HK6.out.row.cell hzn
              have hfz := HK6.out.row.frozen z
              have Hze : Hid ((adj v)[e]? = some z) := hze
              clear hz hze hcast hc1' hc2'
              by_cases hzv : z ∈ ord ++ v :: st.map (·.1)
              · rw [decide_eq_true hzv] at hcz
                have HD6 := show Hid (Dfs _ _ _ _) from HDi.out.skip Hze.out (by simpa using hzv)
                have hmu := show Hid _ from mu_skip adj n ord v e st hlt2
                clear hzv
                go_wp2_with fail
                go_roundg (mu adj n ord ((v, e + 1) :: st))
                case measure => rw [Hg.out]; exact hmu.out
                case rel =>
                  obtain ⟨hn1, hn2, _⟩ := Hnn.out
                  refine ⟨ord, (v, e + 1) :: st, rfl, ?_, HD6, HXi, HSi⟩
                  have := HK6.out
                  rw [hn1, hn2] at this
                  show KM _ _ _ _ _ _ _ _ _ _ _
                  simpa only [List.map_cons, List.reverse_cons] using this
              · rw [decide_eq_false hzv] at hcz
                have HD6 := show Hid (Dfs _ _ _ _) from HDi.out.push Hze.out (by simpa using hzv) hzn
                have hmu := show Hid _ from mu_push adj n ord v e z st hlt2 hzn (by simpa using hzv)
                have HK7 := show Hid (KM _ _ _ _ _ _ _ _ _ _ _) from HK6.out.visit z
                obtain ⟨nn', hnn'⟩ : ∃ nn', nn' = nn ++ [v] := ⟨_, rfl⟩
                obtain ⟨ee', hee'⟩ : ∃ ee', ee' = ee ++ [e + 1] := ⟨_, rfl⟩
                have hl1' : nn'.length = k + 1 := by rw [hnn']; simp [hl1]
                have hl2' : ee'.length = k + 1 := by rw [hee']; simp [hl2]
                rw [← hnn', ← hee'] at HK7
                have Hnn' : Hid (nn' = nn ++ [v] ∧ ee' = ee ++ [e + 1]) := ⟨hnn', hee'⟩
                clear hzv hnn' hee' HK6 HK5
                go_wp2_with (first
                  | (at_builtin; refine wpList_append_lies _ (by rfl) _ _ _ (by rfl) w.heap.size 3 i0 _ 1 8 Try.underlying43 hi0 hz0 hz1 hz2 rfl (by omega) (.slice (some ⟨g8, 0, none⟩) (k + 1) cap8) nn'.length (ints nn') (by rfl) (HK7.out.ownN.alloc _) ⟨wr.heap.size, 0, none⟩ 1 1 [.int .i64 (z : Int)] (by rfl) (by rfl) (World.news_of_block (cs := #[.int .i64 (z : Int)]) (t := 3) (fr := (0, 0)) (heap_alloc_set2 _ _ _ _ _ _)) (by simp [Value.oneCell']) (by omega) (by unfold maxLen; omega) (by omega) (by simp; omega) (wr.heap.size + 1) (by simp) ?_; intro g1 cap1 x1 hown1 hgrow1 hat1 hltg1; have HK8 := show Hid (KM _ _ _ _ _ _ _ _ _ _ _) from HK7.out.pushN hown1 hgrow1 hat1 (by simp); have hsz8 := HK8.out.bel.size; clear hown1 hgrow1 hat1)
                  | (at_builtin; refine wpList_append_lies _ (by rfl) _ _ _ (by rfl) w.heap.size 3 i0 _ 1 8 Try.underlying43 hi0 hz0 hz1 hz2 rfl (by omega) (.slice (some ⟨g9, 0, none⟩) (k + 1) cap9) ee'.length (ints ee') (by rfl) (HK8.out.ownE.alloc _) ⟨x1.heap.size, 0, none⟩ 1 1 [.int .i64 0] (by rfl) (by rfl) (World.news_of_block (cs := #[.int .i64 0]) (t := 3) (fr := (0, 0)) (heap_alloc_new _ _)) (by simp [Value.oneCell']) (by omega) (by unfold maxLen; omega) (by omega) (by simp; omega) (x1.heap.size + 1) (by simp) ?_; intro g2 cap2 x2 hown2 hgrow2 hat2 hltg2; have HK9 := show Hid (KM _ _ _ _ _ _ _ _ _ _ _) from HK8.out.pushE (x := 0) hown2 hgrow2 hat2 (by simp); clear hown2 hgrow2 hat2))
                go_roundg (mu adj n ord ((z, 0) :: (v, e + 1) :: st))
                case measure => rw [Hg.out]; exact hmu.out
                case rel =>
                  obtain ⟨hn1, hn2, _⟩ := Hnn.out
                  obtain ⟨hn3, hn4⟩ := Hnn'.out
                  refine ⟨ord, (z, 0) :: (v, e + 1) :: st, rfl, ?_, HD6, HXi, ?_⟩
                  · have := HK9.out.vis_congr (vis' := ord ++ z :: v :: st.map (·.1)) (fun x => by
                      simp only [List.mem_cons, List.mem_append]
                      constructor
                      · rintro (h | h | h | h)
                        · exact Or.inr (Or.inl h)
                        · exact Or.inl h
                        · exact Or.inr (Or.inr (Or.inl h))
                        · exact Or.inr (Or.inr (Or.inr h))
                      · rintro (h | h | h | h)
                        · exact Or.inr (Or.inl h)
                        · exact Or.inl h
                        · exact Or.inr (Or.inr (Or.inl h))
                        · exact Or.inr (Or.inr (Or.inr h)))
                    have e1 : (((z, 0) :: (v, e + 1) :: st).map (·.1)).reverse = nn' ++ [z] := by rw [hn3, hn1]; simp
                    have e2 : (((z, 0) :: (v, e + 1) :: st).map (·.2)).reverse = ee' ++ [0] := by rw [hn4, hn2]; simp
                    show KM _ _ _ _ _ _ _ _ _ _ _
                    rw [e1, e2]
                    rw [hl1', hl2'] at this
                    exact this
                  · have := HSi.out
                    show s ∈ _
                    simp only [List.map_cons, List.mem_append, List.mem_cons] at this ⊢
                    rcases this with h | h | h
                    · exact Or.inl h
                    · exact Or.inr (Or.inr (Or.inl h))
                    · exact Or.inr (Or.inr (Or.inr h))
            · have HD6 := show Hid (Dfs _ _ _ _) from HDi.out.pop (by omega)
              have hmu := show Hid _ from mu_pop adj n ord v e st
              go_wp2_with (first
                | (at_builtin; refine wpList_append_lies _ (by rfl) _ _ _ (by rfl) w.heap.size 3 i0 _ 1 8 Try.underlying43 hi0 hz0 hz1 hz2 rfl (by omega) u7 ord.length (ints ord) (by rfl) (HK5.out.ownO.alloc _) ⟨wr.heap.size, 0, none⟩ 1 1 [.int .i64 (v : Int)] (by rfl) (by rfl) (World.news_of_block (cs := #[.int .i64 (v : Int)]) (t := 3) (fr := (0, 0)) (heap_alloc_new _ _)) (by simp [Value.oneCell']) (by omega) (by unfold maxLen; omega) (by omega) (by simp; omega) (wr.heap.size + 1) (by simp) ?_; intro g1 cap1 x1 hown1 hgrow1 hat1 hltg1; have HK6 := show Hid (KM _ _ _ _ _ _ _ _ _ _ _) from ((HK5.out.pushO hown1 hgrow1 hat1 rfl).popN hl1).popE hl2; clear hown1 hgrow1 hat1))
              go_roundg (mu adj n (ord ++ [v]) st)
              case measure => rw [Hg.out]; exact hmu.out
              case rel =>
                obtain ⟨hn1, hn2, _⟩ := Hnn.out
                refine ⟨ord ++ [v], st, rfl, ?_, HD6, fun x hx => List.mem_append_left _ (HXi.out x hx), ?_⟩
                · rw [← hn1, ← hn2]
                  exact HK6.out.vis_congr (fun x => by simp)
                · have := HSi.out
                  show s ∈ _
                  simpa using this
    · obtain rfl : s = n := by omega
      have hlenO : order.length = s := by
        have e1 := nodup_len s order (by have := HD.out.nd; simpa using this) (fun x hx => HD.out.lt x (by simpa using hx))
        have e2 := len_ge s order HX.out
        omega
      obtain ⟨qa, qc, rfl, hq⟩ := ints_slAt (by omega) HK.out.ownO
      rw [hlenO] at hq
      have HlenO : Hid (order.length = s) := hlenO
      have hblr := HK.out.bel
      have Hnd : Hid (order.Nodup) := by have := HD.out.nd; show order.Nodup; simpa using this
      have Hfin : Hid (FinOk adj order) := HD.out.fin
      have HRlt : Hid (∀ x ∈ order, x < s) := fun x hx => HD.out.lt x (by simpa using hx)
      have e7 : (.slice qa order.length qc : Value) = .slice qa s qc := by rw [hlenO]
      rw [e7]
      clear hlenO e7 HK HD hlt
      obtain ⟨W2, hW2⟩ : ∃ W2, W2 = wr.alloc (.cells (madeInts s) 3) := ⟨_, rfl⟩
      have hW2s : W2.heap.size = wr.heap.size + 1 := by rw [hW2]; simp
      have hB : Hid (∀ wx, KB (fun k => k = wr.heap.size) W2 wx → Below wr.heap.size wr wx) := fun wx hk => by
        have b1 : Below wr.heap.size wr W2 := by rw [hW2]; exact (Below.refl _ _).alloc (Nat.le_refl _) _
        exact b1.trans (hk.toBelow (by omega) (fun k hk' e => by omega))
      have Hrow0 : Hid (W2.rowIs wr.heap.size 3 s (fun _ => .int .i64 0)) := by rw [hW2]; exact World.rowIs_made wr (.int .i64 0) s 3
      go_wp2_with fail
      rw [← hW2]
      clear hmi hW2
      obtain ⟨cb, hcb⟩ : ∃ cb, cb = wr.heap.size := ⟨_, rfl⟩
      rw [← hcb] at hB Hrow0 hW2s ⊢
      have hcbl : w.heap.size ≤ cb := by rw [hcb]; exact hblr.size
      have hcW : cb < W2.heap.size := by omega
      have HB0 : Hid (∀ wx, KB (fun k => k = cb) W2 wx → Below w.heap.size w wx) := fun wx hk => hblr.trans ((hB.out wx hk).mono hcbl)
      have HqO : Hid (∀ wx, KB (fun k => k = cb) W2 wx → SlAt wx qa s (fun j => .int .i64 ((order.getD j 0 : Nat) : Int))) := fun wx hk => hq.below (by rw [← hcb]; exact hB.out wx hk)
      clear hcb hW2s hB hq
      go_loopw [16] (fun v wx => ∃ k : Nat, k ≤ s ∧ v = .int .i64 k ∧ Hid (wx.rowIs cb 3 s (fun x => .int .i64 (if x < k then -1 else 0))) ∧ KB (fun k => k = cb) W2 wx) (fun v _ => s - (intOf v).toNat)
      case atStart => exact ⟨0, Nat.zero_le _, rfl, Hrow0.out.congr (fun j _ => by simp), KB.refl _ _⟩
      case round =>
        obtain ⟨k, hk, rfl, Hrw, hkb⟩ := hrel
        by_cases hlt : k < s
        · have hx := elem43' cb (n := s) (k := k) hlt s
          have hc := Hrw.out.cell hlt
          have hf := Hrw.out.frozen k
          have Hrw2 := show Hid (World.rowIs _ _ _ _ _) from (Hrw.out.set k (.int .i64 (-1))).congr (g := fun x => .int .i64 (if x < k + 1 then -1 else 0)) (fun j _ => by
            by_cases e : j = k
            · simp [e]
            · rw [if_neg e]
              by_cases e2 : j < k
              · rw [if_pos e2, if_pos (by omega)]
              · rw [if_neg e2, if_neg (by omega)])
          have hkb2 : KB (fun k => k = cb) W2 (wr.setCell ⟨cb, k, none⟩ (.int .i64 (-1))) := KB.setCell (p := ⟨cb, k, none⟩) hkb (fun _ => rfl) _
          clear Hrw
          go_wp2_with fail
          go_roundw
          case rel => exact ⟨k + 1, by omega, by go_num, Hrw2, hkb2⟩
          case measure => simp [intOf]; omega
        · have Hrw2 := show Hid (World.rowIs _ _ _ _ _) from Hrw.out.congr (g := fun _ => .int .i64 (-1)) (fun j hj => by rw [if_pos (by omega)])
          have HC0 := show Hid (Comps _ _ _ _ _) from Comps.start adj s order
          rw [HlenO.out] at HC0
          clear Hrw
          go_wp2_with fail
          go_loopw [17, 18, 19, 20, 21, 22, 23, 24, 25, 26] (fun v17 _ _ _ _ _ _ _ _ _ wx => ∃ (k : Nat) (zi : Int) (comp : Nat → Int), k ≤ s ∧ v17 = .int .i64 zi ∧ Hid (zi = (k : Int) - 1) ∧ Hid (wx.rowIs cb 3 s (fun x => .int .i64 (comp x))) ∧ KB (fun k => k = cb) W2 wx ∧ Hid (Comps adj s order k comp)) (fun v17 _ _ _ _ _ _ _ _ _ _ => (intOf v17 + 1).toNat)
          case atStart => exact ⟨s, _, fun _ => -1, Nat.le_refl _, rfl, rfl, Hrw2, hkb, HC0⟩
          case round =>
            obtain ⟨k, zi, comp, hk, rfl, Hzi, Hrw, hkb, HC⟩ := hrel
            by_cases hk0 : k = 0
            · subst hk0
              have hge : decide ((0 : Int) ≤ zi) = false := by have := Hzi.out; simp; omega
              have hval : Hid (∀ x, x < s → ∃ m : Nat, comp x = m ∧ LeastOf adj s x m) := fun x hx => by
                obtain ⟨j, hj⟩ := List.getElem?_of_mem (HX.out x hx)
                rcases HC.out.val x hx with h | h
                · exact absurd h (HC.out.done j x (Nat.zero_le _) hj)
                · exact h
              have hbf := HB0.out wr hkb
              have hcbw : cb < wr.heap.size := Nat.lt_of_lt_of_le hcW hkb.size
              clear HC Hzi
              go_wp2_with fail
              go_ret
              refine ⟨⟨some ⟨cb, 0, none⟩, s, fun x => (comp x).toNat, rfl, ⟨by omega, fun _ => ⟨cb, 0, rfl, hcbw, fun j hj => ?_⟩⟩, fun x hx => ?_⟩, hbf⟩
              · rw [Nat.zero_add, Hrw.out.cell hj]
                obtain ⟨m, hm, _⟩ := hval.out j hj
                dsimp only
                rw [hm]
                rfl
              · obtain ⟨m, hm, hl⟩ := hval.out x hx
                dsimp only
                rw [hm]
                exact hl
            · obtain ⟨j, rfl⟩ : ∃ j, k = j + 1 := ⟨k - 1, by omega⟩
              obtain rfl : zi = (j : Int) := by have := Hzi.out; omega
              clear Hzi hk0
              have hqO := HqO.out wr hkb
              obtain ⟨b1, o1, hb1, hix1, hc1⟩ := hqO.elem43 (k := j) (by omega) qc
              obtain ⟨r, hr⟩ : ∃ r, r = order.getD j 0 := ⟨_, rfl⟩
              rw [← hr] at hc1
              have Hr : Hid (order[j]? = some r) := by
                show order[j]? = some r
                have hjl : j < order.length := by rw [HlenO.out]; omega
                rw [hr, List.getD_eq_getElem?_getD, List.getElem?_eq_getElem hjl]; rfl
              have hrs : r < s := by
                have e1 := List.mem_of_getElem? Hr.out
                obtain ⟨q, hq'⟩ := List.getElem?_of_mem e1
                by_cases e2 : r < s
                · exact e2
                · exact absurd (HRlt.out r e1) e2
              clear hr
              have hxr := elem43' cb (n := s) (k := r) hrs s
              have hcr := Hrw.out.cell hrs
              have hfr := Hrw.out.frozen r
              by_cases hcm : comp r = -1
              · have hcm' : (comp r != -1) = false := by simp [hcm]
                have HP0 := show Hid (P2 _ _ _ _ _ _ _) from P2.start (r := r) Hrw.out hkb hcW
                have HBk0 := show Hid (Back _ _ _ _ _ _ _) from Back.start (adj := adj) (radj := R) hrs hcm
                have Hcm : Hid (comp r = -1) := hcm
                clear hcm
                go_wp2_with fail
                clear Hrw hcr hfr hxr hc1 hix1 hqO hkb
                go_loopw [19, 20, 21, 22, 23] (fun v19 v20 _ _ _ wx => ∃ (t : Nat) (got : List Nat), t ≤ got.length ∧ v20 = .int .i64 t ∧ Hid (P2 W2 wx cb s comp got v19) ∧ Hid (Back adj R s comp r got t)) (fun _ v20 _ _ _ _ => s - (intOf v20).toNat)
                case atStart => exact ⟨0, [r], by simp, rfl, HP0, HBk0⟩
                case round =>
                  obtain ⟨t, got, htg, rfl, HP, HBk⟩ := hrel
                  have hgl : got.length ≤ s := nodup_len s got HBk.out.nd (fun x hx => (HBk.out.sub x hx).1)
                  obtain ⟨g9, cap9, rfl, _, _, hcap9, hcells⟩ := IL.form (l := got) HP.out.own (by have := HBk.out.root; have := (List.getElem?_eq_some_iff.1 this).1; omega)
                  have Hcells : Hid (∀ i, i < got.length → wr.cell? ⟨g9, i, none⟩ = some (.int .i64 ((got.getD i 0 : Nat) : Int)) ∧ wr.frozen? ⟨g9, i, none⟩ = false) := hcells
                  clear hcells
                  by_cases hlt3 : t < got.length
                  · obtain ⟨v, hv⟩ : ∃ v, v = got.getD t 0 := ⟨_, rfl⟩
                    have Hv : Hid (got[t]? = some v) := by
                      show got[t]? = some v
                      rw [hv, List.getD_eq_getElem?_getD, List.getElem?_eq_getElem hlt3]; rfl
                    have hvs : v < s := (HBk.out.sub v (List.mem_of_getElem? Hv.out)).1
                    have hcv := (Hcells.out t hlt3).1
                    rw [← hv] at hcv
                    clear hv
                    have hxv := elem43' g9 (n := got.length) (k := t) hlt3 cap9
                    have hid : decide ((t : Int) < (got.length : Int)) = true := by simp; omega
                    go_wp2_with fail
                    go_loopw [19, 22, 23] (fun v19 v22 _ wx => ∃ (e : Nat) (got : List Nat), e ≤ (R v).length ∧ v22 = .int .i64 e ∧ Hid (P2 W2 wx cb s comp got v19) ∧ Hid (Back adj R s comp r got t) ∧ Hid (got[t]? = some v) ∧ Hid (∀ i z, i < e → (R v)[i]? = some z → comp z = -1 → z ∈ got)) (fun _ v22 _ _ => (R v).length - (intOf v22).toNat)
                    case atStart => exact ⟨0, got, Nat.zero_le _, rfl, HP, HBk, Hv, fun i z hi => by omega⟩
                    case round =>
                      clear HP HBk Hv Hcells hgl hcap9 hxv hcv htg hlt3
                      obtain ⟨e, got, heR, rfl, HP, HBk, Hv, HE⟩ := hrel
                      have hgl : got.length ≤ s := nodup_len s got HBk.out.nd (fun x hx => (HBk.out.sub x hx).1)
                      have htl : t < got.length := (List.getElem?_eq_some_iff.1 Hv.out).1
                      have hbw := HB0.out wr HP.out.kb
                      have hszk := HP.out.kb.size
                      obtain ⟨b2, o2, hb2, hix2, hc2'⟩ := h2.outer.elem40 hvs c2
                      have hc2 := (hbw.cell (p := ⟨b2, o2, none⟩) hb2).trans hc2'
                      have hdeg := (h2.inner v hvs).small
                      by_cases hlt4 : e < (R v).length
                      · obtain ⟨z, hz⟩ : ∃ z, z = (R v).getD e 0 := ⟨_, rfl⟩
                        have Hze : Hid ((R v)[e]? = some z) := by
                          show (R v)[e]? = some z
                          rw [hz, List.getD_eq_getElem?_getD, List.getElem?_eq_getElem hlt4]; rfl
                        have hzR := (Hrad.out v z).1 (List.mem_of_getElem? Hze.out)
                        have hzs : z < s := hzR.1
                        have Hzv : Hid (v ∈ adj z) := hzR.2
                        clear hzR
                        obtain ⟨b3, o3, hb3, hix3, hc3'⟩ := (h2.inner v hvs).elem43 hlt4 (vc2 v)
                        rw [← hz] at hc3'
                        have hc3 := (hbw.cell (p := ⟨b3, o3, none⟩) hb3).trans hc3'
                        have hxz := elem43' cb (n := s) (k := z) hzs s
                        have hcz := HP.out.row.cell hzs
                        have hfz := HP.out.row.frozen z
                        clear hz hc2' hc3'
                        have hstay : Hid ((comp z = -1 → z ∈ got) → ∀ i z', i < e + 1 → (R v)[i]? = some z' → comp z' = -1 → z' ∈ got) := fun hh i z' hi hz' hc' => by
                          by_cases e1 : i = e
                          · rw [e1, Hze.out] at hz'
                            cases hz'
                            exact hh hc'
                          · exact HE.out i z' (by omega) hz' hc'
                        by_cases hzg : z ∈ got
                        · rw [if_pos hzg] at hcz
                          have HE2 := show Hid (∀ i z', i < e + 1 → _) from hstay.out (fun _ => hzg)
                          clear hzg hstay HE
                          go_wp2_with fail
                          go_roundw
                          case rel => exact ⟨e + 1, got, by omega, by go_num, HP, HBk, Hv, HE2⟩
                          case measure => simp [intOf]; omega
                        · rw [if_neg hzg] at hcz
                          by_cases hcm : comp z = -1
                          · have hcme : (comp z == -1) = true := by simp [hcm]
                            have HB2 := show Hid (Back _ _ _ _ _ _ _) from HBk.out.found Hv.out Hzv.out hzs hcm hzg
                            have HE2 : Hid (∀ i z', i < e + 1 → (R v)[i]? = some z' → comp z' = -1 → z' ∈ got ++ [z]) := fun i z' hi hz' hc' => by
                              by_cases e1 : i = e
                              · rw [e1, Hze.out] at hz'
                                cases hz'
                                simp
                              · exact List.mem_append_left _ (HE.out i z' (by omega) hz' hc')
                            have Hv2 : Hid ((got ++ [z])[t]? = some v) := by
                              show (got ++ [z])[t]? = some v
                              rw [List.getElem?_append_left htl]
                              exact Hv.out
                            rw [hcm] at hcz
                            clear hzg hcm hstay HE hcme
                            go_wp2_with (first
                              | (at_builtin; refine wpList_append_lies _ (by rfl) _ _ _ (by rfl) W2.heap.size 3 i0 _ 1 8 Try.underlying43 hi0 hz0 hz1 hz2 rfl (by omega) u19 got.length (ints got) (by rfl) ((HP.out.ownSet z (.int .i64 (-2))).alloc _) ⟨wr.heap.size, 0, none⟩ 1 1 [.int .i64 (z : Int)] (by rfl) (by rfl) (World.news_of_block (cs := #[.int .i64 (z : Int)]) (t := 3) (fr := (0, 0)) (heap_alloc_set _ _ _ _)) (by simp [Value.oneCell']) (by omega) (by unfold maxLen; omega) (by omega) (by simp; omega) (wr.heap.size + 1) (by simp) ?_; intro g1 cap1 x1 hown1 hgrow1 hat1 hltg1; have HP2 := show Hid (P2 _ _ _ _ _ _ _) from HP.out.found hown1 hgrow1; clear hown1 hgrow1 hat1))
                            go_roundw
                            case rel => exact ⟨e + 1, got ++ [z], by omega, by go_num, HP2, HB2, Hv2, HE2⟩
                            case measure => simp [intOf]; omega
                          · have hcme : (comp z == -1) = false := by simp [hcm]
                            have HE2 := show Hid (∀ i z', i < e + 1 → _) from hstay.out (fun h => absurd h hcm)
                            clear hzg hcm hstay HE
                            go_wp2_with fail
                            go_roundw
                            case rel => exact ⟨e + 1, got, by omega, by go_num, HP, HBk, Hv, HE2⟩
                            case measure => simp [intOf]; omega
                      · have HB2 := show Hid (Back _ _ _ _ _ _ _) from HBk.out.next Hv.out (fun z hz hc => by
                          obtain ⟨i, hi⟩ := List.getElem?_of_mem hz
                          exact HE.out i z (by have := (List.getElem?_eq_some_iff.1 hi).1; omega) hi hc)
                        clear HBk HE
                        go_wp2_with fail
                        go_roundw
                        case rel => exact ⟨t + 1, got, by omega, by go_num, HP, HB2⟩
                        case measure => simp [intOf]; omega
                  · obtain rfl : t = got.length := by omega
                    have HG : Hid (∀ x, x ∈ got ↔ x < s ∧ Scc adj r x) := fun x => HBk.out.all HC.out Hnd.out Hfin.out Hr.out HX.out Hadj.out (fun a b ha hb => (Hrad.out b a).2 ⟨ha, hb⟩) x
                    have hg0 : got[0]? = some r := HBk.out.root
                    have hgpos : 0 < got.length := (List.getElem?_eq_some_iff.1 hg0).1
                    have Hg0 : Hid (got.getD 0 0 = r) := by
                      show got.getD 0 0 = r
                      rw [List.getD_eq_getElem?_getD, hg0]; rfl
                    have Hgs : Hid (∀ i, i < got.length → got.getD i 0 < s ∧ got.getD i 0 ∈ got) := fun i hi => by
                      have hm : got.getD i 0 ∈ got := by
                        rw [List.getD_eq_getElem?_getD, List.getElem?_eq_getElem hi]
                        exact List.getElem_mem hi
                      exact ⟨(HBk.out.sub _ hm).1, hm⟩
                    have Hgr : Hid (r ∈ got) := List.mem_of_getElem? hg0
                    have hc0 := (Hcells.out 0 hgpos).1
                    rw [Hg0.out] at hc0
                    have hx0' := elem43' g9 (n := got.length) (k := 0) hgpos cap9
                    have hx0 : ∀ w : World, (Instr.indexAt 43 (.slice (some ⟨g9, 0, none⟩) got.length cap9) (.int .i64 0)).run Try.prog w = .ok (.pointer (some ⟨g9, 0, none⟩)) w := hx0'
                    have hnt : decide ((got.length : Int) < (got.length : Int)) = false := by simp
                    have hkW := HP.out.kb
                    have Hrw := show Hid (World.rowIs _ _ _ _ _) from HP.out.row
                    have hg9 : Hid (g9 ≠ cb ∧ g9 < wr.heap.size) := by
                      have := HP.out.own.lt g9 rfl
                      show g9 ≠ cb ∧ g9 < wr.heap.size
                      omega
                    clear hx0' hg0 HBk HP
                    go_wp2_with fail
                    clear hx0 hc0
                    go_loop [24, 25] (fun v24 v25 => ∃ (m q : Nat), 1 ≤ q ∧ q ≤ got.length ∧ v25 = .int .i64 q ∧ v24 = .int .i64 m ∧ Hid (m ∈ got ∧ ∀ i, i < q → m ≤ got.getD i 0)) (fun _ v25 => got.length - (intOf v25).toNat)
                    case atStart => exact ⟨r, 1, by omega, by omega, rfl, rfl, Hgr.out, fun i hi => by
                      obtain rfl : i = 0 := by omega
                      rw [Hg0.out]; exact Nat.le_refl _⟩
                    case round =>
                      obtain ⟨m, q, hq1, hq2, rfl, rfl, Hm⟩ := hrel
                      by_cases hlt5 : q < got.length
                      · have hcq := (Hcells.out q hlt5).1
                        have hxq := elem43' g9 (n := got.length) (k := q) hlt5 cap9
                        obtain ⟨y, hy⟩ : ∃ y, y = got.getD q 0 := ⟨_, rfl⟩
                        rw [← hy] at hcq
                        have Hy : Hid (y = got.getD q 0) := hy
                        clear hy
                        by_cases hym : y < m
                        · have hd : decide ((y : Int) < (m : Int)) = true := by simp; omega
                          go_wp2_with fail
                          go_round
                          case rel => exact ⟨y, q + 1, by omega, by omega, by go_num, rfl, by rw [Hy.out]; exact (Hgs.out q hlt5).2, fun i hi => by
                            by_cases e1 : i = q
                            · rw [e1, Hy.out]; exact Nat.le_refl _
                            · have := Hm.out.2 i (by omega)
                              omega⟩
                          case measure => simp [intOf]; omega
                        · have hd : decide ((y : Int) < (m : Int)) = false := by simp; omega
                          go_wp2_with fail
                          go_round
                          case rel => exact ⟨m, q + 1, by omega, by omega, by go_num, rfl, Hm.out.1, fun i hi => by
                            by_cases e1 : i = q
                            · rw [e1, ← Hy.out]; omega
                            · exact Hm.out.2 i (by omega)⟩
                          case measure => simp [intOf]; omega
                      · obtain rfl : q = got.length := by omega
                        go_wp2_with fail
                        go_loopw [26] (fun v26 wx => ∃ p : Nat, p ≤ got.length ∧ v26 = .int .i64 p ∧ Hid (wx.rowIs cb 3 s (fun x => .int .i64 (if x ∈ got.take p then (m : Int) else if x ∈ got then -2 else comp x))) ∧ KB (fun k => k = cb) wr wx) (fun v26 _ => got.length - (intOf v26).toNat)
                        case atStart => exact ⟨0, Nat.zero_le _, rfl, Hrw.out.congr (fun j _ => by simp), KB.refl _ _⟩
                        case round =>
                          obtain ⟨p, hp, rfl, Hrp, hkp⟩ := hrel
                          by_cases hlt6 : p < got.length
                          · have hcp' := (Hcells.out p hlt6).1
                            have hxp := elem43' g9 (n := got.length) (k := p) hlt6 cap9
                            obtain ⟨hys, _⟩ := Hgs.out p hlt6
                            obtain ⟨y, hy⟩ : ∃ y, y = got.getD p 0 := ⟨_, rfl⟩
                            rw [← hy] at hcp' hys
                            have hcp := (hkp.cell (p := ⟨g9, p, none⟩) hg9.out.2 hg9.out.1).trans hcp'
                            have hxy := elem43' cb (n := s) (k := y) hys s
                            have hcy := Hrp.out.cell hys
                            have hfy := Hrp.out.frozen y
                            have htk : got.take (p + 1) = got.take p ++ [y] := by
                              rw [List.take_add_one, hy, List.getD_eq_getElem?_getD, List.getElem?_eq_getElem hlt6]
                              rfl
                            have Hrp2 := show Hid (World.rowIs _ _ _ _ _) from (Hrp.out.set y (.int .i64 (m : Int))).congr (g := fun x => .int .i64 (if x ∈ got.take (p + 1) then (m : Int) else if x ∈ got then -2 else comp x)) (fun j _ => by
                              rw [htk]
                              by_cases e1 : j = y
                              · simp [e1]
                              · simp [e1])
                            have hkp2 := KB.setCell (p := ⟨cb, y, none⟩) hkp (fun _ => rfl) (.int .i64 (m : Int))
                            clear hy htk hcp' Hrp
                            go_wp2_with fail
                            go_roundw
                            case rel => exact ⟨p + 1, by omega, by go_num, Hrp2, hkp2⟩
                            case measure => simp [intOf]; omega
                          · obtain rfl : p = got.length := by omega
                            have Hrf := show Hid (World.rowIs _ _ _ _ _) from Hrp.out.congr (g := fun x => .int .i64 (if x ∈ got then (m : Int) else comp x)) (fun j _ => by
                              rw [List.take_length]
                              by_cases e1 : j ∈ got
                              · rw [if_pos e1, if_pos e1]
                              · rw [if_neg e1, if_neg e1, if_neg e1])
                            have hkf := hkW.trans hkp (fun k _ e => e)
                            have HCf := show Hid (Comps _ _ _ _ _) from HC.out.next Hr.out hrs HG.out Hm.out.1 (least_of got m Hm.out.2)
                            clear Hrp HC
                            go_wp2_with fail
                            go_roundw
                            case rel => exact ⟨j, _, _, by omega, rfl, by show (j : Int) - 1 = _; rfl, Hrf, hkf, HCf⟩
                            case measure => simp [intOf]
              · have hcm' : (comp r != -1) = true := by simpa using hcm
                have HC2 := show Hid (Comps _ _ _ _ _) from HC.out.pass Hr.out hcm
                clear HC hcm
                go_wp2_with fail
                go_roundw
                case rel => exact ⟨j, _, comp, by omega, rfl, by show (j : Int) - 1 = _; rfl, Hrw, hkb, HC2⟩
                case measure => simp [intOf]

end Go.Proofs.Qxb6605609a
