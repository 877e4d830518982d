import Derived.Test.YbulkbmoiFmtPad
namespace Go.Proofs.YbulkbmoiFmt
open Go.RowKit Go Go.Extern.Stop Go.Stop Go.Extern Go.Kit

theorem info5 : (Ybaf.prog.info? 5).map (fun i => (i.zero, i.size, i.bytes)) = some (some (.int .u8 0), 1, 1) := by kernel_rfl

theorem owns_shape {w : World} {B : Nat} {e : TypeId} {s : Nat} {v : Value} {n : Nat} {xs : List Value} (h : w.ownsRow B e s v n xs) : ∃ ao cap, v = .slice ao n cap ∧ (0 < n → ∃ g, ao = some ⟨g, 0, none⟩) := by
  rcases h.2 with ⟨rfl, rfl⟩ | ⟨g, cap, cur, rfl, _⟩
  · exact ⟨none, 0, rfl, fun h => by omega⟩
  · exact ⟨_, cap, rfl, fun _ => ⟨g, rfl⟩⟩

def lenOf : Value → Nat | .slice _ n _ => n | _ => 0

theorem app_below {B : Nat} {e : TypeId} {sz : Nat} {w wr w2 : World} {d : Value} {n : Nat} {xs : List Value} {o : Obj} (hb : Below B w wr) (hB : B ≤ w.heap.size) (hown : wr.ownsRow B e sz d n xs) (hg : (wr.alloc o).grownBy w2 d.ownBlock) : Below B w w2 :=
  (hb.alloc (Nat.le_trans hB hb.size) o).grown hg (by have := hb.size; simp; omega) (fun k hk => (hown.lt k hk).1)

theorem one_cell (wr : World) (x : Value) (e : TypeId) : ∀ (j : Nat) (u : Value), [x][j]? = some u → (wr.alloc (.cells #[x] e)).cell? ((⟨wr.heap.size, 0, none⟩ : Addr).add j) = some u := by
  intro j u hj
  match j, hj with
  | 0, hj => simp at hj; subst hj; simp [Addr.add]

theorem owns_app {w : World} {B : Nat} {v : Value} {ds : List Int} {z : Int} (h : w.ownsRow B 5 1 v (ds.length + 1) (ds.map (.int .u8) ++ [.int .u8 z])) : w.ownsRow B 5 1 v (ds ++ [z]).length ((ds ++ [z]).map (.int .u8)) := by
  simpa using h

theorem q_step {ds Q : List Int} (h : ∃ j, j ≤ 8 - ds.length ∧ Q = ds ++ List.replicate j 48) (h8 : Q.length < 8) : ∃ j, j ≤ 8 - ds.length ∧ Q ++ [48] = ds ++ List.replicate j 48 := by
  obtain ⟨j, hj, rfl⟩ := h
  refine ⟨j + 1, ?_, ?_⟩
  · simp at h8; omega
  · rw [List.replicate_succ', List.append_assoc]

theorem q_end {ds Q : List Int} {n : Nat} (hl : ds = low n) (h : ∃ j, j ≤ 8 - ds.length ∧ Q = ds ++ List.replicate j 48) (h8 : ¬ Q.length < 8) : Q = (padded n).reverse := by
  obtain ⟨j, hj, rfl⟩ := h
  subst hl
  unfold padded low at *
  simp at hj h8
  have e : j = 8 - (K n).length := by omega
  subst e
  simp

theorem made_list (L : Nat) : (madeCells #[.int .u8 0] L).toList = (List.replicate L (0 : Int)).map (.int .u8) := by
  apply List.ext_getElem
  · simp [size_madeCells]
  · intro i h1 h2
    simp [madeCells, Nat.mod_one]

theorem made_owns {B : Nat} (w : World) (L : Nat) (hB : B ≤ w.heap.size) (hL : L ≤ 1000) :
    (w.alloc (.cells (madeCells #[.int .u8 0] L) 5)).ownsRow B 5 1 (.slice (some ⟨w.heap.size, 0, none⟩) L L) L ((List.replicate L (0 : Int)).map (.int .u8)) := by
  have h := World.ownsRow_lit (base := B) (e := 5) (size := 1) w (madeCells #[.int .u8 0] L) L hB (by unfold maxLen; omega) (by simp [size_madeCells])
  rw [made_list] at h
  exact h

theorem owns_cell {w : World} {B : Nat} {e : TypeId} {g n cap : Nat} {k : IntKind} {ys : List Int} (h : w.ownsRow B e 1 (.slice (some ⟨g, 0, none⟩) n cap) n (ys.map (.int k))) (j : Nat) (hj : j < n) :
    w.cell? ⟨g, j, none⟩ = some (.int k (ys.getD j 0)) := by
  have hl : ys.length = n := by have := h.1; simpa using this
  have hjl : j < ys.length := by omega
  rw [h.cellAt j (by omega)]
  simp [List.getD, hjl]

theorem set_step (Q : List Int) (k : Nat) (h : k < Q.length) : (Q.reverse.take k ++ List.replicate (Q.length - k) 0).set k (Q.getD (Q.length - 1 - k) 0) = Q.reverse.take (k + 1) ++ List.replicate (Q.length - (k + 1)) 0 := by
  have hr : k < Q.reverse.length := by simpa using h
  rw [List.set_append, if_neg (by simp; omega)]
  rw [List.take_succ_eq_append_getElem hr, List.append_assoc]
  have e1 : k - (Q.reverse.take k).length = 0 := by simp; omega
  have e2 : List.replicate (Q.length - k) (0 : Int) = 0 :: List.replicate (Q.length - (k + 1)) 0 := by
    rw [← List.replicate_succ]; congr 1; omega
  rw [e1, e2]
  have hq : Q.length - 1 - k < Q.length := by omega
  simp [List.getD, hq]

theorem rev_step {Q : List Int} {k G gd cap : Nat} {w wr : World} (hlt : k < Q.length) (hne : gd ≠ G)
    (ho : wr.ownsRow w.heap.size 5 1 (.slice (some ⟨G, 0, none⟩) Q.length Q.length) Q.length ((Q.reverse.take k ++ List.replicate (Q.length - k) 0).map (.int .u8)))
    (hd : wr.ownsRow w.heap.size 5 1 (.slice (some ⟨gd, 0, none⟩) Q.length cap) Q.length (Q.map (.int .u8))) (hb : Below w.heap.size w wr) :
    (wr.setCell ⟨G, k, none⟩ (.int .u8 (Q.getD (Q.length - 1 - k) 0))).ownsRow w.heap.size 5 1 (.slice (some ⟨G, 0, none⟩) Q.length Q.length) Q.length ((Q.reverse.take (k + 1) ++ List.replicate (Q.length - (k + 1)) 0).map (.int .u8)) ∧
    (wr.setCell ⟨G, k, none⟩ (.int .u8 (Q.getD (Q.length - 1 - k) 0))).ownsRow w.heap.size 5 1 (.slice (some ⟨gd, 0, none⟩) Q.length cap) Q.length (Q.map (.int .u8)) ∧ Below w.heap.size w (wr.setCell ⟨G, k, none⟩ (.int .u8 (Q.getD (Q.length - 1 - k) 0))) := by
  obtain ⟨h1, h2⟩ := ho.stored k (.int .u8 (Q.getD (Q.length - 1 - k) 0))
  refine ⟨?_, hd.kept h2 (.inr (by simp [Value.ownBlock, hne])), hb.setCell (ho.lt G rfl).1 _⟩
  rw [← set_step Q k hlt, List.map_set]
  exact h1

set_option maxHeartbeats 1000000 in
theorem pad_any (n : Nat) (hn : n ≤ 9223372036854775807) (w : World) :
    Calls Ybaf.prog 6 #[.int .i64 n] w fun e w' => e = .returned (.string (strOf (padded n))) ∧ Below w.heap.size w w' := by
  obtain ⟨i0, hi, hz0, hz1, hz2⟩ := info_parts info5
  go_enter Ybaf.func6, Ybaf.ntmps6
  go_wp2_with fail
  go_loopw [3, 4] (fun d m wr => ∃ k : Nat, ∃ ds : List Int, k ≤ n ∧ m = .int .i64 k ∧ K k ++ ds.reverse = K n ∧ wr.ownsRow w.heap.size 5 1 d ds.length (ds.map (.int .u8)) ∧ Below w.heap.size w wr)
    (fun _ m _ => (intOf m).toNat)
  case atStart => exact ⟨n, [], Nat.le_refl _, rfl, by simp, World.ownsRow_nil _ _ _ _, Below.refl _ _⟩
  case round =>
    obtain ⟨k, ds, hk, rfl, hK, hown, hb⟩ := hrel
    have HK : Hid (K k ++ ds.reverse = K n) := hK
    have hl : ds.length ≤ 19 := by have := K_len19 n hn; rw [← hK] at this; simp at this; omega
    clear hK
    by_cases h0 : 0 < k
    · go_wp2_with (at_builtin; refine wpList_append_lies _ rfl _ _ 38 rfl w.heap.size 5 i0 (.int .u8 0) 1 1 Ybaf.underlying38 hi hz0 hz1 hz2 rfl (by decide) _ _ _ rfl (hown.alloc _) _ 1 1 [.int .u8 (48 + (k : Int) % 10)] rfl rfl ?c1 ?c2 (by decide) ?c3 ?c4 ?c5 _ rfl ?_)
      case c1 => exact one_cell wr _ 5
      case c2 => intro u hu; simp at hu; subst hu; rfl
      case c3 => unfold maxLen; omega
      case c4 => omega
      case c5 => have := hb.size; simp; omega
      intro g cap w2 hown' hgrow hat hlt
      have hb2 := app_below hb (Nat.le_refl _) hown hgrow
      have ho2 := owns_app hown'
      clear hown' hgrow hat hlt hown hb
      go_wp2_with fail
      go_roundw
      case rel => exact ⟨k / 10, ds ++ [48 + (k : Int) % 10], by omega, by go_num, by rw [← HK.out, K_step k h0]; simp, by simpa using ho2, hb2⟩
      case measure => simp [intOf]; omega
    · obtain rfl : k = 0 := by omega
      have HL : Hid (ds = low n) := by
        have h := HK.out
        rw [show K 0 = [] from rfl, List.nil_append] at h
        show ds = low n
        unfold low
        rw [← h, List.reverse_reverse]
      clear HK
      go_wp2_with fail
      go_loopw [3] (fun d wr => ∃ Q : List Int, (∃ j, j ≤ 8 - ds.length ∧ Q = ds ++ List.replicate j 48) ∧ wr.ownsRow w.heap.size 5 1 d Q.length (Q.map (.int .u8)) ∧ Below w.heap.size w wr)
        (fun d _ => 8 - lenOf d)
      case atStart => exact ⟨ds, ⟨0, by omega, by simp⟩, hown, hb⟩
      case round =>
        obtain ⟨Q, hQ, hown2, hb2⟩ := hrel
        have HQ : Hid (∃ j, j ≤ 8 - ds.length ∧ Q = ds ++ List.replicate j 48) := hQ
        clear hQ
        obtain ⟨ao, cap, rfl, hsh⟩ := owns_shape hown2
        by_cases h8 : Q.length < 8
        · go_wp2_with (at_builtin; refine wpList_append_lies _ rfl _ _ 38 rfl w.heap.size 5 i0 (.int .u8 0) 1 1 Ybaf.underlying38 hi hz0 hz1 hz2 rfl (by decide) _ _ _ rfl (hown2.alloc _) _ 1 1 [.int .u8 48] rfl rfl ?c1 ?c2 (by decide) ?c3 ?c4 ?c5 _ rfl ?_)
          case c1 => exact one_cell wr _ 5
          case c2 => intro u hu; simp at hu; subst hu; rfl
          case c3 => unfold maxLen; omega
          case c4 => omega
          case c5 => have := hb2.size; simp; omega
          intro g cap2 w2 hown' hgrow hat hlt
          have hb3 := app_below hb2 (Nat.le_refl _) hown2 hgrow
          have ho3 := owns_app hown'
          clear hown' hgrow hat hlt hown2 hb2
          go_wp2_with fail
          go_roundw
          case rel => first | exact ⟨Q ++ [48], q_step HQ.out h8, by simpa using ho3, hb3⟩ | ((repeat apply Exists.intro); exact ⟨⟨Q ++ [48], q_step HQ.out h8, by simpa using ho3, hb3⟩, rfl⟩)
          case measure => simp [lenOf]; omega
        · have HR : Hid (Q = (padded n).reverse) := q_end HL.out HQ.out h8
          have hpl := padded_len n hn
          have hQl : Q.length ≤ 19 := by rw [HR.out]; simp; omega
          have hmk := run_make (P := Ybaf.prog) wr 38 5 i0 (.int .u8 0) Ybaf.underlying38 hi hz0 .i64 .i64 (Q.length : Int) (Q.length : Int) (by omega) (by omega) (by rw [hz2]; omega) (by omega)
          rw [hz1, Int.toNat_natCast, Nat.mul_one, show (Value.int .u8 0).cells = #[Value.int .u8 0] from rfl] at hmk
          have hm0 := made_owns (B := w.heap.size) wr Q.length hb2.size (by omega)
          have hd0 := hown2.alloc (.cells (madeCells #[.int .u8 0] Q.length) 5)
          have hb0 := hb2.alloc hb2.size (.cells (madeCells #[.int .u8 0] Q.length) 5)
          obtain ⟨gd, rfl⟩ := hsh (by omega)
          have hne : gd ≠ wr.heap.size := by have := (hown2.lt gd rfl).2; omega
          clear HQ HL hown hown2 hb2
          go_wp2_with fail
          generalize wr.alloc (.cells (madeCells #[.int .u8 0] Q.length) 5) = W1 at hm0 hd0 hb0 ⊢
          clear hmk
          generalize wr.heap.size = G at hm0 hne ⊢
          go_loopw [30] (fun i wx => ∃ k : Nat, k ≤ Q.length ∧ i = .int .i64 k ∧ wx.ownsRow w.heap.size 5 1 (.slice (some ⟨G, 0, none⟩) Q.length Q.length) Q.length ((Q.reverse.take k ++ List.replicate (Q.length - k) 0).map (.int .u8)) ∧ wx.ownsRow w.heap.size 5 1 (.slice (some ⟨gd, 0, none⟩) Q.length cap) Q.length (Q.map (.int .u8)) ∧ Below w.heap.size w wx)
            (fun i _ => Q.length - (intOf i).toNat)
          case atStart => exact ⟨0, Nat.zero_le _, rfl, by simpa using hm0, hd0, hb0⟩
          case round =>
            obtain ⟨k, hk, rfl, ho, hd, hbx⟩ := hrel
            clear hm0 hd0 hb0
            by_cases hlt : k < Q.length
            · have c1 := owns_cell hd (Q.length - 1 - k) (by omega)
              have c2 := owns_cell ho k (by omega)
              have c3 := ho.frozenAt k
              have R := rev_step hlt hne ho hd hbx
              clear ho hd hbx
              go_wp2_with fail
              go_roundw
              case rel => exact ⟨k + 1, by omega, by go_num, R⟩
              case measure => simp [intOf]; omega
            · obtain rfl : k = Q.length := by omega
              have hs := run_string wr G Q.length Q.reverse (by intro j hj; rw [owns_cell ho j (by simpa using hj), List.take_of_length_le (by simp)]; simp) Q.length (by simp)
              rw [HR.out, List.reverse_reverse, ← HR.out] at hs
              go_wp2_with fail
              go_ret
              exact ⟨rfl, hbx⟩
end Go.Proofs.YbulkbmoiFmt
