import Derived.Test.YbulkbmngApp
import Derived.OpenShut
namespace Go.Proofs.Ybulkbmng
open Go.RowKit Go

theorem appendNil (B n : Nat) (sv : Value) (xs : List Value) (w : World) (hown : w.ownsRow B 5 1 sv n xs) :
    Calls Yba.prog 9 #[sv, .slice none 0 0] w fun e w' => e = .returned sv ∧ w' = w := by
  go_enter Yba.func9, Yba.ntmps9
  go_wp2
  go_loopw [0, 9] (fun b i wr => b = sv ∧ i = .int .i64 0 ∧ wr = w) (fun _ _ _ => 0)
  case atStart => exact ⟨rfl, rfl, rfl⟩
  case round =>
    obtain ⟨rfl, rfl, rfl⟩ := hrel
    go_wp2
    go_ret
    exact ⟨rfl, rfl⟩

theorem appendAny (B n m : Nat) (sv wv : Value) (xs : List Value) (ys : List Int) (w : World) (hown : w.ownsRow B 5 1 sv n xs) (hBw : B ≤ w.heap.size) (hn : n ≤ 1024) (hm : m ≤ 1024)
    (hv : w.ownsRow B 2 1 wv m (ys.map (.int .i64))) (hne : ∀ g, wv.ownBlock = some g → sv.ownBlock ≠ some g) :
    Calls Yba.prog 9 #[sv, wv] w fun e w' => ∃ v', e = .returned v' ∧ w'.ownsRow B 5 1 v' (n + 8 * m) (xs ++ (flat ys).map (.int .u8)) ∧ w'.ownsRow B 2 1 wv m (ys.map (.int .i64)) ∧ Below B w w' := by
  rcases hv.2 with ⟨rfl, rfl⟩ | ⟨g, cap, cur, rfl, _⟩
  · have hl : ys = [] := by have := hv.1; simpa using this
    subst hl
    refine (appendNil B n sv xs w hown).mono fun e w' ⟨he, hw⟩ => ?_
    subst he; subst hw
    exact ⟨_, rfl, by simpa [flat] using hown, hv, Below.refl _ _⟩
  · exact appendNums B n m g cap sv xs ys w hown hBw hn hm hv (hne g rfl)

theorem owns_shape {w : World} {B : Nat} {e : TypeId} {v : Value} {n : Nat} {xs : List Value} (h : w.ownsRow B e 1 v n xs) : ∃ ao cap, v = .slice ao n cap ∧ (0 < n → ∃ g, ao = some ⟨g, 0, none⟩) := by
  rcases h.2 with ⟨rfl, rfl⟩ | ⟨g, cap, cur, rfl, _⟩
  · exact ⟨none, 0, rfl, fun h => by omega⟩
  · exact ⟨_, cap, rfl, fun _ => ⟨g, rfl⟩⟩

theorem owns_base {w : World} {B B' : Nat} {e : TypeId} {v : Value} {n : Nat} {xs : List Value} (h : w.ownsRow B e 1 v n xs) (hb : B' ≤ B) : w.ownsRow B' e 1 v n xs := by
  refine ⟨h.1, ?_⟩
  rcases h.2 with h | ⟨g, cap, cur, a, b, c⟩
  · exact .inl h
  · exact .inr ⟨g, cap, cur, a, by omega, c⟩

theorem owns_below {w w' : World} {B C : Nat} {e : TypeId} {v : Value} {n : Nat} {xs : List Value} (h : w.ownsRow B e 1 v n xs) (hb : Below C w w') (hC : w.heap.size ≤ C) : w'.ownsRow B e 1 v n xs := by
  refine ⟨h.1, ?_⟩
  rcases h.2 with h | ⟨g, cap, cur, a, b, c, d⟩
  · exact .inl h
  · have hlt : g < w.heap.size := (Array.getElem?_eq_some_iff.1 c).1
    exact .inr ⟨g, cap, cur, a, b, by rw [hb.block g (by omega)]; exact c, d⟩

theorem row_below {k : IntKind} {w w' : World} {a : Option Addr} {len cap : Nat} {zs : List Int} (h : Row k w a len cap zs) (hb : Below w.heap.size w w') : Row k w' a len cap zs := by
  rcases h with h | ⟨x, rfl, h1, h2, h3, h4, h5⟩
  · exact .inl h
  · refine .inr ⟨x, rfl, h1, h2, h3, fun i hi => ?_, h5⟩
    have hc := h4 i hi
    rw [hb.cell (World.block_lt_of_cell? w _ hc)]
    exact hc

theorem row_shape {k : IntKind} {w : World} {a : Option Addr} {len cap : Nat} {zs : List Int} (h : Row k w a len cap zs) : len ≤ cap ∧ zs.length = cap ∧ (0 < len → ∃ b off, a = some ⟨b, off, none⟩ ∧ ∀ j, j < len → w.cell? ⟨b, off + j, none⟩ = some (.int k (zs.getD j 0))) := by
  rcases h with ⟨rfl, rfl, rfl, rfl⟩ | ⟨x, rfl, h1, h2, h3, h4, h5⟩
  · exact ⟨Nat.le_refl _, rfl, fun h => by omega⟩
  · refine ⟨h1, h3, fun hp => ?_⟩
    obtain ⟨b, off, rfl, hc⟩ := ints_at h4 (by omega)
    exact ⟨b, off, rfl, fun j hj => hc j (by omega)⟩
end Go.Proofs.Ybulkbmng
