/-
  Small lemmas for the law's parts behind the join.
-/
import Derived.Test.Qxb6618330aJnTabs
namespace Go.Proofs.Qxb6618330a.Jn
open Go.ChangeShapes Go.WideShapes Go.ChangeAt Go.RowKit

theorem LinesV.fr {B bc : Nat} {w w' : World} {lm : Option Nat} {a2 : Option Addr} {n2 : Nat} {h2 : List ByteArray} {ro : List (Option (List ByteArray))} (h : LinesV B w lm a2 n2 h2 ro) (hF : Fr w.heap.size bc w w') (hm : ∃ es clock, w.heap[bc]? = some (.map es clock)) (hne : lm ≠ some bc) : LinesV B w' lm a2 n2 h2 ro := by
  rcases h with h | ⟨bl, us, h1, h2, h3, h4⟩
  · exact .inl h
  · refine .inr ⟨bl, us, h1, h2, h3, h4.map.keep (hF.block bl h4.map.lt (fun e => hne (by rw [h1, e]))), h4.len, fun i hi => (h4.rows i hi).fr hF hm⟩
theorem Blk.fr {w w' : World} {g : Nat} {e : TypeId} {vs : List Value} {bc n c : Nat} {f : ByteArray → Option Value} (h : Blk w g e vs) (hF : Fr w.heap.size bc w w') (hM : MapIs w bc n f c) : Blk w' g e vs :=
  h.keep (hF.block g h.lt (hM.notRow h))
/-- The four cells of a join. -/
theorem Blk.four {w : World} {g : Nat} {e : TypeId} {a b c d : Value} (h : Blk w g e [a, b, c, d]) : w.cell? ⟨g, 0, none⟩ = some a ∧ w.cell? ⟨g, 1, none⟩ = some b ∧ w.cell? ⟨g, 2, none⟩ = some c ∧ w.cell? ⟨g, 3, none⟩ = some d :=
  ⟨by rw [h.cell]; rfl, by rw [h.cell]; rfl, by rw [h.cell]; rfl, by rw [h.cell]; rfl⟩
theorem blk_new (w : World) (cs : Array Value) (e : TypeId) : Blk (w.alloc (.cells cs e)) w.heap.size e cs.toList := by
  unfold Blk
  rw [heap_alloc_new]
theorem kept_cols (h4 : List ByteArray) (h5 : List Int) (m n0 : Nat) (l : List ByteArray) (h1 : m ≤ h4.length) (h2 : m ≤ h5.length) : ∀ s ∈ h4.take m, asInt (cols (psOf h4 h5 m) n0 l) s = some (.int .i64 ((last ((pairs h4 h5).take m) s).getD 0)) := by
  intro s hs
  have hseen : (last (psOf h4 h5 m) s).isSome = true := by
    rw [last_seen, ps_fst h4 h5 m h1 h2]
    exact (seen_mem _ _).2 hs
  unfold asInt
  rw [cols_old (psOf h4 h5 m) n0 l s _ (opt_some hseen)]
  rfl
theorem kept_last (h4 : List ByteArray) (h5 : List Int) (m : Nat) (h1 : m ≤ h4.length) (h2 : m ≤ h5.length) : ∀ s ∈ h4.take m, asInt (last (psOf h4 h5 m)) s = some (.int .i64 ((last ((pairs h4 h5).take m) s).getD 0)) := by
  intro s hs
  have := kept_cols h4 h5 m 0 [] h1 h2 s hs
  unfold asInt at this ⊢
  rw [cols_nil] at this
  exact this

theorem kept_at (b N : Nat) (f : ByteArray → Option Value) (cnt : Nat) (x : Int) (hx : x = (cnt : Int)) (ao : Option Addr) (n c : Nat) (bo : Option Addr) (n2 c2 m : Nat) (names : List ByteArray) (vals : List Int) (w : World) (hm1 : m ≤ names.length) (hm2 : m ≤ vals.length)
    (hn : names.length = n) (hn2 : vals.length = n2) (hs : n ≤ 1048576) (hR : VRow w ao (strs names)) (hR2 : VRow w bo (nums vals)) (hM : MapIs w b N f cnt) (hsz : ∀ s ∈ names, s.size ≤ maxLen)
    (hf : ∀ s ∈ names.take m, f s = some (.int .i64 ((last ((pairs names vals).take m) s).getD 0))) :
    Calls Try.prog 14 #[.map (some b), .slice ao n c, .slice bo n2 c2, .int .i64 m, .int .i64 x] w fun e w' => e = .returned (.bool true) ∧ w' = w := by
  subst hx
  exact kept_any b N f cnt ao n c bo n2 c2 m names vals w hm1 hm2 hn hn2 hs hR hR2 hM hsz hf

end Go.Proofs.Qxb6618330a.Jn
