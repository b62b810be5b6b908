import Derived.Test.Qxb6630006aFmtBytes
namespace Go.Proofs.Qxb6630006aFmt
open Go.RowKit

/-- The cells of a server. -/
abbrev srvC (s : Srv) : List Value := [.string s.1, .string s.2, .string ⟨#[]⟩, .slice none 0 0]
/-- The cells of a site. -/
abbrev siteC (x : SiteV) : List Value := [.string x.name, .string x.region, .slice x.ao x.ss.length x.cap, .pointer none]
/-- Every block but S is as it was. -/
def Kept (S : Nat) (w w' : World) : Prop := ∀ g, g < w.heap.size → g ≠ S → w'.heap[g]? = w.heap[g]?
/-- The site's servers do not lie in block S. -/
def Apart (S : Nat) (x : SiteV) : Prop := ∀ a, x.ao = some a → a.block ≠ S

theorem Kept.cell {S : Nat} {w w' : World} (h : Kept S w w') {a : Addr} {v : Value} (hc : w.cell? a = some v) (hne : a.block ≠ S) : w'.cell? a = some v :=
  (World.cell?_of_block (h a.block (World.block_lt_of_cell? w a hc) hne)).trans hc
theorem Kept.of_below {S : Nat} {w w' : World} (h : Below w.heap.size w w') : Kept S w w' := fun g hg _ => h.block g hg
theorem Kept.of_grown {S : Nat} {w w' : World} (h : w.grownBy w' (some S)) : Kept S w w' := fun g hg hne => h.block g hg (by simpa using hne)
theorem Kept.trans {S : Nat} {a b c : World} (h : Kept S a b) (k : Kept S b c) (hs : a.heap.size ≤ b.heap.size) : Kept S a c := fun g hg hne => (k g (by omega) hne).trans (h g hg hne)
theorem SiteOk.kept {S : Nat} {w w' : World} {x : SiteV} (h : SiteOk w x) (k : Kept S w w') (ha : Apart S x) : SiteOk w' x :=
  ⟨fun i hi => by
    obtain ⟨b, o, e, c0, c1, c2, c3⟩ := h.row i hi
    have hne := ha _ e
    exact ⟨b, o, e, k.cell c0 hne, k.cell c1 hne, k.cell c2 hne, k.cell c3 hne⟩, h.len, h.nilA⟩

theorem flat4_get {α : Type} (f : α → List Value) (hf : ∀ a, (f a).length = 4) : ∀ (xs : List α) (i j : Nat) (hi : i < xs.length) (_ : j < 4), (xs.flatMap f)[i * 4 + j]? = (f xs[i])[j]?
  | x :: xs, 0, j, _, hj => by
    rw [List.flatMap_cons, List.getElem?_append_left (by rw [hf]; omega)]; simp
  | x :: xs, i + 1, j, hi, hj => by
    rw [List.flatMap_cons, List.getElem?_append_right (by rw [hf]; omega), hf, show (i + 1) * 4 + j - 4 = i * 4 + j by omega, flat4_get f hf xs i j (by simpa using hi) hj]
    rfl
theorem flat4_length {α : Type} (f : α → List Value) (hf : ∀ a, (f a).length = 4) (xs : List α) : (xs.flatMap f).length = xs.length * 4 := by
  induction xs with
  | nil => rfl
  | cons x xs ih => rw [List.flatMap_cons, List.length_append, hf, ih, List.length_cons]; omega

/-- The cells of an owned row. -/
theorem owns_cell {w : World} {base e : Nat} {g n cap : Nat} {xs : List Value} (h : w.ownsRow base e 4 (.slice (some ⟨g, 0, none⟩) n cap) n xs) (i : Nat) (v : Value) (hv : xs[i]? = some v) : w.cell? ⟨g, i, none⟩ = some v := by
  obtain ⟨hl, h | ⟨g', cap', cur, hv', _, hh, _, _, hs, ht⟩⟩ := h
  · simp at h
  · simp only [Value.slice.injEq, Option.some.injEq, Addr.mk.injEq] at hv'
    obtain ⟨⟨rfl, -, -⟩, -, -⟩ := hv'
    rw [cell_of_row w g i cur e (0, 0) hh]
    rw [← ht] at hv
    rw [List.getElem?_take] at hv
    split at hv
    · simpa using hv
    · cases hv
theorem srvRow_of_owns {w : World} {base g cap : Nat} {ss : List Srv} (h : w.ownsRow base 32 4 (.slice (some ⟨g, 0, none⟩) ss.length cap) ss.length (ss.flatMap srvC)) : SrvRow w (some ⟨g, 0, none⟩) ss := fun i hi => by
  have c := fun j (hj : j < 4) => flat4_get srvC (fun _ => rfl) ss i j hi hj
  exact ⟨g, 0, rfl, owns_cell h _ _ (by simpa using c 0 (by omega)), owns_cell h _ _ (by simpa using c 1 (by omega)), owns_cell h _ _ (by simpa using c 2 (by omega)), owns_cell h _ _ (by simpa using c 3 (by omega))⟩
theorem siteRow_of_owns {w : World} {base g cap : Nat} {xs : List SiteV} (h : w.ownsRow base 35 4 (.slice (some ⟨g, 0, none⟩) xs.length cap) xs.length (xs.flatMap siteC)) (hok : ∀ x ∈ xs, SiteOk w x) : SiteRow w (some ⟨g, 0, none⟩) xs := ⟨fun i hi => by
  have c := fun j (hj : j < 4) => flat4_get siteC (fun _ => rfl) xs i j hi hj
  exact ⟨g, 0, rfl, owns_cell h _ _ (by simpa using c 0 (by omega)), owns_cell h _ _ (by simpa using c 1 (by omega)), owns_cell h _ _ (by simpa using c 2 (by omega)), owns_cell h _ _ (by simpa using c 3 (by omega))⟩, hok⟩
/-- An owned row stays owned where its block stays. -/
theorem owns_block {w w' : World} {base e size g n cap k : Nat} {xs : List Value} (h : w.ownsRow base e size (.slice (some ⟨g, 0, none⟩) n cap) k xs) (hb : w'.heap[g]? = w.heap[g]?) : w'.ownsRow base e size (.slice (some ⟨g, 0, none⟩) n cap) k xs := by
  obtain ⟨hl, h | ⟨g', cap', cur, hv', h1, hh, h2⟩⟩ := h
  · simp at h
  · refine ⟨hl, .inr ⟨g', cap', cur, hv', h1, ?_, h2⟩⟩
    simp only [Value.slice.injEq, Option.some.injEq, Addr.mk.injEq] at hv'
    obtain ⟨⟨rfl, -, -⟩, -, -⟩ := hv'
    rw [hb]; exact hh
theorem owns_lt {w : World} {base e size g n cap k : Nat} {xs : List Value} (h : w.ownsRow base e size (.slice (some ⟨g, 0, none⟩) n cap) k xs) : g < w.heap.size := by
  obtain ⟨hl, h | ⟨g', cap', cur, hv', h1, hh, h2⟩⟩ := h
  · simp at h
  · simp only [Value.slice.injEq, Option.some.injEq, Addr.mk.injEq] at hv'
    obtain ⟨⟨rfl, -, -⟩, -, -⟩ := hv'
    exact (Array.getElem?_eq_some_iff.1 hh).1
/-- What lies in a new block. -/
theorem cells_new (w : World) (cs : List Value) (t n : Nat) (hn : n = w.heap.size) : ∀ j u, cs[j]? = some u → (w.alloc (.cells cs.toArray t)).cell? ((⟨n, 0, none⟩ : Addr).add j) = some u := by
  intro j u hu
  subst hn
  rw [Addr.add_lit, cell_of_row (w.alloc (.cells cs.toArray t)) w.heap.size (0 + j) cs.toArray t (0, 0) (by exact heap_alloc_new w _)]
  simpa using hu
theorem one_srvC (s : Srv) : ∀ u ∈ srvC s, u.oneCell' = true := by intro u hu; simp at hu; rcases hu with rfl | rfl | rfl | rfl <;> rfl
theorem one_siteC (s : SiteV) : ∀ u ∈ siteC s, u.oneCell' = true := by intro u hu; simp at hu; rcases hu with rfl | rfl | rfl | rfl <;> rfl

theorem Tryf.info32 : (Tryf.prog.info? 32).map (fun i => (i.zero, i.size, i.bytes)) = some (some (.agg #[.string ⟨#[]⟩, .string ⟨#[]⟩, .string ⟨#[]⟩, .slice none 0 0]), 4, 72) := by kernel_rfl
theorem Tryf.info35 : (Tryf.prog.info? 35).map (fun i => (i.zero, i.size, i.bytes)) = some (some (.agg #[.string ⟨#[]⟩, .string ⟨#[]⟩, .slice none 0 0, .pointer none]), 4, 64) := by kernel_rfl
end Go.Proofs.Qxb6630006aFmt
