import Derived.Test.YbulkegkgGreatC
import Derived.Laws.MakeOwn
import Derived.Laws.EntriesVeiled
namespace Go.Proofs.YbulkegkgGreat
open Go.RowKit

def K0 : K := (⟨#[]⟩, ⟨#[]⟩)
theorem info28 : (Ybaz.prog.info? 28).map (fun i => (i.zero, i.size, i.bytes)) = some (some (.agg #[.string ⟨#[]⟩, .string ⟨#[]⟩]), 2, 32) := by kernel_rfl
theorem run_make28 (n : Nat) (hn : n ≤ 1000000) (w : World) :
    (Instr.makeSlice 29 (.int .i64 (n : Int)) (.int .i64 (n : Int))).run Ybaz.prog w = .ok (.slice (some ⟨w.heap.size, 0, none⟩) n n) (w.alloc (.cells (madeCells #[.string ⟨#[]⟩, .string ⟨#[]⟩] (n * 2)) 28)) := by
  obtain ⟨i, hi, hzz⟩ := Option.map_eq_some_iff.1 info28
  simp only [Prod.mk.injEq] at hzz
  obtain ⟨hz, hs, hb⟩ := hzz
  have hr := run_make (P := Ybaz.prog) w 29 28 i _ Ybaz.underlying29 hi hz .i64 .i64 n n (by omega) (Int.le_refl _) (by rw [hb]; omega) (by omega)
  simp only [Int.toNat_natCast, hs] at hr
  exact hr
theorem info35 : (Ybaz.prog.info? 35).map (fun i => (i.zero, i.size, i.bytes)) = some (some (.slice none 0 0), 1, 24) := by kernel_rfl
theorem run_make36 (n : Nat) (hn : n ≤ 1000000) (w : World) :
    (Instr.makeSlice 35 (.int .i64 0) (.int .i64 (n : Int))).run Ybaz.prog w = .ok (.slice (some ⟨w.heap.size, 0, none⟩) 0 n) (w.alloc (.cells (madeCells #[.pointer none] n) 36)) := by
  obtain ⟨i, hi, hzz⟩ := Option.map_eq_some_iff.1 info36
  simp only [Prod.mk.injEq] at hzz
  obtain ⟨hz, hs, hb⟩ := hzz
  have hr := run_make (P := Ybaz.prog) w 35 36 i _ Ybaz.underlying35 hi hz .i64 .i64 0 n (by omega) (by omega) (by rw [hb]; omega) (by omega)
  simp only [Int.toNat_natCast, hs, Nat.mul_one] at hr
  exact hr
theorem new_one (w : World) (u : Value) (E : TypeId) : ∀ j, j < 1 → (w.alloc (.cells #[u] E)).cell? ⟨w.heap.size, 0 + j, none⟩ = some u := by
  intro j hj
  obtain rfl : j = 0 := by omega
  rw [cell_of_row _ _ _ _ _ _ (heap_alloc_new w _)]
  rfl
theorem row_made28 (w : World) (n : Nat) : (w.alloc (.cells (madeCells #[.string ⟨#[]⟩, .string ⟨#[]⟩] (n * 2)) 28)).rowIs w.heap.size 28 (n * 2) (kF fun _ => K0) := by
  refine ⟨_, heap_alloc_new w _, by simp [madeCells], fun j hj => ?_⟩
  unfold kF
  rcases Nat.mod_two_eq_zero_or_one j with h | h <;> simp [madeCells, hj, h, K0]
/-- the first q of kz, then empty keys -/
def upTo (q : Nat) (kz : Nat → K) : Nat → K := fun i => if i < q then kz i else K0
theorem upTo_step {w : World} {g n q : Nat} {kz : Nat → K} (h : w.rowIs g 28 (n * 2) (kF (upTo q kz))) :
    ((w.setCell ⟨g, q * 2, none⟩ (.string (kz q).1)).setCell ⟨g, q * 2 + 1, none⟩ (.string (kz q).2)).rowIs g 28 (n * 2) (kF (upTo (q + 1) kz)) := by
  refine row_put (row_put h (q * 2) _ (fun j => if j = q * 2 then .string (kz q).1 else kF (upTo q kz) j) (fun j _ => rfl)) (q * 2 + 1) _ _ (fun j hj => ?_)
  by_cases e1 : j = q * 2 + 1
  · rw [if_pos e1, e1, kF_odd, upTo, if_pos (by omega)]
  · rw [if_neg e1]
    by_cases e2 : j = q * 2
    · rw [if_pos e2, e2, kF_even, upTo, if_pos (by omega)]
    · rw [if_neg e2]
      unfold kF upTo
      by_cases e3 : j / 2 < q
      · rw [if_pos (show j / 2 < q + 1 by omega), if_pos e3]
      · rw [if_neg (show ¬ j / 2 < q + 1 by omega), if_neg e3]
/-- The law's keys, sorted, in block g. -/
structure Srt (w0 w : World) (g n : Nat) (kz ks : Nat → K) : Prop where
  row : w.rowIs g 28 (n * 2) (kF ks)
  turn : Turn (fun _ => False) w0 w
  new : w0.heap.size ≤ g
  srt : Sorted n ks
  mem : ∀ t, t < n → ∃ s, s < n ∧ ks t = kz s

theorem Srt.move {A : Nat → Prop} {w0 w w' : World} {g n : Nat} {kz ks : Nat → K} (h : Srt w0 w g n kz ks) (t : Turn A w w') (ha : ¬ A g) (hA : ∀ k, A k → w0.heap.size ≤ k) : Srt w0 w' g n kz ks :=
  ⟨t.row h.row ha, h.turn.trans t (fun i hi e => by have := hA i e; omega), h.new, h.srt, h.mem⟩
/-- One key in a block of its own. -/
def qF (q : K) : Nat → Value := fun j => if j = 0 then .string q.1 else .string q.2
theorem q_put0 {w : World} {g : Nat} {q : K} (h : w.rowIs g 28 2 (qF q)) (x : ByteArray) : (w.setCell ⟨g, 0, none⟩ (.string x)).rowIs g 28 2 (qF (x, q.2)) :=
  row_put h 0 _ _ (fun j hj => by rcases (show j = 0 ∨ j = 1 by omega) with rfl | rfl <;> rfl)
theorem q_put1 {w : World} {g : Nat} {q : K} (h : w.rowIs g 28 2 (qF q)) (x : ByteArray) : (w.setCell ⟨g, 1, none⟩ (.string x)).rowIs g 28 2 (qF (q.1, x)) :=
  row_put h 1 _ _ (fun j hj => by rcases (show j = 0 ∨ j = 1 by omega) with rfl | rfl <;> rfl)

/-- A record under the key k. -/
def RecIs (w : World) (b : Nat) (k : K) : Prop := ∃ c, w.heap[b]? = some (.cells c 57 (0, 0)) ∧ c[6]? = some (.string k.1) ∧ c[7]? = some (.string k.2)
theorem RecIs.turn {A : Nat → Prop} {w w' : World} {b : Nat} {k : K} (h : RecIs w b k) (t : Turn A w w') (ha : ¬ A b) : RecIs w' b k := by
  obtain ⟨c, h1, h2⟩ := h
  exact ⟨c, (t.block b (Array.getElem?_eq_some_iff.1 h1).1 ha).trans h1, h2⟩
theorem RecIs.lt {w : World} {b : Nat} {k : K} (h : RecIs w b k) : b < w.heap.size := by
  obtain ⟨c, h1, _⟩ := h
  exact (Array.getElem?_eq_some_iff.1 h1).1
theorem RecIs.c0 {w : World} {b : Nat} {k : K} (h : RecIs w b k) : w.cell? ⟨b, 6, none⟩ = some (.string k.1) := by
  obtain ⟨c, h1, h2, _⟩ := h
  simpa [World.cell?, h1] using h2
theorem RecIs.c1 {w : World} {b : Nat} {k : K} (h : RecIs w b k) : w.cell? ⟨b, 7, none⟩ = some (.string k.2) := by
  obtain ⟨c, h1, _, h2⟩ := h
  simpa [World.cell?, h1] using h2
theorem recIs_of_row {w : World} {r : Nat} {f : Nat → Value} {k : K} (h : w.rowIs r 57 17 f) (h6 : f 6 = .string k.1) (h7 : f 7 = .string k.2) : RecIs w r k := by
  obtain ⟨c, hb, hs, hf⟩ := h
  exact ⟨c, hb, (hf 6 (by omega)).trans (congrArg some h6), (hf 7 (by omega)).trans (congrArg some h7)⟩
theorem rec_put {w : World} {r : Nat} {f : Nat → Value} (h : w.rowIs r 57 17 f) (k : K) : RecIs ((w.setCell ⟨r, 6, none⟩ (.string k.1)).setCell ⟨r, 7, none⟩ (.string k.2)) r k :=
  recIs_of_row (row_put (row_put h 6 (.string k.1) (fun j => if j = 6 then .string k.1 else f j) (fun _ _ => rfl)) 7 (.string k.2) (fun j => if j = 7 then .string k.2 else if j = 6 then .string k.1 else f j) (fun _ _ => rfl)) rfl rfl
theorem rec_row (w : World) : (w.alloc (.cells #[.pointer none, .slice none 0 0, .pointer none, .int .i32 0, .int .i32 0, .int .i64 0, .string ⟨#[]⟩, .string ⟨#[]⟩, .int .i32 0, .bool false, .slice none 0 0, .string ⟨#[]⟩, .int .u64 0, .slice none 0 0, .slice none 0 0, .pointer none, .pointer none] 57)).rowIs w.heap.size 57 17 (fun j => (#[.pointer none, .slice none 0 0, .pointer none, .int .i32 0, .int .i32 0, .int .i64 0, .string ⟨#[]⟩, .string ⟨#[]⟩, .int .i32 0, .bool false, .slice none 0 0, .string ⟨#[]⟩, .int .u64 0, .slice none 0 0, .slice none 0 0, .pointer none, .pointer none] : Array Value).getD j undef) :=
  row_of_block (heap_alloc_new w _) _ (fun i hi => by rw [Array.getElem?_eq_getElem hi]; simp only [Array.getD]; rw [dif_pos hi]; rfl)
/-- The chunks so far. -/
structure Bld (w0 w : World) (gS n : Nat) (kz ks : Nat → K) (gQ : Nat) (q : K) (v : Value) (m : Nat) (cb rb rc bd rec : Nat → Nat) : Prop where
  srt : Srt w0 w gS n kz ks
  qr : w.rowIs gQ 28 2 (qF q)
  own : w.ownsRow w0.heap.size 58 1 v m ((List.range m).map fun c => .pointer (some ⟨cb c, 0, none⟩))
  ch : ∀ c, c < m → w.rowIs (cb c) 60 4 (chF (.slice (some ⟨rb c, 0, none⟩) (bd (c + 1) - bd c) (rc c)) (ks (bd (c + 1) - 1)))
  rs : ∀ c, c < m → SlI w 36 (rb c) (bd (c + 1) - bd c) (rc c) (fun j => .pointer (some ⟨rec (bd c + j), 0, none⟩))
  kk : ∀ t, t < bd m → RecIs w (rec t) (ks t)
  b0 : bd 0 = 0
  bs : ∀ c, c < m → bd c < bd (c + 1)
  le : bd m ≤ n
  mle : m ≤ bd m

theorem tag_ne {w : World} {B m b : Nat} {T : TypeId} {v : Value} {xs : List Value} {c : Array Value} {fr : Nat × Nat} (h : w.ownsRow B 58 1 v m xs) (hb : w.heap[b]? = some (.cells c T fr)) (hT : T ≠ 58) : ¬ (v.ownBlock = some b) := by
  intro e
  rcases h.2 with ⟨rfl, _⟩ | ⟨g, cap, cur, rfl, _, hg, _⟩
  · cases e
  · cases e
    rw [hg] at hb
    cases hb
    exact hT rfl
theorem ownsRow_turn {w w' : World} {B m : Nat} {v : Value} {xs : List Value} (h : w.ownsRow B 58 1 v m xs) (t : Turn (fun _ => False) w w') : w'.ownsRow B 58 1 v m xs := by
  obtain ⟨h1, h2⟩ := h
  refine ⟨h1, ?_⟩
  rcases h2 with h2 | ⟨g, cap, cur, hv, hB, hg, r⟩
  · exact .inl h2
  · exact .inr ⟨g, cap, cur, hv, hB, (t.block g (Array.getElem?_eq_some_iff.1 hg).1 (fun x => x)).trans hg, r⟩
theorem bld_step {w0 wr wg w7 : World} {gS n gQ m P L gR cR : Nat} {kz ks : Nat → K} {q : K} {v v' : Value} {cb rb rc bd rec rn : Nat → Nat} {kl : K}
    (h : Bld w0 wr gS n kz ks gQ q v m cb rb rc bd rec) (hP : P = bd m) (l1 : 1 ≤ L) (l3 : P + L ≤ n) (hkl : kl = ks (P + L - 1))
    (tn : Turn (fun _ => False) wr wg) (hs : SlI wg 36 gR L cR (fun j => .pointer (some ⟨rn j, 0, none⟩))) (hr : ∀ j, j < L → RecIs wg (rn j) (ks (P + j)))
    (hown6 : ((wg.alloc (.cells #[.slice (some ⟨gR, 0, none⟩) L cR, .int .u64 1, .string kl.1, .string kl.2] 60)).alloc (.cells #[.pointer (some ⟨wg.heap.size, 0, none⟩)] 58)).ownsRow w0.heap.size 58 1 v m ((List.range m).map fun c => .pointer (some ⟨cb c, 0, none⟩)))
    (hown7 : w7.ownsRow w0.heap.size 58 1 v' (m + 1) (((List.range m).map fun c => .pointer (some ⟨cb c, 0, none⟩)) ++ [.pointer (some ⟨wg.heap.size, 0, none⟩)]))
    (hg : ((wg.alloc (.cells #[.slice (some ⟨gR, 0, none⟩) L cR, .int .u64 1, .string kl.1, .string kl.2] 60)).alloc (.cells #[.pointer (some ⟨wg.heap.size, 0, none⟩)] 58)).grownBy w7 v.ownBlock) :
    Bld w0 w7 gS n kz ks gQ q v' (m + 1) (fun c => if c = m then wg.heap.size else cb c) (fun c => if c = m then gR else rb c) (fun c => if c = m then cR else rc c) (fun c => if c = m + 1 then P + L else bd c) (fun t => if P ≤ t then rn (t - P) else rec t) := by
  have hCH : ((wg.alloc (.cells #[.slice (some ⟨gR, 0, none⟩) L cR, .int .u64 1, .string kl.1, .string kl.2] 60)).alloc (.cells #[.pointer (some ⟨wg.heap.size, 0, none⟩)] 58)).rowIs wg.heap.size 60 4 (chF (.slice (some ⟨gR, 0, none⟩) L cR) kl) :=
    (row_of_block (heap_alloc_new wg _) _ (fun i hi => by rcases (show i = 0 ∨ i = 1 ∨ i = 2 ∨ i = 3 by simp at hi; omega) with rfl | rfl | rfl | rfl <;> rfl)).alloc _
  have t6 : Turn (fun _ => False) wg ((wg.alloc (.cells #[.slice (some ⟨gR, 0, none⟩) L cR, .int .u64 1, .string kl.1, .string kl.2] 60)).alloc (.cells #[.pointer (some ⟨wg.heap.size, 0, none⟩)] 58)) := ((Turn.refl _ _).alloc _).alloc _
  generalize (wg.alloc (.cells #[.slice (some ⟨gR, 0, none⟩) L cR, .int .u64 1, .string kl.1, .string kl.2] 60)).alloc (.cells #[.pointer (some ⟨wg.heap.size, 0, none⟩)] 58) = w6 at hown6 hg hCH t6
  have T6 : Turn (fun _ => False) wr w6 := tn.trans t6 (fun _ _ x => x)
  have t7 : Turn (fun k => v.ownBlock = some k) w6 w7 := (Turn.refl (fun k => v.ownBlock = some k) w6).grown hg (fun k hk => .inr hk)
  have hbase : ∀ k, v.ownBlock = some k → w0.heap.size ≤ k := fun k hk => (hown6.lt k hk).1
  have rowN : ∀ {b T k f}, T ≠ 58 → w6.rowIs b T k f → w7.rowIs b T k f := fun {b T k f} hT hr => by
    have hr' := hr
    obtain ⟨c, hb, _⟩ := hr'
    exact t7.row hr (tag_ne hown6 hb hT)
  have slN : ∀ {b T k cp f}, T ≠ 58 → SlI w6 T b k cp f → SlI w7 T b k cp f := fun {b T k cp f} hT hr => by
    have hr' := hr
    obtain ⟨_, _, c, hb, _⟩ := hr'
    exact hr.turn t7 (tag_ne hown6 hb hT)
  have recN : ∀ {b k}, RecIs w6 b k → RecIs w7 b k := fun {b k} hr => by
    have hr' := hr
    obtain ⟨c, hb, _⟩ := hr'
    exact hr.turn t7 (tag_ne hown6 hb (by decide))
  have bm := bd_mono h.bs m (Nat.le_refl _)
  refine ⟨?_, ?_, ?_, ?_, ?_, ?_, ?_, ?_, ?_, ?_⟩
  · have h6 := h.srt.move T6 (fun x => x) (fun _ x => x.elim)
    have h6' := h6.row
    obtain ⟨c, hb, _⟩ := h6'
    exact h6.move t7 (tag_ne hown6 hb (by decide)) hbase
  · exact rowN (by decide) (T6.row h.qr (fun x => x))
  · have e : ((List.range (m + 1)).map fun c => Value.pointer (some ⟨if c = m then wg.heap.size else cb c, 0, none⟩)) = ((List.range m).map fun c => .pointer (some ⟨cb c, 0, none⟩)) ++ [.pointer (some ⟨wg.heap.size, 0, none⟩)] := by
      rw [List.range_succ, List.map_append]
      congr 1
      · apply List.map_congr_left
        intro c hc
        rw [List.mem_range] at hc
        rw [if_neg (by omega)]
      · simp
    rw [e]
    exact hown7
  · intro c hc
    by_cases e : c = m
    · subst e
      simp only [if_true, if_neg (show ¬ c = c + 1 by omega)]
      rw [← hP, show P + L - P = L by omega, ← hkl]
      exact rowN (by decide) hCH
    · simp only [if_neg e, if_neg (show ¬ c + 1 = m + 1 by omega), if_neg (show ¬ c = m + 1 by omega)]
      exact rowN (by decide) (T6.row (h.ch c (by omega)) (fun x => x))
  · intro c hc
    by_cases e : c = m
    · subst e
      simp only [if_true, if_neg (show ¬ c = c + 1 by omega)]
      rw [← hP, show P + L - P = L by omega]
      refine (slN (by decide) (hs.turn t6 (fun x => x))).congr (fun j hj => ?_)
      rw [if_pos (by omega), show P + j - P = j by omega]
    · simp only [if_neg e, if_neg (show ¬ c + 1 = m + 1 by omega), if_neg (show ¬ c = m + 1 by omega)]
      refine (slN (by decide) ((h.rs c (by omega)).turn T6 (fun x => x))).congr (fun j hj => ?_)
      have := bm (c + 1) (by omega)
      rw [if_neg (by omega)]
  · intro t ht
    simp only [if_true] at ht
    by_cases e : P ≤ t
    · simp only [if_pos e]
      have := (hr (t - P) (by omega)).turn t6 (fun x => x)
      rw [show P + (t - P) = t by omega] at this
      exact recN this
    · simp only [if_neg e]
      exact recN ((h.kk t (by omega)).turn T6 (fun x => x))
  · simp only [if_neg (show ¬ 0 = m + 1 by omega)]
    exact h.b0
  · intro c hc
    by_cases e : c = m
    · subst e
      simp only [if_true, if_neg (show ¬ c = c + 1 by omega)]
      omega
    · simp only [if_neg (show ¬ c + 1 = m + 1 by omega), if_neg (show ¬ c = m + 1 by omega)]
      exact h.bs c (by omega)
  · simp only [if_true]
    exact l3
  · simp only [if_true]
    have := h.mle
    omega

theorem Bld.chunks {w0 w : World} {gS n gQ m : Nat} {kz ks : Nat → K} {q : K} {v : Value} {cb rb rc bd rec : Nat → Nat} (h : Bld w0 w gS n kz ks gQ q v m cb rb rc bd rec) (hm : 0 < m) :
    ∃ gC cC, v = .slice (some ⟨gC, 0, none⟩) m cC ∧ w0.heap.size ≤ gC ∧ Chunks w gC cC m cb rb rc bd rec ks := by
  have hne : v ≠ .slice none 0 0 := fun e => by
    rcases h.own.2 with ⟨_, h2⟩ | ⟨g, cap, cur, hv, _⟩
    · omega
    · rw [hv] at e; cases e
  have hb : ∀ k, v.ownBlock = some k → w0.heap.size ≤ k := fun k hk => (h.own.lt k hk).1
  have hown0 : w.ownsRow 0 58 1 v m ((List.range m).map fun c => .pointer (some ⟨cb c, 0, none⟩)) := by
    obtain ⟨h1, h2⟩ := h.own
    refine ⟨h1, ?_⟩
    rcases h2 with h2 | ⟨g, cap, cur, hv, _, r⟩
    · exact .inl h2
    · exact .inr ⟨g, cap, cur, hv, Nat.zero_le _, r⟩
  obtain ⟨gC, cC, rfl, hs⟩ := SlI.ofOwns (f := fun c => .pointer (some ⟨cb c, 0, none⟩)) hown0 hne (fun i hi => by simp [hi])
  exact ⟨gC, cC, rfl, hb gC rfl, hs, h.ch, h.rs, fun t ht => (h.kk t ht).c0, fun t ht => (h.kk t ht).c1, h.b0, h.bs⟩

/-- The object s: its fifteen cells. -/
def obA (gC m cC : Nat) : Array Value := #[.slice (some ⟨gC, 0, none⟩) m cC, .int .u64 1, .string ⟨#[]⟩, .string ⟨#[]⟩, .int .i64 0, .int .i64 0, .int .u64 0, .bool false, .string ⟨#[]⟩, .string ⟨#[]⟩, .int .i64 0, .int .i64 0, .int .u64 0, .bool false, .int .u64 0]
def obF (gC m cC : Nat) : Nat → Value := fun j => (obA gC m cC).getD j undef
theorem arr_row (w : World) (c : Array Value) (T : TypeId) : (w.alloc (.cells c T)).rowIs w.heap.size T c.size (fun j => c.getD j undef) :=
  row_of_block (heap_alloc_new w _) _ (fun i hi => by rw [Array.getElem?_eq_getElem hi]; simp only [Array.getD]; rw [dif_pos hi]; rfl)
theorem ob_row (w : World) (gC m cC : Nat) : (w.alloc (.cells #[.slice (some ⟨gC, 0, none⟩) m cC, .int .u64 1, .string ⟨#[]⟩, .string ⟨#[]⟩, .int .i64 0, .int .i64 0, .int .u64 0, .bool false, .string ⟨#[]⟩, .string ⟨#[]⟩, .int .i64 0, .int .i64 0, .int .u64 0, .bool false, .int .u64 0] 64)).rowIs w.heap.size 64 15 (obF gC m cC) := arr_row w (obA gC m cC) 64
theorem row_ne {w : World} {b g n n' : Nat} {T T' : TypeId} {f f' : Nat → Value} (h : w.rowIs b T n f) (h' : w.rowIs g T' n' f') (hT : T ≠ T') : b ≠ g := by
  obtain ⟨c, hb, _⟩ := h
  obtain ⟨c', hb', _⟩ := h'
  intro e
  subst e
  rw [hb] at hb'
  cases hb'
  exact hT rfl
theorem sl_ne {w : World} {b g n n' cp : Nat} {T T' : TypeId} {f f' : Nat → Value} (h : SlI w T b n cp f) (h' : w.rowIs g T' n' f') (hT : T ≠ T') : b ≠ g := by
  obtain ⟨_, _, c, hb, _⟩ := h
  obtain ⟨c', hb', _⟩ := h'
  intro e
  subst e
  rw [hb] at hb'
  cases hb'
  exact hT rfl
theorem rec_ne {w : World} {b g n' : Nat} {T' : TypeId} {f' : Nat → Value} {k : K} (h : RecIs w b k) (h' : w.rowIs g T' n' f') (hT : 57 ≠ T') : b ≠ g := by
  obtain ⟨c, hb, _⟩ := h
  obtain ⟨c', hb', _⟩ := h'
  intro e
  subst e
  rw [hb] at hb'
  cases hb'
  exact hT rfl
/-- All that stands when the saved copies are made. -/
structure All (w0 w : World) (gS n : Nat) (kz ks : Nat → K) (gQ : Nat) (q : K) (gC cC m : Nat) (cb rb rc bd rec : Nat → Nat) (gO : Nat) : Prop where
  srt : Srt w0 w gS n kz ks
  qr : w.rowIs gQ 28 2 (qF q)
  sl : SlI w 58 gC m cC (fun c => .pointer (some ⟨cb c, 0, none⟩))
  ch : ∀ c, c < m → w.rowIs (cb c) 60 4 (chF (.slice (some ⟨rb c, 0, none⟩) (bd (c + 1) - bd c) (rc c)) (ks (bd (c + 1) - 1)))
  rs : ∀ c, c < m → SlI w 36 (rb c) (bd (c + 1) - bd c) (rc c) (fun j => .pointer (some ⟨rec (bd c + j), 0, none⟩))
  kk : ∀ t, t < bd m → RecIs w (rec t) (ks t)
  b0 : bd 0 = 0
  bs : ∀ c, c < m → bd c < bd (c + 1)
  ob : w.rowIs gO 64 15 (obF gC m cC)
theorem All.chunks {w0 w : World} {gS n gQ gC cC m gO : Nat} {kz ks : Nat → K} {q : K} {cb rb rc bd rec : Nat → Nat} (h : All w0 w gS n kz ks gQ q gC cC m cb rb rc bd rec gO) : Chunks w gC cC m cb rb rc bd rec ks :=
  ⟨h.sl, h.ch, h.rs, fun t ht => (h.kk t ht).c0, fun t ht => (h.kk t ht).c1, h.b0, h.bs⟩
theorem All.turn {w0 w w' : World} {gS n gQ gC cC m gO : Nat} {kz ks : Nat → K} {q : K} {cb rb rc bd rec : Nat → Nat} (h : All w0 w gS n kz ks gQ q gC cC m cb rb rc bd rec gO) (t : Turn (fun _ => False) w w') : All w0 w' gS n kz ks gQ q gC cC m cb rb rc bd rec gO :=
  ⟨h.srt.move t (fun x => x) (fun _ x => x.elim), t.row h.qr (fun x => x), h.sl.turn t (fun x => x), fun c hc => t.row (h.ch c hc) (fun x => x), fun c hc => (h.rs c hc).turn t (fun x => x), fun t' ht => (h.kk t' ht).turn t (fun x => x), h.b0, h.bs, t.row h.ob (fun x => x)⟩
/-- A store into a row of another type, or into a row of keys that is neither the keys' nor the query's. -/
theorem All.put {w0 w w' : World} {gS n gQ gC cC m gO g N : Nat} {T : TypeId} {f : Nat → Value} {kz ks : Nat → K} {q : K} {cb rb rc bd rec : Nat → Nat} (h : All w0 w gS n kz ks gQ q gC cC m cb rb rc bd rec gO) (hg : w.rowIs g T N f) (hT : T = 35 ∨ T = 28) (h1 : gS ≠ g) (h2 : gQ ≠ g) (hn : w0.heap.size ≤ g) (t : Turn (fun k => k = g) w w') : All w0 w' gS n kz ks gQ q gC cC m cb rb rc bd rec gO := by
  have n58 : (58 : TypeId) ≠ T := by rcases hT with e | e <;> subst e <;> decide
  have n60 : (60 : TypeId) ≠ T := by rcases hT with e | e <;> subst e <;> decide
  have n36 : (36 : TypeId) ≠ T := by rcases hT with e | e <;> subst e <;> decide
  have n57 : (57 : TypeId) ≠ T := by rcases hT with e | e <;> subst e <;> decide
  have n64 : (64 : TypeId) ≠ T := by rcases hT with e | e <;> subst e <;> decide
  exact ⟨h.srt.move t h1 (fun k e => by omega), t.row h.qr h2, h.sl.turn t (sl_ne h.sl hg n58), fun c hc => t.row (h.ch c hc) (row_ne (h.ch c hc) hg n60), fun c hc => (h.rs c hc).turn t (sl_ne (h.rs c hc) hg n36), fun t' ht => (h.kk t' ht).turn t (rec_ne (h.kk t' ht) hg n57), h.b0, h.bs, t.row h.ob (row_ne h.ob hg n64)⟩

theorem run_equalIn_ptr_same {P : Program} (w : World) (d : Nat) (t e : TypeId) (a : Addr) (ht : P.underlying t = some (.pointer e)) (hs : (P.info? e).map (fun i => decide (i.size = 0)) = some false) :
    (Op.equalIn (d + 1) t (.pointer (some a)) (.pointer (some a))).run P w = .ok true w := by
  obtain ⟨i, hi, _⟩ := Option.map_eq_some_iff.1 hs
  simp [Op.equalIn, run_underlying ht, sizeOf, typeInfo, hi, sameAddr]
theorem run_neq_ptr_same {P : Program} (w : World) (t e : TypeId) (a : Addr) (ht : P.underlying t = some (.pointer e)) (hs : (P.info? e).map (fun i => decide (i.size = 0)) = some false) :
    (binOp .neq t (.pointer (some a)) (.pointer (some a))).run P w = .ok (.bool false) w := by
  simp only [binOp]
  simp [Op.equal, Op.maxDepth, run_equalIn_ptr_same w 9999 t e a ht hs]
/-- The saved copies, p of them made. -/
structure Saved (w : World) (m : Nat) (cb bd rec : Nat → Nat) (ks : Nat → K) (gD cD gA gL : Nat) (sr sc : Nat → Nat) (p : Nat) : Prop where
  sd : SlI w 58 gD m cD (fun c => .pointer (some ⟨cb c, 0, none⟩))
  sa : w.rowIs gA 35 m (fun c => if c < p then .slice (some ⟨sr c, 0, none⟩) (bd (c + 1) - bd c) (sc c) else .slice none 0 0)
  ss : ∀ c, c < p → SlI w 36 (sr c) (bd (c + 1) - bd c) (sc c) (fun j => .pointer (some ⟨rec (bd c + j), 0, none⟩))
  sl : w.rowIs gL 28 (m * 2) (kF (upTo p fun c => ks (bd (c + 1) - 1)))
theorem Saved.turn {w w' : World} {m gD cD gA gL p : Nat} {cb bd rec sr sc : Nat → Nat} {ks : Nat → K} (h : Saved w m cb bd rec ks gD cD gA gL sr sc p) (t : Turn (fun _ => False) w w') : Saved w' m cb bd rec ks gD cD gA gL sr sc p :=
  ⟨h.sd.turn t (fun x => x), t.row h.sa (fun x => x), fun c hc => (h.ss c hc).turn t (fun x => x), t.row h.sl (fun x => x)⟩
theorem saved_step {w w2 : World} {m gD cD gA gL p gE cE : Nat} {cb bd rec sr sc : Nat → Nat} {ks : Nat → K} (h : Saved w m cb bd rec ks gD cD gA gL sr sc p) (t : Turn (fun _ => False) w w2) (hE : SlI w2 36 gE (bd (p + 1) - bd p) cE (fun j => .pointer (some ⟨rec (bd p + j), 0, none⟩))) (k : K) (hk : k = ks (bd (p + 1) - 1)) :
    Saved (((w2.setCell ⟨gA, p, none⟩ (.slice (some ⟨gE, 0, none⟩) (bd (p + 1) - bd p) cE)).setCell ⟨gL, p * 2, none⟩ (.string k.1)).setCell ⟨gL, p * 2 + 1, none⟩ (.string k.2)) m cb bd rec ks gD cD gA gL (fun c => if c = p then gE else sr c) (fun c => if c = p then cE else sc c) (p + 1) := by
  have h2 := h.turn t
  have nAL : gA ≠ gL := row_ne h2.sa h2.sl (by decide)
  have tA : Turn (fun k => k = gA) w2 (w2.setCell ⟨gA, p, none⟩ (.slice (some ⟨gE, 0, none⟩) (bd (p + 1) - bd p) cE)) := (Turn.refl (fun k => k = gA) w2).setCell (p := ⟨gA, p, none⟩) (.inr rfl) _
  have tL : ∀ W : World, Turn (fun k => k = gL) W ((W.setCell ⟨gL, p * 2, none⟩ (.string k.1)).setCell ⟨gL, p * 2 + 1, none⟩ (.string k.2)) := fun W => ((Turn.refl (fun k => k = gL) W).setCell (p := ⟨gL, p * 2, none⟩) (.inr rfl) _).setCell (p := ⟨gL, p * 2 + 1, none⟩) (.inr rfl) _
  have hrA : (w2.setCell ⟨gA, p, none⟩ (.slice (some ⟨gE, 0, none⟩) (bd (p + 1) - bd p) cE)).rowIs gA 35 m (fun c => if c < p + 1 then .slice (some ⟨if c = p then gE else sr c, 0, none⟩) (bd (c + 1) - bd c) (if c = p then cE else sc c) else .slice none 0 0) :=
    row_put h2.sa p _ _ (fun c hc => by
      by_cases e : c = p
      · subst e; simp
      · by_cases e2 : c < p
        · simp [e, e2, show c < p + 1 by omega]
        · simp [e, e2, show ¬ c < p + 1 by omega])
  have hrL : (w2.setCell ⟨gA, p, none⟩ (.slice (some ⟨gE, 0, none⟩) (bd (p + 1) - bd p) cE)).rowIs gL 28 (m * 2) (kF (upTo p fun c => ks (bd (c + 1) - 1))) := tA.row h2.sl (fun e => nAL e.symm)
  refine ⟨?_, ?_, ?_, ?_⟩
  · exact (h2.sd.turn tA (sl_ne h2.sd h2.sa (by decide))).turn (tL _) (sl_ne (h2.sd.turn tA (sl_ne h2.sd h2.sa (by decide))) hrL (by decide))
  · exact (tL _).row hrA nAL
  · intro c hc
    by_cases e : c = p
    · subst e
      simp only [if_true]
      have h3 := hE.turn tA (sl_ne hE h2.sa (by decide))
      exact h3.turn (tL _) (sl_ne h3 hrL (by decide))
    · simp only [if_neg e]
      have h3 := (h2.ss c (by omega)).turn tA (sl_ne (h2.ss c (by omega)) h2.sa (by decide))
      exact h3.turn (tL _) (sl_ne h3 hrL (by decide))
  · have hu := upTo_step hrL
    rw [← hk] at hu
    exact hu

set_option maxHeartbeats 40000000 in
set_option maxRecDepth 100000 in
theorem law_walk (a0 : Option Addr) (n cap0 : Nat) (kz : Nat → K) (a1 : Option Addr) (m1 cap1 : Nat) (zz : Nat → Int) (qn qm : ByteArray) (mode pick : Int) (w : World) (hn0 : 0 < n) (hn : n ≤ 65536) (hm1 : m1 ≤ 65536)
    (hc0 : 0 < n → ∃ b off, a0 = some ⟨b, off, none⟩ ∧ ∀ j, j < n → w.cell? ⟨b, off + j * 2, none⟩ = some (.string (kz j).1) ∧ w.cell? ⟨b, off + j * 2 + 1, none⟩ = some (.string (kz j).2))
    (hc1 : 0 < m1 → ∃ b off, a1 = some ⟨b, off, none⟩ ∧ ∀ j, j < m1 → w.cell? ⟨b, off + j, none⟩ = some (.int .u8 (zz j)))
    (hz : ∀ j, j < m1 → 0 ≤ zz j ∧ zz j ≤ 255) (e0 : 0 ≤ mode) (e1 : mode ≤ 255) (p0 : 0 ≤ pick) (p1 : pick ≤ 65535) (hsz : ∀ j, j < n → (kz j).2.size ≤ 140737488355328) :
    Calls Ybaz.prog 3 #[.slice a0 n cap0, .slice a1 m1 cap1, .string qn, .string qm, .int .u8 mode, .int .u16 pick, .bool false] w fun e w' => e = .returned (.bool true) ∧ Below w.heap.size w w' := by
  have hd0 : decide ((65536 : Int) < (n : Int)) = false := by simp; omega
  have hd1 : decide ((65536 : Int) < (m1 : Int)) = false := by simp; omega
  have hmk := run_make28 n (by omega)
  have HC0 : Hid (0 < n → ∃ b off, a0 = some ⟨b, off, none⟩ ∧ ∀ j, j < n → w.cell? ⟨b, off + j * 2, none⟩ = some (.string (kz j).1) ∧ w.cell? ⟨b, off + j * 2 + 1, none⟩ = some (.string (kz j).2)) := hc0
  have HC1 : Hid (0 < m1 → ∃ b off, a1 = some ⟨b, off, none⟩ ∧ ∀ j, j < m1 → w.cell? ⟨b, off + j, none⟩ = some (.int .u8 (zz j))) := hc1
  have HZ : Hid (∀ j, j < m1 → 0 ≤ zz j ∧ zz j ≤ 255) := hz
  have HSZ : Hid (∀ j, j < n → (kz j).2.size ≤ 140737488355328) := hsz
  clear hc0 hc1 hz hsz
  go_enter Ybaz.func3, Ybaz.ntmps3
  go_upto_block 0 with fail
  go_cut [17, 18] from 64 to 77 (fun _ _ wx => Hid (wx.rowIs w.heap.size 28 (n * 2) (kF kz)) ∧ Hid (Turn (fun _ => False) w wx))
  case first =>
    have R1 : Hid ((w.alloc (.cells (madeCells #[.string ⟨#[]⟩, .string ⟨#[]⟩] (n * 2)) 28)).rowIs w.heap.size 28 (n * 2) (kF (upTo 0 kz))) := row_made28 w n
    have T1 : Hid (Turn (fun _ => False) w (w.alloc (.cells (madeCells #[.string ⟨#[]⟩, .string ⟨#[]⟩] (n * 2)) 28))) := (Turn.refl _ _).alloc _
    generalize w.alloc (.cells (madeCells #[.string ⟨#[]⟩, .string ⟨#[]⟩] (n * 2)) 28) = wa at R1 T1 ⊢
    clear hmk HC1
    go_wp2_with fail
    go_loopg [64] n (fun gk i wr => ∃ q : Nat, q ≤ n ∧ gk = n - q ∧ i = .int .i64 q ∧ Hid (wr.rowIs w.heap.size 28 (n * 2) (kF (upTo q kz))) ∧ Hid (Turn (fun _ => False) w wr))
    case atStart => exact ⟨0, by omega, rfl, rfl, R1, T1⟩
    case round =>
      obtain ⟨q, hqn, hgk, rfl, HR, HT⟩ := hrel
      by_cases hlt : q < n
      · obtain ⟨b, off, rfl, hcell⟩ := HC0.out (by omega)
        have x0 : wr.cell? ⟨b, off + q * 2, none⟩ = some (.string (kz q).1) := HT.out.cell (hcell q hlt).1 (fun x => x)
        have x1 : wr.cell? ⟨b, off + q * 2 + 1, none⟩ = some (.string (kz q).2) := HT.out.cell (hcell q hlt).2 (fun x => x)
        have i0 : (0 : Int) ≤ (q : Int) := by omega
        have i1 : (q : Int) < (n : Int) := by omega
        clear hcell
        go_upto_region 10 with fail
        have tb : Turn (fun _ => False) wr (wr.alloc (.cells #[.string (kz q).1, .string (kz q).2] 31)) := (Turn.refl _ _).alloc _
        have z0 : (wr.alloc (.cells #[.string (kz q).1, .string (kz q).2] 31)).cell? ⟨wr.heap.size, 0, none⟩ = some (.string (kz q).1) := by rw [cell_of_row _ _ _ _ _ _ (heap_alloc_new wr _)]; rfl
        have z1 : (wr.alloc (.cells #[.string (kz q).1, .string (kz q).2] 31)).cell? ⟨wr.heap.size, 1, none⟩ = some (.string (kz q).2) := by rw [cell_of_row _ _ _ _ _ _ (heap_alloc_new wr _)]; rfl
        generalize wr.alloc (.cells #[.string (kz q).1, .string (kz q).2] 31) = wb at tb z0 z1 ⊢
        have HR2 : Hid (wb.rowIs w.heap.size 28 (n * 2) (kF (upTo q kz))) := tb.row HR.out (fun x => x)
        have HT2 : Hid (Turn (fun _ => False) w wb) := HT.out.trans tb (fun _ _ x => x)
        have y0 : wb.cell? ⟨w.heap.size, q * 2, none⟩ = some (kF (upTo q kz) (q * 2)) := HR2.out.cell (by omega)
        have y1 : wb.cell? ⟨w.heap.size, q * 2 + 1, none⟩ = some (kF (upTo q kz) (q * 2 + 1)) := HR2.out.cell (by omega)
        have f0 : wb.frozen? ⟨w.heap.size, q * 2, none⟩ = false := HR2.out.frozen _
        have f1 : wb.frozen? ⟨w.heap.size, q * 2 + 1, none⟩ = false := HR2.out.frozen _
        have lg := HR2.out.lt
        clear x0 x1 tb HR HT
        go_wp2
        go_roundg (n - (q + 1))
        case measure => omega
        case rel => exact ⟨q + 1, by omega, rfl, by go_num, upTo_step HR2.out, (HT2.out.setCell (p := ⟨w.heap.size, q * 2, none⟩) (.inl (Nat.le_refl _)) _).setCell (p := ⟨w.heap.size, q * 2 + 1, none⟩) (.inl (Nat.le_refl _)) _⟩
      · obtain rfl : q = n := by omega
        go_wp2
        go_meet
        case rel => exact ⟨HR.out.congr (kF_congr (fun i hi => by unfold upTo; rw [if_pos hi])), HT⟩
  case rest =>
    obtain ⟨HR, HT⟩ := hcut
    obtain ⟨wa, rfl⟩ : ∃ wa : World, wa = wc := ⟨_, rfl⟩
    clear hmk HC0
    go_upto_region 13 with (go_at_call 5; refine (sort_any w.heap.size n n kz _ HR.out (by omega)).mono ?_; rintro e wb ⟨rfl, ks, rs, ts, ss, ms⟩)
    have HS : Hid (Srt w wb w.heap.size n kz ks) := ⟨rs, HT.out.trans ts (fun i hi e => by omega), Nat.le_refl _, ss, ms⟩
    clear rs ts ss ms HR HT
    have hdn : decide ((0 : Int) < (n : Int)) = true := by simp; omega
    have hdn' : decide (0 < n) = true := decide_eq_true hn0
    go_upto_if 85 with fail
    have tq : Turn (fun _ => False) wb (wb.alloc (.cells #[.string qn, .string qm] 28)) := (Turn.refl _ _).alloc _
    have rq : (wb.alloc (.cells #[.string qn, .string qm] 28)).rowIs wb.heap.size 28 2 (qF (qn, qm)) := row_of_block (heap_alloc_new wb _) _ (fun i hi => by rcases (show i = 0 ∨ i = 1 by simp at hi; omega) with rfl | rfl <;> rfl)
    have lS : w.heap.size < wb.heap.size := HS.out.row.lt
    go_cut [20] from 86 to 112 (fun _ wx => ∃ q : K, Hid (wx.rowIs wb.heap.size 28 2 (qF q)) ∧ Hid (Srt w wx w.heap.size n kz ks))
    case first =>
      generalize wb.alloc (.cells #[.string qn, .string qm] 28) = wd at tq rq ⊢
      have HS2 : Hid (Srt w wd w.heap.size n kz ks) := HS.out.move tq (fun x => x) (fun _ x => x.elim)
      have HQ : Hid (wd.rowIs wb.heap.size 28 2 (qF (qn, qm))) := rq
      have y0 : wd.cell? ⟨wb.heap.size, 0, none⟩ = some (.string qn) := rq.cell (by omega)
      have y1 : wd.cell? ⟨wb.heap.size, 1, none⟩ = some (.string qm) := rq.cell (by omega)
      have f0 : wd.frozen? ⟨wb.heap.size, 0, none⟩ = false := rq.frozen _
      have f1 : wd.frozen? ⟨wb.heap.size, 1, none⟩ = false := rq.frozen _
      have lq := rq.lt
      obtain ⟨t, rfl⟩ : ∃ t : Nat, pick = (t : Int) := ⟨pick.toNat, by omega⟩
      have hlm : t % n < n := Nat.mod_lt _ hn0
      have hrm : ((t : Int).tmod (n : Int)) = ((t % n : Nat) : Int) := by rw [Int.tmod_eq_emod_of_nonneg (by omega)]; rfl
      have x0 : wd.cell? ⟨w.heap.size, (t % n) * 2, none⟩ = some (.string (ks (t % n)).1) := (HS2.out.row.cell (by omega)).trans (by rw [kF_even])
      have x1 : wd.cell? ⟨w.heap.size, (t % n) * 2 + 1, none⟩ = some (.string (ks (t % n)).2) := (HS2.out.row.cell (by omega)).trans (by rw [kF_odd])
      have hsz : (ks (t % n)).2.size ≤ 140737488355328 := by obtain ⟨s, hs, e⟩ := HS2.out.mem (t % n) hlm; rw [e]; exact HSZ.out s hs
      generalize t % n = r at hlm hrm x0 x1 hsz
      have HK : Hid (∀ kr : K, kr = ks r → kr = ks r) := fun _ e => e
      obtain ⟨kr, hkr⟩ : ∃ kr, kr = ks r := ⟨_, rfl⟩
      rw [← hkr] at x0 x1 hsz
      clear hkr HK tq rq HS
      obtain ⟨kr1, kr2⟩ := kr
      have hsz' : kr2.size ≤ 140737488355328 := hsz
      clear hsz
      have j0 : (0 : Int) ≤ (r : Int) := by omega
      have j1 : (r : Int) < (n : Int) := by omega
      have j2 : ¬ ((n : Int) = 0) := by omega
      have T3 : Hid (∀ (a b : Value), Srt w ((wd.setCell ⟨wb.heap.size, 0, none⟩ a).setCell ⟨wb.heap.size, 1, none⟩ b) w.heap.size n kz ks) := fun a b => HS2.out.move (((Turn.refl (fun k => k = wb.heap.size) wd).setCell (p := ⟨wb.heap.size, 0, none⟩) (.inr rfl) a).setCell (p := ⟨wb.heap.size, 1, none⟩) (.inr rfl) b) (by omega) (fun k e => by omega)
      by_cases c1 : mode % 3 = 1
      · go_wp2
        go_meet
        case rel => exact ⟨(kr1, kr2), q_put1 (q_put0 HQ.out kr1) kr2, T3.out _ _⟩
      · by_cases c2 : mode % 3 = 2
        · go_wp2
          go_meet
          case rel => exact ⟨(kr1, kr2 ++ (⟨#[0]⟩ : ByteArray)), q_put1 (q_put1 (q_put0 HQ.out kr1) kr2) _, (T3.out _ _).move ((Turn.refl (fun k => k = wb.heap.size) _).setCell (p := ⟨wb.heap.size, 1, none⟩) (.inr rfl) _) (by omega) (fun k e => by omega)⟩
        · go_wp2
          go_meet
          case rel => exact ⟨_, HQ, HS2⟩
    case rest =>
      obtain ⟨q, HQ, HS2⟩ := hcut
      obtain ⟨we, rfl⟩ : ∃ we : World, we = wc := ⟨_, rfl⟩
      clear tq rq HS HSZ hdn hdn' e0 e1 p0 p1
      go_upto_block 2 with fail
      go_cut [21, 22, 23, 24, 25, 26, 27, 28] from 113 to 176 (fun s21 _ _ _ _ _ _ _ wx => ∃ (m : Nat) (cb rb rc bd rec : Nat → Nat), bd m = n ∧ Hid (Bld w wx w.heap.size n kz ks wb.heap.size q s21 m cb rb rc bd rec))
      case first =>
        have B0 : Hid (Bld w we w.heap.size n kz ks wb.heap.size q (.slice none 0 0) 0 (fun _ => 0) (fun _ => 0) (fun _ => 0) (fun _ => 0) (fun _ => 0)) := ⟨HS2.out, HQ.out, World.ownsRow_nil _ _ _ _, fun c h => absurd h (by omega), fun c h => absurd h (by omega), fun c h => absurd h (by omega), rfl, fun c h => absurd h (by omega), Nat.zero_le _, Nat.le_refl _⟩
        clear HQ HS2
        go_wp2_with fail
        go_loopg [21, 22, 23] n (fun gk s21 s22 s23 wr => ∃ (m : Nat) (cb rb rc bd rec : Nat → Nat), gk = n - bd m ∧ s22 = .int .i64 (bd m) ∧ s23 = .int .i64 m ∧ Hid (Bld w wr w.heap.size n kz ks wb.heap.size q s21 m cb rb rc bd rec))
        case atStart => exact ⟨0, _, _, _, _, _, by simp, rfl, rfl, B0⟩
        case round =>
          obtain ⟨m, cb, rb, rc, bd, rec, hgk, rfl, rfl, HB⟩ := hrel
          have ble := HB.out.le
          have mle := HB.out.mle
          by_cases hlt : bd m < n
          · have hdl : decide ((bd m : Int) < (n : Int)) = true := by simp; omega
            go_upto_if 119 with fail
            go_cut [24] from 120 to 129 (fun s24 wx => (∃ sz : Nat, s24 = .int .i64 sz ∧ 1 ≤ sz ∧ sz ≤ 8) ∧ wx = wr)
            case first =>
              by_cases hm0 : 0 < m1
              · obtain ⟨b, off, rfl, hcell⟩ := HC1.out hm0
                have hdm : decide ((0 : Int) < (m1 : Int)) = true := by simp; omega
                have hdm' : decide (0 < m1) = true := decide_eq_true hm0
                have hlm : m % m1 < m1 := Nat.mod_lt _ hm0
                have hcm : wr.cell? ⟨b, off + m % m1, none⟩ = some (.int .u8 (zz (m % m1))) := HB.out.srt.turn.cell (hcell _ hlm) (fun x => x)
                have hrm : ((m : Int).tmod (m1 : Int)) = ((m % m1 : Nat) : Int) := by rw [Int.tmod_eq_emod_of_nonneg (by omega)]; rfl
                obtain ⟨hz0, hz1⟩ := HZ.out _ hlm
                clear hcell
                generalize m % m1 = r at hlm hcm hrm hz0 hz1
                obtain ⟨z, hz⟩ : ∃ z : Nat, zz r = (z : Int) := ⟨(zz r).toNat, by omega⟩
                rw [hz] at hcm hz0 hz1
                clear hz
                have j0 : (0 : Int) ≤ (r : Int) := by omega
                have j1 : (r : Int) < (m1 : Int) := by omega
                have j2 : ¬ ((m1 : Int) = 0) := by omega
                go_wp2
                go_meet
                case rel => exact ⟨⟨1 + z % 8, by go_num, by omega, by omega⟩, rfl⟩
              · have hdm : decide ((0 : Int) < (m1 : Int)) = false := by simp; omega
                have hdm' : decide (0 < m1) = false := decide_eq_false hm0
                go_wp2
                go_meet
                case rel => exact ⟨⟨4, rfl, by omega, by omega⟩, rfl⟩
            case rest =>
              obtain ⟨⟨sz, rfl, s1, s2⟩, hwc⟩ := hcut
              rw [hwc]
              clear hwc
              go_upto_if 136 with fail
              obtain ⟨P, hP⟩ : ∃ P, P = bd m := ⟨_, rfl⟩
              rw [← hP] at ble mle hlt hdl hgk ⊢
              have HP : Hid (P = bd m) := hP
              clear hP
              go_cut [25] from 137 to 138 (fun s25 wx => (∃ L : Nat, s25 = .int .i64 ((P + L : Nat) : Int) ∧ 1 ≤ L ∧ L ≤ 8 ∧ P + L ≤ n) ∧ wx = wr)
              case first =>
                by_cases hen : n < P + sz
                · have hde : decide ((n : Int) < (P : Int) + (sz : Int)) = true := by simp; omega
                  go_wp2
                  go_meet
                  case rel => exact ⟨⟨n - P, by go_num, by omega, by omega, by omega⟩, rfl⟩
                · have hde : decide ((n : Int) < (P : Int) + (sz : Int)) = false := by simp; omega
                  go_wp2
                  go_meet
                  case rel => exact ⟨⟨sz, by go_num, s1, s2, by omega⟩, rfl⟩
              case rest =>
                obtain ⟨⟨L, rfl, l1, l2, l3⟩, hwc⟩ := hcut
                rw [hwc]
                clear hwc
                have hmk : ∀ W : World, (Instr.makeSlice 35 (.int .i64 0) (.int .i64 ((P : Int) + (L : Int) - (P : Int)))).run Ybaz.prog W = .ok (.slice (some ⟨W.heap.size, 0, none⟩) 0 L) (W.alloc (.cells (madeCells #[.pointer none] L) 36)) := fun W => by
                  rw [show (P : Int) + (L : Int) - (P : Int) = (L : Int) by omega]
                  exact run_make36 L (by omega) W
                go_upto_block 4 with fail
                clear hmk
                go_cut [26, 27, 28] from 144 to 162 (fun s26 _ _ wx => ∃ (gR cR : Nat) (rn : Nat → Nat), s26 = .slice (some ⟨gR, 0, none⟩) L cR ∧ wr.heap.size ≤ gR ∧ Hid (SlI wx 36 gR L cR (fun j => .pointer (some ⟨rn j, 0, none⟩))) ∧ Hid (∀ j, j < L → RecIs wx (rn j) (ks (P + j))) ∧ Hid (Turn (fun _ => False) wr wx))
                case first =>
                  have S0 : Hid (SlI (wr.alloc (.cells (madeCells #[.pointer none] L) 36)) 36 wr.heap.size 0 L (fun _ => .pointer (some ⟨0, 0, none⟩))) := SlI.congr (SlI.ofRow (World.rowIs_made wr _ L 36) (by unfold maxLen; omega) (Nat.zero_le _)) (fun i hi => absurd hi (by omega))
                  have T0 : Hid (Turn (fun _ => False) wr (wr.alloc (.cells (madeCells #[.pointer none] L) 36))) := (Turn.refl _ _).alloc _
                  obtain ⟨wo, rfl⟩ : ∃ wo : World, wo = wr := ⟨_, rfl⟩
                  generalize wo.alloc (.cells (madeCells #[.pointer none] L) 36) = wf at S0 T0 ⊢
                  go_wp2_with fail
                  go_loopg [26, 27] L (fun gk s26 s27 wr => ∃ (d gR cR : Nat) (rn : Nat → Nat), d ≤ L ∧ gk = L - d ∧ s27 = .int .i64 ((P + d : Nat) : Int) ∧ s26 = .slice (some ⟨gR, 0, none⟩) d cR ∧ wo.heap.size ≤ gR ∧ Hid (SlI wr 36 gR d cR (fun j => .pointer (some ⟨rn j, 0, none⟩))) ∧ Hid (∀ j, j < d → RecIs wr (rn j) (ks (P + j))) ∧ Hid (Turn (fun _ => False) wo wr))
                  case atStart => exact ⟨0, _, _, fun _ => 0, by omega, rfl, by simp, rfl, Nat.le_refl _, S0, fun j hj => absurd hj (by omega), T0⟩
                  case round =>
                    obtain ⟨d, gR, cR, rn, hdL, hgd, rfl, rfl, lR, HSl, HRc, HTn⟩ := hrel
                    by_cases hdl2 : d < L
                    · have hdd : decide (((P + d : Nat) : Int) < ((P + L : Nat) : Int)) = true := by simp; omega
                      have hdd' : decide ((P : Int) + (d : Int) < (P : Int) + (L : Int)) = true := by simp; omega
                      go_upto_region 35 with fail
                      have hB := rec_row wr
                      have y6 : (wr.alloc (.cells #[.pointer none, .slice none 0 0, .pointer none, .int .i32 0, .int .i32 0, .int .i64 0, .string ⟨#[]⟩, .string ⟨#[]⟩, .int .i32 0, .bool false, .slice none 0 0, .string ⟨#[]⟩, .int .u64 0, .slice none 0 0, .slice none 0 0, .pointer none, .pointer none] 57)).cell? ⟨wr.heap.size, 6, none⟩ = some (.string ⟨#[]⟩) := hB.cell (by omega)
                      have y7 : (wr.alloc (.cells #[.pointer none, .slice none 0 0, .pointer none, .int .i32 0, .int .i32 0, .int .i64 0, .string ⟨#[]⟩, .string ⟨#[]⟩, .int .i32 0, .bool false, .slice none 0 0, .string ⟨#[]⟩, .int .u64 0, .slice none 0 0, .slice none 0 0, .pointer none, .pointer none] 57)).cell? ⟨wr.heap.size, 7, none⟩ = some (.string ⟨#[]⟩) := hB.cell (by omega)
                      have f6 : (wr.alloc (.cells #[.pointer none, .slice none 0 0, .pointer none, .int .i32 0, .int .i32 0, .int .i64 0, .string ⟨#[]⟩, .string ⟨#[]⟩, .int .i32 0, .bool false, .slice none 0 0, .string ⟨#[]⟩, .int .u64 0, .slice none 0 0, .slice none 0 0, .pointer none, .pointer none] 57)).frozen? ⟨wr.heap.size, 6, none⟩ = false := hB.frozen 6
                      have f7 : (wr.alloc (.cells #[.pointer none, .slice none 0 0, .pointer none, .int .i32 0, .int .i32 0, .int .i64 0, .string ⟨#[]⟩, .string ⟨#[]⟩, .int .i32 0, .bool false, .slice none 0 0, .string ⟨#[]⟩, .int .u64 0, .slice none 0 0, .slice none 0 0, .pointer none, .pointer none] 57)).frozen? ⟨wr.heap.size, 7, none⟩ = false := hB.frozen 7
                      have tA : Turn (fun _ => False) wr (wr.alloc (.cells #[.pointer none, .slice none 0 0, .pointer none, .int .i32 0, .int .i32 0, .int .i64 0, .string ⟨#[]⟩, .string ⟨#[]⟩, .int .i32 0, .bool false, .slice none 0 0, .string ⟨#[]⟩, .int .u64 0, .slice none 0 0, .slice none 0 0, .pointer none, .pointer none] 57)) := (Turn.refl _ _).alloc _
                      have HN : Hid (∀ k : K, RecIs (((wr.alloc (.cells #[.pointer none, .slice none 0 0, .pointer none, .int .i32 0, .int .i32 0, .int .i64 0, .string ⟨#[]⟩, .string ⟨#[]⟩, .int .i32 0, .bool false, .slice none 0 0, .string ⟨#[]⟩, .int .u64 0, .slice none 0 0, .slice none 0 0, .pointer none, .pointer none] 57)).setCell ⟨wr.heap.size, 6, none⟩ (.string k.1)).setCell ⟨wr.heap.size, 7, none⟩ (.string k.2)) wr.heap.size k) := rec_put hB
                      have lA : wr.heap.size < (wr.alloc (.cells #[.pointer none, .slice none 0 0, .pointer none, .int .i32 0, .int .i32 0, .int .i64 0, .string ⟨#[]⟩, .string ⟨#[]⟩, .int .i32 0, .bool false, .slice none 0 0, .string ⟨#[]⟩, .int .u64 0, .slice none 0 0, .slice none 0 0, .pointer none, .pointer none] 57)).heap.size := hB.lt
                      clear hB
                      generalize wr.alloc (.cells #[.pointer none, .slice none 0 0, .pointer none, .int .i32 0, .int .i32 0, .int .i64 0, .string ⟨#[]⟩, .string ⟨#[]⟩, .int .i32 0, .bool false, .slice none 0 0, .string ⟨#[]⟩, .int .u64 0, .slice none 0 0, .slice none 0 0, .pointer none, .pointer none] 57) = wf2 at y6 y7 f6 f7 tA HN lA ⊢
                      have HSr := HB.out.srt.row
                      have x0 : wf2.cell? ⟨w.heap.size, (P + d) * 2, none⟩ = some (.string (ks (P + d)).1) := tA.cell (HTn.out.cell ((HSr.cell (by omega)).trans (by rw [kF_even])) (fun x => x)) (fun x => x)
                      have x1 : wf2.cell? ⟨w.heap.size, (P + d) * 2 + 1, none⟩ = some (.string (ks (P + d)).2) := tA.cell (HTn.out.cell ((HSr.cell (by omega)).trans (by rw [kF_odd])) (fun x => x)) (fun x => x)
                      have i0 : (0 : Int) ≤ ((P + d : Nat) : Int) := by omega
                      have i1 : ((P + d : Nat) : Int) < (n : Int) := by omega
                      obtain ⟨kd, hkd⟩ : ∃ kd, kd = ks (P + d) := ⟨_, rfl⟩
                      rw [← hkd] at x0 x1
                      have HKD : Hid (kd = ks (P + d)) := hkd
                      clear hkd HSr
                      obtain ⟨kd1, kd2⟩ := kd
                      go_upto_region 36 with fail
                      have tB : Turn (fun _ => False) wr ((wf2.setCell ⟨wr.heap.size, 6, none⟩ (.string kd1)).setCell ⟨wr.heap.size, 7, none⟩ (.string kd2)) := (tA.setCell (p := ⟨wr.heap.size, 6, none⟩) (.inl (Nat.le_refl _)) _).setCell (p := ⟨wr.heap.size, 7, none⟩) (.inl (Nat.le_refl _)) _
                      have hN : RecIs ((wf2.setCell ⟨wr.heap.size, 6, none⟩ (.string kd1)).setCell ⟨wr.heap.size, 7, none⟩ (.string kd2)) wr.heap.size (kd1, kd2) := HN.out (kd1, kd2)
                      generalize (wf2.setCell ⟨wr.heap.size, 6, none⟩ (.string kd1)).setCell ⟨wr.heap.size, 7, none⟩ (.string kd2) = w3 at tB hN ⊢
                      have HN3 : Hid (RecIs w3 wr.heap.size (kd1, kd2)) := hN
                      have HTB : Hid (Turn (fun _ => False) wr w3) := tB
                      have H3 : Hid (SlI (w3.alloc (.cells #[.pointer (some ⟨wr.heap.size, 0, none⟩)] 36)) 36 gR d cR (fun j => .pointer (some ⟨rn j, 0, none⟩))) := (HSl.out.turn tB (fun x => x)).turn ((Turn.refl (fun _ => False) w3).alloc _) (fun x => x)
                      have lg3 := HSl.out.lt
                      clear y6 y7 f6 f7 tA HN lA x0 x1 tB hN
                      obtain ⟨k0, k1, k2, k3, k4⟩ := info_parts info36
                      have b1 : d + 1 ≤ maxLen := by unfold maxLen; omega
                      go_wp2_with (at_builtin; refine wpList_append_sl _ rfl (.tmp 159) (.tmp 161) 35 rfl 36 k0 (.pointer none) 8 Ybaz.underlying35 k1 k2 k3 k4 rfl gR d cR (fun j => .pointer (some ⟨rn j, 0, none⟩)) rfl H3.out w3.heap.size 0 1 1 (fun _ => .pointer (some ⟨wr.heap.size, 0, none⟩)) rfl (new_one _ _ _) (fun _ _ => rfl) b1 (by omega) (w3.heap.size + 1) (by simp) ?_; intro gR' cR' w4 s4 t4 l4)
                      go_roundg (L - (d + 1))
                      case measure => omega
                      case rel =>
                        have t5 : Turn (fun k => k = gR) w3 w4 := ((Turn.refl (fun k => k = gR) w3).alloc _).trans t4 (fun _ _ e => e)
                        have sz3 := HTB.out.size
                        refine ⟨d + 1, gR', cR', fun j => if j = d then wr.heap.size else rn j, by omega, rfl, by go_num, rfl, by have := HTn.out.size; omega, s4.congr (fun j hj => ?_), fun j hj => ?_, (HTn.out.trans HTB.out (fun _ _ x => x)).trans t5 (fun i hi e => by omega)⟩
                        · by_cases e : j = d
                          · subst e; simp
                          · rw [if_pos (by omega)]; simp [e]
                        · by_cases e : j = d
                          · subst e
                            have h1 := HN3.out.turn t5 (by omega)
                            rw [HKD.out] at h1
                            simpa using h1
                          · have h1 := ((HRc.out j (by omega)).turn HTB.out (fun x => x))
                            have h2 : rn j ≠ gR := fun e2 => by
                              obtain ⟨c, hc, _⟩ := HRc.out j (by omega)
                              obtain ⟨_, _, c2, hc2, _⟩ := HSl.out
                              rw [e2, hc2] at hc
                              cases hc
                            have h3 := h1.turn t5 h2
                            simp only [if_neg e]
                            exact h3
                    · obtain rfl : d = L := by omega
                      have hdd : decide (((P + d : Nat) : Int) < ((P + d : Nat) : Int)) = false := by simp
                      go_wp2
                      go_meet
                      case rel => exact ⟨gR, cR, rn, rfl, lR, HSl, HRc, HTn⟩
                case rest =>
                  obtain ⟨gR, cR, rn, rfl, lR, HSl, HRc, HTn⟩ := hcut
                  obtain ⟨wg, rfl⟩ : ∃ wg : World, wg = wc := ⟨_, rfl⟩
                  have hbl : P + L - 1 < n := by omega
                  have HSr : Hid (wg.rowIs w.heap.size 28 (n * 2) (kF ks)) := HTn.out.row HB.out.srt.row (fun x => x)
                  have x0 : wg.cell? ⟨w.heap.size, (P + L - 1) * 2, none⟩ = some (.string (ks (P + L - 1)).1) := (HSr.out.cell (by omega)).trans (by rw [kF_even])
                  have x1 : wg.cell? ⟨w.heap.size, (P + L - 1) * 2 + 1, none⟩ = some (.string (ks (P + L - 1)).2) := (HSr.out.cell (by omega)).trans (by rw [kF_odd])
                  have i0 : (0 : Int) ≤ ((P + L : Nat) : Int) - 1 := by omega
                  have i1 : ((P + L : Nat) : Int) - 1 < (n : Int) := by omega
                  have i2 : (((P + L : Nat) : Int) - 1).toNat = P + L - 1 := by omega
                  have i3 : ((P : Int) + (L : Int) - 1).toNat = P + L - 1 := by omega
                  have i4 : (0 : Int) ≤ (P : Int) + (L : Int) - 1 := by omega
                  have i5 : (P : Int) + (L : Int) - 1 < (n : Int) := by omega
                  obtain ⟨kl, hkl⟩ : ∃ kl, kl = ks (P + L - 1) := ⟨_, rfl⟩
                  rw [← hkl] at x0 x1
                  have HKL : Hid (kl = ks (P + L - 1)) := hkl
                  clear hkl
                  obtain ⟨kl1, kl2⟩ := kl
                  have H6 : Hid (((wg.alloc (.cells #[.slice (some ⟨gR, 0, none⟩) L cR, .int .u64 1, .string kl1, .string kl2] 60)).alloc (.cells #[.pointer (some ⟨wg.heap.size, 0, none⟩)] 58)).ownsRow w.heap.size 58 1 u21 m ((List.range m).map fun c => .pointer (some ⟨cb c, 0, none⟩))) := ((ownsRow_turn HB.out.own HTn.out).alloc _).alloc _
                  have lw : w.heap.size ≤ wg.heap.size := Nat.le_trans HB.out.srt.turn.size HTn.out.size
                  obtain ⟨k0, k1, k2, k3, k4⟩ := info_parts info58
                  have hm65 : m ≤ 65536 := by omega
                  go_wp2_with (at_builtin; refine wpList_append_own_at _ rfl (.tmp 163) (.tmp 172) 34 rfl w.heap.size 58 k0 (.pointer none) 1 8 Ybaz.underlying34 k1 k2 k3 k4 rfl (by omega) u21 m _ rfl H6.out ⟨wg.heap.size + 1, 0, none⟩ 1 1 [.pointer (some ⟨wg.heap.size, 0, none⟩)] rfl rfl ?q1 ?q2 ?q3 ?q4 ?q5 ?_; (case q1 => intro j u' hj; match j, hj with | 0, hj => simp at hj; subst hj; simp [Addr.add]); (case q2 => intro u' hu'; simp at hu'; subst hu'; rfl); (case q3 => unfold maxLen; omega); (case q4 => omega); (case q5 => simp; omega); intro v7 w7 own7 gr7 _ _)
                  go_roundg (n - (P + L))
                  case measure => omega
                  case rel => exact ⟨m + 1, _, _, _, _, _, by simp, by first | (simp; done) | go_num, by first | (simp; done) | go_num, bld_step HB.out HP.out l1 l3 HKL.out HTn.out HSl.out HRc.out H6.out own7 gr7⟩
          · obtain ebd : bd m = n := by omega
            have hdl : decide ((bd m : Int) < (n : Int)) = false := by simp; omega
            go_wp2
            go_meet
            case rel => exact ⟨m, cb, rb, rc, bd, rec, ebd, HB⟩
      case rest =>
        obtain ⟨m, cb, rb, rc, bd, rec, hbn, HB⟩ := hcut
        obtain ⟨wf, rfl⟩ : ∃ wf : World, wf = wc := ⟨_, rfl⟩
        have hm0 : 0 < m := by
          have h0 := HB.out.b0
          rcases Nat.eq_zero_or_pos m with e | e
          · rw [e, h0] at hbn; omega
          · exact e
        have hmn : m ≤ 65536 := by have := HB.out.mle; omega
        obtain ⟨gC, cC, rfl, lC, hch⟩ := HB.out.chunks hm0
        have HCh : Hid (Chunks wf gC cC m cb rb rc bd rec ks) := hch
        have HBN : Hid (bd m = n) := hbn
        have HSr : Hid (Srt w wf w.heap.size n kz ks) := HB.out.srt
        have HQ2 : Hid (wf.rowIs wb.heap.size 28 2 (qF q)) := HB.out.qr
        clear hch hbn HC1 HZ HQ HS2
        go_upto_region 41 with fail
        have HA : Hid (All w (wf.alloc (.cells #[.slice (some ⟨gC, 0, none⟩) m cC, .int .u64 1, .string ⟨#[]⟩, .string ⟨#[]⟩, .int .i64 0, .int .i64 0, .int .u64 0, .bool false, .string ⟨#[]⟩, .string ⟨#[]⟩, .int .i64 0, .int .i64 0, .int .u64 0, .bool false, .int .u64 0] 64)) w.heap.size n kz ks wb.heap.size q gC cC m cb rb rc bd rec wf.heap.size) := by
          have t := (Turn.refl (fun _ => False) wf).alloc (.cells #[.slice (some ⟨gC, 0, none⟩) m cC, .int .u64 1, .string ⟨#[]⟩, .string ⟨#[]⟩, .int .i64 0, .int .i64 0, .int .u64 0, .bool false, .string ⟨#[]⟩, .string ⟨#[]⟩, .int .i64 0, .int .i64 0, .int .u64 0, .bool false, .int .u64 0] 64)
          have hB := HB.out
          exact ⟨hB.srt.move t (fun x => x) (fun _ x => x.elim), t.row hB.qr (fun x => x), HCh.out.sl.turn t (fun x => x), fun c hc => t.row (hB.ch c hc) (fun x => x), fun c hc => (hB.rs c hc).turn t (fun x => x), fun t' ht => (hB.kk t' ht).turn t (fun x => x), hB.b0, hB.bs, ob_row wf gC m cC⟩
        have lo1 : wf.heap.size < (wf.alloc (.cells #[.slice (some ⟨gC, 0, none⟩) m cC, .int .u64 1, .string ⟨#[]⟩, .string ⟨#[]⟩, .int .i64 0, .int .i64 0, .int .u64 0, .bool false, .string ⟨#[]⟩, .string ⟨#[]⟩, .int .i64 0, .int .i64 0, .int .u64 0, .bool false, .int .u64 0] 64)).heap.size := by simp
        have lq1 : wb.heap.size < wf.heap.size := HQ2.out.lt
        have ls1 : w.heap.size < wf.heap.size := HSr.out.row.lt
        clear HB HCh HSr HQ2
        generalize wf.alloc (.cells #[.slice (some ⟨gC, 0, none⟩) m cC, .int .u64 1, .string ⟨#[]⟩, .string ⟨#[]⟩, .int .i64 0, .int .i64 0, .int .u64 0, .bool false, .string ⟨#[]⟩, .string ⟨#[]⟩, .int .i64 0, .int .i64 0, .int .u64 0, .bool false, .int .u64 0] 64) = wh at HA lo1 ⊢
        have hmkA := run_make_row' (P := Ybaz.prog) 66 35 (.slice none 0 0) 24 Ybaz.underlying66 info35 rfl .i64 .i64 m (by omega) (by omega)
        have hmkL := run_make28 m (by omega)
        go_upto_block 6 with (go_at_call 7; refine (clone58 gC m cC (fun c => .pointer (some ⟨cb c, 0, none⟩)) _ HA.out.sl (fun _ _ => rfl) (by omega)).mono ?_; rintro e wi ⟨gD, cD, rfl, sD, tD, lD⟩)
        have tM : Turn (fun _ => False) wi ((wi.alloc (.cells (madeCells #[.slice none 0 0] m) 35)).alloc (.cells (madeCells #[.string ⟨#[]⟩, .string ⟨#[]⟩] (m * 2)) 28)) := ((Turn.refl _ _).alloc _).alloc _
        have HSv : Hid (Saved ((wi.alloc (.cells (madeCells #[.slice none 0 0] m) 35)).alloc (.cells (madeCells #[.string ⟨#[]⟩, .string ⟨#[]⟩] (m * 2)) 28)) m cb bd rec ks gD cD wi.heap.size (wi.heap.size + 1) (fun _ => 0) (fun _ => 0) 0) :=
          ⟨sD.turn tM (fun x => x), (World.rowIs_made wi (.slice none 0 0) m 35).alloc _, fun c hc => absurd hc (by omega), by have := row_made28 (wi.alloc (.cells (madeCells #[.slice none 0 0] m) 35)) m; rw [show (wi.alloc (.cells (madeCells #[.slice none 0 0] m) 35)).heap.size = wi.heap.size + 1 by simp] at this; exact this⟩
        have HA2 : Hid (All w ((wi.alloc (.cells (madeCells #[.slice none 0 0] m) 35)).alloc (.cells (madeCells #[.string ⟨#[]⟩, .string ⟨#[]⟩] (m * 2)) 28)) w.heap.size n kz ks wb.heap.size q gC cC m cb rb rc bd rec wf.heap.size) := (HA.out.turn tD).turn tM
        have lwi : wh.heap.size ≤ wi.heap.size := tD.size
        go_cut [33, 34] from 190 to 210 (fun _ _ wx => ∃ sr sc : Nat → Nat, Hid (Saved wx m cb bd rec ks gD cD wi.heap.size (wi.heap.size + 1) sr sc m) ∧ Hid (All w wx w.heap.size n kz ks wb.heap.size q gC cC m cb rb rc bd rec wf.heap.size))
        case first =>
          generalize (wi.alloc (.cells (madeCells #[.slice none 0 0] m) 35)).alloc (.cells (madeCells #[.string ⟨#[]⟩, .string ⟨#[]⟩] (m * 2)) 28) = wj at HSv HA2 ⊢
          clear hmkA hmkL sD tD lD HA tM
          go_wp2_with fail
          go_loopg [190] m (fun gk i wr => ∃ (p : Nat) (sr sc : Nat → Nat), p ≤ m ∧ gk = m - p ∧ i = .int .i64 p ∧ Hid (Saved wr m cb bd rec ks gD cD wi.heap.size (wi.heap.size + 1) sr sc p) ∧ Hid (All w wr w.heap.size n kz ks wb.heap.size q gC cC m cb rb rc bd rec wf.heap.size))
          case atStart => exact ⟨0, _, _, by omega, rfl, rfl, HSv, HA2⟩
          case round =>
            obtain ⟨p, sr, sc, hpm, hgk, rfl, HV, HW⟩ := hrel
            by_cases hlt : p < m
            · have x1 : wr.cell? ⟨gC, p, none⟩ = some (.pointer (some ⟨cb p, 0, none⟩)) := HW.out.sl.cell hlt
              have x2 : wr.cell? ⟨cb p, 0, none⟩ = some (.slice (some ⟨rb p, 0, none⟩) (bd (p + 1) - bd p) (rc p)) := (HW.out.ch p hlt).cell (by omega)
              have i0 : (0 : Int) ≤ (p : Int) := by omega
              have i1 : (p : Int) < (m : Int) := by omega
              have hlen : bd (p + 1) - bd p ≤ 1000000 := by have := bd_mono HW.out.bs m (Nat.le_refl _) (p + 1) (by omega); have := HBN.out; omega
              have HLen : Hid (bd (p + 1) - bd p ≤ 1000000) := hlen
              have HRs : Hid (SlI wr 36 (rb p) (bd (p + 1) - bd p) (rc p) (fun j => .pointer (some ⟨rec (bd p + j), 0, none⟩))) := HW.out.rs p hlt
              go_upto_region 47 with fail
              go_cut [] from 195 to 202 (fun wx => ∃ (w2 : World) (gE cE : Nat), Hid (Turn (fun _ => False) wr w2) ∧ Hid (SlI w2 36 gE (bd (p + 1) - bd p) cE (fun j => .pointer (some ⟨rec (bd p + j), 0, none⟩))) ∧ wx = w2.setCell ⟨wi.heap.size, p, none⟩ (.slice (some ⟨gE, 0, none⟩) (bd (p + 1) - bd p) cE))
              case first =>
                obtain ⟨len, hle⟩ : ∃ len, bd (p + 1) - bd p = len := ⟨_, rfl⟩
                rw [hle] at x2 hlen HRs
                have HE : Hid (bd (p + 1) - bd p = len) := hle
                clear hle
                go_wp2_with (go_at_call 8; refine (clone36 (rb p) len (rc p) _ _ HRs.out (fun _ _ => rfl) hlen).mono ?_; rintro e w2 ⟨gE, cE, rfl, sE, tE, lE⟩; have y1 : w2.cell? ⟨wi.heap.size, p, none⟩ = some (.slice none 0 0) := (tE.cell ((HV.out.sa.cell hlt).trans (by simp)) (fun x => x)); have y2 : w2.frozen? ⟨wi.heap.size, p, none⟩ = false := (tE.row HV.out.sa (fun x => x)).frozen p; have y3 : wi.heap.size < w2.heap.size := (tE.row HV.out.sa (fun x => x)).lt)
                go_meet
                case rel => exact ⟨w2, gE, cE, tE, (by rw [HE.out]; exact sE), by rw [HE.out]⟩
              case rest =>
                obtain ⟨w2, gE, cE, HTE, HSE, hwc⟩ := hcut
                rw [hwc]
                clear hwc
                have HW2 : Hid (All w w2 w.heap.size n kz ks wb.heap.size q gC cC m cb rb rc bd rec wf.heap.size) := HW.out.turn HTE.out
                have HV2 : Hid (Saved w2 m cb bd rec ks gD cD wi.heap.size (wi.heap.size + 1) sr sc p) := HV.out.turn HTE.out
                have tS : Turn (fun k => k = wi.heap.size) w2 (w2.setCell ⟨wi.heap.size, p, none⟩ (.slice (some ⟨gE, 0, none⟩) (bd (p + 1) - bd p) cE)) := (Turn.refl (fun k => k = wi.heap.size) w2).setCell (p := ⟨wi.heap.size, p, none⟩) (.inr rfl) _
                have HW3 : Hid (All w (w2.setCell ⟨wi.heap.size, p, none⟩ (.slice (some ⟨gE, 0, none⟩) (bd (p + 1) - bd p) cE)) w.heap.size n kz ks wb.heap.size q gC cC m cb rb rc bd rec wf.heap.size) := HW2.out.put HV2.out.sa (.inl rfl) (by omega) (by omega) (by omega) tS
                have rL3 : Hid ((w2.setCell ⟨wi.heap.size, p, none⟩ (.slice (some ⟨gE, 0, none⟩) (bd (p + 1) - bd p) cE)).rowIs (wi.heap.size + 1) 28 (m * 2) (kF (upTo p fun c => ks (bd (c + 1) - 1)))) := tS.row HV2.out.sl (by omega)
                have HFin : Hid (∀ k : K, k = ks (bd (p + 1) - 1) → Saved (((w2.setCell ⟨wi.heap.size, p, none⟩ (.slice (some ⟨gE, 0, none⟩) (bd (p + 1) - bd p) cE)).setCell ⟨wi.heap.size + 1, p * 2, none⟩ (.string k.1)).setCell ⟨wi.heap.size + 1, p * 2 + 1, none⟩ (.string k.2)) m cb bd rec ks gD cD wi.heap.size (wi.heap.size + 1) (fun c => if c = p then gE else sr c) (fun c => if c = p then cE else sc c) (p + 1)) := fun k hk => saved_step HV.out HTE.out HSE.out k hk
                generalize w2.setCell ⟨wi.heap.size, p, none⟩ (.slice (some ⟨gE, 0, none⟩) (bd (p + 1) - bd p) cE) = w3 at HW3 rL3 HFin ⊢
                obtain ⟨kl, hkl⟩ : ∃ kl, kl = ks (bd (p + 1) - 1) := ⟨_, rfl⟩
                have z0 : w3.cell? ⟨cb p, 2, none⟩ = some (.string kl.1) := ((HW3.out.ch p hlt).cell (by omega)).trans (by rw [hkl]; rfl)
                have z1 : w3.cell? ⟨cb p, 3, none⟩ = some (.string kl.2) := ((HW3.out.ch p hlt).cell (by omega)).trans (by rw [hkl]; rfl)
                have HKL : Hid (kl = ks (bd (p + 1) - 1)) := hkl
                have y0 : w3.cell? ⟨wi.heap.size + 1, p * 2, none⟩ = some (kF (upTo p fun c => ks (bd (c + 1) - 1)) (p * 2)) := rL3.out.cell (by omega)
                have y1 : w3.cell? ⟨wi.heap.size + 1, p * 2 + 1, none⟩ = some (kF (upTo p fun c => ks (bd (c + 1) - 1)) (p * 2 + 1)) := rL3.out.cell (by omega)
                have f0 : w3.frozen? ⟨wi.heap.size + 1, p * 2, none⟩ = false := rL3.out.frozen _
                have f1 : w3.frozen? ⟨wi.heap.size + 1, p * 2 + 1, none⟩ = false := rL3.out.frozen _
                have lL := rL3.out.lt
                generalize kF (upTo p fun c => ks (bd (c + 1) - 1)) (p * 2) = o0 at y0
                generalize kF (upTo p fun c => ks (bd (c + 1) - 1)) (p * 2 + 1) = o1 at y1
                clear hkl x1 x2 tS HW HV HW2 HV2 HRs
                obtain ⟨kl1, kl2⟩ := kl
                go_wp2
                go_roundg (m - (p + 1))
                case measure => omega
                case rel => exact ⟨p + 1, _, _, by omega, rfl, by go_num, HFin.out (kl1, kl2) HKL.out, HW3.out.put rL3.out (.inr rfl) (by omega) (by omega) (by omega) (((Turn.refl (fun k => k = wi.heap.size + 1) w3).setCell (p := ⟨wi.heap.size + 1, p * 2, none⟩) (.inr rfl) _).setCell (p := ⟨wi.heap.size + 1, p * 2 + 1, none⟩) (.inr rfl) _)⟩
            · obtain rfl : p = m := by omega
              go_wp2
              go_meet
              case rel => exact ⟨sr, sc, HV, HW⟩
        case rest =>
          obtain ⟨sr, sc, HV, HW⟩ := hcut
          obtain ⟨wk, rfl⟩ : ∃ wk : World, wk = wc := ⟨_, rfl⟩
          clear hmkA hmkL sD tD lD HA tM HSv HA2
          have hbm : bd m ≤ 100000 := by have := HBN.out; omega
          have ho : wk.cell? ⟨wf.heap.size, 0, none⟩ = some (.slice (some ⟨gC, 0, none⟩) m cC) := HW.out.ob.cell (by omega)
          have hbef := before_any wf.heap.size gC cC m cb rb rc bd rec ks q wk HW.out.chunks ho (by omega) hbm (by rw [HBN.out]; exact HW.out.srt.srt)
          obtain ⟨q1, q2⟩ := q
          have hkv : Hid (kv (q1, q2) = .agg #[.string q1, .string q2]) := rfl
          rw [hkv.out] at hbef
          have z0 : wk.cell? ⟨wb.heap.size, 0, none⟩ = some (.string q1) := HW.out.qr.cell (by omega)
          have z1 : wk.cell? ⟨wb.heap.size, 1, none⟩ = some (.string q2) := HW.out.qr.cell (by omega)
          go_upto_block 8 with (go_at_call 4; refine hbef.mono ?_; rintro e wl ⟨N, rfl, tN, hN, hlo, hhi⟩)
          have HW2 : Hid (All w wl w.heap.size n kz ks wb.heap.size (q1, q2) gC cC m cb rb rc bd rec wf.heap.size) := HW.out.turn tN
          have HV2 : Hid (Saved wl m cb bd rec ks gD cD wi.heap.size (wi.heap.size + 1) sr sc m) := HV.out.turn tN
          have HLo : Hid (∀ t, t < N → klt (ks t) (q1, q2) = true) := hlo
          have HHi : Hid (∀ t, N ≤ t → t < n → klt (ks t) (q1, q2) = false) := fun t h1 h2 => hhi t h1 (by rw [HBN.out]; exact h2)
          have hNn : N ≤ n := by have := HBN.out; omega
          clear hlo hhi hN tN hbef HW HV ho z0 z1 hbm
          go_cut [36, 38] from 216 to 225 (fun s36 _ wx => s36 = .int .i64 N ∧ Hid (Turn (fun _ => False) wl wx))
          case first =>
            go_wp2_with fail
            go_loopg [36, 216] n (fun gk s36 i wr => ∃ t : Nat, t ≤ n ∧ gk = n - t ∧ s36 = .int .i64 ((min t N : Nat) : Int) ∧ i = .int .i64 t ∧ Hid (Turn (fun _ => False) wl wr))
            case atStart => exact ⟨0, by omega, rfl, by simp, rfl, Turn.refl _ _⟩
            case round =>
              obtain ⟨t, htn, hgk, rfl, rfl, HTr⟩ := hrel
              by_cases hlt : t < n
              · have HWr : Hid (All w wr w.heap.size n kz ks wb.heap.size (q1, q2) gC cC m cb rb rc bd rec wf.heap.size) := HW2.out.turn HTr.out
                have x0 : wr.cell? ⟨w.heap.size, t * 2, none⟩ = some (.string (ks t).1) := (HWr.out.srt.row.cell (by omega)).trans (by rw [kF_even])
                have x1 : wr.cell? ⟨w.heap.size, t * 2 + 1, none⟩ = some (.string (ks t).2) := (HWr.out.srt.row.cell (by omega)).trans (by rw [kF_odd])
                have i0 : (0 : Int) ≤ (t : Int) := by omega
                have i1 : (t : Int) < (n : Int) := by omega
                obtain ⟨kt, hkt⟩ : ∃ kt, kt = ks t := ⟨_, rfl⟩
                rw [← hkt] at x0 x1
                have hl := fun W => less_any kt (q1, q2) W
                have hin : klt kt (q1, q2) = decide (t < N) := by
                  rw [hkt]
                  by_cases e : t < N
                  · rw [HLo.out t e, decide_eq_true e]
                  · rw [HHi.out t (by omega) hlt, decide_eq_false e]
                rw [hin] at hl
                clear hin hkt
                obtain ⟨kt1, kt2⟩ := kt
                have hkv2 : Hid (kv (kt1, kt2) = .agg #[.string kt1, .string kt2]) := rfl
                rw [hkv.out, hkv2.out] at hl
                go_upto_region 55 with fail
                have tA : Turn (fun _ => False) wr (wr.alloc (.cells #[.string kt1, .string kt2] 28)) := (Turn.refl _ _).alloc _
                have y0 : (wr.alloc (.cells #[.string kt1, .string kt2] 28)).cell? ⟨wr.heap.size, 0, none⟩ = some (.string kt1) := by rw [cell_of_row _ _ _ _ _ _ (heap_alloc_new wr _)]; rfl
                have y1 : (wr.alloc (.cells #[.string kt1, .string kt2] 28)).cell? ⟨wr.heap.size, 1, none⟩ = some (.string kt2) := by rw [cell_of_row _ _ _ _ _ _ (heap_alloc_new wr _)]; rfl
                have z0 := tA.cell (show wr.cell? ⟨wb.heap.size, 0, none⟩ = some (.string q1) from HWr.out.qr.cell (by omega)) (fun x => x)
                have z1 := tA.cell (show wr.cell? ⟨wb.heap.size, 1, none⟩ = some (.string q2) from HWr.out.qr.cell (by omega)) (fun x => x)
                generalize wr.alloc (.cells #[.string kt1, .string kt2] 28) = wp at tA y0 y1 z0 z1 ⊢
                have HTp : Hid (Turn (fun _ => False) wl wp) := HTr.out.trans tA (fun _ _ x => x)
                clear x0 x1 tA HWr
                by_cases e : t < N
                · have hde : decide (t < N) = true := decide_eq_true e
                  rw [hde] at hl
                  go_wp2_with (go_at_call 9; refine (hl _).mono ?_; rintro e w9 ⟨rfl, rfl⟩)
                  go_roundg (n - (t + 1))
                  case measure => omega
                  case rel => exact ⟨t + 1, by omega, rfl, by rw [show min (t + 1) N = min t N + 1 by omega]; go_num, by go_num, (HTp.out.alloc _).alloc _⟩
                · have hde : decide (t < N) = false := decide_eq_false e
                  rw [hde] at hl
                  go_wp2_with (go_at_call 9; refine (hl _).mono ?_; rintro e w9 ⟨rfl, rfl⟩)
                  go_roundg (n - (t + 1))
                  case measure => omega
                  case rel => exact ⟨t + 1, by omega, rfl, by rw [show min (t + 1) N = min t N by omega], by go_num, (HTp.out.alloc _).alloc _⟩
              · obtain rfl : t = n := by omega
                go_wp2
                go_meet
                case rel => exact ⟨by rw [show min t N = N by omega], HTr⟩
          case rest =>
            obtain ⟨rfl, HTx⟩ := hcut
            obtain ⟨wm, rfl⟩ : ∃ wm : World, wm = wc := ⟨_, rfl⟩
            have HW3 : Hid (All w wm w.heap.size n kz ks wb.heap.size (q1, q2) gC cC m cb rb rc bd rec wf.heap.size) := HW2.out.turn HTx.out
            have HV3 : Hid (Saved wm m cb bd rec ks gD cD wi.heap.size (wi.heap.size + 1) sr sc m) := HV2.out.turn HTx.out
            clear HW2 HV2 HTx HLo HHi
            have o1 : wm.cell? ⟨wf.heap.size, 1, none⟩ = some (.int .u64 1) := HW3.out.ob.cell (by omega)
            have o2 : wm.cell? ⟨wf.heap.size, 2, none⟩ = some (.string ⟨#[]⟩) := HW3.out.ob.cell (by omega)
            have o3 : wm.cell? ⟨wf.heap.size, 3, none⟩ = some (.string ⟨#[]⟩) := HW3.out.ob.cell (by omega)
            have o4 : wm.cell? ⟨wf.heap.size, 4, none⟩ = some (.int .i64 0) := HW3.out.ob.cell (by omega)
            have o5 : wm.cell? ⟨wf.heap.size, 5, none⟩ = some (.int .i64 0) := HW3.out.ob.cell (by omega)
            have o6 : wm.cell? ⟨wf.heap.size, 6, none⟩ = some (.int .u64 0) := HW3.out.ob.cell (by omega)
            have o7 : wm.cell? ⟨wf.heap.size, 7, none⟩ = some (.bool false) := HW3.out.ob.cell (by omega)
            have o8 : wm.cell? ⟨wf.heap.size, 8, none⟩ = some (.string ⟨#[]⟩) := HW3.out.ob.cell (by omega)
            have o9 : wm.cell? ⟨wf.heap.size, 9, none⟩ = some (.string ⟨#[]⟩) := HW3.out.ob.cell (by omega)
            have o10 : wm.cell? ⟨wf.heap.size, 10, none⟩ = some (.int .i64 0) := HW3.out.ob.cell (by omega)
            have o11 : wm.cell? ⟨wf.heap.size, 11, none⟩ = some (.int .i64 0) := HW3.out.ob.cell (by omega)
            have o12 : wm.cell? ⟨wf.heap.size, 12, none⟩ = some (.int .u64 0) := HW3.out.ob.cell (by omega)
            have o13 : wm.cell? ⟨wf.heap.size, 13, none⟩ = some (.bool false) := HW3.out.ob.cell (by omega)
            have o14 : wm.cell? ⟨wf.heap.size, 14, none⟩ = some (.int .u64 0) := HW3.out.ob.cell (by omega)
            have o0 : wm.cell? ⟨wf.heap.size, 0, none⟩ = some (.slice (some ⟨gC, 0, none⟩) m cC) := HW3.out.ob.cell (by omega)
            go_upto_region 62 with fail
            clear o1 o2 o3 o4 o5 o6 o7 o8 o9 o10 o11 o12 o13 o14
            have hq58 := fun (a : Addr) (wx : World) => run_neq_ptr_same (P := Ybaz.prog) wx 58 60 a Ybaz.underlying58 (by kernel_rfl)
            have hq36 := fun (a : Addr) (wx : World) => run_neq_ptr_same (P := Ybaz.prog) wx 36 57 a Ybaz.underlying36 (by kernel_rfl)
            go_upto_block 10 with fail
            clear o0
            go_wp2_with fail
            go_loopg [39, 270] m (fun gk s39 i wr => ∃ c : Nat, c ≤ m ∧ gk = m - c ∧ s39 = .int .i64 (bd c) ∧ i = .int .i64 c ∧ Hid (Turn (fun _ => False) wm wr))
            case atStart => exact ⟨0, by omega, rfl, by rw [HW3.out.b0]; rfl, rfl, Turn.refl _ _⟩
            case round =>
              obtain ⟨c, hcm, hgk, rfl, rfl, HTr⟩ := hrel
              by_cases hlt : c < m
              · have HWr : Hid (All w wr w.heap.size n kz ks wb.heap.size (q1, q2) gC cC m cb rb rc bd rec wf.heap.size) := HW3.out.turn HTr.out
                have HVr : Hid (Saved wr m cb bd rec ks gD cD wi.heap.size (wi.heap.size + 1) sr sc m) := HV3.out.turn HTr.out
                have x1 : wr.cell? ⟨gC, c, none⟩ = some (.pointer (some ⟨cb c, 0, none⟩)) := HWr.out.sl.cell hlt
                have x2 : wr.cell? ⟨gD, c, none⟩ = some (.pointer (some ⟨cb c, 0, none⟩)) := HVr.out.sd.cell hlt
                obtain ⟨kl, hkl⟩ : ∃ kl, kl = ks (bd (c + 1) - 1) := ⟨_, rfl⟩
                have y1 : wr.cell? ⟨cb c, 1, none⟩ = some (.int .u64 1) := (HWr.out.ch c hlt).cell (by omega)
                have y2 : wr.cell? ⟨cb c, 2, none⟩ = some (.string kl.1) := ((HWr.out.ch c hlt).cell (by omega)).trans (by rw [hkl]; rfl)
                have y3 : wr.cell? ⟨cb c, 3, none⟩ = some (.string kl.2) := ((HWr.out.ch c hlt).cell (by omega)).trans (by rw [hkl]; rfl)
                have l0 : wr.cell? ⟨wi.heap.size + 1, c * 2, none⟩ = some (.string kl.1) := (HVr.out.sl.cell (by omega)).trans (by rw [kF_even, upTo, if_pos hlt, hkl])
                have l1 : wr.cell? ⟨wi.heap.size + 1, c * 2 + 1, none⟩ = some (.string kl.2) := (HVr.out.sl.cell (by omega)).trans (by rw [kF_odd, upTo, if_pos hlt, hkl])
                have i0 : (0 : Int) ≤ (c : Int) := by omega
                have i1 : (c : Int) < (m : Int) := by omega
                clear hkl
                obtain ⟨kl1, kl2⟩ := kl
                go_upto_region 68 with fail
                go_quiet (fail)
                have HTs : Hid (Turn (fun _ => False) wm (wr.drewN nq)) := HTr.out.drewN nq
                generalize wr.drewN nq = ws at HTs ⊢
                clear x1 x2 y1 y2 y3 l0 l1 HWr HVr HTr
                obtain ⟨len, hlen⟩ : ∃ len, bd (c + 1) - bd c = len := ⟨_, rfl⟩
                have hb1 := HW3.out.bs c hlt
                have hb2 := bd_mono HW3.out.bs m (Nat.le_refl _) (c + 1) (by omega)
                have hb3 := HBN.out
                have HNx : Hid (bd (c + 1) = bd c + len) := show bd (c + 1) = bd c + len by omega
                have HLn : Hid (bd (c + 1) - bd c = len) := hlen
                have hPn : bd c + len ≤ n := by omega
                clear hb1 hb2 hb3 hlen
                have y0 : ws.cell? ⟨cb c, 0, none⟩ = some (.slice (some ⟨rb c, 0, none⟩) len (rc c)) := (((HW3.out.turn HTs.out).ch c hlt).cell (by omega)).trans (by rw [← HLn.out]; rfl)
                have a0' : ws.cell? ⟨wi.heap.size, c, none⟩ = some (.slice (some ⟨sr c, 0, none⟩) len (sc c)) := ((HV3.out.turn HTs.out).sa.cell hlt).trans (by rw [if_pos hlt, HLn.out])
                go_upto_region 70 with fail
                go_quiet (fail)
                have HTu : Hid (Turn (fun _ => False) wm (ws.drewN nq)) := HTs.out.drewN nq
                generalize ws.drewN nq = wu at HTu ⊢
                have y0u : wu.cell? ⟨cb c, 0, none⟩ = some (.slice (some ⟨rb c, 0, none⟩) len (rc c)) := (((HW3.out.turn HTu.out).ch c hlt).cell (by omega)).trans (by rw [← HLn.out]; rfl)
                clear y0 a0' HTs
                obtain ⟨P, hP⟩ : ∃ P, P = bd c := ⟨_, rfl⟩
                rw [← hP] at hPn ⊢
                have HP : Hid (P = bd c) := hP
                clear hP
                go_upto_block 12 with fail
                clear y0u
                go_wp2_with fail
                go_loopg [39, 315] len (fun gk s39 i wr => ∃ j : Nat, j ≤ len ∧ gk = len - j ∧ s39 = .int .i64 ((P + j : Nat) : Int) ∧ i = .int .i64 j ∧ Hid (Turn (fun _ => False) wm wr))
                case atStart => exact ⟨0, by omega, rfl, by simp, rfl, HTu⟩
                case round =>
                  obtain ⟨j, hjl, hgj, rfl, rfl, HTj⟩ := hrel
                  by_cases hj : j < len
                  · have HWj : Hid (All w wr w.heap.size n kz ks wb.heap.size (q1, q2) gC cC m cb rb rc bd rec wf.heap.size) := HW3.out.turn HTj.out
                    have HVj : Hid (Saved wr m cb bd rec ks gD cD wi.heap.size (wi.heap.size + 1) sr sc m) := HV3.out.turn HTj.out
                    have hbm : P + j < bd m := by have := HBN.out; omega
                    have r1 : wr.cell? ⟨rb c, j, none⟩ = some (.pointer (some ⟨rec (P + j), 0, none⟩)) := ((HWj.out.rs c hlt).cell (by rw [HLn.out]; exact hj)).trans (by rw [← HP.out])
                    have r2 : wr.cell? ⟨wi.heap.size, c, none⟩ = some (.slice (some ⟨sr c, 0, none⟩) len (sc c)) := (HVj.out.sa.cell hlt).trans (by rw [if_pos hlt, HLn.out])
                    have r3 : wr.cell? ⟨sr c, j, none⟩ = some (.pointer (some ⟨rec (P + j), 0, none⟩)) := ((HVj.out.ss c hlt).cell (by rw [HLn.out]; exact hj)).trans (by rw [← HP.out])
                    obtain ⟨kd, hkd⟩ : ∃ kd, kd = ks (P + j) := ⟨_, rfl⟩
                    have k6 : wr.cell? ⟨rec (P + j), 6, none⟩ = some (.string kd.1) := by rw [hkd]; exact (HWj.out.kk _ hbm).c0
                    have k7 : wr.cell? ⟨rec (P + j), 7, none⟩ = some (.string kd.2) := by rw [hkd]; exact (HWj.out.kk _ hbm).c1
                    have s0 : wr.cell? ⟨w.heap.size, (P + j) * 2, none⟩ = some (.string kd.1) := (HWj.out.srt.row.cell (by omega)).trans (by rw [kF_even, hkd])
                    have s1 : wr.cell? ⟨w.heap.size, (P + j) * 2 + 1, none⟩ = some (.string kd.2) := (HWj.out.srt.row.cell (by omega)).trans (by rw [kF_odd, hkd])
                    have e0 : (0 : Int) ≤ (j : Int) := by omega
                    have e1 : (j : Int) < (len : Int) := by omega
                    have e2 : (0 : Int) ≤ ((P + j : Nat) : Int) := by omega
                    have e3 : ((P + j : Nat) : Int) < (n : Int) := by omega
                    clear hkd HWj HVj hbm
                    obtain ⟨kd1, kd2⟩ := kd
                    generalize rec (P + j) = rr at r1 r3 k6 k7
                    go_upto_region 75 with fail
                    go_quiet (fail)
                    go_wp2
                    go_roundg (len - (j + 1))
                    case measure => omega
                    case rel => exact ⟨j + 1, by omega, rfl, by go_num, by go_num, HTj.out.drewN _⟩
                  · obtain rfl : j = len := by omega
                    have hd9 : decide ((j : Int) < (j : Int)) = false := by simp
                    go_wp2
                    go_roundg (m - (c + 1))
                    case measure => omega
                    case rel => exact ⟨c + 1, by omega, rfl, by rw [HNx.out, HP.out], by go_num, HTj⟩
              · obtain rfl : c = m := by omega
                have hfin : Hid (bd c = n) := HBN
                rw [hfin.out]
                go_wp2
                go_ret
                exact ⟨rfl, (HW3.out.srt.turn.trans HTr.out (fun _ _ x => x)).below (Nat.le_refl _) (fun _ h => h.elim)⟩
end Go.Proofs.YbulkegkgGreat
