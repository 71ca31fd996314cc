import Derived.Test.YbulkegooC2
import Derived.WalkLawsBesides
import Derived.BigQuiet
import Derived.Deep.CutRange
namespace Go.Proofs.Ybulkegoo
open Go.RowKit Go.Maps Go.WideMaps

theorem run_make0 (t e : TypeId) (z : Value) (bytes : Nat) (ht : Yba.prog.underlying t = some (.slice e)) (hinfo : (Yba.prog.info? e).map (fun i => (i.zero, i.size, i.bytes)) = some (some z, 1, bytes)) (hz1 : z.cells = #[z])
    (n : Nat) (hbytes : bytes * n ≤ 281474976710656) (h63 : n ≤ 9223372036854775807) (w : World) :
    (Instr.makeSlice t (.int .i64 0) (.int .i64 (n : Int))).run Yba.prog w = .ok (.slice (some ⟨w.heap.size, 0, none⟩) 0 n) (w.alloc (.cells (madeCells #[z] n) e)) := by
  obtain ⟨i, hi, hzz⟩ := Option.map_eq_some_iff.1 hinfo
  simp only [Prod.mk.injEq] at hzz
  obtain ⟨hz, hs, hb⟩ := hzz
  have hb' : (i.bytes : Int) * (n : Int) ≤ 281474976710656 := by
    have h : ((i.bytes * n : Nat) : Int) ≤ 281474976710656 := by rw [hb]; omega
    rwa [Int.natCast_mul] at h
  have hr := run_make (P := Yba.prog) w t e i z ht hi hz .i64 .i64 0 n (by omega) (by omega) hb' (by omega)
  simp only [Int.toNat_natCast, hs, Nat.mul_one, hz1] at hr
  exact hr

/-- The keys, made distinct. -/
structure Keys (w0 w : World) (gK cK : Nat) (ks : List ByteArray) (N : Nat) : Prop where
  sl : SlI w 9 gK ks.length cK (kf ks)
  turn : Turn (fun _ => False) w0 w
  new : w0.heap.size ≤ gK
  nd : ks.Nodup
  sz : ∀ k, k ∈ ks → k.size ≤ maxLen
  le : ks.length ≤ N
theorem keys_nil (w : World) (n N : Nat) (z : Value) (h : n ≤ maxLen) : Keys w (w.alloc (.cells (madeCells #[z] n) 9)) w.heap.size n [] N where
  sl := SlI.congr (SlI.ofRow (World.rowIs_made w z n 9) h (Nat.zero_le _)) (fun i hi => absurd hi (by simp))
  turn := (Turn.refl _ _).alloc _
  new := Nat.le_refl _
  nd := List.nodup_nil
  sz := by simp
  le := by simp
theorem Keys.same {w0 w : World} {gK cK N : Nat} {ks : List ByteArray} (h : Keys w0 w gK cK ks N) : Keys w0 w gK cK ks (N + 1) := ⟨h.sl, h.turn, h.new, h.nd, h.sz, by have := h.le; omega⟩
theorem Keys.snoc {w0 w w' : World} {gK cK gK' cK' N : Nat} {ks : List ByteArray} {k : ByteArray} (h : Keys w0 w gK cK ks N) (hk : k ∉ ks) (hs : k.size ≤ maxLen)
    (s : SlI w' 9 gK' (ks.length + 1) cK' (fun j => if j < ks.length then kf ks j else .string k)) (t : Turn (fun x => x = gK) w w') (l : gK' = gK ∨ w.heap.size ≤ gK') : Keys w0 w' gK' cK' (ks ++ [k]) (N + 1) where
  sl := by rw [List.length_append]; exact s.congr (kf_snoc ks k _ rfl)
  turn := h.turn.trans t (fun i hi e => by have := h.new; omega)
  new := by have := h.new; have := h.turn.size; omega
  nd := by
    rw [List.nodup_append]
    exact ⟨h.nd, by simp, fun a ha b hb => by simp at hb; subst hb; exact fun e => hk (e ▸ ha)⟩
  sz x hx := by
    simp at hx
    rcases hx with hx | rfl
    · exact h.sz x hx
    · exact hs
  le := by have := h.le; simp; omega
theorem same_str {a b : ByteArray} (h : a = b) : (a.toList == b.toList) = true := by rw [h]; exact beq_self_eq_true _
theorem other_str {a b : ByteArray} (h : a ≠ b) : (a.toList == b.toList) = false := by
  rw [beq_eq_false_iff_ne]
  intro e
  rw [ByteArray.toList_eq, ByteArray.toList_eq] at e
  exact h (ByteArray.ext (Array.toList_inj.1 e))
theorem notin_of {ks : List ByteArray} {k : ByteArray} {q : Nat} (h : ∀ j, j < q → ks.getD j ByteArray.empty ≠ k) (hq : ks.length ≤ q) : k ∉ ks := by
  intro hm
  obtain ⟨i, hi, e⟩ := List.getElem_of_mem hm
  apply h i (by omega)
  rw [List.getD_eq_getElem?_getD, List.getElem?_eq_getElem hi]
  exact e
theorem in_of {ks : List ByteArray} {k : ByteArray} {q : Nat} (h : ks.getD q ByteArray.empty = k) (hq : q < ks.length) : k ∈ ks := by
  rw [List.getD_eq_getElem?_getD, List.getElem?_eq_getElem hq] at h
  rw [← h]
  exact List.getElem_mem _

theorem Keys.move {A : Nat → Prop} {w0 w w' : World} {gK cK N : Nat} {ks : List ByteArray} (h : Keys w0 w gK cK ks N) (t : Turn A w w') (ha : ¬ A gK) (hA : ∀ k, A k → w0.heap.size ≤ k) : Keys w0 w' gK cK ks N :=
  ⟨h.sl.turn t ha, h.turn.trans t (fun i hi e => by have := hA i e; omega), h.new, h.nd, h.sz, h.le⟩
structure St (w0 w : World) (gK cK : Nat) (ks : List ByteArray) (gV : Nat) (zs : List Int) : Prop where
  k : Keys w0 w gK cK ks 4096
  v : SlI w 3 gV ks.length ks.length (zf zs)
  newv : w0.heap.size ≤ gV
  ne : gK ≠ gV
  len : zs.length = ks.length
theorem St.move {A : Nat → Prop} {w0 w w' : World} {gK cK gV : Nat} {ks : List ByteArray} {zs : List Int} (h : St w0 w gK cK ks gV zs) (t : Turn A w w') (ha : ¬ A gK) (hb : ¬ A gV) (hA : ∀ k, A k → w0.heap.size ≤ k) : St w0 w' gK cK ks gV zs :=
  ⟨h.k.move t ha hA, h.v.turn t hb, h.newv, h.ne, h.len⟩
theorem zf_range (f : Nat → Int) (n : Nat) : ∀ j, j < n → Value.int .i64 (f j) = zf ((List.range n).map f) j := by
  intro j hj
  unfold zf
  rw [List.getD_eq_getElem?_getD]
  simp [hj]

theorem take_next {ks : List ByteArray} {q : Nat} (hq : q < ks.length) : ks.take (q + 1) = ks.take q ++ [ks.getD q ByteArray.empty] := by
  rw [List.take_add_one, List.getD_eq_getElem?_getD, List.getElem?_eq_getElem hq]
  rfl
theorem next_new {ks : List ByteArray} {q : Nat} (h : ks.Nodup) (hq : q < ks.length) : ks.getD q ByteArray.empty ∉ ks.take q := by
  have h2 : (ks.take (q + 1)).Nodup := h.sublist (List.take_sublist _ _)
  rw [take_next hq, List.nodup_append] at h2
  intro hm
  exact h2.2.2 _ hm _ (by simp) rfl
theorem getD_mem {ks : List ByteArray} {q : Nat} (hq : q < ks.length) : ks.getD q ByteArray.empty ∈ ks := in_of rfl hq

theorem mapIx_ne {w : World} {M g n c : Nat} {E : TypeId} {ks : List ByteArray} {f : Nat → Value} (h : MapIx w M ks) (s : SlI w E g n c f) : g ≠ M := by
  obtain ⟨D, ⟨es, clock, hm, _⟩, _⟩ := h
  obtain ⟨_, _, c', hb, _⟩ := s
  intro e
  subst e
  rw [hm] at hb
  cases hb
/-- What stands behind at(key). -/
structure Fin (w0 w : World) (gK cK : Nat) (ks : List ByteArray) (gV : Nat) (zs : List Int) (key : ByteArray) (O gk ck gv cv M : Nat) (ks' : List ByteArray) (zs' : List Int) (pos : Nat) : Prop where
  st : St w0 w gK cK ks gV zs
  ob : Obj1 w O gk ck gv cv M ks' zs'
  nK : gK ≠ O ∧ gK ≠ gk ∧ gK ≠ gv
  nV : gV ≠ O ∧ gV ≠ gk ∧ gV ≠ gv
  cs : (ks' = ks ∧ zs' = zs ∧ ks[pos]? = some key) ∨ (key ∉ ks ∧ ks' = ks ++ [key] ∧ zs' = zs ++ [0] ∧ pos = ks.length)

/-- What the checks read. -/
structure End (w0 w : World) (gW cW gX cX O gk ck gv cv M : Nat) (ks : List ByteArray) (zs : List Int) (pos : Nat) : Prop where
  k : SlI w 9 gW ks.length cW (kf ks)
  v : SlI w 3 gX ks.length cX (zf zs)
  ob : Obj1 w O gk ck gv cv M ks zs
  turn : Turn (fun _ => False) w0 w
  sz : ∀ k, k ∈ ks → k.size ≤ maxLen
  lt : pos < ks.length
  le : ks.length ≤ 4097
theorem nodup_inj {ks : List ByteArray} (h : ks.Nodup) {i j : Nat} (hi : i < ks.length) (hj : j < ks.length) (e : ks[i] = ks[j]) : i = j := by
  have hp := List.pairwise_iff_getElem.1 h
  rcases Nat.lt_trichotomy i j with hl | hl | hl
  · exact absurd e (hp i j hi hj hl)
  · exact hl
  · exact absurd e.symm (hp j i hj hi hl)
theorem run_equalIn_ptr_same {P : Program} (w : World) (d : Nat) (t e : TypeId) (a : Addr) (ht : P.underlying t = some (.pointer e)) (hs : (P.info? e).map (fun i => decide (i.size = 0)) = some false) :
    (Op.equalIn (d + 1) t (.pointer (some a)) (.pointer (some a))).run P w = .ok true w := by
  obtain ⟨i, hi, _⟩ := Option.map_eq_some_iff.1 hs
  simp [Op.equalIn, run_underlying ht, sizeOf, typeInfo, hi, sameAddr]
theorem run_neq_ptr_same {P : Program} (w : World) (t e : TypeId) (a : Addr) (ht : P.underlying t = some (.pointer e)) (hs : (P.info? e).map (fun i => decide (i.size = 0)) = some false) :
    (binOp .neq t (.pointer (some a)) (.pointer (some a))).run P w = .ok (.bool false) w := by
  simp only [binOp]
  simp [Op.equal, Op.maxDepth, run_equalIn_ptr_same w 9999 t e a ht hs]
theorem End.move {w0 w w' : World} {gW cW gX cX O gk ck gv cv M pos : Nat} {ks : List ByteArray} {zs : List Int} (h : End w0 w gW cW gX cX O gk ck gv cv M ks zs pos) (t : Turn (fun _ => False) w w') : End w0 w' gW cW gX cX O gk ck gv cv M ks zs pos :=
  ⟨h.k.turn t (fun x => x), h.v.turn t (fun x => x), ⟨t.row h.ob.st (fun x => x), h.ob.k.turn t (fun x => x), h.ob.v.turn t (fun x => x), h.ob.m.turn t (fun x => x), h.ob.len⟩, h.turn.trans t (fun _ _ x => x), h.sz, h.lt, h.le⟩
theorem end_found {w0 w : World} {gK cK gV O gk ck gv cv M pos j : Nat} {ks ks' : List ByteArray} {zs zs' : List Int} {key : ByteArray} (h : Fin w0 w gK cK ks gV zs key O gk ck gv cv M ks' zs' pos) (hj : j < ks.length) (e : ks.getD j ByteArray.empty = key) :
    j = pos ∧ ks' = ks ∧ End w0 w gK cK gV ks.length O gk ck gv cv M ks' zs' pos := by
  have hle := h.st.k.le
  rcases h.cs with ⟨rfl, rfl, hp⟩ | ⟨hn, _⟩
  · obtain ⟨hp1, hp2⟩ := List.getElem?_eq_some_iff.1 hp
    have ej : ks'[j] = key := by rw [List.getD_eq_getElem?_getD, List.getElem?_eq_getElem hj] at e; exact e
    exact ⟨nodup_inj h.st.k.nd hj hp1 (ej.trans hp2.symm), rfl, h.st.k.sl, h.st.v, h.ob, h.st.k.turn, h.st.k.sz, hp1, by omega⟩
  · exact absurd (in_of e hj) hn
theorem end_new {w0 w wy wz : World} {gK cK gV gW cW gX cX O gk ck gv cv M pos : Nat} {ks ks' : List ByteArray} {zs zs' : List Int} {key : ByteArray} (h : Fin w0 w gK cK ks gV zs key O gk ck gv cv M ks' zs' pos) (hn : key ∉ ks) (hs : key.size ≤ maxLen)
    (s2 : SlI wy 9 gW (ks.length + 1) cW (fun j => if j < ks.length then kf ks j else .string key)) (t2 : Turn (fun k => k = gK) w wy) (l2 : gW = gK ∨ w.heap.size ≤ gW)
    (s4 : SlI wz 3 gX (ks.length + 1) cX (fun j => if j < ks.length then zf zs j else .int .i64 0)) (t4 : Turn (fun k => k = gV) wy wz) :
    ks.length = pos ∧ ks'.length = ks.length + 1 ∧ End w0 wz gW cW gX cX O gk ck gv cv M ks' zs' pos := by
  have hle := h.st.k.le
  rcases h.cs with ⟨rfl, rfl, hp⟩ | ⟨_, rfl, rfl, rfl⟩
  · exact absurd (List.mem_of_getElem? hp) hn
  · have k2 := h.st.k.snoc hn hs s2 t2 l2
    have lV := h.st.v.lt
    have gWV : gW ≠ gV := by have := h.st.ne; omega
    have k4 := k2.move t4 gWV (fun k e => by have := h.st.newv; omega)
    have o2 : ∀ {k}, k ≠ gK → k ≠ gV → k < w.heap.size → wz.heap[k]? = w.heap[k]? := fun {k} h1 h2 h3 => (t4.block k (by have := t2.size; omega) h2).trans (t2.block k h3 h1)
    have tt : Turn (fun k => k = gK ∨ k = gV) w wz := (t2.mono (B := fun k => k = gK ∨ k = gV) (fun _ _ e => .inl e)).trans t4 (fun _ _ e => .inr e)
    have mK := mapIx_ne h.ob.m h.st.k.sl
    have mV := mapIx_ne h.ob.m h.st.v
    have nK := h.nK
    have nV := h.nV
    refine ⟨rfl, by simp, k4.sl, ?_, ⟨tt.row h.ob.st (by omega), h.ob.k.turn tt (by omega), h.ob.v.turn tt (by omega), h.ob.m.turn tt (by omega), h.ob.len⟩, k4.turn, k4.sz, by simp, by simp; omega⟩
    rw [List.length_append]
    exact s4.congr (zf_snoc zs 0 _ h.st.len)

set_option maxRecDepth 100000 in
set_option maxHeartbeats 4000000 in
theorem lawC_walk (a0 : Option Addr) (n cap : Nat) (ss : Nat → ByteArray) (a1 : Option Addr) (m cap1 : Nat) (zz : Nat → Int) (nilIx : Bool) (pick : Int) (key : ByteArray) (w : World)
    (hn : n ≤ 4096) (hc : 0 < n → ∃ b off, a0 = some ⟨b, off, none⟩ ∧ ∀ j, j < n → w.cell? ⟨b, off + j, none⟩ = some (.string (ss j)))
    (hc1 : 0 < m → ∃ b off, a1 = some ⟨b, off, none⟩ ∧ ∀ j, j < m → w.cell? ⟨b, off + j, none⟩ = some (.int .i64 (zz j)))
    (p0 : 0 ≤ pick) (p1 : pick ≤ 255) (hs : ∀ j, j < n → (ss j).size ≤ maxLen) (hk : key.size ≤ maxLen) (hm : m ≤ maxLen) :
    Calls Yba.prog 4 #[.slice a0 n cap, .slice a1 m cap1, .bool nilIx, .int .u8 pick, .string key] w fun e w' => e = .returned (.bool true) ∧ Below w.heap.size w w' := by
  have hd : decide ((4096 : Int) < (n : Int)) = false := by simp; omega
  have hmk0 := run_make0 22 9 (.string ⟨#[]⟩) 16 Yba.underlying22 infoS rfl n (by omega) (by omega)
  go_enter Yba.func4, Yba.ntmps4
  have HC : Hid (0 < n → ∃ b off, a0 = some ⟨b, off, none⟩ ∧ ∀ j, j < n → w.cell? ⟨b, off + j, none⟩ = some (.string (ss j))) := hc
  have HC1 : Hid (0 < m → ∃ b off, a1 = some ⟨b, off, none⟩ ∧ ∀ j, j < m → w.cell? ⟨b, off + j, none⟩ = some (.int .i64 (zz j))) := hc1
  have HS : Hid (∀ j, j < n → (ss j).size ≤ maxLen) := hs
  have HK : Hid (key.size ≤ maxLen) := hk
  have HM : Hid (m ≤ maxLen) := hm
  clear hc hc1 hs hk hm
  go_upto_block 0 with fail
  go_cut [11, 13, 14, 16] from 41 to 61 (fun s11 _ _ _ wx => ∃ gK cK ks, s11 = .slice (some ⟨gK, 0, none⟩) ks.length cK ∧ Hid (Keys w wx gK cK ks n))
  case first =>
    clear hmk0
    go_wp2_with fail
    go_loopg [11, 41] n (fun gk s11 i wr => ∃ (q gK cK : Nat) (ks : List ByteArray), q ≤ n ∧ gk = n - q ∧ i = .int .i64 q ∧ s11 = .slice (some ⟨gK, 0, none⟩) ks.length cK ∧ Hid (Keys w wr gK cK ks q))
    case atStart => exact ⟨0, _, _, [], by omega, rfl, rfl, rfl, keys_nil w n 0 _ (by unfold maxLen; omega)⟩
    case round =>
      obtain ⟨q, gK, cK, ks, hqn, hgk, rfl, rfl, HI⟩ := hrel
      by_cases hlt : q < n
      · obtain ⟨b, off, rfl, hcell⟩ := HC.out (by omega)
        have hcm : wr.cell? ⟨b, off + q, none⟩ = some (.string (ss q)) := HI.out.turn.cell (hcell q hlt) (fun x => x)
        have i0 : (0 : Int) ≤ (q : Int) := by omega
        have i1 : (q : Int) < (n : Int) := by omega
        have hle : ks.length ≤ 4096 := by have := HI.out.le; omega
        clear hcell
        go_upto_block 2 with fail
        go_cut [14] (fun s14 wx => (s14 = .bool true ∧ Hid (ss q ∈ ks) ∨ s14 = .bool false ∧ Hid (ss q ∉ ks)) ∧ wx = wr)
        case first =>
          clear hcm i0 i1
          go_wp2_with fail
          obtain ⟨wo, rfl⟩ : ∃ wo : World, wo = wr := ⟨_, rfl⟩
          go_loopg [14, 47] ks.length (fun gk s14 i wq => ∃ j : Nat, j ≤ ks.length ∧ gk = ks.length - j ∧ i = .int .i64 j ∧ s14 = .bool false ∧ wq = wo ∧ Hid (∀ i, i < j → ks.getD i ByteArray.empty ≠ ss q))
          case atStart => exact ⟨0, by omega, rfl, rfl, rfl, rfl, fun i hi => absurd hi (by omega)⟩
          case round =>
            obtain ⟨j, hj, hgj, rfl, rfl, rfl, HJ⟩ := hrel
            by_cases hjl : j < ks.length
            · have hcj : wr.cell? ⟨gK, j, none⟩ = some (.string (ks.getD j ByteArray.empty)) := HI.out.sl.cell hjl
              have i0 : (0 : Int) ≤ (j : Int) := by omega
              have i1 : (j : Int) < (ks.length : Int) := by omega
              have HG : Hid (∀ j', j' = j → ks.getD j' ByteArray.empty = ks.getD j ByteArray.empty) := fun j' e => by rw [e]
              generalize ks.getD j ByteArray.empty = kj at hcj HG
              by_cases he : kj = ss q
              · have hin : Hid (ss q ∈ ks) := in_of ((HG.out j rfl).trans he) hjl
                have he' := same_str he
                clear he
                go_wp2
                go_meet
                case rel => exact ⟨.inl ⟨rfl, hin⟩, rfl⟩
              · have he' := other_str he
                have HE : Hid (kj ≠ ss q) := he
                clear he
                go_wp2
                go_roundg (ks.length - (j + 1))
                case measure => omega
                case rel => exact ⟨j + 1, by omega, rfl, by go_num, rfl, rfl, fun i hi => by by_cases e : i = j; (rw [HG.out i e]; exact HE.out); exact HJ.out i (by omega)⟩
            · go_wp2
              go_meet
              case rel => exact ⟨.inr ⟨rfl, notin_of HJ.out (by omega)⟩, rfl⟩
        case rest =>
          obtain ⟨hin, hwc⟩ := hcut
          rw [hwc]
          clear hwc
          rcases hin with ⟨rfl, hin⟩ | ⟨rfl, HN⟩
          · clear hin
            go_wp2
            go_roundg (n - (q + 1))
            case measure => omega
            case rel => exact ⟨q + 1, gK, cK, ks, by omega, rfl, by go_num, rfl, HI.out.same⟩
          · obtain ⟨k0, k1, k2, k3, k4⟩ := info_parts infoS
            have b1 : ks.length + 1 ≤ maxLen := by unfold maxLen; omega
            have HX : Hid (SlI (wr.alloc (.cells #[.string (ss q)] 9)) 9 gK ks.length cK (kf ks)) := HI.out.sl.turn ((Turn.refl (fun _ => False) wr).alloc _) (fun x => x)
            go_wp2_with (at_builtin; refine wpList_append_sl _ rfl (.tmp 57) (.tmp 59) 22 rfl 9 k0 (.string ⟨#[]⟩) 16 Yba.underlying22 k1 k2 k3 k4 rfl gK ks.length cK (kf ks) rfl HX.out wr.heap.size 0 1 1 (fun _ => .string (ss q)) rfl (new_one _ _ _) (fun _ _ => rfl) b1 (by omega) (wr.heap.size + 1) (by simp) ?_; intro gK' cK' w2 s2 t2 l2)
            go_roundg (n - (q + 1))
            case measure => omega
            case rel => exact ⟨q + 1, gK', cK', ks ++ [ss q], by omega, rfl, by go_num, by simp, HI.out.snoc HN.out (HS.out q hlt) s2 (((Turn.refl (fun k => k = gK) wr).alloc _).trans t2 (fun _ _ e => e)) (by omega)⟩
      · obtain rfl : q = n := by omega
        go_wp2
        go_meet
        case rel => exact ⟨gK, cK, ks, rfl, HI⟩
  case rest =>
    obtain ⟨gK, cK, ks, rfl, HI⟩ := hcut
    obtain ⟨wa, rfl⟩ : ∃ wa : World, wa = wc := ⟨_, rfl⟩
    clear hmk0
    have hle : ks.length ≤ 4096 := by have := HI.out.le; omega
    have hmk1 := run_make_row' (P := Yba.prog) 40 3 (.int .i64 0) 8 Yba.underlying40 infoI rfl .i64 .i64 ks.length (by omega) (by omega)
    go_upto_block 4 with fail
    go_cut [17, 18] from 67 to 88 (fun s17 _ wx => ∃ gV zs, s17 = .slice (some ⟨gV, 0, none⟩) ks.length ks.length ∧ Hid (St w wx gK cK ks gV zs))
    case first =>
      clear hmk1
      have HV : Hid (SlI (wa.alloc (.cells (madeCells #[.int .i64 0] ks.length) 3)) 3 wa.heap.size ks.length ks.length (fun j => .int .i64 ((fun _ => 0) j))) := SlI.ofRow (World.rowIs_made wa _ _ 3) (by unfold maxLen; omega) (Nat.le_refl _)
      have HT : Hid (Keys w (wa.alloc (.cells (madeCells #[.int .i64 0] ks.length) 3)) gK cK ks n) := HI.out.move ((Turn.refl (fun _ => False) wa).alloc _) (fun x => x) (fun _ x => x.elim)
      have hgv : gK < wa.heap.size := HI.out.sl.lt
      have hwv : w.heap.size ≤ wa.heap.size := HI.out.turn.size
      generalize wa.alloc (.cells (madeCells #[.int .i64 0] ks.length) 3) = wb at HV HT ⊢
      clear HI HC
      go_wp2_with fail
      go_loopg [67] ks.length (fun gk i wr => ∃ (q : Nat) (f : Nat → Int), q ≤ ks.length ∧ gk = ks.length - q ∧ i = .int .i64 q ∧ Hid (SlI wr 3 wa.heap.size ks.length ks.length (fun j => .int .i64 (f j))) ∧ Hid (Keys w wr gK cK ks n))
      case atStart => exact ⟨0, _, by omega, rfl, rfl, HV, HT⟩
      case round =>
        obtain ⟨q, f, hqn, hgk, rfl, HV, HT⟩ := hrel
        by_cases hlt : q < ks.length
        · have lV : wa.heap.size < wr.heap.size := HV.out.lt
          have x1 : wr.cell? ⟨wa.heap.size, q, none⟩ = some (.int .i64 (f q)) := HV.out.cell hlt
          have x2 : wr.frozen? ⟨wa.heap.size, q, none⟩ = false := HV.out.frozen q
          have i0 : (0 : Int) ≤ (q : Int) := by omega
          have i1 : (q : Int) < (ks.length : Int) := by omega
          by_cases hm0 : 0 < m
          · obtain ⟨b, off, rfl, hcell⟩ := HC1.out hm0
            have hdm : decide ((0 : Int) < (m : Int)) = true := by simp; omega
            have hlm : q % m < m := Nat.mod_lt _ hm0
            have hcm : wr.cell? ⟨b, off + q % m, none⟩ = some (.int .i64 (zz (q % m))) := HT.out.turn.cell (hcell _ hlm) (fun x => x)
            have hrm : ((q : Int).tmod (m : Int)) = ((q % m : Nat) : Int) := by rw [Int.tmod_eq_emod_of_nonneg (by omega)]; rfl
            clear hcell
            generalize q % m = r at hlm hcm hrm
            have j0 : (0 : Int) ≤ (r : Int) := by omega
            have j1 : (r : Int) < (m : Int) := by omega
            have j2 : ¬ ((m : Int) = 0) := by omega
            go_wp2
            go_roundg (ks.length - (q + 1))
            case measure => omega
            case rel => exact ⟨q + 1, fun j => if j = q then zz r else f j, by omega, rfl, by go_num, HV.out.set q _ _ (fun j hj => by by_cases e : j = q <;> simp [e]), HT.out.move ((Turn.refl (fun k => k = wa.heap.size) wr).setCell (p := ⟨wa.heap.size, q, none⟩) (.inr rfl) _) (by omega) (fun k e => by omega)⟩
          · have hdm : decide ((0 : Int) < (m : Int)) = false := by simp; omega
            go_wp2
            go_roundg (ks.length - (q + 1))
            case measure => omega
            case rel => exact ⟨q + 1, fun j => if j = q then ((q : Int) + 1) else f j, by omega, rfl, by go_num, HV.out.set q _ _ (fun j hj => by by_cases e : j = q <;> simp [e]), HT.out.move ((Turn.refl (fun k => k = wa.heap.size) wr).setCell (p := ⟨wa.heap.size, q, none⟩) (.inr rfl) _) (by omega) (fun k e => by omega)⟩
        · obtain rfl : q = ks.length := by omega
          go_wp2
          go_meet
          case rel => exact ⟨wa.heap.size, (List.range ks.length).map f, rfl, ⟨⟨HT.out.sl, HT.out.turn, HT.out.new, HT.out.nd, HT.out.sz, by omega⟩, HV.out.congr (zf_range f _), hwv, by omega, by simp⟩⟩
    case rest =>
      obtain ⟨gV, zs, rfl, HV⟩ := hcut
      obtain ⟨wb, rfl⟩ : ∃ wb : World, wb = wc := ⟨_, rfl⟩
      clear hmk1 HI
      clear HC HC1 HS
      go_upto_region 26 with fail
      go_cut [95] from 89 to 95 (fun s95 wx => (s95 = .bool true ∨ s95 = .bool false ∧ Hid (ks = [])) ∧ wx = wb)
      case first =>
        cases nilIx with
        | false =>
          go_wp2
          go_meet
          case rel => exact ⟨.inl rfl, rfl⟩
        | true =>
          by_cases h0 : ks.length = 0
          · have hq : (((ks.length : Nat) : Int) == 0) = true := by simp; exact List.eq_nil_of_length_eq_zero h0
            have H0 : Hid (ks = []) := List.eq_nil_of_length_eq_zero h0
            clear h0
            go_wp2
            go_meet
            case rel => exact ⟨.inr ⟨rfl, H0⟩, rfl⟩
          · have hq : (((ks.length : Nat) : Int) == 0) = false := by simpa using fun e => h0 (by rw [e]; rfl)
            clear h0
            go_wp2
            go_meet
            case rel => exact ⟨.inl rfl, rfl⟩
      case rest =>
        obtain ⟨h95, hwc⟩ := hcut
        rw [hwc]
        clear hwc
        have hmm := @run_makeMap Yba.prog
        go_upto_if 95 with fail
        go_cut [19, 20, 21] from 96 to 107 (fun s19 _ _ wx => (∃ mo : Option Nat, s19 = .map mo ∧ Hid ((mo = none ∧ ks = []) ∨ ∃ M, mo = some M ∧ MapIx wx M ks ∧ w.heap.size ≤ M)) ∧ Hid (St w wx gK cK ks gV zs))
        case first =>
          rcases h95 with rfl | ⟨rfl, H0⟩
          · go_upto_block 6 with fail
            have lK := HV.out.k.sl.lt
            have lV := HV.out.v.lt
            have lW := HV.out.k.turn.size
            have HT : Hid (St w (wb.alloc (.map #[] 0)) gK cK ks gV zs) := HV.out.move ((Turn.refl (fun _ => False) wb).alloc _) (fun x => x) (fun x => x) (fun _ x => x.elim)
            have HQ : Hid (MapIx (wb.alloc (.map #[] 0)) wb.heap.size (ks.take 0)) := ⟨.map [], World.ownsMap_made (H := Unit) wb Yba.prog 9 (plainElem Yba.prog 3), ixD_nil⟩
            generalize wb.alloc (.map #[] 0) = wd at HT HQ ⊢
            clear HV
            go_wp2_with fail
            go_loopg [99] ks.length (fun gk i wr => ∃ (q : Nat), q ≤ ks.length ∧ gk = ks.length - q ∧ i = .int .i64 q ∧ Hid (MapIx wr wb.heap.size (ks.take q)) ∧ Hid (St w wr gK cK ks gV zs))
            case atStart => exact ⟨0, by omega, rfl, rfl, HQ, HT⟩
            case round =>
              obtain ⟨q, hqn, hgk, rfl, HQ, HT⟩ := hrel
              by_cases hlt : q < ks.length
              · have x1 : wr.cell? ⟨gK, q, none⟩ = some (.string (ks.getD q ByteArray.empty)) := HT.out.k.sl.cell hlt
                have i0 : (0 : Int) ≤ (q : Int) := by omega
                have i1 : (q : Int) < (ks.length : Int) := by omega
                have HN : Hid (ks.getD q ByteArray.empty ∉ ks.take q) := next_new HT.out.k.nd hlt
                have HE : Hid (ks.take (q + 1) = ks.take q ++ [ks.getD q ByteArray.empty]) := take_next hlt
                have hsz : (ks.getD q ByteArray.empty).size ≤ maxLen := HT.out.k.sz _ (getD_mem hlt)
                generalize ks.getD q ByteArray.empty = kq at x1 HN HE hsz
                obtain ⟨D, hown, hD⟩ := HQ.out
                have HD : Hid (IxD D (ks.take q)) := hD
                have HTi : Hid (Tidy D) := hown.tidy law
                have hl0 : (ks.take q).length = q := by rw [List.length_take]; omega
                have HL : Hid ((ks.take q).length = q) := hl0
                clear hl0
                have HO : Hid (wr.ownsMap Yba.prog 9 (plainElem Yba.prog 3) wb.heap.size q D) := by have := hown; rwa [HL.out] at this
                have hkey : Hid (keyOf Yba.prog 9 (.string kq) = some (str kq)) := keyOf_string_mk Yba.underlying9 hsz
                have hnm : q < maxLen := by unfold maxLen; omega
                have hw3 : (Lit.int .i64 (q : Int)).wf = true := WalkArith.wf_i64 (by omega)
                have hpe : Hid (plainElem (H := Unit) Yba.prog 3 (.int .i64 (q : Int)) = some (i64 q, [])) := plainElem_int Yba.underlying3 hw3
                clear hown hD hw3 HQ hmm hsz
                go_wp2_with (at_mapUpdate; refine wpList_mapUpdate_own _ rfl _ _ _ 41 rfl 9 3 law Yba.underlying41 _ wb.heap.size q D rfl HO.out hnm _ _ _ rfl rfl hkey.out _ [] hpe.out ?_; intro w1 hown1 hgrow1; have T1 : Turn (fun k => k = wb.heap.size) wr w1 := ((Turn.refl (fun k => k = wb.heap.size) wr).grown hgrow1 (fun k hk => .inr (Option.some.inj hk).symm)))
                go_roundg (ks.length - (q + 1))
                case measure => omega
                case rel =>
                  refine ⟨q + 1, by omega, rfl, by go_num, ⟨D.put (str kq) (i64 q), ?_, ?_⟩, HT.out.move T1 (by omega) (by omega) (fun k e => by omega)⟩
                  · rw [HE.out, List.length_append, HL.out]; exact hown1
                  · have := ixD_put HD.out HTi.out HN.out
                    rw [HL.out] at this
                    rw [HE.out]
                    exact this
              · obtain rfl : q = ks.length := by omega
                go_wp2
                go_meet
                case rel => exact ⟨⟨_, rfl, .inr ⟨_, rfl, by have := HQ.out; rwa [List.take_length] at this, by omega⟩⟩, HT⟩
          · go_wp2
            go_meet
            case rel => exact ⟨⟨_, rfl, .inl ⟨rfl, H0.out⟩⟩, HV⟩
        case rest =>
          obtain ⟨⟨mo, rfl, HX⟩, HT⟩ := hcut
          obtain ⟨wd, rfl⟩ : ∃ wd : World, wd = wc := ⟨_, rfl⟩
          clear HV h95 hmm
          go_upto_region 33 with fail
          go_cut [115] from 108 to 115 (fun s115 wx => (s115 = .bool true ∧ 0 < ks.length ∨ s115 = .bool false) ∧ wx = wd)
          case first =>
            by_cases h1 : pick % 2 = 1
            · by_cases h0 : 0 < ks.length
              · have hq : decide (0 < ks.length) = true := decide_eq_true h0
                go_wp2
                go_meet
                case rel => exact ⟨.inl ⟨rfl, h0⟩, rfl⟩
              · have hq : decide (0 < ks.length) = false := decide_eq_false h0
                go_wp2
                go_meet
                case rel => exact ⟨.inr rfl, rfl⟩
            · go_wp2
              go_meet
              case rel => exact ⟨.inr rfl, rfl⟩
          case rest =>
            obtain ⟨h115, hwc⟩ := hcut
            rw [hwc]
            clear hwc
            go_upto_if 115 with fail
            go_cut [4] from 116 to 124 (fun s4 wx => (∃ key' : ByteArray, s4 = .string key' ∧ key'.size ≤ maxLen) ∧ wx = wd)
            case first =>
              rcases h115 with ⟨rfl, h0⟩ | rfl
              · have e0 : (0 : Int) ≤ pick.tdiv 2 ∧ pick.tdiv 2 ≤ 127 := by rw [Int.tdiv_eq_ediv_of_nonneg p0]; omega
                obtain ⟨e0, e1⟩ := e0
                obtain ⟨t, ht⟩ : ∃ t : Nat, pick.tdiv 2 = (t : Int) := ⟨(pick.tdiv 2).toNat, by omega⟩
                have hlm : t % ks.length < ks.length := Nat.mod_lt _ h0
                have hrm : ((t : Int).tmod (ks.length : Int)) = ((t % ks.length : Nat) : Int) := by rw [Int.tmod_eq_emod_of_nonneg (by omega)]; rfl
                have hcm : wd.cell? ⟨gK, t % ks.length, none⟩ = some (.string (ks.getD (t % ks.length) ByteArray.empty)) := HT.out.k.sl.cell hlm
                have hsz : (ks.getD (t % ks.length) ByteArray.empty).size ≤ maxLen := HT.out.k.sz _ (getD_mem hlm)
                generalize t % ks.length = r at hlm hrm hcm hsz
                generalize ks.getD r ByteArray.empty = kr at hcm hsz
                have j0 : (0 : Int) ≤ (r : Int) := by omega
                have j1 : (r : Int) < (ks.length : Int) := by omega
                have j2 : ¬ ((ks.length : Int) = 0) := by omega
                go_wp2
                go_meet
                case rel => exact ⟨⟨kr, rfl, hsz⟩, rfl⟩
              · go_wp2
                go_meet
                case rel => exact ⟨⟨key, rfl, HK.out⟩, rfl⟩
            case rest =>
              obtain ⟨⟨key', rfl, hk⟩, hwc⟩ := hcut
              rw [hwc]
              clear hwc h115 HK
              go_upto_region 35 with fail
              go_cut [22] from 125 to 131 (fun s22 wx => ∃ O gk ck gv cv, s22 = .pointer (some ⟨O, 0, none⟩) ∧ Hid (St w wx gK cK ks gV zs) ∧ wd.heap.size ≤ O ∧ wd.heap.size ≤ gk ∧ wd.heap.size ≤ gv ∧ ((Hid (Obj0 wx O gk ck gv cv) ∧ Hid (ks = [])) ∨ ∃ M, Hid (Obj1 wx O gk ck gv cv M ks zs) ∧ w.heap.size ≤ M ∧ M < wd.heap.size))
              case first =>
                go_wp2_with (first | (go_at_call 7; refine (cloneS gK ks.length cK (kf ks) _ HT.out.k.sl (fun _ _ => rfl) (by omega)).mono ?_; rintro e w1 ⟨gk, ck, rfl, s1, t1, l1⟩; have HT1 : Hid (St w w1 gK cK ks gV zs) := HT.out.move t1 (fun x => x) (fun x => x) (fun _ x => x.elim)) | (go_at_call 8; refine (cloneI gV ks.length ks.length (zf zs) _ HT1.out.v (fun _ _ => rfl) (by omega)).mono ?_; rintro e w2 ⟨gv, cv, rfl, s2, t2, l2⟩))
                go_meet
                case rel =>
                  have tA : Turn (fun _ => False) w2 (w2.alloc (.cells #[.slice (some ⟨gk, 0, none⟩) ks.length ck, .slice (some ⟨gv, 0, none⟩) ks.length cv, .map mo] 46)) := (Turn.refl _ _).alloc _
                  have tB : Turn (fun _ => False) w1 _ := t2.trans tA (fun _ _ x => x)
                  have tC : Turn (fun _ => False) wd _ := t1.trans tB (fun _ _ x => x)
                  have hst : (w2.alloc (.cells #[.slice (some ⟨gk, 0, none⟩) ks.length ck, .slice (some ⟨gv, 0, none⟩) ks.length cv, .map mo] 46)).rowIs w2.heap.size 46 3 (obF (.slice (some ⟨gk, 0, none⟩) ks.length ck) (.slice (some ⟨gv, 0, none⟩) ks.length cv) (.map mo)) :=
                    row_of_block (heap_alloc_new w2 _) _ (fun i hi => by rcases (show i = 0 ∨ i = 1 ∨ i = 2 by simp at hi; omega) with rfl | rfl | rfl <;> rfl)
                  have z1 := t1.size
                  have z2 := t2.size
                  refine ⟨w2.heap.size, gk, ck, gv, cv, rfl, HT1.out.move tB (fun x => x) (fun x => x) (fun _ x => x.elim), by omega, l1, by omega, ?_⟩
                  rcases HX.out with ⟨rfl, h0⟩ | ⟨M, rfl, hM, lM⟩
                  · have hz : zs = [] := List.eq_nil_of_length_eq_zero (by rw [HT.out.len, h0]; rfl)
                    left
                    refine ⟨⟨?_, ?_, ?_⟩, h0⟩
                    · have := hst; rw [h0] at this; rw [h0]; exact this
                    · have := s1.turn tB (fun x => x); rw [h0] at this; rw [h0]; exact this
                    · have := s2.turn tA (fun x => x); rw [h0, hz] at this; rw [h0]; exact this
                  · right
                    exact ⟨M, ⟨hst, s1.turn tB (fun x => x), s2.turn tA (fun x => x), hM.turn tC (fun x => x), HT.out.len⟩, lM, hM.lt⟩
              case rest =>
                obtain ⟨O, gk, ck, gv, cv, rfl, HT', lO, lk, lv, HO⟩ := hcut
                have lK := HT.out.k.sl.lt
                have lV := HT.out.v.lt
                have lW := HT.out.k.turn.size
                obtain ⟨we, rfl⟩ : ∃ we : World, we = wc := ⟨_, rfl⟩
                clear HX HT
                go_upto_region 36 with fail
                go_cut [23] from 132 to 134 (fun s23 wx => ∃ gk ck gv cv M ks' zs' pos, s23 = .pointer (some ⟨gv, pos, none⟩) ∧ Hid (Fin w wx gK cK ks gV zs key' O gk ck gv cv M ks' zs' pos))
                case first =>
                  rcases HO with ⟨H0, HE⟩ | ⟨M, H1, lM, lM'⟩
                  · go_wp2_with (go_at_call 9; refine (at_nil O gk ck gv cv key' _ H0.out hk).mono ?_; rintro e w1 ⟨gk', ck', gv', cv', M, rfl, ob1, t1, lk1, lv1⟩)
                    go_meet
                    case rel =>
                      have hz := HT'.out.len
                      have he := HE.out
                      have zK := HT'.out.k.sl.lt
                      have zV := HT'.out.v.lt
                      rw [he] at hz
                      have hz' : zs = [] := List.eq_nil_of_length_eq_zero hz
                      refine ⟨gk', ck', gv', cv', M, [key'], [0], 0, rfl, ⟨HT'.out.move t1 (by omega) (by omega) (fun k e => by omega), ob1, ⟨by omega, by omega, by omega⟩, ⟨by omega, by omega, by omega⟩, .inr ⟨by rw [he]; simp, by rw [he]; rfl, by rw [hz']; rfl, by rw [he]; rfl⟩⟩⟩
                  · by_cases hin : key' ∈ ks
                    · obtain ⟨i, hi, e⟩ := List.getElem_of_mem hin
                      have hI : Hid (ks[i]? = some key') := (List.getElem?_eq_getElem hi).trans (congrArg some e)
                      clear e hin
                      go_wp2_with (go_at_call 9; refine (at_found O gk ck gv cv M i ks zs key' _ H1.out hI.out hk).mono ?_; rintro e w1 ⟨rfl, rfl⟩)
                      go_meet
                      case rel => exact ⟨gk, ck, gv, cv, M, ks, zs, i, rfl, ⟨HT'.out, H1.out, ⟨by omega, by omega, by omega⟩, ⟨by omega, by omega, by omega⟩, .inl ⟨rfl, rfl, hI.out⟩⟩⟩
                    · have hI : Hid (key' ∉ ks) := hin
                      clear hin
                      go_wp2_with (go_at_call 9; refine (at_new O gk ck gv cv M ks zs key' _ H1.out hI.out hk (by omega)).mono ?_; rintro e w1 ⟨gk', ck', gv', cv', rfl, hP⟩)
                      go_meet
                      case rel =>
                        have mK := mapIx_ne H1.out.m HT'.out.k.sl
                        have mV := mapIx_ne H1.out.m HT'.out.v
                        have zK := HT'.out.k.sl.lt
                        have zV := HT'.out.v.lt
                        have lk1 := hP.lk
                        have lv1 := hP.lv
                        exact ⟨gk', ck', gv', cv', M, _, _, ks.length, rfl, ⟨HT'.out.move hP.turn (by omega) (by omega) (fun k e => by omega), hP.ob, ⟨by omega, by omega, by omega⟩, ⟨by omega, by omega, by omega⟩, .inr ⟨hI.out, rfl, rfl, rfl⟩⟩⟩
                case rest =>
                  obtain ⟨gk, ck, gv, cv, M, ks', zs', pos, rfl, HF⟩ := hcut
                  obtain ⟨wf, rfl⟩ : ∃ wf : World, wf = wc := ⟨_, rfl⟩
                  clear HO HT' lO lk lv lK lV lW
                  go_upto_block 8 with fail
                  go_cut [24, 25, 26] from 137 to 146 (fun s24 _ _ wx => ((∃ j : Nat, s24 = .int .i64 j ∧ j < ks.length ∧ Hid (ks.getD j ByteArray.empty = key')) ∨ (s24 = .int .i64 (-1) ∧ Hid (key' ∉ ks))) ∧ wx = wf)
                  case first =>
                    go_wp2_with fail
                    go_loopg [24, 137] ks.length (fun gk s24 i wr => ∃ q : Nat, q ≤ ks.length ∧ gk = ks.length - q ∧ i = .int .i64 q ∧ s24 = .int .i64 (-1) ∧ wr = wf ∧ Hid (∀ i, i < q → ks.getD i ByteArray.empty ≠ key'))
                    case atStart => exact ⟨0, by omega, rfl, rfl, rfl, rfl, fun i hi => absurd hi (by omega)⟩
                    case round =>
                      obtain ⟨q, hqn, hgk, rfl, rfl, rfl, HJ⟩ := hrel
                      by_cases hlt : q < ks.length
                      · have hcj : wr.cell? ⟨gK, q, none⟩ = some (.string (ks.getD q ByteArray.empty)) := HF.out.st.k.sl.cell hlt
                        have i0 : (0 : Int) ≤ (q : Int) := by omega
                        have i1 : (q : Int) < (ks.length : Int) := by omega
                        have HG : Hid (∀ j', j' = q → ks.getD j' ByteArray.empty = ks.getD q ByteArray.empty) := fun j' e => by rw [e]
                        generalize ks.getD q ByteArray.empty = kj at hcj HG
                        by_cases he : kj = key'
                        · have he' := same_str he
                          have HE : Hid (kj = key') := he
                          clear he
                          go_wp2
                          go_meet
                          case rel => exact ⟨.inl ⟨q, rfl, hlt, (HG.out q rfl).trans HE.out⟩, rfl⟩
                        · have he' := other_str he
                          have HE : Hid (kj ≠ key') := he
                          clear he
                          go_wp2
                          go_roundg (ks.length - (q + 1))
                          case measure => omega
                          case rel => exact ⟨q + 1, by omega, rfl, by go_num, rfl, rfl, fun i hi => by by_cases e : i = q; (rw [HG.out i e]; exact HE.out); exact HJ.out i (by omega)⟩
                      · go_wp2
                        go_meet
                        case rel => exact ⟨.inr ⟨rfl, notin_of HJ.out (by omega)⟩, rfl⟩
                  case rest =>
                    obtain ⟨h24, hwc⟩ := hcut
                    rw [hwc]
                    clear hwc
                    obtain ⟨p24, rfl, H24⟩ : ∃ p24 : Int, u24 = .int .i64 p24 ∧ Hid ((∃ j : Nat, p24 = j ∧ j < ks.length ∧ ks.getD j ByteArray.empty = key') ∨ (p24 = -1 ∧ key' ∉ ks)) := by
                      rcases h24 with ⟨j, e, h1, h2⟩ | ⟨e, h1⟩
                      · exact ⟨j, e, .inl ⟨j, rfl, h1, h2.out⟩⟩
                      · exact ⟨-1, e, .inr ⟨rfl, h1.out⟩⟩
                    clear h24
                    go_upto_if 150 with fail
                    go_cut [24, 27, 28] from 151 to 159 (fun s24 s27 s28 wx => ∃ gW cW gX cX, s24 = .int .i64 pos ∧ s27 = .slice (some ⟨gW, 0, none⟩) ks'.length cW ∧ s28 = .slice (some ⟨gX, 0, none⟩) ks'.length cX ∧ Hid (End w wx gW cW gX cX O gk ck gv cv M ks' zs' pos))
                    case first =>
                      rcases H24.out with ⟨j, rfl, h1, h2⟩ | ⟨rfl, h1⟩
                      · have hdj : decide ((j : Int) < 0) = false := by simp
                        obtain ⟨ej, ek, hE⟩ := end_found HF.out h1 h2
                        have HE : Hid (j = pos ∧ ks' = ks ∧ End w wf gK cK gV ks.length O gk ck gv cv M ks' zs' pos) := ⟨ej, ek, hE⟩
                        clear ej ek hE h1 h2 H24
                        go_wp2
                        go_meet
                        case rel => exact ⟨gK, cK, gV, ks.length, by rw [HE.out.1], by rw [HE.out.2.1], by rw [HE.out.2.1], HE.out.2.2⟩
                      · obtain ⟨i0, i1, i2, i3, i4⟩ := info_parts infoS
                        obtain ⟨j0, j1, j2, j3, j4⟩ := info_parts infoI
                        have H1 : Hid (key' ∉ ks) := h1
                        have b1 : ks.length + 1 ≤ maxLen := by unfold maxLen; omega
                        have HX : Hid (SlI (wf.alloc (.cells #[.string key'] 9)) 9 gK ks.length cK (kf ks)) := HF.out.st.k.sl.turn ((Turn.refl (fun _ => False) wf).alloc _) (fun x => x)
                        clear h1 H24
                        go_upto_region 49 with (at_builtin; refine wpList_append_sl _ rfl (.tmp 153) (.tmp 155) 22 rfl 9 i0 (.string ⟨#[]⟩) 16 Yba.underlying22 i1 i2 i3 i4 rfl gK ks.length cK (kf ks) rfl HX.out wf.heap.size 0 1 1 (fun _ => .string key') rfl (new_one _ _ _) (fun _ _ => rfl) b1 (by omega) (wf.heap.size + 1) (by simp) ?_; intro gW cW w2 s2 t2 l2)
                        have HY : Hid (SlI (w2.alloc (.cells #[.int .i64 0] 3)) 3 gV ks.length ks.length (zf zs)) := ((HF.out.st.v.turn ((Turn.refl (fun _ => False) wf).alloc _) (fun x => x)).turn t2 (fun e => HF.out.st.ne e.symm)).turn ((Turn.refl (fun _ => False) w2).alloc _) (fun x => x)
                        have T2 : Hid (Turn (fun k => k = gK) wf w2) := ((Turn.refl (fun k => k = gK) wf).alloc _).trans t2 (fun _ _ e => e)
                        have S2 : Hid (SlI w2 9 gW (ks.length + 1) cW (fun j => if j < ks.length then kf ks j else .string key')) := s2
                        clear HX t2 s2
                        go_wp2_with (at_builtin; refine wpList_append_sl _ rfl (.tmp 157) (.tmp 158) 40 rfl 3 j0 (.int .i64 0) 8 Yba.underlying40 j1 j2 j3 j4 rfl gV ks.length ks.length (zf zs) rfl HY.out w2.heap.size 0 1 1 (fun _ => .int .i64 0) rfl (new_one _ _ _) (fun _ _ => rfl) b1 (by omega) (w2.heap.size + 1) (by simp) ?_; intro gX cX w4 s4 t4 l4)
                        go_meet
                        case rel =>
                          have T4 : Turn (fun k => k = gV) w2 w4 := ((Turn.refl (fun k => k = gV) w2).alloc _).trans t4 (fun _ _ e => e)
                          obtain ⟨e1, e2, hE⟩ := end_new HF.out H1.out hk S2.out T2.out (by omega) s4 T4
                          exact ⟨gW, cW, gX, cX, by rw [e1], by rw [e2], by rw [e2], hE⟩
                    case rest =>
                      obtain ⟨gW, cW, gX, cX, rfl, rfl, rfl, HE⟩ := hcut
                      obtain ⟨wg, rfl⟩ : ∃ wg : World, wg = wc := ⟨_, rfl⟩
                      clear HF H24
                      have hle' := HE.out.le
                      have hpos := HE.out.lt
                      have o0 : wg.cell? ⟨O, 0, none⟩ = some (.slice (some ⟨gk, 0, none⟩) ks'.length ck) := HE.out.ob.st.cell (by omega)
                      go_upto_if 175 with (first | (go_at_call 10; refine (equalS gk ck gW cW ks'.length (fun j => ks'.getD j ByteArray.empty) _ HE.out.ob.k HE.out.k (by omega)).mono ?_; rintro e w1 ⟨rfl, t1⟩; have HE1 : Hid (End w w1 gW cW gX cX O gk ck gv cv M ks' zs' pos) := HE.out.move t1; have o1 : w1.cell? ⟨O, 1, none⟩ = some (.slice (some ⟨gv, 0, none⟩) ks'.length cv) := HE1.out.ob.st.cell (by omega)) | (go_at_call 11; refine (equalI gv cv gX cX ks'.length (fun j => zs'.getD j 0) _ HE1.out.ob.v HE1.out.v (by omega)).mono ?_; rintro e w2 ⟨rfl, t2⟩; have HE2 : Hid (End w w2 gW cW gX cX O gk ck gv cv M ks' zs' pos) := HE1.out.move t2))
                      clear o0 o1 HE1 HE t1 t2
                      go_upto_region 52 with fail
                      have o1 : w2.cell? ⟨O, 1, none⟩ = some (.slice (some ⟨gv, 0, none⟩) ks'.length cv) := HE2.out.ob.st.cell (by omega)
                      have c1 : w2.cell? ⟨gv, pos, none⟩ = some (.int .i64 (zs'.getD pos 0)) := HE2.out.ob.v.cell hpos
                      have c2 : w2.cell? ⟨gX, pos, none⟩ = some (.int .i64 (zs'.getD pos 0)) := HE2.out.v.cell hpos
                      generalize zs'.getD pos 0 = zp at c1 c2
                      have hge : decide ((ks'.length : Int) ≤ (pos : Int)) = false := by simp; omega
                      have k0 : (0 : Int) ≤ (pos : Int) := by omega
                      have k1 : (pos : Int) < (ks'.length : Int) := by omega
                      have hq := fun (a : Addr) (wx : World) => run_neq_ptr_same (P := Yba.prog) wx 47 3 a Yba.underlying47 (by kernel_rfl)
                      go_quiet (fail)
                      have HE3 : Hid (End w (w2.drewN nq) gW cW gX cX O gk ck gv cv M ks' zs' pos) := HE2.out.move ((Turn.refl (fun _ => False) w2).drewN nq)
                      clear o1 c1 c2 hq hge k0 k1 HE2
                      generalize w2.drewN nq = w3 at HE3 ⊢
                      have q41 : ∀ (w : World) (r : Option Nat), (binOp .eql 41 (.map r) (.map none)).run Yba.prog w = .ok (.bool r.isNone) w := fun w r => run_eql_map_nil w _ _ _ r Yba.underlying41
                      have o2 : w3.cell? ⟨O, 2, none⟩ = some (.map (some M)) := HE3.out.ob.st.cell (by omega)
                      have hlen := HE3.out.ob.m.len 3
                      go_upto_block 10 with fail
                      clear hlen q41
                      go_wp2_with fail
                      go_loopg [224] ks'.length (fun gk i wr => ∃ q : Nat, q ≤ ks'.length ∧ gk = ks'.length - q ∧ i = .int .i64 q ∧ wr = w3)
                      case atStart => exact ⟨0, by omega, rfl, rfl, rfl⟩
                      case round =>
                        obtain ⟨q, hqn, hgk, rfl, rfl⟩ := hrel
                        by_cases hlt : q < ks'.length
                        · have hcj : wr.cell? ⟨gW, q, none⟩ = some (.string (ks'.getD q ByteArray.empty)) := HE3.out.k.cell hlt
                          have i0 : (0 : Int) ≤ (q : Int) := by omega
                          have i1 : (q : Int) < (ks'.length : Int) := by omega
                          have hgq : ks'[q]? = some (ks'.getD q ByteArray.empty) := by rw [List.getD_eq_getElem?_getD, List.getElem?_eq_getElem hlt]; rfl
                          have hlook := HE3.out.ob.m.look hgq (HE3.out.sz _ (getD_mem hlt))
                          clear hgq
                          generalize ks'.getD q ByteArray.empty = kj at hcj hlook
                          go_wp2
                          go_roundg (ks'.length - (q + 1))
                          case measure => omega
                          case rel => exact ⟨q + 1, by omega, rfl, by go_num, rfl⟩
                        · go_wp2
                          go_ret
                          exact ⟨rfl, HE3.out.turn.below (Nat.le_refl _) (fun _ h => h.elim)⟩
end Go.Proofs.Ybulkegoo
