/-
  (*Reply).Pieces$1: the iterator's contract.
-/
import Derived.Test.Qxb6614495aDoorReply
import Derived.Test.Qxb6614495aDoorAdd
namespace Go.Proofs.Qxb6614495aDoor
open Go.RowKit Go.Shelf
attribute [local go_sem] Oper.semAt_some

/-- What the iterator reads, in the world as it stands. -/
structure Base (b R s bx r : Nat) (T : List Value) (F : List (Nat × Value)) (tv rv : Value) (W : World) : Prop where
  box : W.heap[bx]? = some (.cells #[.pointer (some ⟨r, 0, none⟩)] 36 (0, 0))
  blk : W.heap[r]? = some (.cells #[tv, rv] 34 (0, 0))
  text : W.ownsRow 0 5 1 tv T.length T
  refs : W.ownsRow 0 62 2 rv F.length (flat F)
  sbx : Still b R s W bx
  sr : Still b R s W r
  st : ∀ k, tv.ownBlock = some k → Still b R s W k
  sf : ∀ k, rv.ownBlock = some k → Still b R s W k
  ok : Okay b W
  hb : b < W.heap.size
  hR : R < W.heap.size
  hs : s < W.heap.size

theorem Base.kp {b R s bx r : Nat} {T : List Value} {F : List (Nat × Value)} {tv rv : Value} {W W' : World} (h : Base b R s bx r T F tv rv W) (k : Kp b R s W W') : Base b R s bx r T F tv rv W' := by
  have lt : ∀ {i : Nat} {c t fr}, W.heap[i]? = some (Obj.cells c t fr) → i < W.heap.size := fun hi => (Array.getElem?_eq_some_iff.1 hi).1
  have row : ∀ {e : TypeId} {size n : Nat} {v : Value} {xs : List Value}, W.ownsRow 0 e size v n xs → (∀ k, v.ownBlock = some k → Still b R s W k) → W'.ownsRow 0 e size v n xs ∧ ∀ k, v.ownBlock = some k → Still b R s W' k := by
    intro e size n v xs ho hs
    refine ⟨⟨ho.1, ?_⟩, ?_⟩
    · rcases ho.2 with h | ⟨g, cap, cur, rfl, h1, hg, h2⟩
      · exact .inl h
      · exact .inr ⟨g, cap, cur, rfl, h1, k.cells _ _ _ _ hg (hs g rfl), h2⟩
    · intro q hq
      rcases ho.2 with ⟨rfl, _⟩ | ⟨g, cap, cur, rfl, h1, hg, h2⟩
      · simp [Value.ownBlock] at hq
      · simp [Value.ownBlock] at hq; subst hq; exact k.still _ (lt hg) (hs g rfl)
  exact ⟨k.cells _ _ _ _ h.box h.sbx, k.cells _ _ _ _ h.blk h.sr, (row h.text h.st).1, (row h.refs h.sf).1, k.still _ (lt h.box) h.sbx, k.still _ (lt h.blk) h.sr, (row h.text h.st).2, (row h.refs h.sf).2, k.okay h.ok, Nat.lt_of_lt_of_le h.hb k.size, Nat.lt_of_lt_of_le h.hR k.size, Nat.lt_of_lt_of_le h.hs k.size⟩

theorem Kp.alloc {b R s : Nat} {W : World} (hb : b < W.heap.size) (o : Obj) : Kp b R s W (W.alloc o) := by
  have e : ∀ k, ownAt b (W.alloc o) k ↔ ownAt b W k := fun k => by
    unfold ownAt
    rw [World.cell?_of_block (w' := W.alloc o) (w := W) (a := ⟨b, 0, none⟩) (Below.heap_alloc W o b hb)]
  refine ⟨by simp, fun k c t fr hk _ => (Below.heap_alloc W o k (Array.getElem?_eq_some_iff.1 hk).1).trans hk, fun k _ hs => ⟨hs.1, hs.2.1, hs.2.2.1, fun h => hs.2.2.2 ((e k).1 h)⟩, fun ho k hk => ?_⟩
  have := ho k ((e k).1 hk); simp; omega

theorem Kp.drew {b R s : Nat} (W : World) : Kp b R s W W.drew := ⟨Nat.le_refl _, fun _ _ _ _ h _ => h, fun _ _ h => h, fun h => h⟩
theorem Kp.drewN {b R s : Nat} (W : World) (n : Nat) : Kp b R s W (W.drewN n) := ⟨Nat.le_refl _, fun _ _ _ _ h _ => h, fun _ _ h => h, fun h => h⟩
/-- A new block is none of the sink's. -/
theorem Base.new {b R s bx r : Nat} {T : List Value} {F : List (Nat × Value)} {tv rv : Value} {W : World} (h : Base b R s bx r T F tv rv W) (o : Obj) : Still b R s (W.alloc o) W.heap.size := by
  have := h.hb; have := h.hR; have := h.hs
  refine ⟨by omega, by omega, by omega, fun e => ?_⟩
  unfold ownAt at e
  rw [World.cell?_of_block (w' := W.alloc o) (w := W) (a := ⟨b, 0, none⟩) (Below.heap_alloc W o b h.hb)] at e
  exact absurd (h.ok _ e) (Nat.lt_irrefl _)
theorem Base.b0 {b R s bx r : Nat} {T : List Value} {F : List (Nat × Value)} {tv rv : Value} {W : World} (h : Base b R s bx r T F tv rv W) : W.cell? ⟨bx, 0, none⟩ = some (.pointer (some ⟨r, 0, none⟩)) := by rw [Lib.cell_of_heap h.box]; rfl

theorem act_to {Q : Exit → Act → World → Prop} {e : Exit} {a a' : Act} {w : World} (ha : a = a') (h : Q e a' w) : Q e a w := ha ▸ h

theorem flat_at : ∀ (F : List (Nat × Value)) (k : Nat) (h : k < F.length), (flat F)[k * 2]? = some (.int .i64 (F[k].1 : Nat)) ∧ (flat F)[k * 2 + 1]? = some F[k].2
  | p :: F, 0, _ => ⟨rfl, rfl⟩
  | p :: F, k + 1, h => by
    have e : flat (p :: F) = .int .i64 (p.1 : Nat) :: p.2 :: flat F := rfl
    have := flat_at F k (by simpa using h)
    rw [e, show (k + 1) * 2 = k * 2 + 1 + 1 from by omega]
    simpa using this

set_option maxHeartbeats 8000000 in
set_option maxRecDepth 100000 in
theorem iter_in (b R s bx r : Nat) (w : World) (T : List Value) (Z : List (Nat × Piece w b)) (tv rv : Value) (l N : Nat) (J Jx : List (Piece w b) → World → Prop) (W : World)
    (hN : 2 * Z.length + 1 ≤ N) (hT : T.length ≤ 2097152) (hone : ∀ u ∈ T, u.oneCell' = true) (hris : rising T.length 0 (Z.map (·.1)))
    (hText : ∀ g c, tv = .slice (some ⟨g, 0, none⟩) T.length c → g < b ∧ ∀ j u, T[j]? = some u → w.cell? ⟨g, j, none⟩ = some u)
    (hJ : AbidesFrom W.heap.size J) (hbase : Base b R s bx r T (Z.map fun p => (p.1, p.2.enc)) tv rv W)
    (hY : ∀ pre x W1, J pre W1 → pre.length < N → YieldAt Fence.wide 1 Tryd.prog l #[Piece.enc x] W1 fun e W' => (e = .returned (.bool true) ∧ J (pre ++ [x]) W' ∧ Kp b R s W1 W') ∨ (e = .returned (.bool false) ∧ Jx (pre ++ [x]) W'))
    (h0 : J [] W) :
    CallsIn Fence.wide 2 Tryd.prog 29 #[.func (.yield l) #[] #[], .pointer (some ⟨bx, 0, none⟩)] W fun e W' => (∃ v, e = .returned v) ∧ ((∃ ys, bytesOf ys = parts T 0 (Z.map fun p => (p.1, p.2.bytes)) ∧ J ys W') ∨ (∃ pre, True ∧ Jx pre W')) := by
  obtain ⟨ta, tc, htv, htc, htm⟩ := own_shape hbase.text
  obtain ⟨ra, rc, hrv, hrc, hrm⟩ := own_shape hbase.refs
  subst htv hrv
  rw [List.length_map] at hrc hbase
  have c0 := hbase.b0
  have c1 : W.cell? ⟨r, 1, none⟩ = some (.slice ra Z.length rc) := (rep_cells hbase.blk).2.1
  unfold maxLen at htm hrm
  refine callsIn_of_wp Tryd.func29 rfl trivial ?_ rfl
  simp only [Tryd.ntmps29, List.size_toArray, List.length_cons, List.length_nil, Nat.reduceAdd, Nat.reduceSub, Array.replicate_succ, Array.replicate_zero, List.push_toArray, List.append_toArray, List.nil_append, List.cons_append]
  gi_wp2
  gi_loopw [3, 11] (fun t3 t11 wr => ∃ (k fr : Nat) (pre : List (Piece w b)), k ≤ Z.length ∧ t11 = .int .i64 (k : Nat) ∧ t3 = .int .i64 (fr : Nat) ∧ rising T.length fr ((Z.drop k).map (·.1)) ∧ bytesOf pre ++ parts T fr ((Z.drop k).map fun p => (p.1, p.2.bytes)) = parts T 0 (Z.map fun p => (p.1, p.2.bytes)) ∧ pre.length ≤ 2 * k ∧ J pre wr ∧ Base b R s bx r T (Z.map fun p => (p.1, p.2.enc)) (.slice ta T.length tc) (.slice ra Z.length rc) wr ∧ W.heap.size ≤ wr.heap.size)
    (fun _ t11 _ => Z.length - (intOf t11).toNat)
  case atStart => exact ⟨0, 0, [], Nat.zero_le _, rfl, rfl, hris, rfl, Nat.zero_le _, h0, hbase, Nat.le_refl _⟩
  case round =>
    obtain ⟨k, fr, pre, hk, rfl, rfl, hri, hpa, hpl, hJp, hB, hsz⟩ := hrel
    have hfrT := rising_le hri
    clear hbase c0 c1
    rcases Nat.lt_or_ge k Z.length with hlt | hge
    · obtain ⟨⟨at_, y⟩, hz⟩ : ∃ p, Z[k] = p := ⟨_, rfl⟩
      rw [List.drop_eq_getElem_cons hlt, hz] at hri hpa
      simp only [List.map_cons, rising, parts] at hri hpa
      have hne : ∃ g, ra = some ⟨g, 0, none⟩ := by
        rcases hB.refs.2 with ⟨h, _⟩ | ⟨g, cap, cur, h, _⟩
        · injection h with h1 h2; omega
        · injection h with h1; exact ⟨g, h1⟩
      obtain ⟨rg, rfl⟩ := hne
      have hcell : ∀ j, j < Z.length * 2 → wr.cell? ⟨rg, j, none⟩ = (flat (Z.map fun p => (p.1, p.2.enc)))[j]? := fun j hj => by
        have := hB.refs
        rw [List.length_map] at this
        exact this.cellAt j (by omega)
      have hf := flat_at (Z.map fun p => (p.1, p.2.enc)) k (by rw [List.length_map]; exact hlt)
      rw [List.getElem_map, hz] at hf
      have hc1 := (hcell (k * 2) (by omega)).trans hf.1
      have hc2 := (hcell (k * 2 + 1) (by omega)).trans hf.2
      have hatT := rising_le hri.2
      obtain ⟨yb, yo, yn, yc, hye⟩ : ∃ yb yo yn yc, y.enc = .slice (some ⟨yb, yo, none⟩) yn yc := ⟨_, _, _, _, rfl⟩
      rw [hye] at hc2
      have hmx : Tryd.prog.follows .mixedOrders = true := by kernel_rfl
      gi_wp2
      clear hc1 hc2
      obtain ⟨V, hV⟩ : ∃ V, wr.alloc (.cells #[.int .i64 (at_ : Nat), .slice (some ⟨yb, yo, none⟩) yn yc] 62) = V := ⟨_, rfl⟩
      have hg : wr.grownBy V none := by rw [← hV]; exact World.grownBy_alloc wr _ none
      have hBV : Base b R s bx r T (Z.map fun p => (p.1, p.2.enc)) (.slice ta T.length tc) (.slice (some ⟨rg, 0, none⟩) Z.length rc) V.drew := by rw [← hV]; exact (hB.kp (Kp.alloc hB.hb _)).kp (Kp.drew _)
      have hbox : V.drew.heap[wr.heap.size]? = some (.cells #[.int .i64 (at_ : Nat), .slice (some ⟨yb, yo, none⟩) yn yc] 62 (0, 0)) := by rw [← hV]; exact heap_alloc_new wr _
      have hst : Still b R s V.drew wr.heap.size := by rw [← hV]; exact hB.new _
      have hJV : J pre V.drew := hJ pre wr _ none hJp ⟨hg.os, hg.tape, hg.output, hg.size, hg.block⟩ (fun r e => by cases e)
      rw [hV]
      have hszV : W.heap.size ≤ V.drew.heap.size := Nat.le_trans hsz hg.size
      clear hV hg
      have b0 := hBV.b0
      have b1 : V.drew.cell? ⟨r, 0, none⟩ = some (.slice ta T.length tc) := (rep_cells hBV.blk).1
      have b2 : V.drew.cell? ⟨wr.heap.size, 0, none⟩ = some (.int .i64 (at_ : Nat)) := by rw [Lib.cell_of_heap hbox]; rfl
      by_cases hfa : fr < at_
      · have hne : ∃ g, ta = some ⟨g, 0, none⟩ := by
          rcases hB.text.2 with ⟨h, _⟩ | ⟨g, cap, cur, h, _⟩
          · injection h with h1 h2; omega
          · injection h with h1; exact ⟨g, h1⟩
        obtain ⟨tg, rfl⟩ := hne
        obtain ⟨t1, t2⟩ := hText tg tc rfl
        have hx : Readable w b (tg, fr, at_ - fr, tc - fr, (T.drop fr).take (at_ - fr)) := by
          refine ⟨by simp; omega, by simp only; omega, by simp only [maxLen]; omega, by simp only; omega, t1, fun j u hj => t2 _ _ ?_, fun u hu => hone u (List.mem_of_mem_drop (List.mem_of_mem_take hu))⟩
          rw [List.getElem?_take] at hj
          split at hj
          · rw [List.getElem?_drop] at hj; exact hj
          · cases hj
        obtain ⟨x, hxe, hxb⟩ : ∃ x : Piece w b, x.enc = .slice (some ⟨tg, fr, none⟩) (at_ - fr) (tc - fr) ∧ x.bytes = (T.drop fr).take (at_ - fr) := ⟨⟨_, hx⟩, rfl, rfl⟩
        have hY1 := (hY pre x V.drew hJV (by omega)).mono (R' := fun e W' => ∃ ok : Bool, e = .returned (.bool ok) ∧ (ok = true → J (pre ++ [x]) W' ∧ Kp b R s V.drew W') ∧ (ok = false → Jx (pre ++ [x]) W')) (by
          rintro e W' (⟨rfl, h1, h2⟩ | ⟨rfl, h1⟩)
          · exact ⟨true, rfl, (fun _ => ⟨h1, h2⟩), (fun e => by cases e)⟩
          · exact ⟨false, rfl, (fun e => by cases e), fun _ => h1⟩)
        obtain ⟨fn, tmps, assign, body, hy, hR⟩ := hY1
        rw [hxe] at hy
        gi_region_with_o (refine hR.mono ?_; rintro e W4 ⟨ok, rfl, hok⟩)
        all_goals
          cases ok
          · have hokf := hok.2 rfl
            clear hok
            gi_wp2
            refine bodyPost_ret (results_none rfl _ _ _) rfl ?_
            exact ⟨⟨_, rfl⟩, .inr ⟨_, trivial, hokf⟩⟩
          · obtain ⟨hJ4, hk4⟩ := hok.1 rfl
            clear hok
            have hB4 := hBV.kp hk4
            have hbox4 := hk4.cells _ _ _ _ hbox hst
            have hst4 := hk4.still _ (Array.getElem?_eq_some_iff.1 hbox).1 hst
            have hsz4 := Nat.le_trans hszV hk4.size
            obtain ⟨pre4, hp4⟩ : ∃ pre4, pre ++ [x] = pre4 := ⟨_, rfl⟩
            have hpl4 : pre4.length ≤ 2 * k + 1 := by rw [← hp4, List.length_append]; simp only [List.length_cons, List.length_nil]; omega
            have hpa4 : bytesOf pre4 ++ (y.bytes ++ parts T at_ ((Z.drop (k + 1)).map fun p => (p.1, p.2.bytes))) = bytesOf pre ++ ((T.drop fr).take (at_ - fr) ++ y.bytes ++ parts T at_ ((Z.drop (k + 1)).map fun p => (p.1, p.2.bytes))) := by
              rw [← hp4, bytesOf_snoc, hxb]; simp only [List.append_assoc]
            rw [hp4] at hJ4
            clear hp4 hR hy hBV hbox hst hJV b0 b1 b2
            have b4 : W4.cell? ⟨wr.heap.size, 1, none⟩ = some (.slice (some ⟨yb, yo, none⟩) yn yc) := by rw [Lib.cell_of_heap hbox4]; rfl
            obtain ⟨fn2, tmps2, assign2, body2, hy2, hR2⟩ := hY pre4 y W4 hJ4 (by omega)
            rw [hye] at hy2
            gi_wp2
            refine hR2.mono ?_
            rintro e W5 (⟨rfl, hJ5, hk5⟩ | ⟨rfl, hJx5⟩)
            · have b5 : W5.cell? ⟨wr.heap.size, 0, none⟩ = some (.int .i64 (at_ : Nat)) := by rw [Lib.cell_of_heap (hk5.cells _ _ _ _ hbox4 hst4)]; rfl
              have hB5 := hB4.kp hk5
              have hlim : k < 9223372036854775807 := by omega
              gi_wp2
              go_roundw
              case rel =>
                refine ⟨k + 1, at_, pre4 ++ [y], hlt, ?_, rfl, hri.2, ?_, by simp; omega, hJ5, hB5, Nat.le_trans hsz4 hk5.size⟩
                · go_num
                · rw [bytesOf_snoc, ← hpa, ← hpa4, List.append_assoc]
              case measure => simp [intOf]; omega
            · gi_wp2
              refine bodyPost_ret (results_none rfl _ _ _) rfl ?_
              exact ⟨⟨_, rfl⟩, .inr ⟨_, trivial, hJx5⟩⟩
      · have hfe : fr = at_ := by omega
        clear hfa
        subst hfe
        refine wpIn_region_any hmx ?_
        change wpAnyIn _ _ _ _ _ _ _ _ _ (World.drew _)
        refine wpAnyIn_take (i := 0) (v := .pointer (some ⟨wr.heap.size, 0, none⟩)) rfl rfl (by kernel_rfl) (by kernel_rfl) (by kernel_rfl) (fun _ _ _ h => h) ⟨Or.inl ⟨by rfl, fun w => by go_simp⟩, fun _ => rfl⟩ ?_
        refine wpAnyIn_take (i := 2) (v := .int .i64 (fr : Nat)) rfl rfl (by kernel_rfl) (by kernel_rfl) (by kernel_rfl) (fun _ _ _ h => h) ⟨Or.inl ⟨by rfl, fun w => by go_simp⟩, fun _ => rfl⟩ ?_
        refine wpAnyIn_ready (rs := [1]) (by kernel_rfl) (by simp) ?_
        refine AllReadyIn.cons rfl (fun K hK => ?_) AllReadyIn.nil
        go_simp
        refine hK _ _ ?_
        clear hK K
        refine wpAnyIn_take (i := 3) (v := .bool false) rfl rfl (by kernel_rfl) (by kernel_rfl) (by kernel_rfl) (fun _ _ _ h => h) ⟨Or.inl ⟨by rfl, fun w => by go_simp⟩, fun _ => rfl⟩ ?_
        refine wpAnyIn_take (i := 4) (v := .bool false) rfl rfl (by kernel_rfl) (by kernel_rfl) (by kernel_rfl) (fun _ _ _ h => h) ⟨Or.inl ⟨by rfl, fun w => by go_simp⟩, fun _ => rfl⟩ ?_
        refine wpAnyIn_take (i := 5) (v := undef) rfl rfl (by kernel_rfl) (by kernel_rfl) (by kernel_rfl) (fun _ _ _ h => h) ⟨Or.inr ⟨by kernel_rfl, rfl⟩, fun _ => by kernel_rfl⟩ ?_
        refine wpAnyIn_take (i := 6) (v := undef) rfl rfl (by kernel_rfl) (by kernel_rfl) (by kernel_rfl) (fun _ _ _ h => h) ⟨Or.inr ⟨by kernel_rfl, rfl⟩, fun _ => by kernel_rfl⟩ ?_
        refine wpAnyIn_take (i := 7) (v := undef) rfl rfl (by kernel_rfl) (by kernel_rfl) (by kernel_rfl) (fun _ _ _ h => h) ⟨Or.inr ⟨by kernel_rfl, rfl⟩, fun _ => by kernel_rfl⟩ ?_
        refine wpAnyIn_take (i := 8) (v := undef) rfl rfl (by kernel_rfl) (by kernel_rfl) (by kernel_rfl) (fun _ _ _ h => h) ⟨Or.inr ⟨by kernel_rfl, rfl⟩, fun _ => by kernel_rfl⟩ ?_
        refine wpAnyIn_take (i := 9) (v := undef) rfl rfl (by kernel_rfl) (by kernel_rfl) (by kernel_rfl) (fun _ _ _ h => h) ⟨Or.inr ⟨by kernel_rfl, rfl⟩, fun _ => by kernel_rfl⟩ ?_
        refine wpAnyIn_take (i := 10) (v := undef) rfl rfl (by kernel_rfl) (by kernel_rfl) (by kernel_rfl) (fun _ _ _ h => h) ⟨Or.inr ⟨by kernel_rfl, rfl⟩, fun _ => by kernel_rfl⟩ ?_
        refine wpAnyIn_take (i := 11) (v := undef) rfl rfl (by kernel_rfl) (by kernel_rfl) (by kernel_rfl) (fun _ _ _ h => h) ⟨Or.inr ⟨by kernel_rfl, rfl⟩, fun _ => by kernel_rfl⟩ ?_
        refine wpAnyIn_take (i := 12) (v := undef) rfl rfl (by kernel_rfl) (by kernel_rfl) (by kernel_rfl) (fun _ _ _ h => h) ⟨Or.inr ⟨by kernel_rfl, rfl⟩, fun _ => by kernel_rfl⟩ ?_
        refine wpAnyIn_take (i := 13) (v := undef) rfl rfl (by kernel_rfl) (by kernel_rfl) (by kernel_rfl) (fun _ _ _ h => h) ⟨Or.inr ⟨by kernel_rfl, rfl⟩, fun _ => by kernel_rfl⟩ ?_
        refine wpAnyIn_take (i := 14) (v := undef) rfl rfl (by kernel_rfl) (by kernel_rfl) (by kernel_rfl) (fun _ _ _ h => h) ⟨Or.inr ⟨by kernel_rfl, rfl⟩, fun _ => by kernel_rfl⟩ ?_
        refine wpAnyIn_take (i := 15) (v := undef) rfl rfl (by kernel_rfl) (by kernel_rfl) (by kernel_rfl) (fun _ _ _ h => h) ⟨Or.inr ⟨by kernel_rfl, rfl⟩, fun _ => by kernel_rfl⟩ ?_
        refine wpAnyIn_take (i := 16) (v := .bool false) rfl rfl (by kernel_rfl) (by kernel_rfl) (by kernel_rfl) (fun _ _ _ h => h) ⟨Or.inl ⟨by kernel_rfl, fun w => by go_simp⟩, fun _ => by kernel_rfl⟩ ?_
        refine wpAnyIn_done (by kernel_rfl) ?_ _
        refine act_to (a' := { tmps := #[.func (.yield l) #[] #[], .pointer (some ⟨bx, 0, none⟩), undef, .int .i64 (fr : Nat), undef, .pointer (some ⟨wr.heap.size, 0, none⟩), .pointer (some ⟨r, 0, none⟩), .pointer (some ⟨r, 0, none⟩), .pointer (some ⟨r, 1, none⟩), .slice (some ⟨rg, 0, none⟩) Z.length rc, .int .i64 (Z.length : Nat), .int .i64 (k : Nat), .bool true, .pointer (some ⟨rg, k * 2, none⟩), .agg #[.int .i64 (fr : Nat), .slice (some ⟨yb, yo, none⟩) yn yc], .pointer (some ⟨wr.heap.size, 0, none⟩), .int .i64 (fr : Nat), .int .i64 (fr : Nat), .bool false, .bool false, undef, undef, undef, undef, undef, undef, undef, undef, undef, undef, undef, .bool false, u32, u33, u34, u35, u36, u37, u38, u39, undef, undef, undef, undef, undef, undef, undef, undef, undef, undef, undef, undef, undef, undef, undef], defers := [] }) (by kernel_rfl) ?_
        obtain ⟨W4, hW4⟩ : ∃ W4, V.drew = W4 := ⟨_, rfl⟩
        have hB4 := hBV
        have hbox4 := hbox
        have hst4 := hst
        have hsz4 := hszV
        have hJ4 := hJV
        rw [hW4] at hB4 hbox4 hst4 hsz4 hJ4
        obtain ⟨pre4, hp4⟩ : ∃ pre4, pre = pre4 := ⟨_, rfl⟩
        have hpl4 : pre4.length ≤ 2 * k + 1 := by rw [← hp4]; omega
        have hpa4 : bytesOf pre4 ++ (y.bytes ++ parts T fr ((Z.drop (k + 1)).map fun p => (p.1, p.2.bytes))) = bytesOf pre ++ ((T.drop fr).take (fr - fr) ++ y.bytes ++ parts T fr ((Z.drop (k + 1)).map fun p => (p.1, p.2.bytes))) := by
          rw [← hp4, Nat.sub_self]; simp only [List.take_zero, List.nil_append]
        rw [hp4] at hJ4
        rw [hW4]
        clear hp4 hBV hbox hst hJV b0 b1 b2
        have b4 : W4.cell? ⟨wr.heap.size, 1, none⟩ = some (.slice (some ⟨yb, yo, none⟩) yn yc) := by rw [Lib.cell_of_heap hbox4]; rfl
        obtain ⟨fn2, tmps2, assign2, body2, hy2, hR2⟩ := hY pre4 y W4 hJ4 (by omega)
        rw [hye] at hy2
        gi_wp2
        refine hR2.mono ?_
        rintro e W5 (⟨rfl, hJ5, hk5⟩ | ⟨rfl, hJx5⟩)
        · have b5 : W5.cell? ⟨wr.heap.size, 0, none⟩ = some (.int .i64 (fr : Nat)) := by rw [Lib.cell_of_heap (hk5.cells _ _ _ _ hbox4 hst4)]; rfl
          have hB5 := hB4.kp hk5
          have hlim : k < 9223372036854775807 := by omega
          gi_wp2
          go_roundw
          case rel =>
            refine ⟨k + 1, fr, pre4 ++ [y], hlt, ?_, rfl, hri.2, ?_, by simp; omega, hJ5, hB5, Nat.le_trans hsz4 hk5.size⟩
            · go_num
            · rw [bytesOf_snoc, ← hpa, ← hpa4, List.append_assoc]
          case measure => simp [intOf]; omega
        · gi_wp2
          refine bodyPost_ret (results_none rfl _ _ _) rfl ?_
          exact ⟨⟨_, rfl⟩, .inr ⟨_, trivial, hJx5⟩⟩
    · obtain rfl : k = Z.length := by omega
      rw [List.drop_length] at hri hpa
      simp only [List.map_nil, parts] at hpa
      have b0 := hB.b0
      have b1 : wr.cell? ⟨r, 0, none⟩ = some (.slice ta T.length tc) := (rep_cells hB.blk).1
      by_cases hft : fr < T.length
      · have hne : ∃ g, ta = some ⟨g, 0, none⟩ := by
          rcases hB.text.2 with ⟨h, _⟩ | ⟨g, cap, cur, h, _⟩
          · injection h with h1 h2; omega
          · injection h with h1; exact ⟨g, h1⟩
        obtain ⟨tg, rfl⟩ := hne
        obtain ⟨t1, t2⟩ := hText tg tc rfl
        have hx : Readable w b (tg, fr, T.length - fr, tc - fr, T.drop fr) := by
          refine ⟨by simp, by simp only; omega, by simp only [maxLen]; omega, by simp only; omega, t1, fun j u hj => t2 _ _ ?_, fun u hu => hone u (List.mem_of_mem_drop hu)⟩
          rw [List.getElem?_drop] at hj; exact hj
        obtain ⟨x, hxe, hxb⟩ : ∃ x : Piece w b, x.enc = .slice (some ⟨tg, fr, none⟩) (T.length - fr) (tc - fr) ∧ x.bytes = T.drop fr := ⟨⟨_, hx⟩, rfl, rfl⟩
        have hY1 := (hY pre x wr hJp (by omega)).mono (R' := fun e W' => ∃ ok : Bool, e = .returned (.bool ok) ∧ (ok = true → J (pre ++ [x]) W' ∧ Kp b R s wr W') ∧ (ok = false → Jx (pre ++ [x]) W')) (by
          rintro e W' (⟨rfl, h1, h2⟩ | ⟨rfl, h1⟩)
          · exact ⟨true, rfl, (fun _ => ⟨h1, h2⟩), (fun e => by cases e)⟩
          · exact ⟨false, rfl, (fun e => by cases e), fun _ => h1⟩)
        obtain ⟨fn, tmps, assign, body, hy, hR⟩ := hY1
        rw [hxe] at hy
        gi_wp2
        refine hR.mono ?_
        rintro e W4 ⟨ok, rfl, hok⟩
        gi_wp2
        go_end0
        cases ok
        · exact ⟨⟨_, rfl⟩, .inr ⟨_, trivial, hok.2 rfl⟩⟩
        · exact ⟨⟨_, rfl⟩, .inl ⟨_, by rw [bytesOf_snoc, hxb]; exact hpa, (hok.1 rfl).1⟩⟩
      · have hfe : fr = T.length := by omega
        gi_wp2
        go_end0
        refine ⟨⟨_, rfl⟩, .inl ⟨pre, ?_, hJp⟩⟩
        rw [← hpa, hfe, List.drop_length, List.append_nil]
end Go.Proofs.Qxb6614495aDoor
