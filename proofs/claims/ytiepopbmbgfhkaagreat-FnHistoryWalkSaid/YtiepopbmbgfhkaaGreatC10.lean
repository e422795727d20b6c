/-
  FnHistoryWalk: the law's walk.
-/
import Derived.Test.YtiepopbmbgfhkaaGreatC7
import Derived.Test.YtiepopbmbgfhkaaGreatC9
namespace Go.Proofs.YtiepopbmbgfhkaaGreat
open Go.RowKit
set_option maxHeartbeats 8000000
set_option maxRecDepth 20000
set_option linter.unusedVariables false
set_option linter.unusedSimpArgs false

/-- 'append(v, ts...)': texts that lie in a new block. -/
theorem wp_appos {o : Oper} {a : Act} {w : World} {K : Act → World → Prop} {Q : Exit → Act → World → Prop} {base : Nat} {v : Value} {xs ys : List ByteArray} {b c : Nat} (s x : Operand) (ho : o.op = .call { callee := .builtin .append, args := #[s, x], argTypes := #[23, 23] })
    (hs : a.eval s = v) (hx : a.eval x = .slice (some ⟨b, 0, none⟩) ys.length c) (hr : OS base w v xs) (hd : Blk w b (ys.map Value.string).toArray 9) (hlen : xs.length + ys.length ≤ 1000000) (hb : base ≤ w.heap.size)
    (h : ∀ p n c w', OS base w' (.slice p n c) (xs ++ ys) → ((Value.slice p n c).ownBlock = v.ownBlock ∨ (Value.slice p n c).ownBlock = some w.heap.size) → Fr base [] v.ownBlock.toList w w' → K (a.put o.dst (.slice p n c)) w') : o.wp Tryz.prog a w K Q := by
  obtain ⟨i, h1, h2, h3, h4⟩ := info9
  obtain ⟨v', w', hrun, hown', hgr, hnil, hat⟩ := run_append_own_at (P := Tryz.prog) w base 23 o.type 9 i (.string .empty) 1 16 (by kernel_rfl) h1 h2 h3 h4 rfl (by decide) v xs.length _ hr
    ⟨b, 0, none⟩ ys.length c (ys.map Value.string) (by simp) (fun j u hj => by
      rw [add_at, hd.cell]
      rw [← hj]
      simp)
    (fun u hu => by simp only [List.mem_map] at hu; obtain ⟨t, -, rfl⟩ := hu; rfl) (by simp only [maxLen]; omega) (by omega) hb
  have hP : OS base w' v' (xs ++ ys) := by unfold OS; rw [List.length_append]; simpa using hown'
  obtain ⟨p, c', rfl⟩ := hP.form
  unfold Oper.wp execOp
  simp only [ho, resolve, invoke, builtin, Sem.run_bind, Sem.run_pure, Result.andThen_ok, List.map_toArray, List.map_cons, List.map_nil, hs, hx, hrun]
  exact h p _ c' w' hP hat ((Fr.refl base [] _ w).grown hgr fun k hk => by
    obtain ⟨e1, -⟩ := row_blk hr k hk
    exact ⟨e1, .inl (by rw [hk]; simp)⟩)

theorem fr_append {w wa w1 : World} {v : Value} {xs : List ByteArray} {M : Nat} (h : Fr 0 [] [] w wa) (hO : OS M wa v xs) (hM : w.heap.size = M) (k : Fr M [] v.ownBlock.toList wa w1) : Fr 0 [] [] w w1 :=
  h.step (k.base_mono (Nat.zero_le _)) (by simp) fun y hy => by
    have hy : v.ownBlock = some y := by simpa using hy
    obtain ⟨e1, -⟩ := row_blk hO y hy
    exact .inr (.inl (by omega))
theorem blk_append {wa w1 : World} {v : Value} {xs : List ByteArray} {M b : Nat} {cs : Array Value} {t : TypeId} (hB : Blk wa b cs t) (h9 : t ≠ 9) (hO : OS M wa v xs) (k : Fr M [] v.ownBlock.toList wa w1) : Blk w1 b cs t :=
  k.blk hB (.inr ⟨fun hy => by
    have hy : v.ownBlock = some b := by simpa using hy
    obtain ⟨-, ds, e⟩ := row_blk hO b hy
    exact h9 (hB.inj e).2, by simp⟩)
theorem os_lt {w : World} {v : Value} {xs : List ByteArray} {M : Nat} (hO : OS M w v xs) : ∀ A n c, v = .slice (some A) n c → A.block < w.heap.size := fun A n c e => by
  obtain ⟨h1, ⟨rfl, h2⟩ | ⟨g, cap, cur, rfl, hb, hg, hn, hcap, hsz, hx⟩⟩ := hO
  · simp at e
  · simp only [Value.slice.injEq, Option.some.injEq] at e
    rw [← e.1]
    exact Blk.lt hg
theorem lineKeys_take {texts : List ByteArray} {i : Nat} (hi : i < texts.length) : lineKeys (texts.take (i + 1)) = lineKeys (texts.take i) ++ [texts[i], crT] := by
  rw [List.take_succ_eq_append_getElem hi, lineKeys_append]
  rfl

theorem hw_n {up m n : Nat} (h0 : ¬ m = 0) (h8 : m ≤ 8) (hn : n = 1 + up % m) : 1 ≤ n ∧ n ≤ m ∧ wrap64 (1 + (up : Int) % (m : Int)) = (n : Int) := by
  have h1 := Nat.mod_lt up (show 0 < m by omega)
  have e : 1 + (up : Int) % (m : Int) = (n : Int) := by rw [hn]; simp
  refine ⟨by omega, by omega, ?_⟩
  rw [e]
  unfold wrap64
  omega

structure HwFacts (S : Raw) (texts : List ByteArray) (begun bk : ByteArray) (n : Nat) : Prop where
  p1 : play S.bare.sess.nsFed ns0 (lineKeys texts ++ begunKeys begun ++ List.replicate n upT) = (hwS texts begun (texts.length - n), false)
  s1 : ∀ i, i ≤ (lineKeys texts ++ begunKeys begun ++ List.replicate n upT).length → NsOk (play S.bare.sess.nsFed ns0 ((lineKeys texts ++ begunKeys begun ++ List.replicate n upT).take i)).1
  k1 : ∀ i (hi : i < (lineKeys texts ++ begunKeys begun ++ List.replicate n upT).length), NsKey (play S.bare.sess.nsFed ns0 ((lineKeys texts ++ begunKeys begun ++ List.replicate n upT).take i)).1 (lineKeys texts ++ begunKeys begun ++ List.replicate n upT)[i]
  p2 : play S.bare.sess.nsFed ns0 (lineKeys texts ++ begunKeys begun ++ List.replicate n upT ++ List.replicate n dnT) = (hwS texts begun texts.length, false)
  s2 : ∀ i, i ≤ (lineKeys texts ++ begunKeys begun ++ List.replicate n upT ++ List.replicate n dnT).length → NsOk (play S.bare.sess.nsFed ns0 ((lineKeys texts ++ begunKeys begun ++ List.replicate n upT ++ List.replicate n dnT).take i)).1
  k2 : ∀ i (hi : i < (lineKeys texts ++ begunKeys begun ++ List.replicate n upT ++ List.replicate n dnT).length), NsKey (play S.bare.sess.nsFed ns0 ((lineKeys texts ++ begunKeys begun ++ List.replicate n upT ++ List.replicate n dnT).take i)).1 (lineKeys texts ++ begunKeys begun ++ List.replicate n upT ++ List.replicate n dnT)[i]
  len : (lineKeys texts ++ begunKeys begun).length ≤ 17
  bk : hwT texts begun (texts.length - n) = bk
theorem hw_facts {S : Raw} {texts : List ByteArray} {begun : ByteArray} {n : Nat} (HR : RawOk S.bare) (hG : ∀ x ∈ texts, Prn x ∧ x.size ≤ 40 ∧ x.size ≠ 0) (h1 : ¬ texts.length = 0) (h8 : texts.length ≤ 8) (hb : Prn begun) (hbz : begun.size ≤ 40) (hn1 : 1 ≤ n) (hn : n ≤ texts.length) :
    ∃ bk, HwFacts S texts begun bk n ∧ ∀ j (hj : j < texts.length), j = texts.length - n → texts[j] = bk := by
  obtain ⟨g1, g2⟩ := goes_walk (S := S.bare.sess) (texts := texts) (begun := begun) rfl (Raw.sess_ok HR).m1 hG (by omega) h8 hb hbz hn1 hn
  obtain ⟨a1, a2, a3⟩ := g1.play
  obtain ⟨b1, b2, b3⟩ := g2.play
  refine ⟨_, ⟨a1, a2, a3, b1, b2, b3, ?_, rfl⟩, fun j hj e => ?_⟩
  · rw [List.length_append, lineKeys_length]
    have : (begunKeys begun).length ≤ 1 := by unfold begunKeys; split <;> simp
    omega
  · subst e
    rw [hwT_mid hj, List.getD_eq_getElem?_getD, List.getElem?_eq_getElem hj]
    rfl

theorem hw_cell {w : World} {tb tf n : Nat} {texts : List ByteArray} {bk : ByteArray} (hcell : ∀ j (hj : j < texts.length), w.cell? ⟨tb, tf + j, none⟩ = some (.string texts[j])) (hbk : ∀ j (hj : j < texts.length), j = texts.length - n → texts[j] = bk) (h1 : 1 ≤ n) (h2 : n ≤ texts.length) :
    w.cell? ⟨tb, tf + (texts.length - n), none⟩ = some (.string bk) := by
  rw [hcell (texts.length - n) (by omega), hbk _ _ rfl]

theorem nil_empty {b : ByteArray} (h : b.size = 0) : b = .empty := by
  apply ByteArray.ext
  apply Array.eq_empty_of_size_eq_zero
  exact h

/-- What 'Prompted' leaves: its lines lie in a block of their own. -/
def PrompY (t : ByteArray) (k : Nat) (lines : List ByteArray) (n : Nat) (over : Bool) (w : World) (e : Ending) (w' : World) : Prop :=
  ∃ p c bs, e = .returned (.tuple #[.string bs, .agg #[.slice p n c, .string t, .int .i64 k, .bool over], .bool true]) ∧ OS w.heap.size w' (.slice p n c) lines ∧ Fr 0 [] [] w w'
theorem prompY {s : PS} {ov : Bool} {w w' : World} {e : Ending} {n : Nat} (h : PrompPost s ov w e w') (hn : s.lines.length = n) : PrompY s.t s.k s.lines n ov w e w' := by
  obtain ⟨vl, bs, he, hO, hF⟩ := h
  obtain ⟨p, c, rfl⟩ := hO.form
  rw [hn] at he hO
  exact ⟨p, c, bs, he, hO, hF⟩
theorem prompted_y {w : World} {S : Raw} {chv : Value} {chunks : List ByteArray} {s : PS} {ov : Bool} {n : Nat} (hS : RawOk S.bare) (hw : 1 ≤ w.heap.size) (ht : Tab w)
    (hCh : TxIn w chv chunks) (hChN : ∀ A n c, chv = .slice (some A) n c → A.block < w.heap.size) (hlen : chunks.length ≤ 100)
    (hst : ∀ i, i ≤ chunks.length → NsOk (play S.bare.sess.nsFed ns0 (chunks.take i)).1) (hk : ∀ i (hi : i < chunks.length), NsKey (play S.bare.sess.nsFed ns0 (chunks.take i)).1 chunks[i]) (hp : play S.bare.sess.nsFed ns0 chunks = (s, ov)) (hn : s.lines.length = n) :
    Calls Tryz.prog 12 #[.agg #[.string S.pre, .slice none 0 0, .int .i64 S.most, .int .i64 S.cols, .bool S.down, .bool S.start, .string S.sep, .slice none 0 0, .string ⟨#[]⟩, .bool S.plain, .string ⟨#[]⟩], chv] w (PrompY s.t s.k s.lines n ov w) := by
  have h := prompted_ns (S := S.bare.sess) (ov := .slice none 0 0) (hv := .slice none 0 0) (Raw.sess_ok hS) rfl rfl rfl rfl hw ht (.inl ⟨rfl, .inl rfl⟩) (.inl ⟨rfl, .inl rfl⟩) hCh hChN hlen hst hk
  rw [hp, Raw.sess_cells hS, bare_cells] at h
  exact h.mono fun e w' h => prompY h hn
theorem os_append {M N : Nat} {wa w1 : World} {v vs : Value} {ys : List ByteArray} (hS : OS N wa vs ys) (hD : ∀ g, v.ownBlock = some g → vs.ownBlock ≠ some g) (k : Fr M [] v.ownBlock.toList wa w1) : OS N w1 vs ys :=
  hS.fr k (fun g hg hy => hD g (by simpa using hy) hg) (by simp)
theorem dis_append {N : Nat} {wa : World} {v v' vs : Value} {ys : List ByteArray} (hS : OS N wa vs ys) (hD : ∀ g, v.ownBlock = some g → vs.ownBlock ≠ some g) (hat : v'.ownBlock = v.ownBlock ∨ v'.ownBlock = some wa.heap.size) : ∀ g, v'.ownBlock = some g → vs.ownBlock ≠ some g := by
  intro g hg hs
  rcases hat with e | e
  · exact hD g (e ▸ hg) hs
  · rw [hg] at e
    obtain ⟨-, ds, hb⟩ := row_blk hS g hs
    have := hb.lt
    injection e with e
    omega
theorem dis_start {M N : Nat} {w wa : World} {v vs : Value} {xs ys : List ByteArray} (hO : OS M w v xs) (hN : w.heap.size = N) (hS : OS N wa vs ys) : ∀ g, v.ownBlock = some g → vs.ownBlock ≠ some g := by
  intro g hg hs
  obtain ⟨-, ds, hb⟩ := row_blk hO g hg
  have := hb.lt
  obtain ⟨h1, -⟩ := row_blk hS g hs
  omega

theorem walk_c {w : World} {S : Raw} {ov hv tv : Value} {texts : List ByteArray} {begun : ByteArray} {up : Nat} (hw : 1 ≤ w.heap.size) (ht : Tab w) (hO : PkIn w ov S.offs) (hH : TxIn w hv S.hist) (hT : TxIn w tv texts) (hps : S.pre.size ≤ 9223372036854775807)
    (htz : ∀ y ∈ texts, y.size ≤ 9223372036854775807) (hbz : begun.size ≤ 9223372036854775807) (hup : up ≤ 255) :
    Calls Tryz.prog 5 #[.agg (S.cells ov hv), tv, .string begun, .int .u8 up] w (LawPost w) := by
  obtain ⟨oA, oc, rfl⟩ := hO.form
  obtain ⟨hA, hcc, rfl⟩ := hH.form
  obtain ⟨tA, tc, rfl⟩ := hT.form
  obtain ⟨M, hM⟩ : ∃ M, w.heap.size = M := ⟨_, rfl⟩
  have hFa : Fr 0 [] [] w (w.alloc (.cells (S.cells (.slice oA S.offs.length oc) (.slice hA S.hist.length hcc)) 25)) := (Fr.refl _ _ _ _).alloc _
  have hB : Blk (w.alloc (.cells (S.cells (.slice oA S.offs.length oc) (.slice hA S.hist.length hcc)) 25)) M (S.cells (.slice oA S.offs.length oc) (.slice hA S.hist.length hcc)) 25 := Blk.new' hM.symm _ _
  have h9 := fits1_c (S := S) (hO.fr hFa) (hH.fr hFa)
  unfold Raw.cells at h9 hB hFa ⊢
  go_enter Tryz.func5, Tryz.ntmps5
  go_wp2_with (fail)
  refine h9.mono ?_
  rintro e w1 ⟨⟨r, rfl⟩, hF1⟩
  have hF01 := hFa.trans hF1
  have hB1 := hF1.blk0 hB
  clear h9
  cases r with
  | false =>
    go_wp2_with (fail)
    go_ret
    exact ⟨rfl, hF01⟩
  | true =>
  go_wp2_with (fail)
  refine (fits4_c (hT.fr hF01)).mono ?_
  rintro e w2 ⟨⟨r, rfl⟩, hF2⟩
  have hF02 := hF01.trans hF2
  have hB2 := hF2.blk0 hB1
  clear hFa hF1 hF2 hB1 hB hF01
  cases r with
  | false =>
    go_wp2_with (fail)
    go_ret
    exact ⟨rfl, hF02⟩
  | true =>
  by_cases hz : (2147483647 : Int) < begun.size
  · go_wp2_with (fail)
    go_ret
    exact ⟨rfl, hF02⟩
  have c0 := hB2.cell 0
  have c2 := hB2.cell 2
  have c3 := hB2.cell 3
  have c4 := hB2.cell 4
  have c5 := hB2.cell 5
  have c6 := hB2.cell 6
  have c9 := hB2.cell 9
  have c1 := hB2.cell 1
  have c7 := hB2.cell 7
  have c8 := hB2.cell 8
  have c10 := hB2.cell 10
  have f0 := hB2.frozen 0
  have f1 := hB2.frozen 1
  have f2 := hB2.frozen 2
  have f3 := hB2.frozen 3
  have f4 := hB2.frozen 4
  have f5 := hB2.frozen 5
  have f6 := hB2.frozen 6
  have f7 := hB2.frozen 7
  have f8 := hB2.frozen 8
  have f9 := hB2.frozen 9
  have f10 := hB2.frozen 10
  have cl := hB2.lt
  simp only [List.getElem?_toArray, List.getElem?_cons_zero, List.getElem?_cons_succ] at c0 c1 c2 c3 c4 c5 c6 c7 c8 c9 c10
  obtain ⟨hB3, hF03⟩ := bareW_ok (S := S) hB2 hF02 (Nat.le_of_eq hM)
  have h10 := right_c (S := S.bare) (w := bareW w2 M S) (ov := .slice none 0 0) (hv := .slice none 0 0) (.inl ⟨rfl, .inl rfl⟩) (.inl ⟨rfl, .inl rfl⟩) hps (fun x hx => by cases hx)
  rw [bare_cells] at h10
  obtain ⟨W2, hW2⟩ : ∃ W2, bareW w2 M S = W2 := ⟨_, rfl⟩
  rw [hW2] at hB3 hF03 h10
  obtain ⟨d0, d1, d2, d3, d4, d5, d6, d7, d8, d9, d10, dl⟩ := bareC hB3
  unfold bareW at hW2
  go_wp2_with (fail)
  refine h10.mono ?_
  clear hW2 d0 d1 d2 d3 d4 d5 d6 d7 d8 d9 d10 dl
  clear c0 c1 c2 c3 c4 c5 c6 c7 c8 c9 c10 f0 f1 f2 f3 f4 f5 f6 f7 f8 f9 f10 cl h10 hB2 hF02
  rintro e w4 ⟨⟨r, rfl, hr⟩, hF4⟩
  have hB4 := hF4.blk0 hB3
  have hF04 := hF03.trans hF4
  clear hF4 hF03 hB3
  cases r with
  | false =>
    go_wp2_with (fail)
    go_ret
    exact ⟨rfl, hF04⟩
  | true =>
  have HR := Lib.hid (hr rfl)
  clear hr
  by_cases q0 : texts.length = 0
  · go_wp2_with (fail)
    go_ret
    exact ⟨rfl, hF04⟩
  have hq0 : ((texts.length : Int) == 0) = false := by simpa using q0
  by_cases q1 : (8 : Int) < texts.length
  · go_wp2_with (fail)
    go_ret
    exact ⟨rfl, hF04⟩
  by_cases q2 : (40 : Int) < begun.size
  · go_wp2_with (fail)
    go_ret
    exact ⟨rfl, hF04⟩
  go_wp2_with (fail)
  refine (printable_c _ hbz _).mono ?_
  rintro e w5 ⟨rfl, rfl⟩
  cases p1 : prB begun with
  | false =>
    go_wp2_with (fail)
    go_ret
    exact ⟨rfl, hF04⟩
  | true =>
  have HPB := Lib.hid (prB_prn p1).1
  clear p1
  have hm8 : texts.length ≤ 8 := by omega
  have hb40 : begun.size ≤ 40 := by omega
  obtain ⟨tb, tf, rfl, hcell⟩ : ∃ b o, tA = some ⟨b, o, none⟩ ∧ ∀ j (hj : j < texts.length), w.cell? ⟨b, o + j, none⟩ = some (.string texts[j]) := by
    rcases hT with ⟨e, -⟩ | ⟨b, o, c, e, hc⟩
    · rw [e] at q0; simp at q0
    · simp only [Value.slice.injEq] at e
      exact ⟨b, o, e.1, hc⟩
  go_wp2_with (fail)
  go_loopw [9, 10] (fun v9 v10 w' => ∃ i : Nat, i ≤ texts.length ∧ v10 = .int .i64 i ∧ OS M w' v9 (lineKeys (texts.take i)) ∧ (∀ x ∈ texts.take i, Prn x ∧ x.size ≤ 40 ∧ x.size ≠ 0) ∧ Fr 0 [] [] w w' ∧ Blk w' M (S.bare.cells (.slice none 0 0) (.slice none 0 0)) 25) (fun _ v10 _ => texts.length - (intOf v10).toNat)
  case atStart => exact ⟨0, by omega, rfl, ⟨rfl, .inl ⟨rfl, rfl⟩⟩, (fun x hx => by simp at hx), hF04, hB4⟩
  clear hF04 hB4
  obtain ⟨i, hi, rfl, hOk, hG, hF, hBl⟩ := hrel
  by_cases hlt : i < texts.length
  · have d1 : decide ((i : Int) < texts.length) = true := by simpa using hlt
    have d2 : (i : Int) < texts.length := by omega
    have e1 := hF.cell0 (hcell i hlt)
    have hzi : texts[i].size ≤ 9223372036854775807 := htz _ (List.getElem_mem hlt)
    obtain ⟨em, hem⟩ : ∃ em, texts[i].toList.isEmpty = em := ⟨_, rfl⟩
    have hem2 : em = true → texts[i].toList = [] := fun e => by rw [← hem] at e; simpa using e
    have hem3 : em = false → texts[i].toList ≠ [] := fun e e2 => by rw [e2] at hem; rw [← hem] at e; simp at e
    have HEX := Lib.hid (show em = decide (texts[i].size = 0) by rw [← hem, str_empty])
    obtain ⟨ti, hti⟩ : ∃ ti, texts[i] = ti := ⟨_, rfl⟩
    rw [hti] at e1 hzi hem hem2 hem3 HEX
    cases em with
    | true =>
      have hE2 := hem2 rfl
      clear hem2 hem3
      go_wp2_with (fail)
      go_ret
      exact ⟨rfl, hF⟩
    | false =>
      have hE2 := hem3 rfl
      clear hem2 hem3
      by_cases q3 : (40 : Int) < ti.size
      · go_wp2_with (fail)
        go_ret
        exact ⟨rfl, hF⟩
      · go_wp2_with (fail)
        refine (printable_c _ hzi _).mono ?_
        rintro e w6 ⟨rfl, rfl⟩
        cases p1 : prB ti with
        | false =>
          go_wp2_with (fail)
          go_ret
          exact ⟨rfl, hF⟩
        | true =>
          have HTI := Lib.hid (prB_prn p1).1
          clear p1
          have hlen : (lineKeys (texts.take i)).length + ([ti, crT] : List ByteArray).length ≤ 1000000 := by rw [lineKeys_length, List.length_take]; simp; omega
          have hke := Lib.hid (hti ▸ lineKeys_take hlt)
          have hge := Lib.hid (show texts.take (i + 1) = texts.take i ++ [ti] by rw [List.take_succ_eq_append_getElem hlt, hti])
          go_wp2_with (first | (refine wpList_plain rfl (fun K hK => ?_); refine wp_appos (base := M) (ys := [ti, crT]) _ _ rfl rfl rfl (hOk.fr0 ((Fr.refl 0 [] [] _).alloc _)) (Blk.new' rfl _ _) hlen (by have := hF.size; simp; omega) ?_; intro p' n' c' w7 hO7 hat hF7; refine hK _ _ ?_; clear hK K))
          go_roundw
          case rel =>
            have hFx : Fr 0 [] [] w (wr.alloc (.cells #[.string ti, .string ⟨#[13]⟩] 9)) := hF.alloc _
            have hOx := hOk.fr0 ((Fr.refl 0 [] [] wr).alloc (.cells #[.string ti, .string ⟨#[13]⟩] 9))
            refine ⟨i + 1, by omega, by simp, by rw [hke.out]; exact hO7, fun x hx => ?_, fr_append hFx hOx hM hF7, blk_append (hBl.alloc _) (by decide) hOx hF7⟩
            rw [hge.out, List.mem_append, List.mem_singleton] at hx
            rcases hx with hx | rfl
            · exact hG x hx
            · refine ⟨HTI.out, by omega, ?_⟩
              have := HEX.out
              simpa using this.symm
          case measure => simp [intOf]; omega
  · have d1 : decide ((i : Int) < texts.length) = false := by simpa using hlt
    have d2 : ¬ (i : Int) < texts.length := by omega
    have ei : texts.take i = texts := List.take_of_length_le (by omega)
    rw [ei] at hOk hG
    clear ei
    obtain ⟨em, hem⟩ : ∃ em, begun.toList.isEmpty = em := ⟨_, rfl⟩
    have hem2 : em = true → begun.toList = [] := fun e => by rw [← hem] at e; simpa using e
    have hem3 : em = false → begun.toList ≠ [] := fun e e2 => by rw [e2] at hem; rw [← hem] at e; simp at e
    have HEX := Lib.hid (show em = decide (begun.size = 0) by rw [← hem, str_empty])
    have hmod : Int.tmod (up : Int) (texts.length : Int) = ((up % texts.length : Nat) : Int) := rfl
    obtain ⟨n, hn⟩ : ∃ n, n = 1 + up % texts.length := ⟨_, rfl⟩
    obtain ⟨hn1, hnm, hnE⟩ := hw_n q0 hm8 hn
    replace hnE := Lib.hid hnE
    obtain ⟨bk, HP, hbk⟩ := hw_facts HR.out hG q0 hm8 HPB.out hb40 hn1 hnm
    have HBK := Lib.hid (hw_cell hcell hbk hn1 hnm)
    replace HP := Lib.hid HP
    clear hn hbk
    cases em with
    | true =>
      have hE2 := hem2 rfl
      clear hem2 hem3
      have HQ := Lib.hid (show OS M wr u9 (lineKeys texts ++ begunKeys begun) ∧ Fr 0 [] [] w wr ∧ Blk wr M (S.bare.cells (.slice none 0 0) (.slice none 0 0)) 25 from ⟨by
        have : begun = .empty := nil_empty (by have := HEX.out; simpa using this.symm)
        unfold begunKeys; rw [if_pos this, List.append_nil]; exact hOk, hF, hBl⟩)
      clear hOk hF hBl
      go_wp2_with (fail)
      try simp only [hnE.out]
      clear hnE
      go_loopw [9, 12] (fun v9 v12 w' => ∃ i : Nat, i ≤ n ∧ v12 = .int .i64 i ∧ OS M w' v9 (lineKeys texts ++ begunKeys begun ++ List.replicate i upT) ∧ Fr 0 [] [] w w' ∧ Blk w' M (S.bare.cells (.slice none 0 0) (.slice none 0 0)) 25) (fun _ v12 _ => n - (intOf v12).toNat)
      case atStart => exact ⟨0, by omega, rfl, by simpa using HQ.out.1, HQ.out.2.1, HQ.out.2.2⟩
      clear HQ
      obtain ⟨i, hi, rfl, hOk, hF, hBl⟩ := hrel
      by_cases hlt : i < n
      · have d1 : decide ((i : Int) < n) = true := by simpa using hlt
        have d2 : (i : Int) < n := by omega
        have hlen : (lineKeys texts ++ begunKeys begun ++ List.replicate i upT).length + ([upT] : List ByteArray).length ≤ 1000000 := by
          have := HP.out.len; simp only [List.length_append, List.length_replicate, List.length_singleton] at this ⊢; omega
        go_wp2_with (first | (refine wpList_plain rfl (fun K hK => ?_); refine wp_appos (base := M) (ys := [upT]) _ _ rfl rfl rfl (hOk.fr0 ((Fr.refl 0 [] [] _).alloc _)) (Blk.new' rfl _ _) hlen (by have := hF.size; simp; omega) ?_; intro p' n' c' w7 hO7 hat hF7; refine hK _ _ ?_; clear hK K))
        go_roundw
        case rel =>
          have hFx : Fr 0 [] [] w (wr.alloc (.cells #[.string ⟨#[27, 91, 65]⟩] 9)) := hF.alloc _
          have hOx := hOk.fr0 ((Fr.refl 0 [] [] wr).alloc (.cells #[.string ⟨#[27, 91, 65]⟩] 9))
          refine ⟨i + 1, by omega, by simp, ?_, fr_append hFx hOx hM hF7, blk_append (hBl.alloc _) (by decide) hOx hF7⟩
          rw [List.replicate_succ', ← List.append_assoc]
          exact hO7
        case measure => simp [intOf]; omega
      · have d1 : decide ((i : Int) < n) = false := by simpa using hlt
        have d2 : ¬ (i : Int) < n := by omega
        have ei : i = n := by omega
        rw [ei] at hOk
        obtain ⟨c0, c1, c2, c3, c4, c5, c6, c7, c8, c9, c10, cl⟩ := bareC hBl
        obtain ⟨N, hN⟩ : ∃ N, wr.heap.size = N := ⟨_, rfl⟩
        have hpb := prompted_y (S := S) (chunks := lineKeys texts ++ begunKeys begun ++ List.replicate n upT) (n := texts.length) (chv := u9) (w := wr) HR.out (by have := hF.size; omega) (hF.tab0 ht) hOk.txIn (os_lt hOk) (by have := HP.out.len; simp only [List.length_append, List.length_replicate] at this ⊢; omega) HP.out.s1 HP.out.k1 HP.out.p1 rfl
        have hpb2 : Calls Tryz.prog 12 _ _ (PrompY (hwT texts begun (texts.length - n)) (hwT texts begun (texts.length - n)).size texts texts.length false _) := hpb
        clear hpb
        rw [HP.out.bk] at hpb2
        go_wp2_with (fail)
        refine hpb2.mono ?_
        clear hpb2 c0 c1 c2 c3 c4 c5 c6 c7 c8 c9 c10 cl
        rintro e w5 ⟨vp, vc, bs, rfl, hS1, hF5⟩
        have hF05 := hF.trans hF5
        have hO5 := hOk.fr0 hF5
        have hB5 := hF5.blk0 hBl
        obtain ⟨X1, hX1⟩ : ∃ X, w5.heap.size = X := ⟨_, rfl⟩
        go_wp2_with (fail)
        go_loopw [9, 16] (fun v9 v16 w' => ∃ j : Nat, j ≤ n ∧ v16 = .int .i64 j ∧ OS M w' v9 (lineKeys texts ++ begunKeys begun ++ List.replicate n upT ++ List.replicate j dnT) ∧ Fr 0 [] [] w w' ∧ Blk w' M (S.bare.cells (.slice none 0 0) (.slice none 0 0)) 25 ∧ Blk w' X1 #[.slice vp texts.length vc, .string bk, .int .i64 bk.size, .bool false] 31 ∧ OS N w' (.slice vp texts.length vc) texts ∧ (∀ g, v9.ownBlock = some g → (Value.slice vp texts.length vc).ownBlock ≠ some g)) (fun _ v16 _ => n - (intOf v16).toNat)
        case atStart =>
          have hA5 : Fr 0 [] [] w5 (w5.alloc (.cells #[.slice vp texts.length vc, .string bk, .int .i64 bk.size, .bool false] 31)) := (Fr.refl 0 [] [] w5).alloc _
          exact ⟨0, by omega, rfl, by simpa using hO5.fr0 hA5, hF05.trans hA5, hA5.blk0 hB5, Blk.new' hX1.symm _ _, (hN ▸ hS1).fr0 hA5, dis_start hOk hN (hN ▸ hS1)⟩
        clear hOk hF hBl hF5 hF05 hO5 hB5 hS1 hX1
        obtain ⟨j, hj, rfl, hOk, hF, hBl, hXl, hS1, hD⟩ := hrel
        by_cases hlj : j < n
        · have d1 : decide ((j : Int) < n) = true := by simpa using hlj
          have d2 : (j : Int) < n := by omega
          have hlen : (lineKeys texts ++ begunKeys begun ++ List.replicate n upT ++ List.replicate j dnT).length + ([dnT] : List ByteArray).length ≤ 1000000 := by
            have := HP.out.len; simp only [List.length_append, List.length_replicate, List.length_singleton] at this ⊢; omega
          go_wp2_with (first | (refine wpList_plain rfl (fun K hK => ?_); refine wp_appos (base := M) (ys := [dnT]) _ _ rfl rfl rfl (hOk.fr0 ((Fr.refl 0 [] [] _).alloc _)) (Blk.new' rfl _ _) hlen (by have := hF.size; simp; omega) ?_; intro p' n' c' w7 hO7 hat hF7; refine hK _ _ ?_; clear hK K))
          go_roundw
          case rel =>
            have hA : Fr 0 [] [] wr (wr.alloc (.cells #[.string ⟨#[27, 91, 66]⟩] 9)) := (Fr.refl 0 [] [] wr).alloc _
            have hFx := hF.trans hA
            have hOx := hOk.fr0 hA
            refine ⟨j + 1, by omega, by simp, ?_, fr_append hFx hOx hM hF7, blk_append (hBl.alloc _) (by decide) hOx hF7, blk_append (hXl.alloc _) (by decide) hOx hF7, os_append (hS1.fr0 hA) hD hF7, dis_append (hS1.fr0 hA) hD hat⟩
            rw [List.replicate_succ', ← List.append_assoc]
            exact hO7
          case measure => simp [intOf]; omega
        · have d1 : decide ((j : Int) < n) = false := by simpa using hlj
          have d2 : ¬ (j : Int) < n := by omega
          have ej : j = n := by omega
          rw [ej] at hOk
          obtain ⟨c0, c1, c2, c3, c4, c5, c6, c7, c8, c9, c10, cl⟩ := bareC hBl
          have hpb := prompted_y (S := S) (chunks := lineKeys texts ++ begunKeys begun ++ List.replicate n upT ++ List.replicate n dnT) (n := texts.length) (chv := _) (w := wr) HR.out (by have := hF.size; omega) (hF.tab0 ht) hOk.txIn (os_lt hOk) (by have := HP.out.len; simp only [List.length_append, List.length_replicate] at this ⊢; omega) HP.out.s2 HP.out.k2 HP.out.p2 rfl
          have hpb2 : Calls Tryz.prog 12 _ _ (PrompY (hwT texts begun texts.length) (hwT texts begun texts.length).size texts texts.length false _) := hpb
          clear hpb
          rw [hwT_last] at hpb2
          go_wp2_with (fail)
          refine hpb2.mono ?_
          clear hpb2 c0 c1 c2 c3 c4 c5 c6 c7 c8 c9 c10 cl
          rintro e w7 ⟨vp2, vc2, bs2, rfl, hS2, hF7⟩
          have hF07 := hF.trans hF7
          have hX7 := hF7.blk0 hXl
          have hS17 := (hS1.fr0 hF7).txIn
          have e0 : w7.cell? ⟨X1, 0, none⟩ = some (.slice vp texts.length vc) := hX7.cell 0
          have e1 : w7.cell? ⟨X1, 1, none⟩ = some (.string bk) := hX7.cell 1
          have e2 : w7.cell? ⟨X1, 2, none⟩ = some (.int .i64 bk.size) := hX7.cell 2
          have e3 : w7.cell? ⟨X1, 3, none⟩ = some (.bool false) := hX7.cell 3
          have xl := hX7.lt
          obtain ⟨X2, hX2⟩ : ∃ X, w7.heap.size = X := ⟨_, rfl⟩
          rw [hX2] at xl
          have eb : w7.cell? ⟨tb, tf + (texts.length - n), none⟩ = some (.string bk) := hF07.cell0 HBK.out
          obtain ⟨m, hm⟩ : ∃ m, texts.length - n = m := ⟨_, rfl⟩
          rw [hm] at eb
          have tl : tb < X2 := by have h9 := World.block_lt_of_cell? w7 _ eb; rw [hX2] at h9; exact h9
          have hmi : (texts.length : Int) - n = m := by omega
          have hm2 : m < texts.length := by omega
          have hm3 : (m : Int) < texts.length := by omega
          clear hm
          go_wp2_with (fail)
          have hF8 : Fr 0 [] [] w7 (w7.alloc (.cells #[.slice vp2 texts.length vc2, .string begun, .int .i64 begun.size, .bool false] 31)) := (Fr.refl 0 [] [] w7).alloc _
          have hY8 : Blk (w7.alloc (.cells #[.slice vp2 texts.length vc2, .string begun, .int .i64 begun.size, .bool false] 31)) X2 #[.slice vp2 texts.length vc2, .string begun, .int .i64 begun.size, .bool false] 31 := Blk.new' hX2.symm _ _
          refine (stands_c (hS17.fr hF8) (hT.fr (hF07.trans hF8)) (by omega)).mono ?_
          rintro e w9 ⟨rfl, hF9⟩
          have hF89 := hF8.trans hF9
          have hY9 := hF9.blk0 hY8
          have hS2' := hS2.txIn.fr hF89
          have hF09 := hF07.trans hF89
          have y0 : w9.cell? ⟨X2, 0, none⟩ = some (.slice vp2 texts.length vc2) := hY9.cell 0
          have y1 : w9.cell? ⟨X2, 1, none⟩ = some (.string begun) := hY9.cell 1
          have y2 : w9.cell? ⟨X2, 2, none⟩ = some (.int .i64 begun.size) := hY9.cell 2
          have y3 : w9.cell? ⟨X2, 3, none⟩ = some (.bool false) := hY9.cell 3
          have yl := hY9.lt
          clear hX2 hY8 xl e0 e1 e2 e3 tl eb
          go_wp2_with (fail)
          refine (stands_c hS2' (hT.fr hF09) (by omega)).mono ?_
          rintro e w10 ⟨rfl, hF10⟩
          go_wp2_with (fail)
          go_ret
          exact ⟨rfl, hF09.trans hF10⟩
    | false =>
      have hE2 := hem3 rfl
      clear hem2 hem3
      have hlen0 : (lineKeys texts).length + ([begun] : List ByteArray).length ≤ 1000000 := by rw [lineKeys_length]; simp; omega
      have hbk2 : begunKeys begun = [begun] := by
        unfold begunKeys; rw [if_neg]; intro e; have := HEX.out; rw [e] at this; simp at this
      go_wp2_with (first | (refine wpList_plain rfl (fun K hK => ?_); refine wp_appos (base := M) (ys := [begun]) _ _ rfl rfl rfl (hOk.fr0 ((Fr.refl 0 [] [] _).alloc _)) (Blk.new' rfl _ _) hlen0 (by have := hF.size; simp; omega) ?_; intro p' n' c' w7 hO7 hat hF7; refine hK _ _ ?_; clear hK K))
      have hFx0 : Fr 0 [] [] w (wr.alloc (.cells #[.string begun] 9)) := hF.alloc _
      have hOx0 := hOk.fr0 ((Fr.refl 0 [] [] wr).alloc (.cells #[.string begun] 9))
      have HQ := Lib.hid (show OS M w7 (.slice p' n' c') (lineKeys texts ++ begunKeys begun) ∧ Fr 0 [] [] w w7 ∧ Blk w7 M (S.bare.cells (.slice none 0 0) (.slice none 0 0)) 25 from ⟨by rw [hbk2]; exact hO7, fr_append hFx0 hOx0 hM hF7, blk_append (hBl.alloc _) (by decide) hOx0 hF7⟩)
      clear hO7 hF7 hOx0 hFx0 hat hOk hF hBl
      go_wp2_with (fail)
      try simp only [hnE.out]
      clear hnE
      go_loopw [9, 12] (fun v9 v12 w' => ∃ i : Nat, i ≤ n ∧ v12 = .int .i64 i ∧ OS M w' v9 (lineKeys texts ++ begunKeys begun ++ List.replicate i upT) ∧ Fr 0 [] [] w w' ∧ Blk w' M (S.bare.cells (.slice none 0 0) (.slice none 0 0)) 25) (fun _ v12 _ => n - (intOf v12).toNat)
      case atStart => exact ⟨0, by omega, rfl, by simpa using HQ.out.1, HQ.out.2.1, HQ.out.2.2⟩
      clear HQ
      obtain ⟨i, hi, rfl, hOk, hF, hBl⟩ := hrel
      by_cases hlt : i < n
      · have d1 : decide ((i : Int) < n) = true := by simpa using hlt
        have d2 : (i : Int) < n := by omega
        have hlen : (lineKeys texts ++ begunKeys begun ++ List.replicate i upT).length + ([upT] : List ByteArray).length ≤ 1000000 := by
          have := HP.out.len; simp only [List.length_append, List.length_replicate, List.length_singleton] at this ⊢; omega
        go_wp2_with (first | (refine wpList_plain rfl (fun K hK => ?_); refine wp_appos (base := M) (ys := [upT]) _ _ rfl rfl rfl (hOk.fr0 ((Fr.refl 0 [] [] _).alloc _)) (Blk.new' rfl _ _) hlen (by have := hF.size; simp; omega) ?_; intro p' n' c' w7 hO7 hat hF7; refine hK _ _ ?_; clear hK K))
        go_roundw
        case rel =>
          have hFx : Fr 0 [] [] w (wr.alloc (.cells #[.string ⟨#[27, 91, 65]⟩] 9)) := hF.alloc _
          have hOx := hOk.fr0 ((Fr.refl 0 [] [] wr).alloc (.cells #[.string ⟨#[27, 91, 65]⟩] 9))
          refine ⟨i + 1, by omega, by simp, ?_, fr_append hFx hOx hM hF7, blk_append (hBl.alloc _) (by decide) hOx hF7⟩
          rw [List.replicate_succ', ← List.append_assoc]
          exact hO7
        case measure => simp [intOf]; omega
      · have d1 : decide ((i : Int) < n) = false := by simpa using hlt
        have d2 : ¬ (i : Int) < n := by omega
        have ei : i = n := by omega
        rw [ei] at hOk
        obtain ⟨c0, c1, c2, c3, c4, c5, c6, c7, c8, c9, c10, cl⟩ := bareC hBl
        obtain ⟨N, hN⟩ : ∃ N, wr.heap.size = N := ⟨_, rfl⟩
        have hpb := prompted_y (S := S) (chunks := lineKeys texts ++ begunKeys begun ++ List.replicate n upT) (n := texts.length) (chv := u9) (w := wr) HR.out (by have := hF.size; omega) (hF.tab0 ht) hOk.txIn (os_lt hOk) (by have := HP.out.len; simp only [List.length_append, List.length_replicate] at this ⊢; omega) HP.out.s1 HP.out.k1 HP.out.p1 rfl
        have hpb2 : Calls Tryz.prog 12 _ _ (PrompY (hwT texts begun (texts.length - n)) (hwT texts begun (texts.length - n)).size texts texts.length false _) := hpb
        clear hpb
        rw [HP.out.bk] at hpb2
        go_wp2_with (fail)
        refine hpb2.mono ?_
        clear hpb2 c0 c1 c2 c3 c4 c5 c6 c7 c8 c9 c10 cl
        rintro e w5 ⟨vp, vc, bs, rfl, hS1, hF5⟩
        have hF05 := hF.trans hF5
        have hO5 := hOk.fr0 hF5
        have hB5 := hF5.blk0 hBl
        obtain ⟨X1, hX1⟩ : ∃ X, w5.heap.size = X := ⟨_, rfl⟩
        go_wp2_with (fail)
        go_loopw [9, 16] (fun v9 v16 w' => ∃ j : Nat, j ≤ n ∧ v16 = .int .i64 j ∧ OS M w' v9 (lineKeys texts ++ begunKeys begun ++ List.replicate n upT ++ List.replicate j dnT) ∧ Fr 0 [] [] w w' ∧ Blk w' M (S.bare.cells (.slice none 0 0) (.slice none 0 0)) 25 ∧ Blk w' X1 #[.slice vp texts.length vc, .string bk, .int .i64 bk.size, .bool false] 31 ∧ OS N w' (.slice vp texts.length vc) texts ∧ (∀ g, v9.ownBlock = some g → (Value.slice vp texts.length vc).ownBlock ≠ some g)) (fun _ v16 _ => n - (intOf v16).toNat)
        case atStart =>
          have hA5 : Fr 0 [] [] w5 (w5.alloc (.cells #[.slice vp texts.length vc, .string bk, .int .i64 bk.size, .bool false] 31)) := (Fr.refl 0 [] [] w5).alloc _
          exact ⟨0, by omega, rfl, by simpa using hO5.fr0 hA5, hF05.trans hA5, hA5.blk0 hB5, Blk.new' hX1.symm _ _, (hN ▸ hS1).fr0 hA5, dis_start hOk hN (hN ▸ hS1)⟩
        clear hOk hF hBl hF5 hF05 hO5 hB5 hS1 hX1
        obtain ⟨j, hj, rfl, hOk, hF, hBl, hXl, hS1, hD⟩ := hrel
        by_cases hlj : j < n
        · have d1 : decide ((j : Int) < n) = true := by simpa using hlj
          have d2 : (j : Int) < n := by omega
          have hlen : (lineKeys texts ++ begunKeys begun ++ List.replicate n upT ++ List.replicate j dnT).length + ([dnT] : List ByteArray).length ≤ 1000000 := by
            have := HP.out.len; simp only [List.length_append, List.length_replicate, List.length_singleton] at this ⊢; omega
          go_wp2_with (first | (refine wpList_plain rfl (fun K hK => ?_); refine wp_appos (base := M) (ys := [dnT]) _ _ rfl rfl rfl (hOk.fr0 ((Fr.refl 0 [] [] _).alloc _)) (Blk.new' rfl _ _) hlen (by have := hF.size; simp; omega) ?_; intro p' n' c' w7 hO7 hat hF7; refine hK _ _ ?_; clear hK K))
          go_roundw
          case rel =>
            have hA : Fr 0 [] [] wr (wr.alloc (.cells #[.string ⟨#[27, 91, 66]⟩] 9)) := (Fr.refl 0 [] [] wr).alloc _
            have hFx := hF.trans hA
            have hOx := hOk.fr0 hA
            refine ⟨j + 1, by omega, by simp, ?_, fr_append hFx hOx hM hF7, blk_append (hBl.alloc _) (by decide) hOx hF7, blk_append (hXl.alloc _) (by decide) hOx hF7, os_append (hS1.fr0 hA) hD hF7, dis_append (hS1.fr0 hA) hD hat⟩
            rw [List.replicate_succ', ← List.append_assoc]
            exact hO7
          case measure => simp [intOf]; omega
        · have d1 : decide ((j : Int) < n) = false := by simpa using hlj
          have d2 : ¬ (j : Int) < n := by omega
          have ej : j = n := by omega
          rw [ej] at hOk
          obtain ⟨c0, c1, c2, c3, c4, c5, c6, c7, c8, c9, c10, cl⟩ := bareC hBl
          have hpb := prompted_y (S := S) (chunks := lineKeys texts ++ begunKeys begun ++ List.replicate n upT ++ List.replicate n dnT) (n := texts.length) (chv := _) (w := wr) HR.out (by have := hF.size; omega) (hF.tab0 ht) hOk.txIn (os_lt hOk) (by have := HP.out.len; simp only [List.length_append, List.length_replicate] at this ⊢; omega) HP.out.s2 HP.out.k2 HP.out.p2 rfl
          have hpb2 : Calls Tryz.prog 12 _ _ (PrompY (hwT texts begun texts.length) (hwT texts begun texts.length).size texts texts.length false _) := hpb
          clear hpb
          rw [hwT_last] at hpb2
          go_wp2_with (fail)
          refine hpb2.mono ?_
          clear hpb2 c0 c1 c2 c3 c4 c5 c6 c7 c8 c9 c10 cl
          rintro e w7 ⟨vp2, vc2, bs2, rfl, hS2, hF7⟩
          have hF07 := hF.trans hF7
          have hX7 := hF7.blk0 hXl
          have hS17 := (hS1.fr0 hF7).txIn
          have e0 : w7.cell? ⟨X1, 0, none⟩ = some (.slice vp texts.length vc) := hX7.cell 0
          have e1 : w7.cell? ⟨X1, 1, none⟩ = some (.string bk) := hX7.cell 1
          have e2 : w7.cell? ⟨X1, 2, none⟩ = some (.int .i64 bk.size) := hX7.cell 2
          have e3 : w7.cell? ⟨X1, 3, none⟩ = some (.bool false) := hX7.cell 3
          have xl := hX7.lt
          obtain ⟨X2, hX2⟩ : ∃ X, w7.heap.size = X := ⟨_, rfl⟩
          rw [hX2] at xl
          have eb : w7.cell? ⟨tb, tf + (texts.length - n), none⟩ = some (.string bk) := hF07.cell0 HBK.out
          obtain ⟨m, hm⟩ : ∃ m, texts.length - n = m := ⟨_, rfl⟩
          rw [hm] at eb
          have tl : tb < X2 := by have h9 := World.block_lt_of_cell? w7 _ eb; rw [hX2] at h9; exact h9
          have hmi : (texts.length : Int) - n = m := by omega
          have hm2 : m < texts.length := by omega
          have hm3 : (m : Int) < texts.length := by omega
          clear hm
          go_wp2_with (fail)
          have hF8 : Fr 0 [] [] w7 (w7.alloc (.cells #[.slice vp2 texts.length vc2, .string begun, .int .i64 begun.size, .bool false] 31)) := (Fr.refl 0 [] [] w7).alloc _
          have hY8 : Blk (w7.alloc (.cells #[.slice vp2 texts.length vc2, .string begun, .int .i64 begun.size, .bool false] 31)) X2 #[.slice vp2 texts.length vc2, .string begun, .int .i64 begun.size, .bool false] 31 := Blk.new' hX2.symm _ _
          refine (stands_c (hS17.fr hF8) (hT.fr (hF07.trans hF8)) (by omega)).mono ?_
          rintro e w9 ⟨rfl, hF9⟩
          have hF89 := hF8.trans hF9
          have hY9 := hF9.blk0 hY8
          have hS2' := hS2.txIn.fr hF89
          have hF09 := hF07.trans hF89
          have y0 : w9.cell? ⟨X2, 0, none⟩ = some (.slice vp2 texts.length vc2) := hY9.cell 0
          have y1 : w9.cell? ⟨X2, 1, none⟩ = some (.string begun) := hY9.cell 1
          have y2 : w9.cell? ⟨X2, 2, none⟩ = some (.int .i64 begun.size) := hY9.cell 2
          have y3 : w9.cell? ⟨X2, 3, none⟩ = some (.bool false) := hY9.cell 3
          have yl := hY9.lt
          clear hX2 hY8 xl e0 e1 e2 e3 tl eb
          go_wp2_with (fail)
          refine (stands_c hS2' (hT.fr hF09) (by omega)).mono ?_
          rintro e w10 ⟨rfl, hF10⟩
          go_wp2_with (fail)
          go_ret
          exact ⟨rfl, hF09.trans hF10⟩
end Go.Proofs.YtiepopbmbgfhkaaGreat
