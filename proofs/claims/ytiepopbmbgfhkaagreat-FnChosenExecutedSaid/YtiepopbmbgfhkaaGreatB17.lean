/-
  GetKey: the key of bytes.
-/
import Derived.Test.YtiepopbmbgfhkaaGreatB16
import Derived.Test.YtiepopbmbgfhkaaGreatA7
namespace Go.Proofs.YtiepopbmbgfhkaaGreat
open Go.RowKit
set_option maxHeartbeats 2000000
set_option maxRecDepth 20000
set_option linter.unusedVariables false
set_option linter.unusedSimpArgs false

/-- The key of bytes; 86: none. -/
def keyOf (b : List UInt8) : Int := match seqs.find? (fun x => x.2 == b) with
  | some x => x.1
  | none => 86

theorem seqCells_len (M : Nat) : ∀ (l : List (Int × List UInt8)) (i : Nat), (seqCells M i l).length = 2 * l.length
  | [], i => rfl
  | x :: l, i => by simp [seqCells, seqCells_len M l (i + 1)]; omega
theorem seqCells_get (M : Nat) : ∀ (l : List (Int × List UInt8)) (i j : Nat) (h : j < l.length), (seqCells M i l)[j * 2]? = some (.int .i64 l[j].1) ∧ (seqCells M i l)[j * 2 + 1]? = some (.slice (some ⟨M + (i + j), 0, none⟩) l[j].2.length l[j].2.length)
  | x :: l, i, 0, h => ⟨rfl, rfl⟩
  | x :: l, i, j + 1, h => by
    have := seqCells_get M l (i + 1) j (by simpa using h)
    refine ⟨?_, ?_⟩
    · rw [show (j + 1) * 2 = j * 2 + 1 + 1 by omega]
      simpa [seqCells] using this.1
    · rw [show (j + 1) * 2 + 1 = j * 2 + 1 + 1 + 1 by omega, show i + (j + 1) = i + 1 + j by omega]
      simpa [seqCells] using this.2
theorem seqs_len : seqs.length = 112 := rfl

/-- Entry i of the table. -/
def SeqAt (w : World) (T i : Nat) (key : Int) (bs : List UInt8) : Prop :=
  ∃ u, w.cell? ⟨T, i * 2, none⟩ = some (.int .i64 key) ∧ w.cell? ⟨T, i * 2 + 1, none⟩ = some u ∧ Dat w u bs ∧ T < w.heap.size
theorem SeqAt.ext {w w1 : World} {T i base : Nat} {key : Int} {bs : List UInt8} (h : SeqAt w T i key bs) (hF : Fr base [] [] w w1) : SeqAt w1 T i key bs := by
  obtain ⟨u, h1, h2, h3, h4⟩ := h
  exact ⟨u, hF.cell0 h1, hF.cell0 h2, h3.ext hF, Nat.lt_of_lt_of_le h4 hF.size⟩
theorem seq_at (w : World) (i : Nat) (hi : i < seqs.length) : SeqAt (allocs w (seqObjs w.heap.size)) (w.heap.size + 112) i seqs[i].1 seqs[i].2 := by
  have hT : Blk (allocs w (seqObjs w.heap.size)) (w.heap.size + 112) (seqCells w.heap.size 0 seqs).toArray 175 :=
    allocs_blk w _ _ (seqObjs w.heap.size) 0 rfl
  have hg := seqCells_get w.heap.size seqs 0 i hi
  have hi' : i < 112 := hi
  have hB : Blk (allocs w (seqObjs w.heap.size)) (w.heap.size + i) (bv seqs[i].2).toArray 5 := by
    have := allocs_blk w (bv seqs[i].2).toArray 5 (seqObjs w.heap.size) (112 - i) (by
      unfold seqObjs
      rw [show 112 - i = (111 - i) + 1 by omega, List.getElem?_cons_succ, List.getElem?_reverse (by rw [List.length_map, seqs_len]; omega), List.length_map, seqs_len, show 112 - 1 - (111 - i) = i by omega, List.getElem?_map, List.getElem?_eq_getElem hi]
      rfl)
    have e : (seqObjs w.heap.size).length - 1 - (112 - i) = i := by
      have : (seqObjs w.heap.size).length = 113 := rfl
      omega
    rw [e] at this
    exact this
  refine ⟨.slice (some ⟨w.heap.size + i, 0, none⟩) seqs[i].2.length seqs[i].2.length, (hT.cell _).trans ?_, (hT.cell _).trans ?_, Dat.of_blk _ _ hB, hT.lt⟩
  · rw [List.getElem?_toArray]; exact hg.1
  · rw [List.getElem?_toArray, hg.2, Nat.zero_add]; rfl

theorem ex_stringO {o : Oper} {a : Act} {w : World} {x : Operand} {u : Value} {l : List UInt8} {s : ByteArray} (hs : Hid (s = ⟨l.toArray⟩)) (ho : o.op = .convert 53 9 x) (hx : a.eval x = u) (hd : Dat w u l) :
    (execOp a.eval o).run Tryz.prog w = .ok (.value (.string s)) w := by rw [hs.out]; exact ex_string ho hx hd
theorem getKey_c {w : World} {u : Value} {l : List UInt8} (hd : Dat w u l) :
    Calls Tryz.prog 85 #[u] w fun e w' => e = .returned (.int .i64 (keyOf l)) ∧ Fr 0 [] [] w w' := by
  obtain ⟨M, hM⟩ : ∃ M, w.heap.size = M := ⟨_, rfl⟩
  have hat := seq_at w
  have hsq := seqs_c w
  rw [hM] at hsq hat
  have hF1 := allocs_fr w (seqObjs M)
  obtain ⟨w1, hw1⟩ : ∃ w1, allocs w (seqObjs M) = w1 := ⟨_, rfl⟩
  rw [hw1] at hat hsq hF1
  obtain ⟨a, c, rfl, hc⟩ := id hd
  have hd1 := hd.ext hF1
  go_enter Tryz.func85, Tryz.ntmps85
  go_wp2_with (fail)
  refine hsq.mono ?_
  rintro e w2 ⟨rfl, rfl⟩
  clear hsq hw1
  go_wp2_with (fail)
  go_loopw [7] (fun v7 w' => ∃ i : Nat, i ≤ 112 ∧ v7 = .int .i64 i ∧ Fr 0 [] [] w2 w' ∧ (∀ j (hj : j < seqs.length), j < i → seqs[j].2 ≠ l)) (fun v7 _ => 112 - (intOf v7).toNat)
  case atStart => exact ⟨0, by omega, rfl, Fr.refl _ _ _ _, fun j hj h0 => absurd h0 (by omega)⟩
  case round =>
    obtain ⟨i, hi, rfl, hFi, hno⟩ := hrel
    have HNO := Lib.hid hno
    clear hno
    by_cases hlt : i < 112
    · have d1 : decide ((i : Int) < 112) = true := by simp; omega
      have d2 : (i : Int) < 112 := by omega
      have hsi := (hat i hlt).ext hFi
      have hx : ∃ key bs, seqs[i]'hlt = (key, bs) := ⟨_, _, rfl⟩
      obtain ⟨key, bs, hkb⟩ := hx
      rw [hkb] at hsi
      have HKB := Lib.hid hkb
      clear hkb
      obtain ⟨u, k1, k2, k3, k4⟩ := hsi
      obtain ⟨ua, uc, rfl, -⟩ := id k3
      have hdi := (hd1.ext hFi).ext ((Fr.refl 0 [] [] wr).alloc (.cells #[.int .i64 key, .slice (some ua) bs.length uc] 175))
      have k3i := k3.ext ((Fr.refl 0 [] [] wr).alloc (.cells #[.int .i64 key, .slice (some ua) bs.length uc] 175))
      obtain ⟨sb, hsb⟩ : ∃ s : ByteArray, s = ⟨bs.toArray⟩ := ⟨_, rfl⟩
      obtain ⟨sl, hsl⟩ : ∃ s : ByteArray, s = ⟨l.toArray⟩ := ⟨_, rfl⟩
      have HSB := Lib.hid hsb
      have HSL := Lib.hid hsl
      clear hsb hsl
      by_cases hm : bs = l
      · have hm1 : (sb.toList == sl.toList) = true := by rw [HSB.out, HSL.out, hm]; simp
        have HM := Lib.hid hm
        clear hm
        go_wp2_with (first | (refine wpList_plain rfl (fun K hK => ?_); refine wp_of_exec (ex_stringO HSB rfl rfl k3i) ?_; refine hK _ _ ?_; clear hK K) | (refine wpList_plain rfl (fun K hK => ?_); refine wp_of_exec (ex_stringO HSL rfl rfl hdi) ?_; refine hK _ _ ?_; clear hK K))
        go_ret
        refine ⟨?_, (hF1.ext hFi).alloc _⟩
        have e0 : seqs.find? (fun x => x.2 == l) = some (key, bs) := by
          rw [List.find?_eq_some_iff_getElem]
          refine ⟨by simp [HM.out], i, hlt, HKB.out, fun j hj => ?_⟩
          have := HNO.out j (by rw [seqs_len]; omega) hj
          simpa using this
        unfold keyOf
        rw [e0]
        rfl
      · have hm1 : (sb.toList == sl.toList) = false := by
          refine str_ne fun e => hm ?_
          rw [HSB.out, HSL.out] at e
          have := congrArg (fun x => x.data.toList) e
          simpa using this
        have HM := Lib.hid hm
        clear hm
        go_wp2_with (first | (refine wpList_plain rfl (fun K hK => ?_); refine wp_of_exec (ex_stringO HSB rfl rfl k3i) ?_; refine hK _ _ ?_; clear hK K) | (refine wpList_plain rfl (fun K hK => ?_); refine wp_of_exec (ex_stringO HSL rfl rfl hdi) ?_; refine hK _ _ ?_; clear hK K))
        go_roundw
        case rel =>
          refine ⟨i + 1, by omega, by simp, hFi.alloc _, fun j hj hji => ?_⟩
          by_cases e : j = i
          · subst e
            have e1 : (seqs[j]'hlt).2 = bs := congrArg Prod.snd HKB.out
            exact fun e2 => HM.out (e1.symm.trans e2)
          · exact HNO.out j hj (by omega)
        case measure => simp [intOf]; omega
    · have d1 : decide ((i : Int) < 112) = false := by simp; omega
      have d2 : ¬ (i : Int) < 112 := by omega
      have e : i = 112 := by omega
      have E := Lib.hid e
      clear e
      go_wp2_with (fail)
      go_ret
      refine ⟨?_, hF1.ext hFi⟩
      have e0 : seqs.find? (fun x => x.2 == l) = none := by
        rw [List.find?_eq_none]
        intro x hx
        obtain ⟨j, hj, rfl⟩ := List.getElem_of_mem hx
        have := HNO.out j hj (by rw [E.out]; rw [seqs_len] at hj; omega)
        simpa using this
      unfold keyOf
      rw [e0]
      rfl
end Go.Proofs.YtiepopbmbgfhkaaGreat
