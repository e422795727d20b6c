/-
  The writer's functions.
-/
import Derived.Test.YtiepopbmbgfhkaaGreatA6
namespace Go.Proofs.YtiepopbmbgfhkaaGreat
open Go.RowKit
set_option maxHeartbeats 1000000
set_option maxRecDepth 20000
set_option linter.unusedVariables false
set_option linter.unusedSimpArgs false

theorem Fr.fresh {ts bs : List Nat} {w w1 : World} {base : Nat} (h : Fr w.heap.size ts bs w w1) : Fr base [] [] w w1 :=
  ⟨h.os, h.tape, h.output, h.size, fun k hk _ => h.keep k hk (.inl hk)⟩
theorem Fr.dn {base base' : Nat} {ts bs : List Nat} {w w1 : World} (h : Fr base ts bs w w1) (hb : base' ≤ base) : Fr base' ts bs w w1 := h.base_mono hb

theorem Bys.alloc {base : Nat} {w : World} {v : Value} {l : List UInt8} (h : Bys base w v l) (o : Obj) : Bys base (w.alloc o) v l := ((Fr.refl 0 [] [] w).alloc o).bys h (by simp) (by simp)
theorem Bys.drew {base : Nat} {w : World} {v : Value} {l : List UInt8} (h : Bys base w v l) : Bys base w.drew v l := h
theorem getD_take {l : List UInt8} {i : Nat} (h : i < l.length) : l.take i ++ [l[i]] = l.take (i + 1) := by
  rw [List.take_succ_eq_append_getElem h]

theorem replace_c (s : ByteArray) (c : UInt8) (new : ByteArray) (hs : s.size ≤ 1000000000) (hno : ∀ i (h : i < s.size), s[i] ≠ c) (w : World) :
    Calls Tryz.prog 183 #[.string s, .string ⟨#[c]⟩, .string new] w fun e w' => e = .returned (.string s) ∧ Fr 0 [] [] w w' := by
  go_enter Tryz.func183, Tryz.ntmps183
  go_wp2
  go_loopw [7, 8] (fun v7 v8 w' => ∃ i : Nat, i ≤ s.size ∧ v8 = .int .i64 i ∧ Bys w.heap.size w' v7 (s.data.toList.take i) ∧ Fr w.heap.size [5] [] w w') (fun _ v8 _ => s.size - (intOf v8).toNat)
  case atStart => exact ⟨0, by omega, rfl, Bys.nil _ _, Fr.refl _ _ _ _⟩
  case round =>
    obtain ⟨i, hi, rfl, hB, hF⟩ := hrel
    obtain ⟨p, k, cc, rfl⟩ := hB.form
    have hsz := hF.size
    by_cases hlt : i < s.size
    · have hne : ((s.extract i (i + 1)).toList == [c]) = false := by
        have : (⟨#[c]⟩ : ByteArray).toList = [c] := by rw [ByteArray.toList_eq]
        rw [← this]
        refine str_ne fun e => hno i hlt ?_
        have e2 := congrArg (fun b : ByteArray => b.data.getD 0 0) e
        simp only [ByteArray.data_extract] at e2
        have h' : i < s.data.size := hlt
        have e3 : (s.data.extract i (i + 1)).getD 0 0 = s.data[i] := by
          rw [Array.getD_eq_getD_getElem?, Array.getElem?_extract]
          simp [h', show i < s.size from hlt]
          split
          · rfl
          · omega
        rw [e3] at e2
        exact e2
      go_wp2_with (first | (refine wpList_plain rfl (fun K hK => ?_); refine wp_app _ _ rfl rfl rfl (hB.alloc _) (Dat.of_blk [s[i]] 1 (Blk.new' rfl _ _)) (by simp; omega) (by simp; omega) ?_; intro pp pk pc w1 hB1 hF1 hG1; refine hK _ _ ?_; clear hK K))
      go_roundw
      case rel =>
        refine ⟨i + 1, by omega, by simp, ?_, (hF.alloc _).into hF1 (by simp) (by simp)⟩
        have e : s.data.toList.take (i + 1) = s.data.toList.take i ++ [s[i]] := by
          rw [← getD_take (by simpa using hlt)]
          simp
          rfl
        rw [e]; exact hB1
      case measure => simp [intOf]; omega
    · have e : i = s.size := by omega
      subst e
      have hr := run_string_row hB
      rw [List.take_of_length_le (by simp)] at hr
      have hl : (s.data.toList.take s.size) = s.data.toList := List.take_of_length_le (by simp)
      go_wp2_with (fail)
      go_ret
      exact ⟨rfl, hF.fresh⟩

theorem Wr.alloc {base : Nat} {w : World} {o n : Nat} (h : Wr base w o n) (x : Obj) : Wr base (w.alloc x) o n := ((Fr.refl 0 [] [] w).alloc x).wr0 h
theorem Wr.drew {base : Nat} {w : World} {o n : Nat} (h : Wr base w o n) : Wr base w.drew o n := h
theorem Wr.drewN {base : Nat} {w : World} {o n : Nat} (h : Wr base w o n) (k : Nat) : Wr base (w.drewN k) o n := h

/-- No escape sign is in a text. -/
def NoEsc (t : ByteArray) : Prop := ∀ i (h : i < t.size), t[i] ≠ 27
theorem Prn.noEsc {t : ByteArray} (h : Prn t) : NoEsc t := fun i hi e => by
  have := (h i hi).1
  rw [e] at this
  simp at this

theorem dat_string (t : ByteArray) : (⟨t.data.toList.toArray⟩ : ByteArray) = t := by
  apply ByteArray.ext; simp

theorem write_c {base : Nat} {w : World} {o n : Nat} {u : Value} {t : ByteArray} (h : Wr base w o n) (hd : Dat w u t.data.toList) (hno : NoEsc t) (hn : n + t.size ≤ 1000000000) :
    Calls Tryz.prog 253 #[.pointer (some ⟨o, 0, none⟩), u] w (Wrote base o (n + t.size) w) := by
  have hr := run_string hd
  rw [dat_string] at hr
  obtain ⟨a, c, rfl, -⟩ := hd
  rw [show t.data.toList.length = t.size by simp] at hr ⊢
  have hlt := h.lt
  go_enter Tryz.func253, Tryz.ntmps253
  go_wp2_with (fail)
  refine (replace_c t 27 ⟨#[63]⟩ (by omega) hno w).mono ?_
  rintro e w1 ⟨rfl, hF⟩
  have h1 := hF.wr0 h
  go_wp2_with (first | (refine wpList_plain rfl (fun K hK => ?_); refine wp_bytes _ t rfl rfl ?_; intro u2 w2 hD2 hF2; refine hK _ _ ?_; clear hK K))
  have h2 := hF2.wr0 h1
  refine (writeRaw_c h2 hD2 (by simp; omega)).mono ?_
  rintro e w3 ⟨rfl, h3, hF3⟩
  go_wp2
  go_end0
  rw [show t.data.toList.length = t.size by simp] at h3
  exact ⟨rfl, h3, (((Fr.refl _ _ _ _).ext hF).ext hF2).into hF3 (by simp) (by simp)⟩

theorem writeStr_c {base : Nat} {w : World} {o n : Nat} {t : ByteArray} (h : Wr base w o n) (hno : NoEsc t) (hn : n + t.size ≤ 1000000000) :
    Calls Tryz.prog 256 #[.pointer (some ⟨o, 0, none⟩), .string t] w (Wrote base o (n + t.size) w) := by
  go_enter Tryz.func256, Tryz.ntmps256
  go_wp2_with (first | (refine wpList_plain rfl (fun K hK => ?_); refine wp_bytes _ t rfl rfl ?_; intro u2 w2 hD2 hF2; refine hK _ _ ?_; clear hK K))
  have h2 := hF2.wr0 h
  refine (write_c h2 hD2 hno hn).mono ?_
  rintro e w3 ⟨rfl, h3, hF3⟩
  go_wp2
  go_end0
  exact ⟨rfl, h3, ((Fr.refl _ _ _ _).ext hF2).into hF3 (by simp) (by simp)⟩

theorem eraseDown_c {base : Nat} {w : World} {o n : Nat} (h : Wr base w o n) (hn : n + 12 ≤ 1000000000) :
    Calls Tryz.prog 239 #[.pointer (some ⟨o, 0, none⟩)] w (Wrote base o (n + 12) w) := by
  go_enter Tryz.func239, Tryz.ntmps239
  go_wp2_with (fail)
  refine (writeRaw_c (h.alloc _) (Dat.of_blk [27, 91, 74] _ (Blk.new' rfl _ _)) (by simp; omega)).mono ?_
  rintro e w1 ⟨rfl, hW1, hF1⟩
  go_wp2
  go_end0
  exact ⟨rfl, hW1.le (by simp), ((Fr.refl _ _ _ _).alloc _).into hF1 (by simp) (by simp)⟩

theorem hideCursor_c {base : Nat} {w : World} {o n : Nat} (h : Wr base w o n) (hn : n + 12 ≤ 1000000000) :
    Calls Tryz.prog 245 #[.pointer (some ⟨o, 0, none⟩)] w (Wrote base o (n + 12) w) := by
  go_enter Tryz.func245, Tryz.ntmps245
  go_wp2_with (fail)
  refine (writeRaw_c (h.alloc _) (Dat.of_blk [27, 91, 63, 50, 53, 108] _ (Blk.new' rfl _ _)) (by simp; omega)).mono ?_
  rintro e w1 ⟨rfl, hW1, hF1⟩
  go_wp2
  go_end0
  exact ⟨rfl, hW1.le (by simp), ((Fr.refl _ _ _ _).alloc _).into hF1 (by simp) (by simp)⟩

theorem scrollDown_c {base : Nat} {w : World} {o n : Nat} (h : Wr base w o n) (hn : n + 12 ≤ 1000000000) :
    Calls Tryz.prog 247 #[.pointer (some ⟨o, 0, none⟩)] w (Wrote base o (n + 12) w) := by
  go_enter Tryz.func247, Tryz.ntmps247
  go_wp2_with (fail)
  refine (writeRaw_c (h.alloc _) (Dat.of_blk [27, 68] _ (Blk.new' rfl _ _)) (by simp; omega)).mono ?_
  rintro e w1 ⟨rfl, hW1, hF1⟩
  go_wp2
  go_end0
  exact ⟨rfl, hW1.le (by simp), ((Fr.refl _ _ _ _).alloc _).into hF1 (by simp) (by simp)⟩

theorem scrollUp_c {base : Nat} {w : World} {o n : Nat} (h : Wr base w o n) (hn : n + 12 ≤ 1000000000) :
    Calls Tryz.prog 248 #[.pointer (some ⟨o, 0, none⟩)] w (Wrote base o (n + 12) w) := by
  go_enter Tryz.func248, Tryz.ntmps248
  go_wp2_with (fail)
  refine (writeRaw_c (h.alloc _) (Dat.of_blk [27, 77] _ (Blk.new' rfl _ _)) (by simp; omega)).mono ?_
  rintro e w1 ⟨rfl, hW1, hF1⟩
  go_wp2
  go_end0
  exact ⟨rfl, hW1.le (by simp), ((Fr.refl _ _ _ _).alloc _).into hF1 (by simp) (by simp)⟩

theorem showCursor_c {base : Nat} {w : World} {o n : Nat} (h : Wr base w o n) (hn : n + 12 ≤ 1000000000) :
    Calls Tryz.prog 251 #[.pointer (some ⟨o, 0, none⟩)] w (Wrote base o (n + 12) w) := by
  go_enter Tryz.func251, Tryz.ntmps251
  go_wp2_with (fail)
  refine (writeRaw_c (h.alloc _) (Dat.of_blk [27, 91, 63, 49, 50, 108, 27, 91, 63, 50, 53, 104] _ (Blk.new' rfl _ _)) (by simp; omega)).mono ?_
  rintro e w1 ⟨rfl, hW1, hF1⟩
  go_wp2
  go_end0
  exact ⟨rfl, hW1.le (by simp), ((Fr.refl _ _ _ _).alloc _).into hF1 (by simp) (by simp)⟩
end Go.Proofs.YtiepopbmbgfhkaaGreat
