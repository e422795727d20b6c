/-
  The line that is ended: BreakLine.
  The renderer: without suggestions.
-/
import Derived.Test.YtiepopbmbgfhkaaGreatQ10
namespace Go.Proofs.YtiepopbmbgfhkaaGreat
open Go.RowKit
open List renaming setIfInBounds_toArray → zq1, set_cons_zero → zq2, set_cons_succ → zq3
open Int renaming toNat_natCast → zq4, toNat_sub → zq5, toNat_zero → zq6
set_option maxHeartbeats 1000000
set_option maxRecDepth 20000
set_option linter.unusedVariables false
set_option linter.unusedSimpArgs false

theorem Prn.extract {t : ByteArray} (h : Prn t) (i j : Nat) : Prn (t.extract i j) := by
  intro k hk
  have hk' : k < (t.extract i j).data.size := hk
  simp only [ByteArray.data_extract, Array.size_extract] at hk'
  have e : (t.extract i j)[k] = t[i + k]'(by show i + k < t.data.size; omega) := by
    show (t.extract i j).data[k] = t.data[i + k]
    simp [ByteArray.data_extract]
  rw [e]
  exact h _ _
theorem noEsc_line {t : ByteArray} (h : Prn t) : NoEsc (t ++ ⟨#[10]⟩) := by
  intro i hi e
  have hi' : i < (t ++ ⟨#[10]⟩ : ByteArray).data.size := hi
  simp only [ByteArray.data_append, Array.size_append] at hi'
  have e1 : (t ++ ⟨#[10]⟩ : ByteArray)[i] = (t.data ++ #[10])[i]'(by simpa using hi') := by
    show (t ++ ⟨#[10]⟩ : ByteArray).data[i] = _
    simp [ByteArray.data_append]
  rw [e1] at e
  by_cases hlt : i < t.data.size
  · rw [Array.getElem_append_left hlt] at e
    have := (h i hlt).1
    have e2 : t[i] = 27 := e
    rw [e2] at this
    simp at this
  · rw [Array.getElem_append_right (by omega)] at e
    have h1 : (#[(10 : UInt8)]).size = 1 := rfl
    rw [h1] at hi'
    have : i - t.data.size = 0 := by omega
    simp [this] at e

theorem size_line (t : ByteArray) : (t ++ ⟨#[10]⟩ : ByteArray).size = t.size + 1 := by rw [ByteArray.size_append]; rfl

theorem Rn.putPc {base : Nat} {w : World} {r o n : Nat} {pre : ByteArray} {cols : Nat} (h : Rn base w r o pre cols n) (x : Nat) (hx : x ≤ 1400) : Rn base (w.setCell ⟨r, 7, none⟩ (.int .i64 x)) r o pre cols n ∧ Fr base [] [r] w (w.setCell ⟨r, 7, none⟩ (.int .i64 x)) := by
  obtain ⟨h1, ⟨pc, h2, h3, hB⟩, hW⟩ := h
  have hF : Fr base [] [r] w (w.setCell ⟨r, 7, none⟩ (.int .i64 x)) := (Fr.refl _ _ _ _).setCell (a := ⟨r, 7, none⟩) h1 (.inl (by simp)) _
  refine ⟨⟨h1, ⟨x, by omega, by omega, hB.set 7 _⟩, hF.wr hW (by simp) (by simp) fun b hb => ?_⟩, hF⟩
  simp only [List.mem_singleton] at hb
  subst hb
  exact ⟨_, 128, hB, by decide, by decide⟩
theorem Buf.frB {base : Nat} {w w1 : World} {b L : Nat} {t : ByteArray} {k : Nat} (h : Buf base w b L t k) {ts bs : List Nat} (hF : Fr base ts bs w w1) (h1 : 121 ∉ ts ∧ 9 ∉ ts ∧ 75 ∉ ts) (hb : ∀ x ∈ bs, ∃ cs ty, Blk w x cs ty ∧ ty ≠ 121 ∧ ty ≠ 9 ∧ ty ≠ 75) : Buf base w1 b L t k := by
  obtain ⟨hbb, hbL, cd, pc, hB, hL, hcd⟩ := h
  have hn : ∀ (y : Nat) (ds : Array Value) (ty : TypeId), Blk w y ds ty → (ty = 121 ∨ ty = 9 ∨ ty = 75) → y ∉ bs := fun y ds ty hy ht hm => by
    obtain ⟨cs, tz, e1, e2, e3, e4⟩ := hb y hm
    have hq := (hy.inj e1).2
    subst hq
    rcases ht with h | h | h
    · exact e2 h
    · exact e3 h
    · exact e4 h
  exact ⟨hbb, hbL, cd, pc, hF.blk hB (.inr ⟨hn _ _ _ hB (.inl rfl), h1.1⟩), hF.blk hL (.inr ⟨hn _ _ _ hL (.inr (.inl rfl)), h1.2.1⟩), hcd.imp id fun ⟨d, u, j, e1, e2⟩ => ⟨d, u, j, e1, hF.blk e2 (.inr ⟨hn _ _ _ e2 (.inr (.inr rfl)), h1.2.2⟩)⟩⟩

theorem breakLine_c {base : Nat} {w : World} {r o n b L : Nat} {pre : ByteArray} {cols : Nat} {t : ByteArray} {k : Nat} (h : Rn base w r o pre cols n) (hB : Buf base w b L t k) (hp : Prn pre) (hps : pre.size ≤ 100) (hc : 13 ≤ cols) (hc2 : cols ≤ 120)
    (ht : Prn t) (hts : t.size ≤ 1000) (hk : k ≤ t.size) (hn : n + 3000 ≤ 1000000000) :
    Calls Tryz.prog 49 #[.pointer (some ⟨r, 0, none⟩), .pointer (some ⟨b, 0, none⟩)] w fun e w' => e = .returned (.tuple #[]) ∧ Rn base w' r o pre cols (n + 3000) ∧ Buf base w' b L t k ∧ Fr base [5, 143] [b, r] w w' := by
  have m1 := md_SetColor
  have m2 := na_SetColor
  have m3 := md_WriteStr
  have m4 := na_WriteStr
  have ha := ht.asc
  have qf : ∀ w, (binOp .neq 125 .nilFunc .nilFunc).run Tryz.prog w = .ok (.bool false) w := fun w => by kernel_rfl
  go_enter Tryz.func49, Tryz.ntmps49
  go_wp2_with (fail)
  refine (doc_c hB).mono ?_
  rintro e w1 ⟨d, rfl, hd, hB1, hF1⟩
  go_wp2_with (fail)
  refine (before_c hd ha (by omega) hk).mono ?_
  rintro e w2 ⟨rfl, hF2⟩
  go_wp2_with (fail)
  refine (width_c _ (ht.extract 0 k) (by simp; omega) _).mono ?_
  rintro e w3 ⟨rfl, hF3⟩
  have hb121 := hB.blk.1
  have h1 := h.fr hF1 (by simp) (fun x hx => by simp only [List.mem_singleton] at hx; subst hx; obtain ⟨cs, e⟩ := hb121; exact ⟨cs, 121, e, by decide, by decide, by decide⟩)
  have h3 := hF3.rn0 (hF2.rn0 h1)
  have hB3 := hF3.buf0 (hF2.buf0 hB1)
  go_wp2_with (fail)
  refine (prefix_c h3).mono ?_
  rintro e w4 ⟨rfl, hF4⟩
  go_wp2_with (fail)
  refine (width_c _ hp (by omega) _).mono ?_
  rintro e w5 ⟨rfl, hF5⟩
  have h5 := hF5.rn0 (hF4.rn0 h3)
  have hB5 := hF5.buf0 (hF4.buf0 hB3)
  have hcur : ((k + pre.size : Nat) : Int) = (k : Int) + pre.size := by omega
  go_wp2_with (fail)
  refine (clear_c h5 hc hc2 (k + pre.size) (by omega) (by omega)).mono ?_
  rintro e w6 ⟨rfl, h6, hF6⟩
  have hB6 := hB5.after hF6 (by simp)
  go_wp2_with (fail)
  refine (renderPrefix_c h6 hp hps (by omega)).mono ?_
  rintro e w7 ⟨rfl, h7, hF7⟩
  have hB7 := hB6.after hF7 (by simp)
  have hFa : Fr base [5, 143] [b, r] w w7 := ((((((Fr.refl base [5, 143] [b, r] w).into hF1 (by simp) (by simp)).ext hF2).ext hF3).ext hF4).ext hF5 |>.into hF6 (by simp) (by simp)).into hF7 (by simp) (by simp)
  go_wp2_with (fail)
  have hS : (fun w' : World => w'.cell? ⟨r, 0, none⟩ = some (.iface 144 (.pointer (some ⟨o, 0, none⟩))) ∧ w'.cell? ⟨r, 10, none⟩ = some (.int .i64 0) ∧ w'.cell? ⟨r, 11, none⟩ = some (.int .i64 0)) w7.drew := by
    obtain ⟨pc, hpc, ⟨c0, c1, c2, c3, c5, c6, c7, f7, hlt⟩, hB, hbr⟩ := h7.ren
    exact ⟨c0, h7.col.2.2.1, h7.col.2.2.2.1⟩
  refine wp_region_plan [3, 7, 11] [14] (fun w' : World => w'.cell? ⟨r, 0, none⟩ = some (.iface 144 (.pointer (some ⟨o, 0, none⟩))) ∧ w'.cell? ⟨r, 10, none⟩ = some (.int .i64 0) ∧ w'.cell? ⟨r, 11, none⟩ = some (.int .i64 0)) (.pure 0 (.pure 1 (.pure 2 (.take 3 (.pure 4 (.pure 5 (.pure 6 (.take 7 (.pure 8 (.pure 9 (.pure 10 (.take 11 (.pure 12 (.pure 13 (.go 14 .done))))))))))))))) hmix (by kernel_rfl) ?_
  repeat (first | (refine plan_move rfl rfl rfl ?_; (try simp only [Act.put, zq1, zq2, zq3, zq4, zq5, zq6])) | (refine plan_pure (v := ?_) rfl rfl ?_ ?_; rotate_left; (intro w'; go_simp <;> with_reducible rfl); (try simp only [Act.put, zq1, zq2, zq3, zq4, zq5, zq6])) | (refine plan_take (v := ?_) rfl hS rfl ?_ ?_; rotate_left; (intro w' hSw; (try dsimp only at hSw); go_simp <;> with_reducible rfl); (try simp only [Act.put, zq1, zq2, zq3, zq4, zq5, zq6])))
  refine plan_go rfl (by kernel_rfl) rfl (fun K hK => ?_)
  go_simp; refine (setColor_c (f := 0) (b := 0) h7.wr.drew (by omega) (by omega) (by omega)).mono ?_; rintro e w8 ⟨rfl, hW8, hF8⟩; refine hK _ _ ?_; clear hK K; (try simp only [Act.put, zq1, zq2, zq3, zq4, zq5, zq6])
  refine plan_done ?_
  have h8 := h7.drew.after hF8 hW8
  have hB8 := hB7.drew.after hF8 (by simp)
  go_wp2_with (fail)
  have hS : (fun w' : World => w'.cell? ⟨r, 0, none⟩ = some (.iface 144 (.pointer (some ⟨o, 0, none⟩)))) w8.drew := by
    obtain ⟨pc, hpc, ⟨c0, c1, c2, c3, c5, c6, c7, f7, hlt⟩, hB, hbr⟩ := h8.ren
    exact c0
  have hs1 : t.size + 1 ≤ 9223372036854775807 := by omega
  refine wp_region_plan [3] [5, 8, 9, 12] (fun w' : World => w'.cell? ⟨r, 0, none⟩ = some (.iface 144 (.pointer (some ⟨o, 0, none⟩)))) (.pure 0 (.pure 1 (.pure 2 (.take 3 (.pure 4 (.pure 10 (.pure 11 (.go 5 (.pure 6 (.pure 7 (.go 8 (.go 9 (.go 12 .done))))))))))))) hmix (by kernel_rfl) ?_
  repeat (first | (refine plan_move rfl rfl rfl ?_; (try simp only [Act.put, zq1, zq2, zq3, zq4, zq5, zq6])) | (refine plan_pure (v := ?_) rfl rfl ?_ ?_; rotate_left; (intro w'; go_simp <;> with_reducible rfl); (try simp only [Act.put, zq1, zq2, zq3, zq4, zq5, zq6])) | (refine plan_take (v := ?_) rfl hS rfl ?_ ?_; rotate_left; (intro w' hSw; (try dsimp only at hSw); go_simp <;> with_reducible rfl); (try simp only [Act.put, zq1, zq2, zq3, zq4, zq5, zq6])))
  refine plan_goS rfl rfl (fun K hK => ?_)
  go_simp; refine (doc_c hB8.drew).mono ?_; rintro e w9 ⟨d9, rfl, hd9, hB9, hF9⟩; have h9 := h8.drew.fr hF9 (by simp) (fun x hx => by simp only [List.mem_singleton] at hx; subst hx; obtain ⟨cs, e⟩ := hB8.blk.1; exact ⟨cs, 121, e, by decide, by decide, by decide⟩); have hS9 : (fun w' : World => w'.cell? ⟨r, 0, none⟩ = some (.iface 144 (.pointer (some ⟨o, 0, none⟩)))) w9 := (by obtain ⟨pc, hpc, ⟨c0, c1, c2, c3, c5, c6, c7, f7, hlt⟩, hB, hbr⟩ := h9.ren; exact c0); refine hK _ _ hS9 ?_; clear hK K; have dd := hd9.cell 0; (try simp only [Act.put, zq1, zq2, zq3, zq4, zq5, zq6])
  repeat (first | (refine plan_pure (v := ?_) rfl rfl ?_ ?_; rotate_left; (intro w'; go_simp <;> with_reducible rfl); (try simp only [Act.put, zq1, zq2, zq3, zq4, zq5, zq6])))
  refine plan_goS rfl rfl (fun K hK => ?_)
  go_simp; refine hK _ _ hS9 ?_; clear hK K; (try simp only [Act.put, zq1, zq2, zq3, zq4, zq5, zq6])
  refine plan_goS rfl rfl (fun K hK => ?_)
  refine wp_of_exec (ex_add rfl rfl rfl (by show t.size + 1 ≤ 9223372036854775807; omega)) ?_; refine hK _ _ hS9 ?_; clear hK K; (try simp only [Act.put, zq1, zq2, zq3, zq4, zq5, zq6])
  refine plan_go rfl (by kernel_rfl) rfl (fun K hK => ?_)
  go_simp; refine (writeStr_c h9.wr (noEsc_line ht) (by rw [size_line]; omega)).mono ?_; rintro e w10 ⟨rfl, hW10, hF10⟩; refine hK _ _ ?_; clear hK K; (try simp only [Act.put, zq1, zq2, zq3, zq4, zq5, zq6])
  refine plan_done ?_
  have h10 := h9.after hF10 hW10
  have hB10 := hB9.after hF10 (by simp)
  obtain ⟨pc, hpc, ⟨c0, c1, c2, c3, c5, c6, c7, f7, hlt⟩, hBr, hbr⟩ := h10.ren
  go_wp2_with (fail)
  refine (setColor_c (f := 0) (b := 0) h10.wr (by omega) (by omega) (by rw [size_line]; omega)).mono ?_
  rintro e w11 ⟨rfl, hW11, hF11⟩
  have h11 := h10.after hF11 hW11
  have hB11 := hB10.after hF11 (by simp)
  obtain ⟨pc, hpc, ⟨c0, c1, c2, c3, c5, c6, c7, f7, hlt⟩, hBr, hbr⟩ := h11.ren
  go_wp2_with (fail)
  go_end0
  obtain ⟨h12, hF12⟩ := h11.putPc 0 (by omega)
  have hB12 := hB11.frB hF12 (by simp) (fun x hx => by simp only [List.mem_singleton] at hx; subst hx; exact ⟨_, 128, hBr, by decide, by decide, by decide⟩)
  refine ⟨rfl, ⟨h12.1, h12.2.1, h12.wr.le (by rw [size_line]; omega)⟩, hB12, ?_⟩
  exact (((((hFa.drew.into hF8 (by simp) (by simp)).drew).into hF9 (by simp) (by simp)).into hF10 (by simp) (by simp)).into hF11 (by simp) (by simp)).into hF12 (by simp) (by simp)
end Go.Proofs.YtiepopbmbgfhkaaGreat

namespace Go.Proofs.YtiepopbmbgfhkaaGreat
open Go.RowKit
set_option maxHeartbeats 1000000
set_option maxRecDepth 20000
set_option linter.unusedVariables false
set_option linter.unusedSimpArgs false

theorem renderNone_c {base : Nat} {w : World} {r b c : Nat} {q : Cp} {sel vs : Int} (h : Cm base w c q sel vs []) :
    Calls Tryz.prog 82 #[.pointer (some ⟨r, 0, none⟩), .pointer (some ⟨b, 0, none⟩), .pointer (some ⟨c, 0, none⟩)] w fun e w' => e = .returned (.tuple #[]) ∧ Fr 0 [] [] w w' := by
  go_enter Tryz.func82, Tryz.ntmps82
  go_wp2_with (fail)
  refine (getSuggestions_c h).mono ?_
  rintro e w1 ⟨⟨p, k, rfl, hP⟩, rfl⟩
  go_wp2_with (fail)
  refine (getSuggestions_c h).mono ?_
  rintro e w1 ⟨⟨p2, k2, rfl, hP2⟩, rfl⟩
  go_wp2_with (fail)
  refine bodyPost_ret (results_none rfl _ _ _) rfl ?_
  exact ⟨rfl, Fr.refl _ _ _ _⟩

/-- ShowCursor as it is deferred. -/
theorem showCursor_d {base : Nat} {w : World} {o n : Nat} {md : FrameMode} (h : Wr base w o n) (hn : n + 12 ≤ 1000000000) :
    CallsD Tryz.prog 251 #[.pointer (some ⟨o, 0, none⟩)] md w fun e u' w' => u' = md ∧ Wrote base o (n + 12) w e w' := by
  go_enter_d Tryz.func251, Tryz.ntmps251
  go_wp2_with (fail)
  refine (writeRaw_c (h.alloc _) (Dat.of_blk [27,91,63,49,50,108,27,91,63,50,53,104] _ (Blk.new' rfl _ _)) (by simp; omega)).mono ?_
  rintro e w1 ⟨rfl, hW1, hF1⟩
  go_wp2
  go_end0
  exact ⟨rfl, hW1.le (by simp), ((Fr.refl _ _ _ _).alloc _).into hF1 (by simp) (by simp)⟩

/-- What the rendering of suggestions leaves. -/
def Rend (base r o b L c : Nat) (pre : ByteArray) (cols n : Nat) (t : ByteArray) (k : Nat) (q : Cp) (sel vs : Int) (tmp : List Pk) (w : World) (e : Ending) (w' : World) : Prop :=
  e = .returned (.tuple #[]) ∧ Rn base w' r o pre cols n ∧ Buf base w' b L t k ∧ Cm base w' c q sel vs tmp ∧ Fr base [5, 143] [b, r] w w'
end Go.Proofs.YtiepopbmbgfhkaaGreat
