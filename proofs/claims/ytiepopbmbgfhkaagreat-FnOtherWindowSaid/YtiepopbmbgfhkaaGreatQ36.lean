/-
  Every key but one has its binding.
  ^C: a line is left.
  Any bytes that a prompt is fed, ^C among them.
  Prompted, of any session and any keys that are looked at.
-/
import Derived.Test.YtiepopbmbgfhkaaGreatQ35
import Derived.Test.YtiepopbmbgfhkaaGreatQ18
import Derived.Test.YtiepopbmbgfhkaaGreatQ19
import Derived.Test.YtiepopbmbgfhkaaGreatQ28
import Derived.Test.YtiepopbmbgfhkaaGreatQ33
namespace Go.Proofs.YtiepopbmbgfhkaaGreat
open Go.RowKit
set_option maxHeartbeats 2000000
set_option maxRecDepth 20000
set_option linter.unusedVariables false
set_option linter.unusedSimpArgs false

/-- What a key is bound to makes of a stand. -/
def bdP (mode : ByteArray) (key : Int) (s : PS) : PS := { s with t := (bdF mode key (s.t, s.k)).1, k := (bdF mode key (s.t, s.k)).2 }

theorem kb_any {base : Nat} {I : Pid} {key : Int} (h12 : key ≠ 12) : KBnd base I key (bdP I.mode key) := fun w D h hk =>
  (keyB_c h.pr h.scr.rn h.scr.buf h.exi hk.ok.ht (Nat.le_trans hk.ok.hts (by omega)) hk.ok.hk h12).mono fun e w' ⟨he, hB, hF⟩ =>
    ⟨he, ⟨_, h.bufUpd hB hF, rfl, rfl⟩, h.tt hF (by simp) (fun x hx => .inr (by simp only [List.mem_cons, List.not_mem_nil, or_false] at hx ⊢; rcases hx with h | h <;> simp [h]))⟩
end Go.Proofs.YtiepopbmbgfhkaaGreat

namespace Go.Proofs.YtiepopbmbgfhkaaGreat
open Go.RowKit
open List renaming setIfInBounds_toArray → zq1, set_cons_zero → zq2, set_cons_succ → zq3
open Int renaming toNat_natCast → zq4, toNat_sub → zq5, toNat_zero → zq6
set_option maxHeartbeats 4000000
set_option maxRecDepth 20000
set_option linter.unusedVariables false
set_option linter.unusedSimpArgs false

section
variable {base : Nat} {w : World} {I : Pid} {D : Dyn}
theorem feed_cancel {u : Value} {l : List UInt8} {bd : PS → PS} (h : St base w I D) (hI : IdOk I) (hP : PsOk I D.ps) (hd : DatB w u l) (hkey : keyOf l = 3) (hKB : KBnd base I 3 bd) (hn : D.n + 4000 ≤ 1000000000) :
    Calls Tryz.prog 48 #[.pointer (some ⟨I.p, 0, none⟩), u] w (FeedPost base I D (bd (D.ps.comp I.q I.down 3).cancel) false none w) := by
  obtain ⟨cp, hcp⟩ : ∃ cp, cp = (D.sel != -1) := ⟨_, rfl⟩
  have hgk := getKey_c hd.dat
  rw [hkey] at hgk
  obtain ⟨o1, o2, o3, o4, o5, o6⟩ := comp_ok hI hP 3 ⟨by omega, by omega, by omega, by omega⟩
  obtain ⟨m1, m2, m3, m4, m5⟩ := comp_keep D I 3
  have hh : D.hs.length ≤ 1000 := hP.hhl
  have hcomp := fun (w1 : World) (h1 : St base w1 I D) => comp_c h1 (StOk.of hI hP) cp hcp 3 (by omega)
  rw [← ps_comp]
  obtain ⟨D1, hD1⟩ : ∃ D1, D.comp I 3 = D1 := ⟨_, rfl⟩
  rw [hD1] at o1 o2 o3 o4 o5 o6 m1 m2 m3 m4 m5 hcomp ⊢
  rw [← m1] at hh
  have HM := Lib.hid (And.intro m4 m5)
  have HO := Lib.hid (And.intro o4 (And.intro o5 o6))
  clear hkey hD1 m1 m2 m3 m4 m5 o4 o5 o6
  obtain ⟨ua, un, uc, rfl⟩ := hd.form
  go_enter Tryz.func48, Tryz.ntmps48
  go_wp2_with (fail)
  refine hgk.mono ?_
  rintro e w1 ⟨rfl, hF1⟩
  have h1 := h.fr0 hF1
  have hcc := completing_c h1.scr.cm
  rw [← hcp] at hcc
  obtain ⟨c0, c1, c2, c3, c4, c5, c6, c7, c8, c9, f0, hlt⟩ := prC h1.pr
  clear hcp hgk
  go_wp2_with (fail)
  refine hcc.mono ?_
  rintro e w2 ⟨rfl, rfl⟩
  clear hcc
  go_wp2_with (fail)
  refine (hcomp _ h1).mono ?_
  rintro e w2 ⟨rfl, h2, hF2⟩
  clear hcomp
  have hT2 : Fr base TT [] w w2 := hF1.any.trans (h1.compTT hF2)
  obtain ⟨c0, c1, c2, c3, c4, c5, c6, c7, c8, c9, f0, hlt⟩ := prC h2.pr
  go_wp2_with (fail)
  have hS : (fun w' : World => w'.cell? ⟨I.p, 1, none⟩ = some (.pointer (some ⟨I.r, 0, none⟩)) ∧ w'.cell? ⟨I.p, 0, none⟩ = some (.pointer (some ⟨D1.b, 0, none⟩))) w2.drew := ⟨c1, c0⟩
  refine wp_region_plan [3, 7] [8] (fun w' : World => w'.cell? ⟨I.p, 1, none⟩ = some (.pointer (some ⟨I.r, 0, none⟩)) ∧ w'.cell? ⟨I.p, 0, none⟩ = some (.pointer (some ⟨D1.b, 0, none⟩))) (.pure 0 (.pure 1 (.pure 2 (.take 3 (.pure 4 (.pure 5 (.pure 6 (.take 7 (.go 8 .done))))))))) hmix (by kernel_rfl) ?_
  repeat (first | (refine plan_move rfl rfl rfl ?_; (try simp only [Act.put, zq1, zq2, zq3, zq4, zq5, zq6])) | (refine plan_pure (v := ?_) rfl rfl ?_ ?_; rotate_left; (intro w'; go_simp <;> with_reducible rfl); (try simp only [Act.put, zq1, zq2, zq3, zq4, zq5, zq6])) | (refine plan_take (v := ?_) rfl hS rfl ?_ ?_; rotate_left; (intro w' hSw; (try dsimp only at hSw); go_simp <;> with_reducible rfl); (try simp only [Act.put, zq1, zq2, zq3, zq4, zq5, zq6])))
  refine plan_go rfl (by kernel_rfl) rfl (fun K hK => ?_)
  go_simp; refine (breakLine_c h2.scr.rn.drew h2.scr.buf.drew hI.hpre hI.hpres hI.hc1 hI.hc2 o1 (by omega) o3 (by rw [HM.out.2]; omega)).mono ?_; rintro e w3 ⟨rfl, hR3, hB3, hF3⟩; refine hK _ _ ?_; clear hK K; (try simp only [Act.put, zq1, zq2, zq3, zq4, zq5, zq6])
  refine plan_done ?_
  have h3 := h2.drew.outUpd (h2.drew.scr.brk hR3 hB3 hF3) hF3 (by simp)
  have hT3 := (hT2.drew).trans (h2.drew.tt5 (hF3.mono (by simp) (by simp)))
  obtain ⟨c0, c1, c2, c3, c4, c5, c6, c7, c8, c9, f0, hlt⟩ := prC h3.pr
  obtain ⟨X, hX⟩ : ∃ X, w3.heap.size = X := ⟨_, rfl⟩
  go_wp2_with (fail)
  refine (newBuffer_c _).mono ?_
  rintro e w6 ⟨b', L', rfl, hL', hb', hB6, hF6⟩
  have h6 := h3.fr0 hF6
  have hT6 := hT3.trans hF6.any
  have hbs : base ≤ X := by have := h3.bp; have := h3.lts; omega
  have hlts := h3.lts
  obtain ⟨h7, hF7⟩ := h6.newBuf (hB6.base (by omega)) (by show L' ≠ D1.gh; have : D1.gh < _ := hlts.2.2.1; omega) (by show L' ≠ D1.gt; have : D1.gt < _ := hlts.2.2.2.1; omega) (fun g hg e => by have := hlts.2.2.2.2.2.2 g hg; omega)
  clear hL' hb' hlts
  have hT7 := hT6.trans (h6.tt hF7 (by simp) (by simp))
  obtain ⟨c0, c1, c2, c3, c4, c5, c6, c7, c8, c9, f0, hlt⟩ := prC h6.pr
  go_wp2_with (fail)
  obtain ⟨e1, e2, e3, e4, vh, vt, hHB, hHH, hHT⟩ := h7.hist
  obtain ⟨tc, etv, -⟩ := hHT.form
  refine (hClear_c e1 e2 hHB hHH ⟨_, _, _, etv⟩ (Nat.le_trans (show D1.hs.length ≤ 1000 from hh) (by omega))).mono ?_
  rintro e w8 ⟨rfl, ⟨gt', hgt, hH8⟩, hF8⟩
  have h8 := h7.histUpd hH8 (hF8.mono (by simp) (by simp)) (.inl rfl) (.inr hgt)
  have hT8 := hT7.trans (h7.tt hF8 (by simp) (fun x hx => .inr (by simp only [List.mem_singleton] at hx; simp [hx])))
  go_wp2_with (fail)
  refine (hKB _ _ h8 (stOk_mk hI prn_empty (by show ByteArray.empty.size ≤ 1000; decide) (Nat.zero_le _) HO.out.1 HO.out.2.1 HO.out.2.2)).mono ?_
  rintro e w9 ⟨rfl, ⟨D9, h9, hps9, hn9⟩, hF9⟩
  go_wp2
  go_ret2
  exact ⟨D9, _, rfl, h9, hps9, by rw [hn9]; have := HM.out.2; show D1.n + 3000 ≤ D.n + 4000; omega, .inl ⟨rfl, rfl⟩, hT8.trans hF9⟩
end
end Go.Proofs.YtiepopbmbgfhkaaGreat

namespace Go.Proofs.YtiepopbmbgfhkaaGreat
open Go.RowKit
set_option maxHeartbeats 2000000
set_option maxRecDepth 20000
set_option linter.unusedVariables false
set_option linter.unusedSimpArgs false

/-- What is asked of bytes: a key, or a text. -/
structure KeyAll (base : Nat) (I : Pid) (s : PS) (bd : Int → PS → PS) (l : List UInt8) : Prop where
  n9 : keyOf l ≠ 9
  n10 : keyOf l ≠ 10
  text : keyOf l = 86 → l.length ≤ 100 ∧ Prn ⟨l.toArray⟩
  bnd : ¬ (keyOf l = 4 ∧ (s.comp I.q I.down 4).t = .empty) → ¬ ((keyOf l = 37 ∨ keyOf l = 14) ∧ s.sel = -1) → KBnd base I (keyOf l) (bd (keyOf l))

section
variable {base : Nat} {w : World} {I : Pid} {D : Dyn}
theorem fedAll {u : Value} {l : List UInt8} {bd : Int → PS → PS} {P : PS → Prop} (h : St base w I D) (hI : IdOk I) (hP : PsOk I D.ps) (hd : DatB w u l) (hR : RenP base I P) (hK : KeyAll base I D.ps bd l)
    (hres : PsOk I (D.ps.fed I.q I.down I.et bd l).1) (hP2 : (D.ps.feed I.q I.down bd l).2.1 = false → P (D.ps.fed I.q I.down I.et bd l).1) (hn : D.n + 210000 ≤ 1000000000) :
    Calls Tryz.prog 23 #[.pointer (some ⟨I.p, 0, none⟩), u] w (FedPost base I D (D.ps.fed I.q I.down I.et bd l).1 (D.ps.fed I.q I.down I.et bd l).2 w) := by
  by_cases h3 : keyOf l = 3
  · have e : D.ps.feed I.q I.down bd l = (bd 3 (D.ps.comp I.q I.down 3).cancel, false, none) := by
      unfold PS.feed; rw [h3, if_neg (by omega), if_pos rfl]
    have ef : D.ps.fed I.q I.down I.et bd l = ((bd 3 (D.ps.comp I.q I.down 3).cancel).update I.q, false) := by
      unfold PS.fed; rw [e]
    rw [ef] at hres hP2 ⊢
    rw [e] at hP2
    have hb := hK.bnd (by omega) (by omega)
    rw [h3] at hb
    exact fed_none hI (feed_cancel h hI hP hd h3 hb (by omega)) hR hres (hP2 rfl) hn
  · exact fedAny h hI hP hd hR ⟨hK.n9, hK.n10, h3, hK.text, hK.bnd⟩ hres hP2 hn
end
end Go.Proofs.YtiepopbmbgfhkaaGreat

namespace Go.Proofs.YtiepopbmbgfhkaaGreat
open Go.RowKit
set_option maxHeartbeats 2000000
set_option maxRecDepth 20000
set_option linter.unusedVariables false
set_option linter.unusedSimpArgs false

def Sess.aFed (S : Sess) : PS → List UInt8 → PS × Bool := fun s l => s.fed (S.cp 0 0) S.down S.exit (bdP S.mode) l
/-- What is asked of a chunk: a key but three, or a text. -/
def AKey (c : ByteArray) : Prop := keyOf c.data.toList ≠ 9 ∧ keyOf c.data.toList ≠ 10 ∧ keyOf c.data.toList ≠ 12 ∧ (keyOf c.data.toList = 86 → c.size ≤ 100 ∧ Prn c)

theorem prompted_all {w : World} {S : Sess} {ov hv chv : Value} {chunks : List ByteArray} (hS : SessOk S) (hcol : S.pre.size + 13 ≤ S.cols)
    (hw : 1 ≤ w.heap.size) (ht : Tab w) (hO : PkIn w ov S.offs) (hH : TxIn w hv S.hist)
    (hCh : TxIn w chv chunks) (hChN : ∀ A n c, chv = .slice (some A) n c → A.block < w.heap.size) (hlen : chunks.length ≤ 100)
    (hst : ∀ i, i ≤ chunks.length → GOk S (play S.aFed S.g0 (chunks.take i)).1) (hk : ∀ i (hi : i < chunks.length), AKey chunks[i]) :
    Calls Tryz.prog 12 #[.agg (S.cells ov hv), chv] w (PrompPost (play S.aFed S.g0 chunks).1 (play S.aFed S.g0 chunks).2 w) := by
  have ren : ∀ N I x, IdS S x I → RenP N I (Win I) := fun N I x hId =>
    ren_any (idOk_of hId hS) (by rw [hId.pre, hId.cols]; exact hcol) (fun y hy => by
      have e : I.q.offs = S.offs := by rw [hId.q]; rfl
      rw [e] at hy
      exact (hS.ho y hy).2.2.2.2)
  refine prompted_c hS hw ht hO hH hCh hChN hlen (fun N x I w D hN hId h hD hn => ?_) (fun N x i hi I w D u hN hId h hD hov hd hn => ?_)
  · have hI := idOk_of hId hS
    have h0 := hst 0 (Nat.zero_le _)
    have e0 : (play S.aFed S.g0 (chunks.take 0)).1 = S.g0 := rfl
    rw [e0] at h0
    have e : (if I.q.start then D.ps.update I.q else D.ps) = S.g0 := by
      rw [hD]
      unfold Sess.g0
      rw [show I.q.start = S.start by rw [hId.q]; rfl, hId.q]
      rfl
    have := show_c (P := Win I) h hI (ren N I x hId) (by rw [e]; exact h0.ok I x hId) (by rw [e]; exact h0.winI hId) (by rw [hn]; omega)
    rw [e] at this
    exact this
  · have hI := idOk_of hId hS
    have hi1 := hst i (by omega)
    have hi2 := hst (i + 1) (by omega)
    have hki := hk i hi
    obtain ⟨s, hs⟩ : ∃ s, (play S.aFed S.g0 (chunks.take i)).1 = s := ⟨_, rfl⟩
    have hsucc : play S.aFed S.g0 (chunks.take (i + 1)) = S.aFed s chunks[i].data.toList := by
      rw [play_succ _ _ _ _ hi]
      unfold stepO
      rw [hov, hs]
      rfl
    rw [hsucc] at hi2
    rw [hs] at hi1 hD ⊢
    obtain ⟨l, hl⟩ : ∃ l, chunks[i].data.toList = l := ⟨_, rfl⟩
    have hcl : chunks[i] = ⟨l.toArray⟩ := by rw [← hl]
    unfold AKey at hki
    rw [hl] at hki hi2 hd ⊢
    have e : S.aFed s l = D.ps.fed I.q I.down I.et (bdP I.mode) l := by
      unfold Sess.aFed
      rw [hD, hId.q, hId.down, hId.et, hId.mode]
      rfl
    rw [e] at hi2 ⊢
    have hPs : PsOk I D.ps := by rw [hD]; exact hi1.ok I x hId
    refine fedAll h hI hPs hd (ren N I x hId) ?_ (hi2.ok I x hId) (fun _ => hi2.winI hId) (by omega)
    obtain ⟨k1, k2, k3, k4⟩ := hki
    refine ⟨k1, k2, fun h9 => ⟨?_, ?_⟩, fun _ _ => kb_any k3⟩
    · have : chunks[i].size = l.length := by rw [hcl]; show l.toArray.size = _; simp
      have := (k4 h9).1
      omega
    · rw [← hcl]; exact (k4 h9).2
end Go.Proofs.YtiepopbmbgfhkaaGreat
