/-
  Prompted, in a session without suggestions.
-/
import Derived.Test.YtiepopbmbgfhkaaGreatC4
namespace Go.Proofs.YtiepopbmbgfhkaaGreat
open Go.RowKit
set_option maxHeartbeats 2000000
set_option maxRecDepth 20000
set_option linter.unusedVariables false
set_option linter.unusedSimpArgs false

theorem fed_cp (s : PS) (S : Sess) (a b c d : Nat) (down : Bool) (et : ByteArray) (bd : Int → PS → PS) (l : List UInt8) : s.fed (S.cp a b) down et bd l = s.fed (S.cp c d) down et bd l := rfl
theorem feed_cp (s : PS) (S : Sess) (a b c d : Nat) (down : Bool) (bd : Int → PS → PS) (l : List UInt8) : s.feed (S.cp a b) down bd l = s.feed (S.cp c d) down bd l := rfl
theorem update_cp (s : PS) (S : Sess) (a b c d : Nat) : s.update (S.cp a b) = s.update (S.cp c d) := rfl
theorem comp_cp (s : PS) (S : Sess) (a b c d : Nat) (down : Bool) (key : Int) : s.comp (S.cp a b) down key = s.comp (S.cp c d) down key := rfl

theorem idOk_of {S : Sess} {x : Nat} {I : Pid} (h : IdS S x I) (hS : SessOk S) : IdOk I := by
  have hq := h.q
  have e1 : I.q.offs = S.offs := by rw [hq]; rfl
  have e2 : I.q.most = S.most := by rw [hq]; rfl
  have e3 : I.q.sep = S.sep := by rw [hq]; rfl
  have hol := hS.hol
  have m1 := hS.m1
  have m2 := hS.m2
  refine ⟨by rw [h.pre]; exact hS.hpre, by rw [h.pre]; exact Nat.le_trans hS.hpres (by omega), by rw [h.cols]; exact hS.c1, by rw [h.cols]; exact hS.c2, ⟨by rw [e3]; exact hS.hsep.asc, by rw [e1]; omega, fun x hx => ?_, by rw [e2]; exact m1, by rw [e2]; omega⟩, by rw [e2]; omega, fun x hx => ?_, by rw [e1]; omega⟩
  · rw [e1] at hx
    have := (hS.ho x hx).2.1
    omega
  · rw [e1] at hx
    obtain ⟨g1, g2, g3, g4, -⟩ := hS.ho x hx
    exact ⟨g1, by omega, g3, by omega⟩

/-- What is asked of a stand in a session without suggestions. -/
structure NsOk (s : PS) : Prop where
  sel : s.sel = -1
  tmp : s.tmp = []
  ok : ∀ I, PsOk I s
/-- What is asked of a chunk there. -/
def NsKey (s : PS) (c : ByteArray) : Prop :=
  (keyOf c.data.toList = 86 ∧ c.size ≤ 100 ∧ Prn c) ∨ keyOf c.data.toList = 13 ∨ keyOf c.data.toList = 36 ∨ keyOf c.data.toList = 37 ∨ (keyOf c.data.toList = 4 ∧ s.t = .empty)

def Sess.nsFed (S : Sess) : PS → List UInt8 → PS × Bool := fun s l => s.fed (S.cp 0 0) S.down .empty bd0 l
def ns0 : PS := NS .empty 0 [] [.empty] 0 []

theorem prompted_ns {w : World} {S : Sess} {ov hv chv : Value} {chunks : List ByteArray} (hS : SessOk S) (ho : S.offs = []) (hh : S.hist = []) (hb : S.begun = .empty) (he : S.exit = .empty)
    (hw : 1 ≤ w.heap.size) (ht : Tab w) (hO : PkIn w ov S.offs) (hH : TxIn w hv S.hist)
    (hCh : TxIn w chv chunks) (hChN : ∀ A n c, chv = .slice (some A) n c → A.block < w.heap.size) (hlen : chunks.length ≤ 100)
    (hst : ∀ i, i ≤ chunks.length → NsOk (play S.nsFed ns0 (chunks.take i)).1) (hk : ∀ i (hi : i < chunks.length), NsKey (play S.nsFed ns0 (chunks.take i)).1 chunks[i]) :
    Calls Tryz.prog 12 #[.agg (S.cells ov hv), chv] w (PrompPost (play S.nsFed ns0 chunks).1 (play S.nsFed ns0 chunks).2 w) := by
  have hps : S.ps = ns0 := by unfold Sess.ps ns0 NS; rw [hh, hb]; rfl
  have hup : ∀ I x, IdS S x I → ns0.update I.q = ns0 := fun I x hId => by
    rw [hId.q]
    exact ns_update (q := S.cp I.q.sb I.q.oc) ho
  refine prompted_c hS hw ht hO hH hCh hChN hlen (fun N x I w D hN hId h hD hn => ?_) (fun N x i hi I w D u hN hId h hD hov hd hn => ?_)
  · have hI := idOk_of hId hS
    have h0 := hst 0 (Nat.zero_le _)
    have e0 : (play S.nsFed ns0 (chunks.take 0)).1 = ns0 := rfl
    rw [e0] at h0
    have e : (if I.q.start then D.ps.update I.q else D.ps) = ns0 := by
      rw [hD, hps, hup I x hId]
      split <;> rfl
    have := show_c (P := fun s => s.sel = -1 ∧ s.tmp = []) h hI (ren_none hI) (by rw [e]; exact h0.ok I) (by rw [e]; exact ⟨h0.sel, h0.tmp⟩) (by rw [hn]; omega)
    rw [e] at this
    exact this
  · have hI := idOk_of hId hS
    have hi1 := hst i (by omega)
    have hi2 := hst (i + 1) (by omega)
    have hki := hk i hi
    obtain ⟨s, hs⟩ : ∃ s, (play S.nsFed ns0 (chunks.take i)).1 = s := ⟨_, rfl⟩
    have hsucc : play S.nsFed ns0 (chunks.take (i + 1)) = S.nsFed s chunks[i].data.toList := by
      rw [play_succ _ _ _ _ hi]
      unfold stepO
      rw [hov, hs]
      rfl
    rw [hsucc] at hi2
    rw [hs] at hi1 hki hD ⊢
    obtain ⟨l, hl⟩ : ∃ l, chunks[i].data.toList = l := ⟨_, rfl⟩
    have hcl : chunks[i] = ⟨l.toArray⟩ := by rw [← hl]
    unfold NsKey at hki
    rw [hl] at hki hi2 hd ⊢
    have e : S.nsFed s l = D.ps.fed I.q I.down I.et bd0 l := by
      unfold Sess.nsFed
      rw [hD, hId.q, hId.down, hId.et, he]
      rfl
    rw [e] at hi2 ⊢
    have hPs : PsOk I D.ps := by rw [hD]; exact hi1.ok I
    refine fedAny h hI hPs hd (ren_none hI) ?_ (hi2.ok I) (fun _ => ⟨hi2.sel, hi2.tmp⟩) (by omega)
    have kb : ∀ key, key ∉ commonKeys → key ∉ emacsKeys → KBnd N I key (bd0 key) := fun key h1 h2 => kb_none h1 h2
    rcases hki with ⟨h1, h2, h3⟩ | h1 | h1 | h1 | ⟨h1, h2⟩
    · refine ⟨by omega, by omega, by omega, fun _ => ⟨?_, ?_⟩, fun _ _ => by rw [h1]; exact kb _ (by decide) (by decide)⟩
      · have : chunks[i].size = l.length := by rw [hcl]; show l.toArray.size = _; simp
        omega
      · rw [← hcl]; exact h3
    · exact ⟨by omega, by omega, by omega, fun h => by omega, fun _ _ => by rw [h1]; exact kb _ (by decide) (by decide)⟩
    · exact ⟨by omega, by omega, by omega, fun h => by omega, fun _ _ => by rw [h1]; exact kb _ (by decide) (by decide)⟩
    · refine ⟨by omega, by omega, by omega, fun h => by omega, fun _ h9 => absurd ⟨.inl h1, ?_⟩ h9⟩
      rw [hD]; exact hi1.sel
    · refine ⟨by omega, by omega, by omega, fun h => by omega, fun h9 _ => absurd ⟨h1, ?_⟩ h9⟩
      rw [hD]
      have : s.comp I.q I.down 4 = s.chosen I.q := by unfold PS.comp; rw [if_neg (by omega), if_neg (by omega), if_neg (by omega), if_neg (by omega)]
      rw [this]
      unfold PS.chosen
      rw [if_pos hi1.sel]
      exact h2

/-- A session's cells, as it came in and as it is looked at. -/
def Raw.sess (S : Raw) : Sess := ⟨S.pre, S.most.toNat, S.cols.toNat, S.down, S.start, S.sep, S.begun, S.plain, S.exit, S.offs, S.hist⟩
end Go.Proofs.YtiepopbmbgfhkaaGreat
