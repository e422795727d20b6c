/-
  Any bytes that a prompt is fed; sessions without suggestions.
  Prompted, in a session without suggestions.
-/
import Derived.Test.YtiepopbmbgfhkaaGreatQ26
namespace Go.Proofs.YtiepopbmbgfhkaaGreat
open Go.RowKit
set_option maxHeartbeats 2000000
set_option maxRecDepth 20000
set_option linter.unusedVariables false
set_option linter.unusedSimpArgs false

/-- What is asked of bytes: a key that is followed, or a text. -/
structure KeyOk (base : Nat) (I : Pid) (s : PS) (bd : Int → PS → PS) (l : List UInt8) : Prop where
  n9 : keyOf l ≠ 9
  n10 : keyOf l ≠ 10
  n3 : keyOf l ≠ 3
  text : keyOf l = 86 → l.length ≤ 100 ∧ Prn ⟨l.toArray⟩
  bnd : ¬ (keyOf l = 4 ∧ (s.comp I.q I.down 4).t = .empty) → ¬ ((keyOf l = 37 ∨ keyOf l = 14) ∧ s.sel = -1) → KBnd base I (keyOf l) (bd (keyOf l))

section
variable {base : Nat} {w : World} {I : Pid} {D : Dyn}
theorem fedAny {u : Value} {l : List UInt8} {bd : Int → PS → PS} {P : PS → Prop} (h : St base w I D) (hI : IdOk I) (hP : PsOk I D.ps) (hd : DatB w u l) (hR : RenP base I P) (hK : KeyOk base I D.ps bd l)
    (hres : PsOk I (D.ps.fed I.q I.down I.et bd l).1) (hP2 : (D.ps.feed I.q I.down bd l).2.1 = false → P (D.ps.fed I.q I.down I.et bd l).1) (hn : D.n + 210000 ≤ 1000000000) :
    Calls Tryz.prog 23 #[.pointer (some ⟨I.p, 0, none⟩), u] w (FedPost base I D (D.ps.fed I.q I.down I.et bd l).1 (D.ps.fed I.q I.down I.et bd l).2 w) := by
  obtain ⟨n9, n10, n3, hT, hB⟩ := hK
  obtain ⟨key, hkey⟩ : ∃ key, keyOf l = key := ⟨_, rfl⟩
  by_cases c1 : key = 55 ∨ key = 13
  · have e : D.ps.feed I.q I.down bd l = (bd key (D.ps.comp I.q I.down key).enter, false, some (D.ps.comp I.q I.down key).t) := by
      unfold PS.feed; rw [hkey, if_pos (by omega)]
    have ef : D.ps.fed I.q I.down I.et bd l = ({ (bd key (D.ps.comp I.q I.down key).enter) with lines := (bd key (D.ps.comp I.q I.down key).enter).lines ++ [(D.ps.comp I.q I.down key).t] }.update I.q, decide (I.et ≠ .empty ∧ (D.ps.comp I.q I.down key).t = I.et)) := by
      unfold PS.fed; rw [e]
    rw [ef] at hres hP2 ⊢
    rw [e] at hP2
    have hb := hB (by omega) (by omega)
    rw [hkey] at hb
    exact fed_exec hI (feed_enter h hI hP hd hkey c1 hb (by omega)) hR hres (hP2 rfl) hn
  by_cases c2 : key = 36 ∨ key = 16
  · have e : D.ps.feed I.q I.down bd l = (bd key (if D.ps.sel = -1 then (D.ps.comp I.q I.down key).older else D.ps.comp I.q I.down key), false, none) := by
      unfold PS.feed; rw [hkey, if_neg (by omega), if_neg (by omega), if_pos (by omega)]
    have ef : D.ps.fed I.q I.down I.et bd l = ((bd key (if D.ps.sel = -1 then (D.ps.comp I.q I.down key).older else D.ps.comp I.q I.down key)).update I.q, false) := by
      unfold PS.fed; rw [e]
    rw [ef] at hres hP2 ⊢
    rw [e] at hP2
    have hb := hB (by omega) (by omega)
    rw [hkey] at hb
    exact fed_none hI (feed_up h hI hP hd hkey c2 hb) hR hres (hP2 rfl) hn
  by_cases c3 : key = 37 ∨ key = 14
  · have e : D.ps.feed I.q I.down bd l = (if D.ps.sel = -1 then (D.ps.comp I.q I.down key).newer else bd key (D.ps.comp I.q I.down key), false, none) := by
      unfold PS.feed; rw [hkey, if_neg (by omega), if_neg (by omega), if_neg (by omega), if_pos (by omega)]
    have ef : D.ps.fed I.q I.down I.et bd l = ((if D.ps.sel = -1 then (D.ps.comp I.q I.down key).newer else bd key (D.ps.comp I.q I.down key)).update I.q, false) := by
      unfold PS.fed; rw [e]
    rw [ef] at hres hP2 ⊢
    rw [e] at hP2
    have hb : D.sel ≠ -1 → KBnd base I key (bd key) := fun hs => by
      have := hB (by omega) (fun ⟨_, h⟩ => hs h)
      rw [hkey] at this
      exact this
    exact fed_none hI (feed_down h hI hP hd hkey c3 hb) hR hres (hP2 rfl) hn
  by_cases c4 : key = 4
  · subst c4
    by_cases hz : (D.ps.comp I.q I.down 4).t = .empty
    · have e : D.ps.feed I.q I.down bd l = (D.ps.comp I.q I.down 4, true, none) := by
        unfold PS.feed; rw [hkey, if_neg (by omega), if_neg (by omega), if_neg (by omega), if_neg (by omega), if_pos rfl, if_pos hz]
      have ef : D.ps.fed I.q I.down I.et bd l = (D.ps.comp I.q I.down 4, true) := by
        unfold PS.fed; rw [e]
      rw [ef] at hres ⊢
      have hfd := feed_d (bd := bd 4) h hI hP hd hkey (fun hne => absurd hz hne)
      rw [if_pos hz, decide_eq_true hz] at hfd
      exact fed_out hI hfd hres.ht (Nat.le_trans hres.hts (by omega)) hres.hk hn
    · have e : D.ps.feed I.q I.down bd l = (bd 4 (D.ps.comp I.q I.down 4), false, none) := by
        unfold PS.feed; rw [hkey, if_neg (by omega), if_neg (by omega), if_neg (by omega), if_neg (by omega), if_pos rfl, if_neg hz]
      have ef : D.ps.fed I.q I.down I.et bd l = ((bd 4 (D.ps.comp I.q I.down 4)).update I.q, false) := by
        unfold PS.fed; rw [e]
      rw [ef] at hres hP2 ⊢
      rw [e] at hP2
      have hb := hB (fun h => hz h.2) (by omega)
      rw [hkey] at hb
      have hfd := feed_d (bd := bd 4) h hI hP hd hkey (fun _ => hb)
      rw [if_neg hz, decide_eq_false hz] at hfd
      exact fed_none hI hfd hR hres (hP2 rfl) hn
  by_cases c5 : key = 86
  · subst c5
    have e : D.ps.feed I.q I.down bd l = (bd 86 ((D.ps.comp I.q I.down 86).typed ⟨l.toArray⟩), false, none) := by
      unfold PS.feed; rw [hkey, if_neg (by omega), if_neg (by omega), if_neg (by omega), if_neg (by omega), if_neg (by omega), if_pos rfl]
    have ef : D.ps.fed I.q I.down I.et bd l = ((bd 86 ((D.ps.comp I.q I.down 86).typed ⟨l.toArray⟩)).update I.q, false) := by
      unfold PS.fed; rw [e]
    rw [ef] at hres hP2 ⊢
    rw [e] at hP2
    have hb := hB (by omega) (by omega)
    rw [hkey] at hb
    have ht := hT hkey
    exact fed_none hI (feed_text h hI hP hd hkey ht.1 ht.2 hb) hR hres (hP2 rfl) hn
  have e : D.ps.feed I.q I.down bd l = (bd key (D.ps.comp I.q I.down key), false, none) := by
    unfold PS.feed; rw [hkey, if_neg (by omega), if_neg (by omega), if_neg (by omega), if_neg (by omega), if_neg (by omega), if_neg (by omega)]
  have ef : D.ps.fed I.q I.down I.et bd l = ((bd key (D.ps.comp I.q I.down key)).update I.q, false) := by
    unfold PS.fed; rw [e]
  rw [ef] at hres hP2 ⊢
  rw [e] at hP2
  have hb := hB (by omega) (by omega)
  rw [hkey] at hb
  refine fed_none hI (feed_other h hI hP hd hkey ?_ hb) hR hres (hP2 rfl) hn
  simp only [List.mem_cons, List.not_mem_nil, or_false, not_or]
  omega

/-- Rendering without suggestions. -/
theorem ren_none (hI : IdOk I) : RenP base I (fun s => s.sel = -1 ∧ s.tmp = []) := by
  intro w D h hk ⟨hs, ht⟩ hn
  have hs' : D.sel = -1 := hs
  have ht' : D.tmp = [] := ht
  have hscr := h.scr
  rw [hs', ht'] at hscr
  refine (render_c hscr hk.ok (by omega) (fun w n hn' hsc => ?_)).mono ?_
  · refine (renderNone_c hsc.cm).mono ?_
    rintro e w' ⟨rfl, hF⟩
    exact ⟨rfl, (hsc.fr0 hF).le (by omega), hF.any⟩
  · rintro e w' ⟨rfl, hsc, hF⟩
    rw [← hs', ← ht'] at hsc
    exact ⟨rfl, ⟨D.n + 100000, by omega, h.outUpd hsc hF (by simp)⟩, h.tt5 (hF.mono (by simp) (by simp))⟩
end

/-- A stand of a session without suggestions. -/
def NS (t : ByteArray) (k : Nat) (hs ts : List ByteArray) (hsel : Nat) (ls : List ByteArray) : PS := ⟨t, k, hs, ts, hsel, -1, 0, [], ls⟩
def bd0 : Int → PS → PS := fun _ s => s

section
variable {q : Cp} {down : Bool} {et : ByteArray} {t : ByteArray} {k : Nat} {hs ts : List ByteArray} {hsel : Nat} {ls : List ByteArray} {l : List UInt8}
theorem ns_fit (word : ByteArray) : fit word [] = [] := rfl
theorem ns_update (ho : q.offs = []) : (NS t k hs ts hsel ls).update q = NS t k hs ts hsel ls := by
  unfold PS.update; rw [ho]; rfl
theorem ns_comp (ho : q.offs = []) (hm : 1 ≤ q.most) (key : Int) (hk : key ≠ 54 ∧ key ≠ 51) : (NS t k hs ts hsel ls).comp q down key = NS t k hs ts hsel ls := by
  have hn : (NS t k hs ts hsel ls).next q = NS t k hs ts hsel ls := by
    unfold PS.next nextS
    have e : updS q ((NS t k hs ts hsel ls).sel + 1) (if (NS t k hs ts hsel ls).vs + q.most - 1 = (NS t k hs ts hsel ls).sel then (NS t k hs ts hsel ls).vs + 1 else (NS t k hs ts hsel ls).vs) (NS t k hs ts hsel ls).tmp = (-1, 0, []) := by
      unfold updS
      rw [if_pos (by show ((([] : List Pk).length : Nat) : Int) ≤ -1 + 1; simp), ho]
    rw [e]; rfl
  unfold PS.comp
  by_cases h1 : key = 37
  · rw [if_pos h1]
    split
    · exact hn
    · rfl
  rw [if_neg h1, if_neg hk.1]
  by_cases h3 : key = 36
  · rw [if_pos h3, if_neg (by show ¬ ((-1 : Int) ≠ -1); omega)]
  rw [if_neg h3, if_neg hk.2]
  unfold PS.chosen
  rw [if_pos (show (NS t k hs ts hsel ls).sel = -1 from rfl), ho]
  rfl
theorem ns_text (ho : q.offs = []) (hm : 1 ≤ q.most) (hk : keyOf l = 86) : (NS t k hs ts hsel ls).fed q down et bd0 l = (NS (putT t k ⟨l.toArray⟩) (k + l.length) hs ts hsel ls, false) := by
  have e : (NS t k hs ts hsel ls).feed q down bd0 l = ((NS t k hs ts hsel ls).typed ⟨l.toArray⟩, false, none) := by
    unfold PS.feed
    rw [hk, if_neg (by omega), if_neg (by omega), if_neg (by omega), if_neg (by omega), if_neg (by omega), if_pos rfl, ns_comp ho hm 86 (by omega)]
    rfl
  unfold PS.fed
  rw [e]
  show ((NS (putT t k ⟨l.toArray⟩) (k + (⟨l.toArray⟩ : ByteArray).size) hs ts hsel ls).update q, false) = _
  rw [ns_update ho]
  have : (⟨l.toArray⟩ : ByteArray).size = l.length := by show l.toArray.size = _; simp
  rw [this]
theorem ns_enter (ho : q.offs = []) (hm : 1 ≤ q.most) (hk : keyOf l = 13) (hne : t ≠ .empty) (he : et = .empty) : (NS t k hs ts hsel ls).fed q down et bd0 l = (NS .empty 0 (hs ++ [t]) (hs ++ [t] ++ [.empty]) (hs.length + 1) (ls ++ [t]), false) := by
  have e : (NS t k hs ts hsel ls).feed q down bd0 l = ((NS t k hs ts hsel ls).enter, false, some t) := by
    unfold PS.feed
    rw [hk, if_pos (by omega), ns_comp ho hm 13 (by omega)]
    rfl
  have e2 : (NS t k hs ts hsel ls).enter = NS .empty 0 (hs ++ [t]) (hs ++ [t] ++ [.empty]) (hs.length + 1) ls := by
    unfold PS.enter
    rw [if_neg (show ¬ (NS t k hs ts hsel ls).t = .empty from hne)]
    rfl
  unfold PS.fed
  rw [e, e2]
  show ((NS .empty 0 (hs ++ [t]) (hs ++ [t] ++ [.empty]) (hs.length + 1) (ls ++ [t])).update q, _) = _
  rw [ns_update ho, he]
  simp
theorem ns_up (ho : q.offs = []) (hm : 1 ≤ q.most) (hk : keyOf l = 36) (h1 : ts.length ≠ 1) (h2 : hsel ≠ 0) : (NS t k hs ts hsel ls).fed q down et bd0 l = (NS (ts.getD (hsel - 1) .empty) (ts.getD (hsel - 1) .empty).size hs (ts.set hsel t) (hsel - 1) ls, false) := by
  have e : (NS t k hs ts hsel ls).feed q down bd0 l = (NS (ts.getD (hsel - 1) .empty) (ts.getD (hsel - 1) .empty).size hs (ts.set hsel t) (hsel - 1) ls, false, none) := by
    unfold PS.feed
    rw [hk, if_neg (by omega), if_neg (by omega), if_pos (by omega), ns_comp ho hm 36 (by omega), if_pos (show (NS t k hs ts hsel ls).sel = -1 from rfl)]
    unfold PS.older
    rw [if_neg (by show ¬ (ts.length = 1 ∨ hsel = 0); omega)]
    rfl
  unfold PS.fed
  rw [e]
  show (PS.update _ q, false) = _
  rw [ns_update ho]
theorem ns_down (ho : q.offs = []) (hm : 1 ≤ q.most) (hk : keyOf l = 37) (h1 : hsel + 1 < ts.length) : (NS t k hs ts hsel ls).fed q down et bd0 l = (NS (ts.getD (hsel + 1) .empty) (ts.getD (hsel + 1) .empty).size hs (ts.set hsel t) (hsel + 1) ls, false) := by
  have e : (NS t k hs ts hsel ls).feed q down bd0 l = (NS (ts.getD (hsel + 1) .empty) (ts.getD (hsel + 1) .empty).size hs (ts.set hsel t) (hsel + 1) ls, false, none) := by
    unfold PS.feed
    rw [hk, if_neg (by omega), if_neg (by omega), if_neg (by omega), if_pos (by omega), ns_comp ho hm 37 (by omega), if_pos (show (NS t k hs ts hsel ls).sel = -1 from rfl)]
    unfold PS.newer
    rw [if_neg (by show ¬ (ts.length ≤ hsel + 1); omega)]
    rfl
  unfold PS.fed
  rw [e]
  show (PS.update _ q, false) = _
  rw [ns_update ho]
theorem ns_d (ho : q.offs = []) (hm : 1 ≤ q.most) (hk : keyOf l = 4) : (NS .empty k hs ts hsel ls).fed q down et bd0 l = (NS .empty k hs ts hsel ls, true) := by
  have e : (NS .empty k hs ts hsel ls).feed q down bd0 l = (NS .empty k hs ts hsel ls, true, none) := by
    unfold PS.feed
    rw [hk, if_neg (by omega), if_neg (by omega), if_neg (by omega), if_neg (by omega), if_pos rfl, ns_comp ho hm 4 (by omega)]
    rfl
  unfold PS.fed
  rw [e]
end
/-- What is asked of a stand, without suggestions. -/
theorem ns_ok {I : Pid} {t : ByteArray} {k : Nat} {hs ts : List ByteArray} {hsel : Nat} {ls : List ByteArray} (ht : Prn t) (hts : t.size ≤ 500) (hk : k ≤ t.size) (hh : ∀ x ∈ hs, Prn x ∧ x.size ≤ 500) (hhl : hs.length ≤ 1000)
    (hT : ∀ x ∈ ts, Prn x ∧ x.size ≤ 500) (hTl : ts.length ≤ 1001) (hsl : hsel < ts.length) (hl : ls.length ≤ 900) : PsOk I (NS t k hs ts hsel ls) :=
  ⟨ht, hts, hk, .inl rfl, by show (0 : Int) ≤ 0; omega, by show (0 : Int) ≤ 1000; omega, by show 0 ≤ 1000; omega, fun x hx => (by cases hx), hh, hhl, hT, hTl, hsl, hl⟩

/-- A text of printable ASCII is no key. -/
theorem key_text {l : List UInt8} (hl : l ≠ []) (hp : Prn ⟨l.toArray⟩) : keyOf l = 86 := by
  have hall : ∀ x ∈ seqs, (x.2.head?.map UInt8.toNat).getD 0 < 32 ∨ (x.2.head?.map UInt8.toNat).getD 0 = 127 := by decide
  have e : seqs.find? (fun x => x.2 == l) = none := by
    rw [List.find?_eq_none]
    intro x hx hxl
    have hxl' : x.2 = l := by simpa using hxl
    have h := hall x hx
    rw [hxl'] at h
    cases l with
    | nil => exact hl rfl
    | cons c l =>
      have h0 := hp 0 (by show 0 < (c :: l).toArray.size; simp)
      have e0 : (⟨(c :: l).toArray⟩ : ByteArray)[0]'(by show 0 < (c :: l).toArray.size; simp) = c := rfl
      rw [e0] at h0
      simp at h
      omega
  unfold keyOf
  rw [e]
theorem key_r : keyOf [13] = 13 := by decide
theorem key_d : keyOf [4] = 4 := by decide
theorem key_up : keyOf [27, 91, 65] = 36 := by decide
theorem key_dn : keyOf [27, 91, 66] = 37 := by decide
end Go.Proofs.YtiepopbmbgfhkaaGreat

namespace Go.Proofs.YtiepopbmbgfhkaaGreat
open Go.RowKit
set_option maxHeartbeats 2000000
set_option maxRecDepth 20000
set_option linter.unusedVariables false
set_option linter.unusedSimpArgs false

theorem fed_cp (s : PS) (S : Sess) (a b c d : Nat) (down : Bool) (et : ByteArray) (bd : Int → PS → PS) (l : List UInt8) : s.fed (S.cp a b) down et bd l = s.fed (S.cp c d) down et bd l := rfl
theorem feed_cp (s : PS) (S : Sess) (a b c d : Nat) (down : Bool) (bd : Int → PS → PS) (l : List UInt8) : s.feed (S.cp a b) down bd l = s.feed (S.cp c d) down bd l := rfl
theorem update_cp (s : PS) (S : Sess) (a b c d : Nat) : s.update (S.cp a b) = s.update (S.cp c d) := rfl
theorem comp_cp (s : PS) (S : Sess) (a b c d : Nat) (down : Bool) (key : Int) : s.comp (S.cp a b) down key = s.comp (S.cp c d) down key := rfl

theorem idOk_of {S : Sess} {x : Nat} {I : Pid} (h : IdS S x I) (hS : SessOk S) : IdOk I := by
  have hq := h.q
  have e1 : I.q.offs = S.offs := by rw [hq]; rfl
  have e2 : I.q.most = S.most := by rw [hq]; rfl
  have e3 : I.q.sep = S.sep := by rw [hq]; rfl
  have hol := hS.hol
  have m1 := hS.m1
  have m2 := hS.m2
  refine ⟨by rw [h.pre]; exact hS.hpre, by rw [h.pre]; exact Nat.le_trans hS.hpres (by omega), by rw [h.cols]; exact hS.c1, by rw [h.cols]; exact hS.c2, ⟨by rw [e3]; exact hS.hsep.asc, by rw [e1]; omega, fun x hx => ?_, by rw [e2]; exact m1, by rw [e2]; omega⟩, by rw [e2]; omega, fun x hx => ?_, by rw [e1]; omega⟩
  · rw [e1] at hx
    have := (hS.ho x hx).2.1
    omega
  · rw [e1] at hx
    obtain ⟨g1, g2, g3, g4, -⟩ := hS.ho x hx
    exact ⟨g1, by omega, g3, by omega⟩

/-- What is asked of a stand in a session without suggestions. -/
structure NsOk (s : PS) : Prop where
  sel : s.sel = -1
  tmp : s.tmp = []
  ok : ∀ I, PsOk I s
/-- What is asked of a chunk there. -/
def NsKey (s : PS) (c : ByteArray) : Prop :=
  (keyOf c.data.toList = 86 ∧ c.size ≤ 100 ∧ Prn c) ∨ keyOf c.data.toList = 13 ∨ keyOf c.data.toList = 36 ∨ keyOf c.data.toList = 37 ∨ (keyOf c.data.toList = 4 ∧ s.t = .empty)

def Sess.nsFed (S : Sess) : PS → List UInt8 → PS × Bool := fun s l => s.fed (S.cp 0 0) S.down .empty bd0 l
def ns0 : PS := NS .empty 0 [] [.empty] 0 []

theorem prompted_ns {w : World} {S : Sess} {ov hv chv : Value} {chunks : List ByteArray} (hS : SessOk S) (ho : S.offs = []) (hh : S.hist = []) (hb : S.begun = .empty) (he : S.exit = .empty)
    (hw : 1 ≤ w.heap.size) (ht : Tab w) (hO : PkIn w ov S.offs) (hH : TxIn w hv S.hist)
    (hCh : TxIn w chv chunks) (hChN : ∀ A n c, chv = .slice (some A) n c → A.block < w.heap.size) (hlen : chunks.length ≤ 100)
    (hst : ∀ i, i ≤ chunks.length → NsOk (play S.nsFed ns0 (chunks.take i)).1) (hk : ∀ i (hi : i < chunks.length), NsKey (play S.nsFed ns0 (chunks.take i)).1 chunks[i]) :
    Calls Tryz.prog 12 #[.agg (S.cells ov hv), chv] w (PrompPost (play S.nsFed ns0 chunks).1 (play S.nsFed ns0 chunks).2 w) := by
  have hps : S.ps = ns0 := by unfold Sess.ps ns0 NS; rw [hh, hb]; rfl
  have hup : ∀ I x, IdS S x I → ns0.update I.q = ns0 := fun I x hId => by
    rw [hId.q]
    exact ns_update (q := S.cp I.q.sb I.q.oc) ho
  refine prompted_c hS hw ht hO hH hCh hChN hlen (fun N x I w D hN hId h hD hn => ?_) (fun N x i hi I w D u hN hId h hD hov hd hn => ?_)
  · have hI := idOk_of hId hS
    have h0 := hst 0 (Nat.zero_le _)
    have e0 : (play S.nsFed ns0 (chunks.take 0)).1 = ns0 := rfl
    rw [e0] at h0
    have e : (if I.q.start then D.ps.update I.q else D.ps) = ns0 := by
      rw [hD, hps, hup I x hId]
      split <;> rfl
    have := show_c (P := fun s => s.sel = -1 ∧ s.tmp = []) h hI (ren_none hI) (by rw [e]; exact h0.ok I) (by rw [e]; exact ⟨h0.sel, h0.tmp⟩) (by rw [hn]; omega)
    rw [e] at this
    exact this
  · have hI := idOk_of hId hS
    have hi1 := hst i (by omega)
    have hi2 := hst (i + 1) (by omega)
    have hki := hk i hi
    obtain ⟨s, hs⟩ : ∃ s, (play S.nsFed ns0 (chunks.take i)).1 = s := ⟨_, rfl⟩
    have hsucc : play S.nsFed ns0 (chunks.take (i + 1)) = S.nsFed s chunks[i].data.toList := by
      rw [play_succ _ _ _ _ hi]
      unfold stepO
      rw [hov, hs]
      rfl
    rw [hsucc] at hi2
    rw [hs] at hi1 hki hD ⊢
    obtain ⟨l, hl⟩ : ∃ l, chunks[i].data.toList = l := ⟨_, rfl⟩
    have hcl : chunks[i] = ⟨l.toArray⟩ := by rw [← hl]
    unfold NsKey at hki
    rw [hl] at hki hi2 hd ⊢
    have e : S.nsFed s l = D.ps.fed I.q I.down I.et bd0 l := by
      unfold Sess.nsFed
      rw [hD, hId.q, hId.down, hId.et, he]
      rfl
    rw [e] at hi2 ⊢
    have hPs : PsOk I D.ps := by rw [hD]; exact hi1.ok I
    refine fedAny h hI hPs hd (ren_none hI) ?_ (hi2.ok I) (fun _ => ⟨hi2.sel, hi2.tmp⟩) (by omega)
    have kb : ∀ key, key ∉ commonKeys → key ∉ emacsKeys → KBnd N I key (bd0 key) := fun key h1 h2 => kb_none h1 h2
    rcases hki with ⟨h1, h2, h3⟩ | h1 | h1 | h1 | ⟨h1, h2⟩
    · refine ⟨by omega, by omega, by omega, fun _ => ⟨?_, ?_⟩, fun _ _ => by rw [h1]; exact kb _ (by decide) (by decide)⟩
      · have : chunks[i].size = l.length := by rw [hcl]; show l.toArray.size = _; simp
        omega
      · rw [← hcl]; exact h3
    · exact ⟨by omega, by omega, by omega, fun h => by omega, fun _ _ => by rw [h1]; exact kb _ (by decide) (by decide)⟩
    · exact ⟨by omega, by omega, by omega, fun h => by omega, fun _ _ => by rw [h1]; exact kb _ (by decide) (by decide)⟩
    · refine ⟨by omega, by omega, by omega, fun h => by omega, fun _ h9 => absurd ⟨.inl h1, ?_⟩ h9⟩
      rw [hD]; exact hi1.sel
    · refine ⟨by omega, by omega, by omega, fun h => by omega, fun h9 _ => absurd ⟨h1, ?_⟩ h9⟩
      rw [hD]
      have : s.comp I.q I.down 4 = s.chosen I.q := by unfold PS.comp; rw [if_neg (by omega), if_neg (by omega), if_neg (by omega), if_neg (by omega)]
      rw [this]
      unfold PS.chosen
      rw [if_pos hi1.sel]
      exact h2

/-- A session's cells, as it came in and as it is looked at. -/
def Raw.sess (S : Raw) : Sess := ⟨S.pre, S.most.toNat, S.cols.toNat, S.down, S.start, S.sep, S.begun, S.plain, S.exit, S.offs, S.hist⟩
end Go.Proofs.YtiepopbmbgfhkaaGreat
