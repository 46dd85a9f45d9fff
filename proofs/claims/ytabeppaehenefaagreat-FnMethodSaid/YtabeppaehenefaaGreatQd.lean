/-
  FnMethod: ZZMethod at every method; the plain law: what the arguments' tables cut say of the arguments.
-/
import Derived.Test.YtabeppaehenefaaGreatZm1
namespace Go.Proofs.YtabeppaehenefaaGreat
open Go.RowKit

theorem letters_mem {cl me : Int} {ls : List UInt8} (h : letters cl me = some ls) : (cl, me, ls) ∈ known := by
  unfold letters at h
  obtain ⟨⟨a, b, l⟩, hm, rfl⟩ := Option.map_eq_some_iff.1 h
  have h2 := List.find?_some hm
  simp [isM] at h2
  obtain ⟨rfl, rfl⟩ := h2
  exact List.mem_of_find?_eq_some hm

set_option maxRecDepth 100000 in
set_option maxHeartbeats 4000000 in
/-- ZZMethod -/
theorem ZZMethod_any {cl me : Nat} {ls : List UInt8} {w : World} {gs : List Ag} {H : Nat} {sv : Value} {cs : List Value} {q : Nat → Prop} (hls : letters cl me = some ls) (hpr : properF ls gs) (hok : ∀ a ∈ gs, a.ok ∧ a.fs.good none) (hown : w.ownsRow H 60 4 sv gs.length cs) (hz : ZgsC w q gs cs) (hq : ∀ g, q g → g < w.heap.size) :
    Calls Tryz.prog 18 #[.int .u16 cl, .int .u16 me, sv] w (ZPost w cl me (argsB ls gs 0 0)) := by
  have hm := letters_mem hls
  clear hls
  simp only [known, List.mem_cons, List.not_mem_nil, or_false, Prod.mk.injEq] at hm
  rcases hm with ⟨h1, h2, rfl⟩ | ⟨h1, h2, rfl⟩ | ⟨h1, h2, rfl⟩ | ⟨h1, h2, rfl⟩ | ⟨h1, h2, rfl⟩ | ⟨h1, h2, rfl⟩ | ⟨h1, h2, rfl⟩ | ⟨h1, h2, rfl⟩ | ⟨h1, h2, rfl⟩ | ⟨h1, h2, rfl⟩ | ⟨h1, h2, rfl⟩ | ⟨h1, h2, rfl⟩ | ⟨h1, h2, rfl⟩ | ⟨h1, h2, rfl⟩ | ⟨h1, h2, rfl⟩ | ⟨h1, h2, rfl⟩ | ⟨h1, h2, rfl⟩ | ⟨h1, h2, rfl⟩ | ⟨h1, h2, rfl⟩ | ⟨h1, h2, rfl⟩ | ⟨h1, h2, rfl⟩ | ⟨h1, h2, rfl⟩ | ⟨h1, h2, rfl⟩ | ⟨h1, h2, rfl⟩ | ⟨h1, h2, rfl⟩ | ⟨h1, h2, rfl⟩ | ⟨h1, h2, rfl⟩ | ⟨h1, h2, rfl⟩ | ⟨h1, h2, rfl⟩ | ⟨h1, h2, rfl⟩ | ⟨h1, h2, rfl⟩ | ⟨h1, h2, rfl⟩ | ⟨h1, h2, rfl⟩ | ⟨h1, h2, rfl⟩ | ⟨h1, h2, rfl⟩ | ⟨h1, h2, rfl⟩ | ⟨h1, h2, rfl⟩ | ⟨h1, h2, rfl⟩ | ⟨h1, h2, rfl⟩ | ⟨h1, h2, rfl⟩ | ⟨h1, h2, rfl⟩ | ⟨h1, h2, rfl⟩ | ⟨h1, h2, rfl⟩ | ⟨h1, h2, rfl⟩ | ⟨h1, h2, rfl⟩ | ⟨h1, h2, rfl⟩ | ⟨h1, h2, rfl⟩ | ⟨h1, h2, rfl⟩ | ⟨h1, h2, rfl⟩ | ⟨h1, h2, rfl⟩ | ⟨h1, h2, rfl⟩ | ⟨h1, h2, rfl⟩ | ⟨h1, h2, rfl⟩ | ⟨h1, h2, rfl⟩ | ⟨h1, h2, rfl⟩ | ⟨h1, h2, rfl⟩ | ⟨h1, h2, rfl⟩ | ⟨h1, h2, rfl⟩ | ⟨h1, h2, rfl⟩ | ⟨h1, h2, rfl⟩ | ⟨h1, h2, rfl⟩ | ⟨h1, h2, rfl⟩ | ⟨h1, h2, rfl⟩ | ⟨h1, h2, rfl⟩
  · obtain rfl : cl = 10 := by omega
    obtain rfl : me = 10 := by omega
    exact zm_connectionStart hpr hok hown hz hq
  · obtain rfl : cl = 10 := by omega
    obtain rfl : me = 11 := by omega
    exact zm_connectionStartOk hpr hok hown hz hq
  · obtain rfl : cl = 10 := by omega
    obtain rfl : me = 20 := by omega
    exact zm_connectionSecure hpr hok hown hz hq
  · obtain rfl : cl = 10 := by omega
    obtain rfl : me = 21 := by omega
    exact zm_connectionSecureOk hpr hok hown hz hq
  · obtain rfl : cl = 10 := by omega
    obtain rfl : me = 30 := by omega
    exact zm_connectionTune hpr hok hown hz hq
  · obtain rfl : cl = 10 := by omega
    obtain rfl : me = 31 := by omega
    exact zm_connectionTuneOk hpr hok hown hz hq
  · obtain rfl : cl = 10 := by omega
    obtain rfl : me = 40 := by omega
    exact zm_connectionOpen hpr hok hown hz hq
  · obtain rfl : cl = 10 := by omega
    obtain rfl : me = 41 := by omega
    exact zm_connectionOpenOk hpr hok hown hz hq
  · obtain rfl : cl = 10 := by omega
    obtain rfl : me = 50 := by omega
    exact zm_connectionClose hpr hok hown hz hq
  · obtain rfl : cl = 10 := by omega
    obtain rfl : me = 51 := by omega
    exact zm_connectionCloseOk hpr hok hown hz hq
  · obtain rfl : cl = 10 := by omega
    obtain rfl : me = 60 := by omega
    exact zm_connectionBlocked hpr hok hown hz hq
  · obtain rfl : cl = 10 := by omega
    obtain rfl : me = 61 := by omega
    exact zm_connectionUnblocked hpr hok hown hz hq
  · obtain rfl : cl = 10 := by omega
    obtain rfl : me = 70 := by omega
    exact zm_connectionUpdateSecret hpr hok hown hz hq
  · obtain rfl : cl = 10 := by omega
    obtain rfl : me = 71 := by omega
    exact zm_connectionUpdateSecretOk hpr hok hown hz hq
  · obtain rfl : cl = 20 := by omega
    obtain rfl : me = 10 := by omega
    exact zm_channelOpen hpr hok hown hz hq
  · obtain rfl : cl = 20 := by omega
    obtain rfl : me = 11 := by omega
    exact zm_channelOpenOk hpr hok hown hz hq
  · obtain rfl : cl = 20 := by omega
    obtain rfl : me = 20 := by omega
    exact zm_channelFlow hpr hok hown hz hq
  · obtain rfl : cl = 20 := by omega
    obtain rfl : me = 21 := by omega
    exact zm_channelFlowOk hpr hok hown hz hq
  · obtain rfl : cl = 20 := by omega
    obtain rfl : me = 40 := by omega
    exact zm_channelClose hpr hok hown hz hq
  · obtain rfl : cl = 20 := by omega
    obtain rfl : me = 41 := by omega
    exact zm_channelCloseOk hpr hok hown hz hq
  · obtain rfl : cl = 40 := by omega
    obtain rfl : me = 10 := by omega
    exact zm_exchangeDeclare hpr hok hown hz hq
  · obtain rfl : cl = 40 := by omega
    obtain rfl : me = 11 := by omega
    exact zm_exchangeDeclareOk hpr hok hown hz hq
  · obtain rfl : cl = 40 := by omega
    obtain rfl : me = 20 := by omega
    exact zm_exchangeDelete hpr hok hown hz hq
  · obtain rfl : cl = 40 := by omega
    obtain rfl : me = 21 := by omega
    exact zm_exchangeDeleteOk hpr hok hown hz hq
  · obtain rfl : cl = 40 := by omega
    obtain rfl : me = 30 := by omega
    exact zm_exchangeBind hpr hok hown hz hq
  · obtain rfl : cl = 40 := by omega
    obtain rfl : me = 31 := by omega
    exact zm_exchangeBindOk hpr hok hown hz hq
  · obtain rfl : cl = 40 := by omega
    obtain rfl : me = 40 := by omega
    exact zm_exchangeUnbind hpr hok hown hz hq
  · obtain rfl : cl = 40 := by omega
    obtain rfl : me = 51 := by omega
    exact zm_exchangeUnbindOk hpr hok hown hz hq
  · obtain rfl : cl = 50 := by omega
    obtain rfl : me = 10 := by omega
    exact zm_queueDeclare hpr hok hown hz hq
  · obtain rfl : cl = 50 := by omega
    obtain rfl : me = 11 := by omega
    exact zm_queueDeclareOk hpr hok hown hz hq
  · obtain rfl : cl = 50 := by omega
    obtain rfl : me = 20 := by omega
    exact zm_queueBind hpr hok hown hz hq
  · obtain rfl : cl = 50 := by omega
    obtain rfl : me = 21 := by omega
    exact zm_queueBindOk hpr hok hown hz hq
  · obtain rfl : cl = 50 := by omega
    obtain rfl : me = 30 := by omega
    exact zm_queuePurge hpr hok hown hz hq
  · obtain rfl : cl = 50 := by omega
    obtain rfl : me = 31 := by omega
    exact zm_queuePurgeOk hpr hok hown hz hq
  · obtain rfl : cl = 50 := by omega
    obtain rfl : me = 40 := by omega
    exact zm_queueDelete hpr hok hown hz hq
  · obtain rfl : cl = 50 := by omega
    obtain rfl : me = 41 := by omega
    exact zm_queueDeleteOk hpr hok hown hz hq
  · obtain rfl : cl = 50 := by omega
    obtain rfl : me = 50 := by omega
    exact zm_queueUnbind hpr hok hown hz hq
  · obtain rfl : cl = 50 := by omega
    obtain rfl : me = 51 := by omega
    exact zm_queueUnbindOk hpr hok hown hz hq
  · obtain rfl : cl = 60 := by omega
    obtain rfl : me = 10 := by omega
    exact zm_basicQos hpr hok hown hz hq
  · obtain rfl : cl = 60 := by omega
    obtain rfl : me = 11 := by omega
    exact zm_basicQosOk hpr hok hown hz hq
  · obtain rfl : cl = 60 := by omega
    obtain rfl : me = 20 := by omega
    exact zm_basicConsume hpr hok hown hz hq
  · obtain rfl : cl = 60 := by omega
    obtain rfl : me = 21 := by omega
    exact zm_basicConsumeOk hpr hok hown hz hq
  · obtain rfl : cl = 60 := by omega
    obtain rfl : me = 30 := by omega
    exact zm_basicCancel hpr hok hown hz hq
  · obtain rfl : cl = 60 := by omega
    obtain rfl : me = 31 := by omega
    exact zm_basicCancelOk hpr hok hown hz hq
  · obtain rfl : cl = 60 := by omega
    obtain rfl : me = 40 := by omega
    exact zm_basicPublish hpr hok hown hz hq
  · obtain rfl : cl = 60 := by omega
    obtain rfl : me = 50 := by omega
    exact zm_basicReturn hpr hok hown hz hq
  · obtain rfl : cl = 60 := by omega
    obtain rfl : me = 60 := by omega
    exact zm_basicDeliver hpr hok hown hz hq
  · obtain rfl : cl = 60 := by omega
    obtain rfl : me = 70 := by omega
    exact zm_basicGet hpr hok hown hz hq
  · obtain rfl : cl = 60 := by omega
    obtain rfl : me = 71 := by omega
    exact zm_basicGetOk hpr hok hown hz hq
  · obtain rfl : cl = 60 := by omega
    obtain rfl : me = 72 := by omega
    exact zm_basicGetEmpty hpr hok hown hz hq
  · obtain rfl : cl = 60 := by omega
    obtain rfl : me = 80 := by omega
    exact zm_basicAck hpr hok hown hz hq
  · obtain rfl : cl = 60 := by omega
    obtain rfl : me = 90 := by omega
    exact zm_basicReject hpr hok hown hz hq
  · obtain rfl : cl = 60 := by omega
    obtain rfl : me = 100 := by omega
    exact zm_basicRecoverAsync hpr hok hown hz hq
  · obtain rfl : cl = 60 := by omega
    obtain rfl : me = 110 := by omega
    exact zm_basicRecover hpr hok hown hz hq
  · obtain rfl : cl = 60 := by omega
    obtain rfl : me = 111 := by omega
    exact zm_basicRecoverOk hpr hok hown hz hq
  · obtain rfl : cl = 60 := by omega
    obtain rfl : me = 120 := by omega
    exact zm_basicNack hpr hok hown hz hq
  · obtain rfl : cl = 85 := by omega
    obtain rfl : me = 10 := by omega
    exact zm_confirmSelect hpr hok hown hz hq
  · obtain rfl : cl = 85 := by omega
    obtain rfl : me = 11 := by omega
    exact zm_confirmSelectOk hpr hok hown hz hq
  · obtain rfl : cl = 90 := by omega
    obtain rfl : me = 10 := by omega
    exact zm_txSelect hpr hok hown hz hq
  · obtain rfl : cl = 90 := by omega
    obtain rfl : me = 11 := by omega
    exact zm_txSelectOk hpr hok hown hz hq
  · obtain rfl : cl = 90 := by omega
    obtain rfl : me = 20 := by omega
    exact zm_txCommit hpr hok hown hz hq
  · obtain rfl : cl = 90 := by omega
    obtain rfl : me = 21 := by omega
    exact zm_txCommitOk hpr hok hown hz hq
  · obtain rfl : cl = 90 := by omega
    obtain rfl : me = 30 := by omega
    exact zm_txRollback hpr hok hown hz hq
  · obtain rfl : cl = 90 := by omega
    obtain rfl : me = 31 := by omega
    exact zm_txRollbackOk hpr hok hown hz hq

/-- what a table that fits says of the input -/
theorem cut_fits {fs : Fs} {r' : Int} (h : (fs.cut 10 4000).fit 6 none 2000 = some r') : fs.good none ∧ fs.enc = (fs.cut 10 4000).enc ∧ fs.enc.length ≤ 20000 ∧ (fs.cut 10 4000).good none := by
  have hg := Fs.fit_good (fs.cut 10 4000) 6 none 2000 r' (by omega) h
  unfold Fs.cut at h hg ⊢
  cases hc : (fs.cutO 10 4000).1 with
  | none =>
    rw [hc] at h
    simp only [Option.getD_none] at h
    rw [Fs.fit] at h
    split at h
    · cases h
    · rw [zeroV_fit] at h; cases h
  | some q =>
    rw [hc] at h hg
    simp only [Option.getD_some] at h hg ⊢
    obtain ⟨g1, g2, g3, g4⟩ := Fs.cut_fit fs 10 6 none 4000 2000 r' q hc (by omega) h
    have := g4 (by omega)
    exact ⟨g1, g2, by omega, hg.1⟩
theorem cut_okay {fs : Fs} (h : fs.ok) (hl : fs.len ≤ 140737488355328) : (fs.cut 10 4000).ok ∧ (fs.cut 10 4000).len ≤ 140737488355328 := by
  have hk := (Fs.cut_ok fs 10 4000 h (by omega)).1
  unfold Fs.cut
  cases hc : (fs.cutO 10 4000).1 with
  | none => exact ⟨oneF_ok, by simp [Fs.len]⟩
  | some q =>
    obtain ⟨a, b⟩ := hk q hc
    exact ⟨a, by simp only [Option.getD_some]; omega⟩
theorem Ag.cut_ok {a : Ag} (h : a.ok) : a.cut.ok := by
  obtain ⟨h1, h2, h3, h4, h5⟩ := h
  obtain ⟨g1, g2⟩ := cut_okay h4 h5
  exact ⟨h1, h2, h3, g1, g2⟩
theorem cut_nil {fs : Fs} (hok : fs.ok) (h : (fs.cut 10 4000).len = 0) : fs = .nil := by
  have hk := (Fs.cut_ok fs 10 4000 hok (by omega)).1
  unfold Fs.cut at h
  cases hc : (fs.cutO 10 4000).1 with
  | none => rw [hc] at h; simp [Fs.len] at h
  | some q =>
    obtain ⟨_, b⟩ := hk q hc
    rw [hc] at h
    simp only [Option.getD_some] at h
    rw [h] at b
    cases fs with
    | nil => rfl
    | cons n v r => rw [Fs.len] at b; omega

theorem one_nil {a : Ag} (hok : a.ok) (h : a.cut.fs.len = 0) : a.fs.good none ∧ a.fs.enc = a.cut.fs.enc := by
  have := cut_nil hok.2.2.2.1 h
  have hc : a.cut.fs = Fs.cut a.fs 10 4000 := rfl
  rw [hc, this]
  exact ⟨by rw [Fs.good]; trivial, rfl⟩
theorem one_cut {a : Ag} {l : Nat} (hok : a.ok) (h : a.cut.fit l) : a.fitz l ∧ a.fs.good none ∧ a.fs.enc = a.cut.fs.enc := by
  have hn := hok.2.1
  unfold Ag.fit at h
  split at h
  · exact ⟨⟨h.2.1, by have : a.n ≤ 255 := h.2.2; omega⟩, one_nil hok h.1⟩
  · exact ⟨⟨h.2.1, by have : a.n ≤ 65535 := h.2.2; omega⟩, one_nil hok h.1⟩
  · exact ⟨⟨h.2.1, h.2.2⟩, one_nil hok h.1⟩
  · exact ⟨⟨h.2, hn.2⟩, one_nil hok h.1⟩
  · exact ⟨⟨h.2.1, h.2.2⟩, one_nil hok h.1⟩
  · exact ⟨⟨h.2.1, h.2.2⟩, one_nil hok h.1⟩
  · exact ⟨⟨h.2.1, h.2.2⟩, one_nil hok h.1⟩
  · obtain ⟨h1, r', h2⟩ := h
    obtain ⟨g1, g2, g3, g4⟩ := cut_fits h2
    exact ⟨⟨h1, g3⟩, g1, g2⟩
  · exact h.elim
theorem argB_cut {a : Ag} (l : Nat) (h : a.fs.enc = a.cut.fs.enc) : argB l a.cut = argB l a := by
  unfold argB
  split <;> first | rfl | (unfold tab; rw [h])

theorem proper_cut : ∀ (ls : List UInt8) (gs : List Ag), properL ls (gs.map Ag.cut) → (∀ a ∈ gs, a.ok) → properF ls gs ∧ (∀ a ∈ gs, a.fs.good none) ∧ ∀ n h, argsB ls (gs.map Ag.cut) n h = argsB ls gs n h
  | [], gs, h, hok => by
    rw [properL] at h
    obtain rfl : gs = [] := by simpa using h
    exact ⟨rfl, fun a h => (by cases h), fun n h => rfl⟩
  | c :: r, gs, h, hok => by
    rw [properL] at h
    by_cases hc : c.toNat < 65
    · rw [if_pos hc] at h
      obtain ⟨h1, h2, h3⟩ := proper_cut r gs h hok
      refine ⟨by rw [properF, if_pos hc]; exact h1, h2, fun n h => ?_⟩
      by_cases h51 : c.toNat = 51
      · rw [argsB_51 h51, argsB_51 h51, h3]
      · rw [argsB_low hc h51, argsB_low hc h51, h3]
    · rw [if_neg hc] at h
      obtain ⟨a', q', he, hf, hq⟩ := h
      cases gs with
      | nil => simp at he
      | cons a q =>
        rw [List.map_cons, List.cons.injEq] at he
        obtain ⟨rfl, rfl⟩ := he
        obtain ⟨g1, g2, g3⟩ := one_cut (hok a (by simp)) hf
        obtain ⟨h1, h2, h3⟩ := proper_cut r q hq (fun x hx => hok x (List.mem_cons_of_mem _ hx))
        refine ⟨by rw [properF, if_neg hc]; exact ⟨a, q, rfl, g1, h1⟩, fun x hx => ?_, fun n h => ?_⟩
        · rcases List.mem_cons.1 hx with rfl | hx
          · exact g2
          · exact h2 x hx
        · rw [List.map_cons]
          by_cases h98 : c.toNat = 98
          · rw [argsB_98 h98, argsB_98 h98, h3]
            rfl
          · rw [argsB_high (by omega) h98, argsB_high (by omega) h98, h3, argB_cut _ g3]

theorem fitz_let {a : Ag} {l : Nat} (h : a.fitz l) : l = 111 ∨ l = 115 ∨ l = 108 ∨ l = 113 ∨ l = 83 ∨ l = 76 ∨ l = 98 ∨ l = 116 := by
  unfold Ag.fitz at h
  split at h <;> first | simp | exact h.elim
theorem fitz_len {a : Ag} {l : Nat} (h : a.fitz l) : (argB l a).length ≤ 20004 := by
  have e : a.t.data.size = a.t.size := rfl
  rcases fitz_let h with rfl | rfl | rfl | rfl | rfl | rfl | rfl | rfl <;> simp [Ag.fitz] at h <;> simp [argB, be_len, tab] <;> omega
set_option maxRecDepth 100000 in
theorem argsB_len : ∀ (ls : List UInt8) (gs : List Ag) (n h : Nat), properF ls gs → (argsB ls gs n h).length ≤ 1 + ls.length * 20005
  | [], gs, n, h, _ => by rw [argsB]; have := flushB_len n h; simp; omega
  | c :: r, gs, n, h, hp => by
    have hfl := flushB_len n h
    by_cases hc : c.toNat < 65
    · have hp' := properF_lo hc hp
      by_cases h51 : c.toNat = 51
      · rw [argsB_51 h51]
        have := argsB_len r gs (n + 1) (orBit n h .none) hp'
        generalize (argsB r gs (n + 1) (orBit n h .none)).length = z at this ⊢
        clear hfl hp hp'
        rw [List.length_cons, Nat.add_mul, Nat.one_mul]
        exact Nat.le_trans this (Nat.add_le_add_left (Nat.le_add_right _ _) _)
      · rw [argsB_low hc h51]
        have := argsB_len r gs 0 0 hp'
        have ha : (argB c.toNat .none).length ≤ 20004 := by
          unfold argB
          split <;> simp [be_len, tab, Ag.none, Fs.enc]
        rw [List.length_append, List.length_append, List.length_cons, Nat.add_mul]
        omega
    · obtain ⟨a, q, rfl, hf, hp'⟩ := properF_hi hc hp
      by_cases h98 : c.toNat = 98
      · rw [argsB_98 h98]
        have := argsB_len r q (n + 1) (orBit n h a) hp'
        generalize (argsB r q (n + 1) (orBit n h a)).length = z at this ⊢
        clear hfl hp hp'
        rw [List.length_cons, Nat.add_mul, Nat.one_mul]
        exact Nat.le_trans this (Nat.add_le_add_left (Nat.le_add_right _ _) _)
      · rw [argsB_high (by omega) h98]
        have := argsB_len r q 0 0 hp'
        have ha := fitz_len hf
        rw [List.length_append, List.length_append, List.length_cons, Nat.add_mul]
        omega

end Go.Proofs.YtabeppaehenefaaGreat
