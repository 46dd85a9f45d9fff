/-
  FnMethod: ZZMethod down to its switch, and the switch's compares.
-/
import Derived.Test.YtabeppaehenefaaGreatOb
namespace Go.Proofs.YtabeppaehenefaaGreat
open Go.RowKit
attribute [local go_sem ↓] Go.wp_at_zero Go.wp_at_succ

def elseOf : Code → Code
  | .seq _ (.cond _ _ y) => y
  | c => c
def thenOf : Code → Code
  | .seq _ (.cond _ x _) => x
  | c => c
/-- the code behind the loop -/
noncomputable def swCode : Code :=
  match Tryz.f18.body with
  | some (.seq _ (.seq _ (.seq _ (.seq _ c)))) => c
  | _ => .skip
noncomputable def sw0 : Code :=
  match swCode with
  | .seq (.seq _ (.block _ c)) _ => c
  | _ => .skip
/-- the switch from its k-th compare on -/
noncomputable def swAt : Nat → Code
  | 0 => sw0
  | k + 1 => elseOf (swAt k)
/-- class and number of the k-th case -/
def swKeys : List (Int × Int) := [(10, 10), (10, 11), (10, 20), (10, 21), (10, 30), (10, 31), (10, 40), (10, 41), (10, 50), (10, 51), (10, 60), (10, 61), (10, 70), (10, 71), (20, 10), (20, 11), (20, 20), (20, 21), (20, 40), (20, 41), (40, 10), (40, 11), (40, 20), (40, 21), (40, 30), (40, 31), (40, 40), (40, 51), (50, 10), (50, 11), (50, 20), (50, 21), (50, 50), (50, 51), (50, 30), (50, 31), (50, 40), (50, 41), (60, 10), (60, 11), (60, 20), (60, 21), (60, 30), (60, 31), (60, 40), (60, 50), (60, 60), (60, 70), (60, 71), (60, 72), (60, 80), (60, 90), (60, 100), (60, 110), (60, 111), (60, 120), (90, 10), (90, 11), (90, 20), (90, 21), (90, 30), (90, 31), (85, 10), (85, 11)]

def SwShape (k : Nat) (c m : Int) (s0 s1 s2 : Nat) : Prop :=
  ∃ id t1 p1 a1 t2 p2 a2 t3 p3 a3, swAt k = .seq (.region id #[⟨some s1, .build 100 #[(0, .const (.int .u16 c)), (1, .const (.int .u16 m))], t1, p1, a1, none⟩, ⟨some s2, .binOp .eql 100 (.tmp 44) (.tmp s1) 100, t2, p2, a2, none⟩, ⟨some s0, .assign (.tmp s2), t3, p3, a3, none⟩] false)
      (.cond (.tmp s0) (thenOf (swAt k)) (swAt (k + 1))) ∧
    (s1 < 982 ∧ s2 < 982 ∧ s0 < 982 ∧ s1 ≠ 44 ∧ s1 ≠ 2 ∧ s2 ≠ 44 ∧ s2 ≠ 2 ∧ s0 ≠ 44 ∧ s0 ≠ 2 ∧ s1 ≠ s2 ∧ s0 ≠ s1 ∧ s0 ≠ s2)

theorem shape_0 : SwShape 0 10 10 45 46 47 := ⟨_, _, _, _, _, _, _, _, _, _, rfl, by decide⟩
theorem shape_1 : SwShape 1 10 11 73 74 75 := ⟨_, _, _, _, _, _, _, _, _, _, rfl, by decide⟩
theorem shape_2 : SwShape 2 10 20 95 96 97 := ⟨_, _, _, _, _, _, _, _, _, _, rfl, by decide⟩
theorem shape_3 : SwShape 3 10 21 105 106 107 := ⟨_, _, _, _, _, _, _, _, _, _, rfl, by decide⟩
theorem shape_4 : SwShape 4 10 30 115 116 117 := ⟨_, _, _, _, _, _, _, _, _, _, rfl, by decide⟩
theorem shape_5 : SwShape 5 10 31 136 137 138 := ⟨_, _, _, _, _, _, _, _, _, _, rfl, by decide⟩
theorem shape_6 : SwShape 6 10 40 157 158 159 := ⟨_, _, _, _, _, _, _, _, _, _, rfl, by decide⟩
theorem shape_7 : SwShape 7 10 41 167 168 169 := ⟨_, _, _, _, _, _, _, _, _, _, rfl, by decide⟩
theorem shape_8 : SwShape 8 10 50 173 174 175 := ⟨_, _, _, _, _, _, _, _, _, _, rfl, by decide⟩
theorem shape_9 : SwShape 9 10 51 198 199 200 := ⟨_, _, _, _, _, _, _, _, _, _, rfl, by decide⟩
theorem shape_10 : SwShape 10 10 60 204 205 206 := ⟨_, _, _, _, _, _, _, _, _, _, rfl, by decide⟩
theorem shape_11 : SwShape 11 10 61 214 215 216 := ⟨_, _, _, _, _, _, _, _, _, _, rfl, by decide⟩
theorem shape_12 : SwShape 12 10 70 220 221 222 := ⟨_, _, _, _, _, _, _, _, _, _, rfl, by decide⟩
theorem shape_13 : SwShape 13 10 71 234 235 236 := ⟨_, _, _, _, _, _, _, _, _, _, rfl, by decide⟩
theorem shape_14 : SwShape 14 20 10 240 241 242 := ⟨_, _, _, _, _, _, _, _, _, _, rfl, by decide⟩
theorem shape_15 : SwShape 15 20 11 246 247 248 := ⟨_, _, _, _, _, _, _, _, _, _, rfl, by decide⟩
theorem shape_16 : SwShape 16 20 20 252 253 254 := ⟨_, _, _, _, _, _, _, _, _, _, rfl, by decide⟩
theorem shape_17 : SwShape 17 20 21 263 264 265 := ⟨_, _, _, _, _, _, _, _, _, _, rfl, by decide⟩
theorem shape_18 : SwShape 18 20 40 274 275 276 := ⟨_, _, _, _, _, _, _, _, _, _, rfl, by decide⟩
theorem shape_19 : SwShape 19 20 41 299 300 301 := ⟨_, _, _, _, _, _, _, _, _, _, rfl, by decide⟩
theorem shape_20 : SwShape 20 40 10 305 306 307 := ⟨_, _, _, _, _, _, _, _, _, _, rfl, by decide⟩
theorem shape_21 : SwShape 21 40 11 348 349 350 := ⟨_, _, _, _, _, _, _, _, _, _, rfl, by decide⟩
theorem shape_22 : SwShape 22 40 20 354 355 356 := ⟨_, _, _, _, _, _, _, _, _, _, rfl, by decide⟩
theorem shape_23 : SwShape 23 40 21 374 375 376 := ⟨_, _, _, _, _, _, _, _, _, _, rfl, by decide⟩
theorem shape_24 : SwShape 24 40 30 380 381 382 := ⟨_, _, _, _, _, _, _, _, _, _, rfl, by decide⟩
theorem shape_25 : SwShape 25 40 31 407 408 409 := ⟨_, _, _, _, _, _, _, _, _, _, rfl, by decide⟩
theorem shape_26 : SwShape 26 40 40 413 414 415 := ⟨_, _, _, _, _, _, _, _, _, _, rfl, by decide⟩
theorem shape_27 : SwShape 27 40 51 440 441 442 := ⟨_, _, _, _, _, _, _, _, _, _, rfl, by decide⟩
theorem shape_28 : SwShape 28 50 10 446 447 448 := ⟨_, _, _, _, _, _, _, _, _, _, rfl, by decide⟩
theorem shape_29 : SwShape 29 50 11 485 486 487 := ⟨_, _, _, _, _, _, _, _, _, _, rfl, by decide⟩
theorem shape_30 : SwShape 30 50 20 505 506 507 := ⟨_, _, _, _, _, _, _, _, _, _, rfl, by decide⟩
theorem shape_31 : SwShape 31 50 21 532 533 534 := ⟨_, _, _, _, _, _, _, _, _, _, rfl, by decide⟩
theorem shape_32 : SwShape 32 50 50 538 539 540 := ⟨_, _, _, _, _, _, _, _, _, _, rfl, by decide⟩
theorem shape_33 : SwShape 33 50 51 560 561 562 := ⟨_, _, _, _, _, _, _, _, _, _, rfl, by decide⟩
theorem shape_34 : SwShape 34 50 30 566 567 568 := ⟨_, _, _, _, _, _, _, _, _, _, rfl, by decide⟩
theorem shape_35 : SwShape 35 50 31 581 582 583 := ⟨_, _, _, _, _, _, _, _, _, _, rfl, by decide⟩
theorem shape_36 : SwShape 36 50 40 592 593 594 := ⟨_, _, _, _, _, _, _, _, _, _, rfl, by decide⟩
theorem shape_37 : SwShape 37 50 41 617 618 619 := ⟨_, _, _, _, _, _, _, _, _, _, rfl, by decide⟩
theorem shape_38 : SwShape 38 60 10 628 629 630 := ⟨_, _, _, _, _, _, _, _, _, _, rfl, by decide⟩
theorem shape_39 : SwShape 39 60 11 649 650 651 := ⟨_, _, _, _, _, _, _, _, _, _, rfl, by decide⟩
theorem shape_40 : SwShape 40 60 20 655 656 657 := ⟨_, _, _, _, _, _, _, _, _, _, rfl, by decide⟩
theorem shape_41 : SwShape 41 60 21 693 694 695 := ⟨_, _, _, _, _, _, _, _, _, _, rfl, by decide⟩
theorem shape_42 : SwShape 42 60 30 703 704 705 := ⟨_, _, _, _, _, _, _, _, _, _, rfl, by decide⟩
theorem shape_43 : SwShape 43 60 31 718 719 720 := ⟨_, _, _, _, _, _, _, _, _, _, rfl, by decide⟩
theorem shape_44 : SwShape 44 60 40 728 729 730 := ⟨_, _, _, _, _, _, _, _, _, _, rfl, by decide⟩
theorem shape_45 : SwShape 45 60 50 752 753 754 := ⟨_, _, _, _, _, _, _, _, _, _, rfl, by decide⟩
theorem shape_46 : SwShape 46 60 60 775 776 777 := ⟨_, _, _, _, _, _, _, _, _, _, rfl, by decide⟩
theorem shape_47 : SwShape 47 60 70 802 803 804 := ⟨_, _, _, _, _, _, _, _, _, _, rfl, by decide⟩
theorem shape_48 : SwShape 48 60 71 817 818 819 := ⟨_, _, _, _, _, _, _, _, _, _, rfl, by decide⟩
theorem shape_49 : SwShape 49 60 72 845 846 847 := ⟨_, _, _, _, _, _, _, _, _, _, rfl, by decide⟩
theorem shape_50 : SwShape 50 60 80 851 852 853 := ⟨_, _, _, _, _, _, _, _, _, _, rfl, by decide⟩
theorem shape_51 : SwShape 51 60 90 866 867 868 := ⟨_, _, _, _, _, _, _, _, _, _, rfl, by decide⟩
theorem shape_52 : SwShape 52 60 100 881 882 883 := ⟨_, _, _, _, _, _, _, _, _, _, rfl, by decide⟩
theorem shape_53 : SwShape 53 60 110 892 893 894 := ⟨_, _, _, _, _, _, _, _, _, _, rfl, by decide⟩
theorem shape_54 : SwShape 54 60 111 903 904 905 := ⟨_, _, _, _, _, _, _, _, _, _, rfl, by decide⟩
theorem shape_55 : SwShape 55 60 120 909 910 911 := ⟨_, _, _, _, _, _, _, _, _, _, rfl, by decide⟩
theorem shape_56 : SwShape 56 90 10 929 930 931 := ⟨_, _, _, _, _, _, _, _, _, _, rfl, by decide⟩
theorem shape_57 : SwShape 57 90 11 935 936 937 := ⟨_, _, _, _, _, _, _, _, _, _, rfl, by decide⟩
theorem shape_58 : SwShape 58 90 20 941 942 943 := ⟨_, _, _, _, _, _, _, _, _, _, rfl, by decide⟩
theorem shape_59 : SwShape 59 90 21 947 948 949 := ⟨_, _, _, _, _, _, _, _, _, _, rfl, by decide⟩
theorem shape_60 : SwShape 60 90 30 953 954 955 := ⟨_, _, _, _, _, _, _, _, _, _, rfl, by decide⟩
theorem shape_61 : SwShape 61 90 31 959 960 961 := ⟨_, _, _, _, _, _, _, _, _, _, rfl, by decide⟩
theorem shape_62 : SwShape 62 85 10 965 966 967 := ⟨_, _, _, _, _, _, _, _, _, _, rfl, by decide⟩
theorem shape_63 : SwShape 63 85 11 976 977 978 := ⟨_, _, _, _, _, _, _, _, _, _, rfl, by decide⟩
theorem sw_shapes (k : Nat) (hk : k < 64) : ∃ s0 s1 s2, SwShape k (swKeys.getD k (0, 0)).1 (swKeys.getD k (0, 0)).2 s0 s1 s2 := by
  match k, hk with
  | 0, _ => exact ⟨45, 46, 47, shape_0⟩
  | 1, _ => exact ⟨73, 74, 75, shape_1⟩
  | 2, _ => exact ⟨95, 96, 97, shape_2⟩
  | 3, _ => exact ⟨105, 106, 107, shape_3⟩
  | 4, _ => exact ⟨115, 116, 117, shape_4⟩
  | 5, _ => exact ⟨136, 137, 138, shape_5⟩
  | 6, _ => exact ⟨157, 158, 159, shape_6⟩
  | 7, _ => exact ⟨167, 168, 169, shape_7⟩
  | 8, _ => exact ⟨173, 174, 175, shape_8⟩
  | 9, _ => exact ⟨198, 199, 200, shape_9⟩
  | 10, _ => exact ⟨204, 205, 206, shape_10⟩
  | 11, _ => exact ⟨214, 215, 216, shape_11⟩
  | 12, _ => exact ⟨220, 221, 222, shape_12⟩
  | 13, _ => exact ⟨234, 235, 236, shape_13⟩
  | 14, _ => exact ⟨240, 241, 242, shape_14⟩
  | 15, _ => exact ⟨246, 247, 248, shape_15⟩
  | 16, _ => exact ⟨252, 253, 254, shape_16⟩
  | 17, _ => exact ⟨263, 264, 265, shape_17⟩
  | 18, _ => exact ⟨274, 275, 276, shape_18⟩
  | 19, _ => exact ⟨299, 300, 301, shape_19⟩
  | 20, _ => exact ⟨305, 306, 307, shape_20⟩
  | 21, _ => exact ⟨348, 349, 350, shape_21⟩
  | 22, _ => exact ⟨354, 355, 356, shape_22⟩
  | 23, _ => exact ⟨374, 375, 376, shape_23⟩
  | 24, _ => exact ⟨380, 381, 382, shape_24⟩
  | 25, _ => exact ⟨407, 408, 409, shape_25⟩
  | 26, _ => exact ⟨413, 414, 415, shape_26⟩
  | 27, _ => exact ⟨440, 441, 442, shape_27⟩
  | 28, _ => exact ⟨446, 447, 448, shape_28⟩
  | 29, _ => exact ⟨485, 486, 487, shape_29⟩
  | 30, _ => exact ⟨505, 506, 507, shape_30⟩
  | 31, _ => exact ⟨532, 533, 534, shape_31⟩
  | 32, _ => exact ⟨538, 539, 540, shape_32⟩
  | 33, _ => exact ⟨560, 561, 562, shape_33⟩
  | 34, _ => exact ⟨566, 567, 568, shape_34⟩
  | 35, _ => exact ⟨581, 582, 583, shape_35⟩
  | 36, _ => exact ⟨592, 593, 594, shape_36⟩
  | 37, _ => exact ⟨617, 618, 619, shape_37⟩
  | 38, _ => exact ⟨628, 629, 630, shape_38⟩
  | 39, _ => exact ⟨649, 650, 651, shape_39⟩
  | 40, _ => exact ⟨655, 656, 657, shape_40⟩
  | 41, _ => exact ⟨693, 694, 695, shape_41⟩
  | 42, _ => exact ⟨703, 704, 705, shape_42⟩
  | 43, _ => exact ⟨718, 719, 720, shape_43⟩
  | 44, _ => exact ⟨728, 729, 730, shape_44⟩
  | 45, _ => exact ⟨752, 753, 754, shape_45⟩
  | 46, _ => exact ⟨775, 776, 777, shape_46⟩
  | 47, _ => exact ⟨802, 803, 804, shape_47⟩
  | 48, _ => exact ⟨817, 818, 819, shape_48⟩
  | 49, _ => exact ⟨845, 846, 847, shape_49⟩
  | 50, _ => exact ⟨851, 852, 853, shape_50⟩
  | 51, _ => exact ⟨866, 867, 868, shape_51⟩
  | 52, _ => exact ⟨881, 882, 883, shape_52⟩
  | 53, _ => exact ⟨892, 893, 894, shape_53⟩
  | 54, _ => exact ⟨903, 904, 905, shape_54⟩
  | 55, _ => exact ⟨909, 910, 911, shape_55⟩
  | 56, _ => exact ⟨929, 930, 931, shape_56⟩
  | 57, _ => exact ⟨935, 936, 937, shape_57⟩
  | 58, _ => exact ⟨941, 942, 943, shape_58⟩
  | 59, _ => exact ⟨947, 948, 949, shape_59⟩
  | 60, _ => exact ⟨953, 954, 955, shape_60⟩
  | 61, _ => exact ⟨959, 960, 961, shape_61⟩
  | 62, _ => exact ⟨965, 966, 967, shape_62⟩
  | 63, _ => exact ⟨976, 977, 978, shape_63⟩
  | n + 64, h => omega

theorem op_eq100 {a : Act} {w : World} {d : Option Tmp} {ty : TypeId} {pos : String} {af : Array Edge} {g : Option (Nat × Bool)} {x y : Operand} {p q c m : Int} (hx : a.eval x = .agg #[.int .u16 p, .int .u16 q]) (hy : a.eval y = .agg #[.int .u16 c, .int .u16 m]) :
    (execOp a.eval ⟨d, .binOp .eql 100 x y 100, ty, pos, af, g⟩).run Tryz.prog w = .ok (.value (.bool (p == c && q == m))) w := by
  simp only [execOp, hx, hy]
  go_simp
theorem built100 (c m : Int) : Tryz.prog.built 100 [(0, .int .u16 c), (1, .int .u16 m)] = some #[.int .u16 c, .int .u16 m] := by kernel_rfl

/-- one compare -/
theorem sw_go {k : Nat} {c m cl me : Int} {s0 s1 s2 : Nat} {u : Value} {Q : Exit → Act → World → Prop} {w : World} (hs : SwShape k c m s0 s1 s2)
    (hx : (cl == c && me == m) = true → ∀ a, Env a [(44, .agg #[.int .u16 cl, .int .u16 me]), (2, u)] → (thenOf (swAt k)).wp Tryz.prog Q a w)
    (hy : (cl == c && me == m) = false → ∀ a, Env a [(44, .agg #[.int .u16 cl, .int .u16 me]), (2, u)] → (swAt (k + 1)).wp Tryz.prog Q a w) (a : Act) (E : Env a [(44, .agg #[.int .u16 cl, .int .u16 me]), (2, u)]) : (swAt k).wp Tryz.prog Q a w := by
  obtain ⟨id, t1, p1, a1, t2, p2, a2, t3, p3, a3, e, d1, d2, d0, n1, n2, n3, n4, n5, n6, n7, n8, n9⟩ := hs
  rw [e]
  refine wp_seq (wp_region_list ?_)
  refine lt_op E (op_build 100 #[(0, .int .u16 c), (1, .int .u16 m)] (by simp [Act.eval]) (built100 c m)) d1 (by simp; omega) (fun a E => ?_)
  refine lt_op E (op_eq100 (p := cl) (q := me) (c := c) (m := m) (E.all (44, _) (by simp)) (E.all (s1, _) (by simp))) d2 (by simp; omega) (fun a E => ?_)
  refine lt_op E (op_assign (v := .bool (cl == c && me == m)) (E.all (s2, _) (by simp))) d0 (by simp; omega) (fun a E => ?_)
  have hc := E.all (s0, .bool (cl == c && me == m)) (by simp)
  have E0 : Env a [(44, .agg #[.int .u16 cl, .int .u16 me]), (2, u)] := E.sub (by simp)
  cases hb : (cl == c && me == m) with
  | true => rw [hb] at hc; exact wp_cond_true hc (hx hb a E0)
  | false => rw [hb] at hc; exact wp_cond_false hc (hy hb a E0)

/-- down to the K-th case -/
theorem sw_to {cl me : Int} {u : Value} {Q : Exit → Act → World → Prop} {w : World} (K : Nat) (hK : K < 64) (hkey : swKeys.getD K (0, 0) = (cl, me)) (hne : ∀ k, k < K → swKeys.getD k (0, 0) ≠ (cl, me))
    (hx : ∀ a, Env a [(44, .agg #[.int .u16 cl, .int .u16 me]), (2, u)] → (thenOf (swAt K)).wp Tryz.prog Q a w) : ∀ a, Env a [(44, .agg #[.int .u16 cl, .int .u16 me]), (2, u)] → sw0.wp Tryz.prog Q a w := by
  have h0 : ∀ a, Env a [(44, .agg #[.int .u16 cl, .int .u16 me]), (2, u)] → (swAt K).wp Tryz.prog Q a w := by
    obtain ⟨s0, s1, s2, hs⟩ := sw_shapes K hK
    rw [hkey] at hs
    exact fun a E => sw_go hs (fun _ => hx) (fun h => by simp at h) a E
  have hd : ∀ j, j ≤ K → ∀ a, Env a [(44, .agg #[.int .u16 cl, .int .u16 me]), (2, u)] → (swAt (K - j)).wp Tryz.prog Q a w := by
    intro j
    induction j with
    | zero => intro _; exact h0
    | succ j ih =>
      intro hj
      obtain ⟨s0, s1, s2, hs⟩ := sw_shapes (K - (j + 1)) (by omega)
      have hn := hne (K - (j + 1)) (by omega)
      have hb : (cl == (swKeys.getD (K - (j + 1)) (0, 0)).1 && me == (swKeys.getD (K - (j + 1)) (0, 0)).2) = false := by
        generalize swKeys.getD (K - (j + 1)) (0, 0) = z at hn ⊢
        obtain ⟨z1, z2⟩ := z
        cases h : (cl == z1 && me == z2) with
        | false => rfl
        | true => simp at h; exact absurd (by rw [h.1, h.2]) hn
      exact fun a E => sw_go hs (fun h => by rw [hb] at h; cases h) (fun _ => by rw [show K - (j + 1) + 1 = K - j by omega]; exact ih (by omega)) a E
  have := hd K (Nat.le_refl _)
  rwa [Nat.sub_self] at this

end Go.Proofs.YtabeppaehenefaaGreat
