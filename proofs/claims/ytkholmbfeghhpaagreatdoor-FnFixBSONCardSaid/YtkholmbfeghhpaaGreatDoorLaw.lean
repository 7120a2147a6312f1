/- The law: a fixed decimal, written and read back, is the number that it was. Conditions: the package's variables hold what their initialisers lay. -/
import Derived.Test.YtkholmbfeghhpaaGreatDoorLike
namespace Go.Proofs.YtkholmbfeghhpaaGreatDoor
open Go.RowKit

theorem Digits9.sign {c n : Nat} {F : Nat → Nat} (h : Digits9 c n F) : decide (0 < n) = decide (0 < c) := by
  rcases Nat.eq_zero_or_pos n with h0 | h0
  · subst h0
    have := h.all
    simp at this
    simp [this]
  · have h1 : 0 < c := by
      rcases h.top with h2 | h2
      · omega
      · refine Nat.pos_of_ne_zero fun h3 => ?_
        rw [h3, Nat.zero_div] at h2
        omega
    simp [h0, h1]

set_option maxRecDepth 100000 in
set_option maxHeartbeats 4000000 in
theorem law_walk (neg : Bool) (c : Nat) (s : Int) (w : World) (hc : c < BB) (hs : -9223372036854775808 ≤ s ∧ s ≤ 9223372036854775807) (hG : Glob w) :
    Calls Tryz.prog 3 #[.agg #[.bool neg, .int .u64 c, .int .i64 s]] w fun e w' => e = .returned (.bool true) ∧ Fr NoS w w' := by
  have hA : Fr NoS w (w.alloc (.cells #[.bool neg, .int .u64 c, .int .i64 s] 24 (0, 0))) := (Fr.refl NoS w).alloc _
  have O := sp_OfFix neg c s (w.alloc (.cells #[.bool neg, .int .u64 c, .int .i64 s] 24 (0, 0))) hc hs
  have hbox := heap_alloc_new w (.cells #[.bool neg, .int .u64 c, .int .i64 s] 24 (0, 0))
  have HO := Lib.hid O
  clear O
  by_cases hok : (decide (c < 10000000000000000000) && decide (0 ≤ s) && decide (s ≤ 19)) = true
  · have hok' := hok
    simp only [Bool.and_eq_true, decide_eq_true_eq] at hok'
    obtain ⟨⟨hc19, hs0⟩, hs19⟩ := hok'
    obtain ⟨k, rfl⟩ := Int.eq_ofNat_of_zero_le hs0
    have hk : k ≤ 19 := by omega
    have hw : IntKind.i64.wrap (-(k : Int)) = -(k : Int) := IntWalk.i64_in _ (by omega)
    rw [hok, hw] at HO
    clear hok hw hs hs0 hs19
    go_enter Tryz.func3, Tryz.ntmps3
    go_wp2_with fail
    refine HO.out.mono ?_
    rintro e w1 ⟨v, n, F, rfl, hR, hD, hf⟩
    have hdn : decide (0 < n) = decide (0 < c) := hD.sign
    rw [hdn]
    have hbox1 := (hf.block w.heap.size (by simp) (fun x => x)).trans hbox
    have hA1 := hA.trans' hf
    obtain ⟨A, cap, rfl⟩ := hR.shape
    have hT := fun u => im_to neg c k u hk hc19
    have HT := Lib.hid hT
    have HD := Lib.hid hD
    clear hT hD hf hA hbox HO hdn
    obtain ⟨r, hr⟩ : ∃ r : Bool, Hid ((neg && decide (0 < c)) = r) := ⟨_, Lib.hid rfl⟩
    rw [hr.out]
    have hl1 := (Array.getElem?_eq_some_iff.1 hbox1).1
    have hA2 : Fr NoS w1 (w1.alloc (.cells #[.bool r, .slice A n cap, .int .i64 (-(k : Int))] 30 (0, 0))) := (Fr.refl NoS w1).alloc _
    have hnum := heap_alloc_new w1 (.cells #[.bool r, .slice A n cap, .int .i64 (-(k : Int))] 30 (0, 0))
    have hbox2 := (old1 (o := .cells #[.bool r, .slice A n cap, .int .i64 (-(k : Int))] 30 (0, 0)) hl1).trans hbox1
    obtain ⟨b0, b1, b2, _, _, _⟩ := cells3 hbox2
    go_wp2_with fail
    refine (HT.out _).mono ?_
    rintro e w2 ⟨g, B, rfl, hB, hI, hf2⟩
    rw [hr.out] at hI
    have hA3 := hA1.trans' (hA2.trans' hf2)
    have hf02 := hA2.trans' hf2
    have X := im_from r g c k B w2 hB hI hk hc19 (hG.fr hA3)
    have hrr : (r && decide (0 < c)) = r := by rw [← hr.out]; cases neg <;> cases decide (0 < c) <;> rfl
    rw [hrr] at X
    have HX := Lib.hid X
    have hnum2 := (hf2.block w1.heap.size (by simp) (fun x => x)).trans hnum
    have hR2 := hR.fr hf02 (fun _ _ x => x)
    clear X hB hI hrr hf2 hA2 hR hbox1 hbox2 b0 b1 b2 hnum HT
    go_wp2_with fail
    refine HX.out.mono ?_
    rintro e w3 ⟨rfl, hf3⟩
    have hA4 := hA3.trans' hf3
    have hnum3 := (hf3.block w1.heap.size (Array.getElem?_eq_some_iff.1 hnum2).1 (fun x => x)).trans hnum2
    have hR3 := hR2.fr hf3 (fun _ _ x => x)
    have hl3 := (Array.getElem?_eq_some_iff.1 hnum3).1
    have hnum4 := (old1 (o := .cells #[.bool r, .int .u64 c, .int .i64 (k : Int)] 24 (0, 0)) hl3).trans hnum3
    have hA5 : Fr NoS w3 (w3.alloc (.cells #[.bool r, .int .u64 c, .int .i64 (k : Int)] 24 (0, 0))) := (Fr.refl NoS w3).alloc _
    have L := sp_FixLike r c n k (.slice A n cap) F _ (hR3.fr hA5 (fun _ _ x => x)) HD.out hc19 hk
    have HL := Lib.hid L
    obtain ⟨b0, b1, b2, _, _, _⟩ := cells3 hnum4
    clear L hnum2 hnum3 hR2 hR3 HX hnum4
    go_wp2_with fail
    refine HL.out.mono ?_
    rintro e w4 ⟨rfl, hf4⟩
    go_wp2
    go_ret
    exact ⟨rfl, (hA4.trans' hA5).trans' hf4⟩
  · have hok' : (decide (c < 10000000000000000000) && decide (0 ≤ s) && decide (s ≤ 19)) = false := by simpa using hok
    rw [hok'] at HO
    clear hok hok' hs
    go_enter Tryz.func3, Tryz.ntmps3
    go_wp2_with fail
    refine HO.out.mono ?_
    rintro e w1 ⟨v, n, F, rfl, hR, hD, hf⟩
    obtain ⟨A, cap, rfl⟩ := hR.shape
    go_wp2
    go_ret
    exact ⟨rfl, (hA.trans' hf).alloc _⟩
end Go.Proofs.YtkholmbfeghhpaaGreatDoor
