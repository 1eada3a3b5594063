/- laws.works. -/
import Derived.Test.YtdmggcbbfljciaaGreatDoorPort1
namespace Go.Proofs.YtdmggcbbfljciaaGreatDoor
open Go.RowKit Go.Lib

theorem dec0 : decDigits 0 = [48] := by rw [decDigits_one (by decide)]; rfl
theorem dec1 : decDigits 1 = [49] := by rw [decDigits_one (by decide)]; rfl
theorem dec2 : decDigits 2 = [50] := by rw [decDigits_one (by decide)]; rfl
theorem dec80 : decDigits 80 = [56, 48] := by rw [decDigits_two (by decide) (by decide)]; rfl

def worksS : ByteArray := ⟨#[115, 48, 45, 115, 48, 58, 99, 49, 44, 99, 50]⟩

theorem works_reads : ReadsAs worksS (lvd 0 []) (lvd 0 [(1, 1), (2, 2)]) := fun w =>
  range_two worksS 0 [] 0 [(1, 1), (2, 2)] (by simp) (by simp [CL.tokOk]) (by simp [CL.lvT, CL.tks, CL.joinC, CL.tokT, dec0, dec1, dec2, worksS]) (by decide) (by decide) (by decide) w

theorem bytes_ext {a b : ByteArray} (h : a.data.toList = b.data.toList) : a = b := by
  cases a; cases b
  simp only at h
  congr 1
  exact Array.toList_inj.1 h

theorem works_out {r : ByteArray} (h : RgOut r (lvd 0 []) (lvd 0 [(1, 1), (2, 2)]) [] [1, 2]) : r = worksS := by
  obtain ⟨q, hq, hr⟩ := h
  have hq : q = false := by
    cases q with
    | false => rfl
    | true => exact absurd (hq.1 rfl).2.1 (by simp [lvd])
  subst hq
  apply bytes_ext
  rw [hr]
  simp [rgT, lvd, CL.lvT, CL.toksOf, CL.runEnd, CL.toksRun, CL.tks, CL.joinC, CL.tokT, dec0, dec1, dec2, worksS]

theorem works_mem0 : Mem (lvd 0 []) [] := ⟨List.Pairwise.nil, fun x => by simp [lvd, tokP]⟩
theorem works_mem2 : Mem (lvd 0 [(1, 1), (2, 2)]) [1, 2] := ⟨by simp [CL.Gr], fun x => by simp [lvd, tokP, CL.inTok]; omega⟩

set_option maxRecDepth 100000 in
set_option maxHeartbeats 2000000 in
theorem works_ok (w : World) (hT : Tabs w) :
    Calls Tryz.prog 9 #[] w fun e w' => e = .returned (.bool true) ∧ Below w.heap.size w w' := by
  have hr := Lib.hid (implRange worksS _ _ [] [1, 2] works_reads works_mem0 works_mem2 (by decide) (by decide) w hT)
  have hn := Lib.hid (number_ok ⟨#[56, 48]⟩ 80 (by rw [dec80]) (by decide))
  clear hT
  go_enter Tryz.func9, Tryz.ntmps9
  go_wp2_with fail
  refine hr.out.mono ?_
  rintro e w2 ⟨r, rfl, hr2, hb2⟩
  have hw : r = ⟨#[115, 48, 45, 115, 48, 58, 99, 49, 44, 99, 50]⟩ := works_out hr2
  subst hw
  have Hb2 := Lib.hid hb2
  clear hr2 hb2
  go_wp2_with fail
  refine (hn.out _).mono ?_
  rintro e w3 ⟨rfl, hb3⟩
  go_wp2
  go_ret
  exact ⟨rfl, Hb2.out.trans (hb3.mono Hb2.out.size)⟩
end Go.Proofs.YtdmggcbbfljciaaGreatDoor
