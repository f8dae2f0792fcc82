
/-
  Chains: the specification's leaf of a key and a value walked.
  Conditions: key and value read as bytes.
-/
import Derived.Test.YtfodkjpjejoemaaGreatDoorChain0
import Derived.Test.YtfodkjpjejoemaaGreatDoorZu
import Derived.Test.YtfodkjpjejoemaaGreatDoorSha2
namespace Go.Proofs.YtfodkjpjejoemaaGreatDoor
open Go Go.RowKit
attribute [local go_sem ↓] Go.wp_at_zero Go.wp_at_succ

set_option maxRecDepth 100000 in
set_option maxHeartbeats 1000000 in
theorem specPair_any (kv vv : Value) (k v : List UInt8) (w : World) (hk : Byts w kv k) (hv : Byts w vv v) (hkl : k.length ≤ 4294967296) (hvl : v.length ≤ 4294967296) :
    Calls Tryz.prog 6 #[kv, vv] w fun e w' => ∃ r, e = .returned r ∧ Own w' w.heap.size 5 r ((pairS k v).map u8v) ∧ Keep w w' := by
  have HK := Lib.hid hk
  have HV := Lib.hid hv
  obtain ⟨A, c, rfl, -, -, -, -⟩ := hk
  obtain ⟨A2, c2, rfl, -, -, -, -⟩ := hv
  have HU := Lib.hid (uvar_ten k.length (by omega))
  go_enter Tryz.func6, Tryz.ntmps6
  go_wp2_with (first
    | (go_at_call 17
       refine (sSum_any _ v _ (HV.out.keep HK1.out) hvl).mono ?_
       rintro e w2 ⟨v2, rfl, hb2, hk2⟩
       have HB2 := Lib.hid hb2
       have HO2 := Lib.hid (HO1.out.keep hk2)
       have HK2 := Lib.hid (HK1.out.trans hk2)
       clear hb2 hk2)
    | (go_at_call 16
       first
       | (refine (sized_any _ (sha v) _ HB2.out (by rw [sha_length]; omega)).mono ?_
          rintro e w3 ⟨v3, rfl, ho3, hk3⟩
          have HO3 := Lib.hid (HO2.out.keep hk3)
          have HK3 := Lib.hid (HK2.out.trans hk3)
          have HB3 := Lib.hid (show Byts w3 v3 (uvar (sha v).length ++ sha v) from ho3.slc_map u8v (fun _ _ => rfl))
          obtain ⟨A3, c3, rfl, f1, f2, f3, f4⟩ := ho3.form
          obtain ⟨m, hm⟩ : ∃ m, m = ((uvar (sha v).length ++ sha v).map u8v).length := ⟨_, rfl⟩
          have hm4 : m ≤ 42 := by
            have := uvar_ten (sha v).length (by rw [sha_length]; omega)
            rw [hm]
            simp only [List.length_map, List.length_append]
            rw [sha_length] at *
            omega
          rw [← hm] at HB3 f1 ⊢
          have F3 := Lib.hid f3
          clear ho3 hk3 f2 f3 f4 hm)
       | (refine (sized_any _ k _ HK.out hkl).mono ?_
          rintro e w1 ⟨v1, rfl, ho1, hk1⟩
          have HO1 := Lib.hid ho1
          have HK1 := Lib.hid hk1
          clear ho1 hk1))
    | (at_builtin
       go_loud (
       refine wpList_app rfl (.tmp 6) (.tmp 9) 24 rfl appB rfl HO3.out rfl (Src.of_slc u8v (fun _ _ h => h) HB3.out) (one1 _) (fun e => by have h5 := F3.out e; omega) (by have h8 := HU.out; simp only [List.length_map, List.length_append]; omega) HK3.out.size ?_
       intro v4 w4 ho4 hk4 _
       have HO4 := Lib.hid ho4
       have HK4 := Lib.hid hk4
       clear ho4 hk4)))
  go_ret
  refine ⟨v4, rfl, ?_, HK3.out.trans' HK4.out (fun i hi e => by have h9 := (HO3.out.lt _ e.symm).1; omega)⟩
  unfold pairS
  rw [List.map_append]
  exact HO4.out
end Go.Proofs.YtfodkjpjejoemaaGreatDoor
