/- The walk of slices.partitionOrdered at doubles. -/
import Derived.Test.YtjcnnjknhemimaaGreatDoorQ3
import Derived.Test.YtjcnnjknhemimaaGreatDoorQ0
import Derived.Deep.Cut
import Derived.Deep.CutRange
import Derived.Deep.CutBlock
namespace Go.Proofs.YtjcnnjknhemimaaGreatDoor
open Go Go.RowKit Go.Sort Ieee Fl
attribute [local go_sem] run_store_float
set_option maxHeartbeats 4000000 in
set_option maxRecDepth 100000 in
theorem partition_any (blk off cap a b pivot : Nat) (d : Array Sm) (w : World) (hH : Holds enc w blk off d) (hblk : blk < w.heap.size) (hap : a ≤ pivot) (hpb : pivot < b) (hb : b ≤ d.size) (hsz : d.size ≤ 1000) :
    Calls Tryz.prog 93 #[.slice (some ⟨blk, off, none⟩) d.size cap, .int .i64 a, .int .i64 b, .int .i64 pivot] w fun e w' =>
      e = .returned (.tuple #[.int .i64 (Sort.partition lt d a b pivot).1, .bool (Sort.partition lt d a b pivot).2.1]) ∧ Row w w' blk off (Sort.partition lt d a b pivot).2.2 := by
  have HH := hide hH
  obtain ⟨i, hi⟩ : ∃ i : Nat, (a : Int) + 1 = i := ⟨a + 1, by omega⟩
  obtain ⟨j, hj⟩ : ∃ j : Nat, (b : Int) - 1 = j := ⟨b - 1, by omega⟩
  have HI : Hid (i = a + 1) := hide (by omega)
  have HJ : Hid (j = b - 1) := hide (by omega)
  have hai : a < i := by omega
  have hij : i ≤ j + 1 := by omega
  have hjb : j < b := by omega
  have HR := hide (Row.start hH)
  obtain ⟨dk, hdk⟩ : ∃ dk, dk = d := ⟨_, rfl⟩
  have hsk : dk.size = d.size := by rw [hdk]
  have HR : Hid (Row w w blk off dk) := by rw [hdk]; exact HR
  have HDK := hide hdk
  clear hdk hH
  obtain ⟨G, hG⟩ : ∃ G : Nat → Sm, ∀ t, G t = dk[t]! := ⟨fun t => dk[t]!, fun _ => rfl⟩
  have HG := hide hG
  clear hG
  have hcell : ∀ t, t < d.size → w.cell? ⟨blk, off + t, none⟩ = some (.float .f64 (word (G t).1)) := fun t ht => by
    rw [HG.out]; exact HR.out.cell HH.out hblk hsk t (by omega)
  have hfroz : ∀ t, t < d.size → w.frozen? ⟨blk, off + t, none⟩ = false := fun t ht => HR.out.frozen HH.out hblk hsk t (by omega)
  obtain ⟨va, hva⟩ := cell?_setCell_some (w := w) (p := ⟨blk, off + a, none⟩) (x := .float .f64 (word (G pivot).1)) (q := ⟨blk, off + pivot, none⟩) (hcell pivot (by omega))
  have HSW : Hid (Row w ((w.setCell ⟨blk, off + a, none⟩ (.float .f64 (word (G pivot).1))).setCell ⟨blk, off + pivot, none⟩ (.float .f64 (word (G a).1))).drew blk off (swp dk a pivot)) := hide (by
    have := HR.out.drew.swap hblk a pivot (by omega) (by omega)
    rw [HG.out a, HG.out pivot]
    exact this)
  go_enter Tryz.func93, Tryz.ntmps93
  go_wp2_with fail
  go_region
  go_upto_block 0 with (fail)
  clear hcell hfroz va hva
  have HR := HSW
  clear HSW
  generalize ((w.setCell ⟨blk, off + a, none⟩ (.float .f64 (word (G pivot).1))).setCell ⟨blk, off + pivot, none⟩ (.float .f64 (word (G a).1))).drew = W1 at HR ⊢
  have HDK : Hid (swp dk a pivot = swp d a pivot) := hide (by rw [HDK.out])
  have hsk : (swp dk a pivot).size = d.size := by rw [swp_size]; exact hsk
  clear HG
  generalize swp dk a pivot = dk at *
  obtain ⟨G, hG⟩ : ∃ G : Nat → Sm, ∀ t, G t = dk[t]! := ⟨fun t => dk[t]!, fun _ => rfl⟩
  have HG := hide hG
  clear hG
  go_cut [10] from 30 to 45 (fun vx wx => ∃ (y : Nat), vx = .int .i64 y ∧ i ≤ y ∧ y ≤ j + 1 ∧ Hid (Row w wx blk off dk) ∧ Hid (y = scanUp (fun x => lt x dk[a]!) dk j i))
  case first =>
    go_wp2_with fail
    go_loopw [10] (fun vx wx => ∃ (y : Nat), vx = .int .i64 y ∧ i ≤ y ∧ y ≤ j + 1 ∧ Hid (Row w wx blk off dk) ∧ Hid (scanUp (fun x => lt x dk[a]!) dk j y = scanUp (fun x => lt x dk[a]!) dk j i)) (fun vx _ => j + 1 - (intOf vx).toNat)
    case atStart => exact ⟨i, rfl, by omega, by omega, HR, hide rfl⟩
    case round =>
      obtain ⟨i', rfl, hb1, hb2, HR1, HS1⟩ := hrel
      have hcell : ∀ t, t < d.size → wr.cell? ⟨blk, off + t, none⟩ = some (.float .f64 (word (G t).1)) := fun t ht => by
        rw [HG.out]; exact HR1.out.cell HH.out hblk hsk t (by omega)
      by_cases hle : i' ≤ j
      · have hlei : (i' : Int) ≤ j := by omega
        go_wp2_with fail
        go_quiet (first | (go_at_call 91; refine Calls.quiet_of_same (less_any _ _ _)))
        go_wp2
        · have ht : lt (G i') (G a) = true := by assumption
          go_roundw
          case rel => exact ⟨i' + 1, by go_num, by omega, by omega, hide (HR1.out.drewN nq), hide ((scanUp_go (fun x => lt x dk[a]!) dk j i' hle (by (try simp only []); rw [← HG.out, ← HG.out]; exact ht)).symm.trans HS1.out)⟩
          case measure => (simp [intOf] <;> omega)
        · have ht : lt (G i') (G a) = false := by assumption
          go_meet
          case rel => exact ⟨i', rfl, hb1, hb2, hide (HR1.out.drewN nq), hide ((scanUp_end (fun x => lt x dk[a]!) dk j i' (Or.inr (by (try simp only []); rw [← HG.out, ← HG.out]; exact ht))).symm.trans HS1.out)⟩
      · have hlei : decide ((i' : Int) ≤ j) = false := decide_eq_false (by omega)
        go_wp2_with fail
        go_quiet (first | (go_at_call 91; refine Calls.quiet_of_same (less_any _ _ _)))
        go_wp2
        go_meet
        case rel => exact ⟨i', rfl, hb1, hb2, hide (HR1.out.drewN nq), hide ((scanUp_end (fun x => lt x dk[a]!) dk j i' (Or.inl hle)).symm.trans HS1.out)⟩
  case rest =>
    obtain ⟨i2, rfl, hi2a, hi2b, HR, HSi2⟩ := hcut
    go_upto_block 2 with (fail)
    go_cut [11] from 46 to 62 (fun vx wx => ∃ (y : Nat), vx = .int .i64 y ∧ y ≤ j ∧ i2 ≤ y + 1 ∧ Hid (Row w wx blk off dk) ∧ Hid (y = scanDown (fun x => !lt x dk[a]!) dk i2 j))
    case first =>
      go_wp2_with fail
      go_loopw [11] (fun vx wx => ∃ (y : Nat), vx = .int .i64 y ∧ y ≤ j ∧ i2 ≤ y + 1 ∧ Hid (Row w wx blk off dk) ∧ Hid (scanDown (fun x => !lt x dk[a]!) dk i2 y = scanDown (fun x => !lt x dk[a]!) dk i2 j)) (fun vx _ => (intOf vx).toNat)
      case atStart => exact ⟨j, rfl, by omega, by omega, HR, hide rfl⟩
      case round =>
        obtain ⟨j', rfl, hb1, hb2, HR1, HS1⟩ := hrel
        have hcell : ∀ t, t < d.size → wr.cell? ⟨blk, off + t, none⟩ = some (.float .f64 (word (G t).1)) := fun t ht => by
          rw [HG.out]; exact HR1.out.cell HH.out hblk hsk t (by omega)
        by_cases hle : i2 ≤ j'
        · have hlei : (i2 : Int) ≤ j' := by omega
          go_wp2_with fail
          go_quiet (first | (go_at_call 91; refine Calls.quiet_of_same (less_any _ _ _)))
          go_wp2
          · have ht : lt (G j') (G a) = false := by
              have h0 : (!lt (G j') (G a)) = true := by assumption
              simpa using h0
            go_roundw
            case rel => exact ⟨j' - 1, by go_num, by omega, by omega, hide (HR1.out.drewN nq), hide ((scanDown_go (fun x => !lt x dk[a]!) dk i2 j' hle (by omega) (by (try simp only []); rw [← HG.out, ← HG.out, ht]; rfl)).symm.trans HS1.out)⟩
            case measure => (simp [intOf] <;> omega)
          · have ht : lt (G j') (G a) = true := by
              have h0 : (!lt (G j') (G a)) = false := by assumption
              simpa using h0
            go_meet
            case rel => exact ⟨j', rfl, hb1, hb2, hide (HR1.out.drewN nq), hide ((scanDown_end (fun x => !lt x dk[a]!) dk i2 j' (Or.inr (by (try simp only []); rw [← HG.out, ← HG.out, ht]; rfl))).symm.trans HS1.out)⟩
        · have hlei : decide ((i2 : Int) ≤ j') = false := decide_eq_false (by omega)
          go_wp2_with fail
          go_quiet (first | (go_at_call 91; refine Calls.quiet_of_same (less_any _ _ _)))
          go_wp2
          go_meet
          case rel => exact ⟨j', rfl, hb1, hb2, hide (HR1.out.drewN nq), hide ((scanDown_end (fun x => !lt x dk[a]!) dk i2 j' (Or.inl hle)).symm.trans HS1.out)⟩
    case rest =>
      obtain ⟨j2, rfl, hj2a, hj2b, HR, HSj2⟩ := hcut
      have HS2 : Hid (i2 = scanUp (fun x => lt x dk[a]!) dk j i ∧ j2 = scanDown (fun x => !lt x dk[a]!) dk i2 j) := hide ⟨HSi2.out, HSj2.out⟩
      clear HSi2 HSj2
      have hcell : ∀ t, t < d.size → wc.cell? ⟨blk, off + t, none⟩ = some (.float .f64 (word (G t).1)) := fun t ht => by
        rw [HG.out]; exact HR.out.cell HH.out hblk hsk t (by omega)
      have hfroz : ∀ t, t < d.size → wc.frozen? ⟨blk, off + t, none⟩ = false := fun t ht => HR.out.frozen HH.out hblk hsk t (by omega)
      by_cases hgt : j2 < i2
      · have hgti : (j2 : Int) < i2 := by omega
        obtain ⟨va, hva⟩ := cell?_setCell_some (w := wc) (p := ⟨blk, off + j2, none⟩) (x := .float .f64 (word (G a).1)) (q := ⟨blk, off + a, none⟩) (hcell a (by omega))
        have HSW : Hid (Row w ((wc.setCell ⟨blk, off + j2, none⟩ (.float .f64 (word (G a).1))).setCell ⟨blk, off + a, none⟩ (.float .f64 (word (G j2).1))).drew blk off (swp dk j2 a)) := hide (by
          have := HR.out.drew.swap hblk j2 a (by omega) (by omega)
          rw [HG.out j2, HG.out a]
          exact this)
        go_wp2_with fail
        go_region
        go_wp2_with fail
        go_ret2
        have e := part_first_break lt d a b pivot HI.out HJ.out HDK.out HS2.out.1 HS2.out.2 hgt
        exact ⟨by rw [e]; rfl, by rw [e]; exact HSW.out⟩
      · have hgti : ¬ (j2 : Int) < i2 := by omega
        have hlt : i2 < j2 := part_scans_lt lt a i j dk (by omega) HS2.out.1 HS2.out.2 (by omega)
        have HSW : Hid (Row w ((wc.setCell ⟨blk, off + i2, none⟩ (.float .f64 (word (G j2).1))).setCell ⟨blk, off + j2, none⟩ (.float .f64 (word (G i2).1))).drew blk off (swp dk i2 j2)) := hide (by
          have := HR.out.drew.swap hblk i2 j2 (by omega) (by omega)
          rw [HG.out i2, HG.out j2]
          exact this)
        have HE := hide (part_first_go lt d a b pivot HI.out HJ.out HDK.out HS2.out.1 HS2.out.2 hgt)
        go_wp2_with fail
        go_region
        go_wp2_with fail
        clear hcell hfroz
        obtain ⟨i0, hi0⟩ : ∃ i0 : Nat, i0 = i2 + 1 := ⟨_, rfl⟩
        obtain ⟨j0, hj0⟩ : ∃ j0 : Nat, j0 = j2 - 1 := ⟨_, rfl⟩
        obtain ⟨d0, hd0⟩ : ∃ d0, d0 = swp dk i2 j2 := ⟨_, rfl⟩
        rw [← hi0, ← hj0, ← hd0] at HE
        rw [← hd0] at HSW
        have hs0 : d0.size = d.size := by rw [hd0, swp_size]; exact hsk
        clear hd0 HS2 HDK HG
        go_loopw [10, 11] (fun vi vj wx => ∃ (i j : Nat) (dk : Array Sm), vi = .int .i64 i ∧ vj = .int .i64 j ∧ a < i ∧ i ≤ j + 1 ∧ j < b ∧ dk.size = d.size ∧ Hid (Row w wx blk off dk) ∧ Hid (partLoop lt a i j dk = partLoop lt a i0 j0 d0)) (fun vi vj _ => (intOf vj).toNat + 1 - (intOf vi).toNat)
        case atStart => exact ⟨i0, j0, d0, by go_num, by go_num, by omega, by omega, by omega, hs0, HSW, hide rfl⟩
        case round =>
          clear HR HSW hs0 hsk HI HJ hai hij hjb
          obtain ⟨i, j, dk, rfl, rfl, hai, hij, hjb, hsk, HR, HO⟩ := hrel
          obtain ⟨G, hG⟩ : ∃ G : Nat → Sm, ∀ t, G t = dk[t]! := ⟨fun t => dk[t]!, fun _ => rfl⟩
          have HG := hide hG
          clear hG
          go_upto_block 6 with (fail)
          go_cut [10] from 99 to 114 (fun vx wx => ∃ (y : Nat), vx = .int .i64 y ∧ i ≤ y ∧ y ≤ j + 1 ∧ Hid (Row w wx blk off dk) ∧ Hid (y = scanUp (fun x => lt x dk[a]!) dk j i))
          case first =>
            go_wp2_with fail
            go_loopw [10] (fun vx wx => ∃ (y : Nat), vx = .int .i64 y ∧ i ≤ y ∧ y ≤ j + 1 ∧ Hid (Row w wx blk off dk) ∧ Hid (scanUp (fun x => lt x dk[a]!) dk j y = scanUp (fun x => lt x dk[a]!) dk j i)) (fun vx _ => j + 1 - (intOf vx).toNat)
            case atStart => exact ⟨i, rfl, by omega, by omega, HR, hide rfl⟩
            case round =>
              obtain ⟨i', rfl, hb1, hb2, HR1, HS1⟩ := hrel
              have hcell : ∀ t, t < d.size → wr.cell? ⟨blk, off + t, none⟩ = some (.float .f64 (word (G t).1)) := fun t ht => by
                rw [HG.out]; exact HR1.out.cell HH.out hblk hsk t (by omega)
              by_cases hle : i' ≤ j
              · have hlei : (i' : Int) ≤ j := by omega
                go_wp2_with fail
                go_quiet (first | (go_at_call 91; refine Calls.quiet_of_same (less_any _ _ _)))
                go_wp2
                · have ht : lt (G i') (G a) = true := by assumption
                  go_roundw
                  case rel => exact ⟨i' + 1, by go_num, by omega, by omega, hide (HR1.out.drewN nq), hide ((scanUp_go (fun x => lt x dk[a]!) dk j i' hle (by (try simp only []); rw [← HG.out, ← HG.out]; exact ht)).symm.trans HS1.out)⟩
                  case measure => (simp [intOf] <;> omega)
                · have ht : lt (G i') (G a) = false := by assumption
                  go_meet
                  case rel => exact ⟨i', rfl, hb1, hb2, hide (HR1.out.drewN nq), hide ((scanUp_end (fun x => lt x dk[a]!) dk j i' (Or.inr (by (try simp only []); rw [← HG.out, ← HG.out]; exact ht))).symm.trans HS1.out)⟩
              · have hlei : decide ((i' : Int) ≤ j) = false := decide_eq_false (by omega)
                go_wp2_with fail
                go_quiet (first | (go_at_call 91; refine Calls.quiet_of_same (less_any _ _ _)))
                go_wp2
                go_meet
                case rel => exact ⟨i', rfl, hb1, hb2, hide (HR1.out.drewN nq), hide ((scanUp_end (fun x => lt x dk[a]!) dk j i' (Or.inl hle)).symm.trans HS1.out)⟩
          case rest =>
            obtain ⟨i2, rfl, hi2a, hi2b, HR, HSi2⟩ := hcut
            go_upto_block 8 with (fail)
            go_cut [11] from 115 to 131 (fun vx wx => ∃ (y : Nat), vx = .int .i64 y ∧ y ≤ j ∧ i2 ≤ y + 1 ∧ Hid (Row w wx blk off dk) ∧ Hid (y = scanDown (fun x => !lt x dk[a]!) dk i2 j))
            case first =>
              go_wp2_with fail
              go_loopw [11] (fun vx wx => ∃ (y : Nat), vx = .int .i64 y ∧ y ≤ j ∧ i2 ≤ y + 1 ∧ Hid (Row w wx blk off dk) ∧ Hid (scanDown (fun x => !lt x dk[a]!) dk i2 y = scanDown (fun x => !lt x dk[a]!) dk i2 j)) (fun vx _ => (intOf vx).toNat)
              case atStart => exact ⟨j, rfl, by omega, by omega, HR, hide rfl⟩
              case round =>
                obtain ⟨j', rfl, hb1, hb2, HR1, HS1⟩ := hrel
                have hcell : ∀ t, t < d.size → wr.cell? ⟨blk, off + t, none⟩ = some (.float .f64 (word (G t).1)) := fun t ht => by
                  rw [HG.out]; exact HR1.out.cell HH.out hblk hsk t (by omega)
                by_cases hle : i2 ≤ j'
                · have hlei : (i2 : Int) ≤ j' := by omega
                  go_wp2_with fail
                  go_quiet (first | (go_at_call 91; refine Calls.quiet_of_same (less_any _ _ _)))
                  go_wp2
                  · have ht : lt (G j') (G a) = false := by
                      have h0 : (!lt (G j') (G a)) = true := by assumption
                      simpa using h0
                    go_roundw
                    case rel => exact ⟨j' - 1, by go_num, by omega, by omega, hide (HR1.out.drewN nq), hide ((scanDown_go (fun x => !lt x dk[a]!) dk i2 j' hle (by omega) (by (try simp only []); rw [← HG.out, ← HG.out, ht]; rfl)).symm.trans HS1.out)⟩
                    case measure => (simp [intOf] <;> omega)
                  · have ht : lt (G j') (G a) = true := by
                      have h0 : (!lt (G j') (G a)) = false := by assumption
                      simpa using h0
                    go_meet
                    case rel => exact ⟨j', rfl, hb1, hb2, hide (HR1.out.drewN nq), hide ((scanDown_end (fun x => !lt x dk[a]!) dk i2 j' (Or.inr (by (try simp only []); rw [← HG.out, ← HG.out, ht]; rfl))).symm.trans HS1.out)⟩
                · have hlei : decide ((i2 : Int) ≤ j') = false := decide_eq_false (by omega)
                  go_wp2_with fail
                  go_quiet (first | (go_at_call 91; refine Calls.quiet_of_same (less_any _ _ _)))
                  go_wp2
                  go_meet
                  case rel => exact ⟨j', rfl, hb1, hb2, hide (HR1.out.drewN nq), hide ((scanDown_end (fun x => !lt x dk[a]!) dk i2 j' (Or.inl hle)).symm.trans HS1.out)⟩
            case rest =>
              obtain ⟨j2, rfl, hj2a, hj2b, HR, HSj2⟩ := hcut
              have HS2 : Hid (i2 = scanUp (fun x => lt x dk[a]!) dk j i ∧ j2 = scanDown (fun x => !lt x dk[a]!) dk i2 j) := hide ⟨HSi2.out, HSj2.out⟩
              clear HSi2 HSj2
              have hcell : ∀ t, t < d.size → wc.cell? ⟨blk, off + t, none⟩ = some (.float .f64 (word (G t).1)) := fun t ht => by
                rw [HG.out]; exact HR.out.cell HH.out hblk hsk t (by omega)
              have hfroz : ∀ t, t < d.size → wc.frozen? ⟨blk, off + t, none⟩ = false := fun t ht => HR.out.frozen HH.out hblk hsk t (by omega)
              by_cases hgt : j2 < i2
              · have hgti : (j2 : Int) < i2 := by omega
                obtain ⟨va, hva⟩ := cell?_setCell_some (w := wc) (p := ⟨blk, off + j2, none⟩) (x := .float .f64 (word (G a).1)) (q := ⟨blk, off + a, none⟩) (hcell a (by omega))
                have HSW : Hid (Row w ((wc.setCell ⟨blk, off + j2, none⟩ (.float .f64 (word (G a).1))).setCell ⟨blk, off + a, none⟩ (.float .f64 (word (G j2).1))).drew blk off (swp dk j2 a)) := hide (by
                  have := HR.out.drew.swap hblk j2 a (by omega) (by omega)
                  rw [HG.out j2, HG.out a]
                  exact this)
                go_wp2_with fail
                go_region
                go_wp2_with fail
                go_ret2
                have e : partLoop lt a i0 j0 d0 = (j2, dk) := by rw [← HO.out]; exact part_break lt a i j dk HS2.out.1 HS2.out.2 hgt
                have e2 := HE.out
                rw [e] at e2
                exact ⟨by rw [e2]; rfl, by rw [e2]; exact HSW.out⟩
              · have hgti : ¬ (j2 : Int) < i2 := by omega
                have hlt : i2 < j2 := part_scans_lt lt a i j dk (by omega) HS2.out.1 HS2.out.2 (by omega)
                have HSW : Hid (Row w ((wc.setCell ⟨blk, off + i2, none⟩ (.float .f64 (word (G j2).1))).setCell ⟨blk, off + j2, none⟩ (.float .f64 (word (G i2).1))).drew blk off (swp dk i2 j2)) := hide (by
                  have := HR.out.drew.swap hblk i2 j2 (by omega) (by omega)
                  rw [HG.out i2, HG.out j2]
                  exact this)
                go_wp2_with fail
                go_region
                go_wp2_with fail
                go_roundw
                case rel => exact ⟨i2 + 1, j2 - 1, swp dk i2 j2, by go_num, by go_num, by omega, by omega, by omega, by rw [swp_size]; exact hsk, HSW, hide (by rw [← HO.out, part_go lt a i j dk HS2.out.1 HS2.out.2 (by omega)])⟩
                case measure => (simp [intOf] <;> omega)
end Go.Proofs.YtjcnnjknhemimaaGreatDoor
