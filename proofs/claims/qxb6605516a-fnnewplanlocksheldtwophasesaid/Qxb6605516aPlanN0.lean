import Derived.Test.Qxb6605516aPlanN1
import Derived.Test.Qxb6605516aPlanN2
import Derived.Test.Qxb6605516aPlanY
namespace Go.Proofs.Qxb6605516a
open Go.RowKit
set_option linter.unusedVariables false

set_option maxRecDepth 100000 in
set_option maxHeartbeats 8000000 in
theorem newplan_any (bh n nt ni : Nat) (K T X : Nat → Int) (ha : Option Addr) (hc : Nat) (ta : Option Addr) (tc : Nat) (ia : Option Addr) (ic : Nat) (l : ByteArray) (v : Int) (b : Bool) (w : World) (hn : n ≤ 4096) (hnt : nt ≤ 4096) (hni : ni ≤ 4096)
    (hv : (v == 3) = b) (hd : Dom n nt ni K T X v) (hh : Hist w bh n nt ni K T X ha hc ta tc ia ic l) :
    Calls Try.prog 38 #[.pointer (some ⟨bh, 0, none⟩), .int .u8 v] w fun e w' => ∃ pl md af nx cl cf M A N CI CM CF len, e = .returned (.pointer (some ⟨pl, 0, none⟩)) ∧ PlanOut w w' v n nt K T X pl md af nx cl cf M A N CI CM CF len := by
  have HD := hide hd
  have HH := hide hh
  obtain ⟨c0, c1, c2⟩ := hh.cells
  have lh := hh.blk.lt
  clear hd hh
  have hmd := make_mode n hn
  have hmk := make_i32 n (by omega)
  have hmi := make_i32 ni (by omega)
  have Hb : Hid (b = true ↔ v = 3) := by unfold Hid; rw [← hv]; simp
  go_enter Try.func38, Try.ntmps38
  go_wp2
  go_cut [5] (fun s w' => ∃ pl md af nx, s = .pointer (some ⟨pl, 0, none⟩) ∧ Pl0 w w' pl md af nx n)
  case first =>
    go_region_held3 (fun w' => w'.cell? ⟨bh, 0, none⟩ = some (.slice ha n hc) ∧ bh < w'.heap.size)
      (first | (simp [*, go_sem, World.cell?_alloc_past]; done) | (apply addS <;> assumption) | (apply addA; assumption))
      (first | (go_at_call 42; refine (filled_any n (by omega) _).mono ?_; rintro e w' h; have h' := Add.ofNew h; obtain ⟨rfl, _, _, _⟩ := h))
    all_goals (go_step; go_step; go_meet)
    case rel => exact ⟨_, _, _, _, rfl, pl0_A (by assumption) (by assumption)⟩
    case rel => exact ⟨_, _, _, _, rfl, pl0_B (by assumption) (by assumption)⟩
    case rel => exact ⟨_, _, _, _, rfl, pl0_C (by assumption) (by assumption)⟩
  obtain ⟨pl, md, af, nx, rfl, hP0⟩ := hcut
  have HP0 := hide hP0
  clear hP0 hmd c0 c1 c2
  as_aux_lemma =>
    go_step; go_step
    go_cut [6] (fun c w' => c = .bool b ∧ w' = wc)
    case first =>
      as_aux_lemma =>
        go_wp2
        go_meet
        case rel => exact ⟨rfl, rfl⟩
    obtain ⟨rfl, rfl⟩ := hcut
    clear hv
    go_step; go_step
    go_cut [] (fun w' => ∃ cl cf, Pl1 w w' v n nt pl md af nx cl cf)
    case first =>
      cases b
      · have e3 : ¬ v = 3 := fun e => by have := Hb.out.2 e; simp at this
        have E3 := hide e3
        clear e3
        as_aux_lemma =>
          go_wp2
          go_meet
          case rel => exact ⟨0, 0, Pl1.of0 HP0.out E3.out⟩
      · have e3 : v = 3 := Hb.out.1 rfl
        have E3 := hide e3
        clear e3
        have hcl := make_claims n hn
        have hcf : ∀ w : World, (Instr.makeSlice 35 (.int .i64 ((nt : Int) + 1)) (.int .i64 ((nt : Int) + 1))).run Try.prog w = .ok (.slice (some ⟨w.heap.size, 0, none⟩) (nt + 1) (nt + 1)) (w.alloc (.cells (madeCells #[.int .i32 0] (nt + 1)) 21)) := fun w => make_i32 (nt + 1) (by omega) w
        obtain ⟨k0, k1, k2⟩ := (HH.out.below HP0.out.bel).cells
        have lh' : bh < wc.heap.size := Nat.lt_of_lt_of_le lh HP0.out.bel.size
        have p3 : wc.cell? ⟨pl, 3, none⟩ = some (.slice none 0 0) := HP0.out.bpl.cell 3
        have p4 : wc.cell? ⟨pl, 4, none⟩ = some (.slice none 0 0) := HP0.out.bpl.cell 4
        have pf := HP0.out.bpl.free
        have plt := HP0.out.bpl.lt
        have pne : pl ≠ bh := by have := HP0.out.new; omega
        have pne' := pne.symm
        as_aux_lemma =>
          go_wp2
          go_meet
          case rel => first | exact ⟨_, _, pl1_3 HP0.out E3.out⟩ | exact ⟨_, _, pl1_3' HP0.out E3.out⟩
    obtain ⟨cl0, cf0, hP1⟩ := hcut
    have HP1 := hide hP1
    have hb0 := hP1.bel
    have sz0 := hP1.bel.size
    clear hP1 HP0
    as_aux_lemma =>
      obtain ⟨k0, k1, k2⟩ := (HH.out.below hb0).cells
      have lh' : bh < wc.heap.size := by omega
      have Hb0 := hide hb0
      clear hb0
      go_wp2
      go_cut [7, 8] (fun s1 s2 w' => ∃ fi la, s1 = .slice (some ⟨fi, 0, none⟩) nt nt ∧ s2 = .slice (some ⟨la, 0, none⟩) n n ∧ NP1 w w' v n nt pl md af nx fi la cl0 cf0 minus (fun _ => 0))
      case first =>
        go_region_held3 (fun w' => (w'.cell? ⟨bh, 1, none⟩ = some (.slice ta nt tc) ∧ bh < w'.heap.size) ∧ (w'.cell? ⟨bh, 0, none⟩ = some (.slice ha n hc) ∧ bh < w'.heap.size))
          (first | (simp [*, go_sem, World.cell?_alloc_past]; done) | (apply addS2 <;> assumption) | (apply addA2; assumption))
          (first | (go_at_call 42; refine (filled_any nt (by omega) _).mono ?_; rintro e w' h; have h' := Add.ofNew h; obtain ⟨rfl, _, _, _⟩ := h))
        all_goals (go_step; go_step; go_meet)
        case rel =>
          obtain ⟨b1, b2, bl⟩ := two_A (b := n) (by assumption : Add wc.drew _ (irow .i32 nt minus) 21)
          exact ⟨_, _, rfl, rfl, np1_mk HP1.out b1 b2 (by omega) (by omega) (by omega) bl⟩
        case rel =>
          obtain ⟨b1, b2, bl⟩ := two_B (b := n) (by assumption : Add (wc.alloc _).drew _ (irow .i32 nt minus) 21)
          exact ⟨_, _, rfl, rfl, np1_mk HP1.out b1 b2 (by omega) (by omega) (by omega) bl⟩
      clear HP1 k0 k1 k2 Hb0 lh' sz0
      obtain ⟨fi, la, rfl, rfl, hN1⟩ := hcut
      have HN1 := hide hN1
      obtain ⟨k0, k1, k2⟩ := (HH.out.below hN1.bel).cells
      clear hN1 hmk
      as_aux_lemma =>
        go_wp2
        clear k0 k1 k2
        refine np_1 hn hnt hni HD.out HH.out HN1.out ?_
        intros
        rename_i F L w2 hRT
        have HN := hide hRT.mem
        have HT := hide hRT.thr
        clear hRT HN1
        have HH' := HH.out.below HN.out.bel
        obtain ⟨k0, k1, k2⟩ := HH'.cells
        clear HH'
        go_step
        go_wp2
        have lbh : bh < w2.heap.size := Nat.lt_of_lt_of_le lh HN.out.bel.size
        go_cut [11, 12] (fun s1 s2 w' => ∃ fo lo cl cf, s1 = .slice (some ⟨fo, 0, none⟩) ni ni ∧ s2 = .slice (some ⟨lo, 0, none⟩) ni ni ∧ NP w w' v n nt ni pl md af nx fi la fo lo cl cf (fun _ => 0) minus minus F L minus (fun _ => 0) (fun _ => 0) (fun _ => 0) (fun _ => 0) 0)
        case first =>
          go_region_held3 (fun w' => w'.cell? ⟨bh, 2, none⟩ = some (.slice ia ni ic) ∧ bh < w'.heap.size)
            (first | (simp [*, go_sem, World.cell?_alloc_past]; done) | (apply addS <;> assumption) | (apply addA; assumption))
            (first | (go_at_call 42; refine (filled_any ni (by omega) _).mono ?_; rintro e w' h; have h' := Add.ofNew h; obtain ⟨rfl, _, _, _⟩ := h))
          all_goals (go_step; go_step; go_meet)
          case rel =>
            obtain ⟨b1, b2, bl⟩ := two_A (b := ni) (by assumption : Add w2.drew _ (irow .i32 ni minus) 21)
            obtain ⟨cl, cf, _, hnp⟩ := np_mk HN.out b1 b2 (by omega) (by omega) (by omega) bl
            exact ⟨_, _, cl, cf, rfl, rfl, hnp⟩
          case rel =>
            obtain ⟨b1, b2, bl⟩ := two_B (b := ni) (by assumption : Add (w2.alloc _).drew _ (irow .i32 ni minus) 21)
            obtain ⟨cl, cf, _, hnp⟩ := np_mk HN.out b1 b2 (by omega) (by omega) (by omega) bl
            exact ⟨_, _, cl, cf, rfl, rfl, hnp⟩
        clear k0 k1 k2 HN lbh hmi
        obtain ⟨fo, lo, cl, cf, rfl, rfl, hNP⟩ := hcut
        have HNP := hide hNP
        obtain ⟨k0, k1, k2⟩ := (HH.out.below hNP.bel).cells
        clear hNP
        as_aux_lemma =>
          go_wp2
          clear k0 k1 k2
          refine np_2 hn hnt hni HD.out HH.out Hb.out HT.out HNP.out ?_
          intros
          rename_i M A N FO LO CI CM CF len w9 hR2
          have HR2 := hide hR2
          clear hR2
          as_aux_lemma =>
            go_step
            go_wp2
            go_ret
            exact ⟨_, _, _, _, _, _, _, _, _, _, _, _, _, rfl, r2_out HD.out HR2.out⟩
theorem npc : NPC := by
  intro bh n nt ni K T X ha hc ta tc ia ic l v w hn hnt hni hd hh
  exact newplan_any bh n nt ni K T X ha hc ta tc ia ic l v _ w hn hnt hni rfl hd hh
end Go.Proofs.Qxb6605516a
