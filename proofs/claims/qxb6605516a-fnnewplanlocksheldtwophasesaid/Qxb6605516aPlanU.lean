import Derived.Test.Qxb6605516aPlanE
import Derived.Test.Qxb6605516aPlanS
namespace Go.Proofs.Qxb6605516a
open Go.RowKit
set_option linter.unusedVariables false

theorem info_int : (Try.prog.info? 3).map (fun i => (i.zero, i.size, i.bytes)) = some (some (.int .i64 0), 1, 8) := by kernel_rfl
theorem make_int (n : Nat) (h : n ≤ 4096) (w : World) : (Instr.makeSlice 98 (.int .i64 (n : Int)) (.int .i64 (n : Int))).run Try.prog w = .ok (.slice (some ⟨w.heap.size, 0, none⟩) n n) (w.alloc (.cells (madeCells #[.int .i64 0] n) 3)) :=
  run_make_row' 98 3 (.int .i64 0) 8 Try.underlying98 info_int rfl .i64 .i64 n (by omega) (by omega) w

/-- Each transaction's first end ahead of m, or n. -/
def Ends (K T : Nat → Int) (n nt m : Nat) (E : Nat → Int) : Prop := ∀ τ : Nat, τ < nt → (E τ = n ∧ ∀ q, q < m → ¬ ((K q = 3 ∨ K q = 4) ∧ T q = τ)) ∨ ∃ q : Nat, E τ = q ∧ q < m ∧ (K q = 3 ∨ K q = 4) ∧ T q = τ ∧ ∀ r, r < q → ¬ ((K r = 3 ∨ K r = 4) ∧ T r = τ)
theorem Ends.skip {K T : Nat → Int} {n nt m : Nat} {E : Nat → Int} (h : Ends K T n nt m E) (hk : ¬ (K m = 3 ∨ K m = 4)) : Ends K T n nt (m + 1) E := by
  intro τ hτ
  rcases h τ hτ with ⟨h1, h2⟩ | ⟨q, h1, h2, h3⟩
  · refine .inl ⟨h1, fun q hq hh => ?_⟩
    by_cases e : q = m
    · subst e; exact hk hh.1
    · exact h2 q (by omega) hh
  · exact .inr ⟨q, h1, by omega, h3⟩
theorem Ends.seen {K T : Nat → Int} {n nt m t : Nat} {E : Nat → Int} (h : Ends K T n nt m E) (hm : m < n) (ht : T m = t) (htn : t < nt) (he : ¬ (m : Int) < E t) : Ends K T n nt (m + 1) E := by
  intro τ hτ
  rcases h τ hτ with ⟨h1, h2⟩ | ⟨q, h1, h2, h3⟩
  · refine .inl ⟨h1, fun q hq hh => ?_⟩
    by_cases e : q = m
    · subst e
      have : τ = t := by omega
      subst this
      omega
    · exact h2 q (by omega) hh
  · exact .inr ⟨q, h1, by omega, h3⟩
theorem Ends.set {K T : Nat → Int} {n nt m t : Nat} {E : Nat → Int} (h : Ends K T n nt m E) (hm : m < n) (hk : K m = 3 ∨ K m = 4) (ht : T m = t) (htn : t < nt) (he : (m : Int) < E t) : Ends K T n nt (m + 1) (upd E t m) := by
  intro τ hτ
  by_cases e : τ = t
  · subst e
    rw [upd_same]
    refine .inr ⟨m, rfl, by omega, hk, ht, fun r hr => ?_⟩
    rcases h τ hτ with ⟨h1, h2⟩ | ⟨q, h1, h2, h3⟩
    · exact h2 r hr
    · omega
  · rw [upd_other _ _ _ _ e]
    rcases h τ hτ with ⟨h1, h2⟩ | ⟨q, h1, h2, h3⟩
    · refine .inl ⟨h1, fun q hq hh => ?_⟩
      by_cases e2 : q = m
      · subst e2; omega
      · exact h2 q (by omega) hh
    · exact .inr ⟨q, h1, by omega, h3⟩
theorem Ends.run {K T : Nat → Int} {n nt p t : Nat} {E : Nat → Int} (h : Ends K T n nt n E) (hp : p < n) (hk : K p = 1 ∨ K p = 2) (ht : T p = t) (htn : t < nt) : Run K T n p ↔ (p : Int) < E t := by
  unfold Run
  rw [ht]
  rcases h t htn with ⟨h1, h2⟩ | ⟨q, h1, h2, h3, h4, h5⟩
  · exact ⟨fun _ => by omega, fun _ => ⟨hp, hk, fun r hr => h2 r (by omega)⟩⟩
  · constructor
    · rintro ⟨-, -, h6⟩
      by_cases hq : q < p
      · exact absurd ⟨h3, h4⟩ (h6 q hq)
      · have : q ≠ p := by rintro rfl; omega
        omega
    · exact fun h6 => ⟨hp, hk, fun r hr => h5 r (by omega)⟩
/-- What the law keeps for a place: its first touch, or -1. -/
def FoIs (K T X : Nat → Int) (n p : Nat) (g : Int) : Prop := (g = -1 ∧ ¬ Run K T n p) ∨ ∃ f : Nat, g = f ∧ Tch K T X n f p
theorem FoIs.run {K T X : Nat → Int} {n p : Nat} {g : Int} (h : FoIs K T X n p g) : Run K T n p ↔ 0 ≤ g := by
  rcases h with ⟨rfl, h⟩ | ⟨f, rfl, h⟩
  · exact ⟨fun h' => absurd h' h, fun h => by omega⟩
  · exact ⟨fun _ => by omega, fun _ => h.1⟩
theorem tch_least {K T X : Nat → Int} {n p q : Nat} (hp : Run K T n p) (hq : Run K T n q) (ht : T q = T p) (hx : X q = X p) (h : ∀ r, r < q → ¬ (Run K T n r ∧ T r = T p ∧ X r = X p)) : Tch K T X n q p :=
  ⟨hp, ⟨hq, fun r hr hh => h r hr ⟨hh.1, hh.2.1.trans ht, hh.2.2.trans hx⟩⟩, ht.symm, hx.symm⟩

structure PR1 (w : World) (n nt be : Nat) (s : Value) (wr : World) (t : Nat) (E : Nat → Int) : Prop where
  ht : t ≤ nt
  s : s = .int .i64 t
  b : Blk wr be (irow .i64 nt E) 3
  bel : Below w.heap.size w wr
  sz : wr.heap.size = w.heap.size + 1
  e : ∀ τ, τ < t → E τ = n
structure PR2 (w : World) (n nt be : Nat) (K T : Nat → Int) (s : Value) (wr : World) (p : Nat) (E : Nat → Int) : Prop where
  hp : p ≤ n
  s : s = .int .i64 p
  b : Blk wr be (irow .i64 nt E) 3
  bel : Below w.heap.size w wr
  sz : wr.heap.size = w.heap.size + 1
  e : Ends K T n nt p E
structure PM (w wr : World) (n nt be bf : Nat) (E G : Nat → Int) : Prop where
  kb : Blk wr be (irow .i64 nt E) 3
  kf : Blk wr bf (irow .i32 n G) 21
  ne : be ≠ bf
  new : w.heap.size ≤ be ∧ w.heap.size ≤ bf
  bel : Below w.heap.size w wr
theorem PM.set {w wr : World} {n nt be bf : Nat} {E G : Nat → Int} (h : PM w wr n nt be bf E G) (c : Nat) (x : Int) : PM w (wr.setCell ⟨bf, c, none⟩ (.int .i32 x)) n nt be bf E (upd G c x) :=
  ⟨h.kb.setOther h.ne _, h.kf.rset c x, h.ne, h.new, h.bel.setCell (by have := h.new; simp; omega) _⟩
theorem PM.drewN {w wr : World} {n nt be bf : Nat} {E G : Nat → Int} (h : PM w wr n nt be bf E G) (k : Nat) : PM w (wr.drewN k) n nt be bf E G := ⟨h.kb, h.kf, h.ne, h.new, below_drewN h.bel k⟩
structure PR3 (w : World) (n nt be bf : Nat) (K T X E : Nat → Int) (s : Value) (wr : World) (p : Nat) (G : Nat → Int) : Prop where
  hp : p ≤ n
  s : s = .int .i64 p
  m : PM w wr n nt be bf E G
  g : ∀ q, q < p → FoIs K T X n q (G q)
structure PR4 (w : World) (n nt be bf : Nat) (K T X E G : Nat → Int) (p : Nat) (s : Value) (wr : World) (q : Nat) : Prop where
  hq : q ≤ p
  s : s = .int .i64 q
  m : PM w wr n nt be bf E G
  no : ∀ r, r < q → ¬ (Run K T n r ∧ T r = T p ∧ X r = X p)
/-- What planRunFirst hands back. -/
structure FoRow (w w' : World) (e : Ending) (K T X : Nat → Int) (n : Nat) (G : Nat → Int) : Prop where
  at_ : ∃ bf, e = .returned (.slice (some ⟨bf, 0, none⟩) n n) ∧ w.heap.size ≤ bf ∧ Blk w' bf (irow .i32 n G) 21
  bel : Below w.heap.size w w'
  g : ∀ q, q < n → FoIs K T X n q (G q)

theorem no_next {K T X : Nat → Int} {n p q : Nat} (h : ∀ r, r < q → ¬ (Run K T n r ∧ T r = T p ∧ X r = X p)) (hq : ¬ (Run K T n q ∧ T q = T p ∧ X q = X p)) : ∀ r, r < q + 1 → ¬ (Run K T n r ∧ T r = T p ∧ X r = X p) := by
  intro r hr
  by_cases e : r = q
  · subst e; exact hq
  · exact h r (by omega)
theorem fo_set {K T X G : Nat → Int} {n q f : Nat} (h : ∀ r, r < q → FoIs K T X n r (G r)) (hf : Tch K T X n f q) : ∀ r, r < q + 1 → FoIs K T X n r (upd (upd G q (-1)) q f r) := by
  intro r hr
  by_cases e : r = q
  · subst e; rw [upd_same]; exact .inr ⟨f, rfl, hf⟩
  · rw [upd_other _ _ _ _ e, upd_other _ _ _ _ e]; exact h r (by omega)
theorem fo_no {K T X G : Nat → Int} {n q : Nat} (h : ∀ r, r < q → FoIs K T X n r (G r)) (hf : ¬ Run K T n q) : ∀ r, r < q + 1 → FoIs K T X n r (upd G q (-1) r) := by
  intro r hr
  by_cases e : r = q
  · subst e; rw [upd_same]; exact .inl ⟨rfl, hf⟩
  · rw [upd_other _ _ _ _ e]; exact h r (by omega)

set_option maxRecDepth 4000 in
set_option maxHeartbeats 4000000 in
theorem runfirst_any (a : Option Addr) (n c nt ni : Nat) (K T X : Nat → Int) (v : Int) (w : World) (hn : n ≤ 4096) (hnt : nt ≤ 4096) (hd : Dom n nt ni K T X v) (hs : SlA w a n 3 (opCell K T X)) :
    Calls Try.prog 16 #[.slice a n c, .int .i64 nt] w fun e w' => ∃ G, FoRow w w' e K T X n G := by
  have HS := hide hs
  have HD := hide hd
  have hmi := make_int nt hnt
  have hmk := make_i32 n (by omega)
  clear hs hd
  go_enter Try.func16, Try.ntmps16
  go_wp2
  clear hmi
  go_loopw [7] (fun s wr => ∃ (t : Nat) (E : Nat → Int), PR1 w n nt w.heap.size s wr t E) (fun s _ => nt - (intOf s).toNat)
  case atStart => exact ⟨0, _, by omega, rfl, Blk.made _ _ _ _, (Below.refl _ _).alloc (Nat.le_refl _) _, alloc_size _ _, fun τ h => by omega⟩
  case round =>
    obtain ⟨t, E, hR⟩ := hrel
    have HR := hide hR
    obtain rfl := hR.s
    have ht := hR.ht
    clear hR
    by_cases hlt : t < nt
    · have q1 := HR.out.b.rcell t hlt
      have q2 := HR.out.b.free
      as_aux_lemma =>
        go_wp2
        go_roundw
        case rel =>
          refine ⟨t + 1, upd E t n, by omega, rfl, HR.out.b.rset t n, HR.out.bel.setCell (by simp) _, by simp [World.setCell]; exact HR.out.sz, fun τ h => ?_⟩
          by_cases e : τ = t
          · subst e; exact upd_same _ _ _
          · rw [upd_other _ _ _ _ e]; exact HR.out.e τ (by omega)
        case measure => simp [intOf]; omega
    · obtain rfl : t = nt := by omega
      clear hlt ht
      go_wp2
      go_loopw [8] (fun s wr => ∃ (p : Nat) (E : Nat → Int), PR2 w n t w.heap.size K T s wr p E) (fun s _ => n - (intOf s).toNat)
      case atStart => exact ⟨0, E, by omega, rfl, HR.out.b, HR.out.bel, HR.out.sz, fun τ h => .inl ⟨HR.out.e τ h, fun q h => by omega⟩⟩
      case round =>
        obtain ⟨p, E, hR⟩ := hrel
        clear HR
        have HR := hide hR
        obtain rfl := hR.s
        have hp := hR.hp
        clear hR
        by_cases hlt : p < n
        · rcases HS.out.below HR.out.bel with h0 | ⟨bo, off, rfl, hbl, hcl⟩
          · omega
          have c0 := hcl (p * 3) (by omega)
          have c1 := hcl (p * 3 + 1) (by omega)
          rw [opCell0] at c0
          rw [opCell1, ← Nat.add_assoc] at c1
          clear hcl hbl
          by_cases hk : K p = 3 ∨ K p = 4
          · have hde := HD.out.en p hlt hk
            obtain ⟨τ, hτ⟩ := Int.eq_ofNat_of_zero_le hde.1
            have hτn : τ < t := by omega
            rw [hτ] at c1
            have Hτ := hide hτ
            have Hk := hide hk
            clear hτ hde
            have q1 := HR.out.b.rcell τ hτn
            have q2 := HR.out.b.free
            obtain ⟨x, hx⟩ : ∃ x, E τ = x := ⟨_, rfl⟩
            rw [hx] at q1
            have HX := hide hx
            clear hx
            by_cases hxp : (p : Int) < x
            · rcases hk with hk | hk
              · rw [hk] at c0
                clear hk
                as_aux_lemma =>
                  go_wp2
                  go_roundw
                  case rel => exact ⟨p + 1, _, by omega, rfl, HR.out.b.rset τ p, HR.out.bel.setCell (by simp) _, by simp [World.setCell]; exact HR.out.sz, HR.out.e.set hlt Hk.out Hτ.out hτn (by rw [HX.out]; exact hxp)⟩
                  case measure => simp [intOf]; omega
              · rw [hk] at c0
                clear hk
                as_aux_lemma =>
                  go_wp2
                  go_roundw
                  case rel => exact ⟨p + 1, _, by omega, rfl, HR.out.b.rset τ p, HR.out.bel.setCell (by simp) _, by simp [World.setCell]; exact HR.out.sz, HR.out.e.set hlt Hk.out Hτ.out hτn (by rw [HX.out]; exact hxp)⟩
                  case measure => simp [intOf]; omega
            · rcases hk with hk | hk
              · rw [hk] at c0
                clear hk
                as_aux_lemma =>
                  go_wp2
                  go_roundw
                  case rel => exact ⟨p + 1, _, by omega, rfl, HR.out.b, HR.out.bel, HR.out.sz, HR.out.e.seen hlt Hτ.out hτn (by rw [HX.out]; exact hxp)⟩
                  case measure => simp [intOf]; omega
              · rw [hk] at c0
                clear hk
                as_aux_lemma =>
                  go_wp2
                  go_roundw
                  case rel => exact ⟨p + 1, _, by omega, rfl, HR.out.b, HR.out.bel, HR.out.sz, HR.out.e.seen hlt Hτ.out hτn (by rw [HX.out]; exact hxp)⟩
                  case measure => simp [intOf]; omega
          · have e1 : (K p == 3) = false := by simp; omega
            have e2 : (K p == 4) = false := by simp; omega
            have Hk := hide hk
            clear hk
            as_aux_lemma =>
              go_wp2
              go_roundw
              case rel => exact ⟨p + 1, _, by omega, rfl, HR.out.b, HR.out.bel, HR.out.sz, HR.out.e.skip Hk.out⟩
              case measure => simp [intOf]; omega
        · obtain rfl : p = n := by omega
          clear hlt hp
          have HE := hide HR.out.e
          go_wp2
          clear hmk
          rw [HR.out.sz]
          go_loopw [11] (fun s wr => ∃ (q : Nat) (G : Nat → Int), PR3 w p t w.heap.size (w.heap.size + 1) K T X E s wr q G) (fun s _ => p - (intOf s).toNat)
          case atStart =>
            refine ⟨0, fun _ => 0, by omega, rfl, ⟨HR.out.b.alloc _, ?_, by omega, by omega, HR.out.bel.alloc HR.out.bel.size _⟩, fun q h => by omega⟩
            have q := Blk.made wr .i32 p 21
            rw [HR.out.sz] at q
            exact q
          case round =>
            obtain ⟨q, G, hR3⟩ := hrel
            have HR3 := hide hR3
            obtain rfl := hR3.s
            have hq := hR3.hp
            clear hR3
            by_cases hlt : q < p
            · have q1 := HR3.out.m.kf.rcell q hlt
              have q2 := HR3.out.m.kf.free
              rcases HS.out with h0 | ⟨bo, off, rfl, hbl, hcl⟩
              · omega
              have HC := hide hcl
              clear hcl
              go_upto_region 17 with fail
              go_cut [] (fun w' => PM w w' p t w.heap.size (w.heap.size + 1) E (upd G q (-1)))
              case first =>
                as_aux_lemma =>
                  go_wp2
                  go_meet
                  case rel => exact HR3.out.m.set q (-1)
              have HM := hide hcut
              have HG := hide HR3.out.g
              clear hcut q1 q2 HR3
              have cell : ∀ c, c < p * 3 → wc.cell? ⟨bo, off + c, none⟩ = some (opCell K T X c) := fun c hc => by
                rw [HM.out.bel.cell hbl]; exact HC.out c hc
              have c0 := cell (q * 3) (by omega)
              have c1 := cell (q * 3 + 1) (by omega)
              rw [opCell0] at c0
              rw [opCell1, ← Nat.add_assoc] at c1
              clear cell
              go_upto_region 19 with fail
              go_cut [96] (fun c w' => (∃ k : Bool, c = .bool k ∧ (k = true ↔ ¬ Run K T p q)) ∧ w' = wc)
              case first =>
                by_cases hk : K q = 1 ∨ K q = 2
                · have hdr := HD.out.rw q hlt hk
                  obtain ⟨τ, hτ⟩ := Int.eq_ofNat_of_zero_le hdr.1
                  have hτn : τ < t := by omega
                  have Hrun := hide (HE.out.run hlt hk hτ hτn)
                  rw [hτ] at c1
                  clear hτ hdr
                  have q1 := HM.out.kb.rcell τ hτn
                  obtain ⟨x, hx⟩ : ∃ x, E τ = x := ⟨_, rfl⟩
                  rw [hx] at q1 Hrun
                  clear hx
                  rcases hk with hk | hk
                  · have e1 : (K q != 1) = false := by simp [hk]
                    clear hk
                    as_aux_lemma =>
                      go_wp2
                      go_meet
                      case rel => exact ⟨⟨_, rfl, by rw [Hrun.out]; simp⟩, rfl⟩
                  · have e1 : (K q != 1) = true := by simp [hk]
                    have e2 : (K q != 2) = false := by simp [hk]
                    clear hk
                    as_aux_lemma =>
                      go_wp2
                      go_meet
                      case rel => exact ⟨⟨_, rfl, by rw [Hrun.out]; simp⟩, rfl⟩
                · have e1 : (K q != 1) = true := by simp; omega
                  have e2 : (K q != 2) = true := by simp; omega
                  have Hk := hide hk
                  clear hk
                  as_aux_lemma =>
                    go_wp2
                    go_meet
                    case rel => exact ⟨⟨_, rfl, by simp; exact fun h => Hk.out h.2.1⟩, rfl⟩
              obtain ⟨⟨k, rfl, hk⟩, rfl⟩ := hcut
              have Hk := hide hk
              clear hk c0 c1
              cases k
              · have hrun : Run K T p q := by
                  by_cases h : Run K T p q
                  · exact h
                  · have := Hk.out.2 h; simp at this
                have HRun := hide hrun
                clear hrun Hk
                go_wp2
                go_loopw [13, 14] (fun s1 s2 wr => ∃ r : Nat, s1 = .int .i64 q ∧ PR4 w p t w.heap.size (w.heap.size + 1) K T X E (upd G q (-1)) q s2 wr r) (fun _ s _ => q - (intOf s).toNat)
                case atStart => exact ⟨0, rfl, by omega, rfl, HM.out, fun r h => by omega⟩
                case round =>
                  obtain ⟨r, rfl, hR4⟩ := hrel
                  have HR4 := hide hR4
                  obtain rfl := hR4.s
                  have hrq := hR4.hq
                  clear hR4 HM
                  by_cases hr : r < q
                  · have d0 := HR4.out.m.kf.rcell r (by omega)
                    rw [upd_other _ _ _ _ (by omega)] at d0
                    have cell : ∀ c, c < p * 3 → wr.cell? ⟨bo, off + c, none⟩ = some (opCell K T X c) := fun c hc => by
                      rw [HR4.out.m.bel.cell hbl]; exact HC.out c hc
                    have c1 := cell (q * 3 + 1) (by omega)
                    have c2 := cell (q * 3 + 2) (by omega)
                    have d1 := cell (r * 3 + 1) (by omega)
                    have d2 := cell (r * 3 + 2) (by omega)
                    rw [opCell1, ← Nat.add_assoc] at c1 d1
                    rw [opCell2, ← Nat.add_assoc] at c2 d2
                    clear cell
                    have HF := hide (HG.out r hr).run
                    obtain ⟨g, hg⟩ : ∃ g, G r = g := ⟨_, rfl⟩
                    rw [hg] at d0 HF
                    clear hg
                    by_cases hg0 : 0 ≤ g
                    · by_cases hT : T r = T q
                      · have eT : (T r == T q) = true := by simpa using hT
                        have HT := hide hT
                        clear hT
                        by_cases hX : X r = X q
                        · have eX : (X r == X q) = true := by simpa using hX
                          have HXq := hide hX
                          clear hX
                          have Htch := hide (tch_least HRun.out (HF.out.2 hg0) HT.out HXq.out HR4.out.no)
                          have m1 := HR4.out.m.kf.rcell q hlt
                          have m2 := HR4.out.m.kf.free
                          as_aux_lemma =>
                            go_wp2
                            go_quiet (fail)
                            go_wp2
                            go_roundw
                            case rel => exact ⟨q + 1, _, by omega, rfl, (HR4.out.m.drewN _).set q r, fo_set HG.out Htch.out⟩
                            case measure => simp [intOf]; omega
                        · have eX : (X r == X q) = false := by simpa using hX
                          have HXq := hide hX
                          clear hX
                          as_aux_lemma =>
                            go_wp2
                            go_quiet (fail)
                            go_wp2
                            go_roundw
                            case rel => exact ⟨r + 1, rfl, by omega, rfl, HR4.out.m.drewN _, no_next HR4.out.no (fun h => HXq.out h.2.2)⟩
                            case measure => simp [intOf]; omega
                      · have eT : (T r == T q) = false := by simpa using hT
                        have HT := hide hT
                        clear hT
                        as_aux_lemma =>
                          go_wp2
                          go_quiet (fail)
                          go_wp2
                          go_roundw
                          case rel => exact ⟨r + 1, rfl, by omega, rfl, HR4.out.m.drewN _, no_next HR4.out.no (fun h => HT.out h.2.1)⟩
                          case measure => simp [intOf]; omega
                    · have eg : decide (0 ≤ g) = false := decide_eq_false hg0
                      as_aux_lemma =>
                        go_wp2
                        go_quiet (fail)
                        go_wp2
                        go_roundw
                        case rel => exact ⟨r + 1, rfl, by omega, rfl, HR4.out.m.drewN _, no_next HR4.out.no (fun h => absurd (HF.out.1 h.1) (by omega))⟩
                        case measure => simp [intOf]; omega
                  · obtain rfl : r = q := by omega
                    have Htch := hide (tch_least HRun.out HRun.out rfl rfl HR4.out.no)
                    have m1 := HR4.out.m.kf.rcell r hlt
                    have m2 := HR4.out.m.kf.free
                    as_aux_lemma =>
                      go_wp2
                      go_roundw
                      case rel => exact ⟨r + 1, _, by omega, rfl, HR4.out.m.set r r, fo_set HG.out Htch.out⟩
                      case measure => simp [intOf]; omega
              · as_aux_lemma =>
                  go_wp2
                  go_roundw
                  case rel => exact ⟨q + 1, _, by omega, rfl, HM.out, fo_no HG.out (Hk.out.1 rfl)⟩
                  case measure => simp [intOf]; omega
            · obtain rfl : q = p := by omega
              as_aux_lemma =>
                go_wp2
                go_ret
                exact ⟨G, ⟨_, rfl, HR3.out.m.new.2, HR3.out.m.kf⟩, HR3.out.m.bel, HR3.out.g⟩
end Go.Proofs.Qxb6605516a
