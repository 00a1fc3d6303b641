import Derived.Test.Qxb6613898aStage
namespace Go.Proofs.Qxb6613898a
open Go.RowKit
set_option linter.unusedVariables false

/-- a slice of words, its length unbounded -/
def Raw (w : World) (v : Value) (us : List Int) : Prop :=
  ∃ a cap, v = .slice a us.length cap ∧ ∀ i (h : i < us.length), ∃ b off, a = some ⟨b, off, none⟩ ∧ w.cell? ⟨b, off + i, none⟩ = some (.int .u64 us[i])
theorem Raw.rd {w : World} {v : Value} {us : List Int} (h : Raw w v us) (hl : us.length ≤ 1048576) : RdU w v us := by
  obtain ⟨a, cap, h1, h2⟩ := h; exact ⟨a, cap, h1, hl, h2⟩
def RawR (w : World) (v : Value) (R : List (List Int)) : Prop :=
  ∃ a cap, v = .slice a R.length cap ∧ ∀ i (h : i < R.length), ∃ b off x, a = some ⟨b, off, none⟩ ∧ w.cell? ⟨b, off + i, none⟩ = some x ∧ Raw w x R[i]

structure GateOf (f : FuncId) (args : Array Value) (nA nS nT nR : Nat) (L : Nat → Nat) (w : World) : Prop where
  out : Calls Try.prog f args w fun e w' => Gated nA nS nT nR L w e w'

theorem RawR.rows {w : World} {a : Option Addr} {cap : Nat} {R : List (List Int)} (h : ∀ i (h : i < R.length), ∃ b off x, a = some ⟨b, off, none⟩ ∧ w.cell? ⟨b, off + i, none⟩ = some x ∧ Raw w x R[i]) :
    ∀ i, i < R.length → ∃ b off ra rc, a = some ⟨b, off, none⟩ ∧ w.cell? ⟨b, off + i, none⟩ = some (.slice ra ((R.getD i []).length) rc) := by
  intro i hi
  obtain ⟨b, off, x, h1, h2, ra, rc, rfl, _⟩ := h i hi
  refine ⟨b, off, ra, rc, h1, ?_⟩
  rw [h2, List.getD_eq_getElem?_getD, List.getElem?_eq_getElem hi]; rfl
theorem RawR.rd {w : World} {a : Option Addr} {cap : Nat} {R : List (List Int)} (h : ∀ i (h : i < R.length), ∃ b off x, a = some ⟨b, off, none⟩ ∧ w.cell? ⟨b, off + i, none⟩ = some x ∧ Raw w x R[i]) (hl : R.length ≤ 1048576) (hL : ∀ i, i < R.length → (R.getD i []).length ≤ 1048576) : RdUU w (.slice a R.length cap) R := by
  refine ⟨a, cap, rfl, hl, fun i hi => ?_⟩
  obtain ⟨b, off, x, h1, h2, h3⟩ := h i hi
  refine ⟨b, off, x, h1, h2, h3.rd ?_⟩
  have := hL i hi
  rw [List.getD_eq_getElem?_getD, List.getElem?_eq_getElem hi] at this
  exact this

theorem dropped_ret {v1 v2 v3 v4 x1 x2 x3 x4 : Value} {A S T : List Int} {R : List (List Int)} {a0 b0 : Int} {w : World}
    (h1 : RdU w v1 A) (h2 : RdU w v2 S) (h3 : RdU w v3 T) (h4 : RdUU w v4 R) (g1 : RdU w x1 (A.filter (keep a0 b0))) (g2 : RdU w x2 (S.filter (keep a0 b0))) (g3 : RdU w x3 T) (g4 : RdUU w x4 (R.map (·.filter (keep a0 b0)))) :
    Ret 12 #[v1, v2, v3, v4, x1, x2, x3, x4, .int .u64 a0, .int .u64 b0] w (fun v w' => v = .bool true ∧ Drawn w w') :=
  ⟨(dropped12 v1 v2 v3 v4 x1 x2 x3 x4 A S T R a0 b0 w h1 h2 h3 h4 g1 g2 g3 g4).mono fun e w' ⟨he, hd⟩ => ⟨_, he, rfl, hd⟩⟩
theorem same_ret {v1 v2 v3 v4 x1 x2 x3 x4 : Value} {A S T : List Int} {R : List (List Int)} {w : World}
    (h1 : RdU w v1 A) (h2 : RdU w v2 S) (h3 : RdU w v3 T) (h4 : RdUU w v4 R) (g1 : RdU w x1 A) (g2 : RdU w x2 S) (g3 : RdU w x3 T) (g4 : RdUU w x4 R) :
    Ret 13 #[v1, v2, v3, v4, x1, x2, x3, x4] w (fun v w' => v = .bool true ∧ Drawn w w') :=
  ⟨(same13 v1 v2 v3 v4 x1 x2 x3 x4 A S T R w h1 h2 h3 h4 g1 g2 g3 g4).mono fun e w' ⟨he, hd⟩ => ⟨_, he, rfl, hd⟩⟩

/-- the reference copies -/
structure Refs (w w4 : World) (v1 v2 v3 v4 : Value) (A S T : List Int) (R : List (List Int)) : Prop where
  o1 : OU w4 v1 A
  o2 : OU w4 v2 S
  o3 : OU w4 v3 T
  o4 : RdUU w4 v4 R
  g : Gr w w4
/-- the copies that the node takes, and the node -/
structure Made (w4 w9 : World) (N : Nat) (x1 x2 vD : Value) (A S T : List Int) (R : List (List Int)) (es : List Ent) : Prop where
  node : Node w9 w4.heap.size N x1 x2 x1 x2 vD A S es
  at_ : es.map (·.at_) = T
  us : es.map (·.us) = R
  g : Gr w4 w9


/-- behind the first drop and the reads: the copies of what was read -/
structure After (w4 w9 w15 : World) (J' N : Nat) (yA yS vD z1 z2 z3 z4 : Value) (A S T : List Int) (R : List (List Int)) (es : List Ent) : Prop where
  node : Node w15 w4.heap.size N yA yS yA yS vD A S es
  at_ : es.map (·.at_) = T
  us : es.map (·.us) = R
  lt : ∀ l ∈ parts N vD yA yS es, ∀ x ∈ l, x < w9.heap.size
  o1 : OU w15 z1 A
  l1 : ∀ x ∈ ob z1, w9.heap.size ≤ x
  o2 : OU w15 z2 S
  l2 : ∀ x ∈ ob z2, w9.heap.size ≤ x
  o3 : OU w15 z3 T
  l3 : ∀ x ∈ ob z3, w9.heap.size ≤ x
  o4 : OUU w15 J' z4 R
  l4 : w9.heap.size ≤ J'
  bel : Below w4.heap.size w4 w15

theorem After.same {w4 w9 w15 w16 w17 w18 : World} {J' N : Nat} {yA yS vD z1 z2 z3 z4 : Value} {A S T : List Int} {R : List (List Int)} {es : List Ent} {d : Int}
    (h : After w4 w9 w15 J' N yA yS vD z1 z2 z3 z4 A S T R es) (hA : A.filter (notD d) = A) (hS : S.filter (notD d) = S) (hR : R.map (·.filter (notD d)) = R)
    (dr : Drawn w15 w16) {uA uS uT uR : Value} {es2 : List Ent} (n17 : Node w17 w4.heap.size N uA uS uA uS vD (A.filter (notD d)) (S.filter (notD d)) es2) (f1 : es2.map (·.at_) = es.map (·.at_)) (f2 : es2.map (·.us) = (es.map (·.us)).map (·.filter (notD d)))
    (out : Out w4.heap.size w9.heap.size w16 w17) (r1 : RdU w18 uT (es2.map (·.at_))) (r2 : RdUU w18 uR (es2.map (·.us))) (g : Gr w17 w18) :
    Ret 13 #[z1, z2, z3, z4, uA, uS, uT, uR] w18 (fun v w' => v = .bool true ∧ Drawn w18 w') := by
  have hblk : ∀ x, x < w15.heap.size → w9.heap.size ≤ x → w18.heap[x]? = w15.heap[x]? := by
    intro x hx hx2
    obtain ⟨n, rfl⟩ := dr
    exact (g.blk x (Nat.lt_of_lt_of_le hx out.size)).trans (out.block x hx (.inr hx2))
  rw [f1, h.at_] at r1
  rw [f2, h.us, hR] at r2
  rw [hA, hS] at n17
  exact same_ret (h.o1.frame fun x hx => hblk x (h.o1.lt x hx) (h.l1 x hx)).rd (h.o2.frame fun x hx => hblk x (h.o2.lt x hx) (h.l2 x hx)).rd (h.o3.frame fun x hx => hblk x (h.o3.lt x hx) (h.l3 x hx)).rd (h.o4.frameJ fun x hx hx2 => hblk x hx (Nat.le_trans h.l4 hx2)).rd (n17.oA.gr g).rd (n17.oS.gr g).rd r1 r2

theorem map_twice (R : List (List Int)) (d : Int) : (R.map (·.filter (notD d))).map (·.filter (notD d)) = R.map (·.filter (notD d)) := by
  rw [List.map_map]; congr 1; funext us; exact filter_twice us d
theorem below_drawn {B : Nat} {a b c : World} (h : Below B a b) (d : Drawn b c) : Below B a c := by
  obtain ⟨n, rfl⟩ := d; exact below_drewN h n
theorem after_of {w w4 w9 w10 w11 w12 w13 w14 w15 : World} {N : Nat} {v1 v2 v3 v4 x1 x2 vD yA yS z1 z2 z3 z4 : Value} {A S T A' S' : List Int} {R R' : List (List Int)} {es es1 : List Ent}
    (hF : Refs w w4 v1 v2 v3 v4 A S T R) (hM : Made w4 w9 N x1 x2 vD A S T R es) (n10 : Node w10 w4.heap.size N yA yS yA yS vD A' S' es1) (f1 : es1.map (·.at_) = T) (f2 : es1.map (·.us) = R') (k10 : ∀ l ∈ parts N vD yA yS es1, ∀ x ∈ l, x < w9.heap.size) (u10 : Out w4.heap.size w9.heap.size w9 w10)
    (g11 : Gr w10 w11) (g12 : Gr w11 w12) (g13 : Gr w12 w13) (g14 : Gr w13 w14) (g15 : Gr w14 w15)
    (o1 : OU w12 z1 A') (l1 : ∀ x ∈ ob z1, w11.heap.size ≤ x) (o2 : OU w13 z2 S') (l2 : ∀ x ∈ ob z2, w12.heap.size ≤ x) (o3 : OU w14 z3 (es1.map (·.at_))) (l3 : ∀ x ∈ ob z3, w13.heap.size ≤ x) (o4 : OUU w15 w14.heap.size z4 (es1.map (·.us))) :
    After w4 w9 w15 w14.heap.size N yA yS vD z1 z2 z3 z4 A' S' T R' es1 := by
  have s1 := u10.size; have s2 := g11.size; have s3 := g12.size; have s4 := g13.size; have s5 := g14.size
  have s0 := hM.g.size
  have gg : Gr w10 w15 := g11.trans (g12.trans (g13.trans (g14.trans g15)))
  rw [f1] at o3
  rw [f2] at o4
  exact ⟨n10.gr gg, f1, f2, k10, o1.gr (g13.trans (g14.trans g15)), fun x hx => Nat.le_trans (by omega) (l1 x hx), o2.gr (g14.trans g15), fun x hx => Nat.le_trans (by omega) (l2 x hx), o3.gr g15, fun x hx => Nat.le_trans (by omega) (l3 x hx), o4, by omega, (hM.g.bel.trans (u10.below s0)).trans (gg.bel.mono (by omega))⟩
theorem After.dropped {w w4 w9 w15 : World} {J' N : Nat} {v1 v2 v3 v4 yA yS vD z1 z2 z3 z4 : Value} {A S T : List Int} {R : List (List Int)} {es : List Ent} {d : Int}
    (h : After w4 w9 w15 J' N yA yS vD z1 z2 z3 z4 (A.filter (notD d)) (S.filter (notD d)) T (R.map (·.filter (notD d))) es) (hF : Refs w w4 v1 v2 v3 v4 A S T R) :
    Ret 12 #[v1, v2, v3, v4, z1, z2, z3, z4, .int .u64 d, .int .u64 d] w15 (fun v w' => v = .bool true ∧ Drawn w15 w') := by
  have hb := h.bel.block
  refine dropped_ret (hF.o1.framed hb).rd (hF.o2.framed hb).rd (hF.o3.framed hb).rd (hF.o4.frame hb) ?_ ?_ h.o3.rd ?_
  · rw [keep_same]; exact h.o1.rd
  · rw [keep_same]; exact h.o2.rd
  · rw [keep_same]; exact h.o4.rd
theorem fin3 {w w4 w9 w15 w16 w17 w18 : World} {J' N : Nat} {v1 v2 v3 v4 yA yS vD z1 z2 z3 z4 : Value} {A S T A' S' T' : List Int} {R R' : List (List Int)} {es : List Ent}
    (hF : Refs w w4 v1 v2 v3 v4 A S T R) (h : After w4 w9 w15 J' N yA yS vD z1 z2 z3 z4 A' S' T' R' es) (dr : Drawn w15 w16) (out : Out w4.heap.size w9.heap.size w16 w17) (g : Gr w17 w18) : Below w.heap.size w w18 := by
  have s0 := hF.g.size
  have s1 := h.bel.size
  obtain ⟨n, rfl⟩ := dr
  have b2 : Below w4.heap.size w4 (w15.drewN n) := below_drewN h.bel n
  have b3 : Below w4.heap.size (w15.drewN n) w17 := out.below s1
  have s2 := b3.size
  have s3 : w4.heap.size ≤ w17.heap.size := Nat.le_trans s1 s2
  exact hF.g.bel.trans (((b2.trans b3).trans (g.bel.mono s3)).mono s0)

set_option maxRecDepth 4000 in
set_option maxHeartbeats 4000000 in
theorem main3 (aA aS aT aR : Option Addr) (cA cS cT cR : Nat) (A S T : List Int) (R : List (List Int)) (d : Int) (w : World)
    (hA : Raw w (.slice aA A.length cA) A) (hS : Raw w (.slice aS S.length cS) S) (hT : Raw w (.slice aT T.length cT) T) (hR : ∀ i (h : i < R.length), ∃ b off x, aR = some ⟨b, off, none⟩ ∧ w.cell? ⟨b, off + i, none⟩ = some x ∧ Raw w x R[i]) :
    Calls Try.prog 3 #[.slice aA A.length cA, .slice aS S.length cS, .slice aT T.length cT, .slice aR R.length cR, .int .u64 d] w fun e w' => e = .returned (.bool true) ∧ Below w.heap.size w w' := by
  have HB5 : GateOf 5 #[.slice aA A.length cA, .slice aS S.length cS, .slice aT T.length cT, .slice aR R.length cR, .int .u64 d] A.length S.length T.length R.length (fun i => (R.getD i []).length) w := ⟨bytes5 aA aS aT aR _ _ _ _ cA cS cT cR _ d w (RawR.rows (cap := cR) hR)⟩
  have HB6 : GateOf 6 #[.slice aA A.length cA, .slice aS S.length cS, .slice aT T.length cT, .slice aR R.length cR] A.length S.length T.length R.length (fun i => (R.getD i []).length) w := ⟨within6 aA aS aT aR _ _ _ _ cA cS cT cR _ w (RawR.rows (cap := cR) hR)⟩
  have HRR : Hid (Raw w (.slice aA A.length cA) A ∧ Raw w (.slice aS S.length cS) S ∧ Raw w (.slice aT T.length cT) T ∧ ∀ i (h : i < R.length), ∃ b off x, aR = some ⟨b, off, none⟩ ∧ w.cell? ⟨b, off + i, none⟩ = some x ∧ Raw w x R[i]) := ⟨hA, hS, hT, hR⟩
  clear hA hS hT hR
  by_cases hlen : T.length = R.length
  case neg =>
    go_enter Try.func3, Try.ntmps3
    go_upto_if 26 with (go_at_call 5; refine HB5.out.mono ?_; intro e w' hg; obtain ⟨q, rfl, hw', hq⟩ := hg.out; obtain rfl := hw'.symm; clear hg hq hw' HB5)
    cases q
    · go_wp2
      go_ret
      exact ⟨rfl, Below.refl _ _⟩
    go_upto_if 32 with (go_at_call 6; refine HB6.out.mono ?_; intro e w' hg; obtain ⟨q2, rfl, hw', hq⟩ := hg.out; obtain rfl := hw'.symm; clear hg hq hw' HB6)
    cases q2
    · go_wp2
      go_ret
      exact ⟨rfl, Below.refl _ _⟩
    go_wp2
    go_ret
    exact ⟨rfl, Below.refl _ _⟩
  have HL : Hid (T.length = R.length) := hlen
  rw [← hlen] at HB5 HB6 ⊢
  clear hlen
  go_enter Try.func3, Try.ntmps3
  go_upto_if 26 with (go_at_call 5; refine HB5.out.mono ?_; intro e w' hg; obtain ⟨q, rfl, hw', hq⟩ := hg.out; obtain rfl := hw'.symm; have HQ : Hid (q = true → A.length ≤ 1048576 ∧ S.length ≤ 1048576 ∧ T.length ≤ 1048576 ∧ T.length ≤ 1048576 ∧ ∀ i, i < T.length → (R.getD i []).length ≤ 1048576) := hq; clear hg hq hw' HB5)
  cases q
  · go_wp2
    go_ret
    exact ⟨rfl, Below.refl _ _⟩
  go_upto_if 32 with (go_at_call 6; refine HB6.out.mono ?_; intro e w' hg; obtain ⟨q2, rfl, hw', hq⟩ := hg.out; obtain rfl := hw'.symm; clear hg hq hw' HB6)
  cases q2
  · go_wp2
    go_ret
    exact ⟨rfl, Below.refl _ _⟩
  obtain ⟨lA, lS, lT, lR, lE⟩ := HQ.out trivial
  have HS : Hid (RdU w (.slice aS S.length cS) S) := HRR.out.2.1.rd lS
  have HT : Hid (RdU w (.slice aT T.length cT) T) := HRR.out.2.2.1.rd lT
  have HR : Hid (RdUU w (.slice aR T.length cR) R) := (by rw [HL.out]; exact RawR.rd HRR.out.2.2.2 (by rw [← HL.out]; exact lR) (by rw [← HL.out]; exact lE))
  have h1 := clone_ret (HRR.out.1.rd lA)
  clear lA lS lT lR lE HRR HQ
  go_wp2_with (first
    | (go_at_call 7; refine h1.out.mono ?_; rintro e w1 ⟨v1, rfl, o1, l1, g1⟩; have O1 : Hid (OU w1 v1 A) := o1; have G1 : Hid (Gr w w1) := g1; have h2 := clone_ret (HS.out.gr g1); clear o1 l1 g1; clear h1)
    | (go_at_call 7; refine h2.out.mono ?_; rintro e w2 ⟨v2, rfl, o2, l2, g2⟩; have O2 : Hid (OU w2 v2 S) := o2; have G2 : Hid (Gr w1 w2) := g2; have h3 := clone_ret (HT.out.gr (G1.out.trans g2)); clear o2 l2 g2; clear h2)
    | (go_at_call 7; refine h3.out.mono ?_; rintro e w3 ⟨v3, rfl, o3, l3, g3⟩; have O3 : Hid (OU w3 v3 T) := o3; have G3 : Hid (Gr w2 w3) := g3; have h4 := clones_ret (HR.out.gr (G1.out.trans (G2.out.trans g3))); clear o3 l3 g3; clear h3)
    | (go_at_call 8; refine h4.out.mono ?_; rintro e w4 ⟨v4, rfl, o4, g4⟩; have HF : Hid (Refs w w4 v1 v2 v3 v4 A S T R) := ⟨O1.out.gr (G2.out.trans (G3.out.trans g4)), O2.out.gr (G3.out.trans g4), O3.out.gr g4, o4.rd, G1.out.trans (G2.out.trans (G3.out.trans g4))⟩; have h5 := clone_ret HF.out.o1.rd; clear o4 g4 O1 O2 O3 G1 G2 G3; clear h4)
    | (go_at_call 7; refine h5.out.mono ?_; rintro e w5 ⟨x1, rfl, o1, l1, g1⟩; have P1 : Hid (OU w5 x1 A ∧ ∀ x ∈ ob x1, w4.heap.size ≤ x) := ⟨o1, l1⟩; have G5 : Hid (Gr w4 w5) := g1; have h6 := clone_ret (HF.out.o2.gr g1).rd; clear o1 l1 g1; clear h5)
    | (go_at_call 7; refine h6.out.mono ?_; rintro e w6 ⟨x2, rfl, o1, l1, g1⟩; have P2 : Hid (OU w6 x2 S ∧ ∀ x ∈ ob x2, w5.heap.size ≤ x) := ⟨o1, l1⟩; have G6 : Hid (Gr w5 w6) := g1; have h7 := clone_ret (HF.out.o3.gr (G5.out.trans g1)).rd; clear o1 l1 g1; clear h6)
    | (go_at_call 7; refine h7.out.mono ?_; rintro e w7 ⟨x3, rfl, o1, l1, g1⟩; have P3 : Hid (OU w7 x3 T) := o1; have G7 : Hid (Gr w6 w7) := g1; have h8 := clones_ret (HF.out.o4.gr (G5.out.trans (G6.out.trans g1))); clear o1 l1 g1; clear h7)
    | (go_at_call 8; refine h8.out.mono ?_; rintro e w8 ⟨x4, rfl, o1, g8⟩; have h9 := new_ret (J := w4.heap.size) (J2 := w5.heap.size) (J3 := w7.heap.size) (P1.out.1.gr (G6.out.trans (G7.out.trans g8))) (fun x hx => ⟨P1.out.2 x hx, P1.out.1.lt x hx⟩) (P2.out.1.gr (G7.out.trans g8)) (fun x hx => ⟨P2.out.2 x hx, Nat.lt_of_lt_of_le (P2.out.1.lt x hx) G7.out.size⟩) (P3.out.gr g8).rd o1 HL.out G5.out.size (G6.out.trans G7.out).size g8.size; have G8 : Hid (Gr w4 w8) := G5.out.trans (G6.out.trans (G7.out.trans g8)); clear o1 g8 P1 P2 P3 G5 G6 G7; clear h8)
    | (go_at_call 9; refine h9.out.mono ?_; rintro e w9 ⟨v9, rfl, rfl, vD, es, n9, e1, e2, g9⟩; have HM : Hid (Made w4 w9 w8.heap.size x1 x2 vD A S T R es) := ⟨n9, e1, e2, G8.out.trans g9⟩; have h10 := drop_ret d n9 n9.ltsize; clear n9 e1 e2 g9 G8; clear h9)
    | (go_at_call 10; refine h10.out.mono ?_; rintro e w10 ⟨v10, rfl, rfl, yA, yS, es1, n10, f1, f2, k10, u10⟩; have N10 : Hid (Node w10 w4.heap.size w8.heap.size yA yS yA yS vD (A.filter (notD d)) (S.filter (notD d)) es1 ∧ es1.map (·.at_) = T ∧ es1.map (·.us) = R.map (·.filter (notD d)) ∧ (∀ l ∈ parts w8.heap.size vD yA yS es1, ∀ x ∈ l, x < w9.heap.size) ∧ Out w4.heap.size w9.heap.size w9 w10) := ⟨n10, f1.trans HM.out.at_, f2.trans (by rw [HM.out.us]), k10, u10⟩; have h11 := reads_ret n10; clear n10 f1 f2 k10 u10; clear h10)
    | (go_at_call 11; refine h11.out.mono ?_; rintro e w11 ⟨v11, rfl, yT, yR, rfl, r1, r2, g11⟩; have R1 : Hid (RdU w11 yT (es1.map (·.at_))) := r1; have R2 : Hid (RdUU w11 yR (es1.map (·.us))) := r2; have G11 : Hid (Gr w10 w11) := g11; have h12 := clone_ret (N10.out.1.oA.gr g11).rd; clear r1 r2 g11; clear h11)
    | (go_at_call 7; refine h12.out.mono ?_; rintro e w12 ⟨z1, rfl, o1, l1, g1⟩; have Z1 : Hid (OU w12 z1 (A.filter (notD d)) ∧ ∀ x ∈ ob z1, w11.heap.size ≤ x) := ⟨o1, l1⟩; have G12 : Hid (Gr w11 w12) := g1; have h13 := clone_ret (N10.out.1.oS.gr (G11.out.trans g1)).rd; clear o1 l1 g1; clear h12)
    | (go_at_call 7; refine h13.out.mono ?_; rintro e w13 ⟨z2, rfl, o1, l1, g1⟩; have Z2 : Hid (OU w13 z2 (S.filter (notD d)) ∧ ∀ x ∈ ob z2, w12.heap.size ≤ x) := ⟨o1, l1⟩; have G13 : Hid (Gr w12 w13) := g1; have h14 := clone_ret (R1.out.gr (G12.out.trans g1)); clear o1 l1 g1; clear h13)
    | (go_at_call 7; refine h14.out.mono ?_; rintro e w14 ⟨z3, rfl, o1, l1, g1⟩; have Z3 : Hid (OU w14 z3 (es1.map (·.at_)) ∧ ∀ x ∈ ob z3, w13.heap.size ≤ x) := ⟨o1, l1⟩; have G14 : Hid (Gr w13 w14) := g1; have h15 := clones_ret (R2.out.gr (G12.out.trans (G13.out.trans g1))); clear o1 l1 g1; clear h14)
    | (go_at_call 8; refine h15.out.mono ?_; rintro e w15 ⟨z4, rfl, o1, g15⟩; have AF := after_of HF.out HM.out N10.out.1 N10.out.2.1 N10.out.2.2.1 N10.out.2.2.2.1 N10.out.2.2.2.2 G11.out G12.out G13.out G14.out g15 Z1.out.1 Z1.out.2 Z2.out.1 Z2.out.2 Z3.out.1 Z3.out.2 o1; have HAF : Hid (After w4 w9 w15 w14.heap.size w8.heap.size yA yS vD z1 z2 z3 z4 (A.filter (notD d)) (S.filter (notD d)) T (R.map (·.filter (notD d))) es1) := AF; have h16 := AF.dropped HF.out; clear AF o1 g15 Z1 Z2 Z3 R1 R2 N10 G11 G12 G13 G14 HM; clear h15)
    | (go_at_call 12; refine h16.out.mono ?_; rintro e w16 ⟨v16, rfl, rfl, d16⟩; have D16 : Hid (Drawn w15 w16) := d16; have h17 := drop_ret d (HAF.out.node.gr (Gr.drawn d16)) HAF.out.lt; clear d16; clear h16)
    | (go_at_call 10; refine h17.out.mono ?_; rintro e w17 ⟨v17, rfl, rfl, uA, uS, es2, n17, f1, f2, k17, u17⟩; have N17 : Hid (Node w17 w4.heap.size w8.heap.size uA uS uA uS vD ((A.filter (notD d)).filter (notD d)) ((S.filter (notD d)).filter (notD d)) es2 ∧ es2.map (·.at_) = es1.map (·.at_) ∧ es2.map (·.us) = (es1.map (·.us)).map (·.filter (notD d)) ∧ Out w4.heap.size w9.heap.size w16 w17) := ⟨n17, f1, f2, u17⟩; have h18 := reads_ret n17; clear n17 f1 f2 k17 u17; clear h17)
    | (go_at_call 11; refine h18.out.mono ?_; rintro e w18 ⟨v18, rfl, uT, uR, rfl, r1, r2, g18⟩; have h19 := HAF.out.same (filter_twice _ _) (filter_twice _ _) (map_twice _ _) D16.out N17.out.1 N17.out.2.1 N17.out.2.2.1 N17.out.2.2.2 r1 r2 g18; have HE : Hid (Below w.heap.size w w18) := fin3 HF.out HAF.out D16.out N17.out.2.2.2 g18; clear r1 r2 g18 N17; clear h18)
    | (go_at_call 13; refine h19.out.mono ?_; rintro e w19 ⟨v19, rfl, rfl, d19⟩; have HE2 : Hid (Below w.heap.size w w19) := below_drawn HE.out d19; clear d19 HE; clear h19))
  go_ret
  exact ⟨rfl, HE2.out⟩

end Go.Proofs.Qxb6613898a
