import Derived.Test.Qxb6613898aMain3
namespace Go.Proofs.Qxb6613898a
open Go.RowKit
set_option linter.unusedVariables false

/-- two nodes side by side: the first lies in [w4, w9), the second in [w9, w14) -/
structure Two (w4 w9 w14 wk : World) (N1 N2 : Nat) (y1 y2 vD1 u1 u2 vD2 : Value) (es1 es2 : List Ent) (A1 S1 A2 S2 T : List Int) (R1 R2 : List (List Int)) : Prop where
  n1 : Node wk w4.heap.size N1 y1 y2 y1 y2 vD1 A1 S1 es1
  n2 : Node wk w9.heap.size N2 u1 u2 u1 u2 vD2 A2 S2 es2
  t1 : es1.map (·.at_) = T
  r1 : es1.map (·.us) = R1
  t2 : es2.map (·.at_) = T
  r2 : es2.map (·.us) = R2
  k1 : ∀ l ∈ parts N1 vD1 y1 y2 es1, ∀ x ∈ l, x < w9.heap.size
  k2 : ∀ l ∈ parts N2 vD2 u1 u2 es2, ∀ x ∈ l, x < w14.heap.size
  s : w14.heap.size ≤ wk.heap.size
  s9 : w9.heap.size ≤ w14.heap.size
  s4 : w4.heap.size ≤ w9.heap.size
  bel : Below w4.heap.size w4 wk

section
variable {w4 w9 w14 wk : World} {N1 N2 : Nat} {y1 y2 vD1 u1 u2 vD2 : Value} {es1 es2 : List Ent} {A1 S1 A2 S2 T : List Int} {R1 R2 : List (List Int)}

theorem Two.drop1 (h : Two w4 w9 w14 wk N1 N2 y1 y2 vD1 u1 u2 vD2 es1 es2 A1 S1 A2 S2 T R1 R2) (d : Int) :
    Ret 10 #[.pointer (some ⟨N1, 0, none⟩), .int .u64 d] wk (fun v w' => v = .tuple #[] ∧ ∃ y1' y2' es1', Two w4 w9 w14 w' N1 N2 y1' y2' vD1 u1 u2 vD2 es1' es2 (A1.filter (notD d)) (S1.filter (notD d)) A2 S2 T (R1.map (·.filter (notD d))) R2) := by
  refine ⟨(drop_ret d h.n1 h.k1).out.mono fun e w' ⟨v, he, hv, y1', y2', es1', n, f1, f2, k, out⟩ => ⟨v, he, hv, y1', y2', es1', ?_⟩⟩
  have hs := h.s; have hs9 := h.s9; have hs4 := h.s4; have ho := out.size
  refine ⟨n, h.n2.frameP fun l hl x hx => out.block x (Nat.lt_of_lt_of_le (h.k2 l hl x hx) hs) (.inr (h.n2.big l hl x hx)), f1.trans h.t1, f2.trans (by rw [h.r1]), h.t2, h.r2, k, h.k2, by omega, hs9, hs4, h.bel.trans (out.below (by omega))⟩
theorem Two.drop2 (h : Two w4 w9 w14 wk N1 N2 y1 y2 vD1 u1 u2 vD2 es1 es2 A1 S1 A2 S2 T R1 R2) (d : Int) :
    Ret 10 #[.pointer (some ⟨N2, 0, none⟩), .int .u64 d] wk (fun v w' => v = .tuple #[] ∧ ∃ u1' u2' es2', Two w4 w9 w14 w' N1 N2 y1 y2 vD1 u1' u2' vD2 es1 es2' A1 S1 (A2.filter (notD d)) (S2.filter (notD d)) T R1 (R2.map (·.filter (notD d)))) := by
  refine ⟨(drop_ret d h.n2 h.k2).out.mono fun e w' ⟨v, he, hv, u1', u2', es2', n, f1, f2, k, out⟩ => ⟨v, he, hv, u1', u2', es2', ?_⟩⟩
  have hs := h.s; have hs9 := h.s9; have hs4 := h.s4; have ho := out.size
  refine ⟨h.n1.frameP fun l hl x hx => out.block x (by have := h.k1 l hl x hx; omega) (.inl (h.k1 l hl x hx)), n, h.t1, h.r1, f1.trans h.t2, f2.trans (by rw [h.r2]), h.k1, k, by omega, hs9, hs4, h.bel.trans ((out.below (by omega)).mono hs4)⟩

theorem map_keep (R : List (List Int)) (a b : Int) : (R.map (·.filter (notD a))).map (·.filter (notD b)) = R.map (·.filter (keep a b)) := by
  rw [List.map_map]; congr 1; funext us; exact filter_keep us a b
theorem map_keep' (R : List (List Int)) (a b : Int) : (R.map (·.filter (notD b))).map (·.filter (notD a)) = R.map (·.filter (keep a b)) := by
  rw [List.map_map]; congr 1; funext us; exact filter_keep' us a b

/-- the two drops in the two orders -/
abbrev TwoDone (w4 w9 w14 wk : World) (N1 N2 : Nat) (y1 y2 vD1 u1 u2 vD2 : Value) (es1 es2 : List Ent) (A S T : List Int) (R : List (List Int)) (a b : Int) : Prop :=
  Two w4 w9 w14 wk N1 N2 y1 y2 vD1 u1 u2 vD2 es1 es2 ((A.filter (notD a)).filter (notD b)) ((S.filter (notD a)).filter (notD b)) ((A.filter (notD b)).filter (notD a)) ((S.filter (notD b)).filter (notD a)) T ((R.map (·.filter (notD a))).map (·.filter (notD b))) ((R.map (·.filter (notD b))).map (·.filter (notD a)))

theorem two_dropped {w w19 : World} {v1 v2 v3 v4 yT yR : Value} {A S : List Int} {R : List (List Int)} {a b : Int} (h : TwoDone w4 w9 w14 wk N1 N2 y1 y2 vD1 u1 u2 vD2 es1 es2 A S T R a b) (hF : Refs w w4 v1 v2 v3 v4 A S T R)
    (q1 : RdU w19 yT (es1.map (·.at_))) (q2 : RdUU w19 yR (es1.map (·.us))) (g : Gr wk w19) :
    Ret 12 #[v1, v2, v3, v4, y1, y2, yT, yR, .int .u64 a, .int .u64 b] w19 (fun v w' => v = .bool true ∧ Drawn w19 w') := by
  have hs := h.s; have hs9 := h.s9; have hs4 := h.s4
  have hb := (h.bel.trans (g.bel.mono (by omega))).block
  have oA := (h.n1.oA.gr g).rd
  have oS := (h.n1.oS.gr g).rd
  rw [h.t1] at q1
  rw [h.r1, map_keep] at q2
  rw [filter_keep] at oA oS
  exact dropped_ret (hF.o1.framed hb).rd (hF.o2.framed hb).rd (hF.o3.framed hb).rd (hF.o4.frame hb) oA oS q1 q2

theorem two_same {w19 w20 w21 : World} {yT yR uT uR : Value} {A S : List Int} {R : List (List Int)} {a b : Int} (h : TwoDone w4 w9 w14 wk N1 N2 y1 y2 vD1 u1 u2 vD2 es1 es2 A S T R a b)
    (q1 : RdU w19 yT (es1.map (·.at_))) (q2 : RdUU w19 yR (es1.map (·.us))) (g : Gr wk w19) (d : Drawn w19 w20) (p1 : RdU w21 uT (es2.map (·.at_))) (p2 : RdUU w21 uR (es2.map (·.us))) (g2 : Gr w20 w21) :
    Ret 13 #[y1, y2, yT, yR, u1, u2, uT, uR] w21 (fun v w' => v = .bool true ∧ Drawn w21 w') := by
  have gg : Gr w19 w21 := (Gr.drawn d).trans g2
  have oA := (h.n1.oA.gr (g.trans gg)).rd
  have oS := (h.n1.oS.gr (g.trans gg)).rd
  have pA := (h.n2.oA.gr (g.trans gg)).rd
  have pS := (h.n2.oS.gr (g.trans gg)).rd
  have q1 := q1.gr gg
  have q2 := q2.gr gg
  rw [h.t1] at q1
  rw [h.r1, map_keep] at q2
  rw [h.t2] at p1
  rw [h.r2, map_keep'] at p2
  rw [filter_keep] at oA oS
  rw [filter_keep'] at pA pS
  exact same_ret oA oS q1 q2 pA pS p1 p2

theorem two_of {A S : List Int} {R : List (List Int)} (h1 : Made w4 w9 N1 y1 y2 vD1 A S T R es1) (h2 : Made w9 w14 N2 u1 u2 vD2 A S T R es2) : Two w4 w9 w14 w14 N1 N2 y1 y2 vD1 u1 u2 vD2 es1 es2 A S A S T R R :=
  ⟨h1.node.gr h2.g, h2.node, h1.at_, h1.us, h2.at_, h2.us, h1.node.ltsize, h2.node.ltsize, Nat.le_refl _, h2.g.size, h1.g.size, (h1.g.trans h2.g).bel⟩

theorem fin4 {w w19 w20 w21 w22 : World} {v1 v2 v3 v4 : Value} {A S A' : List Int} {R : List (List Int)} (hF : Refs w w4 v1 v2 v3 v4 A S A' R) (h : Two w4 w9 w14 wk N1 N2 y1 y2 vD1 u1 u2 vD2 es1 es2 A1 S1 A2 S2 T R1 R2)
    (g : Gr wk w19) (d : Drawn w19 w20) (g2 : Gr w20 w21) (d2 : Drawn w21 w22) : Below w.heap.size w w22 := by
  have hs := h.s; have hs9 := h.s9; have hs4 := h.s4; have h0 := hF.g.size
  have gg : Gr wk w22 := g.trans ((Gr.drawn d).trans (g2.trans (Gr.drawn d2)))
  exact hF.g.bel.trans ((h.bel.mono h0).trans (gg.bel.mono (by omega)))
end

set_option maxRecDepth 4000 in
set_option maxHeartbeats 4000000 in
theorem main4 (aA aS aT aR : Option Addr) (cA cS cT cR : Nat) (A S T : List Int) (R : List (List Int)) (d d' : Int) (w : World)
    (hA : Raw w (.slice aA A.length cA) A) (hS : Raw w (.slice aS S.length cS) S) (hT : Raw w (.slice aT T.length cT) T) (hR : ∀ i (h : i < R.length), ∃ b off x, aR = some ⟨b, off, none⟩ ∧ w.cell? ⟨b, off + i, none⟩ = some x ∧ Raw w x R[i]) :
    Calls Try.prog 4 #[.slice aA A.length cA, .slice aS S.length cS, .slice aT T.length cT, .slice aR R.length cR, .int .u64 d, .int .u64 d'] w fun e w' => e = .returned (.bool true) ∧ Below w.heap.size w w' := by
  have HB5 : GateOf 14 #[.slice aA A.length cA, .slice aS S.length cS, .slice aT T.length cT, .slice aR R.length cR, .int .u64 d, .int .u64 d'] A.length S.length T.length R.length (fun i => (R.getD i []).length) w := ⟨bytes14 aA aS aT aR _ _ _ _ cA cS cT cR _ d d' w (RawR.rows (cap := cR) hR)⟩
  have HB6 : GateOf 6 #[.slice aA A.length cA, .slice aS S.length cS, .slice aT T.length cT, .slice aR R.length cR] A.length S.length T.length R.length (fun i => (R.getD i []).length) w := ⟨within6 aA aS aT aR _ _ _ _ cA cS cT cR _ w (RawR.rows (cap := cR) hR)⟩
  have HRR : Hid (Raw w (.slice aA A.length cA) A ∧ Raw w (.slice aS S.length cS) S ∧ Raw w (.slice aT T.length cT) T ∧ ∀ i (h : i < R.length), ∃ b off x, aR = some ⟨b, off, none⟩ ∧ w.cell? ⟨b, off + i, none⟩ = some x ∧ Raw w x R[i]) := ⟨hA, hS, hT, hR⟩
  clear hA hS hT hR
  by_cases hlen : T.length = R.length
  case neg =>
    go_enter Try.func4, Try.ntmps4
    go_upto_if 30 with (go_at_call 14; refine HB5.out.mono ?_; intro e w' hg; obtain ⟨q, rfl, hw', hq⟩ := hg.out; obtain rfl := hw'.symm; clear hg hq hw' HB5)
    cases q
    · go_wp2
      go_ret
      exact ⟨rfl, Below.refl _ _⟩
    go_upto_if 36 with (go_at_call 6; refine HB6.out.mono ?_; intro e w' hg; obtain ⟨q2, rfl, hw', hq⟩ := hg.out; obtain rfl := hw'.symm; clear hg hq hw' HB6)
    cases q2
    · go_wp2
      go_ret
      exact ⟨rfl, Below.refl _ _⟩
    go_wp2
    go_ret
    exact ⟨rfl, Below.refl _ _⟩
  have HL : Hid (T.length = R.length) := hlen
  rw [← hlen] at HB5 HB6 ⊢
  clear hlen
  go_enter Try.func4, Try.ntmps4
  go_upto_if 30 with (go_at_call 14; refine HB5.out.mono ?_; intro e w' hg; obtain ⟨q, rfl, hw', hq⟩ := hg.out; obtain rfl := hw'.symm; have HQ : Hid (q = true → A.length ≤ 1048576 ∧ S.length ≤ 1048576 ∧ T.length ≤ 1048576 ∧ T.length ≤ 1048576 ∧ ∀ i, i < T.length → (R.getD i []).length ≤ 1048576) := hq; clear hg hq hw' HB5)
  cases q
  · go_wp2
    go_ret
    exact ⟨rfl, Below.refl _ _⟩
  go_upto_if 36 with (go_at_call 6; refine HB6.out.mono ?_; intro e w' hg; obtain ⟨q2, rfl, hw', hq⟩ := hg.out; obtain rfl := hw'.symm; clear hg hq hw' HB6)
  cases q2
  · go_wp2
    go_ret
    exact ⟨rfl, Below.refl _ _⟩
  obtain ⟨lA, lS, lT, lR, lE⟩ := HQ.out trivial
  have HS : Hid (RdU w (.slice aS S.length cS) S) := HRR.out.2.1.rd lS
  have HT : Hid (RdU w (.slice aT T.length cT) T) := HRR.out.2.2.1.rd lT
  have HR : Hid (RdUU w (.slice aR T.length cR) R) := (by rw [HL.out]; exact RawR.rd HRR.out.2.2.2 (by rw [← HL.out]; exact lR) (by rw [← HL.out]; exact lE))
  have h1 := clone_ret (HRR.out.1.rd lA)
  clear lA lS lT lR lE HRR HQ
  go_wp2_with (first
    | (go_at_call 7; refine h1.out.mono ?_; rintro e w1 ⟨v1, rfl, o1, l1, g1⟩; have O1 : Hid (OU w1 v1 A) := o1; have G1 : Hid (Gr w w1) := g1; have h2 := clone_ret (HS.out.gr g1); clear o1 l1 g1; clear h1)
    | (go_at_call 7; refine h2.out.mono ?_; rintro e w2 ⟨v2, rfl, o2, l2, g2⟩; have O2 : Hid (OU w2 v2 S) := o2; have G2 : Hid (Gr w1 w2) := g2; have h3 := clone_ret (HT.out.gr (G1.out.trans g2)); clear o2 l2 g2; clear h2)
    | (go_at_call 7; refine h3.out.mono ?_; rintro e w3 ⟨v3, rfl, o3, l3, g3⟩; have O3 : Hid (OU w3 v3 T) := o3; have G3 : Hid (Gr w2 w3) := g3; have h4 := clones_ret (HR.out.gr (G1.out.trans (G2.out.trans g3))); clear o3 l3 g3; clear h3)
    | (go_at_call 8; refine h4.out.mono ?_; rintro e w4 ⟨v4, rfl, o4, g4⟩; have HF : Hid (Refs w w4 v1 v2 v3 v4 A S T R) := ⟨O1.out.gr (G2.out.trans (G3.out.trans g4)), O2.out.gr (G3.out.trans g4), O3.out.gr g4, o4.rd, G1.out.trans (G2.out.trans (G3.out.trans g4))⟩; have h5 := clone_ret HF.out.o1.rd; clear o4 g4 O1 O2 O3 G1 G2 G3; clear h4)
    | (go_at_call 7; refine h5.out.mono ?_; rintro e w5 ⟨x1, rfl, o1, l1, g1⟩; have P1 : Hid (OU w5 x1 A ∧ ∀ x ∈ ob x1, w4.heap.size ≤ x) := ⟨o1, l1⟩; have G5 : Hid (Gr w4 w5) := g1; have h6 := clone_ret (HF.out.o2.gr g1).rd; clear o1 l1 g1; clear h5)
    | (go_at_call 7; refine h6.out.mono ?_; rintro e w6 ⟨x2, rfl, o1, l1, g1⟩; have P2 : Hid (OU w6 x2 S ∧ ∀ x ∈ ob x2, w5.heap.size ≤ x) := ⟨o1, l1⟩; have G6 : Hid (Gr w5 w6) := g1; have h7 := clone_ret (HF.out.o3.gr (G5.out.trans g1)).rd; clear o1 l1 g1; clear h6)
    | (go_at_call 7; refine h7.out.mono ?_; rintro e w7 ⟨x3, rfl, o1, l1, g1⟩; have P3 : Hid (OU w7 x3 T) := o1; have G7 : Hid (Gr w6 w7) := g1; have h8 := clones_ret (HF.out.o4.gr (G5.out.trans (G6.out.trans g1))); clear o1 l1 g1; clear h7)
    | (go_at_call 8; refine h8.out.mono ?_; rintro e w8 ⟨x4, rfl, o1, g8⟩; have h9 := new_ret (J := w4.heap.size) (J2 := w5.heap.size) (J3 := w7.heap.size) (P1.out.1.gr (G6.out.trans (G7.out.trans g8))) (fun x hx => ⟨P1.out.2 x hx, P1.out.1.lt x hx⟩) (P2.out.1.gr (G7.out.trans g8)) (fun x hx => ⟨P2.out.2 x hx, Nat.lt_of_lt_of_le (P2.out.1.lt x hx) G7.out.size⟩) (P3.out.gr g8).rd o1 HL.out G5.out.size (G6.out.trans G7.out).size g8.size; have G8 : Hid (Gr w4 w8) := G5.out.trans (G6.out.trans (G7.out.trans g8)); clear o1 g8 P1 P2 P3 G5 G6 G7; clear h8)
    | (go_at_call 9; refine h9.out.mono ?_; rintro e w9 ⟨v9, rfl, rfl, vD1, es1, n9, e1, e2, g9⟩; have HM1 : Hid (Made w4 w9 w8.heap.size x1 x2 vD1 A S T R es1) := ⟨n9, e1, e2, G8.out.trans g9⟩; have h10 := clone_ret (HF.out.o1.gr HM1.out.g).rd; clear n9 e1 e2 g9 G8; clear h9)
    | (go_at_call 7; refine h10.out.mono ?_; rintro e w10 ⟨p1, rfl, o1, l1, g1⟩; have P1 : Hid (OU w10 p1 A ∧ ∀ x ∈ ob p1, w9.heap.size ≤ x) := ⟨o1, l1⟩; have G5 : Hid (Gr w9 w10) := g1; have h11 := clone_ret (HF.out.o2.gr (HM1.out.g.trans g1)).rd; clear o1 l1 g1; clear h10)
    | (go_at_call 7; refine h11.out.mono ?_; rintro e w11 ⟨p2, rfl, o1, l1, g1⟩; have P2 : Hid (OU w11 p2 S ∧ ∀ x ∈ ob p2, w10.heap.size ≤ x) := ⟨o1, l1⟩; have G6 : Hid (Gr w10 w11) := g1; have h12 := clone_ret (HF.out.o3.gr (HM1.out.g.trans (G5.out.trans g1))).rd; clear o1 l1 g1; clear h11)
    | (go_at_call 7; refine h12.out.mono ?_; rintro e w12 ⟨p3, rfl, o1, l1, g1⟩; have P3 : Hid (OU w12 p3 T) := o1; have G7 : Hid (Gr w11 w12) := g1; have h13 := clones_ret (HF.out.o4.gr (HM1.out.g.trans (G5.out.trans (G6.out.trans g1)))); clear o1 l1 g1; clear h12)
    | (go_at_call 8; refine h13.out.mono ?_; rintro e w13 ⟨p4, rfl, o1, g8⟩; have h14 := new_ret (J := w9.heap.size) (J2 := w10.heap.size) (J3 := w12.heap.size) (P1.out.1.gr (G6.out.trans (G7.out.trans g8))) (fun x hx => ⟨P1.out.2 x hx, P1.out.1.lt x hx⟩) (P2.out.1.gr (G7.out.trans g8)) (fun x hx => ⟨P2.out.2 x hx, Nat.lt_of_lt_of_le (P2.out.1.lt x hx) G7.out.size⟩) (P3.out.gr g8).rd o1 HL.out G5.out.size (G6.out.trans G7.out).size g8.size; have G8 : Hid (Gr w9 w13) := G5.out.trans (G6.out.trans (G7.out.trans g8)); clear o1 g8 P1 P2 P3 G5 G6 G7; clear h13)
    | (go_at_call 9; refine h14.out.mono ?_; rintro e w14 ⟨v9, rfl, rfl, vD2, es2, n9, e1, e2, g9⟩; have HM2 : Hid (Made w9 w14 w13.heap.size p1 p2 vD2 A S T R es2) := ⟨n9, e1, e2, G8.out.trans g9⟩; have TW0 := two_of HM1.out HM2.out; have h15 := TW0.drop1 d; clear TW0 HM1 HM2; clear n9 e1 e2 g9 G8; clear h14)
    | (go_at_call 10; refine h15.out.mono ?_; rintro e w15 ⟨v15, rfl, rfl, yA, yS, es3, TW1⟩; have h16 := TW1.drop1 d'; clear TW1; clear h15)
    | (go_at_call 10; refine h16.out.mono ?_; rintro e w16 ⟨v16, rfl, rfl, yA2, yS2, es4, TW2⟩; have h17 := TW2.drop2 d'; clear TW2; clear h16)
    | (go_at_call 10; refine h17.out.mono ?_; rintro e w17 ⟨v17, rfl, rfl, uA, uS, es5, TW3⟩; have h18 := TW3.drop2 d; clear TW3; clear h17)
    | (go_at_call 10; refine h18.out.mono ?_; rintro e w18 ⟨v18, rfl, rfl, uA2, uS2, es6, TW4⟩; have HTW : Hid (TwoDone w4 w9 w14 w18 w8.heap.size w13.heap.size yA2 yS2 vD1 uA2 uS2 vD2 es4 es6 A S T R d d') := TW4; have h19 := reads_ret TW4.n1; clear TW4; clear h18)
    | (go_at_call 11; refine h19.out.mono ?_; rintro e w19 ⟨v19, rfl, yT, yR, rfl, r1, r2, g19⟩; have RR : Hid (RdU w19 yT (es4.map (·.at_)) ∧ RdUU w19 yR (es4.map (·.us)) ∧ Gr w18 w19) := ⟨r1, r2, g19⟩; have h20 := two_dropped HTW.out HF.out r1 r2 g19; clear r1 r2 g19; clear h19)
    | (go_at_call 12; refine h20.out.mono ?_; rintro e w20 ⟨v20, rfl, rfl, d20⟩; have D20 : Hid (Drawn w19 w20) := d20; have h21 := reads_ret (Node.gr (Two.n2 HTW.out) (RR.out.2.2.trans (Gr.drawn d20))); clear d20; clear h20)
    | (go_at_call 11; refine h21.out.mono ?_; rintro e w21 ⟨v21, rfl, uT, uR, rfl, q1, q2, g21⟩; have G21 : Hid (Gr w20 w21) := g21; have h22 := two_same HTW.out RR.out.1 RR.out.2.1 RR.out.2.2 D20.out q1 q2 g21; clear q1 q2 g21; clear h21)
    | (go_at_call 13; refine h22.out.mono ?_; rintro e w22 ⟨v22, rfl, rfl, d22⟩; have HE2 : Hid (Below w.heap.size w w22) := fin4 HF.out HTW.out RR.out.2.2 D20.out G21.out d22; clear d22; clear h22))
  go_ret
  exact ⟨rfl, HE2.out⟩

end Go.Proofs.Qxb6613898a
