/-
  S5751A: THE PLAIN LAW: what appendText writes is what the model writes.
-/
import Derived.Test.YbulkdobsDoorText
namespace Go.Proofs.YbulkdobsDoor

theorem tq (a c : Int) (hc : 0 < c) : a = c * a.tdiv c + a.tmod c ∧ ((0 ≤ a ∧ 0 ≤ a.tmod c ∧ a.tmod c < c) ∨ (a ≤ 0 ∧ -c < a.tmod c ∧ a.tmod c ≤ 0)) := by
  refine ⟨(Int.mul_tdiv_add_tmod a c).symm, ?_⟩
  rcases Int.le_total 0 a with h | h
  · exact .inl ⟨h, Int.tmod_nonneg _ h, Int.tmod_lt_of_pos _ hc⟩
  · have h1 := Int.tmod_nonneg c (show 0 ≤ -a by omega)
    have h2 := Int.tmod_lt_of_pos (-a) hc
    rw [Int.neg_tmod] at h1 h2
    exact .inr ⟨h, by omega, by omega⟩
theorem tu (a c q r : Int) (hc : 0 < c) (e : a = c * q + r) (h : (0 ≤ a ∧ 0 ≤ r ∧ r < c) ∨ (a ≤ 0 ∧ -c < r ∧ r ≤ 0)) : a.tdiv c = q := by
  rcases h with ⟨h0, h1, h2⟩ | ⟨h0, h1, h2⟩
  · rw [Int.tdiv_eq_ediv_of_nonneg h0, e, Int.mul_add_ediv_left _ _ (by omega), Int.ediv_eq_zero_of_lt h1 h2]
    omega
  · have e2 : (-a).tdiv c = -q := by
      rw [Int.tdiv_eq_ediv_of_nonneg (by omega), show -a = c * (-q) + -r by rw [e]; rw [Int.mul_neg]; omega, Int.mul_add_ediv_left _ _ (by omega), Int.ediv_eq_zero_of_lt (by omega) (by omega)]
      omega
    rw [Int.neg_tdiv] at e2
    omega

theorem nd2 (u : Nat) (h : u < 100) : Lib.nDigits u ≤ 2 := by
  by_cases h10 : u < 10
  · rw [Lib.nDigits_small h10]; omega
  · rw [Lib.nDigits_big h10, Lib.nDigits_small (by omega)]; omega
theorem frac_len (b : Int) : (fracT b).length ≤ 10 := by
  unfold fracT
  split
  · simp
  · rw [List.length_cons, List.length_take, d9_length]
    omega
theorem frac_zero : fracT 0 = [] := rfl

theorem piece_comp (v x : Int) (lead wt : Bool) (h : lead = true → v ≤ 0) : piece (if lead then -v else v) 0 x false wt = compT v x lead := by
  cases lead
  · simp [piece, compT, frac_zero]
  · have := h rfl
    by_cases hz : v = 0
    · simp [piece, compT, hz]
    · simp [piece, compT, hz, frac_zero, show ¬ 0 < v by omega]
theorem piece_time (v x : Int) (lead wt : Bool) (h : lead = true → v ≤ 0) : piece (if lead then -v else v) 0 x true wt = (if v ≠ 0 ∧ wt = false then [84] else []) ++ compT v x lead := by
  cases lead
  · by_cases hz : v = 0
    · simp [piece, compT, hz]
    · cases wt <;> simp [piece, compT, hz, frac_zero]
  · have := h rfl
    by_cases hz : v = 0
    · simp [piece, compT, hz]
    · cases wt <;> simp [piece, compT, hz, frac_zero, show ¬ 0 < v by omega]
theorem piece_sec (s f : Int) (lead wt : Bool) (h : lead = true → s ≤ 0 ∧ f ≤ 0) : piece (if lead then -s else s) (if lead then -f else f) 83 true wt = (if (s ≠ 0 ∨ f ≠ 0) ∧ wt = false then [84] else []) ++ secT s f lead := by
  cases lead
  · by_cases hz : s = 0 ∧ f = 0
    · simp [piece, secT, hz]
    · have hz' : s ≠ 0 ∨ f ≠ 0 := by omega
      cases wt <;> simp [piece, secT, hz, hz']
  · obtain ⟨h1, h2⟩ := h rfl
    by_cases hz : s = 0 ∧ f = 0
    · simp [piece, secT, hz]
    · have hz' : s ≠ 0 ∨ f ≠ 0 := by omega
      cases wt <;> simp [piece, secT, hz, hz', show ¬ 0 < s by omega, show ¬ 0 < f by omega]

theorem wtn_false (k b : Int) (wt : Bool) : wtn k b false wt = wt := by
  unfold wtn
  split <;> simp
theorem wtn_time (v : Int) (lead wt : Bool) : wtn (if lead then -v else v) 0 true wt = (wt || decide (v ≠ 0)) := by
  unfold wtn
  cases lead <;> by_cases hz : v = 0 <;> simp [hz]

theorem text_same (y mo dd h mi s f : Int) (lead : Bool) (hl : lead = true → y ≤ 0 ∧ mo ≤ 0 ∧ dd ≤ 0 ∧ h ≤ 0 ∧ mi ≤ 0 ∧ s ≤ 0 ∧ f ≤ 0) :
    txA (leadT lead ++ [80]) (at8 (if lead then -y else y) (if lead then -mo else mo) 0 (if lead then -dd else dd) (if lead then -h else h) (if lead then -mi else mi) (if lead then -s else s) 0) (at8 0 0 0 0 0 0 (if lead then -f else f) 0) 7 = wholeT y mo dd h mi s f lead := by
  generalize hK : at8 (if lead then -y else y) (if lead then -mo else mo) 0 (if lead then -dd else dd) (if lead then -h else h) (if lead then -mi else mi) (if lead then -s else s) 0 = K
  generalize hB : at8 0 0 0 0 0 0 (if lead then -f else f) 0 = B
  have w4 : wtA K B 4 = false := by
    show wtn _ _ false (wtn _ _ false (wtn _ _ false (wtn _ _ false false))) = false
    rw [wtn_false, wtn_false, wtn_false, wtn_false]
  have w5 : wtA K B 5 = decide (h ≠ 0) := by
    show wtn (K 4) (B 4) true (wtA K B 4) = _
    rw [w4, ← hK, ← hB]
    exact wtn_time h lead false
  have w6 : wtA K B 6 = (decide (h ≠ 0) || decide (mi ≠ 0)) := by
    show wtn (K 5) (B 5) true (wtA K B 5) = _
    rw [w5, ← hK, ← hB]
    exact wtn_time mi lead _
  have e : txA (leadT lead ++ [80]) K B 7 = leadT lead ++ [80] ++ piece (K 0) (B 0) 89 false (wtA K B 0) ++ piece (K 1) (B 1) 77 false (wtA K B 1) ++ piece (K 2) (B 2) 87 false (wtA K B 2) ++ piece (K 3) (B 3) 68 false (wtA K B 3) ++ piece (K 4) (B 4) 72 true (wtA K B 4) ++ piece (K 5) (B 5) 77 true (wtA K B 5) ++ piece (K 6) (B 6) 83 true (wtA K B 6) := rfl
  have p0 : piece (K 0) (B 0) 89 false (wtA K B 0) = compT y 89 lead := by rw [← hK, ← hB]; exact piece_comp y 89 lead _ (fun q => (hl q).1)
  have p1 : piece (K 1) (B 1) 77 false (wtA K B 1) = compT mo 77 lead := by rw [← hK, ← hB]; exact piece_comp mo 77 lead _ (fun q => (hl q).2.1)
  have p2 : piece (K 2) (B 2) 87 false (wtA K B 2) = [] := by rw [← hK, ← hB]; rfl
  have p3 : piece (K 3) (B 3) 68 false (wtA K B 3) = compT dd 68 lead := by rw [← hK, ← hB]; exact piece_comp dd 68 lead _ (fun q => (hl q).2.2.1)
  have p4 : piece (K 4) (B 4) 72 true (wtA K B 4) = (if h ≠ 0 ∧ wtA K B 4 = false then [84] else []) ++ compT h 72 lead := by rw [← hK, ← hB]; exact piece_time h 72 lead _ (fun q => (hl q).2.2.2.1)
  have p5 : piece (K 5) (B 5) 77 true (wtA K B 5) = (if mi ≠ 0 ∧ wtA K B 5 = false then [84] else []) ++ compT mi 77 lead := by rw [← hK, ← hB]; exact piece_time mi 77 lead _ (fun q => (hl q).2.2.2.2.1)
  have p6 : piece (K 6) (B 6) 83 true (wtA K B 6) = (if (s ≠ 0 ∨ f ≠ 0) ∧ wtA K B 6 = false then [84] else []) ++ secT s f lead := by rw [← hK, ← hB]; exact piece_sec s f lead _ (fun q => (hl q).2.2.2.2.2)
  rw [e, p0, p1, p2, p3, p4, p5, p6, w4, w5, w6]
  unfold wholeT dateT tT
  by_cases h1 : h = 0
  · by_cases h2 : mi = 0
    · by_cases h3 : s = 0 ∧ f = 0
      · simp [h1, h2, h3, compT]
      · have h3' : s ≠ 0 ∨ f ≠ 0 := by omega
        have h3'' : ¬ s = 0 ∨ ¬ f = 0 := h3'
        simp [h1, h2, h3'', compT]
    · simp [h1, h2, compT]
  · simp [h1]

theorem tx_step (T0 : List Int) (K B : Nat → Int) (i : Nat) : (txA T0 K B (i + 1)).length + (wtA K B i).toNat ≤ (txA T0 K B i).length + (if K i < 0 ∨ B i < 0 then 1 else 0) + Lib.nDigits (K i).natAbs + (fracT (B i).natAbs).length + 1 + (wtA K B (i + 1)).toNat := by
  show (txA T0 K B i ++ piece (K i) (B i) (uDes i) (uAt i) (wtA K B i)).length + _ ≤ _ + (wtn (K i) (B i) (uAt i) (wtA K B i)).toNat
  rw [List.length_append]
  unfold piece wtn
  by_cases hz : K i = 0 ∧ B i = 0
  · rw [if_pos hz, if_pos hz]
    simp
    omega
  · rw [if_neg hz, if_neg hz]
    simp only [List.length_append, dec_length, List.length_singleton]
    generalize (fracT (B i).natAbs).length = a
    generalize Lib.nDigits (K i).natAbs = b
    cases uAt i <;> cases wtA K B i <;> simp <;> split <;> simp <;> omega

theorem partsA (m dd n : Int) (lead : Bool) (hm : -12000000000 < m ∧ m < 12000000000) (hd : -1000000000 < dd ∧ dd < 1000000000) (hn : -86400000000000 < n ∧ n < 86400000000000) :
    Parts (if lead then -m else m) (if lead then -dd else dd) (if lead then -n else n) (if lead then -(m.tdiv 12) else m.tdiv 12) (if lead then -(m.tmod 12) else m.tmod 12) (if lead then -(n.tdiv 3600000000000) else n.tdiv 3600000000000) (if lead then -((n.tmod 3600000000000).tdiv 60000000000) else (n.tmod 3600000000000).tdiv 60000000000) (if lead then -((n.tmod 60000000000).tdiv 1000000000) else (n.tmod 60000000000).tdiv 1000000000) (if lead then -(n.tmod 1000000000) else n.tmod 1000000000) (if lead then -(n.tmod 3600000000000) else n.tmod 3600000000000) (if lead then -(n.tmod 60000000000) else n.tmod 60000000000) := by
  obtain ⟨m1, m2⟩ := tq m 12 (by omega)
  obtain ⟨n1, n2⟩ := tq n 3600000000000 (by omega)
  obtain ⟨n3, n4⟩ := tq n 60000000000 (by omega)
  obtain ⟨n5, n6⟩ := tq n 1000000000 (by omega)
  have emi := tu (n.tmod 3600000000000) 60000000000 (n.tdiv 60000000000 - 60 * n.tdiv 3600000000000) (n.tmod 60000000000) (by omega) (by omega) (by omega)
  have es := tu (n.tmod 60000000000) 1000000000 (n.tdiv 1000000000 - 60 * n.tdiv 60000000000) (n.tmod 1000000000) (by omega) (by omega) (by omega)
  rw [emi, es]
  generalize m.tdiv 12 = y at *
  generalize m.tmod 12 = mo at *
  generalize n.tdiv 3600000000000 = h at *
  generalize n.tmod 3600000000000 = r1 at *
  generalize n.tdiv 60000000000 = q2 at *
  generalize n.tmod 60000000000 = r2 at *
  generalize n.tdiv 1000000000 = q3 at *
  generalize n.tmod 1000000000 = f at *
  cases lead
  · simp only [Bool.false_eq_true, if_false]
    exact { ey := tu m 12 y mo (by omega) m1 (by omega), emo := by omega, eh := tu n 3600000000000 h r1 (by omega) n1 (by omega), e1 := by omega, emi := emi, e2 := by omega, es := es, ef := by omega, by_ := by omega, bmo := by omega, bM := hm, bD := hd, bN := hn, bh := by omega, b1 := by omega, bmi := by omega, b2 := by omega, bs := by omega, bf := by omega, sgn := by omega }
  · simp only [if_true]
    exact { ey := tu (-m) 12 (-y) (-mo) (by omega) (by omega) (by omega), emo := by omega, eh := tu (-n) 3600000000000 (-h) (-r1) (by omega) (by omega) (by omega), e1 := by omega, emi := tu (-r1) 60000000000 (-(q2 - 60 * h)) (-r2) (by omega) (by omega) (by omega), e2 := by omega, es := tu (-r2) 1000000000 (-(q3 - 60 * q2)) (-f) (by omega) (by omega) (by omega), ef := by omega, by_ := by omega, bmo := by omega, bM := by omega, bD := by omega, bN := by omega, bh := by omega, b1 := by omega, bmi := by omega, b2 := by omega, bs := by omega, bf := by omega, sgn := by omega }

/-- The signs. -/
theorem signsA (m n : Int) :
    ((m ≤ 0 ↔ (m.tdiv 12 ≤ 0 ∧ m.tmod 12 ≤ 0)) ∧ (0 ≤ m ↔ (0 ≤ m.tdiv 12 ∧ 0 ≤ m.tmod 12))) ∧ ((n ≤ 0 ↔ (n.tdiv 3600000000000 ≤ 0 ∧ (n.tmod 3600000000000).tdiv 60000000000 ≤ 0 ∧ (n.tmod 60000000000).tdiv 1000000000 ≤ 0 ∧ n.tmod 1000000000 ≤ 0)) ∧ (0 ≤ n ↔ (0 ≤ n.tdiv 3600000000000 ∧ 0 ≤ (n.tmod 3600000000000).tdiv 60000000000 ∧ 0 ≤ (n.tmod 60000000000).tdiv 1000000000 ∧ 0 ≤ n.tmod 1000000000))) := by
  obtain ⟨m1, m2⟩ := tq m 12 (by omega)
  obtain ⟨n1, n2⟩ := tq n 3600000000000 (by omega)
  obtain ⟨n3, n4⟩ := tq n 60000000000 (by omega)
  obtain ⟨n5, n6⟩ := tq n 1000000000 (by omega)
  have emi := tu (n.tmod 3600000000000) 60000000000 (n.tdiv 60000000000 - 60 * n.tdiv 3600000000000) (n.tmod 60000000000) (by omega) (by omega) (by omega)
  have es := tu (n.tmod 60000000000) 1000000000 (n.tdiv 1000000000 - 60 * n.tdiv 60000000000) (n.tmod 1000000000) (by omega) (by omega) (by omega)
  rw [emi, es]
  generalize m.tdiv 12 = y at *
  generalize m.tmod 12 = mo at *
  generalize n.tdiv 3600000000000 = h at *
  generalize n.tmod 3600000000000 = r1 at *
  generalize n.tdiv 60000000000 = q2 at *
  generalize n.tmod 60000000000 = r2 at *
  generalize n.tdiv 1000000000 = q3 at *
  generalize n.tmod 1000000000 = f at *
  clear emi es
  refine ⟨⟨⟨fun _ => ⟨by omega, by omega⟩, fun _ => by omega⟩, ⟨fun _ => ⟨by omega, by omega⟩, fun _ => by omega⟩⟩, ⟨⟨fun _ => ⟨by omega, by omega, by omega, by omega⟩, fun _ => by omega⟩, ⟨fun _ => ⟨by omega, by omega, by omega, by omega⟩, fun _ => by omega⟩⟩⟩

theorem sgz (a b : Int) : (if a < 0 ∨ b < 0 then 1 else 0 : Nat) ≤ 1 ∧ (0 ≤ a → 0 ≤ b → (if a < 0 ∨ b < 0 then 1 else 0 : Nat) = 0) := by
  refine ⟨by split <;> omega, fun h1 h2 => if_neg (by omega)⟩

theorem roomA {M D N y mo h mi s f N1 N2 : Int} (P : Parts M D N y mo h mi s f N1 N2) (lead : Bool) (h1 : lead = true → 0 ≤ y ∧ 0 ≤ mo ∧ 0 ≤ D ∧ 0 ≤ h ∧ 0 ≤ mi ∧ 0 ≤ s ∧ 0 ≤ f) (h2 : (0 ≤ y ∧ 0 ≤ mo) ∨ (0 ≤ D ∧ 0 ≤ h ∧ 0 ≤ mi ∧ 0 ≤ s ∧ 0 ≤ f)) :
    (∀ i, i < 7 → (txA (leadT lead ++ [80]) (at8 y mo 0 D h mi s 0) (at8 0 0 0 0 0 0 f 0) (i + 1)).length ≤ 48) ∧ (txA (leadT lead ++ [80]) (at8 y mo 0 D h mi s 0) (at8 0 0 0 0 0 0 f 0) 6).length + (if wtA (at8 y mo 0 D h mi s 0) (at8 0 0 0 0 0 0 f 0) 6 = true then 14 else 15) ≤ 48 := by
  have p1 := P.by_; have p2 := P.bmo; have p3 := P.bD; have p4 := P.bh; have p5 := P.bmi; have p6 := P.bs; have p7 := P.bf
  generalize hT : leadT lead ++ [80] = T0
  have hT0 : T0.length = (if lead = true then 1 else 0) + 1 := by rw [← hT]; cases lead <;> rfl
  generalize hK : at8 y mo 0 D h mi s 0 = K
  generalize hB : at8 0 0 0 0 0 0 f 0 = B
  have e0 : (txA T0 K B 0).length = T0.length := rfl
  have e2 : (txA T0 K B 3).length = (txA T0 K B 2).length := by
    have : txA T0 K B 3 = txA T0 K B 2 ++ piece (K 2) (B 2) 87 false (wtA K B 2) := rfl
    rw [this, ← hK, ← hB]
    exact congrArg List.length (List.append_nil _)
  have w3 : wtA K B 3 = wtA K B 2 := wtn_false _ _ _
  have s0 := tx_step T0 K B 0
  have s1 := tx_step T0 K B 1
  have s3 := tx_step T0 K B 3
  have s4 := tx_step T0 K B 4
  have s5 := tx_step T0 K B 5
  have s6 := tx_step T0 K B 6
  have w0 : (wtA K B 0).toNat = 0 := rfl
  have k0 : K 0 = y := by rw [← hK]; rfl
  have k1 : K 1 = mo := by rw [← hK]; rfl
  have k3 : K 3 = D := by rw [← hK]; rfl
  have k4 : K 4 = h := by rw [← hK]; rfl
  have k5 : K 5 = mi := by rw [← hK]; rfl
  have k6 : K 6 = s := by rw [← hK]; rfl
  have b0 : B 0 = 0 := by rw [← hB]; rfl
  have b1 : B 1 = 0 := by rw [← hB]; rfl
  have b3 : B 3 = 0 := by rw [← hB]; rfl
  have b4 : B 4 = 0 := by rw [← hB]; rfl
  have b5 : B 5 = 0 := by rw [← hB]; rfl
  have b6 : B 6 = f := by rw [← hB]; rfl
  have fz : (fracT ((0 : Int).natAbs : Int)).length = 0 := rfl
  rw [k0, b0, fz] at s0
  rw [k1, b1, fz] at s1
  rw [k3, b3, fz, w3] at s3
  rw [k4, b4, fz] at s4
  rw [k5, b5, fz] at s5
  rw [k6, b6] at s6
  simp only [Nat.zero_add, Nat.reduceAdd] at s0 s1 s3 s4 s5 s6
  obtain ⟨z0, z0'⟩ := sgz y 0
  obtain ⟨z1, z1'⟩ := sgz mo 0
  obtain ⟨z3, z3'⟩ := sgz D 0
  obtain ⟨z4, z4'⟩ := sgz h 0
  obtain ⟨z5, z5'⟩ := sgz mi 0
  obtain ⟨z6, z6'⟩ := sgz s f
  generalize (if y < 0 ∨ (0 : Int) < 0 then 1 else 0 : Nat) = g0 at *
  generalize (if mo < 0 ∨ (0 : Int) < 0 then 1 else 0 : Nat) = g1 at *
  generalize (if D < 0 ∨ (0 : Int) < 0 then 1 else 0 : Nat) = g3 at *
  generalize (if h < 0 ∨ (0 : Int) < 0 then 1 else 0 : Nat) = g4 at *
  generalize (if mi < 0 ∨ (0 : Int) < 0 then 1 else 0 : Nat) = g5 at *
  generalize (if s < 0 ∨ f < 0 then 1 else 0 : Nat) = g6 at *
  have d0 := nd9 y.natAbs (by omega)
  have d1 := nd2 mo.natAbs (by omega)
  have d3 := nd9 D.natAbs (by omega)
  have d4 := nd2 h.natAbs (by omega)
  have d5 := nd2 mi.natAbs (by omega)
  have d6 := nd2 s.natAbs (by omega)
  have d7 := frac_len f.natAbs
  have t6 : (wtA K B 6).toNat = if wtA K B 6 = true then 1 else 0 := by cases wtA K B 6 <;> rfl
  have t1 := Bool.toNat_le (wtA K B 1)
  have t2 := Bool.toNat_le (wtA K B 2)
  have t4 := Bool.toNat_le (wtA K B 4)
  have t5 := Bool.toNat_le (wtA K B 5)
  have t7 := Bool.toNat_le (wtA K B 7)
  have hfin : (txA T0 K B 1).length ≤ 48 ∧ (txA T0 K B 2).length ≤ 48 ∧ (txA T0 K B 4).length ≤ 48 ∧ (txA T0 K B 5).length ≤ 48 ∧ (txA T0 K B 6).length ≤ 48 ∧ (txA T0 K B 7).length ≤ 48 ∧ (txA T0 K B 6).length + (if wtA K B 6 = true then 14 else 15) ≤ 48 := by
    have ht6 : (if wtA K B 6 = true then 14 else 15) + (wtA K B 6).toNat = 15 := by cases wtA K B 6 <;> rfl
    generalize (if wtA K B 6 = true then 14 else 15) = c6 at *
    clear t6
    cases lead
    · simp only [Bool.false_eq_true, if_false] at hT0
      rcases h2 with h2 | h2
      · have q0 := z0' h2.1 (by omega)
        have q1 := z1' h2.2 (by omega)
        clear z0' z1' z3' z4' z5' z6' h1 h2 p1 p2 p3 p4 p5 p6 p7
        refine ⟨?_, ?_, ?_, ?_, ?_, ?_, ?_⟩ <;> omega
      · have q3 := z3' h2.1 (by omega)
        have q4 := z4' h2.2.1 (by omega)
        have q5 := z5' h2.2.2.1 (by omega)
        have q6 := z6' h2.2.2.2.1 h2.2.2.2.2
        clear z0' z1' z3' z4' z5' z6' h1 h2 p1 p2 p3 p4 p5 p6 p7
        refine ⟨?_, ?_, ?_, ?_, ?_, ?_, ?_⟩ <;> omega
    · have hh := h1 rfl
      simp only [if_true] at hT0
      have q0 := z0' hh.1 (by omega)
      have q1 := z1' hh.2.1 (by omega)
      have q3 := z3' hh.2.2.1 (by omega)
      have q4 := z4' hh.2.2.2.1 (by omega)
      have q5 := z5' hh.2.2.2.2.1 (by omega)
      have q6 := z6' hh.2.2.2.2.2.1 hh.2.2.2.2.2.2
      clear z0' z1' z3' z4' z5' z6' h1 h2 hh p1 p2 p3 p4 p5 p6 p7
      refine ⟨?_, ?_, ?_, ?_, ?_, ?_, ?_⟩ <;> omega
  obtain ⟨f1, f2, f4, f5, f6, f7, f8⟩ := hfin
  refine ⟨fun i hi => ?_, f8⟩
  rcases seven hi with rfl | rfl | rfl | rfl | rfl | rfl | rfl
  · exact f1
  · exact f2
  · show (txA T0 K B 3).length ≤ 48; rw [e2]; exact f2
  · exact f4
  · exact f5
  · exact f6
  · exact f7

end Go.Proofs.YbulkdobsDoor
