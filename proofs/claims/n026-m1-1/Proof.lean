import JvmDerived
import JvmDerived.Pilot.@@N@@Statement
import JvmDerived.Pilot.@@N@@Code
set_option linter.unusedVariables false
set_option linter.unusedSimpArgs false
namespace Jvm.RoadKit
open Sem ClassFile Op Lib Jvm.Stand Jvm.Free Jvm.LawKit
section New
variable {p : Program} {l : Launch} {e : Env} {R : Room} {s : State} {m : MethodId} {args : Array Value} {below : List Frame} {meth : Method} {c : Code} {T : State} {locs : List Loc} {cells slots : Nat}
theorem retI (X : Stand p l e R s m args below meth c T locs cells slots) (hx : p.tables.exec = Jvm.exec) {pc : Nat} {Ls : Array Slot} {z : Int32} {rest : List Value} (hret : meth.sig.returnType = some .int) (hd : decode c.code pc = .ok (.ireturn, 1)) {fs : List Frame}
    (hl : ∀ (f : JFrame) (acts : List Action), f.method = m → f.locked = none → f.entered = [] → (doReturn e (T.setTop f) acts (some (.int z))).1 = T.setFrames fs) : Steps p.tables e below (T.setTop (mkF m pc Ls (.int z :: rest))) (T.setFrames fs) := by
  have hm' : T.vm.method? m = some meth := X.method'
  have hn : narrow .int (.int z) = .int z := rfl
  show Steps p.tables e below (T.setTop { method := m, pc := pc, locals := Ls, stack := _ :: rest, locked := none }) _
  jvm_step X.here [X.here.top, hx, hd, hm', hret, hn]
  first | (intro acts; rw [hl _ acts rfl rfl rfl]) | rw [hl _ _ rfl rfl rfl]
  exact Steps.refl _
end New
end Jvm.RoadKit
namespace Jvm.Pilot.@@N@@
open Jvm Jvm.ClassFile Sem Op Lib Jvm.Free Jvm.Stand Jvm.LawKit Jvm.RoadKit Bundle Jvm.Pilot.@@N@@.Jvm.D
/-! plain numbers -/
def own_dg (N t : Nat) : Nat := N / 10 ^ t % 10
def own_b (d : Nat) : Int32 := Int32.ofNat (48 + d)
/-- N has L decimal digits -/
def own_dl (N L : Nat) : Prop := 1 ≤ L ∧ N < 10 ^ L ∧ (L = 1 ∨ 10 ^ (L - 1) ≤ N)
theorem own_dl_ex (N : Nat) : ∃ L, own_dl N L := by
  induction N using Nat.strongRecOn with
  | ind N ih =>
    by_cases h : N < 10
    · exact ⟨1, Nat.le_refl 1, by simpa using h, Or.inl rfl⟩
    · obtain ⟨L, h1, h2, h3⟩ := ih (N / 10) (by omega)
      refine ⟨L + 1, by omega, ?_, Or.inr ?_⟩
      · rw [Nat.pow_succ]; omega
      · show 10 ^ L ≤ N
        rcases h3 with rfl | h3
        · simp; omega
        · obtain ⟨k, rfl⟩ : ∃ k, L = k + 1 := ⟨L - 1, by omega⟩
          simp only [Nat.add_sub_cancel] at h3
          rw [Nat.pow_succ]; omega
theorem own_dl_19 {N L : Nat} (h : own_dl N L) (hN : N < 10 ^ 19) : L ≤ 19 := by
  obtain ⟨h1, h2, h3⟩ := h
  rcases h3 with rfl | h3
  · decide
  · have : L - 1 < 19 := (Nat.pow_lt_pow_iff_right (by decide : 1 < 10)).mp (Nat.lt_of_le_of_lt h3 hN)
    omega
theorem own_dl_step {M k : Nat} (h : own_dl M (k + 2)) : own_dl (M / 10) (k + 1) ∧ M / 10 ≠ 0 := by
  obtain ⟨h1, h2, h3⟩ := h
  have h3' : 10 ^ (k + 1) ≤ M := by rcases h3 with h3 | h3
                                    · omega
                                    · exact h3
  rw [Nat.pow_succ] at h2 h3'
  have hp : 0 < 10 ^ k := Nat.pow_pos (by decide)
  refine ⟨⟨by omega, by rw [Nat.pow_succ] at h2 ⊢; omega, Or.inr ?_⟩, by omega⟩
  show 10 ^ k ≤ M / 10
  omega
theorem own_dl_last {M : Nat} (h : own_dl M 1) : M < 10 := by have := h.2.1; simpa using this
theorem own_dg_succ (M t : Nat) : own_dg (M / 10) t = own_dg M (t + 1) := by
  unfold own_dg
  rw [Nat.div_div_eq_div_mul, Nat.pow_succ, Nat.mul_comm]
theorem own_dg_lt (N t : Nat) : own_dg N t < 10 := Nat.mod_lt _ (by decide)
theorem own_dg_lead {N k : Nat} (h : own_dl N (k + 1)) (hN : N ≠ 0) : own_dg N k ≠ 0 := by
  obtain ⟨h1, h2, h3⟩ := h
  have hp : 0 < 10 ^ k := Nat.pow_pos (by decide)
  have hle : 10 ^ k ≤ N := by
    rcases h3 with h3 | h3
    · obtain rfl : k = 0 := by omega
      simp; omega
    · exact h3
  have h4 : N / 10 ^ k < 10 := by rw [Nat.div_lt_iff_lt_mul hp]; rw [Nat.pow_succ] at h2; omega
  have h5 : 1 ≤ N / 10 ^ k := (Nat.le_div_iff_mul_le hp).mpr (by omega)
  unfold own_dg
  rw [Nat.mod_eq_of_lt h4]; omega
/-- the prefix grows by a digit -/
theorem own_pref (N k : Nat) : N / 10 ^ k = 10 * (N / 10 ^ (k + 1)) + own_dg N k := by
  unfold own_dg
  rw [Nat.pow_succ, ← Nat.div_div_eq_div_mul]
  omega
theorem own_pref_le (N k : Nat) : N / 10 ^ k ≤ N := Nat.div_le_self _ _
theorem own_b_int {d : Nat} (h : d < 10) : (own_b d).toInt = 48 + (d : Int) := by
  have key : ∀ d, d < 10 → (own_b d).toInt = 48 + (d : Int) := by decide
  exact key d h
theorem own_b_ne {d : Nat} (h : d < 10) : ¬ own_b d = (45 : Int32) := by
  have key : ∀ d, d < 10 → ¬ own_b d = (45 : Int32) := by decide
  exact key d h
theorem own_b_48 {d : Nat} (h : d < 10) : own_b d = (48 : Int32) ↔ d = 0 := by
  have key : ∀ d, d < 10 → (own_b d = (48 : Int32) ↔ d = 0) := by decide
  exact key d h
theorem own_b_nar {d : Nat} (h : d < 10) : nar .byte (own_b d) = own_b d := by
  have key : ∀ d, d < 10 → nar .byte (own_b d) = own_b d := by decide
  exact key d h
theorem own_nat30 : ∀ n : Nat, n < 30 → (¬ Int32.ofNat n < 0 ∧ Int32.ofNat n < 30) ∧ (Int32.ofNat n).toNatClampNeg = n ∧ (Int32.ofNat n).toInt = (n : Int) := fun n hn => by
  have h1 := clamp_of (n := Int32.ofNat n) rfl (by omega : n < 2 ^ 31)
  have h2 := toInt_of (n := Int32.ofNat n) rfl (by omega : n < 2 ^ 31)
  have e0 : (0 : Int32).toInt = 0 := by decide
  have e30 : (30 : Int32).toInt = 30 := by decide
  exact ⟨⟨fun q => by have := Int32.lt_iff_toInt_lt.mp q; omega, Int32.lt_iff_toInt_lt.mpr (by omega)⟩, h1, h2⟩
theorem own_lt30 {a c : Nat} (ha : a < 30) (hc : c < 30) : Int32.ofNat a < Int32.ofNat c ↔ a < c := by
  rw [Int32.lt_iff_toInt_lt, (own_nat30 a ha).2.2, (own_nat30 c hc).2.2]; omega
theorem own_dec30 {c : Nat} (hc : 0 < c) : Int32.ofNat c - (1 : Int32) = Int32.ofNat (c - 1) := by
  obtain ⟨k, rfl⟩ : ∃ k, c = k + 1 := ⟨c - 1, by omega⟩
  exact dec_ofNat k
theorem own_decm {c : Nat} (hc : 0 < c) : Int32.ofNat c + (-1 : Int32) = Int32.ofNat (c - 1) := by
  rw [← own_dec30 hc, Int32.sub_eq_add_neg]
/-- one turn of write's first loop on numbers -/
theorem own_rem {r : Int64} {M : Nat} (hr : r.toInt = -(M : Int)) : ((48 : Int64) - (r - (r / (10 : Int64)) * (10 : Int64))).toInt32.toInt8.toInt32 = own_b (M % 10) := by
  have h1 := c_lrem r 10 10 (by decide)
  have h2 : (r - (r / (10 : Int64)) * (10 : Int64)).toInt = -((M % 10 : Nat) : Int) := by
    by_cases h : r.toInt < 0
    · have := h1.2 h; omega
    · have := h1.1 (by omega); omega
  generalize r - (r / (10 : Int64)) * (10 : Int64) = x at h2
  have h3 := c_lsub 48 x
  have h4 := rng64 ((48 : Int64) - x)
  have e48 : (48 : Int64).toInt = 48 := by decide
  have h5 := c_l2i ((48 : Int64) - x)
  have h6 := rng32 ((48 : Int64) - x).toInt32
  have h7 := c_i2b ((48 : Int64) - x).toInt32
  have hm : M % 10 < 10 := Nat.mod_lt _ (by decide)
  apply Int32.toInt_inj.mp
  rw [own_b_int hm]
  omega
theorem own_quo {r : Int64} {M : Nat} (hr : r.toInt = -(M : Int)) : (r / (10 : Int64)).toInt = -((M / 10 : Nat) : Int) := by
  have h1 := c_ldiv r 10 10 (by decide) (by decide)
  by_cases h : r.toInt < 0
  · have := h1.2 h; omega
  · have := h1.1 (by omega); omega
theorem own_quo0 {r : Int64} {M : Nat} (hr : r.toInt = -(M : Int)) : r / (10 : Int64) = (0 : Int64) ↔ M / 10 = 0 := by
  have h1 := own_quo hr
  have e0 : (0 : Int64).toInt = 0 := by decide
  constructor
  · intro q; rw [q] at h1; omega
  · intro q; apply Int64.toInt_inj.mp; rw [h1, e0, q]; rfl
/-- the byte array as a function -/
def own_vs (f : Nat → Int32) : List Value := (List.range 30).map fun i => Value.int (f i)
def own_buf (Z : State) (h : Heap) (b : Addr) (k : ClassId) (f : Nat → Int32) : Prop := Arv Z h b k .byte 30 (own_vs f) (.int 0)
def own_upd (f : Nat → Int32) (n : Nat) (x : Int32) : Nat → Int32 := fun j => if j = n then x else f j
theorem own_vs_len (f : Nat → Int32) : (own_vs f).length = 30 := by simp [own_vs]
theorem own_vs_get (f : Nat → Int32) {n : Nat} (hn : n < 30) : (own_vs f).getD (Int32.ofNat n).toNatClampNeg (.int 0) = .int (f n) := by
  rw [(own_nat30 n hn).2.1]
  simp [own_vs, List.getD, hn]
theorem own_vs_set (f : Nat → Int32) (n : Nat) (x : Int32) : (own_vs f).set n (.int x) = own_vs (own_upd f n x) := by
  apply List.ext_getElem
  · simp [own_vs]
  · intro i h1 h2
    have hi : i < 30 := by simpa [own_vs] using h2
    simp only [own_vs, List.getElem_set, List.getElem_map, List.getElem_range, own_upd]
    by_cases h : n = i
    · simp [h]
    · have h' : ¬ i = n := fun q => h q.symm
      simp [h, h']
section OwnB
variable {Z : State} {h h' : Heap} {b : Addr} {k : ClassId} {f : Nat → Int32}
theorem own_put {n : Nat} {x : Int32} (hn : n < 30) (F : own_buf Z h b k f) (W : Wr h h' b (Int32.ofNat n).toNatClampNeg (.int (nar .byte x))) : own_buf Z h' b k (own_upd f n (nar .byte x)) := by
  obtain ⟨c, A, q1, S, q3, H, G⟩ := F
  have := Arv.set A q1 S q3 H G (fits_nar_byte x) W n (own_nat30 n hn).2.1 (by rw [own_vs_len]; exact hn)
  rw [own_vs_set] at this
  exact this
theorem own_narb {x : Int32} (h : fits .byte (.int x) = true) : nar .byte x = x := by
  obtain ⟨h1, h2⟩ := rng_byte h
  have g1 : ¬ x.toInt < (-128 : Int32).toInt := fun q => h1 (Int32.lt_iff_toInt_lt.mpr q)
  have g2 : ¬ (127 : Int32).toInt < x.toInt := fun q => h2 (Int32.lt_iff_toInt_lt.mpr q)
  have e1 : (-128 : Int32).toInt = -128 := by decide
  have e2 : (127 : Int32).toInt = 127 := by decide
  have h3 := c_i2b x
  apply Int32.toInt_inj.mp
  show x.toInt8.toInt32.toInt = x.toInt
  omega
theorem own_fitb (F : own_buf Z h b k f) {n : Nat} (hn : n < 30) : nar .byte (f n) = f n := by
  obtain ⟨c, A, q1, S, q3, H, G⟩ := F
  have hs : c.slots.size = 30 := S.trans (by decide)
  have := G n (by omega)
  have e : (own_vs f).getD n (.int 0) = .int (f n) := by simp [own_vs, List.getD, hn]
  rw [e] at this
  exact own_narb this
end OwnB
/-- swapping inwards turns a stretch around -/
theorem own_swap (f : Nat → Int32) (a c : Nat) (h : a < c) (g : Nat → Int32) (hg : ∀ j, g j = if a + 1 ≤ j ∧ j ≤ c - 1 then (own_upd (own_upd f a (f c)) c (f a)) (a + 1 + (c - 1) - j) else (own_upd (own_upd f a (f c)) c (f a)) j) (j : Nat) : g j = if a ≤ j ∧ j ≤ c then f (a + c - j) else f j := by
  rw [hg j]
  unfold own_upd
  by_cases h1 : a + 1 ≤ j ∧ j ≤ c - 1
  · have e1 : ¬ a + 1 + (c - 1) - j = c := by omega
    have e2 : ¬ a + 1 + (c - 1) - j = a := by omega
    have e3 : a ≤ j ∧ j ≤ c := by omega
    rw [if_pos h1, if_neg e1, if_neg e2, if_pos e3]
    congr 1; omega
  · rw [if_neg h1]
    by_cases h2 : j = c
    · have e3 : a ≤ j ∧ j ≤ c := by omega
      rw [if_pos h2, if_pos e3]; congr 1; omega
    · rw [if_neg h2]
      by_cases h3 : j = a
      · have e3 : a ≤ j ∧ j ≤ c := by omega
        rw [if_pos h3, if_pos e3]; congr 1; omega
      · have e3 : ¬ (a ≤ j ∧ j ≤ c) := by omega
        rw [if_neg h3, if_neg e3]
/-- one turn of parse's loop on numbers: acc holds minus the prefix -/
theorem own_dgt {x : Int32} {d : Nat} (hd : d < 10) (hx : x = own_b d) : (x - (48 : Int32)).toInt = (d : Int) := by
  subst hx
  have h1 := c_isub (own_b d) 48
  have h2 := own_b_int hd
  have h3 := rng32 (own_b d - (48 : Int32))
  have e : (48 : Int32).toInt = 48 := by decide
  omega
theorem own_lim {lim acc : Int64} {Lm M d : Nat} (hl : lim.toInt = -(Lm : Int)) (hL : Lm ≤ 9223372036854775808) (ha : acc.toInt = -(M : Int)) (hM : 10 * M + d ≤ Lm) : ¬ acc < lim / (10 : Int64) := fun q => by
  have q' := Int64.lt_iff_toInt_lt.mp q
  have h1 := c_ldiv lim 10 10 (by decide) (by decide)
  by_cases h : lim.toInt < 0
  · have := h1.2 h; omega
  · have := h1.1 (by omega); omega
theorem own_mul10 {acc : Int64} {Lm M d : Nat} (hL : Lm ≤ 9223372036854775808) (ha : acc.toInt = -(M : Int)) (hM : 10 * M + d ≤ Lm) : (acc * (10 : Int64)).toInt = -((10 * M : Nat) : Int) := by
  have h1 := c_lmul acc 10
  have e : (10 : Int64).toInt = 10 := by decide
  have h2 := rng64 (acc * (10 : Int64))
  rw [ha, e] at h1
  omega
theorem own_lim2 {lim acc : Int64} {Lm M d : Nat} {x : Int32} (hl : lim.toInt = -(Lm : Int)) (hL : Lm ≤ 9223372036854775808) (ha : acc.toInt = -(M : Int)) (hM : 10 * M + d ≤ Lm) (hd : d < 10) (hx : x.toInt = (d : Int)) : ¬ (acc * (10 : Int64)) < (lim + (x.toInt64)) := fun q => by
  have q' := Int64.lt_iff_toInt_lt.mp q
  rw [own_mul10 hL ha hM] at q'
  have h1 := c_ladd lim x.toInt64
  have h2 := c_i2l x
  have h3 := rng64 (lim + x.toInt64)
  omega
theorem own_sub {acc : Int64} {Lm M d : Nat} {x : Int32} (hL : Lm ≤ 9223372036854775808) (ha : acc.toInt = -(M : Int)) (hM : 10 * M + d ≤ Lm) (hx : x.toInt = (d : Int)) : ((acc * (10 : Int64)) - (x.toInt64)).toInt = -((10 * M + d : Nat) : Int) := by
  have h0 := own_mul10 hL ha hM
  have h1 := c_lsub (acc * (10 : Int64)) x.toInt64
  have h2 := c_i2l x
  have h3 := rng64 ((acc * (10 : Int64)) - x.toInt64)
  rw [h0] at h1
  omega
/-- what write leaves behind -/
def own_done (f g : Nat → Int32) (v : Int64) (a s L : Nat) : Prop :=
  (v < (0 : Int64) → s = 1 ∧ g a = (45 : Int32)) ∧ (¬ v < (0 : Int64) → s = 0) ∧ own_dl v.toInt.natAbs L ∧ (∀ t, t < L → g (a + s + t) = own_b (own_dg v.toInt.natAbs (L - 1 - t))) ∧ ∀ j, j < a ∨ a + s + L ≤ j → g j = f j
theorem own_abs_lt (v : Int64) : v.toInt.natAbs < 10 ^ 19 := by
  have := rng64 v
  have e : (10 : Nat) ^ 19 = 10000000000000000000 := by decide
  rw [e]; omega
theorem own_absle {v : Int64} (h : ¬ v < (0 : Int64)) : v.toInt.natAbs ≤ 9223372036854775807 := by
  have h0 : ¬ v.toInt < (0 : Int64).toInt := fun q => h (Int64.lt_iff_toInt_lt.mpr q)
  have e0 : (0 : Int64).toInt = 0 := by decide
  have := rng64 v
  omega
theorem d1_0 : decode prog_143_method_4_code 0 = .ok (.iload_n 3, 1) := by decide +kernel
theorem d1_1 : decode prog_143_method_4_code 1 = .ok (.istore 4, 2) := by decide +kernel
theorem d1_3 : decode prog_143_method_4_code 3 = .ok (.lload_n 0, 1) := by decide +kernel
theorem d1_4 : decode prog_143_method_4_code 4 = .ok (.lconst 0, 1) := by decide +kernel
theorem d1_5 : decode prog_143_method_4_code 5 = .ok (.lcmp, 1) := by decide +kernel
theorem d1_6 : decode prog_143_method_4_code 6 = .ok (.ifCond .ge 12, 3) := by decide +kernel
theorem d1_9 : decode prog_143_method_4_code 9 = .ok (.aload_n 2, 1) := by decide +kernel
theorem d1_10 : decode prog_143_method_4_code 10 = .ok (.iload 4, 2) := by decide +kernel
theorem d1_12 : decode prog_143_method_4_code 12 = .ok (.iinc 4 1, 3) := by decide +kernel
theorem d1_15 : decode prog_143_method_4_code 15 = .ok (.bipush 45, 2) := by decide +kernel
theorem d1_17 : decode prog_143_method_4_code 17 = .ok (.bastore, 1) := by decide +kernel
theorem d1_18 : decode prog_143_method_4_code 18 = .ok (.iload 4, 2) := by decide +kernel
theorem d1_20 : decode prog_143_method_4_code 20 = .ok (.istore 5, 2) := by decide +kernel
theorem d1_22 : decode prog_143_method_4_code 22 = .ok (.lload_n 0, 1) := by decide +kernel
theorem d1_23 : decode prog_143_method_4_code 23 = .ok (.lconst 0, 1) := by decide +kernel
theorem d1_24 : decode prog_143_method_4_code 24 = .ok (.lcmp, 1) := by decide +kernel
theorem d1_25 : decode prog_143_method_4_code 25 = .ok (.ifCond .ge 7, 3) := by decide +kernel
theorem d1_28 : decode prog_143_method_4_code 28 = .ok (.lload_n 0, 1) := by decide +kernel
theorem d1_29 : decode prog_143_method_4_code 29 = .ok (.goto 5, 3) := by decide +kernel
theorem d1_32 : decode prog_143_method_4_code 32 = .ok (.lload_n 0, 1) := by decide +kernel
theorem d1_33 : decode prog_143_method_4_code 33 = .ok (.lneg, 1) := by decide +kernel
theorem d1_34 : decode prog_143_method_4_code 34 = .ok (.lstore 6, 2) := by decide +kernel
theorem d1_36 : decode prog_143_method_4_code 36 = .ok (.aload_n 2, 1) := by decide +kernel
theorem d1_37 : decode prog_143_method_4_code 37 = .ok (.iload 4, 2) := by decide +kernel
theorem d1_39 : decode prog_143_method_4_code 39 = .ok (.iinc 4 1, 3) := by decide +kernel
theorem d1_42 : decode prog_143_method_4_code 42 = .ok (.ldc2_w 31, 3) := by decide +kernel
theorem d1_45 : decode prog_143_method_4_code 45 = .ok (.lload 6, 2) := by decide +kernel
theorem d1_47 : decode prog_143_method_4_code 47 = .ok (.ldc2_w 19, 3) := by decide +kernel
theorem d1_50 : decode prog_143_method_4_code 50 = .ok (.lrem, 1) := by decide +kernel
theorem d1_51 : decode prog_143_method_4_code 51 = .ok (.lsub, 1) := by decide +kernel
theorem d1_52 : decode prog_143_method_4_code 52 = .ok (.l2i, 1) := by decide +kernel
theorem d1_53 : decode prog_143_method_4_code 53 = .ok (.i2b, 1) := by decide +kernel
theorem d1_54 : decode prog_143_method_4_code 54 = .ok (.bastore, 1) := by decide +kernel
theorem d1_55 : decode prog_143_method_4_code 55 = .ok (.lload 6, 2) := by decide +kernel
theorem d1_57 : decode prog_143_method_4_code 57 = .ok (.ldc2_w 19, 3) := by decide +kernel
theorem d1_60 : decode prog_143_method_4_code 60 = .ok (.ldiv, 1) := by decide +kernel
theorem d1_61 : decode prog_143_method_4_code 61 = .ok (.lstore 6, 2) := by decide +kernel
theorem d1_63 : decode prog_143_method_4_code 63 = .ok (.lload 6, 2) := by decide +kernel
theorem d1_65 : decode prog_143_method_4_code 65 = .ok (.lconst 0, 1) := by decide +kernel
theorem d1_66 : decode prog_143_method_4_code 66 = .ok (.lcmp, 1) := by decide +kernel
theorem d1_67 : decode prog_143_method_4_code 67 = .ok (.ifCond .ne (-31), 3) := by decide +kernel
theorem d1_70 : decode prog_143_method_4_code 70 = .ok (.iload 5, 2) := by decide +kernel
theorem d1_72 : decode prog_143_method_4_code 72 = .ok (.istore 8, 2) := by decide +kernel
theorem d1_74 : decode prog_143_method_4_code 74 = .ok (.iload 4, 2) := by decide +kernel
theorem d1_76 : decode prog_143_method_4_code 76 = .ok (.iconst 1, 1) := by decide +kernel
theorem d1_77 : decode prog_143_method_4_code 77 = .ok (.isub, 1) := by decide +kernel
theorem d1_78 : decode prog_143_method_4_code 78 = .ok (.istore 9, 2) := by decide +kernel
theorem d1_80 : decode prog_143_method_4_code 80 = .ok (.iload 8, 2) := by decide +kernel
theorem d1_82 : decode prog_143_method_4_code 82 = .ok (.iload 9, 2) := by decide +kernel
theorem d1_84 : decode prog_143_method_4_code 84 = .ok (.if_icmp .ge 32, 3) := by decide +kernel
theorem d1_87 : decode prog_143_method_4_code 87 = .ok (.aload_n 2, 1) := by decide +kernel
theorem d1_88 : decode prog_143_method_4_code 88 = .ok (.iload 8, 2) := by decide +kernel
theorem d1_90 : decode prog_143_method_4_code 90 = .ok (.baload, 1) := by decide +kernel
theorem d1_91 : decode prog_143_method_4_code 91 = .ok (.istore 10, 2) := by decide +kernel
theorem d1_93 : decode prog_143_method_4_code 93 = .ok (.aload_n 2, 1) := by decide +kernel
theorem d1_94 : decode prog_143_method_4_code 94 = .ok (.iload 8, 2) := by decide +kernel
theorem d1_96 : decode prog_143_method_4_code 96 = .ok (.aload_n 2, 1) := by decide +kernel
theorem d1_97 : decode prog_143_method_4_code 97 = .ok (.iload 9, 2) := by decide +kernel
theorem d1_99 : decode prog_143_method_4_code 99 = .ok (.baload, 1) := by decide +kernel
theorem d1_100 : decode prog_143_method_4_code 100 = .ok (.bastore, 1) := by decide +kernel
theorem d1_101 : decode prog_143_method_4_code 101 = .ok (.aload_n 2, 1) := by decide +kernel
theorem d1_102 : decode prog_143_method_4_code 102 = .ok (.iload 9, 2) := by decide +kernel
theorem d1_104 : decode prog_143_method_4_code 104 = .ok (.iload 10, 2) := by decide +kernel
theorem d1_106 : decode prog_143_method_4_code 106 = .ok (.bastore, 1) := by decide +kernel
theorem d1_107 : decode prog_143_method_4_code 107 = .ok (.iinc 8 1, 3) := by decide +kernel
theorem d1_110 : decode prog_143_method_4_code 110 = .ok (.iinc 9 (-1), 3) := by decide +kernel
theorem d1_113 : decode prog_143_method_4_code 113 = .ok (.goto (-33), 3) := by decide +kernel
theorem d1_116 : decode prog_143_method_4_code 116 = .ok (.iload 4, 2) := by decide +kernel
theorem d1_118 : decode prog_143_method_4_code 118 = .ok (.ireturn, 1) := by decide +kernel
theorem pn_1 : plainName "com/example/bulkwire/bulkwire/resp/Decimal" = true := by first | (simp [plainName, overriddenIn]; done) | decide +kernel
theorem ef_1 (m : MethodId) (q1 : Int64) (b : Addr) (p3 : Int32) : entryFrame m #[(.long q1), (.ref b), (.int p3)] 11 = mkF m 0 #[.val (.long q1), .second, .val (.ref b), .val (.int p3), .unset, .unset, .unset, .unset, .unset, .unset, .unset] [] := by first | (simp [entryFrame, mkF, argsToLocals, Value.category]; done) | rfl
set_option maxRecDepth 65536 in
set_option maxHeartbeats 40000000 in
theorem tn1 {p : Program} {l : Launch} {e : Env} {R : Room} {s : State} {m : MethodId} {args : Array Value} {below : List Frame} {meth : Method} {c : Code} {T0 : State} {locs : List Loc} {cells slots : Nat} {Z : State} {a0 : Array Value} (q1 : Int64) (b : Addr) (p3 p5 : Int32) (kb : ClassId) (n0 : Nat) (f : Nat → Int32) (n : Nat) (r : Int64) (X0 : Stand p l e R s m args below meth c T0 locs cells slots) (hx : p.tables.exec = Jvm.exec) (hZ : Z.Warmed39 s.vm) (hw : ∀ d ∈ tables_1, d.before a0 Z = true) (hby : c.code = prog_143_method_4_code) (hown : s.vm.findClass "com/example/bulkwire/bulkwire/resp/Decimal" = some m.cls) (F : own_buf Z T0.heap b kb f) (hn : n < 30) (gb : n0 ≤ b) (hq : ¬ (r / (10 : Int64)) = (0 : Int64)) :
    ∃ (T' : State) (L' : List Loc), Stand p l e R s m args below meth c T' (locs ++ L') cells slots ∧ Fr n0 L' ∧ T0.heap.size ≤ T'.heap.size ∧ own_buf Z T'.heap b kb (own_upd f n (nar .byte ((((48 : Int64) - (r - (r / (10 : Int64)) * (10 : Int64))).toInt32).toInt8.toInt32))) ∧ ∀ target, Steps p.tables e below (T'.setTop (mkF m 36 #[.val (.long q1), .second, .val (.ref b), .val (.int p3), .val (.int ((Int32.ofNat n) + (1 : Int32))), .val (.int p5), .val (.long (r / (10 : Int64))), .second, .unset, .unset, .unset] [])) target → Steps p.tables e below (T0.setTop (mkF m 36 #[.val (.long q1), .second, .val (.ref b), .val (.int p3), .val (.int (Int32.ofNat n)), .val (.int p5), .val (.long r), .second, .unset, .unset, .unset] [])) target := by
  obtain ⟨cl1, Ar1, qq1, S1, Nn1, Hh1, Gg1⟩ := id F
  have hin1 : ¬ ((Int32.ofNat n) < 0 ∨ cl1.slots.size ≤ ((Int32.ofNat n)).toNatClampNeg) := inb_of S1 (own_nat30 n hn).1
  obtain ⟨T1, h1, X1, e1, W1, st1⟩ := stB X0 hx hZ rfl Ar1 (j := (Int32.ofNat n)) hin1 (g := (mkF m 54 #[.val (.long q1), .second, .val (.ref b), .val (.int p3), .val (.int ((Int32.ofNat n) + (1 : Int32))), .val (.int p5), .val (.long r), .second, .unset, .unset, .unset] [(.int ((((48 : Int64) - (r - (r / (10 : Int64)) * (10 : Int64))).toInt32).toInt8.toInt32)), (.int (Int32.ofNat n)), (.ref b)])) rfl rfl (hb hby d1_54)
  have B1 := own_put (x := ((((48 : Int64) - (r - (r / (10 : Int64)) * (10 : Int64))).toInt32).toInt8.toInt32)) hn F W1
  have z1 : T0.heap.size ≤ h1.size := Nat.le_trans (Nat.le_refl _) (Keep.of_wr W1).1
  rw [← e1] at B1 z1
  refine ⟨T1, [⟨b, ((Int32.ofNat n)).toNatClampNeg⟩], by simpa only [List.append_assoc, List.cons_append, List.nil_append] using X1, (fun y hy => by cases List.mem_singleton.mp hy; exact gb), z1, B1, fun target kt => ?_⟩
  show Steps p.tables e below (T0.setTop (mkF m 36 #[.val (.long q1), .second, .val (.ref b), .val (.int p3), .val (.int (Int32.ofNat n)), .val (.int p5), .val (.long r), .second, .unset, .unset, .unset] [])) _
  refine XS.aloadN X0.here hx rfl (hb hby d1_36) rfl rfl ?_
  show Steps p.tables e below (T0.setTop (mkF m 37 #[.val (.long q1), .second, .val (.ref b), .val (.int p3), .val (.int (Int32.ofNat n)), .val (.int p5), .val (.long r), .second, .unset, .unset, .unset] [(.ref b)])) _
  refine XS.iload X0.here hx rfl (hb hby d1_37) rfl ?_
  show Steps p.tables e below (T0.setTop (mkF m 39 #[.val (.long q1), .second, .val (.ref b), .val (.int p3), .val (.int (Int32.ofNat n)), .val (.int p5), .val (.long r), .second, .unset, .unset, .unset] [(.int (Int32.ofNat n)), (.ref b)])) _
  refine XS.iinc X0.here hx rfl (hb hby d1_39) rfl (l' := #[.val (.long q1), .second, .val (.ref b), .val (.int p3), .val (.int ((Int32.ofNat n) + (1 : Int32))), .val (.int p5), .val (.long r), .second, .unset, .unset, .unset]) rfl ?_
  show Steps p.tables e below (T0.setTop (mkF m 42 #[.val (.long q1), .second, .val (.ref b), .val (.int p3), .val (.int ((Int32.ofNat n) + (1 : Int32))), .val (.int p5), .val (.long r), .second, .unset, .unset, .unset] [(.int (Int32.ofNat n)), (.ref b)])) _
  refine X0.ldc2Long hx hown (mvT hZ (hw _ (List.mem_of_getElem? (i := 7) rfl))) (g := (mkF m 42 #[.val (.long q1), .second, .val (.ref b), .val (.int p3), .val (.int ((Int32.ofNat n) + (1 : Int32))), .val (.int p5), .val (.long r), .second, .unset, .unset, .unset] [(.int (Int32.ofNat n)), (.ref b)])) rfl (hb hby d1_42) _ ?_
  show Steps p.tables e below (T0.setTop (mkF m 45 #[.val (.long q1), .second, .val (.ref b), .val (.int p3), .val (.int ((Int32.ofNat n) + (1 : Int32))), .val (.int p5), .val (.long r), .second, .unset, .unset, .unset] [(.long (48 : Int64)), (.int (Int32.ofNat n)), (.ref b)])) _
  refine XS.lload X0.here hx rfl (hb hby d1_45) rfl ?_
  show Steps p.tables e below (T0.setTop (mkF m 47 #[.val (.long q1), .second, .val (.ref b), .val (.int p3), .val (.int ((Int32.ofNat n) + (1 : Int32))), .val (.int p5), .val (.long r), .second, .unset, .unset, .unset] [(.long r), (.long (48 : Int64)), (.int (Int32.ofNat n)), (.ref b)])) _
  refine X0.ldc2Long hx hown (mvT hZ (hw _ (List.mem_of_getElem? (i := 8) rfl))) (g := (mkF m 47 #[.val (.long q1), .second, .val (.ref b), .val (.int p3), .val (.int ((Int32.ofNat n) + (1 : Int32))), .val (.int p5), .val (.long r), .second, .unset, .unset, .unset] [(.long r), (.long (48 : Int64)), (.int (Int32.ofNat n)), (.ref b)])) rfl (hb hby d1_47) _ ?_
  show Steps p.tables e below (T0.setTop (mkF m 50 #[.val (.long q1), .second, .val (.ref b), .val (.int p3), .val (.int ((Int32.ofNat n) + (1 : Int32))), .val (.int p5), .val (.long r), .second, .unset, .unset, .unset] [(.long (10 : Int64)), (.long r), (.long (48 : Int64)), (.int (Int32.ofNat n)), (.ref b)])) _
  refine XS.lrem X0.here hx rfl (hb hby d1_50) rfl (by decide) ?_
  show Steps p.tables e below (T0.setTop (mkF m 51 #[.val (.long q1), .second, .val (.ref b), .val (.int p3), .val (.int ((Int32.ofNat n) + (1 : Int32))), .val (.int p5), .val (.long r), .second, .unset, .unset, .unset] [(.long (r - (r / (10 : Int64)) * (10 : Int64))), (.long (48 : Int64)), (.int (Int32.ofNat n)), (.ref b)])) _
  refine XS.lsub X0.here hx rfl (hb hby d1_51) rfl ?_
  show Steps p.tables e below (T0.setTop (mkF m 52 #[.val (.long q1), .second, .val (.ref b), .val (.int p3), .val (.int ((Int32.ofNat n) + (1 : Int32))), .val (.int p5), .val (.long r), .second, .unset, .unset, .unset] [(.long ((48 : Int64) - (r - (r / (10 : Int64)) * (10 : Int64)))), (.int (Int32.ofNat n)), (.ref b)])) _
  refine XS.l2i X0.here hx rfl (hb hby d1_52) rfl ?_
  show Steps p.tables e below (T0.setTop (mkF m 53 #[.val (.long q1), .second, .val (.ref b), .val (.int p3), .val (.int ((Int32.ofNat n) + (1 : Int32))), .val (.int p5), .val (.long r), .second, .unset, .unset, .unset] [(.int (((48 : Int64) - (r - (r / (10 : Int64)) * (10 : Int64))).toInt32)), (.int (Int32.ofNat n)), (.ref b)])) _
  refine XS.i2b X0.here hx rfl (hb hby d1_53) rfl ?_
  show Steps p.tables e below (T0.setTop (mkF m 54 #[.val (.long q1), .second, .val (.ref b), .val (.int p3), .val (.int ((Int32.ofNat n) + (1 : Int32))), .val (.int p5), .val (.long r), .second, .unset, .unset, .unset] [(.int ((((48 : Int64) - (r - (r / (10 : Int64)) * (10 : Int64))).toInt32).toInt8.toInt32)), (.int (Int32.ofNat n)), (.ref b)])) _
  refine st1 _ ?_
  show Steps p.tables e below (T1.setTop (mkF m 55 #[.val (.long q1), .second, .val (.ref b), .val (.int p3), .val (.int ((Int32.ofNat n) + (1 : Int32))), .val (.int p5), .val (.long r), .second, .unset, .unset, .unset] [])) _
  refine XS.lload X1.here hx rfl (hb hby d1_55) rfl ?_
  show Steps p.tables e below (T1.setTop (mkF m 57 #[.val (.long q1), .second, .val (.ref b), .val (.int p3), .val (.int ((Int32.ofNat n) + (1 : Int32))), .val (.int p5), .val (.long r), .second, .unset, .unset, .unset] [(.long r)])) _
  refine X1.ldc2Long hx hown (mvT hZ (hw _ (List.mem_of_getElem? (i := 8) rfl))) (g := (mkF m 57 #[.val (.long q1), .second, .val (.ref b), .val (.int p3), .val (.int ((Int32.ofNat n) + (1 : Int32))), .val (.int p5), .val (.long r), .second, .unset, .unset, .unset] [(.long r)])) rfl (hb hby d1_57) _ ?_
  show Steps p.tables e below (T1.setTop (mkF m 60 #[.val (.long q1), .second, .val (.ref b), .val (.int p3), .val (.int ((Int32.ofNat n) + (1 : Int32))), .val (.int p5), .val (.long r), .second, .unset, .unset, .unset] [(.long (10 : Int64)), (.long r)])) _
  refine XS.ldiv X1.here hx rfl (hb hby d1_60) rfl (by decide) ?_
  show Steps p.tables e below (T1.setTop (mkF m 61 #[.val (.long q1), .second, .val (.ref b), .val (.int p3), .val (.int ((Int32.ofNat n) + (1 : Int32))), .val (.int p5), .val (.long r), .second, .unset, .unset, .unset] [(.long (r / (10 : Int64)))])) _
  refine XS.lstore X1.here hx rfl (hb hby d1_61) rfl (l' := #[.val (.long q1), .second, .val (.ref b), .val (.int p3), .val (.int ((Int32.ofNat n) + (1 : Int32))), .val (.int p5), .val (.long (r / (10 : Int64))), .second, .unset, .unset, .unset]) rfl ?_
  show Steps p.tables e below (T1.setTop (mkF m 63 #[.val (.long q1), .second, .val (.ref b), .val (.int p3), .val (.int ((Int32.ofNat n) + (1 : Int32))), .val (.int p5), .val (.long (r / (10 : Int64))), .second, .unset, .unset, .unset] [])) _
  refine XS.lload X1.here hx rfl (hb hby d1_63) rfl ?_
  show Steps p.tables e below (T1.setTop (mkF m 65 #[.val (.long q1), .second, .val (.ref b), .val (.int p3), .val (.int ((Int32.ofNat n) + (1 : Int32))), .val (.int p5), .val (.long (r / (10 : Int64))), .second, .unset, .unset, .unset] [(.long (r / (10 : Int64)))])) _
  refine XS.lconst X1.here hx rfl (hb hby d1_65) ?_
  show Steps p.tables e below (T1.setTop (mkF m 66 #[.val (.long q1), .second, .val (.ref b), .val (.int p3), .val (.int ((Int32.ofNat n) + (1 : Int32))), .val (.int p5), .val (.long (r / (10 : Int64))), .second, .unset, .unset, .unset] [(.long (0 : Int64)), (.long (r / (10 : Int64)))])) _
  refine XS.lcmp X1.here hx rfl (hb hby d1_66) rfl ?_
  show Steps p.tables e below (T1.setTop (mkF m 67 #[.val (.long q1), .second, .val (.ref b), .val (.int p3), .val (.int ((Int32.ofNat n) + (1 : Int32))), .val (.int p5), .val (.long (r / (10 : Int64))), .second, .unset, .unset, .unset] [(.int (lcmpW (r / (10 : Int64)) (0 : Int64)))])) _
  refine XS.ifYes X1.here hx rfl (pc0 := 67) (pc' := 36) rfl (hb hby d1_67) rfl ((if0 _ _).trans (feq (fun q => (hq) ((lw_eq _ _).mp q))).2) (by decide) (by decide) ?_
  exact kt
set_option maxRecDepth 65536 in
set_option maxHeartbeats 40000000 in
theorem ex1 {p : Program} {l : Launch} {e : Env} {R : Room} {s : State} {m : MethodId} {args : Array Value} {below : List Frame} {meth : Method} {c : Code} {T0 : State} {locs : List Loc} {cells slots : Nat} {Z : State} {a0 : Array Value} (q1 : Int64) (b : Addr) (p3 p5 : Int32) (kb : ClassId) (n0 : Nat) (f : Nat → Int32) (n : Nat) (r : Int64) (X0 : Stand p l e R s m args below meth c T0 locs cells slots) (hx : p.tables.exec = Jvm.exec) (hZ : Z.Warmed39 s.vm) (hw : ∀ d ∈ tables_1, d.before a0 Z = true) (hby : c.code = prog_143_method_4_code) (hown : s.vm.findClass "com/example/bulkwire/bulkwire/resp/Decimal" = some m.cls) (F : own_buf Z T0.heap b kb f) (hn : n < 30) (gb : n0 ≤ b) (hq : (r / (10 : Int64)) = (0 : Int64)) :
    ∃ (T' : State) (L' : List Loc), Stand p l e R s m args below meth c T' (locs ++ L') cells slots ∧ Fr n0 L' ∧ T0.heap.size ≤ T'.heap.size ∧ own_buf Z T'.heap b kb (own_upd f n (nar .byte ((((48 : Int64) - (r - (r / (10 : Int64)) * (10 : Int64))).toInt32).toInt8.toInt32))) ∧ ∀ target, Steps p.tables e below (T'.setTop (mkF m 70 #[.val (.long q1), .second, .val (.ref b), .val (.int p3), .val (.int ((Int32.ofNat n) + (1 : Int32))), .val (.int p5), .val (.long (r / (10 : Int64))), .second, .unset, .unset, .unset] [])) target → Steps p.tables e below (T0.setTop (mkF m 36 #[.val (.long q1), .second, .val (.ref b), .val (.int p3), .val (.int (Int32.ofNat n)), .val (.int p5), .val (.long r), .second, .unset, .unset, .unset] [])) target := by
  obtain ⟨cl1, Ar1, qq1, S1, Nn1, Hh1, Gg1⟩ := id F
  have hin1 : ¬ ((Int32.ofNat n) < 0 ∨ cl1.slots.size ≤ ((Int32.ofNat n)).toNatClampNeg) := inb_of S1 (own_nat30 n hn).1
  obtain ⟨T1, h1, X1, e1, W1, st1⟩ := stB X0 hx hZ rfl Ar1 (j := (Int32.ofNat n)) hin1 (g := (mkF m 54 #[.val (.long q1), .second, .val (.ref b), .val (.int p3), .val (.int ((Int32.ofNat n) + (1 : Int32))), .val (.int p5), .val (.long r), .second, .unset, .unset, .unset] [(.int ((((48 : Int64) - (r - (r / (10 : Int64)) * (10 : Int64))).toInt32).toInt8.toInt32)), (.int (Int32.ofNat n)), (.ref b)])) rfl rfl (hb hby d1_54)
  have B1 := own_put (x := ((((48 : Int64) - (r - (r / (10 : Int64)) * (10 : Int64))).toInt32).toInt8.toInt32)) hn F W1
  have z1 : T0.heap.size ≤ h1.size := Nat.le_trans (Nat.le_refl _) (Keep.of_wr W1).1
  rw [← e1] at B1 z1
  refine ⟨T1, [⟨b, ((Int32.ofNat n)).toNatClampNeg⟩], by simpa only [List.append_assoc, List.cons_append, List.nil_append] using X1, (fun y hy => by cases List.mem_singleton.mp hy; exact gb), z1, B1, fun target kt => ?_⟩
  show Steps p.tables e below (T0.setTop (mkF m 36 #[.val (.long q1), .second, .val (.ref b), .val (.int p3), .val (.int (Int32.ofNat n)), .val (.int p5), .val (.long r), .second, .unset, .unset, .unset] [])) _
  refine XS.aloadN X0.here hx rfl (hb hby d1_36) rfl rfl ?_
  show Steps p.tables e below (T0.setTop (mkF m 37 #[.val (.long q1), .second, .val (.ref b), .val (.int p3), .val (.int (Int32.ofNat n)), .val (.int p5), .val (.long r), .second, .unset, .unset, .unset] [(.ref b)])) _
  refine XS.iload X0.here hx rfl (hb hby d1_37) rfl ?_
  show Steps p.tables e below (T0.setTop (mkF m 39 #[.val (.long q1), .second, .val (.ref b), .val (.int p3), .val (.int (Int32.ofNat n)), .val (.int p5), .val (.long r), .second, .unset, .unset, .unset] [(.int (Int32.ofNat n)), (.ref b)])) _
  refine XS.iinc X0.here hx rfl (hb hby d1_39) rfl (l' := #[.val (.long q1), .second, .val (.ref b), .val (.int p3), .val (.int ((Int32.ofNat n) + (1 : Int32))), .val (.int p5), .val (.long r), .second, .unset, .unset, .unset]) rfl ?_
  show Steps p.tables e below (T0.setTop (mkF m 42 #[.val (.long q1), .second, .val (.ref b), .val (.int p3), .val (.int ((Int32.ofNat n) + (1 : Int32))), .val (.int p5), .val (.long r), .second, .unset, .unset, .unset] [(.int (Int32.ofNat n)), (.ref b)])) _
  refine X0.ldc2Long hx hown (mvT hZ (hw _ (List.mem_of_getElem? (i := 7) rfl))) (g := (mkF m 42 #[.val (.long q1), .second, .val (.ref b), .val (.int p3), .val (.int ((Int32.ofNat n) + (1 : Int32))), .val (.int p5), .val (.long r), .second, .unset, .unset, .unset] [(.int (Int32.ofNat n)), (.ref b)])) rfl (hb hby d1_42) _ ?_
  show Steps p.tables e below (T0.setTop (mkF m 45 #[.val (.long q1), .second, .val (.ref b), .val (.int p3), .val (.int ((Int32.ofNat n) + (1 : Int32))), .val (.int p5), .val (.long r), .second, .unset, .unset, .unset] [(.long (48 : Int64)), (.int (Int32.ofNat n)), (.ref b)])) _
  refine XS.lload X0.here hx rfl (hb hby d1_45) rfl ?_
  show Steps p.tables e below (T0.setTop (mkF m 47 #[.val (.long q1), .second, .val (.ref b), .val (.int p3), .val (.int ((Int32.ofNat n) + (1 : Int32))), .val (.int p5), .val (.long r), .second, .unset, .unset, .unset] [(.long r), (.long (48 : Int64)), (.int (Int32.ofNat n)), (.ref b)])) _
  refine X0.ldc2Long hx hown (mvT hZ (hw _ (List.mem_of_getElem? (i := 8) rfl))) (g := (mkF m 47 #[.val (.long q1), .second, .val (.ref b), .val (.int p3), .val (.int ((Int32.ofNat n) + (1 : Int32))), .val (.int p5), .val (.long r), .second, .unset, .unset, .unset] [(.long r), (.long (48 : Int64)), (.int (Int32.ofNat n)), (.ref b)])) rfl (hb hby d1_47) _ ?_
  show Steps p.tables e below (T0.setTop (mkF m 50 #[.val (.long q1), .second, .val (.ref b), .val (.int p3), .val (.int ((Int32.ofNat n) + (1 : Int32))), .val (.int p5), .val (.long r), .second, .unset, .unset, .unset] [(.long (10 : Int64)), (.long r), (.long (48 : Int64)), (.int (Int32.ofNat n)), (.ref b)])) _
  refine XS.lrem X0.here hx rfl (hb hby d1_50) rfl (by decide) ?_
  show Steps p.tables e below (T0.setTop (mkF m 51 #[.val (.long q1), .second, .val (.ref b), .val (.int p3), .val (.int ((Int32.ofNat n) + (1 : Int32))), .val (.int p5), .val (.long r), .second, .unset, .unset, .unset] [(.long (r - (r / (10 : Int64)) * (10 : Int64))), (.long (48 : Int64)), (.int (Int32.ofNat n)), (.ref b)])) _
  refine XS.lsub X0.here hx rfl (hb hby d1_51) rfl ?_
  show Steps p.tables e below (T0.setTop (mkF m 52 #[.val (.long q1), .second, .val (.ref b), .val (.int p3), .val (.int ((Int32.ofNat n) + (1 : Int32))), .val (.int p5), .val (.long r), .second, .unset, .unset, .unset] [(.long ((48 : Int64) - (r - (r / (10 : Int64)) * (10 : Int64)))), (.int (Int32.ofNat n)), (.ref b)])) _
  refine XS.l2i X0.here hx rfl (hb hby d1_52) rfl ?_
  show Steps p.tables e below (T0.setTop (mkF m 53 #[.val (.long q1), .second, .val (.ref b), .val (.int p3), .val (.int ((Int32.ofNat n) + (1 : Int32))), .val (.int p5), .val (.long r), .second, .unset, .unset, .unset] [(.int (((48 : Int64) - (r - (r / (10 : Int64)) * (10 : Int64))).toInt32)), (.int (Int32.ofNat n)), (.ref b)])) _
  refine XS.i2b X0.here hx rfl (hb hby d1_53) rfl ?_
  show Steps p.tables e below (T0.setTop (mkF m 54 #[.val (.long q1), .second, .val (.ref b), .val (.int p3), .val (.int ((Int32.ofNat n) + (1 : Int32))), .val (.int p5), .val (.long r), .second, .unset, .unset, .unset] [(.int ((((48 : Int64) - (r - (r / (10 : Int64)) * (10 : Int64))).toInt32).toInt8.toInt32)), (.int (Int32.ofNat n)), (.ref b)])) _
  refine st1 _ ?_
  show Steps p.tables e below (T1.setTop (mkF m 55 #[.val (.long q1), .second, .val (.ref b), .val (.int p3), .val (.int ((Int32.ofNat n) + (1 : Int32))), .val (.int p5), .val (.long r), .second, .unset, .unset, .unset] [])) _
  refine XS.lload X1.here hx rfl (hb hby d1_55) rfl ?_
  show Steps p.tables e below (T1.setTop (mkF m 57 #[.val (.long q1), .second, .val (.ref b), .val (.int p3), .val (.int ((Int32.ofNat n) + (1 : Int32))), .val (.int p5), .val (.long r), .second, .unset, .unset, .unset] [(.long r)])) _
  refine X1.ldc2Long hx hown (mvT hZ (hw _ (List.mem_of_getElem? (i := 8) rfl))) (g := (mkF m 57 #[.val (.long q1), .second, .val (.ref b), .val (.int p3), .val (.int ((Int32.ofNat n) + (1 : Int32))), .val (.int p5), .val (.long r), .second, .unset, .unset, .unset] [(.long r)])) rfl (hb hby d1_57) _ ?_
  show Steps p.tables e below (T1.setTop (mkF m 60 #[.val (.long q1), .second, .val (.ref b), .val (.int p3), .val (.int ((Int32.ofNat n) + (1 : Int32))), .val (.int p5), .val (.long r), .second, .unset, .unset, .unset] [(.long (10 : Int64)), (.long r)])) _
  refine XS.ldiv X1.here hx rfl (hb hby d1_60) rfl (by decide) ?_
  show Steps p.tables e below (T1.setTop (mkF m 61 #[.val (.long q1), .second, .val (.ref b), .val (.int p3), .val (.int ((Int32.ofNat n) + (1 : Int32))), .val (.int p5), .val (.long r), .second, .unset, .unset, .unset] [(.long (r / (10 : Int64)))])) _
  refine XS.lstore X1.here hx rfl (hb hby d1_61) rfl (l' := #[.val (.long q1), .second, .val (.ref b), .val (.int p3), .val (.int ((Int32.ofNat n) + (1 : Int32))), .val (.int p5), .val (.long (r / (10 : Int64))), .second, .unset, .unset, .unset]) rfl ?_
  show Steps p.tables e below (T1.setTop (mkF m 63 #[.val (.long q1), .second, .val (.ref b), .val (.int p3), .val (.int ((Int32.ofNat n) + (1 : Int32))), .val (.int p5), .val (.long (r / (10 : Int64))), .second, .unset, .unset, .unset] [])) _
  refine XS.lload X1.here hx rfl (hb hby d1_63) rfl ?_
  show Steps p.tables e below (T1.setTop (mkF m 65 #[.val (.long q1), .second, .val (.ref b), .val (.int p3), .val (.int ((Int32.ofNat n) + (1 : Int32))), .val (.int p5), .val (.long (r / (10 : Int64))), .second, .unset, .unset, .unset] [(.long (r / (10 : Int64)))])) _
  refine XS.lconst X1.here hx rfl (hb hby d1_65) ?_
  show Steps p.tables e below (T1.setTop (mkF m 66 #[.val (.long q1), .second, .val (.ref b), .val (.int p3), .val (.int ((Int32.ofNat n) + (1 : Int32))), .val (.int p5), .val (.long (r / (10 : Int64))), .second, .unset, .unset, .unset] [(.long (0 : Int64)), (.long (r / (10 : Int64)))])) _
  refine XS.lcmp X1.here hx rfl (hb hby d1_66) rfl ?_
  show Steps p.tables e below (T1.setTop (mkF m 67 #[.val (.long q1), .second, .val (.ref b), .val (.int p3), .val (.int ((Int32.ofNat n) + (1 : Int32))), .val (.int p5), .val (.long (r / (10 : Int64))), .second, .unset, .unset, .unset] [(.int (lcmpW (r / (10 : Int64)) (0 : Int64)))])) _
  refine XS.ifNo X1.here hx rfl (hb hby d1_67) rfl ((if0 _ _).trans (teq ((lw_eq _ _).mpr (hq))).2) ?_
  exact kt
set_option maxRecDepth 65536 in
set_option maxHeartbeats 40000000 in
theorem lp1 {p : Program} {l : Launch} {e : Env} {R : Room} {s : State} {m : MethodId} {args : Array Value} {below : List Frame} {meth : Method} {c : Code} {cells slots : Nat} {Z : State} {a0 : Array Value} (q1 : Int64) (b : Addr) (p3 p5 : Int32) (kb : ClassId) (n0 : Nat) (gb : n0 ≤ b) (hx : p.tables.exec = Jvm.exec) (hZ : Z.Warmed39 s.vm) (hw : ∀ d ∈ tables_1, d.before a0 Z = true) (hby : c.code = prog_143_method_4_code) (hown : s.vm.findClass "com/example/bulkwire/bulkwire/resp/Decimal" = some m.cls) (k : Nat) :
    ∀ (T0 : State) (locs : List Loc) (f : Nat → Int32) (n M : Nat) (r : Int64), Stand p l e R s m args below meth c T0 locs cells slots → own_buf Z T0.heap b kb f → r.toInt = -(M : Int) → own_dl M (k + 1) → n + (k + 1) ≤ 29 →
      ∃ (T' : State) (L' : List Loc) (f' : Nat → Int32) (r' : Int64), Stand p l e R s m args below meth c T' (locs ++ L') cells slots ∧ Fr n0 L' ∧ T0.heap.size ≤ T'.heap.size ∧ own_buf Z T'.heap b kb f' ∧ (∀ t, t < k + 1 → f' (n + t) = own_b (own_dg M t)) ∧ (∀ j, j < n ∨ n + (k + 1) ≤ j → f' j = f j) ∧
        ∀ target, Steps p.tables e below (T'.setTop (mkF m 70 #[.val (.long q1), .second, .val (.ref b), .val (.int p3), .val (.int (Int32.ofNat (n + (k + 1)))), .val (.int p5), .val (.long r'), .second, .unset, .unset, .unset] [])) target → Steps p.tables e below (T0.setTop (mkF m 36 #[.val (.long q1), .second, .val (.ref b), .val (.int p3), .val (.int (Int32.ofNat n)), .val (.int p5), .val (.long r), .second, .unset, .unset, .unset] [])) target := by
  induction k with
  | zero =>
    intro T0 locs f n M r X0 F hr hL hn
    have hM := own_dl_last hL
    obtain ⟨T1, L1, X1, N1, z1, B1, st1⟩ := ex1 q1 b p3 p5 kb n0 f n r X0 hx hZ hw hby hown F (by omega) gb ((own_quo0 hr).mpr (by omega))
    rw [own_rem hr, own_b_nar (Nat.mod_lt _ (by decide))] at B1
    refine ⟨T1, L1, _, (r / (10 : Int64)), X1, N1, z1, B1, ?_, ?_, fun target kt => st1 target ?_⟩
    · intro t ht
      obtain rfl : t = 0 := by omega
      simp [own_upd, own_dg]
    · intro j hj
      unfold own_upd
      rw [if_neg (by omega)]
    · have e1 : n + (0 + 1) = n + 1 := rfl
      rw [e1, inc_ofNat] at kt
      exact kt
  | succ k ih =>
    intro T0 locs f n M r X0 F hr hL hn
    obtain ⟨hL', hM0⟩ := own_dl_step hL
    obtain ⟨T1, L1, X1, N1, z1, B1, st1⟩ := tn1 q1 b p3 p5 kb n0 f n r X0 hx hZ hw hby hown F (by omega) gb (fun q => hM0 ((own_quo0 hr).mp q))
    rw [own_rem hr, own_b_nar (Nat.mod_lt _ (by decide))] at B1
    obtain ⟨T2, L2, f2, r2, X2, N2, z2, B2, h1, h2, st2⟩ := ih T1 (locs ++ L1) _ (n + 1) (M / 10) _ X1 B1 (own_quo hr) hL' (by omega)
    refine ⟨T2, L1 ++ L2, f2, r2, by simpa only [List.append_assoc] using X2, N1.app N2, Nat.le_trans z1 z2, B2, ?_, ?_, fun target kt => st1 target ?_⟩
    · intro t ht
      cases t with
      | zero =>
        rw [h2 (n + 0) (Or.inl (by omega))]
        simp [own_upd, own_dg]
      | succ t => rw [show n + (t + 1) = n + 1 + t by omega, h1 t (by omega), own_dg_succ]
    · intro j hj
      rw [h2 j (by omega)]
      unfold own_upd
      rw [if_neg (by omega)]
    · have q := st2 target (by rw [show n + 1 + (k + 1) = n + (k + 1 + 1) by omega]; exact kt)
      rw [inc_ofNat] at q
      exact q
theorem own_os10 {q1 r : Int64} {b : Addr} {p3 p4 p5 x8 x9 v : Int32} {s10 : Slot} (h : One s10) : storeLocals #[.val (.long q1), .second, .val (.ref b), .val (.int p3), .val (.int p4), .val (.int p5), .val (.long r), .second, .val (.int x8), .val (.int x9), s10] 10 (.int v) = some #[.val (.long q1), .second, .val (.ref b), .val (.int p3), .val (.int p4), .val (.int p5), .val (.long r), .second, .val (.int x8), .val (.int x9), .val (.int v)] := by
  rcases h with rfl | ⟨w, rfl, hw⟩
  · rfl
  · cases w <;> first | rfl | (simp [Value.category] at hw)
set_option maxRecDepth 65536 in
set_option maxHeartbeats 40000000 in
theorem tn2 {p : Program} {l : Launch} {e : Env} {R : Room} {s : State} {m : MethodId} {args : Array Value} {below : List Frame} {meth : Method} {c : Code} {T0 : State} {locs : List Loc} {cells slots : Nat} {Z : State} {a0 : Array Value} (q1 r : Int64) (b : Addr) (p3 p4 p5 : Int32) (kb : ClassId) (n0 : Nat) (f : Nat → Int32) (a d : Nat) (s10 : Slot) (X0 : Stand p l e R s m args below meth c T0 locs cells slots) (hx : p.tables.exec = Jvm.exec) (hZ : Z.Warmed39 s.vm) (hw : ∀ d ∈ tables_1, d.before a0 Z = true) (hby : c.code = prog_143_method_4_code) (hown : s.vm.findClass "com/example/bulkwire/bulkwire/resp/Decimal" = some m.cls) (F : own_buf Z T0.heap b kb f) (ha : a < 30) (hd : d < 30) (gb : n0 ≤ b) (hs : One s10) (hq : Int32.ofNat a < Int32.ofNat d) :
    ∃ (T' : State) (L' : List Loc), Stand p l e R s m args below meth c T' (locs ++ L') cells slots ∧ Fr n0 L' ∧ T0.heap.size ≤ T'.heap.size ∧ own_buf Z T'.heap b kb (own_upd (own_upd f a (nar .byte (f d))) d (nar .byte (f a))) ∧ ∀ target, Steps p.tables e below (T'.setTop (mkF m 80 #[.val (.long q1), .second, .val (.ref b), .val (.int p3), .val (.int p4), .val (.int p5), .val (.long r), .second, .val (.int ((Int32.ofNat a) + (1 : Int32))), .val (.int ((Int32.ofNat d) + (-1 : Int32))), .val (.int (f a))] [])) target → Steps p.tables e below (T0.setTop (mkF m 80 #[.val (.long q1), .second, .val (.ref b), .val (.int p3), .val (.int p4), .val (.int p5), .val (.long r), .second, .val (.int (Int32.ofNat a)), .val (.int (Int32.ofNat d)), s10] [])) target := by
  obtain ⟨cl1, Ar1, qq1, S1, Nn1, Hh1, Gg1⟩ := id F
  have hin1 : ¬ ((Int32.ofNat a) < 0 ∨ cl1.slots.size ≤ ((Int32.ofNat a)).toNatClampNeg) := inb_of S1 (own_nat30 a ha).1
  obtain ⟨cl2, Ar2, qq2, S2, Nn2, Hh2, Gg2⟩ := id F
  have hin2 : ¬ ((Int32.ofNat d) < 0 ∨ cl2.slots.size ≤ ((Int32.ofNat d)).toNatClampNeg) := inb_of S2 (own_nat30 d hd).1
  obtain ⟨cl3, Ar3, qq3, S3, Nn3, Hh3, Gg3⟩ := id F
  have hin3 : ¬ ((Int32.ofNat a) < 0 ∨ cl3.slots.size ≤ ((Int32.ofNat a)).toNatClampNeg) := inb_of S3 (own_nat30 a ha).1
  obtain ⟨T3, h3, X3, e3, W3, st3⟩ := stB X0 hx hZ rfl Ar3 (j := (Int32.ofNat a)) hin3 (g := (mkF m 100 #[.val (.long q1), .second, .val (.ref b), .val (.int p3), .val (.int p4), .val (.int p5), .val (.long r), .second, .val (.int (Int32.ofNat a)), .val (.int (Int32.ofNat d)), .val (.int (f a))] [(.int (f d)), (.int (Int32.ofNat a)), (.ref b)])) rfl rfl (hb hby d1_100)
  have B3 := own_put (x := (f d)) ha F W3
  have z3 : T0.heap.size ≤ h3.size := Nat.le_trans (Nat.le_refl _) (Keep.of_wr W3).1
  obtain ⟨cl4, Ar4, qq4, S4, Nn4, Hh4, Gg4⟩ := id B3
  have hin4 : ¬ ((Int32.ofNat d) < 0 ∨ cl4.slots.size ≤ ((Int32.ofNat d)).toNatClampNeg) := inb_of S4 (own_nat30 d hd).1
  obtain ⟨T4, h4, X4, e4, W4, st4⟩ := stB X3 hx hZ e3 Ar4 (j := (Int32.ofNat d)) hin4 (g := (mkF m 106 #[.val (.long q1), .second, .val (.ref b), .val (.int p3), .val (.int p4), .val (.int p5), .val (.long r), .second, .val (.int (Int32.ofNat a)), .val (.int (Int32.ofNat d)), .val (.int (f a))] [(.int (f a)), (.int (Int32.ofNat d)), (.ref b)])) rfl rfl (hb hby d1_106)
  have B4 := own_put (x := (f a)) hd B3 W4
  have z4 : T0.heap.size ≤ h4.size := Nat.le_trans z3 (Keep.of_wr W4).1
  rw [← e4] at B4 z4
  refine ⟨T4, [⟨b, ((Int32.ofNat a)).toNatClampNeg⟩, ⟨b, ((Int32.ofNat d)).toNatClampNeg⟩], by simpa only [List.append_assoc, List.cons_append, List.nil_append] using X4, (fun y hy => by simp only [List.mem_cons, List.not_mem_nil, or_false] at hy; rcases hy with rfl | rfl <;> exact gb), z4, B4, fun target kt => ?_⟩
  show Steps p.tables e below (T0.setTop (mkF m 80 #[.val (.long q1), .second, .val (.ref b), .val (.int p3), .val (.int p4), .val (.int p5), .val (.long r), .second, .val (.int (Int32.ofNat a)), .val (.int (Int32.ofNat d)), s10] [])) _
  refine XS.iload X0.here hx rfl (hb hby d1_80) rfl ?_
  show Steps p.tables e below (T0.setTop (mkF m 82 #[.val (.long q1), .second, .val (.ref b), .val (.int p3), .val (.int p4), .val (.int p5), .val (.long r), .second, .val (.int (Int32.ofNat a)), .val (.int (Int32.ofNat d)), s10] [(.int (Int32.ofNat a))])) _
  refine XS.iload X0.here hx rfl (hb hby d1_82) rfl ?_
  show Steps p.tables e below (T0.setTop (mkF m 84 #[.val (.long q1), .second, .val (.ref b), .val (.int p3), .val (.int p4), .val (.int p5), .val (.long r), .second, .val (.int (Int32.ofNat a)), .val (.int (Int32.ofNat d)), s10] [(.int (Int32.ofNat d)), (.int (Int32.ofNat a))])) _
  refine XS.icmpNo X0.here hx rfl (hb hby d1_84) rfl (tlt (hq)).2.1 ?_
  show Steps p.tables e below (T0.setTop (mkF m 87 #[.val (.long q1), .second, .val (.ref b), .val (.int p3), .val (.int p4), .val (.int p5), .val (.long r), .second, .val (.int (Int32.ofNat a)), .val (.int (Int32.ofNat d)), s10] [])) _
  refine XS.aloadN X0.here hx rfl (hb hby d1_87) rfl rfl ?_
  show Steps p.tables e below (T0.setTop (mkF m 88 #[.val (.long q1), .second, .val (.ref b), .val (.int p3), .val (.int p4), .val (.int p5), .val (.long r), .second, .val (.int (Int32.ofNat a)), .val (.int (Int32.ofNat d)), s10] [(.ref b)])) _
  refine XS.iload X0.here hx rfl (hb hby d1_88) rfl ?_
  show Steps p.tables e below (T0.setTop (mkF m 90 #[.val (.long q1), .second, .val (.ref b), .val (.int p3), .val (.int p4), .val (.int p5), .val (.long r), .second, .val (.int (Int32.ofNat a)), .val (.int (Int32.ofNat d)), s10] [(.int (Int32.ofNat a)), (.ref b)])) _
  refine X0.baloadBytes hx (j := (Int32.ofNat a)) (v := (.int (f a))) Ar1.1 (State.isArrayOf_alike hZ.alike Ar1.2.1) Ar1.2.2 hin1 (Has.at Hh1 hin1 (own_vs_get f ha)) (g := (mkF m 90 #[.val (.long q1), .second, .val (.ref b), .val (.int p3), .val (.int p4), .val (.int p5), .val (.long r), .second, .val (.int (Int32.ofNat a)), .val (.int (Int32.ofNat d)), s10] [(.int (Int32.ofNat a)), (.ref b)])) rfl rfl (hb hby d1_90) _ ?_
  show Steps p.tables e below (T0.setTop (mkF m 91 #[.val (.long q1), .second, .val (.ref b), .val (.int p3), .val (.int p4), .val (.int p5), .val (.long r), .second, .val (.int (Int32.ofNat a)), .val (.int (Int32.ofNat d)), s10] [(.int (f a))])) _
  refine XS.istore X0.here hx rfl (hb hby d1_91) rfl (l' := #[.val (.long q1), .second, .val (.ref b), .val (.int p3), .val (.int p4), .val (.int p5), .val (.long r), .second, .val (.int (Int32.ofNat a)), .val (.int (Int32.ofNat d)), .val (.int (f a))]) (own_os10 hs) ?_
  show Steps p.tables e below (T0.setTop (mkF m 93 #[.val (.long q1), .second, .val (.ref b), .val (.int p3), .val (.int p4), .val (.int p5), .val (.long r), .second, .val (.int (Int32.ofNat a)), .val (.int (Int32.ofNat d)), .val (.int (f a))] [])) _
  refine XS.aloadN X0.here hx rfl (hb hby d1_93) rfl rfl ?_
  show Steps p.tables e below (T0.setTop (mkF m 94 #[.val (.long q1), .second, .val (.ref b), .val (.int p3), .val (.int p4), .val (.int p5), .val (.long r), .second, .val (.int (Int32.ofNat a)), .val (.int (Int32.ofNat d)), .val (.int (f a))] [(.ref b)])) _
  refine XS.iload X0.here hx rfl (hb hby d1_94) rfl ?_
  show Steps p.tables e below (T0.setTop (mkF m 96 #[.val (.long q1), .second, .val (.ref b), .val (.int p3), .val (.int p4), .val (.int p5), .val (.long r), .second, .val (.int (Int32.ofNat a)), .val (.int (Int32.ofNat d)), .val (.int (f a))] [(.int (Int32.ofNat a)), (.ref b)])) _
  refine XS.aloadN X0.here hx rfl (hb hby d1_96) rfl rfl ?_
  show Steps p.tables e below (T0.setTop (mkF m 97 #[.val (.long q1), .second, .val (.ref b), .val (.int p3), .val (.int p4), .val (.int p5), .val (.long r), .second, .val (.int (Int32.ofNat a)), .val (.int (Int32.ofNat d)), .val (.int (f a))] [(.ref b), (.int (Int32.ofNat a)), (.ref b)])) _
  refine XS.iload X0.here hx rfl (hb hby d1_97) rfl ?_
  show Steps p.tables e below (T0.setTop (mkF m 99 #[.val (.long q1), .second, .val (.ref b), .val (.int p3), .val (.int p4), .val (.int p5), .val (.long r), .second, .val (.int (Int32.ofNat a)), .val (.int (Int32.ofNat d)), .val (.int (f a))] [(.int (Int32.ofNat d)), (.ref b), (.int (Int32.ofNat a)), (.ref b)])) _
  refine X0.baloadBytes hx (j := (Int32.ofNat d)) (v := (.int (f d))) Ar2.1 (State.isArrayOf_alike hZ.alike Ar2.2.1) Ar2.2.2 hin2 (Has.at Hh2 hin2 (own_vs_get f hd)) (g := (mkF m 99 #[.val (.long q1), .second, .val (.ref b), .val (.int p3), .val (.int p4), .val (.int p5), .val (.long r), .second, .val (.int (Int32.ofNat a)), .val (.int (Int32.ofNat d)), .val (.int (f a))] [(.int (Int32.ofNat d)), (.ref b), (.int (Int32.ofNat a)), (.ref b)])) rfl rfl (hb hby d1_99) _ ?_
  show Steps p.tables e below (T0.setTop (mkF m 100 #[.val (.long q1), .second, .val (.ref b), .val (.int p3), .val (.int p4), .val (.int p5), .val (.long r), .second, .val (.int (Int32.ofNat a)), .val (.int (Int32.ofNat d)), .val (.int (f a))] [(.int (f d)), (.int (Int32.ofNat a)), (.ref b)])) _
  refine st3 _ ?_
  show Steps p.tables e below (T3.setTop (mkF m 101 #[.val (.long q1), .second, .val (.ref b), .val (.int p3), .val (.int p4), .val (.int p5), .val (.long r), .second, .val (.int (Int32.ofNat a)), .val (.int (Int32.ofNat d)), .val (.int (f a))] [])) _
  refine XS.aloadN X3.here hx rfl (hb hby d1_101) rfl rfl ?_
  show Steps p.tables e below (T3.setTop (mkF m 102 #[.val (.long q1), .second, .val (.ref b), .val (.int p3), .val (.int p4), .val (.int p5), .val (.long r), .second, .val (.int (Int32.ofNat a)), .val (.int (Int32.ofNat d)), .val (.int (f a))] [(.ref b)])) _
  refine XS.iload X3.here hx rfl (hb hby d1_102) rfl ?_
  show Steps p.tables e below (T3.setTop (mkF m 104 #[.val (.long q1), .second, .val (.ref b), .val (.int p3), .val (.int p4), .val (.int p5), .val (.long r), .second, .val (.int (Int32.ofNat a)), .val (.int (Int32.ofNat d)), .val (.int (f a))] [(.int (Int32.ofNat d)), (.ref b)])) _
  refine XS.iload X3.here hx rfl (hb hby d1_104) rfl ?_
  show Steps p.tables e below (T3.setTop (mkF m 106 #[.val (.long q1), .second, .val (.ref b), .val (.int p3), .val (.int p4), .val (.int p5), .val (.long r), .second, .val (.int (Int32.ofNat a)), .val (.int (Int32.ofNat d)), .val (.int (f a))] [(.int (f a)), (.int (Int32.ofNat d)), (.ref b)])) _
  refine st4 _ ?_
  show Steps p.tables e below (T4.setTop (mkF m 107 #[.val (.long q1), .second, .val (.ref b), .val (.int p3), .val (.int p4), .val (.int p5), .val (.long r), .second, .val (.int (Int32.ofNat a)), .val (.int (Int32.ofNat d)), .val (.int (f a))] [])) _
  refine XS.iinc X4.here hx rfl (hb hby d1_107) rfl (l' := #[.val (.long q1), .second, .val (.ref b), .val (.int p3), .val (.int p4), .val (.int p5), .val (.long r), .second, .val (.int ((Int32.ofNat a) + (1 : Int32))), .val (.int (Int32.ofNat d)), .val (.int (f a))]) rfl ?_
  show Steps p.tables e below (T4.setTop (mkF m 110 #[.val (.long q1), .second, .val (.ref b), .val (.int p3), .val (.int p4), .val (.int p5), .val (.long r), .second, .val (.int ((Int32.ofNat a) + (1 : Int32))), .val (.int (Int32.ofNat d)), .val (.int (f a))] [])) _
  refine XS.iinc X4.here hx rfl (hb hby d1_110) rfl (l' := #[.val (.long q1), .second, .val (.ref b), .val (.int p3), .val (.int p4), .val (.int p5), .val (.long r), .second, .val (.int ((Int32.ofNat a) + (1 : Int32))), .val (.int ((Int32.ofNat d) + (-1 : Int32))), .val (.int (f a))]) rfl ?_
  show Steps p.tables e below (T4.setTop (mkF m 113 #[.val (.long q1), .second, .val (.ref b), .val (.int p3), .val (.int p4), .val (.int p5), .val (.long r), .second, .val (.int ((Int32.ofNat a) + (1 : Int32))), .val (.int ((Int32.ofNat d) + (-1 : Int32))), .val (.int (f a))] [])) _
  refine XS.goto X4.here hx rfl (pc0 := 113) (pc' := 80) rfl (hb hby d1_113) (by decide) (by decide) ?_
  exact kt
set_option maxRecDepth 65536 in
set_option maxHeartbeats 40000000 in
theorem ex2 {p : Program} {l : Launch} {e : Env} {R : Room} {s : State} {m : MethodId} {args : Array Value} {below : List Frame} {meth : Method} {c : Code} {T0 : State} {locs : List Loc} {cells slots : Nat} {Z : State} {a0 : Array Value} (q1 r : Int64) (b : Addr) (p3 p4 p5 : Int32) (kb : ClassId) (n0 : Nat) (f : Nat → Int32) (a d : Nat) (s10 : Slot) (X0 : Stand p l e R s m args below meth c T0 locs cells slots) (hx : p.tables.exec = Jvm.exec) (hZ : Z.Warmed39 s.vm) (hw : ∀ d ∈ tables_1, d.before a0 Z = true) (hby : c.code = prog_143_method_4_code) (hown : s.vm.findClass "com/example/bulkwire/bulkwire/resp/Decimal" = some m.cls) (hq : ¬ Int32.ofNat a < Int32.ofNat d) :
    ∀ target, Steps p.tables e below (T0.setTop (mkF m 116 #[.val (.long q1), .second, .val (.ref b), .val (.int p3), .val (.int p4), .val (.int p5), .val (.long r), .second, .val (.int (Int32.ofNat a)), .val (.int (Int32.ofNat d)), s10] [])) target → Steps p.tables e below (T0.setTop (mkF m 80 #[.val (.long q1), .second, .val (.ref b), .val (.int p3), .val (.int p4), .val (.int p5), .val (.long r), .second, .val (.int (Int32.ofNat a)), .val (.int (Int32.ofNat d)), s10] [])) target := by
  intro target kt
  show Steps p.tables e below (T0.setTop (mkF m 80 #[.val (.long q1), .second, .val (.ref b), .val (.int p3), .val (.int p4), .val (.int p5), .val (.long r), .second, .val (.int (Int32.ofNat a)), .val (.int (Int32.ofNat d)), s10] [])) _
  refine XS.iload X0.here hx rfl (hb hby d1_80) rfl ?_
  show Steps p.tables e below (T0.setTop (mkF m 82 #[.val (.long q1), .second, .val (.ref b), .val (.int p3), .val (.int p4), .val (.int p5), .val (.long r), .second, .val (.int (Int32.ofNat a)), .val (.int (Int32.ofNat d)), s10] [(.int (Int32.ofNat a))])) _
  refine XS.iload X0.here hx rfl (hb hby d1_82) rfl ?_
  show Steps p.tables e below (T0.setTop (mkF m 84 #[.val (.long q1), .second, .val (.ref b), .val (.int p3), .val (.int p4), .val (.int p5), .val (.long r), .second, .val (.int (Int32.ofNat a)), .val (.int (Int32.ofNat d)), s10] [(.int (Int32.ofNat d)), (.int (Int32.ofNat a))])) _
  refine XS.icmpYes X0.here hx rfl (pc0 := 84) (pc' := 116) rfl (hb hby d1_84) rfl (flt (hq)).2.1 (by decide) (by decide) ?_
  exact kt
set_option maxRecDepth 65536 in
set_option maxHeartbeats 40000000 in
theorem lp2 {p : Program} {l : Launch} {e : Env} {R : Room} {s : State} {m : MethodId} {args : Array Value} {below : List Frame} {meth : Method} {c : Code} {cells slots : Nat} {Z : State} {a0 : Array Value} (q1 r : Int64) (b : Addr) (p3 p4 p5 : Int32) (kb : ClassId) (n0 : Nat) (gb : n0 ≤ b) (hx : p.tables.exec = Jvm.exec) (hZ : Z.Warmed39 s.vm) (hw : ∀ d ∈ tables_1, d.before a0 Z = true) (hby : c.code = prog_143_method_4_code) (hown : s.vm.findClass "com/example/bulkwire/bulkwire/resp/Decimal" = some m.cls) (k : Nat) :
    ∀ (T0 : State) (locs : List Loc) (f : Nat → Int32) (a d : Nat) (s10 : Slot), Stand p l e R s m args below meth c T0 locs cells slots → own_buf Z T0.heap b kb f → One s10 → d < 29 → a ≤ d + 1 → d ≤ a + k →
      ∃ (T' : State) (L' : List Loc) (f' : Nat → Int32) (x8 x9 : Int32) (s' : Slot), Stand p l e R s m args below meth c T' (locs ++ L') cells slots ∧ Fr n0 L' ∧ T0.heap.size ≤ T'.heap.size ∧ own_buf Z T'.heap b kb f' ∧ (∀ j, f' j = if a ≤ j ∧ j ≤ d then f (a + d - j) else f j) ∧
        ∀ target, Steps p.tables e below (T'.setTop (mkF m 116 #[.val (.long q1), .second, .val (.ref b), .val (.int p3), .val (.int p4), .val (.int p5), .val (.long r), .second, .val (.int x8), .val (.int x9), s'] [])) target → Steps p.tables e below (T0.setTop (mkF m 80 #[.val (.long q1), .second, .val (.ref b), .val (.int p3), .val (.int p4), .val (.int p5), .val (.long r), .second, .val (.int (Int32.ofNat a)), .val (.int (Int32.ofNat d)), s10] [])) target := by
  have exit : ∀ (T0 : State) (locs : List Loc) (f : Nat → Int32) (a d : Nat) (s10 : Slot), Stand p l e R s m args below meth c T0 locs cells slots → own_buf Z T0.heap b kb f → a < 30 → d < 30 → ¬ a < d →
      ∃ (T' : State) (L' : List Loc) (f' : Nat → Int32) (x8 x9 : Int32) (s' : Slot), Stand p l e R s m args below meth c T' (locs ++ L') cells slots ∧ Fr n0 L' ∧ T0.heap.size ≤ T'.heap.size ∧ own_buf Z T'.heap b kb f' ∧ (∀ j, f' j = if a ≤ j ∧ j ≤ d then f (a + d - j) else f j) ∧
        ∀ target, Steps p.tables e below (T'.setTop (mkF m 116 #[.val (.long q1), .second, .val (.ref b), .val (.int p3), .val (.int p4), .val (.int p5), .val (.long r), .second, .val (.int x8), .val (.int x9), s'] [])) target → Steps p.tables e below (T0.setTop (mkF m 80 #[.val (.long q1), .second, .val (.ref b), .val (.int p3), .val (.int p4), .val (.int p5), .val (.long r), .second, .val (.int (Int32.ofNat a)), .val (.int (Int32.ofNat d)), s10] [])) target := by
    intro T0 locs f a d s10 X0 F ha hd h
    refine ⟨T0, [], f, _, _, _, by simpa only [List.append_nil] using X0, Fr.nil n0, Nat.le_refl _, F, fun j => ?_, ex2 q1 r b p3 p4 p5 kb n0 f a d s10 X0 hx hZ hw hby hown (fun q => h ((own_lt30 ha hd).mp q))⟩
    by_cases hj : a ≤ j ∧ j ≤ d
    · rw [if_pos hj]; congr 1; omega
    · rw [if_neg hj]
  induction k with
  | zero =>
    intro T0 locs f a d s10 X0 F hs hd had hk
    exact exit T0 locs f a d s10 X0 F (by omega) (by omega) (by omega)
  | succ k ih =>
    intro T0 locs f a d s10 X0 F hs hd had hk
    by_cases h : a < d
    · obtain ⟨T1, L1, X1, N1, z1, B1, st1⟩ := tn2 q1 r b p3 p4 p5 kb n0 f a d s10 X0 hx hZ hw hby hown F (by omega) (by omega) gb hs ((own_lt30 (by omega) (by omega)).mpr h)
      rw [own_fitb F (by omega : d < 30), own_fitb F (by omega : a < 30)] at B1
      obtain ⟨T2, L2, f2, x8, x9, s', X2, N2, z2, B2, h1, st2⟩ := ih T1 (locs ++ L1) _ (a + 1) (d - 1) (.val (.int (f a))) X1 B1 (One.val rfl) (by omega) (by omega) (by omega)
      refine ⟨T2, L1 ++ L2, f2, x8, x9, s', by simpa only [List.append_assoc] using X2, N1.app N2, Nat.le_trans z1 z2, B2, own_swap f a d h f2 h1, fun target kt => st1 target ?_⟩
      have q := st2 target kt
      rw [inc_ofNat, ← own_decm (by omega : 0 < d)] at q
      exact q
    · exact exit T0 locs f a d s10 X0 F (by omega) (by omega) h
def Q1 (Z : State) (b : Addr) (kb : ClassId) (f : Nat → Int32) (q1 : Int64) (a : Nat) (h0 : Heap) (n0 : Nat) (v : Option Value) (h : Heap) (Lc : List Loc) : Prop := ∃ (g : Nat → Int32) (sg L : Nat), v = some (.int (Int32.ofNat (a + sg + L))) ∧ Fr n0 Lc ∧ h0.size ≤ h.size ∧ own_buf Z h b kb g ∧ own_done f g q1 a sg L
set_option maxRecDepth 65536 in
set_option maxHeartbeats 40000000 in
theorem rm1 (l : Launch) (Z : State) (a0 : Array Value) (hw : ∀ d ∈ tables_1, d.before a0 Z = true) (ws : List Jvm.Cond) (q1 : Int64) (b : Addr) (p3 : Int32) (h0 : Heap) (n0 : Nat) (Z0 : n0 ≤ h0.size) (kb : ClassId) (f : Nat → Int32) (a : Nat) (ha : a ≤ 7) (hp : p3 = Int32.ofNat a) (gb : n0 ≤ b) (F0 : own_buf Z h0 b kb f) :
    MetFree l (⟨"com/example/bulkwire/bulkwire/resp/Decimal", "write", "(J[BI)I"⟩ : MethodName) (head1 (Jvm.Cond.code (⟨"com/example/bulkwire/bulkwire/resp/Decimal", "write", "(J[BI)I"⟩ : MethodName) prog_143_method_4_code 11 (some .int) :: ws) ({ frames := 0, cells := 0, slots := 0, locals := 0 } : Room)) (fun a U => a = #[(.long q1), (.ref b), (.int p3)] ∧ Z.Warmed39 U.vm ∧ U.heap = h0) (fun _ _ _ _ _ => True) (fun _ U o U' => ∃ v L, o = .returned v ∧ Q1 Z b kb f q1 a h0 n0 v U'.heap L ∧ FrameEnd U o U' L ({ frames := 0, cells := 0, slots := 0, locals := 0 } : Room).cells ({ frames := 0, cells := 0, slots := 0, locals := 0 } : Room).slots) := by
  subst hp
  refine MetFree.of_bodySF (plainFor_of_name pn_1) hisR ?_
  intro p e s m args below meth c s₁ Bd hml0 hP hK
  obtain ⟨rfl, hZ, hh⟩ := hP
  have hx := Bd.exec
  have hby := Bd.bytes
  have hml : c.maxLocals = 11 := hml0
  have hown : s.vm.findClass "com/example/bulkwire/bulkwire/resp/Decimal" = some m.cls := findClass_of_methodNamed Bd.named
  have hnm := (name_of_methodNamed Bd.named Bd.method).1
  have X0 : Stand p l e ({ frames := 0, cells := 0, slots := 0, locals := 0 } : Room) s m #[(.long q1), (.ref b), (.int (Int32.ofNat a))] below meth c s₁ [] 0 0 := Stand.of_body Bd
  have e0 : s₁.heap = h0 := by rw [← hh, Bd.state]; rfl
  have N0 := Fr.nil n0
  have pre0 : ∀ t, Steps p.tables e below (s₁.setTop (mkF m 0 #[.val (.long q1), .second, .val (.ref b), .val (.int (Int32.ofNat a)), .unset, .unset, .unset, .unset, .unset, .unset, .unset] [])) t → Steps p.tables e below (s₁.setTop (entryFrame m #[(.long q1), (.ref b), (.int (Int32.ofNat a))] 11)) t := fun t k => castTop (ef_1 m q1 b (Int32.ofNat a)) k
  have ha30 : a < 30 := by omega
  obtain ⟨L, hL⟩ := own_dl_ex q1.toInt.natAbs
  have hL19 := own_dl_19 hL (own_abs_lt q1)
  obtain ⟨k, rfl⟩ : ∃ k, L = k + 1 := ⟨L - 1, by have := hL.1; omega⟩
  by_cases hc6 : q1 < (0 : Int64)
  · obtain ⟨cl1, Ar1, qq1, S1, Nn1, Hh1, Gg1⟩ := id F0
    have hin1 : ¬ ((Int32.ofNat a) < 0 ∨ cl1.slots.size ≤ ((Int32.ofNat a)).toNatClampNeg) := inb_of S1 (own_nat30 a ha30).1
    obtain ⟨T1, h1, X1, e1, W1, st1⟩ := stB X0 hx hZ e0 Ar1 (j := (Int32.ofNat a)) hin1 (g := (mkF m 17 #[.val (.long q1), .second, .val (.ref b), .val (.int (Int32.ofNat a)), .val (.int ((Int32.ofNat a) + (1 : Int32))), .unset, .unset, .unset, .unset, .unset, .unset] [(.int (45 : Int32)), (.int (Int32.ofNat a)), (.ref b)])) rfl rfl (hb hby d1_17)
    have B1 := own_put (x := (45 : Int32)) ha30 F0 W1
    have z1 : h0.size ≤ h1.size := Nat.le_trans (Nat.le_refl h0.size) (Keep.of_wr W1).1
    have Bc : own_buf Z T1.heap b kb (own_upd f a (nar .byte (45 : Int32))) := by rw [e1]; exact B1
    have zc : h0.size ≤ T1.heap.size := by rw [e1]; exact z1
    have hr : (q1).toInt = -((q1.toInt.natAbs : Nat) : Int) := by
      have h0' : q1.toInt < (0 : Int64).toInt := Int64.lt_iff_toInt_lt.mp hc6
      have e0 : (0 : Int64).toInt = 0 := by decide
      have h1' := c_lneg q1
      have h2' := rng64 (-q1)
      have h3' := rng64 q1
      omega
    obtain ⟨TA, LA, fA, rA, XA, NA, zA, BA, hA1, hA2, stA⟩ := lp1 q1 b (Int32.ofNat a) (Int32.ofNat (a + 1)) kb n0 gb hx hZ hw hby hown k T1 _ _ (a + 1) q1.toInt.natAbs q1 X1 Bc hr hL (by omega)
    obtain ⟨TB, LB, g, x8, x9, sB, XB, NB, zB, BB, hB, stB'⟩ := lp2 q1 rA b (Int32.ofNat a) (Int32.ofNat ((a + 1) + (k + 1))) (Int32.ofNat (a + 1)) kb n0 gb hx hZ hw hby hown k TA _ fA (a + 1) ((a + 1) + (k + 1) - 1) .unset XA BA One.u (by omega) (by omega) (by omega)
    have NN := Fr.app (Fr.app (Fr.snoc X1 N0 gb) NA) NB
    obtain ⟨fs, hr, hrun, hended, hW, hsame⟩ := XB.leave (v := some (.int (Int32.ofNat ((a + 1) + (k + 1))))) (fun h => by rw [Bd.returns] at h; cases h)
    refine ⟨_, _, pre0 _ ?_, hrun, hended, _, _, rfl, ?_, ⟨_, rfl⟩, hW, hsame.mono (by decide) (by decide)⟩
    · show Steps p.tables e below (s₁.setTop (mkF m 0 #[.val (.long q1), .second, .val (.ref b), .val (.int (Int32.ofNat a)), .unset, .unset, .unset, .unset, .unset, .unset, .unset] [])) _
      refine XS.iloadN X0.here hx rfl (hb hby d1_0) rfl ?_
      show Steps p.tables e below (s₁.setTop (mkF m 1 #[.val (.long q1), .second, .val (.ref b), .val (.int (Int32.ofNat a)), .unset, .unset, .unset, .unset, .unset, .unset, .unset] [(.int (Int32.ofNat a))])) _
      refine XS.istore X0.here hx rfl (hb hby d1_1) rfl (l' := #[.val (.long q1), .second, .val (.ref b), .val (.int (Int32.ofNat a)), .val (.int (Int32.ofNat a)), .unset, .unset, .unset, .unset, .unset, .unset]) rfl ?_
      show Steps p.tables e below (s₁.setTop (mkF m 3 #[.val (.long q1), .second, .val (.ref b), .val (.int (Int32.ofNat a)), .val (.int (Int32.ofNat a)), .unset, .unset, .unset, .unset, .unset, .unset] [])) _
      refine XS.lloadN X0.here hx rfl (hb hby d1_3) rfl ?_
      show Steps p.tables e below (s₁.setTop (mkF m 4 #[.val (.long q1), .second, .val (.ref b), .val (.int (Int32.ofNat a)), .val (.int (Int32.ofNat a)), .unset, .unset, .unset, .unset, .unset, .unset] [(.long q1)])) _
      refine XS.lconst X0.here hx rfl (hb hby d1_4) ?_
      show Steps p.tables e below (s₁.setTop (mkF m 5 #[.val (.long q1), .second, .val (.ref b), .val (.int (Int32.ofNat a)), .val (.int (Int32.ofNat a)), .unset, .unset, .unset, .unset, .unset, .unset] [(.long (0 : Int64)), (.long q1)])) _
      refine XS.lcmp X0.here hx rfl (hb hby d1_5) rfl ?_
      show Steps p.tables e below (s₁.setTop (mkF m 6 #[.val (.long q1), .second, .val (.ref b), .val (.int (Int32.ofNat a)), .val (.int (Int32.ofNat a)), .unset, .unset, .unset, .unset, .unset, .unset] [(.int (lcmpW q1 (0 : Int64)))])) _
      refine XS.ifNo X0.here hx rfl (hb hby d1_6) rfl ((if0 _ _).trans (tlt ((lw_lt _ _).mpr hc6)).2.1) ?_
      show Steps p.tables e below (s₁.setTop (mkF m 9 #[.val (.long q1), .second, .val (.ref b), .val (.int (Int32.ofNat a)), .val (.int (Int32.ofNat a)), .unset, .unset, .unset, .unset, .unset, .unset] [])) _
      refine XS.aloadN X0.here hx rfl (hb hby d1_9) rfl rfl ?_
      show Steps p.tables e below (s₁.setTop (mkF m 10 #[.val (.long q1), .second, .val (.ref b), .val (.int (Int32.ofNat a)), .val (.int (Int32.ofNat a)), .unset, .unset, .unset, .unset, .unset, .unset] [(.ref b)])) _
      refine XS.iload X0.here hx rfl (hb hby d1_10) rfl ?_
      show Steps p.tables e below (s₁.setTop (mkF m 12 #[.val (.long q1), .second, .val (.ref b), .val (.int (Int32.ofNat a)), .val (.int (Int32.ofNat a)), .unset, .unset, .unset, .unset, .unset, .unset] [(.int (Int32.ofNat a)), (.ref b)])) _
      refine XS.iinc X0.here hx rfl (hb hby d1_12) rfl (l' := #[.val (.long q1), .second, .val (.ref b), .val (.int (Int32.ofNat a)), .val (.int ((Int32.ofNat a) + (1 : Int32))), .unset, .unset, .unset, .unset, .unset, .unset]) rfl ?_
      show Steps p.tables e below (s₁.setTop (mkF m 15 #[.val (.long q1), .second, .val (.ref b), .val (.int (Int32.ofNat a)), .val (.int ((Int32.ofNat a) + (1 : Int32))), .unset, .unset, .unset, .unset, .unset, .unset] [(.int (Int32.ofNat a)), (.ref b)])) _
      refine XS.bipush X0.here hx rfl (hb hby d1_15) ?_
      show Steps p.tables e below (s₁.setTop (mkF m 17 #[.val (.long q1), .second, .val (.ref b), .val (.int (Int32.ofNat a)), .val (.int ((Int32.ofNat a) + (1 : Int32))), .unset, .unset, .unset, .unset, .unset, .unset] [(.int (45 : Int32)), (.int (Int32.ofNat a)), (.ref b)])) _
      refine st1 _ ?_
      show Steps p.tables e below (T1.setTop (mkF m 18 #[.val (.long q1), .second, .val (.ref b), .val (.int (Int32.ofNat a)), .val (.int ((Int32.ofNat a) + (1 : Int32))), .unset, .unset, .unset, .unset, .unset, .unset] [])) _
      refine XS.iload X1.here hx rfl (hb hby d1_18) rfl ?_
      show Steps p.tables e below (T1.setTop (mkF m 20 #[.val (.long q1), .second, .val (.ref b), .val (.int (Int32.ofNat a)), .val (.int ((Int32.ofNat a) + (1 : Int32))), .unset, .unset, .unset, .unset, .unset, .unset] [(.int ((Int32.ofNat a) + (1 : Int32)))])) _
      refine XS.istore X1.here hx rfl (hb hby d1_20) rfl (l' := #[.val (.long q1), .second, .val (.ref b), .val (.int (Int32.ofNat a)), .val (.int ((Int32.ofNat a) + (1 : Int32))), .val (.int ((Int32.ofNat a) + (1 : Int32))), .unset, .unset, .unset, .unset, .unset]) rfl ?_
      show Steps p.tables e below (T1.setTop (mkF m 22 #[.val (.long q1), .second, .val (.ref b), .val (.int (Int32.ofNat a)), .val (.int ((Int32.ofNat a) + (1 : Int32))), .val (.int ((Int32.ofNat a) + (1 : Int32))), .unset, .unset, .unset, .unset, .unset] [])) _
      refine XS.lloadN X1.here hx rfl (hb hby d1_22) rfl ?_
      show Steps p.tables e below (T1.setTop (mkF m 23 #[.val (.long q1), .second, .val (.ref b), .val (.int (Int32.ofNat a)), .val (.int ((Int32.ofNat a) + (1 : Int32))), .val (.int ((Int32.ofNat a) + (1 : Int32))), .unset, .unset, .unset, .unset, .unset] [(.long q1)])) _
      refine XS.lconst X1.here hx rfl (hb hby d1_23) ?_
      show Steps p.tables e below (T1.setTop (mkF m 24 #[.val (.long q1), .second, .val (.ref b), .val (.int (Int32.ofNat a)), .val (.int ((Int32.ofNat a) + (1 : Int32))), .val (.int ((Int32.ofNat a) + (1 : Int32))), .unset, .unset, .unset, .unset, .unset] [(.long (0 : Int64)), (.long q1)])) _
      refine XS.lcmp X1.here hx rfl (hb hby d1_24) rfl ?_
      show Steps p.tables e below (T1.setTop (mkF m 25 #[.val (.long q1), .second, .val (.ref b), .val (.int (Int32.ofNat a)), .val (.int ((Int32.ofNat a) + (1 : Int32))), .val (.int ((Int32.ofNat a) + (1 : Int32))), .unset, .unset, .unset, .unset, .unset] [(.int (lcmpW q1 (0 : Int64)))])) _
      refine XS.ifNo X1.here hx rfl (hb hby d1_25) rfl ((if0 _ _).trans (tlt ((lw_lt _ _).mpr hc6)).2.1) ?_
      show Steps p.tables e below (T1.setTop (mkF m 28 #[.val (.long q1), .second, .val (.ref b), .val (.int (Int32.ofNat a)), .val (.int ((Int32.ofNat a) + (1 : Int32))), .val (.int ((Int32.ofNat a) + (1 : Int32))), .unset, .unset, .unset, .unset, .unset] [])) _
      refine XS.lloadN X1.here hx rfl (hb hby d1_28) rfl ?_
      show Steps p.tables e below (T1.setTop (mkF m 29 #[.val (.long q1), .second, .val (.ref b), .val (.int (Int32.ofNat a)), .val (.int ((Int32.ofNat a) + (1 : Int32))), .val (.int ((Int32.ofNat a) + (1 : Int32))), .unset, .unset, .unset, .unset, .unset] [(.long q1)])) _
      refine XS.goto X1.here hx rfl (pc0 := 29) (pc' := 34) rfl (hb hby d1_29) (by decide) (by decide) ?_
      show Steps p.tables e below (T1.setTop (mkF m 34 #[.val (.long q1), .second, .val (.ref b), .val (.int (Int32.ofNat a)), .val (.int ((Int32.ofNat a) + (1 : Int32))), .val (.int ((Int32.ofNat a) + (1 : Int32))), .unset, .unset, .unset, .unset, .unset] [(.long q1)])) _
      refine XS.lstore X1.here hx rfl (hb hby d1_34) rfl (l' := #[.val (.long q1), .second, .val (.ref b), .val (.int (Int32.ofNat a)), .val (.int ((Int32.ofNat a) + (1 : Int32))), .val (.int ((Int32.ofNat a) + (1 : Int32))), .val (.long q1), .second, .unset, .unset, .unset]) rfl ?_
      show Steps p.tables e below (T1.setTop (mkF m 36 #[.val (.long q1), .second, .val (.ref b), .val (.int (Int32.ofNat a)), .val (.int ((Int32.ofNat a) + (1 : Int32))), .val (.int ((Int32.ofNat a) + (1 : Int32))), .val (.long q1), .second, .unset, .unset, .unset] [])) _
      rw [← inc_ofNat]
      show Steps p.tables e below (T1.setTop (mkF m 36 #[.val (.long q1), .second, .val (.ref b), .val (.int (Int32.ofNat a)), .val (.int (Int32.ofNat (a + 1))), .val (.int (Int32.ofNat (a + 1))), .val (.long q1), .second, .unset, .unset, .unset] [])) _
      refine stA _ ?_
      show Steps p.tables e below (TA.setTop (mkF m 70 #[.val (.long q1), .second, .val (.ref b), .val (.int (Int32.ofNat a)), .val (.int (Int32.ofNat ((a + 1) + (k + 1)))), .val (.int (Int32.ofNat (a + 1))), .val (.long rA), .second, .unset, .unset, .unset] [])) _
      refine XS.iload XA.here hx rfl (hb hby d1_70) rfl ?_
      show Steps p.tables e below (TA.setTop (mkF m 72 #[.val (.long q1), .second, .val (.ref b), .val (.int (Int32.ofNat a)), .val (.int (Int32.ofNat ((a + 1) + (k + 1)))), .val (.int (Int32.ofNat (a + 1))), .val (.long rA), .second, .unset, .unset, .unset] [(.int (Int32.ofNat (a + 1)))])) _
      refine XS.istore XA.here hx rfl (hb hby d1_72) rfl (l' := #[.val (.long q1), .second, .val (.ref b), .val (.int (Int32.ofNat a)), .val (.int (Int32.ofNat ((a + 1) + (k + 1)))), .val (.int (Int32.ofNat (a + 1))), .val (.long rA), .second, .val (.int (Int32.ofNat (a + 1))), .unset, .unset]) rfl ?_
      show Steps p.tables e below (TA.setTop (mkF m 74 #[.val (.long q1), .second, .val (.ref b), .val (.int (Int32.ofNat a)), .val (.int (Int32.ofNat ((a + 1) + (k + 1)))), .val (.int (Int32.ofNat (a + 1))), .val (.long rA), .second, .val (.int (Int32.ofNat (a + 1))), .unset, .unset] [])) _
      refine XS.iload XA.here hx rfl (hb hby d1_74) rfl ?_
      show Steps p.tables e below (TA.setTop (mkF m 76 #[.val (.long q1), .second, .val (.ref b), .val (.int (Int32.ofNat a)), .val (.int (Int32.ofNat ((a + 1) + (k + 1)))), .val (.int (Int32.ofNat (a + 1))), .val (.long rA), .second, .val (.int (Int32.ofNat (a + 1))), .unset, .unset] [(.int (Int32.ofNat ((a + 1) + (k + 1))))])) _
      refine XS.iconst XA.here hx rfl (hb hby d1_76) ?_
      show Steps p.tables e below (TA.setTop (mkF m 77 #[.val (.long q1), .second, .val (.ref b), .val (.int (Int32.ofNat a)), .val (.int (Int32.ofNat ((a + 1) + (k + 1)))), .val (.int (Int32.ofNat (a + 1))), .val (.long rA), .second, .val (.int (Int32.ofNat (a + 1))), .unset, .unset] [(.int (1 : Int32)), (.int (Int32.ofNat ((a + 1) + (k + 1))))])) _
      refine XS.isub XA.here hx rfl (hb hby d1_77) rfl ?_
      show Steps p.tables e below (TA.setTop (mkF m 78 #[.val (.long q1), .second, .val (.ref b), .val (.int (Int32.ofNat a)), .val (.int (Int32.ofNat ((a + 1) + (k + 1)))), .val (.int (Int32.ofNat (a + 1))), .val (.long rA), .second, .val (.int (Int32.ofNat (a + 1))), .unset, .unset] [(.int ((Int32.ofNat ((a + 1) + (k + 1))) - (1 : Int32)))])) _
      refine XS.istore XA.here hx rfl (hb hby d1_78) rfl (l' := #[.val (.long q1), .second, .val (.ref b), .val (.int (Int32.ofNat a)), .val (.int (Int32.ofNat ((a + 1) + (k + 1)))), .val (.int (Int32.ofNat (a + 1))), .val (.long rA), .second, .val (.int (Int32.ofNat (a + 1))), .val (.int ((Int32.ofNat ((a + 1) + (k + 1))) - (1 : Int32))), .unset]) rfl ?_
      show Steps p.tables e below (TA.setTop (mkF m 80 #[.val (.long q1), .second, .val (.ref b), .val (.int (Int32.ofNat a)), .val (.int (Int32.ofNat ((a + 1) + (k + 1)))), .val (.int (Int32.ofNat (a + 1))), .val (.long rA), .second, .val (.int (Int32.ofNat (a + 1))), .val (.int ((Int32.ofNat ((a + 1) + (k + 1))) - (1 : Int32))), .unset] [])) _
      rw [own_dec30 (by omega : 0 < (a + 1) + (k + 1))]
      refine stB' _ ?_
      show Steps p.tables e below (TB.setTop (mkF m 116 #[.val (.long q1), .second, .val (.ref b), .val (.int (Int32.ofNat a)), .val (.int (Int32.ofNat ((a + 1) + (k + 1)))), .val (.int (Int32.ofNat (a + 1))), .val (.long rA), .second, .val (.int x8), .val (.int x9), sB] [])) _
      refine XS.iload XB.here hx rfl (hb hby d1_116) rfl ?_
      show Steps p.tables e below (TB.setTop (mkF m 118 #[.val (.long q1), .second, .val (.ref b), .val (.int (Int32.ofNat a)), .val (.int (Int32.ofNat ((a + 1) + (k + 1)))), .val (.int (Int32.ofNat (a + 1))), .val (.long rA), .second, .val (.int x8), .val (.int x9), sB] [(.int (Int32.ofNat ((a + 1) + (k + 1))))])) _
      exact retI XB hx Bd.returns (hb hby d1_118) hr
    · show Q1 Z b kb f q1 a h0 n0 _ TB.heap _
      refine ⟨g, 1, k + 1, rfl, NN, Nat.le_trans zc (Nat.le_trans zA zB), BB, (fun _ => ⟨rfl, ?_⟩), (fun q => absurd hc6 q), hL, ?_, ?_⟩
      · rw [hB a, if_neg (by omega), hA2 a (Or.inl (by omega))]; simp only [own_upd, if_true]; decide
      · intro t ht
        rw [hB, if_pos (by omega), show (a + 1) + ((a + 1) + (k + 1) - 1) - (a + 1 + t) = (a + 1) + (k - t) by omega, hA1 (k - t) (by omega)]
        congr 2
      · intro j hj
        rw [hB, if_neg (by omega), hA2 j (by omega)]
        simp only [own_upd]
        rw [if_neg (by omega)]
  · have Bc : own_buf Z s₁.heap b kb f := by rw [e0]; exact F0
    have zc : h0.size ≤ s₁.heap.size := by rw [e0]; exact (Nat.le_refl h0.size)
    have hr : ((-q1)).toInt = -((q1.toInt.natAbs : Nat) : Int) := by
      have h0' : ¬ q1.toInt < (0 : Int64).toInt := fun q => hc6 (Int64.lt_iff_toInt_lt.mpr q)
      have e0 : (0 : Int64).toInt = 0 := by decide
      have h1' := c_lneg q1
      have h2' := rng64 (-q1)
      have h3' := rng64 q1
      omega
    obtain ⟨TA, LA, fA, rA, XA, NA, zA, BA, hA1, hA2, stA⟩ := lp1 q1 b (Int32.ofNat a) (Int32.ofNat a) kb n0 gb hx hZ hw hby hown k s₁ _ _ a q1.toInt.natAbs (-q1) X0 Bc hr hL (by omega)
    obtain ⟨TB, LB, g, x8, x9, sB, XB, NB, zB, BB, hB, stB'⟩ := lp2 q1 rA b (Int32.ofNat a) (Int32.ofNat (a + (k + 1))) (Int32.ofNat a) kb n0 gb hx hZ hw hby hown k TA _ fA a (a + (k + 1) - 1) .unset XA BA One.u (by omega) (by omega) (by omega)
    have NN := Fr.app (Fr.app N0 NA) NB
    obtain ⟨fs, hr, hrun, hended, hW, hsame⟩ := XB.leave (v := some (.int (Int32.ofNat (a + (k + 1))))) (fun h => by rw [Bd.returns] at h; cases h)
    refine ⟨_, _, pre0 _ ?_, hrun, hended, _, _, rfl, ?_, ⟨_, rfl⟩, hW, hsame.mono (by decide) (by decide)⟩
    · show Steps p.tables e below (s₁.setTop (mkF m 0 #[.val (.long q1), .second, .val (.ref b), .val (.int (Int32.ofNat a)), .unset, .unset, .unset, .unset, .unset, .unset, .unset] [])) _
      refine XS.iloadN X0.here hx rfl (hb hby d1_0) rfl ?_
      show Steps p.tables e below (s₁.setTop (mkF m 1 #[.val (.long q1), .second, .val (.ref b), .val (.int (Int32.ofNat a)), .unset, .unset, .unset, .unset, .unset, .unset, .unset] [(.int (Int32.ofNat a))])) _
      refine XS.istore X0.here hx rfl (hb hby d1_1) rfl (l' := #[.val (.long q1), .second, .val (.ref b), .val (.int (Int32.ofNat a)), .val (.int (Int32.ofNat a)), .unset, .unset, .unset, .unset, .unset, .unset]) rfl ?_
      show Steps p.tables e below (s₁.setTop (mkF m 3 #[.val (.long q1), .second, .val (.ref b), .val (.int (Int32.ofNat a)), .val (.int (Int32.ofNat a)), .unset, .unset, .unset, .unset, .unset, .unset] [])) _
      refine XS.lloadN X0.here hx rfl (hb hby d1_3) rfl ?_
      show Steps p.tables e below (s₁.setTop (mkF m 4 #[.val (.long q1), .second, .val (.ref b), .val (.int (Int32.ofNat a)), .val (.int (Int32.ofNat a)), .unset, .unset, .unset, .unset, .unset, .unset] [(.long q1)])) _
      refine XS.lconst X0.here hx rfl (hb hby d1_4) ?_
      show Steps p.tables e below (s₁.setTop (mkF m 5 #[.val (.long q1), .second, .val (.ref b), .val (.int (Int32.ofNat a)), .val (.int (Int32.ofNat a)), .unset, .unset, .unset, .unset, .unset, .unset] [(.long (0 : Int64)), (.long q1)])) _
      refine XS.lcmp X0.here hx rfl (hb hby d1_5) rfl ?_
      show Steps p.tables e below (s₁.setTop (mkF m 6 #[.val (.long q1), .second, .val (.ref b), .val (.int (Int32.ofNat a)), .val (.int (Int32.ofNat a)), .unset, .unset, .unset, .unset, .unset, .unset] [(.int (lcmpW q1 (0 : Int64)))])) _
      refine XS.ifYes X0.here hx rfl (pc0 := 6) (pc' := 18) rfl (hb hby d1_6) rfl ((if0 _ _).trans (flt (fun q => hc6 ((lw_lt _ _).mp q))).2.1) (by decide) (by decide) ?_
      show Steps p.tables e below (s₁.setTop (mkF m 18 #[.val (.long q1), .second, .val (.ref b), .val (.int (Int32.ofNat a)), .val (.int (Int32.ofNat a)), .unset, .unset, .unset, .unset, .unset, .unset] [])) _
      refine XS.iload X0.here hx rfl (hb hby d1_18) rfl ?_
      show Steps p.tables e below (s₁.setTop (mkF m 20 #[.val (.long q1), .second, .val (.ref b), .val (.int (Int32.ofNat a)), .val (.int (Int32.ofNat a)), .unset, .unset, .unset, .unset, .unset, .unset] [(.int (Int32.ofNat a))])) _
      refine XS.istore X0.here hx rfl (hb hby d1_20) rfl (l' := #[.val (.long q1), .second, .val (.ref b), .val (.int (Int32.ofNat a)), .val (.int (Int32.ofNat a)), .val (.int (Int32.ofNat a)), .unset, .unset, .unset, .unset, .unset]) rfl ?_
      show Steps p.tables e below (s₁.setTop (mkF m 22 #[.val (.long q1), .second, .val (.ref b), .val (.int (Int32.ofNat a)), .val (.int (Int32.ofNat a)), .val (.int (Int32.ofNat a)), .unset, .unset, .unset, .unset, .unset] [])) _
      refine XS.lloadN X0.here hx rfl (hb hby d1_22) rfl ?_
      show Steps p.tables e below (s₁.setTop (mkF m 23 #[.val (.long q1), .second, .val (.ref b), .val (.int (Int32.ofNat a)), .val (.int (Int32.ofNat a)), .val (.int (Int32.ofNat a)), .unset, .unset, .unset, .unset, .unset] [(.long q1)])) _
      refine XS.lconst X0.here hx rfl (hb hby d1_23) ?_
      show Steps p.tables e below (s₁.setTop (mkF m 24 #[.val (.long q1), .second, .val (.ref b), .val (.int (Int32.ofNat a)), .val (.int (Int32.ofNat a)), .val (.int (Int32.ofNat a)), .unset, .unset, .unset, .unset, .unset] [(.long (0 : Int64)), (.long q1)])) _
      refine XS.lcmp X0.here hx rfl (hb hby d1_24) rfl ?_
      show Steps p.tables e below (s₁.setTop (mkF m 25 #[.val (.long q1), .second, .val (.ref b), .val (.int (Int32.ofNat a)), .val (.int (Int32.ofNat a)), .val (.int (Int32.ofNat a)), .unset, .unset, .unset, .unset, .unset] [(.int (lcmpW q1 (0 : Int64)))])) _
      refine XS.ifYes X0.here hx rfl (pc0 := 25) (pc' := 32) rfl (hb hby d1_25) rfl ((if0 _ _).trans (flt (fun q => hc6 ((lw_lt _ _).mp q))).2.1) (by decide) (by decide) ?_
      show Steps p.tables e below (s₁.setTop (mkF m 32 #[.val (.long q1), .second, .val (.ref b), .val (.int (Int32.ofNat a)), .val (.int (Int32.ofNat a)), .val (.int (Int32.ofNat a)), .unset, .unset, .unset, .unset, .unset] [])) _
      refine XS.lloadN X0.here hx rfl (hb hby d1_32) rfl ?_
      show Steps p.tables e below (s₁.setTop (mkF m 33 #[.val (.long q1), .second, .val (.ref b), .val (.int (Int32.ofNat a)), .val (.int (Int32.ofNat a)), .val (.int (Int32.ofNat a)), .unset, .unset, .unset, .unset, .unset] [(.long q1)])) _
      refine XS.lneg X0.here hx rfl (hb hby d1_33) rfl ?_
      show Steps p.tables e below (s₁.setTop (mkF m 34 #[.val (.long q1), .second, .val (.ref b), .val (.int (Int32.ofNat a)), .val (.int (Int32.ofNat a)), .val (.int (Int32.ofNat a)), .unset, .unset, .unset, .unset, .unset] [(.long (-q1))])) _
      refine XS.lstore X0.here hx rfl (hb hby d1_34) rfl (l' := #[.val (.long q1), .second, .val (.ref b), .val (.int (Int32.ofNat a)), .val (.int (Int32.ofNat a)), .val (.int (Int32.ofNat a)), .val (.long (-q1)), .second, .unset, .unset, .unset]) rfl ?_
      show Steps p.tables e below (s₁.setTop (mkF m 36 #[.val (.long q1), .second, .val (.ref b), .val (.int (Int32.ofNat a)), .val (.int (Int32.ofNat a)), .val (.int (Int32.ofNat a)), .val (.long (-q1)), .second, .unset, .unset, .unset] [])) _
      show Steps p.tables e below (s₁.setTop (mkF m 36 #[.val (.long q1), .second, .val (.ref b), .val (.int (Int32.ofNat a)), .val (.int (Int32.ofNat a)), .val (.int (Int32.ofNat a)), .val (.long (-q1)), .second, .unset, .unset, .unset] [])) _
      refine stA _ ?_
      show Steps p.tables e below (TA.setTop (mkF m 70 #[.val (.long q1), .second, .val (.ref b), .val (.int (Int32.ofNat a)), .val (.int (Int32.ofNat (a + (k + 1)))), .val (.int (Int32.ofNat a)), .val (.long rA), .second, .unset, .unset, .unset] [])) _
      refine XS.iload XA.here hx rfl (hb hby d1_70) rfl ?_
      show Steps p.tables e below (TA.setTop (mkF m 72 #[.val (.long q1), .second, .val (.ref b), .val (.int (Int32.ofNat a)), .val (.int (Int32.ofNat (a + (k + 1)))), .val (.int (Int32.ofNat a)), .val (.long rA), .second, .unset, .unset, .unset] [(.int (Int32.ofNat a))])) _
      refine XS.istore XA.here hx rfl (hb hby d1_72) rfl (l' := #[.val (.long q1), .second, .val (.ref b), .val (.int (Int32.ofNat a)), .val (.int (Int32.ofNat (a + (k + 1)))), .val (.int (Int32.ofNat a)), .val (.long rA), .second, .val (.int (Int32.ofNat a)), .unset, .unset]) rfl ?_
      show Steps p.tables e below (TA.setTop (mkF m 74 #[.val (.long q1), .second, .val (.ref b), .val (.int (Int32.ofNat a)), .val (.int (Int32.ofNat (a + (k + 1)))), .val (.int (Int32.ofNat a)), .val (.long rA), .second, .val (.int (Int32.ofNat a)), .unset, .unset] [])) _
      refine XS.iload XA.here hx rfl (hb hby d1_74) rfl ?_
      show Steps p.tables e below (TA.setTop (mkF m 76 #[.val (.long q1), .second, .val (.ref b), .val (.int (Int32.ofNat a)), .val (.int (Int32.ofNat (a + (k + 1)))), .val (.int (Int32.ofNat a)), .val (.long rA), .second, .val (.int (Int32.ofNat a)), .unset, .unset] [(.int (Int32.ofNat (a + (k + 1))))])) _
      refine XS.iconst XA.here hx rfl (hb hby d1_76) ?_
      show Steps p.tables e below (TA.setTop (mkF m 77 #[.val (.long q1), .second, .val (.ref b), .val (.int (Int32.ofNat a)), .val (.int (Int32.ofNat (a + (k + 1)))), .val (.int (Int32.ofNat a)), .val (.long rA), .second, .val (.int (Int32.ofNat a)), .unset, .unset] [(.int (1 : Int32)), (.int (Int32.ofNat (a + (k + 1))))])) _
      refine XS.isub XA.here hx rfl (hb hby d1_77) rfl ?_
      show Steps p.tables e below (TA.setTop (mkF m 78 #[.val (.long q1), .second, .val (.ref b), .val (.int (Int32.ofNat a)), .val (.int (Int32.ofNat (a + (k + 1)))), .val (.int (Int32.ofNat a)), .val (.long rA), .second, .val (.int (Int32.ofNat a)), .unset, .unset] [(.int ((Int32.ofNat (a + (k + 1))) - (1 : Int32)))])) _
      refine XS.istore XA.here hx rfl (hb hby d1_78) rfl (l' := #[.val (.long q1), .second, .val (.ref b), .val (.int (Int32.ofNat a)), .val (.int (Int32.ofNat (a + (k + 1)))), .val (.int (Int32.ofNat a)), .val (.long rA), .second, .val (.int (Int32.ofNat a)), .val (.int ((Int32.ofNat (a + (k + 1))) - (1 : Int32))), .unset]) rfl ?_
      show Steps p.tables e below (TA.setTop (mkF m 80 #[.val (.long q1), .second, .val (.ref b), .val (.int (Int32.ofNat a)), .val (.int (Int32.ofNat (a + (k + 1)))), .val (.int (Int32.ofNat a)), .val (.long rA), .second, .val (.int (Int32.ofNat a)), .val (.int ((Int32.ofNat (a + (k + 1))) - (1 : Int32))), .unset] [])) _
      rw [own_dec30 (by omega : 0 < a + (k + 1))]
      refine stB' _ ?_
      show Steps p.tables e below (TB.setTop (mkF m 116 #[.val (.long q1), .second, .val (.ref b), .val (.int (Int32.ofNat a)), .val (.int (Int32.ofNat (a + (k + 1)))), .val (.int (Int32.ofNat a)), .val (.long rA), .second, .val (.int x8), .val (.int x9), sB] [])) _
      refine XS.iload XB.here hx rfl (hb hby d1_116) rfl ?_
      show Steps p.tables e below (TB.setTop (mkF m 118 #[.val (.long q1), .second, .val (.ref b), .val (.int (Int32.ofNat a)), .val (.int (Int32.ofNat (a + (k + 1)))), .val (.int (Int32.ofNat a)), .val (.long rA), .second, .val (.int x8), .val (.int x9), sB] [(.int (Int32.ofNat (a + (k + 1))))])) _
      exact retI XB hx Bd.returns (hb hby d1_118) hr
    · show Q1 Z b kb f q1 a h0 n0 _ TB.heap _
      refine ⟨g, 0, k + 1, rfl, NN, Nat.le_trans zc (Nat.le_trans zA zB), BB, (fun q => absurd q hc6), (fun _ => rfl), hL, ?_, ?_⟩
      · intro t ht
        rw [hB, if_pos (by omega), show a + (a + (k + 1) - 1) - (a + 0 + t) = a + (k - t) by omega, hA1 (k - t) (by omega)]
        congr 2
      · intro j hj
        rw [hB, if_neg (by omega), hA2 j (by omega)]
theorem d2_0 : decode prog_143_method_2_code 0 = .ok (.iload_n 1, 1) := by decide +kernel
theorem d2_1 : decode prog_143_method_2_code 1 = .ok (.istore_n 3, 1) := by decide +kernel
theorem d2_2 : decode prog_143_method_2_code 2 = .ok (.iload_n 3, 1) := by decide +kernel
theorem d2_3 : decode prog_143_method_2_code 3 = .ok (.iload_n 2, 1) := by decide +kernel
theorem d2_4 : decode prog_143_method_2_code 4 = .ok (.if_icmp .ge 15, 3) := by decide +kernel
theorem d2_7 : decode prog_143_method_2_code 7 = .ok (.aload_n 0, 1) := by decide +kernel
theorem d2_8 : decode prog_143_method_2_code 8 = .ok (.iload_n 3, 1) := by decide +kernel
theorem d2_9 : decode prog_143_method_2_code 9 = .ok (.baload, 1) := by decide +kernel
theorem d2_10 : decode prog_143_method_2_code 10 = .ok (.bipush 45, 2) := by decide +kernel
theorem d2_12 : decode prog_143_method_2_code 12 = .ok (.if_icmp .ne 7, 3) := by decide +kernel
theorem d2_15 : decode prog_143_method_2_code 15 = .ok (.iconst 1, 1) := by decide +kernel
theorem d2_16 : decode prog_143_method_2_code 16 = .ok (.goto 4, 3) := by decide +kernel
theorem d2_19 : decode prog_143_method_2_code 19 = .ok (.iconst 0, 1) := by decide +kernel
theorem d2_20 : decode prog_143_method_2_code 20 = .ok (.istore 4, 2) := by decide +kernel
theorem d2_22 : decode prog_143_method_2_code 22 = .ok (.iload 4, 2) := by decide +kernel
theorem d2_24 : decode prog_143_method_2_code 24 = .ok (.ifCond .eq 6, 3) := by decide +kernel
theorem d2_27 : decode prog_143_method_2_code 27 = .ok (.iinc 3 1, 3) := by decide +kernel
theorem d2_30 : decode prog_143_method_2_code 30 = .ok (.iload_n 3, 1) := by decide +kernel
theorem d2_31 : decode prog_143_method_2_code 31 = .ok (.iload_n 2, 1) := by decide +kernel
theorem d2_32 : decode prog_143_method_2_code 32 = .ok (.if_icmp .ne 10, 3) := by decide +kernel
theorem d2_35 : decode prog_143_method_2_code 35 = .ok (.aload_n 0, 1) := by decide +kernel
theorem d2_36 : decode prog_143_method_2_code 36 = .ok (.iload_n 1, 1) := by decide +kernel
theorem d2_37 : decode prog_143_method_2_code 37 = .ok (.iload_n 2, 1) := by decide +kernel
theorem d2_38 : decode prog_143_method_2_code 38 = .ok (.invokestatic 7, 3) := by decide +kernel
theorem d2_41 : decode prog_143_method_2_code 41 = .ok (.athrow, 1) := by decide +kernel
theorem d2_42 : decode prog_143_method_2_code 42 = .ok (.aload_n 0, 1) := by decide +kernel
theorem d2_43 : decode prog_143_method_2_code 43 = .ok (.iload_n 3, 1) := by decide +kernel
theorem d2_44 : decode prog_143_method_2_code 44 = .ok (.baload, 1) := by decide +kernel
theorem d2_45 : decode prog_143_method_2_code 45 = .ok (.bipush 48, 2) := by decide +kernel
theorem d2_47 : decode prog_143_method_2_code 47 = .ok (.if_icmp .ne 19, 3) := by decide +kernel
theorem d2_50 : decode prog_143_method_2_code 50 = .ok (.iload_n 2, 1) := by decide +kernel
theorem d2_51 : decode prog_143_method_2_code 51 = .ok (.iload_n 1, 1) := by decide +kernel
theorem d2_52 : decode prog_143_method_2_code 52 = .ok (.isub, 1) := by decide +kernel
theorem d2_53 : decode prog_143_method_2_code 53 = .ok (.iconst 1, 1) := by decide +kernel
theorem d2_54 : decode prog_143_method_2_code 54 = .ok (.if_icmp .eq 10, 3) := by decide +kernel
theorem d2_57 : decode prog_143_method_2_code 57 = .ok (.aload_n 0, 1) := by decide +kernel
theorem d2_58 : decode prog_143_method_2_code 58 = .ok (.iload_n 1, 1) := by decide +kernel
theorem d2_59 : decode prog_143_method_2_code 59 = .ok (.iload_n 2, 1) := by decide +kernel
theorem d2_60 : decode prog_143_method_2_code 60 = .ok (.invokestatic 7, 3) := by decide +kernel
theorem d2_63 : decode prog_143_method_2_code 63 = .ok (.athrow, 1) := by decide +kernel
theorem d2_64 : decode prog_143_method_2_code 64 = .ok (.lconst 0, 1) := by decide +kernel
theorem d2_65 : decode prog_143_method_2_code 65 = .ok (.lreturn, 1) := by decide +kernel
theorem d2_66 : decode prog_143_method_2_code 66 = .ok (.iload 4, 2) := by decide +kernel
theorem d2_68 : decode prog_143_method_2_code 68 = .ok (.ifCond .eq 9, 3) := by decide +kernel
theorem d2_71 : decode prog_143_method_2_code 71 = .ok (.ldc2_w 15, 3) := by decide +kernel
theorem d2_74 : decode prog_143_method_2_code 74 = .ok (.goto 6, 3) := by decide +kernel
theorem d2_77 : decode prog_143_method_2_code 77 = .ok (.ldc2_w 17, 3) := by decide +kernel
theorem d2_80 : decode prog_143_method_2_code 80 = .ok (.lstore 5, 2) := by decide +kernel
theorem d2_82 : decode prog_143_method_2_code 82 = .ok (.lconst 0, 1) := by decide +kernel
theorem d2_83 : decode prog_143_method_2_code 83 = .ok (.lstore 7, 2) := by decide +kernel
theorem d2_85 : decode prog_143_method_2_code 85 = .ok (.iload_n 3, 1) := by decide +kernel
theorem d2_86 : decode prog_143_method_2_code 86 = .ok (.iload_n 2, 1) := by decide +kernel
theorem d2_87 : decode prog_143_method_2_code 87 = .ok (.if_icmp .ge 83, 3) := by decide +kernel
theorem d2_90 : decode prog_143_method_2_code 90 = .ok (.aload_n 0, 1) := by decide +kernel
theorem d2_91 : decode prog_143_method_2_code 91 = .ok (.iload_n 3, 1) := by decide +kernel
theorem d2_92 : decode prog_143_method_2_code 92 = .ok (.baload, 1) := by decide +kernel
theorem d2_93 : decode prog_143_method_2_code 93 = .ok (.bipush 48, 2) := by decide +kernel
theorem d2_95 : decode prog_143_method_2_code 95 = .ok (.isub, 1) := by decide +kernel
theorem d2_96 : decode prog_143_method_2_code 96 = .ok (.istore 9, 2) := by decide +kernel
theorem d2_98 : decode prog_143_method_2_code 98 = .ok (.iload 9, 2) := by decide +kernel
theorem d2_100 : decode prog_143_method_2_code 100 = .ok (.ifCond .lt 22, 3) := by decide +kernel
theorem d2_103 : decode prog_143_method_2_code 103 = .ok (.iload 9, 2) := by decide +kernel
theorem d2_105 : decode prog_143_method_2_code 105 = .ok (.bipush 9, 2) := by decide +kernel
theorem d2_107 : decode prog_143_method_2_code 107 = .ok (.if_icmp .gt 15, 3) := by decide +kernel
theorem d2_110 : decode prog_143_method_2_code 110 = .ok (.lload 7, 2) := by decide +kernel
theorem d2_112 : decode prog_143_method_2_code 112 = .ok (.lload 5, 2) := by decide +kernel
theorem d2_114 : decode prog_143_method_2_code 114 = .ok (.ldc2_w 19, 3) := by decide +kernel
theorem d2_117 : decode prog_143_method_2_code 117 = .ok (.ldiv, 1) := by decide +kernel
theorem d2_118 : decode prog_143_method_2_code 118 = .ok (.lcmp, 1) := by decide +kernel
theorem d2_119 : decode prog_143_method_2_code 119 = .ok (.ifCond .ge 10, 3) := by decide +kernel
theorem d2_122 : decode prog_143_method_2_code 122 = .ok (.aload_n 0, 1) := by decide +kernel
theorem d2_123 : decode prog_143_method_2_code 123 = .ok (.iload_n 1, 1) := by decide +kernel
theorem d2_124 : decode prog_143_method_2_code 124 = .ok (.iload_n 2, 1) := by decide +kernel
theorem d2_125 : decode prog_143_method_2_code 125 = .ok (.invokestatic 7, 3) := by decide +kernel
theorem d2_128 : decode prog_143_method_2_code 128 = .ok (.athrow, 1) := by decide +kernel
theorem d2_129 : decode prog_143_method_2_code 129 = .ok (.lload 7, 2) := by decide +kernel
theorem d2_131 : decode prog_143_method_2_code 131 = .ok (.ldc2_w 19, 3) := by decide +kernel
theorem d2_134 : decode prog_143_method_2_code 134 = .ok (.lmul, 1) := by decide +kernel
theorem d2_135 : decode prog_143_method_2_code 135 = .ok (.lstore 7, 2) := by decide +kernel
theorem d2_137 : decode prog_143_method_2_code 137 = .ok (.lload 7, 2) := by decide +kernel
theorem d2_139 : decode prog_143_method_2_code 139 = .ok (.lload 5, 2) := by decide +kernel
theorem d2_141 : decode prog_143_method_2_code 141 = .ok (.iload 9, 2) := by decide +kernel
theorem d2_143 : decode prog_143_method_2_code 143 = .ok (.i2l, 1) := by decide +kernel
theorem d2_144 : decode prog_143_method_2_code 144 = .ok (.ladd, 1) := by decide +kernel
theorem d2_145 : decode prog_143_method_2_code 145 = .ok (.lcmp, 1) := by decide +kernel
theorem d2_146 : decode prog_143_method_2_code 146 = .ok (.ifCond .ge 10, 3) := by decide +kernel
theorem d2_149 : decode prog_143_method_2_code 149 = .ok (.aload_n 0, 1) := by decide +kernel
theorem d2_150 : decode prog_143_method_2_code 150 = .ok (.iload_n 1, 1) := by decide +kernel
theorem d2_151 : decode prog_143_method_2_code 151 = .ok (.iload_n 2, 1) := by decide +kernel
theorem d2_152 : decode prog_143_method_2_code 152 = .ok (.invokestatic 7, 3) := by decide +kernel
theorem d2_155 : decode prog_143_method_2_code 155 = .ok (.athrow, 1) := by decide +kernel
theorem d2_156 : decode prog_143_method_2_code 156 = .ok (.lload 7, 2) := by decide +kernel
theorem d2_158 : decode prog_143_method_2_code 158 = .ok (.iload 9, 2) := by decide +kernel
theorem d2_160 : decode prog_143_method_2_code 160 = .ok (.i2l, 1) := by decide +kernel
theorem d2_161 : decode prog_143_method_2_code 161 = .ok (.lsub, 1) := by decide +kernel
theorem d2_162 : decode prog_143_method_2_code 162 = .ok (.lstore 7, 2) := by decide +kernel
theorem d2_164 : decode prog_143_method_2_code 164 = .ok (.iinc 3 1, 3) := by decide +kernel
theorem d2_167 : decode prog_143_method_2_code 167 = .ok (.goto (-82), 3) := by decide +kernel
theorem d2_170 : decode prog_143_method_2_code 170 = .ok (.iload 4, 2) := by decide +kernel
theorem d2_172 : decode prog_143_method_2_code 172 = .ok (.ifCond .eq 8, 3) := by decide +kernel
theorem d2_175 : decode prog_143_method_2_code 175 = .ok (.lload 7, 2) := by decide +kernel
theorem d2_177 : decode prog_143_method_2_code 177 = .ok (.goto 6, 3) := by decide +kernel
theorem d2_180 : decode prog_143_method_2_code 180 = .ok (.lload 7, 2) := by decide +kernel
theorem d2_182 : decode prog_143_method_2_code 182 = .ok (.lneg, 1) := by decide +kernel
theorem d2_183 : decode prog_143_method_2_code 183 = .ok (.lreturn, 1) := by decide +kernel
theorem pn_2 : plainName "com/example/bulkwire/bulkwire/resp/Decimal" = true := by first | (simp [plainName, overriddenIn]; done) | decide +kernel
theorem ef_2 (m : MethodId) (b : Addr) (p1 : Int32) (p2 : Int32) : entryFrame m #[(.ref b), (.int p1), (.int p2)] 10 = mkF m 0 #[.val (.ref b), .val (.int p1), .val (.int p2), .unset, .unset, .unset, .unset, .unset, .unset, .unset] [] := by first | (simp [entryFrame, mkF, argsToLocals, Value.category]; done) | rfl
theorem own_os9 {q5 q7 : Int64} {b : Addr} {p1 p2 p3 p4 v : Int32} {s9 : Slot} (h : One s9) : storeLocals #[.val (.ref b), .val (.int p1), .val (.int p2), .val (.int p3), .val (.int p4), .val (.long q5), .second, .val (.long q7), .second, s9] 9 (.int v) = some #[.val (.ref b), .val (.int p1), .val (.int p2), .val (.int p3), .val (.int p4), .val (.long q5), .second, .val (.long q7), .second, .val (.int v)] := by
  rcases h with rfl | ⟨w, rfl, hw⟩
  · rfl
  · cases w <;> first | rfl | (simp [Value.category] at hw)
set_option maxRecDepth 65536 in
set_option maxHeartbeats 40000000 in
theorem tn3 {p : Program} {l : Launch} {e : Env} {R : Room} {s : State} {m : MethodId} {args : Array Value} {below : List Frame} {meth : Method} {c : Code} {T0 : State} {locs : List Loc} {cells slots : Nat} {Z : State} {a0 : Array Value} (b : Addr) (p1 p4 : Int32) (ee n : Nat) (lim acc : Int64) (s9 : Slot) (kb : ClassId) (g : Nat → Int32) (X0 : Stand p l e R s m args below meth c T0 locs cells slots) (hx : p.tables.exec = Jvm.exec) (hZ : Z.Warmed39 s.vm) (hw : ∀ d ∈ tables_1, d.before a0 Z = true) (hby : c.code = prog_143_method_2_code) (hown : s.vm.findClass "com/example/bulkwire/bulkwire/resp/Decimal" = some m.cls) (F : own_buf Z T0.heap b kb g) (hn : n < 30) (hs : One s9) (hq : Int32.ofNat n < Int32.ofNat ee) (h1 : ¬ ((g n) - (48 : Int32)) < (0 : Int32)) (h2 : ¬ (9 : Int32) < ((g n) - (48 : Int32))) (h3 : ¬ acc < (lim / (10 : Int64))) (h4 : ¬ (acc * (10 : Int64)) < (lim + (((g n) - (48 : Int32)).toInt64))) :
    ∀ target, Steps p.tables e below (T0.setTop (mkF m 85 #[.val (.ref b), .val (.int p1), .val (.int (Int32.ofNat ee)), .val (.int ((Int32.ofNat n) + (1 : Int32))), .val (.int p4), .val (.long lim), .second, .val (.long ((acc * (10 : Int64)) - (((g n) - (48 : Int32)).toInt64))), .second, .val (.int ((g n) - (48 : Int32)))] [])) target → Steps p.tables e below (T0.setTop (mkF m 85 #[.val (.ref b), .val (.int p1), .val (.int (Int32.ofNat ee)), .val (.int (Int32.ofNat n)), .val (.int p4), .val (.long lim), .second, .val (.long acc), .second, s9] [])) target := by
  obtain ⟨cl1, Ar1, qq1, S1, Nn1, Hh1, Gg1⟩ := id F
  have hin1 : ¬ ((Int32.ofNat n) < 0 ∨ cl1.slots.size ≤ ((Int32.ofNat n)).toNatClampNeg) := inb_of S1 (own_nat30 n hn).1
  intro target kt
  show Steps p.tables e below (T0.setTop (mkF m 85 #[.val (.ref b), .val (.int p1), .val (.int (Int32.ofNat ee)), .val (.int (Int32.ofNat n)), .val (.int p4), .val (.long lim), .second, .val (.long acc), .second, s9] [])) _
  refine XS.iloadN X0.here hx rfl (hb hby d2_85) rfl ?_
  show Steps p.tables e below (T0.setTop (mkF m 86 #[.val (.ref b), .val (.int p1), .val (.int (Int32.ofNat ee)), .val (.int (Int32.ofNat n)), .val (.int p4), .val (.long lim), .second, .val (.long acc), .second, s9] [(.int (Int32.ofNat n))])) _
  refine XS.iloadN X0.here hx rfl (hb hby d2_86) rfl ?_
  show Steps p.tables e below (T0.setTop (mkF m 87 #[.val (.ref b), .val (.int p1), .val (.int (Int32.ofNat ee)), .val (.int (Int32.ofNat n)), .val (.int p4), .val (.long lim), .second, .val (.long acc), .second, s9] [(.int (Int32.ofNat ee)), (.int (Int32.ofNat n))])) _
  refine XS.icmpNo X0.here hx rfl (hb hby d2_87) rfl (tlt (hq)).2.1 ?_
  show Steps p.tables e below (T0.setTop (mkF m 90 #[.val (.ref b), .val (.int p1), .val (.int (Int32.ofNat ee)), .val (.int (Int32.ofNat n)), .val (.int p4), .val (.long lim), .second, .val (.long acc), .second, s9] [])) _
  refine XS.aloadN X0.here hx rfl (hb hby d2_90) rfl rfl ?_
  show Steps p.tables e below (T0.setTop (mkF m 91 #[.val (.ref b), .val (.int p1), .val (.int (Int32.ofNat ee)), .val (.int (Int32.ofNat n)), .val (.int p4), .val (.long lim), .second, .val (.long acc), .second, s9] [(.ref b)])) _
  refine XS.iloadN X0.here hx rfl (hb hby d2_91) rfl ?_
  show Steps p.tables e below (T0.setTop (mkF m 92 #[.val (.ref b), .val (.int p1), .val (.int (Int32.ofNat ee)), .val (.int (Int32.ofNat n)), .val (.int p4), .val (.long lim), .second, .val (.long acc), .second, s9] [(.int (Int32.ofNat n)), (.ref b)])) _
  refine X0.baloadBytes hx (j := (Int32.ofNat n)) (v := (.int (g n))) Ar1.1 (State.isArrayOf_alike hZ.alike Ar1.2.1) Ar1.2.2 hin1 (Has.at Hh1 hin1 (own_vs_get g hn)) (g := (mkF m 92 #[.val (.ref b), .val (.int p1), .val (.int (Int32.ofNat ee)), .val (.int (Int32.ofNat n)), .val (.int p4), .val (.long lim), .second, .val (.long acc), .second, s9] [(.int (Int32.ofNat n)), (.ref b)])) rfl rfl (hb hby d2_92) _ ?_
  show Steps p.tables e below (T0.setTop (mkF m 93 #[.val (.ref b), .val (.int p1), .val (.int (Int32.ofNat ee)), .val (.int (Int32.ofNat n)), .val (.int p4), .val (.long lim), .second, .val (.long acc), .second, s9] [(.int (g n))])) _
  refine XS.bipush X0.here hx rfl (hb hby d2_93) ?_
  show Steps p.tables e below (T0.setTop (mkF m 95 #[.val (.ref b), .val (.int p1), .val (.int (Int32.ofNat ee)), .val (.int (Int32.ofNat n)), .val (.int p4), .val (.long lim), .second, .val (.long acc), .second, s9] [(.int (48 : Int32)), (.int (g n))])) _
  refine XS.isub X0.here hx rfl (hb hby d2_95) rfl ?_
  show Steps p.tables e below (T0.setTop (mkF m 96 #[.val (.ref b), .val (.int p1), .val (.int (Int32.ofNat ee)), .val (.int (Int32.ofNat n)), .val (.int p4), .val (.long lim), .second, .val (.long acc), .second, s9] [(.int ((g n) - (48 : Int32)))])) _
  refine XS.istore X0.here hx rfl (hb hby d2_96) rfl (l' := #[.val (.ref b), .val (.int p1), .val (.int (Int32.ofNat ee)), .val (.int (Int32.ofNat n)), .val (.int p4), .val (.long lim), .second, .val (.long acc), .second, .val (.int ((g n) - (48 : Int32)))]) (own_os9 hs) ?_
  show Steps p.tables e below (T0.setTop (mkF m 98 #[.val (.ref b), .val (.int p1), .val (.int (Int32.ofNat ee)), .val (.int (Int32.ofNat n)), .val (.int p4), .val (.long lim), .second, .val (.long acc), .second, .val (.int ((g n) - (48 : Int32)))] [])) _
  refine XS.iload X0.here hx rfl (hb hby d2_98) rfl ?_
  show Steps p.tables e below (T0.setTop (mkF m 100 #[.val (.ref b), .val (.int p1), .val (.int (Int32.ofNat ee)), .val (.int (Int32.ofNat n)), .val (.int p4), .val (.long lim), .second, .val (.long acc), .second, .val (.int ((g n) - (48 : Int32)))] [(.int ((g n) - (48 : Int32)))])) _
  refine XS.ifNo X0.here hx rfl (hb hby d2_100) rfl ((if0 _ _).trans (flt (h1)).1) ?_
  show Steps p.tables e below (T0.setTop (mkF m 103 #[.val (.ref b), .val (.int p1), .val (.int (Int32.ofNat ee)), .val (.int (Int32.ofNat n)), .val (.int p4), .val (.long lim), .second, .val (.long acc), .second, .val (.int ((g n) - (48 : Int32)))] [])) _
  refine XS.iload X0.here hx rfl (hb hby d2_103) rfl ?_
  show Steps p.tables e below (T0.setTop (mkF m 105 #[.val (.ref b), .val (.int p1), .val (.int (Int32.ofNat ee)), .val (.int (Int32.ofNat n)), .val (.int p4), .val (.long lim), .second, .val (.long acc), .second, .val (.int ((g n) - (48 : Int32)))] [(.int ((g n) - (48 : Int32)))])) _
  refine XS.bipush X0.here hx rfl (hb hby d2_105) ?_
  show Steps p.tables e below (T0.setTop (mkF m 107 #[.val (.ref b), .val (.int p1), .val (.int (Int32.ofNat ee)), .val (.int (Int32.ofNat n)), .val (.int p4), .val (.long lim), .second, .val (.long acc), .second, .val (.int ((g n) - (48 : Int32)))] [(.int (9 : Int32)), (.int ((g n) - (48 : Int32)))])) _
  refine XS.icmpNo X0.here hx rfl (hb hby d2_107) rfl (flt (h2)).2.2.1 ?_
  show Steps p.tables e below (T0.setTop (mkF m 110 #[.val (.ref b), .val (.int p1), .val (.int (Int32.ofNat ee)), .val (.int (Int32.ofNat n)), .val (.int p4), .val (.long lim), .second, .val (.long acc), .second, .val (.int ((g n) - (48 : Int32)))] [])) _
  refine XS.lload X0.here hx rfl (hb hby d2_110) rfl ?_
  show Steps p.tables e below (T0.setTop (mkF m 112 #[.val (.ref b), .val (.int p1), .val (.int (Int32.ofNat ee)), .val (.int (Int32.ofNat n)), .val (.int p4), .val (.long lim), .second, .val (.long acc), .second, .val (.int ((g n) - (48 : Int32)))] [(.long acc)])) _
  refine XS.lload X0.here hx rfl (hb hby d2_112) rfl ?_
  show Steps p.tables e below (T0.setTop (mkF m 114 #[.val (.ref b), .val (.int p1), .val (.int (Int32.ofNat ee)), .val (.int (Int32.ofNat n)), .val (.int p4), .val (.long lim), .second, .val (.long acc), .second, .val (.int ((g n) - (48 : Int32)))] [(.long lim), (.long acc)])) _
  refine X0.ldc2Long hx hown (mvT hZ (hw _ (List.mem_of_getElem? (i := 8) rfl))) (g := (mkF m 114 #[.val (.ref b), .val (.int p1), .val (.int (Int32.ofNat ee)), .val (.int (Int32.ofNat n)), .val (.int p4), .val (.long lim), .second, .val (.long acc), .second, .val (.int ((g n) - (48 : Int32)))] [(.long lim), (.long acc)])) rfl (hb hby d2_114) _ ?_
  show Steps p.tables e below (T0.setTop (mkF m 117 #[.val (.ref b), .val (.int p1), .val (.int (Int32.ofNat ee)), .val (.int (Int32.ofNat n)), .val (.int p4), .val (.long lim), .second, .val (.long acc), .second, .val (.int ((g n) - (48 : Int32)))] [(.long (10 : Int64)), (.long lim), (.long acc)])) _
  refine XS.ldiv X0.here hx rfl (hb hby d2_117) rfl (by decide) ?_
  show Steps p.tables e below (T0.setTop (mkF m 118 #[.val (.ref b), .val (.int p1), .val (.int (Int32.ofNat ee)), .val (.int (Int32.ofNat n)), .val (.int p4), .val (.long lim), .second, .val (.long acc), .second, .val (.int ((g n) - (48 : Int32)))] [(.long (lim / (10 : Int64))), (.long acc)])) _
  refine XS.lcmp X0.here hx rfl (hb hby d2_118) rfl ?_
  show Steps p.tables e below (T0.setTop (mkF m 119 #[.val (.ref b), .val (.int p1), .val (.int (Int32.ofNat ee)), .val (.int (Int32.ofNat n)), .val (.int p4), .val (.long lim), .second, .val (.long acc), .second, .val (.int ((g n) - (48 : Int32)))] [(.int (lcmpW acc (lim / (10 : Int64))))])) _
  refine XS.ifYes X0.here hx rfl (pc0 := 119) (pc' := 129) rfl (hb hby d2_119) rfl ((if0 _ _).trans (flt (fun q => (h3) ((lw_lt _ _).mp q))).2.1) (by decide) (by decide) ?_
  show Steps p.tables e below (T0.setTop (mkF m 129 #[.val (.ref b), .val (.int p1), .val (.int (Int32.ofNat ee)), .val (.int (Int32.ofNat n)), .val (.int p4), .val (.long lim), .second, .val (.long acc), .second, .val (.int ((g n) - (48 : Int32)))] [])) _
  refine XS.lload X0.here hx rfl (hb hby d2_129) rfl ?_
  show Steps p.tables e below (T0.setTop (mkF m 131 #[.val (.ref b), .val (.int p1), .val (.int (Int32.ofNat ee)), .val (.int (Int32.ofNat n)), .val (.int p4), .val (.long lim), .second, .val (.long acc), .second, .val (.int ((g n) - (48 : Int32)))] [(.long acc)])) _
  refine X0.ldc2Long hx hown (mvT hZ (hw _ (List.mem_of_getElem? (i := 8) rfl))) (g := (mkF m 131 #[.val (.ref b), .val (.int p1), .val (.int (Int32.ofNat ee)), .val (.int (Int32.ofNat n)), .val (.int p4), .val (.long lim), .second, .val (.long acc), .second, .val (.int ((g n) - (48 : Int32)))] [(.long acc)])) rfl (hb hby d2_131) _ ?_
  show Steps p.tables e below (T0.setTop (mkF m 134 #[.val (.ref b), .val (.int p1), .val (.int (Int32.ofNat ee)), .val (.int (Int32.ofNat n)), .val (.int p4), .val (.long lim), .second, .val (.long acc), .second, .val (.int ((g n) - (48 : Int32)))] [(.long (10 : Int64)), (.long acc)])) _
  refine XS.lmul X0.here hx rfl (hb hby d2_134) rfl ?_
  show Steps p.tables e below (T0.setTop (mkF m 135 #[.val (.ref b), .val (.int p1), .val (.int (Int32.ofNat ee)), .val (.int (Int32.ofNat n)), .val (.int p4), .val (.long lim), .second, .val (.long acc), .second, .val (.int ((g n) - (48 : Int32)))] [(.long (acc * (10 : Int64)))])) _
  refine XS.lstore X0.here hx rfl (hb hby d2_135) rfl (l' := #[.val (.ref b), .val (.int p1), .val (.int (Int32.ofNat ee)), .val (.int (Int32.ofNat n)), .val (.int p4), .val (.long lim), .second, .val (.long (acc * (10 : Int64))), .second, .val (.int ((g n) - (48 : Int32)))]) rfl ?_
  show Steps p.tables e below (T0.setTop (mkF m 137 #[.val (.ref b), .val (.int p1), .val (.int (Int32.ofNat ee)), .val (.int (Int32.ofNat n)), .val (.int p4), .val (.long lim), .second, .val (.long (acc * (10 : Int64))), .second, .val (.int ((g n) - (48 : Int32)))] [])) _
  refine XS.lload X0.here hx rfl (hb hby d2_137) rfl ?_
  show Steps p.tables e below (T0.setTop (mkF m 139 #[.val (.ref b), .val (.int p1), .val (.int (Int32.ofNat ee)), .val (.int (Int32.ofNat n)), .val (.int p4), .val (.long lim), .second, .val (.long (acc * (10 : Int64))), .second, .val (.int ((g n) - (48 : Int32)))] [(.long (acc * (10 : Int64)))])) _
  refine XS.lload X0.here hx rfl (hb hby d2_139) rfl ?_
  show Steps p.tables e below (T0.setTop (mkF m 141 #[.val (.ref b), .val (.int p1), .val (.int (Int32.ofNat ee)), .val (.int (Int32.ofNat n)), .val (.int p4), .val (.long lim), .second, .val (.long (acc * (10 : Int64))), .second, .val (.int ((g n) - (48 : Int32)))] [(.long lim), (.long (acc * (10 : Int64)))])) _
  refine XS.iload X0.here hx rfl (hb hby d2_141) rfl ?_
  show Steps p.tables e below (T0.setTop (mkF m 143 #[.val (.ref b), .val (.int p1), .val (.int (Int32.ofNat ee)), .val (.int (Int32.ofNat n)), .val (.int p4), .val (.long lim), .second, .val (.long (acc * (10 : Int64))), .second, .val (.int ((g n) - (48 : Int32)))] [(.int ((g n) - (48 : Int32))), (.long lim), (.long (acc * (10 : Int64)))])) _
  refine XS.i2l X0.here hx rfl (hb hby d2_143) rfl ?_
  show Steps p.tables e below (T0.setTop (mkF m 144 #[.val (.ref b), .val (.int p1), .val (.int (Int32.ofNat ee)), .val (.int (Int32.ofNat n)), .val (.int p4), .val (.long lim), .second, .val (.long (acc * (10 : Int64))), .second, .val (.int ((g n) - (48 : Int32)))] [(.long (((g n) - (48 : Int32)).toInt64)), (.long lim), (.long (acc * (10 : Int64)))])) _
  refine XS.ladd X0.here hx rfl (hb hby d2_144) rfl ?_
  show Steps p.tables e below (T0.setTop (mkF m 145 #[.val (.ref b), .val (.int p1), .val (.int (Int32.ofNat ee)), .val (.int (Int32.ofNat n)), .val (.int p4), .val (.long lim), .second, .val (.long (acc * (10 : Int64))), .second, .val (.int ((g n) - (48 : Int32)))] [(.long (lim + (((g n) - (48 : Int32)).toInt64))), (.long (acc * (10 : Int64)))])) _
  refine XS.lcmp X0.here hx rfl (hb hby d2_145) rfl ?_
  show Steps p.tables e below (T0.setTop (mkF m 146 #[.val (.ref b), .val (.int p1), .val (.int (Int32.ofNat ee)), .val (.int (Int32.ofNat n)), .val (.int p4), .val (.long lim), .second, .val (.long (acc * (10 : Int64))), .second, .val (.int ((g n) - (48 : Int32)))] [(.int (lcmpW (acc * (10 : Int64)) (lim + (((g n) - (48 : Int32)).toInt64))))])) _
  refine XS.ifYes X0.here hx rfl (pc0 := 146) (pc' := 156) rfl (hb hby d2_146) rfl ((if0 _ _).trans (flt (fun q => (h4) ((lw_lt _ _).mp q))).2.1) (by decide) (by decide) ?_
  show Steps p.tables e below (T0.setTop (mkF m 156 #[.val (.ref b), .val (.int p1), .val (.int (Int32.ofNat ee)), .val (.int (Int32.ofNat n)), .val (.int p4), .val (.long lim), .second, .val (.long (acc * (10 : Int64))), .second, .val (.int ((g n) - (48 : Int32)))] [])) _
  refine XS.lload X0.here hx rfl (hb hby d2_156) rfl ?_
  show Steps p.tables e below (T0.setTop (mkF m 158 #[.val (.ref b), .val (.int p1), .val (.int (Int32.ofNat ee)), .val (.int (Int32.ofNat n)), .val (.int p4), .val (.long lim), .second, .val (.long (acc * (10 : Int64))), .second, .val (.int ((g n) - (48 : Int32)))] [(.long (acc * (10 : Int64)))])) _
  refine XS.iload X0.here hx rfl (hb hby d2_158) rfl ?_
  show Steps p.tables e below (T0.setTop (mkF m 160 #[.val (.ref b), .val (.int p1), .val (.int (Int32.ofNat ee)), .val (.int (Int32.ofNat n)), .val (.int p4), .val (.long lim), .second, .val (.long (acc * (10 : Int64))), .second, .val (.int ((g n) - (48 : Int32)))] [(.int ((g n) - (48 : Int32))), (.long (acc * (10 : Int64)))])) _
  refine XS.i2l X0.here hx rfl (hb hby d2_160) rfl ?_
  show Steps p.tables e below (T0.setTop (mkF m 161 #[.val (.ref b), .val (.int p1), .val (.int (Int32.ofNat ee)), .val (.int (Int32.ofNat n)), .val (.int p4), .val (.long lim), .second, .val (.long (acc * (10 : Int64))), .second, .val (.int ((g n) - (48 : Int32)))] [(.long (((g n) - (48 : Int32)).toInt64)), (.long (acc * (10 : Int64)))])) _
  refine XS.lsub X0.here hx rfl (hb hby d2_161) rfl ?_
  show Steps p.tables e below (T0.setTop (mkF m 162 #[.val (.ref b), .val (.int p1), .val (.int (Int32.ofNat ee)), .val (.int (Int32.ofNat n)), .val (.int p4), .val (.long lim), .second, .val (.long (acc * (10 : Int64))), .second, .val (.int ((g n) - (48 : Int32)))] [(.long ((acc * (10 : Int64)) - (((g n) - (48 : Int32)).toInt64)))])) _
  refine XS.lstore X0.here hx rfl (hb hby d2_162) rfl (l' := #[.val (.ref b), .val (.int p1), .val (.int (Int32.ofNat ee)), .val (.int (Int32.ofNat n)), .val (.int p4), .val (.long lim), .second, .val (.long ((acc * (10 : Int64)) - (((g n) - (48 : Int32)).toInt64))), .second, .val (.int ((g n) - (48 : Int32)))]) rfl ?_
  show Steps p.tables e below (T0.setTop (mkF m 164 #[.val (.ref b), .val (.int p1), .val (.int (Int32.ofNat ee)), .val (.int (Int32.ofNat n)), .val (.int p4), .val (.long lim), .second, .val (.long ((acc * (10 : Int64)) - (((g n) - (48 : Int32)).toInt64))), .second, .val (.int ((g n) - (48 : Int32)))] [])) _
  refine XS.iinc X0.here hx rfl (hb hby d2_164) rfl (l' := #[.val (.ref b), .val (.int p1), .val (.int (Int32.ofNat ee)), .val (.int ((Int32.ofNat n) + (1 : Int32))), .val (.int p4), .val (.long lim), .second, .val (.long ((acc * (10 : Int64)) - (((g n) - (48 : Int32)).toInt64))), .second, .val (.int ((g n) - (48 : Int32)))]) rfl ?_
  show Steps p.tables e below (T0.setTop (mkF m 167 #[.val (.ref b), .val (.int p1), .val (.int (Int32.ofNat ee)), .val (.int ((Int32.ofNat n) + (1 : Int32))), .val (.int p4), .val (.long lim), .second, .val (.long ((acc * (10 : Int64)) - (((g n) - (48 : Int32)).toInt64))), .second, .val (.int ((g n) - (48 : Int32)))] [])) _
  refine XS.goto X0.here hx rfl (pc0 := 167) (pc' := 85) rfl (hb hby d2_167) (by decide) (by decide) ?_
  exact kt
set_option maxRecDepth 65536 in
set_option maxHeartbeats 40000000 in
theorem ex3 {p : Program} {l : Launch} {e : Env} {R : Room} {s : State} {m : MethodId} {args : Array Value} {below : List Frame} {meth : Method} {c : Code} {T0 : State} {locs : List Loc} {cells slots : Nat} {Z : State} {a0 : Array Value} (b : Addr) (p1 p4 : Int32) (ee n : Nat) (lim acc : Int64) (s9 : Slot) (kb : ClassId) (g : Nat → Int32) (X0 : Stand p l e R s m args below meth c T0 locs cells slots) (hx : p.tables.exec = Jvm.exec) (hZ : Z.Warmed39 s.vm) (hw : ∀ d ∈ tables_1, d.before a0 Z = true) (hby : c.code = prog_143_method_2_code) (hown : s.vm.findClass "com/example/bulkwire/bulkwire/resp/Decimal" = some m.cls) (hq : ¬ Int32.ofNat n < Int32.ofNat ee) :
    ∀ target, Steps p.tables e below (T0.setTop (mkF m 170 #[.val (.ref b), .val (.int p1), .val (.int (Int32.ofNat ee)), .val (.int (Int32.ofNat n)), .val (.int p4), .val (.long lim), .second, .val (.long acc), .second, s9] [])) target → Steps p.tables e below (T0.setTop (mkF m 85 #[.val (.ref b), .val (.int p1), .val (.int (Int32.ofNat ee)), .val (.int (Int32.ofNat n)), .val (.int p4), .val (.long lim), .second, .val (.long acc), .second, s9] [])) target := by
  intro target kt
  show Steps p.tables e below (T0.setTop (mkF m 85 #[.val (.ref b), .val (.int p1), .val (.int (Int32.ofNat ee)), .val (.int (Int32.ofNat n)), .val (.int p4), .val (.long lim), .second, .val (.long acc), .second, s9] [])) _
  refine XS.iloadN X0.here hx rfl (hb hby d2_85) rfl ?_
  show Steps p.tables e below (T0.setTop (mkF m 86 #[.val (.ref b), .val (.int p1), .val (.int (Int32.ofNat ee)), .val (.int (Int32.ofNat n)), .val (.int p4), .val (.long lim), .second, .val (.long acc), .second, s9] [(.int (Int32.ofNat n))])) _
  refine XS.iloadN X0.here hx rfl (hb hby d2_86) rfl ?_
  show Steps p.tables e below (T0.setTop (mkF m 87 #[.val (.ref b), .val (.int p1), .val (.int (Int32.ofNat ee)), .val (.int (Int32.ofNat n)), .val (.int p4), .val (.long lim), .second, .val (.long acc), .second, s9] [(.int (Int32.ofNat ee)), (.int (Int32.ofNat n))])) _
  refine XS.icmpYes X0.here hx rfl (pc0 := 87) (pc' := 170) rfl (hb hby d2_87) rfl (flt (hq)).2.1 (by decide) (by decide) ?_
  exact kt
set_option maxRecDepth 65536 in
set_option maxHeartbeats 40000000 in
theorem lp3 {p : Program} {l : Launch} {e : Env} {R : Room} {s : State} {m : MethodId} {args : Array Value} {below : List Frame} {meth : Method} {c : Code} {T0 : State} {locs : List Loc} {cells slots : Nat} {Z : State} {a0 : Array Value} (b : Addr) (p1 p4 : Int32) (ee : Nat) (lim : Int64) (kb : ClassId) (g : Nat → Int32) (X0 : Stand p l e R s m args below meth c T0 locs cells slots) (hx : p.tables.exec = Jvm.exec) (hZ : Z.Warmed39 s.vm) (hw : ∀ d ∈ tables_1, d.before a0 Z = true) (hby : c.code = prog_143_method_2_code) (hown : s.vm.findClass "com/example/bulkwire/bulkwire/resp/Decimal" = some m.cls) (F : own_buf Z T0.heap b kb g) (he : ee < 30) {N Lm : Nat} (hN : N ≤ Lm) (hl : lim.toInt = -(Lm : Int)) (hLm : Lm ≤ 9223372036854775808) (k : Nat) :
    ∀ (n : Nat) (acc : Int64) (s9 : Slot), One s9 → ee = n + k → acc.toInt = -((N / 10 ^ k : Nat) : Int) → (∀ t, t < k → g (n + t) = own_b (own_dg N (k - 1 - t))) →
      ∃ (acc' : Int64) (s' : Slot), acc'.toInt = -(N : Int) ∧ ∀ target, Steps p.tables e below (T0.setTop (mkF m 170 #[.val (.ref b), .val (.int p1), .val (.int (Int32.ofNat ee)), .val (.int (Int32.ofNat ee)), .val (.int p4), .val (.long lim), .second, .val (.long acc'), .second, s'] [])) target → Steps p.tables e below (T0.setTop (mkF m 85 #[.val (.ref b), .val (.int p1), .val (.int (Int32.ofNat ee)), .val (.int (Int32.ofNat n)), .val (.int p4), .val (.long lim), .second, .val (.long acc), .second, s9] [])) target := by
  induction k with
  | zero =>
    intro n acc s9 hs hen ha hg
    refine ⟨acc, s9, by simpa using ha, ?_⟩
    obtain rfl : ee = n := by omega
    exact ex3 b p1 p4 ee ee lim acc s9 kb g X0 hx hZ hw hby hown (fun q => by have := (own_lt30 he he).mp q; omega)
  | succ k ih =>
    intro n acc s9 hs hen ha hg
    have hd := own_dg_lt N k
    have hgn : g n = own_b (own_dg N k) := by have := hg 0 (by omega); simpa using this
    have hx' := own_dgt hd hgn
    have hp := own_pref N k
    have hM : 10 * (N / 10 ^ (k + 1)) + own_dg N k ≤ Lm := by have := own_pref_le N k; omega
    have e0 : (0 : Int32).toInt = 0 := by decide
    have e9 : (9 : Int32).toInt = 9 := by decide
    have st := tn3 b p1 p4 ee n lim acc s9 kb g X0 hx hZ hw hby hown F (by omega) hs ((own_lt30 (by omega) he).mpr (by omega)) (fun q => by have := Int32.lt_iff_toInt_lt.mp q; omega) (fun q => by have := Int32.lt_iff_toInt_lt.mp q; omega) (own_lim hl hLm ha hM) (own_lim2 hl hLm ha hM hd hx')
    obtain ⟨acc', s', h1, st2⟩ := ih (n + 1) ((acc * (10 : Int64)) - (((g n) - (48 : Int32)).toInt64)) (.val (.int ((g n) - (48 : Int32)))) (One.val rfl) (by omega) (by rw [own_sub hLm ha hM hx', hp]) (fun t ht => by rw [show n + 1 + t = n + (t + 1) by omega, hg (t + 1) (by omega)]; congr 2; omega)
    refine ⟨acc', s', h1, fun target kt => st target ?_⟩
    have q := st2 target kt
    rw [inc_ofNat] at q
    exact q
def Q2 (q1 : Int64) (h0 : Heap) (n0 : Nat) (v : Option Value) (h : Heap) (Lc : List Loc) : Prop := v = some (.long q1) ∧ Fr n0 Lc ∧ h = h0
set_option maxRecDepth 65536 in
set_option maxHeartbeats 40000000 in
theorem rm2 (l : Launch) (Z : State) (a0 : Array Value) (hw : ∀ d ∈ tables_1, d.before a0 Z = true) (ws : List Jvm.Cond) (b : Addr) (p1 : Int32) (p2 : Int32) (h0 : Heap) (n0 : Nat) (Z0 : n0 ≤ h0.size) (kb : ClassId) (f g : Nat → Int32) (q1 : Int64) (a sg L : Nat) (ha : a ≤ 7) (hp1 : p1 = Int32.ofNat a) (hp2 : p2 = Int32.ofNat (a + sg + L)) (F0 : own_buf Z h0 b kb g) (hD : own_done f g q1 a sg L) :
    MetFree l (⟨"com/example/bulkwire/bulkwire/resp/Decimal", "parse", "([BII)J"⟩ : MethodName) (head1 (Jvm.Cond.code (⟨"com/example/bulkwire/bulkwire/resp/Decimal", "parse", "([BII)J"⟩ : MethodName) prog_143_method_2_code 10 (some .long) :: ws) ({ frames := 0, cells := 0, slots := 0, locals := 0 } : Room)) (fun a U => a = #[(.ref b), (.int p1), (.int p2)] ∧ Z.Warmed39 U.vm ∧ U.heap = h0) (fun _ _ _ _ _ => True) (fun _ U o U' => ∃ v L, o = .returned v ∧ Q2 q1 h0 n0 v U'.heap L ∧ FrameEnd U o U' L ({ frames := 0, cells := 0, slots := 0, locals := 0 } : Room).cells ({ frames := 0, cells := 0, slots := 0, locals := 0 } : Room).slots) := by
  subst hp1 hp2
  refine MetFree.of_bodySF (plainFor_of_name pn_2) hisR ?_
  intro p e s m args below meth c s₁ Bd hml0 hP hK
  obtain ⟨rfl, hZ, hh⟩ := hP
  have hx := Bd.exec
  have hby := Bd.bytes
  have hml : c.maxLocals = 10 := hml0
  have hown : s.vm.findClass "com/example/bulkwire/bulkwire/resp/Decimal" = some m.cls := findClass_of_methodNamed Bd.named
  have hnm := (name_of_methodNamed Bd.named Bd.method).1
  have X0 : Stand p l e ({ frames := 0, cells := 0, slots := 0, locals := 0 } : Room) s m #[(.ref b), (.int (Int32.ofNat a)), (.int (Int32.ofNat (a + sg + L)))] below meth c s₁ [] 0 0 := Stand.of_body Bd
  have e0 : s₁.heap = h0 := by rw [← hh, Bd.state]; rfl
  have N0 := Fr.nil n0
  have pre0 : ∀ t, Steps p.tables e below (s₁.setTop (mkF m 0 #[.val (.ref b), .val (.int (Int32.ofNat a)), .val (.int (Int32.ofNat (a + sg + L))), .unset, .unset, .unset, .unset, .unset, .unset, .unset] [])) t → Steps p.tables e below (s₁.setTop (entryFrame m #[(.ref b), (.int (Int32.ofNat a)), (.int (Int32.ofNat (a + sg + L)))] 10)) t := fun t k => castTop (ef_2 m b (Int32.ofNat a) (Int32.ofNat (a + sg + L))) k
  obtain ⟨hD1, hD2, hL, hdig, hout⟩ := hD
  have hL19 := own_dl_19 hL (own_abs_lt q1)
  have hL1 := hL.1
  have r64 := rng64 q1
  have ez0 : (0 : Int64).toInt = 0 := by decide
  have ha30 : a < 30 := by omega
  have Fh : own_buf Z s₁.heap b kb g := by rw [show s₁.heap = h0 by rw [← hh, Bd.state]; rfl] ; exact F0
  by_cases hv : q1 < (0 : Int64)
  · obtain ⟨rfl, h45⟩ := hD1 hv
    have he30 : a + 1 + L < 30 := by omega
    have hlt : Int32.ofNat a < (Int32.ofNat (a + 1 + L)) := (own_lt30 ha30 he30).mpr (by omega)
    have ha31 : a + 1 < 30 := by omega
    have hne : ¬ (Int32.ofNat (a + 1)) = (Int32.ofNat (a + 1 + L)) := fun q => by
        have q' := congrArg Int32.toInt q
        rw [(own_nat30 _ (by omega)).2.2, (own_nat30 _ he30).2.2] at q'
        omega
    have hfst : g (a + 1) = own_b (own_dg q1.toInt.natAbs (L - 1)) := by have := hdig 0 (by omega); simpa using this
    have hNz : q1.toInt.natAbs ≠ 0 := by have := Int64.lt_iff_toInt_lt.mp hv; omega
    obtain ⟨k, rfl⟩ : ∃ k, L = k + 1 := ⟨L - 1, by omega⟩
    have h48 : ¬ (g (a + 1)) = (48 : Int32) := by rw [hfst]; exact fun q => own_dg_lead hL hNz ((own_b_48 (own_dg_lt _ _)).mp q)
    obtain ⟨acc', s', hacc, st3⟩ := lp3 b (Int32.ofNat a) (1 : Int32) (a + 1 + (k + 1)) (-9223372036854775808 : Int64) kb g X0 hx hZ hw hby hown Fh he30 (N := q1.toInt.natAbs) (Lm := 9223372036854775808) (by omega) (by decide) (by decide) (k + 1) (a + 1) (0 : Int64) .unset One.u (by omega) (by rw [Nat.div_eq_of_lt hL.2.1]; decide) (fun t ht => by have := hdig t ht; simpa using this)
    have hval : acc' = q1 := by
      apply Int64.toInt_inj.mp
      have := Int64.lt_iff_toInt_lt.mp hv
      rw [hacc]; omega
    obtain ⟨cl1, Ar1, qq1, S1, Nn1, Hh1, Gg1⟩ := id F0
    have hin1 : ¬ ((Int32.ofNat a) < 0 ∨ cl1.slots.size ≤ ((Int32.ofNat a)).toNatClampNeg) := inb_of S1 (own_nat30 a ha30).1
    obtain ⟨cl2, Ar2, qq2, S2, Nn2, Hh2, Gg2⟩ := id F0
    have hin2 : ¬ ((Int32.ofNat (a + 1)) < 0 ∨ cl2.slots.size ≤ ((Int32.ofNat (a + 1))).toNatClampNeg) := inb_of S2 (own_nat30 (a + 1) ha31).1
    obtain ⟨fs, hr, hrun, hended, hW, hsame⟩ := X0.leave (v := some (.long acc')) (fun h => by rw [Bd.returns] at h; cases h)
    refine ⟨_, _, pre0 _ ?_, hrun, hended, _, _, rfl, ?_, ⟨_, rfl⟩, hW, hsame.mono (by decide) (by decide)⟩
    · show Steps p.tables e below (s₁.setTop (mkF m 0 #[.val (.ref b), .val (.int (Int32.ofNat a)), .val (.int (Int32.ofNat (a + 1 + (k + 1)))), .unset, .unset, .unset, .unset, .unset, .unset, .unset] [])) _
      refine XS.iloadN X0.here hx rfl (hb hby d2_0) rfl ?_
      show Steps p.tables e below (s₁.setTop (mkF m 1 #[.val (.ref b), .val (.int (Int32.ofNat a)), .val (.int (Int32.ofNat (a + 1 + (k + 1)))), .unset, .unset, .unset, .unset, .unset, .unset, .unset] [(.int (Int32.ofNat a))])) _
      refine XS.istoreN X0.here hx rfl (hb hby d2_1) rfl (l' := #[.val (.ref b), .val (.int (Int32.ofNat a)), .val (.int (Int32.ofNat (a + 1 + (k + 1)))), .val (.int (Int32.ofNat a)), .unset, .unset, .unset, .unset, .unset, .unset]) rfl ?_
      show Steps p.tables e below (s₁.setTop (mkF m 2 #[.val (.ref b), .val (.int (Int32.ofNat a)), .val (.int (Int32.ofNat (a + 1 + (k + 1)))), .val (.int (Int32.ofNat a)), .unset, .unset, .unset, .unset, .unset, .unset] [])) _
      refine XS.iloadN X0.here hx rfl (hb hby d2_2) rfl ?_
      show Steps p.tables e below (s₁.setTop (mkF m 3 #[.val (.ref b), .val (.int (Int32.ofNat a)), .val (.int (Int32.ofNat (a + 1 + (k + 1)))), .val (.int (Int32.ofNat a)), .unset, .unset, .unset, .unset, .unset, .unset] [(.int (Int32.ofNat a))])) _
      refine XS.iloadN X0.here hx rfl (hb hby d2_3) rfl ?_
      show Steps p.tables e below (s₁.setTop (mkF m 4 #[.val (.ref b), .val (.int (Int32.ofNat a)), .val (.int (Int32.ofNat (a + 1 + (k + 1)))), .val (.int (Int32.ofNat a)), .unset, .unset, .unset, .unset, .unset, .unset] [(.int (Int32.ofNat (a + 1 + (k + 1)))), (.int (Int32.ofNat a))])) _
      refine XS.icmpNo X0.here hx rfl (hb hby d2_4) rfl (tlt (hlt)).2.1 ?_
      show Steps p.tables e below (s₁.setTop (mkF m 7 #[.val (.ref b), .val (.int (Int32.ofNat a)), .val (.int (Int32.ofNat (a + 1 + (k + 1)))), .val (.int (Int32.ofNat a)), .unset, .unset, .unset, .unset, .unset, .unset] [])) _
      refine XS.aloadN X0.here hx rfl (hb hby d2_7) rfl rfl ?_
      show Steps p.tables e below (s₁.setTop (mkF m 8 #[.val (.ref b), .val (.int (Int32.ofNat a)), .val (.int (Int32.ofNat (a + 1 + (k + 1)))), .val (.int (Int32.ofNat a)), .unset, .unset, .unset, .unset, .unset, .unset] [(.ref b)])) _
      refine XS.iloadN X0.here hx rfl (hb hby d2_8) rfl ?_
      show Steps p.tables e below (s₁.setTop (mkF m 9 #[.val (.ref b), .val (.int (Int32.ofNat a)), .val (.int (Int32.ofNat (a + 1 + (k + 1)))), .val (.int (Int32.ofNat a)), .unset, .unset, .unset, .unset, .unset, .unset] [(.int (Int32.ofNat a)), (.ref b)])) _
      refine X0.baloadBytes hx (j := (Int32.ofNat a)) (v := (.int (g a))) (by rw [e0]; exact Ar1.1) (State.isArrayOf_alike hZ.alike Ar1.2.1) Ar1.2.2 hin1 (Has.at Hh1 hin1 (own_vs_get g ha30)) (g := (mkF m 9 #[.val (.ref b), .val (.int (Int32.ofNat a)), .val (.int (Int32.ofNat (a + 1 + (k + 1)))), .val (.int (Int32.ofNat a)), .unset, .unset, .unset, .unset, .unset, .unset] [(.int (Int32.ofNat a)), (.ref b)])) rfl rfl (hb hby d2_9) _ ?_
      show Steps p.tables e below (s₁.setTop (mkF m 10 #[.val (.ref b), .val (.int (Int32.ofNat a)), .val (.int (Int32.ofNat (a + 1 + (k + 1)))), .val (.int (Int32.ofNat a)), .unset, .unset, .unset, .unset, .unset, .unset] [(.int (g a))])) _
      refine XS.bipush X0.here hx rfl (hb hby d2_10) ?_
      show Steps p.tables e below (s₁.setTop (mkF m 12 #[.val (.ref b), .val (.int (Int32.ofNat a)), .val (.int (Int32.ofNat (a + 1 + (k + 1)))), .val (.int (Int32.ofNat a)), .unset, .unset, .unset, .unset, .unset, .unset] [(.int (45 : Int32)), (.int (g a))])) _
      refine XS.icmpNo X0.here hx rfl (hb hby d2_12) rfl (teq (h45)).2 ?_
      show Steps p.tables e below (s₁.setTop (mkF m 15 #[.val (.ref b), .val (.int (Int32.ofNat a)), .val (.int (Int32.ofNat (a + 1 + (k + 1)))), .val (.int (Int32.ofNat a)), .unset, .unset, .unset, .unset, .unset, .unset] [])) _
      refine XS.iconst X0.here hx rfl (hb hby d2_15) ?_
      show Steps p.tables e below (s₁.setTop (mkF m 16 #[.val (.ref b), .val (.int (Int32.ofNat a)), .val (.int (Int32.ofNat (a + 1 + (k + 1)))), .val (.int (Int32.ofNat a)), .unset, .unset, .unset, .unset, .unset, .unset] [(.int (1 : Int32))])) _
      refine XS.goto X0.here hx rfl (pc0 := 16) (pc' := 20) rfl (hb hby d2_16) (by decide) (by decide) ?_
      show Steps p.tables e below (s₁.setTop (mkF m 20 #[.val (.ref b), .val (.int (Int32.ofNat a)), .val (.int (Int32.ofNat (a + 1 + (k + 1)))), .val (.int (Int32.ofNat a)), .unset, .unset, .unset, .unset, .unset, .unset] [(.int (1 : Int32))])) _
      refine XS.istore X0.here hx rfl (hb hby d2_20) rfl (l' := #[.val (.ref b), .val (.int (Int32.ofNat a)), .val (.int (Int32.ofNat (a + 1 + (k + 1)))), .val (.int (Int32.ofNat a)), .val (.int (1 : Int32)), .unset, .unset, .unset, .unset, .unset]) rfl ?_
      show Steps p.tables e below (s₁.setTop (mkF m 22 #[.val (.ref b), .val (.int (Int32.ofNat a)), .val (.int (Int32.ofNat (a + 1 + (k + 1)))), .val (.int (Int32.ofNat a)), .val (.int (1 : Int32)), .unset, .unset, .unset, .unset, .unset] [])) _
      refine XS.iload X0.here hx rfl (hb hby d2_22) rfl ?_
      show Steps p.tables e below (s₁.setTop (mkF m 24 #[.val (.ref b), .val (.int (Int32.ofNat a)), .val (.int (Int32.ofNat (a + 1 + (k + 1)))), .val (.int (Int32.ofNat a)), .val (.int (1 : Int32)), .unset, .unset, .unset, .unset, .unset] [(.int (1 : Int32))])) _
      refine XS.ifNo X0.here hx rfl (hb hby d2_24) rfl ((if0 _ _).trans (feq (by decide : ¬ ((1 : Int32) = (0 : Int32)))).1) ?_
      show Steps p.tables e below (s₁.setTop (mkF m 27 #[.val (.ref b), .val (.int (Int32.ofNat a)), .val (.int (Int32.ofNat (a + 1 + (k + 1)))), .val (.int (Int32.ofNat a)), .val (.int (1 : Int32)), .unset, .unset, .unset, .unset, .unset] [])) _
      refine XS.iinc X0.here hx rfl (hb hby d2_27) rfl (l' := #[.val (.ref b), .val (.int (Int32.ofNat a)), .val (.int (Int32.ofNat (a + 1 + (k + 1)))), .val (.int ((Int32.ofNat a) + (1 : Int32))), .val (.int (1 : Int32)), .unset, .unset, .unset, .unset, .unset]) rfl ?_
      show Steps p.tables e below (s₁.setTop (mkF m 30 #[.val (.ref b), .val (.int (Int32.ofNat a)), .val (.int (Int32.ofNat (a + 1 + (k + 1)))), .val (.int ((Int32.ofNat a) + (1 : Int32))), .val (.int (1 : Int32)), .unset, .unset, .unset, .unset, .unset] [])) _
      rw [← inc_ofNat]
      show Steps p.tables e below (s₁.setTop (mkF m 30 #[.val (.ref b), .val (.int (Int32.ofNat a)), .val (.int (Int32.ofNat (a + 1 + (k + 1)))), .val (.int (Int32.ofNat (a + 1))), .val (.int (1 : Int32)), .unset, .unset, .unset, .unset, .unset] [])) _
      refine XS.iloadN X0.here hx rfl (hb hby d2_30) rfl ?_
      show Steps p.tables e below (s₁.setTop (mkF m 31 #[.val (.ref b), .val (.int (Int32.ofNat a)), .val (.int (Int32.ofNat (a + 1 + (k + 1)))), .val (.int (Int32.ofNat (a + 1))), .val (.int (1 : Int32)), .unset, .unset, .unset, .unset, .unset] [(.int (Int32.ofNat (a + 1)))])) _
      refine XS.iloadN X0.here hx rfl (hb hby d2_31) rfl ?_
      show Steps p.tables e below (s₁.setTop (mkF m 32 #[.val (.ref b), .val (.int (Int32.ofNat a)), .val (.int (Int32.ofNat (a + 1 + (k + 1)))), .val (.int (Int32.ofNat (a + 1))), .val (.int (1 : Int32)), .unset, .unset, .unset, .unset, .unset] [(.int (Int32.ofNat (a + 1 + (k + 1)))), (.int (Int32.ofNat (a + 1)))])) _
      refine XS.icmpYes X0.here hx rfl (pc0 := 32) (pc' := 42) rfl (hb hby d2_32) rfl (feq (hne)).2 (by decide) (by decide) ?_
      show Steps p.tables e below (s₁.setTop (mkF m 42 #[.val (.ref b), .val (.int (Int32.ofNat a)), .val (.int (Int32.ofNat (a + 1 + (k + 1)))), .val (.int (Int32.ofNat (a + 1))), .val (.int (1 : Int32)), .unset, .unset, .unset, .unset, .unset] [])) _
      refine XS.aloadN X0.here hx rfl (hb hby d2_42) rfl rfl ?_
      show Steps p.tables e below (s₁.setTop (mkF m 43 #[.val (.ref b), .val (.int (Int32.ofNat a)), .val (.int (Int32.ofNat (a + 1 + (k + 1)))), .val (.int (Int32.ofNat (a + 1))), .val (.int (1 : Int32)), .unset, .unset, .unset, .unset, .unset] [(.ref b)])) _
      refine XS.iloadN X0.here hx rfl (hb hby d2_43) rfl ?_
      show Steps p.tables e below (s₁.setTop (mkF m 44 #[.val (.ref b), .val (.int (Int32.ofNat a)), .val (.int (Int32.ofNat (a + 1 + (k + 1)))), .val (.int (Int32.ofNat (a + 1))), .val (.int (1 : Int32)), .unset, .unset, .unset, .unset, .unset] [(.int (Int32.ofNat (a + 1))), (.ref b)])) _
      refine X0.baloadBytes hx (j := (Int32.ofNat (a + 1))) (v := (.int (g (a + 1)))) (by rw [e0]; exact Ar2.1) (State.isArrayOf_alike hZ.alike Ar2.2.1) Ar2.2.2 hin2 (Has.at Hh2 hin2 (own_vs_get g ha31)) (g := (mkF m 44 #[.val (.ref b), .val (.int (Int32.ofNat a)), .val (.int (Int32.ofNat (a + 1 + (k + 1)))), .val (.int (Int32.ofNat (a + 1))), .val (.int (1 : Int32)), .unset, .unset, .unset, .unset, .unset] [(.int (Int32.ofNat (a + 1))), (.ref b)])) rfl rfl (hb hby d2_44) _ ?_
      show Steps p.tables e below (s₁.setTop (mkF m 45 #[.val (.ref b), .val (.int (Int32.ofNat a)), .val (.int (Int32.ofNat (a + 1 + (k + 1)))), .val (.int (Int32.ofNat (a + 1))), .val (.int (1 : Int32)), .unset, .unset, .unset, .unset, .unset] [(.int (g (a + 1)))])) _
      refine XS.bipush X0.here hx rfl (hb hby d2_45) ?_
      show Steps p.tables e below (s₁.setTop (mkF m 47 #[.val (.ref b), .val (.int (Int32.ofNat a)), .val (.int (Int32.ofNat (a + 1 + (k + 1)))), .val (.int (Int32.ofNat (a + 1))), .val (.int (1 : Int32)), .unset, .unset, .unset, .unset, .unset] [(.int (48 : Int32)), (.int (g (a + 1)))])) _
      refine XS.icmpYes X0.here hx rfl (pc0 := 47) (pc' := 66) rfl (hb hby d2_47) rfl (feq (h48)).2 (by decide) (by decide) ?_
      show Steps p.tables e below (s₁.setTop (mkF m 66 #[.val (.ref b), .val (.int (Int32.ofNat a)), .val (.int (Int32.ofNat (a + 1 + (k + 1)))), .val (.int (Int32.ofNat (a + 1))), .val (.int (1 : Int32)), .unset, .unset, .unset, .unset, .unset] [])) _
      refine XS.iload X0.here hx rfl (hb hby d2_66) rfl ?_
      show Steps p.tables e below (s₁.setTop (mkF m 68 #[.val (.ref b), .val (.int (Int32.ofNat a)), .val (.int (Int32.ofNat (a + 1 + (k + 1)))), .val (.int (Int32.ofNat (a + 1))), .val (.int (1 : Int32)), .unset, .unset, .unset, .unset, .unset] [(.int (1 : Int32))])) _
      refine XS.ifNo X0.here hx rfl (hb hby d2_68) rfl ((if0 _ _).trans (feq (by decide : ¬ ((1 : Int32) = (0 : Int32)))).1) ?_
      show Steps p.tables e below (s₁.setTop (mkF m 71 #[.val (.ref b), .val (.int (Int32.ofNat a)), .val (.int (Int32.ofNat (a + 1 + (k + 1)))), .val (.int (Int32.ofNat (a + 1))), .val (.int (1 : Int32)), .unset, .unset, .unset, .unset, .unset] [])) _
      refine X0.ldc2Long hx hown (mvT hZ (hw _ (List.mem_of_getElem? (i := 13) rfl))) (g := (mkF m 71 #[.val (.ref b), .val (.int (Int32.ofNat a)), .val (.int (Int32.ofNat (a + 1 + (k + 1)))), .val (.int (Int32.ofNat (a + 1))), .val (.int (1 : Int32)), .unset, .unset, .unset, .unset, .unset] [])) rfl (hb hby d2_71) _ ?_
      show Steps p.tables e below (s₁.setTop (mkF m 74 #[.val (.ref b), .val (.int (Int32.ofNat a)), .val (.int (Int32.ofNat (a + 1 + (k + 1)))), .val (.int (Int32.ofNat (a + 1))), .val (.int (1 : Int32)), .unset, .unset, .unset, .unset, .unset] [(.long (-9223372036854775808 : Int64))])) _
      refine XS.goto X0.here hx rfl (pc0 := 74) (pc' := 80) rfl (hb hby d2_74) (by decide) (by decide) ?_
      show Steps p.tables e below (s₁.setTop (mkF m 80 #[.val (.ref b), .val (.int (Int32.ofNat a)), .val (.int (Int32.ofNat (a + 1 + (k + 1)))), .val (.int (Int32.ofNat (a + 1))), .val (.int (1 : Int32)), .unset, .unset, .unset, .unset, .unset] [(.long (-9223372036854775808 : Int64))])) _
      refine XS.lstore X0.here hx rfl (hb hby d2_80) rfl (l' := #[.val (.ref b), .val (.int (Int32.ofNat a)), .val (.int (Int32.ofNat (a + 1 + (k + 1)))), .val (.int (Int32.ofNat (a + 1))), .val (.int (1 : Int32)), .val (.long (-9223372036854775808 : Int64)), .second, .unset, .unset, .unset]) rfl ?_
      show Steps p.tables e below (s₁.setTop (mkF m 82 #[.val (.ref b), .val (.int (Int32.ofNat a)), .val (.int (Int32.ofNat (a + 1 + (k + 1)))), .val (.int (Int32.ofNat (a + 1))), .val (.int (1 : Int32)), .val (.long (-9223372036854775808 : Int64)), .second, .unset, .unset, .unset] [])) _
      refine XS.lconst X0.here hx rfl (hb hby d2_82) ?_
      show Steps p.tables e below (s₁.setTop (mkF m 83 #[.val (.ref b), .val (.int (Int32.ofNat a)), .val (.int (Int32.ofNat (a + 1 + (k + 1)))), .val (.int (Int32.ofNat (a + 1))), .val (.int (1 : Int32)), .val (.long (-9223372036854775808 : Int64)), .second, .unset, .unset, .unset] [(.long (0 : Int64))])) _
      refine XS.lstore X0.here hx rfl (hb hby d2_83) rfl (l' := #[.val (.ref b), .val (.int (Int32.ofNat a)), .val (.int (Int32.ofNat (a + 1 + (k + 1)))), .val (.int (Int32.ofNat (a + 1))), .val (.int (1 : Int32)), .val (.long (-9223372036854775808 : Int64)), .second, .val (.long (0 : Int64)), .second, .unset]) rfl ?_
      show Steps p.tables e below (s₁.setTop (mkF m 85 #[.val (.ref b), .val (.int (Int32.ofNat a)), .val (.int (Int32.ofNat (a + 1 + (k + 1)))), .val (.int (Int32.ofNat (a + 1))), .val (.int (1 : Int32)), .val (.long (-9223372036854775808 : Int64)), .second, .val (.long (0 : Int64)), .second, .unset] [])) _
      refine st3 _ ?_
      show Steps p.tables e below (s₁.setTop (mkF m 170 #[.val (.ref b), .val (.int (Int32.ofNat a)), .val (.int (Int32.ofNat (a + 1 + (k + 1)))), .val (.int (Int32.ofNat (a + 1 + (k + 1)))), .val (.int (1 : Int32)), .val (.long (-9223372036854775808 : Int64)), .second, .val (.long acc'), .second, s'] [])) _
      refine XS.iload X0.here hx rfl (hb hby d2_170) rfl ?_
      show Steps p.tables e below (s₁.setTop (mkF m 172 #[.val (.ref b), .val (.int (Int32.ofNat a)), .val (.int (Int32.ofNat (a + 1 + (k + 1)))), .val (.int (Int32.ofNat (a + 1 + (k + 1)))), .val (.int (1 : Int32)), .val (.long (-9223372036854775808 : Int64)), .second, .val (.long acc'), .second, s'] [(.int (1 : Int32))])) _
      refine XS.ifNo X0.here hx rfl (hb hby d2_172) rfl ((if0 _ _).trans (feq (by decide : ¬ ((1 : Int32) = (0 : Int32)))).1) ?_
      show Steps p.tables e below (s₁.setTop (mkF m 175 #[.val (.ref b), .val (.int (Int32.ofNat a)), .val (.int (Int32.ofNat (a + 1 + (k + 1)))), .val (.int (Int32.ofNat (a + 1 + (k + 1)))), .val (.int (1 : Int32)), .val (.long (-9223372036854775808 : Int64)), .second, .val (.long acc'), .second, s'] [])) _
      refine XS.lload X0.here hx rfl (hb hby d2_175) rfl ?_
      show Steps p.tables e below (s₁.setTop (mkF m 177 #[.val (.ref b), .val (.int (Int32.ofNat a)), .val (.int (Int32.ofNat (a + 1 + (k + 1)))), .val (.int (Int32.ofNat (a + 1 + (k + 1)))), .val (.int (1 : Int32)), .val (.long (-9223372036854775808 : Int64)), .second, .val (.long acc'), .second, s'] [(.long acc')])) _
      refine XS.goto X0.here hx rfl (pc0 := 177) (pc' := 183) rfl (hb hby d2_177) (by decide) (by decide) ?_
      show Steps p.tables e below (s₁.setTop (mkF m 183 #[.val (.ref b), .val (.int (Int32.ofNat a)), .val (.int (Int32.ofNat (a + 1 + (k + 1)))), .val (.int (Int32.ofNat (a + 1 + (k + 1)))), .val (.int (1 : Int32)), .val (.long (-9223372036854775808 : Int64)), .second, .val (.long acc'), .second, s'] [(.long acc')])) _
      exact X0.lreturnOut hx Bd.returns (hb hby d2_183) hr
    · show Q2 q1 h0 n0 _ s₁.heap _
      rw [e0]
      exact ⟨by rw [hval], N0, rfl⟩
  · by_cases hq0 : q1 = (0 : Int64)
    · obtain rfl := hD2 hv
      have h45 : ¬ (g a) = (45 : Int32) := by have := hdig 0 (by omega); simp only [Nat.add_zero] at this; rw [this]; exact own_b_ne (own_dg_lt _ _)
      have he30 : a + 0 + L < 30 := by omega
      have hlt : Int32.ofNat a < (Int32.ofNat (a + 0 + L)) := (own_lt30 ha30 he30).mpr (by omega)
      have hne : ¬ (Int32.ofNat a) = (Int32.ofNat (a + 0 + L)) := fun q => by
          have q' := congrArg Int32.toInt q
          rw [(own_nat30 _ (by omega)).2.2, (own_nat30 _ he30).2.2] at q'
          omega
      have hfst : g a = own_b (own_dg q1.toInt.natAbs (L - 1)) := by have := hdig 0 (by omega); simpa using this
      have hz : q1.toInt.natAbs = 0 := by rw [hq0, ez0]; rfl
      have hLL : L = 1 := by
        rcases hL.2.2 with h | h
        · exact h
        · have : 0 < 10 ^ (L - 1) := Nat.pow_pos (by decide)
          omega
      subst hLL
      have h48 : (g a) = (48 : Int32) := by rw [hfst, hz]; rfl
      have hone : ((Int32.ofNat (a + 0 + 1)) - (Int32.ofNat a)) = (1 : Int32) := by
          have key : ∀ a, a ≤ 7 → Int32.ofNat (a + 0 + 1) - Int32.ofNat a = (1 : Int32) := by decide
          exact key a ha
      obtain ⟨cl1, Ar1, qq1, S1, Nn1, Hh1, Gg1⟩ := id F0
      have hin1 : ¬ ((Int32.ofNat a) < 0 ∨ cl1.slots.size ≤ ((Int32.ofNat a)).toNatClampNeg) := inb_of S1 (own_nat30 a ha30).1
      obtain ⟨cl2, Ar2, qq2, S2, Nn2, Hh2, Gg2⟩ := id F0
      have hin2 : ¬ ((Int32.ofNat a) < 0 ∨ cl2.slots.size ≤ ((Int32.ofNat a)).toNatClampNeg) := inb_of S2 (own_nat30 a ha30).1
      obtain ⟨fs, hr, hrun, hended, hW, hsame⟩ := X0.leave (v := some (.long (0 : Int64))) (fun h => by rw [Bd.returns] at h; cases h)
      refine ⟨_, _, pre0 _ ?_, hrun, hended, _, _, rfl, ?_, ⟨_, rfl⟩, hW, hsame.mono (by decide) (by decide)⟩
      · show Steps p.tables e below (s₁.setTop (mkF m 0 #[.val (.ref b), .val (.int (Int32.ofNat a)), .val (.int (Int32.ofNat (a + 0 + 1))), .unset, .unset, .unset, .unset, .unset, .unset, .unset] [])) _
        refine XS.iloadN X0.here hx rfl (hb hby d2_0) rfl ?_
        show Steps p.tables e below (s₁.setTop (mkF m 1 #[.val (.ref b), .val (.int (Int32.ofNat a)), .val (.int (Int32.ofNat (a + 0 + 1))), .unset, .unset, .unset, .unset, .unset, .unset, .unset] [(.int (Int32.ofNat a))])) _
        refine XS.istoreN X0.here hx rfl (hb hby d2_1) rfl (l' := #[.val (.ref b), .val (.int (Int32.ofNat a)), .val (.int (Int32.ofNat (a + 0 + 1))), .val (.int (Int32.ofNat a)), .unset, .unset, .unset, .unset, .unset, .unset]) rfl ?_
        show Steps p.tables e below (s₁.setTop (mkF m 2 #[.val (.ref b), .val (.int (Int32.ofNat a)), .val (.int (Int32.ofNat (a + 0 + 1))), .val (.int (Int32.ofNat a)), .unset, .unset, .unset, .unset, .unset, .unset] [])) _
        refine XS.iloadN X0.here hx rfl (hb hby d2_2) rfl ?_
        show Steps p.tables e below (s₁.setTop (mkF m 3 #[.val (.ref b), .val (.int (Int32.ofNat a)), .val (.int (Int32.ofNat (a + 0 + 1))), .val (.int (Int32.ofNat a)), .unset, .unset, .unset, .unset, .unset, .unset] [(.int (Int32.ofNat a))])) _
        refine XS.iloadN X0.here hx rfl (hb hby d2_3) rfl ?_
        show Steps p.tables e below (s₁.setTop (mkF m 4 #[.val (.ref b), .val (.int (Int32.ofNat a)), .val (.int (Int32.ofNat (a + 0 + 1))), .val (.int (Int32.ofNat a)), .unset, .unset, .unset, .unset, .unset, .unset] [(.int (Int32.ofNat (a + 0 + 1))), (.int (Int32.ofNat a))])) _
        refine XS.icmpNo X0.here hx rfl (hb hby d2_4) rfl (tlt (hlt)).2.1 ?_
        show Steps p.tables e below (s₁.setTop (mkF m 7 #[.val (.ref b), .val (.int (Int32.ofNat a)), .val (.int (Int32.ofNat (a + 0 + 1))), .val (.int (Int32.ofNat a)), .unset, .unset, .unset, .unset, .unset, .unset] [])) _
        refine XS.aloadN X0.here hx rfl (hb hby d2_7) rfl rfl ?_
        show Steps p.tables e below (s₁.setTop (mkF m 8 #[.val (.ref b), .val (.int (Int32.ofNat a)), .val (.int (Int32.ofNat (a + 0 + 1))), .val (.int (Int32.ofNat a)), .unset, .unset, .unset, .unset, .unset, .unset] [(.ref b)])) _
        refine XS.iloadN X0.here hx rfl (hb hby d2_8) rfl ?_
        show Steps p.tables e below (s₁.setTop (mkF m 9 #[.val (.ref b), .val (.int (Int32.ofNat a)), .val (.int (Int32.ofNat (a + 0 + 1))), .val (.int (Int32.ofNat a)), .unset, .unset, .unset, .unset, .unset, .unset] [(.int (Int32.ofNat a)), (.ref b)])) _
        refine X0.baloadBytes hx (j := (Int32.ofNat a)) (v := (.int (g a))) (by rw [e0]; exact Ar1.1) (State.isArrayOf_alike hZ.alike Ar1.2.1) Ar1.2.2 hin1 (Has.at Hh1 hin1 (own_vs_get g ha30)) (g := (mkF m 9 #[.val (.ref b), .val (.int (Int32.ofNat a)), .val (.int (Int32.ofNat (a + 0 + 1))), .val (.int (Int32.ofNat a)), .unset, .unset, .unset, .unset, .unset, .unset] [(.int (Int32.ofNat a)), (.ref b)])) rfl rfl (hb hby d2_9) _ ?_
        show Steps p.tables e below (s₁.setTop (mkF m 10 #[.val (.ref b), .val (.int (Int32.ofNat a)), .val (.int (Int32.ofNat (a + 0 + 1))), .val (.int (Int32.ofNat a)), .unset, .unset, .unset, .unset, .unset, .unset] [(.int (g a))])) _
        refine XS.bipush X0.here hx rfl (hb hby d2_10) ?_
        show Steps p.tables e below (s₁.setTop (mkF m 12 #[.val (.ref b), .val (.int (Int32.ofNat a)), .val (.int (Int32.ofNat (a + 0 + 1))), .val (.int (Int32.ofNat a)), .unset, .unset, .unset, .unset, .unset, .unset] [(.int (45 : Int32)), (.int (g a))])) _
        refine XS.icmpYes X0.here hx rfl (pc0 := 12) (pc' := 19) rfl (hb hby d2_12) rfl (feq (h45)).2 (by decide) (by decide) ?_
        show Steps p.tables e below (s₁.setTop (mkF m 19 #[.val (.ref b), .val (.int (Int32.ofNat a)), .val (.int (Int32.ofNat (a + 0 + 1))), .val (.int (Int32.ofNat a)), .unset, .unset, .unset, .unset, .unset, .unset] [])) _
        refine XS.iconst X0.here hx rfl (hb hby d2_19) ?_
        show Steps p.tables e below (s₁.setTop (mkF m 20 #[.val (.ref b), .val (.int (Int32.ofNat a)), .val (.int (Int32.ofNat (a + 0 + 1))), .val (.int (Int32.ofNat a)), .unset, .unset, .unset, .unset, .unset, .unset] [(.int (0 : Int32))])) _
        refine XS.istore X0.here hx rfl (hb hby d2_20) rfl (l' := #[.val (.ref b), .val (.int (Int32.ofNat a)), .val (.int (Int32.ofNat (a + 0 + 1))), .val (.int (Int32.ofNat a)), .val (.int (0 : Int32)), .unset, .unset, .unset, .unset, .unset]) rfl ?_
        show Steps p.tables e below (s₁.setTop (mkF m 22 #[.val (.ref b), .val (.int (Int32.ofNat a)), .val (.int (Int32.ofNat (a + 0 + 1))), .val (.int (Int32.ofNat a)), .val (.int (0 : Int32)), .unset, .unset, .unset, .unset, .unset] [])) _
        refine XS.iload X0.here hx rfl (hb hby d2_22) rfl ?_
        show Steps p.tables e below (s₁.setTop (mkF m 24 #[.val (.ref b), .val (.int (Int32.ofNat a)), .val (.int (Int32.ofNat (a + 0 + 1))), .val (.int (Int32.ofNat a)), .val (.int (0 : Int32)), .unset, .unset, .unset, .unset, .unset] [(.int (0 : Int32))])) _
        refine XS.ifYes X0.here hx rfl (pc0 := 24) (pc' := 30) rfl (hb hby d2_24) rfl ((if0 _ _).trans (teq (by decide : (0 : Int32) = (0 : Int32))).1) (by decide) (by decide) ?_
        show Steps p.tables e below (s₁.setTop (mkF m 30 #[.val (.ref b), .val (.int (Int32.ofNat a)), .val (.int (Int32.ofNat (a + 0 + 1))), .val (.int (Int32.ofNat a)), .val (.int (0 : Int32)), .unset, .unset, .unset, .unset, .unset] [])) _
        refine XS.iloadN X0.here hx rfl (hb hby d2_30) rfl ?_
        show Steps p.tables e below (s₁.setTop (mkF m 31 #[.val (.ref b), .val (.int (Int32.ofNat a)), .val (.int (Int32.ofNat (a + 0 + 1))), .val (.int (Int32.ofNat a)), .val (.int (0 : Int32)), .unset, .unset, .unset, .unset, .unset] [(.int (Int32.ofNat a))])) _
        refine XS.iloadN X0.here hx rfl (hb hby d2_31) rfl ?_
        show Steps p.tables e below (s₁.setTop (mkF m 32 #[.val (.ref b), .val (.int (Int32.ofNat a)), .val (.int (Int32.ofNat (a + 0 + 1))), .val (.int (Int32.ofNat a)), .val (.int (0 : Int32)), .unset, .unset, .unset, .unset, .unset] [(.int (Int32.ofNat (a + 0 + 1))), (.int (Int32.ofNat a))])) _
        refine XS.icmpYes X0.here hx rfl (pc0 := 32) (pc' := 42) rfl (hb hby d2_32) rfl (feq (hne)).2 (by decide) (by decide) ?_
        show Steps p.tables e below (s₁.setTop (mkF m 42 #[.val (.ref b), .val (.int (Int32.ofNat a)), .val (.int (Int32.ofNat (a + 0 + 1))), .val (.int (Int32.ofNat a)), .val (.int (0 : Int32)), .unset, .unset, .unset, .unset, .unset] [])) _
        refine XS.aloadN X0.here hx rfl (hb hby d2_42) rfl rfl ?_
        show Steps p.tables e below (s₁.setTop (mkF m 43 #[.val (.ref b), .val (.int (Int32.ofNat a)), .val (.int (Int32.ofNat (a + 0 + 1))), .val (.int (Int32.ofNat a)), .val (.int (0 : Int32)), .unset, .unset, .unset, .unset, .unset] [(.ref b)])) _
        refine XS.iloadN X0.here hx rfl (hb hby d2_43) rfl ?_
        show Steps p.tables e below (s₁.setTop (mkF m 44 #[.val (.ref b), .val (.int (Int32.ofNat a)), .val (.int (Int32.ofNat (a + 0 + 1))), .val (.int (Int32.ofNat a)), .val (.int (0 : Int32)), .unset, .unset, .unset, .unset, .unset] [(.int (Int32.ofNat a)), (.ref b)])) _
        refine X0.baloadBytes hx (j := (Int32.ofNat a)) (v := (.int (g a))) (by rw [e0]; exact Ar2.1) (State.isArrayOf_alike hZ.alike Ar2.2.1) Ar2.2.2 hin2 (Has.at Hh2 hin2 (own_vs_get g ha30)) (g := (mkF m 44 #[.val (.ref b), .val (.int (Int32.ofNat a)), .val (.int (Int32.ofNat (a + 0 + 1))), .val (.int (Int32.ofNat a)), .val (.int (0 : Int32)), .unset, .unset, .unset, .unset, .unset] [(.int (Int32.ofNat a)), (.ref b)])) rfl rfl (hb hby d2_44) _ ?_
        show Steps p.tables e below (s₁.setTop (mkF m 45 #[.val (.ref b), .val (.int (Int32.ofNat a)), .val (.int (Int32.ofNat (a + 0 + 1))), .val (.int (Int32.ofNat a)), .val (.int (0 : Int32)), .unset, .unset, .unset, .unset, .unset] [(.int (g a))])) _
        refine XS.bipush X0.here hx rfl (hb hby d2_45) ?_
        show Steps p.tables e below (s₁.setTop (mkF m 47 #[.val (.ref b), .val (.int (Int32.ofNat a)), .val (.int (Int32.ofNat (a + 0 + 1))), .val (.int (Int32.ofNat a)), .val (.int (0 : Int32)), .unset, .unset, .unset, .unset, .unset] [(.int (48 : Int32)), (.int (g a))])) _
        refine XS.icmpNo X0.here hx rfl (hb hby d2_47) rfl (teq (h48)).2 ?_
        show Steps p.tables e below (s₁.setTop (mkF m 50 #[.val (.ref b), .val (.int (Int32.ofNat a)), .val (.int (Int32.ofNat (a + 0 + 1))), .val (.int (Int32.ofNat a)), .val (.int (0 : Int32)), .unset, .unset, .unset, .unset, .unset] [])) _
        refine XS.iloadN X0.here hx rfl (hb hby d2_50) rfl ?_
        show Steps p.tables e below (s₁.setTop (mkF m 51 #[.val (.ref b), .val (.int (Int32.ofNat a)), .val (.int (Int32.ofNat (a + 0 + 1))), .val (.int (Int32.ofNat a)), .val (.int (0 : Int32)), .unset, .unset, .unset, .unset, .unset] [(.int (Int32.ofNat (a + 0 + 1)))])) _
        refine XS.iloadN X0.here hx rfl (hb hby d2_51) rfl ?_
        show Steps p.tables e below (s₁.setTop (mkF m 52 #[.val (.ref b), .val (.int (Int32.ofNat a)), .val (.int (Int32.ofNat (a + 0 + 1))), .val (.int (Int32.ofNat a)), .val (.int (0 : Int32)), .unset, .unset, .unset, .unset, .unset] [(.int (Int32.ofNat a)), (.int (Int32.ofNat (a + 0 + 1)))])) _
        refine XS.isub X0.here hx rfl (hb hby d2_52) rfl ?_
        show Steps p.tables e below (s₁.setTop (mkF m 53 #[.val (.ref b), .val (.int (Int32.ofNat a)), .val (.int (Int32.ofNat (a + 0 + 1))), .val (.int (Int32.ofNat a)), .val (.int (0 : Int32)), .unset, .unset, .unset, .unset, .unset] [(.int ((Int32.ofNat (a + 0 + 1)) - (Int32.ofNat a)))])) _
        refine XS.iconst X0.here hx rfl (hb hby d2_53) ?_
        show Steps p.tables e below (s₁.setTop (mkF m 54 #[.val (.ref b), .val (.int (Int32.ofNat a)), .val (.int (Int32.ofNat (a + 0 + 1))), .val (.int (Int32.ofNat a)), .val (.int (0 : Int32)), .unset, .unset, .unset, .unset, .unset] [(.int (1 : Int32)), (.int ((Int32.ofNat (a + 0 + 1)) - (Int32.ofNat a)))])) _
        refine XS.icmpYes X0.here hx rfl (pc0 := 54) (pc' := 64) rfl (hb hby d2_54) rfl (teq (hone)).1 (by decide) (by decide) ?_
        show Steps p.tables e below (s₁.setTop (mkF m 64 #[.val (.ref b), .val (.int (Int32.ofNat a)), .val (.int (Int32.ofNat (a + 0 + 1))), .val (.int (Int32.ofNat a)), .val (.int (0 : Int32)), .unset, .unset, .unset, .unset, .unset] [])) _
        refine XS.lconst X0.here hx rfl (hb hby d2_64) ?_
        show Steps p.tables e below (s₁.setTop (mkF m 65 #[.val (.ref b), .val (.int (Int32.ofNat a)), .val (.int (Int32.ofNat (a + 0 + 1))), .val (.int (Int32.ofNat a)), .val (.int (0 : Int32)), .unset, .unset, .unset, .unset, .unset] [(.long (0 : Int64))])) _
        exact X0.lreturnOut hx Bd.returns (hb hby d2_65) hr
      · show Q2 q1 h0 n0 _ s₁.heap _
        rw [e0]
        exact ⟨by rw [hq0], N0, rfl⟩
    · obtain rfl := hD2 hv
      have h45 : ¬ (g a) = (45 : Int32) := by have := hdig 0 (by omega); simp only [Nat.add_zero] at this; rw [this]; exact own_b_ne (own_dg_lt _ _)
      have he30 : a + 0 + L < 30 := by omega
      have hlt : Int32.ofNat a < (Int32.ofNat (a + 0 + L)) := (own_lt30 ha30 he30).mpr (by omega)
      have hne : ¬ (Int32.ofNat a) = (Int32.ofNat (a + 0 + L)) := fun q => by
          have q' := congrArg Int32.toInt q
          rw [(own_nat30 _ (by omega)).2.2, (own_nat30 _ he30).2.2] at q'
          omega
      have hfst : g a = own_b (own_dg q1.toInt.natAbs (L - 1)) := by have := hdig 0 (by omega); simpa using this
      have hNz : q1.toInt.natAbs ≠ 0 := fun q => hq0 (Int64.toInt_inj.mp (by rw [ez0]; omega))
      obtain ⟨k, rfl⟩ : ∃ k, L = k + 1 := ⟨L - 1, by omega⟩
      have h48 : ¬ (g a) = (48 : Int32) := by rw [hfst]; exact fun q => own_dg_lead hL hNz ((own_b_48 (own_dg_lt _ _)).mp q)
      obtain ⟨acc', s', hacc, st3⟩ := lp3 b (Int32.ofNat a) (0 : Int32) (a + 0 + (k + 1)) (-9223372036854775807 : Int64) kb g X0 hx hZ hw hby hown Fh he30 (N := q1.toInt.natAbs) (Lm := 9223372036854775807) (own_absle hv) (by decide) (by decide) (k + 1) a (0 : Int64) .unset One.u (by omega) (by rw [Nat.div_eq_of_lt hL.2.1]; decide) (fun t ht => by have := hdig t ht; simpa using this)
      have hval : (-acc') = q1 := by
        apply Int64.toInt_inj.mp
        have h1 := c_lneg acc'
        have h2 := rng64 (-acc')
        have h3 : ¬ q1.toInt < (0 : Int64).toInt := fun q => hv (Int64.lt_iff_toInt_lt.mpr q)
        omega
      obtain ⟨cl1, Ar1, qq1, S1, Nn1, Hh1, Gg1⟩ := id F0
      have hin1 : ¬ ((Int32.ofNat a) < 0 ∨ cl1.slots.size ≤ ((Int32.ofNat a)).toNatClampNeg) := inb_of S1 (own_nat30 a ha30).1
      obtain ⟨cl2, Ar2, qq2, S2, Nn2, Hh2, Gg2⟩ := id F0
      have hin2 : ¬ ((Int32.ofNat a) < 0 ∨ cl2.slots.size ≤ ((Int32.ofNat a)).toNatClampNeg) := inb_of S2 (own_nat30 a ha30).1
      obtain ⟨fs, hr, hrun, hended, hW, hsame⟩ := X0.leave (v := some (.long (-acc'))) (fun h => by rw [Bd.returns] at h; cases h)
      refine ⟨_, _, pre0 _ ?_, hrun, hended, _, _, rfl, ?_, ⟨_, rfl⟩, hW, hsame.mono (by decide) (by decide)⟩
      · show Steps p.tables e below (s₁.setTop (mkF m 0 #[.val (.ref b), .val (.int (Int32.ofNat a)), .val (.int (Int32.ofNat (a + 0 + (k + 1)))), .unset, .unset, .unset, .unset, .unset, .unset, .unset] [])) _
        refine XS.iloadN X0.here hx rfl (hb hby d2_0) rfl ?_
        show Steps p.tables e below (s₁.setTop (mkF m 1 #[.val (.ref b), .val (.int (Int32.ofNat a)), .val (.int (Int32.ofNat (a + 0 + (k + 1)))), .unset, .unset, .unset, .unset, .unset, .unset, .unset] [(.int (Int32.ofNat a))])) _
        refine XS.istoreN X0.here hx rfl (hb hby d2_1) rfl (l' := #[.val (.ref b), .val (.int (Int32.ofNat a)), .val (.int (Int32.ofNat (a + 0 + (k + 1)))), .val (.int (Int32.ofNat a)), .unset, .unset, .unset, .unset, .unset, .unset]) rfl ?_
        show Steps p.tables e below (s₁.setTop (mkF m 2 #[.val (.ref b), .val (.int (Int32.ofNat a)), .val (.int (Int32.ofNat (a + 0 + (k + 1)))), .val (.int (Int32.ofNat a)), .unset, .unset, .unset, .unset, .unset, .unset] [])) _
        refine XS.iloadN X0.here hx rfl (hb hby d2_2) rfl ?_
        show Steps p.tables e below (s₁.setTop (mkF m 3 #[.val (.ref b), .val (.int (Int32.ofNat a)), .val (.int (Int32.ofNat (a + 0 + (k + 1)))), .val (.int (Int32.ofNat a)), .unset, .unset, .unset, .unset, .unset, .unset] [(.int (Int32.ofNat a))])) _
        refine XS.iloadN X0.here hx rfl (hb hby d2_3) rfl ?_
        show Steps p.tables e below (s₁.setTop (mkF m 4 #[.val (.ref b), .val (.int (Int32.ofNat a)), .val (.int (Int32.ofNat (a + 0 + (k + 1)))), .val (.int (Int32.ofNat a)), .unset, .unset, .unset, .unset, .unset, .unset] [(.int (Int32.ofNat (a + 0 + (k + 1)))), (.int (Int32.ofNat a))])) _
        refine XS.icmpNo X0.here hx rfl (hb hby d2_4) rfl (tlt (hlt)).2.1 ?_
        show Steps p.tables e below (s₁.setTop (mkF m 7 #[.val (.ref b), .val (.int (Int32.ofNat a)), .val (.int (Int32.ofNat (a + 0 + (k + 1)))), .val (.int (Int32.ofNat a)), .unset, .unset, .unset, .unset, .unset, .unset] [])) _
        refine XS.aloadN X0.here hx rfl (hb hby d2_7) rfl rfl ?_
        show Steps p.tables e below (s₁.setTop (mkF m 8 #[.val (.ref b), .val (.int (Int32.ofNat a)), .val (.int (Int32.ofNat (a + 0 + (k + 1)))), .val (.int (Int32.ofNat a)), .unset, .unset, .unset, .unset, .unset, .unset] [(.ref b)])) _
        refine XS.iloadN X0.here hx rfl (hb hby d2_8) rfl ?_
        show Steps p.tables e below (s₁.setTop (mkF m 9 #[.val (.ref b), .val (.int (Int32.ofNat a)), .val (.int (Int32.ofNat (a + 0 + (k + 1)))), .val (.int (Int32.ofNat a)), .unset, .unset, .unset, .unset, .unset, .unset] [(.int (Int32.ofNat a)), (.ref b)])) _
        refine X0.baloadBytes hx (j := (Int32.ofNat a)) (v := (.int (g a))) (by rw [e0]; exact Ar1.1) (State.isArrayOf_alike hZ.alike Ar1.2.1) Ar1.2.2 hin1 (Has.at Hh1 hin1 (own_vs_get g ha30)) (g := (mkF m 9 #[.val (.ref b), .val (.int (Int32.ofNat a)), .val (.int (Int32.ofNat (a + 0 + (k + 1)))), .val (.int (Int32.ofNat a)), .unset, .unset, .unset, .unset, .unset, .unset] [(.int (Int32.ofNat a)), (.ref b)])) rfl rfl (hb hby d2_9) _ ?_
        show Steps p.tables e below (s₁.setTop (mkF m 10 #[.val (.ref b), .val (.int (Int32.ofNat a)), .val (.int (Int32.ofNat (a + 0 + (k + 1)))), .val (.int (Int32.ofNat a)), .unset, .unset, .unset, .unset, .unset, .unset] [(.int (g a))])) _
        refine XS.bipush X0.here hx rfl (hb hby d2_10) ?_
        show Steps p.tables e below (s₁.setTop (mkF m 12 #[.val (.ref b), .val (.int (Int32.ofNat a)), .val (.int (Int32.ofNat (a + 0 + (k + 1)))), .val (.int (Int32.ofNat a)), .unset, .unset, .unset, .unset, .unset, .unset] [(.int (45 : Int32)), (.int (g a))])) _
        refine XS.icmpYes X0.here hx rfl (pc0 := 12) (pc' := 19) rfl (hb hby d2_12) rfl (feq (h45)).2 (by decide) (by decide) ?_
        show Steps p.tables e below (s₁.setTop (mkF m 19 #[.val (.ref b), .val (.int (Int32.ofNat a)), .val (.int (Int32.ofNat (a + 0 + (k + 1)))), .val (.int (Int32.ofNat a)), .unset, .unset, .unset, .unset, .unset, .unset] [])) _
        refine XS.iconst X0.here hx rfl (hb hby d2_19) ?_
        show Steps p.tables e below (s₁.setTop (mkF m 20 #[.val (.ref b), .val (.int (Int32.ofNat a)), .val (.int (Int32.ofNat (a + 0 + (k + 1)))), .val (.int (Int32.ofNat a)), .unset, .unset, .unset, .unset, .unset, .unset] [(.int (0 : Int32))])) _
        refine XS.istore X0.here hx rfl (hb hby d2_20) rfl (l' := #[.val (.ref b), .val (.int (Int32.ofNat a)), .val (.int (Int32.ofNat (a + 0 + (k + 1)))), .val (.int (Int32.ofNat a)), .val (.int (0 : Int32)), .unset, .unset, .unset, .unset, .unset]) rfl ?_
        show Steps p.tables e below (s₁.setTop (mkF m 22 #[.val (.ref b), .val (.int (Int32.ofNat a)), .val (.int (Int32.ofNat (a + 0 + (k + 1)))), .val (.int (Int32.ofNat a)), .val (.int (0 : Int32)), .unset, .unset, .unset, .unset, .unset] [])) _
        refine XS.iload X0.here hx rfl (hb hby d2_22) rfl ?_
        show Steps p.tables e below (s₁.setTop (mkF m 24 #[.val (.ref b), .val (.int (Int32.ofNat a)), .val (.int (Int32.ofNat (a + 0 + (k + 1)))), .val (.int (Int32.ofNat a)), .val (.int (0 : Int32)), .unset, .unset, .unset, .unset, .unset] [(.int (0 : Int32))])) _
        refine XS.ifYes X0.here hx rfl (pc0 := 24) (pc' := 30) rfl (hb hby d2_24) rfl ((if0 _ _).trans (teq (by decide : (0 : Int32) = (0 : Int32))).1) (by decide) (by decide) ?_
        show Steps p.tables e below (s₁.setTop (mkF m 30 #[.val (.ref b), .val (.int (Int32.ofNat a)), .val (.int (Int32.ofNat (a + 0 + (k + 1)))), .val (.int (Int32.ofNat a)), .val (.int (0 : Int32)), .unset, .unset, .unset, .unset, .unset] [])) _
        refine XS.iloadN X0.here hx rfl (hb hby d2_30) rfl ?_
        show Steps p.tables e below (s₁.setTop (mkF m 31 #[.val (.ref b), .val (.int (Int32.ofNat a)), .val (.int (Int32.ofNat (a + 0 + (k + 1)))), .val (.int (Int32.ofNat a)), .val (.int (0 : Int32)), .unset, .unset, .unset, .unset, .unset] [(.int (Int32.ofNat a))])) _
        refine XS.iloadN X0.here hx rfl (hb hby d2_31) rfl ?_
        show Steps p.tables e below (s₁.setTop (mkF m 32 #[.val (.ref b), .val (.int (Int32.ofNat a)), .val (.int (Int32.ofNat (a + 0 + (k + 1)))), .val (.int (Int32.ofNat a)), .val (.int (0 : Int32)), .unset, .unset, .unset, .unset, .unset] [(.int (Int32.ofNat (a + 0 + (k + 1)))), (.int (Int32.ofNat a))])) _
        refine XS.icmpYes X0.here hx rfl (pc0 := 32) (pc' := 42) rfl (hb hby d2_32) rfl (feq (hne)).2 (by decide) (by decide) ?_
        show Steps p.tables e below (s₁.setTop (mkF m 42 #[.val (.ref b), .val (.int (Int32.ofNat a)), .val (.int (Int32.ofNat (a + 0 + (k + 1)))), .val (.int (Int32.ofNat a)), .val (.int (0 : Int32)), .unset, .unset, .unset, .unset, .unset] [])) _
        refine XS.aloadN X0.here hx rfl (hb hby d2_42) rfl rfl ?_
        show Steps p.tables e below (s₁.setTop (mkF m 43 #[.val (.ref b), .val (.int (Int32.ofNat a)), .val (.int (Int32.ofNat (a + 0 + (k + 1)))), .val (.int (Int32.ofNat a)), .val (.int (0 : Int32)), .unset, .unset, .unset, .unset, .unset] [(.ref b)])) _
        refine XS.iloadN X0.here hx rfl (hb hby d2_43) rfl ?_
        show Steps p.tables e below (s₁.setTop (mkF m 44 #[.val (.ref b), .val (.int (Int32.ofNat a)), .val (.int (Int32.ofNat (a + 0 + (k + 1)))), .val (.int (Int32.ofNat a)), .val (.int (0 : Int32)), .unset, .unset, .unset, .unset, .unset] [(.int (Int32.ofNat a)), (.ref b)])) _
        refine X0.baloadBytes hx (j := (Int32.ofNat a)) (v := (.int (g a))) (by rw [e0]; exact Ar2.1) (State.isArrayOf_alike hZ.alike Ar2.2.1) Ar2.2.2 hin2 (Has.at Hh2 hin2 (own_vs_get g ha30)) (g := (mkF m 44 #[.val (.ref b), .val (.int (Int32.ofNat a)), .val (.int (Int32.ofNat (a + 0 + (k + 1)))), .val (.int (Int32.ofNat a)), .val (.int (0 : Int32)), .unset, .unset, .unset, .unset, .unset] [(.int (Int32.ofNat a)), (.ref b)])) rfl rfl (hb hby d2_44) _ ?_
        show Steps p.tables e below (s₁.setTop (mkF m 45 #[.val (.ref b), .val (.int (Int32.ofNat a)), .val (.int (Int32.ofNat (a + 0 + (k + 1)))), .val (.int (Int32.ofNat a)), .val (.int (0 : Int32)), .unset, .unset, .unset, .unset, .unset] [(.int (g a))])) _
        refine XS.bipush X0.here hx rfl (hb hby d2_45) ?_
        show Steps p.tables e below (s₁.setTop (mkF m 47 #[.val (.ref b), .val (.int (Int32.ofNat a)), .val (.int (Int32.ofNat (a + 0 + (k + 1)))), .val (.int (Int32.ofNat a)), .val (.int (0 : Int32)), .unset, .unset, .unset, .unset, .unset] [(.int (48 : Int32)), (.int (g a))])) _
        refine XS.icmpYes X0.here hx rfl (pc0 := 47) (pc' := 66) rfl (hb hby d2_47) rfl (feq (h48)).2 (by decide) (by decide) ?_
        show Steps p.tables e below (s₁.setTop (mkF m 66 #[.val (.ref b), .val (.int (Int32.ofNat a)), .val (.int (Int32.ofNat (a + 0 + (k + 1)))), .val (.int (Int32.ofNat a)), .val (.int (0 : Int32)), .unset, .unset, .unset, .unset, .unset] [])) _
        refine XS.iload X0.here hx rfl (hb hby d2_66) rfl ?_
        show Steps p.tables e below (s₁.setTop (mkF m 68 #[.val (.ref b), .val (.int (Int32.ofNat a)), .val (.int (Int32.ofNat (a + 0 + (k + 1)))), .val (.int (Int32.ofNat a)), .val (.int (0 : Int32)), .unset, .unset, .unset, .unset, .unset] [(.int (0 : Int32))])) _
        refine XS.ifYes X0.here hx rfl (pc0 := 68) (pc' := 77) rfl (hb hby d2_68) rfl ((if0 _ _).trans (teq (by decide : (0 : Int32) = (0 : Int32))).1) (by decide) (by decide) ?_
        show Steps p.tables e below (s₁.setTop (mkF m 77 #[.val (.ref b), .val (.int (Int32.ofNat a)), .val (.int (Int32.ofNat (a + 0 + (k + 1)))), .val (.int (Int32.ofNat a)), .val (.int (0 : Int32)), .unset, .unset, .unset, .unset, .unset] [])) _
        refine X0.ldc2Long hx hown (mvT hZ (hw _ (List.mem_of_getElem? (i := 12) rfl))) (g := (mkF m 77 #[.val (.ref b), .val (.int (Int32.ofNat a)), .val (.int (Int32.ofNat (a + 0 + (k + 1)))), .val (.int (Int32.ofNat a)), .val (.int (0 : Int32)), .unset, .unset, .unset, .unset, .unset] [])) rfl (hb hby d2_77) _ ?_
        show Steps p.tables e below (s₁.setTop (mkF m 80 #[.val (.ref b), .val (.int (Int32.ofNat a)), .val (.int (Int32.ofNat (a + 0 + (k + 1)))), .val (.int (Int32.ofNat a)), .val (.int (0 : Int32)), .unset, .unset, .unset, .unset, .unset] [(.long (-9223372036854775807 : Int64))])) _
        refine XS.lstore X0.here hx rfl (hb hby d2_80) rfl (l' := #[.val (.ref b), .val (.int (Int32.ofNat a)), .val (.int (Int32.ofNat (a + 0 + (k + 1)))), .val (.int (Int32.ofNat a)), .val (.int (0 : Int32)), .val (.long (-9223372036854775807 : Int64)), .second, .unset, .unset, .unset]) rfl ?_
        show Steps p.tables e below (s₁.setTop (mkF m 82 #[.val (.ref b), .val (.int (Int32.ofNat a)), .val (.int (Int32.ofNat (a + 0 + (k + 1)))), .val (.int (Int32.ofNat a)), .val (.int (0 : Int32)), .val (.long (-9223372036854775807 : Int64)), .second, .unset, .unset, .unset] [])) _
        refine XS.lconst X0.here hx rfl (hb hby d2_82) ?_
        show Steps p.tables e below (s₁.setTop (mkF m 83 #[.val (.ref b), .val (.int (Int32.ofNat a)), .val (.int (Int32.ofNat (a + 0 + (k + 1)))), .val (.int (Int32.ofNat a)), .val (.int (0 : Int32)), .val (.long (-9223372036854775807 : Int64)), .second, .unset, .unset, .unset] [(.long (0 : Int64))])) _
        refine XS.lstore X0.here hx rfl (hb hby d2_83) rfl (l' := #[.val (.ref b), .val (.int (Int32.ofNat a)), .val (.int (Int32.ofNat (a + 0 + (k + 1)))), .val (.int (Int32.ofNat a)), .val (.int (0 : Int32)), .val (.long (-9223372036854775807 : Int64)), .second, .val (.long (0 : Int64)), .second, .unset]) rfl ?_
        show Steps p.tables e below (s₁.setTop (mkF m 85 #[.val (.ref b), .val (.int (Int32.ofNat a)), .val (.int (Int32.ofNat (a + 0 + (k + 1)))), .val (.int (Int32.ofNat a)), .val (.int (0 : Int32)), .val (.long (-9223372036854775807 : Int64)), .second, .val (.long (0 : Int64)), .second, .unset] [])) _
        refine st3 _ ?_
        show Steps p.tables e below (s₁.setTop (mkF m 170 #[.val (.ref b), .val (.int (Int32.ofNat a)), .val (.int (Int32.ofNat (a + 0 + (k + 1)))), .val (.int (Int32.ofNat (a + 0 + (k + 1)))), .val (.int (0 : Int32)), .val (.long (-9223372036854775807 : Int64)), .second, .val (.long acc'), .second, s'] [])) _
        refine XS.iload X0.here hx rfl (hb hby d2_170) rfl ?_
        show Steps p.tables e below (s₁.setTop (mkF m 172 #[.val (.ref b), .val (.int (Int32.ofNat a)), .val (.int (Int32.ofNat (a + 0 + (k + 1)))), .val (.int (Int32.ofNat (a + 0 + (k + 1)))), .val (.int (0 : Int32)), .val (.long (-9223372036854775807 : Int64)), .second, .val (.long acc'), .second, s'] [(.int (0 : Int32))])) _
        refine XS.ifYes X0.here hx rfl (pc0 := 172) (pc' := 180) rfl (hb hby d2_172) rfl ((if0 _ _).trans (teq (by decide : (0 : Int32) = (0 : Int32))).1) (by decide) (by decide) ?_
        show Steps p.tables e below (s₁.setTop (mkF m 180 #[.val (.ref b), .val (.int (Int32.ofNat a)), .val (.int (Int32.ofNat (a + 0 + (k + 1)))), .val (.int (Int32.ofNat (a + 0 + (k + 1)))), .val (.int (0 : Int32)), .val (.long (-9223372036854775807 : Int64)), .second, .val (.long acc'), .second, s'] [])) _
        refine XS.lload X0.here hx rfl (hb hby d2_180) rfl ?_
        show Steps p.tables e below (s₁.setTop (mkF m 182 #[.val (.ref b), .val (.int (Int32.ofNat a)), .val (.int (Int32.ofNat (a + 0 + (k + 1)))), .val (.int (Int32.ofNat (a + 0 + (k + 1)))), .val (.int (0 : Int32)), .val (.long (-9223372036854775807 : Int64)), .second, .val (.long acc'), .second, s'] [(.long acc')])) _
        refine XS.lneg X0.here hx rfl (hb hby d2_182) rfl ?_
        show Steps p.tables e below (s₁.setTop (mkF m 183 #[.val (.ref b), .val (.int (Int32.ofNat a)), .val (.int (Int32.ofNat (a + 0 + (k + 1)))), .val (.int (Int32.ofNat (a + 0 + (k + 1)))), .val (.int (0 : Int32)), .val (.long (-9223372036854775807 : Int64)), .second, .val (.long acc'), .second, s'] [(.long (-acc'))])) _
        exact X0.lreturnOut hx Bd.returns (hb hby d2_183) hr
      · show Q2 q1 h0 n0 _ s₁.heap _
        rw [e0]
        exact ⟨by rw [hval], N0, rfl⟩
theorem pd_0 : parseMethodDescriptor "(J[BI)I" = some ⟨[.long, (.array .byte), .int], some .int⟩ := by decide +kernel
theorem pd_1 : parseMethodDescriptor "([BII)J" = some ⟨[(.array .byte), .int, .int], some .long⟩ := by decide +kernel
set_option maxRecDepth 65536 in
set_option maxHeartbeats 40000000 in
theorem sg_0 {p : Program} {l : Launch} {e : Env} {R : Room} {s : State} {m : MethodId} {args : Array Value} {below : List Frame} {meth : Method} {c : Code} {T0 : State} {locs : List Loc} {cells slots : Nat} {Z : State} {a0 : Array Value} (q1 : Int64) (p2 p3 : Int32)
    (X0 : Stand p l e R s m args below meth c T0 locs cells slots) (hx : p.tables.exec = Jvm.exec) (hZ : Z.Warmed39 s.vm) (hw : ∀ d ∈ tables_1, d.before a0 Z = true) (hby : c.code = code) (hown : s.vm.findClass "com/example/bulkwire/bulkwire/resp/DecimalWritePinLaw" = some m.cls)  :
    ∃ (mo : Int32) (v : Int64), (∀ target, Steps p.tables e below (T0.setTop (mkF m 63 #[.val (.long q1), .second, .val (.int p2), .val (.int p3), .val (.int mo), .val (.long v), .second, .unset, .unset, .unset] [])) target → Steps p.tables e below (T0.setTop (mkF m 0 #[.val (.long q1), .second, .val (.int p2), .val (.int p3), .unset, .unset, .unset, .unset, .unset, .unset] [])) target) := by
  by_cases hc7 : (p2 &&& (3 : Int32)) = (0 : Int32)
  · refine ⟨(p2 &&& (3 : Int32)), q1, fun target kt => ?_⟩
    show Steps p.tables e below (T0.setTop (mkF m 0 #[.val (.long q1), .second, .val (.int p2), .val (.int p3), .unset, .unset, .unset, .unset, .unset, .unset] [])) _
    refine XS.iloadN X0.here hx rfl (hb hby at_0) rfl ?_
    show Steps p.tables e below (T0.setTop (mkF m 1 #[.val (.long q1), .second, .val (.int p2), .val (.int p3), .unset, .unset, .unset, .unset, .unset, .unset] [(.int p2)])) _
    refine XS.iconst X0.here hx rfl (hb hby at_1) ?_
    show Steps p.tables e below (T0.setTop (mkF m 2 #[.val (.long q1), .second, .val (.int p2), .val (.int p3), .unset, .unset, .unset, .unset, .unset, .unset] [(.int (3 : Int32)), (.int p2)])) _
    refine XS.iand X0.here hx rfl (hb hby at_2) rfl ?_
    show Steps p.tables e below (T0.setTop (mkF m 3 #[.val (.long q1), .second, .val (.int p2), .val (.int p3), .unset, .unset, .unset, .unset, .unset, .unset] [(.int (p2 &&& (3 : Int32)))])) _
    refine XS.istore X0.here hx rfl (hb hby at_3) rfl (l' := #[.val (.long q1), .second, .val (.int p2), .val (.int p3), .val (.int (p2 &&& (3 : Int32))), .unset, .unset, .unset, .unset, .unset]) rfl ?_
    show Steps p.tables e below (T0.setTop (mkF m 5 #[.val (.long q1), .second, .val (.int p2), .val (.int p3), .val (.int (p2 &&& (3 : Int32))), .unset, .unset, .unset, .unset, .unset] [])) _
    refine XS.iload X0.here hx rfl (hb hby at_5) rfl ?_
    show Steps p.tables e below (T0.setTop (mkF m 7 #[.val (.long q1), .second, .val (.int p2), .val (.int p3), .val (.int (p2 &&& (3 : Int32))), .unset, .unset, .unset, .unset, .unset] [(.int (p2 &&& (3 : Int32)))])) _
    refine XS.ifNo X0.here hx rfl (hb hby at_7) rfl ((if0 _ _).trans (teq hc7).2) ?_
    show Steps p.tables e below (T0.setTop (mkF m 10 #[.val (.long q1), .second, .val (.int p2), .val (.int p3), .val (.int (p2 &&& (3 : Int32))), .unset, .unset, .unset, .unset, .unset] [])) _
    refine XS.lloadN X0.here hx rfl (hb hby at_10) rfl ?_
    show Steps p.tables e below (T0.setTop (mkF m 11 #[.val (.long q1), .second, .val (.int p2), .val (.int p3), .val (.int (p2 &&& (3 : Int32))), .unset, .unset, .unset, .unset, .unset] [(.long q1)])) _
    refine XS.lstore X0.here hx rfl (hb hby at_11) rfl (l' := #[.val (.long q1), .second, .val (.int p2), .val (.int p3), .val (.int (p2 &&& (3 : Int32))), .val (.long q1), .second, .unset, .unset, .unset]) rfl ?_
    show Steps p.tables e below (T0.setTop (mkF m 13 #[.val (.long q1), .second, .val (.int p2), .val (.int p3), .val (.int (p2 &&& (3 : Int32))), .val (.long q1), .second, .unset, .unset, .unset] [])) _
    refine XS.goto X0.here hx rfl (pc0 := 13) (pc' := 63) rfl (hb hby at_13) (by decide) (by decide) ?_
    exact kt
  · by_cases hc19 : (p2 &&& (3 : Int32)) = (1 : Int32)
    · refine ⟨(p2 &&& (3 : Int32)), ((-9223372036854775808 : Int64) + (q1 &&& (15 : Int64))), fun target kt => ?_⟩
      show Steps p.tables e below (T0.setTop (mkF m 0 #[.val (.long q1), .second, .val (.int p2), .val (.int p3), .unset, .unset, .unset, .unset, .unset, .unset] [])) _
      refine XS.iloadN X0.here hx rfl (hb hby at_0) rfl ?_
      show Steps p.tables e below (T0.setTop (mkF m 1 #[.val (.long q1), .second, .val (.int p2), .val (.int p3), .unset, .unset, .unset, .unset, .unset, .unset] [(.int p2)])) _
      refine XS.iconst X0.here hx rfl (hb hby at_1) ?_
      show Steps p.tables e below (T0.setTop (mkF m 2 #[.val (.long q1), .second, .val (.int p2), .val (.int p3), .unset, .unset, .unset, .unset, .unset, .unset] [(.int (3 : Int32)), (.int p2)])) _
      refine XS.iand X0.here hx rfl (hb hby at_2) rfl ?_
      show Steps p.tables e below (T0.setTop (mkF m 3 #[.val (.long q1), .second, .val (.int p2), .val (.int p3), .unset, .unset, .unset, .unset, .unset, .unset] [(.int (p2 &&& (3 : Int32)))])) _
      refine XS.istore X0.here hx rfl (hb hby at_3) rfl (l' := #[.val (.long q1), .second, .val (.int p2), .val (.int p3), .val (.int (p2 &&& (3 : Int32))), .unset, .unset, .unset, .unset, .unset]) rfl ?_
      show Steps p.tables e below (T0.setTop (mkF m 5 #[.val (.long q1), .second, .val (.int p2), .val (.int p3), .val (.int (p2 &&& (3 : Int32))), .unset, .unset, .unset, .unset, .unset] [])) _
      refine XS.iload X0.here hx rfl (hb hby at_5) rfl ?_
      show Steps p.tables e below (T0.setTop (mkF m 7 #[.val (.long q1), .second, .val (.int p2), .val (.int p3), .val (.int (p2 &&& (3 : Int32))), .unset, .unset, .unset, .unset, .unset] [(.int (p2 &&& (3 : Int32)))])) _
      refine XS.ifYes X0.here hx rfl (pc0 := 7) (pc' := 16) rfl (hb hby at_7) rfl ((if0 _ _).trans (feq hc7).2) (by decide) (by decide) ?_
      show Steps p.tables e below (T0.setTop (mkF m 16 #[.val (.long q1), .second, .val (.int p2), .val (.int p3), .val (.int (p2 &&& (3 : Int32))), .unset, .unset, .unset, .unset, .unset] [])) _
      refine XS.iload X0.here hx rfl (hb hby at_16) rfl ?_
      show Steps p.tables e below (T0.setTop (mkF m 18 #[.val (.long q1), .second, .val (.int p2), .val (.int p3), .val (.int (p2 &&& (3 : Int32))), .unset, .unset, .unset, .unset, .unset] [(.int (p2 &&& (3 : Int32)))])) _
      refine XS.iconst X0.here hx rfl (hb hby at_18) ?_
      show Steps p.tables e below (T0.setTop (mkF m 19 #[.val (.long q1), .second, .val (.int p2), .val (.int p3), .val (.int (p2 &&& (3 : Int32))), .unset, .unset, .unset, .unset, .unset] [(.int (1 : Int32)), (.int (p2 &&& (3 : Int32)))])) _
      refine XS.icmpNo X0.here hx rfl (hb hby at_19) rfl (teq hc19).2 ?_
      show Steps p.tables e below (T0.setTop (mkF m 22 #[.val (.long q1), .second, .val (.int p2), .val (.int p3), .val (.int (p2 &&& (3 : Int32))), .unset, .unset, .unset, .unset, .unset] [])) _
      refine X0.ldc2Long hx hown (mvT hZ (hw _ (List.mem_of_getElem? (i := 14) rfl))) (g := (mkF m 22 #[.val (.long q1), .second, .val (.int p2), .val (.int p3), .val (.int (p2 &&& (3 : Int32))), .unset, .unset, .unset, .unset, .unset] [])) rfl (hb hby at_22) _ ?_
      show Steps p.tables e below (T0.setTop (mkF m 25 #[.val (.long q1), .second, .val (.int p2), .val (.int p3), .val (.int (p2 &&& (3 : Int32))), .unset, .unset, .unset, .unset, .unset] [(.long (-9223372036854775808 : Int64))])) _
      refine XS.lloadN X0.here hx rfl (hb hby at_25) rfl ?_
      show Steps p.tables e below (T0.setTop (mkF m 26 #[.val (.long q1), .second, .val (.int p2), .val (.int p3), .val (.int (p2 &&& (3 : Int32))), .unset, .unset, .unset, .unset, .unset] [(.long q1), (.long (-9223372036854775808 : Int64))])) _
      refine X0.ldc2Long hx hown (mvT hZ (hw _ (List.mem_of_getElem? (i := 1) rfl))) (g := (mkF m 26 #[.val (.long q1), .second, .val (.int p2), .val (.int p3), .val (.int (p2 &&& (3 : Int32))), .unset, .unset, .unset, .unset, .unset] [(.long q1), (.long (-9223372036854775808 : Int64))])) rfl (hb hby at_26) _ ?_
      show Steps p.tables e below (T0.setTop (mkF m 29 #[.val (.long q1), .second, .val (.int p2), .val (.int p3), .val (.int (p2 &&& (3 : Int32))), .unset, .unset, .unset, .unset, .unset] [(.long (15 : Int64)), (.long q1), (.long (-9223372036854775808 : Int64))])) _
      refine XS.land X0.here hx rfl (hb hby at_29) rfl ?_
      show Steps p.tables e below (T0.setTop (mkF m 30 #[.val (.long q1), .second, .val (.int p2), .val (.int p3), .val (.int (p2 &&& (3 : Int32))), .unset, .unset, .unset, .unset, .unset] [(.long (q1 &&& (15 : Int64))), (.long (-9223372036854775808 : Int64))])) _
      refine XS.ladd X0.here hx rfl (hb hby at_30) rfl ?_
      show Steps p.tables e below (T0.setTop (mkF m 31 #[.val (.long q1), .second, .val (.int p2), .val (.int p3), .val (.int (p2 &&& (3 : Int32))), .unset, .unset, .unset, .unset, .unset] [(.long ((-9223372036854775808 : Int64) + (q1 &&& (15 : Int64))))])) _
      refine XS.lstore X0.here hx rfl (hb hby at_31) rfl (l' := #[.val (.long q1), .second, .val (.int p2), .val (.int p3), .val (.int (p2 &&& (3 : Int32))), .val (.long ((-9223372036854775808 : Int64) + (q1 &&& (15 : Int64)))), .second, .unset, .unset, .unset]) rfl ?_
      show Steps p.tables e below (T0.setTop (mkF m 33 #[.val (.long q1), .second, .val (.int p2), .val (.int p3), .val (.int (p2 &&& (3 : Int32))), .val (.long ((-9223372036854775808 : Int64) + (q1 &&& (15 : Int64)))), .second, .unset, .unset, .unset] [])) _
      refine XS.goto X0.here hx rfl (pc0 := 33) (pc' := 63) rfl (hb hby at_33) (by decide) (by decide) ?_
      exact kt
    · by_cases hc39 : (p2 &&& (3 : Int32)) = (2 : Int32)
      · refine ⟨(p2 &&& (3 : Int32)), ((9223372036854775807 : Int64) - (q1 &&& (15 : Int64))), fun target kt => ?_⟩
        show Steps p.tables e below (T0.setTop (mkF m 0 #[.val (.long q1), .second, .val (.int p2), .val (.int p3), .unset, .unset, .unset, .unset, .unset, .unset] [])) _
        refine XS.iloadN X0.here hx rfl (hb hby at_0) rfl ?_
        show Steps p.tables e below (T0.setTop (mkF m 1 #[.val (.long q1), .second, .val (.int p2), .val (.int p3), .unset, .unset, .unset, .unset, .unset, .unset] [(.int p2)])) _
        refine XS.iconst X0.here hx rfl (hb hby at_1) ?_
        show Steps p.tables e below (T0.setTop (mkF m 2 #[.val (.long q1), .second, .val (.int p2), .val (.int p3), .unset, .unset, .unset, .unset, .unset, .unset] [(.int (3 : Int32)), (.int p2)])) _
        refine XS.iand X0.here hx rfl (hb hby at_2) rfl ?_
        show Steps p.tables e below (T0.setTop (mkF m 3 #[.val (.long q1), .second, .val (.int p2), .val (.int p3), .unset, .unset, .unset, .unset, .unset, .unset] [(.int (p2 &&& (3 : Int32)))])) _
        refine XS.istore X0.here hx rfl (hb hby at_3) rfl (l' := #[.val (.long q1), .second, .val (.int p2), .val (.int p3), .val (.int (p2 &&& (3 : Int32))), .unset, .unset, .unset, .unset, .unset]) rfl ?_
        show Steps p.tables e below (T0.setTop (mkF m 5 #[.val (.long q1), .second, .val (.int p2), .val (.int p3), .val (.int (p2 &&& (3 : Int32))), .unset, .unset, .unset, .unset, .unset] [])) _
        refine XS.iload X0.here hx rfl (hb hby at_5) rfl ?_
        show Steps p.tables e below (T0.setTop (mkF m 7 #[.val (.long q1), .second, .val (.int p2), .val (.int p3), .val (.int (p2 &&& (3 : Int32))), .unset, .unset, .unset, .unset, .unset] [(.int (p2 &&& (3 : Int32)))])) _
        refine XS.ifYes X0.here hx rfl (pc0 := 7) (pc' := 16) rfl (hb hby at_7) rfl ((if0 _ _).trans (feq hc7).2) (by decide) (by decide) ?_
        show Steps p.tables e below (T0.setTop (mkF m 16 #[.val (.long q1), .second, .val (.int p2), .val (.int p3), .val (.int (p2 &&& (3 : Int32))), .unset, .unset, .unset, .unset, .unset] [])) _
        refine XS.iload X0.here hx rfl (hb hby at_16) rfl ?_
        show Steps p.tables e below (T0.setTop (mkF m 18 #[.val (.long q1), .second, .val (.int p2), .val (.int p3), .val (.int (p2 &&& (3 : Int32))), .unset, .unset, .unset, .unset, .unset] [(.int (p2 &&& (3 : Int32)))])) _
        refine XS.iconst X0.here hx rfl (hb hby at_18) ?_
        show Steps p.tables e below (T0.setTop (mkF m 19 #[.val (.long q1), .second, .val (.int p2), .val (.int p3), .val (.int (p2 &&& (3 : Int32))), .unset, .unset, .unset, .unset, .unset] [(.int (1 : Int32)), (.int (p2 &&& (3 : Int32)))])) _
        refine XS.icmpYes X0.here hx rfl (pc0 := 19) (pc' := 36) rfl (hb hby at_19) rfl (feq hc19).2 (by decide) (by decide) ?_
        show Steps p.tables e below (T0.setTop (mkF m 36 #[.val (.long q1), .second, .val (.int p2), .val (.int p3), .val (.int (p2 &&& (3 : Int32))), .unset, .unset, .unset, .unset, .unset] [])) _
        refine XS.iload X0.here hx rfl (hb hby at_36) rfl ?_
        show Steps p.tables e below (T0.setTop (mkF m 38 #[.val (.long q1), .second, .val (.int p2), .val (.int p3), .val (.int (p2 &&& (3 : Int32))), .unset, .unset, .unset, .unset, .unset] [(.int (p2 &&& (3 : Int32)))])) _
        refine XS.iconst X0.here hx rfl (hb hby at_38) ?_
        show Steps p.tables e below (T0.setTop (mkF m 39 #[.val (.long q1), .second, .val (.int p2), .val (.int p3), .val (.int (p2 &&& (3 : Int32))), .unset, .unset, .unset, .unset, .unset] [(.int (2 : Int32)), (.int (p2 &&& (3 : Int32)))])) _
        refine XS.icmpNo X0.here hx rfl (hb hby at_39) rfl (teq hc39).2 ?_
        show Steps p.tables e below (T0.setTop (mkF m 42 #[.val (.long q1), .second, .val (.int p2), .val (.int p3), .val (.int (p2 &&& (3 : Int32))), .unset, .unset, .unset, .unset, .unset] [])) _
        refine X0.ldc2Long hx hown (mvT hZ (hw _ (List.mem_of_getElem? (i := 0) rfl))) (g := (mkF m 42 #[.val (.long q1), .second, .val (.int p2), .val (.int p3), .val (.int (p2 &&& (3 : Int32))), .unset, .unset, .unset, .unset, .unset] [])) rfl (hb hby at_42) _ ?_
        show Steps p.tables e below (T0.setTop (mkF m 45 #[.val (.long q1), .second, .val (.int p2), .val (.int p3), .val (.int (p2 &&& (3 : Int32))), .unset, .unset, .unset, .unset, .unset] [(.long (9223372036854775807 : Int64))])) _
        refine XS.lloadN X0.here hx rfl (hb hby at_45) rfl ?_
        show Steps p.tables e below (T0.setTop (mkF m 46 #[.val (.long q1), .second, .val (.int p2), .val (.int p3), .val (.int (p2 &&& (3 : Int32))), .unset, .unset, .unset, .unset, .unset] [(.long q1), (.long (9223372036854775807 : Int64))])) _
        refine X0.ldc2Long hx hown (mvT hZ (hw _ (List.mem_of_getElem? (i := 1) rfl))) (g := (mkF m 46 #[.val (.long q1), .second, .val (.int p2), .val (.int p3), .val (.int (p2 &&& (3 : Int32))), .unset, .unset, .unset, .unset, .unset] [(.long q1), (.long (9223372036854775807 : Int64))])) rfl (hb hby at_46) _ ?_
        show Steps p.tables e below (T0.setTop (mkF m 49 #[.val (.long q1), .second, .val (.int p2), .val (.int p3), .val (.int (p2 &&& (3 : Int32))), .unset, .unset, .unset, .unset, .unset] [(.long (15 : Int64)), (.long q1), (.long (9223372036854775807 : Int64))])) _
        refine XS.land X0.here hx rfl (hb hby at_49) rfl ?_
        show Steps p.tables e below (T0.setTop (mkF m 50 #[.val (.long q1), .second, .val (.int p2), .val (.int p3), .val (.int (p2 &&& (3 : Int32))), .unset, .unset, .unset, .unset, .unset] [(.long (q1 &&& (15 : Int64))), (.long (9223372036854775807 : Int64))])) _
        refine XS.lsub X0.here hx rfl (hb hby at_50) rfl ?_
        show Steps p.tables e below (T0.setTop (mkF m 51 #[.val (.long q1), .second, .val (.int p2), .val (.int p3), .val (.int (p2 &&& (3 : Int32))), .unset, .unset, .unset, .unset, .unset] [(.long ((9223372036854775807 : Int64) - (q1 &&& (15 : Int64))))])) _
        refine XS.lstore X0.here hx rfl (hb hby at_51) rfl (l' := #[.val (.long q1), .second, .val (.int p2), .val (.int p3), .val (.int (p2 &&& (3 : Int32))), .val (.long ((9223372036854775807 : Int64) - (q1 &&& (15 : Int64)))), .second, .unset, .unset, .unset]) rfl ?_
        show Steps p.tables e below (T0.setTop (mkF m 53 #[.val (.long q1), .second, .val (.int p2), .val (.int p3), .val (.int (p2 &&& (3 : Int32))), .val (.long ((9223372036854775807 : Int64) - (q1 &&& (15 : Int64)))), .second, .unset, .unset, .unset] [])) _
        refine XS.goto X0.here hx rfl (pc0 := 53) (pc' := 63) rfl (hb hby at_53) (by decide) (by decide) ?_
        exact kt
      · refine ⟨(p2 &&& (3 : Int32)), (q1 - (q1 / (1000 : Int64)) * (1000 : Int64)), fun target kt => ?_⟩
        show Steps p.tables e below (T0.setTop (mkF m 0 #[.val (.long q1), .second, .val (.int p2), .val (.int p3), .unset, .unset, .unset, .unset, .unset, .unset] [])) _
        refine XS.iloadN X0.here hx rfl (hb hby at_0) rfl ?_
        show Steps p.tables e below (T0.setTop (mkF m 1 #[.val (.long q1), .second, .val (.int p2), .val (.int p3), .unset, .unset, .unset, .unset, .unset, .unset] [(.int p2)])) _
        refine XS.iconst X0.here hx rfl (hb hby at_1) ?_
        show Steps p.tables e below (T0.setTop (mkF m 2 #[.val (.long q1), .second, .val (.int p2), .val (.int p3), .unset, .unset, .unset, .unset, .unset, .unset] [(.int (3 : Int32)), (.int p2)])) _
        refine XS.iand X0.here hx rfl (hb hby at_2) rfl ?_
        show Steps p.tables e below (T0.setTop (mkF m 3 #[.val (.long q1), .second, .val (.int p2), .val (.int p3), .unset, .unset, .unset, .unset, .unset, .unset] [(.int (p2 &&& (3 : Int32)))])) _
        refine XS.istore X0.here hx rfl (hb hby at_3) rfl (l' := #[.val (.long q1), .second, .val (.int p2), .val (.int p3), .val (.int (p2 &&& (3 : Int32))), .unset, .unset, .unset, .unset, .unset]) rfl ?_
        show Steps p.tables e below (T0.setTop (mkF m 5 #[.val (.long q1), .second, .val (.int p2), .val (.int p3), .val (.int (p2 &&& (3 : Int32))), .unset, .unset, .unset, .unset, .unset] [])) _
        refine XS.iload X0.here hx rfl (hb hby at_5) rfl ?_
        show Steps p.tables e below (T0.setTop (mkF m 7 #[.val (.long q1), .second, .val (.int p2), .val (.int p3), .val (.int (p2 &&& (3 : Int32))), .unset, .unset, .unset, .unset, .unset] [(.int (p2 &&& (3 : Int32)))])) _
        refine XS.ifYes X0.here hx rfl (pc0 := 7) (pc' := 16) rfl (hb hby at_7) rfl ((if0 _ _).trans (feq hc7).2) (by decide) (by decide) ?_
        show Steps p.tables e below (T0.setTop (mkF m 16 #[.val (.long q1), .second, .val (.int p2), .val (.int p3), .val (.int (p2 &&& (3 : Int32))), .unset, .unset, .unset, .unset, .unset] [])) _
        refine XS.iload X0.here hx rfl (hb hby at_16) rfl ?_
        show Steps p.tables e below (T0.setTop (mkF m 18 #[.val (.long q1), .second, .val (.int p2), .val (.int p3), .val (.int (p2 &&& (3 : Int32))), .unset, .unset, .unset, .unset, .unset] [(.int (p2 &&& (3 : Int32)))])) _
        refine XS.iconst X0.here hx rfl (hb hby at_18) ?_
        show Steps p.tables e below (T0.setTop (mkF m 19 #[.val (.long q1), .second, .val (.int p2), .val (.int p3), .val (.int (p2 &&& (3 : Int32))), .unset, .unset, .unset, .unset, .unset] [(.int (1 : Int32)), (.int (p2 &&& (3 : Int32)))])) _
        refine XS.icmpYes X0.here hx rfl (pc0 := 19) (pc' := 36) rfl (hb hby at_19) rfl (feq hc19).2 (by decide) (by decide) ?_
        show Steps p.tables e below (T0.setTop (mkF m 36 #[.val (.long q1), .second, .val (.int p2), .val (.int p3), .val (.int (p2 &&& (3 : Int32))), .unset, .unset, .unset, .unset, .unset] [])) _
        refine XS.iload X0.here hx rfl (hb hby at_36) rfl ?_
        show Steps p.tables e below (T0.setTop (mkF m 38 #[.val (.long q1), .second, .val (.int p2), .val (.int p3), .val (.int (p2 &&& (3 : Int32))), .unset, .unset, .unset, .unset, .unset] [(.int (p2 &&& (3 : Int32)))])) _
        refine XS.iconst X0.here hx rfl (hb hby at_38) ?_
        show Steps p.tables e below (T0.setTop (mkF m 39 #[.val (.long q1), .second, .val (.int p2), .val (.int p3), .val (.int (p2 &&& (3 : Int32))), .unset, .unset, .unset, .unset, .unset] [(.int (2 : Int32)), (.int (p2 &&& (3 : Int32)))])) _
        refine XS.icmpYes X0.here hx rfl (pc0 := 39) (pc' := 56) rfl (hb hby at_39) rfl (feq hc39).2 (by decide) (by decide) ?_
        show Steps p.tables e below (T0.setTop (mkF m 56 #[.val (.long q1), .second, .val (.int p2), .val (.int p3), .val (.int (p2 &&& (3 : Int32))), .unset, .unset, .unset, .unset, .unset] [])) _
        refine XS.lloadN X0.here hx rfl (hb hby at_56) rfl ?_
        show Steps p.tables e below (T0.setTop (mkF m 57 #[.val (.long q1), .second, .val (.int p2), .val (.int p3), .val (.int (p2 &&& (3 : Int32))), .unset, .unset, .unset, .unset, .unset] [(.long q1)])) _
        refine X0.ldc2Long hx hown (mvT hZ (hw _ (List.mem_of_getElem? (i := 15) rfl))) (g := (mkF m 57 #[.val (.long q1), .second, .val (.int p2), .val (.int p3), .val (.int (p2 &&& (3 : Int32))), .unset, .unset, .unset, .unset, .unset] [(.long q1)])) rfl (hb hby at_57) _ ?_
        show Steps p.tables e below (T0.setTop (mkF m 60 #[.val (.long q1), .second, .val (.int p2), .val (.int p3), .val (.int (p2 &&& (3 : Int32))), .unset, .unset, .unset, .unset, .unset] [(.long (1000 : Int64)), (.long q1)])) _
        refine XS.lrem X0.here hx rfl (hb hby at_60) rfl (by decide) ?_
        show Steps p.tables e below (T0.setTop (mkF m 61 #[.val (.long q1), .second, .val (.int p2), .val (.int p3), .val (.int (p2 &&& (3 : Int32))), .unset, .unset, .unset, .unset, .unset] [(.long (q1 - (q1 / (1000 : Int64)) * (1000 : Int64)))])) _
        refine XS.lstore X0.here hx rfl (hb hby at_61) rfl (l' := #[.val (.long q1), .second, .val (.int p2), .val (.int p3), .val (.int (p2 &&& (3 : Int32))), .val (.long (q1 - (q1 / (1000 : Int64)) * (1000 : Int64))), .second, .unset, .unset, .unset]) rfl ?_
        exact kt
theorem own_end {a s L : Nat} (ha : a ≤ 7) (he : a + s + L < 30) (h : s + L ≤ 20) : ¬ (20 : Int32) < (Int32.ofNat (a + s + L) - Int32.ofNat a) := fun q => by
  have q' := Int32.lt_iff_toInt_lt.mp q
  have h1 := c_isub (Int32.ofNat (a + s + L)) (Int32.ofNat a)
  have h2 := rng32 (Int32.ofNat (a + s + L) - Int32.ofNat a)
  rw [(own_nat30 _ he).2.2, (own_nat30 a (by omega)).2.2] at h1
  have e : (20 : Int32).toInt = 20 := by decide
  omega
theorem own_and7 (x : Int32) : ∃ a, a ≤ 7 ∧ x &&& (7 : Int32) = Int32.ofNat a := by
  have h := c_and x 7 (by decide)
  have e7 : (7 : Int32).toInt = 7 := by decide
  have h0 : ¬ (x &&& (7 : Int32)) < 0 := fun q => by
    have := Int32.lt_iff_toInt_lt.mp q
    have e0 : (0 : Int32).toInt = 0 := by decide
    omega
  refine ⟨(x &&& (7 : Int32)).toNatClampNeg, ?_, (back32 h0).1.symm⟩
  have := nat_of h0
  omega
theorem pn_0 : plainName "com/example/bulkwire/bulkwire/resp/DecimalWritePinLaw" = true := by first | (simp [plainName, overriddenIn]; done) | decide +kernel
theorem ef_0 (m : MethodId) (q1 : Int64) (p2 : Int32) (p3 : Int32) : entryFrame m #[(.long q1), (.int p2), (.int p3)] maxLocals = mkF m 0 #[.val (.long q1), .second, .val (.int p2), .val (.int p3), .unset, .unset, .unset, .unset, .unset, .unset] [] := by first | (simp [entryFrame, mkF, argsToLocals, Value.category, maxLocals]; done) | rfl
def Q0 (n0 : Nat) (v : Option Value) (h : Heap) (L : List Loc) : Prop := v = some (.int 1) ∧ Fr n0 L
set_option maxRecDepth 65536 in
set_option maxHeartbeats 40000000 in
theorem rm0 (l : Launch) (Z : State) (a0 : Array Value) (hw : ∀ d ∈ tables_1, d.before a0 Z = true) (ws : List Jvm.Cond) (q1 : Int64) (p2 : Int32) (p3 : Int32) (h0 : Heap) (n0 : Nat) (Z0 : n0 ≤ h0.size)  :
    MetFree l x (head1 (Jvm.Cond.code x code maxLocals ret :: ws) room_1) (fun a U => a = #[(.long q1), (.int p2), (.int p3)] ∧ Z.Warmed39 U.vm ∧ U.heap = h0) (fun _ _ _ _ _ => True) (fun _ U o U' => ∃ v L, o = .returned v ∧ Q0 n0 v U'.heap L ∧ FrameEnd U o U' L room_1.cells room_1.slots) := by
  refine MetFree.of_bodySF (plainFor_of_name pn_0) hisR ?_
  intro p e s m args below meth c s₁ Bd hml0 hP hK
  obtain ⟨rfl, hZ, hh⟩ := hP
  have hx := Bd.exec
  have hby := Bd.bytes
  have hml : c.maxLocals = 10 := hml0
  have hown : s.vm.findClass "com/example/bulkwire/bulkwire/resp/DecimalWritePinLaw" = some m.cls := findClass_of_methodNamed Bd.named
  have hnm := (name_of_methodNamed Bd.named Bd.method).1
  have X0 : Stand p l e room_1 s m #[(.long q1), (.int p2), (.int p3)] below meth c s₁ [] 0 0 := Stand.of_body Bd
  have e0 : s₁.heap = h0 := by rw [← hh, Bd.state]; rfl
  have N0 := Fr.nil n0
  have pre0 : ∀ t, Steps p.tables e below (s₁.setTop (mkF m 0 #[.val (.long q1), .second, .val (.int p2), .val (.int p3), .unset, .unset, .unset, .unset, .unset, .unset] [])) t → Steps p.tables e below (s₁.setTop (entryFrame m #[(.long q1), (.int p2), (.int p3)] maxLocals)) t := fun t k => castTop (ef_0 m q1 p2 p3) k
  obtain ⟨mo, v, k1⟩ := sg_0 q1 p2 p3 X0 hx hZ hw hby hown
  obtain ⟨a, ha, hat⟩ := own_and7 p3
  by_cases hpos : 0 < a
  · by_cases hv : v < (0 : Int64)
    · have hpos' : (0 : Int32) < Int32.ofNat a := (own_lt30 (a := 0) (by decide) (by omega)).mpr hpos
      have ham : a - 1 < 30 := by omega
      obtain ⟨T2, h2, k2, X2, e2, E2, A2, st2⟩ := newP X0 hx hZ (hw _ (List.mem_of_getElem? (i := 2) rfl)) e0 (g := (mkF m 71 #[.val (.long q1), .second, .val (.int p2), .val (.int p3), .val (.int mo), .val (.long v), .second, .val (.int (Int32.ofNat a)), .unset, .unset] [(.int (30 : Int32))])) rfl (hb hby at_71) rfl (by decide) (cap := 30) (by decide) (by decide) (by decide) (by decide)
      obtain ⟨b, gq⟩ : ∃ z, z = h0.size := ⟨_, rfl⟩
      rw [← gq] at A2 st2
      have gb : n0 ≤ b := Nat.le_trans Z0 (Nat.le_of_eq gq.symm)
      have F0 : own_buf Z h2 b k2 (fun _ => 0) := (Arv.new A2 (by decide)).pad (pad_rep [] (.int 0) 30)
      have Zn : n0 ≤ h2.size := Nat.le_trans Z0 E2.1
      obtain ⟨_, _, ⟨T3, L3, k3, n3⟩, -, X3, ⟨Lc3, hQ3, l3, y3, z3⟩, st3⟩ := Jvm.LawKit.callS X2 hx (y := (⟨"com/example/bulkwire/bulkwire/resp/Decimal", "write", "(J[BI)I"⟩ : MethodName)) hown (mvT hZ (hw _ (List.mem_of_getElem? (i := 3) rfl))) (mvT hZ (hw _ (List.mem_of_getElem? (i := 4) rfl))) (mvT hZ (hw _ (List.mem_of_getElem? (i := 5) rfl))) (mvT hZ (hw _ (List.mem_of_getElem? (i := 6) rfl))) (by decide) (backOf (W := 0) (rm1 l Z a0 hw [] v b (Int32.ofNat a)  h2 n0 Zn k2 (fun _ => 0) a ha rfl gb F0) hZ (hw _ (List.mem_of_getElem? (i := 6) rfl)) (hw _ (List.mem_of_getElem? (i := 5) rfl)) (by decide) (by decide)) (g := (mkF m 81 #[.val (.long q1), .second, .val (.int p2), .val (.int p3), .val (.int mo), .val (.long v), .second, .val (.int (Int32.ofNat a)), .val (.ref b), .unset] [(.int (Int32.ofNat a)), (.ref b), (.long v)])) rfl (by rw [hml]; rfl) (argsL := [(.long v), (.ref b), (.int (Int32.ofNat a))]) (rest := []) (lenOf pd_0 rfl) rfl (by show 2 * 0 + _ ≤ _; exact Nat.le_of_eq rfl) (hb hby at_81) (fun _ _ => ⟨rfl, e2, (by decide : 1 + 0 ≤ _), (by decide : 30 + 0 ≤ _)⟩)
      dsimp only [Pt.U, Pt.locs, Pt.cells, Pt.slots] at X3 l3 y3 z3 st3 hQ3
      subst l3 y3 z3
      obtain ⟨g, sg, L, rfl, N3q, zw, Bw, hD⟩ := hQ3
      have N3 := Fr.app N0 N3q
      have Zw := Nat.le_trans Zn zw
      obtain ⟨hD1, hD2, hL, hdig, hout⟩ := id hD
      have hL19 := own_dl_19 hL (own_abs_lt v)
      have hL1 := hL.1
      have hs1 : sg ≤ 1 := by
        by_cases q : v < (0 : Int64)
        · have := (hD1 q).1; omega
        · have := hD2 q; omega
      have ha30 : a < 30 := by omega
      have he30 : a + sg + L < 30 := by omega
      obtain ⟨cl4, Ar4, qq4, S4, Nn4, Hh4, Gg4⟩ := id Bw
      have hin4 : ¬ ((Int32.ofNat (a - 1)) < 0 ∨ cl4.slots.size ≤ ((Int32.ofNat (a - 1))).toNatClampNeg) := inb_of S4 (own_nat30 (a - 1) ham).1
      obtain ⟨cl5, Ar5, qq5, S5, Nn5, Hh5, Gg5⟩ := id Bw
      have hin5 : ¬ ((Int32.ofNat (a + sg + L)) < 0 ∨ cl5.slots.size ≤ ((Int32.ofNat (a + sg + L))).toNatClampNeg) := inb_of S5 (own_nat30 (a + sg + L) he30).1
      obtain ⟨cl6, Ar6, qq6, S6, Nn6, Hh6, Gg6⟩ := id Bw
      have hin6 : ¬ ((Int32.ofNat a) < 0 ∨ cl6.slots.size ≤ ((Int32.ofNat a)).toNatClampNeg) := inb_of S6 (own_nat30 a ha30).1
      obtain ⟨_, _, ⟨T7, L7, k7, n7⟩, -, X7, ⟨Lc7, hQ7, l7, y7, z7⟩, st7⟩ := Jvm.LawKit.callS X3 hx (y := (⟨"com/example/bulkwire/bulkwire/resp/Decimal", "parse", "([BII)J"⟩ : MethodName)) hown (mvT hZ (hw _ (List.mem_of_getElem? (i := 9) rfl))) (mvT hZ (hw _ (List.mem_of_getElem? (i := 10) rfl))) (mvT hZ (hw _ (List.mem_of_getElem? (i := 5) rfl))) (mvT hZ (hw _ (List.mem_of_getElem? (i := 11) rfl))) (by decide) (backOf (W := 0) (rm2 l Z a0 hw [] b (Int32.ofNat a) (Int32.ofNat (a + sg + L))  T3.heap n0 Zw k2 (fun _ => 0) g v a sg L ha rfl rfl Bw hD) hZ (hw _ (List.mem_of_getElem? (i := 11) rfl)) (hw _ (List.mem_of_getElem? (i := 5) rfl)) (by decide) (by decide)) (g := (mkF m 170 #[.val (.long q1), .second, .val (.int p2), .val (.int p3), .val (.int mo), .val (.long v), .second, .val (.int (Int32.ofNat a)), .val (.ref b), .val (.int (Int32.ofNat (a + sg + L)))] [(.int (Int32.ofNat (a + sg + L))), (.int (Int32.ofNat a)), (.ref b)])) rfl (by rw [hml]; rfl) (argsL := [(.ref b), (.int (Int32.ofNat a)), (.int (Int32.ofNat (a + sg + L)))]) (rest := []) (lenOf pd_1 rfl) rfl (by show 2 * 0 + _ ≤ _; exact Nat.le_of_eq rfl) (hb hby at_170) (fun _ _ => ⟨rfl, rfl, (by decide : 1 + 0 ≤ _), (by decide : 30 + 0 ≤ _)⟩)
      dsimp only [Pt.U, Pt.locs, Pt.cells, Pt.slots] at X7 l7 y7 z7 st7 hQ7
      subst l7 y7 z7
      obtain ⟨rfl, N7q, e7⟩ := hQ7
      have N7 := Fr.app N3 N7q
      obtain ⟨fs, hr, hrun, hended, hW, hsame⟩ := X7.leave (v := some (.int (1 : Int32))) (fun h => by rw [Bd.returns] at h; cases h)
      refine ⟨_, _, pre0 _ ?_, hrun, hended, _, _, rfl, ?_, ⟨_, rfl⟩, hW, hsame.mono (by decide) (by decide)⟩
      · show Steps p.tables e below (s₁.setTop (mkF m 0 #[.val (.long q1), .second, .val (.int p2), .val (.int p3), .unset, .unset, .unset, .unset, .unset, .unset] [])) _
        refine k1 _ ?_
        show Steps p.tables e below (s₁.setTop (mkF m 63 #[.val (.long q1), .second, .val (.int p2), .val (.int p3), .val (.int mo), .val (.long v), .second, .unset, .unset, .unset] [])) _
        refine XS.iloadN X0.here hx rfl (hb hby at_63) rfl ?_
        show Steps p.tables e below (s₁.setTop (mkF m 64 #[.val (.long q1), .second, .val (.int p2), .val (.int p3), .val (.int mo), .val (.long v), .second, .unset, .unset, .unset] [(.int p3)])) _
        refine XS.bipush X0.here hx rfl (hb hby at_64) ?_
        show Steps p.tables e below (s₁.setTop (mkF m 66 #[.val (.long q1), .second, .val (.int p2), .val (.int p3), .val (.int mo), .val (.long v), .second, .unset, .unset, .unset] [(.int (7 : Int32)), (.int p3)])) _
        refine XS.iand X0.here hx rfl (hb hby at_66) rfl ?_
        show Steps p.tables e below (s₁.setTop (mkF m 67 #[.val (.long q1), .second, .val (.int p2), .val (.int p3), .val (.int mo), .val (.long v), .second, .unset, .unset, .unset] [(.int (p3 &&& (7 : Int32)))])) _
        refine XS.istore X0.here hx rfl (hb hby at_67) rfl (l' := #[.val (.long q1), .second, .val (.int p2), .val (.int p3), .val (.int mo), .val (.long v), .second, .val (.int (p3 &&& (7 : Int32))), .unset, .unset]) rfl ?_
        show Steps p.tables e below (s₁.setTop (mkF m 69 #[.val (.long q1), .second, .val (.int p2), .val (.int p3), .val (.int mo), .val (.long v), .second, .val (.int (p3 &&& (7 : Int32))), .unset, .unset] [])) _
        rw [hat]
        show Steps p.tables e below (s₁.setTop (mkF m 69 #[.val (.long q1), .second, .val (.int p2), .val (.int p3), .val (.int mo), .val (.long v), .second, .val (.int (Int32.ofNat a)), .unset, .unset] [])) _
        refine XS.bipush X0.here hx rfl (hb hby at_69) ?_
        show Steps p.tables e below (s₁.setTop (mkF m 71 #[.val (.long q1), .second, .val (.int p2), .val (.int p3), .val (.int mo), .val (.long v), .second, .val (.int (Int32.ofNat a)), .unset, .unset] [(.int (30 : Int32))])) _
        refine st2 _ ?_
        show Steps p.tables e below (T2.setTop (mkF m 73 #[.val (.long q1), .second, .val (.int p2), .val (.int p3), .val (.int mo), .val (.long v), .second, .val (.int (Int32.ofNat a)), .unset, .unset] [(.ref b)])) _
        refine XS.astore X2.here hx rfl (hb hby at_73) rfl rfl (l' := #[.val (.long q1), .second, .val (.int p2), .val (.int p3), .val (.int mo), .val (.long v), .second, .val (.int (Int32.ofNat a)), .val (.ref b), .unset]) rfl ?_
        show Steps p.tables e below (T2.setTop (mkF m 75 #[.val (.long q1), .second, .val (.int p2), .val (.int p3), .val (.int mo), .val (.long v), .second, .val (.int (Int32.ofNat a)), .val (.ref b), .unset] [])) _
        refine XS.lload X2.here hx rfl (hb hby at_75) rfl ?_
        show Steps p.tables e below (T2.setTop (mkF m 77 #[.val (.long q1), .second, .val (.int p2), .val (.int p3), .val (.int mo), .val (.long v), .second, .val (.int (Int32.ofNat a)), .val (.ref b), .unset] [(.long v)])) _
        refine XS.aload X2.here hx rfl (hb hby at_77) rfl rfl ?_
        show Steps p.tables e below (T2.setTop (mkF m 79 #[.val (.long q1), .second, .val (.int p2), .val (.int p3), .val (.int mo), .val (.long v), .second, .val (.int (Int32.ofNat a)), .val (.ref b), .unset] [(.ref b), (.long v)])) _
        refine XS.iload X2.here hx rfl (hb hby at_79) rfl ?_
        show Steps p.tables e below (T2.setTop (mkF m 81 #[.val (.long q1), .second, .val (.int p2), .val (.int p3), .val (.int mo), .val (.long v), .second, .val (.int (Int32.ofNat a)), .val (.ref b), .unset] [(.int (Int32.ofNat a)), (.ref b), (.long v)])) _
        refine st3 _ ?_
        show Steps p.tables e below (T3.setTop (mkF m 84 #[.val (.long q1), .second, .val (.int p2), .val (.int p3), .val (.int mo), .val (.long v), .second, .val (.int (Int32.ofNat a)), .val (.ref b), .unset] [(.int (Int32.ofNat (a + sg + L)))])) _
        refine XS.istore X3.here hx rfl (hb hby at_84) rfl (l' := #[.val (.long q1), .second, .val (.int p2), .val (.int p3), .val (.int mo), .val (.long v), .second, .val (.int (Int32.ofNat a)), .val (.ref b), .val (.int (Int32.ofNat (a + sg + L)))]) rfl ?_
        show Steps p.tables e below (T3.setTop (mkF m 86 #[.val (.long q1), .second, .val (.int p2), .val (.int p3), .val (.int mo), .val (.long v), .second, .val (.int (Int32.ofNat a)), .val (.ref b), .val (.int (Int32.ofNat (a + sg + L)))] [])) _
        refine XS.iload X3.here hx rfl (hb hby at_86) rfl ?_
        show Steps p.tables e below (T3.setTop (mkF m 88 #[.val (.long q1), .second, .val (.int p2), .val (.int p3), .val (.int mo), .val (.long v), .second, .val (.int (Int32.ofNat a)), .val (.ref b), .val (.int (Int32.ofNat (a + sg + L)))] [(.int (Int32.ofNat (a + sg + L)))])) _
        refine XS.iload X3.here hx rfl (hb hby at_88) rfl ?_
        show Steps p.tables e below (T3.setTop (mkF m 90 #[.val (.long q1), .second, .val (.int p2), .val (.int p3), .val (.int mo), .val (.long v), .second, .val (.int (Int32.ofNat a)), .val (.ref b), .val (.int (Int32.ofNat (a + sg + L)))] [(.int (Int32.ofNat a)), (.int (Int32.ofNat (a + sg + L)))])) _
        refine XS.icmpNo X3.here hx rfl (hb hby at_90) rfl (tlt ((own_lt30 ha30 he30).mpr (by omega))).2.2.2 ?_
        show Steps p.tables e below (T3.setTop (mkF m 93 #[.val (.long q1), .second, .val (.int p2), .val (.int p3), .val (.int mo), .val (.long v), .second, .val (.int (Int32.ofNat a)), .val (.ref b), .val (.int (Int32.ofNat (a + sg + L)))] [])) _
        refine XS.iload X3.here hx rfl (hb hby at_93) rfl ?_
        show Steps p.tables e below (T3.setTop (mkF m 95 #[.val (.long q1), .second, .val (.int p2), .val (.int p3), .val (.int mo), .val (.long v), .second, .val (.int (Int32.ofNat a)), .val (.ref b), .val (.int (Int32.ofNat (a + sg + L)))] [(.int (Int32.ofNat (a + sg + L)))])) _
        refine XS.iload X3.here hx rfl (hb hby at_95) rfl ?_
        show Steps p.tables e below (T3.setTop (mkF m 97 #[.val (.long q1), .second, .val (.int p2), .val (.int p3), .val (.int mo), .val (.long v), .second, .val (.int (Int32.ofNat a)), .val (.ref b), .val (.int (Int32.ofNat (a + sg + L)))] [(.int (Int32.ofNat a)), (.int (Int32.ofNat (a + sg + L)))])) _
        refine XS.isub X3.here hx rfl (hb hby at_97) rfl ?_
        show Steps p.tables e below (T3.setTop (mkF m 98 #[.val (.long q1), .second, .val (.int p2), .val (.int p3), .val (.int mo), .val (.long v), .second, .val (.int (Int32.ofNat a)), .val (.ref b), .val (.int (Int32.ofNat (a + sg + L)))] [(.int ((Int32.ofNat (a + sg + L)) - (Int32.ofNat a)))])) _
        refine XS.bipush X3.here hx rfl (hb hby at_98) ?_
        show Steps p.tables e below (T3.setTop (mkF m 100 #[.val (.long q1), .second, .val (.int p2), .val (.int p3), .val (.int mo), .val (.long v), .second, .val (.int (Int32.ofNat a)), .val (.ref b), .val (.int (Int32.ofNat (a + sg + L)))] [(.int (20 : Int32)), (.int ((Int32.ofNat (a + sg + L)) - (Int32.ofNat a)))])) _
        refine XS.icmpYes X3.here hx rfl (pc0 := 100) (pc' := 105) rfl (hb hby at_100) rfl (flt (own_end ha he30 (by omega))).2.2.2 (by decide) (by decide) ?_
        show Steps p.tables e below (T3.setTop (mkF m 105 #[.val (.long q1), .second, .val (.int p2), .val (.int p3), .val (.int mo), .val (.long v), .second, .val (.int (Int32.ofNat a)), .val (.ref b), .val (.int (Int32.ofNat (a + sg + L)))] [])) _
        refine XS.iload X3.here hx rfl (hb hby at_105) rfl ?_
        show Steps p.tables e below (T3.setTop (mkF m 107 #[.val (.long q1), .second, .val (.int p2), .val (.int p3), .val (.int mo), .val (.long v), .second, .val (.int (Int32.ofNat a)), .val (.ref b), .val (.int (Int32.ofNat (a + sg + L)))] [(.int (Int32.ofNat a))])) _
        refine XS.ifNo X3.here hx rfl (hb hby at_107) rfl ((if0 _ _).trans (tlt (hpos')).2.2.2) ?_
        show Steps p.tables e below (T3.setTop (mkF m 110 #[.val (.long q1), .second, .val (.int p2), .val (.int p3), .val (.int mo), .val (.long v), .second, .val (.int (Int32.ofNat a)), .val (.ref b), .val (.int (Int32.ofNat (a + sg + L)))] [])) _
        refine XS.aload X3.here hx rfl (hb hby at_110) rfl rfl ?_
        show Steps p.tables e below (T3.setTop (mkF m 112 #[.val (.long q1), .second, .val (.int p2), .val (.int p3), .val (.int mo), .val (.long v), .second, .val (.int (Int32.ofNat a)), .val (.ref b), .val (.int (Int32.ofNat (a + sg + L)))] [(.ref b)])) _
        refine XS.iload X3.here hx rfl (hb hby at_112) rfl ?_
        show Steps p.tables e below (T3.setTop (mkF m 114 #[.val (.long q1), .second, .val (.int p2), .val (.int p3), .val (.int mo), .val (.long v), .second, .val (.int (Int32.ofNat a)), .val (.ref b), .val (.int (Int32.ofNat (a + sg + L)))] [(.int (Int32.ofNat a)), (.ref b)])) _
        refine XS.iconst X3.here hx rfl (hb hby at_114) ?_
        show Steps p.tables e below (T3.setTop (mkF m 115 #[.val (.long q1), .second, .val (.int p2), .val (.int p3), .val (.int mo), .val (.long v), .second, .val (.int (Int32.ofNat a)), .val (.ref b), .val (.int (Int32.ofNat (a + sg + L)))] [(.int (1 : Int32)), (.int (Int32.ofNat a)), (.ref b)])) _
        refine XS.isub X3.here hx rfl (hb hby at_115) rfl ?_
        show Steps p.tables e below (T3.setTop (mkF m 116 #[.val (.long q1), .second, .val (.int p2), .val (.int p3), .val (.int mo), .val (.long v), .second, .val (.int (Int32.ofNat a)), .val (.ref b), .val (.int (Int32.ofNat (a + sg + L)))] [(.int ((Int32.ofNat a) - (1 : Int32))), (.ref b)])) _
        rw [own_dec30 hpos]
        show Steps p.tables e below (T3.setTop (mkF m 116 #[.val (.long q1), .second, .val (.int p2), .val (.int p3), .val (.int mo), .val (.long v), .second, .val (.int (Int32.ofNat a)), .val (.ref b), .val (.int (Int32.ofNat (a + sg + L)))] [(.int (Int32.ofNat (a - 1))), (.ref b)])) _
        refine X3.baloadBytes hx (j := (Int32.ofNat (a - 1))) (v := (.int (g (a - 1)))) Ar4.1 (State.isArrayOf_alike hZ.alike Ar4.2.1) Ar4.2.2 hin4 (Has.at Hh4 hin4 (own_vs_get g ham)) (g := (mkF m 116 #[.val (.long q1), .second, .val (.int p2), .val (.int p3), .val (.int mo), .val (.long v), .second, .val (.int (Int32.ofNat a)), .val (.ref b), .val (.int (Int32.ofNat (a + sg + L)))] [(.int (Int32.ofNat (a - 1))), (.ref b)])) rfl rfl (hb hby at_116) _ ?_
        show Steps p.tables e below (T3.setTop (mkF m 117 #[.val (.long q1), .second, .val (.int p2), .val (.int p3), .val (.int mo), .val (.long v), .second, .val (.int (Int32.ofNat a)), .val (.ref b), .val (.int (Int32.ofNat (a + sg + L)))] [(.int (g (a - 1)))])) _
        refine XS.ifYes X3.here hx rfl (pc0 := 117) (pc' := 122) rfl (hb hby at_117) rfl ((if0 _ _).trans (teq (hout (a - 1) (Or.inl (by omega)))).1) (by decide) (by decide) ?_
        show Steps p.tables e below (T3.setTop (mkF m 122 #[.val (.long q1), .second, .val (.int p2), .val (.int p3), .val (.int mo), .val (.long v), .second, .val (.int (Int32.ofNat a)), .val (.ref b), .val (.int (Int32.ofNat (a + sg + L)))] [])) _
        refine XS.aload X3.here hx rfl (hb hby at_122) rfl rfl ?_
        show Steps p.tables e below (T3.setTop (mkF m 124 #[.val (.long q1), .second, .val (.int p2), .val (.int p3), .val (.int mo), .val (.long v), .second, .val (.int (Int32.ofNat a)), .val (.ref b), .val (.int (Int32.ofNat (a + sg + L)))] [(.ref b)])) _
        refine XS.iload X3.here hx rfl (hb hby at_124) rfl ?_
        show Steps p.tables e below (T3.setTop (mkF m 126 #[.val (.long q1), .second, .val (.int p2), .val (.int p3), .val (.int mo), .val (.long v), .second, .val (.int (Int32.ofNat a)), .val (.ref b), .val (.int (Int32.ofNat (a + sg + L)))] [(.int (Int32.ofNat (a + sg + L))), (.ref b)])) _
        refine X3.baloadBytes hx (j := (Int32.ofNat (a + sg + L))) (v := (.int (g (a + sg + L)))) Ar5.1 (State.isArrayOf_alike hZ.alike Ar5.2.1) Ar5.2.2 hin5 (Has.at Hh5 hin5 (own_vs_get g he30)) (g := (mkF m 126 #[.val (.long q1), .second, .val (.int p2), .val (.int p3), .val (.int mo), .val (.long v), .second, .val (.int (Int32.ofNat a)), .val (.ref b), .val (.int (Int32.ofNat (a + sg + L)))] [(.int (Int32.ofNat (a + sg + L))), (.ref b)])) rfl rfl (hb hby at_126) _ ?_
        show Steps p.tables e below (T3.setTop (mkF m 127 #[.val (.long q1), .second, .val (.int p2), .val (.int p3), .val (.int mo), .val (.long v), .second, .val (.int (Int32.ofNat a)), .val (.ref b), .val (.int (Int32.ofNat (a + sg + L)))] [(.int (g (a + sg + L)))])) _
        refine XS.ifYes X3.here hx rfl (pc0 := 127) (pc' := 132) rfl (hb hby at_127) rfl ((if0 _ _).trans (teq (hout (a + sg + L) (Or.inr (by omega)))).1) (by decide) (by decide) ?_
        show Steps p.tables e below (T3.setTop (mkF m 132 #[.val (.long q1), .second, .val (.int p2), .val (.int p3), .val (.int mo), .val (.long v), .second, .val (.int (Int32.ofNat a)), .val (.ref b), .val (.int (Int32.ofNat (a + sg + L)))] [])) _
        refine XS.aload X3.here hx rfl (hb hby at_132) rfl rfl ?_
        show Steps p.tables e below (T3.setTop (mkF m 134 #[.val (.long q1), .second, .val (.int p2), .val (.int p3), .val (.int mo), .val (.long v), .second, .val (.int (Int32.ofNat a)), .val (.ref b), .val (.int (Int32.ofNat (a + sg + L)))] [(.ref b)])) _
        refine XS.iload X3.here hx rfl (hb hby at_134) rfl ?_
        show Steps p.tables e below (T3.setTop (mkF m 136 #[.val (.long q1), .second, .val (.int p2), .val (.int p3), .val (.int mo), .val (.long v), .second, .val (.int (Int32.ofNat a)), .val (.ref b), .val (.int (Int32.ofNat (a + sg + L)))] [(.int (Int32.ofNat a)), (.ref b)])) _
        refine X3.baloadBytes hx (j := (Int32.ofNat a)) (v := (.int (g a))) Ar6.1 (State.isArrayOf_alike hZ.alike Ar6.2.1) Ar6.2.2 hin6 (Has.at Hh6 hin6 (own_vs_get g ha30)) (g := (mkF m 136 #[.val (.long q1), .second, .val (.int p2), .val (.int p3), .val (.int mo), .val (.long v), .second, .val (.int (Int32.ofNat a)), .val (.ref b), .val (.int (Int32.ofNat (a + sg + L)))] [(.int (Int32.ofNat a)), (.ref b)])) rfl rfl (hb hby at_136) _ ?_
        show Steps p.tables e below (T3.setTop (mkF m 137 #[.val (.long q1), .second, .val (.int p2), .val (.int p3), .val (.int mo), .val (.long v), .second, .val (.int (Int32.ofNat a)), .val (.ref b), .val (.int (Int32.ofNat (a + sg + L)))] [(.int (g a))])) _
        refine XS.bipush X3.here hx rfl (hb hby at_137) ?_
        show Steps p.tables e below (T3.setTop (mkF m 139 #[.val (.long q1), .second, .val (.int p2), .val (.int p3), .val (.int mo), .val (.long v), .second, .val (.int (Int32.ofNat a)), .val (.ref b), .val (.int (Int32.ofNat (a + sg + L)))] [(.int (45 : Int32)), (.int (g a))])) _
        refine XS.icmpNo X3.here hx rfl (hb hby at_139) rfl (teq ((hD1 hv).2)).2 ?_
        show Steps p.tables e below (T3.setTop (mkF m 142 #[.val (.long q1), .second, .val (.int p2), .val (.int p3), .val (.int mo), .val (.long v), .second, .val (.int (Int32.ofNat a)), .val (.ref b), .val (.int (Int32.ofNat (a + sg + L)))] [])) _
        refine XS.iconst X3.here hx rfl (hb hby at_142) ?_
        show Steps p.tables e below (T3.setTop (mkF m 143 #[.val (.long q1), .second, .val (.int p2), .val (.int p3), .val (.int mo), .val (.long v), .second, .val (.int (Int32.ofNat a)), .val (.ref b), .val (.int (Int32.ofNat (a + sg + L)))] [(.int (1 : Int32))])) _
        refine XS.goto X3.here hx rfl (pc0 := 143) (pc' := 147) rfl (hb hby at_143) (by decide) (by decide) ?_
        show Steps p.tables e below (T3.setTop (mkF m 147 #[.val (.long q1), .second, .val (.int p2), .val (.int p3), .val (.int mo), .val (.long v), .second, .val (.int (Int32.ofNat a)), .val (.ref b), .val (.int (Int32.ofNat (a + sg + L)))] [(.int (1 : Int32))])) _
        refine XS.lload X3.here hx rfl (hb hby at_147) rfl ?_
        show Steps p.tables e below (T3.setTop (mkF m 149 #[.val (.long q1), .second, .val (.int p2), .val (.int p3), .val (.int mo), .val (.long v), .second, .val (.int (Int32.ofNat a)), .val (.ref b), .val (.int (Int32.ofNat (a + sg + L)))] [(.long v), (.int (1 : Int32))])) _
        refine XS.lconst X3.here hx rfl (hb hby at_149) ?_
        show Steps p.tables e below (T3.setTop (mkF m 150 #[.val (.long q1), .second, .val (.int p2), .val (.int p3), .val (.int mo), .val (.long v), .second, .val (.int (Int32.ofNat a)), .val (.ref b), .val (.int (Int32.ofNat (a + sg + L)))] [(.long (0 : Int64)), (.long v), (.int (1 : Int32))])) _
        refine XS.lcmp X3.here hx rfl (hb hby at_150) rfl ?_
        show Steps p.tables e below (T3.setTop (mkF m 151 #[.val (.long q1), .second, .val (.int p2), .val (.int p3), .val (.int mo), .val (.long v), .second, .val (.int (Int32.ofNat a)), .val (.ref b), .val (.int (Int32.ofNat (a + sg + L)))] [(.int (lcmpW v (0 : Int64))), (.int (1 : Int32))])) _
        refine XS.ifNo X3.here hx rfl (hb hby at_151) rfl ((if0 _ _).trans (tlt ((lw_lt _ _).mpr (hv))).2.1) ?_
        show Steps p.tables e below (T3.setTop (mkF m 154 #[.val (.long q1), .second, .val (.int p2), .val (.int p3), .val (.int mo), .val (.long v), .second, .val (.int (Int32.ofNat a)), .val (.ref b), .val (.int (Int32.ofNat (a + sg + L)))] [(.int (1 : Int32))])) _
        refine XS.iconst X3.here hx rfl (hb hby at_154) ?_
        show Steps p.tables e below (T3.setTop (mkF m 155 #[.val (.long q1), .second, .val (.int p2), .val (.int p3), .val (.int mo), .val (.long v), .second, .val (.int (Int32.ofNat a)), .val (.ref b), .val (.int (Int32.ofNat (a + sg + L)))] [(.int (1 : Int32)), (.int (1 : Int32))])) _
        refine XS.goto X3.here hx rfl (pc0 := 155) (pc' := 159) rfl (hb hby at_155) (by decide) (by decide) ?_
        show Steps p.tables e below (T3.setTop (mkF m 159 #[.val (.long q1), .second, .val (.int p2), .val (.int p3), .val (.int mo), .val (.long v), .second, .val (.int (Int32.ofNat a)), .val (.ref b), .val (.int (Int32.ofNat (a + sg + L)))] [(.int (1 : Int32)), (.int (1 : Int32))])) _
        refine XS.icmpYes X3.here hx rfl (pc0 := 159) (pc' := 164) rfl (hb hby at_159) rfl (teq (by decide : (1 : Int32) = (1 : Int32))).1 (by decide) (by decide) ?_
        show Steps p.tables e below (T3.setTop (mkF m 164 #[.val (.long q1), .second, .val (.int p2), .val (.int p3), .val (.int mo), .val (.long v), .second, .val (.int (Int32.ofNat a)), .val (.ref b), .val (.int (Int32.ofNat (a + sg + L)))] [])) _
        refine XS.aload X3.here hx rfl (hb hby at_164) rfl rfl ?_
        show Steps p.tables e below (T3.setTop (mkF m 166 #[.val (.long q1), .second, .val (.int p2), .val (.int p3), .val (.int mo), .val (.long v), .second, .val (.int (Int32.ofNat a)), .val (.ref b), .val (.int (Int32.ofNat (a + sg + L)))] [(.ref b)])) _
        refine XS.iload X3.here hx rfl (hb hby at_166) rfl ?_
        show Steps p.tables e below (T3.setTop (mkF m 168 #[.val (.long q1), .second, .val (.int p2), .val (.int p3), .val (.int mo), .val (.long v), .second, .val (.int (Int32.ofNat a)), .val (.ref b), .val (.int (Int32.ofNat (a + sg + L)))] [(.int (Int32.ofNat a)), (.ref b)])) _
        refine XS.iload X3.here hx rfl (hb hby at_168) rfl ?_
        show Steps p.tables e below (T3.setTop (mkF m 170 #[.val (.long q1), .second, .val (.int p2), .val (.int p3), .val (.int mo), .val (.long v), .second, .val (.int (Int32.ofNat a)), .val (.ref b), .val (.int (Int32.ofNat (a + sg + L)))] [(.int (Int32.ofNat (a + sg + L))), (.int (Int32.ofNat a)), (.ref b)])) _
        refine st7 _ ?_
        show Steps p.tables e below (T7.setTop (mkF m 173 #[.val (.long q1), .second, .val (.int p2), .val (.int p3), .val (.int mo), .val (.long v), .second, .val (.int (Int32.ofNat a)), .val (.ref b), .val (.int (Int32.ofNat (a + sg + L)))] [(.long v)])) _
        refine XS.lload X7.here hx rfl (hb hby at_173) rfl ?_
        show Steps p.tables e below (T7.setTop (mkF m 175 #[.val (.long q1), .second, .val (.int p2), .val (.int p3), .val (.int mo), .val (.long v), .second, .val (.int (Int32.ofNat a)), .val (.ref b), .val (.int (Int32.ofNat (a + sg + L)))] [(.long v), (.long v)])) _
        refine XS.lcmp X7.here hx rfl (hb hby at_175) rfl ?_
        show Steps p.tables e below (T7.setTop (mkF m 176 #[.val (.long q1), .second, .val (.int p2), .val (.int p3), .val (.int mo), .val (.long v), .second, .val (.int (Int32.ofNat a)), .val (.ref b), .val (.int (Int32.ofNat (a + sg + L)))] [(.int (lcmpW v v))])) _
        refine XS.ifNo X7.here hx rfl (hb hby at_176) rfl ((if0 _ _).trans (teq ((lw_eq _ _).mpr (rfl))).2) ?_
        show Steps p.tables e below (T7.setTop (mkF m 179 #[.val (.long q1), .second, .val (.int p2), .val (.int p3), .val (.int mo), .val (.long v), .second, .val (.int (Int32.ofNat a)), .val (.ref b), .val (.int (Int32.ofNat (a + sg + L)))] [])) _
        refine XS.iconst X7.here hx rfl (hb hby at_179) ?_
        show Steps p.tables e below (T7.setTop (mkF m 180 #[.val (.long q1), .second, .val (.int p2), .val (.int p3), .val (.int mo), .val (.long v), .second, .val (.int (Int32.ofNat a)), .val (.ref b), .val (.int (Int32.ofNat (a + sg + L)))] [(.int (1 : Int32))])) _
        refine XS.goto X7.here hx rfl (pc0 := 180) (pc' := 184) rfl (hb hby at_180) (by decide) (by decide) ?_
        show Steps p.tables e below (T7.setTop (mkF m 184 #[.val (.long q1), .second, .val (.int p2), .val (.int p3), .val (.int mo), .val (.long v), .second, .val (.int (Int32.ofNat a)), .val (.ref b), .val (.int (Int32.ofNat (a + sg + L)))] [(.int (1 : Int32))])) _
        exact retN X7 hx (t := .boolean) Bd.returns (by simp) (hb hby at_184) hr
      · exact ⟨rfl, N7⟩
    · have hpos' : (0 : Int32) < Int32.ofNat a := (own_lt30 (a := 0) (by decide) (by omega)).mpr hpos
      have ham : a - 1 < 30 := by omega
      obtain ⟨T2, h2, k2, X2, e2, E2, A2, st2⟩ := newP X0 hx hZ (hw _ (List.mem_of_getElem? (i := 2) rfl)) e0 (g := (mkF m 71 #[.val (.long q1), .second, .val (.int p2), .val (.int p3), .val (.int mo), .val (.long v), .second, .val (.int (Int32.ofNat a)), .unset, .unset] [(.int (30 : Int32))])) rfl (hb hby at_71) rfl (by decide) (cap := 30) (by decide) (by decide) (by decide) (by decide)
      obtain ⟨b, gq⟩ : ∃ z, z = h0.size := ⟨_, rfl⟩
      rw [← gq] at A2 st2
      have gb : n0 ≤ b := Nat.le_trans Z0 (Nat.le_of_eq gq.symm)
      have F0 : own_buf Z h2 b k2 (fun _ => 0) := (Arv.new A2 (by decide)).pad (pad_rep [] (.int 0) 30)
      have Zn : n0 ≤ h2.size := Nat.le_trans Z0 E2.1
      obtain ⟨_, _, ⟨T3, L3, k3, n3⟩, -, X3, ⟨Lc3, hQ3, l3, y3, z3⟩, st3⟩ := Jvm.LawKit.callS X2 hx (y := (⟨"com/example/bulkwire/bulkwire/resp/Decimal", "write", "(J[BI)I"⟩ : MethodName)) hown (mvT hZ (hw _ (List.mem_of_getElem? (i := 3) rfl))) (mvT hZ (hw _ (List.mem_of_getElem? (i := 4) rfl))) (mvT hZ (hw _ (List.mem_of_getElem? (i := 5) rfl))) (mvT hZ (hw _ (List.mem_of_getElem? (i := 6) rfl))) (by decide) (backOf (W := 0) (rm1 l Z a0 hw [] v b (Int32.ofNat a)  h2 n0 Zn k2 (fun _ => 0) a ha rfl gb F0) hZ (hw _ (List.mem_of_getElem? (i := 6) rfl)) (hw _ (List.mem_of_getElem? (i := 5) rfl)) (by decide) (by decide)) (g := (mkF m 81 #[.val (.long q1), .second, .val (.int p2), .val (.int p3), .val (.int mo), .val (.long v), .second, .val (.int (Int32.ofNat a)), .val (.ref b), .unset] [(.int (Int32.ofNat a)), (.ref b), (.long v)])) rfl (by rw [hml]; rfl) (argsL := [(.long v), (.ref b), (.int (Int32.ofNat a))]) (rest := []) (lenOf pd_0 rfl) rfl (by show 2 * 0 + _ ≤ _; exact Nat.le_of_eq rfl) (hb hby at_81) (fun _ _ => ⟨rfl, e2, (by decide : 1 + 0 ≤ _), (by decide : 30 + 0 ≤ _)⟩)
      dsimp only [Pt.U, Pt.locs, Pt.cells, Pt.slots] at X3 l3 y3 z3 st3 hQ3
      subst l3 y3 z3
      obtain ⟨g, sg, L, rfl, N3q, zw, Bw, hD⟩ := hQ3
      have N3 := Fr.app N0 N3q
      have Zw := Nat.le_trans Zn zw
      obtain ⟨hD1, hD2, hL, hdig, hout⟩ := id hD
      have hL19 := own_dl_19 hL (own_abs_lt v)
      have hL1 := hL.1
      have hs1 : sg ≤ 1 := by
        by_cases q : v < (0 : Int64)
        · have := (hD1 q).1; omega
        · have := hD2 q; omega
      have ha30 : a < 30 := by omega
      have he30 : a + sg + L < 30 := by omega
      have h45 : ¬ (g a) = (45 : Int32) := by have := hdig 0 (by omega); rw [hD2 hv] at this; simp only [Nat.add_zero] at this; rw [this]; exact own_b_ne (own_dg_lt _ _)
      obtain ⟨cl4, Ar4, qq4, S4, Nn4, Hh4, Gg4⟩ := id Bw
      have hin4 : ¬ ((Int32.ofNat (a - 1)) < 0 ∨ cl4.slots.size ≤ ((Int32.ofNat (a - 1))).toNatClampNeg) := inb_of S4 (own_nat30 (a - 1) ham).1
      obtain ⟨cl5, Ar5, qq5, S5, Nn5, Hh5, Gg5⟩ := id Bw
      have hin5 : ¬ ((Int32.ofNat (a + sg + L)) < 0 ∨ cl5.slots.size ≤ ((Int32.ofNat (a + sg + L))).toNatClampNeg) := inb_of S5 (own_nat30 (a + sg + L) he30).1
      obtain ⟨cl6, Ar6, qq6, S6, Nn6, Hh6, Gg6⟩ := id Bw
      have hin6 : ¬ ((Int32.ofNat a) < 0 ∨ cl6.slots.size ≤ ((Int32.ofNat a)).toNatClampNeg) := inb_of S6 (own_nat30 a ha30).1
      obtain ⟨_, _, ⟨T7, L7, k7, n7⟩, -, X7, ⟨Lc7, hQ7, l7, y7, z7⟩, st7⟩ := Jvm.LawKit.callS X3 hx (y := (⟨"com/example/bulkwire/bulkwire/resp/Decimal", "parse", "([BII)J"⟩ : MethodName)) hown (mvT hZ (hw _ (List.mem_of_getElem? (i := 9) rfl))) (mvT hZ (hw _ (List.mem_of_getElem? (i := 10) rfl))) (mvT hZ (hw _ (List.mem_of_getElem? (i := 5) rfl))) (mvT hZ (hw _ (List.mem_of_getElem? (i := 11) rfl))) (by decide) (backOf (W := 0) (rm2 l Z a0 hw [] b (Int32.ofNat a) (Int32.ofNat (a + sg + L))  T3.heap n0 Zw k2 (fun _ => 0) g v a sg L ha rfl rfl Bw hD) hZ (hw _ (List.mem_of_getElem? (i := 11) rfl)) (hw _ (List.mem_of_getElem? (i := 5) rfl)) (by decide) (by decide)) (g := (mkF m 170 #[.val (.long q1), .second, .val (.int p2), .val (.int p3), .val (.int mo), .val (.long v), .second, .val (.int (Int32.ofNat a)), .val (.ref b), .val (.int (Int32.ofNat (a + sg + L)))] [(.int (Int32.ofNat (a + sg + L))), (.int (Int32.ofNat a)), (.ref b)])) rfl (by rw [hml]; rfl) (argsL := [(.ref b), (.int (Int32.ofNat a)), (.int (Int32.ofNat (a + sg + L)))]) (rest := []) (lenOf pd_1 rfl) rfl (by show 2 * 0 + _ ≤ _; exact Nat.le_of_eq rfl) (hb hby at_170) (fun _ _ => ⟨rfl, rfl, (by decide : 1 + 0 ≤ _), (by decide : 30 + 0 ≤ _)⟩)
      dsimp only [Pt.U, Pt.locs, Pt.cells, Pt.slots] at X7 l7 y7 z7 st7 hQ7
      subst l7 y7 z7
      obtain ⟨rfl, N7q, e7⟩ := hQ7
      have N7 := Fr.app N3 N7q
      obtain ⟨fs, hr, hrun, hended, hW, hsame⟩ := X7.leave (v := some (.int (1 : Int32))) (fun h => by rw [Bd.returns] at h; cases h)
      refine ⟨_, _, pre0 _ ?_, hrun, hended, _, _, rfl, ?_, ⟨_, rfl⟩, hW, hsame.mono (by decide) (by decide)⟩
      · show Steps p.tables e below (s₁.setTop (mkF m 0 #[.val (.long q1), .second, .val (.int p2), .val (.int p3), .unset, .unset, .unset, .unset, .unset, .unset] [])) _
        refine k1 _ ?_
        show Steps p.tables e below (s₁.setTop (mkF m 63 #[.val (.long q1), .second, .val (.int p2), .val (.int p3), .val (.int mo), .val (.long v), .second, .unset, .unset, .unset] [])) _
        refine XS.iloadN X0.here hx rfl (hb hby at_63) rfl ?_
        show Steps p.tables e below (s₁.setTop (mkF m 64 #[.val (.long q1), .second, .val (.int p2), .val (.int p3), .val (.int mo), .val (.long v), .second, .unset, .unset, .unset] [(.int p3)])) _
        refine XS.bipush X0.here hx rfl (hb hby at_64) ?_
        show Steps p.tables e below (s₁.setTop (mkF m 66 #[.val (.long q1), .second, .val (.int p2), .val (.int p3), .val (.int mo), .val (.long v), .second, .unset, .unset, .unset] [(.int (7 : Int32)), (.int p3)])) _
        refine XS.iand X0.here hx rfl (hb hby at_66) rfl ?_
        show Steps p.tables e below (s₁.setTop (mkF m 67 #[.val (.long q1), .second, .val (.int p2), .val (.int p3), .val (.int mo), .val (.long v), .second, .unset, .unset, .unset] [(.int (p3 &&& (7 : Int32)))])) _
        refine XS.istore X0.here hx rfl (hb hby at_67) rfl (l' := #[.val (.long q1), .second, .val (.int p2), .val (.int p3), .val (.int mo), .val (.long v), .second, .val (.int (p3 &&& (7 : Int32))), .unset, .unset]) rfl ?_
        show Steps p.tables e below (s₁.setTop (mkF m 69 #[.val (.long q1), .second, .val (.int p2), .val (.int p3), .val (.int mo), .val (.long v), .second, .val (.int (p3 &&& (7 : Int32))), .unset, .unset] [])) _
        rw [hat]
        show Steps p.tables e below (s₁.setTop (mkF m 69 #[.val (.long q1), .second, .val (.int p2), .val (.int p3), .val (.int mo), .val (.long v), .second, .val (.int (Int32.ofNat a)), .unset, .unset] [])) _
        refine XS.bipush X0.here hx rfl (hb hby at_69) ?_
        show Steps p.tables e below (s₁.setTop (mkF m 71 #[.val (.long q1), .second, .val (.int p2), .val (.int p3), .val (.int mo), .val (.long v), .second, .val (.int (Int32.ofNat a)), .unset, .unset] [(.int (30 : Int32))])) _
        refine st2 _ ?_
        show Steps p.tables e below (T2.setTop (mkF m 73 #[.val (.long q1), .second, .val (.int p2), .val (.int p3), .val (.int mo), .val (.long v), .second, .val (.int (Int32.ofNat a)), .unset, .unset] [(.ref b)])) _
        refine XS.astore X2.here hx rfl (hb hby at_73) rfl rfl (l' := #[.val (.long q1), .second, .val (.int p2), .val (.int p3), .val (.int mo), .val (.long v), .second, .val (.int (Int32.ofNat a)), .val (.ref b), .unset]) rfl ?_
        show Steps p.tables e below (T2.setTop (mkF m 75 #[.val (.long q1), .second, .val (.int p2), .val (.int p3), .val (.int mo), .val (.long v), .second, .val (.int (Int32.ofNat a)), .val (.ref b), .unset] [])) _
        refine XS.lload X2.here hx rfl (hb hby at_75) rfl ?_
        show Steps p.tables e below (T2.setTop (mkF m 77 #[.val (.long q1), .second, .val (.int p2), .val (.int p3), .val (.int mo), .val (.long v), .second, .val (.int (Int32.ofNat a)), .val (.ref b), .unset] [(.long v)])) _
        refine XS.aload X2.here hx rfl (hb hby at_77) rfl rfl ?_
        show Steps p.tables e below (T2.setTop (mkF m 79 #[.val (.long q1), .second, .val (.int p2), .val (.int p3), .val (.int mo), .val (.long v), .second, .val (.int (Int32.ofNat a)), .val (.ref b), .unset] [(.ref b), (.long v)])) _
        refine XS.iload X2.here hx rfl (hb hby at_79) rfl ?_
        show Steps p.tables e below (T2.setTop (mkF m 81 #[.val (.long q1), .second, .val (.int p2), .val (.int p3), .val (.int mo), .val (.long v), .second, .val (.int (Int32.ofNat a)), .val (.ref b), .unset] [(.int (Int32.ofNat a)), (.ref b), (.long v)])) _
        refine st3 _ ?_
        show Steps p.tables e below (T3.setTop (mkF m 84 #[.val (.long q1), .second, .val (.int p2), .val (.int p3), .val (.int mo), .val (.long v), .second, .val (.int (Int32.ofNat a)), .val (.ref b), .unset] [(.int (Int32.ofNat (a + sg + L)))])) _
        refine XS.istore X3.here hx rfl (hb hby at_84) rfl (l' := #[.val (.long q1), .second, .val (.int p2), .val (.int p3), .val (.int mo), .val (.long v), .second, .val (.int (Int32.ofNat a)), .val (.ref b), .val (.int (Int32.ofNat (a + sg + L)))]) rfl ?_
        show Steps p.tables e below (T3.setTop (mkF m 86 #[.val (.long q1), .second, .val (.int p2), .val (.int p3), .val (.int mo), .val (.long v), .second, .val (.int (Int32.ofNat a)), .val (.ref b), .val (.int (Int32.ofNat (a + sg + L)))] [])) _
        refine XS.iload X3.here hx rfl (hb hby at_86) rfl ?_
        show Steps p.tables e below (T3.setTop (mkF m 88 #[.val (.long q1), .second, .val (.int p2), .val (.int p3), .val (.int mo), .val (.long v), .second, .val (.int (Int32.ofNat a)), .val (.ref b), .val (.int (Int32.ofNat (a + sg + L)))] [(.int (Int32.ofNat (a + sg + L)))])) _
        refine XS.iload X3.here hx rfl (hb hby at_88) rfl ?_
        show Steps p.tables e below (T3.setTop (mkF m 90 #[.val (.long q1), .second, .val (.int p2), .val (.int p3), .val (.int mo), .val (.long v), .second, .val (.int (Int32.ofNat a)), .val (.ref b), .val (.int (Int32.ofNat (a + sg + L)))] [(.int (Int32.ofNat a)), (.int (Int32.ofNat (a + sg + L)))])) _
        refine XS.icmpNo X3.here hx rfl (hb hby at_90) rfl (tlt ((own_lt30 ha30 he30).mpr (by omega))).2.2.2 ?_
        show Steps p.tables e below (T3.setTop (mkF m 93 #[.val (.long q1), .second, .val (.int p2), .val (.int p3), .val (.int mo), .val (.long v), .second, .val (.int (Int32.ofNat a)), .val (.ref b), .val (.int (Int32.ofNat (a + sg + L)))] [])) _
        refine XS.iload X3.here hx rfl (hb hby at_93) rfl ?_
        show Steps p.tables e below (T3.setTop (mkF m 95 #[.val (.long q1), .second, .val (.int p2), .val (.int p3), .val (.int mo), .val (.long v), .second, .val (.int (Int32.ofNat a)), .val (.ref b), .val (.int (Int32.ofNat (a + sg + L)))] [(.int (Int32.ofNat (a + sg + L)))])) _
        refine XS.iload X3.here hx rfl (hb hby at_95) rfl ?_
        show Steps p.tables e below (T3.setTop (mkF m 97 #[.val (.long q1), .second, .val (.int p2), .val (.int p3), .val (.int mo), .val (.long v), .second, .val (.int (Int32.ofNat a)), .val (.ref b), .val (.int (Int32.ofNat (a + sg + L)))] [(.int (Int32.ofNat a)), (.int (Int32.ofNat (a + sg + L)))])) _
        refine XS.isub X3.here hx rfl (hb hby at_97) rfl ?_
        show Steps p.tables e below (T3.setTop (mkF m 98 #[.val (.long q1), .second, .val (.int p2), .val (.int p3), .val (.int mo), .val (.long v), .second, .val (.int (Int32.ofNat a)), .val (.ref b), .val (.int (Int32.ofNat (a + sg + L)))] [(.int ((Int32.ofNat (a + sg + L)) - (Int32.ofNat a)))])) _
        refine XS.bipush X3.here hx rfl (hb hby at_98) ?_
        show Steps p.tables e below (T3.setTop (mkF m 100 #[.val (.long q1), .second, .val (.int p2), .val (.int p3), .val (.int mo), .val (.long v), .second, .val (.int (Int32.ofNat a)), .val (.ref b), .val (.int (Int32.ofNat (a + sg + L)))] [(.int (20 : Int32)), (.int ((Int32.ofNat (a + sg + L)) - (Int32.ofNat a)))])) _
        refine XS.icmpYes X3.here hx rfl (pc0 := 100) (pc' := 105) rfl (hb hby at_100) rfl (flt (own_end ha he30 (by omega))).2.2.2 (by decide) (by decide) ?_
        show Steps p.tables e below (T3.setTop (mkF m 105 #[.val (.long q1), .second, .val (.int p2), .val (.int p3), .val (.int mo), .val (.long v), .second, .val (.int (Int32.ofNat a)), .val (.ref b), .val (.int (Int32.ofNat (a + sg + L)))] [])) _
        refine XS.iload X3.here hx rfl (hb hby at_105) rfl ?_
        show Steps p.tables e below (T3.setTop (mkF m 107 #[.val (.long q1), .second, .val (.int p2), .val (.int p3), .val (.int mo), .val (.long v), .second, .val (.int (Int32.ofNat a)), .val (.ref b), .val (.int (Int32.ofNat (a + sg + L)))] [(.int (Int32.ofNat a))])) _
        refine XS.ifNo X3.here hx rfl (hb hby at_107) rfl ((if0 _ _).trans (tlt (hpos')).2.2.2) ?_
        show Steps p.tables e below (T3.setTop (mkF m 110 #[.val (.long q1), .second, .val (.int p2), .val (.int p3), .val (.int mo), .val (.long v), .second, .val (.int (Int32.ofNat a)), .val (.ref b), .val (.int (Int32.ofNat (a + sg + L)))] [])) _
        refine XS.aload X3.here hx rfl (hb hby at_110) rfl rfl ?_
        show Steps p.tables e below (T3.setTop (mkF m 112 #[.val (.long q1), .second, .val (.int p2), .val (.int p3), .val (.int mo), .val (.long v), .second, .val (.int (Int32.ofNat a)), .val (.ref b), .val (.int (Int32.ofNat (a + sg + L)))] [(.ref b)])) _
        refine XS.iload X3.here hx rfl (hb hby at_112) rfl ?_
        show Steps p.tables e below (T3.setTop (mkF m 114 #[.val (.long q1), .second, .val (.int p2), .val (.int p3), .val (.int mo), .val (.long v), .second, .val (.int (Int32.ofNat a)), .val (.ref b), .val (.int (Int32.ofNat (a + sg + L)))] [(.int (Int32.ofNat a)), (.ref b)])) _
        refine XS.iconst X3.here hx rfl (hb hby at_114) ?_
        show Steps p.tables e below (T3.setTop (mkF m 115 #[.val (.long q1), .second, .val (.int p2), .val (.int p3), .val (.int mo), .val (.long v), .second, .val (.int (Int32.ofNat a)), .val (.ref b), .val (.int (Int32.ofNat (a + sg + L)))] [(.int (1 : Int32)), (.int (Int32.ofNat a)), (.ref b)])) _
        refine XS.isub X3.here hx rfl (hb hby at_115) rfl ?_
        show Steps p.tables e below (T3.setTop (mkF m 116 #[.val (.long q1), .second, .val (.int p2), .val (.int p3), .val (.int mo), .val (.long v), .second, .val (.int (Int32.ofNat a)), .val (.ref b), .val (.int (Int32.ofNat (a + sg + L)))] [(.int ((Int32.ofNat a) - (1 : Int32))), (.ref b)])) _
        rw [own_dec30 hpos]
        show Steps p.tables e below (T3.setTop (mkF m 116 #[.val (.long q1), .second, .val (.int p2), .val (.int p3), .val (.int mo), .val (.long v), .second, .val (.int (Int32.ofNat a)), .val (.ref b), .val (.int (Int32.ofNat (a + sg + L)))] [(.int (Int32.ofNat (a - 1))), (.ref b)])) _
        refine X3.baloadBytes hx (j := (Int32.ofNat (a - 1))) (v := (.int (g (a - 1)))) Ar4.1 (State.isArrayOf_alike hZ.alike Ar4.2.1) Ar4.2.2 hin4 (Has.at Hh4 hin4 (own_vs_get g ham)) (g := (mkF m 116 #[.val (.long q1), .second, .val (.int p2), .val (.int p3), .val (.int mo), .val (.long v), .second, .val (.int (Int32.ofNat a)), .val (.ref b), .val (.int (Int32.ofNat (a + sg + L)))] [(.int (Int32.ofNat (a - 1))), (.ref b)])) rfl rfl (hb hby at_116) _ ?_
        show Steps p.tables e below (T3.setTop (mkF m 117 #[.val (.long q1), .second, .val (.int p2), .val (.int p3), .val (.int mo), .val (.long v), .second, .val (.int (Int32.ofNat a)), .val (.ref b), .val (.int (Int32.ofNat (a + sg + L)))] [(.int (g (a - 1)))])) _
        refine XS.ifYes X3.here hx rfl (pc0 := 117) (pc' := 122) rfl (hb hby at_117) rfl ((if0 _ _).trans (teq (hout (a - 1) (Or.inl (by omega)))).1) (by decide) (by decide) ?_
        show Steps p.tables e below (T3.setTop (mkF m 122 #[.val (.long q1), .second, .val (.int p2), .val (.int p3), .val (.int mo), .val (.long v), .second, .val (.int (Int32.ofNat a)), .val (.ref b), .val (.int (Int32.ofNat (a + sg + L)))] [])) _
        refine XS.aload X3.here hx rfl (hb hby at_122) rfl rfl ?_
        show Steps p.tables e below (T3.setTop (mkF m 124 #[.val (.long q1), .second, .val (.int p2), .val (.int p3), .val (.int mo), .val (.long v), .second, .val (.int (Int32.ofNat a)), .val (.ref b), .val (.int (Int32.ofNat (a + sg + L)))] [(.ref b)])) _
        refine XS.iload X3.here hx rfl (hb hby at_124) rfl ?_
        show Steps p.tables e below (T3.setTop (mkF m 126 #[.val (.long q1), .second, .val (.int p2), .val (.int p3), .val (.int mo), .val (.long v), .second, .val (.int (Int32.ofNat a)), .val (.ref b), .val (.int (Int32.ofNat (a + sg + L)))] [(.int (Int32.ofNat (a + sg + L))), (.ref b)])) _
        refine X3.baloadBytes hx (j := (Int32.ofNat (a + sg + L))) (v := (.int (g (a + sg + L)))) Ar5.1 (State.isArrayOf_alike hZ.alike Ar5.2.1) Ar5.2.2 hin5 (Has.at Hh5 hin5 (own_vs_get g he30)) (g := (mkF m 126 #[.val (.long q1), .second, .val (.int p2), .val (.int p3), .val (.int mo), .val (.long v), .second, .val (.int (Int32.ofNat a)), .val (.ref b), .val (.int (Int32.ofNat (a + sg + L)))] [(.int (Int32.ofNat (a + sg + L))), (.ref b)])) rfl rfl (hb hby at_126) _ ?_
        show Steps p.tables e below (T3.setTop (mkF m 127 #[.val (.long q1), .second, .val (.int p2), .val (.int p3), .val (.int mo), .val (.long v), .second, .val (.int (Int32.ofNat a)), .val (.ref b), .val (.int (Int32.ofNat (a + sg + L)))] [(.int (g (a + sg + L)))])) _
        refine XS.ifYes X3.here hx rfl (pc0 := 127) (pc' := 132) rfl (hb hby at_127) rfl ((if0 _ _).trans (teq (hout (a + sg + L) (Or.inr (by omega)))).1) (by decide) (by decide) ?_
        show Steps p.tables e below (T3.setTop (mkF m 132 #[.val (.long q1), .second, .val (.int p2), .val (.int p3), .val (.int mo), .val (.long v), .second, .val (.int (Int32.ofNat a)), .val (.ref b), .val (.int (Int32.ofNat (a + sg + L)))] [])) _
        refine XS.aload X3.here hx rfl (hb hby at_132) rfl rfl ?_
        show Steps p.tables e below (T3.setTop (mkF m 134 #[.val (.long q1), .second, .val (.int p2), .val (.int p3), .val (.int mo), .val (.long v), .second, .val (.int (Int32.ofNat a)), .val (.ref b), .val (.int (Int32.ofNat (a + sg + L)))] [(.ref b)])) _
        refine XS.iload X3.here hx rfl (hb hby at_134) rfl ?_
        show Steps p.tables e below (T3.setTop (mkF m 136 #[.val (.long q1), .second, .val (.int p2), .val (.int p3), .val (.int mo), .val (.long v), .second, .val (.int (Int32.ofNat a)), .val (.ref b), .val (.int (Int32.ofNat (a + sg + L)))] [(.int (Int32.ofNat a)), (.ref b)])) _
        refine X3.baloadBytes hx (j := (Int32.ofNat a)) (v := (.int (g a))) Ar6.1 (State.isArrayOf_alike hZ.alike Ar6.2.1) Ar6.2.2 hin6 (Has.at Hh6 hin6 (own_vs_get g ha30)) (g := (mkF m 136 #[.val (.long q1), .second, .val (.int p2), .val (.int p3), .val (.int mo), .val (.long v), .second, .val (.int (Int32.ofNat a)), .val (.ref b), .val (.int (Int32.ofNat (a + sg + L)))] [(.int (Int32.ofNat a)), (.ref b)])) rfl rfl (hb hby at_136) _ ?_
        show Steps p.tables e below (T3.setTop (mkF m 137 #[.val (.long q1), .second, .val (.int p2), .val (.int p3), .val (.int mo), .val (.long v), .second, .val (.int (Int32.ofNat a)), .val (.ref b), .val (.int (Int32.ofNat (a + sg + L)))] [(.int (g a))])) _
        refine XS.bipush X3.here hx rfl (hb hby at_137) ?_
        show Steps p.tables e below (T3.setTop (mkF m 139 #[.val (.long q1), .second, .val (.int p2), .val (.int p3), .val (.int mo), .val (.long v), .second, .val (.int (Int32.ofNat a)), .val (.ref b), .val (.int (Int32.ofNat (a + sg + L)))] [(.int (45 : Int32)), (.int (g a))])) _
        refine XS.icmpYes X3.here hx rfl (pc0 := 139) (pc' := 146) rfl (hb hby at_139) rfl (feq (h45)).2 (by decide) (by decide) ?_
        show Steps p.tables e below (T3.setTop (mkF m 146 #[.val (.long q1), .second, .val (.int p2), .val (.int p3), .val (.int mo), .val (.long v), .second, .val (.int (Int32.ofNat a)), .val (.ref b), .val (.int (Int32.ofNat (a + sg + L)))] [])) _
        refine XS.iconst X3.here hx rfl (hb hby at_146) ?_
        show Steps p.tables e below (T3.setTop (mkF m 147 #[.val (.long q1), .second, .val (.int p2), .val (.int p3), .val (.int mo), .val (.long v), .second, .val (.int (Int32.ofNat a)), .val (.ref b), .val (.int (Int32.ofNat (a + sg + L)))] [(.int (0 : Int32))])) _
        refine XS.lload X3.here hx rfl (hb hby at_147) rfl ?_
        show Steps p.tables e below (T3.setTop (mkF m 149 #[.val (.long q1), .second, .val (.int p2), .val (.int p3), .val (.int mo), .val (.long v), .second, .val (.int (Int32.ofNat a)), .val (.ref b), .val (.int (Int32.ofNat (a + sg + L)))] [(.long v), (.int (0 : Int32))])) _
        refine XS.lconst X3.here hx rfl (hb hby at_149) ?_
        show Steps p.tables e below (T3.setTop (mkF m 150 #[.val (.long q1), .second, .val (.int p2), .val (.int p3), .val (.int mo), .val (.long v), .second, .val (.int (Int32.ofNat a)), .val (.ref b), .val (.int (Int32.ofNat (a + sg + L)))] [(.long (0 : Int64)), (.long v), (.int (0 : Int32))])) _
        refine XS.lcmp X3.here hx rfl (hb hby at_150) rfl ?_
        show Steps p.tables e below (T3.setTop (mkF m 151 #[.val (.long q1), .second, .val (.int p2), .val (.int p3), .val (.int mo), .val (.long v), .second, .val (.int (Int32.ofNat a)), .val (.ref b), .val (.int (Int32.ofNat (a + sg + L)))] [(.int (lcmpW v (0 : Int64))), (.int (0 : Int32))])) _
        refine XS.ifYes X3.here hx rfl (pc0 := 151) (pc' := 158) rfl (hb hby at_151) rfl ((if0 _ _).trans (flt (fun q => (hv) ((lw_lt _ _).mp q))).2.1) (by decide) (by decide) ?_
        show Steps p.tables e below (T3.setTop (mkF m 158 #[.val (.long q1), .second, .val (.int p2), .val (.int p3), .val (.int mo), .val (.long v), .second, .val (.int (Int32.ofNat a)), .val (.ref b), .val (.int (Int32.ofNat (a + sg + L)))] [(.int (0 : Int32))])) _
        refine XS.iconst X3.here hx rfl (hb hby at_158) ?_
        show Steps p.tables e below (T3.setTop (mkF m 159 #[.val (.long q1), .second, .val (.int p2), .val (.int p3), .val (.int mo), .val (.long v), .second, .val (.int (Int32.ofNat a)), .val (.ref b), .val (.int (Int32.ofNat (a + sg + L)))] [(.int (0 : Int32)), (.int (0 : Int32))])) _
        refine XS.icmpYes X3.here hx rfl (pc0 := 159) (pc' := 164) rfl (hb hby at_159) rfl (teq (by decide : (0 : Int32) = (0 : Int32))).1 (by decide) (by decide) ?_
        show Steps p.tables e below (T3.setTop (mkF m 164 #[.val (.long q1), .second, .val (.int p2), .val (.int p3), .val (.int mo), .val (.long v), .second, .val (.int (Int32.ofNat a)), .val (.ref b), .val (.int (Int32.ofNat (a + sg + L)))] [])) _
        refine XS.aload X3.here hx rfl (hb hby at_164) rfl rfl ?_
        show Steps p.tables e below (T3.setTop (mkF m 166 #[.val (.long q1), .second, .val (.int p2), .val (.int p3), .val (.int mo), .val (.long v), .second, .val (.int (Int32.ofNat a)), .val (.ref b), .val (.int (Int32.ofNat (a + sg + L)))] [(.ref b)])) _
        refine XS.iload X3.here hx rfl (hb hby at_166) rfl ?_
        show Steps p.tables e below (T3.setTop (mkF m 168 #[.val (.long q1), .second, .val (.int p2), .val (.int p3), .val (.int mo), .val (.long v), .second, .val (.int (Int32.ofNat a)), .val (.ref b), .val (.int (Int32.ofNat (a + sg + L)))] [(.int (Int32.ofNat a)), (.ref b)])) _
        refine XS.iload X3.here hx rfl (hb hby at_168) rfl ?_
        show Steps p.tables e below (T3.setTop (mkF m 170 #[.val (.long q1), .second, .val (.int p2), .val (.int p3), .val (.int mo), .val (.long v), .second, .val (.int (Int32.ofNat a)), .val (.ref b), .val (.int (Int32.ofNat (a + sg + L)))] [(.int (Int32.ofNat (a + sg + L))), (.int (Int32.ofNat a)), (.ref b)])) _
        refine st7 _ ?_
        show Steps p.tables e below (T7.setTop (mkF m 173 #[.val (.long q1), .second, .val (.int p2), .val (.int p3), .val (.int mo), .val (.long v), .second, .val (.int (Int32.ofNat a)), .val (.ref b), .val (.int (Int32.ofNat (a + sg + L)))] [(.long v)])) _
        refine XS.lload X7.here hx rfl (hb hby at_173) rfl ?_
        show Steps p.tables e below (T7.setTop (mkF m 175 #[.val (.long q1), .second, .val (.int p2), .val (.int p3), .val (.int mo), .val (.long v), .second, .val (.int (Int32.ofNat a)), .val (.ref b), .val (.int (Int32.ofNat (a + sg + L)))] [(.long v), (.long v)])) _
        refine XS.lcmp X7.here hx rfl (hb hby at_175) rfl ?_
        show Steps p.tables e below (T7.setTop (mkF m 176 #[.val (.long q1), .second, .val (.int p2), .val (.int p3), .val (.int mo), .val (.long v), .second, .val (.int (Int32.ofNat a)), .val (.ref b), .val (.int (Int32.ofNat (a + sg + L)))] [(.int (lcmpW v v))])) _
        refine XS.ifNo X7.here hx rfl (hb hby at_176) rfl ((if0 _ _).trans (teq ((lw_eq _ _).mpr (rfl))).2) ?_
        show Steps p.tables e below (T7.setTop (mkF m 179 #[.val (.long q1), .second, .val (.int p2), .val (.int p3), .val (.int mo), .val (.long v), .second, .val (.int (Int32.ofNat a)), .val (.ref b), .val (.int (Int32.ofNat (a + sg + L)))] [])) _
        refine XS.iconst X7.here hx rfl (hb hby at_179) ?_
        show Steps p.tables e below (T7.setTop (mkF m 180 #[.val (.long q1), .second, .val (.int p2), .val (.int p3), .val (.int mo), .val (.long v), .second, .val (.int (Int32.ofNat a)), .val (.ref b), .val (.int (Int32.ofNat (a + sg + L)))] [(.int (1 : Int32))])) _
        refine XS.goto X7.here hx rfl (pc0 := 180) (pc' := 184) rfl (hb hby at_180) (by decide) (by decide) ?_
        show Steps p.tables e below (T7.setTop (mkF m 184 #[.val (.long q1), .second, .val (.int p2), .val (.int p3), .val (.int mo), .val (.long v), .second, .val (.int (Int32.ofNat a)), .val (.ref b), .val (.int (Int32.ofNat (a + sg + L)))] [(.int (1 : Int32))])) _
        exact retN X7 hx (t := .boolean) Bd.returns (by simp) (hb hby at_184) hr
      · exact ⟨rfl, N7⟩
  · by_cases hv : v < (0 : Int64)
    · have hpos' : ¬ (0 : Int32) < Int32.ofNat a := fun q => hpos ((own_lt30 (a := 0) (by decide) (by omega)).mp q)
      obtain ⟨T2, h2, k2, X2, e2, E2, A2, st2⟩ := newP X0 hx hZ (hw _ (List.mem_of_getElem? (i := 2) rfl)) e0 (g := (mkF m 71 #[.val (.long q1), .second, .val (.int p2), .val (.int p3), .val (.int mo), .val (.long v), .second, .val (.int (Int32.ofNat a)), .unset, .unset] [(.int (30 : Int32))])) rfl (hb hby at_71) rfl (by decide) (cap := 30) (by decide) (by decide) (by decide) (by decide)
      obtain ⟨b, gq⟩ : ∃ z, z = h0.size := ⟨_, rfl⟩
      rw [← gq] at A2 st2
      have gb : n0 ≤ b := Nat.le_trans Z0 (Nat.le_of_eq gq.symm)
      have F0 : own_buf Z h2 b k2 (fun _ => 0) := (Arv.new A2 (by decide)).pad (pad_rep [] (.int 0) 30)
      have Zn : n0 ≤ h2.size := Nat.le_trans Z0 E2.1
      obtain ⟨_, _, ⟨T3, L3, k3, n3⟩, -, X3, ⟨Lc3, hQ3, l3, y3, z3⟩, st3⟩ := Jvm.LawKit.callS X2 hx (y := (⟨"com/example/bulkwire/bulkwire/resp/Decimal", "write", "(J[BI)I"⟩ : MethodName)) hown (mvT hZ (hw _ (List.mem_of_getElem? (i := 3) rfl))) (mvT hZ (hw _ (List.mem_of_getElem? (i := 4) rfl))) (mvT hZ (hw _ (List.mem_of_getElem? (i := 5) rfl))) (mvT hZ (hw _ (List.mem_of_getElem? (i := 6) rfl))) (by decide) (backOf (W := 0) (rm1 l Z a0 hw [] v b (Int32.ofNat a)  h2 n0 Zn k2 (fun _ => 0) a ha rfl gb F0) hZ (hw _ (List.mem_of_getElem? (i := 6) rfl)) (hw _ (List.mem_of_getElem? (i := 5) rfl)) (by decide) (by decide)) (g := (mkF m 81 #[.val (.long q1), .second, .val (.int p2), .val (.int p3), .val (.int mo), .val (.long v), .second, .val (.int (Int32.ofNat a)), .val (.ref b), .unset] [(.int (Int32.ofNat a)), (.ref b), (.long v)])) rfl (by rw [hml]; rfl) (argsL := [(.long v), (.ref b), (.int (Int32.ofNat a))]) (rest := []) (lenOf pd_0 rfl) rfl (by show 2 * 0 + _ ≤ _; exact Nat.le_of_eq rfl) (hb hby at_81) (fun _ _ => ⟨rfl, e2, (by decide : 1 + 0 ≤ _), (by decide : 30 + 0 ≤ _)⟩)
      dsimp only [Pt.U, Pt.locs, Pt.cells, Pt.slots] at X3 l3 y3 z3 st3 hQ3
      subst l3 y3 z3
      obtain ⟨g, sg, L, rfl, N3q, zw, Bw, hD⟩ := hQ3
      have N3 := Fr.app N0 N3q
      have Zw := Nat.le_trans Zn zw
      obtain ⟨hD1, hD2, hL, hdig, hout⟩ := id hD
      have hL19 := own_dl_19 hL (own_abs_lt v)
      have hL1 := hL.1
      have hs1 : sg ≤ 1 := by
        by_cases q : v < (0 : Int64)
        · have := (hD1 q).1; omega
        · have := hD2 q; omega
      have ha30 : a < 30 := by omega
      have he30 : a + sg + L < 30 := by omega
      obtain ⟨cl4, Ar4, qq4, S4, Nn4, Hh4, Gg4⟩ := id Bw
      have hin4 : ¬ ((Int32.ofNat (a + sg + L)) < 0 ∨ cl4.slots.size ≤ ((Int32.ofNat (a + sg + L))).toNatClampNeg) := inb_of S4 (own_nat30 (a + sg + L) he30).1
      obtain ⟨cl5, Ar5, qq5, S5, Nn5, Hh5, Gg5⟩ := id Bw
      have hin5 : ¬ ((Int32.ofNat a) < 0 ∨ cl5.slots.size ≤ ((Int32.ofNat a)).toNatClampNeg) := inb_of S5 (own_nat30 a ha30).1
      obtain ⟨_, _, ⟨T6, L6, k6, n6⟩, -, X6, ⟨Lc6, hQ6, l6, y6, z6⟩, st6⟩ := Jvm.LawKit.callS X3 hx (y := (⟨"com/example/bulkwire/bulkwire/resp/Decimal", "parse", "([BII)J"⟩ : MethodName)) hown (mvT hZ (hw _ (List.mem_of_getElem? (i := 9) rfl))) (mvT hZ (hw _ (List.mem_of_getElem? (i := 10) rfl))) (mvT hZ (hw _ (List.mem_of_getElem? (i := 5) rfl))) (mvT hZ (hw _ (List.mem_of_getElem? (i := 11) rfl))) (by decide) (backOf (W := 0) (rm2 l Z a0 hw [] b (Int32.ofNat a) (Int32.ofNat (a + sg + L))  T3.heap n0 Zw k2 (fun _ => 0) g v a sg L ha rfl rfl Bw hD) hZ (hw _ (List.mem_of_getElem? (i := 11) rfl)) (hw _ (List.mem_of_getElem? (i := 5) rfl)) (by decide) (by decide)) (g := (mkF m 170 #[.val (.long q1), .second, .val (.int p2), .val (.int p3), .val (.int mo), .val (.long v), .second, .val (.int (Int32.ofNat a)), .val (.ref b), .val (.int (Int32.ofNat (a + sg + L)))] [(.int (Int32.ofNat (a + sg + L))), (.int (Int32.ofNat a)), (.ref b)])) rfl (by rw [hml]; rfl) (argsL := [(.ref b), (.int (Int32.ofNat a)), (.int (Int32.ofNat (a + sg + L)))]) (rest := []) (lenOf pd_1 rfl) rfl (by show 2 * 0 + _ ≤ _; exact Nat.le_of_eq rfl) (hb hby at_170) (fun _ _ => ⟨rfl, rfl, (by decide : 1 + 0 ≤ _), (by decide : 30 + 0 ≤ _)⟩)
      dsimp only [Pt.U, Pt.locs, Pt.cells, Pt.slots] at X6 l6 y6 z6 st6 hQ6
      subst l6 y6 z6
      obtain ⟨rfl, N6q, e6⟩ := hQ6
      have N6 := Fr.app N3 N6q
      obtain ⟨fs, hr, hrun, hended, hW, hsame⟩ := X6.leave (v := some (.int (1 : Int32))) (fun h => by rw [Bd.returns] at h; cases h)
      refine ⟨_, _, pre0 _ ?_, hrun, hended, _, _, rfl, ?_, ⟨_, rfl⟩, hW, hsame.mono (by decide) (by decide)⟩
      · show Steps p.tables e below (s₁.setTop (mkF m 0 #[.val (.long q1), .second, .val (.int p2), .val (.int p3), .unset, .unset, .unset, .unset, .unset, .unset] [])) _
        refine k1 _ ?_
        show Steps p.tables e below (s₁.setTop (mkF m 63 #[.val (.long q1), .second, .val (.int p2), .val (.int p3), .val (.int mo), .val (.long v), .second, .unset, .unset, .unset] [])) _
        refine XS.iloadN X0.here hx rfl (hb hby at_63) rfl ?_
        show Steps p.tables e below (s₁.setTop (mkF m 64 #[.val (.long q1), .second, .val (.int p2), .val (.int p3), .val (.int mo), .val (.long v), .second, .unset, .unset, .unset] [(.int p3)])) _
        refine XS.bipush X0.here hx rfl (hb hby at_64) ?_
        show Steps p.tables e below (s₁.setTop (mkF m 66 #[.val (.long q1), .second, .val (.int p2), .val (.int p3), .val (.int mo), .val (.long v), .second, .unset, .unset, .unset] [(.int (7 : Int32)), (.int p3)])) _
        refine XS.iand X0.here hx rfl (hb hby at_66) rfl ?_
        show Steps p.tables e below (s₁.setTop (mkF m 67 #[.val (.long q1), .second, .val (.int p2), .val (.int p3), .val (.int mo), .val (.long v), .second, .unset, .unset, .unset] [(.int (p3 &&& (7 : Int32)))])) _
        refine XS.istore X0.here hx rfl (hb hby at_67) rfl (l' := #[.val (.long q1), .second, .val (.int p2), .val (.int p3), .val (.int mo), .val (.long v), .second, .val (.int (p3 &&& (7 : Int32))), .unset, .unset]) rfl ?_
        show Steps p.tables e below (s₁.setTop (mkF m 69 #[.val (.long q1), .second, .val (.int p2), .val (.int p3), .val (.int mo), .val (.long v), .second, .val (.int (p3 &&& (7 : Int32))), .unset, .unset] [])) _
        rw [hat]
        show Steps p.tables e below (s₁.setTop (mkF m 69 #[.val (.long q1), .second, .val (.int p2), .val (.int p3), .val (.int mo), .val (.long v), .second, .val (.int (Int32.ofNat a)), .unset, .unset] [])) _
        refine XS.bipush X0.here hx rfl (hb hby at_69) ?_
        show Steps p.tables e below (s₁.setTop (mkF m 71 #[.val (.long q1), .second, .val (.int p2), .val (.int p3), .val (.int mo), .val (.long v), .second, .val (.int (Int32.ofNat a)), .unset, .unset] [(.int (30 : Int32))])) _
        refine st2 _ ?_
        show Steps p.tables e below (T2.setTop (mkF m 73 #[.val (.long q1), .second, .val (.int p2), .val (.int p3), .val (.int mo), .val (.long v), .second, .val (.int (Int32.ofNat a)), .unset, .unset] [(.ref b)])) _
        refine XS.astore X2.here hx rfl (hb hby at_73) rfl rfl (l' := #[.val (.long q1), .second, .val (.int p2), .val (.int p3), .val (.int mo), .val (.long v), .second, .val (.int (Int32.ofNat a)), .val (.ref b), .unset]) rfl ?_
        show Steps p.tables e below (T2.setTop (mkF m 75 #[.val (.long q1), .second, .val (.int p2), .val (.int p3), .val (.int mo), .val (.long v), .second, .val (.int (Int32.ofNat a)), .val (.ref b), .unset] [])) _
        refine XS.lload X2.here hx rfl (hb hby at_75) rfl ?_
        show Steps p.tables e below (T2.setTop (mkF m 77 #[.val (.long q1), .second, .val (.int p2), .val (.int p3), .val (.int mo), .val (.long v), .second, .val (.int (Int32.ofNat a)), .val (.ref b), .unset] [(.long v)])) _
        refine XS.aload X2.here hx rfl (hb hby at_77) rfl rfl ?_
        show Steps p.tables e below (T2.setTop (mkF m 79 #[.val (.long q1), .second, .val (.int p2), .val (.int p3), .val (.int mo), .val (.long v), .second, .val (.int (Int32.ofNat a)), .val (.ref b), .unset] [(.ref b), (.long v)])) _
        refine XS.iload X2.here hx rfl (hb hby at_79) rfl ?_
        show Steps p.tables e below (T2.setTop (mkF m 81 #[.val (.long q1), .second, .val (.int p2), .val (.int p3), .val (.int mo), .val (.long v), .second, .val (.int (Int32.ofNat a)), .val (.ref b), .unset] [(.int (Int32.ofNat a)), (.ref b), (.long v)])) _
        refine st3 _ ?_
        show Steps p.tables e below (T3.setTop (mkF m 84 #[.val (.long q1), .second, .val (.int p2), .val (.int p3), .val (.int mo), .val (.long v), .second, .val (.int (Int32.ofNat a)), .val (.ref b), .unset] [(.int (Int32.ofNat (a + sg + L)))])) _
        refine XS.istore X3.here hx rfl (hb hby at_84) rfl (l' := #[.val (.long q1), .second, .val (.int p2), .val (.int p3), .val (.int mo), .val (.long v), .second, .val (.int (Int32.ofNat a)), .val (.ref b), .val (.int (Int32.ofNat (a + sg + L)))]) rfl ?_
        show Steps p.tables e below (T3.setTop (mkF m 86 #[.val (.long q1), .second, .val (.int p2), .val (.int p3), .val (.int mo), .val (.long v), .second, .val (.int (Int32.ofNat a)), .val (.ref b), .val (.int (Int32.ofNat (a + sg + L)))] [])) _
        refine XS.iload X3.here hx rfl (hb hby at_86) rfl ?_
        show Steps p.tables e below (T3.setTop (mkF m 88 #[.val (.long q1), .second, .val (.int p2), .val (.int p3), .val (.int mo), .val (.long v), .second, .val (.int (Int32.ofNat a)), .val (.ref b), .val (.int (Int32.ofNat (a + sg + L)))] [(.int (Int32.ofNat (a + sg + L)))])) _
        refine XS.iload X3.here hx rfl (hb hby at_88) rfl ?_
        show Steps p.tables e below (T3.setTop (mkF m 90 #[.val (.long q1), .second, .val (.int p2), .val (.int p3), .val (.int mo), .val (.long v), .second, .val (.int (Int32.ofNat a)), .val (.ref b), .val (.int (Int32.ofNat (a + sg + L)))] [(.int (Int32.ofNat a)), (.int (Int32.ofNat (a + sg + L)))])) _
        refine XS.icmpNo X3.here hx rfl (hb hby at_90) rfl (tlt ((own_lt30 ha30 he30).mpr (by omega))).2.2.2 ?_
        show Steps p.tables e below (T3.setTop (mkF m 93 #[.val (.long q1), .second, .val (.int p2), .val (.int p3), .val (.int mo), .val (.long v), .second, .val (.int (Int32.ofNat a)), .val (.ref b), .val (.int (Int32.ofNat (a + sg + L)))] [])) _
        refine XS.iload X3.here hx rfl (hb hby at_93) rfl ?_
        show Steps p.tables e below (T3.setTop (mkF m 95 #[.val (.long q1), .second, .val (.int p2), .val (.int p3), .val (.int mo), .val (.long v), .second, .val (.int (Int32.ofNat a)), .val (.ref b), .val (.int (Int32.ofNat (a + sg + L)))] [(.int (Int32.ofNat (a + sg + L)))])) _
        refine XS.iload X3.here hx rfl (hb hby at_95) rfl ?_
        show Steps p.tables e below (T3.setTop (mkF m 97 #[.val (.long q1), .second, .val (.int p2), .val (.int p3), .val (.int mo), .val (.long v), .second, .val (.int (Int32.ofNat a)), .val (.ref b), .val (.int (Int32.ofNat (a + sg + L)))] [(.int (Int32.ofNat a)), (.int (Int32.ofNat (a + sg + L)))])) _
        refine XS.isub X3.here hx rfl (hb hby at_97) rfl ?_
        show Steps p.tables e below (T3.setTop (mkF m 98 #[.val (.long q1), .second, .val (.int p2), .val (.int p3), .val (.int mo), .val (.long v), .second, .val (.int (Int32.ofNat a)), .val (.ref b), .val (.int (Int32.ofNat (a + sg + L)))] [(.int ((Int32.ofNat (a + sg + L)) - (Int32.ofNat a)))])) _
        refine XS.bipush X3.here hx rfl (hb hby at_98) ?_
        show Steps p.tables e below (T3.setTop (mkF m 100 #[.val (.long q1), .second, .val (.int p2), .val (.int p3), .val (.int mo), .val (.long v), .second, .val (.int (Int32.ofNat a)), .val (.ref b), .val (.int (Int32.ofNat (a + sg + L)))] [(.int (20 : Int32)), (.int ((Int32.ofNat (a + sg + L)) - (Int32.ofNat a)))])) _
        refine XS.icmpYes X3.here hx rfl (pc0 := 100) (pc' := 105) rfl (hb hby at_100) rfl (flt (own_end ha he30 (by omega))).2.2.2 (by decide) (by decide) ?_
        show Steps p.tables e below (T3.setTop (mkF m 105 #[.val (.long q1), .second, .val (.int p2), .val (.int p3), .val (.int mo), .val (.long v), .second, .val (.int (Int32.ofNat a)), .val (.ref b), .val (.int (Int32.ofNat (a + sg + L)))] [])) _
        refine XS.iload X3.here hx rfl (hb hby at_105) rfl ?_
        show Steps p.tables e below (T3.setTop (mkF m 107 #[.val (.long q1), .second, .val (.int p2), .val (.int p3), .val (.int mo), .val (.long v), .second, .val (.int (Int32.ofNat a)), .val (.ref b), .val (.int (Int32.ofNat (a + sg + L)))] [(.int (Int32.ofNat a))])) _
        refine XS.ifYes X3.here hx rfl (pc0 := 107) (pc' := 122) rfl (hb hby at_107) rfl ((if0 _ _).trans (flt (hpos')).2.2.2) (by decide) (by decide) ?_
        show Steps p.tables e below (T3.setTop (mkF m 122 #[.val (.long q1), .second, .val (.int p2), .val (.int p3), .val (.int mo), .val (.long v), .second, .val (.int (Int32.ofNat a)), .val (.ref b), .val (.int (Int32.ofNat (a + sg + L)))] [])) _
        refine XS.aload X3.here hx rfl (hb hby at_122) rfl rfl ?_
        show Steps p.tables e below (T3.setTop (mkF m 124 #[.val (.long q1), .second, .val (.int p2), .val (.int p3), .val (.int mo), .val (.long v), .second, .val (.int (Int32.ofNat a)), .val (.ref b), .val (.int (Int32.ofNat (a + sg + L)))] [(.ref b)])) _
        refine XS.iload X3.here hx rfl (hb hby at_124) rfl ?_
        show Steps p.tables e below (T3.setTop (mkF m 126 #[.val (.long q1), .second, .val (.int p2), .val (.int p3), .val (.int mo), .val (.long v), .second, .val (.int (Int32.ofNat a)), .val (.ref b), .val (.int (Int32.ofNat (a + sg + L)))] [(.int (Int32.ofNat (a + sg + L))), (.ref b)])) _
        refine X3.baloadBytes hx (j := (Int32.ofNat (a + sg + L))) (v := (.int (g (a + sg + L)))) Ar4.1 (State.isArrayOf_alike hZ.alike Ar4.2.1) Ar4.2.2 hin4 (Has.at Hh4 hin4 (own_vs_get g he30)) (g := (mkF m 126 #[.val (.long q1), .second, .val (.int p2), .val (.int p3), .val (.int mo), .val (.long v), .second, .val (.int (Int32.ofNat a)), .val (.ref b), .val (.int (Int32.ofNat (a + sg + L)))] [(.int (Int32.ofNat (a + sg + L))), (.ref b)])) rfl rfl (hb hby at_126) _ ?_
        show Steps p.tables e below (T3.setTop (mkF m 127 #[.val (.long q1), .second, .val (.int p2), .val (.int p3), .val (.int mo), .val (.long v), .second, .val (.int (Int32.ofNat a)), .val (.ref b), .val (.int (Int32.ofNat (a + sg + L)))] [(.int (g (a + sg + L)))])) _
        refine XS.ifYes X3.here hx rfl (pc0 := 127) (pc' := 132) rfl (hb hby at_127) rfl ((if0 _ _).trans (teq (hout (a + sg + L) (Or.inr (by omega)))).1) (by decide) (by decide) ?_
        show Steps p.tables e below (T3.setTop (mkF m 132 #[.val (.long q1), .second, .val (.int p2), .val (.int p3), .val (.int mo), .val (.long v), .second, .val (.int (Int32.ofNat a)), .val (.ref b), .val (.int (Int32.ofNat (a + sg + L)))] [])) _
        refine XS.aload X3.here hx rfl (hb hby at_132) rfl rfl ?_
        show Steps p.tables e below (T3.setTop (mkF m 134 #[.val (.long q1), .second, .val (.int p2), .val (.int p3), .val (.int mo), .val (.long v), .second, .val (.int (Int32.ofNat a)), .val (.ref b), .val (.int (Int32.ofNat (a + sg + L)))] [(.ref b)])) _
        refine XS.iload X3.here hx rfl (hb hby at_134) rfl ?_
        show Steps p.tables e below (T3.setTop (mkF m 136 #[.val (.long q1), .second, .val (.int p2), .val (.int p3), .val (.int mo), .val (.long v), .second, .val (.int (Int32.ofNat a)), .val (.ref b), .val (.int (Int32.ofNat (a + sg + L)))] [(.int (Int32.ofNat a)), (.ref b)])) _
        refine X3.baloadBytes hx (j := (Int32.ofNat a)) (v := (.int (g a))) Ar5.1 (State.isArrayOf_alike hZ.alike Ar5.2.1) Ar5.2.2 hin5 (Has.at Hh5 hin5 (own_vs_get g ha30)) (g := (mkF m 136 #[.val (.long q1), .second, .val (.int p2), .val (.int p3), .val (.int mo), .val (.long v), .second, .val (.int (Int32.ofNat a)), .val (.ref b), .val (.int (Int32.ofNat (a + sg + L)))] [(.int (Int32.ofNat a)), (.ref b)])) rfl rfl (hb hby at_136) _ ?_
        show Steps p.tables e below (T3.setTop (mkF m 137 #[.val (.long q1), .second, .val (.int p2), .val (.int p3), .val (.int mo), .val (.long v), .second, .val (.int (Int32.ofNat a)), .val (.ref b), .val (.int (Int32.ofNat (a + sg + L)))] [(.int (g a))])) _
        refine XS.bipush X3.here hx rfl (hb hby at_137) ?_
        show Steps p.tables e below (T3.setTop (mkF m 139 #[.val (.long q1), .second, .val (.int p2), .val (.int p3), .val (.int mo), .val (.long v), .second, .val (.int (Int32.ofNat a)), .val (.ref b), .val (.int (Int32.ofNat (a + sg + L)))] [(.int (45 : Int32)), (.int (g a))])) _
        refine XS.icmpNo X3.here hx rfl (hb hby at_139) rfl (teq ((hD1 hv).2)).2 ?_
        show Steps p.tables e below (T3.setTop (mkF m 142 #[.val (.long q1), .second, .val (.int p2), .val (.int p3), .val (.int mo), .val (.long v), .second, .val (.int (Int32.ofNat a)), .val (.ref b), .val (.int (Int32.ofNat (a + sg + L)))] [])) _
        refine XS.iconst X3.here hx rfl (hb hby at_142) ?_
        show Steps p.tables e below (T3.setTop (mkF m 143 #[.val (.long q1), .second, .val (.int p2), .val (.int p3), .val (.int mo), .val (.long v), .second, .val (.int (Int32.ofNat a)), .val (.ref b), .val (.int (Int32.ofNat (a + sg + L)))] [(.int (1 : Int32))])) _
        refine XS.goto X3.here hx rfl (pc0 := 143) (pc' := 147) rfl (hb hby at_143) (by decide) (by decide) ?_
        show Steps p.tables e below (T3.setTop (mkF m 147 #[.val (.long q1), .second, .val (.int p2), .val (.int p3), .val (.int mo), .val (.long v), .second, .val (.int (Int32.ofNat a)), .val (.ref b), .val (.int (Int32.ofNat (a + sg + L)))] [(.int (1 : Int32))])) _
        refine XS.lload X3.here hx rfl (hb hby at_147) rfl ?_
        show Steps p.tables e below (T3.setTop (mkF m 149 #[.val (.long q1), .second, .val (.int p2), .val (.int p3), .val (.int mo), .val (.long v), .second, .val (.int (Int32.ofNat a)), .val (.ref b), .val (.int (Int32.ofNat (a + sg + L)))] [(.long v), (.int (1 : Int32))])) _
        refine XS.lconst X3.here hx rfl (hb hby at_149) ?_
        show Steps p.tables e below (T3.setTop (mkF m 150 #[.val (.long q1), .second, .val (.int p2), .val (.int p3), .val (.int mo), .val (.long v), .second, .val (.int (Int32.ofNat a)), .val (.ref b), .val (.int (Int32.ofNat (a + sg + L)))] [(.long (0 : Int64)), (.long v), (.int (1 : Int32))])) _
        refine XS.lcmp X3.here hx rfl (hb hby at_150) rfl ?_
        show Steps p.tables e below (T3.setTop (mkF m 151 #[.val (.long q1), .second, .val (.int p2), .val (.int p3), .val (.int mo), .val (.long v), .second, .val (.int (Int32.ofNat a)), .val (.ref b), .val (.int (Int32.ofNat (a + sg + L)))] [(.int (lcmpW v (0 : Int64))), (.int (1 : Int32))])) _
        refine XS.ifNo X3.here hx rfl (hb hby at_151) rfl ((if0 _ _).trans (tlt ((lw_lt _ _).mpr (hv))).2.1) ?_
        show Steps p.tables e below (T3.setTop (mkF m 154 #[.val (.long q1), .second, .val (.int p2), .val (.int p3), .val (.int mo), .val (.long v), .second, .val (.int (Int32.ofNat a)), .val (.ref b), .val (.int (Int32.ofNat (a + sg + L)))] [(.int (1 : Int32))])) _
        refine XS.iconst X3.here hx rfl (hb hby at_154) ?_
        show Steps p.tables e below (T3.setTop (mkF m 155 #[.val (.long q1), .second, .val (.int p2), .val (.int p3), .val (.int mo), .val (.long v), .second, .val (.int (Int32.ofNat a)), .val (.ref b), .val (.int (Int32.ofNat (a + sg + L)))] [(.int (1 : Int32)), (.int (1 : Int32))])) _
        refine XS.goto X3.here hx rfl (pc0 := 155) (pc' := 159) rfl (hb hby at_155) (by decide) (by decide) ?_
        show Steps p.tables e below (T3.setTop (mkF m 159 #[.val (.long q1), .second, .val (.int p2), .val (.int p3), .val (.int mo), .val (.long v), .second, .val (.int (Int32.ofNat a)), .val (.ref b), .val (.int (Int32.ofNat (a + sg + L)))] [(.int (1 : Int32)), (.int (1 : Int32))])) _
        refine XS.icmpYes X3.here hx rfl (pc0 := 159) (pc' := 164) rfl (hb hby at_159) rfl (teq (by decide : (1 : Int32) = (1 : Int32))).1 (by decide) (by decide) ?_
        show Steps p.tables e below (T3.setTop (mkF m 164 #[.val (.long q1), .second, .val (.int p2), .val (.int p3), .val (.int mo), .val (.long v), .second, .val (.int (Int32.ofNat a)), .val (.ref b), .val (.int (Int32.ofNat (a + sg + L)))] [])) _
        refine XS.aload X3.here hx rfl (hb hby at_164) rfl rfl ?_
        show Steps p.tables e below (T3.setTop (mkF m 166 #[.val (.long q1), .second, .val (.int p2), .val (.int p3), .val (.int mo), .val (.long v), .second, .val (.int (Int32.ofNat a)), .val (.ref b), .val (.int (Int32.ofNat (a + sg + L)))] [(.ref b)])) _
        refine XS.iload X3.here hx rfl (hb hby at_166) rfl ?_
        show Steps p.tables e below (T3.setTop (mkF m 168 #[.val (.long q1), .second, .val (.int p2), .val (.int p3), .val (.int mo), .val (.long v), .second, .val (.int (Int32.ofNat a)), .val (.ref b), .val (.int (Int32.ofNat (a + sg + L)))] [(.int (Int32.ofNat a)), (.ref b)])) _
        refine XS.iload X3.here hx rfl (hb hby at_168) rfl ?_
        show Steps p.tables e below (T3.setTop (mkF m 170 #[.val (.long q1), .second, .val (.int p2), .val (.int p3), .val (.int mo), .val (.long v), .second, .val (.int (Int32.ofNat a)), .val (.ref b), .val (.int (Int32.ofNat (a + sg + L)))] [(.int (Int32.ofNat (a + sg + L))), (.int (Int32.ofNat a)), (.ref b)])) _
        refine st6 _ ?_
        show Steps p.tables e below (T6.setTop (mkF m 173 #[.val (.long q1), .second, .val (.int p2), .val (.int p3), .val (.int mo), .val (.long v), .second, .val (.int (Int32.ofNat a)), .val (.ref b), .val (.int (Int32.ofNat (a + sg + L)))] [(.long v)])) _
        refine XS.lload X6.here hx rfl (hb hby at_173) rfl ?_
        show Steps p.tables e below (T6.setTop (mkF m 175 #[.val (.long q1), .second, .val (.int p2), .val (.int p3), .val (.int mo), .val (.long v), .second, .val (.int (Int32.ofNat a)), .val (.ref b), .val (.int (Int32.ofNat (a + sg + L)))] [(.long v), (.long v)])) _
        refine XS.lcmp X6.here hx rfl (hb hby at_175) rfl ?_
        show Steps p.tables e below (T6.setTop (mkF m 176 #[.val (.long q1), .second, .val (.int p2), .val (.int p3), .val (.int mo), .val (.long v), .second, .val (.int (Int32.ofNat a)), .val (.ref b), .val (.int (Int32.ofNat (a + sg + L)))] [(.int (lcmpW v v))])) _
        refine XS.ifNo X6.here hx rfl (hb hby at_176) rfl ((if0 _ _).trans (teq ((lw_eq _ _).mpr (rfl))).2) ?_
        show Steps p.tables e below (T6.setTop (mkF m 179 #[.val (.long q1), .second, .val (.int p2), .val (.int p3), .val (.int mo), .val (.long v), .second, .val (.int (Int32.ofNat a)), .val (.ref b), .val (.int (Int32.ofNat (a + sg + L)))] [])) _
        refine XS.iconst X6.here hx rfl (hb hby at_179) ?_
        show Steps p.tables e below (T6.setTop (mkF m 180 #[.val (.long q1), .second, .val (.int p2), .val (.int p3), .val (.int mo), .val (.long v), .second, .val (.int (Int32.ofNat a)), .val (.ref b), .val (.int (Int32.ofNat (a + sg + L)))] [(.int (1 : Int32))])) _
        refine XS.goto X6.here hx rfl (pc0 := 180) (pc' := 184) rfl (hb hby at_180) (by decide) (by decide) ?_
        show Steps p.tables e below (T6.setTop (mkF m 184 #[.val (.long q1), .second, .val (.int p2), .val (.int p3), .val (.int mo), .val (.long v), .second, .val (.int (Int32.ofNat a)), .val (.ref b), .val (.int (Int32.ofNat (a + sg + L)))] [(.int (1 : Int32))])) _
        exact retN X6 hx (t := .boolean) Bd.returns (by simp) (hb hby at_184) hr
      · exact ⟨rfl, N6⟩
    · have hpos' : ¬ (0 : Int32) < Int32.ofNat a := fun q => hpos ((own_lt30 (a := 0) (by decide) (by omega)).mp q)
      obtain ⟨T2, h2, k2, X2, e2, E2, A2, st2⟩ := newP X0 hx hZ (hw _ (List.mem_of_getElem? (i := 2) rfl)) e0 (g := (mkF m 71 #[.val (.long q1), .second, .val (.int p2), .val (.int p3), .val (.int mo), .val (.long v), .second, .val (.int (Int32.ofNat a)), .unset, .unset] [(.int (30 : Int32))])) rfl (hb hby at_71) rfl (by decide) (cap := 30) (by decide) (by decide) (by decide) (by decide)
      obtain ⟨b, gq⟩ : ∃ z, z = h0.size := ⟨_, rfl⟩
      rw [← gq] at A2 st2
      have gb : n0 ≤ b := Nat.le_trans Z0 (Nat.le_of_eq gq.symm)
      have F0 : own_buf Z h2 b k2 (fun _ => 0) := (Arv.new A2 (by decide)).pad (pad_rep [] (.int 0) 30)
      have Zn : n0 ≤ h2.size := Nat.le_trans Z0 E2.1
      obtain ⟨_, _, ⟨T3, L3, k3, n3⟩, -, X3, ⟨Lc3, hQ3, l3, y3, z3⟩, st3⟩ := Jvm.LawKit.callS X2 hx (y := (⟨"com/example/bulkwire/bulkwire/resp/Decimal", "write", "(J[BI)I"⟩ : MethodName)) hown (mvT hZ (hw _ (List.mem_of_getElem? (i := 3) rfl))) (mvT hZ (hw _ (List.mem_of_getElem? (i := 4) rfl))) (mvT hZ (hw _ (List.mem_of_getElem? (i := 5) rfl))) (mvT hZ (hw _ (List.mem_of_getElem? (i := 6) rfl))) (by decide) (backOf (W := 0) (rm1 l Z a0 hw [] v b (Int32.ofNat a)  h2 n0 Zn k2 (fun _ => 0) a ha rfl gb F0) hZ (hw _ (List.mem_of_getElem? (i := 6) rfl)) (hw _ (List.mem_of_getElem? (i := 5) rfl)) (by decide) (by decide)) (g := (mkF m 81 #[.val (.long q1), .second, .val (.int p2), .val (.int p3), .val (.int mo), .val (.long v), .second, .val (.int (Int32.ofNat a)), .val (.ref b), .unset] [(.int (Int32.ofNat a)), (.ref b), (.long v)])) rfl (by rw [hml]; rfl) (argsL := [(.long v), (.ref b), (.int (Int32.ofNat a))]) (rest := []) (lenOf pd_0 rfl) rfl (by show 2 * 0 + _ ≤ _; exact Nat.le_of_eq rfl) (hb hby at_81) (fun _ _ => ⟨rfl, e2, (by decide : 1 + 0 ≤ _), (by decide : 30 + 0 ≤ _)⟩)
      dsimp only [Pt.U, Pt.locs, Pt.cells, Pt.slots] at X3 l3 y3 z3 st3 hQ3
      subst l3 y3 z3
      obtain ⟨g, sg, L, rfl, N3q, zw, Bw, hD⟩ := hQ3
      have N3 := Fr.app N0 N3q
      have Zw := Nat.le_trans Zn zw
      obtain ⟨hD1, hD2, hL, hdig, hout⟩ := id hD
      have hL19 := own_dl_19 hL (own_abs_lt v)
      have hL1 := hL.1
      have hs1 : sg ≤ 1 := by
        by_cases q : v < (0 : Int64)
        · have := (hD1 q).1; omega
        · have := hD2 q; omega
      have ha30 : a < 30 := by omega
      have he30 : a + sg + L < 30 := by omega
      have h45 : ¬ (g a) = (45 : Int32) := by have := hdig 0 (by omega); rw [hD2 hv] at this; simp only [Nat.add_zero] at this; rw [this]; exact own_b_ne (own_dg_lt _ _)
      obtain ⟨cl4, Ar4, qq4, S4, Nn4, Hh4, Gg4⟩ := id Bw
      have hin4 : ¬ ((Int32.ofNat (a + sg + L)) < 0 ∨ cl4.slots.size ≤ ((Int32.ofNat (a + sg + L))).toNatClampNeg) := inb_of S4 (own_nat30 (a + sg + L) he30).1
      obtain ⟨cl5, Ar5, qq5, S5, Nn5, Hh5, Gg5⟩ := id Bw
      have hin5 : ¬ ((Int32.ofNat a) < 0 ∨ cl5.slots.size ≤ ((Int32.ofNat a)).toNatClampNeg) := inb_of S5 (own_nat30 a ha30).1
      obtain ⟨_, _, ⟨T6, L6, k6, n6⟩, -, X6, ⟨Lc6, hQ6, l6, y6, z6⟩, st6⟩ := Jvm.LawKit.callS X3 hx (y := (⟨"com/example/bulkwire/bulkwire/resp/Decimal", "parse", "([BII)J"⟩ : MethodName)) hown (mvT hZ (hw _ (List.mem_of_getElem? (i := 9) rfl))) (mvT hZ (hw _ (List.mem_of_getElem? (i := 10) rfl))) (mvT hZ (hw _ (List.mem_of_getElem? (i := 5) rfl))) (mvT hZ (hw _ (List.mem_of_getElem? (i := 11) rfl))) (by decide) (backOf (W := 0) (rm2 l Z a0 hw [] b (Int32.ofNat a) (Int32.ofNat (a + sg + L))  T3.heap n0 Zw k2 (fun _ => 0) g v a sg L ha rfl rfl Bw hD) hZ (hw _ (List.mem_of_getElem? (i := 11) rfl)) (hw _ (List.mem_of_getElem? (i := 5) rfl)) (by decide) (by decide)) (g := (mkF m 170 #[.val (.long q1), .second, .val (.int p2), .val (.int p3), .val (.int mo), .val (.long v), .second, .val (.int (Int32.ofNat a)), .val (.ref b), .val (.int (Int32.ofNat (a + sg + L)))] [(.int (Int32.ofNat (a + sg + L))), (.int (Int32.ofNat a)), (.ref b)])) rfl (by rw [hml]; rfl) (argsL := [(.ref b), (.int (Int32.ofNat a)), (.int (Int32.ofNat (a + sg + L)))]) (rest := []) (lenOf pd_1 rfl) rfl (by show 2 * 0 + _ ≤ _; exact Nat.le_of_eq rfl) (hb hby at_170) (fun _ _ => ⟨rfl, rfl, (by decide : 1 + 0 ≤ _), (by decide : 30 + 0 ≤ _)⟩)
      dsimp only [Pt.U, Pt.locs, Pt.cells, Pt.slots] at X6 l6 y6 z6 st6 hQ6
      subst l6 y6 z6
      obtain ⟨rfl, N6q, e6⟩ := hQ6
      have N6 := Fr.app N3 N6q
      obtain ⟨fs, hr, hrun, hended, hW, hsame⟩ := X6.leave (v := some (.int (1 : Int32))) (fun h => by rw [Bd.returns] at h; cases h)
      refine ⟨_, _, pre0 _ ?_, hrun, hended, _, _, rfl, ?_, ⟨_, rfl⟩, hW, hsame.mono (by decide) (by decide)⟩
      · show Steps p.tables e below (s₁.setTop (mkF m 0 #[.val (.long q1), .second, .val (.int p2), .val (.int p3), .unset, .unset, .unset, .unset, .unset, .unset] [])) _
        refine k1 _ ?_
        show Steps p.tables e below (s₁.setTop (mkF m 63 #[.val (.long q1), .second, .val (.int p2), .val (.int p3), .val (.int mo), .val (.long v), .second, .unset, .unset, .unset] [])) _
        refine XS.iloadN X0.here hx rfl (hb hby at_63) rfl ?_
        show Steps p.tables e below (s₁.setTop (mkF m 64 #[.val (.long q1), .second, .val (.int p2), .val (.int p3), .val (.int mo), .val (.long v), .second, .unset, .unset, .unset] [(.int p3)])) _
        refine XS.bipush X0.here hx rfl (hb hby at_64) ?_
        show Steps p.tables e below (s₁.setTop (mkF m 66 #[.val (.long q1), .second, .val (.int p2), .val (.int p3), .val (.int mo), .val (.long v), .second, .unset, .unset, .unset] [(.int (7 : Int32)), (.int p3)])) _
        refine XS.iand X0.here hx rfl (hb hby at_66) rfl ?_
        show Steps p.tables e below (s₁.setTop (mkF m 67 #[.val (.long q1), .second, .val (.int p2), .val (.int p3), .val (.int mo), .val (.long v), .second, .unset, .unset, .unset] [(.int (p3 &&& (7 : Int32)))])) _
        refine XS.istore X0.here hx rfl (hb hby at_67) rfl (l' := #[.val (.long q1), .second, .val (.int p2), .val (.int p3), .val (.int mo), .val (.long v), .second, .val (.int (p3 &&& (7 : Int32))), .unset, .unset]) rfl ?_
        show Steps p.tables e below (s₁.setTop (mkF m 69 #[.val (.long q1), .second, .val (.int p2), .val (.int p3), .val (.int mo), .val (.long v), .second, .val (.int (p3 &&& (7 : Int32))), .unset, .unset] [])) _
        rw [hat]
        show Steps p.tables e below (s₁.setTop (mkF m 69 #[.val (.long q1), .second, .val (.int p2), .val (.int p3), .val (.int mo), .val (.long v), .second, .val (.int (Int32.ofNat a)), .unset, .unset] [])) _
        refine XS.bipush X0.here hx rfl (hb hby at_69) ?_
        show Steps p.tables e below (s₁.setTop (mkF m 71 #[.val (.long q1), .second, .val (.int p2), .val (.int p3), .val (.int mo), .val (.long v), .second, .val (.int (Int32.ofNat a)), .unset, .unset] [(.int (30 : Int32))])) _
        refine st2 _ ?_
        show Steps p.tables e below (T2.setTop (mkF m 73 #[.val (.long q1), .second, .val (.int p2), .val (.int p3), .val (.int mo), .val (.long v), .second, .val (.int (Int32.ofNat a)), .unset, .unset] [(.ref b)])) _
        refine XS.astore X2.here hx rfl (hb hby at_73) rfl rfl (l' := #[.val (.long q1), .second, .val (.int p2), .val (.int p3), .val (.int mo), .val (.long v), .second, .val (.int (Int32.ofNat a)), .val (.ref b), .unset]) rfl ?_
        show Steps p.tables e below (T2.setTop (mkF m 75 #[.val (.long q1), .second, .val (.int p2), .val (.int p3), .val (.int mo), .val (.long v), .second, .val (.int (Int32.ofNat a)), .val (.ref b), .unset] [])) _
        refine XS.lload X2.here hx rfl (hb hby at_75) rfl ?_
        show Steps p.tables e below (T2.setTop (mkF m 77 #[.val (.long q1), .second, .val (.int p2), .val (.int p3), .val (.int mo), .val (.long v), .second, .val (.int (Int32.ofNat a)), .val (.ref b), .unset] [(.long v)])) _
        refine XS.aload X2.here hx rfl (hb hby at_77) rfl rfl ?_
        show Steps p.tables e below (T2.setTop (mkF m 79 #[.val (.long q1), .second, .val (.int p2), .val (.int p3), .val (.int mo), .val (.long v), .second, .val (.int (Int32.ofNat a)), .val (.ref b), .unset] [(.ref b), (.long v)])) _
        refine XS.iload X2.here hx rfl (hb hby at_79) rfl ?_
        show Steps p.tables e below (T2.setTop (mkF m 81 #[.val (.long q1), .second, .val (.int p2), .val (.int p3), .val (.int mo), .val (.long v), .second, .val (.int (Int32.ofNat a)), .val (.ref b), .unset] [(.int (Int32.ofNat a)), (.ref b), (.long v)])) _
        refine st3 _ ?_
        show Steps p.tables e below (T3.setTop (mkF m 84 #[.val (.long q1), .second, .val (.int p2), .val (.int p3), .val (.int mo), .val (.long v), .second, .val (.int (Int32.ofNat a)), .val (.ref b), .unset] [(.int (Int32.ofNat (a + sg + L)))])) _
        refine XS.istore X3.here hx rfl (hb hby at_84) rfl (l' := #[.val (.long q1), .second, .val (.int p2), .val (.int p3), .val (.int mo), .val (.long v), .second, .val (.int (Int32.ofNat a)), .val (.ref b), .val (.int (Int32.ofNat (a + sg + L)))]) rfl ?_
        show Steps p.tables e below (T3.setTop (mkF m 86 #[.val (.long q1), .second, .val (.int p2), .val (.int p3), .val (.int mo), .val (.long v), .second, .val (.int (Int32.ofNat a)), .val (.ref b), .val (.int (Int32.ofNat (a + sg + L)))] [])) _
        refine XS.iload X3.here hx rfl (hb hby at_86) rfl ?_
        show Steps p.tables e below (T3.setTop (mkF m 88 #[.val (.long q1), .second, .val (.int p2), .val (.int p3), .val (.int mo), .val (.long v), .second, .val (.int (Int32.ofNat a)), .val (.ref b), .val (.int (Int32.ofNat (a + sg + L)))] [(.int (Int32.ofNat (a + sg + L)))])) _
        refine XS.iload X3.here hx rfl (hb hby at_88) rfl ?_
        show Steps p.tables e below (T3.setTop (mkF m 90 #[.val (.long q1), .second, .val (.int p2), .val (.int p3), .val (.int mo), .val (.long v), .second, .val (.int (Int32.ofNat a)), .val (.ref b), .val (.int (Int32.ofNat (a + sg + L)))] [(.int (Int32.ofNat a)), (.int (Int32.ofNat (a + sg + L)))])) _
        refine XS.icmpNo X3.here hx rfl (hb hby at_90) rfl (tlt ((own_lt30 ha30 he30).mpr (by omega))).2.2.2 ?_
        show Steps p.tables e below (T3.setTop (mkF m 93 #[.val (.long q1), .second, .val (.int p2), .val (.int p3), .val (.int mo), .val (.long v), .second, .val (.int (Int32.ofNat a)), .val (.ref b), .val (.int (Int32.ofNat (a + sg + L)))] [])) _
        refine XS.iload X3.here hx rfl (hb hby at_93) rfl ?_
        show Steps p.tables e below (T3.setTop (mkF m 95 #[.val (.long q1), .second, .val (.int p2), .val (.int p3), .val (.int mo), .val (.long v), .second, .val (.int (Int32.ofNat a)), .val (.ref b), .val (.int (Int32.ofNat (a + sg + L)))] [(.int (Int32.ofNat (a + sg + L)))])) _
        refine XS.iload X3.here hx rfl (hb hby at_95) rfl ?_
        show Steps p.tables e below (T3.setTop (mkF m 97 #[.val (.long q1), .second, .val (.int p2), .val (.int p3), .val (.int mo), .val (.long v), .second, .val (.int (Int32.ofNat a)), .val (.ref b), .val (.int (Int32.ofNat (a + sg + L)))] [(.int (Int32.ofNat a)), (.int (Int32.ofNat (a + sg + L)))])) _
        refine XS.isub X3.here hx rfl (hb hby at_97) rfl ?_
        show Steps p.tables e below (T3.setTop (mkF m 98 #[.val (.long q1), .second, .val (.int p2), .val (.int p3), .val (.int mo), .val (.long v), .second, .val (.int (Int32.ofNat a)), .val (.ref b), .val (.int (Int32.ofNat (a + sg + L)))] [(.int ((Int32.ofNat (a + sg + L)) - (Int32.ofNat a)))])) _
        refine XS.bipush X3.here hx rfl (hb hby at_98) ?_
        show Steps p.tables e below (T3.setTop (mkF m 100 #[.val (.long q1), .second, .val (.int p2), .val (.int p3), .val (.int mo), .val (.long v), .second, .val (.int (Int32.ofNat a)), .val (.ref b), .val (.int (Int32.ofNat (a + sg + L)))] [(.int (20 : Int32)), (.int ((Int32.ofNat (a + sg + L)) - (Int32.ofNat a)))])) _
        refine XS.icmpYes X3.here hx rfl (pc0 := 100) (pc' := 105) rfl (hb hby at_100) rfl (flt (own_end ha he30 (by omega))).2.2.2 (by decide) (by decide) ?_
        show Steps p.tables e below (T3.setTop (mkF m 105 #[.val (.long q1), .second, .val (.int p2), .val (.int p3), .val (.int mo), .val (.long v), .second, .val (.int (Int32.ofNat a)), .val (.ref b), .val (.int (Int32.ofNat (a + sg + L)))] [])) _
        refine XS.iload X3.here hx rfl (hb hby at_105) rfl ?_
        show Steps p.tables e below (T3.setTop (mkF m 107 #[.val (.long q1), .second, .val (.int p2), .val (.int p3), .val (.int mo), .val (.long v), .second, .val (.int (Int32.ofNat a)), .val (.ref b), .val (.int (Int32.ofNat (a + sg + L)))] [(.int (Int32.ofNat a))])) _
        refine XS.ifYes X3.here hx rfl (pc0 := 107) (pc' := 122) rfl (hb hby at_107) rfl ((if0 _ _).trans (flt (hpos')).2.2.2) (by decide) (by decide) ?_
        show Steps p.tables e below (T3.setTop (mkF m 122 #[.val (.long q1), .second, .val (.int p2), .val (.int p3), .val (.int mo), .val (.long v), .second, .val (.int (Int32.ofNat a)), .val (.ref b), .val (.int (Int32.ofNat (a + sg + L)))] [])) _
        refine XS.aload X3.here hx rfl (hb hby at_122) rfl rfl ?_
        show Steps p.tables e below (T3.setTop (mkF m 124 #[.val (.long q1), .second, .val (.int p2), .val (.int p3), .val (.int mo), .val (.long v), .second, .val (.int (Int32.ofNat a)), .val (.ref b), .val (.int (Int32.ofNat (a + sg + L)))] [(.ref b)])) _
        refine XS.iload X3.here hx rfl (hb hby at_124) rfl ?_
        show Steps p.tables e below (T3.setTop (mkF m 126 #[.val (.long q1), .second, .val (.int p2), .val (.int p3), .val (.int mo), .val (.long v), .second, .val (.int (Int32.ofNat a)), .val (.ref b), .val (.int (Int32.ofNat (a + sg + L)))] [(.int (Int32.ofNat (a + sg + L))), (.ref b)])) _
        refine X3.baloadBytes hx (j := (Int32.ofNat (a + sg + L))) (v := (.int (g (a + sg + L)))) Ar4.1 (State.isArrayOf_alike hZ.alike Ar4.2.1) Ar4.2.2 hin4 (Has.at Hh4 hin4 (own_vs_get g he30)) (g := (mkF m 126 #[.val (.long q1), .second, .val (.int p2), .val (.int p3), .val (.int mo), .val (.long v), .second, .val (.int (Int32.ofNat a)), .val (.ref b), .val (.int (Int32.ofNat (a + sg + L)))] [(.int (Int32.ofNat (a + sg + L))), (.ref b)])) rfl rfl (hb hby at_126) _ ?_
        show Steps p.tables e below (T3.setTop (mkF m 127 #[.val (.long q1), .second, .val (.int p2), .val (.int p3), .val (.int mo), .val (.long v), .second, .val (.int (Int32.ofNat a)), .val (.ref b), .val (.int (Int32.ofNat (a + sg + L)))] [(.int (g (a + sg + L)))])) _
        refine XS.ifYes X3.here hx rfl (pc0 := 127) (pc' := 132) rfl (hb hby at_127) rfl ((if0 _ _).trans (teq (hout (a + sg + L) (Or.inr (by omega)))).1) (by decide) (by decide) ?_
        show Steps p.tables e below (T3.setTop (mkF m 132 #[.val (.long q1), .second, .val (.int p2), .val (.int p3), .val (.int mo), .val (.long v), .second, .val (.int (Int32.ofNat a)), .val (.ref b), .val (.int (Int32.ofNat (a + sg + L)))] [])) _
        refine XS.aload X3.here hx rfl (hb hby at_132) rfl rfl ?_
        show Steps p.tables e below (T3.setTop (mkF m 134 #[.val (.long q1), .second, .val (.int p2), .val (.int p3), .val (.int mo), .val (.long v), .second, .val (.int (Int32.ofNat a)), .val (.ref b), .val (.int (Int32.ofNat (a + sg + L)))] [(.ref b)])) _
        refine XS.iload X3.here hx rfl (hb hby at_134) rfl ?_
        show Steps p.tables e below (T3.setTop (mkF m 136 #[.val (.long q1), .second, .val (.int p2), .val (.int p3), .val (.int mo), .val (.long v), .second, .val (.int (Int32.ofNat a)), .val (.ref b), .val (.int (Int32.ofNat (a + sg + L)))] [(.int (Int32.ofNat a)), (.ref b)])) _
        refine X3.baloadBytes hx (j := (Int32.ofNat a)) (v := (.int (g a))) Ar5.1 (State.isArrayOf_alike hZ.alike Ar5.2.1) Ar5.2.2 hin5 (Has.at Hh5 hin5 (own_vs_get g ha30)) (g := (mkF m 136 #[.val (.long q1), .second, .val (.int p2), .val (.int p3), .val (.int mo), .val (.long v), .second, .val (.int (Int32.ofNat a)), .val (.ref b), .val (.int (Int32.ofNat (a + sg + L)))] [(.int (Int32.ofNat a)), (.ref b)])) rfl rfl (hb hby at_136) _ ?_
        show Steps p.tables e below (T3.setTop (mkF m 137 #[.val (.long q1), .second, .val (.int p2), .val (.int p3), .val (.int mo), .val (.long v), .second, .val (.int (Int32.ofNat a)), .val (.ref b), .val (.int (Int32.ofNat (a + sg + L)))] [(.int (g a))])) _
        refine XS.bipush X3.here hx rfl (hb hby at_137) ?_
        show Steps p.tables e below (T3.setTop (mkF m 139 #[.val (.long q1), .second, .val (.int p2), .val (.int p3), .val (.int mo), .val (.long v), .second, .val (.int (Int32.ofNat a)), .val (.ref b), .val (.int (Int32.ofNat (a + sg + L)))] [(.int (45 : Int32)), (.int (g a))])) _
        refine XS.icmpYes X3.here hx rfl (pc0 := 139) (pc' := 146) rfl (hb hby at_139) rfl (feq (h45)).2 (by decide) (by decide) ?_
        show Steps p.tables e below (T3.setTop (mkF m 146 #[.val (.long q1), .second, .val (.int p2), .val (.int p3), .val (.int mo), .val (.long v), .second, .val (.int (Int32.ofNat a)), .val (.ref b), .val (.int (Int32.ofNat (a + sg + L)))] [])) _
        refine XS.iconst X3.here hx rfl (hb hby at_146) ?_
        show Steps p.tables e below (T3.setTop (mkF m 147 #[.val (.long q1), .second, .val (.int p2), .val (.int p3), .val (.int mo), .val (.long v), .second, .val (.int (Int32.ofNat a)), .val (.ref b), .val (.int (Int32.ofNat (a + sg + L)))] [(.int (0 : Int32))])) _
        refine XS.lload X3.here hx rfl (hb hby at_147) rfl ?_
        show Steps p.tables e below (T3.setTop (mkF m 149 #[.val (.long q1), .second, .val (.int p2), .val (.int p3), .val (.int mo), .val (.long v), .second, .val (.int (Int32.ofNat a)), .val (.ref b), .val (.int (Int32.ofNat (a + sg + L)))] [(.long v), (.int (0 : Int32))])) _
        refine XS.lconst X3.here hx rfl (hb hby at_149) ?_
        show Steps p.tables e below (T3.setTop (mkF m 150 #[.val (.long q1), .second, .val (.int p2), .val (.int p3), .val (.int mo), .val (.long v), .second, .val (.int (Int32.ofNat a)), .val (.ref b), .val (.int (Int32.ofNat (a + sg + L)))] [(.long (0 : Int64)), (.long v), (.int (0 : Int32))])) _
        refine XS.lcmp X3.here hx rfl (hb hby at_150) rfl ?_
        show Steps p.tables e below (T3.setTop (mkF m 151 #[.val (.long q1), .second, .val (.int p2), .val (.int p3), .val (.int mo), .val (.long v), .second, .val (.int (Int32.ofNat a)), .val (.ref b), .val (.int (Int32.ofNat (a + sg + L)))] [(.int (lcmpW v (0 : Int64))), (.int (0 : Int32))])) _
        refine XS.ifYes X3.here hx rfl (pc0 := 151) (pc' := 158) rfl (hb hby at_151) rfl ((if0 _ _).trans (flt (fun q => (hv) ((lw_lt _ _).mp q))).2.1) (by decide) (by decide) ?_
        show Steps p.tables e below (T3.setTop (mkF m 158 #[.val (.long q1), .second, .val (.int p2), .val (.int p3), .val (.int mo), .val (.long v), .second, .val (.int (Int32.ofNat a)), .val (.ref b), .val (.int (Int32.ofNat (a + sg + L)))] [(.int (0 : Int32))])) _
        refine XS.iconst X3.here hx rfl (hb hby at_158) ?_
        show Steps p.tables e below (T3.setTop (mkF m 159 #[.val (.long q1), .second, .val (.int p2), .val (.int p3), .val (.int mo), .val (.long v), .second, .val (.int (Int32.ofNat a)), .val (.ref b), .val (.int (Int32.ofNat (a + sg + L)))] [(.int (0 : Int32)), (.int (0 : Int32))])) _
        refine XS.icmpYes X3.here hx rfl (pc0 := 159) (pc' := 164) rfl (hb hby at_159) rfl (teq (by decide : (0 : Int32) = (0 : Int32))).1 (by decide) (by decide) ?_
        show Steps p.tables e below (T3.setTop (mkF m 164 #[.val (.long q1), .second, .val (.int p2), .val (.int p3), .val (.int mo), .val (.long v), .second, .val (.int (Int32.ofNat a)), .val (.ref b), .val (.int (Int32.ofNat (a + sg + L)))] [])) _
        refine XS.aload X3.here hx rfl (hb hby at_164) rfl rfl ?_
        show Steps p.tables e below (T3.setTop (mkF m 166 #[.val (.long q1), .second, .val (.int p2), .val (.int p3), .val (.int mo), .val (.long v), .second, .val (.int (Int32.ofNat a)), .val (.ref b), .val (.int (Int32.ofNat (a + sg + L)))] [(.ref b)])) _
        refine XS.iload X3.here hx rfl (hb hby at_166) rfl ?_
        show Steps p.tables e below (T3.setTop (mkF m 168 #[.val (.long q1), .second, .val (.int p2), .val (.int p3), .val (.int mo), .val (.long v), .second, .val (.int (Int32.ofNat a)), .val (.ref b), .val (.int (Int32.ofNat (a + sg + L)))] [(.int (Int32.ofNat a)), (.ref b)])) _
        refine XS.iload X3.here hx rfl (hb hby at_168) rfl ?_
        show Steps p.tables e below (T3.setTop (mkF m 170 #[.val (.long q1), .second, .val (.int p2), .val (.int p3), .val (.int mo), .val (.long v), .second, .val (.int (Int32.ofNat a)), .val (.ref b), .val (.int (Int32.ofNat (a + sg + L)))] [(.int (Int32.ofNat (a + sg + L))), (.int (Int32.ofNat a)), (.ref b)])) _
        refine st6 _ ?_
        show Steps p.tables e below (T6.setTop (mkF m 173 #[.val (.long q1), .second, .val (.int p2), .val (.int p3), .val (.int mo), .val (.long v), .second, .val (.int (Int32.ofNat a)), .val (.ref b), .val (.int (Int32.ofNat (a + sg + L)))] [(.long v)])) _
        refine XS.lload X6.here hx rfl (hb hby at_173) rfl ?_
        show Steps p.tables e below (T6.setTop (mkF m 175 #[.val (.long q1), .second, .val (.int p2), .val (.int p3), .val (.int mo), .val (.long v), .second, .val (.int (Int32.ofNat a)), .val (.ref b), .val (.int (Int32.ofNat (a + sg + L)))] [(.long v), (.long v)])) _
        refine XS.lcmp X6.here hx rfl (hb hby at_175) rfl ?_
        show Steps p.tables e below (T6.setTop (mkF m 176 #[.val (.long q1), .second, .val (.int p2), .val (.int p3), .val (.int mo), .val (.long v), .second, .val (.int (Int32.ofNat a)), .val (.ref b), .val (.int (Int32.ofNat (a + sg + L)))] [(.int (lcmpW v v))])) _
        refine XS.ifNo X6.here hx rfl (hb hby at_176) rfl ((if0 _ _).trans (teq ((lw_eq _ _).mpr (rfl))).2) ?_
        show Steps p.tables e below (T6.setTop (mkF m 179 #[.val (.long q1), .second, .val (.int p2), .val (.int p3), .val (.int mo), .val (.long v), .second, .val (.int (Int32.ofNat a)), .val (.ref b), .val (.int (Int32.ofNat (a + sg + L)))] [])) _
        refine XS.iconst X6.here hx rfl (hb hby at_179) ?_
        show Steps p.tables e below (T6.setTop (mkF m 180 #[.val (.long q1), .second, .val (.int p2), .val (.int p3), .val (.int mo), .val (.long v), .second, .val (.int (Int32.ofNat a)), .val (.ref b), .val (.int (Int32.ofNat (a + sg + L)))] [(.int (1 : Int32))])) _
        refine XS.goto X6.here hx rfl (pc0 := 180) (pc' := 184) rfl (hb hby at_180) (by decide) (by decide) ?_
        show Steps p.tables e below (T6.setTop (mkF m 184 #[.val (.long q1), .second, .val (.int p2), .val (.int p3), .val (.int mo), .val (.long v), .second, .val (.int (Int32.ofNat a)), .val (.ref b), .val (.int (Int32.ofNat (a + sg + L)))] [(.int (1 : Int32))])) _
        exact retN X6 hx (t := .boolean) Bd.returns (by simp) (hb hby at_184) hr
      · exact ⟨rfl, N6⟩
set_option maxRecDepth 65536 in
set_option maxHeartbeats 40000000 in
theorem comes_1 {Post : Tables → Env → Array Value → State → Outcome → State → Prop} (hpost : ∀ tb e args s v u, (limb_1_1.after args s (.returned v) u = true ∧ limb_1_2.after args s (.returned v) u = true ∧ True) → FrameEnd s (.returned v) u (Jvm.fieldLocs frame_1_writes args s ++ Jvm.arrayLocs frame_1_arrays args s ++ Jvm.staticLocs frame_1_statics s) 16 128 → Post tb e args s (.returned v) u) :
    ArmFor flags0 classFile x code maxLocals ret World_1 tables_1 room_1 Calls_1 rest_1 Pre_1 Post := by
  intro l hfl _ _ p e ha hc hk s m args below hf hA hF happ hP
  obtain ⟨hcalls, hrest, hpre⟩ := hP
  obtain ⟨-, -, -, hnamed, -, -, -, hat⟩ := (Spec.applies_iff hf).mp happ
  obtain ⟨hg, hn⟩ := and_e (Cond.before_iff.mp (show (Jvm.Cond.and given_1 narrow_1).before args s = true from hpre))
  obtain ⟨gc, gr0⟩ := and_e hg
  obtain ⟨ga0, gr1⟩ := and_e gr0
  obtain ⟨ga1, gr2⟩ := and_e gr1
  obtain ⟨w0, w1, w2, rfl⟩ : ∃ w0 w1 w2 : Value, args = #[w0, w1, w2] := by
    have hs : args.size = 3 := by simpa [Cond.value, given_1] using gc
    obtain ⟨L⟩ := args
    match L, hs with
    | [w0, w1, w2], _ => exact ⟨w0, w1, w2, rfl⟩
  have hw := fun d (hd : d ∈ tables_1) => atoms_spec (ws := Jvm.Cond.code x code maxLocals ret :: tables_1) hat d (List.mem_cons_of_mem _ hd)
  obtain ⟨i0, ei0⟩ := isL_v ga0
  obtain rfl : w0 = (.long i0) := Option.some.inj ei0
  obtain ⟨i1, ei1⟩ := is_v ga1
  obtain rfl : w1 = (.int i1) := Option.some.inj ei1
  obtain ⟨i2, ei2⟩ := is_v gr2
  obtain rfl : w2 = (.int i2) := Option.some.inj ei2
  obtain ⟨n, o, h1, h2, h3, _, L, rfl, ⟨rfl, N⟩, hq⟩ := rm0 l s _ hw tables_1 i0 i1 i2 s.heap s.heap.size (Nat.le_refl _)  p e ha hc hk s m _ below hf ((Spec.applies_iff_loose hf).mp happ).1 ⟨rfl, State.Warmed39.refl s, rfl⟩ trivial
  refine ⟨n, _, h1, h2, h3, hpost _ _ _ _ _ _ ⟨Cond.after_iff.mpr rfl, Cond.after_iff.mpr (eq_i res_at (Term.int_eval (1)) rfl), trivial⟩ ⟨hq.1, hq.2.1, (hq.2.2.sift fun y hy => Or.inr (N y hy)).mono (by decide) (by decide)⟩⟩
theorem main_1_1 : Claimed_1_1 := comes_1 fun _ _ _ _ _ _ h hF => ⟨h.1, hF⟩
theorem main_1_2 : Claimed_1_2 := comes_1 fun _ _ _ _ _ _ h hF => ⟨h.2.1, hF⟩
end Jvm.Pilot.@@N@@
namespace Jvm.Pilot.@@N@@
open Jvm Jvm.ClassFile Sem Op Lib Jvm.Free Jvm.Stand Jvm.Pilot.@@N@@.Jvm.D
/-! MADE BY PROGRAM (witnessworld.py) out of the Statement's table words and the real class files: 9 classes; the members and pool entries that the words name. The judged class is class 1, her method 1. -/
namespace start1
open Jvm.ClassFile
def u (s : String) : CpInfo := .utf8 (stringToUtf16 s)
/-- a pool by its gaps: so many unusable entries, then the entry; so many at the end -/
def gap : Nat → List CpInfo → List CpInfo
  | 0, r => r
  | n + 1, r => .unusable :: gap n r
def poolList (es : List (Nat × CpInfo)) (last : Nat) : List CpInfo := es.foldr (fun e r => gap e.1 (e.2 :: r)) (gap last [])
def pool (es : List (Nat × CpInfo)) (last : Nat) : Array CpInfo := ⟨poolList es last⟩
def fileOf (pool : Array CpInfo) (this : Nat) (attrs : Array Attribute := #[]) (ms : Array MethodInfo := #[]) (fl : Nat := 33) (sup : Nat := 0) (ifs : Array Nat := #[]) (fds : Array FieldInfo := #[]) : ClassFile where
  minorVersion := 0
  majorVersion := 65
  constantPool := pool
  accessFlags := fl
  thisClass := this
  superClass := sup
  interfaces := ifs
  fields := fds
  methods := ms
  attributes := attrs
def plain (name : String) (sup : Option ClassId) : Class where
  name := name
  kind := .ordinary
  loader := none
  accessFlags := 33
  super := sup
  interfaces := #[]
  cf := none
  fields := #[]
  methods := #[]
  instanceTypes := #[]
  staticTypes := #[]
  resolved := #[]
  callSites := []
  init := .initialized
  statics := none
  mirror := none

def pool0 : Array CpInfo := pool [(5, u "<init>"), (0, u "()V"), (1, .class_ 10), (1, u "java/lang/Object")] 113

def k0m0 : Method := { name := "<init>", desc := "()V", sig := { parameters := [], returnType := none }, accessFlags := 1, code := none }
/-- java/lang/Object -/
def k0 : Class := { plain "java/lang/Object" none with
  accessFlags := 33
  interfaces := #[]
  cf := some (fileOf pool0 8 #[] #[{ accessFlags := 1, nameIndex := 5, descriptorIndex := 6, attributes := #[] }] 33 0 #[] #[])
  fields := #[]
  methods := #[k0m0]
  instanceTypes := #[]
  staticTypes := #[]
  resolved := Array.replicate 124 none
  statics := none }

def pool1 : Array CpInfo := pool [(2, .class_ 4), (1, u "java/lang/Object"), (0, u "<init>"), (0, u "()V"), (2, .long 9223372036854775808), (1, .long 15), (1, .long 9223372036854775807), (1, .long 1000), (1, .methodref 18 19), (0, .class_ 20), (0, .nameAndType 21 22), (0, u "com/example/bulkwire/bulkwire/resp/Decimal"), (0, u "write"), (0, u "(J[BI)I"), (0, .methodref 18 24), (0, .nameAndType 25 26), (0, u "parse"), (0, u "([BII)J"), (0, .class_ 28), (0, u "com/example/bulkwire/bulkwire/resp/DecimalWritePinLaw"), (2, u "law"), (0, u "(JII)Z")] 5

def k1m0 : Method := { name := "<init>", desc := "()V", sig := { parameters := [], returnType := none }, accessFlags := 2, code := none }
def k1c1 : Code := { maxStack := 6, maxLocals := 10, code := code, exceptionTable := #[], attributes := #[] }
def k1m1 : Method := { name := "law", desc := "(JII)Z", sig := { parameters := [.long, .int, .int], returnType := some .boolean }, accessFlags := 9, code := some k1c1 }
/-- com/example/bulkwire/bulkwire/resp/DecimalWritePinLaw -/
def k1 : Class := { plain "com/example/bulkwire/bulkwire/resp/DecimalWritePinLaw" (some 0) with
  accessFlags := 49
  interfaces := #[]
  cf := some (fileOf pool1 27 #[] #[{ accessFlags := 2, nameIndex := 5, descriptorIndex := 6, attributes := #[] }, { accessFlags := 9, nameIndex := 31, descriptorIndex := 32, attributes := #[] }] 49 2 #[] #[])
  fields := #[]
  methods := #[k1m0, k1m1]
  instanceTypes := #[]
  staticTypes := #[]
  resolved := Array.replicate 38 none
  statics := none }

def pool2 : Array CpInfo := pool [(2, .class_ 4), (1, u "java/lang/Object"), (0, u "<init>"), (0, u "()V"), (1, .class_ 10), (1, u "com/example/bulkwire/bulkwire/resp/Decimal"), (4, .long 9223372036854775808), (1, .long 9223372036854775809), (1, .long 10), (3, u "write"), (0, u "(J[BI)I"), (6, .long 48), (27, u "MAX_LENGTH"), (0, u "I"), (4, u "parse"), (0, u "([BII)J")] 20

def k2m0 : Method := { name := "<init>", desc := "()V", sig := { parameters := [], returnType := none }, accessFlags := 2, code := none }
def k2c1 : Code := { maxStack := 6, maxLocals := 10, code := prog_143_method_2_code, exceptionTable := #[], attributes := #[] }
def k2m1 : Method := { name := "parse", desc := "([BII)J", sig := { parameters := [(.array .byte), .int, .int], returnType := some .long }, accessFlags := 9, code := some k2c1 }
def k2c2 : Code := { maxStack := 8, maxLocals := 11, code := prog_143_method_4_code, exceptionTable := #[], attributes := #[] }
def k2m2 : Method := { name := "write", desc := "(J[BI)I", sig := { parameters := [.long, (.array .byte), .int], returnType := some .int }, accessFlags := 9, code := some k2c2 }
/-- com/example/bulkwire/bulkwire/resp/Decimal -/
def k2 : Class := { plain "com/example/bulkwire/bulkwire/resp/Decimal" (some 0) with
  accessFlags := 49
  interfaces := #[]
  cf := some (fileOf pool2 8 #[] #[{ accessFlags := 2, nameIndex := 5, descriptorIndex := 6, attributes := #[] }, { accessFlags := 9, nameIndex := 65, descriptorIndex := 66, attributes := #[] }, { accessFlags := 9, nameIndex := 23, descriptorIndex := 24, attributes := #[] }] 49 2 #[] #[{ accessFlags := 25, nameIndex := 59, descriptorIndex := 60, attributes := #[] }])
  fields := #[{ name := "MAX_LENGTH", type := .int, accessFlags := 25, slot := 0, constantValue := 0 }]
  methods := #[k2m0, k2m1, k2m2]
  instanceTypes := #[]
  staticTypes := #[.int]
  resolved := Array.replicate 87 none
  statics := none }

def pool3 : Array CpInfo := pool [(1, u "java/lang/Cloneable"), (0, .class_ 1), (0, u "java/lang/Object"), (0, .class_ 3)] 3

/-- java/lang/Cloneable -/
def k3 : Class := { plain "java/lang/Cloneable" (some 0) with
  accessFlags := 1537
  interfaces := #[]
  cf := some (fileOf pool3 2 #[] #[] 1537 4 #[] #[])
  fields := #[]
  methods := #[]
  instanceTypes := #[]
  staticTypes := #[]
  resolved := Array.replicate 8 none
  statics := none }

def pool4 : Array CpInfo := pool [(1, u "java/io/Serializable"), (0, .class_ 1), (0, u "java/lang/Object"), (0, .class_ 3)] 3

/-- java/io/Serializable -/
def k4 : Class := { plain "java/io/Serializable" (some 0) with
  accessFlags := 1537
  interfaces := #[]
  cf := some (fileOf pool4 2 #[] #[] 1537 4 #[] #[])
  fields := #[]
  methods := #[]
  instanceTypes := #[]
  staticTypes := #[]
  resolved := Array.replicate 8 none
  statics := none }

/-- the primitive byte -/
def k5 : Class := { plain "byte" none with kind := .primitive 'B', accessFlags := 0x411 }
/-- [B -/
def k6 : Class := { plain "[B" (some 0) with kind := .array 5 .byte, interfaces := #[3, 4], accessFlags := 1041 }

/-- the primitive int -/
def k7 : Class := { plain "int" none with kind := .primitive 'I', accessFlags := 0x411 }
/-- [I -/
def k8 : Class := { plain "[I" (some 0) with kind := .array 7 .int, interfaces := #[3, 4], accessFlags := 1041 }

def heap : Heap := #[]
def classes : Array Class := #[k0, k1, k2, k3, k4, k5, k6, k7, k8]
def interned : List (Array UInt16 × Addr) := []
def slotsUsed : Nat := 0
def theMethod : MethodId := ⟨1, 1⟩
def args0 : Array Value := #[.long (-123), .int 0, .int 3]
def aboutOver (below : List Frame) : State where
  vm := { classes := classes, interned := interned.toArray }
  heap := heap
  slotsUsed := slotsUsed
  threads := #[{ frames := .invoking theMethod args0 :: below }]
def below0 : List Frame := [.native { method := ⟨0, 0⟩, args := #[] }]
def about1 : State := aboutOver below0
def p0 : Program := .bare "" "" ""
def e0 : Env := launch0.env 0 0 0
theorem w_frames : about1.frames = Frame.invoking theMethod args0 :: below0 := rfl
set_option maxRecDepth 65536 in
theorem w_args : argsFit about1.vm theMethod args0 = true := by decide +kernel
set_option maxRecDepth 65536 in
theorem w_heap : heapFits about1 = true := by decide +kernel
set_option maxRecDepth 65536 in
theorem w_runnable : about1.curStatus? = some .runnable := by decide +kernel
set_option maxRecDepth 65536 in
theorem w_alone : about1.alone = true := by decide +kernel
set_option maxRecDepth 65536 in
theorem w_named : about1.methodNamed? x = some theMethod := by decide +kernel
set_option maxRecDepth 65536 in
theorem w_hears : about1.hears theMethod below0 = true := by decide +kernel
set_option maxRecDepth 65536 in
theorem w_ripe : about1.ripe theMethod args0 below0 = true := by decide +kernel
theorem w_running : about1.status = .running := rfl
set_option maxRecDepth 65536 in
theorem w_room : about1.hasRoom e0.platform room_1 = true :=
  launch0.hasRoom_least _ room_1 (by decide +kernel) (by decide +kernel) (by decide +kernel) (by decide +kernel) (by decide +kernel) (by decide +kernel)
theorem allAtoms_all (ts : List Jvm.Cond) (a : Array Jvm.Value) (st : Jvm.State) : (allAtoms ts).before a st = ts.all (fun c => c.before a st) := by
  induction ts with
  | nil => rfl
  | cons c t ih =>
    show (Jvm.Cond.and c (allAtoms t)).before a st = _
    rw [Jvm.Cond.before_and, ih, List.all_cons]
def words1 : List Jvm.Cond := Jvm.Cond.code x code maxLocals ret :: tables_1
/-- a 'code' word, met by the world's own term for the bytes: nothing is compared byte by byte -/
theorem code_word {y : MethodName} {bytes : ByteArray} {mx : Nat} {rt : Option FieldType} {a : Array Value} {s : State} {m : MethodId} {meth : Method} {c : Code} (h1 : s.methodNamed? y = some m) (h2 : s.vm.method? m = some meth) (h3 : meth.code = some c) (h4 : c.code = bytes)
    (h5 : (c.maxLocals == mx && c.exceptionTable.isEmpty && decide (c.maxStack ≤ mostOperands) && decide (meth.sig.returnType = rt) && !meth.locks && decide (parseMethodDescriptor y.desc = some meth.sig)) = true) : (Jvm.Cond.code y bytes mx rt).before a s = true := by
  simp only [Bool.and_eq_true, beq_iff_eq, Bool.not_eq_true', decide_eq_true_eq] at h5
  obtain ⟨⟨⟨⟨⟨g1, g2⟩, g3⟩, g4⟩, g5⟩, g6⟩ := h5
  simp [Cond.before, Cond.holds, Cond.value, h1, h2, h3, h4, g1, g2, g3, g4, g5, g6]
def isCode : Jvm.Cond → Bool
  | .code _ _ _ _ => true
  | _ => false
theorem all_split {L : List Jvm.Cond} {P : Jvm.Cond → Bool} (h1 : L.all (fun c => isCode c || P c) = true) (h2 : ∀ c ∈ L.filter isCode, P c = true) : L.all P = true := by
  refine List.all_eq_true.mpr fun c hc => ?_
  have h := List.all_eq_true.mp h1 c hc
  rcases Bool.eq_false_or_eq_true (isCode c) with hi | hi
  · exact h2 c (List.mem_filter.mpr ⟨hc, hi⟩)
  · simpa [hi] using h
set_option maxRecDepth 65536 in
theorem w_c0 : (Jvm.Cond.code x code maxLocals ret).before args0 about1 = true := code_word (m := ⟨1, 1⟩) (meth := k1m1) (c := k1c1) (by decide +kernel) rfl rfl rfl (by decide +kernel)
set_option maxRecDepth 65536 in
theorem w_c1 : (Jvm.Cond.code ({ cls := "com/example/bulkwire/bulkwire/resp/Decimal", name := "write", desc := "(J[BI)I" } : Jvm.MethodName) prog_143_method_4_code (11 : Nat) (Option.some Jvm.ClassFile.FieldType.int)).before args0 about1 = true := code_word (m := ⟨2, 2⟩) (meth := k2m2) (c := k2c2) (by decide +kernel) rfl rfl rfl (by decide +kernel)
set_option maxRecDepth 65536 in
theorem w_c2 : (Jvm.Cond.code ({ cls := "com/example/bulkwire/bulkwire/resp/Decimal", name := "parse", desc := "([BII)J" } : Jvm.MethodName) prog_143_method_2_code (10 : Nat) (Option.some Jvm.ClassFile.FieldType.long)).before args0 about1 = true := code_word (m := ⟨2, 1⟩) (meth := k2m1) (c := k2c1) (by decide +kernel) rfl rfl rfl (by decide +kernel)
def codes1 : List Jvm.Cond := [Jvm.Cond.code x code maxLocals ret, Jvm.Cond.code ({ cls := "com/example/bulkwire/bulkwire/resp/Decimal", name := "write", desc := "(J[BI)I" } : Jvm.MethodName) prog_143_method_4_code (11 : Nat) (Option.some Jvm.ClassFile.FieldType.int), Jvm.Cond.code ({ cls := "com/example/bulkwire/bulkwire/resp/Decimal", name := "parse", desc := "([BII)J" } : Jvm.MethodName) prog_143_method_2_code (10 : Nat) (Option.some Jvm.ClassFile.FieldType.long)]
set_option maxRecDepth 65536 in
theorem codes_eq : words1.filter isCode = codes1 := rfl
theorem w_codes : ∀ c ∈ words1.filter isCode, c.before args0 about1 = true := by
  rw [codes_eq]
  intro c hc
  simp only [codes1, List.mem_cons, List.not_mem_nil, or_false] at hc
  rcases hc with rfl | rfl | rfl
  · exact w_c0
  · exact w_c1
  · exact w_c2
set_option maxRecDepth 65536 in
theorem w_t1 : words1.all (fun c => isCode c || c.before args0 about1) = true := by decide +kernel
theorem w_tables : (allAtoms (Jvm.Cond.code x code maxLocals ret :: tables_1)).before args0 about1 = true := by
  rw [allAtoms_all]
  show words1.all (fun c => c.before args0 about1) = true
  refine all_split ?_ w_codes
  rw [w_t1]
set_option maxRecDepth 65536 in
theorem w_case : (Jvm.Cond.and given_1 narrow_1).before args0 about1 = true := by decide +kernel
theorem w_applies : (headSpec (Jvm.Cond.code x code maxLocals ret :: tables_1) room_1).applies x e0.platform about1 = true :=
  (Spec.applies_iff w_frames).mpr ⟨w_running, w_runnable, w_alone, w_named, w_hears, w_ripe, w_room, w_tables⟩
theorem atStart : AtStart classFile x code maxLocals ret World_1 tables_1 room_1 Calls_1 rest_1 Pre_1 launch0 p0 e0 about1 theMethod args0 below0 :=
  ⟨lists_1, trivial, launch0.admits_env _ _ _, launch0.least_env, fairChoices_fair.cas, fairChoices_fair.clock, w_frames, w_args, w_heap, w_applies, trivial, trivial, w_case⟩
end start1
theorem witness_1 : WitnessClaimed_1 := ⟨start1.p0, start1.e0, start1.about1, start1.theMethod, start1.args0, start1.below0, start1.atStart⟩
end Jvm.Pilot.@@N@@
