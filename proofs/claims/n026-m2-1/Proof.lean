import JvmDerived
import JvmDerived.Pilot.@@N@@Statement
import JvmDerived.Pilot.@@N@@Code
set_option linter.unusedVariables false
set_option linter.unusedSimpArgs false
namespace Jvm.RoadKit
open Sem ClassFile Op Lib Jvm.Stand Jvm.Free Jvm.LawKit
section New
variable {p : Program} {l : Launch} {e : Env} {R : Room} {s : State} {m : MethodId} {args : Array Value} {below : List Frame} {meth : Method} {c : Code} {T : State} {locs : List Loc} {cells slots : Nat}
theorem retI (X : Stand p l e R s m args below meth c T locs cells slots) (hx : p.tables.exec = Jvm.exec) {pc : Nat} {Ls : Array Slot} {z : Int32} {rest : List Value} (hret : meth.sig.returnType = some .int) (hd : decode c.code pc = .ok (.ireturn, 1)) {fs : List Frame}
    (hl : ∀ (f : JFrame) (acts : List Action), f.method = m → f.locked = none → f.entered = [] → (doReturn e (T.setTop f) acts (some (.int z))).1 = T.setFrames fs) : Steps p.tables e below (T.setTop (mkF m pc Ls (.int z :: rest))) (T.setFrames fs) := by
  have hm' : T.vm.method? m = some meth := X.method'
  have hn : narrow .int (.int z) = .int z := rfl
  show Steps p.tables e below (T.setTop { method := m, pc := pc, locals := Ls, stack := _ :: rest, locked := none }) _
  jvm_step X.here [X.here.top, hx, hd, hm', hret, hn]
  first | (intro acts; rw [hl _ acts rfl rfl rfl]) | rw [hl _ _ rfl rfl rfl]
  exact Steps.refl _
end New
end Jvm.RoadKit
namespace Jvm.Pilot.@@N@@
open Jvm Jvm.ClassFile Sem Op Lib Jvm.Free Jvm.Stand Jvm.LawKit Jvm.RoadKit Bundle Jvm.Pilot.@@N@@.Jvm.D
def own_alpha (c : Int32) : Int32 := if (c ||| (32 : Int32)) < (97 : Int32) then (-1 : Int32) else if (122 : Int32) < (c ||| (32 : Int32)) then (-1 : Int32) else (((c ||| (32 : Int32)) - (97 : Int32)) + (10 : Int32))
def own_dvV (c : Int32) : Int32 := if c < (48 : Int32) then own_alpha c else if (57 : Int32) < c then own_alpha c else (c - (48 : Int32))
def own_dv (c b : Int32) : Int32 := if own_dvV c < b then own_dvV c else (-1 : Int32)
def own_low (c : Int32) : Int32 := if c < (97 : Int32) then (-1 : Int32) else if (122 : Int32) < c then (-1 : Int32) else ((c - (97 : Int32)) + (10 : Int32))
def own_up (c : Int32) : Int32 := if c < (65 : Int32) then own_low c else if (90 : Int32) < c then own_low c else ((c - (65 : Int32)) + (10 : Int32))
def own_rfV (c : Int32) : Int32 := if c < (48 : Int32) then own_up c else if (57 : Int32) < c then own_up c else (c - (48 : Int32))
def own_rf (c b : Int32) : Int32 := if own_rfV c < (0 : Int32) then (-1 : Int32) else if own_rfV c < b then own_rfV c else (-1 : Int32)
theorem own_fin : ∀ k : Fin 128, own_dvV (Int32.ofNat k.val) = own_rfV (Int32.ofNat k.val) ∧ (own_rfV (Int32.ofNat k.val) < (0 : Int32) → own_rfV (Int32.ofNat k.val) = (-1 : Int32)) := by decide
theorem own_lit {a b : Int32} (h : a.toInt < b.toInt) : a < b := Int32.lt_iff_toInt_lt.mpr h
theorem own_nlit {a b : Int32} (h : ¬ a.toInt < b.toInt) : ¬ a < b := fun q => h (Int32.lt_iff_toInt_lt.mp q)
theorem own_V (c : Int32) : own_dvV c = own_rfV c ∧ (own_rfV c < (0 : Int32) → own_rfV c = (-1 : Int32)) := by
  have e0 : (0 : Int32).toInt = 0 := by decide
  have e48 : (48 : Int32).toInt = 48 := by decide
  have e57 : (57 : Int32).toInt = 57 := by decide
  have e65 : (65 : Int32).toInt = 65 := by decide
  have e90 : (90 : Int32).toInt = 90 := by decide
  have e97 : (97 : Int32).toInt = 97 := by decide
  have e122 : (122 : Int32).toInt = 122 := by decide
  have e32 : (32 : Int32).toInt = 32 := by decide
  by_cases h0 : c < (0 : Int32)
  · have g0 := Int32.lt_iff_toInt_lt.mp h0
    have gx := (c_orS c 32).2.1 (by omega)
    have a1 : c < (48 : Int32) := own_lit (by omega)
    have a2 : (c ||| (32 : Int32)) < (97 : Int32) := own_lit (by omega)
    have a3 : c < (65 : Int32) := own_lit (by omega)
    have a4 : c < (97 : Int32) := own_lit (by omega)
    have e1 : own_dvV c = (-1 : Int32) := by unfold own_dvV own_alpha; rw [if_pos a1, if_pos a2]
    have e2 : own_rfV c = (-1 : Int32) := by unfold own_rfV own_up own_low; rw [if_pos a1, if_pos a3, if_pos a4]
    exact ⟨by rw [e1, e2], fun _ => e2⟩
  · have g0 : ¬ c.toInt < (0 : Int32).toInt := fun q => h0 (Int32.lt_iff_toInt_lt.mpr q)
    by_cases h1 : c.toInt < 128
    · have g3 : c.toNatClampNeg < 128 := by have := nat_of h0; omega
      have g4 : c = Int32.ofNat c.toNatClampNeg := (back32 h0).1.symm
      have := own_fin ⟨c.toNatClampNeg, g3⟩
      rw [← g4] at this
      exact this
    · have gx := (c_or0 c 32 (by omega) (by omega)).1
      have a1 : ¬ c < (48 : Int32) := own_nlit (by omega)
      have a2 : (57 : Int32) < c := own_lit (by omega)
      have a3 : ¬ (c ||| (32 : Int32)) < (97 : Int32) := own_nlit (by omega)
      have a4 : (122 : Int32) < (c ||| (32 : Int32)) := own_lit (by omega)
      have a5 : ¬ c < (65 : Int32) := own_nlit (by omega)
      have a6 : (90 : Int32) < c := own_lit (by omega)
      have a7 : ¬ c < (97 : Int32) := own_nlit (by omega)
      have a8 : (122 : Int32) < c := own_lit (by omega)
      have e1 : own_dvV c = (-1 : Int32) := by unfold own_dvV own_alpha; rw [if_neg a1, if_pos a2, if_neg a3, if_pos a4]
      have e2 : own_rfV c = (-1 : Int32) := by unfold own_rfV own_up own_low; rw [if_neg a1, if_pos a2, if_neg a5, if_pos a6, if_neg a7, if_pos a8]
      exact ⟨by rw [e1, e2], fun _ => e2⟩
theorem own_law (c b : Int32) : own_dv c b = own_rf c b := by
  obtain ⟨h1, h2⟩ := own_V c
  unfold own_dv own_rf
  rw [h1]
  by_cases h : own_rfV c < (0 : Int32)
  · rw [if_pos h, h2 h]; split <;> rfl
  · rw [if_neg h]
theorem d1_0 : decode prog_105_method_26_code 0 = .ok (.iload_n 0, 1) := by decide +kernel
theorem d1_1 : decode prog_105_method_26_code 1 = .ok (.bipush 48, 2) := by decide +kernel
theorem d1_3 : decode prog_105_method_26_code 3 = .ok (.if_icmp .lt 17, 3) := by decide +kernel
theorem d1_6 : decode prog_105_method_26_code 6 = .ok (.iload_n 0, 1) := by decide +kernel
theorem d1_7 : decode prog_105_method_26_code 7 = .ok (.bipush 57, 2) := by decide +kernel
theorem d1_9 : decode prog_105_method_26_code 9 = .ok (.if_icmp .gt 11, 3) := by decide +kernel
theorem d1_12 : decode prog_105_method_26_code 12 = .ok (.iload_n 0, 1) := by decide +kernel
theorem d1_13 : decode prog_105_method_26_code 13 = .ok (.bipush 48, 2) := by decide +kernel
theorem d1_15 : decode prog_105_method_26_code 15 = .ok (.isub, 1) := by decide +kernel
theorem d1_16 : decode prog_105_method_26_code 16 = .ok (.istore_n 2, 1) := by decide +kernel
theorem d1_17 : decode prog_105_method_26_code 17 = .ok (.goto 37, 3) := by decide +kernel
theorem d1_20 : decode prog_105_method_26_code 20 = .ok (.iload_n 0, 1) := by decide +kernel
theorem d1_21 : decode prog_105_method_26_code 21 = .ok (.bipush 32, 2) := by decide +kernel
theorem d1_23 : decode prog_105_method_26_code 23 = .ok (.ior, 1) := by decide +kernel
theorem d1_24 : decode prog_105_method_26_code 24 = .ok (.bipush 97, 2) := by decide +kernel
theorem d1_26 : decode prog_105_method_26_code 26 = .ok (.if_icmp .lt 26, 3) := by decide +kernel
theorem d1_29 : decode prog_105_method_26_code 29 = .ok (.iload_n 0, 1) := by decide +kernel
theorem d1_30 : decode prog_105_method_26_code 30 = .ok (.bipush 32, 2) := by decide +kernel
theorem d1_32 : decode prog_105_method_26_code 32 = .ok (.ior, 1) := by decide +kernel
theorem d1_33 : decode prog_105_method_26_code 33 = .ok (.bipush 122, 2) := by decide +kernel
theorem d1_35 : decode prog_105_method_26_code 35 = .ok (.if_icmp .gt 17, 3) := by decide +kernel
theorem d1_38 : decode prog_105_method_26_code 38 = .ok (.iload_n 0, 1) := by decide +kernel
theorem d1_39 : decode prog_105_method_26_code 39 = .ok (.bipush 32, 2) := by decide +kernel
theorem d1_41 : decode prog_105_method_26_code 41 = .ok (.ior, 1) := by decide +kernel
theorem d1_42 : decode prog_105_method_26_code 42 = .ok (.bipush 97, 2) := by decide +kernel
theorem d1_44 : decode prog_105_method_26_code 44 = .ok (.isub, 1) := by decide +kernel
theorem d1_45 : decode prog_105_method_26_code 45 = .ok (.bipush 10, 2) := by decide +kernel
theorem d1_47 : decode prog_105_method_26_code 47 = .ok (.iadd, 1) := by decide +kernel
theorem d1_48 : decode prog_105_method_26_code 48 = .ok (.istore_n 2, 1) := by decide +kernel
theorem d1_49 : decode prog_105_method_26_code 49 = .ok (.goto 5, 3) := by decide +kernel
theorem d1_52 : decode prog_105_method_26_code 52 = .ok (.iconst (-1), 1) := by decide +kernel
theorem d1_53 : decode prog_105_method_26_code 53 = .ok (.istore_n 2, 1) := by decide +kernel
theorem d1_54 : decode prog_105_method_26_code 54 = .ok (.iload_n 2, 1) := by decide +kernel
theorem d1_55 : decode prog_105_method_26_code 55 = .ok (.iload_n 1, 1) := by decide +kernel
theorem d1_56 : decode prog_105_method_26_code 56 = .ok (.if_icmp .ge 7, 3) := by decide +kernel
theorem d1_59 : decode prog_105_method_26_code 59 = .ok (.iload_n 2, 1) := by decide +kernel
theorem d1_60 : decode prog_105_method_26_code 60 = .ok (.goto 4, 3) := by decide +kernel
theorem d1_63 : decode prog_105_method_26_code 63 = .ok (.iconst (-1), 1) := by decide +kernel
theorem d1_64 : decode prog_105_method_26_code 64 = .ok (.ireturn, 1) := by decide +kernel
theorem pn_1 : plainName "com/example/bulkwire/bulkwire/lua/Numbers" = true := by first | (simp [plainName, overriddenIn]; done) | decide +kernel
theorem ef_1 (m : MethodId) (p1 : Int32) (p2 : Int32) : entryFrame m #[(.int p1), (.int p2)] 3 = mkF m 0 #[.val (.int p1), .val (.int p2), .unset] [] := by first | (simp [entryFrame, mkF, argsToLocals, Value.category]; done) | rfl
set_option maxRecDepth 65536 in
set_option maxHeartbeats 40000000 in
theorem sg1 {p : Program} {l : Launch} {e : Env} {R : Room} {s : State} {m : MethodId} {args : Array Value} {below : List Frame} {meth : Method} {c : Code} {T0 : State} {locs : List Loc} {cells slots : Nat} {Z : State} {a0 : Array Value} (p1 p2 : Int32)
    (X0 : Stand p l e R s m args below meth c T0 locs cells slots) (hx : p.tables.exec = Jvm.exec) (hZ : Z.Warmed39 s.vm) (hw : ∀ d ∈ tables_1, d.before a0 Z = true) (hby : c.code = prog_105_method_26_code) (hown : s.vm.findClass "com/example/bulkwire/bulkwire/lua/Numbers" = some m.cls) :
    ∀ target, Steps p.tables e below (T0.setTop (mkF m 54 #[.val (.int p1), .val (.int p2), .val (.int (own_dvV p1))] [])) target → Steps p.tables e below (T0.setTop (mkF m 0 #[.val (.int p1), .val (.int p2), .unset] [])) target := by
  by_cases hc3 : p1 < (48 : Int32)
  · by_cases hc26 : (p1 ||| (32 : Int32)) < (97 : Int32)
    · intro target kt
      rw [show (own_dvV p1) = (-1 : Int32) by simp only [own_dvV, own_alpha, hc3, hc26, ↓reduceIte]] at kt
      show Steps p.tables e below (T0.setTop (mkF m 0 #[.val (.int p1), .val (.int p2), .unset] [])) _
      refine XS.iloadN X0.here hx rfl (hb hby d1_0) rfl ?_
      show Steps p.tables e below (T0.setTop (mkF m 1 #[.val (.int p1), .val (.int p2), .unset] [(.int p1)])) _
      refine XS.bipush X0.here hx rfl (hb hby d1_1) ?_
      show Steps p.tables e below (T0.setTop (mkF m 3 #[.val (.int p1), .val (.int p2), .unset] [(.int (48 : Int32)), (.int p1)])) _
      refine XS.icmpYes X0.here hx rfl (pc0 := 3) (pc' := 20) rfl (hb hby d1_3) rfl (tlt hc3).1 (by decide) (by decide) ?_
      show Steps p.tables e below (T0.setTop (mkF m 20 #[.val (.int p1), .val (.int p2), .unset] [])) _
      refine XS.iloadN X0.here hx rfl (hb hby d1_20) rfl ?_
      show Steps p.tables e below (T0.setTop (mkF m 21 #[.val (.int p1), .val (.int p2), .unset] [(.int p1)])) _
      refine XS.bipush X0.here hx rfl (hb hby d1_21) ?_
      show Steps p.tables e below (T0.setTop (mkF m 23 #[.val (.int p1), .val (.int p2), .unset] [(.int (32 : Int32)), (.int p1)])) _
      refine XS.ior X0.here hx rfl (hb hby d1_23) rfl ?_
      show Steps p.tables e below (T0.setTop (mkF m 24 #[.val (.int p1), .val (.int p2), .unset] [(.int (p1 ||| (32 : Int32)))])) _
      refine XS.bipush X0.here hx rfl (hb hby d1_24) ?_
      show Steps p.tables e below (T0.setTop (mkF m 26 #[.val (.int p1), .val (.int p2), .unset] [(.int (97 : Int32)), (.int (p1 ||| (32 : Int32)))])) _
      refine XS.icmpYes X0.here hx rfl (pc0 := 26) (pc' := 52) rfl (hb hby d1_26) rfl (tlt hc26).1 (by decide) (by decide) ?_
      show Steps p.tables e below (T0.setTop (mkF m 52 #[.val (.int p1), .val (.int p2), .unset] [])) _
      refine XS.iconst X0.here hx rfl (hb hby d1_52) ?_
      show Steps p.tables e below (T0.setTop (mkF m 53 #[.val (.int p1), .val (.int p2), .unset] [(.int (-1 : Int32))])) _
      refine XS.istoreN X0.here hx rfl (hb hby d1_53) rfl (l' := #[.val (.int p1), .val (.int p2), .val (.int (-1 : Int32))]) rfl ?_
      exact kt
    · by_cases hc35 : (122 : Int32) < (p1 ||| (32 : Int32))
      · intro target kt
        rw [show (own_dvV p1) = (-1 : Int32) by simp only [own_dvV, own_alpha, hc3, hc26, hc35, ↓reduceIte]] at kt
        show Steps p.tables e below (T0.setTop (mkF m 0 #[.val (.int p1), .val (.int p2), .unset] [])) _
        refine XS.iloadN X0.here hx rfl (hb hby d1_0) rfl ?_
        show Steps p.tables e below (T0.setTop (mkF m 1 #[.val (.int p1), .val (.int p2), .unset] [(.int p1)])) _
        refine XS.bipush X0.here hx rfl (hb hby d1_1) ?_
        show Steps p.tables e below (T0.setTop (mkF m 3 #[.val (.int p1), .val (.int p2), .unset] [(.int (48 : Int32)), (.int p1)])) _
        refine XS.icmpYes X0.here hx rfl (pc0 := 3) (pc' := 20) rfl (hb hby d1_3) rfl (tlt hc3).1 (by decide) (by decide) ?_
        show Steps p.tables e below (T0.setTop (mkF m 20 #[.val (.int p1), .val (.int p2), .unset] [])) _
        refine XS.iloadN X0.here hx rfl (hb hby d1_20) rfl ?_
        show Steps p.tables e below (T0.setTop (mkF m 21 #[.val (.int p1), .val (.int p2), .unset] [(.int p1)])) _
        refine XS.bipush X0.here hx rfl (hb hby d1_21) ?_
        show Steps p.tables e below (T0.setTop (mkF m 23 #[.val (.int p1), .val (.int p2), .unset] [(.int (32 : Int32)), (.int p1)])) _
        refine XS.ior X0.here hx rfl (hb hby d1_23) rfl ?_
        show Steps p.tables e below (T0.setTop (mkF m 24 #[.val (.int p1), .val (.int p2), .unset] [(.int (p1 ||| (32 : Int32)))])) _
        refine XS.bipush X0.here hx rfl (hb hby d1_24) ?_
        show Steps p.tables e below (T0.setTop (mkF m 26 #[.val (.int p1), .val (.int p2), .unset] [(.int (97 : Int32)), (.int (p1 ||| (32 : Int32)))])) _
        refine XS.icmpNo X0.here hx rfl (hb hby d1_26) rfl (flt hc26).1 ?_
        show Steps p.tables e below (T0.setTop (mkF m 29 #[.val (.int p1), .val (.int p2), .unset] [])) _
        refine XS.iloadN X0.here hx rfl (hb hby d1_29) rfl ?_
        show Steps p.tables e below (T0.setTop (mkF m 30 #[.val (.int p1), .val (.int p2), .unset] [(.int p1)])) _
        refine XS.bipush X0.here hx rfl (hb hby d1_30) ?_
        show Steps p.tables e below (T0.setTop (mkF m 32 #[.val (.int p1), .val (.int p2), .unset] [(.int (32 : Int32)), (.int p1)])) _
        refine XS.ior X0.here hx rfl (hb hby d1_32) rfl ?_
        show Steps p.tables e below (T0.setTop (mkF m 33 #[.val (.int p1), .val (.int p2), .unset] [(.int (p1 ||| (32 : Int32)))])) _
        refine XS.bipush X0.here hx rfl (hb hby d1_33) ?_
        show Steps p.tables e below (T0.setTop (mkF m 35 #[.val (.int p1), .val (.int p2), .unset] [(.int (122 : Int32)), (.int (p1 ||| (32 : Int32)))])) _
        refine XS.icmpYes X0.here hx rfl (pc0 := 35) (pc' := 52) rfl (hb hby d1_35) rfl (tlt hc35).2.2.1 (by decide) (by decide) ?_
        show Steps p.tables e below (T0.setTop (mkF m 52 #[.val (.int p1), .val (.int p2), .unset] [])) _
        refine XS.iconst X0.here hx rfl (hb hby d1_52) ?_
        show Steps p.tables e below (T0.setTop (mkF m 53 #[.val (.int p1), .val (.int p2), .unset] [(.int (-1 : Int32))])) _
        refine XS.istoreN X0.here hx rfl (hb hby d1_53) rfl (l' := #[.val (.int p1), .val (.int p2), .val (.int (-1 : Int32))]) rfl ?_
        exact kt
      · intro target kt
        rw [show (own_dvV p1) = (((p1 ||| (32 : Int32)) - (97 : Int32)) + (10 : Int32)) by simp only [own_dvV, own_alpha, hc3, hc26, hc35, ↓reduceIte]] at kt
        show Steps p.tables e below (T0.setTop (mkF m 0 #[.val (.int p1), .val (.int p2), .unset] [])) _
        refine XS.iloadN X0.here hx rfl (hb hby d1_0) rfl ?_
        show Steps p.tables e below (T0.setTop (mkF m 1 #[.val (.int p1), .val (.int p2), .unset] [(.int p1)])) _
        refine XS.bipush X0.here hx rfl (hb hby d1_1) ?_
        show Steps p.tables e below (T0.setTop (mkF m 3 #[.val (.int p1), .val (.int p2), .unset] [(.int (48 : Int32)), (.int p1)])) _
        refine XS.icmpYes X0.here hx rfl (pc0 := 3) (pc' := 20) rfl (hb hby d1_3) rfl (tlt hc3).1 (by decide) (by decide) ?_
        show Steps p.tables e below (T0.setTop (mkF m 20 #[.val (.int p1), .val (.int p2), .unset] [])) _
        refine XS.iloadN X0.here hx rfl (hb hby d1_20) rfl ?_
        show Steps p.tables e below (T0.setTop (mkF m 21 #[.val (.int p1), .val (.int p2), .unset] [(.int p1)])) _
        refine XS.bipush X0.here hx rfl (hb hby d1_21) ?_
        show Steps p.tables e below (T0.setTop (mkF m 23 #[.val (.int p1), .val (.int p2), .unset] [(.int (32 : Int32)), (.int p1)])) _
        refine XS.ior X0.here hx rfl (hb hby d1_23) rfl ?_
        show Steps p.tables e below (T0.setTop (mkF m 24 #[.val (.int p1), .val (.int p2), .unset] [(.int (p1 ||| (32 : Int32)))])) _
        refine XS.bipush X0.here hx rfl (hb hby d1_24) ?_
        show Steps p.tables e below (T0.setTop (mkF m 26 #[.val (.int p1), .val (.int p2), .unset] [(.int (97 : Int32)), (.int (p1 ||| (32 : Int32)))])) _
        refine XS.icmpNo X0.here hx rfl (hb hby d1_26) rfl (flt hc26).1 ?_
        show Steps p.tables e below (T0.setTop (mkF m 29 #[.val (.int p1), .val (.int p2), .unset] [])) _
        refine XS.iloadN X0.here hx rfl (hb hby d1_29) rfl ?_
        show Steps p.tables e below (T0.setTop (mkF m 30 #[.val (.int p1), .val (.int p2), .unset] [(.int p1)])) _
        refine XS.bipush X0.here hx rfl (hb hby d1_30) ?_
        show Steps p.tables e below (T0.setTop (mkF m 32 #[.val (.int p1), .val (.int p2), .unset] [(.int (32 : Int32)), (.int p1)])) _
        refine XS.ior X0.here hx rfl (hb hby d1_32) rfl ?_
        show Steps p.tables e below (T0.setTop (mkF m 33 #[.val (.int p1), .val (.int p2), .unset] [(.int (p1 ||| (32 : Int32)))])) _
        refine XS.bipush X0.here hx rfl (hb hby d1_33) ?_
        show Steps p.tables e below (T0.setTop (mkF m 35 #[.val (.int p1), .val (.int p2), .unset] [(.int (122 : Int32)), (.int (p1 ||| (32 : Int32)))])) _
        refine XS.icmpNo X0.here hx rfl (hb hby d1_35) rfl (flt hc35).2.2.1 ?_
        show Steps p.tables e below (T0.setTop (mkF m 38 #[.val (.int p1), .val (.int p2), .unset] [])) _
        refine XS.iloadN X0.here hx rfl (hb hby d1_38) rfl ?_
        show Steps p.tables e below (T0.setTop (mkF m 39 #[.val (.int p1), .val (.int p2), .unset] [(.int p1)])) _
        refine XS.bipush X0.here hx rfl (hb hby d1_39) ?_
        show Steps p.tables e below (T0.setTop (mkF m 41 #[.val (.int p1), .val (.int p2), .unset] [(.int (32 : Int32)), (.int p1)])) _
        refine XS.ior X0.here hx rfl (hb hby d1_41) rfl ?_
        show Steps p.tables e below (T0.setTop (mkF m 42 #[.val (.int p1), .val (.int p2), .unset] [(.int (p1 ||| (32 : Int32)))])) _
        refine XS.bipush X0.here hx rfl (hb hby d1_42) ?_
        show Steps p.tables e below (T0.setTop (mkF m 44 #[.val (.int p1), .val (.int p2), .unset] [(.int (97 : Int32)), (.int (p1 ||| (32 : Int32)))])) _
        refine XS.isub X0.here hx rfl (hb hby d1_44) rfl ?_
        show Steps p.tables e below (T0.setTop (mkF m 45 #[.val (.int p1), .val (.int p2), .unset] [(.int ((p1 ||| (32 : Int32)) - (97 : Int32)))])) _
        refine XS.bipush X0.here hx rfl (hb hby d1_45) ?_
        show Steps p.tables e below (T0.setTop (mkF m 47 #[.val (.int p1), .val (.int p2), .unset] [(.int (10 : Int32)), (.int ((p1 ||| (32 : Int32)) - (97 : Int32)))])) _
        refine XS.iadd X0.here hx rfl (hb hby d1_47) rfl ?_
        show Steps p.tables e below (T0.setTop (mkF m 48 #[.val (.int p1), .val (.int p2), .unset] [(.int (((p1 ||| (32 : Int32)) - (97 : Int32)) + (10 : Int32)))])) _
        refine XS.istoreN X0.here hx rfl (hb hby d1_48) rfl (l' := #[.val (.int p1), .val (.int p2), .val (.int (((p1 ||| (32 : Int32)) - (97 : Int32)) + (10 : Int32)))]) rfl ?_
        show Steps p.tables e below (T0.setTop (mkF m 49 #[.val (.int p1), .val (.int p2), .val (.int (((p1 ||| (32 : Int32)) - (97 : Int32)) + (10 : Int32)))] [])) _
        refine XS.goto X0.here hx rfl (pc0 := 49) (pc' := 54) rfl (hb hby d1_49) (by decide) (by decide) ?_
        exact kt
  · by_cases hc9 : (57 : Int32) < p1
    · by_cases hc26 : (p1 ||| (32 : Int32)) < (97 : Int32)
      · intro target kt
        rw [show (own_dvV p1) = (-1 : Int32) by simp only [own_dvV, own_alpha, hc3, hc9, hc26, ↓reduceIte]] at kt
        show Steps p.tables e below (T0.setTop (mkF m 0 #[.val (.int p1), .val (.int p2), .unset] [])) _
        refine XS.iloadN X0.here hx rfl (hb hby d1_0) rfl ?_
        show Steps p.tables e below (T0.setTop (mkF m 1 #[.val (.int p1), .val (.int p2), .unset] [(.int p1)])) _
        refine XS.bipush X0.here hx rfl (hb hby d1_1) ?_
        show Steps p.tables e below (T0.setTop (mkF m 3 #[.val (.int p1), .val (.int p2), .unset] [(.int (48 : Int32)), (.int p1)])) _
        refine XS.icmpNo X0.here hx rfl (hb hby d1_3) rfl (flt hc3).1 ?_
        show Steps p.tables e below (T0.setTop (mkF m 6 #[.val (.int p1), .val (.int p2), .unset] [])) _
        refine XS.iloadN X0.here hx rfl (hb hby d1_6) rfl ?_
        show Steps p.tables e below (T0.setTop (mkF m 7 #[.val (.int p1), .val (.int p2), .unset] [(.int p1)])) _
        refine XS.bipush X0.here hx rfl (hb hby d1_7) ?_
        show Steps p.tables e below (T0.setTop (mkF m 9 #[.val (.int p1), .val (.int p2), .unset] [(.int (57 : Int32)), (.int p1)])) _
        refine XS.icmpYes X0.here hx rfl (pc0 := 9) (pc' := 20) rfl (hb hby d1_9) rfl (tlt hc9).2.2.1 (by decide) (by decide) ?_
        show Steps p.tables e below (T0.setTop (mkF m 20 #[.val (.int p1), .val (.int p2), .unset] [])) _
        refine XS.iloadN X0.here hx rfl (hb hby d1_20) rfl ?_
        show Steps p.tables e below (T0.setTop (mkF m 21 #[.val (.int p1), .val (.int p2), .unset] [(.int p1)])) _
        refine XS.bipush X0.here hx rfl (hb hby d1_21) ?_
        show Steps p.tables e below (T0.setTop (mkF m 23 #[.val (.int p1), .val (.int p2), .unset] [(.int (32 : Int32)), (.int p1)])) _
        refine XS.ior X0.here hx rfl (hb hby d1_23) rfl ?_
        show Steps p.tables e below (T0.setTop (mkF m 24 #[.val (.int p1), .val (.int p2), .unset] [(.int (p1 ||| (32 : Int32)))])) _
        refine XS.bipush X0.here hx rfl (hb hby d1_24) ?_
        show Steps p.tables e below (T0.setTop (mkF m 26 #[.val (.int p1), .val (.int p2), .unset] [(.int (97 : Int32)), (.int (p1 ||| (32 : Int32)))])) _
        refine XS.icmpYes X0.here hx rfl (pc0 := 26) (pc' := 52) rfl (hb hby d1_26) rfl (tlt hc26).1 (by decide) (by decide) ?_
        show Steps p.tables e below (T0.setTop (mkF m 52 #[.val (.int p1), .val (.int p2), .unset] [])) _
        refine XS.iconst X0.here hx rfl (hb hby d1_52) ?_
        show Steps p.tables e below (T0.setTop (mkF m 53 #[.val (.int p1), .val (.int p2), .unset] [(.int (-1 : Int32))])) _
        refine XS.istoreN X0.here hx rfl (hb hby d1_53) rfl (l' := #[.val (.int p1), .val (.int p2), .val (.int (-1 : Int32))]) rfl ?_
        exact kt
      · by_cases hc35 : (122 : Int32) < (p1 ||| (32 : Int32))
        · intro target kt
          rw [show (own_dvV p1) = (-1 : Int32) by simp only [own_dvV, own_alpha, hc3, hc9, hc26, hc35, ↓reduceIte]] at kt
          show Steps p.tables e below (T0.setTop (mkF m 0 #[.val (.int p1), .val (.int p2), .unset] [])) _
          refine XS.iloadN X0.here hx rfl (hb hby d1_0) rfl ?_
          show Steps p.tables e below (T0.setTop (mkF m 1 #[.val (.int p1), .val (.int p2), .unset] [(.int p1)])) _
          refine XS.bipush X0.here hx rfl (hb hby d1_1) ?_
          show Steps p.tables e below (T0.setTop (mkF m 3 #[.val (.int p1), .val (.int p2), .unset] [(.int (48 : Int32)), (.int p1)])) _
          refine XS.icmpNo X0.here hx rfl (hb hby d1_3) rfl (flt hc3).1 ?_
          show Steps p.tables e below (T0.setTop (mkF m 6 #[.val (.int p1), .val (.int p2), .unset] [])) _
          refine XS.iloadN X0.here hx rfl (hb hby d1_6) rfl ?_
          show Steps p.tables e below (T0.setTop (mkF m 7 #[.val (.int p1), .val (.int p2), .unset] [(.int p1)])) _
          refine XS.bipush X0.here hx rfl (hb hby d1_7) ?_
          show Steps p.tables e below (T0.setTop (mkF m 9 #[.val (.int p1), .val (.int p2), .unset] [(.int (57 : Int32)), (.int p1)])) _
          refine XS.icmpYes X0.here hx rfl (pc0 := 9) (pc' := 20) rfl (hb hby d1_9) rfl (tlt hc9).2.2.1 (by decide) (by decide) ?_
          show Steps p.tables e below (T0.setTop (mkF m 20 #[.val (.int p1), .val (.int p2), .unset] [])) _
          refine XS.iloadN X0.here hx rfl (hb hby d1_20) rfl ?_
          show Steps p.tables e below (T0.setTop (mkF m 21 #[.val (.int p1), .val (.int p2), .unset] [(.int p1)])) _
          refine XS.bipush X0.here hx rfl (hb hby d1_21) ?_
          show Steps p.tables e below (T0.setTop (mkF m 23 #[.val (.int p1), .val (.int p2), .unset] [(.int (32 : Int32)), (.int p1)])) _
          refine XS.ior X0.here hx rfl (hb hby d1_23) rfl ?_
          show Steps p.tables e below (T0.setTop (mkF m 24 #[.val (.int p1), .val (.int p2), .unset] [(.int (p1 ||| (32 : Int32)))])) _
          refine XS.bipush X0.here hx rfl (hb hby d1_24) ?_
          show Steps p.tables e below (T0.setTop (mkF m 26 #[.val (.int p1), .val (.int p2), .unset] [(.int (97 : Int32)), (.int (p1 ||| (32 : Int32)))])) _
          refine XS.icmpNo X0.here hx rfl (hb hby d1_26) rfl (flt hc26).1 ?_
          show Steps p.tables e below (T0.setTop (mkF m 29 #[.val (.int p1), .val (.int p2), .unset] [])) _
          refine XS.iloadN X0.here hx rfl (hb hby d1_29) rfl ?_
          show Steps p.tables e below (T0.setTop (mkF m 30 #[.val (.int p1), .val (.int p2), .unset] [(.int p1)])) _
          refine XS.bipush X0.here hx rfl (hb hby d1_30) ?_
          show Steps p.tables e below (T0.setTop (mkF m 32 #[.val (.int p1), .val (.int p2), .unset] [(.int (32 : Int32)), (.int p1)])) _
          refine XS.ior X0.here hx rfl (hb hby d1_32) rfl ?_
          show Steps p.tables e below (T0.setTop (mkF m 33 #[.val (.int p1), .val (.int p2), .unset] [(.int (p1 ||| (32 : Int32)))])) _
          refine XS.bipush X0.here hx rfl (hb hby d1_33) ?_
          show Steps p.tables e below (T0.setTop (mkF m 35 #[.val (.int p1), .val (.int p2), .unset] [(.int (122 : Int32)), (.int (p1 ||| (32 : Int32)))])) _
          refine XS.icmpYes X0.here hx rfl (pc0 := 35) (pc' := 52) rfl (hb hby d1_35) rfl (tlt hc35).2.2.1 (by decide) (by decide) ?_
          show Steps p.tables e below (T0.setTop (mkF m 52 #[.val (.int p1), .val (.int p2), .unset] [])) _
          refine XS.iconst X0.here hx rfl (hb hby d1_52) ?_
          show Steps p.tables e below (T0.setTop (mkF m 53 #[.val (.int p1), .val (.int p2), .unset] [(.int (-1 : Int32))])) _
          refine XS.istoreN X0.here hx rfl (hb hby d1_53) rfl (l' := #[.val (.int p1), .val (.int p2), .val (.int (-1 : Int32))]) rfl ?_
          exact kt
        · intro target kt
          rw [show (own_dvV p1) = (((p1 ||| (32 : Int32)) - (97 : Int32)) + (10 : Int32)) by simp only [own_dvV, own_alpha, hc3, hc9, hc26, hc35, ↓reduceIte]] at kt
          show Steps p.tables e below (T0.setTop (mkF m 0 #[.val (.int p1), .val (.int p2), .unset] [])) _
          refine XS.iloadN X0.here hx rfl (hb hby d1_0) rfl ?_
          show Steps p.tables e below (T0.setTop (mkF m 1 #[.val (.int p1), .val (.int p2), .unset] [(.int p1)])) _
          refine XS.bipush X0.here hx rfl (hb hby d1_1) ?_
          show Steps p.tables e below (T0.setTop (mkF m 3 #[.val (.int p1), .val (.int p2), .unset] [(.int (48 : Int32)), (.int p1)])) _
          refine XS.icmpNo X0.here hx rfl (hb hby d1_3) rfl (flt hc3).1 ?_
          show Steps p.tables e below (T0.setTop (mkF m 6 #[.val (.int p1), .val (.int p2), .unset] [])) _
          refine XS.iloadN X0.here hx rfl (hb hby d1_6) rfl ?_
          show Steps p.tables e below (T0.setTop (mkF m 7 #[.val (.int p1), .val (.int p2), .unset] [(.int p1)])) _
          refine XS.bipush X0.here hx rfl (hb hby d1_7) ?_
          show Steps p.tables e below (T0.setTop (mkF m 9 #[.val (.int p1), .val (.int p2), .unset] [(.int (57 : Int32)), (.int p1)])) _
          refine XS.icmpYes X0.here hx rfl (pc0 := 9) (pc' := 20) rfl (hb hby d1_9) rfl (tlt hc9).2.2.1 (by decide) (by decide) ?_
          show Steps p.tables e below (T0.setTop (mkF m 20 #[.val (.int p1), .val (.int p2), .unset] [])) _
          refine XS.iloadN X0.here hx rfl (hb hby d1_20) rfl ?_
          show Steps p.tables e below (T0.setTop (mkF m 21 #[.val (.int p1), .val (.int p2), .unset] [(.int p1)])) _
          refine XS.bipush X0.here hx rfl (hb hby d1_21) ?_
          show Steps p.tables e below (T0.setTop (mkF m 23 #[.val (.int p1), .val (.int p2), .unset] [(.int (32 : Int32)), (.int p1)])) _
          refine XS.ior X0.here hx rfl (hb hby d1_23) rfl ?_
          show Steps p.tables e below (T0.setTop (mkF m 24 #[.val (.int p1), .val (.int p2), .unset] [(.int (p1 ||| (32 : Int32)))])) _
          refine XS.bipush X0.here hx rfl (hb hby d1_24) ?_
          show Steps p.tables e below (T0.setTop (mkF m 26 #[.val (.int p1), .val (.int p2), .unset] [(.int (97 : Int32)), (.int (p1 ||| (32 : Int32)))])) _
          refine XS.icmpNo X0.here hx rfl (hb hby d1_26) rfl (flt hc26).1 ?_
          show Steps p.tables e below (T0.setTop (mkF m 29 #[.val (.int p1), .val (.int p2), .unset] [])) _
          refine XS.iloadN X0.here hx rfl (hb hby d1_29) rfl ?_
          show Steps p.tables e below (T0.setTop (mkF m 30 #[.val (.int p1), .val (.int p2), .unset] [(.int p1)])) _
          refine XS.bipush X0.here hx rfl (hb hby d1_30) ?_
          show Steps p.tables e below (T0.setTop (mkF m 32 #[.val (.int p1), .val (.int p2), .unset] [(.int (32 : Int32)), (.int p1)])) _
          refine XS.ior X0.here hx rfl (hb hby d1_32) rfl ?_
          show Steps p.tables e below (T0.setTop (mkF m 33 #[.val (.int p1), .val (.int p2), .unset] [(.int (p1 ||| (32 : Int32)))])) _
          refine XS.bipush X0.here hx rfl (hb hby d1_33) ?_
          show Steps p.tables e below (T0.setTop (mkF m 35 #[.val (.int p1), .val (.int p2), .unset] [(.int (122 : Int32)), (.int (p1 ||| (32 : Int32)))])) _
          refine XS.icmpNo X0.here hx rfl (hb hby d1_35) rfl (flt hc35).2.2.1 ?_
          show Steps p.tables e below (T0.setTop (mkF m 38 #[.val (.int p1), .val (.int p2), .unset] [])) _
          refine XS.iloadN X0.here hx rfl (hb hby d1_38) rfl ?_
          show Steps p.tables e below (T0.setTop (mkF m 39 #[.val (.int p1), .val (.int p2), .unset] [(.int p1)])) _
          refine XS.bipush X0.here hx rfl (hb hby d1_39) ?_
          show Steps p.tables e below (T0.setTop (mkF m 41 #[.val (.int p1), .val (.int p2), .unset] [(.int (32 : Int32)), (.int p1)])) _
          refine XS.ior X0.here hx rfl (hb hby d1_41) rfl ?_
          show Steps p.tables e below (T0.setTop (mkF m 42 #[.val (.int p1), .val (.int p2), .unset] [(.int (p1 ||| (32 : Int32)))])) _
          refine XS.bipush X0.here hx rfl (hb hby d1_42) ?_
          show Steps p.tables e below (T0.setTop (mkF m 44 #[.val (.int p1), .val (.int p2), .unset] [(.int (97 : Int32)), (.int (p1 ||| (32 : Int32)))])) _
          refine XS.isub X0.here hx rfl (hb hby d1_44) rfl ?_
          show Steps p.tables e below (T0.setTop (mkF m 45 #[.val (.int p1), .val (.int p2), .unset] [(.int ((p1 ||| (32 : Int32)) - (97 : Int32)))])) _
          refine XS.bipush X0.here hx rfl (hb hby d1_45) ?_
          show Steps p.tables e below (T0.setTop (mkF m 47 #[.val (.int p1), .val (.int p2), .unset] [(.int (10 : Int32)), (.int ((p1 ||| (32 : Int32)) - (97 : Int32)))])) _
          refine XS.iadd X0.here hx rfl (hb hby d1_47) rfl ?_
          show Steps p.tables e below (T0.setTop (mkF m 48 #[.val (.int p1), .val (.int p2), .unset] [(.int (((p1 ||| (32 : Int32)) - (97 : Int32)) + (10 : Int32)))])) _
          refine XS.istoreN X0.here hx rfl (hb hby d1_48) rfl (l' := #[.val (.int p1), .val (.int p2), .val (.int (((p1 ||| (32 : Int32)) - (97 : Int32)) + (10 : Int32)))]) rfl ?_
          show Steps p.tables e below (T0.setTop (mkF m 49 #[.val (.int p1), .val (.int p2), .val (.int (((p1 ||| (32 : Int32)) - (97 : Int32)) + (10 : Int32)))] [])) _
          refine XS.goto X0.here hx rfl (pc0 := 49) (pc' := 54) rfl (hb hby d1_49) (by decide) (by decide) ?_
          exact kt
    · intro target kt
      rw [show (own_dvV p1) = (p1 - (48 : Int32)) by simp only [own_dvV, own_alpha, hc3, hc9, ↓reduceIte]] at kt
      show Steps p.tables e below (T0.setTop (mkF m 0 #[.val (.int p1), .val (.int p2), .unset] [])) _
      refine XS.iloadN X0.here hx rfl (hb hby d1_0) rfl ?_
      show Steps p.tables e below (T0.setTop (mkF m 1 #[.val (.int p1), .val (.int p2), .unset] [(.int p1)])) _
      refine XS.bipush X0.here hx rfl (hb hby d1_1) ?_
      show Steps p.tables e below (T0.setTop (mkF m 3 #[.val (.int p1), .val (.int p2), .unset] [(.int (48 : Int32)), (.int p1)])) _
      refine XS.icmpNo X0.here hx rfl (hb hby d1_3) rfl (flt hc3).1 ?_
      show Steps p.tables e below (T0.setTop (mkF m 6 #[.val (.int p1), .val (.int p2), .unset] [])) _
      refine XS.iloadN X0.here hx rfl (hb hby d1_6) rfl ?_
      show Steps p.tables e below (T0.setTop (mkF m 7 #[.val (.int p1), .val (.int p2), .unset] [(.int p1)])) _
      refine XS.bipush X0.here hx rfl (hb hby d1_7) ?_
      show Steps p.tables e below (T0.setTop (mkF m 9 #[.val (.int p1), .val (.int p2), .unset] [(.int (57 : Int32)), (.int p1)])) _
      refine XS.icmpNo X0.here hx rfl (hb hby d1_9) rfl (flt hc9).2.2.1 ?_
      show Steps p.tables e below (T0.setTop (mkF m 12 #[.val (.int p1), .val (.int p2), .unset] [])) _
      refine XS.iloadN X0.here hx rfl (hb hby d1_12) rfl ?_
      show Steps p.tables e below (T0.setTop (mkF m 13 #[.val (.int p1), .val (.int p2), .unset] [(.int p1)])) _
      refine XS.bipush X0.here hx rfl (hb hby d1_13) ?_
      show Steps p.tables e below (T0.setTop (mkF m 15 #[.val (.int p1), .val (.int p2), .unset] [(.int (48 : Int32)), (.int p1)])) _
      refine XS.isub X0.here hx rfl (hb hby d1_15) rfl ?_
      show Steps p.tables e below (T0.setTop (mkF m 16 #[.val (.int p1), .val (.int p2), .unset] [(.int (p1 - (48 : Int32)))])) _
      refine XS.istoreN X0.here hx rfl (hb hby d1_16) rfl (l' := #[.val (.int p1), .val (.int p2), .val (.int (p1 - (48 : Int32)))]) rfl ?_
      show Steps p.tables e below (T0.setTop (mkF m 17 #[.val (.int p1), .val (.int p2), .val (.int (p1 - (48 : Int32)))] [])) _
      refine XS.goto X0.here hx rfl (pc0 := 17) (pc' := 54) rfl (hb hby d1_17) (by decide) (by decide) ?_
      exact kt
def Q1 (p1 p2 : Int32) (h0 : Heap) (n0 : Nat) (v : Option Value) (h : Heap) (L : List Loc) : Prop := v = some (.int (own_dv p1 p2)) ∧ Fr n0 L ∧ h = h0
set_option maxRecDepth 65536 in
set_option maxHeartbeats 40000000 in
theorem rm1 (l : Launch) (Z : State) (a0 : Array Value) (hw : ∀ d ∈ tables_1, d.before a0 Z = true) (ws : List Jvm.Cond) (p1 : Int32) (p2 : Int32) (h0 : Heap) (n0 : Nat) (Z0 : n0 ≤ h0.size)  :
    MetFree l (⟨"com/example/bulkwire/bulkwire/lua/Numbers", "digitValue", "(CI)I"⟩ : MethodName) (head1 (Jvm.Cond.code (⟨"com/example/bulkwire/bulkwire/lua/Numbers", "digitValue", "(CI)I"⟩ : MethodName) prog_105_method_26_code 3 (some .int) :: ws) ({ frames := 0, cells := 0, slots := 0, locals := 0 } : Room)) (fun a U => a = #[(.int p1), (.int p2)] ∧ Z.Warmed39 U.vm ∧ U.heap = h0) (fun _ _ _ _ _ => True) (fun _ U o U' => ∃ v L, o = .returned v ∧ Q1 p1 p2 h0 n0 v U'.heap L ∧ FrameEnd U o U' L ({ frames := 0, cells := 0, slots := 0, locals := 0 } : Room).cells ({ frames := 0, cells := 0, slots := 0, locals := 0 } : Room).slots) := by
  refine MetFree.of_bodySF (plainFor_of_name pn_1) hisR ?_
  intro p e s m args below meth c s₁ Bd hml0 hP hK
  obtain ⟨rfl, hZ, hh⟩ := hP
  have hx := Bd.exec
  have hby := Bd.bytes
  have hml : c.maxLocals = 3 := hml0
  have hown : s.vm.findClass "com/example/bulkwire/bulkwire/lua/Numbers" = some m.cls := findClass_of_methodNamed Bd.named
  have hnm := (name_of_methodNamed Bd.named Bd.method).1
  have X0 : Stand p l e ({ frames := 0, cells := 0, slots := 0, locals := 0 } : Room) s m #[(.int p1), (.int p2)] below meth c s₁ [] 0 0 := Stand.of_body Bd
  have e0 : s₁.heap = h0 := by rw [← hh, Bd.state]; rfl
  have N0 := Fr.nil n0
  have pre0 : ∀ t, Steps p.tables e below (s₁.setTop (mkF m 0 #[.val (.int p1), .val (.int p2), .unset] [])) t → Steps p.tables e below (s₁.setTop (entryFrame m #[(.int p1), (.int p2)] 3)) t := fun t k => castTop (ef_1 m p1 p2) k
  have k1 := sg1 p1 p2 X0 hx hZ hw hby hown
  by_cases hc56 : (own_dvV p1) < p2
  · obtain ⟨fs, hr, hrun, hended, hW, hsame⟩ := X0.leave (v := some (.int (own_dvV p1))) (fun h => by rw [Bd.returns] at h; cases h)
    refine ⟨_, _, pre0 _ ?_, hrun, hended, _, _, rfl, ?_, ⟨_, rfl⟩, hW, hsame.mono (by decide) (by decide)⟩
    · show Steps p.tables e below (s₁.setTop (mkF m 0 #[.val (.int p1), .val (.int p2), .unset] [])) _
      refine k1 _ ?_
      show Steps p.tables e below (s₁.setTop (mkF m 54 #[.val (.int p1), .val (.int p2), .val (.int (own_dvV p1))] [])) _
      refine XS.iloadN X0.here hx rfl (hb hby d1_54) rfl ?_
      show Steps p.tables e below (s₁.setTop (mkF m 55 #[.val (.int p1), .val (.int p2), .val (.int (own_dvV p1))] [(.int (own_dvV p1))])) _
      refine XS.iloadN X0.here hx rfl (hb hby d1_55) rfl ?_
      show Steps p.tables e below (s₁.setTop (mkF m 56 #[.val (.int p1), .val (.int p2), .val (.int (own_dvV p1))] [(.int p2), (.int (own_dvV p1))])) _
      refine XS.icmpNo X0.here hx rfl (hb hby d1_56) rfl (tlt hc56).2.1 ?_
      show Steps p.tables e below (s₁.setTop (mkF m 59 #[.val (.int p1), .val (.int p2), .val (.int (own_dvV p1))] [])) _
      refine XS.iloadN X0.here hx rfl (hb hby d1_59) rfl ?_
      show Steps p.tables e below (s₁.setTop (mkF m 60 #[.val (.int p1), .val (.int p2), .val (.int (own_dvV p1))] [(.int (own_dvV p1))])) _
      refine XS.goto X0.here hx rfl (pc0 := 60) (pc' := 64) rfl (hb hby d1_60) (by decide) (by decide) ?_
      show Steps p.tables e below (s₁.setTop (mkF m 64 #[.val (.int p1), .val (.int p2), .val (.int (own_dvV p1))] [(.int (own_dvV p1))])) _
      exact retI X0 hx Bd.returns (hb hby d1_64) hr
    · show Q1 p1 p2 h0 n0 _ s₁.heap _
      rw [e0]
      exact ⟨congrArg (fun z => some (Value.int z)) (show (own_dvV p1) = own_dv p1 p2 by simp only [own_dv, hc56, ↓reduceIte]), N0, rfl⟩
  · obtain ⟨fs, hr, hrun, hended, hW, hsame⟩ := X0.leave (v := some (.int (-1 : Int32))) (fun h => by rw [Bd.returns] at h; cases h)
    refine ⟨_, _, pre0 _ ?_, hrun, hended, _, _, rfl, ?_, ⟨_, rfl⟩, hW, hsame.mono (by decide) (by decide)⟩
    · show Steps p.tables e below (s₁.setTop (mkF m 0 #[.val (.int p1), .val (.int p2), .unset] [])) _
      refine k1 _ ?_
      show Steps p.tables e below (s₁.setTop (mkF m 54 #[.val (.int p1), .val (.int p2), .val (.int (own_dvV p1))] [])) _
      refine XS.iloadN X0.here hx rfl (hb hby d1_54) rfl ?_
      show Steps p.tables e below (s₁.setTop (mkF m 55 #[.val (.int p1), .val (.int p2), .val (.int (own_dvV p1))] [(.int (own_dvV p1))])) _
      refine XS.iloadN X0.here hx rfl (hb hby d1_55) rfl ?_
      show Steps p.tables e below (s₁.setTop (mkF m 56 #[.val (.int p1), .val (.int p2), .val (.int (own_dvV p1))] [(.int p2), (.int (own_dvV p1))])) _
      refine XS.icmpYes X0.here hx rfl (pc0 := 56) (pc' := 63) rfl (hb hby d1_56) rfl (flt hc56).2.1 (by decide) (by decide) ?_
      show Steps p.tables e below (s₁.setTop (mkF m 63 #[.val (.int p1), .val (.int p2), .val (.int (own_dvV p1))] [])) _
      refine XS.iconst X0.here hx rfl (hb hby d1_63) ?_
      show Steps p.tables e below (s₁.setTop (mkF m 64 #[.val (.int p1), .val (.int p2), .val (.int (own_dvV p1))] [(.int (-1 : Int32))])) _
      exact retI X0 hx Bd.returns (hb hby d1_64) hr
    · show Q1 p1 p2 h0 n0 _ s₁.heap _
      rw [e0]
      exact ⟨congrArg (fun z => some (Value.int z)) (show (-1 : Int32) = own_dv p1 p2 by simp only [own_dv, hc56, ↓reduceIte]), N0, rfl⟩
theorem d2_0 : decode method_2_code 0 = .ok (.iload_n 0, 1) := by decide +kernel
theorem d2_1 : decode method_2_code 1 = .ok (.bipush 48, 2) := by decide +kernel
theorem d2_3 : decode method_2_code 3 = .ok (.if_icmp .lt 17, 3) := by decide +kernel
theorem d2_6 : decode method_2_code 6 = .ok (.iload_n 0, 1) := by decide +kernel
theorem d2_7 : decode method_2_code 7 = .ok (.bipush 57, 2) := by decide +kernel
theorem d2_9 : decode method_2_code 9 = .ok (.if_icmp .gt 11, 3) := by decide +kernel
theorem d2_12 : decode method_2_code 12 = .ok (.iload_n 0, 1) := by decide +kernel
theorem d2_13 : decode method_2_code 13 = .ok (.bipush 48, 2) := by decide +kernel
theorem d2_15 : decode method_2_code 15 = .ok (.isub, 1) := by decide +kernel
theorem d2_16 : decode method_2_code 16 = .ok (.istore_n 2, 1) := by decide +kernel
theorem d2_17 : decode method_2_code 17 = .ok (.goto 51, 3) := by decide +kernel
theorem d2_20 : decode method_2_code 20 = .ok (.iload_n 0, 1) := by decide +kernel
theorem d2_21 : decode method_2_code 21 = .ok (.bipush 65, 2) := by decide +kernel
theorem d2_23 : decode method_2_code 23 = .ok (.if_icmp .lt 20, 3) := by decide +kernel
theorem d2_26 : decode method_2_code 26 = .ok (.iload_n 0, 1) := by decide +kernel
theorem d2_27 : decode method_2_code 27 = .ok (.bipush 90, 2) := by decide +kernel
theorem d2_29 : decode method_2_code 29 = .ok (.if_icmp .gt 14, 3) := by decide +kernel
theorem d2_32 : decode method_2_code 32 = .ok (.iload_n 0, 1) := by decide +kernel
theorem d2_33 : decode method_2_code 33 = .ok (.bipush 65, 2) := by decide +kernel
theorem d2_35 : decode method_2_code 35 = .ok (.isub, 1) := by decide +kernel
theorem d2_36 : decode method_2_code 36 = .ok (.bipush 10, 2) := by decide +kernel
theorem d2_38 : decode method_2_code 38 = .ok (.iadd, 1) := by decide +kernel
theorem d2_39 : decode method_2_code 39 = .ok (.istore_n 2, 1) := by decide +kernel
theorem d2_40 : decode method_2_code 40 = .ok (.goto 28, 3) := by decide +kernel
theorem d2_43 : decode method_2_code 43 = .ok (.iload_n 0, 1) := by decide +kernel
theorem d2_44 : decode method_2_code 44 = .ok (.bipush 97, 2) := by decide +kernel
theorem d2_46 : decode method_2_code 46 = .ok (.if_icmp .lt 20, 3) := by decide +kernel
theorem d2_49 : decode method_2_code 49 = .ok (.iload_n 0, 1) := by decide +kernel
theorem d2_50 : decode method_2_code 50 = .ok (.bipush 122, 2) := by decide +kernel
theorem d2_52 : decode method_2_code 52 = .ok (.if_icmp .gt 14, 3) := by decide +kernel
theorem d2_55 : decode method_2_code 55 = .ok (.iload_n 0, 1) := by decide +kernel
theorem d2_56 : decode method_2_code 56 = .ok (.bipush 97, 2) := by decide +kernel
theorem d2_58 : decode method_2_code 58 = .ok (.isub, 1) := by decide +kernel
theorem d2_59 : decode method_2_code 59 = .ok (.bipush 10, 2) := by decide +kernel
theorem d2_61 : decode method_2_code 61 = .ok (.iadd, 1) := by decide +kernel
theorem d2_62 : decode method_2_code 62 = .ok (.istore_n 2, 1) := by decide +kernel
theorem d2_63 : decode method_2_code 63 = .ok (.goto 5, 3) := by decide +kernel
theorem d2_66 : decode method_2_code 66 = .ok (.iconst (-1), 1) := by decide +kernel
theorem d2_67 : decode method_2_code 67 = .ok (.istore_n 2, 1) := by decide +kernel
theorem d2_68 : decode method_2_code 68 = .ok (.iload_n 2, 1) := by decide +kernel
theorem d2_69 : decode method_2_code 69 = .ok (.ifCond .lt 10, 3) := by decide +kernel
theorem d2_72 : decode method_2_code 72 = .ok (.iload_n 2, 1) := by decide +kernel
theorem d2_73 : decode method_2_code 73 = .ok (.iload_n 1, 1) := by decide +kernel
theorem d2_74 : decode method_2_code 74 = .ok (.if_icmp .ge 5, 3) := by decide +kernel
theorem d2_77 : decode method_2_code 77 = .ok (.iload_n 2, 1) := by decide +kernel
theorem d2_78 : decode method_2_code 78 = .ok (.ireturn, 1) := by decide +kernel
theorem d2_79 : decode method_2_code 79 = .ok (.iconst (-1), 1) := by decide +kernel
theorem d2_80 : decode method_2_code 80 = .ok (.ireturn, 1) := by decide +kernel
theorem pn_2 : plainName "com/example/bulkwire/bulkwire/lua/NumbersDigitValuePinLaw" = true := by first | (simp [plainName, overriddenIn]; done) | decide +kernel
theorem ef_2 (m : MethodId) (p1 : Int32) (p2 : Int32) : entryFrame m #[(.int p1), (.int p2)] 3 = mkF m 0 #[.val (.int p1), .val (.int p2), .unset] [] := by first | (simp [entryFrame, mkF, argsToLocals, Value.category]; done) | rfl
set_option maxRecDepth 65536 in
set_option maxHeartbeats 40000000 in
theorem sg2 {p : Program} {l : Launch} {e : Env} {R : Room} {s : State} {m : MethodId} {args : Array Value} {below : List Frame} {meth : Method} {c : Code} {T0 : State} {locs : List Loc} {cells slots : Nat} {Z : State} {a0 : Array Value} (p1 p2 : Int32)
    (X0 : Stand p l e R s m args below meth c T0 locs cells slots) (hx : p.tables.exec = Jvm.exec) (hZ : Z.Warmed39 s.vm) (hw : ∀ d ∈ tables_1, d.before a0 Z = true) (hby : c.code = method_2_code) (hown : s.vm.findClass "com/example/bulkwire/bulkwire/lua/NumbersDigitValuePinLaw" = some m.cls) :
    ∀ target, Steps p.tables e below (T0.setTop (mkF m 68 #[.val (.int p1), .val (.int p2), .val (.int (own_rfV p1))] [])) target → Steps p.tables e below (T0.setTop (mkF m 0 #[.val (.int p1), .val (.int p2), .unset] [])) target := by
  by_cases hc3 : p1 < (48 : Int32)
  · by_cases hc23 : p1 < (65 : Int32)
    · by_cases hc46 : p1 < (97 : Int32)
      · intro target kt
        rw [show (own_rfV p1) = (-1 : Int32) by simp only [own_rfV, own_up, own_low, hc3, hc23, hc46, ↓reduceIte]] at kt
        show Steps p.tables e below (T0.setTop (mkF m 0 #[.val (.int p1), .val (.int p2), .unset] [])) _
        refine XS.iloadN X0.here hx rfl (hb hby d2_0) rfl ?_
        show Steps p.tables e below (T0.setTop (mkF m 1 #[.val (.int p1), .val (.int p2), .unset] [(.int p1)])) _
        refine XS.bipush X0.here hx rfl (hb hby d2_1) ?_
        show Steps p.tables e below (T0.setTop (mkF m 3 #[.val (.int p1), .val (.int p2), .unset] [(.int (48 : Int32)), (.int p1)])) _
        refine XS.icmpYes X0.here hx rfl (pc0 := 3) (pc' := 20) rfl (hb hby d2_3) rfl (tlt hc3).1 (by decide) (by decide) ?_
        show Steps p.tables e below (T0.setTop (mkF m 20 #[.val (.int p1), .val (.int p2), .unset] [])) _
        refine XS.iloadN X0.here hx rfl (hb hby d2_20) rfl ?_
        show Steps p.tables e below (T0.setTop (mkF m 21 #[.val (.int p1), .val (.int p2), .unset] [(.int p1)])) _
        refine XS.bipush X0.here hx rfl (hb hby d2_21) ?_
        show Steps p.tables e below (T0.setTop (mkF m 23 #[.val (.int p1), .val (.int p2), .unset] [(.int (65 : Int32)), (.int p1)])) _
        refine XS.icmpYes X0.here hx rfl (pc0 := 23) (pc' := 43) rfl (hb hby d2_23) rfl (tlt hc23).1 (by decide) (by decide) ?_
        show Steps p.tables e below (T0.setTop (mkF m 43 #[.val (.int p1), .val (.int p2), .unset] [])) _
        refine XS.iloadN X0.here hx rfl (hb hby d2_43) rfl ?_
        show Steps p.tables e below (T0.setTop (mkF m 44 #[.val (.int p1), .val (.int p2), .unset] [(.int p1)])) _
        refine XS.bipush X0.here hx rfl (hb hby d2_44) ?_
        show Steps p.tables e below (T0.setTop (mkF m 46 #[.val (.int p1), .val (.int p2), .unset] [(.int (97 : Int32)), (.int p1)])) _
        refine XS.icmpYes X0.here hx rfl (pc0 := 46) (pc' := 66) rfl (hb hby d2_46) rfl (tlt hc46).1 (by decide) (by decide) ?_
        show Steps p.tables e below (T0.setTop (mkF m 66 #[.val (.int p1), .val (.int p2), .unset] [])) _
        refine XS.iconst X0.here hx rfl (hb hby d2_66) ?_
        show Steps p.tables e below (T0.setTop (mkF m 67 #[.val (.int p1), .val (.int p2), .unset] [(.int (-1 : Int32))])) _
        refine XS.istoreN X0.here hx rfl (hb hby d2_67) rfl (l' := #[.val (.int p1), .val (.int p2), .val (.int (-1 : Int32))]) rfl ?_
        exact kt
      · by_cases hc52 : (122 : Int32) < p1
        · intro target kt
          rw [show (own_rfV p1) = (-1 : Int32) by simp only [own_rfV, own_up, own_low, hc3, hc23, hc46, hc52, ↓reduceIte]] at kt
          show Steps p.tables e below (T0.setTop (mkF m 0 #[.val (.int p1), .val (.int p2), .unset] [])) _
          refine XS.iloadN X0.here hx rfl (hb hby d2_0) rfl ?_
          show Steps p.tables e below (T0.setTop (mkF m 1 #[.val (.int p1), .val (.int p2), .unset] [(.int p1)])) _
          refine XS.bipush X0.here hx rfl (hb hby d2_1) ?_
          show Steps p.tables e below (T0.setTop (mkF m 3 #[.val (.int p1), .val (.int p2), .unset] [(.int (48 : Int32)), (.int p1)])) _
          refine XS.icmpYes X0.here hx rfl (pc0 := 3) (pc' := 20) rfl (hb hby d2_3) rfl (tlt hc3).1 (by decide) (by decide) ?_
          show Steps p.tables e below (T0.setTop (mkF m 20 #[.val (.int p1), .val (.int p2), .unset] [])) _
          refine XS.iloadN X0.here hx rfl (hb hby d2_20) rfl ?_
          show Steps p.tables e below (T0.setTop (mkF m 21 #[.val (.int p1), .val (.int p2), .unset] [(.int p1)])) _
          refine XS.bipush X0.here hx rfl (hb hby d2_21) ?_
          show Steps p.tables e below (T0.setTop (mkF m 23 #[.val (.int p1), .val (.int p2), .unset] [(.int (65 : Int32)), (.int p1)])) _
          refine XS.icmpYes X0.here hx rfl (pc0 := 23) (pc' := 43) rfl (hb hby d2_23) rfl (tlt hc23).1 (by decide) (by decide) ?_
          show Steps p.tables e below (T0.setTop (mkF m 43 #[.val (.int p1), .val (.int p2), .unset] [])) _
          refine XS.iloadN X0.here hx rfl (hb hby d2_43) rfl ?_
          show Steps p.tables e below (T0.setTop (mkF m 44 #[.val (.int p1), .val (.int p2), .unset] [(.int p1)])) _
          refine XS.bipush X0.here hx rfl (hb hby d2_44) ?_
          show Steps p.tables e below (T0.setTop (mkF m 46 #[.val (.int p1), .val (.int p2), .unset] [(.int (97 : Int32)), (.int p1)])) _
          refine XS.icmpNo X0.here hx rfl (hb hby d2_46) rfl (flt hc46).1 ?_
          show Steps p.tables e below (T0.setTop (mkF m 49 #[.val (.int p1), .val (.int p2), .unset] [])) _
          refine XS.iloadN X0.here hx rfl (hb hby d2_49) rfl ?_
          show Steps p.tables e below (T0.setTop (mkF m 50 #[.val (.int p1), .val (.int p2), .unset] [(.int p1)])) _
          refine XS.bipush X0.here hx rfl (hb hby d2_50) ?_
          show Steps p.tables e below (T0.setTop (mkF m 52 #[.val (.int p1), .val (.int p2), .unset] [(.int (122 : Int32)), (.int p1)])) _
          refine XS.icmpYes X0.here hx rfl (pc0 := 52) (pc' := 66) rfl (hb hby d2_52) rfl (tlt hc52).2.2.1 (by decide) (by decide) ?_
          show Steps p.tables e below (T0.setTop (mkF m 66 #[.val (.int p1), .val (.int p2), .unset] [])) _
          refine XS.iconst X0.here hx rfl (hb hby d2_66) ?_
          show Steps p.tables e below (T0.setTop (mkF m 67 #[.val (.int p1), .val (.int p2), .unset] [(.int (-1 : Int32))])) _
          refine XS.istoreN X0.here hx rfl (hb hby d2_67) rfl (l' := #[.val (.int p1), .val (.int p2), .val (.int (-1 : Int32))]) rfl ?_
          exact kt
        · intro target kt
          rw [show (own_rfV p1) = ((p1 - (97 : Int32)) + (10 : Int32)) by simp only [own_rfV, own_up, own_low, hc3, hc23, hc46, hc52, ↓reduceIte]] at kt
          show Steps p.tables e below (T0.setTop (mkF m 0 #[.val (.int p1), .val (.int p2), .unset] [])) _
          refine XS.iloadN X0.here hx rfl (hb hby d2_0) rfl ?_
          show Steps p.tables e below (T0.setTop (mkF m 1 #[.val (.int p1), .val (.int p2), .unset] [(.int p1)])) _
          refine XS.bipush X0.here hx rfl (hb hby d2_1) ?_
          show Steps p.tables e below (T0.setTop (mkF m 3 #[.val (.int p1), .val (.int p2), .unset] [(.int (48 : Int32)), (.int p1)])) _
          refine XS.icmpYes X0.here hx rfl (pc0 := 3) (pc' := 20) rfl (hb hby d2_3) rfl (tlt hc3).1 (by decide) (by decide) ?_
          show Steps p.tables e below (T0.setTop (mkF m 20 #[.val (.int p1), .val (.int p2), .unset] [])) _
          refine XS.iloadN X0.here hx rfl (hb hby d2_20) rfl ?_
          show Steps p.tables e below (T0.setTop (mkF m 21 #[.val (.int p1), .val (.int p2), .unset] [(.int p1)])) _
          refine XS.bipush X0.here hx rfl (hb hby d2_21) ?_
          show Steps p.tables e below (T0.setTop (mkF m 23 #[.val (.int p1), .val (.int p2), .unset] [(.int (65 : Int32)), (.int p1)])) _
          refine XS.icmpYes X0.here hx rfl (pc0 := 23) (pc' := 43) rfl (hb hby d2_23) rfl (tlt hc23).1 (by decide) (by decide) ?_
          show Steps p.tables e below (T0.setTop (mkF m 43 #[.val (.int p1), .val (.int p2), .unset] [])) _
          refine XS.iloadN X0.here hx rfl (hb hby d2_43) rfl ?_
          show Steps p.tables e below (T0.setTop (mkF m 44 #[.val (.int p1), .val (.int p2), .unset] [(.int p1)])) _
          refine XS.bipush X0.here hx rfl (hb hby d2_44) ?_
          show Steps p.tables e below (T0.setTop (mkF m 46 #[.val (.int p1), .val (.int p2), .unset] [(.int (97 : Int32)), (.int p1)])) _
          refine XS.icmpNo X0.here hx rfl (hb hby d2_46) rfl (flt hc46).1 ?_
          show Steps p.tables e below (T0.setTop (mkF m 49 #[.val (.int p1), .val (.int p2), .unset] [])) _
          refine XS.iloadN X0.here hx rfl (hb hby d2_49) rfl ?_
          show Steps p.tables e below (T0.setTop (mkF m 50 #[.val (.int p1), .val (.int p2), .unset] [(.int p1)])) _
          refine XS.bipush X0.here hx rfl (hb hby d2_50) ?_
          show Steps p.tables e below (T0.setTop (mkF m 52 #[.val (.int p1), .val (.int p2), .unset] [(.int (122 : Int32)), (.int p1)])) _
          refine XS.icmpNo X0.here hx rfl (hb hby d2_52) rfl (flt hc52).2.2.1 ?_
          show Steps p.tables e below (T0.setTop (mkF m 55 #[.val (.int p1), .val (.int p2), .unset] [])) _
          refine XS.iloadN X0.here hx rfl (hb hby d2_55) rfl ?_
          show Steps p.tables e below (T0.setTop (mkF m 56 #[.val (.int p1), .val (.int p2), .unset] [(.int p1)])) _
          refine XS.bipush X0.here hx rfl (hb hby d2_56) ?_
          show Steps p.tables e below (T0.setTop (mkF m 58 #[.val (.int p1), .val (.int p2), .unset] [(.int (97 : Int32)), (.int p1)])) _
          refine XS.isub X0.here hx rfl (hb hby d2_58) rfl ?_
          show Steps p.tables e below (T0.setTop (mkF m 59 #[.val (.int p1), .val (.int p2), .unset] [(.int (p1 - (97 : Int32)))])) _
          refine XS.bipush X0.here hx rfl (hb hby d2_59) ?_
          show Steps p.tables e below (T0.setTop (mkF m 61 #[.val (.int p1), .val (.int p2), .unset] [(.int (10 : Int32)), (.int (p1 - (97 : Int32)))])) _
          refine XS.iadd X0.here hx rfl (hb hby d2_61) rfl ?_
          show Steps p.tables e below (T0.setTop (mkF m 62 #[.val (.int p1), .val (.int p2), .unset] [(.int ((p1 - (97 : Int32)) + (10 : Int32)))])) _
          refine XS.istoreN X0.here hx rfl (hb hby d2_62) rfl (l' := #[.val (.int p1), .val (.int p2), .val (.int ((p1 - (97 : Int32)) + (10 : Int32)))]) rfl ?_
          show Steps p.tables e below (T0.setTop (mkF m 63 #[.val (.int p1), .val (.int p2), .val (.int ((p1 - (97 : Int32)) + (10 : Int32)))] [])) _
          refine XS.goto X0.here hx rfl (pc0 := 63) (pc' := 68) rfl (hb hby d2_63) (by decide) (by decide) ?_
          exact kt
    · by_cases hc29 : (90 : Int32) < p1
      · by_cases hc46 : p1 < (97 : Int32)
        · intro target kt
          rw [show (own_rfV p1) = (-1 : Int32) by simp only [own_rfV, own_up, own_low, hc3, hc23, hc29, hc46, ↓reduceIte]] at kt
          show Steps p.tables e below (T0.setTop (mkF m 0 #[.val (.int p1), .val (.int p2), .unset] [])) _
          refine XS.iloadN X0.here hx rfl (hb hby d2_0) rfl ?_
          show Steps p.tables e below (T0.setTop (mkF m 1 #[.val (.int p1), .val (.int p2), .unset] [(.int p1)])) _
          refine XS.bipush X0.here hx rfl (hb hby d2_1) ?_
          show Steps p.tables e below (T0.setTop (mkF m 3 #[.val (.int p1), .val (.int p2), .unset] [(.int (48 : Int32)), (.int p1)])) _
          refine XS.icmpYes X0.here hx rfl (pc0 := 3) (pc' := 20) rfl (hb hby d2_3) rfl (tlt hc3).1 (by decide) (by decide) ?_
          show Steps p.tables e below (T0.setTop (mkF m 20 #[.val (.int p1), .val (.int p2), .unset] [])) _
          refine XS.iloadN X0.here hx rfl (hb hby d2_20) rfl ?_
          show Steps p.tables e below (T0.setTop (mkF m 21 #[.val (.int p1), .val (.int p2), .unset] [(.int p1)])) _
          refine XS.bipush X0.here hx rfl (hb hby d2_21) ?_
          show Steps p.tables e below (T0.setTop (mkF m 23 #[.val (.int p1), .val (.int p2), .unset] [(.int (65 : Int32)), (.int p1)])) _
          refine XS.icmpNo X0.here hx rfl (hb hby d2_23) rfl (flt hc23).1 ?_
          show Steps p.tables e below (T0.setTop (mkF m 26 #[.val (.int p1), .val (.int p2), .unset] [])) _
          refine XS.iloadN X0.here hx rfl (hb hby d2_26) rfl ?_
          show Steps p.tables e below (T0.setTop (mkF m 27 #[.val (.int p1), .val (.int p2), .unset] [(.int p1)])) _
          refine XS.bipush X0.here hx rfl (hb hby d2_27) ?_
          show Steps p.tables e below (T0.setTop (mkF m 29 #[.val (.int p1), .val (.int p2), .unset] [(.int (90 : Int32)), (.int p1)])) _
          refine XS.icmpYes X0.here hx rfl (pc0 := 29) (pc' := 43) rfl (hb hby d2_29) rfl (tlt hc29).2.2.1 (by decide) (by decide) ?_
          show Steps p.tables e below (T0.setTop (mkF m 43 #[.val (.int p1), .val (.int p2), .unset] [])) _
          refine XS.iloadN X0.here hx rfl (hb hby d2_43) rfl ?_
          show Steps p.tables e below (T0.setTop (mkF m 44 #[.val (.int p1), .val (.int p2), .unset] [(.int p1)])) _
          refine XS.bipush X0.here hx rfl (hb hby d2_44) ?_
          show Steps p.tables e below (T0.setTop (mkF m 46 #[.val (.int p1), .val (.int p2), .unset] [(.int (97 : Int32)), (.int p1)])) _
          refine XS.icmpYes X0.here hx rfl (pc0 := 46) (pc' := 66) rfl (hb hby d2_46) rfl (tlt hc46).1 (by decide) (by decide) ?_
          show Steps p.tables e below (T0.setTop (mkF m 66 #[.val (.int p1), .val (.int p2), .unset] [])) _
          refine XS.iconst X0.here hx rfl (hb hby d2_66) ?_
          show Steps p.tables e below (T0.setTop (mkF m 67 #[.val (.int p1), .val (.int p2), .unset] [(.int (-1 : Int32))])) _
          refine XS.istoreN X0.here hx rfl (hb hby d2_67) rfl (l' := #[.val (.int p1), .val (.int p2), .val (.int (-1 : Int32))]) rfl ?_
          exact kt
        · by_cases hc52 : (122 : Int32) < p1
          · intro target kt
            rw [show (own_rfV p1) = (-1 : Int32) by simp only [own_rfV, own_up, own_low, hc3, hc23, hc29, hc46, hc52, ↓reduceIte]] at kt
            show Steps p.tables e below (T0.setTop (mkF m 0 #[.val (.int p1), .val (.int p2), .unset] [])) _
            refine XS.iloadN X0.here hx rfl (hb hby d2_0) rfl ?_
            show Steps p.tables e below (T0.setTop (mkF m 1 #[.val (.int p1), .val (.int p2), .unset] [(.int p1)])) _
            refine XS.bipush X0.here hx rfl (hb hby d2_1) ?_
            show Steps p.tables e below (T0.setTop (mkF m 3 #[.val (.int p1), .val (.int p2), .unset] [(.int (48 : Int32)), (.int p1)])) _
            refine XS.icmpYes X0.here hx rfl (pc0 := 3) (pc' := 20) rfl (hb hby d2_3) rfl (tlt hc3).1 (by decide) (by decide) ?_
            show Steps p.tables e below (T0.setTop (mkF m 20 #[.val (.int p1), .val (.int p2), .unset] [])) _
            refine XS.iloadN X0.here hx rfl (hb hby d2_20) rfl ?_
            show Steps p.tables e below (T0.setTop (mkF m 21 #[.val (.int p1), .val (.int p2), .unset] [(.int p1)])) _
            refine XS.bipush X0.here hx rfl (hb hby d2_21) ?_
            show Steps p.tables e below (T0.setTop (mkF m 23 #[.val (.int p1), .val (.int p2), .unset] [(.int (65 : Int32)), (.int p1)])) _
            refine XS.icmpNo X0.here hx rfl (hb hby d2_23) rfl (flt hc23).1 ?_
            show Steps p.tables e below (T0.setTop (mkF m 26 #[.val (.int p1), .val (.int p2), .unset] [])) _
            refine XS.iloadN X0.here hx rfl (hb hby d2_26) rfl ?_
            show Steps p.tables e below (T0.setTop (mkF m 27 #[.val (.int p1), .val (.int p2), .unset] [(.int p1)])) _
            refine XS.bipush X0.here hx rfl (hb hby d2_27) ?_
            show Steps p.tables e below (T0.setTop (mkF m 29 #[.val (.int p1), .val (.int p2), .unset] [(.int (90 : Int32)), (.int p1)])) _
            refine XS.icmpYes X0.here hx rfl (pc0 := 29) (pc' := 43) rfl (hb hby d2_29) rfl (tlt hc29).2.2.1 (by decide) (by decide) ?_
            show Steps p.tables e below (T0.setTop (mkF m 43 #[.val (.int p1), .val (.int p2), .unset] [])) _
            refine XS.iloadN X0.here hx rfl (hb hby d2_43) rfl ?_
            show Steps p.tables e below (T0.setTop (mkF m 44 #[.val (.int p1), .val (.int p2), .unset] [(.int p1)])) _
            refine XS.bipush X0.here hx rfl (hb hby d2_44) ?_
            show Steps p.tables e below (T0.setTop (mkF m 46 #[.val (.int p1), .val (.int p2), .unset] [(.int (97 : Int32)), (.int p1)])) _
            refine XS.icmpNo X0.here hx rfl (hb hby d2_46) rfl (flt hc46).1 ?_
            show Steps p.tables e below (T0.setTop (mkF m 49 #[.val (.int p1), .val (.int p2), .unset] [])) _
            refine XS.iloadN X0.here hx rfl (hb hby d2_49) rfl ?_
            show Steps p.tables e below (T0.setTop (mkF m 50 #[.val (.int p1), .val (.int p2), .unset] [(.int p1)])) _
            refine XS.bipush X0.here hx rfl (hb hby d2_50) ?_
            show Steps p.tables e below (T0.setTop (mkF m 52 #[.val (.int p1), .val (.int p2), .unset] [(.int (122 : Int32)), (.int p1)])) _
            refine XS.icmpYes X0.here hx rfl (pc0 := 52) (pc' := 66) rfl (hb hby d2_52) rfl (tlt hc52).2.2.1 (by decide) (by decide) ?_
            show Steps p.tables e below (T0.setTop (mkF m 66 #[.val (.int p1), .val (.int p2), .unset] [])) _
            refine XS.iconst X0.here hx rfl (hb hby d2_66) ?_
            show Steps p.tables e below (T0.setTop (mkF m 67 #[.val (.int p1), .val (.int p2), .unset] [(.int (-1 : Int32))])) _
            refine XS.istoreN X0.here hx rfl (hb hby d2_67) rfl (l' := #[.val (.int p1), .val (.int p2), .val (.int (-1 : Int32))]) rfl ?_
            exact kt
          · intro target kt
            rw [show (own_rfV p1) = ((p1 - (97 : Int32)) + (10 : Int32)) by simp only [own_rfV, own_up, own_low, hc3, hc23, hc29, hc46, hc52, ↓reduceIte]] at kt
            show Steps p.tables e below (T0.setTop (mkF m 0 #[.val (.int p1), .val (.int p2), .unset] [])) _
            refine XS.iloadN X0.here hx rfl (hb hby d2_0) rfl ?_
            show Steps p.tables e below (T0.setTop (mkF m 1 #[.val (.int p1), .val (.int p2), .unset] [(.int p1)])) _
            refine XS.bipush X0.here hx rfl (hb hby d2_1) ?_
            show Steps p.tables e below (T0.setTop (mkF m 3 #[.val (.int p1), .val (.int p2), .unset] [(.int (48 : Int32)), (.int p1)])) _
            refine XS.icmpYes X0.here hx rfl (pc0 := 3) (pc' := 20) rfl (hb hby d2_3) rfl (tlt hc3).1 (by decide) (by decide) ?_
            show Steps p.tables e below (T0.setTop (mkF m 20 #[.val (.int p1), .val (.int p2), .unset] [])) _
            refine XS.iloadN X0.here hx rfl (hb hby d2_20) rfl ?_
            show Steps p.tables e below (T0.setTop (mkF m 21 #[.val (.int p1), .val (.int p2), .unset] [(.int p1)])) _
            refine XS.bipush X0.here hx rfl (hb hby d2_21) ?_
            show Steps p.tables e below (T0.setTop (mkF m 23 #[.val (.int p1), .val (.int p2), .unset] [(.int (65 : Int32)), (.int p1)])) _
            refine XS.icmpNo X0.here hx rfl (hb hby d2_23) rfl (flt hc23).1 ?_
            show Steps p.tables e below (T0.setTop (mkF m 26 #[.val (.int p1), .val (.int p2), .unset] [])) _
            refine XS.iloadN X0.here hx rfl (hb hby d2_26) rfl ?_
            show Steps p.tables e below (T0.setTop (mkF m 27 #[.val (.int p1), .val (.int p2), .unset] [(.int p1)])) _
            refine XS.bipush X0.here hx rfl (hb hby d2_27) ?_
            show Steps p.tables e below (T0.setTop (mkF m 29 #[.val (.int p1), .val (.int p2), .unset] [(.int (90 : Int32)), (.int p1)])) _
            refine XS.icmpYes X0.here hx rfl (pc0 := 29) (pc' := 43) rfl (hb hby d2_29) rfl (tlt hc29).2.2.1 (by decide) (by decide) ?_
            show Steps p.tables e below (T0.setTop (mkF m 43 #[.val (.int p1), .val (.int p2), .unset] [])) _
            refine XS.iloadN X0.here hx rfl (hb hby d2_43) rfl ?_
            show Steps p.tables e below (T0.setTop (mkF m 44 #[.val (.int p1), .val (.int p2), .unset] [(.int p1)])) _
            refine XS.bipush X0.here hx rfl (hb hby d2_44) ?_
            show Steps p.tables e below (T0.setTop (mkF m 46 #[.val (.int p1), .val (.int p2), .unset] [(.int (97 : Int32)), (.int p1)])) _
            refine XS.icmpNo X0.here hx rfl (hb hby d2_46) rfl (flt hc46).1 ?_
            show Steps p.tables e below (T0.setTop (mkF m 49 #[.val (.int p1), .val (.int p2), .unset] [])) _
            refine XS.iloadN X0.here hx rfl (hb hby d2_49) rfl ?_
            show Steps p.tables e below (T0.setTop (mkF m 50 #[.val (.int p1), .val (.int p2), .unset] [(.int p1)])) _
            refine XS.bipush X0.here hx rfl (hb hby d2_50) ?_
            show Steps p.tables e below (T0.setTop (mkF m 52 #[.val (.int p1), .val (.int p2), .unset] [(.int (122 : Int32)), (.int p1)])) _
            refine XS.icmpNo X0.here hx rfl (hb hby d2_52) rfl (flt hc52).2.2.1 ?_
            show Steps p.tables e below (T0.setTop (mkF m 55 #[.val (.int p1), .val (.int p2), .unset] [])) _
            refine XS.iloadN X0.here hx rfl (hb hby d2_55) rfl ?_
            show Steps p.tables e below (T0.setTop (mkF m 56 #[.val (.int p1), .val (.int p2), .unset] [(.int p1)])) _
            refine XS.bipush X0.here hx rfl (hb hby d2_56) ?_
            show Steps p.tables e below (T0.setTop (mkF m 58 #[.val (.int p1), .val (.int p2), .unset] [(.int (97 : Int32)), (.int p1)])) _
            refine XS.isub X0.here hx rfl (hb hby d2_58) rfl ?_
            show Steps p.tables e below (T0.setTop (mkF m 59 #[.val (.int p1), .val (.int p2), .unset] [(.int (p1 - (97 : Int32)))])) _
            refine XS.bipush X0.here hx rfl (hb hby d2_59) ?_
            show Steps p.tables e below (T0.setTop (mkF m 61 #[.val (.int p1), .val (.int p2), .unset] [(.int (10 : Int32)), (.int (p1 - (97 : Int32)))])) _
            refine XS.iadd X0.here hx rfl (hb hby d2_61) rfl ?_
            show Steps p.tables e below (T0.setTop (mkF m 62 #[.val (.int p1), .val (.int p2), .unset] [(.int ((p1 - (97 : Int32)) + (10 : Int32)))])) _
            refine XS.istoreN X0.here hx rfl (hb hby d2_62) rfl (l' := #[.val (.int p1), .val (.int p2), .val (.int ((p1 - (97 : Int32)) + (10 : Int32)))]) rfl ?_
            show Steps p.tables e below (T0.setTop (mkF m 63 #[.val (.int p1), .val (.int p2), .val (.int ((p1 - (97 : Int32)) + (10 : Int32)))] [])) _
            refine XS.goto X0.here hx rfl (pc0 := 63) (pc' := 68) rfl (hb hby d2_63) (by decide) (by decide) ?_
            exact kt
      · intro target kt
        rw [show (own_rfV p1) = ((p1 - (65 : Int32)) + (10 : Int32)) by simp only [own_rfV, own_up, own_low, hc3, hc23, hc29, ↓reduceIte]] at kt
        show Steps p.tables e below (T0.setTop (mkF m 0 #[.val (.int p1), .val (.int p2), .unset] [])) _
        refine XS.iloadN X0.here hx rfl (hb hby d2_0) rfl ?_
        show Steps p.tables e below (T0.setTop (mkF m 1 #[.val (.int p1), .val (.int p2), .unset] [(.int p1)])) _
        refine XS.bipush X0.here hx rfl (hb hby d2_1) ?_
        show Steps p.tables e below (T0.setTop (mkF m 3 #[.val (.int p1), .val (.int p2), .unset] [(.int (48 : Int32)), (.int p1)])) _
        refine XS.icmpYes X0.here hx rfl (pc0 := 3) (pc' := 20) rfl (hb hby d2_3) rfl (tlt hc3).1 (by decide) (by decide) ?_
        show Steps p.tables e below (T0.setTop (mkF m 20 #[.val (.int p1), .val (.int p2), .unset] [])) _
        refine XS.iloadN X0.here hx rfl (hb hby d2_20) rfl ?_
        show Steps p.tables e below (T0.setTop (mkF m 21 #[.val (.int p1), .val (.int p2), .unset] [(.int p1)])) _
        refine XS.bipush X0.here hx rfl (hb hby d2_21) ?_
        show Steps p.tables e below (T0.setTop (mkF m 23 #[.val (.int p1), .val (.int p2), .unset] [(.int (65 : Int32)), (.int p1)])) _
        refine XS.icmpNo X0.here hx rfl (hb hby d2_23) rfl (flt hc23).1 ?_
        show Steps p.tables e below (T0.setTop (mkF m 26 #[.val (.int p1), .val (.int p2), .unset] [])) _
        refine XS.iloadN X0.here hx rfl (hb hby d2_26) rfl ?_
        show Steps p.tables e below (T0.setTop (mkF m 27 #[.val (.int p1), .val (.int p2), .unset] [(.int p1)])) _
        refine XS.bipush X0.here hx rfl (hb hby d2_27) ?_
        show Steps p.tables e below (T0.setTop (mkF m 29 #[.val (.int p1), .val (.int p2), .unset] [(.int (90 : Int32)), (.int p1)])) _
        refine XS.icmpNo X0.here hx rfl (hb hby d2_29) rfl (flt hc29).2.2.1 ?_
        show Steps p.tables e below (T0.setTop (mkF m 32 #[.val (.int p1), .val (.int p2), .unset] [])) _
        refine XS.iloadN X0.here hx rfl (hb hby d2_32) rfl ?_
        show Steps p.tables e below (T0.setTop (mkF m 33 #[.val (.int p1), .val (.int p2), .unset] [(.int p1)])) _
        refine XS.bipush X0.here hx rfl (hb hby d2_33) ?_
        show Steps p.tables e below (T0.setTop (mkF m 35 #[.val (.int p1), .val (.int p2), .unset] [(.int (65 : Int32)), (.int p1)])) _
        refine XS.isub X0.here hx rfl (hb hby d2_35) rfl ?_
        show Steps p.tables e below (T0.setTop (mkF m 36 #[.val (.int p1), .val (.int p2), .unset] [(.int (p1 - (65 : Int32)))])) _
        refine XS.bipush X0.here hx rfl (hb hby d2_36) ?_
        show Steps p.tables e below (T0.setTop (mkF m 38 #[.val (.int p1), .val (.int p2), .unset] [(.int (10 : Int32)), (.int (p1 - (65 : Int32)))])) _
        refine XS.iadd X0.here hx rfl (hb hby d2_38) rfl ?_
        show Steps p.tables e below (T0.setTop (mkF m 39 #[.val (.int p1), .val (.int p2), .unset] [(.int ((p1 - (65 : Int32)) + (10 : Int32)))])) _
        refine XS.istoreN X0.here hx rfl (hb hby d2_39) rfl (l' := #[.val (.int p1), .val (.int p2), .val (.int ((p1 - (65 : Int32)) + (10 : Int32)))]) rfl ?_
        show Steps p.tables e below (T0.setTop (mkF m 40 #[.val (.int p1), .val (.int p2), .val (.int ((p1 - (65 : Int32)) + (10 : Int32)))] [])) _
        refine XS.goto X0.here hx rfl (pc0 := 40) (pc' := 68) rfl (hb hby d2_40) (by decide) (by decide) ?_
        exact kt
  · by_cases hc9 : (57 : Int32) < p1
    · by_cases hc23 : p1 < (65 : Int32)
      · by_cases hc46 : p1 < (97 : Int32)
        · intro target kt
          rw [show (own_rfV p1) = (-1 : Int32) by simp only [own_rfV, own_up, own_low, hc3, hc9, hc23, hc46, ↓reduceIte]] at kt
          show Steps p.tables e below (T0.setTop (mkF m 0 #[.val (.int p1), .val (.int p2), .unset] [])) _
          refine XS.iloadN X0.here hx rfl (hb hby d2_0) rfl ?_
          show Steps p.tables e below (T0.setTop (mkF m 1 #[.val (.int p1), .val (.int p2), .unset] [(.int p1)])) _
          refine XS.bipush X0.here hx rfl (hb hby d2_1) ?_
          show Steps p.tables e below (T0.setTop (mkF m 3 #[.val (.int p1), .val (.int p2), .unset] [(.int (48 : Int32)), (.int p1)])) _
          refine XS.icmpNo X0.here hx rfl (hb hby d2_3) rfl (flt hc3).1 ?_
          show Steps p.tables e below (T0.setTop (mkF m 6 #[.val (.int p1), .val (.int p2), .unset] [])) _
          refine XS.iloadN X0.here hx rfl (hb hby d2_6) rfl ?_
          show Steps p.tables e below (T0.setTop (mkF m 7 #[.val (.int p1), .val (.int p2), .unset] [(.int p1)])) _
          refine XS.bipush X0.here hx rfl (hb hby d2_7) ?_
          show Steps p.tables e below (T0.setTop (mkF m 9 #[.val (.int p1), .val (.int p2), .unset] [(.int (57 : Int32)), (.int p1)])) _
          refine XS.icmpYes X0.here hx rfl (pc0 := 9) (pc' := 20) rfl (hb hby d2_9) rfl (tlt hc9).2.2.1 (by decide) (by decide) ?_
          show Steps p.tables e below (T0.setTop (mkF m 20 #[.val (.int p1), .val (.int p2), .unset] [])) _
          refine XS.iloadN X0.here hx rfl (hb hby d2_20) rfl ?_
          show Steps p.tables e below (T0.setTop (mkF m 21 #[.val (.int p1), .val (.int p2), .unset] [(.int p1)])) _
          refine XS.bipush X0.here hx rfl (hb hby d2_21) ?_
          show Steps p.tables e below (T0.setTop (mkF m 23 #[.val (.int p1), .val (.int p2), .unset] [(.int (65 : Int32)), (.int p1)])) _
          refine XS.icmpYes X0.here hx rfl (pc0 := 23) (pc' := 43) rfl (hb hby d2_23) rfl (tlt hc23).1 (by decide) (by decide) ?_
          show Steps p.tables e below (T0.setTop (mkF m 43 #[.val (.int p1), .val (.int p2), .unset] [])) _
          refine XS.iloadN X0.here hx rfl (hb hby d2_43) rfl ?_
          show Steps p.tables e below (T0.setTop (mkF m 44 #[.val (.int p1), .val (.int p2), .unset] [(.int p1)])) _
          refine XS.bipush X0.here hx rfl (hb hby d2_44) ?_
          show Steps p.tables e below (T0.setTop (mkF m 46 #[.val (.int p1), .val (.int p2), .unset] [(.int (97 : Int32)), (.int p1)])) _
          refine XS.icmpYes X0.here hx rfl (pc0 := 46) (pc' := 66) rfl (hb hby d2_46) rfl (tlt hc46).1 (by decide) (by decide) ?_
          show Steps p.tables e below (T0.setTop (mkF m 66 #[.val (.int p1), .val (.int p2), .unset] [])) _
          refine XS.iconst X0.here hx rfl (hb hby d2_66) ?_
          show Steps p.tables e below (T0.setTop (mkF m 67 #[.val (.int p1), .val (.int p2), .unset] [(.int (-1 : Int32))])) _
          refine XS.istoreN X0.here hx rfl (hb hby d2_67) rfl (l' := #[.val (.int p1), .val (.int p2), .val (.int (-1 : Int32))]) rfl ?_
          exact kt
        · by_cases hc52 : (122 : Int32) < p1
          · intro target kt
            rw [show (own_rfV p1) = (-1 : Int32) by simp only [own_rfV, own_up, own_low, hc3, hc9, hc23, hc46, hc52, ↓reduceIte]] at kt
            show Steps p.tables e below (T0.setTop (mkF m 0 #[.val (.int p1), .val (.int p2), .unset] [])) _
            refine XS.iloadN X0.here hx rfl (hb hby d2_0) rfl ?_
            show Steps p.tables e below (T0.setTop (mkF m 1 #[.val (.int p1), .val (.int p2), .unset] [(.int p1)])) _
            refine XS.bipush X0.here hx rfl (hb hby d2_1) ?_
            show Steps p.tables e below (T0.setTop (mkF m 3 #[.val (.int p1), .val (.int p2), .unset] [(.int (48 : Int32)), (.int p1)])) _
            refine XS.icmpNo X0.here hx rfl (hb hby d2_3) rfl (flt hc3).1 ?_
            show Steps p.tables e below (T0.setTop (mkF m 6 #[.val (.int p1), .val (.int p2), .unset] [])) _
            refine XS.iloadN X0.here hx rfl (hb hby d2_6) rfl ?_
            show Steps p.tables e below (T0.setTop (mkF m 7 #[.val (.int p1), .val (.int p2), .unset] [(.int p1)])) _
            refine XS.bipush X0.here hx rfl (hb hby d2_7) ?_
            show Steps p.tables e below (T0.setTop (mkF m 9 #[.val (.int p1), .val (.int p2), .unset] [(.int (57 : Int32)), (.int p1)])) _
            refine XS.icmpYes X0.here hx rfl (pc0 := 9) (pc' := 20) rfl (hb hby d2_9) rfl (tlt hc9).2.2.1 (by decide) (by decide) ?_
            show Steps p.tables e below (T0.setTop (mkF m 20 #[.val (.int p1), .val (.int p2), .unset] [])) _
            refine XS.iloadN X0.here hx rfl (hb hby d2_20) rfl ?_
            show Steps p.tables e below (T0.setTop (mkF m 21 #[.val (.int p1), .val (.int p2), .unset] [(.int p1)])) _
            refine XS.bipush X0.here hx rfl (hb hby d2_21) ?_
            show Steps p.tables e below (T0.setTop (mkF m 23 #[.val (.int p1), .val (.int p2), .unset] [(.int (65 : Int32)), (.int p1)])) _
            refine XS.icmpYes X0.here hx rfl (pc0 := 23) (pc' := 43) rfl (hb hby d2_23) rfl (tlt hc23).1 (by decide) (by decide) ?_
            show Steps p.tables e below (T0.setTop (mkF m 43 #[.val (.int p1), .val (.int p2), .unset] [])) _
            refine XS.iloadN X0.here hx rfl (hb hby d2_43) rfl ?_
            show Steps p.tables e below (T0.setTop (mkF m 44 #[.val (.int p1), .val (.int p2), .unset] [(.int p1)])) _
            refine XS.bipush X0.here hx rfl (hb hby d2_44) ?_
            show Steps p.tables e below (T0.setTop (mkF m 46 #[.val (.int p1), .val (.int p2), .unset] [(.int (97 : Int32)), (.int p1)])) _
            refine XS.icmpNo X0.here hx rfl (hb hby d2_46) rfl (flt hc46).1 ?_
            show Steps p.tables e below (T0.setTop (mkF m 49 #[.val (.int p1), .val (.int p2), .unset] [])) _
            refine XS.iloadN X0.here hx rfl (hb hby d2_49) rfl ?_
            show Steps p.tables e below (T0.setTop (mkF m 50 #[.val (.int p1), .val (.int p2), .unset] [(.int p1)])) _
            refine XS.bipush X0.here hx rfl (hb hby d2_50) ?_
            show Steps p.tables e below (T0.setTop (mkF m 52 #[.val (.int p1), .val (.int p2), .unset] [(.int (122 : Int32)), (.int p1)])) _
            refine XS.icmpYes X0.here hx rfl (pc0 := 52) (pc' := 66) rfl (hb hby d2_52) rfl (tlt hc52).2.2.1 (by decide) (by decide) ?_
            show Steps p.tables e below (T0.setTop (mkF m 66 #[.val (.int p1), .val (.int p2), .unset] [])) _
            refine XS.iconst X0.here hx rfl (hb hby d2_66) ?_
            show Steps p.tables e below (T0.setTop (mkF m 67 #[.val (.int p1), .val (.int p2), .unset] [(.int (-1 : Int32))])) _
            refine XS.istoreN X0.here hx rfl (hb hby d2_67) rfl (l' := #[.val (.int p1), .val (.int p2), .val (.int (-1 : Int32))]) rfl ?_
            exact kt
          · intro target kt
            rw [show (own_rfV p1) = ((p1 - (97 : Int32)) + (10 : Int32)) by simp only [own_rfV, own_up, own_low, hc3, hc9, hc23, hc46, hc52, ↓reduceIte]] at kt
            show Steps p.tables e below (T0.setTop (mkF m 0 #[.val (.int p1), .val (.int p2), .unset] [])) _
            refine XS.iloadN X0.here hx rfl (hb hby d2_0) rfl ?_
            show Steps p.tables e below (T0.setTop (mkF m 1 #[.val (.int p1), .val (.int p2), .unset] [(.int p1)])) _
            refine XS.bipush X0.here hx rfl (hb hby d2_1) ?_
            show Steps p.tables e below (T0.setTop (mkF m 3 #[.val (.int p1), .val (.int p2), .unset] [(.int (48 : Int32)), (.int p1)])) _
            refine XS.icmpNo X0.here hx rfl (hb hby d2_3) rfl (flt hc3).1 ?_
            show Steps p.tables e below (T0.setTop (mkF m 6 #[.val (.int p1), .val (.int p2), .unset] [])) _
            refine XS.iloadN X0.here hx rfl (hb hby d2_6) rfl ?_
            show Steps p.tables e below (T0.setTop (mkF m 7 #[.val (.int p1), .val (.int p2), .unset] [(.int p1)])) _
            refine XS.bipush X0.here hx rfl (hb hby d2_7) ?_
            show Steps p.tables e below (T0.setTop (mkF m 9 #[.val (.int p1), .val (.int p2), .unset] [(.int (57 : Int32)), (.int p1)])) _
            refine XS.icmpYes X0.here hx rfl (pc0 := 9) (pc' := 20) rfl (hb hby d2_9) rfl (tlt hc9).2.2.1 (by decide) (by decide) ?_
            show Steps p.tables e below (T0.setTop (mkF m 20 #[.val (.int p1), .val (.int p2), .unset] [])) _
            refine XS.iloadN X0.here hx rfl (hb hby d2_20) rfl ?_
            show Steps p.tables e below (T0.setTop (mkF m 21 #[.val (.int p1), .val (.int p2), .unset] [(.int p1)])) _
            refine XS.bipush X0.here hx rfl (hb hby d2_21) ?_
            show Steps p.tables e below (T0.setTop (mkF m 23 #[.val (.int p1), .val (.int p2), .unset] [(.int (65 : Int32)), (.int p1)])) _
            refine XS.icmpYes X0.here hx rfl (pc0 := 23) (pc' := 43) rfl (hb hby d2_23) rfl (tlt hc23).1 (by decide) (by decide) ?_
            show Steps p.tables e below (T0.setTop (mkF m 43 #[.val (.int p1), .val (.int p2), .unset] [])) _
            refine XS.iloadN X0.here hx rfl (hb hby d2_43) rfl ?_
            show Steps p.tables e below (T0.setTop (mkF m 44 #[.val (.int p1), .val (.int p2), .unset] [(.int p1)])) _
            refine XS.bipush X0.here hx rfl (hb hby d2_44) ?_
            show Steps p.tables e below (T0.setTop (mkF m 46 #[.val (.int p1), .val (.int p2), .unset] [(.int (97 : Int32)), (.int p1)])) _
            refine XS.icmpNo X0.here hx rfl (hb hby d2_46) rfl (flt hc46).1 ?_
            show Steps p.tables e below (T0.setTop (mkF m 49 #[.val (.int p1), .val (.int p2), .unset] [])) _
            refine XS.iloadN X0.here hx rfl (hb hby d2_49) rfl ?_
            show Steps p.tables e below (T0.setTop (mkF m 50 #[.val (.int p1), .val (.int p2), .unset] [(.int p1)])) _
            refine XS.bipush X0.here hx rfl (hb hby d2_50) ?_
            show Steps p.tables e below (T0.setTop (mkF m 52 #[.val (.int p1), .val (.int p2), .unset] [(.int (122 : Int32)), (.int p1)])) _
            refine XS.icmpNo X0.here hx rfl (hb hby d2_52) rfl (flt hc52).2.2.1 ?_
            show Steps p.tables e below (T0.setTop (mkF m 55 #[.val (.int p1), .val (.int p2), .unset] [])) _
            refine XS.iloadN X0.here hx rfl (hb hby d2_55) rfl ?_
            show Steps p.tables e below (T0.setTop (mkF m 56 #[.val (.int p1), .val (.int p2), .unset] [(.int p1)])) _
            refine XS.bipush X0.here hx rfl (hb hby d2_56) ?_
            show Steps p.tables e below (T0.setTop (mkF m 58 #[.val (.int p1), .val (.int p2), .unset] [(.int (97 : Int32)), (.int p1)])) _
            refine XS.isub X0.here hx rfl (hb hby d2_58) rfl ?_
            show Steps p.tables e below (T0.setTop (mkF m 59 #[.val (.int p1), .val (.int p2), .unset] [(.int (p1 - (97 : Int32)))])) _
            refine XS.bipush X0.here hx rfl (hb hby d2_59) ?_
            show Steps p.tables e below (T0.setTop (mkF m 61 #[.val (.int p1), .val (.int p2), .unset] [(.int (10 : Int32)), (.int (p1 - (97 : Int32)))])) _
            refine XS.iadd X0.here hx rfl (hb hby d2_61) rfl ?_
            show Steps p.tables e below (T0.setTop (mkF m 62 #[.val (.int p1), .val (.int p2), .unset] [(.int ((p1 - (97 : Int32)) + (10 : Int32)))])) _
            refine XS.istoreN X0.here hx rfl (hb hby d2_62) rfl (l' := #[.val (.int p1), .val (.int p2), .val (.int ((p1 - (97 : Int32)) + (10 : Int32)))]) rfl ?_
            show Steps p.tables e below (T0.setTop (mkF m 63 #[.val (.int p1), .val (.int p2), .val (.int ((p1 - (97 : Int32)) + (10 : Int32)))] [])) _
            refine XS.goto X0.here hx rfl (pc0 := 63) (pc' := 68) rfl (hb hby d2_63) (by decide) (by decide) ?_
            exact kt
      · by_cases hc29 : (90 : Int32) < p1
        · by_cases hc46 : p1 < (97 : Int32)
          · intro target kt
            rw [show (own_rfV p1) = (-1 : Int32) by simp only [own_rfV, own_up, own_low, hc3, hc9, hc23, hc29, hc46, ↓reduceIte]] at kt
            show Steps p.tables e below (T0.setTop (mkF m 0 #[.val (.int p1), .val (.int p2), .unset] [])) _
            refine XS.iloadN X0.here hx rfl (hb hby d2_0) rfl ?_
            show Steps p.tables e below (T0.setTop (mkF m 1 #[.val (.int p1), .val (.int p2), .unset] [(.int p1)])) _
            refine XS.bipush X0.here hx rfl (hb hby d2_1) ?_
            show Steps p.tables e below (T0.setTop (mkF m 3 #[.val (.int p1), .val (.int p2), .unset] [(.int (48 : Int32)), (.int p1)])) _
            refine XS.icmpNo X0.here hx rfl (hb hby d2_3) rfl (flt hc3).1 ?_
            show Steps p.tables e below (T0.setTop (mkF m 6 #[.val (.int p1), .val (.int p2), .unset] [])) _
            refine XS.iloadN X0.here hx rfl (hb hby d2_6) rfl ?_
            show Steps p.tables e below (T0.setTop (mkF m 7 #[.val (.int p1), .val (.int p2), .unset] [(.int p1)])) _
            refine XS.bipush X0.here hx rfl (hb hby d2_7) ?_
            show Steps p.tables e below (T0.setTop (mkF m 9 #[.val (.int p1), .val (.int p2), .unset] [(.int (57 : Int32)), (.int p1)])) _
            refine XS.icmpYes X0.here hx rfl (pc0 := 9) (pc' := 20) rfl (hb hby d2_9) rfl (tlt hc9).2.2.1 (by decide) (by decide) ?_
            show Steps p.tables e below (T0.setTop (mkF m 20 #[.val (.int p1), .val (.int p2), .unset] [])) _
            refine XS.iloadN X0.here hx rfl (hb hby d2_20) rfl ?_
            show Steps p.tables e below (T0.setTop (mkF m 21 #[.val (.int p1), .val (.int p2), .unset] [(.int p1)])) _
            refine XS.bipush X0.here hx rfl (hb hby d2_21) ?_
            show Steps p.tables e below (T0.setTop (mkF m 23 #[.val (.int p1), .val (.int p2), .unset] [(.int (65 : Int32)), (.int p1)])) _
            refine XS.icmpNo X0.here hx rfl (hb hby d2_23) rfl (flt hc23).1 ?_
            show Steps p.tables e below (T0.setTop (mkF m 26 #[.val (.int p1), .val (.int p2), .unset] [])) _
            refine XS.iloadN X0.here hx rfl (hb hby d2_26) rfl ?_
            show Steps p.tables e below (T0.setTop (mkF m 27 #[.val (.int p1), .val (.int p2), .unset] [(.int p1)])) _
            refine XS.bipush X0.here hx rfl (hb hby d2_27) ?_
            show Steps p.tables e below (T0.setTop (mkF m 29 #[.val (.int p1), .val (.int p2), .unset] [(.int (90 : Int32)), (.int p1)])) _
            refine XS.icmpYes X0.here hx rfl (pc0 := 29) (pc' := 43) rfl (hb hby d2_29) rfl (tlt hc29).2.2.1 (by decide) (by decide) ?_
            show Steps p.tables e below (T0.setTop (mkF m 43 #[.val (.int p1), .val (.int p2), .unset] [])) _
            refine XS.iloadN X0.here hx rfl (hb hby d2_43) rfl ?_
            show Steps p.tables e below (T0.setTop (mkF m 44 #[.val (.int p1), .val (.int p2), .unset] [(.int p1)])) _
            refine XS.bipush X0.here hx rfl (hb hby d2_44) ?_
            show Steps p.tables e below (T0.setTop (mkF m 46 #[.val (.int p1), .val (.int p2), .unset] [(.int (97 : Int32)), (.int p1)])) _
            refine XS.icmpYes X0.here hx rfl (pc0 := 46) (pc' := 66) rfl (hb hby d2_46) rfl (tlt hc46).1 (by decide) (by decide) ?_
            show Steps p.tables e below (T0.setTop (mkF m 66 #[.val (.int p1), .val (.int p2), .unset] [])) _
            refine XS.iconst X0.here hx rfl (hb hby d2_66) ?_
            show Steps p.tables e below (T0.setTop (mkF m 67 #[.val (.int p1), .val (.int p2), .unset] [(.int (-1 : Int32))])) _
            refine XS.istoreN X0.here hx rfl (hb hby d2_67) rfl (l' := #[.val (.int p1), .val (.int p2), .val (.int (-1 : Int32))]) rfl ?_
            exact kt
          · by_cases hc52 : (122 : Int32) < p1
            · intro target kt
              rw [show (own_rfV p1) = (-1 : Int32) by simp only [own_rfV, own_up, own_low, hc3, hc9, hc23, hc29, hc46, hc52, ↓reduceIte]] at kt
              show Steps p.tables e below (T0.setTop (mkF m 0 #[.val (.int p1), .val (.int p2), .unset] [])) _
              refine XS.iloadN X0.here hx rfl (hb hby d2_0) rfl ?_
              show Steps p.tables e below (T0.setTop (mkF m 1 #[.val (.int p1), .val (.int p2), .unset] [(.int p1)])) _
              refine XS.bipush X0.here hx rfl (hb hby d2_1) ?_
              show Steps p.tables e below (T0.setTop (mkF m 3 #[.val (.int p1), .val (.int p2), .unset] [(.int (48 : Int32)), (.int p1)])) _
              refine XS.icmpNo X0.here hx rfl (hb hby d2_3) rfl (flt hc3).1 ?_
              show Steps p.tables e below (T0.setTop (mkF m 6 #[.val (.int p1), .val (.int p2), .unset] [])) _
              refine XS.iloadN X0.here hx rfl (hb hby d2_6) rfl ?_
              show Steps p.tables e below (T0.setTop (mkF m 7 #[.val (.int p1), .val (.int p2), .unset] [(.int p1)])) _
              refine XS.bipush X0.here hx rfl (hb hby d2_7) ?_
              show Steps p.tables e below (T0.setTop (mkF m 9 #[.val (.int p1), .val (.int p2), .unset] [(.int (57 : Int32)), (.int p1)])) _
              refine XS.icmpYes X0.here hx rfl (pc0 := 9) (pc' := 20) rfl (hb hby d2_9) rfl (tlt hc9).2.2.1 (by decide) (by decide) ?_
              show Steps p.tables e below (T0.setTop (mkF m 20 #[.val (.int p1), .val (.int p2), .unset] [])) _
              refine XS.iloadN X0.here hx rfl (hb hby d2_20) rfl ?_
              show Steps p.tables e below (T0.setTop (mkF m 21 #[.val (.int p1), .val (.int p2), .unset] [(.int p1)])) _
              refine XS.bipush X0.here hx rfl (hb hby d2_21) ?_
              show Steps p.tables e below (T0.setTop (mkF m 23 #[.val (.int p1), .val (.int p2), .unset] [(.int (65 : Int32)), (.int p1)])) _
              refine XS.icmpNo X0.here hx rfl (hb hby d2_23) rfl (flt hc23).1 ?_
              show Steps p.tables e below (T0.setTop (mkF m 26 #[.val (.int p1), .val (.int p2), .unset] [])) _
              refine XS.iloadN X0.here hx rfl (hb hby d2_26) rfl ?_
              show Steps p.tables e below (T0.setTop (mkF m 27 #[.val (.int p1), .val (.int p2), .unset] [(.int p1)])) _
              refine XS.bipush X0.here hx rfl (hb hby d2_27) ?_
              show Steps p.tables e below (T0.setTop (mkF m 29 #[.val (.int p1), .val (.int p2), .unset] [(.int (90 : Int32)), (.int p1)])) _
              refine XS.icmpYes X0.here hx rfl (pc0 := 29) (pc' := 43) rfl (hb hby d2_29) rfl (tlt hc29).2.2.1 (by decide) (by decide) ?_
              show Steps p.tables e below (T0.setTop (mkF m 43 #[.val (.int p1), .val (.int p2), .unset] [])) _
              refine XS.iloadN X0.here hx rfl (hb hby d2_43) rfl ?_
              show Steps p.tables e below (T0.setTop (mkF m 44 #[.val (.int p1), .val (.int p2), .unset] [(.int p1)])) _
              refine XS.bipush X0.here hx rfl (hb hby d2_44) ?_
              show Steps p.tables e below (T0.setTop (mkF m 46 #[.val (.int p1), .val (.int p2), .unset] [(.int (97 : Int32)), (.int p1)])) _
              refine XS.icmpNo X0.here hx rfl (hb hby d2_46) rfl (flt hc46).1 ?_
              show Steps p.tables e below (T0.setTop (mkF m 49 #[.val (.int p1), .val (.int p2), .unset] [])) _
              refine XS.iloadN X0.here hx rfl (hb hby d2_49) rfl ?_
              show Steps p.tables e below (T0.setTop (mkF m 50 #[.val (.int p1), .val (.int p2), .unset] [(.int p1)])) _
              refine XS.bipush X0.here hx rfl (hb hby d2_50) ?_
              show Steps p.tables e below (T0.setTop (mkF m 52 #[.val (.int p1), .val (.int p2), .unset] [(.int (122 : Int32)), (.int p1)])) _
              refine XS.icmpYes X0.here hx rfl (pc0 := 52) (pc' := 66) rfl (hb hby d2_52) rfl (tlt hc52).2.2.1 (by decide) (by decide) ?_
              show Steps p.tables e below (T0.setTop (mkF m 66 #[.val (.int p1), .val (.int p2), .unset] [])) _
              refine XS.iconst X0.here hx rfl (hb hby d2_66) ?_
              show Steps p.tables e below (T0.setTop (mkF m 67 #[.val (.int p1), .val (.int p2), .unset] [(.int (-1 : Int32))])) _
              refine XS.istoreN X0.here hx rfl (hb hby d2_67) rfl (l' := #[.val (.int p1), .val (.int p2), .val (.int (-1 : Int32))]) rfl ?_
              exact kt
            · intro target kt
              rw [show (own_rfV p1) = ((p1 - (97 : Int32)) + (10 : Int32)) by simp only [own_rfV, own_up, own_low, hc3, hc9, hc23, hc29, hc46, hc52, ↓reduceIte]] at kt
              show Steps p.tables e below (T0.setTop (mkF m 0 #[.val (.int p1), .val (.int p2), .unset] [])) _
              refine XS.iloadN X0.here hx rfl (hb hby d2_0) rfl ?_
              show Steps p.tables e below (T0.setTop (mkF m 1 #[.val (.int p1), .val (.int p2), .unset] [(.int p1)])) _
              refine XS.bipush X0.here hx rfl (hb hby d2_1) ?_
              show Steps p.tables e below (T0.setTop (mkF m 3 #[.val (.int p1), .val (.int p2), .unset] [(.int (48 : Int32)), (.int p1)])) _
              refine XS.icmpNo X0.here hx rfl (hb hby d2_3) rfl (flt hc3).1 ?_
              show Steps p.tables e below (T0.setTop (mkF m 6 #[.val (.int p1), .val (.int p2), .unset] [])) _
              refine XS.iloadN X0.here hx rfl (hb hby d2_6) rfl ?_
              show Steps p.tables e below (T0.setTop (mkF m 7 #[.val (.int p1), .val (.int p2), .unset] [(.int p1)])) _
              refine XS.bipush X0.here hx rfl (hb hby d2_7) ?_
              show Steps p.tables e below (T0.setTop (mkF m 9 #[.val (.int p1), .val (.int p2), .unset] [(.int (57 : Int32)), (.int p1)])) _
              refine XS.icmpYes X0.here hx rfl (pc0 := 9) (pc' := 20) rfl (hb hby d2_9) rfl (tlt hc9).2.2.1 (by decide) (by decide) ?_
              show Steps p.tables e below (T0.setTop (mkF m 20 #[.val (.int p1), .val (.int p2), .unset] [])) _
              refine XS.iloadN X0.here hx rfl (hb hby d2_20) rfl ?_
              show Steps p.tables e below (T0.setTop (mkF m 21 #[.val (.int p1), .val (.int p2), .unset] [(.int p1)])) _
              refine XS.bipush X0.here hx rfl (hb hby d2_21) ?_
              show Steps p.tables e below (T0.setTop (mkF m 23 #[.val (.int p1), .val (.int p2), .unset] [(.int (65 : Int32)), (.int p1)])) _
              refine XS.icmpNo X0.here hx rfl (hb hby d2_23) rfl (flt hc23).1 ?_
              show Steps p.tables e below (T0.setTop (mkF m 26 #[.val (.int p1), .val (.int p2), .unset] [])) _
              refine XS.iloadN X0.here hx rfl (hb hby d2_26) rfl ?_
              show Steps p.tables e below (T0.setTop (mkF m 27 #[.val (.int p1), .val (.int p2), .unset] [(.int p1)])) _
              refine XS.bipush X0.here hx rfl (hb hby d2_27) ?_
              show Steps p.tables e below (T0.setTop (mkF m 29 #[.val (.int p1), .val (.int p2), .unset] [(.int (90 : Int32)), (.int p1)])) _
              refine XS.icmpYes X0.here hx rfl (pc0 := 29) (pc' := 43) rfl (hb hby d2_29) rfl (tlt hc29).2.2.1 (by decide) (by decide) ?_
              show Steps p.tables e below (T0.setTop (mkF m 43 #[.val (.int p1), .val (.int p2), .unset] [])) _
              refine XS.iloadN X0.here hx rfl (hb hby d2_43) rfl ?_
              show Steps p.tables e below (T0.setTop (mkF m 44 #[.val (.int p1), .val (.int p2), .unset] [(.int p1)])) _
              refine XS.bipush X0.here hx rfl (hb hby d2_44) ?_
              show Steps p.tables e below (T0.setTop (mkF m 46 #[.val (.int p1), .val (.int p2), .unset] [(.int (97 : Int32)), (.int p1)])) _
              refine XS.icmpNo X0.here hx rfl (hb hby d2_46) rfl (flt hc46).1 ?_
              show Steps p.tables e below (T0.setTop (mkF m 49 #[.val (.int p1), .val (.int p2), .unset] [])) _
              refine XS.iloadN X0.here hx rfl (hb hby d2_49) rfl ?_
              show Steps p.tables e below (T0.setTop (mkF m 50 #[.val (.int p1), .val (.int p2), .unset] [(.int p1)])) _
              refine XS.bipush X0.here hx rfl (hb hby d2_50) ?_
              show Steps p.tables e below (T0.setTop (mkF m 52 #[.val (.int p1), .val (.int p2), .unset] [(.int (122 : Int32)), (.int p1)])) _
              refine XS.icmpNo X0.here hx rfl (hb hby d2_52) rfl (flt hc52).2.2.1 ?_
              show Steps p.tables e below (T0.setTop (mkF m 55 #[.val (.int p1), .val (.int p2), .unset] [])) _
              refine XS.iloadN X0.here hx rfl (hb hby d2_55) rfl ?_
              show Steps p.tables e below (T0.setTop (mkF m 56 #[.val (.int p1), .val (.int p2), .unset] [(.int p1)])) _
              refine XS.bipush X0.here hx rfl (hb hby d2_56) ?_
              show Steps p.tables e below (T0.setTop (mkF m 58 #[.val (.int p1), .val (.int p2), .unset] [(.int (97 : Int32)), (.int p1)])) _
              refine XS.isub X0.here hx rfl (hb hby d2_58) rfl ?_
              show Steps p.tables e below (T0.setTop (mkF m 59 #[.val (.int p1), .val (.int p2), .unset] [(.int (p1 - (97 : Int32)))])) _
              refine XS.bipush X0.here hx rfl (hb hby d2_59) ?_
              show Steps p.tables e below (T0.setTop (mkF m 61 #[.val (.int p1), .val (.int p2), .unset] [(.int (10 : Int32)), (.int (p1 - (97 : Int32)))])) _
              refine XS.iadd X0.here hx rfl (hb hby d2_61) rfl ?_
              show Steps p.tables e below (T0.setTop (mkF m 62 #[.val (.int p1), .val (.int p2), .unset] [(.int ((p1 - (97 : Int32)) + (10 : Int32)))])) _
              refine XS.istoreN X0.here hx rfl (hb hby d2_62) rfl (l' := #[.val (.int p1), .val (.int p2), .val (.int ((p1 - (97 : Int32)) + (10 : Int32)))]) rfl ?_
              show Steps p.tables e below (T0.setTop (mkF m 63 #[.val (.int p1), .val (.int p2), .val (.int ((p1 - (97 : Int32)) + (10 : Int32)))] [])) _
              refine XS.goto X0.here hx rfl (pc0 := 63) (pc' := 68) rfl (hb hby d2_63) (by decide) (by decide) ?_
              exact kt
        · intro target kt
          rw [show (own_rfV p1) = ((p1 - (65 : Int32)) + (10 : Int32)) by simp only [own_rfV, own_up, own_low, hc3, hc9, hc23, hc29, ↓reduceIte]] at kt
          show Steps p.tables e below (T0.setTop (mkF m 0 #[.val (.int p1), .val (.int p2), .unset] [])) _
          refine XS.iloadN X0.here hx rfl (hb hby d2_0) rfl ?_
          show Steps p.tables e below (T0.setTop (mkF m 1 #[.val (.int p1), .val (.int p2), .unset] [(.int p1)])) _
          refine XS.bipush X0.here hx rfl (hb hby d2_1) ?_
          show Steps p.tables e below (T0.setTop (mkF m 3 #[.val (.int p1), .val (.int p2), .unset] [(.int (48 : Int32)), (.int p1)])) _
          refine XS.icmpNo X0.here hx rfl (hb hby d2_3) rfl (flt hc3).1 ?_
          show Steps p.tables e below (T0.setTop (mkF m 6 #[.val (.int p1), .val (.int p2), .unset] [])) _
          refine XS.iloadN X0.here hx rfl (hb hby d2_6) rfl ?_
          show Steps p.tables e below (T0.setTop (mkF m 7 #[.val (.int p1), .val (.int p2), .unset] [(.int p1)])) _
          refine XS.bipush X0.here hx rfl (hb hby d2_7) ?_
          show Steps p.tables e below (T0.setTop (mkF m 9 #[.val (.int p1), .val (.int p2), .unset] [(.int (57 : Int32)), (.int p1)])) _
          refine XS.icmpYes X0.here hx rfl (pc0 := 9) (pc' := 20) rfl (hb hby d2_9) rfl (tlt hc9).2.2.1 (by decide) (by decide) ?_
          show Steps p.tables e below (T0.setTop (mkF m 20 #[.val (.int p1), .val (.int p2), .unset] [])) _
          refine XS.iloadN X0.here hx rfl (hb hby d2_20) rfl ?_
          show Steps p.tables e below (T0.setTop (mkF m 21 #[.val (.int p1), .val (.int p2), .unset] [(.int p1)])) _
          refine XS.bipush X0.here hx rfl (hb hby d2_21) ?_
          show Steps p.tables e below (T0.setTop (mkF m 23 #[.val (.int p1), .val (.int p2), .unset] [(.int (65 : Int32)), (.int p1)])) _
          refine XS.icmpNo X0.here hx rfl (hb hby d2_23) rfl (flt hc23).1 ?_
          show Steps p.tables e below (T0.setTop (mkF m 26 #[.val (.int p1), .val (.int p2), .unset] [])) _
          refine XS.iloadN X0.here hx rfl (hb hby d2_26) rfl ?_
          show Steps p.tables e below (T0.setTop (mkF m 27 #[.val (.int p1), .val (.int p2), .unset] [(.int p1)])) _
          refine XS.bipush X0.here hx rfl (hb hby d2_27) ?_
          show Steps p.tables e below (T0.setTop (mkF m 29 #[.val (.int p1), .val (.int p2), .unset] [(.int (90 : Int32)), (.int p1)])) _
          refine XS.icmpNo X0.here hx rfl (hb hby d2_29) rfl (flt hc29).2.2.1 ?_
          show Steps p.tables e below (T0.setTop (mkF m 32 #[.val (.int p1), .val (.int p2), .unset] [])) _
          refine XS.iloadN X0.here hx rfl (hb hby d2_32) rfl ?_
          show Steps p.tables e below (T0.setTop (mkF m 33 #[.val (.int p1), .val (.int p2), .unset] [(.int p1)])) _
          refine XS.bipush X0.here hx rfl (hb hby d2_33) ?_
          show Steps p.tables e below (T0.setTop (mkF m 35 #[.val (.int p1), .val (.int p2), .unset] [(.int (65 : Int32)), (.int p1)])) _
          refine XS.isub X0.here hx rfl (hb hby d2_35) rfl ?_
          show Steps p.tables e below (T0.setTop (mkF m 36 #[.val (.int p1), .val (.int p2), .unset] [(.int (p1 - (65 : Int32)))])) _
          refine XS.bipush X0.here hx rfl (hb hby d2_36) ?_
          show Steps p.tables e below (T0.setTop (mkF m 38 #[.val (.int p1), .val (.int p2), .unset] [(.int (10 : Int32)), (.int (p1 - (65 : Int32)))])) _
          refine XS.iadd X0.here hx rfl (hb hby d2_38) rfl ?_
          show Steps p.tables e below (T0.setTop (mkF m 39 #[.val (.int p1), .val (.int p2), .unset] [(.int ((p1 - (65 : Int32)) + (10 : Int32)))])) _
          refine XS.istoreN X0.here hx rfl (hb hby d2_39) rfl (l' := #[.val (.int p1), .val (.int p2), .val (.int ((p1 - (65 : Int32)) + (10 : Int32)))]) rfl ?_
          show Steps p.tables e below (T0.setTop (mkF m 40 #[.val (.int p1), .val (.int p2), .val (.int ((p1 - (65 : Int32)) + (10 : Int32)))] [])) _
          refine XS.goto X0.here hx rfl (pc0 := 40) (pc' := 68) rfl (hb hby d2_40) (by decide) (by decide) ?_
          exact kt
    · intro target kt
      rw [show (own_rfV p1) = (p1 - (48 : Int32)) by simp only [own_rfV, own_up, own_low, hc3, hc9, ↓reduceIte]] at kt
      show Steps p.tables e below (T0.setTop (mkF m 0 #[.val (.int p1), .val (.int p2), .unset] [])) _
      refine XS.iloadN X0.here hx rfl (hb hby d2_0) rfl ?_
      show Steps p.tables e below (T0.setTop (mkF m 1 #[.val (.int p1), .val (.int p2), .unset] [(.int p1)])) _
      refine XS.bipush X0.here hx rfl (hb hby d2_1) ?_
      show Steps p.tables e below (T0.setTop (mkF m 3 #[.val (.int p1), .val (.int p2), .unset] [(.int (48 : Int32)), (.int p1)])) _
      refine XS.icmpNo X0.here hx rfl (hb hby d2_3) rfl (flt hc3).1 ?_
      show Steps p.tables e below (T0.setTop (mkF m 6 #[.val (.int p1), .val (.int p2), .unset] [])) _
      refine XS.iloadN X0.here hx rfl (hb hby d2_6) rfl ?_
      show Steps p.tables e below (T0.setTop (mkF m 7 #[.val (.int p1), .val (.int p2), .unset] [(.int p1)])) _
      refine XS.bipush X0.here hx rfl (hb hby d2_7) ?_
      show Steps p.tables e below (T0.setTop (mkF m 9 #[.val (.int p1), .val (.int p2), .unset] [(.int (57 : Int32)), (.int p1)])) _
      refine XS.icmpNo X0.here hx rfl (hb hby d2_9) rfl (flt hc9).2.2.1 ?_
      show Steps p.tables e below (T0.setTop (mkF m 12 #[.val (.int p1), .val (.int p2), .unset] [])) _
      refine XS.iloadN X0.here hx rfl (hb hby d2_12) rfl ?_
      show Steps p.tables e below (T0.setTop (mkF m 13 #[.val (.int p1), .val (.int p2), .unset] [(.int p1)])) _
      refine XS.bipush X0.here hx rfl (hb hby d2_13) ?_
      show Steps p.tables e below (T0.setTop (mkF m 15 #[.val (.int p1), .val (.int p2), .unset] [(.int (48 : Int32)), (.int p1)])) _
      refine XS.isub X0.here hx rfl (hb hby d2_15) rfl ?_
      show Steps p.tables e below (T0.setTop (mkF m 16 #[.val (.int p1), .val (.int p2), .unset] [(.int (p1 - (48 : Int32)))])) _
      refine XS.istoreN X0.here hx rfl (hb hby d2_16) rfl (l' := #[.val (.int p1), .val (.int p2), .val (.int (p1 - (48 : Int32)))]) rfl ?_
      show Steps p.tables e below (T0.setTop (mkF m 17 #[.val (.int p1), .val (.int p2), .val (.int (p1 - (48 : Int32)))] [])) _
      refine XS.goto X0.here hx rfl (pc0 := 17) (pc' := 68) rfl (hb hby d2_17) (by decide) (by decide) ?_
      exact kt
def Q2 (p1 p2 : Int32) (h0 : Heap) (n0 : Nat) (v : Option Value) (h : Heap) (L : List Loc) : Prop := v = some (.int (own_rf p1 p2)) ∧ Fr n0 L ∧ h = h0
set_option maxRecDepth 65536 in
set_option maxHeartbeats 40000000 in
theorem rm2 (l : Launch) (Z : State) (a0 : Array Value) (hw : ∀ d ∈ tables_1, d.before a0 Z = true) (ws : List Jvm.Cond) (p1 : Int32) (p2 : Int32) (h0 : Heap) (n0 : Nat) (Z0 : n0 ≤ h0.size)  :
    MetFree l (⟨"com/example/bulkwire/bulkwire/lua/NumbersDigitValuePinLaw", "reference", "(CI)I"⟩ : MethodName) (head1 (Jvm.Cond.code (⟨"com/example/bulkwire/bulkwire/lua/NumbersDigitValuePinLaw", "reference", "(CI)I"⟩ : MethodName) method_2_code 3 (some .int) :: ws) ({ frames := 0, cells := 0, slots := 0, locals := 0 } : Room)) (fun a U => a = #[(.int p1), (.int p2)] ∧ Z.Warmed39 U.vm ∧ U.heap = h0) (fun _ _ _ _ _ => True) (fun _ U o U' => ∃ v L, o = .returned v ∧ Q2 p1 p2 h0 n0 v U'.heap L ∧ FrameEnd U o U' L ({ frames := 0, cells := 0, slots := 0, locals := 0 } : Room).cells ({ frames := 0, cells := 0, slots := 0, locals := 0 } : Room).slots) := by
  refine MetFree.of_bodySF (plainFor_of_name pn_2) hisR ?_
  intro p e s m args below meth c s₁ Bd hml0 hP hK
  obtain ⟨rfl, hZ, hh⟩ := hP
  have hx := Bd.exec
  have hby := Bd.bytes
  have hml : c.maxLocals = 3 := hml0
  have hown : s.vm.findClass "com/example/bulkwire/bulkwire/lua/NumbersDigitValuePinLaw" = some m.cls := findClass_of_methodNamed Bd.named
  have hnm := (name_of_methodNamed Bd.named Bd.method).1
  have X0 : Stand p l e ({ frames := 0, cells := 0, slots := 0, locals := 0 } : Room) s m #[(.int p1), (.int p2)] below meth c s₁ [] 0 0 := Stand.of_body Bd
  have e0 : s₁.heap = h0 := by rw [← hh, Bd.state]; rfl
  have N0 := Fr.nil n0
  have pre0 : ∀ t, Steps p.tables e below (s₁.setTop (mkF m 0 #[.val (.int p1), .val (.int p2), .unset] [])) t → Steps p.tables e below (s₁.setTop (entryFrame m #[(.int p1), (.int p2)] 3)) t := fun t k => castTop (ef_2 m p1 p2) k
  have k1 := sg2 p1 p2 X0 hx hZ hw hby hown
  by_cases hc69 : (own_rfV p1) < (0 : Int32)
  · obtain ⟨fs, hr, hrun, hended, hW, hsame⟩ := X0.leave (v := some (.int (-1 : Int32))) (fun h => by rw [Bd.returns] at h; cases h)
    refine ⟨_, _, pre0 _ ?_, hrun, hended, _, _, rfl, ?_, ⟨_, rfl⟩, hW, hsame.mono (by decide) (by decide)⟩
    · show Steps p.tables e below (s₁.setTop (mkF m 0 #[.val (.int p1), .val (.int p2), .unset] [])) _
      refine k1 _ ?_
      show Steps p.tables e below (s₁.setTop (mkF m 68 #[.val (.int p1), .val (.int p2), .val (.int (own_rfV p1))] [])) _
      refine XS.iloadN X0.here hx rfl (hb hby d2_68) rfl ?_
      show Steps p.tables e below (s₁.setTop (mkF m 69 #[.val (.int p1), .val (.int p2), .val (.int (own_rfV p1))] [(.int (own_rfV p1))])) _
      refine XS.ifYes X0.here hx rfl (pc0 := 69) (pc' := 79) rfl (hb hby d2_69) rfl ((if0 _ _).trans (tlt hc69).1) (by decide) (by decide) ?_
      show Steps p.tables e below (s₁.setTop (mkF m 79 #[.val (.int p1), .val (.int p2), .val (.int (own_rfV p1))] [])) _
      refine XS.iconst X0.here hx rfl (hb hby d2_79) ?_
      show Steps p.tables e below (s₁.setTop (mkF m 80 #[.val (.int p1), .val (.int p2), .val (.int (own_rfV p1))] [(.int (-1 : Int32))])) _
      exact retI X0 hx Bd.returns (hb hby d2_80) hr
    · show Q2 p1 p2 h0 n0 _ s₁.heap _
      rw [e0]
      exact ⟨congrArg (fun z => some (Value.int z)) (show (-1 : Int32) = own_rf p1 p2 by simp only [own_rf, hc69, ↓reduceIte]), N0, rfl⟩
  · by_cases hc74 : (own_rfV p1) < p2
    · obtain ⟨fs, hr, hrun, hended, hW, hsame⟩ := X0.leave (v := some (.int (own_rfV p1))) (fun h => by rw [Bd.returns] at h; cases h)
      refine ⟨_, _, pre0 _ ?_, hrun, hended, _, _, rfl, ?_, ⟨_, rfl⟩, hW, hsame.mono (by decide) (by decide)⟩
      · show Steps p.tables e below (s₁.setTop (mkF m 0 #[.val (.int p1), .val (.int p2), .unset] [])) _
        refine k1 _ ?_
        show Steps p.tables e below (s₁.setTop (mkF m 68 #[.val (.int p1), .val (.int p2), .val (.int (own_rfV p1))] [])) _
        refine XS.iloadN X0.here hx rfl (hb hby d2_68) rfl ?_
        show Steps p.tables e below (s₁.setTop (mkF m 69 #[.val (.int p1), .val (.int p2), .val (.int (own_rfV p1))] [(.int (own_rfV p1))])) _
        refine XS.ifNo X0.here hx rfl (hb hby d2_69) rfl ((if0 _ _).trans (flt hc69).1) ?_
        show Steps p.tables e below (s₁.setTop (mkF m 72 #[.val (.int p1), .val (.int p2), .val (.int (own_rfV p1))] [])) _
        refine XS.iloadN X0.here hx rfl (hb hby d2_72) rfl ?_
        show Steps p.tables e below (s₁.setTop (mkF m 73 #[.val (.int p1), .val (.int p2), .val (.int (own_rfV p1))] [(.int (own_rfV p1))])) _
        refine XS.iloadN X0.here hx rfl (hb hby d2_73) rfl ?_
        show Steps p.tables e below (s₁.setTop (mkF m 74 #[.val (.int p1), .val (.int p2), .val (.int (own_rfV p1))] [(.int p2), (.int (own_rfV p1))])) _
        refine XS.icmpNo X0.here hx rfl (hb hby d2_74) rfl (tlt hc74).2.1 ?_
        show Steps p.tables e below (s₁.setTop (mkF m 77 #[.val (.int p1), .val (.int p2), .val (.int (own_rfV p1))] [])) _
        refine XS.iloadN X0.here hx rfl (hb hby d2_77) rfl ?_
        show Steps p.tables e below (s₁.setTop (mkF m 78 #[.val (.int p1), .val (.int p2), .val (.int (own_rfV p1))] [(.int (own_rfV p1))])) _
        exact retI X0 hx Bd.returns (hb hby d2_78) hr
      · show Q2 p1 p2 h0 n0 _ s₁.heap _
        rw [e0]
        exact ⟨congrArg (fun z => some (Value.int z)) (show (own_rfV p1) = own_rf p1 p2 by simp only [own_rf, hc69, hc74, ↓reduceIte]), N0, rfl⟩
    · obtain ⟨fs, hr, hrun, hended, hW, hsame⟩ := X0.leave (v := some (.int (-1 : Int32))) (fun h => by rw [Bd.returns] at h; cases h)
      refine ⟨_, _, pre0 _ ?_, hrun, hended, _, _, rfl, ?_, ⟨_, rfl⟩, hW, hsame.mono (by decide) (by decide)⟩
      · show Steps p.tables e below (s₁.setTop (mkF m 0 #[.val (.int p1), .val (.int p2), .unset] [])) _
        refine k1 _ ?_
        show Steps p.tables e below (s₁.setTop (mkF m 68 #[.val (.int p1), .val (.int p2), .val (.int (own_rfV p1))] [])) _
        refine XS.iloadN X0.here hx rfl (hb hby d2_68) rfl ?_
        show Steps p.tables e below (s₁.setTop (mkF m 69 #[.val (.int p1), .val (.int p2), .val (.int (own_rfV p1))] [(.int (own_rfV p1))])) _
        refine XS.ifNo X0.here hx rfl (hb hby d2_69) rfl ((if0 _ _).trans (flt hc69).1) ?_
        show Steps p.tables e below (s₁.setTop (mkF m 72 #[.val (.int p1), .val (.int p2), .val (.int (own_rfV p1))] [])) _
        refine XS.iloadN X0.here hx rfl (hb hby d2_72) rfl ?_
        show Steps p.tables e below (s₁.setTop (mkF m 73 #[.val (.int p1), .val (.int p2), .val (.int (own_rfV p1))] [(.int (own_rfV p1))])) _
        refine XS.iloadN X0.here hx rfl (hb hby d2_73) rfl ?_
        show Steps p.tables e below (s₁.setTop (mkF m 74 #[.val (.int p1), .val (.int p2), .val (.int (own_rfV p1))] [(.int p2), (.int (own_rfV p1))])) _
        refine XS.icmpYes X0.here hx rfl (pc0 := 74) (pc' := 79) rfl (hb hby d2_74) rfl (flt hc74).2.1 (by decide) (by decide) ?_
        show Steps p.tables e below (s₁.setTop (mkF m 79 #[.val (.int p1), .val (.int p2), .val (.int (own_rfV p1))] [])) _
        refine XS.iconst X0.here hx rfl (hb hby d2_79) ?_
        show Steps p.tables e below (s₁.setTop (mkF m 80 #[.val (.int p1), .val (.int p2), .val (.int (own_rfV p1))] [(.int (-1 : Int32))])) _
        exact retI X0 hx Bd.returns (hb hby d2_80) hr
      · show Q2 p1 p2 h0 n0 _ s₁.heap _
        rw [e0]
        exact ⟨congrArg (fun z => some (Value.int z)) (show (-1 : Int32) = own_rf p1 p2 by simp only [own_rf, hc69, hc74, ↓reduceIte]), N0, rfl⟩
theorem pd_0 : parseMethodDescriptor "(CI)I" = some ⟨[.char, .int], some .int⟩ := by decide +kernel
set_option maxRecDepth 65536 in
set_option maxHeartbeats 40000000 in
theorem sg_0 {p : Program} {l : Launch} {e : Env} {R : Room} {s : State} {m : MethodId} {args : Array Value} {below : List Frame} {meth : Method} {c : Code} {T0 : State} {locs : List Loc} {cells slots : Nat} {Z : State} {a0 : Array Value} (p1 p2 p3 : Int32)
    (X0 : Stand p l e R s m args below meth c T0 locs cells slots) (hx : p.tables.exec = Jvm.exec) (hZ : Z.Warmed39 s.vm) (hw : ∀ d ∈ tables_1, d.before a0 Z = true) (hby : c.code = code) (hown : s.vm.findClass "com/example/bulkwire/bulkwire/lua/NumbersDigitValuePinLaw" = some m.cls)  :
    ∃ (k : Int32) (n : Int32) (ch : Int32), (∀ target, Steps p.tables e below (T0.setTop (mkF m 95 #[.val (.int p1), .val (.int p2), .val (.int p3), .val (.int k), .val (.int n), .val (.int ch), .unset] [])) target → Steps p.tables e below (T0.setTop (mkF m 0 #[.val (.int p1), .val (.int p2), .val (.int p3), .unset, .unset, .unset, .unset] [])) target) := by
  by_cases hc13 : (p1 &&& (7 : Int32)) = (1 : Int32)
  · refine ⟨(p1 &&& (7 : Int32)), (p2 &&& (2147483647 : Int32)), (((48 : Int32) + ((p2 &&& (2147483647 : Int32)) - ((p2 &&& (2147483647 : Int32)) / (10 : Int32)) * (10 : Int32))).toUInt32.toUInt16.toUInt32.toInt32), fun target kt => ?_⟩
    show Steps p.tables e below (T0.setTop (mkF m 0 #[.val (.int p1), .val (.int p2), .val (.int p3), .unset, .unset, .unset, .unset] [])) _
    refine XS.iloadN X0.here hx rfl (hb hby at_0) rfl ?_
    show Steps p.tables e below (T0.setTop (mkF m 1 #[.val (.int p1), .val (.int p2), .val (.int p3), .unset, .unset, .unset, .unset] [(.int p1)])) _
    refine XS.bipush X0.here hx rfl (hb hby at_1) ?_
    show Steps p.tables e below (T0.setTop (mkF m 3 #[.val (.int p1), .val (.int p2), .val (.int p3), .unset, .unset, .unset, .unset] [(.int (7 : Int32)), (.int p1)])) _
    refine XS.iand X0.here hx rfl (hb hby at_3) rfl ?_
    show Steps p.tables e below (T0.setTop (mkF m 4 #[.val (.int p1), .val (.int p2), .val (.int p3), .unset, .unset, .unset, .unset] [(.int (p1 &&& (7 : Int32)))])) _
    refine XS.istoreN X0.here hx rfl (hb hby at_4) rfl (l' := #[.val (.int p1), .val (.int p2), .val (.int p3), .val (.int (p1 &&& (7 : Int32))), .unset, .unset, .unset]) rfl ?_
    show Steps p.tables e below (T0.setTop (mkF m 5 #[.val (.int p1), .val (.int p2), .val (.int p3), .val (.int (p1 &&& (7 : Int32))), .unset, .unset, .unset] [])) _
    refine XS.iloadN X0.here hx rfl (hb hby at_5) rfl ?_
    show Steps p.tables e below (T0.setTop (mkF m 6 #[.val (.int p1), .val (.int p2), .val (.int p3), .val (.int (p1 &&& (7 : Int32))), .unset, .unset, .unset] [(.int p2)])) _
    refine X0.ldcInt hx hown (mvT hZ (hw _ (List.mem_of_getElem? (i := 0) rfl))) (g := (mkF m 6 #[.val (.int p1), .val (.int p2), .val (.int p3), .val (.int (p1 &&& (7 : Int32))), .unset, .unset, .unset] [(.int p2)])) rfl (hb hby at_6) _ ?_
    show Steps p.tables e below (T0.setTop (mkF m 8 #[.val (.int p1), .val (.int p2), .val (.int p3), .val (.int (p1 &&& (7 : Int32))), .unset, .unset, .unset] [(.int (2147483647 : Int32)), (.int p2)])) _
    refine XS.iand X0.here hx rfl (hb hby at_8) rfl ?_
    show Steps p.tables e below (T0.setTop (mkF m 9 #[.val (.int p1), .val (.int p2), .val (.int p3), .val (.int (p1 &&& (7 : Int32))), .unset, .unset, .unset] [(.int (p2 &&& (2147483647 : Int32)))])) _
    refine XS.istore X0.here hx rfl (hb hby at_9) rfl (l' := #[.val (.int p1), .val (.int p2), .val (.int p3), .val (.int (p1 &&& (7 : Int32))), .val (.int (p2 &&& (2147483647 : Int32))), .unset, .unset]) rfl ?_
    show Steps p.tables e below (T0.setTop (mkF m 11 #[.val (.int p1), .val (.int p2), .val (.int p3), .val (.int (p1 &&& (7 : Int32))), .val (.int (p2 &&& (2147483647 : Int32))), .unset, .unset] [])) _
    refine XS.iloadN X0.here hx rfl (hb hby at_11) rfl ?_
    show Steps p.tables e below (T0.setTop (mkF m 12 #[.val (.int p1), .val (.int p2), .val (.int p3), .val (.int (p1 &&& (7 : Int32))), .val (.int (p2 &&& (2147483647 : Int32))), .unset, .unset] [(.int (p1 &&& (7 : Int32)))])) _
    refine XS.iconst X0.here hx rfl (hb hby at_12) ?_
    show Steps p.tables e below (T0.setTop (mkF m 13 #[.val (.int p1), .val (.int p2), .val (.int p3), .val (.int (p1 &&& (7 : Int32))), .val (.int (p2 &&& (2147483647 : Int32))), .unset, .unset] [(.int (1 : Int32)), (.int (p1 &&& (7 : Int32)))])) _
    refine XS.icmpNo X0.here hx rfl (hb hby at_13) rfl (teq hc13).2 ?_
    show Steps p.tables e below (T0.setTop (mkF m 16 #[.val (.int p1), .val (.int p2), .val (.int p3), .val (.int (p1 &&& (7 : Int32))), .val (.int (p2 &&& (2147483647 : Int32))), .unset, .unset] [])) _
    refine XS.bipush X0.here hx rfl (hb hby at_16) ?_
    show Steps p.tables e below (T0.setTop (mkF m 18 #[.val (.int p1), .val (.int p2), .val (.int p3), .val (.int (p1 &&& (7 : Int32))), .val (.int (p2 &&& (2147483647 : Int32))), .unset, .unset] [(.int (48 : Int32))])) _
    refine XS.iload X0.here hx rfl (hb hby at_18) rfl ?_
    show Steps p.tables e below (T0.setTop (mkF m 20 #[.val (.int p1), .val (.int p2), .val (.int p3), .val (.int (p1 &&& (7 : Int32))), .val (.int (p2 &&& (2147483647 : Int32))), .unset, .unset] [(.int (p2 &&& (2147483647 : Int32))), (.int (48 : Int32))])) _
    refine XS.bipush X0.here hx rfl (hb hby at_20) ?_
    show Steps p.tables e below (T0.setTop (mkF m 22 #[.val (.int p1), .val (.int p2), .val (.int p3), .val (.int (p1 &&& (7 : Int32))), .val (.int (p2 &&& (2147483647 : Int32))), .unset, .unset] [(.int (10 : Int32)), (.int (p2 &&& (2147483647 : Int32))), (.int (48 : Int32))])) _
    refine XS.irem X0.here hx rfl (hb hby at_22) rfl (by decide) ?_
    show Steps p.tables e below (T0.setTop (mkF m 23 #[.val (.int p1), .val (.int p2), .val (.int p3), .val (.int (p1 &&& (7 : Int32))), .val (.int (p2 &&& (2147483647 : Int32))), .unset, .unset] [(.int ((p2 &&& (2147483647 : Int32)) - ((p2 &&& (2147483647 : Int32)) / (10 : Int32)) * (10 : Int32))), (.int (48 : Int32))])) _
    refine XS.iadd X0.here hx rfl (hb hby at_23) rfl ?_
    show Steps p.tables e below (T0.setTop (mkF m 24 #[.val (.int p1), .val (.int p2), .val (.int p3), .val (.int (p1 &&& (7 : Int32))), .val (.int (p2 &&& (2147483647 : Int32))), .unset, .unset] [(.int ((48 : Int32) + ((p2 &&& (2147483647 : Int32)) - ((p2 &&& (2147483647 : Int32)) / (10 : Int32)) * (10 : Int32))))])) _
    refine XS.i2c X0.here hx rfl (hb hby at_24) rfl ?_
    show Steps p.tables e below (T0.setTop (mkF m 25 #[.val (.int p1), .val (.int p2), .val (.int p3), .val (.int (p1 &&& (7 : Int32))), .val (.int (p2 &&& (2147483647 : Int32))), .unset, .unset] [(.int (((48 : Int32) + ((p2 &&& (2147483647 : Int32)) - ((p2 &&& (2147483647 : Int32)) / (10 : Int32)) * (10 : Int32))).toUInt32.toUInt16.toUInt32.toInt32))])) _
    refine XS.istore X0.here hx rfl (hb hby at_25) rfl (l' := #[.val (.int p1), .val (.int p2), .val (.int p3), .val (.int (p1 &&& (7 : Int32))), .val (.int (p2 &&& (2147483647 : Int32))), .val (.int (((48 : Int32) + ((p2 &&& (2147483647 : Int32)) - ((p2 &&& (2147483647 : Int32)) / (10 : Int32)) * (10 : Int32))).toUInt32.toUInt16.toUInt32.toInt32)), .unset]) rfl ?_
    show Steps p.tables e below (T0.setTop (mkF m 27 #[.val (.int p1), .val (.int p2), .val (.int p3), .val (.int (p1 &&& (7 : Int32))), .val (.int (p2 &&& (2147483647 : Int32))), .val (.int (((48 : Int32) + ((p2 &&& (2147483647 : Int32)) - ((p2 &&& (2147483647 : Int32)) / (10 : Int32)) * (10 : Int32))).toUInt32.toUInt16.toUInt32.toInt32)), .unset] [])) _
    refine XS.goto X0.here hx rfl (pc0 := 27) (pc' := 95) rfl (hb hby at_27) (by decide) (by decide) ?_
    exact kt
  · by_cases hc32 : (p1 &&& (7 : Int32)) = (2 : Int32)
    · refine ⟨(p1 &&& (7 : Int32)), (p2 &&& (2147483647 : Int32)), (((65 : Int32) + ((p2 &&& (2147483647 : Int32)) - ((p2 &&& (2147483647 : Int32)) / (26 : Int32)) * (26 : Int32))).toUInt32.toUInt16.toUInt32.toInt32), fun target kt => ?_⟩
      show Steps p.tables e below (T0.setTop (mkF m 0 #[.val (.int p1), .val (.int p2), .val (.int p3), .unset, .unset, .unset, .unset] [])) _
      refine XS.iloadN X0.here hx rfl (hb hby at_0) rfl ?_
      show Steps p.tables e below (T0.setTop (mkF m 1 #[.val (.int p1), .val (.int p2), .val (.int p3), .unset, .unset, .unset, .unset] [(.int p1)])) _
      refine XS.bipush X0.here hx rfl (hb hby at_1) ?_
      show Steps p.tables e below (T0.setTop (mkF m 3 #[.val (.int p1), .val (.int p2), .val (.int p3), .unset, .unset, .unset, .unset] [(.int (7 : Int32)), (.int p1)])) _
      refine XS.iand X0.here hx rfl (hb hby at_3) rfl ?_
      show Steps p.tables e below (T0.setTop (mkF m 4 #[.val (.int p1), .val (.int p2), .val (.int p3), .unset, .unset, .unset, .unset] [(.int (p1 &&& (7 : Int32)))])) _
      refine XS.istoreN X0.here hx rfl (hb hby at_4) rfl (l' := #[.val (.int p1), .val (.int p2), .val (.int p3), .val (.int (p1 &&& (7 : Int32))), .unset, .unset, .unset]) rfl ?_
      show Steps p.tables e below (T0.setTop (mkF m 5 #[.val (.int p1), .val (.int p2), .val (.int p3), .val (.int (p1 &&& (7 : Int32))), .unset, .unset, .unset] [])) _
      refine XS.iloadN X0.here hx rfl (hb hby at_5) rfl ?_
      show Steps p.tables e below (T0.setTop (mkF m 6 #[.val (.int p1), .val (.int p2), .val (.int p3), .val (.int (p1 &&& (7 : Int32))), .unset, .unset, .unset] [(.int p2)])) _
      refine X0.ldcInt hx hown (mvT hZ (hw _ (List.mem_of_getElem? (i := 0) rfl))) (g := (mkF m 6 #[.val (.int p1), .val (.int p2), .val (.int p3), .val (.int (p1 &&& (7 : Int32))), .unset, .unset, .unset] [(.int p2)])) rfl (hb hby at_6) _ ?_
      show Steps p.tables e below (T0.setTop (mkF m 8 #[.val (.int p1), .val (.int p2), .val (.int p3), .val (.int (p1 &&& (7 : Int32))), .unset, .unset, .unset] [(.int (2147483647 : Int32)), (.int p2)])) _
      refine XS.iand X0.here hx rfl (hb hby at_8) rfl ?_
      show Steps p.tables e below (T0.setTop (mkF m 9 #[.val (.int p1), .val (.int p2), .val (.int p3), .val (.int (p1 &&& (7 : Int32))), .unset, .unset, .unset] [(.int (p2 &&& (2147483647 : Int32)))])) _
      refine XS.istore X0.here hx rfl (hb hby at_9) rfl (l' := #[.val (.int p1), .val (.int p2), .val (.int p3), .val (.int (p1 &&& (7 : Int32))), .val (.int (p2 &&& (2147483647 : Int32))), .unset, .unset]) rfl ?_
      show Steps p.tables e below (T0.setTop (mkF m 11 #[.val (.int p1), .val (.int p2), .val (.int p3), .val (.int (p1 &&& (7 : Int32))), .val (.int (p2 &&& (2147483647 : Int32))), .unset, .unset] [])) _
      refine XS.iloadN X0.here hx rfl (hb hby at_11) rfl ?_
      show Steps p.tables e below (T0.setTop (mkF m 12 #[.val (.int p1), .val (.int p2), .val (.int p3), .val (.int (p1 &&& (7 : Int32))), .val (.int (p2 &&& (2147483647 : Int32))), .unset, .unset] [(.int (p1 &&& (7 : Int32)))])) _
      refine XS.iconst X0.here hx rfl (hb hby at_12) ?_
      show Steps p.tables e below (T0.setTop (mkF m 13 #[.val (.int p1), .val (.int p2), .val (.int p3), .val (.int (p1 &&& (7 : Int32))), .val (.int (p2 &&& (2147483647 : Int32))), .unset, .unset] [(.int (1 : Int32)), (.int (p1 &&& (7 : Int32)))])) _
      refine XS.icmpYes X0.here hx rfl (pc0 := 13) (pc' := 30) rfl (hb hby at_13) rfl (feq hc13).2 (by decide) (by decide) ?_
      show Steps p.tables e below (T0.setTop (mkF m 30 #[.val (.int p1), .val (.int p2), .val (.int p3), .val (.int (p1 &&& (7 : Int32))), .val (.int (p2 &&& (2147483647 : Int32))), .unset, .unset] [])) _
      refine XS.iloadN X0.here hx rfl (hb hby at_30) rfl ?_
      show Steps p.tables e below (T0.setTop (mkF m 31 #[.val (.int p1), .val (.int p2), .val (.int p3), .val (.int (p1 &&& (7 : Int32))), .val (.int (p2 &&& (2147483647 : Int32))), .unset, .unset] [(.int (p1 &&& (7 : Int32)))])) _
      refine XS.iconst X0.here hx rfl (hb hby at_31) ?_
      show Steps p.tables e below (T0.setTop (mkF m 32 #[.val (.int p1), .val (.int p2), .val (.int p3), .val (.int (p1 &&& (7 : Int32))), .val (.int (p2 &&& (2147483647 : Int32))), .unset, .unset] [(.int (2 : Int32)), (.int (p1 &&& (7 : Int32)))])) _
      refine XS.icmpNo X0.here hx rfl (hb hby at_32) rfl (teq hc32).2 ?_
      show Steps p.tables e below (T0.setTop (mkF m 35 #[.val (.int p1), .val (.int p2), .val (.int p3), .val (.int (p1 &&& (7 : Int32))), .val (.int (p2 &&& (2147483647 : Int32))), .unset, .unset] [])) _
      refine XS.bipush X0.here hx rfl (hb hby at_35) ?_
      show Steps p.tables e below (T0.setTop (mkF m 37 #[.val (.int p1), .val (.int p2), .val (.int p3), .val (.int (p1 &&& (7 : Int32))), .val (.int (p2 &&& (2147483647 : Int32))), .unset, .unset] [(.int (65 : Int32))])) _
      refine XS.iload X0.here hx rfl (hb hby at_37) rfl ?_
      show Steps p.tables e below (T0.setTop (mkF m 39 #[.val (.int p1), .val (.int p2), .val (.int p3), .val (.int (p1 &&& (7 : Int32))), .val (.int (p2 &&& (2147483647 : Int32))), .unset, .unset] [(.int (p2 &&& (2147483647 : Int32))), (.int (65 : Int32))])) _
      refine XS.bipush X0.here hx rfl (hb hby at_39) ?_
      show Steps p.tables e below (T0.setTop (mkF m 41 #[.val (.int p1), .val (.int p2), .val (.int p3), .val (.int (p1 &&& (7 : Int32))), .val (.int (p2 &&& (2147483647 : Int32))), .unset, .unset] [(.int (26 : Int32)), (.int (p2 &&& (2147483647 : Int32))), (.int (65 : Int32))])) _
      refine XS.irem X0.here hx rfl (hb hby at_41) rfl (by decide) ?_
      show Steps p.tables e below (T0.setTop (mkF m 42 #[.val (.int p1), .val (.int p2), .val (.int p3), .val (.int (p1 &&& (7 : Int32))), .val (.int (p2 &&& (2147483647 : Int32))), .unset, .unset] [(.int ((p2 &&& (2147483647 : Int32)) - ((p2 &&& (2147483647 : Int32)) / (26 : Int32)) * (26 : Int32))), (.int (65 : Int32))])) _
      refine XS.iadd X0.here hx rfl (hb hby at_42) rfl ?_
      show Steps p.tables e below (T0.setTop (mkF m 43 #[.val (.int p1), .val (.int p2), .val (.int p3), .val (.int (p1 &&& (7 : Int32))), .val (.int (p2 &&& (2147483647 : Int32))), .unset, .unset] [(.int ((65 : Int32) + ((p2 &&& (2147483647 : Int32)) - ((p2 &&& (2147483647 : Int32)) / (26 : Int32)) * (26 : Int32))))])) _
      refine XS.i2c X0.here hx rfl (hb hby at_43) rfl ?_
      show Steps p.tables e below (T0.setTop (mkF m 44 #[.val (.int p1), .val (.int p2), .val (.int p3), .val (.int (p1 &&& (7 : Int32))), .val (.int (p2 &&& (2147483647 : Int32))), .unset, .unset] [(.int (((65 : Int32) + ((p2 &&& (2147483647 : Int32)) - ((p2 &&& (2147483647 : Int32)) / (26 : Int32)) * (26 : Int32))).toUInt32.toUInt16.toUInt32.toInt32))])) _
      refine XS.istore X0.here hx rfl (hb hby at_44) rfl (l' := #[.val (.int p1), .val (.int p2), .val (.int p3), .val (.int (p1 &&& (7 : Int32))), .val (.int (p2 &&& (2147483647 : Int32))), .val (.int (((65 : Int32) + ((p2 &&& (2147483647 : Int32)) - ((p2 &&& (2147483647 : Int32)) / (26 : Int32)) * (26 : Int32))).toUInt32.toUInt16.toUInt32.toInt32)), .unset]) rfl ?_
      show Steps p.tables e below (T0.setTop (mkF m 46 #[.val (.int p1), .val (.int p2), .val (.int p3), .val (.int (p1 &&& (7 : Int32))), .val (.int (p2 &&& (2147483647 : Int32))), .val (.int (((65 : Int32) + ((p2 &&& (2147483647 : Int32)) - ((p2 &&& (2147483647 : Int32)) / (26 : Int32)) * (26 : Int32))).toUInt32.toUInt16.toUInt32.toInt32)), .unset] [])) _
      refine XS.goto X0.here hx rfl (pc0 := 46) (pc' := 95) rfl (hb hby at_46) (by decide) (by decide) ?_
      exact kt
    · by_cases hc51 : (p1 &&& (7 : Int32)) = (3 : Int32)
      · refine ⟨(p1 &&& (7 : Int32)), (p2 &&& (2147483647 : Int32)), (((97 : Int32) + ((p2 &&& (2147483647 : Int32)) - ((p2 &&& (2147483647 : Int32)) / (26 : Int32)) * (26 : Int32))).toUInt32.toUInt16.toUInt32.toInt32), fun target kt => ?_⟩
        show Steps p.tables e below (T0.setTop (mkF m 0 #[.val (.int p1), .val (.int p2), .val (.int p3), .unset, .unset, .unset, .unset] [])) _
        refine XS.iloadN X0.here hx rfl (hb hby at_0) rfl ?_
        show Steps p.tables e below (T0.setTop (mkF m 1 #[.val (.int p1), .val (.int p2), .val (.int p3), .unset, .unset, .unset, .unset] [(.int p1)])) _
        refine XS.bipush X0.here hx rfl (hb hby at_1) ?_
        show Steps p.tables e below (T0.setTop (mkF m 3 #[.val (.int p1), .val (.int p2), .val (.int p3), .unset, .unset, .unset, .unset] [(.int (7 : Int32)), (.int p1)])) _
        refine XS.iand X0.here hx rfl (hb hby at_3) rfl ?_
        show Steps p.tables e below (T0.setTop (mkF m 4 #[.val (.int p1), .val (.int p2), .val (.int p3), .unset, .unset, .unset, .unset] [(.int (p1 &&& (7 : Int32)))])) _
        refine XS.istoreN X0.here hx rfl (hb hby at_4) rfl (l' := #[.val (.int p1), .val (.int p2), .val (.int p3), .val (.int (p1 &&& (7 : Int32))), .unset, .unset, .unset]) rfl ?_
        show Steps p.tables e below (T0.setTop (mkF m 5 #[.val (.int p1), .val (.int p2), .val (.int p3), .val (.int (p1 &&& (7 : Int32))), .unset, .unset, .unset] [])) _
        refine XS.iloadN X0.here hx rfl (hb hby at_5) rfl ?_
        show Steps p.tables e below (T0.setTop (mkF m 6 #[.val (.int p1), .val (.int p2), .val (.int p3), .val (.int (p1 &&& (7 : Int32))), .unset, .unset, .unset] [(.int p2)])) _
        refine X0.ldcInt hx hown (mvT hZ (hw _ (List.mem_of_getElem? (i := 0) rfl))) (g := (mkF m 6 #[.val (.int p1), .val (.int p2), .val (.int p3), .val (.int (p1 &&& (7 : Int32))), .unset, .unset, .unset] [(.int p2)])) rfl (hb hby at_6) _ ?_
        show Steps p.tables e below (T0.setTop (mkF m 8 #[.val (.int p1), .val (.int p2), .val (.int p3), .val (.int (p1 &&& (7 : Int32))), .unset, .unset, .unset] [(.int (2147483647 : Int32)), (.int p2)])) _
        refine XS.iand X0.here hx rfl (hb hby at_8) rfl ?_
        show Steps p.tables e below (T0.setTop (mkF m 9 #[.val (.int p1), .val (.int p2), .val (.int p3), .val (.int (p1 &&& (7 : Int32))), .unset, .unset, .unset] [(.int (p2 &&& (2147483647 : Int32)))])) _
        refine XS.istore X0.here hx rfl (hb hby at_9) rfl (l' := #[.val (.int p1), .val (.int p2), .val (.int p3), .val (.int (p1 &&& (7 : Int32))), .val (.int (p2 &&& (2147483647 : Int32))), .unset, .unset]) rfl ?_
        show Steps p.tables e below (T0.setTop (mkF m 11 #[.val (.int p1), .val (.int p2), .val (.int p3), .val (.int (p1 &&& (7 : Int32))), .val (.int (p2 &&& (2147483647 : Int32))), .unset, .unset] [])) _
        refine XS.iloadN X0.here hx rfl (hb hby at_11) rfl ?_
        show Steps p.tables e below (T0.setTop (mkF m 12 #[.val (.int p1), .val (.int p2), .val (.int p3), .val (.int (p1 &&& (7 : Int32))), .val (.int (p2 &&& (2147483647 : Int32))), .unset, .unset] [(.int (p1 &&& (7 : Int32)))])) _
        refine XS.iconst X0.here hx rfl (hb hby at_12) ?_
        show Steps p.tables e below (T0.setTop (mkF m 13 #[.val (.int p1), .val (.int p2), .val (.int p3), .val (.int (p1 &&& (7 : Int32))), .val (.int (p2 &&& (2147483647 : Int32))), .unset, .unset] [(.int (1 : Int32)), (.int (p1 &&& (7 : Int32)))])) _
        refine XS.icmpYes X0.here hx rfl (pc0 := 13) (pc' := 30) rfl (hb hby at_13) rfl (feq hc13).2 (by decide) (by decide) ?_
        show Steps p.tables e below (T0.setTop (mkF m 30 #[.val (.int p1), .val (.int p2), .val (.int p3), .val (.int (p1 &&& (7 : Int32))), .val (.int (p2 &&& (2147483647 : Int32))), .unset, .unset] [])) _
        refine XS.iloadN X0.here hx rfl (hb hby at_30) rfl ?_
        show Steps p.tables e below (T0.setTop (mkF m 31 #[.val (.int p1), .val (.int p2), .val (.int p3), .val (.int (p1 &&& (7 : Int32))), .val (.int (p2 &&& (2147483647 : Int32))), .unset, .unset] [(.int (p1 &&& (7 : Int32)))])) _
        refine XS.iconst X0.here hx rfl (hb hby at_31) ?_
        show Steps p.tables e below (T0.setTop (mkF m 32 #[.val (.int p1), .val (.int p2), .val (.int p3), .val (.int (p1 &&& (7 : Int32))), .val (.int (p2 &&& (2147483647 : Int32))), .unset, .unset] [(.int (2 : Int32)), (.int (p1 &&& (7 : Int32)))])) _
        refine XS.icmpYes X0.here hx rfl (pc0 := 32) (pc' := 49) rfl (hb hby at_32) rfl (feq hc32).2 (by decide) (by decide) ?_
        show Steps p.tables e below (T0.setTop (mkF m 49 #[.val (.int p1), .val (.int p2), .val (.int p3), .val (.int (p1 &&& (7 : Int32))), .val (.int (p2 &&& (2147483647 : Int32))), .unset, .unset] [])) _
        refine XS.iloadN X0.here hx rfl (hb hby at_49) rfl ?_
        show Steps p.tables e below (T0.setTop (mkF m 50 #[.val (.int p1), .val (.int p2), .val (.int p3), .val (.int (p1 &&& (7 : Int32))), .val (.int (p2 &&& (2147483647 : Int32))), .unset, .unset] [(.int (p1 &&& (7 : Int32)))])) _
        refine XS.iconst X0.here hx rfl (hb hby at_50) ?_
        show Steps p.tables e below (T0.setTop (mkF m 51 #[.val (.int p1), .val (.int p2), .val (.int p3), .val (.int (p1 &&& (7 : Int32))), .val (.int (p2 &&& (2147483647 : Int32))), .unset, .unset] [(.int (3 : Int32)), (.int (p1 &&& (7 : Int32)))])) _
        refine XS.icmpNo X0.here hx rfl (hb hby at_51) rfl (teq hc51).2 ?_
        show Steps p.tables e below (T0.setTop (mkF m 54 #[.val (.int p1), .val (.int p2), .val (.int p3), .val (.int (p1 &&& (7 : Int32))), .val (.int (p2 &&& (2147483647 : Int32))), .unset, .unset] [])) _
        refine XS.bipush X0.here hx rfl (hb hby at_54) ?_
        show Steps p.tables e below (T0.setTop (mkF m 56 #[.val (.int p1), .val (.int p2), .val (.int p3), .val (.int (p1 &&& (7 : Int32))), .val (.int (p2 &&& (2147483647 : Int32))), .unset, .unset] [(.int (97 : Int32))])) _
        refine XS.iload X0.here hx rfl (hb hby at_56) rfl ?_
        show Steps p.tables e below (T0.setTop (mkF m 58 #[.val (.int p1), .val (.int p2), .val (.int p3), .val (.int (p1 &&& (7 : Int32))), .val (.int (p2 &&& (2147483647 : Int32))), .unset, .unset] [(.int (p2 &&& (2147483647 : Int32))), (.int (97 : Int32))])) _
        refine XS.bipush X0.here hx rfl (hb hby at_58) ?_
        show Steps p.tables e below (T0.setTop (mkF m 60 #[.val (.int p1), .val (.int p2), .val (.int p3), .val (.int (p1 &&& (7 : Int32))), .val (.int (p2 &&& (2147483647 : Int32))), .unset, .unset] [(.int (26 : Int32)), (.int (p2 &&& (2147483647 : Int32))), (.int (97 : Int32))])) _
        refine XS.irem X0.here hx rfl (hb hby at_60) rfl (by decide) ?_
        show Steps p.tables e below (T0.setTop (mkF m 61 #[.val (.int p1), .val (.int p2), .val (.int p3), .val (.int (p1 &&& (7 : Int32))), .val (.int (p2 &&& (2147483647 : Int32))), .unset, .unset] [(.int ((p2 &&& (2147483647 : Int32)) - ((p2 &&& (2147483647 : Int32)) / (26 : Int32)) * (26 : Int32))), (.int (97 : Int32))])) _
        refine XS.iadd X0.here hx rfl (hb hby at_61) rfl ?_
        show Steps p.tables e below (T0.setTop (mkF m 62 #[.val (.int p1), .val (.int p2), .val (.int p3), .val (.int (p1 &&& (7 : Int32))), .val (.int (p2 &&& (2147483647 : Int32))), .unset, .unset] [(.int ((97 : Int32) + ((p2 &&& (2147483647 : Int32)) - ((p2 &&& (2147483647 : Int32)) / (26 : Int32)) * (26 : Int32))))])) _
        refine XS.i2c X0.here hx rfl (hb hby at_62) rfl ?_
        show Steps p.tables e below (T0.setTop (mkF m 63 #[.val (.int p1), .val (.int p2), .val (.int p3), .val (.int (p1 &&& (7 : Int32))), .val (.int (p2 &&& (2147483647 : Int32))), .unset, .unset] [(.int (((97 : Int32) + ((p2 &&& (2147483647 : Int32)) - ((p2 &&& (2147483647 : Int32)) / (26 : Int32)) * (26 : Int32))).toUInt32.toUInt16.toUInt32.toInt32))])) _
        refine XS.istore X0.here hx rfl (hb hby at_63) rfl (l' := #[.val (.int p1), .val (.int p2), .val (.int p3), .val (.int (p1 &&& (7 : Int32))), .val (.int (p2 &&& (2147483647 : Int32))), .val (.int (((97 : Int32) + ((p2 &&& (2147483647 : Int32)) - ((p2 &&& (2147483647 : Int32)) / (26 : Int32)) * (26 : Int32))).toUInt32.toUInt16.toUInt32.toInt32)), .unset]) rfl ?_
        show Steps p.tables e below (T0.setTop (mkF m 65 #[.val (.int p1), .val (.int p2), .val (.int p3), .val (.int (p1 &&& (7 : Int32))), .val (.int (p2 &&& (2147483647 : Int32))), .val (.int (((97 : Int32) + ((p2 &&& (2147483647 : Int32)) - ((p2 &&& (2147483647 : Int32)) / (26 : Int32)) * (26 : Int32))).toUInt32.toUInt16.toUInt32.toInt32)), .unset] [])) _
        refine XS.goto X0.here hx rfl (pc0 := 65) (pc' := 95) rfl (hb hby at_65) (by decide) (by decide) ?_
        exact kt
      · by_cases hc70 : (p1 &&& (7 : Int32)) = (4 : Int32)
        · refine ⟨(p1 &&& (7 : Int32)), (p2 &&& (2147483647 : Int32)), ((p2 &&& (127 : Int32)).toUInt32.toUInt16.toUInt32.toInt32), fun target kt => ?_⟩
          show Steps p.tables e below (T0.setTop (mkF m 0 #[.val (.int p1), .val (.int p2), .val (.int p3), .unset, .unset, .unset, .unset] [])) _
          refine XS.iloadN X0.here hx rfl (hb hby at_0) rfl ?_
          show Steps p.tables e below (T0.setTop (mkF m 1 #[.val (.int p1), .val (.int p2), .val (.int p3), .unset, .unset, .unset, .unset] [(.int p1)])) _
          refine XS.bipush X0.here hx rfl (hb hby at_1) ?_
          show Steps p.tables e below (T0.setTop (mkF m 3 #[.val (.int p1), .val (.int p2), .val (.int p3), .unset, .unset, .unset, .unset] [(.int (7 : Int32)), (.int p1)])) _
          refine XS.iand X0.here hx rfl (hb hby at_3) rfl ?_
          show Steps p.tables e below (T0.setTop (mkF m 4 #[.val (.int p1), .val (.int p2), .val (.int p3), .unset, .unset, .unset, .unset] [(.int (p1 &&& (7 : Int32)))])) _
          refine XS.istoreN X0.here hx rfl (hb hby at_4) rfl (l' := #[.val (.int p1), .val (.int p2), .val (.int p3), .val (.int (p1 &&& (7 : Int32))), .unset, .unset, .unset]) rfl ?_
          show Steps p.tables e below (T0.setTop (mkF m 5 #[.val (.int p1), .val (.int p2), .val (.int p3), .val (.int (p1 &&& (7 : Int32))), .unset, .unset, .unset] [])) _
          refine XS.iloadN X0.here hx rfl (hb hby at_5) rfl ?_
          show Steps p.tables e below (T0.setTop (mkF m 6 #[.val (.int p1), .val (.int p2), .val (.int p3), .val (.int (p1 &&& (7 : Int32))), .unset, .unset, .unset] [(.int p2)])) _
          refine X0.ldcInt hx hown (mvT hZ (hw _ (List.mem_of_getElem? (i := 0) rfl))) (g := (mkF m 6 #[.val (.int p1), .val (.int p2), .val (.int p3), .val (.int (p1 &&& (7 : Int32))), .unset, .unset, .unset] [(.int p2)])) rfl (hb hby at_6) _ ?_
          show Steps p.tables e below (T0.setTop (mkF m 8 #[.val (.int p1), .val (.int p2), .val (.int p3), .val (.int (p1 &&& (7 : Int32))), .unset, .unset, .unset] [(.int (2147483647 : Int32)), (.int p2)])) _
          refine XS.iand X0.here hx rfl (hb hby at_8) rfl ?_
          show Steps p.tables e below (T0.setTop (mkF m 9 #[.val (.int p1), .val (.int p2), .val (.int p3), .val (.int (p1 &&& (7 : Int32))), .unset, .unset, .unset] [(.int (p2 &&& (2147483647 : Int32)))])) _
          refine XS.istore X0.here hx rfl (hb hby at_9) rfl (l' := #[.val (.int p1), .val (.int p2), .val (.int p3), .val (.int (p1 &&& (7 : Int32))), .val (.int (p2 &&& (2147483647 : Int32))), .unset, .unset]) rfl ?_
          show Steps p.tables e below (T0.setTop (mkF m 11 #[.val (.int p1), .val (.int p2), .val (.int p3), .val (.int (p1 &&& (7 : Int32))), .val (.int (p2 &&& (2147483647 : Int32))), .unset, .unset] [])) _
          refine XS.iloadN X0.here hx rfl (hb hby at_11) rfl ?_
          show Steps p.tables e below (T0.setTop (mkF m 12 #[.val (.int p1), .val (.int p2), .val (.int p3), .val (.int (p1 &&& (7 : Int32))), .val (.int (p2 &&& (2147483647 : Int32))), .unset, .unset] [(.int (p1 &&& (7 : Int32)))])) _
          refine XS.iconst X0.here hx rfl (hb hby at_12) ?_
          show Steps p.tables e below (T0.setTop (mkF m 13 #[.val (.int p1), .val (.int p2), .val (.int p3), .val (.int (p1 &&& (7 : Int32))), .val (.int (p2 &&& (2147483647 : Int32))), .unset, .unset] [(.int (1 : Int32)), (.int (p1 &&& (7 : Int32)))])) _
          refine XS.icmpYes X0.here hx rfl (pc0 := 13) (pc' := 30) rfl (hb hby at_13) rfl (feq hc13).2 (by decide) (by decide) ?_
          show Steps p.tables e below (T0.setTop (mkF m 30 #[.val (.int p1), .val (.int p2), .val (.int p3), .val (.int (p1 &&& (7 : Int32))), .val (.int (p2 &&& (2147483647 : Int32))), .unset, .unset] [])) _
          refine XS.iloadN X0.here hx rfl (hb hby at_30) rfl ?_
          show Steps p.tables e below (T0.setTop (mkF m 31 #[.val (.int p1), .val (.int p2), .val (.int p3), .val (.int (p1 &&& (7 : Int32))), .val (.int (p2 &&& (2147483647 : Int32))), .unset, .unset] [(.int (p1 &&& (7 : Int32)))])) _
          refine XS.iconst X0.here hx rfl (hb hby at_31) ?_
          show Steps p.tables e below (T0.setTop (mkF m 32 #[.val (.int p1), .val (.int p2), .val (.int p3), .val (.int (p1 &&& (7 : Int32))), .val (.int (p2 &&& (2147483647 : Int32))), .unset, .unset] [(.int (2 : Int32)), (.int (p1 &&& (7 : Int32)))])) _
          refine XS.icmpYes X0.here hx rfl (pc0 := 32) (pc' := 49) rfl (hb hby at_32) rfl (feq hc32).2 (by decide) (by decide) ?_
          show Steps p.tables e below (T0.setTop (mkF m 49 #[.val (.int p1), .val (.int p2), .val (.int p3), .val (.int (p1 &&& (7 : Int32))), .val (.int (p2 &&& (2147483647 : Int32))), .unset, .unset] [])) _
          refine XS.iloadN X0.here hx rfl (hb hby at_49) rfl ?_
          show Steps p.tables e below (T0.setTop (mkF m 50 #[.val (.int p1), .val (.int p2), .val (.int p3), .val (.int (p1 &&& (7 : Int32))), .val (.int (p2 &&& (2147483647 : Int32))), .unset, .unset] [(.int (p1 &&& (7 : Int32)))])) _
          refine XS.iconst X0.here hx rfl (hb hby at_50) ?_
          show Steps p.tables e below (T0.setTop (mkF m 51 #[.val (.int p1), .val (.int p2), .val (.int p3), .val (.int (p1 &&& (7 : Int32))), .val (.int (p2 &&& (2147483647 : Int32))), .unset, .unset] [(.int (3 : Int32)), (.int (p1 &&& (7 : Int32)))])) _
          refine XS.icmpYes X0.here hx rfl (pc0 := 51) (pc' := 68) rfl (hb hby at_51) rfl (feq hc51).2 (by decide) (by decide) ?_
          show Steps p.tables e below (T0.setTop (mkF m 68 #[.val (.int p1), .val (.int p2), .val (.int p3), .val (.int (p1 &&& (7 : Int32))), .val (.int (p2 &&& (2147483647 : Int32))), .unset, .unset] [])) _
          refine XS.iloadN X0.here hx rfl (hb hby at_68) rfl ?_
          show Steps p.tables e below (T0.setTop (mkF m 69 #[.val (.int p1), .val (.int p2), .val (.int p3), .val (.int (p1 &&& (7 : Int32))), .val (.int (p2 &&& (2147483647 : Int32))), .unset, .unset] [(.int (p1 &&& (7 : Int32)))])) _
          refine XS.iconst X0.here hx rfl (hb hby at_69) ?_
          show Steps p.tables e below (T0.setTop (mkF m 70 #[.val (.int p1), .val (.int p2), .val (.int p3), .val (.int (p1 &&& (7 : Int32))), .val (.int (p2 &&& (2147483647 : Int32))), .unset, .unset] [(.int (4 : Int32)), (.int (p1 &&& (7 : Int32)))])) _
          refine XS.icmpYes X0.here hx rfl (pc0 := 70) (pc' := 78) rfl (hb hby at_70) rfl (teq hc70).1 (by decide) (by decide) ?_
          show Steps p.tables e below (T0.setTop (mkF m 78 #[.val (.int p1), .val (.int p2), .val (.int p3), .val (.int (p1 &&& (7 : Int32))), .val (.int (p2 &&& (2147483647 : Int32))), .unset, .unset] [])) _
          refine XS.iloadN X0.here hx rfl (hb hby at_78) rfl ?_
          show Steps p.tables e below (T0.setTop (mkF m 79 #[.val (.int p1), .val (.int p2), .val (.int p3), .val (.int (p1 &&& (7 : Int32))), .val (.int (p2 &&& (2147483647 : Int32))), .unset, .unset] [(.int p2)])) _
          refine XS.bipush X0.here hx rfl (hb hby at_79) ?_
          show Steps p.tables e below (T0.setTop (mkF m 81 #[.val (.int p1), .val (.int p2), .val (.int p3), .val (.int (p1 &&& (7 : Int32))), .val (.int (p2 &&& (2147483647 : Int32))), .unset, .unset] [(.int (127 : Int32)), (.int p2)])) _
          refine XS.iand X0.here hx rfl (hb hby at_81) rfl ?_
          show Steps p.tables e below (T0.setTop (mkF m 82 #[.val (.int p1), .val (.int p2), .val (.int p3), .val (.int (p1 &&& (7 : Int32))), .val (.int (p2 &&& (2147483647 : Int32))), .unset, .unset] [(.int (p2 &&& (127 : Int32)))])) _
          refine XS.i2c X0.here hx rfl (hb hby at_82) rfl ?_
          show Steps p.tables e below (T0.setTop (mkF m 83 #[.val (.int p1), .val (.int p2), .val (.int p3), .val (.int (p1 &&& (7 : Int32))), .val (.int (p2 &&& (2147483647 : Int32))), .unset, .unset] [(.int ((p2 &&& (127 : Int32)).toUInt32.toUInt16.toUInt32.toInt32))])) _
          refine XS.istore X0.here hx rfl (hb hby at_83) rfl (l' := #[.val (.int p1), .val (.int p2), .val (.int p3), .val (.int (p1 &&& (7 : Int32))), .val (.int (p2 &&& (2147483647 : Int32))), .val (.int ((p2 &&& (127 : Int32)).toUInt32.toUInt16.toUInt32.toInt32)), .unset]) rfl ?_
          show Steps p.tables e below (T0.setTop (mkF m 85 #[.val (.int p1), .val (.int p2), .val (.int p3), .val (.int (p1 &&& (7 : Int32))), .val (.int (p2 &&& (2147483647 : Int32))), .val (.int ((p2 &&& (127 : Int32)).toUInt32.toUInt16.toUInt32.toInt32)), .unset] [])) _
          refine XS.goto X0.here hx rfl (pc0 := 85) (pc' := 95) rfl (hb hby at_85) (by decide) (by decide) ?_
          exact kt
        · by_cases hc75 : (p1 &&& (7 : Int32)) = (5 : Int32)
          · refine ⟨(p1 &&& (7 : Int32)), (p2 &&& (2147483647 : Int32)), ((p2 &&& (127 : Int32)).toUInt32.toUInt16.toUInt32.toInt32), fun target kt => ?_⟩
            show Steps p.tables e below (T0.setTop (mkF m 0 #[.val (.int p1), .val (.int p2), .val (.int p3), .unset, .unset, .unset, .unset] [])) _
            refine XS.iloadN X0.here hx rfl (hb hby at_0) rfl ?_
            show Steps p.tables e below (T0.setTop (mkF m 1 #[.val (.int p1), .val (.int p2), .val (.int p3), .unset, .unset, .unset, .unset] [(.int p1)])) _
            refine XS.bipush X0.here hx rfl (hb hby at_1) ?_
            show Steps p.tables e below (T0.setTop (mkF m 3 #[.val (.int p1), .val (.int p2), .val (.int p3), .unset, .unset, .unset, .unset] [(.int (7 : Int32)), (.int p1)])) _
            refine XS.iand X0.here hx rfl (hb hby at_3) rfl ?_
            show Steps p.tables e below (T0.setTop (mkF m 4 #[.val (.int p1), .val (.int p2), .val (.int p3), .unset, .unset, .unset, .unset] [(.int (p1 &&& (7 : Int32)))])) _
            refine XS.istoreN X0.here hx rfl (hb hby at_4) rfl (l' := #[.val (.int p1), .val (.int p2), .val (.int p3), .val (.int (p1 &&& (7 : Int32))), .unset, .unset, .unset]) rfl ?_
            show Steps p.tables e below (T0.setTop (mkF m 5 #[.val (.int p1), .val (.int p2), .val (.int p3), .val (.int (p1 &&& (7 : Int32))), .unset, .unset, .unset] [])) _
            refine XS.iloadN X0.here hx rfl (hb hby at_5) rfl ?_
            show Steps p.tables e below (T0.setTop (mkF m 6 #[.val (.int p1), .val (.int p2), .val (.int p3), .val (.int (p1 &&& (7 : Int32))), .unset, .unset, .unset] [(.int p2)])) _
            refine X0.ldcInt hx hown (mvT hZ (hw _ (List.mem_of_getElem? (i := 0) rfl))) (g := (mkF m 6 #[.val (.int p1), .val (.int p2), .val (.int p3), .val (.int (p1 &&& (7 : Int32))), .unset, .unset, .unset] [(.int p2)])) rfl (hb hby at_6) _ ?_
            show Steps p.tables e below (T0.setTop (mkF m 8 #[.val (.int p1), .val (.int p2), .val (.int p3), .val (.int (p1 &&& (7 : Int32))), .unset, .unset, .unset] [(.int (2147483647 : Int32)), (.int p2)])) _
            refine XS.iand X0.here hx rfl (hb hby at_8) rfl ?_
            show Steps p.tables e below (T0.setTop (mkF m 9 #[.val (.int p1), .val (.int p2), .val (.int p3), .val (.int (p1 &&& (7 : Int32))), .unset, .unset, .unset] [(.int (p2 &&& (2147483647 : Int32)))])) _
            refine XS.istore X0.here hx rfl (hb hby at_9) rfl (l' := #[.val (.int p1), .val (.int p2), .val (.int p3), .val (.int (p1 &&& (7 : Int32))), .val (.int (p2 &&& (2147483647 : Int32))), .unset, .unset]) rfl ?_
            show Steps p.tables e below (T0.setTop (mkF m 11 #[.val (.int p1), .val (.int p2), .val (.int p3), .val (.int (p1 &&& (7 : Int32))), .val (.int (p2 &&& (2147483647 : Int32))), .unset, .unset] [])) _
            refine XS.iloadN X0.here hx rfl (hb hby at_11) rfl ?_
            show Steps p.tables e below (T0.setTop (mkF m 12 #[.val (.int p1), .val (.int p2), .val (.int p3), .val (.int (p1 &&& (7 : Int32))), .val (.int (p2 &&& (2147483647 : Int32))), .unset, .unset] [(.int (p1 &&& (7 : Int32)))])) _
            refine XS.iconst X0.here hx rfl (hb hby at_12) ?_
            show Steps p.tables e below (T0.setTop (mkF m 13 #[.val (.int p1), .val (.int p2), .val (.int p3), .val (.int (p1 &&& (7 : Int32))), .val (.int (p2 &&& (2147483647 : Int32))), .unset, .unset] [(.int (1 : Int32)), (.int (p1 &&& (7 : Int32)))])) _
            refine XS.icmpYes X0.here hx rfl (pc0 := 13) (pc' := 30) rfl (hb hby at_13) rfl (feq hc13).2 (by decide) (by decide) ?_
            show Steps p.tables e below (T0.setTop (mkF m 30 #[.val (.int p1), .val (.int p2), .val (.int p3), .val (.int (p1 &&& (7 : Int32))), .val (.int (p2 &&& (2147483647 : Int32))), .unset, .unset] [])) _
            refine XS.iloadN X0.here hx rfl (hb hby at_30) rfl ?_
            show Steps p.tables e below (T0.setTop (mkF m 31 #[.val (.int p1), .val (.int p2), .val (.int p3), .val (.int (p1 &&& (7 : Int32))), .val (.int (p2 &&& (2147483647 : Int32))), .unset, .unset] [(.int (p1 &&& (7 : Int32)))])) _
            refine XS.iconst X0.here hx rfl (hb hby at_31) ?_
            show Steps p.tables e below (T0.setTop (mkF m 32 #[.val (.int p1), .val (.int p2), .val (.int p3), .val (.int (p1 &&& (7 : Int32))), .val (.int (p2 &&& (2147483647 : Int32))), .unset, .unset] [(.int (2 : Int32)), (.int (p1 &&& (7 : Int32)))])) _
            refine XS.icmpYes X0.here hx rfl (pc0 := 32) (pc' := 49) rfl (hb hby at_32) rfl (feq hc32).2 (by decide) (by decide) ?_
            show Steps p.tables e below (T0.setTop (mkF m 49 #[.val (.int p1), .val (.int p2), .val (.int p3), .val (.int (p1 &&& (7 : Int32))), .val (.int (p2 &&& (2147483647 : Int32))), .unset, .unset] [])) _
            refine XS.iloadN X0.here hx rfl (hb hby at_49) rfl ?_
            show Steps p.tables e below (T0.setTop (mkF m 50 #[.val (.int p1), .val (.int p2), .val (.int p3), .val (.int (p1 &&& (7 : Int32))), .val (.int (p2 &&& (2147483647 : Int32))), .unset, .unset] [(.int (p1 &&& (7 : Int32)))])) _
            refine XS.iconst X0.here hx rfl (hb hby at_50) ?_
            show Steps p.tables e below (T0.setTop (mkF m 51 #[.val (.int p1), .val (.int p2), .val (.int p3), .val (.int (p1 &&& (7 : Int32))), .val (.int (p2 &&& (2147483647 : Int32))), .unset, .unset] [(.int (3 : Int32)), (.int (p1 &&& (7 : Int32)))])) _
            refine XS.icmpYes X0.here hx rfl (pc0 := 51) (pc' := 68) rfl (hb hby at_51) rfl (feq hc51).2 (by decide) (by decide) ?_
            show Steps p.tables e below (T0.setTop (mkF m 68 #[.val (.int p1), .val (.int p2), .val (.int p3), .val (.int (p1 &&& (7 : Int32))), .val (.int (p2 &&& (2147483647 : Int32))), .unset, .unset] [])) _
            refine XS.iloadN X0.here hx rfl (hb hby at_68) rfl ?_
            show Steps p.tables e below (T0.setTop (mkF m 69 #[.val (.int p1), .val (.int p2), .val (.int p3), .val (.int (p1 &&& (7 : Int32))), .val (.int (p2 &&& (2147483647 : Int32))), .unset, .unset] [(.int (p1 &&& (7 : Int32)))])) _
            refine XS.iconst X0.here hx rfl (hb hby at_69) ?_
            show Steps p.tables e below (T0.setTop (mkF m 70 #[.val (.int p1), .val (.int p2), .val (.int p3), .val (.int (p1 &&& (7 : Int32))), .val (.int (p2 &&& (2147483647 : Int32))), .unset, .unset] [(.int (4 : Int32)), (.int (p1 &&& (7 : Int32)))])) _
            refine XS.icmpNo X0.here hx rfl (hb hby at_70) rfl (feq hc70).1 ?_
            show Steps p.tables e below (T0.setTop (mkF m 73 #[.val (.int p1), .val (.int p2), .val (.int p3), .val (.int (p1 &&& (7 : Int32))), .val (.int (p2 &&& (2147483647 : Int32))), .unset, .unset] [])) _
            refine XS.iloadN X0.here hx rfl (hb hby at_73) rfl ?_
            show Steps p.tables e below (T0.setTop (mkF m 74 #[.val (.int p1), .val (.int p2), .val (.int p3), .val (.int (p1 &&& (7 : Int32))), .val (.int (p2 &&& (2147483647 : Int32))), .unset, .unset] [(.int (p1 &&& (7 : Int32)))])) _
            refine XS.iconst X0.here hx rfl (hb hby at_74) ?_
            show Steps p.tables e below (T0.setTop (mkF m 75 #[.val (.int p1), .val (.int p2), .val (.int p3), .val (.int (p1 &&& (7 : Int32))), .val (.int (p2 &&& (2147483647 : Int32))), .unset, .unset] [(.int (5 : Int32)), (.int (p1 &&& (7 : Int32)))])) _
            refine XS.icmpNo X0.here hx rfl (hb hby at_75) rfl (teq hc75).2 ?_
            show Steps p.tables e below (T0.setTop (mkF m 78 #[.val (.int p1), .val (.int p2), .val (.int p3), .val (.int (p1 &&& (7 : Int32))), .val (.int (p2 &&& (2147483647 : Int32))), .unset, .unset] [])) _
            refine XS.iloadN X0.here hx rfl (hb hby at_78) rfl ?_
            show Steps p.tables e below (T0.setTop (mkF m 79 #[.val (.int p1), .val (.int p2), .val (.int p3), .val (.int (p1 &&& (7 : Int32))), .val (.int (p2 &&& (2147483647 : Int32))), .unset, .unset] [(.int p2)])) _
            refine XS.bipush X0.here hx rfl (hb hby at_79) ?_
            show Steps p.tables e below (T0.setTop (mkF m 81 #[.val (.int p1), .val (.int p2), .val (.int p3), .val (.int (p1 &&& (7 : Int32))), .val (.int (p2 &&& (2147483647 : Int32))), .unset, .unset] [(.int (127 : Int32)), (.int p2)])) _
            refine XS.iand X0.here hx rfl (hb hby at_81) rfl ?_
            show Steps p.tables e below (T0.setTop (mkF m 82 #[.val (.int p1), .val (.int p2), .val (.int p3), .val (.int (p1 &&& (7 : Int32))), .val (.int (p2 &&& (2147483647 : Int32))), .unset, .unset] [(.int (p2 &&& (127 : Int32)))])) _
            refine XS.i2c X0.here hx rfl (hb hby at_82) rfl ?_
            show Steps p.tables e below (T0.setTop (mkF m 83 #[.val (.int p1), .val (.int p2), .val (.int p3), .val (.int (p1 &&& (7 : Int32))), .val (.int (p2 &&& (2147483647 : Int32))), .unset, .unset] [(.int ((p2 &&& (127 : Int32)).toUInt32.toUInt16.toUInt32.toInt32))])) _
            refine XS.istore X0.here hx rfl (hb hby at_83) rfl (l' := #[.val (.int p1), .val (.int p2), .val (.int p3), .val (.int (p1 &&& (7 : Int32))), .val (.int (p2 &&& (2147483647 : Int32))), .val (.int ((p2 &&& (127 : Int32)).toUInt32.toUInt16.toUInt32.toInt32)), .unset]) rfl ?_
            show Steps p.tables e below (T0.setTop (mkF m 85 #[.val (.int p1), .val (.int p2), .val (.int p3), .val (.int (p1 &&& (7 : Int32))), .val (.int (p2 &&& (2147483647 : Int32))), .val (.int ((p2 &&& (127 : Int32)).toUInt32.toUInt16.toUInt32.toInt32)), .unset] [])) _
            refine XS.goto X0.here hx rfl (pc0 := 85) (pc' := 95) rfl (hb hby at_85) (by decide) (by decide) ?_
            exact kt
          · refine ⟨(p1 &&& (7 : Int32)), (p2 &&& (2147483647 : Int32)), ((p2 &&& (65535 : Int32)).toUInt32.toUInt16.toUInt32.toInt32), fun target kt => ?_⟩
            show Steps p.tables e below (T0.setTop (mkF m 0 #[.val (.int p1), .val (.int p2), .val (.int p3), .unset, .unset, .unset, .unset] [])) _
            refine XS.iloadN X0.here hx rfl (hb hby at_0) rfl ?_
            show Steps p.tables e below (T0.setTop (mkF m 1 #[.val (.int p1), .val (.int p2), .val (.int p3), .unset, .unset, .unset, .unset] [(.int p1)])) _
            refine XS.bipush X0.here hx rfl (hb hby at_1) ?_
            show Steps p.tables e below (T0.setTop (mkF m 3 #[.val (.int p1), .val (.int p2), .val (.int p3), .unset, .unset, .unset, .unset] [(.int (7 : Int32)), (.int p1)])) _
            refine XS.iand X0.here hx rfl (hb hby at_3) rfl ?_
            show Steps p.tables e below (T0.setTop (mkF m 4 #[.val (.int p1), .val (.int p2), .val (.int p3), .unset, .unset, .unset, .unset] [(.int (p1 &&& (7 : Int32)))])) _
            refine XS.istoreN X0.here hx rfl (hb hby at_4) rfl (l' := #[.val (.int p1), .val (.int p2), .val (.int p3), .val (.int (p1 &&& (7 : Int32))), .unset, .unset, .unset]) rfl ?_
            show Steps p.tables e below (T0.setTop (mkF m 5 #[.val (.int p1), .val (.int p2), .val (.int p3), .val (.int (p1 &&& (7 : Int32))), .unset, .unset, .unset] [])) _
            refine XS.iloadN X0.here hx rfl (hb hby at_5) rfl ?_
            show Steps p.tables e below (T0.setTop (mkF m 6 #[.val (.int p1), .val (.int p2), .val (.int p3), .val (.int (p1 &&& (7 : Int32))), .unset, .unset, .unset] [(.int p2)])) _
            refine X0.ldcInt hx hown (mvT hZ (hw _ (List.mem_of_getElem? (i := 0) rfl))) (g := (mkF m 6 #[.val (.int p1), .val (.int p2), .val (.int p3), .val (.int (p1 &&& (7 : Int32))), .unset, .unset, .unset] [(.int p2)])) rfl (hb hby at_6) _ ?_
            show Steps p.tables e below (T0.setTop (mkF m 8 #[.val (.int p1), .val (.int p2), .val (.int p3), .val (.int (p1 &&& (7 : Int32))), .unset, .unset, .unset] [(.int (2147483647 : Int32)), (.int p2)])) _
            refine XS.iand X0.here hx rfl (hb hby at_8) rfl ?_
            show Steps p.tables e below (T0.setTop (mkF m 9 #[.val (.int p1), .val (.int p2), .val (.int p3), .val (.int (p1 &&& (7 : Int32))), .unset, .unset, .unset] [(.int (p2 &&& (2147483647 : Int32)))])) _
            refine XS.istore X0.here hx rfl (hb hby at_9) rfl (l' := #[.val (.int p1), .val (.int p2), .val (.int p3), .val (.int (p1 &&& (7 : Int32))), .val (.int (p2 &&& (2147483647 : Int32))), .unset, .unset]) rfl ?_
            show Steps p.tables e below (T0.setTop (mkF m 11 #[.val (.int p1), .val (.int p2), .val (.int p3), .val (.int (p1 &&& (7 : Int32))), .val (.int (p2 &&& (2147483647 : Int32))), .unset, .unset] [])) _
            refine XS.iloadN X0.here hx rfl (hb hby at_11) rfl ?_
            show Steps p.tables e below (T0.setTop (mkF m 12 #[.val (.int p1), .val (.int p2), .val (.int p3), .val (.int (p1 &&& (7 : Int32))), .val (.int (p2 &&& (2147483647 : Int32))), .unset, .unset] [(.int (p1 &&& (7 : Int32)))])) _
            refine XS.iconst X0.here hx rfl (hb hby at_12) ?_
            show Steps p.tables e below (T0.setTop (mkF m 13 #[.val (.int p1), .val (.int p2), .val (.int p3), .val (.int (p1 &&& (7 : Int32))), .val (.int (p2 &&& (2147483647 : Int32))), .unset, .unset] [(.int (1 : Int32)), (.int (p1 &&& (7 : Int32)))])) _
            refine XS.icmpYes X0.here hx rfl (pc0 := 13) (pc' := 30) rfl (hb hby at_13) rfl (feq hc13).2 (by decide) (by decide) ?_
            show Steps p.tables e below (T0.setTop (mkF m 30 #[.val (.int p1), .val (.int p2), .val (.int p3), .val (.int (p1 &&& (7 : Int32))), .val (.int (p2 &&& (2147483647 : Int32))), .unset, .unset] [])) _
            refine XS.iloadN X0.here hx rfl (hb hby at_30) rfl ?_
            show Steps p.tables e below (T0.setTop (mkF m 31 #[.val (.int p1), .val (.int p2), .val (.int p3), .val (.int (p1 &&& (7 : Int32))), .val (.int (p2 &&& (2147483647 : Int32))), .unset, .unset] [(.int (p1 &&& (7 : Int32)))])) _
            refine XS.iconst X0.here hx rfl (hb hby at_31) ?_
            show Steps p.tables e below (T0.setTop (mkF m 32 #[.val (.int p1), .val (.int p2), .val (.int p3), .val (.int (p1 &&& (7 : Int32))), .val (.int (p2 &&& (2147483647 : Int32))), .unset, .unset] [(.int (2 : Int32)), (.int (p1 &&& (7 : Int32)))])) _
            refine XS.icmpYes X0.here hx rfl (pc0 := 32) (pc' := 49) rfl (hb hby at_32) rfl (feq hc32).2 (by decide) (by decide) ?_
            show Steps p.tables e below (T0.setTop (mkF m 49 #[.val (.int p1), .val (.int p2), .val (.int p3), .val (.int (p1 &&& (7 : Int32))), .val (.int (p2 &&& (2147483647 : Int32))), .unset, .unset] [])) _
            refine XS.iloadN X0.here hx rfl (hb hby at_49) rfl ?_
            show Steps p.tables e below (T0.setTop (mkF m 50 #[.val (.int p1), .val (.int p2), .val (.int p3), .val (.int (p1 &&& (7 : Int32))), .val (.int (p2 &&& (2147483647 : Int32))), .unset, .unset] [(.int (p1 &&& (7 : Int32)))])) _
            refine XS.iconst X0.here hx rfl (hb hby at_50) ?_
            show Steps p.tables e below (T0.setTop (mkF m 51 #[.val (.int p1), .val (.int p2), .val (.int p3), .val (.int (p1 &&& (7 : Int32))), .val (.int (p2 &&& (2147483647 : Int32))), .unset, .unset] [(.int (3 : Int32)), (.int (p1 &&& (7 : Int32)))])) _
            refine XS.icmpYes X0.here hx rfl (pc0 := 51) (pc' := 68) rfl (hb hby at_51) rfl (feq hc51).2 (by decide) (by decide) ?_
            show Steps p.tables e below (T0.setTop (mkF m 68 #[.val (.int p1), .val (.int p2), .val (.int p3), .val (.int (p1 &&& (7 : Int32))), .val (.int (p2 &&& (2147483647 : Int32))), .unset, .unset] [])) _
            refine XS.iloadN X0.here hx rfl (hb hby at_68) rfl ?_
            show Steps p.tables e below (T0.setTop (mkF m 69 #[.val (.int p1), .val (.int p2), .val (.int p3), .val (.int (p1 &&& (7 : Int32))), .val (.int (p2 &&& (2147483647 : Int32))), .unset, .unset] [(.int (p1 &&& (7 : Int32)))])) _
            refine XS.iconst X0.here hx rfl (hb hby at_69) ?_
            show Steps p.tables e below (T0.setTop (mkF m 70 #[.val (.int p1), .val (.int p2), .val (.int p3), .val (.int (p1 &&& (7 : Int32))), .val (.int (p2 &&& (2147483647 : Int32))), .unset, .unset] [(.int (4 : Int32)), (.int (p1 &&& (7 : Int32)))])) _
            refine XS.icmpNo X0.here hx rfl (hb hby at_70) rfl (feq hc70).1 ?_
            show Steps p.tables e below (T0.setTop (mkF m 73 #[.val (.int p1), .val (.int p2), .val (.int p3), .val (.int (p1 &&& (7 : Int32))), .val (.int (p2 &&& (2147483647 : Int32))), .unset, .unset] [])) _
            refine XS.iloadN X0.here hx rfl (hb hby at_73) rfl ?_
            show Steps p.tables e below (T0.setTop (mkF m 74 #[.val (.int p1), .val (.int p2), .val (.int p3), .val (.int (p1 &&& (7 : Int32))), .val (.int (p2 &&& (2147483647 : Int32))), .unset, .unset] [(.int (p1 &&& (7 : Int32)))])) _
            refine XS.iconst X0.here hx rfl (hb hby at_74) ?_
            show Steps p.tables e below (T0.setTop (mkF m 75 #[.val (.int p1), .val (.int p2), .val (.int p3), .val (.int (p1 &&& (7 : Int32))), .val (.int (p2 &&& (2147483647 : Int32))), .unset, .unset] [(.int (5 : Int32)), (.int (p1 &&& (7 : Int32)))])) _
            refine XS.icmpYes X0.here hx rfl (pc0 := 75) (pc' := 88) rfl (hb hby at_75) rfl (feq hc75).2 (by decide) (by decide) ?_
            show Steps p.tables e below (T0.setTop (mkF m 88 #[.val (.int p1), .val (.int p2), .val (.int p3), .val (.int (p1 &&& (7 : Int32))), .val (.int (p2 &&& (2147483647 : Int32))), .unset, .unset] [])) _
            refine XS.iloadN X0.here hx rfl (hb hby at_88) rfl ?_
            show Steps p.tables e below (T0.setTop (mkF m 89 #[.val (.int p1), .val (.int p2), .val (.int p3), .val (.int (p1 &&& (7 : Int32))), .val (.int (p2 &&& (2147483647 : Int32))), .unset, .unset] [(.int p2)])) _
            refine X0.ldcInt hx hown (mvT hZ (hw _ (List.mem_of_getElem? (i := 1) rfl))) (g := (mkF m 89 #[.val (.int p1), .val (.int p2), .val (.int p3), .val (.int (p1 &&& (7 : Int32))), .val (.int (p2 &&& (2147483647 : Int32))), .unset, .unset] [(.int p2)])) rfl (hb hby at_89) _ ?_
            show Steps p.tables e below (T0.setTop (mkF m 91 #[.val (.int p1), .val (.int p2), .val (.int p3), .val (.int (p1 &&& (7 : Int32))), .val (.int (p2 &&& (2147483647 : Int32))), .unset, .unset] [(.int (65535 : Int32)), (.int p2)])) _
            refine XS.iand X0.here hx rfl (hb hby at_91) rfl ?_
            show Steps p.tables e below (T0.setTop (mkF m 92 #[.val (.int p1), .val (.int p2), .val (.int p3), .val (.int (p1 &&& (7 : Int32))), .val (.int (p2 &&& (2147483647 : Int32))), .unset, .unset] [(.int (p2 &&& (65535 : Int32)))])) _
            refine XS.i2c X0.here hx rfl (hb hby at_92) rfl ?_
            show Steps p.tables e below (T0.setTop (mkF m 93 #[.val (.int p1), .val (.int p2), .val (.int p3), .val (.int (p1 &&& (7 : Int32))), .val (.int (p2 &&& (2147483647 : Int32))), .unset, .unset] [(.int ((p2 &&& (65535 : Int32)).toUInt32.toUInt16.toUInt32.toInt32))])) _
            refine XS.istore X0.here hx rfl (hb hby at_93) rfl (l' := #[.val (.int p1), .val (.int p2), .val (.int p3), .val (.int (p1 &&& (7 : Int32))), .val (.int (p2 &&& (2147483647 : Int32))), .val (.int ((p2 &&& (65535 : Int32)).toUInt32.toUInt16.toUInt32.toInt32)), .unset]) rfl ?_
            exact kt
set_option maxRecDepth 65536 in
set_option maxHeartbeats 40000000 in
theorem sg_1 {p : Program} {l : Launch} {e : Env} {R : Room} {s : State} {m : MethodId} {args : Array Value} {below : List Frame} {meth : Method} {c : Code} {T0 : State} {locs : List Loc} {cells slots : Nat} {Z : State} {a0 : Array Value} (p1 p2 p3 k n ch : Int32)
    (X0 : Stand p l e R s m args below meth c T0 locs cells slots) (hx : p.tables.exec = Jvm.exec) (hZ : Z.Warmed39 s.vm) (hw : ∀ d ∈ tables_1, d.before a0 Z = true) (hby : c.code = code) (hown : s.vm.findClass "com/example/bulkwire/bulkwire/lua/NumbersDigitValuePinLaw" = some m.cls)  :
    ∃ (ba : Int32), (∀ target, Steps p.tables e below (T0.setTop (mkF m 120 #[.val (.int p1), .val (.int p2), .val (.int p3), .val (.int k), .val (.int n), .val (.int ch), .val (.int ba)] [])) target → Steps p.tables e below (T0.setTop (mkF m 95 #[.val (.int p1), .val (.int p2), .val (.int p3), .val (.int k), .val (.int n), .val (.int ch), .unset] [])) target) := by
  by_cases hc100 : ((p1 >>> ((3 : Int32) &&& 31)) &&& (1 : Int32)) = (0 : Int32)
  · refine ⟨(((p3 &&& (2147483647 : Int32)) - ((p3 &&& (2147483647 : Int32)) / (40 : Int32)) * (40 : Int32)) - (1 : Int32)), fun target kt => ?_⟩
    show Steps p.tables e below (T0.setTop (mkF m 95 #[.val (.int p1), .val (.int p2), .val (.int p3), .val (.int k), .val (.int n), .val (.int ch), .unset] [])) _
    refine XS.iloadN X0.here hx rfl (hb hby at_95) rfl ?_
    show Steps p.tables e below (T0.setTop (mkF m 96 #[.val (.int p1), .val (.int p2), .val (.int p3), .val (.int k), .val (.int n), .val (.int ch), .unset] [(.int p1)])) _
    refine XS.iconst X0.here hx rfl (hb hby at_96) ?_
    show Steps p.tables e below (T0.setTop (mkF m 97 #[.val (.int p1), .val (.int p2), .val (.int p3), .val (.int k), .val (.int n), .val (.int ch), .unset] [(.int (3 : Int32)), (.int p1)])) _
    refine XS.ishr X0.here hx rfl (hb hby at_97) rfl ?_
    show Steps p.tables e below (T0.setTop (mkF m 98 #[.val (.int p1), .val (.int p2), .val (.int p3), .val (.int k), .val (.int n), .val (.int ch), .unset] [(.int (p1 >>> ((3 : Int32) &&& 31)))])) _
    refine XS.iconst X0.here hx rfl (hb hby at_98) ?_
    show Steps p.tables e below (T0.setTop (mkF m 99 #[.val (.int p1), .val (.int p2), .val (.int p3), .val (.int k), .val (.int n), .val (.int ch), .unset] [(.int (1 : Int32)), (.int (p1 >>> ((3 : Int32) &&& 31)))])) _
    refine XS.iand X0.here hx rfl (hb hby at_99) rfl ?_
    show Steps p.tables e below (T0.setTop (mkF m 100 #[.val (.int p1), .val (.int p2), .val (.int p3), .val (.int k), .val (.int n), .val (.int ch), .unset] [(.int ((p1 >>> ((3 : Int32) &&& 31)) &&& (1 : Int32)))])) _
    refine XS.ifYes X0.here hx rfl (pc0 := 100) (pc' := 109) rfl (hb hby at_100) rfl ((if0 _ _).trans (teq hc100).1) (by decide) (by decide) ?_
    show Steps p.tables e below (T0.setTop (mkF m 109 #[.val (.int p1), .val (.int p2), .val (.int p3), .val (.int k), .val (.int n), .val (.int ch), .unset] [])) _
    refine XS.iloadN X0.here hx rfl (hb hby at_109) rfl ?_
    show Steps p.tables e below (T0.setTop (mkF m 110 #[.val (.int p1), .val (.int p2), .val (.int p3), .val (.int k), .val (.int n), .val (.int ch), .unset] [(.int p3)])) _
    refine X0.ldcInt hx hown (mvT hZ (hw _ (List.mem_of_getElem? (i := 0) rfl))) (g := (mkF m 110 #[.val (.int p1), .val (.int p2), .val (.int p3), .val (.int k), .val (.int n), .val (.int ch), .unset] [(.int p3)])) rfl (hb hby at_110) _ ?_
    show Steps p.tables e below (T0.setTop (mkF m 112 #[.val (.int p1), .val (.int p2), .val (.int p3), .val (.int k), .val (.int n), .val (.int ch), .unset] [(.int (2147483647 : Int32)), (.int p3)])) _
    refine XS.iand X0.here hx rfl (hb hby at_112) rfl ?_
    show Steps p.tables e below (T0.setTop (mkF m 113 #[.val (.int p1), .val (.int p2), .val (.int p3), .val (.int k), .val (.int n), .val (.int ch), .unset] [(.int (p3 &&& (2147483647 : Int32)))])) _
    refine XS.bipush X0.here hx rfl (hb hby at_113) ?_
    show Steps p.tables e below (T0.setTop (mkF m 115 #[.val (.int p1), .val (.int p2), .val (.int p3), .val (.int k), .val (.int n), .val (.int ch), .unset] [(.int (40 : Int32)), (.int (p3 &&& (2147483647 : Int32)))])) _
    refine XS.irem X0.here hx rfl (hb hby at_115) rfl (by decide) ?_
    show Steps p.tables e below (T0.setTop (mkF m 116 #[.val (.int p1), .val (.int p2), .val (.int p3), .val (.int k), .val (.int n), .val (.int ch), .unset] [(.int ((p3 &&& (2147483647 : Int32)) - ((p3 &&& (2147483647 : Int32)) / (40 : Int32)) * (40 : Int32)))])) _
    refine XS.iconst X0.here hx rfl (hb hby at_116) ?_
    show Steps p.tables e below (T0.setTop (mkF m 117 #[.val (.int p1), .val (.int p2), .val (.int p3), .val (.int k), .val (.int n), .val (.int ch), .unset] [(.int (1 : Int32)), (.int ((p3 &&& (2147483647 : Int32)) - ((p3 &&& (2147483647 : Int32)) / (40 : Int32)) * (40 : Int32)))])) _
    refine XS.isub X0.here hx rfl (hb hby at_117) rfl ?_
    show Steps p.tables e below (T0.setTop (mkF m 118 #[.val (.int p1), .val (.int p2), .val (.int p3), .val (.int k), .val (.int n), .val (.int ch), .unset] [(.int (((p3 &&& (2147483647 : Int32)) - ((p3 &&& (2147483647 : Int32)) / (40 : Int32)) * (40 : Int32)) - (1 : Int32)))])) _
    refine XS.istore X0.here hx rfl (hb hby at_118) rfl (l' := #[.val (.int p1), .val (.int p2), .val (.int p3), .val (.int k), .val (.int n), .val (.int ch), .val (.int (((p3 &&& (2147483647 : Int32)) - ((p3 &&& (2147483647 : Int32)) / (40 : Int32)) * (40 : Int32)) - (1 : Int32)))]) rfl ?_
    exact kt
  · refine ⟨p3, fun target kt => ?_⟩
    show Steps p.tables e below (T0.setTop (mkF m 95 #[.val (.int p1), .val (.int p2), .val (.int p3), .val (.int k), .val (.int n), .val (.int ch), .unset] [])) _
    refine XS.iloadN X0.here hx rfl (hb hby at_95) rfl ?_
    show Steps p.tables e below (T0.setTop (mkF m 96 #[.val (.int p1), .val (.int p2), .val (.int p3), .val (.int k), .val (.int n), .val (.int ch), .unset] [(.int p1)])) _
    refine XS.iconst X0.here hx rfl (hb hby at_96) ?_
    show Steps p.tables e below (T0.setTop (mkF m 97 #[.val (.int p1), .val (.int p2), .val (.int p3), .val (.int k), .val (.int n), .val (.int ch), .unset] [(.int (3 : Int32)), (.int p1)])) _
    refine XS.ishr X0.here hx rfl (hb hby at_97) rfl ?_
    show Steps p.tables e below (T0.setTop (mkF m 98 #[.val (.int p1), .val (.int p2), .val (.int p3), .val (.int k), .val (.int n), .val (.int ch), .unset] [(.int (p1 >>> ((3 : Int32) &&& 31)))])) _
    refine XS.iconst X0.here hx rfl (hb hby at_98) ?_
    show Steps p.tables e below (T0.setTop (mkF m 99 #[.val (.int p1), .val (.int p2), .val (.int p3), .val (.int k), .val (.int n), .val (.int ch), .unset] [(.int (1 : Int32)), (.int (p1 >>> ((3 : Int32) &&& 31)))])) _
    refine XS.iand X0.here hx rfl (hb hby at_99) rfl ?_
    show Steps p.tables e below (T0.setTop (mkF m 100 #[.val (.int p1), .val (.int p2), .val (.int p3), .val (.int k), .val (.int n), .val (.int ch), .unset] [(.int ((p1 >>> ((3 : Int32) &&& 31)) &&& (1 : Int32)))])) _
    refine XS.ifNo X0.here hx rfl (hb hby at_100) rfl ((if0 _ _).trans (feq hc100).1) ?_
    show Steps p.tables e below (T0.setTop (mkF m 103 #[.val (.int p1), .val (.int p2), .val (.int p3), .val (.int k), .val (.int n), .val (.int ch), .unset] [])) _
    refine XS.iloadN X0.here hx rfl (hb hby at_103) rfl ?_
    show Steps p.tables e below (T0.setTop (mkF m 104 #[.val (.int p1), .val (.int p2), .val (.int p3), .val (.int k), .val (.int n), .val (.int ch), .unset] [(.int p3)])) _
    refine XS.istore X0.here hx rfl (hb hby at_104) rfl (l' := #[.val (.int p1), .val (.int p2), .val (.int p3), .val (.int k), .val (.int n), .val (.int ch), .val (.int p3)]) rfl ?_
    show Steps p.tables e below (T0.setTop (mkF m 106 #[.val (.int p1), .val (.int p2), .val (.int p3), .val (.int k), .val (.int n), .val (.int ch), .val (.int p3)] [])) _
    refine XS.goto X0.here hx rfl (pc0 := 106) (pc' := 120) rfl (hb hby at_106) (by decide) (by decide) ?_
    exact kt
theorem pn_0 : plainName "com/example/bulkwire/bulkwire/lua/NumbersDigitValuePinLaw" = true := by first | (simp [plainName, overriddenIn]; done) | decide +kernel
theorem ef_0 (m : MethodId) (p1 : Int32) (p2 : Int32) (p3 : Int32) : entryFrame m #[(.int p1), (.int p2), (.int p3)] maxLocals = mkF m 0 #[.val (.int p1), .val (.int p2), .val (.int p3), .unset, .unset, .unset, .unset] [] := by first | (simp [entryFrame, mkF, argsToLocals, Value.category, maxLocals]; done) | rfl
def Q0 (n0 : Nat) (v : Option Value) (h : Heap) (L : List Loc) : Prop := v = some (.int 1) ∧ Fr n0 L
set_option maxRecDepth 65536 in
set_option maxHeartbeats 40000000 in
theorem rm0 (l : Launch) (Z : State) (a0 : Array Value) (hw : ∀ d ∈ tables_1, d.before a0 Z = true) (ws : List Jvm.Cond) (p1 : Int32) (p2 : Int32) (p3 : Int32) (h0 : Heap) (n0 : Nat) (Z0 : n0 ≤ h0.size)  :
    MetFree l x (head1 (Jvm.Cond.code x code maxLocals ret :: ws) room_1) (fun a U => a = #[(.int p1), (.int p2), (.int p3)] ∧ Z.Warmed39 U.vm ∧ U.heap = h0) (fun _ _ _ _ _ => True) (fun _ U o U' => ∃ v L, o = .returned v ∧ Q0 n0 v U'.heap L ∧ FrameEnd U o U' L room_1.cells room_1.slots) := by
  refine MetFree.of_bodySF (plainFor_of_name pn_0) hisR ?_
  intro p e s m args below meth c s₁ Bd hml0 hP hK
  obtain ⟨rfl, hZ, hh⟩ := hP
  have hx := Bd.exec
  have hby := Bd.bytes
  have hml : c.maxLocals = 7 := hml0
  have hown : s.vm.findClass "com/example/bulkwire/bulkwire/lua/NumbersDigitValuePinLaw" = some m.cls := findClass_of_methodNamed Bd.named
  have hnm := (name_of_methodNamed Bd.named Bd.method).1
  have X0 : Stand p l e room_1 s m #[(.int p1), (.int p2), (.int p3)] below meth c s₁ [] 0 0 := Stand.of_body Bd
  have e0 : s₁.heap = h0 := by rw [← hh, Bd.state]; rfl
  have N0 := Fr.nil n0
  have pre0 : ∀ t, Steps p.tables e below (s₁.setTop (mkF m 0 #[.val (.int p1), .val (.int p2), .val (.int p3), .unset, .unset, .unset, .unset] [])) t → Steps p.tables e below (s₁.setTop (entryFrame m #[(.int p1), (.int p2), (.int p3)] maxLocals)) t := fun t k => castTop (ef_0 m p1 p2 p3) k
  obtain ⟨k, n, ch, k1⟩ := sg_0 p1 p2 p3 X0 hx hZ hw hby hown
  obtain ⟨ba, k2⟩ := sg_1 p1 p2 p3 k n ch X0 hx hZ hw hby hown
  obtain ⟨_, _, ⟨T3, L3, k3, n3⟩, -, X3, ⟨Lc3, hQ3, l3, y3, z3⟩, st3⟩ := Jvm.LawKit.callS X0 hx (y := (⟨"com/example/bulkwire/bulkwire/lua/Numbers", "digitValue", "(CI)I"⟩ : MethodName)) hown (mvT hZ (hw _ (List.mem_of_getElem? (i := 2) rfl))) (mvT hZ (hw _ (List.mem_of_getElem? (i := 3) rfl))) (mvT hZ (hw _ (List.mem_of_getElem? (i := 4) rfl))) (mvT hZ (hw _ (List.mem_of_getElem? (i := 5) rfl))) (by decide) (backOf (W := 0) (rm1 l Z a0 hw [] ch ba h0 n0 Z0 ) hZ (hw _ (List.mem_of_getElem? (i := 5) rfl)) (hw _ (List.mem_of_getElem? (i := 4) rfl)) (by decide) (by decide)) (g := (mkF m 124 #[.val (.int p1), .val (.int p2), .val (.int p3), .val (.int k), .val (.int n), .val (.int ch), .val (.int ba)] [(.int ba), (.int ch)])) rfl (by rw [hml]; rfl) (argsL := [(.int ch), (.int ba)]) (rest := []) (lenOf pd_0 rfl) rfl (by show 2 * 0 + _ ≤ _; exact Nat.le_of_eq rfl) (hb hby at_124) (fun _ _ => ⟨rfl, e0, (by decide : 0 + 0 ≤ _), (by decide : 0 + 0 ≤ _)⟩)
  dsimp only [Pt.U, Pt.locs, Pt.cells, Pt.slots] at X3 l3 y3 z3 st3 hQ3
  subst l3 y3 z3
  obtain ⟨rfl, N3q, e3⟩ := hQ3
  have N3 := Fr.app N0 N3q
  obtain ⟨_, _, ⟨T4, L4, k4, n4⟩, -, X4, ⟨Lc4, hQ4, l4, y4, z4⟩, st4⟩ := Jvm.LawKit.callS X3 hx (y := (⟨"com/example/bulkwire/bulkwire/lua/NumbersDigitValuePinLaw", "reference", "(CI)I"⟩ : MethodName)) hown (mvT hZ (hw _ (List.mem_of_getElem? (i := 6) rfl))) (mvT hZ (hw _ (List.mem_of_getElem? (i := 7) rfl))) (mvT hZ (hw _ (List.mem_of_getElem? (i := 8) rfl))) (mvT hZ (hw _ (List.mem_of_getElem? (i := 9) rfl))) (by decide) (backOf (W := 1) (rm2 l Z a0 hw [] ch ba h0 n0 Z0 ) hZ (hw _ (List.mem_of_getElem? (i := 9) rfl)) (hw _ (List.mem_of_getElem? (i := 8) rfl)) (by decide) (by decide)) (g := (mkF m 131 #[.val (.int p1), .val (.int p2), .val (.int p3), .val (.int k), .val (.int n), .val (.int ch), .val (.int ba)] [(.int ba), (.int ch), (.int (own_dv ch ba))])) rfl (by rw [hml]; rfl) (argsL := [(.int ch), (.int ba)]) (rest := [(.int (own_dv ch ba))]) (lenOf pd_0 rfl) rfl (by show 2 * 0 + _ ≤ _; exact Nat.le_of_eq rfl) (hb hby at_131) (fun _ _ => ⟨rfl, e3, (by decide : 0 + 0 ≤ _), (by decide : 0 + 0 ≤ _)⟩)
  dsimp only [Pt.U, Pt.locs, Pt.cells, Pt.slots] at X4 l4 y4 z4 st4 hQ4
  subst l4 y4 z4
  obtain ⟨rfl, N4q, e4⟩ := hQ4
  have N4 := Fr.app N3 N4q
  obtain ⟨fs, hr, hrun, hended, hW, hsame⟩ := X4.leave (v := some (.int (1 : Int32))) (fun h => by rw [Bd.returns] at h; cases h)
  refine ⟨_, _, pre0 _ ?_, hrun, hended, _, _, rfl, ?_, ⟨_, rfl⟩, hW, hsame.mono (by decide) (by decide)⟩
  · show Steps p.tables e below (s₁.setTop (mkF m 0 #[.val (.int p1), .val (.int p2), .val (.int p3), .unset, .unset, .unset, .unset] [])) _
    refine k1 _ ?_
    show Steps p.tables e below (s₁.setTop (mkF m 95 #[.val (.int p1), .val (.int p2), .val (.int p3), .val (.int k), .val (.int n), .val (.int ch), .unset] [])) _
    refine k2 _ ?_
    show Steps p.tables e below (s₁.setTop (mkF m 120 #[.val (.int p1), .val (.int p2), .val (.int p3), .val (.int k), .val (.int n), .val (.int ch), .val (.int ba)] [])) _
    refine XS.iload X0.here hx rfl (hb hby at_120) rfl ?_
    show Steps p.tables e below (s₁.setTop (mkF m 122 #[.val (.int p1), .val (.int p2), .val (.int p3), .val (.int k), .val (.int n), .val (.int ch), .val (.int ba)] [(.int ch)])) _
    refine XS.iload X0.here hx rfl (hb hby at_122) rfl ?_
    show Steps p.tables e below (s₁.setTop (mkF m 124 #[.val (.int p1), .val (.int p2), .val (.int p3), .val (.int k), .val (.int n), .val (.int ch), .val (.int ba)] [(.int ba), (.int ch)])) _
    refine st3 _ ?_
    show Steps p.tables e below (T3.setTop (mkF m 127 #[.val (.int p1), .val (.int p2), .val (.int p3), .val (.int k), .val (.int n), .val (.int ch), .val (.int ba)] [(.int (own_dv ch ba))])) _
    refine XS.iload X3.here hx rfl (hb hby at_127) rfl ?_
    show Steps p.tables e below (T3.setTop (mkF m 129 #[.val (.int p1), .val (.int p2), .val (.int p3), .val (.int k), .val (.int n), .val (.int ch), .val (.int ba)] [(.int ch), (.int (own_dv ch ba))])) _
    refine XS.iload X3.here hx rfl (hb hby at_129) rfl ?_
    show Steps p.tables e below (T3.setTop (mkF m 131 #[.val (.int p1), .val (.int p2), .val (.int p3), .val (.int k), .val (.int n), .val (.int ch), .val (.int ba)] [(.int ba), (.int ch), (.int (own_dv ch ba))])) _
    refine st4 _ ?_
    show Steps p.tables e below (T4.setTop (mkF m 134 #[.val (.int p1), .val (.int p2), .val (.int p3), .val (.int k), .val (.int n), .val (.int ch), .val (.int ba)] [(.int (own_rf ch ba)), (.int (own_dv ch ba))])) _
    refine XS.icmpNo X4.here hx rfl (hb hby at_134) rfl (teq (own_law ch ba)).2 ?_
    show Steps p.tables e below (T4.setTop (mkF m 137 #[.val (.int p1), .val (.int p2), .val (.int p3), .val (.int k), .val (.int n), .val (.int ch), .val (.int ba)] [])) _
    refine XS.iconst X4.here hx rfl (hb hby at_137) ?_
    show Steps p.tables e below (T4.setTop (mkF m 138 #[.val (.int p1), .val (.int p2), .val (.int p3), .val (.int k), .val (.int n), .val (.int ch), .val (.int ba)] [(.int (1 : Int32))])) _
    refine XS.goto X4.here hx rfl (pc0 := 138) (pc' := 142) rfl (hb hby at_138) (by decide) (by decide) ?_
    show Steps p.tables e below (T4.setTop (mkF m 142 #[.val (.int p1), .val (.int p2), .val (.int p3), .val (.int k), .val (.int n), .val (.int ch), .val (.int ba)] [(.int (1 : Int32))])) _
    exact retN X4 hx (t := .boolean) Bd.returns (by simp) (hb hby at_142) hr
  · exact ⟨rfl, N4⟩
set_option maxRecDepth 65536 in
set_option maxHeartbeats 40000000 in
theorem comes_1 {Post : Tables → Env → Array Value → State → Outcome → State → Prop} (hpost : ∀ tb e args s v u, (limb_1_1.after args s (.returned v) u = true ∧ limb_1_2.after args s (.returned v) u = true ∧ True) → FrameEnd s (.returned v) u (Jvm.fieldLocs frame_1_writes args s ++ Jvm.arrayLocs frame_1_arrays args s ++ Jvm.staticLocs frame_1_statics s) 0 0 → Post tb e args s (.returned v) u) :
    ArmFor flags0 classFile x code maxLocals ret World_1 tables_1 room_1 Calls_1 rest_1 Pre_1 Post := by
  intro l hfl _ _ p e ha hc hk s m args below hf hA hF happ hP
  obtain ⟨hcalls, hrest, hpre⟩ := hP
  obtain ⟨-, -, -, hnamed, -, -, -, hat⟩ := (Spec.applies_iff hf).mp happ
  obtain ⟨hg, hn⟩ := and_e (Cond.before_iff.mp (show (Jvm.Cond.and given_1 narrow_1).before args s = true from hpre))
  obtain ⟨gc, gr0⟩ := and_e hg
  obtain ⟨ga0, gr1⟩ := and_e gr0
  obtain ⟨ga1, gr2⟩ := and_e gr1
  obtain ⟨w0, w1, w2, rfl⟩ : ∃ w0 w1 w2 : Value, args = #[w0, w1, w2] := by
    have hs : args.size = 3 := by simpa [Cond.value, given_1] using gc
    obtain ⟨L⟩ := args
    match L, hs with
    | [w0, w1, w2], _ => exact ⟨w0, w1, w2, rfl⟩
  have hw := fun d (hd : d ∈ tables_1) => atoms_spec (ws := Jvm.Cond.code x code maxLocals ret :: tables_1) hat d (List.mem_cons_of_mem _ hd)
  obtain ⟨i0, ei0⟩ := is_v ga0
  obtain rfl : w0 = (.int i0) := Option.some.inj ei0
  obtain ⟨i1, ei1⟩ := is_v ga1
  obtain rfl : w1 = (.int i1) := Option.some.inj ei1
  obtain ⟨i2, ei2⟩ := is_v gr2
  obtain rfl : w2 = (.int i2) := Option.some.inj ei2
  obtain ⟨n, o, h1, h2, h3, _, L, rfl, ⟨rfl, N⟩, hq⟩ := rm0 l s _ hw tables_1 i0 i1 i2 s.heap s.heap.size (Nat.le_refl _)  p e ha hc hk s m _ below hf ((Spec.applies_iff_loose hf).mp happ).1 ⟨rfl, State.Warmed39.refl s, rfl⟩ trivial
  refine ⟨n, _, h1, h2, h3, hpost _ _ _ _ _ _ ⟨Cond.after_iff.mpr rfl, Cond.after_iff.mpr (eq_i res_at (Term.int_eval (1)) rfl), trivial⟩ ⟨hq.1, hq.2.1, (hq.2.2.sift fun y hy => Or.inr (N y hy)).mono (by decide) (by decide)⟩⟩
theorem main_1_1 : Claimed_1_1 := comes_1 fun _ _ _ _ _ _ h hF => ⟨h.1, hF⟩
theorem main_1_2 : Claimed_1_2 := comes_1 fun _ _ _ _ _ _ h hF => ⟨h.2.1, hF⟩
end Jvm.Pilot.@@N@@
namespace Jvm.Pilot.@@N@@
open Jvm Jvm.ClassFile Sem Op Lib Jvm.Free Jvm.Stand Jvm.Pilot.@@N@@.Jvm.D
/-! MADE BY PROGRAM (witnessworld.py) out of the Statement's table words and the real class files: 9 classes; the members and pool entries that the words name. The judged class is class 1, her method 2. -/
namespace start1
open Jvm.ClassFile
def u (s : String) : CpInfo := .utf8 (stringToUtf16 s)
/-- a pool by its gaps: so many unusable entries, then the entry; so many at the end -/
def gap : Nat → List CpInfo → List CpInfo
  | 0, r => r
  | n + 1, r => .unusable :: gap n r
def poolList (es : List (Nat × CpInfo)) (last : Nat) : List CpInfo := es.foldr (fun e r => gap e.1 (e.2 :: r)) (gap last [])
def pool (es : List (Nat × CpInfo)) (last : Nat) : Array CpInfo := ⟨poolList es last⟩
def fileOf (pool : Array CpInfo) (this : Nat) (attrs : Array Attribute := #[]) (ms : Array MethodInfo := #[]) (fl : Nat := 33) (sup : Nat := 0) (ifs : Array Nat := #[]) (fds : Array FieldInfo := #[]) : ClassFile where
  minorVersion := 0
  majorVersion := 65
  constantPool := pool
  accessFlags := fl
  thisClass := this
  superClass := sup
  interfaces := ifs
  fields := fds
  methods := ms
  attributes := attrs
def plain (name : String) (sup : Option ClassId) : Class where
  name := name
  kind := .ordinary
  loader := none
  accessFlags := 33
  super := sup
  interfaces := #[]
  cf := none
  fields := #[]
  methods := #[]
  instanceTypes := #[]
  staticTypes := #[]
  resolved := #[]
  callSites := []
  init := .initialized
  statics := none
  mirror := none

def pool0 : Array CpInfo := pool [(5, u "<init>"), (0, u "()V"), (1, .class_ 10), (1, u "java/lang/Object")] 113

def k0m0 : Method := { name := "<init>", desc := "()V", sig := { parameters := [], returnType := none }, accessFlags := 1, code := none }
/-- java/lang/Object -/
def k0 : Class := { plain "java/lang/Object" none with
  accessFlags := 33
  interfaces := #[]
  cf := some (fileOf pool0 8 #[] #[{ accessFlags := 1, nameIndex := 5, descriptorIndex := 6, attributes := #[] }] 33 0 #[] #[])
  fields := #[]
  methods := #[k0m0]
  instanceTypes := #[]
  staticTypes := #[]
  resolved := Array.replicate 124 none
  statics := none }

def pool1 : Array CpInfo := pool [(2, .class_ 4), (1, u "java/lang/Object"), (0, u "<init>"), (0, u "()V"), (0, .integer 2147483647), (0, .integer 65535), (0, .methodref 10 11), (0, .class_ 12), (0, .nameAndType 13 14), (0, u "com/example/bulkwire/bulkwire/lua/Numbers"), (0, u "digitValue"), (0, u "(CI)I"), (0, .methodref 16 17), (0, .class_ 18), (0, .nameAndType 19 14), (0, u "com/example/bulkwire/bulkwire/lua/NumbersDigitValuePinLaw"), (0, u "reference"), (3, u "law"), (0, u "(III)Z")] 2

def k1m0 : Method := { name := "<init>", desc := "()V", sig := { parameters := [], returnType := none }, accessFlags := 1, code := none }
def k1c1 : Code := { maxStack := 2, maxLocals := 3, code := method_2_code, exceptionTable := #[], attributes := #[] }
def k1m1 : Method := { name := "reference", desc := "(CI)I", sig := { parameters := [.char, .int], returnType := some .int }, accessFlags := 10, code := some k1c1 }
def k1c2 : Code := { maxStack := 3, maxLocals := 7, code := code, exceptionTable := #[], attributes := #[] }
def k1m2 : Method := { name := "law", desc := "(III)Z", sig := { parameters := [.int, .int, .int], returnType := some .boolean }, accessFlags := 9, code := some k1c2 }
/-- com/example/bulkwire/bulkwire/lua/NumbersDigitValuePinLaw -/
def k1 : Class := { plain "com/example/bulkwire/bulkwire/lua/NumbersDigitValuePinLaw" (some 0) with
  accessFlags := 49
  interfaces := #[]
  cf := some (fileOf pool1 16 #[] #[{ accessFlags := 1, nameIndex := 5, descriptorIndex := 6, attributes := #[] }, { accessFlags := 10, nameIndex := 19, descriptorIndex := 14, attributes := #[] }, { accessFlags := 9, nameIndex := 23, descriptorIndex := 24, attributes := #[] }] 49 2 #[] #[])
  fields := #[]
  methods := #[k1m0, k1m1, k1m2]
  instanceTypes := #[]
  staticTypes := #[]
  resolved := Array.replicate 27 none
  statics := none }

def pool2 : Array CpInfo := pool [(2, .class_ 4), (1, u "java/lang/Object"), (0, u "<init>"), (0, u "()V"), (6, .class_ 14), (0, u "com/example/bulkwire/bulkwire/lua/Numbers"), (92, .class_ 109), (1, u "com/example/bulkwire/bulkwire/lua/Numbers$Reading"), (64, u "digitValue"), (0, u "(CI)I"), (104, u "LUA_DIGITS"), (0, u "I"), (2, u "PLAIN_WHOLE_LIMIT"), (0, u "D"), (0, u "LONG_LIMIT")] 38

def k2m0 : Method := { name := "<init>", desc := "()V", sig := { parameters := [], returnType := none }, accessFlags := 2, code := none }
def k2c1 : Code := { maxStack := 2, maxLocals := 3, code := prog_105_method_26_code, exceptionTable := #[], attributes := #[] }
def k2m1 : Method := { name := "digitValue", desc := "(CI)I", sig := { parameters := [.char, .int], returnType := some .int }, accessFlags := 8, code := some k2c1 }
/-- com/example/bulkwire/bulkwire/lua/Numbers -/
def k2 : Class := { plain "com/example/bulkwire/bulkwire/lua/Numbers" (some 0) with
  accessFlags := 48
  interfaces := #[]
  cf := some (fileOf pool2 13 #[.nestMembers #[107]] #[{ accessFlags := 2, nameIndex := 5, descriptorIndex := 6, attributes := #[] }, { accessFlags := 8, nameIndex := 174, descriptorIndex := 175, attributes := #[] }] 48 2 #[] #[{ accessFlags := 26, nameIndex := 280, descriptorIndex := 281, attributes := #[] }, { accessFlags := 26, nameIndex := 284, descriptorIndex := 285, attributes := #[] }, { accessFlags := 26, nameIndex := 286, descriptorIndex := 285, attributes := #[] }])
  fields := #[{ name := "LUA_DIGITS", type := .int, accessFlags := 26, slot := 0, constantValue := 0 }, { name := "PLAIN_WHOLE_LIMIT", type := .double, accessFlags := 26, slot := 1, constantValue := 0 }, { name := "LONG_LIMIT", type := .double, accessFlags := 26, slot := 2, constantValue := 0 }]
  methods := #[k2m0, k2m1]
  instanceTypes := #[]
  staticTypes := #[.int, .double, .double]
  resolved := Array.replicate 325 none
  statics := none }

def pool3 : Array CpInfo := pool [(1, u "java/lang/Cloneable"), (0, .class_ 1), (0, u "java/lang/Object"), (0, .class_ 3)] 3

/-- java/lang/Cloneable -/
def k3 : Class := { plain "java/lang/Cloneable" (some 0) with
  accessFlags := 1537
  interfaces := #[]
  cf := some (fileOf pool3 2 #[] #[] 1537 4 #[] #[])
  fields := #[]
  methods := #[]
  instanceTypes := #[]
  staticTypes := #[]
  resolved := Array.replicate 8 none
  statics := none }

def pool4 : Array CpInfo := pool [(1, u "java/io/Serializable"), (0, .class_ 1), (0, u "java/lang/Object"), (0, .class_ 3)] 3

/-- java/io/Serializable -/
def k4 : Class := { plain "java/io/Serializable" (some 0) with
  accessFlags := 1537
  interfaces := #[]
  cf := some (fileOf pool4 2 #[] #[] 1537 4 #[] #[])
  fields := #[]
  methods := #[]
  instanceTypes := #[]
  staticTypes := #[]
  resolved := Array.replicate 8 none
  statics := none }

/-- the primitive byte -/
def k5 : Class := { plain "byte" none with kind := .primitive 'B', accessFlags := 0x411 }
/-- [B -/
def k6 : Class := { plain "[B" (some 0) with kind := .array 5 .byte, interfaces := #[3, 4], accessFlags := 1041 }

/-- the primitive int -/
def k7 : Class := { plain "int" none with kind := .primitive 'I', accessFlags := 0x411 }
/-- [I -/
def k8 : Class := { plain "[I" (some 0) with kind := .array 7 .int, interfaces := #[3, 4], accessFlags := 1041 }

def heap : Heap := #[]
def classes : Array Class := #[k0, k1, k2, k3, k4, k5, k6, k7, k8]
def interned : List (Array UInt16 × Addr) := []
def slotsUsed : Nat := 0
def theMethod : MethodId := ⟨1, 2⟩
def args0 : Array Value := #[.int 1, .int 5, .int 16]
def aboutOver (below : List Frame) : State where
  vm := { classes := classes, interned := interned.toArray }
  heap := heap
  slotsUsed := slotsUsed
  threads := #[{ frames := .invoking theMethod args0 :: below }]
def below0 : List Frame := [.native { method := ⟨0, 0⟩, args := #[] }]
def about1 : State := aboutOver below0
def p0 : Program := .bare "" "" ""
def e0 : Env := launch0.env 0 0 0
theorem w_frames : about1.frames = Frame.invoking theMethod args0 :: below0 := rfl
set_option maxRecDepth 65536 in
theorem w_args : argsFit about1.vm theMethod args0 = true := by decide +kernel
set_option maxRecDepth 65536 in
theorem w_heap : heapFits about1 = true := by decide +kernel
set_option maxRecDepth 65536 in
theorem w_runnable : about1.curStatus? = some .runnable := by decide +kernel
set_option maxRecDepth 65536 in
theorem w_alone : about1.alone = true := by decide +kernel
set_option maxRecDepth 65536 in
theorem w_named : about1.methodNamed? x = some theMethod := by decide +kernel
set_option maxRecDepth 65536 in
theorem w_hears : about1.hears theMethod below0 = true := by decide +kernel
set_option maxRecDepth 65536 in
theorem w_ripe : about1.ripe theMethod args0 below0 = true := by decide +kernel
theorem w_running : about1.status = .running := rfl
set_option maxRecDepth 65536 in
theorem w_room : about1.hasRoom e0.platform room_1 = true :=
  launch0.hasRoom_least _ room_1 (by decide +kernel) (by decide +kernel) (by decide +kernel) (by decide +kernel) (by decide +kernel) (by decide +kernel)
theorem allAtoms_all (ts : List Jvm.Cond) (a : Array Jvm.Value) (st : Jvm.State) : (allAtoms ts).before a st = ts.all (fun c => c.before a st) := by
  induction ts with
  | nil => rfl
  | cons c t ih =>
    show (Jvm.Cond.and c (allAtoms t)).before a st = _
    rw [Jvm.Cond.before_and, ih, List.all_cons]
def words1 : List Jvm.Cond := Jvm.Cond.code x code maxLocals ret :: tables_1
/-- a 'code' word, met by the world's own term for the bytes: nothing is compared byte by byte -/
theorem code_word {y : MethodName} {bytes : ByteArray} {mx : Nat} {rt : Option FieldType} {a : Array Value} {s : State} {m : MethodId} {meth : Method} {c : Code} (h1 : s.methodNamed? y = some m) (h2 : s.vm.method? m = some meth) (h3 : meth.code = some c) (h4 : c.code = bytes)
    (h5 : (c.maxLocals == mx && c.exceptionTable.isEmpty && decide (c.maxStack ≤ mostOperands) && decide (meth.sig.returnType = rt) && !meth.locks && decide (parseMethodDescriptor y.desc = some meth.sig)) = true) : (Jvm.Cond.code y bytes mx rt).before a s = true := by
  simp only [Bool.and_eq_true, beq_iff_eq, Bool.not_eq_true', decide_eq_true_eq] at h5
  obtain ⟨⟨⟨⟨⟨g1, g2⟩, g3⟩, g4⟩, g5⟩, g6⟩ := h5
  simp [Cond.before, Cond.holds, Cond.value, h1, h2, h3, h4, g1, g2, g3, g4, g5, g6]
def isCode : Jvm.Cond → Bool
  | .code _ _ _ _ => true
  | _ => false
theorem all_split {L : List Jvm.Cond} {P : Jvm.Cond → Bool} (h1 : L.all (fun c => isCode c || P c) = true) (h2 : ∀ c ∈ L.filter isCode, P c = true) : L.all P = true := by
  refine List.all_eq_true.mpr fun c hc => ?_
  have h := List.all_eq_true.mp h1 c hc
  rcases Bool.eq_false_or_eq_true (isCode c) with hi | hi
  · exact h2 c (List.mem_filter.mpr ⟨hc, hi⟩)
  · simpa [hi] using h
set_option maxRecDepth 65536 in
theorem w_c0 : (Jvm.Cond.code x code maxLocals ret).before args0 about1 = true := code_word (m := ⟨1, 2⟩) (meth := k1m2) (c := k1c2) (by decide +kernel) rfl rfl rfl (by decide +kernel)
set_option maxRecDepth 65536 in
theorem w_c1 : (Jvm.Cond.code ({ cls := "com/example/bulkwire/bulkwire/lua/Numbers", name := "digitValue", desc := "(CI)I" } : Jvm.MethodName) prog_105_method_26_code (3 : Nat) (Option.some Jvm.ClassFile.FieldType.int)).before args0 about1 = true := code_word (m := ⟨2, 1⟩) (meth := k2m1) (c := k2c1) (by decide +kernel) rfl rfl rfl (by decide +kernel)
set_option maxRecDepth 65536 in
theorem w_c2 : (Jvm.Cond.code ({ cls := "com/example/bulkwire/bulkwire/lua/NumbersDigitValuePinLaw", name := "reference", desc := "(CI)I" } : Jvm.MethodName) method_2_code (3 : Nat) (Option.some Jvm.ClassFile.FieldType.int)).before args0 about1 = true := code_word (m := ⟨1, 1⟩) (meth := k1m1) (c := k1c1) (by decide +kernel) rfl rfl rfl (by decide +kernel)
def codes1 : List Jvm.Cond := [Jvm.Cond.code x code maxLocals ret, Jvm.Cond.code ({ cls := "com/example/bulkwire/bulkwire/lua/Numbers", name := "digitValue", desc := "(CI)I" } : Jvm.MethodName) prog_105_method_26_code (3 : Nat) (Option.some Jvm.ClassFile.FieldType.int), Jvm.Cond.code ({ cls := "com/example/bulkwire/bulkwire/lua/NumbersDigitValuePinLaw", name := "reference", desc := "(CI)I" } : Jvm.MethodName) method_2_code (3 : Nat) (Option.some Jvm.ClassFile.FieldType.int)]
set_option maxRecDepth 65536 in
theorem codes_eq : words1.filter isCode = codes1 := rfl
theorem w_codes : ∀ c ∈ words1.filter isCode, c.before args0 about1 = true := by
  rw [codes_eq]
  intro c hc
  simp only [codes1, List.mem_cons, List.not_mem_nil, or_false] at hc
  rcases hc with rfl | rfl | rfl
  · exact w_c0
  · exact w_c1
  · exact w_c2
set_option maxRecDepth 65536 in
theorem w_t1 : words1.all (fun c => isCode c || c.before args0 about1) = true := by decide +kernel
theorem w_tables : (allAtoms (Jvm.Cond.code x code maxLocals ret :: tables_1)).before args0 about1 = true := by
  rw [allAtoms_all]
  show words1.all (fun c => c.before args0 about1) = true
  refine all_split ?_ w_codes
  rw [w_t1]
set_option maxRecDepth 65536 in
theorem w_case : (Jvm.Cond.and given_1 narrow_1).before args0 about1 = true := by decide +kernel
theorem w_applies : (headSpec (Jvm.Cond.code x code maxLocals ret :: tables_1) room_1).applies x e0.platform about1 = true :=
  (Spec.applies_iff w_frames).mpr ⟨w_running, w_runnable, w_alone, w_named, w_hears, w_ripe, w_room, w_tables⟩
theorem atStart : AtStart classFile x code maxLocals ret World_1 tables_1 room_1 Calls_1 rest_1 Pre_1 launch0 p0 e0 about1 theMethod args0 below0 :=
  ⟨lists_1, trivial, launch0.admits_env _ _ _, launch0.least_env, fairChoices_fair.cas, fairChoices_fair.clock, w_frames, w_args, w_heap, w_applies, trivial, trivial, w_case⟩
end start1
theorem witness_1 : WitnessClaimed_1 := ⟨start1.p0, start1.e0, start1.about1, start1.theMethod, start1.args0, start1.below0, start1.atStart⟩
end Jvm.Pilot.@@N@@
